/- A state that a run has come to, under other names. Segments of a function's code, loops, calls: laws about walked code. -/
import Derived.Test.YtlcljhlijmombaaSy7
namespace Go.Sy
structure M where
 i:Tr Ar
 a:Tr Nat
 b:List (Nat×Nat)
 v:List (Nat×Nat)
def lk:List (Nat×Nat)→Nat→Option Nat
 | [],_=>none
 | (x,y)::l,k=>bif Nat.beq k x then some y else lk l k
def arB:Ar→Ar→Bool
 | .var x,.var y=>Nat.beq x y
 | .kst n,.kst m=>decide (n=m)
 | _,_=>false
def sameV:Value→Value→Bool
 | .int k n,.int k' n'=>kindB k k'&&decide (n=n')
 | .bool b,.bool b'=>b==b'
 | .pointer none,.pointer none=>true
 | .pointer (some ⟨q,o,none⟩),.pointer (some ⟨q',o',none⟩)=>Nat.beq q q'&&Nat.beq o o'
 | .slice none 0 0,.slice none 0 0=>true
 | _,_=>false
def M.ar (m:M)(p q:Ar):Option M :=
 match p with
 | .kst c=>match q with
  | .kst d=>bif decide (c=d) then some m else none
  | _=>none
 | .var x=>match m.i.get x with
  | none=>some {m with i:=m.i.set x q}
  | some q'=>bif arB q' q then some m else none
def M.al (m:M)(A B:Nat):Option M :=
 match m.a.get A with
 | none=>some {m with a:=m.a.set A B}
 | some B'=>bif Nat.beq B' B then some m else none
def M.bl (nbE:Nat)(m:M)(b b':Nat):Option M :=
 bif Nat.blt b nbE then (bif Nat.beq b b' then some m else none) else
 match lk m.b b with
 | none=>some {m with b:=(b,b')::m.b}
 | some c=>bif Nat.beq c b' then some m else none
def M.vl (nvE:Nat)(m:M)(j j':Nat):Option M :=
 bif Nat.blt j nvE then (bif Nat.beq j j' then some m else none) else
 match lk m.v j with
 | none=>some {m with v:=(j,j')::m.v}
 | some c=>bif Nat.beq c j' then some m else none
def M.arO (m:M):Option Ar→Option Ar→Option M
 | none,none=>some m
 | some p,some q=>m.ar p q
 | _,_=>none
def M.sc (nbE nvE:Nat)(m:M)(x y:Sc):Option M :=
 match x with
 | .kst v=>match y with
  | .kst v'=>bif sameV v v' then some m else none
  | _=>none
 | .num k x=>match y.ar with
  | some (k',q)=>bif kindB k k' then m.ar (.var x) q else none
  | none=>none
 | .boo x=>match y with
  | .boo y=>m.ar (.var x) (.var y)
  | .kst (.bool t)=>m.ar (.var x) (.kst (bif t then 1 else 0))
  | _=>none
 | .opq j=>match y with
  | .opq j'=>m.vl nvE j j'
  | _=>none
 | .emp j=>match y with
  | .emp j'=>m.vl nvE j j'
  | _=>none
 | .str _=>none
 | .ptr b off=>match y with
  | .ptr b' off'=>(m.bl nbE b b').bind (·.ar off off')
  | _=>none
 | .sl b off len cap=>match y with
  | .sl b' off' len' cap'=>(m.bl nbE b b').bind fun m=>(m.ar off off').bind fun m=>(m.ar len len').bind fun m=>m.arO cap cap'
  | _=>none
def M.scs (nbE nvE:Nat):List Sc→List Sc→M→Option M
 | [],[],m=>some m
 | x::l,y::l',m=>(m.sc nbE nvE x y).bind (M.scs nbE nvE l l')
 | _,_,_=>none
def M.v1 (nbE nvE:Nat)(x y:V1)(m:M):Option M :=
 match x,y with
 | .sc x,.sc y=>m.sc nbE nvE x y
 | .agg l,.agg l'=>M.scs nbE nvE l l' m
 | _,_=>none
def M.v1s (nbE nvE:Nat):List V1→List V1→M→Option M
 | [],[],m=>some m
 | x::l,y::l',m=>(m.v1 nbE nvE x y).bind (M.v1s nbE nvE l l')
 | _,_,_=>none
def M.sv (nbE nvE:Nat)(x y:SV)(m:M):Option M :=
 match x,y with
 | .one x,.one y=>m.v1 nbE nvE x y
 | .tup l,.tup l'=>M.v1s nbE nvE l l' m
 | _,_=>none
def M.tr {α:Type}(f:α→α→M→Option M):Tr α→Tr α→M→Option M
 | .nil,_,m=>some m
 | .node v l r,t,m =>
  match t with
  | .nil=>none
  | .node v' l' r' =>
   (match v with
    | none=>some m
    | some x=>match v' with
     | some y=>f x y m
     | none=>none).bind fun m=>(M.tr f l l' m).bind fun m=>M.tr f r r' m
def M.bk (nbE nvE:Nat)(B B':Bk)(m:M):Option M :=
 bif (B.rw==B'.rw)&&Nat.beq B.n B'.n then
  match B.arr,B'.arr with
  | none,none=>M.tr (M.sv0 nbE nvE) B.cells B'.cells m
  | some (k,A,g),some (k',A',g')=>bif kindB k k'&&(g==g') then m.al A A' else none
  | _,_=>none
 else none
 where
 M.sv0 (nbE nvE:Nat) (x y:Sc) (m:M):Option M:=m.sc nbE nvE x y
def M.rho (nbE:Nat)(m:M)(b:Nat):Option Nat:=bif Nat.blt b nbE then some b else lk m.b b
def M.bks (nbE nvE:Nat)(t t':Tr Bk):Nat→Nat→M→Option M
 | 0,_,m=>some m
 | k+1,b,m =>
  match t.get b with
  | none=>M.bks nbE nvE t t' k (b+1) m
  | some B=>match m.rho nbE b with
   | some b'=>match t'.get b' with
    | some B'=>(M.bk nbE nvE B B' m).bind (M.bks nbE nvE t t' k (b+1))
    | none=>none
   | none=>none
def distinct:List Nat→Bool
 | []=>true
 | x::l=>l.all (fun y=> !(Nat.beq x y))&&distinct l
def memB (l:List Nat)(x:Nat):Bool:=l.any (Nat.beq x)
def Tr.keysLt {α:Type}:Tr α→Nat→Bool
 | .nil,_=>true
 | .node v l r,n=>(match v with | some _=>Nat.blt 0 n | none=>true)&&l.keysLt (n/2)&&r.keysLt ((n-1)/2)
def mtch (nbE nvE:Nat)(T0:Tr SV)(σ0:St)(T1:Tr SV)(σ1:St):Option M :=
 (M.tr (fun x y m=>M.sv nbE nvE x y m) T0 T1 ⟨.nil,.nil,[],[]⟩).bind fun m =>
 (M.bks nbE nvE σ0.bks σ1.bks σ0.nb 0 m).bind fun m =>
  bif distinct (m.b.map (·.2))&&m.b.all (fun p=>Nat.ble nbE p.1&&Nat.blt p.1 σ0.nb&&Nat.ble nbE p.2)&&m.v.all (fun p=>Nat.ble nvE p.1&&Nat.blt p.1 σ0.nv)&&σ0.bks.keysLt σ0.nb then some m else none
structure Con (nbE nvE:Nat) (N:Num) (E:Env) (N':Num) (E':Env) (m:M):Prop where
 i:∀x q,m.i.get x=some q→N'.i x=q.ev N
 a:∀A B,m.a.get A=some B→N'.a A=N.a B
 b:∀b b',lk m.b b=some b'→E'.blk b=E.blk b'
 v:∀j j',lk m.v j=some j'→E'.val j=E.val j'
 b0:∀b,b<nbE→E'.blk b=E.blk b
 v0:∀j,j<nvE→E'.val j=E.val j
structure M.Le (m m':M):Prop where
 i:∀x q,m.i.get x=some q→m'.i.get x=some q
 a:∀A B,m.a.get A=some B→m'.a.get A=some B
 b:∀b b',lk m.b b=some b'→lk m'.b b=some b'
 v:∀j j',lk m.v j=some j'→lk m'.v j=some j'
theorem M.Le.refl (m:M):m.Le m:=⟨fun _ _ h=>h,fun _ _ h=>h,fun _ _ h=>h,fun _ _ h=>h⟩
theorem M.Le.trans {a b c:M}(h:a.Le b)(k:b.Le c):a.Le c:=⟨fun x q e=>k.i x q (h.i x q e),fun x q e=>k.a x q (h.a x q e),fun x q e=>k.b x q (h.b x q e),fun x q e=>k.v x q (h.v x q e)⟩
section
variable {nbE nvE:Nat} {N N':Num} {E E':Env} {m m':M}
theorem Con.of_le (h:m.Le m')(k:Con nbE nvE N E N' E' m'):Con nbE nvE N E N' E' m :=
 ⟨fun x q e=>k.i x q (h.i x q e),fun x q e=>k.a x q (h.a x q e),fun x q e=>k.b x q (h.b x q e),fun x q e=>k.v x q (h.v x q e),k.b0,k.v0⟩
theorem arB_eq {p q:Ar}(h:arB p q=true):p=q:=by
 cases p <;> cases q <;> simp only[arB,Bool.false_eq_true] at h
 ·rw [Nat.eq_of_beq_eq_true h]
 ·rw [of_decide_eq_true h]
theorem sameV_eq {v v':Value}(h:sameV v v'=true):v=v':=by
 unfold sameV at h
 split at h
 ·simp only[Bool.and_eq_true] at h;rw[kindB_eq h.1,of_decide_eq_true h.2]
 ·rw [eq_of_beq h]
 ·rfl
 ·simp only[Bool.and_eq_true] at h;rw[Nat.eq_of_beq_eq_true h.1,Nat.eq_of_beq_eq_true h.2]
 ·rfl
 ·cases h
theorem ar_den' {x:Sc}{k:IntKind}{a:Ar}(h:x.ar=some (k,a)):x.den N E=some (.int k (a.ev N)):=by
 cases x with
 | kst v =>
  cases v <;> simp only[Sc.ar,reduceCtorEq] at h
  simp only[Option.some.injEq,Prod.mk.injEq] at h
  obtain ⟨rfl,rfl⟩:=h
  rfl
 | num k' x =>
  simp only[Sc.ar,Option.some.injEq,Prod.mk.injEq] at h
  obtain ⟨rfl,rfl⟩:=h
  rfl
 | boo x=>cases h
 | str A=>cases h
 | opq j=>cases h
 | ptr b off=>cases h
 | sl b off len cap=>cases h
 | emp j=>cases h
theorem M.ar_spec {p q:Ar}(h:m.ar p q=some m'):m.Le m'∧∀ {N':Num} {E':Env},Con nbE nvE N E N' E' m'→p.ev N'=q.ev N:=by
 unfold M.ar at h
 split at h
 ·rename_i c
  split at h
  ·rename_i d
   cases hd:decide (c=d) with
   | false=>rw[hd] at h;cases h
   | true =>
    rw[hd] at h
    simp only[cond_true,Option.some.injEq] at h
    subst h
    rw[of_decide_eq_true hd]
    exact ⟨M.Le.refl _,fun _=>rfl⟩
  ·cases h
 ·rename_i x
  split at h
  ·rename_i hx
   simp only[Option.some.injEq] at h
   subst h
   refine ⟨⟨fun y q' e=> ?_,fun _ _ h=>h,fun _ _ h=>h,fun _ _ h=>h⟩,fun k=>k.i x q (by simp[Tr.get_set])⟩
   simp only[Tr.get_set]
   by_cases hy:y=x
   ·subst hy;rw[hx] at e;cases e
   ·rw [if_neg hy];exact e
  ·rename_i q' hx
   cases hb:arB q' q with
   | false=>rw[hb] at h;cases h
   | true =>
    rw[hb] at h
    simp only[cond_true,Option.some.injEq] at h
    subst h
    rw[←arB_eq hb]
    exact ⟨M.Le.refl _,fun k=>k.i x q' hx⟩
theorem M.al_spec {A B:Nat}(h:m.al A B=some m'):m.Le m'∧∀ {N':Num} {E':Env},Con nbE nvE N E N' E' m'→N'.a A=N.a B:=by
 unfold M.al at h
 split at h
 ·rename_i hx
  simp only[Option.some.injEq] at h
  subst h
  refine ⟨⟨fun _ _ h=>h,fun y q' e=> ?_,fun _ _ h=>h,fun _ _ h=>h⟩,fun k=>k.a A B (by simp[Tr.get_set])⟩
  simp only[Tr.get_set]
  by_cases hy:y=A
  ·subst hy;rw[hx] at e;cases e
  ·rw [if_neg hy];exact e
 ·rename_i q' hx
  cases hb:Nat.beq q' B with
  | false=>rw[hb] at h;cases h
  | true =>
   rw[hb] at h
   simp only[cond_true,Option.some.injEq] at h
   subst h
   rw[←Nat.eq_of_beq_eq_true hb]
   exact ⟨M.Le.refl _,fun k=>k.a A q' hx⟩
theorem lk_cons {l:List (Nat×Nat)}{x y k z:Nat}(hx:lk l x=none)(h:lk l k=some z):lk ((x,y)::l) k=some z:=by
 simp only[lk]
 have:k≠x:=fun e=>by subst e;rw[hx] at h;cases h
 rw[nbeq_ff this];exact h
theorem M.bl_spec {b b':Nat}(h:m.bl nbE b b'=some m'):m.Le m'∧∀ {N':Num} {E':Env},Con nbE nvE N E N' E' m'→E'.blk b=E.blk b':=by
 unfold M.bl at h
 cases hlt:Nat.blt b nbE with
 | true =>
  rw[hlt] at h
  simp only[cond_true] at h
  cases hb:Nat.beq b b' with
  | false=>rw[hb] at h;cases h
  | true =>
   rw[hb] at h
   simp only[cond_true,Option.some.injEq] at h
   subst h
   rw[←Nat.eq_of_beq_eq_true hb]
   exact ⟨M.Le.refl _,fun k=>k.b0 b (Nat.blt_eq.mp hlt)⟩
 | false =>
  rw[hlt] at h
  simp only[cond_false] at h
  split at h
  ·rename_i hx
   simp only[Option.some.injEq] at h
   subst h
   exact ⟨⟨fun _ _ h=>h,fun _ _ h=>h,fun k z e=>lk_cons hx e,fun _ _ h=>h⟩,fun k=>k.b b b' (by simp[lk])⟩
  ·rename_i c hx
   cases hb:Nat.beq c b' with
   | false=>rw[hb] at h;cases h
   | true =>
    rw[hb] at h
    simp only[cond_true,Option.some.injEq] at h
    subst h
    rw[←Nat.eq_of_beq_eq_true hb]
    exact ⟨M.Le.refl _,fun k=>k.b b c hx⟩
theorem M.vl_spec {b b':Nat}(h:m.vl nvE b b'=some m'):m.Le m'∧∀ {N':Num} {E':Env},Con nbE nvE N E N' E' m'→E'.val b=E.val b':=by
 unfold M.vl at h
 cases hlt:Nat.blt b nvE with
 | true =>
  rw[hlt] at h
  simp only[cond_true] at h
  cases hb:Nat.beq b b' with
  | false=>rw[hb] at h;cases h
  | true =>
   rw[hb] at h
   simp only[cond_true,Option.some.injEq] at h
   subst h
   rw[←Nat.eq_of_beq_eq_true hb]
   exact ⟨M.Le.refl _,fun k=>k.v0 b (Nat.blt_eq.mp hlt)⟩
 | false =>
  rw[hlt] at h
  simp only[cond_false] at h
  split at h
  ·rename_i hx
   simp only[Option.some.injEq] at h
   subst h
   exact ⟨⟨fun _ _ h=>h,fun _ _ h=>h,fun _ _ h=>h,fun k z e=>lk_cons hx e⟩,fun k=>k.v b b' (by simp[lk])⟩
  ·rename_i c hx
   cases hb:Nat.beq c b' with
   | false=>rw[hb] at h;cases h
   | true =>
    rw[hb] at h
    simp only[cond_true,Option.some.injEq] at h
    subst h
    rw[←Nat.eq_of_beq_eq_true hb]
    exact ⟨M.Le.refl _,fun k=>k.v b c hx⟩
theorem M.sc_spec {x y:Sc}(h:m.sc nbE nvE x y=some m'):m.Le m'∧∀ {N':Num} {E':Env},Con nbE nvE N E N' E' m'→x.den N' E'=y.den N E:=by
 cases x with
 | kst v =>
  simp only[M.sc] at h
  split at h
  ·rename_i v'
   cases hb:sameV v v' with
   | false=>rw[hb] at h;cases h
   | true =>
    rw[hb] at h
    simp only[cond_true,Option.some.injEq] at h
    subst h
    rw[sameV_eq hb]
    exact ⟨M.Le.refl _,fun _=>rfl⟩
  ·cases h
 | num k x =>
  simp only[M.sc] at h
  split at h
  ·rename_i k' q hq
   cases hb:kindB k k' with
   | false=>rw[hb] at h;cases h
   | true =>
    rw[hb] at h
    have:=kindB_eq hb;subst this
    simp only[cond_true] at h
    obtain ⟨h1,h2⟩:=M.ar_spec (nbE:=nbE) (nvE:=nvE) (N:=N) (E:=E) h
    exact ⟨h1,fun k0=>by rw[ar_den' hq,←h2 k0];rfl⟩
  ·cases h
 | boo x =>
  simp only[M.sc] at h
  split at h
  ·rename_i y
   obtain ⟨h1,h2⟩:=M.ar_spec (nbE:=nbE) (nvE:=nvE) (N:=N) (E:=E) h
   refine ⟨h1,fun k0=> ?_⟩
   have:=h2 k0
   simp only[Ar.ev] at this
   simp only[Sc.den,this]
  ·rename_i t
   obtain ⟨h1,h2⟩:=M.ar_spec (nbE:=nbE) (nvE:=nvE) (N:=N) (E:=E) h
   refine ⟨h1,fun k0=> ?_⟩
   have:=h2 k0
   simp only[Ar.ev] at this
   simp only[Sc.den,this]
   cases t <;> rfl
  ·cases h
 | opq j =>
  simp only[M.sc] at h
  split at h
  ·obtain ⟨h1,h2⟩:=M.vl_spec (nbE:=nbE) (nvE:=nvE) (N:=N) (E:=E) h
   exact ⟨h1,fun k0=>by simp only[Sc.den,h2 k0]⟩
  ·cases h
 | emp j =>
  simp only[M.sc] at h
  split at h
  ·obtain ⟨h1,h2⟩:=M.vl_spec (nbE:=nbE) (nvE:=nvE) (N:=N) (E:=E) h
   exact ⟨h1,fun k0=>by simp only[Sc.den,h2 k0]⟩
  ·cases h
 | str A=>cases h
 | ptr b off =>
  simp only[M.sc] at h
  split at h
  ·simp only[Option.bind_eq_some_iff] at h
   obtain ⟨m1,h1,h2⟩:=h
   obtain ⟨l1,s1⟩:=M.bl_spec (nbE:=nbE) (nvE:=nvE) (N:=N) (E:=E) h1
   obtain ⟨l2,s2⟩:=M.ar_spec (nbE:=nbE) (nvE:=nvE) (N:=N) (E:=E) h2
   exact ⟨l1.trans l2,fun k0=>by simp only[Sc.den,s1 (k0.of_le l2),s2 k0]⟩
  ·cases h
 | sl b off len cap =>
  simp only[M.sc] at h
  split at h
  ·rename_i b' off' len' cap'
   simp only[Option.bind_eq_some_iff] at h
   obtain ⟨m1,h1,m2,h2,m3,h3,h4⟩:=h
   obtain ⟨l1,s1⟩:=M.bl_spec (nbE:=nbE) (nvE:=nvE) (N:=N) (E:=E) h1
   obtain ⟨l2,s2⟩:=M.ar_spec (nbE:=nbE) (nvE:=nvE) (N:=N) (E:=E) h2
   obtain ⟨l3,s3⟩:=M.ar_spec (nbE:=nbE) (nvE:=nvE) (N:=N) (E:=E) h3
   unfold M.arO at h4
   split at h4
   ·simp only[Option.some.injEq] at h4
    subst h4
    exact ⟨(l1.trans l2).trans l3,fun k0=>by simp only[Sc.den,s1 (k0.of_le (l2.trans l3)),s2 (k0.of_le l3),s3 k0]⟩
   ·obtain ⟨l4,s4⟩:=M.ar_spec (nbE:=nbE) (nvE:=nvE) (N:=N) (E:=E) h4
    exact ⟨((l1.trans l2).trans l3).trans l4,fun k0=>by simp only[Sc.den,s1 (k0.of_le ((l2.trans l3).trans l4)),s2 (k0.of_le (l3.trans l4)),s3 (k0.of_le l4),s4 k0]⟩
   ·cases h4
  ·cases h
theorem M.scs_spec:∀ {l l':List Sc} {m m':M},M.scs nbE nvE l l' m=some m'→m.Le m'∧∀ {N':Num} {E':Env},Con nbE nvE N E N' E' m'→denL N' E' l=denL N E l'
 | [],[],m,m',h=>by simp only[M.scs,Option.some.injEq] at h;subst h;exact ⟨M.Le.refl _,fun _=>rfl⟩
 | x::l,y::l',m,m',h=>by
  simp only[M.scs,Option.bind_eq_some_iff] at h
  obtain ⟨m1,h1,h2⟩:=h
  obtain ⟨l1,s1⟩:=M.sc_spec (N:=N) (E:=E) h1
  obtain ⟨l2,s2⟩:=M.scs_spec h2
  exact ⟨l1.trans l2,fun k0=>by simp only[denL,s1 (k0.of_le l2),s2 k0]⟩
 | [],_::_,m,m',h=>by cases h
 | _::_,[],m,m',h=>by cases h
theorem M.v1_spec {x y:V1}(h:M.v1 nbE nvE x y m=some m'):m.Le m'∧∀ {N':Num} {E':Env},Con nbE nvE N E N' E' m'→x.den N' E'=y.den N E:=by
 cases x <;> cases y <;> simp only[M.v1,reduceCtorEq] at h
 ·exact M.sc_spec h
 ·obtain ⟨l1,s1⟩:=M.scs_spec (N:=N) (E:=E) h
  exact ⟨l1,fun k0=>by simp only[V1.den,s1 k0]⟩
theorem M.v1s_spec:∀ {l l':List V1} {m m':M},M.v1s nbE nvE l l' m=some m'→m.Le m'∧∀ {N':Num} {E':Env},Con nbE nvE N E N' E' m'→denL1 N' E' l=denL1 N E l'
 | [],[],m,m',h=>by simp only[M.v1s,Option.some.injEq] at h;subst h;exact ⟨M.Le.refl _,fun _=>rfl⟩
 | x::l,y::l',m,m',h=>by
  simp only[M.v1s,Option.bind_eq_some_iff] at h
  obtain ⟨m1,h1,h2⟩:=h
  obtain ⟨l1,s1⟩:=M.v1_spec (N:=N) (E:=E) h1
  obtain ⟨l2,s2⟩:=M.v1s_spec h2
  exact ⟨l1.trans l2,fun k0=>by simp only[denL1,s1 (k0.of_le l2),s2 k0]⟩
 | [],_::_,m,m',h=>by cases h
 | _::_,[],m,m',h=>by cases h
theorem M.sv_spec {x y:SV}(h:M.sv nbE nvE x y m=some m'):m.Le m'∧∀ {N':Num} {E':Env},Con nbE nvE N E N' E' m'→x.den N' E'=y.den N E:=by
 cases x <;> cases y <;> simp only[M.sv,reduceCtorEq] at h
 ·exact M.v1_spec h
 ·obtain ⟨l1,s1⟩:=M.v1s_spec (N:=N) (E:=E) h
  exact ⟨l1,fun k0=>by simp only[SV.den,s1 k0]⟩
theorem M.tr_spec {α:Type}{f:α→α→M→Option M}{R:α→α→M→Prop}(hf:∀x y m m',f x y m=some m'→m.Le m'∧R x y m')(hR:∀x y m m',M.Le m m'→R x y m→R x y m') :
  ∀ {t t':Tr α} {m m':M},M.tr f t t' m=some m'→m.Le m'∧∀k x,t.get k=some x→∃y,t'.get k=some y∧R x y m'
 | .nil,t',m,m',h=>by simp only[M.tr,Option.some.injEq] at h;subst h;exact ⟨M.Le.refl _,fun k x e=>by cases e⟩
 | .node v l r,.nil,m,m',h=>by simp only[M.tr,reduceCtorEq] at h
 | .node v l r,.node v' l' r',m,m',h=>by
  simp only[M.tr,Option.bind_eq_some_iff] at h
  obtain ⟨m1,h1,m2,h2,h3⟩:=h
  obtain ⟨l2,s2⟩:=M.tr_spec hf hR h2
  obtain ⟨l3,s3⟩:=M.tr_spec hf hR h3
  have e1:m.Le m1∧∀x,v=some x→∃y,v'=some y∧R x y m1:=by
   cases v with
   | none=>simp only[Option.some.injEq] at h1;subst h1;exact ⟨M.Le.refl _,fun x e=>by cases e⟩
   | some x =>
    simp only at h1
    cases v' with
    | none=>cases h1
    | some y =>
     obtain ⟨l1,s1⟩:=hf _ _ _ _ h1
     exact ⟨l1,fun x' e=>by simp only[Option.some.injEq] at e;subst e;exact ⟨y,rfl,s1⟩⟩
  obtain ⟨l1,s1⟩:=e1
  refine ⟨(l1.trans l2).trans l3,fun k x e=> ?_⟩
  simp only[Tr.get] at e ⊢
  cases h0:Nat.beq k 0 with
  | true =>
   rw[h0] at e
   simp only[cond_true] at e ⊢
   obtain ⟨y,g1,g2⟩:=s1 x e
   exact ⟨y,g1,hR _ _ _ _ (l2.trans l3) g2⟩
  | false =>
   rw[h0] at e
   simp only[cond_false] at e ⊢
   cases h1':Nat.beq (k%2) 1 with
   | true =>
    rw[h1'] at e
    simp only[cond_true] at e ⊢
    obtain ⟨y,g1,g2⟩:=s2 _ x e
    exact ⟨y,g1,hR _ _ _ _ l3 g2⟩
   | false =>
    rw[h1'] at e
    exact s3 _ x e
def BkR (nbE nvE:Nat)(N:Num)(E:Env)(B B':Bk)(m:M):Prop :=
 B.rw=B'.rw∧∀ {N':Num} {E':Env},Con nbE nvE N E N' E' m→(∀ c,B.wid N' c=B'.wid N c)∧∀s c arr,B'.cont N E s c arr→B.cont N' E' s c arr
theorem M.bk_spec {B B':Bk}(h:M.bk nbE nvE B B' m=some m'):m.Le m'∧BkR nbE nvE N E B B' m':=by
 unfold M.bk at h
 cases hc:((B.rw==B'.rw)&&Nat.beq B.n B'.n) with
 | false=>rw[hc] at h;cases h
 | true =>
  rw[hc] at h
  simp only[cond_true] at h
  simp only[Bool.and_eq_true] at hc
  have hrw:B.rw=B'.rw:=eq_of_beq hc.1
  have hn:B.n=B'.n:=Nat.eq_of_beq_eq_true hc.2
  split at h
  ·rename_i g g'
   obtain ⟨l1,s1⟩:=M.tr_spec (R:=fun (x y:Sc) (m:M)=>∀(N':Num) (E':Env),Con nbE nvE N E N' E' m→x.den N' E'=y.den N E) (fun x y m m' h=>⟨(M.sc_spec (N:=N) (E:=E) h).1,fun N' E' k=>(M.sc_spec h).2 k⟩) (fun x y m m' hle hr N' E' k0=>hr N' E' (k0.of_le hle)) h
   refine ⟨l1,hrw,fun k0=>⟨fun c=>by simp only[Bk.wid,g,g',hn],fun s c arr hcont=> ?_⟩⟩
   simp only[Bk.cont,g,g'] at hcont ⊢
   intro j sc e
   obtain ⟨y,e1,e2⟩:=s1 j sc e
   obtain ⟨e3,u,e4,e5⟩:=hcont j y e1
   exact ⟨by omega,u,e4,by rw[e2 _ _ k0];exact e5⟩
  ·rename_i k A gg k' A' gg' g g'
   cases hk:(kindB k k'&&(gg==gg')) with
   | false=>rw[hk] at h;cases h
   | true =>
    rw[hk] at h
    simp only[Bool.and_eq_true] at hk
    have e1:=kindB_eq hk.1
    have e2:=eq_of_beq hk.2
    subst e1;subst e2
    obtain ⟨l1,s1⟩:=M.al_spec (nbE:=nbE) (nvE:=nvE) (N:=N) (E:=E) h
    exact ⟨l1,hrw,fun k0=>⟨fun c=>by simp only[Bk.wid,g,g',s1 k0],fun s c arr hcont=>by simp only[Bk.cont,g,g',s1 k0] at hcont ⊢;exact hcont⟩⟩
  ·cases h
theorem BkR.mono {B B':Bk}(h:m.Le m')(k:BkR nbE nvE N E B B' m):BkR nbE nvE N E B B' m':=⟨k.1,fun k0=>k.2 (k0.of_le h)⟩
theorem rho_mono {b b':Nat}(h:m.Le m')(k:m.rho nbE b=some b'):m'.rho nbE b=some b':=by
 unfold M.rho at *
 cases hb:Nat.blt b nbE with
 | true=>rw[hb] at k;exact k
 | false=>rw[hb] at k;exact h.b _ _ k
theorem M.bks_spec {t t':Tr Bk}:∀ {k b:Nat} {m m':M},M.bks nbE nvE t t' k b m=some m'→m.Le m' ∧
  ∀i B,b≤i→i<b+k→t.get i=some B→∃i' B',m'.rho nbE i=some i'∧t'.get i'=some B'∧BkR nbE nvE N E B B' m'
 | 0,b,m,m',h=>by simp only[M.bks,Option.some.injEq] at h;subst h;exact ⟨M.Le.refl _,fun i B h1 h2=>by omega⟩
 | k+1,b,m,m',h=>by
  simp only[M.bks] at h
  split at h
  ·rename_i hb
   obtain ⟨l1,s1⟩:=M.bks_spec h
   refine ⟨l1,fun i B h1 h2 e=> ?_⟩
   by_cases hi:i=b
   ·subst hi;rw[hb] at e;cases e
   ·exact s1 i B (by omega) (by omega) e
  ·rename_i B0 hb
   split at h
   ·rename_i b' hr
    split at h
    ·rename_i B1 hB1
     simp only[Option.bind_eq_some_iff] at h
     obtain ⟨m1,h1,h2⟩:=h
     obtain ⟨l0,s0⟩:=M.bk_spec (N:=N) (E:=E) h1
     obtain ⟨l1,s1⟩:=M.bks_spec h2
     refine ⟨l0.trans l1,fun i B g1 g2 e=> ?_⟩
     by_cases hi:i=b
     ·subst hi
      rw[hb] at e
      simp only[Option.some.injEq] at e
      subst e
      exact ⟨b',B1,rho_mono (l0.trans l1) hr,hB1,s0.mono l1⟩
     ·exact s1 i B (by omega) (by omega) e
    ·cases h
   ·cases h
end
theorem lk_mem:∀ {l:List (Nat×Nat)} {x y:Nat},lk l x=some y→(x,y)∈l
 | [],x,y,h=>by cases h
 | (a,b)::l,x,y,h=>by
  simp only[lk] at h
  cases hb:Nat.beq x a with
  | true =>
   rw[hb] at h
   simp only[cond_true,Option.some.injEq] at h
   rw[←h,Nat.eq_of_beq_eq_true hb]
   exact List.mem_cons_self
  | false=>rw[hb] at h;exact List.mem_cons_of_mem _ (lk_mem h)
theorem distinct_lk:∀ {l:List (Nat×Nat)} {x x' y:Nat},distinct (l.map (·.2))=true→lk l x=some y→lk l x'=some y→x=x'
 | [],x,x',y,_,h,_=>by cases h
 | (a,b)::l,x,x',y,hd,h,h'=>by
  simp only[List.map_cons,distinct,Bool.and_eq_true,List.all_eq_true,List.mem_map,Bool.not_eq_true'] at hd
  obtain ⟨h1,h2⟩:=hd
  simp only[lk] at h h'
  cases hb:Nat.beq x a with
  | true =>
   rw[hb] at h
   simp only[cond_true,Option.some.injEq] at h
   cases hb':Nat.beq x' a with
   | true=>rw[Nat.eq_of_beq_eq_true hb,Nat.eq_of_beq_eq_true hb']
   | false =>
    rw[hb'] at h'
    have:=h1 y ⟨_,lk_mem h',rfl⟩
    rw[h,nbeq_tt rfl] at this
    cases this
  | false =>
   rw[hb] at h
   cases hb':Nat.beq x' a with
   | true =>
    rw[hb'] at h'
    simp only[cond_true,Option.some.injEq] at h'
    have:=h1 y ⟨_,lk_mem h,rfl⟩
    rw[h',nbeq_tt rfl] at this
    cases this
   | false=>rw[hb'] at h';exact distinct_lk h2 h h'
def M.num (m:M)(N:Num):Num :=
 {i:=fun x=>match m.i.get x with | some q=>q.ev N | none=>0,a:=fun A=>match m.a.get A with | some B=>N.a B | none=>[],f:=N.f}
def M.env (nbE nvE:Nat)(m:M)(E:Env):Env :=
 {blk:=fun b=>match m.rho nbE b with | some b'=>E.blk b' | none=>none
  val:=fun j=>bif Nat.blt j nvE then E.val j else match lk m.v j with | some j'=>E.val j' | none=>none}
theorem M.con (nbE nvE:Nat)(m:M)(N:Num)(E:Env)(hb:∀b b',lk m.b b=some b'→nbE≤b)(hv:∀j j',lk m.v j=some j'→nvE≤j):Con nbE nvE N E (m.num N) (m.env nbE nvE E) m:=by
 refine ⟨fun x q h=>by simp only[M.num,h],fun A B h=>by simp only[M.num,h],fun b b' h=> ?_,fun j j' h=> ?_,fun b h=> ?_,fun j h=> ?_⟩
 ·have:=hb b b' h
  have h0:Nat.blt b nbE=false:=by cases e:Nat.blt b nbE with | false=>rfl | true=>have:=Nat.blt_eq.mp e;omega
  simp only[M.env,M.rho,h0,cond_false,h]
 ·have:=hv j j' h
  have h0:Nat.blt j nvE=false:=by cases e:Nat.blt j nvE with | false=>rfl | true=>have:=Nat.blt_eq.mp e;omega
  simp only[M.env,h0,cond_false,h]
 ·have h0:Nat.blt b nbE=true:=Nat.blt_eq.mpr h
  simp only[M.env,M.rho,h0,cond_true]
 ·have h0:Nat.blt j nvE=true:=Nat.blt_eq.mpr h
  simp only[M.env,h0,cond_true]
theorem Tr.keysLt_get {α:Type}:∀ {t:Tr α} {n k:Nat} {x:α},t.keysLt n=true→t.get k=some x→k<n
 | .nil,n,k,x,_,h=>by cases h
 | .node v l r,n,k,x,hb,h=>by
  simp only[Tr.keysLt,Bool.and_eq_true] at hb
  obtain ⟨⟨h1,h2⟩,h3⟩:=hb
  simp only[Tr.get] at h
  cases h0:Nat.beq k 0 with
  | true =>
   rw[h0] at h
   simp only[cond_true] at h
   subst h
   rw[Nat.eq_of_beq_eq_true h0]
   exact Nat.blt_eq.mp h1
  | false =>
   rw[h0] at h
   simp only[cond_false] at h
   have hk:k≠0:=fun e=>by rw[nbeq_tt e] at h0;cases h0
   cases h1':Nat.beq (k%2) 1 with
   | true =>
    rw[h1'] at h
    have:=Tr.keysLt_get h2 h
    have:=Nat.eq_of_beq_eq_true h1'
    omega
   | false =>
    rw[h1'] at h
    have:=Tr.keysLt_get h3 h
    have:k%2≠1:=fun e=>by rw[nbeq_tt e] at h1';cases h1'
    omega
theorem mtch_sound {T0 T1:Tr SV}{σe σ0 σ1:St}{m:M}{Ne N:Num}{Ee E:Env}{we w:World}(h:mtch σe.nb σe.nv T0 σ0 T1 σ1=some m)(hIe:Inv Ee σe)(hp:Post Ne Ee σe we N E σ1 w)
  (hnb:σe.nb≤σ0.nb) (hnv:σe.nv≤σ0.nv) (hgl:σ0.gl=σe.gl) :
  Con σe.nb σe.nv N E (m.num N) (m.env σe.nb σe.nv E) m∧(∀ k x,T0.get k=some x→∃y,T1.get k=some y∧x.den (m.num N) (m.env σe.nb σe.nv E)=y.den N E) ∧
  Post Ne Ee σe we (m.num N) (m.env σe.nb σe.nv E) σ0 w:=by
 unfold mtch at h
 simp only[Option.bind_eq_some_iff] at h
 obtain ⟨m1,h1,m2,h2,h3⟩:=h
 cases hc:(distinct (m2.b.map (·.2))&&m2.b.all (fun p=>Nat.ble σe.nb p.1&&Nat.blt p.1 σ0.nb&&Nat.ble σe.nb p.2)&&m2.v.all (fun p=>Nat.ble σe.nv p.1&&Nat.blt p.1 σ0.nv)&&σ0.bks.keysLt σ0.nb) with
 | false=>rw[hc] at h3;cases h3
 | true =>
  rw[hc] at h3
  simp only[cond_true,Option.some.injEq] at h3
  subst h3
  simp only[Bool.and_eq_true,List.all_eq_true] at hc
  obtain ⟨⟨⟨hd,hb⟩,hv⟩,hbel⟩:=hc
  have hb':∀b b',lk m2.b b=some b'→σe.nb≤b∧b<σ0.nb∧σe.nb≤b':=fun b b' e=>by
   have:=hb _ (lk_mem e)
   exact ⟨Nat.le_of_ble_eq_true this.1.1,Nat.blt_eq.mp this.1.2,Nat.le_of_ble_eq_true this.2⟩
  have hv':∀j j',lk m2.v j=some j'→σe.nv≤j∧j<σ0.nv:=fun j j' e=>by
   have:=hv _ (lk_mem e)
   exact ⟨Nat.le_of_ble_eq_true this.1,Nat.blt_eq.mp this.2⟩
  have hcon:Con σe.nb σe.nv N E (m2.num N) (m2.env σe.nb σe.nv E) m2:=M.con _ _ _ _ _ (fun b b' e=>(hb' b b' e).1) (fun j j' e=>(hv' j j' e).1)
  obtain ⟨l1,s1⟩:=M.tr_spec (R:=fun (x y:SV) (m:M)=>∀(N':Num) (E':Env),Con σe.nb σe.nv N E N' E' m→x.den N' E'=y.den N E) (fun x y m m' h=>⟨(M.sv_spec (N:=N) (E:=E) h).1,fun N' E' k=>(M.sv_spec h).2 k⟩) (fun x y m m' hle hr N' E' k0=>hr N' E' (k0.of_le hle)) h1
  obtain ⟨l2,s2⟩:=M.bks_spec (N:=N) (E:=E) h2
  have blk:∀b b',m2.rho σe.nb b=some b'→(m2.env σe.nb σe.nv E).blk b=E.blk b':=fun b b' e=>by simp only[M.env,e]
  have at':∀i B,σ0.bks.get i=some B→∃i' B',m2.rho σe.nb i=some i'∧σ1.bks.get i'=some B'∧BkR σe.nb σe.nv N E B B' m2:=fun i B e=>s2 i B (Nat.zero_le _) (by have:=Tr.keysLt_get hbel e;omega) e
  have inj:∀i j k,m2.rho σe.nb i=some k→m2.rho σe.nb j=some k→i=j:=fun i j k e1 e2=>by
   unfold M.rho at e1 e2
   cases c1:Nat.blt i σe.nb <;> cases c2:Nat.blt j σe.nb <;> rw[c1] at e1 <;> rw[c2] at e2
   ·exact distinct_lk hd e1 e2
   ·simp only[cond_true,Option.some.injEq] at e2
    have:=(hb' _ _ e1).2.2
    have:=Nat.blt_eq.mp c2
    omega
   ·simp only[cond_true,Option.some.injEq] at e1
    have:=(hb' _ _ e2).2.2
    have:=Nat.blt_eq.mp c1
    omega
   ·simp only[cond_true,Option.some.injEq] at e1 e2
    omega
  have hle:Ee.le (m2.env σe.nb σe.nv E):=⟨fun b q e=>by
    have:b<σe.nb:=by
     rcases Nat.lt_or_ge b σe.nb with h | h
     ·exact h
     ·rw [hIe.freshB b h] at e;cases e
    rw[hcon.b0 b this];exact hp.le.blk b q e,
   fun j v e=>by
    have:j<σe.nv:=by
     rcases Nat.lt_or_ge j σe.nv with h | h
     ·exact h
     ·rw [hIe.freshV j h] at e;cases e
    rw[hcon.v0 j this];exact hp.le.val j v e⟩
  refine ⟨hcon,fun k x e=> ?_,⟨fun b hb0=> ?_,fun j hj=> ?_,fun t sv e=> ?_⟩,hle,⟨fun i B e=> ?_,fun i i' B B' q s s' c c' e1 e2 e3 e4 e5 e6=> ?_⟩,hp.kept,fun i B' q s c e1 e2 e3 e4=> ?_⟩
  ·obtain ⟨y,g1,g2⟩:=s1 k x e
   exact ⟨y,g1,g2 _ _ (hcon.of_le l2)⟩
  ·have h0:Nat.blt b σe.nb=false:=by cases e:Nat.blt b σe.nb with | false=>rfl | true=>have:=Nat.blt_eq.mp e;omega
   simp only[M.env,M.rho,h0,cond_false]
   split
   ·rename_i b' e
    have:=(hb' _ _ e).2.1
    omega
   ·rfl
  ·have h0:Nat.blt j σe.nv=false:=by cases e:Nat.blt j σe.nv with | false=>rfl | true=>have:=Nat.blt_eq.mp e;omega
   simp only[M.env,h0,cond_false]
   split
   ·rename_i j' e
    have:=(hv' _ _ e).2
    omega
   ·rfl
  ·rw [hgl] at e
   obtain ⟨g1,b,c,g2,g3⟩:=hIe.glob t sv e
   exact ⟨g1,b,c,g2,hle.blk _ _ g3⟩
  ·obtain ⟨i',B',g1,g2,g3,g4⟩:=at' i B e
   obtain ⟨q,s,c,arr,el,fz,k1,k2,k3,k4,k5⟩:=hp.bw.at' i' B' g2
   obtain ⟨g5,g6⟩:=g4 hcon
   exact ⟨q,s,c,arr,el,fz,by rw[blk i i' g1];exact k1,k2,by rw[g3];exact k3,by rw[g5];exact k4,g6 _ _ _ k5⟩
  ·obtain ⟨j,B1,g1,g2,g3,g4⟩:=at' i B e1
   obtain ⟨j',B2,k1,k2,k3,k4⟩:=at' i' B' e2
   rw[(g4 hcon).1,(k4 hcon).1]
   refine hp.bw.apart j j' B1 B2 q s s' c c' g2 k2 (fun e=>e3 ?_) (by rw[←blk i j g1];exact e4) (by rw[←blk i' j' k1];exact e5) (by rw[←g3,←k3];exact e6)
   subst e
   exact inj _ _ _ g1 k1
  ·obtain ⟨i',B1,g1,g2,g3,g4⟩:=at' i B' e1
   obtain ⟨i0,B0,s0,c0,k1,k2,k3,k4,k5⟩:=hp.win i' B1 q s c g2 (by rw[←g3];exact e2) (by rw[←blk i i' g1];exact e3) e4
   exact ⟨i0,B0,s0,c0,k1,k2,k3,k4,by rw[(g4 hcon).1];exact k5⟩
def At (F:Fns)(n:Nat)(Ne:Num)(Ee:Env)(σe:St)(we:World)(T:Tr SV)(σ:St)(N:Num)(a:Act)(w:World):Prop :=
 N.f=F∧(∀ x,x<σ.ni→0≤N.i x∧N.i x<18446744073709551616)∧∃E,RA N E n T a∧Post Ne Ee σe we N E σ w
def patB (T:Tr SV)(σ:St):Bool :=
 (match σ.defs,σ.obs with | [],[]=>true | _,_=>false)&&T.allB (·.ok σ.nx)&&σ.bks.allB (·.ok σ.nx σ.na)&&Nat.ble σ.ni σ.nx
theorem patB_spec {T:Tr SV}{σ:St}(h:patB T σ=true):σ.defs=[]∧σ.obs=[]∧T.allB (·.ok σ.nx)=true∧σ.bks.allB (·.ok σ.nx σ.na)=true∧σ.ni≤σ.nx:=by
 unfold patB at h
 simp only[Bool.and_eq_true] at h
 obtain ⟨⟨⟨h1,h2⟩,h3⟩,h4⟩:=h
 split at h1
 ·rename_i e1 e2;exact ⟨e1,e2,h2,h3,Nat.le_of_ble_eq_true h4⟩
 ·cases h1
section
variable {P:Program} {F:Fns} {call:FuncId→List SV→St→Option (SV×St)} {n:Nat} {Ne:Num} {Ee:Env} {σe:St} {we:World}
theorem Post.agr {nx na:Nat}{N N':Num}{E:Env}{σ:St}{w:World}(h:Agr nx na N N')(hB:σ.bks.allB (·.ok nx na)=true)(p:Post Ne Ee σe we N E σ w):Post Ne Ee σe we N' E σ w:=by
 refine ⟨p.inv,p.le,BW.agr h hB p.bw,p.kept,fun i B' q s c h1 h2 h3 h4=> ?_⟩
 rw[Bk.wid_agr h (Tr.allB_get (p:=(·.ok nx na)) hB h1)]
 exact p.win i B' q s c h1 h2 h3 h4
def St.ask' (σ:St)(o:List Bool):St:={σ with orc:=o}
theorem seg (hm:P.follows .mixedOrders=true)(hcall:CallOk F P call){stops:List Nat}{f fuel:Nat}{c:Code}{ks:List Kt}{T T1:Tr SV}{σ σ1:St}{out:Out}{o:List Bool}{mx:Nat×Nat}{Q:Exit→Act→World→Prop}
  (hrun:runK P call stops n f fuel c ks T (σ.ask' o)=some (out,T1,σ1)) (hpat:patB T σ=true) (hord:ordOk σ.nx σ.na σ1.defs=some mx)
  {N:Num} {a:Act} {w:World} (hat:At F n Ne Ee σe we T σ N a w)
  (H:∀N',Agr σ.nx σ.na N N'→(∀ d∈σ1.defs,d.sat N')→(∀ ob∈σ1.obs,ob.holds N')∧(∀ a' w',At F n Ne Ee σe we T1 σ1 N' a' w'→outK P Q out a' w')) :
  c.wp P (wpK P ks Q) a w:=by
 obtain ⟨hd,hob,hT,hB,hni⟩:=patB_spec hpat
 obtain ⟨hF,hins,E,hA,hp⟩:=hat
 obtain ⟨mx,ma⟩:=mx
 obtain ⟨_,_,hagr,hsat,_⟩:=ext_spec (N:=N) hord
 obtain ⟨hobs,hK⟩:=H (ext N σ1.defs) hagr hsat
 have hext:=runK_ext hcall f hrun
 have hni1:σ1.ni=σ.ni:=hext.ni
 have hins':∀x,x<σ1.ni→0≤(ext N σ1.defs).i x∧(ext N σ1.defs).i x<18446744073709551616:=fun x hx=>by
  rw[hni1] at hx
  rw[hagr.i x (by omega)]
  exact hins x hx
 have hH:Hold F (ext N σ1.defs) σ1:=⟨hagr.f.trans hF,hsat,hobs,hins'⟩
 have hp':Post Ne Ee σe we (ext N σ1.defs) E (σ.ask' o) w:=by
  have:=Post.agr hagr hB hp
  exact ⟨⟨this.inv.freshB,this.inv.freshV,this.inv.glob⟩,this.le,this.bw,this.kept,this.win⟩
 refine runK_sound hm hcall f hrun hH (RA.agr hagr hT hA) hp'.inv hp'.bw fun E' a' w' hA' hq=> ?_
 exact hK a' w' ⟨hagr.f.trans hF,hins',E',hA',hp'.trans hq⟩
theorem At.match {T0 T1:Tr SV}{σ0 σ1:St}{m:M}{N:Num}{a:Act}{w:World}(hIe:Inv Ee σe)(h:At F n Ne Ee σe we T1 σ1 N a w)(hm:mtch σe.nb σe.nv T0 σ0 T1 σ1=some m)
  (hnb:Nat.ble σe.nb σ0.nb=true) (hnv:Nat.ble σe.nv σ0.nv=true) (hgl:σ0.gl=σe.gl) (hins:∀x,x<σ0.ni→0≤(m.num N).i x∧(m.num N).i x<18446744073709551616) :
  At F n Ne Ee σe we T0 σ0 (m.num N) a w:=by
 obtain ⟨hF,_,E,hA,hp⟩:=h
 obtain ⟨_,h2,h3⟩:=mtch_sound hm hIe hp (Nat.le_of_ble_eq_true hnb) (Nat.le_of_ble_eq_true hnv) hgl
 refine ⟨hF,hins,_,⟨hA.size,hA.defers,fun t sv e=> ?_,fun g sv e=> ?_⟩,h3⟩
 ·obtain ⟨y,e1,e2⟩:=h2 _ _ e
  obtain ⟨g1,u,g2,g3⟩:=hA.at' t y e1
  exact ⟨g1,u,g2,by rw[e2];exact g3⟩
 ·obtain ⟨y,e1,e2⟩:=h2 _ _ e
  rw[e2];exact hA.gl g y e1
theorem loop_law {b:Code}{Q:Exit→Act→World→Prop}(J:Nat→Act→World→Prop){k:Nat}{a:Act}{w:World}(h0:J k a w)
  (round:∀k a w,J k a w→b.wp P (Exit.then (fun a' w'=>∃k',k'<k∧J k' a' w') Q) a w):(Code.loop b).wp P Q a w :=
 wp_loop_ghost J k h0 round
theorem loop_seg {b:Code}{ks:List Kt}{Q:Exit→Act→World→Prop}{K:Act→World→Prop}{a:Act}{w:World}(h:b.wp P (wpK P [] (Exit.then K (wpK P ks Q))) a w) :
  b.wp P (Exit.then K (wpK P ks Q)) a w:=h
def FnSpec (F:Fns)(P:Program)(f:FuncId)(args:List SV)(σe:St)(φ:Num→Prop)(R:Num→Env→World→Value→World→Prop):Prop :=
 ∀N E us w,N.f=F→(∀ x,x<σe.ni→0≤N.i x∧N.i x<18446744073709551616)→φ N→Inv E σe→BW N E σe.bks w→denLV N E args=some us →
  Calls P f us.toArray w fun e w'=>∃u,e= .returned u∧R N E w u w'
theorem fn_enter {f:FuncId}{fn:Func}{body:Code}{args:List SV}{φ:Num→Prop}{R:Num→Env→World→Value→World→Prop}(hf:P.funcs[f]? =some fn)(hb:fn.body=some body)(hn:Nat.ble args.length fn.ntmps=true)
  (H:∀N E w a,φ N→Inv E σe→At F fn.ntmps N E σe w (trArgs 0 args σe.gl) σe N a w→body.wp P (wpK P [] (bodyPost P fn fun e w'=>∃u,e= .returned u∧R N E w u w')) a w) :
  FnSpec F P f args σe φ R:=fun N E _us w hF hins hφ hI hw hd =>
 calls_of_wp hf hb (H N E w _ hφ hI ⟨hF,hins,E,RA.enter hI hd (Nat.le_of_ble_eq_true hn),Post.refl hI hw⟩)
theorem fn_leave {fn:Func}{T1:Tr SV}{σ1 σ2:St}{vs:List V1}{e:Ex}{R:Ending→World→Prop}{N:Num}{a:Act}{w:World}(he:(match e with | .exit _=>false | _=>true)=true)
  (hres:resS T1 P fn.results.toList σ1=some (vs,σ2)) (hat:At F n Ne Ee σe we T1 σ1 N a w) (hH:Hold F N σ2)
  (H:∀E u,(resV vs).den N E=some u→Post Ne Ee σe we N E σ2 w→R (.returned u) w):bodyPost P fn R e.den a w:=by
 obtain ⟨_,_,E,hA,hp⟩:=hat
 obtain ⟨u,hu,hrun⟩:=resV_run hA hp.bw hres hH
 have:=H E u hu (hp.trans (Post.of_pur (resS_pur hres) hp.inv hp.bw))
 cases e with
 | normal=>exact ⟨hA.defers,u,hrun,this⟩
 | ret=>exact ⟨hA.defers,u,hrun,this⟩
 | exit id=>cases he
end
end Go.Sy
