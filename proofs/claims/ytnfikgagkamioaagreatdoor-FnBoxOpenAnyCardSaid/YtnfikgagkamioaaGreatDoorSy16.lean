/- Contracts: what a function is said to do, as a word of the executor; what that word means. -/
import Derived.Test.YtnfikgagkamioaaGreatDoorSy13
namespace Go.Sy
structure M where
 i:Tr Ar
 a:Tr Nat
 b:List (Nat×Nat)
 v:List (Nat×Nat)
def lk:List (Nat×Nat)→Nat→Option Nat
 | [],_=>none
 | (x,y)::l,k=>bif Nat.beq k x then some y else lk l k
def arB:Ar→Ar→Bool
 | .var x,.var y=>Nat.beq x y
 | .kst n,.kst m=>decide (n=m)
 | _,_=>false
def sameV:Value→Value→Bool
 | .int k n,.int k' n'=>kindB k k'&&decide (n=n')
 | .bool b,.bool b'=>b==b'
 | .pointer none,.pointer none=>true
 | .pointer (some ⟨q,o,none⟩),.pointer (some ⟨q',o',none⟩)=>Nat.beq q q'&&Nat.beq o o'
 | .slice none 0 0,.slice none 0 0=>true
 | _,_=>false
def M.ar (m:M)(p q:Ar):Option M :=
 match p with
 | .kst c=>match q with
  | .kst d=>bif decide (c=d) then some m else none
  | _=>none
 | .var x=>match m.i.get x with
  | none=>some {m with i:=m.i.set x q}
  | some q'=>bif arB q' q then some m else none
def M.al (m:M)(A B:Nat):Option M :=
 match m.a.get A with
 | none=>some {m with a:=m.a.set A B}
 | some B'=>bif Nat.beq B' B then some m else none
def M.bl (nbE:Nat)(m:M)(b b':Nat):Option M :=
 bif Nat.blt b nbE then (bif Nat.beq b b' then some m else none) else
 match lk m.b b with
 | none=>some {m with b:=(b,b')::m.b}
 | some c=>bif Nat.beq c b' then some m else none
def M.vl (nvE:Nat)(m:M)(j j':Nat):Option M :=
 bif Nat.blt j nvE then (bif Nat.beq j j' then some m else none) else
 match lk m.v j with
 | none=>some {m with v:=(j,j')::m.v}
 | some c=>bif Nat.beq c j' then some m else none
def M.arO (m:M):Option Ar→Option Ar→Option M
 | none,none=>some m
 | some p,some q=>m.ar p q
 | _,_=>none
def M.sc (nbE nvE:Nat)(m:M)(x y:Sc):Option M :=
 match x with
 | .kst v=>match y with
  | .kst v'=>bif sameV v v' then some m else none
  | _=>none
 | .num k x=>match y.ar with
  | some (k',q)=>bif kindB k k' then m.ar (.var x) q else none
  | none=>none
 | .boo x=>match y with
  | .boo y=>m.ar (.var x) (.var y)
  | .kst (.bool t)=>m.ar (.var x) (.kst (bif t then 1 else 0))
  | _=>none
 | .opq j=>match y with
  | .opq j'=>m.vl nvE j j'
  | _=>none
 | .emp j=>match y with
  | .emp j'=>m.vl nvE j j'
  | _=>none
 | .str _=>none
 | .ptr b off=>match y with
  | .ptr b' off'=>(m.bl nbE b b').bind (·.ar off off')
  | _=>none
 | .ifp t b off=>match y with
  | .ifp t' b' off'=>bif Nat.beq t t' then (m.bl nbE b b').bind (·.ar off off') else none
  | _=>none
 | .clo _ _=>none
 | .nni j=>match y with
  | .nni j'=>m.vl nvE j j'
  | _=>none
 | .sl b off len cap=>match y with
  | .sl b' off' len' cap'=>(m.bl nbE b b').bind fun m=>(m.ar off off').bind fun m=>(m.ar len len').bind fun m=>m.arO cap cap'
  | _=>none
def M.scs (nbE nvE:Nat):List Sc→List Sc→M→Option M
 | [],[],m=>some m
 | x::l,y::l',m=>(m.sc nbE nvE x y).bind (M.scs nbE nvE l l')
 | _,_,_=>none
def M.v1 (nbE nvE:Nat)(x y:V1)(m:M):Option M :=
 match x,y with
 | .sc x,.sc y=>m.sc nbE nvE x y
 | .agg l,.agg l'=>M.scs nbE nvE l l' m
 | _,_=>none
def M.v1s (nbE nvE:Nat):List V1→List V1→M→Option M
 | [],[],m=>some m
 | x::l,y::l',m=>(m.v1 nbE nvE x y).bind (M.v1s nbE nvE l l')
 | _,_,_=>none
def M.sv (nbE nvE:Nat)(x y:SV)(m:M):Option M :=
 match x,y with
 | .one x,.one y=>m.v1 nbE nvE x y
 | .tup l,.tup l'=>M.v1s nbE nvE l l' m
 | _,_=>none
def M.tr {α:Type}(f:α→α→M→Option M):Tr α→Tr α→M→Option M
 | .nil,_,m=>some m
 | .node v l r,t,m =>
  match t with
  | .nil=>none
  | .node v' l' r' =>
   (match v with
    | none=>some m
    | some x=>match v' with
     | some y=>f x y m
     | none=>none).bind fun m=>(M.tr f l l' m).bind fun m=>M.tr f r r' m
def M.bk (nbE nvE:Nat)(B B':Bk)(m:M):Option M :=
 bif (B.rw==B'.rw)&&Nat.beq B.n B'.n then
  match B.arr,B'.arr with
  | none,none=>M.tr (M.sv0 nbE nvE) B.cells B'.cells m
  | some (k,A,g),some (k',A',g')=>bif kindB k k'&&(g==g') then m.al A A' else none
  | _,_=>none
 else none
 where
 M.sv0 (nbE nvE:Nat) (x y:Sc) (m:M):Option M:=m.sc nbE nvE x y
def M.rho (nbE:Nat)(m:M)(b:Nat):Option Nat:=bif Nat.blt b nbE then some b else lk m.b b
def M.bks (nbE nvE:Nat)(t t':Tr Bk):Nat→Nat→M→Option M
 | 0,_,m=>some m
 | k+1,b,m =>
  match t.get b with
  | none=>M.bks nbE nvE t t' k (b+1) m
  | some B=>match m.rho nbE b with
   | some b'=>match t'.get b' with
    | some B'=>(M.bk nbE nvE B B' m).bind (M.bks nbE nvE t t' k (b+1))
    | none=>none
   | none=>none
def distinct:List Nat→Bool
 | []=>true
 | x::l=>l.all (fun y=> !(Nat.beq x y))&&distinct l
def Tr.keysLt {α:Type}:Tr α→Nat→Bool
 | .nil,_=>true
 | .node v l r,n=>(match v with | some _=>Nat.blt 0 n | none=>true)&&l.keysLt (n/2)&&r.keysLt ((n-1)/2)
def mtch (nbE nvE:Nat)(T0:Tr SV)(σ0:St)(T1:Tr SV)(σ1:St):Option M :=
 (M.tr (fun x y m=>M.sv nbE nvE x y m) T0 T1 ⟨.nil,.nil,[],[]⟩).bind fun m =>
 (M.bks nbE nvE σ0.bks σ1.bks σ0.nb 0 m).bind fun m =>
  bif distinct (m.b.map (·.2))&&m.b.all (fun p=>Nat.ble nbE p.1&&Nat.blt p.1 σ0.nb&&Nat.ble nbE p.2)&&m.v.all (fun p=>Nat.ble nvE p.1&&Nat.blt p.1 σ0.nv)&&σ0.bks.keysLt σ0.nb then some m else none
structure Con (nbE nvE:Nat) (N:Num) (E:Env) (N':Num) (E':Env) (m:M):Prop where
 i:∀x q,m.i.get x=some q→N'.i x=q.ev N
 a:∀A B,m.a.get A=some B→N'.a A=N.a B
 b:∀b b',lk m.b b=some b'→E'.blk b=E.blk b'
 v:∀j j',lk m.v j=some j'→E'.val j=E.val j'
 b0:∀b,b<nbE→E'.blk b=E.blk b
 v0:∀j,j<nvE→E'.val j=E.val j
structure M.Le (m m':M):Prop where
 i:∀x q,m.i.get x=some q→m'.i.get x=some q
 a:∀A B,m.a.get A=some B→m'.a.get A=some B
 b:∀b b',lk m.b b=some b'→lk m'.b b=some b'
 v:∀j j',lk m.v j=some j'→lk m'.v j=some j'
theorem M.Le.refl (m:M):m.Le m:=⟨fun _ _ h=>h,fun _ _ h=>h,fun _ _ h=>h,fun _ _ h=>h⟩
theorem M.Le.trans {a b c:M}(h:a.Le b)(k:b.Le c):a.Le c:=⟨fun x q e=>k.i x q (h.i x q e),fun x q e=>k.a x q (h.a x q e),fun x q e=>k.b x q (h.b x q e),fun x q e=>k.v x q (h.v x q e)⟩
section
variable {nbE nvE:Nat} {N N':Num} {E E':Env} {m m':M}
theorem Con.of_le (h:m.Le m')(k:Con nbE nvE N E N' E' m'):Con nbE nvE N E N' E' m :=
 ⟨fun x q e=>k.i x q (h.i x q e),fun x q e=>k.a x q (h.a x q e),fun x q e=>k.b x q (h.b x q e),fun x q e=>k.v x q (h.v x q e),k.b0,k.v0⟩
theorem arB_eq {p q:Ar}(h:arB p q=true):p=q:=by
 cases p <;> cases q <;> simp only[arB,bV] at h;·rw [aF h]
 ·rw [cM h]
theorem sameV_eq {v v':Value}(h:sameV v v'=true):v=v':=by
 unfold sameV at h;split at h;·simp only[aG] at h;rw[fT h.1,cM h.2]
 ·rw [eq_of_beq h]
 ·rfl
 ·simp only[aG] at h;rw[aF h.1,aF h.2]
 ·rfl
 ·cases h
theorem ar_den' {x:Sc}{k:IntKind}{a:Ar}(h:x.ar=some (k,a)):x.den N E=some (.int k (a.ev N)):=by
 cases x with
 | kst v =>cases v <;> simp only[Sc.ar,reduceCtorEq] at h;simp only[aA,aD] at h;obtain ⟨rfl,rfl⟩:=h;rfl
 | num k' x =>simp only[Sc.ar,aA,aD] at h;obtain ⟨rfl,rfl⟩:=h;rfl
 | boo x=>cases h
 | str A=>cases h
 | opq j=>cases h
 | ptr b off=>cases h
 | sl b off len cap=>cases h
 | emp j=>cases h
 | nni j=>cases h
 | ifp t b off=>cases h
 | clo f l=>cases h
theorem M.ar_spec {p q:Ar}(h:m.ar p q=some m'):m.Le m'∧∀ {N':Num} {E':Env},Con nbE nvE N E N' E' m'→p.ev N'=q.ev N:=by
 unfold M.ar at h;split at h
 ·rename_i c;split at h
  ·rename_i d;cases hd:decide (c=d) with
   | false=>rw[hd] at h;cases h
   | true =>rw[hd] at h;simp only[aH,aA] at h;subst h;rw[cM hd];exact ⟨M.Le.refl _,fun _=>rfl⟩
  ·cases h
 ·rename_i x;split at h
  ·rename_i hx;simp only[aA] at h;subst h;refine ⟨⟨fun y q' e=> ?_,fun _ _ h=>h,fun _ _ h=>h,fun _ _ h=>h⟩,fun k=>k.i x q (by simp[fA])⟩;simp only[fA];by_cases hy:y=x;·subst hy;rw[hx] at e;cases e
   ·rw [bC hy];exact e
  ·rename_i q' hx;cases hb:arB q' q with
   | false=>rw[hb] at h;cases h
   | true =>rw[hb] at h;simp only[aH,aA] at h;subst h;rw[←arB_eq hb];exact ⟨M.Le.refl _,fun k=>k.i x q' hx⟩
theorem M.al_spec {A B:Nat}(h:m.al A B=some m'):m.Le m'∧∀ {N':Num} {E':Env},Con nbE nvE N E N' E' m'→N'.a A=N.a B:=by
 unfold M.al at h;split at h
 ·rename_i hx;simp only[aA] at h;subst h;refine ⟨⟨fun _ _ h=>h,fun y q' e=> ?_,fun _ _ h=>h,fun _ _ h=>h⟩,fun k=>k.a A B (by simp[fA])⟩;simp only[fA];by_cases hy:y=A;·subst hy;rw[hx] at e;cases e
  ·rw [bC hy];exact e
 ·rename_i q' hx;cases hb:Nat.beq q' B with
  | false=>rw[hb] at h;cases h
  | true =>rw[hb] at h;simp only[aH,aA] at h;subst h;rw[←aF hb];exact ⟨M.Le.refl _,fun k=>k.a A q' hx⟩
theorem lk_cons {l:List (Nat×Nat)}{x y k z:Nat}(hx:lk l x=none)(h:lk l k=some z):lk ((x,y)::l) k=some z:=by
 simp only[lk];have:k≠x:=fun e=>by subst e;rw[hx] at h;cases h
 rw[fH this];exact h
theorem M.bl_spec {b b':Nat}(h:m.bl nbE b b'=some m'):m.Le m'∧∀ {N':Num} {E':Env},Con nbE nvE N E N' E' m'→E'.blk b=E.blk b':=by
 unfold M.bl at h;cases hlt:Nat.blt b nbE with
 | true =>
  rw[hlt] at h;simp only[aH] at h;cases hb:Nat.beq b b' with
  | false=>rw[hb] at h;cases h
  | true =>rw[hb] at h;simp only[aH,aA] at h;subst h;rw[←aF hb];exact ⟨M.Le.refl _,fun k=>k.b0 b (bX.mp hlt)⟩
 | false =>
  rw[hlt] at h;simp only[aQ] at h;split at h
  ·rename_i hx;simp only[aA] at h;subst h;exact ⟨⟨fun _ _ h=>h,fun _ _ h=>h,fun k z e=>lk_cons hx e,fun _ _ h=>h⟩,fun k=>k.b b b' (by simp[lk])⟩
  ·rename_i c hx;cases hb:Nat.beq c b' with
   | false=>rw[hb] at h;cases h
   | true =>rw[hb] at h;simp only[aH,aA] at h;subst h;rw[←aF hb];exact ⟨M.Le.refl _,fun k=>k.b b c hx⟩
theorem M.vl_spec {b b':Nat}(h:m.vl nvE b b'=some m'):m.Le m'∧∀ {N':Num} {E':Env},Con nbE nvE N E N' E' m'→E'.val b=E.val b':=by
 unfold M.vl at h;cases hlt:Nat.blt b nvE with
 | true =>
  rw[hlt] at h;simp only[aH] at h;cases hb:Nat.beq b b' with
  | false=>rw[hb] at h;cases h
  | true =>rw[hb] at h;simp only[aH,aA] at h;subst h;rw[←aF hb];exact ⟨M.Le.refl _,fun k=>k.v0 b (bX.mp hlt)⟩
 | false =>
  rw[hlt] at h;simp only[aQ] at h;split at h
  ·rename_i hx;simp only[aA] at h;subst h;exact ⟨⟨fun _ _ h=>h,fun _ _ h=>h,fun _ _ h=>h,fun k z e=>lk_cons hx e⟩,fun k=>k.v b b' (by simp[lk])⟩
  ·rename_i c hx;cases hb:Nat.beq c b' with
   | false=>rw[hb] at h;cases h
   | true =>rw[hb] at h;simp only[aH,aA] at h;subst h;rw[←aF hb];exact ⟨M.Le.refl _,fun k=>k.v b c hx⟩
theorem M.sc_spec {x y:Sc}(h:m.sc nbE nvE x y=some m'):m.Le m'∧∀ {N':Num} {E':Env},Con nbE nvE N E N' E' m'→x.den N' E'=y.den N E:=by
 cases x with
 | kst v =>
  simp only[M.sc] at h;split at h
  ·rename_i v';cases hb:sameV v v' with
   | false=>rw[hb] at h;cases h
   | true =>rw[hb] at h;simp only[aH,aA] at h;subst h;rw[sameV_eq hb];exact ⟨M.Le.refl _,fun _=>rfl⟩
  ·cases h
 | num k x =>
  simp only[M.sc] at h;split at h
  ·rename_i k' q hq;cases hb:kindB k k' with
   | false=>rw[hb] at h;cases h
   | true =>rw[hb] at h;have:=fT hb;subst this;simp only[aH] at h;obtain ⟨h1,h2⟩:=M.ar_spec (nbE:=nbE) (nvE:=nvE) (N:=N) (E:=E) h;exact ⟨h1,fun k0=>by rw[ar_den' hq,←h2 k0];rfl⟩
  ·cases h
 | boo x =>
  simp only[M.sc] at h;split at h
  ·rename_i y;obtain ⟨h1,h2⟩:=M.ar_spec (nbE:=nbE) (nvE:=nvE) (N:=N) (E:=E) h;refine ⟨h1,fun k0=> ?_⟩;have:=h2 k0;simp only[Ar.ev] at this;simp only[Sc.den,this]
  ·rename_i t;obtain ⟨h1,h2⟩:=M.ar_spec (nbE:=nbE) (nvE:=nvE) (N:=N) (E:=E) h;refine ⟨h1,fun k0=> ?_⟩;have:=h2 k0;simp only[Ar.ev] at this;simp only[Sc.den,this];cases t <;> rfl
  ·cases h
 | opq j =>
  simp only[M.sc] at h;split at h
  ·obtain ⟨h1,h2⟩:=M.vl_spec (nbE:=nbE) (nvE:=nvE) (N:=N) (E:=E) h;exact ⟨h1,fun k0=>by simp only[Sc.den,h2 k0]⟩
  ·cases h
 | emp j =>
  simp only[M.sc] at h;split at h
  ·obtain ⟨h1,h2⟩:=M.vl_spec (nbE:=nbE) (nvE:=nvE) (N:=N) (E:=E) h;exact ⟨h1,fun k0=>by simp only[Sc.den,h2 k0]⟩
  ·cases h
 | nni j =>
  simp only[M.sc] at h;split at h
  ·obtain ⟨h1,h2⟩:=M.vl_spec (nbE:=nbE) (nvE:=nvE) (N:=N) (E:=E) h;exact ⟨h1,fun k0=>by simp only[Sc.den,h2 k0]⟩
  ·cases h
 | str A=>cases h
 | clo f l=>cases h
 | ifp t b off =>
  simp only[M.sc] at h;split at h
  ·rename_i t' b' off';cases ht:Nat.beq t t' with
   | false=>rw[ht] at h;cases h
   | true =>rw[ht] at h;have:=aF ht;subst this;simp only[aH,aL] at h;obtain ⟨m1,h1,h2⟩:=h;obtain ⟨l1,s1⟩:=M.bl_spec (nbE:=nbE) (nvE:=nvE) (N:=N) (E:=E) h1;obtain ⟨l2,s2⟩:=M.ar_spec (nbE:=nbE) (nvE:=nvE) (N:=N) (E:=E) h2;exact ⟨l1.trans l2,fun k0=>by simp only[Sc.den,s1 (k0.of_le l2),s2 k0]⟩
  ·cases h
 | ptr b off =>
  simp only[M.sc] at h;split at h
  ·simp only[aL] at h;obtain ⟨m1,h1,h2⟩:=h;obtain ⟨l1,s1⟩:=M.bl_spec (nbE:=nbE) (nvE:=nvE) (N:=N) (E:=E) h1;obtain ⟨l2,s2⟩:=M.ar_spec (nbE:=nbE) (nvE:=nvE) (N:=N) (E:=E) h2;exact ⟨l1.trans l2,fun k0=>by simp only[Sc.den,s1 (k0.of_le l2),s2 k0]⟩
  ·cases h
 | sl b off len cap =>
  simp only[M.sc] at h;split at h
  ·rename_i b' off' len' cap';simp only[aL] at h;obtain ⟨m1,h1,m2,h2,m3,h3,h4⟩:=h;obtain ⟨l1,s1⟩:=M.bl_spec (nbE:=nbE) (nvE:=nvE) (N:=N) (E:=E) h1;obtain ⟨l2,s2⟩:=M.ar_spec (nbE:=nbE) (nvE:=nvE) (N:=N) (E:=E) h2;obtain ⟨l3,s3⟩:=M.ar_spec (nbE:=nbE) (nvE:=nvE) (N:=N) (E:=E) h3;unfold M.arO at h4;split at h4
   ·simp only[aA] at h4;subst h4;exact ⟨(l1.trans l2).trans l3,fun k0=>by simp only[Sc.den,s1 (k0.of_le (l2.trans l3)),s2 (k0.of_le l3),s3 k0]⟩
   ·obtain ⟨l4,s4⟩:=M.ar_spec (nbE:=nbE) (nvE:=nvE) (N:=N) (E:=E) h4;exact ⟨((l1.trans l2).trans l3).trans l4,fun k0=>by simp only[Sc.den,s1 (k0.of_le ((l2.trans l3).trans l4)),s2 (k0.of_le (l3.trans l4)),s3 (k0.of_le l4),s4 k0]⟩
   ·cases h4
  ·cases h
theorem M.scs_spec:∀ {l l':List Sc} {m m':M},M.scs nbE nvE l l' m=some m'→m.Le m'∧∀ {N':Num} {E':Env},Con nbE nvE N E N' E' m'→denL N' E' l=denL N E l'
 | [],[],m,m',h=>by simp only[M.scs,aA] at h;subst h;exact ⟨M.Le.refl _,fun _=>rfl⟩
 | x::l,y::l',m,m',h=>by simp only[M.scs,aL] at h;obtain ⟨m1,h1,h2⟩:=h;obtain ⟨l1,s1⟩:=M.sc_spec (N:=N) (E:=E) h1;obtain ⟨l2,s2⟩:=M.scs_spec h2;exact ⟨l1.trans l2,fun k0=>by simp only[denL,s1 (k0.of_le l2),s2 k0]⟩
 | [],_::_,m,m',h=>by cases h
 | _::_,[],m,m',h=>by cases h
theorem M.v1_spec {x y:V1}(h:M.v1 nbE nvE x y m=some m'):m.Le m'∧∀ {N':Num} {E':Env},Con nbE nvE N E N' E' m'→x.den N' E'=y.den N E:=by
 cases x <;> cases y <;> simp only[M.v1,reduceCtorEq] at h;·exact M.sc_spec h
 ·obtain ⟨l1,s1⟩:=M.scs_spec (N:=N) (E:=E) h;exact ⟨l1,fun k0=>by simp only[V1.den,s1 k0]⟩
theorem M.v1s_spec:∀ {l l':List V1} {m m':M},M.v1s nbE nvE l l' m=some m'→m.Le m'∧∀ {N':Num} {E':Env},Con nbE nvE N E N' E' m'→denL1 N' E' l=denL1 N E l'
 | [],[],m,m',h=>by simp only[M.v1s,aA] at h;subst h;exact ⟨M.Le.refl _,fun _=>rfl⟩
 | x::l,y::l',m,m',h=>by simp only[M.v1s,aL] at h;obtain ⟨m1,h1,h2⟩:=h;obtain ⟨l1,s1⟩:=M.v1_spec (N:=N) (E:=E) h1;obtain ⟨l2,s2⟩:=M.v1s_spec h2;exact ⟨l1.trans l2,fun k0=>by simp only[denL1,s1 (k0.of_le l2),s2 k0]⟩
 | [],_::_,m,m',h=>by cases h
 | _::_,[],m,m',h=>by cases h
theorem M.sv_spec {x y:SV}(h:M.sv nbE nvE x y m=some m'):m.Le m'∧∀ {N':Num} {E':Env},Con nbE nvE N E N' E' m'→x.den N' E'=y.den N E:=by
 cases x <;> cases y <;> simp only[M.sv,reduceCtorEq] at h;·exact M.v1_spec h
 ·obtain ⟨l1,s1⟩:=M.v1s_spec (N:=N) (E:=E) h;exact ⟨l1,fun k0=>by simp only[SV.den,s1 k0]⟩
theorem M.tr_spec {α:Type}{f:α→α→M→Option M}{R:α→α→M→Prop}(hf:∀x y m m',f x y m=some m'→m.Le m'∧R x y m')(hR:∀x y m m',M.Le m m'→R x y m→R x y m') :
 ∀ {t t':Tr α} {m m':M},M.tr f t t' m=some m'→m.Le m'∧∀k x,t.get k=some x→∃y,t'.get k=some y∧R x y m'
 | .nil,t',m,m',h=>by simp only[M.tr,aA] at h;subst h;exact ⟨M.Le.refl _,fun k x e=>by cases e⟩
 | .node v l r,.nil,m,m',h=>by simp only[M.tr,reduceCtorEq] at h
 | .node v l r,.node v' l' r',m,m',h=>by
  simp only[M.tr,aL] at h;obtain ⟨m1,h1,m2,h2,h3⟩:=h;obtain ⟨l2,s2⟩:=M.tr_spec hf hR h2;obtain ⟨l3,s3⟩:=M.tr_spec hf hR h3;have e1:m.Le m1∧∀x,v=some x→∃y,v'=some y∧R x y m1:=by
   cases v with
   | none=>simp only[aA] at h1;subst h1;exact ⟨M.Le.refl _,fun x e=>by cases e⟩
   | some x =>
    simp only at h1;cases v' with
    | none=>cases h1
    | some y =>obtain ⟨l1,s1⟩:=hf _ _ _ _ h1;exact ⟨l1,fun x' e=>by simp only[aA] at e;subst e;exact ⟨y,rfl,s1⟩⟩
  obtain ⟨l1,s1⟩:=e1;refine ⟨(l1.trans l2).trans l3,fun k x e=> ?_⟩;simp only[Tr.get] at e ⊢;cases h0:Nat.beq k 0 with
  | true =>rw[h0] at e;simp only[aH] at e ⊢;obtain ⟨y,g1,g2⟩:=s1 x e;exact ⟨y,g1,hR _ _ _ _ (l2.trans l3) g2⟩
  | false =>
   rw[h0] at e;simp only[aQ] at e ⊢;cases h1':Nat.beq (k%2) 1 with
   | true =>rw[h1'] at e;simp only[aH] at e ⊢;obtain ⟨y,g1,g2⟩:=s2 _ x e;exact ⟨y,g1,hR _ _ _ _ l3 g2⟩
   | false =>rw[h1'] at e;exact s3 _ x e
def BkR (nbE nvE:Nat)(N:Num)(E:Env)(B B':Bk)(m:M):Prop :=
 B.rw=B'.rw∧∀ {N':Num} {E':Env},Con nbE nvE N E N' E' m→(∀ c,B.wid N' c=B'.wid N c)∧∀s c arr,B'.cont N E s c arr→B.cont N' E' s c arr
theorem M.bk_spec {B B':Bk}(h:M.bk nbE nvE B B' m=some m'):m.Le m'∧BkR nbE nvE N E B B' m':=by
 unfold M.bk at h;cases hc:((B.rw==B'.rw)&&Nat.beq B.n B'.n) with
 | false=>rw[hc] at h;cases h
 | true =>
  rw[hc] at h;simp only[aH] at h;simp only[aG] at hc;have hrw:B.rw=B'.rw:=eq_of_beq hc.1;have hn:B.n=B'.n:=aF hc.2;split at h
  ·rename_i g g';obtain ⟨l1,s1⟩:=M.tr_spec (R:=fun (x y:Sc) (m:M)=>∀(N':Num) (E':Env),Con nbE nvE N E N' E' m→x.den N' E'=y.den N E) (fun x y m m' h=>⟨(M.sc_spec (N:=N) (E:=E) h).1,fun N' E' k=>(M.sc_spec h).2 k⟩) (fun x y m m' hle hr N' E' k0=>hr N' E' (k0.of_le hle)) h;refine ⟨l1,hrw,fun k0=>⟨fun c=>by simp only[Bk.wid,g,g',hn],fun s c arr hcont=> ?_⟩⟩;simp only[Bk.cont,g,g'] at hcont ⊢;intro j sc e;obtain ⟨y,e1,e2⟩:=s1 j sc e
   obtain ⟨e3,u,e4,e5⟩:=hcont j y e1;exact ⟨by omega,u,e4,by rw[e2 _ _ k0];exact e5⟩
  ·rename_i k A gg k' A' gg' g g';cases hk:(kindB k k'&&(gg==gg')) with
   | false=>rw[hk] at h;cases h
   | true =>rw[hk] at h;simp only[aG] at hk;have e1:=fT hk.1;have e2:=eq_of_beq hk.2;subst e1;subst e2;obtain ⟨l1,s1⟩:=M.al_spec (nbE:=nbE) (nvE:=nvE) (N:=N) (E:=E) h;exact ⟨l1,hrw,fun k0=>⟨fun c=>by simp only[Bk.wid,g,g',s1 k0],fun s c arr hcont=>by simp only[Bk.cont,g,g',s1 k0] at hcont ⊢;exact hcont⟩⟩
  ·cases h
theorem BkR.mono {B B':Bk}(h:m.Le m')(k:BkR nbE nvE N E B B' m):BkR nbE nvE N E B B' m':=⟨k.1,fun k0=>k.2 (k0.of_le h)⟩
theorem rho_mono {b b':Nat}(h:m.Le m')(k:m.rho nbE b=some b'):m'.rho nbE b=some b':=by
 unfold M.rho at *;cases hb:Nat.blt b nbE with
 | true=>rw[hb] at k;exact k
 | false=>rw[hb] at k;exact h.b _ _ k
theorem M.bks_spec {t t':Tr Bk}:∀ {k b:Nat} {m m':M},M.bks nbE nvE t t' k b m=some m'→m.Le m' ∧
 ∀i B,b≤i→i<b+k→t.get i=some B→∃i' B',m'.rho nbE i=some i'∧t'.get i'=some B'∧BkR nbE nvE N E B B' m'
 | 0,b,m,m',h=>by simp only[M.bks,aA] at h;subst h;exact ⟨M.Le.refl _,fun i B h1 h2=>by omega⟩
 | k+1,b,m,m',h=>by
  simp only[M.bks] at h;split at h
  ·rename_i hb;obtain ⟨l1,s1⟩:=M.bks_spec h;refine ⟨l1,fun i B h1 h2 e=> ?_⟩;by_cases hi:i=b;·subst hi;rw[hb] at e;cases e
   ·exact s1 i B (by omega) (by omega) e
  ·rename_i B0 hb;split at h
   ·rename_i b' hr;split at h
    ·rename_i B1 hB1;simp only[aL] at h;obtain ⟨m1,h1,h2⟩:=h;obtain ⟨l0,s0⟩:=M.bk_spec (N:=N) (E:=E) h1;obtain ⟨l1,s1⟩:=M.bks_spec h2;refine ⟨l0.trans l1,fun i B g1 g2 e=> ?_⟩;by_cases hi:i=b
     ·subst hi;rw[hb] at e;simp only[aA] at e;subst e;exact ⟨b',B1,rho_mono (l0.trans l1) hr,hB1,s0.mono l1⟩
     ·exact s1 i B (by omega) (by omega) e
    ·cases h
   ·cases h
end
theorem lk_mem:∀ {l:List (Nat×Nat)} {x y:Nat},lk l x=some y→(x,y)∈l
 | [],x,y,h=>by cases h
 | (a,b)::l,x,y,h=>by
  simp only[lk] at h;cases hb:Nat.beq x a with
  | true =>rw[hb] at h;simp only[aH,aA] at h;rw[←h,aF hb];exact aN
  | false=>rw[hb] at h;exact aJ _ (lk_mem h)
theorem distinct_lk:∀ {l:List (Nat×Nat)} {x x' y:Nat},distinct (l.map (·.2))=true→lk l x=some y→lk l x'=some y→x=x'
 | [],x,x',y,_,h,_=>by cases h
 | (a,b)::l,x,x',y,hd,h,h'=>by
  simp only[aI,distinct,aG,bT,dC,Bool.not_eq_true'] at hd;obtain ⟨h1,h2⟩:=hd;simp only[lk] at h h';cases hb:Nat.beq x a with
  | true =>
   rw[hb] at h;simp only[aH,aA] at h;cases hb':Nat.beq x' a with
   | true=>rw[aF hb,aF hb']
   | false =>rw[hb'] at h';have:=h1 y ⟨_,lk_mem h',rfl⟩;rw[h,fY rfl] at this;cases this
  | false =>
   rw[hb] at h;cases hb':Nat.beq x' a with
   | true =>rw[hb'] at h';simp only[aH,aA] at h';have:=h1 y ⟨_,lk_mem h,rfl⟩;rw[h',fY rfl] at this;cases this
   | false=>rw[hb'] at h';exact distinct_lk h2 h h'
def M.num (m:M)(N:Num):Num :=
 {i:=fun x=>match m.i.get x with | some q=>q.ev N | none=>0,a:=fun A=>match m.a.get A with | some B=>N.a B | none=>[],f:=N.f}
def M.env (nbE nvE:Nat)(m:M)(E:Env):Env :=
 {blk:=fun b=>match m.rho nbE b with | some b'=>E.blk b' | none=>none
  val:=fun j=>bif Nat.blt j nvE then E.val j else match lk m.v j with | some j'=>E.val j' | none=>none}
theorem M.con (nbE nvE:Nat)(m:M)(N:Num)(E:Env)(hb:∀b b',lk m.b b=some b'→nbE≤b)(hv:∀j j',lk m.v j=some j'→nvE≤j):Con nbE nvE N E (m.num N) (m.env nbE nvE E) m:=by
 refine ⟨fun x q h=>by simp only[M.num,h],fun A B h=>by simp only[M.num,h],fun b b' h=> ?_,fun j j' h=> ?_,fun b h=> ?_,fun j h=> ?_⟩
 ·have:=hb b b' h;have h0:Nat.blt b nbE=false:=by cases e:Nat.blt b nbE with | false=>rfl | true=>have:=bX.mp e;omega
  simp only[M.env,M.rho,h0,aQ,h]
 ·have:=hv j j' h;have h0:Nat.blt j nvE=false:=by cases e:Nat.blt j nvE with | false=>rfl | true=>have:=bX.mp e;omega
  simp only[M.env,h0,aQ,h]
 ·have h0:Nat.blt b nbE=true:=bX.mpr h;simp only[M.env,M.rho,h0,aH]
 ·have h0:Nat.blt j nvE=true:=bX.mpr h;simp only[M.env,h0,aH]
theorem Tr.keysLt_get {α:Type}:∀ {t:Tr α} {n k:Nat} {x:α},t.keysLt n=true→t.get k=some x→k<n
 | .nil,n,k,x,_,h=>by cases h
 | .node v l r,n,k,x,hb,h=>by
  simp only[Tr.keysLt,aG] at hb;obtain ⟨⟨h1,h2⟩,h3⟩:=hb;simp only[Tr.get] at h;cases h0:Nat.beq k 0 with
  | true =>rw[h0] at h;simp only[aH] at h;subst h;rw[aF h0];exact bX.mp h1
  | false =>
   rw[h0] at h;simp only[aQ] at h;have hk:k≠0:=fun e=>by rw[fY e] at h0;cases h0
   cases h1':Nat.beq (k%2) 1 with
   | true =>rw[h1'] at h;have:=Tr.keysLt_get h2 h;have:=aF h1';omega
   | false =>
    rw[h1'] at h;have:=Tr.keysLt_get h3 h;have:k%2≠1:=fun e=>by rw[fY e] at h1';cases h1'
    omega
theorem mtch_sound {T0 T1:Tr SV}{σe σ0 σ1:St}{m:M}{Ne N:Num}{Ee E:Env}{we w:World}(h:mtch σe.nb σe.nv T0 σ0 T1 σ1=some m)(hIe:Inv Ee σe)(hp:Post Ne Ee σe we N E σ1 w)
 (hnb:σe.nb≤σ0.nb) (hnv:σe.nv≤σ0.nv) (hgl:σ0.gl=σe.gl) :
 Con σe.nb σe.nv N E (m.num N) (m.env σe.nb σe.nv E) m∧(∀ k x,T0.get k=some x→∃y,T1.get k=some y∧x.den (m.num N) (m.env σe.nb σe.nv E)=y.den N E) ∧
 Post Ne Ee σe we (m.num N) (m.env σe.nb σe.nv E) σ0 w:=by
 unfold mtch at h;simp only[aL] at h;obtain ⟨m1,h1,m2,h2,h3⟩:=h;cases hc:(distinct (m2.b.map (·.2))&&m2.b.all (fun p=>Nat.ble σe.nb p.1&&Nat.blt p.1 σ0.nb&&Nat.ble σe.nb p.2)&&m2.v.all (fun p=>Nat.ble σe.nv p.1&&Nat.blt p.1 σ0.nv)&&σ0.bks.keysLt σ0.nb) with
 | false=>rw[hc] at h3;cases h3
 | true =>
  rw[hc] at h3;simp only[aH,aA] at h3;subst h3;simp only[aG,bT] at hc;obtain ⟨⟨⟨hd,hb⟩,hv⟩,hbel⟩:=hc;have hb':∀b b',lk m2.b b=some b'→σe.nb≤b∧b<σ0.nb∧σe.nb≤b':=fun b b' e=>by have:=hb _ (lk_mem e);exact ⟨aM this.1.1,bX.mp this.1.2,aM this.2⟩
  have hv':∀j j',lk m2.v j=some j'→σe.nv≤j∧j<σ0.nv:=fun j j' e=>by have:=hv _ (lk_mem e);exact ⟨aM this.1,bX.mp this.2⟩
  have hcon:Con σe.nb σe.nv N E (m2.num N) (m2.env σe.nb σe.nv E) m2:=M.con _ _ _ _ _ (fun b b' e=>(hb' b b' e).1) (fun j j' e=>(hv' j j' e).1);obtain ⟨l1,s1⟩:=M.tr_spec (R:=fun (x y:SV) (m:M)=>∀(N':Num) (E':Env),Con σe.nb σe.nv N E N' E' m→x.den N' E'=y.den N E) (fun x y m m' h=>⟨(M.sv_spec (N:=N) (E:=E) h).1,fun N' E' k=>(M.sv_spec h).2 k⟩) (fun x y m m' hle hr N' E' k0=>hr N' E' (k0.of_le hle)) h1;obtain ⟨l2,s2⟩:=M.bks_spec (N:=N) (E:=E) h2
  have blk:∀b b',m2.rho σe.nb b=some b'→(m2.env σe.nb σe.nv E).blk b=E.blk b':=fun b b' e=>by simp only[M.env,e]
  have at':∀i B,σ0.bks.get i=some B→∃i' B',m2.rho σe.nb i=some i'∧σ1.bks.get i'=some B'∧BkR σe.nb σe.nv N E B B' m2:=fun i B e=>s2 i B (dK _) (by have:=Tr.keysLt_get hbel e;omega) e
  have inj:∀i j k,m2.rho σe.nb i=some k→m2.rho σe.nb j=some k→i=j:=fun i j k e1 e2=>by
   unfold M.rho at e1 e2;cases c1:Nat.blt i σe.nb <;> cases c2:Nat.blt j σe.nb <;> rw[c1] at e1 <;> rw[c2] at e2;·exact distinct_lk hd e1 e2
   ·simp only[aH,aA] at e2;have:=(hb' _ _ e1).2.2;have:=bX.mp c2;omega
   ·simp only[aH,aA] at e1;have:=(hb' _ _ e2).2.2;have:=bX.mp c1;omega
   ·simp only[aH,aA] at e1 e2;omega
  have hle:Ee.le (m2.env σe.nb σe.nv E):=⟨fun b q e=>by
   have:b<σe.nb:=by
    rcases bL b σe.nb with h | h
    ·exact h
    ·rw [hIe.freshB b h] at e;cases e
   rw[hcon.b0 b this];exact hp.le.blk b q e,
   fun j v e=>by
    have:j<σe.nv:=by
     rcases bL j σe.nv with h | h
     ·exact h
     ·rw [hIe.freshV j h] at e;cases e
    rw[hcon.v0 j this];exact hp.le.val j v e⟩
  refine ⟨hcon,fun k x e=> ?_,⟨fun b hb0=> ?_,fun j hj=> ?_,fun t sv e=> ?_⟩,hle,⟨fun i B e=> ?_,fun i i' B B' q s s' c c' e1 e2 e3 e4 e5 e6=> ?_⟩,hp.kept,fun i B' q s c e1 e2 e3 e4=> ?_⟩
  ·obtain ⟨y,g1,g2⟩:=s1 k x e;exact ⟨y,g1,g2 _ _ (hcon.of_le l2)⟩
  ·have h0:Nat.blt b σe.nb=false:=by cases e:Nat.blt b σe.nb with | false=>rfl | true=>have:=bX.mp e;omega
   simp only[M.env,M.rho,h0,aQ]
   split
   ·rename_i b' e;have:=(hb' _ _ e).2.1;omega
   ·rfl
  ·have h0:Nat.blt j σe.nv=false:=by cases e:Nat.blt j σe.nv with | false=>rfl | true=>have:=bX.mp e;omega
   simp only[M.env,h0,aQ]
   split
   ·rename_i j' e;have:=(hv' _ _ e).2;omega
   ·rfl
  ·rw [hgl] at e;obtain ⟨g1,b,c,g2,g3⟩:=hIe.glob t sv e;exact ⟨g1,b,c,g2,hle.blk _ _ g3⟩
  ·obtain ⟨i',B',g1,g2,g3,g4⟩:=at' i B e;obtain ⟨q,s,c,arr,el,fz,k1,k2,k3,k4,k5⟩:=hp.bw.at' i' B' g2;obtain ⟨g5,g6⟩:=g4 hcon;exact ⟨q,s,c,arr,el,fz,by rw[blk i i' g1];exact k1,k2,by rw[g3];exact k3,by rw[g5];exact k4,g6 _ _ _ k5⟩
  ·obtain ⟨j,B1,g1,g2,g3,g4⟩:=at' i B e1;obtain ⟨j',B2,k1,k2,k3,k4⟩:=at' i' B' e2;rw[(g4 hcon).1,(k4 hcon).1];refine hp.bw.apart j j' B1 B2 q s s' c c' g2 k2 (fun e=>e3 ?_) (by rw[←blk i j g1];exact e4) (by rw[←blk i' j' k1];exact e5) (by rw[←g3,←k3];exact e6);subst e;exact inj _ _ _ g1 k1
  ·obtain ⟨i',B1,g1,g2,g3,g4⟩:=at' i B' e1;obtain ⟨i0,B0,s0,c0,k1,k2,k3,k4,k5⟩:=hp.win i' B1 q s c g2 (by rw[←g3];exact e2) (by rw[←blk i i' g1];exact e3) e4;exact ⟨i0,B0,s0,c0,k1,k2,k3,k4,by rw[(g4 hcon).1];exact k5⟩
def At (F:Fns)(n:Nat)(Ne:Num)(Ee:Env)(σe:St)(we:World)(T:Tr SV)(σ:St)(N:Num)(a:Act)(w:World):Prop :=
 N.f=F∧(∀ x,x<σ.ni→0≤N.i x∧N.i x<18446744073709551616)∧∃E,RA N E n T a∧Post Ne Ee σe we N E σ w
def patB (T:Tr SV)(σ:St):Bool :=
 (match σ.defs,σ.obs with | [],[]=>true | _,_=>false)&&T.allB (·.ok σ.nx)&&σ.bks.allB (·.ok σ.nx σ.na)&&Nat.ble σ.ni σ.nx
theorem patB_spec {T:Tr SV}{σ:St}(h:patB T σ=true):σ.defs=[]∧σ.obs=[]∧T.allB (·.ok σ.nx)=true∧σ.bks.allB (·.ok σ.nx σ.na)=true∧σ.ni≤σ.nx:=by
 unfold patB at h;simp only[aG] at h;obtain ⟨⟨⟨h1,h2⟩,h3⟩,h4⟩:=h;split at h1;·rename_i e1 e2;exact ⟨e1,e2,h2,h3,aM h4⟩
 ·cases h1
section
variable {P:Program} {F:Fns} {call:FuncId→List SV→St→Option (SV×St)} {n:Nat} {Ne:Num} {Ee:Env} {σe:St} {we:World}
theorem Post.agr {nx na:Nat}{N N':Num}{E:Env}{σ:St}{w:World}(h:Agr nx na N N')(hB:σ.bks.allB (·.ok nx na)=true)(p:Post Ne Ee σe we N E σ w):Post Ne Ee σe we N' E σ w:=by
 refine ⟨p.inv,p.le,BW.agr h hB p.bw,p.kept,fun i B' q s c h1 h2 h3 h4=> ?_⟩;rw[Bk.wid_agr h (Tr.allB_get (p:=(·.ok nx na)) hB h1)];exact p.win i B' q s c h1 h2 h3 h4
def St.ask' (σ:St)(o:List Bool):St:={σ with orc:=o}
theorem At.match {T0 T1:Tr SV}{σ0 σ1:St}{m:M}{N:Num}{a:Act}{w:World}(hIe:Inv Ee σe)(h:At F n Ne Ee σe we T1 σ1 N a w)(hm:mtch σe.nb σe.nv T0 σ0 T1 σ1=some m)
 (hnb:Nat.ble σe.nb σ0.nb=true) (hnv:Nat.ble σe.nv σ0.nv=true) (hgl:σ0.gl=σe.gl) (hins:∀x,x<σ0.ni→0≤(m.num N).i x∧(m.num N).i x<18446744073709551616) :
 At F n Ne Ee σe we T0 σ0 (m.num N) a w:=by
 obtain ⟨hF,_,E,hA,hp⟩:=h;obtain ⟨_,h2,h3⟩:=mtch_sound hm hIe hp (aM hnb) (aM hnv) hgl;refine ⟨hF,hins,_,⟨hA.size,hA.defers,fun t sv e=> ?_,fun g sv e=> ?_⟩,h3⟩
 ·obtain ⟨y,e1,e2⟩:=h2 _ _ e;obtain ⟨g1,u,g2,g3⟩:=hA.at' t y e1;exact ⟨g1,u,g2,by rw[e2];exact g3⟩
 ·obtain ⟨y,e1,e2⟩:=h2 _ _ e;rw[e2];exact hA.gl g y e1
theorem gQ {b:Code}{Q:Exit→Act→World→Prop}(J:Nat→Act→World→Prop){k:Nat}{a:Act}{w:World}(h0:J k a w)
 (round:∀k a w,J k a w→b.wp P (Exit.then (fun a' w'=>∃k',k'<k∧J k' a' w') Q) a w):(Code.loop b).wp P Q a w :=
 wp_loop_ghost J k h0 round
end
inductive Pa where
 | int (k:IntKind)
 | agg (k:IntKind) (n:Nat)
 | ptr (k:IntKind) (n:Nat) (rw:Bool)
 | sl (k:IntKind) (rw:Bool) (n:Option Nat)
 | emp
 | zc
 | gr (k:IntKind)
 | ign
 | kst (v:Value)
inductive Re where
 | int (k:IntKind)
 | bool
 | agg (k:IntKind) (n:Nat)
 | sl (k:IntKind) (n:Option Nat)
 | tl
 | emp
 | kst (v:Value)
 | nn
structure Ct where
 ps:List Pa
 res:List Re
 p:Nat
 fi:Nat
 fw:Nat
 fs:Nat
 sel:Option (List Nat):=none
 glp:Option Nat:=none
def lget {α:Type}:List α→Nat→Option α
 | [],_=>none
 | x::_,0=>some x
 | _::l,k+1=>lget l k
def selG {α:Type}:List Nat→List α→List α
 | [],_=>[]
 | i::s,l=>match lget l i with
  | some x=>x::selG s l
  | none=>selG s l
def selL {α:Type}(s:Option (List Nat))(l:List α):List α :=
 match s with
 | none=>l
 | some s=>selG s l
def St.gptr (σ:St)(g:Nat):Option SV :=
 match σ.gl.get (2*g+1) with
 | some (.one (.sc (.ptr b (.kst (.ofNat 0)))))=>match σ.bks.get b with
  | some B=>match B.arr with
   | none=>match B.cells.get 0 with
    | some (.ptr b' o)=>bif Nat.blt 0 B.n&& !B.rw then some (.one (.sc (.ptr b' o))) else none
    | _=>none
   | some _=>none
  | none=>none
 | _=>none
def findJ:List Nat→List SV→Nat→Option SV
 | j::s,x::xs,i=>bif Nat.beq j i then some x else findJ s xs i
 | _,_,_=>none
def unselL (s:List Nat)(args:List SV)(g:Option SV):Nat→Nat→Option (List SV)
 | 0,_=>some []
 | n+1,i=>match (match g,i with | some y,0=>some y | _,i=>findJ s args i) with
  | some x=>match unselL s args g n (i+1) with
   | some r=>some (x::r)
   | none=>none
  | none=>none
def Ct.unsel (ct:Ct)(args:List SV)(σ:St):Option (List SV) :=
 match ct.sel with
 | none=>match ct.glp with
  | none=>some args
  | some _=>none
 | some s=>match (match ct.glp with | none=>some none | some g=>(σ.gptr g).map some) with
  | some y=>match unselL s args y ct.ps.length 0 with
   | some ps=>bif eL eSV args (selG s ps) then some ps else none
   | none=>none
  | none=>none
def natsB:List Nat→List Nat→Bool
 | [],[]=>true
 | x::l,y::m=>Nat.beq x y&&natsB l m
 | _,_=>false
def eqV (v v':Value):Bool :=
 match v,v' with
 | .string s,.string s'=>natsB (s.data.toList.map UInt8.toNat) (s'.data.toList.map UInt8.toNat)
 | .nilIface,.nilIface=>true
 | v,v'=>sameV v v'
def St.win (σ:St)(b:Nat)(off n:Ar)(rw:Bool):Bool :=
 match σ.bks.get b with
 | some B=>(!rw||B.rw)&&(match B.arr with
  | some _=>true
  | none=>match off,n with
   | .kst (.ofNat o),.kst (.ofNat m)=>Nat.ble (o+m) B.n
   | .kst (.ofNat o),_=>Nat.ble o B.n
   | _,_=>true)
 | none=>false
def lenB (n:Option Nat)(len:Ar):Bool :=
 match n with
 | none=>true
 | some n=>match len with
  | .kst (.ofNat m)=>Nat.beq m n
  | _=>false
def Pa.take1 (p:Pa)(x:SV)(σ:St):Option (List Ar×List Nat×St) :=
 match p with
 | .int k=>match x with
  | .one (.sc y)=>match y.ar with
   | some (k',a)=>bif kindB k k' then some ([a],[],σ) else none
   | none=>none
  | _=>none
 | .agg k n=>match x with
  | .one (.agg l)=>match arsL k l with
   | some az=>bif Nat.beq l.length n then some ([],[σ.na],σ.mkA (.lit az)) else none
   | none=>none
  | _=>none
 | .ptr k n rw=>match x with
  | .one (.sc (.ptr b off))=>bif σ.win b off (.kst n) rw then match σ.rng k b off (.kst n) with
   | some (X,σ)=>some ([],[X],σ)
   | none=>none
   else none
  | _=>none
 | .sl k rw n=>match x with
  | .one (.sc (.sl b off len cap))=>bif σ.win b off len rw&&lenB n len then
   match (match cap with | some c=>σ.le len c | none=>some σ) with
   | some σ=>match σ.rng k b off len with
    | some (X,σ)=>some ([],[X],σ)
    | none=>none
   | none=>none
   else none
  | _=>none
 | .emp=>match x with
  | .one (.sc (.emp _))=>some ([],[σ.na],σ.mkA (.lit []))
  | .one (.sc (.kst (.slice none 0 _)))=>some ([],[σ.na],σ.mkA (.lit []))
  | _=>none
 | .zc=>match x with
  | .one (.sc (.sl _ _ (.kst (.ofNat 0)) (some (.kst (.ofNat 0)))))=>some ([],[σ.na],σ.mkA (.lit []))
  | _=>none
 | .gr k=>match x with
  | .one (.sc (.sl b (.kst (.ofNat 0)) len none))=>match σ.bks.get b with
   | some B=>match B.arr with
    | some (k',A,true)=>bif kindB k k'&&B.rw then some ([],[A],σ.ob (.lenA len A)) else none
    | _=>none
   | none=>none
  | .one (.sc (.sl b (.kst (.ofNat 0)) (.kst (.ofNat 0)) (some (.kst (.ofNat 0)))))=>match σ.bks.get b with
   | some B=>match B.arr with
    | none=>bif B.rw&&Nat.beq B.n 0 then some ([],[σ.na],σ.mkA (.lit [])) else none
    | some _=>none
   | none=>none
  | _=>none
 | .ign=>match x with
  | .one (.sc _)=>some ([],[],σ)
  | _=>none
 | .kst v=>match x with
  | .one (.sc (.kst v'))=>bif eqV v v' then some ([],[],σ) else none
  | _=>none
def takeL:List Pa→List SV→St→Option (List Ar×List Nat×St)
 | [],[],σ=>some ([],[],σ)
 | p::ps,x::xs,σ=>match p.take1 x σ with
  | some (i,a,σ)=>match takeL ps xs σ with
   | some (is,az,σ)=>some (i++is,a++az,σ)
   | none=>none
  | none=>none
 | _,_,_=>none
def Pa.blk:Pa→SV→Option (Nat×Bool)
 | .ptr _ _ rw,.one (.sc (.ptr b _))=>some (b,rw)
 | .sl _ rw _,.one (.sc (.sl b _ _ _))=>some (b,rw)
 | .gr _,.one (.sc (.sl b _ _ _))=>some (b,true)
 | _,_=>none
def blksL:List Pa→List SV→List (Option (Nat×Bool))
 | p::ps,x::xs=>p.blk x::blksL ps xs
 | _,_=>[]
def apartB:List (Option (Nat×Bool))→Bool
 | []=>true
 | none::l=>apartB l
 | some (b,rw)::l=>l.all (fun y=>match y with | none=>true | some (b',rw')=> !(Nat.beq b b')||(!rw&& !rw'))&&apartB l
def rwOf:List Pa→List SV→Option (Nat×Ar×IntKind×Ar)
 | .ptr k n true::_,.one (.sc (.ptr b off))::_=>some (b,off,k,.kst n)
 | .sl k true _::_,.one (.sc (.sl b off len _))::_=>some (b,off,k,len)
 | _::ps,_::xs=>rwOf ps xs
 | _,_=>none
def grOf:List Pa→List SV→Option Nat
 | .gr _::_,.one (.sc (.sl b _ _ _))::_=>some b
 | _::ps,_::xs=>grOf ps xs
 | _,_=>none
def St.drop (σ:St):Option Nat→St
 | none=>σ
 | some b=>{σ with bks:=σ.bks.erase b}
def ownN:List Pa→Nat
 | .ptr _ _ true::ps | .sl _ true _::ps | .gr _::ps=>ownN ps+1
 | _::ps=>ownN ps
 | []=>0
def hasGr:List Pa→Bool
 | .gr _::_=>true
 | _::ps=>hasGr ps
 | []=>false
def slOf:List Re→Option (IntKind×Option Nat)
 | []=>none
 | .sl k n::_=>some (k,n)
 | _::r=>slOf r
def Ct.okG (ct:Ct):Bool:= !(hasGr ct.ps)||(Nat.beq (ownN ct.ps) 1&&(match slOf ct.res with | some _=>true | none=>false))
def cellsR (k:IntKind)(f:Nat)(is:List Ar)(az:List Nat):Nat→Nat→St→List Sc×St
 | _,0,σ=>([],σ)
 | j,n+1,σ=>(.num k σ.nx::(cellsR k f is az (j+1) n (σ.mk1 (.fn f is az j))).1,(cellsR k f is az (j+1) n (σ.mk1 (.fn f is az j))).2)
def resL (f:Nat)(is:List Ar)(az:List Nat)(sl:Sc):List Re→Nat→St→Option (List V1×St)
 | [],_,σ=>some ([],σ)
 | .int k::r,j,σ=>match resL f is az sl r (j+1) (σ.mk1 (.fn f is az j)) with
  | some (vs,σ')=>some (.sc (.num k σ.nx)::vs,σ')
  | none=>none
 | .bool::r,j,σ=>match (σ.mk1 (.fn f is az j)).ask with
  | some (t,σ1)=>match resL f is az sl r (j+1) (σ1.ob (.boo σ.nx t)) with
   | some (vs,σ')=>some (.sc (.kst (.bool t))::vs,σ')
   | none=>none
  | none=>none
 | .agg k n::r,j,σ=>match resL f is az sl r (j+n) (cellsR k f is az j n σ).2 with
  | some (vs,σ')=>some (.agg (cellsR k f is az j n σ).1::vs,σ')
  | none=>none
 | .sl _ _::r,j,σ=>match resL f is az sl r j σ with
  | some (vs,σ')=>some (.sc sl::vs,σ')
  | none=>none
 | .tl::r,j,σ=>match sl with
  | .sl b (.kst (.ofNat 0)) _ none=>match resL f is az sl r (j+2) ((σ.mk1 (.fn f is az j)).mk1 (.fn f is az (j+1))) with
   | some (vs,σ')=>some (.sc (.sl b (.var σ.nx) (.var (σ.nx+1)) none)::vs,σ')
   | none=>none
  | _=>none
 | .emp::r,j,σ=>match resL f is az sl r j {σ with nv:=σ.nv+1} with
  | some (vs,σ')=>some (.sc (.emp σ.nv)::vs,σ')
  | none=>none
 | .nn::r,j,σ=>match resL f is az sl r j {σ with nv:=σ.nv+1} with
  | some (vs,σ')=>some (.sc (.nni σ.nv)::vs,σ')
  | none=>none
 | .kst v::r,j,σ=>bif cellOk v then (match resL f is az sl r j σ with
  | some (vs,σ')=>some (.sc (.kst v)::vs,σ')
  | none=>none) else none
def Ct.apply1 (ct:Ct)(args:List SV)(σ0:St):Option (SV×St) :=
 match takeL ct.ps args σ0 with
 | none=>none
 | some (is,az,σ) =>
  bif apartB (blksL ct.ps args)&&ct.okG then
   match (match rwOf ct.ps args with
    | some (b,off,k,n)=>((σ.ob (.prd ct.p is az)).mkA (.fn ct.fw is az)).wrt b off k σ.na n
    | none=>some ((σ.ob (.prd ct.p is az)).drop (grOf ct.ps args))) with
   | none=>none
   | some σ =>
    match (match slOf ct.res with
     | some (k,some n)=>resL ct.fi is az (.sl σ.nb (.kst 0) (.kst n) none) ct.res 0 ((σ.mkA (.fn ct.fs is az)).newA k σ.na true)
     | some (k,none)=>resL ct.fi is az (.sl σ.nb (.kst 0) (.var σ.nx) none) ct.res 0 (((σ.mkA (.fn ct.fs is az)).newA k σ.na true).mk1 (.len σ.na))
     | none=>resL ct.fi is az (.kst (.bool true)) ct.res 0 σ) with
    | some (vs,σ')=>some (resV vs,σ')
    | none=>none
  else none
def Ct.apply (ct:Ct)(args:List SV)(σ:St):Option (SV×St) :=
 match ct.unsel args σ with
 | some args=>ct.apply1 args σ
 | none=>none
def Mem (w:World)(q s:Nat)(k:IntKind)(L:List Int)(rw:Bool):Prop :=
 ∃arr el fz,w.heap[q]? =some (.cells arr el fz)∧(rw=true→fz=(0,0))∧s+L.length≤arr.size∧∀j v,L[j]? =some v→arr[s+j]? =some (.int k v)
def MemG (w:World)(q s c:Nat)(k:IntKind)(L:List Int):Prop :=
 ∃arr el,w.heap[q]? =some (.cells arr el (0,0))∧s+c≤arr.size∧(∀ j v,L[j]? =some v→arr[s+j]? =some (.int k v))∧∀j,L.length≤j→j<c→arr[s+j]? =some (.int k 0)
structure Win where
 q:Nat
 s:Nat
 n:Nat
 rw:Bool
inductive Args (w:World):List Pa→List Value→List Int→List (List Int)→List (Option Win)→Prop
 | nil:Args w [] [] [] [] []
 | int {k n ps us is az ws} (h:Args w ps us is az ws):Args w (.int k::ps) (.int k n::us) (n::is) az (none::ws)
 | agg {k n L ps us is az ws} (hl:L.length=n) (h:Args w ps us is az ws):Args w (.agg k n::ps) (.agg (intsV k L).toArray::us) is (L::az) (none::ws)
 | ptr {k n rw q s L ps us is az ws} (hm:Mem w q s k L rw) (hl:L.length=n) (h:Args w ps us is az ws):Args w (.ptr k n rw::ps) (.pointer (some ⟨q,s,none⟩)::us) is (L::az) (some ⟨q,s,n,rw⟩::ws)
 | sl {k rw n q s c L ps us is az ws} (hm:Mem w q s k L rw) (hc:L.length≤c) (hn:∀m,n=some m→L.length=m) (h:Args w ps us is az ws) :
  Args w (.sl k rw n::ps) (.slice (some ⟨q,s,none⟩) L.length c::us) is (L::az) (some ⟨q,s,L.length,rw⟩::ws)
 | emp {a c ps us is az ws} (h:Args w ps us is az ws):Args w (.emp::ps) (.slice a 0 c::us) is ([]::az) (none::ws)
 | zc {q s ps us is az ws} (h:Args w ps us is az ws):Args w (.zc::ps) (.slice (some ⟨q,s,none⟩) 0 0::us) is ([]::az) (none::ws)
 | gr {k q s c L ps us is az ws} (hm:MemG w q s c k L) (hc:L.length≤c) (h:Args w ps us is az ws):Args w (.gr k::ps) (.slice (some ⟨q,s,none⟩) L.length c::us) is (L::az) (some ⟨q,s,c,true⟩::ws)
 | ign {v ps us is az ws} (hv:cellOk v=true) (h:Args w ps us is az ws):Args w (.ign::ps) (v::us) is az (none::ws)
 | kst {v ps us is az ws} (hv:cellOk v=true) (h:Args w ps us is az ws):Args w (.kst v::ps) (v::us) is az (none::ws)
def ApartW:List (Option Win)→Prop
 | []=>True
 | none::ws=>ApartW ws
 | some x::ws=>(∀ y,some y∈ws→x.q=y.q→(x.rw=true∨y.rw=true)→x.s+x.n≤y.s∨y.s+y.n≤x.s)∧ApartW ws
def rwW:List Pa→List (Option Win)→Option (Win×IntKind)
 | .ptr k _ true::_,some x::_=>some (x,k)
 | .sl k true _::_,some x::_=>some (x,k)
 | _::ps,_::ws=>rwW ps ws
 | _,_=>none
def grW:List Pa→List (Option Win)→Option Win
 | .gr _::_,some x::_=>some x
 | _::ps,_::ws=>grW ps ws
 | _,_=>none
structure Grow (x:Option Win) (w w':World):Prop where
 os:w'.os=w.os
 tape:w'.tape=w.tape
 output:w'.output=w.output
 size:w.heap.size≤w'.heap.size
 old:∀q,q<w.heap.size→(∀ y,x=some y→y.q=q→False)→w'.heap[q]? =w.heap[q]?
 part:∀y arr el fz,x=some y→w.heap[y.q]? =some (.cells arr el fz)→∃arr',w'.heap[y.q]? =some (.cells arr' el fz)∧arr'.size=arr.size∧∀j,(j<y.s∨y.s+y.n≤j)→arr'[j]? =arr[j]?
def Fresh (x:Option Win)(w w':World)(k:IntKind)(L:List Int)(v:Value):Prop :=
 ∃q s c arr el,v= .slice (some ⟨q,s,none⟩) L.length c∧L.length≤c∧(w.heap.size≤q∨∃y,x=some y∧y.q=q∧y.s≤s∧s+c≤y.s+y.n)∧w'.heap[q]? =some (.cells arr el (0,0))∧s+c≤arr.size ∧
  (∀ j v,L[j]? =some v→arr[s+j]? =some (.int k v))∧∀j,L.length≤j→j<c→arr[s+j]? =some (.int k 0)
def ResV (F:Fns)(f:Nat)(is:List Int)(az:List (List Int))(sl:Value):List Re→Nat→List Value→Prop
 | [],_,[]=>True
 | .int k::r,j,v::vs=>v= .int k (F.i f is az j)∧ResV F f is az sl r (j+1) vs
 | .bool::r,j,v::vs=>v= .bool (!(F.i f is az j==0))∧ResV F f is az sl r (j+1) vs
 | .agg k n::r,j,v::vs=>v= .agg (intsV k ((List.range' j n).map (F.i f is az))).toArray∧ResV F f is az sl r (j+n) vs
 | .sl _ _::r,j,v::vs=>v=sl∧ResV F f is az sl r j vs
 | .tl::r,j,v::vs=>(∃ q s n c o m:Nat,sl= .slice (some ⟨q,s,none⟩) n c∧F.i f is az j=o∧F.i f is az (j+1)=m∧o+m≤c∧v= .slice (some ⟨q,s+o,none⟩) m (c-o))∧ResV F f is az sl r (j+2) vs
 | .emp::r,j,v::vs=>(∃ a c,v= .slice a 0 c)∧ResV F f is az sl r j vs
 | .kst c::r,j,v::vs=>v=c∧ResV F f is az sl r j vs
 | .nn::r,j,v::vs=>(∃ t a,v= .iface t a)∧ResV F f is az sl r j vs
 | _,_,_=>False
def tupOf:List Value→Value
 | [v]=>v
 | l=> .tuple l.toArray
def ResOk (P:Program)(F:Fns)(ct:Ct)(is:List Int)(az:List (List Int))(ws:List (Option Win))(w:World)(u:Value)(w':World):Prop :=
 ∃w1 vs sl,u=tupOf vs∧(match rwW ct.ps ws with
  | none=>w1=w
  | some (x,k)=>(F.a ct.fw is az).length=x.n∧(storeCells ⟨x.q,x.s,none⟩ (intsV k (F.a ct.fw is az)) 0).run P w= .ok () w1) ∧
  Grow (grW ct.ps ws) w1 w'∧(match slOf ct.res with
   | none=>True
   | some (k,n)=>Fresh (grW ct.ps ws) w1 w' k (F.a ct.fs is az) sl∧∀m,n=some m→(F.a ct.fs is az).length=m) ∧
  ResV F ct.fi is az sl ct.res 0 vs
def GlobOk (glp:Option Nat)(w:World)(us:List Value)(ws:List (Option Win)):Prop :=
 match glp with
 | none=>True
 | some g=>∃arr el fz p,w.heap[g]? =some (.cells arr el fz)∧arr[0]? =some p∧(∀ v,us.head? =some v→v=p)∧∀y,some y∈ws→y.rw=true→y.q=g→y.s+y.n≤0∨1≤y.s
def CSpec (P:Program)(F:Fns)(f:FuncId)(ct:Ct):Prop :=
 ∀us is az ws w,Args w ct.ps us is az ws→ApartW ws→GlobOk ct.glp w us ws→F.p ct.p is az→Calls P f (selL ct.sel us).toArray w fun e w'=>∃u,e= .returned u∧ResOk P F ct is az ws w u w'
section
variable {P:Program} {F:Fns} {N:Num} {E:Env} {σ σ':St}
theorem natsB_eq:∀ {l m:List Nat},natsB l m=true→l=m
 | [],[],_=>rfl
 | x::l,y::m,h=>by simp only[natsB,aG] at h;rw[aF h.1,natsB_eq h.2]
 | [],_::_,h=>by cases h
 | _::_,[],h=>by cases h
theorem eqV_eq {v v':Value}(h:eqV v v'=true):v=v':=by
 unfold eqV at h;split at h
 ·rename_i s s';have h1:=natsB_eq h;have h2:s.data.toList=s'.data.toList:=by
   have:∀ {l m:List UInt8},l.map UInt8.toNat=m.map UInt8.toNat→l=m:=by
    intro l
    induction l with
    | nil=>intro m h;cases m with | nil=>rfl | cons _ _=>simp at h
    | cons x l ih =>
     intro m h;cases m with
     | nil=>simp at h
     | cons y m =>simp only[aI,List.cons.injEq] at h;rw[ih h.2,UInt8.toNat_inj.1 h.1]
   exact this h1
  have h3:s.data=s'.data:=Array.toList_inj.1 h2;cases s;cases s';simp only at h3;rw[h3]
 ·rfl
 ·exact sameV_eq h
theorem arsN_size {t:Tr Sc}{k:IntKind}:∀ {m o:Nat} {l:List Ar},arsN t k o m=some l→l.length=m
 | 0,o,l,h=>by simp only[arsN,aA] at h;subst h;rfl
 | m+1,o,l,h=>by
  simp only[arsN] at h;split at h
  ·split at h
   ·rename_i k' a _;cases hk:kindB k k' with
    | false=>rw[hk] at h;cases h
    | true =>
     rw[hk] at h;simp only[aH] at h;split at h
     ·rename_i r hr;simp only[aA] at h;subst h;simp[arsN_size hr]
     ·cases h
   ·cases h
  ·cases h
theorem runLen_le {t:Tr Sc}{k:IntKind}:∀(f o:Nat),runLen t k f o≤f
 | 0,_=>aS _
 | f+1,o=>by
  unfold runLen
  split
  ·split
   ·rename_i k' _ _;cases kindB k k' with
    | true=>simp only[aH];have:=runLen_le (t:=t) (k:=k) f (o+1);omega
    | false=>simp
   ·omega
  ·omega
theorem rng_win {k:IntKind}{b:Nat}{off m:Ar}{X:Nat}{rw:Bool}{w:World}(h:σ.rng k b off m=some (X,σ'))(hwn:∀τ:St,τ.bks=σ.bks→τ.win b off m rw=true)(hH:Hold F N σ')(hw:BW N E σ.bks w) :
 ∃q s c B,E.blk b=some (q,s,c)∧σ.bks.get b=some B∧(rw=true→B.rw=true)∧0≤off.ev N∧0≤m.ev N∧(off.ev N).toNat+(m.ev N).toNat≤B.wid N c∧(N.a X).length=(m.ev N).toNat∧Mem w q (s+(off.ev N).toNat) k (N.a X) rw:=by
 obtain ⟨q,s,c,g1,g2,g3,g4,g5⟩:=rng_at h hH hw;have hwn:=hwn σ rfl;unfold St.win at hwn;split at hwn
 ·rename_i B hB;simp only[aG,eM,Bool.not_eq_true'] at hwn;obtain ⟨hr,hwd⟩:=hwn;have hr':rw=true→B.rw=true:=by
   intro e;rcases hr with h | h
   ·rw [e] at h;cases h
   ·exact h
  obtain ⟨q',s',c',arr,el,fz,k1,k2,k3,k4,k5⟩:=hw.at' b B hB;rw[g1] at k1;simp only[aA,aD] at k1;obtain ⟨rfl,rfl,rfl⟩:=k1;have hlen:(off.ev N).toNat+(m.ev N).toNat≤B.wid N c:=by
   unfold St.rng at h;rw[hB] at h;simp only at h;unfold Bk.wid;cases hg:B.arr with
   | some x =>
    obtain ⟨k',A,g⟩:=x;rw[hg] at h;simp only at h;cases hk:kindB k k' with
    | false=>rw[hk] at h;cases h
    | true =>
     rw[hk] at h;simp only[aH,aA,aD] at h;obtain ⟨rfl,rfl⟩:=h;have hf:0≤off.ev N∧0≤m.ev N∧off.ev N+m.ev N≤(N.a A).length:=(eT (Ext.mkA _ _) hH).ob;simp only;cases g with
     | true=>simp only[aH];have:=Nat.le_max_right c (N.a A).length;show _≤Nat.max c (N.a A).length;unfold Nat.max at *;omega
     | false=>simp only[aQ];omega
   | none =>
    rw[hg] at h hwd;simp only at h hwd ⊢;split at h
    ·rename_i o m';have:=aM hwd;simpa [Ar.ev] using this
    ·split at h
     ·rename_i l hl;simp only[aA,aD] at h;obtain ⟨rfl,rfl⟩:=h;have hH1:=eT (Ext.mkA _ _) hH;have hY:N.a σ.na=_:=(eT (Ext.ob _ _) hH1).mkA;simp only[Ad.ev] at hY;have hf:0≤off.ev N∧0≤m.ev N∧off.ev N+m.ev N≤(N.a σ.na).length:=hH1.ob;rw[hY,bF,arsN_size hl] at hf;omega
     ·split at h
      ·rename_i o _;split at h
       ·rename_i l hl;simp only[aA,aD] at h;obtain ⟨rfl,rfl⟩:=h;have hH1:=eT (Ext.mkA _ _) hH;have hY:N.a σ.na=_:=(eT (Ext.ob _ _) hH1).mkA;simp only[Ad.ev] at hY;have hf:0≤(Ar.kst 0).ev N∧0≤m.ev N∧(Ar.kst 0).ev N+m.ev N≤(N.a σ.na).length:=hH1.ob;have e0:(Ar.kst 0).ev N=0:=rfl;rw[e0,hY,bF,arsN_size hl] at hf;have hle:=runLen_le (t:=B.cells) (k:=k) (B.n-o) o;have ho:o≤B.n:=by
         cases m with
         | var x=>exact aM hwd
         | kst c =>
          cases c with
          | ofNat c=>have:=aM hwd;omega
          | negSucc c=>exact aM hwd
        have e1:((Ar.kst (Int.ofNat o)).ev N).toNat=o:=rfl;rw[e1];omega
       ·cases h
      ·cases h
  refine ⟨q,s,c,B,g1,hB,hr',g2,g3,hlen,g4,arr,el,fz,k2,fun e=>k3 (hr' e),by omega,fun j v hj=> ?_⟩;have:=g5 j v hj;simp only[World.cell?,k2] at this;simpa using this
 ·cases hwn
def WB (N:Num)(E:Env)(bks:Tr Bk):List (Option Win)→List (Option (Nat×Bool))→Prop
 | [],[]=>True
 | none::ws,none::bs=>WB N E bks ws bs
 | some x::ws,some (b,rw)::bs=>(rw=x.rw∧∃B s0 c,bks.get b=some B∧(x.rw=true→B.rw=true)∧E.blk b=some (x.q,s0,c)∧s0≤x.s∧x.s+x.n≤s0+B.wid N c)∧WB N E bks ws bs
 | _,_=>False
def RWok (N:Num)(E:Env):Option (Nat×Ar×IntKind×Ar)→Option (Win×IntKind)→Prop
 | none,none=>True
 | some (b,off,k,n),some (x,k')=>k=k'∧∃s0 c,E.blk b=some (x.q,s0,c)∧x.s=s0+(off.ev N).toNat∧x.n=(n.ev N).toNat
 | _,_=>False
def GWok (N:Num)(E:Env)(bks:Tr Bk):Option Nat→Option Win→Prop
 | none,none=>True
 | some b,some x=>∃B c,bks.get b=some B∧B.rw=true∧E.blk b=some (x.q,x.s,c)∧B.wid N c=x.n
 | _,_=>False
theorem WB.get {bks:Tr Bk}:∀ {ws:List (Option Win)} {bs:List (Option (Nat×Bool))} {y:Win},WB N E bks ws bs→some y∈ws →
 ∃b B s0 c,some (b,y.rw)∈bs∧bks.get b=some B∧(y.rw=true→B.rw=true)∧E.blk b=some (y.q,s0,c)∧s0≤y.s∧y.s+y.n≤s0+B.wid N c
 | [],_,y,_,h=>by cases h
 | none::ws,none::bs,y,hw,h=>by
  rcases cD.1 h with e | e
  ·cases e
  ·obtain ⟨b,B,s0,c,h1,h2⟩:=WB.get (ws:=ws) hw e;exact ⟨b,B,s0,c,aJ _ h1,h2⟩
 | some x::ws,some (b,rw)::bs,y,hw,h=>by
  obtain ⟨⟨rfl,B,s0,c,h2⟩,h3⟩:=hw;rcases cD.1 h with e | e
  ·simp only[aA] at e;subst e;exact ⟨b,B,s0,c,aN,h2⟩
  ·obtain ⟨b',B',s0',c',g1,g2⟩:=WB.get (ws:=ws) h3 e;exact ⟨b',B',s0',c',aJ _ g1,g2⟩
 | none::_,[],_,hw,_=>hw.elim
 | none::_,some _::_,_,hw,_=>hw.elim
 | some _::_,[],_,hw,_=>hw.elim
 | some _::_,none::_,_,hw,_=>hw.elim
theorem WB.apart {w:World}(hw:BW N E σ.bks w):∀ {ws:List (Option Win)} {bs:List (Option (Nat×Bool))},WB N E σ.bks ws bs→apartB bs=true→ApartW ws
 | [],_,_,_=>trivial
 | none::ws,none::bs,h,hb=>WB.apart hw (ws:=ws) (bs:=bs) h hb
 | some x::ws,some (b,rw)::bs,h,hb=>by
  obtain ⟨⟨rfl,B,s0,c,h2,h3,h4,h5,h6⟩,h7⟩:=h;simp only[apartB,aG,bT] at hb;refine ⟨fun y hy hq hr=> ?_,WB.apart hw h7 hb.2⟩;obtain ⟨b',B',s0',c',g1,g2,g3,g4,g5,g6⟩:=WB.get h7 hy;have:=hb.1 _ g1;simp only[eM,Bool.not_eq_true',aG] at this;have hne:b≠b':=fun e=>by
   rcases this with h | ⟨k1,k2⟩
   ·rw [fY e] at h;cases h
   ·rcases hr with h | h
    ·rw [k1] at h;cases h
    ·rw [k2] at h;cases h
  have:=hw.apart b b' B B' _ _ _ _ _ h2 g2 hne (by rw[←hq];exact h4) g4 (hr.imp h3 g3);omega
 | none::_,[],hw,_=>hw.elim
 | none::_,some _::_,hw,_=>hw.elim
 | some _::_,[],hw,_=>hw.elim
 | some _::_,none::_,hw,_=>hw.elim
end
end Go.Sy
