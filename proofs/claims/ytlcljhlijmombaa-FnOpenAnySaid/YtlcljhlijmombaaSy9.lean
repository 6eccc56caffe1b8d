/- Contracts: what a function is said to do, as a word of the executor; what that word means. Contracts: the executor's word is sound. -/
import Derived.Test.YtlcljhlijmombaaSy8
namespace Go.Sy
inductive Pa where
 | int (k:IntKind)
 | agg (k:IntKind) (n:Nat)
 | ptr (k:IntKind) (n:Nat) (rw:Bool)
 | sl (k:IntKind) (rw:Bool) (n:Option Nat)
 | emp
 | zc
 | gr (k:IntKind)
 | ign
 | kst (v:Value)
inductive Re where
 | int (k:IntKind)
 | bool
 | agg (k:IntKind) (n:Nat)
 | sl (k:IntKind) (n:Option Nat)
 | tl
 | emp
 | kst (v:Value)
structure Ct where
 ps:List Pa
 res:List Re
 p:Nat
 fi:Nat
 fw:Nat
 fs:Nat
 dup:Bool:=false
def sameSl:SV→SV→Bool
 | .one (.sc (.sl b (.kst (.ofNat o)) (.kst (.ofNat n)) (some (.kst (.ofNat c))))),.one (.sc (.sl b' (.kst (.ofNat o')) (.kst (.ofNat n')) (some (.kst (.ofNat c')))))=>Nat.beq b b'&&Nat.beq o o'&&Nat.beq n n'&&Nat.beq c c'
 | _,_=>false
def Ct.undup (ct:Ct)(args:List SV):Option (List SV) :=
 bif ct.dup then (match args with
  | x::y::r=>bif sameSl x y then some (x::r) else none
  | _=>none) else some args
def dupL {α:Type}(d:Bool)(l:List α):List α :=
 bif d then (match l with
  | x::r=>x::x::r
  | []=>[]) else l
def natsB:List Nat→List Nat→Bool
 | [],[]=>true
 | x::l,y::m=>Nat.beq x y&&natsB l m
 | _,_=>false
def eqV (v v':Value):Bool :=
 match v,v' with
 | .string s,.string s'=>natsB (s.data.toList.map UInt8.toNat) (s'.data.toList.map UInt8.toNat)
 | v,v'=>sameV v v'
def St.win (σ:St)(b:Nat)(off n:Ar)(rw:Bool):Bool :=
 match σ.bks.get b with
 | some B=>(!rw||B.rw)&&(match B.arr with
  | some _=>true
  | none=>match off,n with
   | .kst (.ofNat o),.kst (.ofNat m)=>Nat.ble (o+m) B.n
   | .kst (.ofNat o),_=>Nat.ble o B.n
   | _,_=>true)
 | none=>false
def lenB (n:Option Nat)(len:Ar):Bool :=
 match n with
 | none=>true
 | some n=>match len with
  | .kst (.ofNat m)=>Nat.beq m n
  | _=>false
def Pa.take1 (p:Pa)(x:SV)(σ:St):Option (List Ar×List Nat×St) :=
 match p with
 | .int k=>match x with
  | .one (.sc y)=>match y.ar with
   | some (k',a)=>bif kindB k k' then some ([a],[],σ) else none
   | none=>none
  | _=>none
 | .agg k n=>match x with
  | .one (.agg l)=>match arsL k l with
   | some as=>bif Nat.beq l.length n then some ([],[σ.na],σ.mkA (.lit as)) else none
   | none=>none
  | _=>none
 | .ptr k n rw=>match x with
  | .one (.sc (.ptr b off))=>bif σ.win b off (.kst n) rw then match σ.rng k b off (.kst n) with
    | some (X,σ)=>some ([],[X],σ)
    | none=>none
   else none
  | _=>none
 | .sl k rw n=>match x with
  | .one (.sc (.sl b off len cap))=>bif σ.win b off len rw&&lenB n len then
    match (match cap with | some c=>σ.le len c | none=>some σ) with
    | some σ=>match σ.rng k b off len with
     | some (X,σ)=>some ([],[X],σ)
     | none=>none
    | none=>none
   else none
  | _=>none
 | .emp=>match x with
  | .one (.sc (.emp _))=>some ([],[σ.na],σ.mkA (.lit []))
  | .one (.sc (.kst (.slice none 0 _)))=>some ([],[σ.na],σ.mkA (.lit []))
  | _=>none
 | .zc=>match x with
  | .one (.sc (.sl _ _ (.kst (.ofNat 0)) (some (.kst (.ofNat 0)))))=>some ([],[σ.na],σ.mkA (.lit []))
  | _=>none
 | .gr k=>match x with
  | .one (.sc (.sl b (.kst (.ofNat 0)) len none))=>match σ.bks.get b with
   | some B=>match B.arr with
    | some (k',A,true)=>bif kindB k k'&&B.rw then some ([],[A],σ.ob (.lenA len A)) else none
    | _=>none
   | none=>none
  | .one (.sc (.sl b (.kst (.ofNat 0)) (.kst (.ofNat 0)) (some (.kst (.ofNat 0)))))=>match σ.bks.get b with
   | some B=>match B.arr with
    | none=>bif B.rw&&Nat.beq B.n 0 then some ([],[σ.na],σ.mkA (.lit [])) else none
    | some _=>none
   | none=>none
  | _=>none
 | .ign=>match x with
  | .one (.sc _)=>some ([],[],σ)
  | _=>none
 | .kst v=>match x with
  | .one (.sc (.kst v'))=>bif eqV v v' then some ([],[],σ) else none
  | _=>none
def takeL:List Pa→List SV→St→Option (List Ar×List Nat×St)
 | [],[],σ=>some ([],[],σ)
 | p::ps,x::xs,σ=>match p.take1 x σ with
  | some (i,a,σ)=>match takeL ps xs σ with
   | some (is,as,σ)=>some (i++is,a++as,σ)
   | none=>none
  | none=>none
 | _,_,_=>none
def Pa.blk:Pa→SV→Option (Nat×Bool)
 | .ptr _ _ rw,.one (.sc (.ptr b _))=>some (b,rw)
 | .sl _ rw _,.one (.sc (.sl b _ _ _))=>some (b,rw)
 | .gr _,.one (.sc (.sl b _ _ _))=>some (b,true)
 | _,_=>none
def blksL:List Pa→List SV→List (Option (Nat×Bool))
 | p::ps,x::xs=>p.blk x::blksL ps xs
 | _,_=>[]
def apartB:List (Option (Nat×Bool))→Bool
 | []=>true
 | none::l=>apartB l
 | some (b,rw)::l=>l.all (fun y=>match y with | none=>true | some (b',rw')=> !(Nat.beq b b')||(!rw&& !rw'))&&apartB l
def rwOf:List Pa→List SV→Option (Nat×Ar×IntKind×Ar)
 | .ptr k n true::_,.one (.sc (.ptr b off))::_=>some (b,off,k,.kst n)
 | .sl k true _::_,.one (.sc (.sl b off len _))::_=>some (b,off,k,len)
 | _::ps,_::xs=>rwOf ps xs
 | _,_=>none
def grOf:List Pa→List SV→Option Nat
 | .gr _::_,.one (.sc (.sl b _ _ _))::_=>some b
 | _::ps,_::xs=>grOf ps xs
 | _,_=>none
def St.drop (σ:St):Option Nat→St
 | none=>σ
 | some b=>{σ with bks:=σ.bks.erase b}
def ownN:List Pa→Nat
 | .ptr _ _ true::ps | .sl _ true _::ps | .gr _::ps=>ownN ps+1
 | _::ps=>ownN ps
 | []=>0
def hasGr:List Pa→Bool
 | .gr _::_=>true
 | _::ps=>hasGr ps
 | []=>false
def slOf:List Re→Option (IntKind×Option Nat)
 | []=>none
 | .sl k n::_=>some (k,n)
 | _::r=>slOf r
def Ct.okG (ct:Ct):Bool:= !(hasGr ct.ps)||(Nat.beq (ownN ct.ps) 1&&(match slOf ct.res with | some _=>true | none=>false))
def cellsR (k:IntKind)(f:Nat)(is:List Ar)(as:List Nat):Nat→Nat→St→List Sc×St
 | _,0,σ=>([],σ)
 | j,n+1,σ=>(.num k σ.nx::(cellsR k f is as (j+1) n (σ.mk1 (.fn f is as j))).1,(cellsR k f is as (j+1) n (σ.mk1 (.fn f is as j))).2)
def resL (f:Nat)(is:List Ar)(as:List Nat)(sl:Sc):List Re→Nat→St→Option (List V1×St)
 | [],_,σ=>some ([],σ)
 | .int k::r,j,σ=>match resL f is as sl r (j+1) (σ.mk1 (.fn f is as j)) with
  | some (vs,σ')=>some (.sc (.num k σ.nx)::vs,σ')
  | none=>none
 | .bool::r,j,σ=>match (σ.mk1 (.fn f is as j)).ask with
  | some (t,σ1)=>match resL f is as sl r (j+1) (σ1.ob (.boo σ.nx t)) with
   | some (vs,σ')=>some (.sc (.kst (.bool t))::vs,σ')
   | none=>none
  | none=>none
 | .agg k n::r,j,σ=>match resL f is as sl r (j+n) (cellsR k f is as j n σ).2 with
  | some (vs,σ')=>some (.agg (cellsR k f is as j n σ).1::vs,σ')
  | none=>none
 | .sl _ _::r,j,σ=>match resL f is as sl r j σ with
  | some (vs,σ')=>some (.sc sl::vs,σ')
  | none=>none
 | .tl::r,j,σ=>match sl with
  | .sl b (.kst (.ofNat 0)) _ none=>match resL f is as sl r (j+2) ((σ.mk1 (.fn f is as j)).mk1 (.fn f is as (j+1))) with
   | some (vs,σ')=>some (.sc (.sl b (.var σ.nx) (.var (σ.nx+1)) none)::vs,σ')
   | none=>none
  | _=>none
 | .emp::r,j,σ=>match resL f is as sl r j {σ with nv:=σ.nv+1} with
  | some (vs,σ')=>some (.sc (.emp σ.nv)::vs,σ')
  | none=>none
 | .kst v::r,j,σ=>bif cellOk v then (match resL f is as sl r j σ with
  | some (vs,σ')=>some (.sc (.kst v)::vs,σ')
  | none=>none) else none
def Ct.apply1 (ct:Ct)(args:List SV)(σ0:St):Option (SV×St) :=
 match takeL ct.ps args σ0 with
 | none=>none
 | some (is,as,σ) =>
  bif apartB (blksL ct.ps args)&&ct.okG then
   match (match rwOf ct.ps args with
    | some (b,off,k,n)=>((σ.ob (.prd ct.p is as)).mkA (.fn ct.fw is as)).wrt b off k σ.na n
    | none=>some ((σ.ob (.prd ct.p is as)).drop (grOf ct.ps args))) with
   | none=>none
   | some σ =>
    match (match slOf ct.res with
     | some (k,some n)=>resL ct.fi is as (.sl σ.nb (.kst 0) (.kst n) none) ct.res 0 ((σ.mkA (.fn ct.fs is as)).newA k σ.na true)
     | some (k,none)=>resL ct.fi is as (.sl σ.nb (.kst 0) (.var σ.nx) none) ct.res 0 (((σ.mkA (.fn ct.fs is as)).newA k σ.na true).mk1 (.len σ.na))
     | none=>resL ct.fi is as (.kst (.bool true)) ct.res 0 σ) with
    | some (vs,σ')=>some (resV vs,σ')
    | none=>none
  else none
def Ct.apply (ct:Ct)(args:List SV)(σ:St):Option (SV×St) :=
 match ct.undup args with
 | some args=>ct.apply1 args σ
 | none=>none
def Mem (w:World)(q s:Nat)(k:IntKind)(L:List Int)(rw:Bool):Prop :=
 ∃arr el fz,w.heap[q]? =some (.cells arr el fz)∧(rw=true→fz=(0,0))∧s+L.length≤arr.size∧∀j v,L[j]? =some v→arr[s+j]? =some (.int k v)
def MemG (w:World)(q s c:Nat)(k:IntKind)(L:List Int):Prop :=
 ∃arr el,w.heap[q]? =some (.cells arr el (0,0))∧s+c≤arr.size∧(∀ j v,L[j]? =some v→arr[s+j]? =some (.int k v))∧∀j,L.length≤j→j<c→arr[s+j]? =some (.int k 0)
structure Win where
 q:Nat
 s:Nat
 n:Nat
 rw:Bool
inductive Args (w:World):List Pa→List Value→List Int→List (List Int)→List (Option Win)→Prop
 | nil:Args w [] [] [] [] []
 | int {k n ps us is as ws} (h:Args w ps us is as ws):Args w (.int k::ps) (.int k n::us) (n::is) as (none::ws)
 | agg {k n L ps us is as ws} (hl:L.length=n) (h:Args w ps us is as ws):Args w (.agg k n::ps) (.agg (intsV k L).toArray::us) is (L::as) (none::ws)
 | ptr {k n rw q s L ps us is as ws} (hm:Mem w q s k L rw) (hl:L.length=n) (h:Args w ps us is as ws):Args w (.ptr k n rw::ps) (.pointer (some ⟨q,s,none⟩)::us) is (L::as) (some ⟨q,s,n,rw⟩::ws)
 | sl {k rw n q s c L ps us is as ws} (hm:Mem w q s k L rw) (hc:L.length≤c) (hn:∀m,n=some m→L.length=m) (h:Args w ps us is as ws) :
   Args w (.sl k rw n::ps) (.slice (some ⟨q,s,none⟩) L.length c::us) is (L::as) (some ⟨q,s,L.length,rw⟩::ws)
 | emp {a c ps us is as ws} (h:Args w ps us is as ws):Args w (.emp::ps) (.slice a 0 c::us) is ([]::as) (none::ws)
 | zc {q s ps us is as ws} (h:Args w ps us is as ws):Args w (.zc::ps) (.slice (some ⟨q,s,none⟩) 0 0::us) is ([]::as) (none::ws)
 | gr {k q s c L ps us is as ws} (hm:MemG w q s c k L) (hc:L.length≤c) (h:Args w ps us is as ws):Args w (.gr k::ps) (.slice (some ⟨q,s,none⟩) L.length c::us) is (L::as) (some ⟨q,s,c,true⟩::ws)
 | ign {v ps us is as ws} (hv:cellOk v=true) (h:Args w ps us is as ws):Args w (.ign::ps) (v::us) is as (none::ws)
 | kst {v ps us is as ws} (hv:cellOk v=true) (h:Args w ps us is as ws):Args w (.kst v::ps) (v::us) is as (none::ws)
def ApartW:List (Option Win)→Prop
 | []=>True
 | none::ws=>ApartW ws
 | some x::ws=>(∀ y,some y∈ws→x.q=y.q→(x.rw=true∨y.rw=true)→x.s+x.n≤y.s∨y.s+y.n≤x.s)∧ApartW ws
def rwW:List Pa→List (Option Win)→Option (Win×IntKind)
 | .ptr k _ true::_,some x::_=>some (x,k)
 | .sl k true _::_,some x::_=>some (x,k)
 | _::ps,_::ws=>rwW ps ws
 | _,_=>none
def grW:List Pa→List (Option Win)→Option Win
 | .gr _::_,some x::_=>some x
 | _::ps,_::ws=>grW ps ws
 | _,_=>none
structure Grow (x:Option Win) (w w':World):Prop where
 os:w'.os=w.os
 tape:w'.tape=w.tape
 output:w'.output=w.output
 size:w.heap.size≤w'.heap.size
 old:∀q,q<w.heap.size→(∀ y,x=some y→y.q=q→False)→w'.heap[q]? =w.heap[q]?
 part:∀y arr el fz,x=some y→w.heap[y.q]? =some (.cells arr el fz)→∃arr',w'.heap[y.q]? =some (.cells arr' el fz)∧arr'.size=arr.size∧∀j,(j<y.s∨y.s+y.n≤j)→arr'[j]? =arr[j]?
def Fresh (x:Option Win)(w w':World)(k:IntKind)(L:List Int)(v:Value):Prop :=
 ∃q s c arr el,v= .slice (some ⟨q,s,none⟩) L.length c∧L.length≤c∧(w.heap.size≤q∨∃y,x=some y∧y.q=q∧y.s≤s∧s+c≤y.s+y.n)∧w'.heap[q]? =some (.cells arr el (0,0))∧s+c≤arr.size ∧
  (∀ j v,L[j]? =some v→arr[s+j]? =some (.int k v))∧∀j,L.length≤j→j<c→arr[s+j]? =some (.int k 0)
def ResV (F:Fns)(f:Nat)(is:List Int)(as:List (List Int))(sl:Value):List Re→Nat→List Value→Prop
 | [],_,[]=>True
 | .int k::r,j,v::vs=>v= .int k (F.i f is as j)∧ResV F f is as sl r (j+1) vs
 | .bool::r,j,v::vs=>v= .bool (!(F.i f is as j==0))∧ResV F f is as sl r (j+1) vs
 | .agg k n::r,j,v::vs=>v= .agg (intsV k ((List.range' j n).map (F.i f is as))).toArray∧ResV F f is as sl r (j+n) vs
 | .sl _ _::r,j,v::vs=>v=sl∧ResV F f is as sl r j vs
 | .tl::r,j,v::vs=>(∃ q s n c o m:Nat,sl= .slice (some ⟨q,s,none⟩) n c∧F.i f is as j=o∧F.i f is as (j+1)=m∧o+m≤c∧v= .slice (some ⟨q,s+o,none⟩) m (c-o))∧ResV F f is as sl r (j+2) vs
 | .emp::r,j,v::vs=>(∃ a c,v= .slice a 0 c)∧ResV F f is as sl r j vs
 | .kst c::r,j,v::vs=>v=c∧ResV F f is as sl r j vs
 | _,_,_=>False
def tupOf:List Value→Value
 | [v]=>v
 | l=> .tuple l.toArray
def ResOk (P:Program)(F:Fns)(ct:Ct)(is:List Int)(as:List (List Int))(ws:List (Option Win))(w:World)(u:Value)(w':World):Prop :=
 ∃w1 vs sl,u=tupOf vs∧(match rwW ct.ps ws with
   | none=>w1=w
   | some (x,k)=>(F.a ct.fw is as).length=x.n∧(storeCells ⟨x.q,x.s,none⟩ (intsV k (F.a ct.fw is as)) 0).run P w= .ok () w1) ∧
  Grow (grW ct.ps ws) w1 w'∧(match slOf ct.res with
   | none=>True
   | some (k,n)=>Fresh (grW ct.ps ws) w1 w' k (F.a ct.fs is as) sl∧∀m,n=some m→(F.a ct.fs is as).length=m) ∧
  ResV F ct.fi is as sl ct.res 0 vs
def CSpec (P:Program)(F:Fns)(f:FuncId)(ct:Ct):Prop :=
 ∀us is as ws w,Args w ct.ps us is as ws→ApartW ws→F.p ct.p is as→Calls P f (dupL ct.dup us).toArray w fun e w'=>∃u,e= .returned u∧ResOk P F ct is as ws w u w'
section
variable {P:Program} {F:Fns} {N:Num} {E:Env} {σ σ':St}
theorem natsB_eq:∀ {l m:List Nat},natsB l m=true→l=m
 | [],[],_=>rfl
 | x::l,y::m,h=>by
  simp only[natsB,Bool.and_eq_true] at h
  rw[Nat.eq_of_beq_eq_true h.1,natsB_eq h.2]
 | [],_::_,h=>by cases h
 | _::_,[],h=>by cases h
theorem eqV_eq {v v':Value}(h:eqV v v'=true):v=v':=by
 unfold eqV at h
 split at h
 ·rename_i s s'
  have h1:=natsB_eq h
  have h2:s.data.toList=s'.data.toList:=by
   have:∀ {l m:List UInt8},l.map UInt8.toNat=m.map UInt8.toNat→l=m:=by
    intro l
    induction l with
    | nil=>intro m h;cases m with | nil=>rfl | cons _ _=>simp at h
    | cons x l ih =>
     intro m h
     cases m with
     | nil=>simp at h
     | cons y m =>
      simp only[List.map_cons,List.cons.injEq] at h
      rw[ih h.2,UInt8.toNat_inj.1 h.1]
   exact this h1
  have h3:s.data=s'.data:=Array.toList_inj.1 h2
  cases s;cases s';simp only at h3;rw[h3]
 ·exact sameV_eq h
theorem arsN_size {t:Tr Sc}{k:IntKind}:∀ {m o:Nat} {l:List Ar},arsN t k o m=some l→l.length=m
 | 0,o,l,h=>by simp only[arsN,Option.some.injEq] at h;subst h;rfl
 | m+1,o,l,h=>by
  simp only[arsN] at h
  split at h
  ·split at h
   ·rename_i k' a _
    cases hk:kindB k k' with
    | false=>rw[hk] at h;cases h
    | true =>
     rw[hk] at h
     simp only[cond_true] at h
     split at h
     ·rename_i r hr
      simp only[Option.some.injEq] at h
      subst h
      simp[arsN_size hr]
     ·cases h
   ·cases h
  ·cases h
theorem runLen_le {t:Tr Sc}{k:IntKind}:∀(f o:Nat),runLen t k f o≤f
 | 0,_=>Nat.le_refl _
 | f+1,o=>by
  unfold runLen
  split
  ·split
   ·rename_i k' _ _
    cases kindB k k' with
    | true=>simp only[cond_true];have:=runLen_le (t:=t) (k:=k) f (o+1);omega
    | false=>simp
   ·omega
  ·omega
theorem rng_win {k:IntKind}{b:Nat}{off m:Ar}{X:Nat}{rw:Bool}{w:World}(h:σ.rng k b off m=some (X,σ'))(hwn:∀τ:St,τ.bks=σ.bks→τ.win b off m rw=true)(hH:Hold F N σ')(hw:BW N E σ.bks w) :
  ∃q s c B,E.blk b=some (q,s,c)∧σ.bks.get b=some B∧(rw=true→B.rw=true)∧0≤off.ev N∧0≤m.ev N∧(off.ev N).toNat+(m.ev N).toNat≤B.wid N c∧(N.a X).length=(m.ev N).toNat∧Mem w q (s+(off.ev N).toNat) k (N.a X) rw:=by
 obtain ⟨q,s,c,g1,g2,g3,g4,g5⟩:=rng_at h hH hw
 have hwn:=hwn σ rfl
 unfold St.win at hwn
 split at hwn
 ·rename_i B hB
  simp only[Bool.and_eq_true,Bool.or_eq_true,Bool.not_eq_true'] at hwn
  obtain ⟨hr,hwd⟩:=hwn
  have hr':rw=true→B.rw=true:=by
   intro e
   rcases hr with h | h
   ·rw [e] at h;cases h
   ·exact h
  obtain ⟨q',s',c',arr,el,fz,k1,k2,k3,k4,k5⟩:=hw.at' b B hB
  rw[g1] at k1
  simp only[Option.some.injEq,Prod.mk.injEq] at k1
  obtain ⟨rfl,rfl,rfl⟩:=k1
  have hlen:(off.ev N).toNat+(m.ev N).toNat≤B.wid N c:=by
   unfold St.rng at h
   rw[hB] at h
   simp only at h
   unfold Bk.wid
   cases hg:B.arr with
   | some x =>
    obtain ⟨k',A,g⟩:=x
    rw[hg] at h
    simp only at h
    cases hk:kindB k k' with
    | false=>rw[hk] at h;cases h
    | true =>
     rw[hk] at h
     simp only[cond_true,Option.some.injEq,Prod.mk.injEq] at h
     obtain ⟨rfl,rfl⟩:=h
     have hf:0≤off.ev N∧0≤m.ev N∧off.ev N+m.ev N≤(N.a A).length:=(Hold.of_ext (Ext.mkA _ _) hH).ob
     simp only
     cases g with
     | true=>simp only[cond_true];have:=Nat.le_max_right c (N.a A).length;show _≤Nat.max c (N.a A).length;unfold Nat.max at *;omega
     | false=>simp only[cond_false];omega
   | none =>
    rw[hg] at h hwd
    simp only at h hwd ⊢
    split at h
    ·rename_i o m'
     have:=Nat.le_of_ble_eq_true hwd
     simpa [Ar.ev] using this
    ·split at h
     ·rename_i l hl
      simp only[Option.some.injEq,Prod.mk.injEq] at h
      obtain ⟨rfl,rfl⟩:=h
      have hH1:=Hold.of_ext (Ext.mkA _ _) hH
      have hY:N.a σ.na=_:=(Hold.of_ext (Ext.ob _ _) hH1).mkA
      simp only[Ad.ev] at hY
      have hf:0≤off.ev N∧0≤m.ev N∧off.ev N+m.ev N≤(N.a σ.na).length:=hH1.ob
      rw[hY,List.length_map,arsN_size hl] at hf
      omega
     ·split at h
      ·rename_i o _
       split at h
       ·rename_i l hl
        simp only[Option.some.injEq,Prod.mk.injEq] at h
        obtain ⟨rfl,rfl⟩:=h
        have hH1:=Hold.of_ext (Ext.mkA _ _) hH
        have hY:N.a σ.na=_:=(Hold.of_ext (Ext.ob _ _) hH1).mkA
        simp only[Ad.ev] at hY
        have hf:0≤(Ar.kst 0).ev N∧0≤m.ev N∧(Ar.kst 0).ev N+m.ev N≤(N.a σ.na).length:=hH1.ob
        have e0:(Ar.kst 0).ev N=0:=rfl
        rw[e0,hY,List.length_map,arsN_size hl] at hf
        have hle:=runLen_le (t:=B.cells) (k:=k) (B.n-o) o
        have ho:o≤B.n:=by
         cases m with
         | var x=>exact Nat.le_of_ble_eq_true hwd
         | kst c =>
          cases c with
          | ofNat c=>have:=Nat.le_of_ble_eq_true hwd;omega
          | negSucc c=>exact Nat.le_of_ble_eq_true hwd
        have e1:((Ar.kst (Int.ofNat o)).ev N).toNat=o:=rfl
        rw[e1];omega
       ·cases h
      ·cases h
  refine ⟨q,s,c,B,g1,hB,hr',g2,g3,hlen,g4,arr,el,fz,k2,fun e=>k3 (hr' e),by omega,fun j v hj=> ?_⟩
  have:=g5 j v hj
  simp only[World.cell?,k2] at this
  simpa using this
 ·cases hwn
def WB (N:Num)(E:Env)(bks:Tr Bk):List (Option Win)→List (Option (Nat×Bool))→Prop
 | [],[]=>True
 | none::ws,none::bs=>WB N E bks ws bs
 | some x::ws,some (b,rw)::bs=>(rw=x.rw∧∃B s0 c,bks.get b=some B∧(x.rw=true→B.rw=true)∧E.blk b=some (x.q,s0,c)∧s0≤x.s∧x.s+x.n≤s0+B.wid N c)∧WB N E bks ws bs
 | _,_=>False
def RWok (N:Num)(E:Env):Option (Nat×Ar×IntKind×Ar)→Option (Win×IntKind)→Prop
 | none,none=>True
 | some (b,off,k,n),some (x,k')=>k=k'∧∃s0 c,E.blk b=some (x.q,s0,c)∧x.s=s0+(off.ev N).toNat∧x.n=(n.ev N).toNat
 | _,_=>False
def GWok (N:Num)(E:Env)(bks:Tr Bk):Option Nat→Option Win→Prop
 | none,none=>True
 | some b,some x=>∃B c,bks.get b=some B∧B.rw=true∧E.blk b=some (x.q,x.s,c)∧B.wid N c=x.n
 | _,_=>False
theorem WB.get {bks:Tr Bk}:∀ {ws:List (Option Win)} {bs:List (Option (Nat×Bool))} {y:Win},WB N E bks ws bs→some y∈ws →
  ∃b B s0 c,some (b,y.rw)∈bs∧bks.get b=some B∧(y.rw=true→B.rw=true)∧E.blk b=some (y.q,s0,c)∧s0≤y.s∧y.s+y.n≤s0+B.wid N c
 | [],_,y,_,h=>by cases h
 | none::ws,none::bs,y,hw,h=>by
  rcases List.mem_cons.1 h with e | e
  ·cases e
  ·obtain ⟨b,B,s0,c,h1,h2⟩:=WB.get (ws:=ws) hw e
   exact ⟨b,B,s0,c,List.mem_cons_of_mem _ h1,h2⟩
 | some x::ws,some (b,rw)::bs,y,hw,h=>by
  obtain ⟨⟨rfl,B,s0,c,h2⟩,h3⟩:=hw
  rcases List.mem_cons.1 h with e | e
  ·simp only[Option.some.injEq] at e
   subst e
   exact ⟨b,B,s0,c,List.mem_cons_self,h2⟩
  ·obtain ⟨b',B',s0',c',g1,g2⟩:=WB.get (ws:=ws) h3 e
   exact ⟨b',B',s0',c',List.mem_cons_of_mem _ g1,g2⟩
 | none::_,[],_,hw,_=>hw.elim
 | none::_,some _::_,_,hw,_=>hw.elim
 | some _::_,[],_,hw,_=>hw.elim
 | some _::_,none::_,_,hw,_=>hw.elim
theorem WB.apart {w:World}(hw:BW N E σ.bks w):∀ {ws:List (Option Win)} {bs:List (Option (Nat×Bool))},WB N E σ.bks ws bs→apartB bs=true→ApartW ws
 | [],_,_,_=>trivial
 | none::ws,none::bs,h,hb=>WB.apart hw (ws:=ws) (bs:=bs) h hb
 | some x::ws,some (b,rw)::bs,h,hb=>by
  obtain ⟨⟨rfl,B,s0,c,h2,h3,h4,h5,h6⟩,h7⟩:=h
  simp only[apartB,Bool.and_eq_true,List.all_eq_true] at hb
  refine ⟨fun y hy hq hr=> ?_,WB.apart hw h7 hb.2⟩
  obtain ⟨b',B',s0',c',g1,g2,g3,g4,g5,g6⟩:=WB.get h7 hy
  have:=hb.1 _ g1
  simp only[Bool.or_eq_true,Bool.not_eq_true',Bool.and_eq_true] at this
  have hne:b≠b':=fun e=>by
   rcases this with h | ⟨k1,k2⟩
   ·rw [nbeq_tt e] at h;cases h
   ·rcases hr with h | h
    ·rw [k1] at h;cases h
    ·rw [k2] at h;cases h
  have:=hw.apart b b' B B' _ _ _ _ _ h2 g2 hne (by rw[←hq];exact h4) g4 (hr.imp h3 g3)
  omega
 | none::_,[],hw,_=>hw.elim
 | none::_,some _::_,hw,_=>hw.elim
 | some _::_,[],hw,_=>hw.elim
 | some _::_,none::_,hw,_=>hw.elim
end
section
variable {P:Program} {F:Fns} {N:Num} {E:Env} {σ σ':St}
theorem win_bks {τ:St}(h:τ.bks=σ.bks)(b:Nat)(off n:Ar)(rw:Bool):τ.win b off n rw=σ.win b off n rw:=by
 unfold St.win;rw[h]
theorem take1_pur {p:Pa}{x:SV}{i:List Ar}{a:List Nat}(h:p.take1 x σ=some (i,a,σ')):Pur σ σ':=by
 unfold Pa.take1 at h
 split at h
 ·split at h
  ·split at h
   ·rename_i k _ y _ k' a' hy
    cases hk:kindB k k' with
    | false=>rw[hk] at h;cases h
    | true=>rw[hk] at h;simp only[cond_true,Option.some.injEq,Prod.mk.injEq] at h;rw[←h.2.2];exact Pur.refl _
   ·cases h
  ·cases h
 ·split at h
  ·split at h
   ·rename_i k n _ l _ as' hl
    cases hk:Nat.beq l.length n with
    | false=>rw[hk] at h;cases h
    | true=>rw[hk] at h;simp only[cond_true,Option.some.injEq,Prod.mk.injEq] at h;rw[←h.2.2];exact Pur.mkA _ _
   ·cases h
  ·cases h
 ·split at h
  ·rename_i k n rw _ b off
   cases hk:σ.win b off (.kst n) rw with
   | false=>rw[hk] at h;cases h
   | true =>
    rw[hk] at h
    simp only[cond_true] at h
    split at h
    ·rename_i hr
     simp only[Option.some.injEq,Prod.mk.injEq] at h
     rw[←h.2.2];exact rng_pur hr
    ·cases h
  ·cases h
 ·split at h
  ·rename_i k rw n _ b off len cap
   cases hk:(σ.win b off len rw&&lenB n len) with
   | false=>rw[hk] at h;cases h
   | true =>
    rw[hk] at h
    simp only[cond_true] at h
    split at h
    ·rename_i σ1 hc
     split at h
     ·rename_i hr
      simp only[Option.some.injEq,Prod.mk.injEq] at h
      rw[←h.2.2]
      refine Pur.trans ?_ (rng_pur hr)
      split at hc
      ·exact le_pur hc
      ·simp only[Option.some.injEq] at hc;rw[←hc];exact Pur.refl _
     ·cases h
    ·cases h
  ·cases h
 ·split at h
  ·simp only[Option.some.injEq,Prod.mk.injEq] at h;rw[←h.2.2];exact Pur.mkA _ _
  ·simp only[Option.some.injEq,Prod.mk.injEq] at h;rw[←h.2.2];exact Pur.mkA _ _
  ·cases h
 ·split at h
  ·simp only[Option.some.injEq,Prod.mk.injEq] at h;rw[←h.2.2];exact Pur.mkA _ _
  ·cases h
 ·split at h
  ·rename_i k _ b len
   split at h
   ·rename_i B hB
    split at h
    ·rename_i k' A hg
     cases hk:(kindB k k'&&B.rw) with
     | false=>rw[hk] at h;cases h
     | true=>rw[hk] at h;simp only[cond_true,Option.some.injEq,Prod.mk.injEq] at h;rw[←h.2.2];exact Pur.ob _ _
    ·cases h
   ·cases h
  ·split at h
   ·rename_i B hB
    split at h
    ·cases hk:(B.rw&&Nat.beq B.n 0) with
     | false=>rw[hk] at h;cases h
     | true=>rw[hk] at h;simp only[cond_true,Option.some.injEq,Prod.mk.injEq] at h;rw[←h.2.2];exact Pur.mkA _ _
    ·cases h
   ·cases h
  ·cases h
 ·split at h
  ·simp only[Option.some.injEq,Prod.mk.injEq] at h;rw[←h.2.2];exact Pur.refl _
  ·cases h
 ·split at h
  ·rename_i v _ v'
   cases hk:eqV v v' with
   | false=>rw[hk] at h;cases h
   | true=>rw[hk] at h;simp only[cond_true,Option.some.injEq,Prod.mk.injEq] at h;rw[←h.2.2];exact Pur.refl _
  ·cases h
theorem takeL_pur:∀ {ps:List Pa} {xs:List SV} {is:List Ar} {as:List Nat} {σ σ':St},takeL ps xs σ=some (is,as,σ')→Pur σ σ'
 | [],[],is,as,σ,σ',h=>by simp only[takeL,Option.some.injEq,Prod.mk.injEq] at h;rw[←h.2.2];exact Pur.refl _
 | p::ps,x::xs,is,as,σ,σ',h=>by
  simp only[takeL] at h
  split at h
  ·rename_i h1
   split at h
   ·rename_i h2
    simp only[Option.some.injEq,Prod.mk.injEq] at h
    rw[←h.2.2]
    exact (take1_pur h1).trans (takeL_pur h2)
   ·cases h
  ·cases h
 | [],_::_,_,_,_,_,h=>by cases h
 | _::_,[],_,_,_,_,h=>by cases h
theorem take1_sound {p:Pa}{x:SV}{i:List Ar}{a:List Nat}{u:Value}{w:World}(h:p.take1 x σ=some (i,a,σ'))(hH:Hold F N σ')(hw:BW N E σ.bks w)(hd:x.den N E=some u)
  {ps:List Pa} {us:List Value} {is:List Int} {as:List (List Int)} {ws:List (Option Win)} (hA:Args w ps us is as ws) {bs:List (Option (Nat×Bool))} (hB:WB N E σ.bks ws bs) {xs:List SV}
  (hR:RWok N E (rwOf ps xs) (rwW ps ws)) (hG:GWok N E σ.bks (grOf ps xs) (grW ps ws)) :
  ∃y,Args w (p::ps) (u::us) (i.map (·.ev N)++is) (a.map N.a++as) (y::ws)∧WB N E σ.bks (y::ws) (p.blk x::bs)∧RWok N E (rwOf (p::ps) (x::xs)) (rwW (p::ps) (y::ws))∧GWok N E σ.bks (grOf (p::ps) (x::xs)) (grW (p::ps) (y::ws)):=by
 unfold Pa.take1 at h
 split at h
 ·split at h
  ·split at h
   ·rename_i k _ y _ k' a' hy
    cases hk:kindB k k' with
    | false=>rw[hk] at h;cases h
    | true =>
     have:=kindB_eq hk;subst this
     rw[hk] at h;simp only[cond_true,Option.some.injEq,Prod.mk.injEq] at h
     obtain ⟨rfl,rfl,rfl⟩:=h
     have:=ar_den hy hd
     subst this
     exact ⟨none,.int hA,hB,hR,hG⟩
   ·cases h
  ·cases h
 ·split at h
  ·split at h
   ·rename_i k n _ l _ as' hl
    cases hk:Nat.beq l.length n with
    | false=>rw[hk] at h;cases h
    | true =>
     rw[hk] at h;simp only[cond_true,Option.some.injEq,Prod.mk.injEq] at h
     obtain ⟨rfl,rfl,rfl⟩:=h
     simp only[SV.den,V1.den,Option.map_eq_some_iff] at hd
     obtain ⟨vs,hvs,rfl⟩:=hd
     have e:=arsL_den hl hvs
     have hX:N.a σ.na=_:=hH.mkA
     simp only[Ad.ev] at hX
     have e2:vs=intsV k (N.a σ.na):=by rw[e,hX];simp[intsV]
     have e3:=denL_length hvs
     have e4:=Nat.eq_of_beq_eq_true hk
     subst e2
     refine ⟨none,?_,hB,hR,hG⟩
     refine .agg ?_ hA
     simp only[intsV,List.length_map] at e3;omega
   ·cases h
  ·cases h
 ·split at h
  ·rename_i k n rw _ b off
   cases hk:σ.win b off (.kst n) rw with
   | false=>rw[hk] at h;cases h
   | true =>
    rw[hk] at h
    simp only[cond_true] at h
    split at h
    ·rename_i X σ1 hr
     simp only[Option.some.injEq,Prod.mk.injEq] at h
     obtain ⟨rfl,rfl,rfl⟩:=h
     obtain ⟨q,s,c,B,g1,g2,g3,g4,g5,g6,g7,g8⟩:=rng_win hr (fun τ e=>by rw[win_bks e];exact hk) hH hw
     obtain ⟨q',s',c',k1,k2,rfl⟩:=ptr_den hd
     rw[g1] at k1
     simp only[Option.some.injEq,Prod.mk.injEq] at k1
     obtain ⟨rfl,rfl,rfl⟩:=k1
     have e0:((Ar.kst (n:Int)).ev N).toNat=n:=by simp[Ar.ev]
     rw[e0] at g6 g7
     refine ⟨some ⟨q,s+(off.ev N).toNat,n,rw⟩,.ptr g8 g7 hA,⟨⟨rfl,B,s,c,g2,g3,g1,by simp,by simp only;omega⟩,hB⟩,?_,hG⟩
     cases rw with
     | true=>exact ⟨rfl,s,c,g1,rfl,e0.symm⟩
     | false=>exact hR
    ·cases h
  ·cases h
 ·split at h
  ·rename_i k rw n _ b off len cap
   cases hk:(σ.win b off len rw&&lenB n len) with
   | false=>rw[hk] at h;cases h
   | true =>
    rw[hk] at h
    simp only[cond_true] at h
    simp only[Bool.and_eq_true] at hk
    split at h
    ·rename_i σ1 hc
     split at h
     ·rename_i X σ2 hr
      simp only[Option.some.injEq,Prod.mk.injEq] at h
      obtain ⟨rfl,rfl,rfl⟩:=h
      have hp:Pur σ σ1:=by
       split at hc
       ·exact le_pur hc
       ·simp only[Option.some.injEq] at hc;rw[←hc];exact Pur.refl _
      obtain ⟨q,s,c,B,g1,g2,g3,g4,g5,g6,g7,g8⟩:=rng_win (rw:=rw) hr (fun τ e=>by rw[win_bks (e.trans hp.bks)];exact hk.1) hH (by rw[hp.bks];exact hw)
      obtain ⟨q',s',c',m,k1,k2,rfl,k3,k4⟩:=sl_den hd
      rw[g1] at k1
      simp only[Option.some.injEq,Prod.mk.injEq] at k1
      obtain ⟨rfl,rfl,rfl⟩:=k1
      rw[hp.bks] at g2
      rw[←g7]
      refine ⟨some ⟨q,s+(off.ev N).toNat,(N.a X).length,rw⟩,.sl g8 ?_ ?_ hA,⟨⟨rfl,B,s,c,g2,g3,g1,by simp,by simp only;omega⟩,hB⟩,?_,hG⟩
      ·rw [g7,k3]
       unfold capOf
       split at hc
       ·rename_i a
        have:=le_holds hc (Hold.of_ext (rng_pur hr).ext hH)
        simp only;omega
       ·have:=k4 rfl
        simp only;omega
      ·intro m' e
       subst e
       have:=hk.2
       unfold lenB at this
       simp only at this
       split at this
       ·rename_i m2
        have:=Nat.eq_of_beq_eq_true this
        subst this
        rw[g7];rfl
       ·cases this
      ·cases rw with
       | true=>exact ⟨rfl,s,c,g1,rfl,g7⟩
       | false=>exact hR
     ·cases h
    ·cases h
  ·cases h
 ·split at h
  ·rename_i j
   simp only[Option.some.injEq,Prod.mk.injEq] at h
   obtain ⟨rfl,rfl,rfl⟩:=h
   have hX:N.a σ.na=_:=hH.mkA
   simp only[Ad.ev,List.map_nil] at hX
   obtain ⟨b,c,rfl⟩:∃b c,u= .slice b 0 c:=by
    simp only[SV.den,V1.den,Sc.den] at hd
    split at hd
    ·rename_i b c _
     simp only[Option.some.injEq] at hd
     exact ⟨b,c,hd.symm⟩
    ·cases hd
   refine ⟨none,?_,hB,hR,hG⟩
   simp only[List.map_nil,List.nil_append,List.map_cons,hX,List.cons_append]
   exact .emp hA
  ·rename_i c
   simp only[Option.some.injEq,Prod.mk.injEq] at h
   obtain ⟨rfl,rfl,rfl⟩:=h
   have hX:N.a σ.na=_:=hH.mkA
   simp only[Ad.ev,List.map_nil] at hX
   have:u= .slice none 0 c:=by
    simp only[SV.den,V1.den,Sc.den,cellOk,cond_true,Option.some.injEq] at hd
    exact hd.symm
   subst this
   refine ⟨none,?_,hB,hR,hG⟩
   simp only[List.map_nil,List.nil_append,List.map_cons,hX,List.cons_append]
   exact .emp hA
  ·cases h
 ·split at h
  ·rename_i b off
   simp only[Option.some.injEq,Prod.mk.injEq] at h
   obtain ⟨rfl,rfl,rfl⟩:=h
   have hX:N.a σ.na=_:=hH.mkA
   simp only[Ad.ev,List.map_nil] at hX
   obtain ⟨q',s',c',m,k1,k2,rfl,k3,k4⟩:=sl_den (show (Sc.sl b off (.kst (Int.ofNat 0)) (some (.kst (Int.ofNat 0)))).den N E=some u from hd)
   have:m=0:=by rw[k3];rfl
   subst this
   have e0:((Ar.kst (Int.ofNat 0)).ev N).toNat=0:=rfl
   rw[e0]
   refine ⟨none,?_,hB,hR,hG⟩
   simp only[List.map_nil,List.nil_append,List.map_cons,hX,List.cons_append]
   exact .zc hA
  ·cases h
 ·split at h
  ·rename_i k _ b len
   split at h
   ·rename_i B hB0
    split at h
    ·rename_i k' A hg
     cases hk:(kindB k k'&&B.rw) with
     | false=>rw[hk] at h;cases h
     | true =>
      rw[hk] at h;simp only[cond_true,Option.some.injEq,Prod.mk.injEq] at h
      obtain ⟨rfl,rfl,rfl⟩:=h
      simp only[Bool.and_eq_true] at hk
      have:=kindB_eq hk.1;subst this
      have hlen:len.ev N=(N.a A).length:=hH.ob
      obtain ⟨q,s,c,m,k1,_,rfl,k3,k4⟩:=sl_den (show (Sc.sl b (.kst (Int.ofNat 0)) len none).den N E=some u from hd)
      obtain ⟨q',s',c',arr,el,fz,m1,m2,m3,m4,m5⟩:=hw.at' b B hB0
      rw[k1] at m1
      simp only[Option.some.injEq,Prod.mk.injEq] at m1
      obtain ⟨rfl,rfl,rfl⟩:=m1
      have:=m3 hk.2;subst this
      have e0:((Ar.kst (Int.ofNat 0)).ev N).toNat=0:=rfl
      have k4:=k4 rfl
      rw[e0,hlen] at k4
      rw[k3,e0,hlen]
      simp only[capOf,e0,Nat.add_zero,Nat.sub_zero,Int.toNat_natCast,Nat.zero_add] at k4 ⊢
      have hwid:B.wid N c=c:=by simp only[Bk.wid,hg,cond_true];exact Nat.max_eq_left k4
      rw[hwid] at m4
      unfold Bk.cont at m5
      rw[hg] at m5
      exact ⟨some ⟨q,s,c,true⟩,.gr ⟨arr,el,m2,m4,m5.1,m5.2 rfl⟩ k4 hA,⟨⟨rfl,B,s,c,hB0,fun _=>hk.2,k1,Nat.le_refl _,by rw[hwid];exact Nat.le_refl _⟩,hB⟩,hR,B,c,hB0,hk.2,k1,hwid⟩
    ·cases h
   ·cases h
  ·rename_i b
   split at h
   ·rename_i B hB0
    split at h
    ·rename_i hg
     cases hk:(B.rw&&Nat.beq B.n 0) with
     | false=>rw[hk] at h;cases h
     | true =>
      rw[hk] at h;simp only[cond_true,Option.some.injEq,Prod.mk.injEq] at h
      obtain ⟨rfl,rfl,rfl⟩:=h
      simp only[Bool.and_eq_true] at hk
      have hn:=Nat.eq_of_beq_eq_true hk.2
      have hX:N.a σ.na=_:=hH.mkA
      simp only[Ad.ev,List.map_nil] at hX
      obtain ⟨q,s,c,m,k1,_,rfl,k3,_⟩:=sl_den (show (Sc.sl b (.kst (Int.ofNat 0)) (.kst (Int.ofNat 0)) (some (.kst (Int.ofNat 0)))).den N E=some u from hd)
      obtain ⟨q',s',c',arr,el,fz,m1,m2,m3,m4,m5⟩:=hw.at' b B hB0
      rw[k1] at m1
      simp only[Option.some.injEq,Prod.mk.injEq] at m1
      obtain ⟨rfl,rfl,rfl⟩:=m1
      have:=m3 hk.1;subst this
      have e0:((Ar.kst (Int.ofNat 0)).ev N).toNat=0:=rfl
      simp only[capOf,e0] at k3
      subst k3
      have hwid:B.wid N c=0:=by simp only[Bk.wid,hg,hn]
      rw[hwid] at m4
      rw[e0]
      simp only[List.map_nil,List.nil_append,List.map_cons,hX,List.cons_append,Nat.add_zero]
      exact ⟨some ⟨q,s,0,true⟩,.gr (L:=[]) ⟨arr,el,m2,m4,nofun,fun j _ h=>by omega⟩ (Nat.le_refl _) hA,⟨⟨rfl,B,s,c,hB0,fun _=>hk.1,k1,Nat.le_refl _,by rw[hwid];exact Nat.le_refl _⟩,hB⟩,hR,B,c,hB0,hk.1,k1,hwid⟩
    ·cases h
   ·cases h
  ·cases h
 ·split at h
  ·rename_i y
   simp only[Option.some.injEq,Prod.mk.injEq] at h
   obtain ⟨rfl,rfl,rfl⟩:=h
   exact ⟨none,.ign (Sc.den_cellOk hd) hA,hB,hR,hG⟩
  ·cases h
 ·split at h
  ·rename_i v _ v'
   cases hk:eqV v v' with
   | false=>rw[hk] at h;cases h
   | true =>
    rw[hk] at h;simp only[cond_true,Option.some.injEq,Prod.mk.injEq] at h
    obtain ⟨rfl,rfl,rfl⟩:=h
    have:=eqV_eq hk
    subst this
    obtain ⟨rfl,hc⟩:=kst_cell hd
    exact ⟨none,.kst hc hA,hB,hR,hG⟩
  ·cases h
theorem takeL_sound {w:World}:∀ {ps:List Pa} {xs:List SV} {is:List Ar} {as:List Nat} {σ σ':St} {us:List Value},takeL ps xs σ=some (is,as,σ')→Hold F N σ'→BW N E σ.bks w→denLV N E xs=some us →
  ∃ws,Args w ps us (is.map (·.ev N)) (as.map N.a) ws∧WB N E σ.bks ws (blksL ps xs)∧RWok N E (rwOf ps xs) (rwW ps ws)∧GWok N E σ.bks (grOf ps xs) (grW ps ws)
 | [],[],is,as,σ,σ',us,h,hH,hw,hd=>by
  simp only[takeL,Option.some.injEq,Prod.mk.injEq] at h
  obtain ⟨rfl,rfl,rfl⟩:=h
  simp only[denLV,Option.some.injEq] at hd
  subst hd
  exact ⟨[],.nil,trivial,trivial,trivial⟩
 | p::ps,x::xs,is,as,σ,σ',us,h,hH,hw,hd=>by
  simp only[takeL] at h
  split at h
  ·rename_i i a σ1 h1
   split at h
   ·rename_i is' as' σ2 h2
    simp only[Option.some.injEq,Prod.mk.injEq] at h
    obtain ⟨rfl,rfl,rfl⟩:=h
    obtain ⟨u,us',d1,d2,rfl⟩:=denLV_cons.1 hd
    have hp:=take1_pur h1
    obtain ⟨ws,k1,k2,k3,k4⟩:=takeL_sound h2 hH (by rw[hp.bks];exact hw) d2
    rw[hp.bks] at k2 k4
    obtain ⟨y,m1,m2,m3⟩:=take1_sound h1 (Hold.of_ext (takeL_pur h2).ext hH) hw d1 k1 k2 k3 k4
    exact ⟨y::ws,by simpa using m1,m2,m3⟩
   ·cases h
  ·cases h
 | [],_::_,_,_,_,_,_,h,_,_,_=>by cases h
 | _::_,[],_,_,_,_,_,h,_,_,_=>by cases h
theorem cellsR_pur {k:IntKind}{f:Nat}{is:List Ar}{as:List Nat}:∀(n j:Nat) (σ:St),Pur σ (cellsR k f is as j n σ).2
 | 0,_,σ=>Pur.refl σ
 | n+1,j,σ=>(Pur.mk1 σ _).trans (cellsR_pur n (j+1) _)
theorem cellsR_den {k:IntKind}{f:Nat}{is:List Ar}{as:List Nat}:∀(n j:Nat) (σ:St),Hold F N (cellsR k f is as j n σ).2 →
  denL N E (cellsR k f is as j n σ).1=some (intsV k ((List.range' j n).map (F.i f (is.map (·.ev N)) (as.map N.a))))
 | 0,_,σ,_=>rfl
 | n+1,j,σ,hH=>by
  have h1:=cellsR_den n (j+1) (σ.mk1 (.fn f is as j)) hH
  have hx:=(Hold.of_ext (cellsR_pur n (j+1) (σ.mk1 (.fn f is as j))).ext hH).mk1
  simp only[Nd.ev,hH.fns] at hx
  simp only[cellsR,List.range'_succ,List.map_cons]
  refine denL_cons.2 ⟨_,_,?_,h1,rfl⟩
  simp only[Sc.den,hx]
theorem ask_spec {t:Bool}{σ1:St}(h:σ.ask=some (t,σ1)):Pur σ σ1:=by
 unfold St.ask at h
 split at h
 ·simp only[Option.some.injEq,Prod.mk.injEq] at h
  rw[←h.2]
  exact ⟨⟨fun _ m=>m,fun _ m=>m,rfl,rfl,Nat.le_refl _⟩,rfl,rfl,rfl⟩
 ·cases h
theorem resL_qx {f:Nat}{is:List Ar}{as:List Nat}{sl:Sc}:∀ {r:List Re} {j:Nat} {σ σ':St} {vs:List V1},resL f is as sl r j σ=some (vs,σ')→QX σ σ'
 | [],j,σ,σ',vs,h=>by simp only[resL,Option.some.injEq,Prod.mk.injEq] at h;rw[←h.2];exact (Pur.refl _).qx
 | .int k::r,j,σ,σ',vs,h=>by
  simp only[resL] at h
  split at h
  ·rename_i h1
   simp only[Option.some.injEq,Prod.mk.injEq] at h;rw[←h.2];exact (Pur.mk1 _ _).qx.trans (resL_qx h1)
  ·cases h
 | .bool::r,j,σ,σ',vs,h=>by
  simp only[resL] at h
  split at h
  ·rename_i ha
   split at h
   ·rename_i h1
    simp only[Option.some.injEq,Prod.mk.injEq] at h;rw[←h.2];exact (((Pur.mk1 _ _).trans (ask_spec ha)).trans (Pur.ob _ _)).qx.trans (resL_qx h1)
   ·cases h
  ·cases h
 | .agg k n::r,j,σ,σ',vs,h=>by
  simp only[resL] at h
  split at h
  ·rename_i h1
   simp only[Option.some.injEq,Prod.mk.injEq] at h;rw[←h.2];exact (cellsR_pur _ _ _).qx.trans (resL_qx h1)
  ·cases h
 | .sl _ _::r,j,σ,σ',vs,h=>by
  simp only[resL] at h
  split at h
  ·rename_i h1
   simp only[Option.some.injEq,Prod.mk.injEq] at h;rw[←h.2];exact resL_qx h1
  ·cases h
 | .tl::r,j,σ,σ',vs,h=>by
  simp only[resL] at h
  split at h
  ·split at h
   ·rename_i h1
    simp only[Option.some.injEq,Prod.mk.injEq] at h;rw[←h.2];exact ((Pur.mk1 _ _).trans (Pur.mk1 _ _)).qx.trans (resL_qx h1)
   ·cases h
  ·cases h
 | .emp::r,j,σ,σ',vs,h=>by
  simp only[resL] at h
  split at h
  ·rename_i h1
   simp only[Option.some.injEq,Prod.mk.injEq] at h;rw[←h.2]
   exact QX.trans (b:={σ with nv:=σ.nv+1}) ⟨⟨fun _ m=>m,fun _ m=>m,rfl,rfl,Nat.le_succ _⟩,rfl,rfl⟩ (resL_qx h1)
  ·cases h
 | .kst v::r,j,σ,σ',vs,h=>by
  simp only[resL] at h
  cases hv:cellOk v with
  | false=>rw[hv] at h;cases h
  | true =>
   rw[hv] at h
   simp only[cond_true] at h
   split at h
   ·rename_i h1
    simp only[Option.some.injEq,Prod.mk.injEq] at h;rw[←h.2];exact resL_qx h1
   ·cases h
theorem resL_sound {f:Nat}{is:List Ar}{as:List Nat}{sl:Sc}{slv:Value}:∀ {r:List Re} {j:Nat} {σ σ':St} {vs:List V1} {us:List Value} {E:Env},resL f is as sl r j σ=some (vs,σ')→Hold F N σ'→Inv E σ →
  (slOf r≠none→sl.den N E=some slv)→(∀ b len,sl= .sl b (.kst (.ofNat 0)) len none→sl.den N E=some slv)→ResV F f (is.map (·.ev N)) (as.map N.a) slv r j us→∃E',E.le E'∧E'.blk=E.blk∧Inv E' σ'∧denL1 N E' vs=some us
 | [],j,σ,σ',vs,us,E,h,hH,hI,hs,hs2,hR=>by
  simp only[resL,Option.some.injEq,Prod.mk.injEq] at h
  obtain ⟨rfl,rfl⟩:=h
  cases us with
  | nil=>exact ⟨E,E.le_refl,rfl,hI,rfl⟩
  | cons _ _=>exact hR.elim
 | .int k::r,j,σ,σ',vs,us,E,h,hH,hI,hs,hs2,hR=>by
  simp only[resL] at h
  split at h
  ·rename_i vs' σ1 h1
   simp only[Option.some.injEq,Prod.mk.injEq] at h
   obtain ⟨rfl,rfl⟩:=h
   cases us with
   | nil=>exact hR.elim
   | cons u us =>
    obtain ⟨rfl,hR⟩:=hR
    obtain ⟨E',e1,e2,e3,e4⟩:=resL_sound h1 hH (hI.pur (Pur.mk1 _ _)) hs hs2 hR
    refine ⟨E',e1,e2,e3,denL1_cons.2 ⟨_,_,?_,e4,rfl⟩⟩
    have hx:=(Hold.of_ext (resL_qx h1).ext hH).mk1
    simp only[Nd.ev,hH.fns] at hx
    simp only[V1.den,Sc.den,hx]
  ·cases h
 | .bool::r,j,σ,σ',vs,us,E,h,hH,hI,hs,hs2,hR=>by
  simp only[resL] at h
  split at h
  ·rename_i t σ1 ha
   split at h
   ·rename_i vs' σ2 h1
    simp only[Option.some.injEq,Prod.mk.injEq] at h
    obtain ⟨rfl,rfl⟩:=h
    cases us with
    | nil=>exact hR.elim
    | cons u us =>
     obtain ⟨rfl,hR⟩:=hR
     obtain ⟨E',e1,e2,e3,e4⟩:=resL_sound h1 hH (hI.pur (((Pur.mk1 _ _).trans (ask_spec ha)).trans (Pur.ob _ _))) hs hs2 hR
     refine ⟨E',e1,e2,e3,denL1_cons.2 ⟨_,_,?_,e4,rfl⟩⟩
     have hH1:=Hold.of_ext (resL_qx h1).ext hH
     have hb:(!(N.i σ.nx==0))=t:=hH1.ob
     have hx:=(Hold.of_ext ((ask_spec ha).trans (Pur.ob _ _)).ext hH1).mk1
     simp only[Nd.ev,hH.fns] at hx
     simp only[V1.den,Sc.den,cellOk,cond_true,←hx,hb]
   ·cases h
  ·cases h
 | .agg k n::r,j,σ,σ',vs,us,E,h,hH,hI,hs,hs2,hR=>by
  simp only[resL] at h
  split at h
  ·rename_i vs' σ1 h1
   simp only[Option.some.injEq,Prod.mk.injEq] at h
   obtain ⟨rfl,rfl⟩:=h
   cases us with
   | nil=>exact hR.elim
   | cons u us =>
    obtain ⟨rfl,hR⟩:=hR
    obtain ⟨E',e1,e2,e3,e4⟩:=resL_sound h1 hH (hI.pur (cellsR_pur _ _ _)) hs hs2 hR
    refine ⟨E',e1,e2,e3,denL1_cons.2 ⟨_,_,?_,e4,rfl⟩⟩
    simp only[V1.den,cellsR_den (E:=E') n j σ (Hold.of_ext (resL_qx h1).ext hH),Option.map_some]
  ·cases h
 | .sl _ _::r,j,σ,σ',vs,us,E,h,hH,hI,hs,hs2,hR=>by
  simp only[resL] at h
  split at h
  ·rename_i vs' σ1 h1
   simp only[Option.some.injEq,Prod.mk.injEq] at h
   obtain ⟨rfl,rfl⟩:=h
   cases us with
   | nil=>exact hR.elim
   | cons u us =>
    obtain ⟨rfl,hR⟩:=hR
    have hs':=hs (by simp[slOf])
    obtain ⟨E',e1,e2,e3,e4⟩:=resL_sound h1 hH hI (fun _=>hs') hs2 hR
    exact ⟨E',e1,e2,e3,denL1_cons.2 ⟨_,_,Sc.den_mono e1 hs',e4,rfl⟩⟩
  ·cases h
 | .tl::r,j,σ,σ',vs,us,E,h,hH,hI,hs,hs2,hR=>by
  simp only[resL] at h
  split at h
  ·rename_i b len
   split at h
   ·rename_i vs' σ1 h1
    simp only[Option.some.injEq,Prod.mk.injEq] at h
    obtain ⟨rfl,rfl⟩:=h
    cases us with
    | nil=>exact hR.elim
    | cons u us =>
     obtain ⟨⟨q,s,n,c,o,m,rfl,ho,hm,hle,rfl⟩,hR⟩:=hR
     have hd:=hs2 b len rfl
     obtain ⟨E',e1,e2,e3,e4⟩:=resL_sound h1 hH (hI.pur ((Pur.mk1 _ _).trans (Pur.mk1 _ _))) hs hs2 hR
     refine ⟨E',e1,e2,e3,denL1_cons.2 ⟨_,_,?_,e4,rfl⟩⟩
     have hH1:=Hold.of_ext (resL_qx h1).ext hH
     have hx2:=hH1.mk1
     have hx:=(Hold.of_ext (Ext.mk1 _ _) hH1).mk1
     simp only[Nd.ev,hH.fns,ho] at hx
     simp only[Nd.ev,hH.fns,hm] at hx2
     obtain ⟨q',s',c',mm,k1,_,k2,k3,k4⟩:=sl_den hd
     have e0:((Ar.kst (Int.ofNat 0)).ev N).toNat=0:=rfl
     simp only[e0,Nat.add_zero,Value.slice.injEq,Option.some.injEq,Addr.mk.injEq,and_true] at k2
     obtain ⟨⟨rfl,rfl⟩,-,rfl⟩:=k2
     simp only[capOf,e0,Nat.sub_zero] at k3
     subst k3
     have h9:=sl_mk (N:=N) (E:=E') (b:=b) (off:= .var σ.nx) (len:= .var (σ.nx+1)) (cap:=none) (by rw[e2];exact k1) (by simp only[Ar.ev,hx];omega) (fun _=>by
      have hx2':N.i (σ.nx+1)=m:=hx2
      simp only[Ar.ev,hx,hx2',Int.toNat_natCast];exact hle)
     have hx2':N.i (σ.nx+1)=m:=hx2
     simp only[V1.den,h9,capOf,Ar.ev,hx,hx2',Int.toNat_natCast]
   ·cases h
  ·cases h
 | .emp::r,j,σ,σ',vs,us,E,h,hH,hI,hs,hs2,hR=>by
  simp only[resL] at h
  split at h
  ·rename_i vs' σ1 h1
   simp only[Option.some.injEq,Prod.mk.injEq] at h
   obtain ⟨rfl,rfl⟩:=h
   cases us with
   | nil=>exact hR.elim
   | cons u us =>
    obtain ⟨⟨b,c,rfl⟩,hR⟩:=hR
    have hle:E.le (E.addV σ.nv (.slice b 0 c)):=⟨fun _ _ h=>h,fun i v h=>by
     have:i≠σ.nv:=fun e=>by rw[e,hI.freshV σ.nv (Nat.le_refl _)] at h;cases h
     simp only[Env.addV,nbeq_ff this,cond_false];exact h⟩
    have hI':Inv (E.addV σ.nv (.slice b 0 c)) {σ with nv:=σ.nv+1}:=⟨hI.freshB,fun i hi=>by
     have hi':σ.nv+1≤i:=hi
     have:i≠σ.nv:=by omega
     simp only[Env.addV,nbeq_ff this,cond_false];exact hI.freshV i (by omega),hI.glob⟩
    obtain ⟨E',e1,e2,e3,e4⟩:=resL_sound h1 hH hI' (fun h=>Sc.den_mono hle (hs h)) (fun b len h=>Sc.den_mono hle (hs2 b len h)) hR
    refine ⟨E',hle.trans e1,e2,e3,denL1_cons.2 ⟨_,_,?_,e4,rfl⟩⟩
    have:(E.addV σ.nv (.slice b 0 c)).val σ.nv=some (.slice b 0 c):=by simp only[Env.addV,nbeq_tt rfl,cond_true]
    have:=e1.val _ _ this
    simp only[V1.den,Sc.den,this]
  ·cases h
 | .kst v::r,j,σ,σ',vs,us,E,h,hH,hI,hs,hs2,hR=>by
  simp only[resL] at h
  cases hv:cellOk v with
  | false=>rw[hv] at h;cases h
  | true =>
   rw[hv] at h
   simp only[cond_true] at h
   split at h
   ·rename_i vs' σ1 h1
    simp only[Option.some.injEq,Prod.mk.injEq] at h
    obtain ⟨rfl,rfl⟩:=h
    cases us with
    | nil=>exact hR.elim
    | cons u us =>
     obtain ⟨rfl,hR⟩:=hR
     obtain ⟨E',e1,e2,e3,e4⟩:=resL_sound h1 hH hI hs hs2 hR
     exact ⟨E',e1,e2,e3,denL1_cons.2 ⟨_,_,by simp only[V1.den,Sc.den,hv,cond_true],e4,rfl⟩⟩
   ·cases h
theorem blk_lt {w:World}(hw:BW N E σ.bks w){i:Nat}{B:Bk}{q s c:Nat}(hB:σ.bks.get i=some B)(hq:E.blk i=some (q,s,c)):q<w.heap.size:=by
 obtain ⟨q',s',c',arr,el,fz,g1,g2,_⟩:=hw.at' i B hB
 rw[hq] at g1
 simp only[Option.some.injEq,Prod.mk.injEq] at g1
 rw[←g1.1] at g2
 rcases Nat.lt_or_ge q w.heap.size with h | h
 ·exact h
 ·rw [Array.getElem?_eq_none h] at g2;cases g2
theorem some_lt {α:Type}{l:Array α}{i:Nat}{x:α}(h:l[i]? =some x):i<l.size:=by
 rcases Nat.lt_or_ge i l.size with k | k
 ·exact k
 ·rw [Array.getElem?_eq_none k] at h;cases h
theorem grow_post {w w':World}(hw:BW N E σ.bks w)(hI:Inv E σ)(hg:Grow none w w'):Post N E σ w N E σ w':=by
 have old:∀q,q<w.heap.size→w'.heap[q]? =w.heap[q]? :=fun q hq=>hg.old q hq (fun y e=>by cases e)
 refine ⟨hI,E.le_refl,⟨fun i B hB=> ?_,hw.apart⟩,⟨hg.os,hg.tape,hg.output,hg.size,fun q hq _=>old q hq,fun q arr el fz hq=>⟨arr,by rw[old q (some_lt hq)];exact hq,rfl,fun _ _=>rfl⟩⟩,
  fun i B' q s c h1 h2 h3 _=>⟨i,B',s,c,h1,h2,h3,Nat.le_refl _,Nat.le_refl _⟩⟩
 obtain ⟨q,s,c,arr,el,fz,g1,g2,g3⟩:=hw.at' i B hB
 exact ⟨q,s,c,arr,el,fz,g1,by rw[old q (some_lt g2)];exact g2,g3⟩
theorem newBk_grow {x:Option Win}{o:Option Nat}{B:Bk}{arr0:Array Value}{w w':World}{t:TypeId}{q0 s0 c:Nat}(hw:BW N E σ.bks w)(hI:Inv E σ)(hg:Grow x w w')(hG:GWok N E σ.bks o x)
  (hq0:w.heap.size≤q0∨∃y,x=some y∧y.q=q0∧y.s≤s0∧s0+c≤y.s+y.n) (hh:w'.heap[q0]? =some (.cells arr0 t (0,0)))
  (hwc:B.wid N c=c) (hwid:s0+c≤arr0.size) (hcont:B.cont N (E.addB σ.nb (q0,s0,c)) s0 c arr0)
  (hs:σ'.bks=(σ.drop o).bks.set σ.nb B) (hnb:σ'.nb=σ.nb+1) (hnv:σ'.nv=σ.nv) (hgl:σ'.gl=σ.gl) :
  Post N E σ w N (E.addB σ.nb (q0,s0,c)) σ' w':=by
 have hle:E.le (E.addB σ.nb (q0,s0,c)):=by
  refine ⟨fun b q h=> ?_,fun _ _ h=>h⟩
  have:b≠σ.nb:=fun e=>by rw[e,hI.freshB σ.nb (Nat.le_refl _)] at h;cases h
  simp only[Env.addB,nbeq_ff this,cond_false]
  exact h
 have hself:(E.addB σ.nb (q0,s0,c)).blk σ.nb=some (q0,s0,c):=Env.addB_self
 have hoth:∀i,i≠σ.nb→(E.addB σ.nb (q0,s0,c)).blk i=E.blk i:=fun i h=>by simp only[Env.addB,nbeq_ff h,cond_false]
 have hlt:∀i B q s c,σ.bks.get i=some B→E.blk i=some (q,s,c)→q<w.heap.size:=fun i B q s c hB hq=>blk_lt hw hB hq
 have back:∀i B',σ'.bks.get i=some B'→(i=σ.nb∧B'=B)∨(i≠σ.nb∧o≠some i∧σ.bks.get i=some B'):=fun i B' e=>by
  rw[hs,Tr.get_set] at e
  by_cases hi:i=σ.nb
  ·rw [if_pos hi] at e;simp only[Option.some.injEq] at e;exact .inl ⟨hi,e.symm⟩
  ·rw [if_neg hi] at e
   cases o with
   | none=>exact .inr ⟨hi,(fun k=>by cases k),e⟩
   | some b =>
    simp only[St.drop,Tr.get_erase] at e
    by_cases hb:i=b
    ·rw [if_pos hb] at e;cases e
    ·rw [if_neg hb] at e;exact .inr ⟨hi,(fun k=>by simp only[Option.some.injEq] at k;exact hb k.symm),e⟩
 have given:∀y,x=some y→∃b B0 c0,o=some b∧σ.bks.get b=some B0∧B0.rw=true∧E.blk b=some (y.q,y.s,c0)∧B0.wid N c0=y.n:=fun y e=>by
  subst e
  cases o with
  | none=>exact hG.elim
  | some b=>obtain ⟨B0,c0,g⟩:=hG;exact ⟨b,B0,c0,rfl,g⟩
 have gap:∀y,x=some y→∀i B1 s1 c1,o≠some i→σ.bks.get i=some B1→E.blk i=some (y.q,s1,c1)→s1+B1.wid N c1≤y.s∨y.s+y.n≤s1:=fun y e i B1 s1 c1 hi h1 h2=>by
  obtain ⟨b,B0,c0,rfl,g1,g2,g3,g4⟩:=given y e
  have:=hw.apart i b B1 B0 _ _ _ _ _ h1 g1 (fun k=>hi (by rw[k])) h2 g3 (.inr g2)
  rw[g4] at this;exact this
 refine ⟨⟨fun b hb=> ?_,fun j hj=>hI.freshV j (by rw[←hnv];exact hj),fun t sv e=> ?_⟩,hle,⟨?_,?_⟩,⟨hg.os,hg.tape,hg.output,hg.size,?_,?_⟩,?_⟩
 ·rw [hnb] at hb
  rw[hoth b (by omega)]
  exact hI.freshB b (by omega)
 ·obtain ⟨h1,b,c,h2,h3⟩:=hI.glob t sv (by rw[←hgl];exact e)
  exact ⟨h1,b,c,h2,hle.blk _ _ h3⟩
 ·intro i B1 hB
  rcases back i B1 hB with ⟨rfl,rfl⟩ | ⟨hi,ho,hB⟩
  ·exact ⟨_,_,_,arr0,t,(0,0),hself,hh,fun _=>rfl,by rw[hwc];exact hwid,hcont⟩
  ·obtain ⟨q,s,c1,arr,el,fz,g1,g2,g3,g4,g5⟩:=hw.at' i B1 hB
   by_cases hx:∃y,x=some y∧y.q=q
   ·obtain ⟨y,hy,rfl⟩:=hx
    obtain ⟨arr',p1,p2,p3⟩:=hg.part y arr el fz hy g2
    have:=gap y hy i B1 s c1 ho hB g1
    exact ⟨y.q,s,c1,arr',el,fz,hle.blk _ _ g1,p1,g3,by rw[p2];exact g4,Bk.cont_mono hle (cont_wid (c:=c1) g5 fun k hk1 hk2=>p3 k (by omega))⟩
   ·exact ⟨q,s,c1,arr,el,fz,hle.blk _ _ g1,by rw[hg.old q (hlt i B1 q s c1 hB g1) (fun y hy e=>hx ⟨y,hy,e⟩)];exact g2,g3,g4,Bk.cont_mono hle g5⟩
 ·have key:∀i B1 s1 c1,i≠σ.nb→o≠some i→σ.bks.get i=some B1→E.blk i=some (q0,s1,c1)→s1+B1.wid N c1≤s0∨s0+c≤s1:=fun i B1 s1 c1 hi ho h1 h2=>by
   rcases hq0 with hq0 | ⟨y,hy,rfl,k1,k2⟩
   ·have:=hlt i B1 _ _ _ h1 h2
    omega
   ·have:=gap y hy i B1 s1 c1 ho h1 h2
    omega
  intro i i' B1 B2 q s s' c1 c2 h1 h2 h3 h4 h5 h6
  rcases back i B1 h1 with ⟨rfl,rfl⟩ | ⟨hi,ho,h1⟩
  ·rw [hself] at h4
   simp only[Option.some.injEq,Prod.mk.injEq] at h4
   obtain ⟨rfl,rfl,rfl⟩:=h4
   rcases back i' B2 h2 with ⟨rfl,rfl⟩ | ⟨hi',ho',h2⟩
   ·exact absurd rfl h3
   ·rw [hoth i' hi'] at h5
    rw[hwc]
    exact (key i' B2 s' c2 hi' ho' h2 h5).symm
  ·rw [hoth i hi] at h4
   rcases back i' B2 h2 with ⟨rfl,rfl⟩ | ⟨hi',ho',h2⟩
   ·rw [hself] at h5
    simp only[Option.some.injEq,Prod.mk.injEq] at h5
    obtain ⟨rfl,rfl,rfl⟩:=h5
    rw[hwc]
    exact key i B1 s c1 hi ho h1 h4
   ·rw [hoth i' hi'] at h5
    exact hw.apart i i' B1 B2 q s s' c1 c2 h1 h2 h3 h4 h5 h6
 ·intro q hq hno
  refine hg.old q hq fun y hy e=> ?_
  obtain ⟨b,B0,c0,_,g1,g2,g3,_⟩:=given y hy
  exact hno b B0 _ _ g1 g2 (by rw[←e];exact g3)
 ·intro q arr el fz hq
  by_cases hx:∃y,x=some y∧y.q=q
  ·obtain ⟨y,hy,rfl⟩:=hx
   obtain ⟨arr',p1,p2,p3⟩:=hg.part y arr el fz hy hq
   refine ⟨arr',p1,p2,fun k hk=>p3 k ?_⟩
   obtain ⟨b,B0,c0,_,g1,g2,g3,g4⟩:=given y hy
   have:=hk b B0 _ _ g1 g2 g3
   rw[g4] at this;exact this
  ·exact ⟨arr,by rw[hg.old q (some_lt hq) (fun y hy e=>hx ⟨y,hy,e⟩)];exact hq,rfl,fun _ _=>rfl⟩
 ·intro i B1 q s c1 h1 h2 h3 h4
  rcases back i B1 h1 with ⟨rfl,rfl⟩ | ⟨hi,ho,h1⟩
  ·rw [hself] at h3
   simp only[Option.some.injEq,Prod.mk.injEq] at h3
   obtain ⟨rfl,rfl,rfl⟩:=h3
   rcases hq0 with hq0 | ⟨y,hy,rfl,k1,k2⟩
   ·omega
   ·obtain ⟨b,B0,c0,_,g1,g2,g3,g4⟩:=given y hy
    exact ⟨b,B0,_,c0,g1,g2,g3,k1,by rw[hwc,g4];exact k2⟩
  ·rw [hoth i hi] at h3
   exact ⟨i,B1,s,c1,h1,h2,h3,Nat.le_refl _,Nat.le_refl _⟩
theorem resV_den {vs:List V1}{us:List Value}(h:denL1 N E vs=some us):(resV vs).den N E=some (tupOf us):=by
 match vs,h with
 | [],h=>simp only[denL1,Option.some.injEq] at h;subst h;rfl
 | [v],h =>
  obtain ⟨u,r,h1,h2,rfl⟩:=denL1_cons.1 h
  simp only[denL1,Option.some.injEq] at h2
  subst h2
  exact h1
 | v::v'::l,h =>
  obtain ⟨u,r,h1,h2,rfl⟩:=denL1_cons.1 h
  obtain ⟨u',r',h3,h4,rfl⟩:=denL1_cons.1 h2
  simp only[resV,SV.den,h,Option.map_some,tupOf]
end
end Go.Sy
