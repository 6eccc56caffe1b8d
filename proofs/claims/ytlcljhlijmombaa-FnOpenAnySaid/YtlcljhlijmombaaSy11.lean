/- Contracts: how a body is left. Contracts: a run to the end does as the contract says; rounds of a loop. Contracts: the words of a proof about one function. Two runs come to the same: definitions compared, up to the order of operands and names. -/
import Derived.Test.YtlcljhlijmombaaSy10
namespace Go.Sy
structure Sum1 where
 outs:List (Ar×Nat)
 rw:Option (Nat ⊕ List Ar)
 sl:Option (Ar×Nat)
def zipJ:List Ar→Nat→List (Ar×Nat)
 | [],_=>[]
 | a::l,j=>(a,j)::zipJ l (j+1)
def isEmp:Sc→Bool
 | .emp _=>true
 | .kst (.slice none 0 _)=>true
 | .sl _ _ (.kst (.ofNat 0)) _=>true
 | _=>false
def outL:List Re→Nat→List V1→Option (List (Ar×Nat))
 | [],_,[]=>some []
 | .int k::r,j,.sc x::vs=>match x.ar with
  | some (k',a)=>bif kindB k k' then (match outL r (j+1) vs with | some l=>some ((a,j)::l) | none=>none) else none
  | none=>none
 | .bool::r,j,.sc x::vs=>match x with
  | .boo x=>match outL r (j+1) vs with
   | some l=>some ((.var x,j)::l)
   | none=>none
  | .kst (.bool t)=>match outL r (j+1) vs with
   | some l=>some ((.kst (bif t then 1 else 0),j)::l)
   | none=>none
  | _=>none
 | .agg k n::r,j,.agg l::vs=>match arsL k l with
  | some as=>bif Nat.beq l.length n then (match outL r (j+n) vs with | some l=>some (zipJ as j++l) | none=>none) else none
  | none=>none
 | .sl _ _::r,j,.sc _::vs=>outL r j vs
 | .emp::r,j,.sc x::vs=>bif isEmp x then outL r j vs else none
 | .kst v::r,j,.sc x::vs=>match x with
  | .kst v'=>bif eqV v v' then outL r j vs else none
  | _=>none
 | _,_,_=>none
def slV:List Re→List V1→Option (Nat×Ar)
 | .sl _ _::_,.sc (.sl b (.kst (.ofNat 0)) len none)::_=>some (b,len)
 | _::r,_::vs=>slV r vs
 | _,_=>none
def rwOnly (t:Tr Bk)(o:Option (Nat×IntKind)):Nat→Bool
 | 0=>true
 | i+1=>(match t.get i with
  | some B=> !B.rw||(match o with | some (b,_)=>Nat.beq i b | none=>false)
  | none=>true)&&rwOnly t o i
def rwOut (σ:St)(b:Nat)(k:IntKind):Option (Nat ⊕ List Ar) :=
 match σ.bks.get b with
 | some B=>match B.arr with
  | some (k',A,false)=>bif kindB k k' then some (.inl A) else none
  | some (_,_,true)=>none
  | none=>match arsN B.cells k 0 B.n with
   | some l=>some (.inr l)
   | none=>none
 | none=>none
def ownBlk (ct:Ct):Option (Nat×IntKind) :=
 match rwBlk 0 ct.ps with
 | some y=>some y
 | none=>grBlk 0 ct.ps
def summ (ct:Ct)(σe:St)(vs:List V1)(σ:St):Option Sum1 :=
 bif (σe.bks.keysLt σe.nb&&rwOnly σe.bks (ownBlk ct) σe.nb)&&ct.okG then
  match outL ct.res 0 vs with
  | none=>none
  | some os =>
   match (match rwBlk 0 ct.ps with
    | none=>some none
    | some (b,k)=>match rwOut σ b k with
     | some o=>some (some o)
     | none=>none) with
   | none=>none
   | some ro =>
    match slOf ct.res with
    | none=>some ⟨os,ro,none⟩
    | some (k,_)=>match rwBlk 0 ct.ps with
     | some _=>none
     | none=>match slV ct.res vs with
      | some (b,len)=>match σ.bks.get b with
       | some B=>match B.arr with
        | some (k',A,true)=>bif B.rw&&kindB k k' then some ⟨os,ro,some (len,A)⟩ else none
        | _=>none
       | none=>none
      | none=>none
 else none
structure Sum1.ok (S:Sum1) (N:Num) (F:Fns) (ct:Ct) (is:List Int) (as:List (List Int)):Prop where
 outs:∀p∈S.outs,p.1.ev N=F.i ct.fi is as p.2
 rw:match S.rw with
  | none=>True
  | some (.inl A)=>N.a A=F.a ct.fw is as
  | some (.inr l)=>l.map (·.ev N)=F.a ct.fw is as
 sl:match S.sl with
  | none=>True
  | some (len,A)=>N.a A=F.a ct.fs is as∧len.ev N=(F.a ct.fs is as).length∧(match slOf ct.res with | some (_,some m)=>(F.a ct.fs is as).length=m | _=>True)
section
variable {P:Program} {F:Fns} {N:Num} {E:Env} {σ σ':St}
theorem rwOnly_spec {t:Tr Bk}{o:Option (Nat×IntKind)}:∀ {n:Nat},rwOnly t o n=true→∀i B,i<n→t.get i=some B→B.rw=true→∃b k,o=some (b,k)∧i=b
 | 0,_,i,B,h,_,_=>by omega
 | n+1,h,i,B,hi,hB,hr=>by
  simp only[rwOnly,Bool.and_eq_true] at h
  by_cases e:i=n
  ·subst e
   have h1:=h.1
   rw[hB] at h1
   simp only[hr,Bool.not_true,Bool.false_or] at h1
   split at h1
   ·exact ⟨_,_,rfl,Nat.eq_of_beq_eq_true h1⟩
   ·cases h1
  ·exact rwOnly_spec h.2 i B (by omega) hB hr
theorem zipJ_spec {f:Nat→Int}:∀ {as:List Ar} {j:Nat},(∀ p∈zipJ as j,p.1.ev N=f p.2)→as.map (·.ev N)=(List.range' j as.length).map f
 | [],_,_=>rfl
 | a::l,j,h=>by
  simp only[List.map_cons,List.length_cons,List.range'_succ,List.cons.injEq]
  exact ⟨h (a,j) List.mem_cons_self,zipJ_spec (fun p hp=>h p (List.mem_cons_of_mem _ hp))⟩
theorem arsL_length {k:IntKind}:∀ {l:List Sc} {as:List Ar},arsL k l=some as→as.length=l.length
 | [],as,h=>by simp only[arsL,Option.some.injEq] at h;subst h;rfl
 | x::l,as,h=>by
  simp only[arsL] at h
  split at h
  ·rename_i k' a hx
   cases hk:kindB k k' with
   | false=>rw[hk] at h;cases h
   | true =>
    rw[hk] at h
    simp only[cond_true,Option.map_eq_some_iff] at h
    obtain ⟨r,hr,rfl⟩:=h
    simp[arsL_length hr]
  ·cases h
theorem isEmp_den {x:Sc}{u:Value}(h:isEmp x=true)(hx:x.den N E=some u):∃a c,u= .slice a 0 c:=by
 unfold isEmp at h
 split at h
 ·simp only[Sc.den] at hx
  split at hx
  ·simp only[Option.some.injEq] at hx;exact ⟨_,_,hx.symm⟩
  ·cases hx
 ·simp only[Sc.den,cellOk,cond_true,Option.some.injEq] at hx;exact ⟨_,_,hx.symm⟩
 ·obtain ⟨q,s,c,m,_,_,rfl,_⟩:=sl_den hx;exact ⟨_,_,rfl⟩
 ·cases h
theorem outL_res {f:Nat}{is:List Int}{as:List (List Int)}{slv:Value}:∀ {r:List Re} {j:Nat} {vs:List V1} {us:List Value} {os:List (Ar×Nat)},outL r j vs=some os→denL1 N E vs=some us →
  (∀ p∈os,p.1.ev N=F.i f is as p.2)→(∀ b len,slV r vs=some (b,len)→(Sc.sl b (.kst 0) len none).den N E=some slv)→(slOf r≠none→∃y,slV r vs=some y) →
  (r.filter fun x=>match x with | .sl _ _=>true | _=>false).length≤1→ResV F f is as slv r j us
 | [],j,vs,us,os,h,hd,ho,hs,hy,h1=>by
  cases vs with
  | nil=>simp only[denL1,Option.some.injEq] at hd;subst hd;trivial
  | cons _ _=>cases h
 | .int k::r,j,vs,us,os,h,hd,ho,hs,hy,h1=>by
  cases vs with
  | nil=>cases h
  | cons v vs =>
   cases v with
   | agg _=>cases h
   | sc x =>
    simp only[outL] at h
    split at h
    ·rename_i k' a hx
     cases hk:kindB k k' with
     | false=>rw[hk] at h;cases h
     | true =>
      have:=kindB_eq hk;subst this
      rw[hk] at h
      simp only[cond_true] at h
      split at h
      ·rename_i l hl
       simp only[Option.some.injEq] at h
       subst h
       obtain ⟨u,us',d1,d2,rfl⟩:=denL1_cons.1 hd
       have:=ar_den hx d1
       subst this
       exact ⟨by rw[ho _ List.mem_cons_self],outL_res hl d2 (fun p hp=>ho p (List.mem_cons_of_mem _ hp)) hs hy h1⟩
      ·cases h
    ·cases h
 | .bool::r,j,vs,us,os,h,hd,ho,hs,hy,h1=>by
  cases vs with
  | nil=>cases h
  | cons v vs =>
   cases v with
   | agg _=>cases h
   | sc x =>
    simp only[outL] at h
    split at h
    ·rename_i x
     split at h
     ·rename_i l hl
      simp only[Option.some.injEq] at h
      subst h
      obtain ⟨u,us',d1,d2,rfl⟩:=denL1_cons.1 hd
      simp only[V1.den,Sc.den,Option.some.injEq] at d1
      have:=ho _ List.mem_cons_self
      simp only[Ar.ev] at this
      exact ⟨by rw[←d1,this],outL_res hl d2 (fun p hp=>ho p (List.mem_cons_of_mem _ hp)) hs hy h1⟩
     ·cases h
    ·rename_i t
     split at h
     ·rename_i l hl
      simp only[Option.some.injEq] at h
      subst h
      obtain ⟨u,us',d1,d2,rfl⟩:=denL1_cons.1 hd
      simp only[V1.den,Sc.den,cellOk,cond_true,Option.some.injEq] at d1
      have:=ho _ List.mem_cons_self
      simp only[Ar.ev] at this
      exact ⟨by rw[←d1,←this];cases t <;> rfl,outL_res hl d2 (fun p hp=>ho p (List.mem_cons_of_mem _ hp)) hs hy h1⟩
     ·cases h
    ·cases h
 | .agg k n::r,j,vs,us,os,h,hd,ho,hs,hy,h1=>by
  cases vs with
  | nil=>cases h
  | cons v vs =>
   cases v with
   | sc _=>cases h
   | agg l =>
    simp only[outL] at h
    split at h
    ·rename_i as' has
     cases hk:Nat.beq l.length n with
     | false=>rw[hk] at h;cases h
     | true =>
      have:=Nat.eq_of_beq_eq_true hk
      rw[hk] at h
      simp only[cond_true] at h
      split at h
      ·rename_i l2 hl
       simp only[Option.some.injEq] at h
       subst h
       obtain ⟨u,us',d1,d2,rfl⟩:=denL1_cons.1 hd
       simp only[V1.den,Option.map_eq_some_iff] at d1
       obtain ⟨vs2,g1,rfl⟩:=d1
       have e1:=arsL_den has g1
       have e2:=zipJ_spec (N:=N) (f:=F.i f is as) (fun p hp=>ho p (List.mem_append_left _ hp))
       rw[arsL_length has,this] at e2
       refine ⟨?_,outL_res hl d2 (fun p hp=>ho p (List.mem_append_right _ hp)) hs hy h1⟩
       rw[e1,←e2];simp[intsV]
      ·cases h
    ·cases h
 | .sl k n::r,j,vs,us,os,h,hd,ho,hs,hy,h1=>by
  cases vs with
  | nil=>cases h
  | cons v vs =>
   cases v with
   | agg _=>cases h
   | sc x =>
    simp only[outL] at h
    obtain ⟨u,us',d1,d2,rfl⟩:=denL1_cons.1 hd
    have hr:slOf r=none:=by
     have h2:(r.filter fun x=>match x with | .sl _ _=>true | _=>false).length=0:=by
      simp only[List.filter_cons,if_true,List.length_cons] at h1;omega
     exact none_of h2
    refine ⟨?_,outL_res h d2 ho (fun b len e=> ?_) (fun e=>(e hr).elim) ?_⟩
    ·obtain ⟨⟨b,len⟩,hy'⟩:=hy (by simp[slOf])
     have h3:=hs b len hy'
     unfold slV at hy'
     split at hy'
     ·rename_i e1 e2
      simp only[List.cons.injEq,V1.sc.injEq] at e2
      obtain ⟨e2,-⟩:=e2
      simp only[Option.some.injEq,Prod.mk.injEq] at hy'
      rw[e2,hy'.1,hy'.2] at d1
      have:(Sc.sl b (.kst 0) len none).den N E=some u:=d1
      rw[h3] at this
      simp only[Option.some.injEq] at this
      exact this.symm
     ·rename_i hne e1 e2
      simp only[List.cons.injEq] at e1 e2
      obtain ⟨rfl,rfl⟩:=e1
      obtain ⟨rfl,rfl⟩:=e2
      rw[slV_none hr] at hy';cases hy'
     ·cases hy'
    ·rw [slV_none hr] at e;cases e
    ·simp only[List.filter_cons,if_true,List.length_cons] at h1;omega
 | .tl::r,j,vs,us,os,h,hd,ho,hs,hy,h1=>by
  cases vs with
  | nil=>cases h
  | cons v vs=>cases v <;> cases h
 | .emp::r,j,vs,us,os,h,hd,ho,hs,hy,h1=>by
  cases vs with
  | nil=>cases h
  | cons v vs =>
   cases v with
   | agg _=>cases h
   | sc x =>
    simp only[outL] at h
    cases hk:isEmp x with
    | false=>rw[hk] at h;cases h
    | true =>
     rw[hk] at h
     obtain ⟨u,us',d1,d2,rfl⟩:=denL1_cons.1 hd
     exact ⟨isEmp_den hk d1,outL_res h d2 ho hs hy h1⟩
 | .kst v0::r,j,vs,us,os,h,hd,ho,hs,hy,h1=>by
  cases vs with
  | nil=>cases h
  | cons v vs =>
   cases v with
   | agg _=>cases h
   | sc x =>
    simp only[outL] at h
    split at h
    ·rename_i v'
     cases hk:eqV v0 v' with
     | false=>rw[hk] at h;cases h
     | true =>
      rw[hk] at h
      have:=eqV_eq hk
      subst this
      obtain ⟨u,us',d1,d2,rfl⟩:=denL1_cons.1 hd
      obtain ⟨rfl,_⟩:=kst_cell d1
      exact ⟨rfl,outL_res h d2 ho hs hy h1⟩
    ·cases h
 where
 none_of:∀ {r:List Re},(r.filter fun x=>match x with | .sl _ _=>true | _=>false).length=0→slOf r=none
  | [],_=>rfl
  | .int _::r,h=>none_of (r:=r) h
  | .bool::r,h=>none_of (r:=r) h
  | .agg _ _::r,h=>none_of (r:=r) h
  | .emp::r,h=>none_of (r:=r) h
  | .tl::r,h=>none_of (r:=r) h
  | .kst _::r,h=>none_of (r:=r) h
  | .sl _ _::r,h=>by simp at h
 slV_none:∀ {r:List Re} {vs:List V1},slOf r=none→slV r vs=none
  | [],[],_=>rfl
  | [],_::_,_=>rfl
  | .int _::r,[],_=>rfl
  | .bool::r,[],_=>rfl
  | .agg _ _::r,[],_=>rfl
  | .emp::r,[],_=>rfl
  | .tl::r,[],_=>rfl
  | .tl::r,v::vs,h=>slV_none (r:=r) (vs:=vs) h
  | .kst _::r,[],_=>rfl
  | .int _::r,v::vs,h=>slV_none (r:=r) (vs:=vs) h
  | .bool::r,v::vs,h=>slV_none (r:=r) (vs:=vs) h
  | .agg _ _::r,v::vs,h=>slV_none (r:=r) (vs:=vs) h
  | .emp::r,v::vs,h=>slV_none (r:=r) (vs:=vs) h
  | .kst _::r,v::vs,h=>slV_none (r:=r) (vs:=vs) h
  | .sl _ _::_,_,h=>by simp[slOf] at h
end
section
variable {P:Program} {F:Fns} {N:Num} {E:Env} {σ σ':St}
theorem resV_den_inv {vs:List V1}{u:Value}(h:(resV vs).den N E=some u):∃us,denL1 N E vs=some us∧u=tupOf us:=by
 match vs,h with
 | [],h =>
  simp only[resV,SV.den,denL1,Option.map_some,Option.some.injEq] at h
  exact ⟨[],rfl,h.symm⟩
 | [v],h=>exact ⟨[u],denL1_cons.2 ⟨u,[],h,rfl,rfl⟩,rfl⟩
 | v::v'::l,h =>
  simp only[resV,SV.den,Option.map_eq_some_iff] at h
  obtain ⟨us,h1,rfl⟩:=h
  obtain ⟨u,r,h2,h3,rfl⟩:=denL1_cons.1 h1
  obtain ⟨u',r',h4,h5,rfl⟩:=denL1_cons.1 h3
  exact ⟨_,h1,rfl⟩
theorem slV_den {b:Nat}{len:Ar}:∀ {r:List Re} {vs:List V1} {us:List Value},slV r vs=some (b,len)→denL1 N E vs=some us→∃v,(Sc.sl b (.kst 0) len none).den N E=some v
 | [],_,_,h,_=>by cases h
 | x::_,[],_,h,_=>by cases x <;> simp[slV] at h
 | x::r,v::vs,us,h,hd=>by
  obtain ⟨u,us',d1,d2,rfl⟩:=denL1_cons.1 hd
  unfold slV at h
  split at h
  ·rename_i e1 e2
   simp only[List.cons.injEq] at e2
   obtain ⟨e2,-⟩:=e2
   simp only[Option.some.injEq,Prod.mk.injEq] at h
   rw[e2,h.1,h.2] at d1
   exact ⟨u,d1⟩
  ·rename_i hne e1 e2
   simp only[List.cons.injEq] at e1 e2
   rw[←e1.2,←e2.2] at h
   exact slV_den h d2
  ·cases h
def rwArg:List Pa→List Int→List (List Int)→Option (List Int)
 | .ptr _ _ true::_,_,L::_=>some L
 | .sl _ true _::_,_,L::_=>some L
 | .ptr _ _ false::ps,is,_::as=>rwArg ps is as
 | .sl _ false _::ps,is,_::as=>rwArg ps is as
 | .int _::ps,_::is,as=>rwArg ps is as
 | .agg _ _::ps,is,_::as=>rwArg ps is as
 | .emp::ps,is,_::as=>rwArg ps is as
 | .zc::ps,is,_::as=>rwArg ps is as
 | .gr _::ps,is,_::as=>rwArg ps is as
 | .kst _::ps,is,as=>rwArg ps is as
 | .ign::ps,is,as=>rwArg ps is as
 | _,_,_=>none
theorem args_rw {w:World}{bks:Tr Bk}{ps:List Pa}{us:List Value}{is:List Int}{as:List (List Int)}{ws:List (Option Win)}(hA:Args w ps us is as ws):∀ {nb:Nat},Tie N E bks nb ps ws →
  match rwBlk nb ps with
  | none=>rwW ps ws=none
  | some (b,k)=>∃x L,rwW ps ws=some (x,k)∧(∃ c B,E.blk b=some (x.q,x.s,c)∧bks.get b=some B∧B.wid N c=x.n)∧rwArg ps is as=some L∧L.length=x.n∧Mem w x.q x.s k L true:=by
 induction hA with
 | nil=>intro nb h;rfl
 | int h ih=>intro nb hT;exact ih hT
 | agg hl h ih=>intro nb hT;exact ih hT
 | @ptr k n rw q s L ps us is as ws hm hl h ih =>
  intro nb hT
  cases rw with
  | true=>exact ⟨_,L,rfl,hT.1,rfl,hl,hm⟩
  | false=>exact ih hT.2
 | @sl k rw n q s c L ps us is as ws hm hc hn h ih =>
  intro nb hT
  cases rw with
  | true=>exact ⟨_,L,rfl,hT.1,rfl,rfl,hm⟩
  | false=>exact ih hT.2
 | emp h ih=>intro nb hT;exact ih hT
 | ign hv h ih=>intro nb hT;exact ih hT
 | zc h ih=>intro nb hT;exact ih hT
 | gr hm hc h ih=>intro nb hT;exact ih hT.2
 | kst hv h ih=>intro nb hT;exact ih hT
theorem args_gr {w:World}{bks:Tr Bk}{ps:List Pa}{us:List Value}{is:List Int}{as:List (List Int)}{ws:List (Option Win)}(hA:Args w ps us is as ws):∀ {nb:Nat},Tie N E bks nb ps ws →
  match grBlk nb ps with
  | none=>grW ps ws=none
  | some (b,_k)=>∃x,grW ps ws=some x∧∃c B,E.blk b=some (x.q,x.s,c)∧bks.get b=some B∧B.wid N c=x.n:=by
 induction hA with
 | nil=>intro nb h;rfl
 | int h ih=>intro nb hT;exact ih hT
 | agg hl h ih=>intro nb hT;exact ih hT
 | ptr hm hl h ih=>intro nb hT;exact ih hT.2
 | sl hm hc hn h ih=>intro nb hT;exact ih hT.2
 | emp h ih=>intro nb hT;exact ih hT
 | ign hv h ih=>intro nb hT;exact ih hT
 | zc h ih=>intro nb hT;exact ih hT
 | gr hm hc h ih=>intro nb hT;exact ⟨_,rfl,hT.1⟩
 | kst hv h ih=>intro nb hT;exact ih hT
theorem own_gr:∀ {ps:List Pa},hasGr ps=true→1≤ownN ps:=by
 intro ps
 induction ps with
 | nil=>intro h;cases h
 | cons p ps ih =>
  intro h
  cases p with
  | ptr k n rw=>cases rw <;> simp_all [ownN,hasGr]
  | sl k rw n=>cases rw <;> simp_all [ownN,hasGr]
  | _=>simp_all [ownN,hasGr]
theorem own_rw:∀ {ps:List Pa} {nb:Nat} {y:Nat×IntKind},rwBlk nb ps=some y→1≤ownN ps∧(hasGr ps=true→2≤ownN ps):=by
 intro ps
 induction ps with
 | nil=>intro nb y h;cases h
 | cons p ps ih =>
  intro nb y h
  cases p with
  | ptr k n rw =>
   cases rw with
   | true=>exact ⟨by simp[ownN],fun hh=>by have:=own_gr (ps:=ps) hh;simp only[ownN];omega⟩
   | false=>exact ih (nb:=nb+1) h
  | sl k rw n =>
   cases rw with
   | true=>exact ⟨by simp[ownN],fun hh=>by have:=own_gr (ps:=ps) hh;simp only[ownN];omega⟩
   | false=>exact ih (nb:=nb+1) h
  | gr k=>have:=ih (nb:=nb+1) h;exact ⟨by simp[ownN],fun _=>by simp only[ownN];omega⟩
  | zc=>exact ih (nb:=nb+1) h
  | int _=>exact ih (nb:=nb) h
  | agg _ _=>exact ih (nb:=nb) h
  | emp=>exact ih (nb:=nb) h
  | ign=>exact ih (nb:=nb) h
  | kst _=>exact ih (nb:=nb) h
theorem okG_rw {ct:Ct}{y:Nat×IntKind}{ws:List (Option Win)}(h:ct.okG=true)(hr:rwBlk 0 ct.ps=some y):grW ct.ps ws=none:=by
 cases hh:hasGr ct.ps with
 | false=>exact grW_none hh
 | true =>
  unfold Ct.okG at h
  simp only[hh,Bool.not_true,Bool.false_or,Bool.and_eq_true] at h
  have:=Nat.eq_of_beq_eq_true h.1
  have:=(own_rw hr).2 hh
  omega
def oneSl (r:List Re):Bool:=Nat.ble (r.filter fun x=>match x with | .sl _ _=>true | _=>false).length 1
set_option maxHeartbeats 1000000 in
theorem resOk_of {ct:Ct}{σe σ2:St}{Ne:Num}{Ee:Env}{we w':World}{us0:List Value}{is:List Int}{as:List (List Int)}{ws:List (Option Win)}{vs:List V1}{u:Value}{S:Sum1}(hS:summ ct σe vs σ2=some S)(h1:oneSl ct.res=true)
  (hu:(resV vs).den N E=some u) (hp:Post Ne Ee σe we N E σ2 w') (hBe:BW Ne Ee σe.bks we) (hT:Tie Ne Ee σe.bks 0 ct.ps ws) (hA:Args we ct.ps us0 is as ws) (ho:S.ok N F ct is as)
  (hlen:∀L,rwArg ct.ps is as=some L→(F.a ct.fw is as).length=L.length):ResOk P F ct is as ws we u w':=by
 obtain ⟨us,hd,rfl⟩:=resV_den_inv hu
 unfold summ at hS
 cases hb:((σe.bks.keysLt σe.nb&&rwOnly σe.bks (ownBlk ct) σe.nb)&&ct.okG) with
 | false=>rw[hb] at hS;cases hS
 | true =>
  rw[hb] at hS
  simp only[cond_true] at hS
  simp only[Bool.and_eq_true] at hb
  obtain ⟨hb,hokG⟩:=hb
  have honly0:∀i B,σe.bks.get i=some B→B.rw=true→∃b k,ownBlk ct=some (b,k)∧i=b:=fun i B hB hr=>rwOnly_spec hb.2 i B (Tr.keysLt_get hb.1 hB) hB hr
  have hargsG:=args_gr hA hT
  have given:rwBlk 0 ct.ps=none→∀i B,σe.bks.get i=some B→B.rw=true→∃x c,grW ct.ps ws=some x∧Ee.blk i=some (x.q,x.s,c)∧B.wid Ne c=x.n:=fun hr0 i B hB hr=>by
   obtain ⟨b,k,g1,rfl⟩:=honly0 i B hB hr
   unfold ownBlk at g1
   rw[hr0] at g1
   simp only at g1
   rw[g1] at hargsG
   obtain ⟨x,g2,c,B',g3,g4,g5⟩:=hargsG
   rw[hB] at g4
   simp only[Option.some.injEq] at g4
   subst g4
   exact ⟨x,c,g2,g3,g5⟩
  split at hS
  ·cases hS
  ·rename_i os hos
   split at hS
   ·cases hS
   ·rename_i ro hro
    have hargs:=args_rw hA hT
    have mid:∃w1,(match rwW ct.ps ws with
      | none=>w1=we
      | some (x,k)=>(F.a ct.fw is as).length=x.n∧(storeCells ⟨x.q,x.s,none⟩ (intsV k (F.a ct.fw is as)) 0).run P we= .ok () w1)∧Grow (grW ct.ps ws) w1 w'∧(rwBlk 0 ct.ps=none→w1=we):=by
     cases hrb:rwBlk 0 ct.ps with
     | none =>
      rw[hrb] at hargs
      simp only at hargs
      rw[hargs]
      refine ⟨we,rfl,⟨hp.kept.os,hp.kept.tape,hp.kept.output,hp.kept.size,fun q hq hno=>hp.kept.block q hq (fun i B s c g1 g2 g3=> ?_),fun y arr el fz hy hh=> ?_⟩,fun _=>rfl⟩
      ·obtain ⟨x,c1,g4,g5,_⟩:=given hrb i B g1 g2
       rw[g3] at g5
       simp only[Option.some.injEq,Prod.mk.injEq] at g5
       exact hno x g4 g5.1.symm
      ·obtain ⟨arr',k1,k2,k3⟩:=hp.kept.part y.q arr el fz hh
       refine ⟨arr',k1,k2,fun j hj=>k3 j fun i B s c g1 g2 g3=> ?_⟩
       obtain ⟨x,c1,g4,g5,g6⟩:=given hrb i B g1 g2
       rw[hy] at g4
       simp only[Option.some.injEq] at g4
       subst g4
       rw[g3] at g5
       simp only[Option.some.injEq,Prod.mk.injEq] at g5
       obtain ⟨_,rfl,rfl⟩:=g5
       rw[g6];exact hj
     | some y =>
      obtain ⟨b,k⟩:=y
      have hgn:grW ct.ps ws=none:=okG_rw hokG hrb
      have honly:∀i B,σe.bks.get i=some B→B.rw=true→∃b k,rwBlk 0 ct.ps=some (b,k)∧i=b:=fun i B hB hr=>by
       have:=honly0 i B hB hr
       unfold ownBlk at this
       rw[hrb] at this ⊢
       exact this
      rw[hrb] at hargs hro
      obtain ⟨x,L,g1,⟨c,B,g2,g3,g4⟩,g5,g6,arr,el,fz,g7,g8,g9,g10⟩:=hargs
      have g8:=g8 rfl
      subst g8
      rw[g1]
      simp only at hro ⊢
      have hFl:=hlen L g5
      split at hro
      ·rename_i o hrwo
       simp only[Option.some.injEq] at hro
       subst hro
       obtain ⟨arr',k1,k2,k3⟩:=hp.kept.part x.q arr el (0,0) g7
       have hout:∀j,(j<x.s∨x.s+x.n≤j)→arr'[j]? =arr[j]? :=fun j hj=>k3 j fun i B1 s1 c1 e1 e2 e3=>by
        obtain ⟨b',k',e4,e5⟩:=honly i B1 e1 e2
        rw[hrb] at e4
        simp only[Option.some.injEq,Prod.mk.injEq] at e4
        obtain ⟨rfl,rfl⟩:=e4
        subst e5
        rw[g3] at e1
        simp only[Option.some.injEq] at e1
        subst e1
        rw[g2] at e3
        simp only[Option.some.injEq,Prod.mk.injEq] at e3
        obtain ⟨_,rfl,rfl⟩:=e3
        rw[g4];exact hj
       have hin:∀j v,(F.a ct.fw is as)[j]? =some v→arr'[x.s+j]? =some (.int k v):=fun j v hj=>by
        unfold rwOut at hrwo
        split at hrwo
        ·rename_i B2 hB2
         obtain ⟨q',s',c',arr2,el2,fz2,m1,m2,m3,m4,m5⟩:=hp.bw.at' b B2 hB2
         rw[hp.le.blk _ _ g2] at m1
         simp only[Option.some.injEq,Prod.mk.injEq] at m1
         obtain ⟨rfl,rfl,rfl⟩:=m1
         rw[k1] at m2
         simp only[Option.some.injEq,Obj.cells.injEq] at m2
         obtain ⟨rfl,rfl,rfl⟩:=m2
         unfold Bk.cont at m5
         split at hrwo
         ·rename_i k' A hg
          cases hk:kindB k k' with
          | false=>rw[hk] at hrwo;cases hrwo
          | true =>
           have:=kindB_eq hk;subst this
           rw[hk] at hrwo
           simp only[cond_true,Option.some.injEq] at hrwo
           subst hrwo
           rw[hg] at m5
           have hsx:S.rw=some (.inl A):=by
            split at hS
            ·simp only[Option.some.injEq] at hS;rw[←hS]
            ·rw [hrb] at hS;cases hS
           have:=ho.rw
           rw[hsx] at this
           simp only at this
           exact m5.1 j v (by rw[this];exact hj)
         ·cases hrwo
         ·rename_i hg
          split at hrwo
          ·rename_i l hl
           simp only[Option.some.injEq] at hrwo
           subst hrwo
           have hsx:S.rw=some (.inr l):=by
            split at hS
            ·simp only[Option.some.injEq] at hS;rw[←hS]
            ·rw [hrb] at hS;cases hS
           have:=ho.rw
           rw[hsx] at this
           simp only at this
           obtain ⟨_,h2⟩:=lit_cells hg hl (show B2.cont N E x.s c arr' from by unfold Bk.cont;exact m5)
           have:=h2 j v (by rw[this];exact hj)
           rwa [Nat.zero_add] at this
          ·cases hrwo
        ·cases hrwo
       obtain ⟨w1,arr1,r1,r2,r3,r4,r5⟩:=run_storeCells_in (P:=P) (o:=x.s) (i:=0) (vs:=intsV k (F.a ct.fw is as)) g7 (by simp only[intsV,List.length_map,hFl];omega) intsV_ok
       simp only[intsV,List.length_map,Nat.add_zero,hFl] at r4 r5
       have harr:arr1=arr':=by
        apply Array.ext_getElem?
        intro j
        by_cases hj:j<x.s∨x.s+x.n≤j
        ·rw [hout j hj];exact r4 j (by omega)
        ·have hj':j-x.s<(F.a ct.fw is as).length:=by omega
         have e0:(F.a ct.fw is as)[j-x.s]? =some ((F.a ct.fw is as)[j-x.s]):=List.getElem?_eq_getElem hj'
         have e1:=hin _ _ e0
         have e2:=r5 (j-x.s) (.int k ((F.a ct.fw is as)[j-x.s])) (by rw[List.getElem?_map,e0];rfl)
         rw[show x.s+(j-x.s)=j by omega] at e1 e2
         rw[e1];exact e2
       subst harr
       refine ⟨w1,⟨by rw[hFl,g6],r1⟩,⟨hp.kept.os.trans r2.os.symm,hp.kept.tape.trans r2.tape.symm,hp.kept.output.trans r2.output.symm,by rw[r2.size];exact hp.kept.size,fun q hq _=> ?_,fun y _ _ _ e=>by rw[hgn] at e;cases e⟩,fun e=>by cases e⟩
       rw[r2.size] at hq
       by_cases e:q=x.q
       ·subst e;rw[r2.here,k1]
       ·rw [r2.oth q e]
        refine hp.kept.block q hq fun i B1 s1 c1 e1 e2 e3=> ?_
        obtain ⟨b',k',e4,e5⟩:=honly i B1 e1 e2
        rw[hrb] at e4
        simp only[Option.some.injEq,Prod.mk.injEq] at e4
        obtain ⟨rfl,rfl⟩:=e4
        subst e5
        rw[g2] at e3
        simp only[Option.some.injEq,Prod.mk.injEq] at e3
        exact e e3.1.symm
      ·cases hro
    obtain ⟨w1,hw1,hg,hnone⟩:=mid
    cases hso:slOf ct.res with
    | none =>
     rw[hso] at hS
     simp only[Option.some.injEq] at hS
     subst hS
     refine ⟨w1,us,undef,rfl,hw1,hg,by rw[hso];trivial,outL_res hos hd ho.outs (fun b len e=> ?_) (fun e=>(e hso).elim) (Nat.le_of_ble_eq_true h1)⟩
     rw[outL_res.slV_none hso] at e;cases e
    | some y =>
     obtain ⟨k,nn⟩:=y
     rw[hso] at hS
     simp only at hS
     cases hrb:rwBlk 0 ct.ps with
     | some _=>rw[hrb] at hS;cases hS
     | none =>
      rw[hrb] at hS
      simp only at hS
      have hw1':=hnone hrb
      subst hw1'
      split at hS
      ·rename_i b len hsv
       split at hS
       ·rename_i B2 hB2
        split at hS
        ·rename_i k' A hgr
         cases hk:(B2.rw&&kindB k k') with
         | false=>rw[hk] at hS;cases hS
         | true =>
          rw[hk] at hS
          simp only[cond_true,Option.some.injEq] at hS
          subst hS
          simp only[Bool.and_eq_true] at hk
          have:=kindB_eq hk.2;subst this
          obtain ⟨slv,hslv⟩:=slV_den hsv hd
          have ho3:=ho.sl
          rw[hso] at ho3
          simp only at ho3
          obtain ⟨o1,o2,o3⟩:=ho3
          have hfr:Fresh (grW ct.ps ws) w1 w' k (F.a ct.fs is as) slv∧∀m,nn=some m→(F.a ct.fs is as).length=m:=by
           refine ⟨?_,fun m e=>by subst e;exact o3⟩
           obtain ⟨q,s,c,m,e1,_,rfl,e3,e4⟩:=sl_den hslv
           obtain ⟨q',s',c',arr2,el2,fz2,m1,m2,m3,m4,m5⟩:=hp.bw.at' b B2 hB2
           rw[e1] at m1
           simp only[Option.some.injEq,Prod.mk.injEq] at m1
           obtain ⟨rfl,rfl,rfl⟩:=m1
           have:=m3 hk.1
           subst this
           have e4:=e4 rfl
           simp only[ev_kst,Int.toNat_zero,Nat.zero_add,o2,Int.toNat_natCast] at e4 e3 ⊢
           unfold Bk.wid at m4
           unfold Bk.cont at m5
           rw[hgr] at m4 m5
           simp only[cond_true,o1] at m4 m5
           have hmax:Nat.max c (F.a ct.fs is as).length=c:=Nat.max_eq_left e4
           have hm:m=c:=by rw[e3];simp[capOf,ev_kst]
           subst hm
           refine ⟨q,s,m,arr2,el2,rfl,e4,?_,m2,by rw[hmax] at m4;exact m4,m5.1,m5.2 trivial⟩
           rcases Nat.lt_or_ge q w1.heap.size with hlt | hge
           ·obtain ⟨i0,B0,s0,c0,f1,f2,f3,f4,f5⟩:=hp.win b B2 q s m hB2 hk.1 e1 hlt
            obtain ⟨x,c1,f6,f7,f8⟩:=given hrb i0 B0 f1 f2
            rw[f3] at f7
            simp only[Option.some.injEq,Prod.mk.injEq] at f7
            obtain ⟨rfl,rfl,rfl⟩:=f7
            refine .inr ⟨x,f6,rfl,f4,?_⟩
            rw[f8] at f5
            have:B2.wid N m=m:=by unfold Bk.wid;rw[hgr];simp only[cond_true,o1];exact hmax
            rw[this] at f5;exact f5
           ·exact .inl hge
          refine ⟨w1,us,slv,rfl,hw1,hg,by rw[hso];exact hfr,outL_res hos hd ho.outs (fun b' len' e=> ?_) (fun _=>⟨_,hsv⟩) (Nat.le_of_ble_eq_true h1)⟩
          rw[hsv] at e
          simp only[Option.some.injEq,Prod.mk.injEq] at e
          rw[←e.1,←e.2];exact hslv
        ·cases hS
       ·cases hS
      ·cases hS
end
def mkT {α:Type}:List (Nat×α)→Tr α→Tr α
 | [],t=>t
 | (k,x)::l,t=>mkT l (t.set k x)
structure Ent (F:Fns) (ct:Ct) (is:List Int) (as:List (List Int)) (ws:List (Option Win)) (we:World) (Ne:Num) (Ee:Env) (σe:St):Prop where
 inv:Inv Ee σe
 tie:Tie Ne Ee σe.bks 0 ct.ps ws
 bw:BW Ne Ee σe.bks we
 args:∃us,Args we ct.ps us is as ws
def Qend (P:Program)(F:Fns)(fn:Func)(ct:Ct)(is:List Int)(as:List (List Int))(ws:List (Option Win))(we:World):Exit→Act→World→Prop :=
 bodyPost P fn fun e w'=>∃u,e= .returned u∧ResOk P F ct is as ws we u w'
def notExit:Ex→Bool
 | .exit _=>false
 | _=>true
def endD (P:Program)(ct:Ct)(σe:St)(fn:Func)(σ:St)(r:Option (Out×Tr SV×St)):Option (Sum1×List Df×List Ob) :=
 match r with
 | some (.done e,T1,σ1) =>
  bif notExit e&&oneSl ct.res then
   match resS T1 P fn.results.toList σ1 with
   | some (vs,σ2)=>match summ ct σe vs σ2,ordOk σ.nx σ.na σ2.defs with
    | some S,some _=>some (S,σ2.defs,σ2.obs)
    | _,_=>none
   | none=>none
  else none
 | _=>none
def Tr.none' {α:Type}(o:Option α):Bool:=match o with | some _=>false | none=>true
def atD (σe:St)(T0:Tr SV)(σ0:St)(σ:St)(T1:Tr SV)(σ1:St):Option (List Ar×List (Option Nat)×List Df×List Ob) :=
 match mtch σe.nb σe.nv T0 σ0 T1 σ1,ordOk σ.nx σ.na σ1.defs with
 | some m,some _=>bif Nat.ble σe.nb σ0.nb&&Nat.ble σe.nv σ0.nv&&patB T0 σ0 then
   some ((List.range σ0.nx).map (fun x=>(m.i.get x).getD (.kst 0)),(List.range σ0.na).map m.a.get,σ1.defs,σ1.obs)
  else none
 | _,_=>none
def headD (σe:St)(T0:Tr SV)(σ0:St)(σ:St)(r:Option (Out×Tr SV×St)):Option ((Code×List Kt)×List Ar×List (Option Nat)×List Df×List Ob) :=
 match r with
 | some (.at c ks,T1,σ1)=>(atD σe T0 σ0 σ T1 σ1).map ((c,ks),·)
 | _=>none
def runB (P:Program)(call:FuncId→List SV→St→Option (SV×St))(stops:List Nat)(n f fuel:Nat)(b:Code)(ks:List Kt)(T:Tr SV)(σ:St):Option (Bool×Out×Tr SV×St) :=
 match runK P call stops n f fuel b [] T σ with
 | some (.done .normal,T1,σ1)=>some (true,.done .normal,T1,σ1)
 | some (.done e,T1,σ1)=>match unw ks e with
  | .inl e=>some (false,.done e,T1,σ1)
  | .inr (c,ks)=>match runK P call stops n f fuel c ks T1 σ1 with
   | some r=>some (false,r)
   | none=>none
 | _=>none
def roundD (σe:St)(T0:Tr SV)(σ0:St)(σ:St)(r:Option (Bool×Out×Tr SV×St)):Option (List Ar×List (Option Nat)×List Df×List Ob) :=
 match r with
 | some (true,_,T1,σ1)=>atD σe T0 σ0 σ T1 σ1
 | _=>none
def outD (r:Option (Bool×Out×Tr SV×St)):Option (Out×Tr SV×St) :=
 match r with
 | some (false,r)=>some r
 | _=>none
def findLoop (id:Nat):Code→List Kt→Option (Code×List Kt)
 | .seq a b,ks=>match findLoop id a (.seq b::ks) with
  | some r=>some r
  | none=>findLoop id b ks
 | .block i b,ks=>findLoop id b (.block i::ks)
 | .cond _ a b,ks=>match findLoop id a ks with
  | some r=>some r
  | none=>findLoop id b ks
 | .loop b,ks=>match firstReg b with
  | some i=>bif Nat.beq i id then some (b,ks) else none
  | none=>none
 | _,_=>none
def loopOf (P:Program)(f id:Nat):Code×List Kt :=
 match P.funcs[f]? with
 | some fn=>match fn.body with
  | some b=>(findLoop id b []).getD (.skip,[])
  | none=>(.skip,[])
 | none=>(.skip,[])
def pn (is:List Ar)(as:List (Option Nat))(N:Num):Num :=
 ⟨fun x=>(is.getD x (.kst 0)).ev N,fun A=>match as.getD A none with | some B=>N.a B | none=>[],N.f⟩
section
variable {P:Program} {F:Fns} {call:FuncId→List SV→St→Option (SV×St)} {n:Nat} {Ne:Num} {Ee:Env} {σe:St} {we:World}
theorem At.agr {T:Tr SV}{σ:St}{N N':Num}{a:Act}{w:World}(h:Agr σ.nx σ.na N N')(hpat:patB T σ=true)(hat:At F n Ne Ee σe we T σ N a w):At F n Ne Ee σe we T σ N' a w:=by
 obtain ⟨_,_,hT,hB,hni⟩:=patB_spec hpat
 obtain ⟨h1,h2,E,h3,h4⟩:=hat
 exact ⟨h.f.trans h1,fun x hx=>by rw[h.i x (by omega)];exact h2 x hx,E,RA.agr h hT h3,Post.agr h hB h4⟩
theorem getD_range {α _β:Type}{f:Nat→α}{n x:Nat}{d:α}(h:x<n):((List.range n).map f).getD x d=f x:=by
 rw[List.getD_eq_getElem?_getD,List.getElem?_map,List.getElem?_range h];rfl
theorem atD_at {T0 T1:Tr SV}{σ0 σ σ1:St}{is:List Ar}{as:List (Option Nat)}{ds:List Df}{os:List Ob}{N:Num}{a:Act}{w:World}(h:atD σe T0 σ0 σ T1 σ1=some (is,as,ds,os))(hI:Inv Ee σe)(hgl:σ0.gl=σe.gl)(hni:σ0.ni=0)
  (hat:At F n Ne Ee σe we T1 σ1 N a w):At F n Ne Ee σe we T0 σ0 (pn is as N) a w:=by
 unfold atD at h
 split at h
 ·rename_i m _ hm _
  cases hb:(Nat.ble σe.nb σ0.nb&&Nat.ble σe.nv σ0.nv&&patB T0 σ0) with
  | false=>rw[hb] at h;cases h
  | true =>
   rw[hb] at h
   simp only[cond_true,Option.some.injEq,Prod.mk.injEq] at h
   obtain ⟨rfl,rfl,rfl,rfl⟩:=h
   simp only[Bool.and_eq_true] at hb
   have:=At.match hI hat hm hb.1.1 hb.1.2 hgl (fun x hx=>by rw[hni] at hx;omega)
   refine At.agr (N:=m.num N) ⟨rfl,fun x hx=> ?_,fun A hA=> ?_⟩ hb.2 this
   ·simp only[pn,M.num]
    rw[getD_range (_β:=Nat) hx]
    cases m.i.get x with
    | none=>rfl
    | some q=>rfl
   ·simp only[pn,M.num]
    rw[getD_range (_β:=Nat) hA]
    cases m.a.get A <;> rfl
 ·cases h
theorem atD_ds {T0 T1:Tr SV}{σ0 σ σ1:St}{is:List Ar}{as:List (Option Nat)}{ds:List Df}{os:List Ob}(h:atD σe T0 σ0 σ T1 σ1=some (is,as,ds,os)):σ1.defs=ds∧σ1.obs=os∧∃mx,ordOk σ.nx σ.na σ1.defs=some mx:=by
 unfold atD at h
 split at h
 ·rename_i m mx _ ho
  cases hb:(Nat.ble σe.nb σ0.nb&&Nat.ble σe.nv σ0.nv&&patB T0 σ0) with
  | false=>rw[hb] at h;cases h
  | true =>
   rw[hb] at h
   simp only[cond_true,Option.some.injEq,Prod.mk.injEq] at h
   exact ⟨h.2.2.1,h.2.2.2,mx,ho⟩
 ·cases h
theorem ext_at {T:Tr SV}{σ σ1:St}{o:List Bool}{mx:Nat×Nat}{N:Num}{a:Act}{w:World}(hpat:patB T σ=true)(hord:ordOk σ.nx σ.na σ1.defs=some mx)(hni1:σ1.ni=σ.ni)(hat:At F n Ne Ee σe we T σ N a w) :
  ∃N',Agr σ.nx σ.na N N'∧N'.f=F∧(∀ d∈σ1.defs,d.sat N')∧((∀ ob∈σ1.obs,ob.holds N')→Hold F N' σ1∧∃E,RA N' E n T a∧Post Ne Ee σe we N' E (σ.ask' o) w):=by
 obtain ⟨hd,hob,hT,hB,hni⟩:=patB_spec hpat
 obtain ⟨hF,hins,E,hA,hp⟩:=hat
 obtain ⟨mx,ma⟩:=mx
 obtain ⟨_,_,hagr,hsat,_⟩:=ext_spec (N:=N) hord
 refine ⟨ext N σ1.defs,hagr,hagr.f.trans hF,hsat,fun hobs=>⟨⟨hagr.f.trans hF,hsat,hobs,fun x hx=> ?_⟩,E,RA.agr hagr hT hA,?_⟩⟩
 ·rw [hni1] at hx
  rw[hagr.i x (by omega)]
  exact hins x hx
 ·have:=Post.agr hagr hB hp
  exact ⟨⟨this.inv.freshB,this.inv.freshV,this.inv.glob⟩,this.le,this.bw,this.kept,this.win⟩
theorem runB_ext (hcall:CallOk F P call){stops:List Nat}{f fuel:Nat}{b:Code}{ks:List Kt}{T T1:Tr SV}{σ σ1:St}{r:Bool}{out:Out}(h:runB P call stops n f fuel b ks T σ=some (r,out,T1,σ1)):Ext σ σ1:=by
 unfold runB at h
 split at h
 ·rename_i hr
  simp only[Option.some.injEq,Prod.mk.injEq] at h
  rw[←h.2.2.2];exact runK_ext hcall f hr
 ·rename_i hr
  split at h
  ·simp only[Option.some.injEq,Prod.mk.injEq] at h
   rw[←h.2.2.2];exact runK_ext hcall f hr
  ·split at h
   ·rename_i h2
    simp only[Option.some.injEq,Prod.mk.injEq] at h
    obtain ⟨_,rfl⟩:=h
    exact (runK_ext hcall f hr).trans (runK_ext hcall f h2)
   ·cases h
 ·cases h
theorem runB_sound (hm:P.follows .mixedOrders=true)(hcall:CallOk F P call){stops:List Nat}{f fuel:Nat}{b:Code}{ks:List Kt}{T T1:Tr SV}{σ σ1:St}{r:Bool}{out:Out}(h:runB P call stops n f fuel b ks T σ=some (r,out,T1,σ1))
  {N:Num} {E:Env} {a:Act} {w:World} (hH:Hold F N σ1) (hA:RA N E n T a) (hI:Inv E σ) (hw:BW N E σ.bks w) {K:Act→World→Prop} {Q:Exit→Act→World→Prop}
  (hQ:∀E' a' w',RA N E' n T1 a'→Post N E σ w N E' σ1 w'→(r=true→K a' w')∧(r=false→outK P Q out a' w')):b.wp P (Exit.then K (wpK P ks Q)) a w:=by
 unfold runB at h
 split at h
 ·rename_i hr
  simp only[Option.some.injEq,Prod.mk.injEq] at h
  obtain ⟨rfl,rfl,rfl,rfl⟩:=h
  refine runK_sound (Q:=Exit.then K (wpK P ks Q)) hm hcall f hr hH hA hI hw fun E' a' w' h1 h2=> ?_
  exact (hQ E' a' w' h1 h2).1 rfl
 ·rename_i e T2 σ2 hne hr
  have hne':e≠ .normal:=hne
  have hth:∀a' w',wpK P ks Q e.den a' w'→outK P (Exit.then K (wpK P ks Q)) (.done e) a' w':=fun a' w' k=>by
   cases e with
   | normal=>exact (hne' rfl).elim
   | exit id=>exact k
   | ret=>exact k
  split at h
  ·rename_i e' hu
   simp only[Option.some.injEq,Prod.mk.injEq] at h
   obtain ⟨rfl,rfl,rfl,rfl⟩:=h
   refine runK_sound (Q:=Exit.then K (wpK P ks Q)) hm hcall f hr hH hA hI hw fun E' a' w' h1 h2=> ?_
   exact hth a' w' (unw_done hu ((hQ E' a' w' h1 h2).2 rfl))
  ·rename_i c ks' hu
   split at h
   ·rename_i r' h2
    simp only[Option.some.injEq,Prod.mk.injEq] at h
    obtain ⟨rfl,rfl⟩:=h
    refine runK_sound (Q:=Exit.then K (wpK P ks Q)) hm hcall f hr (Hold.of_ext (runK_ext hcall f h2) hH) hA hI hw fun E' a' w' h1 hp1=> ?_
    refine hth a' w' (unw_more hu ?_)
    exact runK_sound (Q:=Q) hm hcall f h2 hH h1 hp1.inv hp1.bw fun E2 a2 w2 g1 g2=>(hQ E2 a2 w2 g1 (hp1.trans g2)).2 rfl
   ·cases h
 ·cases h
theorem endD_inv {ct:Ct}{fn:Func}{σ:St}{r:Option (Out×Tr SV×St)}{S:Sum1}{ds:List Df}{os:List Ob}(h:endD P ct σe fn σ r=some (S,ds,os)) :
  ∃e T1 σ1 vs σ2 mx,r=some (.done e,T1,σ1)∧(∀ id,e≠ .exit id)∧oneSl ct.res=true∧resS T1 P fn.results.toList σ1=some (vs,σ2)∧summ ct σe vs σ2=some S∧ordOk σ.nx σ.na σ2.defs=some mx∧ds=σ2.defs∧os=σ2.obs:=by
 unfold endD at h
 split at h
 ·rename_i e T1 σ1
  cases hb:(notExit e&&oneSl ct.res) with
  | false=>rw[hb] at h;cases h
  | true =>
   rw[hb] at h
   simp only[cond_true] at h
   simp only[Bool.and_eq_true] at hb
   split at h
   ·rename_i vs σ2 hr
    split at h
    ·rename_i S' mx hs ho
     simp only[Option.some.injEq,Prod.mk.injEq] at h
     obtain ⟨rfl,rfl,rfl⟩:=h
     exact ⟨e,T1,σ1,vs,σ2,mx,rfl,(fun id he=>by rw[he] at hb;cases hb.1),hb.2,hr,hs,ho,rfl,rfl⟩
    ·cases h
   ·cases h
 ·cases h
theorem end_ok {ct:Ct}{fn:Func}{is:List Int}{as:List (List Int)}{ws:List (Option Win)}{e:Ex}{T1:Tr SV}{σ1 σ2:St}{vs:List V1}{S:Sum1}{N:Num}{E:Env}{a:Act}{w:World}(he:∀id,e≠ .exit id)(h1:oneSl ct.res=true)(hres:resS T1 P fn.results.toList σ1=some (vs,σ2))
  (hS:summ ct σe vs σ2=some S) (hH:Hold F N σ2) (hA:RA N E fn.ntmps T1 a) (hp:Post Ne Ee σe we N E σ1 w) (hent:Ent F ct is as ws we Ne Ee σe) (hok:S.ok N F ct is as) (hlen:∀L,rwArg ct.ps is as=some L→(F.a ct.fw is as).length=L.length) :
  Qend P F fn ct is as ws we e.den a w:=by
 obtain ⟨u,hu,hrun⟩:=resV_run hA hp.bw hres hH
 obtain ⟨us,hargs⟩:=hent.args
 have:=resOk_of (P:=P) hS h1 hu (hp.trans (Post.of_pur (resS_pur hres) hp.inv hp.bw)) hent.bw hent.tie hargs hok hlen
 cases e with
 | normal=>exact ⟨hA.defers,u,hrun,u,rfl,this⟩
 | ret=>exact ⟨hA.defers,u,hrun,u,rfl,this⟩
 | exit id=>exact (he id rfl).elim
variable {ct:Ct} {fn:Func} {is:List Int} {as:List (List Int)} {ws:List (Option Win)} {stops:List Nat} {f fuel:Nat} {c b:Code} {ks:List Kt} {T T0:Tr SV} {σ σ0:St} {o:List Bool} {S:Sum1} {ds:List Df} {os:List Ob} {N:Num} {a:Act} {w:World} {is':List Ar} {as':List (Option Nat)}
theorem to_end (hm:P.follows .mixedOrders=true)(hcall:CallOk F P call)(hrun:endD P ct σe fn σ (runK P call stops fn.ntmps f fuel c ks T (σ.ask' o))=some (S,ds,os))(hpat:patB T σ=true)
  (hat:At F fn.ntmps Ne Ee σe we T σ N a w) (hent:Ent F ct is as ws we Ne Ee σe)
  (H:∀N',Agr σ.nx σ.na N N'→N'.f=F→(∀ d∈ds,d.sat N')→(∀ ob∈os,ob.holds N')∧S.ok N' F ct is as∧∀L,rwArg ct.ps is as=some L→(F.a ct.fw is as).length=L.length) :
  c.wp P (wpK P ks (Qend P F fn ct is as ws we)) a w:=by
 obtain ⟨e,T1,σ1,vs,σ2,mx,h1,h2,h3,h4,h5,h6,rfl,rfl⟩:=endD_inv hrun
 have hx:=runK_ext hcall f h1
 have hx2:=(resS_pur h4).ext
 obtain ⟨N',k1,k2,k3,k4⟩:=ext_at (o:=o) hpat h6 (hx2.ni.trans hx.ni) hat
 obtain ⟨g1,g2,g3⟩:=H N' k1 k2 k3
 obtain ⟨hH,E,hA,hp⟩:=k4 g1
 exact runK_sound hm hcall f h1 (Hold.of_ext hx2 hH) hA hp.inv hp.bw fun E' a' w' q1 q2=>end_ok h2 h3 h4 h5 hH q1 (hp.trans q2) hent g2 g3
theorem to_head (hm:P.follows .mixedOrders=true)(hcall:CallOk F P call){c':Code}{ks':List Kt}(hrun:headD σe T0 σ0 σ (runK P call stops n f fuel c ks T (σ.ask' o))=some ((.loop c',ks'),is',as',ds,os))(hpat:patB T σ=true)(hgl:σ0.gl=σe.gl)(hni:σ0.ni=0)
  (hat:At F n Ne Ee σe we T σ N a w) (hI:Inv Ee σe) {Q:Exit→Act→World→Prop}
  (H:∀N',Agr σ.nx σ.na N N'→N'.f=F→(∀ d∈ds,d.sat N')→(∀ ob∈os,ob.holds N')∧∀a' w',At F n Ne Ee σe we T0 σ0 (pn is' as' N') a' w'→(Code.loop c').wp P (wpK P ks' Q) a' w') :
  c.wp P (wpK P ks Q) a w:=by
 unfold headD at hrun
 split at hrun
 ·rename_i c2 ks2 T1 σ1 h1
  simp only[Option.map_eq_some_iff,Prod.mk.injEq] at hrun
  obtain ⟨y,hy,⟨⟨rfl,rfl⟩,rfl⟩⟩:=hrun
  obtain ⟨rfl,rfl,mx,h6⟩:=atD_ds hy
  have hx:=runK_ext hcall f h1
  obtain ⟨N',k1,k2,k3,k4⟩:=ext_at (o:=o) hpat h6 hx.ni hat
  obtain ⟨g1,g2⟩:=H N' k1 k2 k3
  obtain ⟨hH,E,hA,hp⟩:=k4 g1
  exact runK_sound hm hcall f h1 hH hA hp.inv hp.bw fun E' a' w' q1 q2=>g2 a' w' (atD_at hy hI hgl hni ⟨k2,hH.ins,E',q1,hp.trans q2⟩)
 ·cases hrun
theorem to_round (hm:P.follows .mixedOrders=true)(hcall:CallOk F P call)(hrun:roundD σe T0 σ0 σ (runB P call stops n f fuel b ks T (σ.ask' o))=some (is',as',ds,os))(hpat:patB T σ=true)(hgl:σ0.gl=σe.gl)(hni:σ0.ni=0)
  (hat:At F n Ne Ee σe we T σ N a w) (hI:Inv Ee σe) {K:Act→World→Prop} {Q:Exit→Act→World→Prop}
  (H:∀N',Agr σ.nx σ.na N N'→N'.f=F→(∀ d∈ds,d.sat N')→(∀ ob∈os,ob.holds N')∧∀a' w',At F n Ne Ee σe we T0 σ0 (pn is' as' N') a' w'→K a' w') :
  b.wp P (Exit.then K (wpK P ks Q)) a w:=by
 unfold roundD at hrun
 split at hrun
 ·rename_i out T1 σ1 h1
  obtain ⟨rfl,rfl,mx,h6⟩:=atD_ds hrun
  have hx:=runB_ext hcall h1
  obtain ⟨N',k1,k2,k3,k4⟩:=ext_at (o:=o) hpat h6 hx.ni hat
  obtain ⟨g1,g2⟩:=H N' k1 k2 k3
  obtain ⟨hH,E,hA,hp⟩:=k4 g1
  exact runB_sound hm hcall h1 hH hA hp.inv hp.bw fun E' a' w' q1 q2=>⟨fun _=>g2 a' w' (atD_at hrun hI hgl hni ⟨k2,hH.ins,E',q1,hp.trans q2⟩),fun e=>by cases e⟩
 ·cases hrun
theorem to_out (hm:P.follows .mixedOrders=true)(hcall:CallOk F P call)(hrun:endD P ct σe fn σ (outD (runB P call stops fn.ntmps f fuel b ks T (σ.ask' o)))=some (S,ds,os))(hpat:patB T σ=true)
  (hat:At F fn.ntmps Ne Ee σe we T σ N a w) (hent:Ent F ct is as ws we Ne Ee σe) {K:Act→World→Prop}
  (H:∀N',Agr σ.nx σ.na N N'→N'.f=F→(∀ d∈ds,d.sat N')→(∀ ob∈os,ob.holds N')∧S.ok N' F ct is as∧∀L,rwArg ct.ps is as=some L→(F.a ct.fw is as).length=L.length) :
  b.wp P (Exit.then K (wpK P ks (Qend P F fn ct is as ws we))) a w:=by
 obtain ⟨e,T1,σ1,vs,σ2,mx,h1,h2,h3,h4,h5,h6,rfl,rfl⟩:=endD_inv hrun
 unfold outD at h1
 split at h1
 ·rename_i r hr
  simp only[Option.some.injEq] at h1
  subst h1
  have hx:=runB_ext hcall hr
  have hx2:=(resS_pur h4).ext
  obtain ⟨N',k1,k2,k3,k4⟩:=ext_at (o:=o) hpat h6 (hx2.ni.trans hx.ni) hat
  obtain ⟨g1,g2,g3⟩:=H N' k1 k2 k3
  obtain ⟨hH,E,hA,hp⟩:=k4 g1
  exact runB_sound hm hcall hr (Hold.of_ext hx2 hH) hA hp.inv hp.bw fun E' a' w' q1 q2=>⟨fun e=>(by cases e),fun _=>end_ok h2 h3 h4 h5 hH q1 (hp.trans q2) hent g2 g3⟩
 ·cases h1
theorem to_next (hm:P.follows .mixedOrders=true)(hcall:CallOk F P call){c':Code}{ks':List Kt}(hrun:headD σe T0 σ0 σ (outD (runB P call stops n f fuel b ks T (σ.ask' o)))=some ((.loop c',ks'),is',as',ds,os))(hpat:patB T σ=true)(hgl:σ0.gl=σe.gl)(hni:σ0.ni=0)
  (hat:At F n Ne Ee σe we T σ N a w) (hI:Inv Ee σe) {K:Act→World→Prop} {Q:Exit→Act→World→Prop}
  (H:∀N',Agr σ.nx σ.na N N'→N'.f=F→(∀ d∈ds,d.sat N')→(∀ ob∈os,ob.holds N')∧∀a' w',At F n Ne Ee σe we T0 σ0 (pn is' as' N') a' w'→(Code.loop c').wp P (wpK P ks' Q) a' w') :
  b.wp P (Exit.then K (wpK P ks Q)) a w:=by
 unfold headD at hrun
 split at hrun
 ·rename_i c2 ks2 T1 σ1 h1
  unfold outD at h1
  split at h1
  ·rename_i r hr
   simp only[Option.some.injEq] at h1
   subst h1
   simp only[Option.map_eq_some_iff,Prod.mk.injEq] at hrun
   obtain ⟨y,hy,⟨⟨rfl,rfl⟩,rfl⟩⟩:=hrun
   obtain ⟨rfl,rfl,mx,h6⟩:=atD_ds hy
   have hx:=runB_ext hcall hr
   obtain ⟨N',k1,k2,k3,k4⟩:=ext_at (o:=o) hpat h6 hx.ni hat
   obtain ⟨g1,g2⟩:=H N' k1 k2 k3
   obtain ⟨hH,E,hA,hp⟩:=k4 g1
   exact runB_sound hm hcall hr hH hA hp.inv hp.bw fun E' a' w' q1 q2=>⟨fun e=>(by cases e),fun _=>g2 a' w' (atD_at hy hI hgl hni ⟨k2,hH.ins,E',q1,hp.trans q2⟩)⟩
  ·cases h1
 ·cases hrun
def doneD (σe:St)(T0:Tr SV)(σ0:St)(σ:St)(r:Option (Out×Tr SV×St)):Option (List Ar×List (Option Nat)×List Df×List Ob) :=
 match r with
 | some (.done .normal,T1,σ1)=>atD σe T0 σ0 σ T1 σ1
 | _=>none
theorem to_done (hm:P.follows .mixedOrders=true)(hcall:CallOk F P call)(hrun:doneD σe T0 σ0 σ (outD (runB P call stops n f fuel b ks T (σ.ask' o)))=some (is',as',ds,os))(hpat:patB T σ=true)(hgl:σ0.gl=σe.gl)(hni:σ0.ni=0)
  (hat:At F n Ne Ee σe we T σ N a w) (hI:Inv Ee σe) {K:Act→World→Prop} {Q:Exit→Act→World→Prop}
  (H:∀N',Agr σ.nx σ.na N N'→N'.f=F→(∀ d∈ds,d.sat N')→(∀ ob∈os,ob.holds N')∧∀a' w',At F n Ne Ee σe we T0 σ0 (pn is' as' N') a' w'→Q .normal a' w') :
  b.wp P (Exit.then K (wpK P ks Q)) a w:=by
 unfold doneD at hrun
 split at hrun
 ·rename_i T1 σ1 h1
  unfold outD at h1
  split at h1
  ·rename_i r hr
   simp only[Option.some.injEq] at h1
   subst h1
   obtain ⟨rfl,rfl,mx,h6⟩:=atD_ds hrun
   have hx:=runB_ext hcall hr
   obtain ⟨N',k1,k2,k3,k4⟩:=ext_at (o:=o) hpat h6 hx.ni hat
   obtain ⟨g1,g2⟩:=H N' k1 k2 k3
   obtain ⟨hH,E,hA,hp⟩:=k4 g1
   exact runB_sound hm hcall hr hH hA hp.inv hp.bw fun E' a' w' q1 q2=>⟨fun e=>(by cases e),fun _=>g2 a' w' (atD_at hrun hI hgl hni ⟨k2,hH.ins,E',q1,hp.trans q2⟩)⟩
  ·cases h1
 ·cases hrun
theorem cspec_ofD {f:FuncId}{fn:Func}{body:Code}{args:List SV}(hp:patL ct.ps σ00=(args,σe))(hf:P.funcs[f]? =some fn)(hb:fn.body=some body)(hn:Nat.ble (dupL ct.dup args).length fn.ntmps=true)(hni:σe.ni=0)
  (H:∀is as ws we Ee a,Shape ct.ps is as→F.p ct.p is as→Ent F ct is as ws we (num0 F ct.ps is as) Ee σe→At F fn.ntmps (num0 F ct.ps is as) Ee σe we (trArgs 0 (dupL ct.dup args) σe.gl) σe (num0 F ct.ps is as) a we →
   body.wp P (wpK P [] (Qend P F fn ct is as ws we)) a we):CSpec P F f ct :=
 cspec_enter hp hf hb hn hni fun is as ws w E a h1 h2 h3 h4 h5 h6 h7=>H is as ws w E a h1 h2 ⟨h3,h4,h5,_,h7⟩ h6
theorem cspec_of {f:FuncId}{fn:Func}{body:Code}{args:List SV}(hp:patL ct.ps σ00=(args,σe))(hf:P.funcs[f]? =some fn)(hb:fn.body=some body)(hn:Nat.ble args.length fn.ntmps=true)(hni:σe.ni=0)
  (H:∀is as ws we Ee a,Shape ct.ps is as→F.p ct.p is as→Ent F ct is as ws we (num0 F ct.ps is as) Ee σe→At F fn.ntmps (num0 F ct.ps is as) Ee σe we (trArgs 0 args σe.gl) σe (num0 F ct.ps is as) a we →
   body.wp P (wpK P [] (Qend P F fn ct is as ws we)) a we) (hdup:ct.dup=false:=by rfl):CSpec P F f ct :=
 cspec_ofD hp hf hb (by rw[hdup];exact hn) hni (by rw[hdup];exact H)
end
def decA (c:Nat):Ar:=bif Nat.beq (c%2) 0 then .var (c/2) else .kst (c/2)
def decK:Nat→IntKind
 | 0=> .u8
 | 1=> .u32
 | 2=> .u64
 | _=> .i64
def decO:Nat→BinOp
 | 0=> .add
 | 1=> .or
 | 2=> .xor
 | 3=> .shl
 | 4=> .shr
 | 5=> .mul
 | _=> .and
def decN (c:Nat):Nd :=
 bif Nat.beq (c%2) 0 then .conv (decK (c/2%4)) (decA (c/8))
 else .bin (decO (c/2%8)) (decK (c/16%4)) (decA (c/64%16384)) (decA (c/1048576))
def decL:Nat→List Nat→List Df→List Df
 | _,[],acc=>acc
 | x,c::l,acc=>decL (x+1) l (.n x (decN c)::acc)
def cA:Ar→Nat
 | .var x=>2*x
 | .kst (.ofNat n)=>2*n+1
 | .kst (.negSucc n)=>2*n+1
def cK:IntKind→Nat
 | .u8=>0
 | .u32=>1
 | .u64=>2
 | _=>3
def cO:BinOp→Nat
 | .add=>0
 | .or=>1
 | .xor=>2
 | .shl=>3
 | .shr=>4
 | .mul=>5
 | _=>6
def cN:Nd→Nat
 | .bin op k a b=>1+2*(cO op+8*(cK k+4*(cA a+16384*cA b)))
 | .conv k a=>2*(cK k+4*cA a)
 | _=>0
def commB:BinOp→Bool
 | .add | .or | .xor | .and | .mul=>true
 | _=>false
def isZero:Ar→Bool
 | .kst (.ofNat 0)=>true
 | _=>false
def idNd:Nd→Option Ar
 | .bin .shr _ a b=>bif isZero b then some a else none
 | _=>none
def sortNd:Nd→Nd
 | .bin op k a b=>bif commB op&& !(Nat.ble (cA a) (cA b)) then .bin op k b a else .bin op k a b
 | nd=>nd
def repA (rep:Tr Ar):Ar→Option Ar
 | .var x=>rep.get x
 | .kst n=>some (.kst n)
def repN (rep:Tr Ar):Nd→Option Nd
 | .bin op k a b=>match repA rep a,repA rep b with
  | some a,some b=>some (.bin op k a b)
  | _,_=>none
 | .conv k a=>match repA rep a with
  | some a=>some (.conv k a)
  | none=>none
 | _=>none
structure Cz where
 rep:Tr Ar
 tab:Tr (Nat×Nd)
def czStep (make:Bool)(x:Nat)(nd:Nd)(z:Cz):Option Cz :=
 match repN z.rep nd with
 | none=>none
 | some nd=>match idNd nd with
  | some a=>some {z with rep:=z.rep.set x a}
  | none=>match z.tab.get (cN (sortNd nd)) with
   | some (y,nd')=>bif eNd nd' (sortNd nd) then some {z with rep:=z.rep.set x (.var y)} else none
   | none=>bif make then some {rep:=z.rep.set x (.var x),tab:=z.tab.set (cN (sortNd nd)) (x,sortNd nd)} else none
def czAll (make:Bool):List Df→Cz→Option Cz
 | [],z=>some z
 | .n x nd::ds,z=>match z.rep.get x with
  | some _=>czAll make ds z
  | none=>match czStep make x nd z with
   | some z=>czAll make ds z
   | none=>none
 | .a _ _::ds,z=>czAll make ds z
def idTr:Nat→Nat→Tr Ar→Tr Ar
 | _,0,t=>t
 | x,n+1,t=>idTr (x+1) n (t.set x (.var x))
def setL:List (Nat×Ar)→Tr Ar→Tr Ar
 | [],t=>t
 | (x,a)::l,t=>setL l (t.set x a)
def sameL (r1 r2:Tr Ar):List Ar→List Ar→Bool
 | [],[]=>true
 | a::l,b::m=>(match repA r1 a,repA r2 b with | some a,some b=>eAr a b | _,_=>false)&&sameL r1 r2 l m
 | _,_=>false
def czCheck (n2:Nat)(ds1 ds2:List Df)(ins:List (Nat×Ar))(o1 o2:List Ar):Bool :=
 match czAll true ds2.reverse ⟨idTr 0 n2 .nil,.nil⟩ with
 | none=>false
 | some z=>match czAll false ds1.reverse ⟨setL ins .nil,z.tab⟩ with
  | some z1=>sameL z1.rep z.rep o1 o2
  | none=>false
section
variable {N N1 N2:Num}
theorem repA_ev {rep:Tr Ar}(h:∀x a,rep.get x=some a→N.i x=a.ev N2):∀ {a b:Ar},repA rep a=some b→a.ev N=b.ev N2
 | .var x,b,e=>h x b e
 | .kst n,b,e=>by simp only[repA,Option.some.injEq] at e;subst e;rfl
theorem repN_ev {rep:Tr Ar}(h:∀x a,rep.get x=some a→N.i x=a.ev N2){nd nd':Nd}(e:repN rep nd=some nd'):nd.ev N=nd'.ev N2:=by
 unfold repN at e
 split at e
 ·split at e
  ·rename_i h1 h2
   simp only[Option.some.injEq] at e
   subst e
   simp only[Nd.ev,repA_ev h h1,repA_ev h h2]
  ·cases e
 ·split at e
  ·rename_i h1
   simp only[Option.some.injEq] at e
   subst e
   simp only[Nd.ev,repA_ev h h1]
  ·cases e
 ·cases e
theorem iop_comm {op:BinOp}(h:commB op=true)(k:IntKind)(x y:Int):iop op k x y=iop op k y x:=by
 cases op <;> simp only[commB,Bool.false_eq_true] at h <;> simp only[iop]
 ·rw [Int.add_comm]
 ·rw [Int.mul_comm]
 ·rw [BitVec.and_comm]
 ·rw [BitVec.or_comm]
 ·rw [BitVec.xor_comm]
theorem sortNd_ev {nd:Nd}:(sortNd nd).ev N=nd.ev N:=by
 unfold sortNd
 split
 ·rename_i op k a b
  cases hc:(commB op&& !(Nat.ble (cA a) (cA b))) with
  | false=>rfl
  | true =>
   simp only[Bool.and_eq_true] at hc
   simp only[cond_true,Nd.ev]
   exact iop_comm hc.1 _ _ _
 ·rfl
theorem idNd_ev {nd:Nd}{a:Ar}(h:idNd nd=some a):nd.ev N=a.ev N:=by
 unfold idNd at h
 split at h
 ·rename_i k a' b
  cases hz:isZero b with
  | false=>rw[hz] at h;cases h
  | true =>
   rw[hz] at h
   simp only[cond_true,Option.some.injEq] at h
   subst h
   unfold isZero at hz
   split at hz
   ·simp only[Nd.ev,iop,Ar.ev]
    simp
   ·cases hz
 ·cases h
structure CzOk (N N2:Num) (z:Cz):Prop where
 rep:∀x a,z.rep.get x=some a→N.i x=a.ev N2
 tab:∀k y nd,z.tab.get k=some (y,nd)→N2.i y=nd.ev N2
theorem czStep_ok {make:Bool}{x:Nat}{nd:Nd}{z z':Cz}(h:czStep make x nd z=some z')(hz:CzOk N N2 z)(hx:N.i x=nd.ev N)(hm:make=true→N=N2):CzOk N N2 z':=by
 unfold czStep at h
 split at h
 ·cases h
 ·rename_i nd' hr
  have e1:=repN_ev hz.rep hr
  split at h
  ·rename_i a ha
   simp only[Option.some.injEq] at h
   subst h
   refine ⟨fun y b hb=> ?_,hz.tab⟩
   simp only at hb
   rw[Tr.get_set] at hb
   by_cases hy:y=x
   ·rw [if_pos hy] at hb
    simp only[Option.some.injEq] at hb
    subst hb
    rw[hy,hx,e1,idNd_ev ha]
   ·rw [if_neg hy] at hb;exact hz.rep y b hb
  ·split at h
   ·rename_i y nd2 ht
    cases he:eNd nd2 (sortNd nd') with
    | false=>rw[he] at h;cases h
    | true =>
     rw[he] at h
     simp only[cond_true,Option.some.injEq] at h
     subst h
     refine ⟨fun y' b hb=> ?_,hz.tab⟩
     simp only at hb
     rw[Tr.get_set] at hb
     by_cases hy:y'=x
     ·rw [if_pos hy] at hb
      simp only[Option.some.injEq] at hb
      subst hb
      have:=hz.tab _ _ _ ht
      rw[eNd_eq he,sortNd_ev] at this
      rw[hy,hx,e1];exact this.symm
     ·rw [if_neg hy] at hb;exact hz.rep y' b hb
   ·cases make with
    | false=>cases h
    | true =>
     have:=hm rfl
     subst this
     simp only[cond_true,Option.some.injEq] at h
     subst h
     refine ⟨fun y' b hb=> ?_,fun k y nd3 hk=> ?_⟩
     ·simp only at hb
      rw[Tr.get_set] at hb
      by_cases hy:y'=x
      ·rw [if_pos hy] at hb
       simp only[Option.some.injEq] at hb
       subst hb
       rw[hy];rfl
      ·rw [if_neg hy] at hb;exact hz.rep y' b hb
     ·simp only at hk
      rw[Tr.get_set] at hk
      by_cases hy:k=cN (sortNd nd')
      ·rw [if_pos hy] at hk
       simp only[Option.some.injEq,Prod.mk.injEq] at hk
       obtain ⟨rfl,rfl⟩:=hk
       rw[sortNd_ev,hx,e1]
      ·rw [if_neg hy] at hk;exact hz.tab k y nd3 hk
theorem czAll_ok {make:Bool}:∀ {ds:List Df} {z z':Cz},czAll make ds z=some z'→CzOk N N2 z→(∀ d∈ds,d.sat N)→(make=true→N=N2)→CzOk N N2 z'
 | [],z,z',h,hz,_,_=>by simp only[czAll,Option.some.injEq] at h;rw[←h];exact hz
 | .n x nd::ds,z,z',h,hz,hs,hm=>by
  simp only[czAll] at h
  split at h
  ·exact czAll_ok h hz (fun d hd=>hs d (List.mem_cons_of_mem _ hd)) hm
  ·split at h
   ·rename_i z1 h1
    exact czAll_ok h (czStep_ok h1 hz (hs (.n x nd) List.mem_cons_self) hm) (fun d hd=>hs d (List.mem_cons_of_mem _ hd)) hm
   ·cases h
 | .a _ _::ds,z,z',h,hz,hs,hm=>by
  simp only[czAll] at h
  exact czAll_ok h hz (fun d hd=>hs d (List.mem_cons_of_mem _ hd)) hm
theorem idTr_get:∀ {n x:Nat} {t:Tr Ar} {y:Nat} {a:Ar},(∀ y a,t.get y=some a→a= .var y)→(idTr x n t).get y=some a→a= .var y
 | 0,x,t,y,a,h,e=>h y a e
 | n+1,x,t,y,a,h,e=>by
  refine idTr_get (n:=n) (x:=x+1) (fun y' a' e'=> ?_) e
  rw[Tr.get_set] at e'
  by_cases hy:y'=x
  ·rw [if_pos hy] at e';simp only[Option.some.injEq] at e';rw[←e',hy]
  ·rw [if_neg hy] at e';exact h y' a' e'
theorem setL_get:∀ {l:List (Nat×Ar)} {t:Tr Ar},(∀ p∈l,N1.i p.1=p.2.ev N2)→(∀ x a,t.get x=some a→N1.i x=a.ev N2)→∀x a,(setL l t).get x=some a→N1.i x=a.ev N2
 | [],t,_,h,x,a,e=>h x a e
 | (y,b)::l,t,hl,h,x,a,e=>by
  refine setL_get (l:=l) (fun p hp=>hl p (List.mem_cons_of_mem _ hp)) (fun x' a' e'=> ?_) x a e
  rw[Tr.get_set] at e'
  by_cases hy:x'=y
  ·rw [if_pos hy] at e'
   simp only[Option.some.injEq] at e'
   rw[←e',hy];exact hl (y,b) List.mem_cons_self
  ·rw [if_neg hy] at e';exact h x' a' e'
theorem sameL_ev {r1 r2:Tr Ar}(h1:∀x a,r1.get x=some a→N1.i x=a.ev N2)(h2:∀x a,r2.get x=some a→N2.i x=a.ev N2):∀ {o1 o2:List Ar},sameL r1 r2 o1 o2=true→o1.map (·.ev N1)=o2.map (·.ev N2)
 | [],[],_=>rfl
 | a::l,b::m,h=>by
  simp only[sameL,Bool.and_eq_true] at h
  obtain ⟨hx,hr⟩:=h
  split at hx
  ·rename_i a' b' ha hb
   simp only[List.map_cons]
   rw[repA_ev h1 ha,repA_ev h2 hb,eAr_eq hx,sameL_ev h1 h2 hr]
  ·cases hx
 | [],_::_,h=>by cases h
 | _::_,[],h=>by cases h
theorem czCheck_ok {n2:Nat}{ds1 ds2:List Df}{ins:List (Nat×Ar)}{o1 o2:List Ar}(h:czCheck n2 ds1 ds2 ins o1 o2=true)(hin:∀p∈ins,N1.i p.1=p.2.ev N2)(h1:∀d∈ds1,d.sat N1)(h2:∀d∈ds2,d.sat N2) :
  o1.map (·.ev N1)=o2.map (·.ev N2):=by
 unfold czCheck at h
 split at h
 ·cases h
 ·rename_i z hz
  have k2:CzOk N2 N2 z:=czAll_ok hz ⟨fun x a e=>by
   have:=idTr_get (n:=n2) (x:=0) (t:= .nil) (fun y a e=>by cases e) e
   subst this;rfl,fun k y nd e=>by cases e⟩ (fun d hd=>h2 d (List.mem_reverse.1 hd)) (fun _=>rfl)
  split at h
  ·rename_i z1 hz1
   have k1:CzOk N1 N2 z1:=czAll_ok hz1 ⟨setL_get hin (fun x a e=>by cases e),k2.tab⟩ (fun d hd=>h1 d (List.mem_reverse.1 hd)) (fun e=>by cases e)
   exact sameL_ev k1.rep k2.rep h
  ·cases h
end
end Go.Sy
