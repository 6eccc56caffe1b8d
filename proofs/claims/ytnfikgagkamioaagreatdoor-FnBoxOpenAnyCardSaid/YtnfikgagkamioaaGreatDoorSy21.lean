/- Contracts: a run to the end does as the contract says; rounds of a loop. -/
import Derived.Test.YtnfikgagkamioaaGreatDoorSy18
namespace Go.Sy
def numsS (k:IntKind):Nat→Nat→List Sc
 | _,0=>[]
 | x,n+1=> .num k x::numsS k (x+1) n
def patL:List Pa→St→List SV×St
 | [],σ=>([],σ)
 | .int k::ps,σ=>(.one (.sc (.num k σ.nx))::(patL ps {σ with nx:=σ.nx+1}).1,(patL ps {σ with nx:=σ.nx+1}).2)
 | .agg k n::ps,σ=>(.one (.agg (numsS k σ.nx n))::(patL ps {σ with nx:=σ.nx+n}).1,(patL ps {σ with nx:=σ.nx+n}).2)
 | .ptr k n rw::ps,σ =>
  (.one (.sc (.ptr σ.nb (.kst 0)))::(patL ps {σ with nx:=σ.nx+n,nb:=σ.nb+1,bks:=σ.bks.set σ.nb {n:=n,rw:=rw,cells:=trOf 0 (numsS k σ.nx n) .nil,arr:=none}}).1,
   (patL ps {σ with nx:=σ.nx+n,nb:=σ.nb+1,bks:=σ.bks.set σ.nb {n:=n,rw:=rw,cells:=trOf 0 (numsS k σ.nx n) .nil,arr:=none}}).2)
 | .sl k rw none::ps,σ =>
  (.one (.sc (.sl σ.nb (.kst 0) (.var σ.nx) none))::(patL ps {σ with nx:=σ.nx+1,na:=σ.na+1,nb:=σ.nb+1,bks:=σ.bks.set σ.nb {n:=0,rw:=rw,cells:= .nil,arr:=some (k,σ.na,false)}}).1,
   (patL ps {σ with nx:=σ.nx+1,na:=σ.na+1,nb:=σ.nb+1,bks:=σ.bks.set σ.nb {n:=0,rw:=rw,cells:= .nil,arr:=some (k,σ.na,false)}}).2)
 | .sl k rw (some m)::ps,σ =>
  (.one (.sc (.sl σ.nb (.kst 0) (.kst m) none))::(patL ps {σ with na:=σ.na+1,nb:=σ.nb+1,bks:=σ.bks.set σ.nb {n:=0,rw:=rw,cells:= .nil,arr:=some (k,σ.na,false)}}).1,
   (patL ps {σ with na:=σ.na+1,nb:=σ.nb+1,bks:=σ.bks.set σ.nb {n:=0,rw:=rw,cells:= .nil,arr:=some (k,σ.na,false)}}).2)
 | .emp::ps,σ=>(.one (.sc (.emp σ.nv))::(patL ps {σ with nv:=σ.nv+1}).1,(patL ps {σ with nv:=σ.nv+1}).2)
 | .zc::ps,σ=>(.one (.sc (.sl σ.nb (.kst 0) (.kst 0) (some (.kst 0))))::(patL ps {σ with nb:=σ.nb+1}).1,(patL ps {σ with nb:=σ.nb+1}).2)
 | .gr k::ps,σ =>
  (.one (.sc (.sl σ.nb (.kst 0) (.var σ.nx) none))::(patL ps {σ with nx:=σ.nx+1,na:=σ.na+1,nb:=σ.nb+1,bks:=σ.bks.set σ.nb {n:=0,rw:=true,cells:= .nil,arr:=some (k,σ.na,true)}}).1,
   (patL ps {σ with nx:=σ.nx+1,na:=σ.na+1,nb:=σ.nb+1,bks:=σ.bks.set σ.nb {n:=0,rw:=true,cells:= .nil,arr:=some (k,σ.na,true)}}).2)
 | .ign::ps,σ=>(.one (.sc (.opq σ.nv))::(patL ps {σ with nv:=σ.nv+1}).1,(patL ps {σ with nv:=σ.nv+1}).2)
 | .kst v::ps,σ=>(.one (.sc (.kst v))::(patL ps σ).1,(patL ps σ).2)
def σ00:St:=⟨0,0,0,0,0,[],[],[],.nil,.nil⟩
def numsL:List Pa→List Int→List (List Int)→List Int
 | .int _::ps,n::is,az=>n::numsL ps is az
 | .agg _ _::ps,is,L::az=>L++numsL ps is az
 | .ptr _ _ _::ps,is,L::az=>L++numsL ps is az
 | .sl _ _ none::ps,is,L::az=>(L.length:Int)::numsL ps is az
 | .sl _ _ (some _)::ps,is,_::az=>numsL ps is az
 | .emp::ps,is,_::az=>numsL ps is az
 | .zc::ps,is,_::az=>numsL ps is az
 | .gr _::ps,is,L::az=>(L.length:Int)::numsL ps is az
 | .kst _::ps,is,az=>numsL ps is az
 | .ign::ps,is,az=>numsL ps is az
 | _,_,_=>[]
def listsL:List Pa→List Int→List (List Int)→List (List Int)
 | .int _::ps,_::is,az=>listsL ps is az
 | .agg _ _::ps,is,_::az=>listsL ps is az
 | .ptr _ _ _::ps,is,_::az=>listsL ps is az
 | .sl _ _ _::ps,is,L::az=>L::listsL ps is az
 | .emp::ps,is,_::az=>listsL ps is az
 | .zc::ps,is,_::az=>listsL ps is az
 | .gr _::ps,is,L::az=>L::listsL ps is az
 | .kst _::ps,is,az=>listsL ps is az
 | .ign::ps,is,az=>listsL ps is az
 | _,_,_=>[]
def num0 (F:Fns)(ps:List Pa)(is:List Int)(az:List (List Int)):Num:=⟨fun x=>(numsL ps is az).getD x 0,fun A=>(listsL ps is az).getD A [],F⟩
def Shape:List Pa→List Int→List (List Int)→Prop
 | [],[],[]=>True
 | .int _::ps,_::is,az=>Shape ps is az
 | .agg _ n::ps,is,L::az=>L.length=n∧Shape ps is az
 | .ptr _ n _::ps,is,L::az=>L.length=n∧Shape ps is az
 | .sl _ _ none::ps,is,_::az=>Shape ps is az
 | .sl _ _ (some n)::ps,is,L::az=>L.length=n∧Shape ps is az
 | .emp::ps,is,L::az=>L=[]∧Shape ps is az
 | .zc::ps,is,L::az=>L=[]∧Shape ps is az
 | .gr _::ps,is,_::az=>Shape ps is az
 | .kst _::ps,is,az=>Shape ps is az
 | .ign::ps,is,az=>Shape ps is az
 | _,_,_=>False
def Tie (N:Num)(E:Env)(bks:Tr Bk):Nat→List Pa→List (Option Win)→Prop
 | _,[],[]=>True
 | nb,.ptr _ _ _::ps,some x::ws=>(∃ c B,E.blk nb=some (x.q,x.s,c)∧bks.get nb=some B∧B.wid N c=x.n)∧Tie N E bks (nb+1) ps ws
 | nb,.sl _ _ _::ps,some x::ws=>(∃ c B,E.blk nb=some (x.q,x.s,c)∧bks.get nb=some B∧B.wid N c=x.n)∧Tie N E bks (nb+1) ps ws
 | nb,.zc::ps,none::ws=>Tie N E bks (nb+1) ps ws
 | nb,.gr _::ps,some x::ws=>(∃ c B,E.blk nb=some (x.q,x.s,c)∧bks.get nb=some B∧B.wid N c=x.n)∧Tie N E bks (nb+1) ps ws
 | nb,.int _::ps,none::ws=>Tie N E bks nb ps ws
 | nb,.agg _ _::ps,none::ws=>Tie N E bks nb ps ws
 | nb,.emp::ps,none::ws=>Tie N E bks nb ps ws
 | nb,.ign::ps,none::ws=>Tie N E bks nb ps ws
 | nb,.kst _::ps,none::ws=>Tie N E bks nb ps ws
 | _,_,_=>False
def rwBlk:Nat→List Pa→Option (Nat×IntKind)
 | nb,.ptr k _ true::_=>some (nb,k)
 | nb,.sl k true _::_=>some (nb,k)
 | nb,.ptr _ _ false::ps=>rwBlk (nb+1) ps
 | nb,.sl _ false _::ps=>rwBlk (nb+1) ps
 | nb,.zc::ps=>rwBlk (nb+1) ps
 | nb,.gr _::ps=>rwBlk (nb+1) ps
 | nb,_::ps=>rwBlk nb ps
 | _,[]=>none
def grBlk:Nat→List Pa→Option (Nat×IntKind)
 | nb,.gr k::_=>some (nb,k)
 | nb,.ptr _ _ _::ps=>grBlk (nb+1) ps
 | nb,.sl _ _ _::ps=>grBlk (nb+1) ps
 | nb,.zc::ps=>grBlk (nb+1) ps
 | nb,_::ps=>grBlk nb ps
 | _,[]=>none
section
variable {P:Program} {F:Fns} {N:Num} {E:Env} {σ σ':St}
theorem patL_get:∀ {ps:List Pa} {σ:St} {i:Nat},i<σ.nb→(patL ps σ).2.bks.get i=σ.bks.get i
 | [],_,_,_=>rfl
 | .int _::ps,σ,i,h=>patL_get (ps:=ps) (σ:={σ with nx:=σ.nx+1}) h
 | .agg _ n::ps,σ,i,h=>patL_get (ps:=ps) (σ:={σ with nx:=σ.nx+n}) h
 | .ptr k n rw::ps,σ,i,h=>by rw[patL,patL_get (ps:=ps) (by simp only;omega)];simp only;rw[fA,bC (by omega)]
 | .sl k rw none::ps,σ,i,h=>by rw[patL,patL_get (ps:=ps) (by simp only;omega)];simp only;rw[fA,bC (by omega)]
 | .sl k rw (some m)::ps,σ,i,h=>by rw[patL,patL_get (ps:=ps) (by simp only;omega)];simp only;rw[fA,bC (by omega)]
 | .emp::ps,σ,i,h=>patL_get (ps:=ps) (σ:={σ with nv:=σ.nv+1}) h
 | .zc::ps,σ,i,h=>patL_get (ps:=ps) (σ:={σ with nb:=σ.nb+1}) (by simp only;omega)
 | .gr k::ps,σ,i,h=>by rw[patL,patL_get (ps:=ps) (by simp only;omega)];simp only;rw[fA,bC (by omega)]
 | .ign::ps,σ,i,h=>patL_get (ps:=ps) (σ:={σ with nv:=σ.nv+1}) h
 | .kst _::ps,σ,i,h=>patL_get (ps:=ps) (σ:=σ) h
theorem patL_new {ps:List Pa}{σ1:St}{b:Nat}{B:Bk}{t:Tr Bk}(h:b<σ1.nb)(hs:σ1.bks=t.set b B):(patL ps σ1).2.bks.get b=some B:=by
 rw[patL_get h,hs,fA,bG rfl]
theorem numsS_den {k:IntKind}:∀ {L:List Int} {x:Nat},(∀ j v,L[j]? =some v→N.i (x+j)=v)→denL N E (numsS k x L.length)=some (intsV k L)
 | [],_,_=>rfl
 | v::L,x,h=>by
  simp only[bU,numsS];refine denL_cons.2 ⟨.int k v,intsV k L,?_,numsS_den (fun j v hj=> ?_),rfl⟩
  ·simp only[Sc.den];rw[show N.i x=v from h 0 v rfl]
  ·have:=h (j+1) v (by simpa using hj);rw[show x+1+j=x+(j+1) by omega];exact this
theorem numsS_length {k:IntKind}:∀ {n x:Nat},(numsS k x n).length=n
 | 0,_=>rfl
 | n+1,x=>by simp[numsS,numsS_length]
theorem ptr_cont {k:IntKind}{L:List Int}{x s c:Nat}{rw:Bool}{arr:Array Value}(hx:∀j v,L[j]? =some v→N.i (x+j)=v)(ha:∀j v,L[j]? =some v→arr[s+j]? =some (.int k v)) :
 Bk.cont N E {n:=L.length,rw:=rw,cells:=trOf 0 (numsS k x L.length) .nil,arr:=none} s c arr:=by
 simp only[Bk.cont];intro j sc hj;rw[trOf_get] at hj;by_cases hjl:0≤j∧j<0+(numsS k x L.length).length
 ·rw [bG hjl] at hj;obtain ⟨u,h1,h2⟩:=denL_get (numsS_den (E:=E) (k:=k) hx) (by simpa using hj);obtain ⟨v,h3,rfl⟩:=intsV_get h1;rw[numsS_length] at hjl;exact ⟨by omega,.int k v,ha j v h3,h2⟩
 ·rw [bC hjl] at hj;cases hj
set_option maxHeartbeats 1000000 in
theorem patL_ok {w:World}{ps:List Pa}{us:List Value}{is:List Int}{az:List (List Int)}{ws:List (Option Win)}(hA:Args w ps us is az ws):∀(σ:St) (E:Env),Inv E σ→BW N E σ.bks w →
 (∀ j v,(numsL ps is az)[j]? =some v→N.i (σ.nx+j)=v)→(∀ j L,(listsL ps is az)[j]? =some L→N.a (σ.na+j)=L)→ApartW ws →
 (∀ y,some y∈ws→∀i B s c,σ.bks.get i=some B→E.blk i=some (y.q,s,c)→(B.rw=true∨y.rw=true)→s+B.wid N c≤y.s∨y.s+y.n≤s) →
 ∃E',E.le E'∧Inv E' (patL ps σ).2∧BW N E' (patL ps σ).2.bks w∧denLV N E' (patL ps σ).1=some us∧Tie N E' (patL ps σ).2.bks σ.nb ps ws:=by
 induction hA with
 | nil=>intro σ E hI hw _ _ _ _;exact ⟨E,E.le_refl,hI,hw,rfl,trivial⟩
 | @int k n ps us is az ws h ih =>
  intro σ E hI hw hn hl ha hap;obtain ⟨E',e1,e2,e3,e4,e5⟩:=ih {σ with nx:=σ.nx+1} E ⟨hI.freshB,hI.freshV,hI.glob⟩ hw (fun j v hj=>by have:=hn (j+1) v (by simpa [numsL] using hj);rw[show σ.nx+1+j=σ.nx+(j+1) by omega];exact this) hl ha (fun y hy=>hap y (aJ _ hy))
  refine ⟨E',e1,e2,e3,denLV_cons.2 ⟨_,_,?_,e4,rfl⟩,e5⟩;have:=hn 0 n rfl;simp only[SV.den,V1.den,Sc.den];rw[show N.i σ.nx=n from this]
 | @agg k n L ps us is az ws hL h ih =>
  intro σ E hI hw hn hl ha hap;subst hL;obtain ⟨E',e1,e2,e3,e4,e5⟩:=ih {σ with nx:=σ.nx+L.length} E ⟨hI.freshB,hI.freshV,hI.glob⟩ hw (fun j v hj=>by have:=hn (L.length+j) v (by simp only[numsL];rw[aP (by omega)];simpa using hj);rw[show σ.nx+L.length+j=σ.nx+(L.length+j) by omega];exact this) hl ha (fun y hy=>hap y (aJ _ hy))
  refine ⟨E',e1,e2,e3,denLV_cons.2 ⟨_,_,?_,e4,rfl⟩,e5⟩;simp only[SV.den,V1.den];rw[numsS_den (fun j v hj=>hn j v (by simp only[numsL];rw[bQ (some_lt' hj)];exact hj))];rfl
 | @ptr k n rw q s L ps us is az ws hm hL h ih =>
  intro σ E hI hw hn hl ha hap;subst hL;obtain ⟨arr,el,fz,m1,m2,m3,m4⟩:=hm;have hx:∀j v,L[j]? =some v→N.i (σ.nx+j)=v:=fun j v hj=>hn j v (by simp only[numsL];rw[bQ (some_lt' hj)];exact hj)
  obtain ⟨k1,k2,k3,k4⟩:=addBlk (σ:=σ) (σ':={σ with nx:=σ.nx+L.length,nb:=σ.nb+1,bks:=σ.bks.set σ.nb {n:=L.length,rw:=rw,cells:=trOf 0 (numsS k σ.nx L.length) .nil,arr:=none}})
   (B:={n:=L.length,rw:=rw,cells:=trOf 0 (numsS k σ.nx L.length) .nil,arr:=none}) (c:=L.length) hI hw m1 m2 m3 (ptr_cont hx m4)
   (fun i B' s' c' h1 h2 h3=>hap _ aN i B' s' c' h1 h2 h3) rfl rfl rfl rfl
  obtain ⟨E',e1,e2,e3,e4,e5⟩:=ih _ _ k2 k3 (fun j v hj=>by
   have:=hn (L.length+j) v (by simp only[numsL];rw[aP (by omega)];simpa using hj);show N.i (σ.nx+L.length+j)=v;rw[show σ.nx+L.length+j=σ.nx+(L.length+j) by omega];exact this) hl ha.2 (fun y hy i B' s' c' h1 h2 h3=>by
    rw[fA] at h1;by_cases hi:i=σ.nb
    ·rw [bG hi] at h1;simp only[aA] at h1;subst h1;rw[hi,k4] at h2;simp only[aA,aD] at h2;obtain ⟨g1,rfl,rfl⟩:=h2;exact ha.1 y hy g1 h3
    ·rw [bC hi] at h1;simp only[Env.addB,fH hi,aQ] at h2;exact hap y (aJ _ hy) i B' s' c' h1 h2 h3)
  refine ⟨E',k1.trans e1,e2,e3,denLV_cons.2 ⟨_,_,?_,e4,rfl⟩,⟨_,{n:=L.length,rw:=rw,cells:=trOf 0 (numsS k σ.nx L.length) .nil,arr:=none},e1.blk _ _ k4,by rw[patL];exact patL_new (t:=σ.bks) (Nat.lt_succ_self _) rfl,rfl⟩,e5⟩;exact ptr_mk (e1.blk _ _ k4) (bK _)
 | @sl k rw n q s c L ps us is az ws hm hc hn' h ih =>
  intro σ E hI hw hn hl ha hap;obtain ⟨arr,el,fz,m1,m2,m3,m4⟩:=hm;have hA0:N.a σ.na=L:=hl 0 L (by cases n <;> rfl);have step:∀nx:Nat,∃E1,E.le E1∧Inv E1 {σ with nx:=nx,na:=σ.na+1,nb:=σ.nb+1,bks:=σ.bks.set σ.nb {n:=0,rw:=rw,cells:= .nil,arr:=some (k,σ.na,false)}} ∧
   BW N E1 (σ.bks.set σ.nb {n:=0,rw:=rw,cells:= .nil,arr:=some (k,σ.na,false)}) w∧E1.blk σ.nb=some (q,s,c)∧∀i,i≠σ.nb→E1.blk i=E.blk i:=fun nx=>by
   obtain ⟨k1,k2,k3,k4⟩:=addBlk (σ:=σ) (σ':={σ with nx:=nx,na:=σ.na+1,nb:=σ.nb+1,bks:=σ.bks.set σ.nb {n:=0,rw:=rw,cells:= .nil,arr:=some (k,σ.na,false)}})
    (B:={n:=0,rw:=rw,cells:= .nil,arr:=some (k,σ.na,false)}) (c:=c) hI hw m1 m2 (by simp only[Bk.wid,aQ,hA0];exact m3)
    (by simp only[Bk.cont,hA0];exact ⟨m4,fun e=>by cases e⟩)
    (fun i B' s' c' h1 h2 h3=>by simp only[Bk.wid,aQ,hA0];exact hap _ aN i B' s' c' h1 h2 h3) rfl rfl rfl rfl
   exact ⟨_,k1,k2,k3,k4,fun i hi=>by simp only[Env.addB,fH hi,aQ]⟩
  have apart':∀ {E1:Env},E1.blk σ.nb=some (q,s,c)→(∀ i,i≠σ.nb→E1.blk i=E.blk i)→∀y,some y∈ws→∀i B' s' c',
   (σ.bks.set σ.nb {n:=0,rw:=rw,cells:= .nil,arr:=some (k,σ.na,false)}).get i=some B'→E1.blk i=some (y.q,s',c')→(B'.rw=true∨y.rw=true)→s'+B'.wid N c'≤y.s∨y.s+y.n≤s':=fun {E1} k4 k5 y hy i B' s' c' h1 h2 h3=>by
   rw[fA] at h1;by_cases hi:i=σ.nb
   ·rw [bG hi] at h1;simp only[aA] at h1;subst h1;rw[hi,k4] at h2;simp only[aA,aD] at h2;obtain ⟨g1,rfl,rfl⟩:=h2;simp only[Bk.wid,aQ,hA0];exact ha.1 y hy g1 h3
   ·rw [bC hi] at h1;rw[k5 i hi] at h2;exact hap y (aJ _ hy) i B' s' c' h1 h2 h3
  cases n with
  | none =>
   obtain ⟨E1,k1,k2,k3,k4,k5⟩:=step (σ.nx+1);obtain ⟨E',e1,e2,e3,e4,e5⟩:=ih _ _ k2 k3 (fun j v hj=>by
    have:=hn (j+1) v (by simpa [numsL] using hj);show N.i (σ.nx+1+j)=v;rw[show σ.nx+1+j=σ.nx+(j+1) by omega];exact this) (fun j L' hj=>by
    have:=hl (j+1) L' (by simpa [listsL] using hj);show N.a (σ.na+1+j)=L';rw[show σ.na+1+j=σ.na+(j+1) by omega];exact this) ha.2 (apart' k4 k5)
   refine ⟨E',k1.trans e1,e2,e3,denLV_cons.2 ⟨_,_,?_,e4,rfl⟩,⟨_,{n:=0,rw:=rw,cells:= .nil,arr:=some (k,σ.na,false)},e1.blk _ _ k4,by rw[patL];exact patL_new (t:=σ.bks) (Nat.lt_succ_self _) rfl,by simp only[Bk.wid,aQ,hA0]⟩,e5⟩;have hlen:N.i σ.nx=(L.length:Int):=hn 0 _ rfl;have h9:=sl_mk (N:=N) (E:=E') (b:=σ.nb) (off:= .kst 0) (len:= .var σ.nx) (cap:=none) (e1.blk _ _ k4) (bK _) (fun _=>by simp only[Ar.ev,hlen];simpa using hc)
   simp only[SV.den,V1.den,h9,capOf,Ar.ev,hlen];simp
  | some m =>
   obtain ⟨E1,k1,k2,k3,k4,k5⟩:=step σ.nx;obtain ⟨E',e1,e2,e3,e4,e5⟩:=ih _ _ k2 k3 (fun j v hj=>hn j v (by simpa [numsL] using hj)) (fun j L' hj=>by have:=hl (j+1) L' (by simpa [listsL] using hj);show N.a (σ.na+1+j)=L';rw[show σ.na+1+j=σ.na+(j+1) by omega];exact this) ha.2 (apart' k4 k5)
   refine ⟨E',k1.trans e1,e2,e3,denLV_cons.2 ⟨_,_,?_,e4,rfl⟩,⟨_,{n:=0,rw:=rw,cells:= .nil,arr:=some (k,σ.na,false)},e1.blk _ _ k4,by rw[patL];exact patL_new (t:=σ.bks) (Nat.lt_succ_self _) rfl,by simp only[Bk.wid,aQ,hA0]⟩,e5⟩;have hlen:=hn' m rfl;have h9:=sl_mk (N:=N) (E:=E') (b:=σ.nb) (off:= .kst 0) (len:= .kst m) (cap:=none) (e1.blk _ _ k4) (bK _) (fun _=>by simp only[Ar.ev];simp;omega);simp only[SV.den,V1.den,h9,capOf,Ar.ev]
   simp[hlen]
 | @emp b c ps us is az ws h ih =>
  intro σ E hI hw hn hl ha hap;have hle:E.le (E.addV σ.nv (.slice b 0 c)):=⟨fun _ _ h=>h,fun i v h=>by
   have:i≠σ.nv:=fun e=>by rw[e,hI.freshV σ.nv (aS _)] at h;cases h
   simp only[Env.addV,fH this,aQ];exact h⟩
  have hI':Inv (E.addV σ.nv (.slice b 0 c)) {σ with nv:=σ.nv+1}:=⟨hI.freshB,fun i hi=>by
   have hi':σ.nv+1≤i:=hi;have:i≠σ.nv:=by omega
   simp only[Env.addV,fH this,aQ];exact hI.freshV i (by omega),hI.glob⟩
  obtain ⟨E',e1,e2,e3,e4,e5⟩:=ih _ _ hI' (BW.mono hle hw) hn hl ha (fun y hy=>hap y (aJ _ hy));refine ⟨E',hle.trans e1,e2,e3,denLV_cons.2 ⟨_,_,?_,e4,rfl⟩,e5⟩;have:(E.addV σ.nv (.slice b 0 c)).val σ.nv=some (.slice b 0 c):=by simp only[Env.addV,fY rfl,aH]
  have:=e1.val _ _ this;simp only[SV.den,V1.den,Sc.den,this]
 | @ign v0 ps us is az ws hv0 h ih =>
  intro σ E hI hw hn hl ha hap;have hle:E.le (E.addV σ.nv v0):=⟨fun _ _ h=>h,fun i v h=>by
   have:i≠σ.nv:=fun e=>by rw[e,hI.freshV σ.nv (aS _)] at h;cases h
   simp only[Env.addV,fH this,aQ];exact h⟩
  have hI':Inv (E.addV σ.nv v0) {σ with nv:=σ.nv+1}:=⟨hI.freshB,fun i hi=>by
   have hi':σ.nv+1≤i:=hi;have:i≠σ.nv:=by omega
   simp only[Env.addV,fH this,aQ];exact hI.freshV i (by omega),hI.glob⟩
  obtain ⟨E',e1,e2,e3,e4,e5⟩:=ih _ _ hI' (BW.mono hle hw) hn hl ha (fun y hy=>hap y (aJ _ hy));refine ⟨E',hle.trans e1,e2,e3,denLV_cons.2 ⟨_,_,?_,e4,rfl⟩,e5⟩;have:(E.addV σ.nv v0).val σ.nv=some v0:=by simp only[Env.addV,fY rfl,aH]
  have:=e1.val _ _ this;simp only[SV.den,V1.den,Sc.den,this,hv0,aH]
 | @zc q s ps us is az ws h ih =>
  intro σ E hI hw hn hl ha hap;have hle:E.le (E.addB σ.nb (q,s,0)):=by
   refine ⟨fun b q h=> ?_,fun _ _ h=>h⟩;have:b≠σ.nb:=fun e=>by rw[e,hI.freshB σ.nb (aS _)] at h;cases h
   simp only[Env.addB,fH this,aQ];exact h
  have hnone:σ.bks.get σ.nb=none:=by
   cases hb:σ.bks.get σ.nb with
   | none=>rfl
   | some B =>obtain ⟨q',s',c',arr,el,fz,g1,_⟩:=hw.at' _ B hb;rw[hI.freshB σ.nb (aS _)] at g1;cases g1
  have hI':Inv (E.addB σ.nb (q,s,0)) {σ with nb:=σ.nb+1}:=⟨fun i hi=>by
   have hi':σ.nb+1≤i:=hi;have:i≠σ.nb:=by omega
   simp only[Env.addB,fH this,aQ];exact hI.freshB i (by omega),hI.freshV,fun t sv e=>by
   obtain ⟨h1,b,c,h2,h3⟩:=hI.glob t sv e;exact ⟨h1,b,c,h2,hle.blk _ _ h3⟩⟩
  obtain ⟨E',e1,e2,e3,e4,e5⟩:=ih _ _ hI' (BW.mono hle hw) hn hl ha (fun y hy i B' s' c' h1 h2 h3=>by
   have hi:i≠σ.nb:=fun e=>by have h1':σ.bks.get i=some B':=h1;rw[e,hnone] at h1';cases h1'
   simp only[Env.addB,fH hi,aQ] at h2;exact hap y (aJ _ hy) i B' s' c' h1 h2 h3)
  refine ⟨E',hle.trans e1,e2,e3,denLV_cons.2 ⟨_,_,?_,e4,rfl⟩,e5⟩;have h9:=sl_mk (N:=N) (E:=E') (b:=σ.nb) (off:= .kst 0) (len:= .kst 0) (cap:=some (.kst 0)) (e1.blk _ _ fK) (bK _) (fun e=>by cases e);simp only[SV.den,V1.den,h9,capOf,Ar.ev];simp
 | @gr k q s c L ps us is az ws hm hc h ih =>
  intro σ E hI hw hn hl ha hap;obtain ⟨arr,el,m1,m2,m3,m4⟩:=hm;have hA0:N.a σ.na=L:=hl 0 L rfl;have hwid:Bk.wid N {n:=0,rw:=true,cells:= .nil,arr:=some (k,σ.na,true)} c=c:=by simp only[Bk.wid,aH,hA0];exact Nat.max_eq_left hc
  obtain ⟨k1,k2,k3,k4⟩:=addBlk (σ:=σ) (σ':={σ with nx:=σ.nx+1,na:=σ.na+1,nb:=σ.nb+1,bks:=σ.bks.set σ.nb {n:=0,rw:=true,cells:= .nil,arr:=some (k,σ.na,true)}})
   (B:={n:=0,rw:=true,cells:= .nil,arr:=some (k,σ.na,true)}) (c:=c) hI hw m1 (fun _=>rfl) (by rw[hwid];exact m2) (by simp only[Bk.cont,hA0];exact ⟨m3,fun _=>m4⟩)
   (fun i B' s' c' h1 h2 h3=>by rw[hwid];exact hap _ aN i B' s' c' h1 h2 (.inr rfl)) rfl rfl rfl rfl
  obtain ⟨E',e1,e2,e3,e4,e5⟩:=ih _ _ k2 k3 (fun j v hj=>by
   have:=hn (j+1) v (by simpa [numsL] using hj);show N.i (σ.nx+1+j)=v;rw[show σ.nx+1+j=σ.nx+(j+1) by omega];exact this) (fun j L' hj=>by
   have:=hl (j+1) L' (by simpa [listsL] using hj);show N.a (σ.na+1+j)=L';rw[show σ.na+1+j=σ.na+(j+1) by omega];exact this) ha.2 (fun y hy i B' s' c' h1 h2 h3=>by
    rw[fA] at h1;by_cases hi:i=σ.nb
    ·rw [bG hi] at h1;simp only[aA] at h1;subst h1;rw[hi,k4] at h2;simp only[aA,aD] at h2;obtain ⟨g1,rfl,rfl⟩:=h2;rw[hwid];exact ha.1 y hy g1 h3
    ·rw [bC hi] at h1;simp only[Env.addB,fH hi,aQ] at h2;exact hap y (aJ _ hy) i B' s' c' h1 h2 h3)
  refine ⟨E',k1.trans e1,e2,e3,denLV_cons.2 ⟨_,_,?_,e4,rfl⟩,⟨_,{n:=0,rw:=true,cells:= .nil,arr:=some (k,σ.na,true)},e1.blk _ _ k4,by rw[patL];exact patL_new (t:=σ.bks) (Nat.lt_succ_self _) rfl,hwid⟩,e5⟩;have hlen:N.i σ.nx=(L.length:Int):=hn 0 _ rfl;have h9:=sl_mk (N:=N) (E:=E') (b:=σ.nb) (off:= .kst 0) (len:= .var σ.nx) (cap:=none) (e1.blk _ _ k4) (bK _) (fun _=>by simp only[Ar.ev,hlen];simpa using hc);simp only[SV.den,V1.den,h9,capOf,Ar.ev,hlen]
  simp
 | @kst v ps us is az ws hv h ih =>intro σ E hI hw hn hl ha hap;obtain ⟨E',e1,e2,e3,e4,e5⟩:=ih _ _ hI hw hn hl ha (fun y hy=>hap y (aJ _ hy));exact ⟨E',e1,e2,e3,denLV_cons.2 ⟨_,_,by simp only[SV.den,V1.den,Sc.den,hv,aH],e4,rfl⟩,e5⟩
 where
 some_lt' {l:List Int} {i:Nat} {x:Int} (h:l[i]? =some x):i<l.length:=by
  rcases bL i l.length with k | k
  ·exact k
  ·rw [bI k] at h;cases h
theorem Args.shape {w:World}{ps:List Pa}{us:List Value}{is:List Int}{az:List (List Int)}{ws:List (Option Win)}(hA:Args w ps us is az ws):Shape ps is az:=by
 induction hA with
 | nil=>trivial
 | int h ih=>exact ih
 | agg hl h ih=>exact ⟨hl,ih⟩
 | ptr hm hl h ih=>exact ⟨hl,ih⟩
 | @sl k rw n q s c L ps us is az ws hm hc hn h ih =>
  cases n with
  | none=>exact ih
  | some m=>exact ⟨hn m rfl,ih⟩
 | emp h ih=>exact ⟨rfl,ih⟩
 | ign hv h ih=>exact ih
 | zc h ih=>exact ⟨rfl,ih⟩
 | gr hm hc h ih=>exact ih
 | kst hv h ih=>exact ih
theorem getD_of {α:Type}{l:List α}{j:Nat}{v d:α}(h:l[j]? =some v):l.getD j d=v:=by
 rw[aE,h];rfl
def entL (ct:Ct):List SV×St :=
 (selL ct.sel (patL ct.ps σ00).1,match ct.glp with
  | none=>(patL ct.ps σ00).2
  | some g=>{(patL ct.ps σ00).2 with nb:=(patL ct.ps σ00).2.nb+1,bks:=(patL ct.ps σ00).2.bks.set (patL ct.ps σ00).2.nb {n:=1,rw:=false,cells:=Tr.nil.set 0 (.ptr 0 (.kst 0)),arr:=none},gl:=Tr.nil.set (2*g+1) (one (.ptr (patL ct.ps σ00).2.nb (.kst 0)))})
theorem Tie.mono {E':Env}{bks bks':Tr Bk}(hE:E.le E')(hb:∀i B,bks.get i=some B→bks'.get i=some B):∀ {ps:List Pa} {nb:Nat} {ws:List (Option Win)},Tie N E bks nb ps ws→Tie N E' bks' nb ps ws
 | [],_,[],_=>trivial
 | .ptr _ _ _::ps,_,some _::ws,h=>⟨by obtain ⟨⟨c,B,h1,h2,h3⟩,_⟩:=h;exact ⟨c,B,hE.blk _ _ h1,hb _ _ h2,h3⟩,Tie.mono hE hb (ps:=ps) (ws:=ws) h.2⟩
 | .sl _ _ _::ps,_,some _::ws,h=>⟨by obtain ⟨⟨c,B,h1,h2,h3⟩,_⟩:=h;exact ⟨c,B,hE.blk _ _ h1,hb _ _ h2,h3⟩,Tie.mono hE hb (ps:=ps) (ws:=ws) h.2⟩
 | .gr _::ps,_,some _::ws,h=>⟨by obtain ⟨⟨c,B,h1,h2,h3⟩,_⟩:=h;exact ⟨c,B,hE.blk _ _ h1,hb _ _ h2,h3⟩,Tie.mono hE hb (ps:=ps) (ws:=ws) h.2⟩
 | .zc::ps,_,none::ws,h=>Tie.mono hE hb (ps:=ps) (ws:=ws) h
 | .int _::ps,_,none::ws,h=>Tie.mono hE hb (ps:=ps) (ws:=ws) h
 | .agg _ _::ps,_,none::ws,h=>Tie.mono hE hb (ps:=ps) (ws:=ws) h
 | .emp::ps,_,none::ws,h=>Tie.mono hE hb (ps:=ps) (ws:=ws) h
 | .ign::ps,_,none::ws,h=>Tie.mono hE hb (ps:=ps) (ws:=ws) h
 | .kst _::ps,_,none::ws,h=>Tie.mono hE hb (ps:=ps) (ws:=ws) h
 | [],_,_::_,h=>h.elim
 | .ptr _ _ _::_,_,none::_,h=>h.elim
 | .sl _ _ _::_,_,none::_,h=>h.elim
 | .gr _::_,_,none::_,h=>h.elim
 | .zc::_,_,some _::_,h=>h.elim
 | .int _::_,_,some _::_,h=>h.elim
 | .agg _ _::_,_,some _::_,h=>h.elim
 | .emp::_,_,some _::_,h=>h.elim
 | .ign::_,_,some _::_,h=>h.elim
 | .kst _::_,_,some _::_,h=>h.elim
 | .ptr _ _ _::_,_,[],h=>h.elim
 | .sl _ _ _::_,_,[],h=>h.elim
 | .gr _::_,_,[],h=>h.elim
 | .zc::_,_,[],h=>h.elim
 | .int _::_,_,[],h=>h.elim
 | .agg _ _::_,_,[],h=>h.elim
 | .emp::_,_,[],h=>h.elim
 | .ign::_,_,[],h=>h.elim
 | .kst _::_,_,[],h=>h.elim
def glpB (ct:Ct):Bool :=
 match ct.glp,ct.ps with
 | none,_=>true
 | some _,.ptr _ _ _::_=>true
 | some _,_=>false
theorem patL_win {w:World}{ps:List Pa}{us:List Value}{is:List Int}{az:List (List Int)}{ws:List (Option Win)}(hA:Args w ps us is az ws):∀(σ:St),Tie N E (patL ps σ).2.bks σ.nb ps ws→∀i B,(patL ps σ).2.bks.get i=some B→B.rw=true →
 σ.bks.get i=some B∨∃y c,some y∈ws∧y.rw=true∧E.blk i=some (y.q,y.s,c)∧B.wid N c=y.n:=by
 have one:∀ {σ1:St} {ps':List Pa} {x:Win} {ws':List (Option Win)} {b:Nat} {B0 B:Bk} {t:Tr Bk} {i:Nat},σ1.bks=t.set b B0→B0.rw=x.rw→(∃ c B',E.blk b=some (x.q,x.s,c)∧(patL ps' σ1).2.bks.get b=some B'∧B'.wid N c=x.n) →
  (patL ps' σ1).2.bks.get i=some B→B.rw=true→(σ1.bks.get i=some B∨∃y c,some y∈ws'∧y.rw=true∧E.blk i=some (y.q,y.s,c)∧B.wid N c=y.n) →
  t.get i=some B∨∃y c,some y∈some x::ws'∧y.rw=true∧E.blk i=some (y.q,y.s,c)∧B.wid N c=y.n:=by
  intro σ1 ps' x ws' b B0 B t i hs hx hT hB hr h;rcases h with h | ⟨y,c,h1,h2⟩
  ·rw [hs,fA] at h;by_cases hi:i=b
   ·rw [bG hi] at h;simp only[aA] at h;subst h;obtain ⟨c,B',e1,e2,e3⟩:=hT;subst hi;rw[hB] at e2;simp only[aA] at e2;subst e2;exact .inr ⟨x,c,aN,by rw[←hx];exact hr,e1,e3⟩
   ·rw [bC hi] at h;exact .inl h
  ·exact .inr ⟨y,c,aJ _ h1,h2⟩
 have non:∀ {t:Tr Bk} {ws':List (Option Win)} {B:Bk} {i:Nat},(t.get i=some B∨∃y c,some y∈ws'∧y.rw=true∧E.blk i=some (y.q,y.s,c)∧B.wid N c=y.n)→t.get i=some B∨∃y c,some y∈none::ws'∧y.rw=true∧E.blk i=some (y.q,y.s,c)∧B.wid N c=y.n:=by
  intro t ws' B i h;rcases h with h | ⟨y,c,h1,h2⟩
  ·exact .inl h
  ·exact .inr ⟨y,c,aJ _ h1,h2⟩
 induction hA with
 | nil=>intro σ _ i B h _;exact .inl h
 | @int k n ps us is az ws h ih=>intro σ hT i B hB hr;exact non (ih {σ with nx:=σ.nx+1} hT i B hB hr)
 | @agg k n L ps us is az ws hl h ih=>intro σ hT i B hB hr;exact non (ih {σ with nx:=σ.nx+n} hT i B hB hr)
 | @ptr k n rw q s L ps us is az ws hm hl h ih =>intro σ hT i B hB hr;exact one (ps':=ps) (b:=σ.nb) rfl rfl hT.1 hB hr (ih _ hT.2 i B hB hr)
 | @sl k rw n q s c L ps us is az ws hm hc hn h ih =>
  intro σ hT i B hB hr;cases n with
  | none=>exact one (ps':=ps) (b:=σ.nb) rfl rfl hT.1 hB hr (ih _ hT.2 i B hB hr)
  | some m=>exact one (ps':=ps) (b:=σ.nb) rfl rfl hT.1 hB hr (ih _ hT.2 i B hB hr)
 | @emp a c ps us is az ws h ih=>intro σ hT i B hB hr;exact non (ih {σ with nv:=σ.nv+1} hT i B hB hr)
 | @zc q s ps us is az ws h ih=>intro σ hT i B hB hr;exact non (ih {σ with nb:=σ.nb+1} hT i B hB hr)
 | @gr k q s c L ps us is az ws hm hc h ih =>intro σ hT i B hB hr;exact one (ps':=ps) (b:=σ.nb) rfl rfl hT.1 hB hr (ih _ hT.2 i B hB hr)
 | @ign v ps us is az ws hv h ih=>intro σ hT i B hB hr;exact non (ih {σ with nv:=σ.nv+1} hT i B hB hr)
 | @kst v ps us is az ws hv h ih=>intro σ hT i B hB hr;exact non (ih σ hT i B hB hr)
theorem cspec_enter {ct:Ct}{f:FuncId}{fn:Func}{body:Code}{args:List SV}{σe:St}(hp:entL ct=(args,σe))(hf:P.funcs[f]? =some fn)(hb:fn.body=some body)(hn:Nat.ble args.length fn.ntmps=true)(hni:σe.ni=0)(hgp:glpB ct=true)
 (H:∀is az ws w E a,Shape ct.ps is az→F.p ct.p is az→Inv E σe→Tie (num0 F ct.ps is az) E σe.bks 0 ct.ps ws→BW (num0 F ct.ps is az) E σe.bks w→At F fn.ntmps (num0 F ct.ps is az) E σe w (trArgs 0 args σe.gl) σe (num0 F ct.ps is az) a w →
  (∃ us,Args w ct.ps us is az ws) →
  body.wp P (wpK P [] (bodyPost P fn fun e w'=>∃u,e= .returned u∧ResOk P F ct is az ws w u w')) a w):CSpec P F f ct:=by
 intro us is az ws w hA hW hG hpr;have hI0:Inv ⟨fun _=>none,fun _=>none⟩ σ00:=⟨fun _ _=>rfl,fun _ _=>rfl,fun t sv e=>by cases e⟩
 have hB0:BW (num0 F ct.ps is az) ⟨fun _=>none,fun _=>none⟩ σ00.bks w:=⟨fun i B e=>(by cases e),fun i i' B B' q s s' c c' e=>(by cases e)⟩
 obtain ⟨E,_,e2,e3,e4,e5⟩:=patL_ok (N:=num0 F ct.ps is az) hA _ _ hI0 hB0 (fun j v hj=>by simp only[num0];rw[show σ00.nx+j=j by simp[σ00]];exact getD_of hj)
  (fun j L hj=>by simp only[num0];rw[show σ00.na+j=j by simp[σ00]];exact getD_of hj) hW (fun y hy i B s c e=>by cases e)
 have key:∃E',denLV (num0 F ct.ps is az) E' (selL ct.sel (patL ct.ps σ00).1)=some (selL ct.sel us)∧Inv E' σe∧Tie (num0 F ct.ps is az) E' σe.bks 0 ct.ps ws∧BW (num0 F ct.ps is az) E' σe.bks w:=by
  have hsel:∀ {E:Env},denLV (num0 F ct.ps is az) E (patL ct.ps σ00).1=some us→denLV (num0 F ct.ps is az) E (selL ct.sel (patL ct.ps σ00).1)=some (selL ct.sel us):=fun {E} h=>by
   unfold selL;cases ct.sel with
   | none=>exact h
   | some s=>exact selG_den h
  have es:σe=(entL ct).2:=by rw[hp]
  unfold entL at es;cases hg:ct.glp with
  | none =>rw[hg] at es;simp only at es;subst es;exact ⟨E,hsel e4,e2,e5,e3⟩
  | some g =>
   rw[hg] at es hG;simp only at es;obtain ⟨arr,el,fz,p,g1,g2,g3,g4⟩:=hG;unfold glpB at hgp;rw[hg] at hgp;have hbl:∃q s c,E.blk 0=some (q,s,c)∧p= .pointer (some ⟨q,s,none⟩):=by
    generalize ct.ps=ps at hgp e5 hA;cases hA with
    | @ptr k n rw q s L ps us is az ws hm hl h =>obtain ⟨⟨c,B,b1,_,_⟩,_⟩:=e5;exact ⟨q,s,c,b1,(g3 _ rfl).symm⟩
    | _=>cases hgp
   obtain ⟨q0,s0,c0,b1,rfl⟩:=hbl;have h0:0<arr.size:=by
    rcases bL 0 arr.size with h | h
    ·exact h
    ·rw [cQ h] at g2;cases g2
   generalize hσ:(patL ct.ps σ00).2=σp at es e2 e3 e5;have hne:0<σp.nb:=by
    rcases bL 0 σp.nb with h | h
    ·exact h
    ·rw [e2.freshB 0 h] at b1;cases b1
   obtain ⟨a1,a2,a3,a4⟩:=addBlk (N:=num0 F ct.ps is az) (σ':={σp with nb:=σp.nb+1,bks:=σp.bks.set σp.nb {n:=1,rw:=false,cells:=Tr.nil.set 0 (.ptr 0 (.kst 0)),arr:=none}}) (B:={n:=1,rw:=false,cells:=Tr.nil.set 0 (.ptr 0 (.kst 0)),arr:=none}) (s:=0) (c:=1) e2 e3 g1 (fun e=>by cases e) (by simp only[Bk.wid];omega)
    (by
     intro j sc hj;rw[fA] at hj;by_cases hj0:j=0
     ·rw [bG hj0] at hj;simp only[aA] at hj;subst hj;subst hj0;refine ⟨Nat.one_pos,_,g2,?_⟩;rw[ptr_mk b1 (bK _)];rfl
     ·rw [bC hj0] at hj;cases hj)
    (fun i B' s' c' h1 h2 h3=>by
     have hr:B'.rw=true:=h3.resolve_right (fun e=>by cases e);rw[←hσ] at h1;rcases patL_win (N:=num0 F ct.ps is az) (E:=E) hA σ00 (by rw[hσ];exact e5) i B' h1 hr with h | ⟨y,c,y1,y2,y3,y4⟩
     ·cases h
     ·rw [h2] at y3;simp only[aA,aD] at y3;obtain ⟨y5,y6,rfl⟩:=y3;have:=g4 y y1 y2 y5.symm;show s'+_≤0∨0+1≤s';omega) rfl rfl rfl rfl
   refine ⟨_,hsel (denLV_mono a1 e4),?_,?_,?_⟩
   ·rw [es];exact ⟨a2.freshB,a2.freshV,fun t sv e=>by
     rw[fA] at e;by_cases ht:t=2*g+1
     ·rw [bG ht] at e;simp only[aA] at e;refine ⟨by omega,σp.nb,1,e.symm,?_⟩;rw[a4,ht];have:(2*g+1)/2=g:=by omega
      rw[this]
     ·rw [bC ht] at e;cases e⟩
   ·rw [es];refine Tie.mono a1 (fun i B h=> ?_) e5;show (σp.bks.set σp.nb _).get i=some B;rw[fA];by_cases hi:i=σp.nb
    ·obtain ⟨q,s,c,arr',el',fz',k1,_⟩:=e3.at' i B h;rw[hi,e2.freshB σp.nb (aS _)] at k1;cases k1
    ·rw [bC hi];exact h
   ·rw [es];exact a3
 obtain ⟨E',k1,k2,k3,k4⟩:=key;have ea:args=selL ct.sel (patL ct.ps σ00).1:=by rw[←show (entL ct).1=args by rw[hp]];rfl
 rw[←ea] at k1;exact calls_of_wp hf hb (H is az ws w E' _ hA.shape hpr k2 k3 k4 ⟨rfl,fun x hx=>by rw[hni] at hx;omega,E',RA.enter k2 k1 (aM hn),Post.refl k2 k4⟩ ⟨us,hA⟩)
end
structure Sum1 where
 outs:List (Ar×Nat)
 rw:Option (Nat ⊕ List Ar)
 sl:Option (Ar×Nat)
def zipJ:List Ar→Nat→List (Ar×Nat)
 | [],_=>[]
 | a::l,j=>(a,j)::zipJ l (j+1)
def isEmp:Sc→Bool
 | .emp _=>true
 | .kst (.slice none 0 _)=>true
 | .sl _ _ (.kst (.ofNat 0)) _=>true
 | _=>false
def isNni:Sc→Bool
 | .ifp .. | .nni _=>true
 | _=>false
def outL:List Re→Nat→List V1→Option (List (Ar×Nat))
 | [],_,[]=>some []
 | .int k::r,j,.sc x::vs=>match x.ar with
  | some (k',a)=>bif kindB k k' then (match outL r (j+1) vs with | some l=>some ((a,j)::l) | none=>none) else none
  | none=>none
 | .bool::r,j,.sc x::vs=>match x with
  | .boo x=>match outL r (j+1) vs with
   | some l=>some ((.var x,j)::l)
   | none=>none
  | .kst (.bool t)=>match outL r (j+1) vs with
   | some l=>some ((.kst (bif t then 1 else 0),j)::l)
   | none=>none
  | _=>none
 | .agg k n::r,j,.agg l::vs=>match arsL k l with
  | some az=>bif Nat.beq l.length n then (match outL r (j+n) vs with | some l=>some (zipJ az j++l) | none=>none) else none
  | none=>none
 | .sl _ _::r,j,.sc _::vs=>outL r j vs
 | .emp::r,j,.sc x::vs=>bif isEmp x then outL r j vs else none
 | .nn::r,j,.sc x::vs=>bif isNni x then outL r j vs else none
 | .kst v::r,j,.sc x::vs=>match x with
  | .kst v'=>bif eqV v v' then outL r j vs else none
  | _=>none
 | _,_,_=>none
def slV:List Re→List V1→Option (Nat×Ar)
 | .sl _ _::_,.sc (.sl b (.kst (.ofNat 0)) len none)::_=>some (b,len)
 | _::r,_::vs=>slV r vs
 | _,_=>none
def rwOnly (t:Tr Bk)(o:Option (Nat×IntKind)):Nat→Bool
 | 0=>true
 | i+1=>(match t.get i with
  | some B=> !B.rw||(match o with | some (b,_)=>Nat.beq i b | none=>false)
  | none=>true)&&rwOnly t o i
def rwOut (σ:St)(b:Nat)(k:IntKind):Option (Nat ⊕ List Ar) :=
 match σ.bks.get b with
 | some B=>match B.arr with
  | some (k',A,false)=>bif kindB k k' then some (.inl A) else none
  | some (_,_,true)=>none
  | none=>match arsN B.cells k 0 B.n with
   | some l=>some (.inr l)
   | none=>none
 | none=>none
def ownBlk (ct:Ct):Option (Nat×IntKind) :=
 match rwBlk 0 ct.ps with
 | some y=>some y
 | none=>grBlk 0 ct.ps
def summ (ct:Ct)(σe:St)(vs:List V1)(σ:St):Option Sum1 :=
 bif (σe.bks.keysLt σe.nb&&rwOnly σe.bks (ownBlk ct) σe.nb)&&ct.okG then
  match outL ct.res 0 vs with
  | none=>none
  | some os =>
   match (match rwBlk 0 ct.ps with
    | none=>some none
    | some (b,k)=>match rwOut σ b k with
     | some o=>some (some o)
     | none=>none) with
   | none=>none
   | some ro =>
    match slOf ct.res with
    | none=>some ⟨os,ro,none⟩
    | some (k,_)=>match rwBlk 0 ct.ps with
     | some _=>none
     | none=>match slV ct.res vs with
      | some (b,len)=>match σ.bks.get b with
       | some B=>match B.arr with
        | some (k',A,true)=>bif B.rw&&kindB k k' then some ⟨os,ro,some (len,A)⟩ else none
        | _=>none
       | none=>none
      | none=>none
 else none
structure Sum1.ok (S:Sum1) (N:Num) (F:Fns) (ct:Ct) (is:List Int) (az:List (List Int)):Prop where
 outs:∀p∈S.outs,p.1.ev N=F.i ct.fi is az p.2
 rw:match S.rw with
  | none=>True
  | some (.inl A)=>N.a A=F.a ct.fw is az
  | some (.inr l)=>l.map (·.ev N)=F.a ct.fw is az
 sl:match S.sl with
  | none=>True
  | some (len,A)=>N.a A=F.a ct.fs is az∧len.ev N=(F.a ct.fs is az).length∧(match slOf ct.res with | some (_,some m)=>(F.a ct.fs is az).length=m | _=>True)
section
variable {P:Program} {F:Fns} {N:Num} {E:Env} {σ σ':St}
theorem rwOnly_spec {t:Tr Bk}{o:Option (Nat×IntKind)}:∀ {n:Nat},rwOnly t o n=true→∀i B,i<n→t.get i=some B→B.rw=true→∃b k,o=some (b,k)∧i=b
 | 0,_,i,B,h,_,_=>by omega
 | n+1,h,i,B,hi,hB,hr=>by
  simp only[rwOnly,aG] at h;by_cases e:i=n
  ·subst e;have h1:=h.1;rw[hB] at h1;simp only[hr,Bool.not_true,Bool.false_or] at h1;split at h1;·exact ⟨_,_,rfl,aF h1⟩
   ·cases h1
  ·exact rwOnly_spec h.2 i B (by omega) hB hr
theorem zipJ_spec {f:Nat→Int}:∀ {az:List Ar} {j:Nat},(∀ p∈zipJ az j,p.1.ev N=f p.2)→az.map (·.ev N)=(List.range' j az.length).map f
 | [],_,_=>rfl
 | a::l,j,h=>by simp only[aI,bU,List.range'_succ,List.cons.injEq];exact ⟨h (a,j) aN,zipJ_spec (fun p hp=>h p (aJ _ hp))⟩
theorem arsL_length {k:IntKind}:∀ {l:List Sc} {az:List Ar},arsL k l=some az→az.length=l.length
 | [],az,h=>by simp only[arsL,aA] at h;subst h;rfl
 | x::l,az,h=>by
  simp only[arsL] at h;split at h
  ·rename_i k' a hx;cases hk:kindB k k' with
   | false=>rw[hk] at h;cases h
   | true =>rw[hk] at h;simp only[aH,aV] at h;obtain ⟨r,hr,rfl⟩:=h;simp[arsL_length hr]
  ·cases h
theorem isEmp_den {x:Sc}{u:Value}(h:isEmp x=true)(hx:x.den N E=some u):∃a c,u= .slice a 0 c:=by
 unfold isEmp at h;split at h
 ·simp only[Sc.den] at hx;split at hx;·simp only[aA] at hx;exact ⟨_,_,hx.symm⟩
  ·cases hx
 ·simp only[Sc.den,cellOk,aH,aA] at hx;exact ⟨_,_,hx.symm⟩
 ·obtain ⟨q,s,c,m,_,_,rfl,_⟩:=gC hx;exact ⟨_,_,rfl⟩
 ·cases h
theorem isNni_den {x:Sc}{u:Value}(h:isNni x=true)(hx:x.den N E=some u):∃t a,u= .iface t a:=by
 unfold isNni at h;split at h
 ·simp only[Sc.den,aL] at hx;obtain ⟨q,_,e⟩:=hx;split at e;·simp only[aA] at e;exact ⟨_,_,e.symm⟩
  ·cases e
 ·simp only[Sc.den] at hx;split at hx;·simp only[aA] at hx;exact ⟨_,_,hx.symm⟩
  ·cases hx
 ·cases h
theorem outL_res {f:Nat}{is:List Int}{az:List (List Int)}{slv:Value}:∀ {r:List Re} {j:Nat} {vs:List V1} {us:List Value} {os:List (Ar×Nat)},outL r j vs=some os→denL1 N E vs=some us →
 (∀ p∈os,p.1.ev N=F.i f is az p.2)→(∀ b len,slV r vs=some (b,len)→(Sc.sl b (.kst 0) len none).den N E=some slv)→(slOf r≠none→∃y,slV r vs=some y) →
 (r.filter fun x=>match x with | .sl _ _=>true | _=>false).length≤1→ResV F f is az slv r j us
 | [],j,vs,us,os,h,hd,ho,hs,hy,h1=>by
  cases vs with
  | nil=>simp only[denL1,aA] at hd;subst hd;trivial
  | cons _ _=>cases h
 | .int k::r,j,vs,us,os,h,hd,ho,hs,hy,h1=>by
  cases vs with
  | nil=>cases h
  | cons v vs =>
   cases v with
   | agg _=>cases h
   | sc x =>
    simp only[outL] at h;split at h
    ·rename_i k' a hx;cases hk:kindB k k' with
     | false=>rw[hk] at h;cases h
     | true =>
      have:=fT hk;subst this;rw[hk] at h;simp only[aH] at h;split at h
      ·rename_i l hl;simp only[aA] at h;subst h;obtain ⟨u,us',d1,d2,rfl⟩:=denL1_cons.1 hd;have:=gV hx d1;subst this;exact ⟨by rw[ho _ aN],outL_res hl d2 (fun p hp=>ho p (aJ _ hp)) hs hy h1⟩
      ·cases h
    ·cases h
 | .bool::r,j,vs,us,os,h,hd,ho,hs,hy,h1=>by
  cases vs with
  | nil=>cases h
  | cons v vs =>
   cases v with
   | agg _=>cases h
   | sc x =>
    simp only[outL] at h;split at h
    ·rename_i x;split at h
     ·rename_i l hl;simp only[aA] at h;subst h;obtain ⟨u,us',d1,d2,rfl⟩:=denL1_cons.1 hd;simp only[V1.den,Sc.den,aA] at d1;have:=ho _ aN;simp only[Ar.ev] at this;exact ⟨by rw[←d1,this],outL_res hl d2 (fun p hp=>ho p (aJ _ hp)) hs hy h1⟩
     ·cases h
    ·rename_i t;split at h
     ·rename_i l hl;simp only[aA] at h;subst h;obtain ⟨u,us',d1,d2,rfl⟩:=denL1_cons.1 hd;simp only[V1.den,Sc.den,cellOk,aH,aA] at d1;have:=ho _ aN;simp only[Ar.ev] at this;exact ⟨by rw[←d1,←this];cases t <;> rfl,outL_res hl d2 (fun p hp=>ho p (aJ _ hp)) hs hy h1⟩
     ·cases h
    ·cases h
 | .agg k n::r,j,vs,us,os,h,hd,ho,hs,hy,h1=>by
  cases vs with
  | nil=>cases h
  | cons v vs =>
   cases v with
   | sc _=>cases h
   | agg l =>
    simp only[outL] at h;split at h
    ·rename_i as' has;cases hk:Nat.beq l.length n with
     | false=>rw[hk] at h;cases h
     | true =>
      have:=aF hk;rw[hk] at h;simp only[aH] at h;split at h
      ·rename_i l2 hl;simp only[aA] at h;subst h;obtain ⟨u,us',d1,d2,rfl⟩:=denL1_cons.1 hd;simp only[V1.den,aV] at d1;obtain ⟨vs2,g1,rfl⟩:=d1;have e1:=arsL_den has g1;have e2:=zipJ_spec (N:=N) (f:=F.i f is az) (fun p hp=>ho p (eJ _ hp));rw[arsL_length has,this] at e2;refine ⟨?_,outL_res hl d2 (fun p hp=>ho p (eF _ hp)) hs hy h1⟩;rw[e1,←e2];simp[intsV]
      ·cases h
    ·cases h
 | .sl k n::r,j,vs,us,os,h,hd,ho,hs,hy,h1=>by
  cases vs with
  | nil=>cases h
  | cons v vs =>
   cases v with
   | agg _=>cases h
   | sc x =>
    simp only[outL] at h;obtain ⟨u,us',d1,d2,rfl⟩:=denL1_cons.1 hd;have hr:slOf r=none:=by
     have h2:(r.filter fun x=>match x with | .sl _ _=>true | _=>false).length=0:=by simp only[List.filter_cons,if_true,bU] at h1;omega
     exact none_of h2
    refine ⟨?_,outL_res h d2 ho (fun b len e=> ?_) (fun e=>(e hr).elim) ?_⟩
    ·obtain ⟨⟨b,len⟩,hy'⟩:=hy (by simp[slOf]);have h3:=hs b len hy';unfold slV at hy';split at hy'
     ·rename_i e1 e2;simp only[List.cons.injEq,V1.sc.injEq] at e2;obtain ⟨e2,-⟩:=e2;simp only[aA,aD] at hy';rw[e2,hy'.1,hy'.2] at d1;have:(Sc.sl b (.kst 0) len none).den N E=some u:=d1;rw[h3] at this;simp only[aA] at this;exact this.symm
     ·rename_i hne e1 e2;simp only[List.cons.injEq] at e1 e2;obtain ⟨rfl,rfl⟩:=e1;obtain ⟨rfl,rfl⟩:=e2;rw[slV_none hr] at hy';cases hy'
     ·cases hy'
    ·rw [slV_none hr] at e;cases e
    ·simp only[List.filter_cons,if_true,bU] at h1;omega
 | .tl::r,j,vs,us,os,h,hd,ho,hs,hy,h1=>by
  cases vs with
  | nil=>cases h
  | cons v vs=>cases v <;> cases h
 | .emp::r,j,vs,us,os,h,hd,ho,hs,hy,h1=>by
  cases vs with
  | nil=>cases h
  | cons v vs =>
   cases v with
   | agg _=>cases h
   | sc x =>
    simp only[outL] at h;cases hk:isEmp x with
    | false=>rw[hk] at h;cases h
    | true =>rw[hk] at h;obtain ⟨u,us',d1,d2,rfl⟩:=denL1_cons.1 hd;exact ⟨isEmp_den hk d1,outL_res h d2 ho hs hy h1⟩
 | .nn::r,j,vs,us,os,h,hd,ho,hs,hy,h1=>by
  cases vs with
  | nil=>cases h
  | cons v vs =>
   cases v with
   | agg _=>cases h
   | sc x =>
    simp only[outL] at h;cases hk:isNni x with
    | false=>rw[hk] at h;cases h
    | true =>rw[hk] at h;obtain ⟨u,us',d1,d2,rfl⟩:=denL1_cons.1 hd;exact ⟨isNni_den hk d1,outL_res h d2 ho hs hy h1⟩
 | .kst v0::r,j,vs,us,os,h,hd,ho,hs,hy,h1=>by
  cases vs with
  | nil=>cases h
  | cons v vs =>
   cases v with
   | agg _=>cases h
   | sc x =>
    simp only[outL] at h;split at h
    ·rename_i v';cases hk:eqV v0 v' with
     | false=>rw[hk] at h;cases h
     | true =>rw[hk] at h;have:=eqV_eq hk;subst this;obtain ⟨u,us',d1,d2,rfl⟩:=denL1_cons.1 hd;obtain ⟨rfl,_⟩:=kst_cell d1;exact ⟨rfl,outL_res h d2 ho hs hy h1⟩
    ·cases h
 where
 none_of:∀ {r:List Re},(r.filter fun x=>match x with | .sl _ _=>true | _=>false).length=0→slOf r=none
  | [],_=>rfl
  | .int _::r,h=>none_of (r:=r) h
  | .bool::r,h=>none_of (r:=r) h
  | .agg _ _::r,h=>none_of (r:=r) h
  | .emp::r,h=>none_of (r:=r) h
  | .tl::r,h=>none_of (r:=r) h
  | .kst _::r,h=>none_of (r:=r) h
  | .nn::r,h=>none_of (r:=r) h
  | .sl _ _::r,h=>by simp at h
 slV_none:∀ {r:List Re} {vs:List V1},slOf r=none→slV r vs=none
  | [],[],_=>rfl
  | [],_::_,_=>rfl
  | .int _::r,[],_=>rfl
  | .bool::r,[],_=>rfl
  | .agg _ _::r,[],_=>rfl
  | .emp::r,[],_=>rfl
  | .tl::r,[],_=>rfl
  | .tl::r,v::vs,h=>slV_none (r:=r) (vs:=vs) h
  | .kst _::r,[],_=>rfl
  | .nn::r,[],_=>rfl
  | .int _::r,v::vs,h=>slV_none (r:=r) (vs:=vs) h
  | .bool::r,v::vs,h=>slV_none (r:=r) (vs:=vs) h
  | .agg _ _::r,v::vs,h=>slV_none (r:=r) (vs:=vs) h
  | .emp::r,v::vs,h=>slV_none (r:=r) (vs:=vs) h
  | .kst _::r,v::vs,h=>slV_none (r:=r) (vs:=vs) h
  | .nn::r,v::vs,h=>slV_none (r:=r) (vs:=vs) h
  | .sl _ _::_,_,h=>by simp[slOf] at h
end
section
variable {P:Program} {F:Fns} {N:Num} {E:Env} {σ σ':St}
theorem resV_den_inv {vs:List V1}{u:Value}(h:(resV vs).den N E=some u):∃us,denL1 N E vs=some us∧u=tupOf us:=by
 match vs,h with
 | [],h =>simp only[resV,SV.den,denL1,Option.map_some,aA] at h;exact ⟨[],rfl,h.symm⟩
 | [v],h=>exact ⟨[u],denL1_cons.2 ⟨u,[],h,rfl,rfl⟩,rfl⟩
 | v::v'::l,h =>simp only[resV,SV.den,aV] at h;obtain ⟨us,h1,rfl⟩:=h;obtain ⟨u,r,h2,h3,rfl⟩:=denL1_cons.1 h1;obtain ⟨u',r',h4,h5,rfl⟩:=denL1_cons.1 h3;exact ⟨_,h1,rfl⟩
theorem slV_den {b:Nat}{len:Ar}:∀ {r:List Re} {vs:List V1} {us:List Value},slV r vs=some (b,len)→denL1 N E vs=some us→∃v,(Sc.sl b (.kst 0) len none).den N E=some v
 | [],_,_,h,_=>by cases h
 | x::_,[],_,h,_=>by cases x <;> simp[slV] at h
 | x::r,v::vs,us,h,hd=>by
  obtain ⟨u,us',d1,d2,rfl⟩:=denL1_cons.1 hd;unfold slV at h;split at h
  ·rename_i e1 e2;simp only[List.cons.injEq] at e2;obtain ⟨e2,-⟩:=e2;simp only[aA,aD] at h;rw[e2,h.1,h.2] at d1;exact ⟨u,d1⟩
  ·rename_i hne e1 e2;simp only[List.cons.injEq] at e1 e2;rw[←e1.2,←e2.2] at h;exact slV_den h d2
  ·cases h
def rwArg:List Pa→List Int→List (List Int)→Option (List Int)
 | .ptr _ _ true::_,_,L::_=>some L
 | .sl _ true _::_,_,L::_=>some L
 | .ptr _ _ false::ps,is,_::az=>rwArg ps is az
 | .sl _ false _::ps,is,_::az=>rwArg ps is az
 | .int _::ps,_::is,az=>rwArg ps is az
 | .agg _ _::ps,is,_::az=>rwArg ps is az
 | .emp::ps,is,_::az=>rwArg ps is az
 | .zc::ps,is,_::az=>rwArg ps is az
 | .gr _::ps,is,_::az=>rwArg ps is az
 | .kst _::ps,is,az=>rwArg ps is az
 | .ign::ps,is,az=>rwArg ps is az
 | _,_,_=>none
theorem args_rw {w:World}{bks:Tr Bk}{ps:List Pa}{us:List Value}{is:List Int}{az:List (List Int)}{ws:List (Option Win)}(hA:Args w ps us is az ws):∀ {nb:Nat},Tie N E bks nb ps ws →
 match rwBlk nb ps with
 | none=>rwW ps ws=none
 | some (b,k)=>∃x L,rwW ps ws=some (x,k)∧(∃ c B,E.blk b=some (x.q,x.s,c)∧bks.get b=some B∧B.wid N c=x.n)∧rwArg ps is az=some L∧L.length=x.n∧Mem w x.q x.s k L true:=by
 induction hA with
 | nil=>intro nb h;rfl
 | int h ih=>intro nb hT;exact ih hT
 | agg hl h ih=>intro nb hT;exact ih hT
 | @ptr k n rw q s L ps us is az ws hm hl h ih =>
  intro nb hT;cases rw with
  | true=>exact ⟨_,L,rfl,hT.1,rfl,hl,hm⟩
  | false=>exact ih hT.2
 | @sl k rw n q s c L ps us is az ws hm hc hn h ih =>
  intro nb hT;cases rw with
  | true=>exact ⟨_,L,rfl,hT.1,rfl,rfl,hm⟩
  | false=>exact ih hT.2
 | emp h ih=>intro nb hT;exact ih hT
 | ign hv h ih=>intro nb hT;exact ih hT
 | zc h ih=>intro nb hT;exact ih hT
 | gr hm hc h ih=>intro nb hT;exact ih hT.2
 | kst hv h ih=>intro nb hT;exact ih hT
theorem args_gr {w:World}{bks:Tr Bk}{ps:List Pa}{us:List Value}{is:List Int}{az:List (List Int)}{ws:List (Option Win)}(hA:Args w ps us is az ws):∀ {nb:Nat},Tie N E bks nb ps ws →
 match grBlk nb ps with
 | none=>grW ps ws=none
 | some (b,_k)=>∃x,grW ps ws=some x∧∃c B,E.blk b=some (x.q,x.s,c)∧bks.get b=some B∧B.wid N c=x.n:=by
 induction hA with
 | nil=>intro nb h;rfl
 | int h ih=>intro nb hT;exact ih hT
 | agg hl h ih=>intro nb hT;exact ih hT
 | ptr hm hl h ih=>intro nb hT;exact ih hT.2
 | sl hm hc hn h ih=>intro nb hT;exact ih hT.2
 | emp h ih=>intro nb hT;exact ih hT
 | ign hv h ih=>intro nb hT;exact ih hT
 | zc h ih=>intro nb hT;exact ih hT
 | gr hm hc h ih=>intro nb hT;exact ⟨_,rfl,hT.1⟩
 | kst hv h ih=>intro nb hT;exact ih hT
theorem own_gr:∀ {ps:List Pa},hasGr ps=true→1≤ownN ps:=by
 intro ps
 induction ps with
 | nil=>intro h;cases h
 | cons p ps ih =>
  intro h;cases p with
  | ptr k n rw=>cases rw <;> simp_all [ownN,hasGr]
  | sl k rw n=>cases rw <;> simp_all [ownN,hasGr]
  | _=>simp_all [ownN,hasGr]
theorem own_rw:∀ {ps:List Pa} {nb:Nat} {y:Nat×IntKind},rwBlk nb ps=some y→1≤ownN ps∧(hasGr ps=true→2≤ownN ps):=by
 intro ps
 induction ps with
 | nil=>intro nb y h;cases h
 | cons p ps ih =>
  intro nb y h;cases p with
  | ptr k n rw =>
   cases rw with
   | true=>exact ⟨by simp[ownN],fun hh=>by have:=own_gr (ps:=ps) hh;simp only[ownN];omega⟩
   | false=>exact ih (nb:=nb+1) h
  | sl k rw n =>
   cases rw with
   | true=>exact ⟨by simp[ownN],fun hh=>by have:=own_gr (ps:=ps) hh;simp only[ownN];omega⟩
   | false=>exact ih (nb:=nb+1) h
  | gr k=>have:=ih (nb:=nb+1) h;exact ⟨by simp[ownN],fun _=>by simp only[ownN];omega⟩
  | zc=>exact ih (nb:=nb+1) h
  | int _=>exact ih (nb:=nb) h
  | agg _ _=>exact ih (nb:=nb) h
  | emp=>exact ih (nb:=nb) h
  | ign=>exact ih (nb:=nb) h
  | kst _=>exact ih (nb:=nb) h
theorem okG_rw {ct:Ct}{y:Nat×IntKind}{ws:List (Option Win)}(h:ct.okG=true)(hr:rwBlk 0 ct.ps=some y):grW ct.ps ws=none:=by
 cases hh:hasGr ct.ps with
 | false=>exact grW_none hh
 | true =>unfold Ct.okG at h;simp only[hh,Bool.not_true,Bool.false_or,aG] at h;have:=aF h.1;have:=(own_rw hr).2 hh;omega
def oneSl (r:List Re):Bool:=Nat.ble (r.filter fun x=>match x with | .sl _ _=>true | _=>false).length 1
set_option maxHeartbeats 1000000 in
theorem resOk_of {ct:Ct}{σe σ2:St}{Ne:Num}{Ee:Env}{we w':World}{us0:List Value}{is:List Int}{az:List (List Int)}{ws:List (Option Win)}{vs:List V1}{u:Value}{S:Sum1}(hS:summ ct σe vs σ2=some S)(h1:oneSl ct.res=true)
 (hu:(resV vs).den N E=some u) (hp:Post Ne Ee σe we N E σ2 w') (hBe:BW Ne Ee σe.bks we) (hT:Tie Ne Ee σe.bks 0 ct.ps ws) (hA:Args we ct.ps us0 is az ws) (ho:S.ok N F ct is az)
 (hlen:∀L,rwArg ct.ps is az=some L→(F.a ct.fw is az).length=L.length):ResOk P F ct is az ws we u w':=by
 obtain ⟨us,hd,rfl⟩:=resV_den_inv hu;unfold summ at hS;cases hb:((σe.bks.keysLt σe.nb&&rwOnly σe.bks (ownBlk ct) σe.nb)&&ct.okG) with
 | false=>rw[hb] at hS;cases hS
 | true =>
  rw[hb] at hS;simp only[aH] at hS;simp only[aG] at hb;obtain ⟨hb,hokG⟩:=hb;have honly0:∀i B,σe.bks.get i=some B→B.rw=true→∃b k,ownBlk ct=some (b,k)∧i=b:=fun i B hB hr=>rwOnly_spec hb.2 i B (Tr.keysLt_get hb.1 hB) hB hr
  have hargsG:=args_gr hA hT;have given:rwBlk 0 ct.ps=none→∀i B,σe.bks.get i=some B→B.rw=true→∃x c,grW ct.ps ws=some x∧Ee.blk i=some (x.q,x.s,c)∧B.wid Ne c=x.n:=fun hr0 i B hB hr=>by obtain ⟨b,k,g1,rfl⟩:=honly0 i B hB hr;unfold ownBlk at g1;rw[hr0] at g1;simp only at g1;rw[g1] at hargsG;obtain ⟨x,g2,c,B',g3,g4,g5⟩:=hargsG;rw[hB] at g4;simp only[aA] at g4;subst g4;exact ⟨x,c,g2,g3,g5⟩
  split at hS;·cases hS
  ·rename_i os hos;split at hS;·cases hS
   ·rename_i ro hro;have hargs:=args_rw hA hT;have mid:∃w1,(match rwW ct.ps ws with
     | none=>w1=we
     | some (x,k)=>(F.a ct.fw is az).length=x.n∧(storeCells ⟨x.q,x.s,none⟩ (intsV k (F.a ct.fw is az)) 0).run P we= .ok () w1)∧Grow (grW ct.ps ws) w1 w'∧(rwBlk 0 ct.ps=none→w1=we):=by
     cases hrb:rwBlk 0 ct.ps with
     | none =>
      rw[hrb] at hargs;simp only at hargs;rw[hargs];refine ⟨we,rfl,⟨hp.kept.os,hp.kept.tape,hp.kept.output,hp.kept.size,fun q hq hno=>hp.kept.block q hq (fun i B s c g1 g2 g3=> ?_),fun y arr el fz hy hh=> ?_⟩,fun _=>rfl⟩
      ·obtain ⟨x,c1,g4,g5,_⟩:=given hrb i B g1 g2;rw[g3] at g5;simp only[aA,aD] at g5;exact hno x g4 g5.1.symm
      ·obtain ⟨arr',k1,k2,k3⟩:=hp.kept.part y.q arr el fz hh;refine ⟨arr',k1,k2,fun j hj=>k3 j fun i B s c g1 g2 g3=> ?_⟩;obtain ⟨x,c1,g4,g5,g6⟩:=given hrb i B g1 g2;rw[hy] at g4;simp only[aA] at g4;subst g4;rw[g3] at g5;simp only[aA,aD] at g5;obtain ⟨_,rfl,rfl⟩:=g5;rw[g6];exact hj
     | some y =>
      obtain ⟨b,k⟩:=y;have hgn:grW ct.ps ws=none:=okG_rw hokG hrb;have honly:∀i B,σe.bks.get i=some B→B.rw=true→∃b k,rwBlk 0 ct.ps=some (b,k)∧i=b:=fun i B hB hr=>by have:=honly0 i B hB hr;unfold ownBlk at this;rw[hrb] at this ⊢;exact this
      rw[hrb] at hargs hro;obtain ⟨x,L,g1,⟨c,B,g2,g3,g4⟩,g5,g6,arr,el,fz,g7,g8,g9,g10⟩:=hargs;have g8:=g8 rfl;subst g8;rw[g1];simp only at hro ⊢;have hFl:=hlen L g5;split at hro
      ·rename_i o hrwo;simp only[aA] at hro;subst hro;obtain ⟨arr',k1,k2,k3⟩:=hp.kept.part x.q arr el (0,0) g7;have hout:∀j,(j<x.s∨x.s+x.n≤j)→arr'[j]? =arr[j]? :=fun j hj=>k3 j fun i B1 s1 c1 e1 e2 e3=>by
        obtain ⟨b',k',e4,e5⟩:=honly i B1 e1 e2;rw[hrb] at e4;simp only[aA,aD] at e4;obtain ⟨rfl,rfl⟩:=e4;subst e5;rw[g3] at e1;simp only[aA] at e1;subst e1;rw[g2] at e3;simp only[aA,aD] at e3;obtain ⟨_,rfl,rfl⟩:=e3;rw[g4];exact hj
       have hin:∀j v,(F.a ct.fw is az)[j]? =some v→arr'[x.s+j]? =some (.int k v):=fun j v hj=>by
        unfold rwOut at hrwo;split at hrwo
        ·rename_i B2 hB2;obtain ⟨q',s',c',arr2,el2,fz2,m1,m2,m3,m4,m5⟩:=hp.bw.at' b B2 hB2;rw[hp.le.blk _ _ g2] at m1;simp only[aA,aD] at m1;obtain ⟨rfl,rfl,rfl⟩:=m1;rw[k1] at m2;simp only[aA,Obj.cells.injEq] at m2;obtain ⟨rfl,rfl,rfl⟩:=m2;unfold Bk.cont at m5;split at hrwo
         ·rename_i k' A hg;cases hk:kindB k k' with
          | false=>rw[hk] at hrwo;cases hrwo
          | true =>
           have:=fT hk;subst this;rw[hk] at hrwo;simp only[aH,aA] at hrwo;subst hrwo;rw[hg] at m5;have hsx:S.rw=some (.inl A):=by
            split at hS;·simp only[aA] at hS;rw[←hS]
            ·rw [hrb] at hS;cases hS
           have:=ho.rw;rw[hsx] at this;simp only at this;exact m5.1 j v (by rw[this];exact hj)
         ·cases hrwo
         ·rename_i hg;split at hrwo
          ·rename_i l hl;simp only[aA] at hrwo;subst hrwo;have hsx:S.rw=some (.inr l):=by
            split at hS;·simp only[aA] at hS;rw[←hS]
            ·rw [hrb] at hS;cases hS
           have:=ho.rw;rw[hsx] at this;simp only at this;obtain ⟨_,h2⟩:=lit_cells hg hl (show B2.cont N E x.s c arr' from by unfold Bk.cont;exact m5);have:=h2 j v (by rw[this];exact hj)
           rwa [bM] at this
          ·cases hrwo
        ·cases hrwo
       obtain ⟨w1,arr1,r1,r2,r3,r4,r5⟩:=gG (P:=P) (o:=x.s) (i:=0) (vs:=intsV k (F.a ct.fw is az)) g7 (by simp only[intsV,bF,hFl];omega) intsV_ok;simp only[intsV,bF,cJ,hFl] at r4 r5;have harr:arr1=arr':=by
        apply Array.ext_getElem?;intro j;by_cases hj:j<x.s∨x.s+x.n≤j;·rw [hout j hj];exact r4 j (by omega)
        ·have hj':j-x.s<(F.a ct.fw is az).length:=by omega
         have e0:(F.a ct.fw is az)[j-x.s]? =some ((F.a ct.fw is az)[j-x.s]):=aU hj';have e1:=hin _ _ e0;have e2:=r5 (j-x.s) (.int k ((F.a ct.fw is az)[j-x.s])) (by rw[bP,e0];rfl);rw[show x.s+(j-x.s)=j by omega] at e1 e2;rw[e1];exact e2
       subst harr;refine ⟨w1,⟨by rw[hFl,g6],r1⟩,⟨hp.kept.os.trans r2.os.symm,hp.kept.tape.trans r2.tape.symm,hp.kept.output.trans r2.output.symm,by rw[r2.size];exact hp.kept.size,fun q hq _=> ?_,fun y _ _ _ e=>by rw[hgn] at e;cases e⟩,fun e=>by cases e⟩;rw[r2.size] at hq;by_cases e:q=x.q;·subst e;rw[r2.here,k1]
       ·rw [r2.oth q e];refine hp.kept.block q hq fun i B1 s1 c1 e1 e2 e3=> ?_
        obtain ⟨b',k',e4,e5⟩:=honly i B1 e1 e2;rw[hrb] at e4;simp only[aA,aD] at e4;obtain ⟨rfl,rfl⟩:=e4;subst e5;rw[g2] at e3;simp only[aA,aD] at e3;exact e e3.1.symm
      ·cases hro
    obtain ⟨w1,hw1,hg,hnone⟩:=mid;cases hso:slOf ct.res with
    | none =>rw[hso] at hS;simp only[aA] at hS;subst hS;refine ⟨w1,us,undef,rfl,hw1,hg,by rw[hso];trivial,outL_res hos hd ho.outs (fun b len e=> ?_) (fun e=>(e hso).elim) (aM h1)⟩;rw[outL_res.slV_none hso] at e;cases e
    | some y =>
     obtain ⟨k,nn⟩:=y;rw[hso] at hS;simp only at hS;cases hrb:rwBlk 0 ct.ps with
     | some _=>rw[hrb] at hS;cases hS
     | none =>
      rw[hrb] at hS;simp only at hS;have hw1':=hnone hrb;subst hw1';split at hS
      ·rename_i b len hsv;split at hS
       ·rename_i B2 hB2;split at hS
        ·rename_i k' A hgr;cases hk:(B2.rw&&kindB k k') with
         | false=>rw[hk] at hS;cases hS
         | true =>
          rw[hk] at hS;simp only[aH,aA] at hS;subst hS;simp only[aG] at hk;have:=fT hk.2;subst this;obtain ⟨slv,hslv⟩:=slV_den hsv hd;have ho3:=ho.sl;rw[hso] at ho3;simp only at ho3;obtain ⟨o1,o2,o3⟩:=ho3;have hfr:Fresh (grW ct.ps ws) w1 w' k (F.a ct.fs is az) slv∧∀m,nn=some m→(F.a ct.fs is az).length=m:=by
           refine ⟨?_,fun m e=>by subst e;exact o3⟩;obtain ⟨q,s,c,m,e1,_,rfl,e3,e4⟩:=gC hslv;obtain ⟨q',s',c',arr2,el2,fz2,m1,m2,m3,m4,m5⟩:=hp.bw.at' b B2 hB2;rw[e1] at m1;simp only[aA,aD] at m1;obtain ⟨rfl,rfl,rfl⟩:=m1;have:=m3 hk.1;subst this;have e4:=e4 rfl;simp only[gE,Int.toNat_zero,bM,o2,bD] at e4 e3 ⊢;unfold Bk.wid at m4;unfold Bk.cont at m5;rw[hgr] at m4 m5;simp only[aH,o1] at m4 m5;have hmax:Nat.max c (F.a ct.fs is az).length=c:=Nat.max_eq_left e4
           have hm:m=c:=by rw[e3];simp[capOf,gE]
           subst hm;refine ⟨q,s,m,arr2,el2,rfl,e4,?_,m2,by rw[hmax] at m4;exact m4,m5.1,m5.2 trivial⟩;rcases bL q w1.heap.size with hlt | hge
           ·obtain ⟨i0,B0,s0,c0,f1,f2,f3,f4,f5⟩:=hp.win b B2 q s m hB2 hk.1 e1 hlt;obtain ⟨x,c1,f6,f7,f8⟩:=given hrb i0 B0 f1 f2;rw[f3] at f7;simp only[aA,aD] at f7;obtain ⟨rfl,rfl,rfl⟩:=f7;refine .inr ⟨x,f6,rfl,f4,?_⟩;rw[f8] at f5;have:B2.wid N m=m:=by unfold Bk.wid;rw[hgr];simp only[aH,o1];exact hmax
            rw[this] at f5;exact f5
           ·exact .inl hge
          refine ⟨w1,us,slv,rfl,hw1,hg,by rw[hso];exact hfr,outL_res hos hd ho.outs (fun b' len' e=> ?_) (fun _=>⟨_,hsv⟩) (aM h1)⟩;rw[hsv] at e;simp only[aA,aD] at e;rw[←e.1,←e.2];exact hslv
        ·cases hS
       ·cases hS
      ·cases hS
end
end Go.Sy
