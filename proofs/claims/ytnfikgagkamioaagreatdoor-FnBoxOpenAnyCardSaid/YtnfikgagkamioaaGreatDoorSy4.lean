/- The symbolic executor's operations are sound, one by one: those that leave memory alone. -/
import Derived.Test.YtnfikgagkamioaaGreatDoorSy1
namespace Go.Sy
theorem fH {a b:Nat}(h:a≠b):Nat.beq a b=false:=by
 cases e:Nat.beq a b with
 | false=>rfl
 | true=>exact absurd (aF e) h
theorem fY {a b:Nat}(h:a=b):Nat.beq a b=true:=by subst h;exact Nat.beq_refl a
theorem Tr.get_setF {α:Type}:∀(d:Nat) (t:Tr α) (k:Nat) (x:α) (j:Nat),k<d→(Tr.setF d t k x).get j=if j=k then some x else t.get j
 | 0,_,_,_,_,h=>absurd h (Nat.not_lt_zero _)
 | d+1,t,k,x,j,h=>by
  have ih:=Tr.get_setF (α:=α) d;cases t with
  | nil =>
   unfold Tr.setF;by_cases hk:k=0
   ·subst hk;by_cases hj:j=0;·subst hj;simp only[Tr.get,fY rfl,aH,if_true]
    ·rw [bC hj,fY rfl];simp only[aH,Tr.get,fH hj,aQ,Bool.cond_self]
   ·have hk':Nat.beq k 0=false:=fH hk;simp only[hk',aQ];by_cases ho:k%2=1
    ·have ho':Nat.beq (k%2) 1=true:=fY ho;simp only[ho',aH,Tr.get];by_cases hj:j=0;·subst hj;simp;omega
     ·have hj':Nat.beq j 0=false:=fH hj;simp only[hj',aQ];by_cases hjo:j%2=1
      ·have hjo':Nat.beq (j%2) 1=true:=fY hjo;simp only[hjo',aH];rw[ih _ _ _ _ (by omega)];by_cases e:j/2=k/2;·rw [bG e,bG (by omega)]
       ·rw [bC e,bC (by omega)];rfl
      ·have hjo':Nat.beq (j%2) 1=false:=fH hjo;simp only[hjo',aQ];rw[bC (by omega)]
    ·have ho':Nat.beq (k%2) 1=false:=fH ho;simp only[ho',aQ,Tr.get];by_cases hj:j=0;·subst hj;simp;omega
     ·have hj':Nat.beq j 0=false:=fH hj;simp only[hj',aQ];by_cases hjo:j%2=1
      ·have hjo':Nat.beq (j%2) 1=true:=fY hjo;simp only[hjo',aH];rw[bC (by omega)]
      ·have hjo':Nat.beq (j%2) 1=false:=fH hjo;simp only[hjo',aQ];rw[ih _ _ _ _ (by omega)];by_cases e:j/2-1=k/2-1;·rw [bG e,bG (by omega)]
       ·rw [bC e,bC (by omega)];rfl
  | node v l r =>
   unfold Tr.setF;by_cases hk:k=0
   ·subst hk;by_cases hj:j=0;·subst hj;simp only[Tr.get,fY rfl,aH,if_true]
    ·rw [bC hj,fY rfl];simp only[aH,Tr.get,fH hj,aQ]
   ·have hk':Nat.beq k 0=false:=fH hk;simp only[hk',aQ];by_cases ho:k%2=1
    ·have ho':Nat.beq (k%2) 1=true:=fY ho;simp only[ho',aH,Tr.get];by_cases hj:j=0;·subst hj;simp;omega
     ·have hj':Nat.beq j 0=false:=fH hj;simp only[hj',aQ];by_cases hjo:j%2=1
      ·have hjo':Nat.beq (j%2) 1=true:=fY hjo;simp only[hjo',aH];rw[ih _ _ _ _ (by omega)];by_cases e:j/2=k/2;·rw [bG e,bG (by omega)]
       ·rw [bC e,bC (by omega)]
      ·have hjo':Nat.beq (j%2) 1=false:=fH hjo;simp only[hjo',aQ];rw[bC (by omega)]
    ·have ho':Nat.beq (k%2) 1=false:=fH ho;simp only[ho',aQ,Tr.get];by_cases hj:j=0;·subst hj;simp;omega
     ·have hj':Nat.beq j 0=false:=fH hj;simp only[hj',aQ];by_cases hjo:j%2=1
      ·have hjo':Nat.beq (j%2) 1=true:=fY hjo;simp only[hjo',aH];rw[bC (by omega)]
      ·have hjo':Nat.beq (j%2) 1=false:=fH hjo;simp only[hjo',aQ];rw[ih _ _ _ _ (by omega)];by_cases e:j/2-1=k/2-1;·rw [bG e,bG (by omega)]
       ·rw [bC e,bC (by omega)]
theorem fA {α:Type}(t:Tr α)(k:Nat)(x:α)(j:Nat):(t.set k x).get j=if j=k then some x else t.get j :=
 Tr.get_setF (k+1) t k x j (Nat.lt_succ_self k)
structure Fns where
 i:Nat→List Int→List (List Int)→Nat→Int
 a:Nat→List Int→List (List Int)→List Int
 p:Nat→List Int→List (List Int)→Prop
structure Num where
 i:Nat→Int
 a:Nat→List Int
 f:Fns
structure Env where
 blk:Nat→Option (Nat×Nat×Nat)
 val:Nat→Option Value
structure Env.le (E E':Env):Prop where
 blk:∀b q,E.blk b=some q→E'.blk b=some q
 val:∀j v,E.val j=some v→E'.val j=some v
theorem Env.le_refl (E:Env):E.le E:=⟨fun _ _ h=>h,fun _ _ h=>h⟩
theorem Env.le.trans {A B C:Env}(h:A.le B)(k:B.le C):A.le C:=⟨fun b q e=>k.blk b q (h.blk b q e),fun j v e=>k.val j v (h.val j v e)⟩
def Ar.ev (N:Num):Ar→Int
 | .var x=>N.i x
 | .kst n=>n
def bytesOf (l:List Int):List UInt8:=l.map fun v=>UInt8.ofNat v.toNat
def Nd.ev (N:Num):Nd→Int
 | .seq A B=>bif bytesOf (N.a A)==bytesOf (N.a B) then 1 else 0
 | .leq A B=>bif decide (N.a A=N.a B) then 1 else 0
 | .bin op k a b=>iop op k (a.ev N) (b.ev N)
 | .conv k a=>k.wrap (a.ev N)
 | .cmp op a b=>bif icmp op (a.ev N) (b.ev N) then 1 else 0
 | .addS a b c=>(((a.ev N).toNat+(b.ev N).toNat+(c.ev N).toNat)%18446744073709551616:Nat)
 | .addC a b c=>if 18446744073709551616≤(a.ev N).toNat+(b.ev N).toNat+(c.ev N).toNat then 1 else 0
 | .subS a b c=>(((a.ev N).toNat+18446744073709551616-(b.ev N).toNat-(c.ev N).toNat)%18446744073709551616:Nat)
 | .subC a b c=>if (a.ev N).toNat<(b.ev N).toNat+(c.ev N).toNat then 1 else 0
 | .lin a b c=>a.ev N+b.ev N*c
 | .mn a b=>if b.ev N<a.ev N then b.ev N else a.ev N
 | .rd A x=>(N.a A).getD (x.ev N).toNat 0
 | .sel l x=>(l.map (·.ev N)).getD (x.ev N).toNat 0
 | .len A=>(N.a A).length
 | .fn f is az j=>N.f.i f (is.map (·.ev N)) (az.map N.a) j
def Ad.ev (N:Num):Ad→List Int
 | .lit l=>l.map (·.ev N)
 | .set A x v=>(N.a A).set (x.ev N).toNat (v.ev N)
 | .sub A off n=>((N.a A).drop (off.ev N).toNat).take (n.ev N).toNat
 | .cat A B=>N.a A++N.a B
 | .rep n v=>List.replicate (n.ev N).toNat (v.ev N)
 | .cpy A off B=>(N.a A).take (off.ev N).toNat++N.a B++(N.a A).drop ((off.ev N).toNat+(N.a B).length)
 | .fn f is az=>N.f.a f (is.map (·.ev N)) (az.map N.a)
def Df.sat (N:Num):Df→Prop
 | .n x nd=>N.i x=nd.ev N
 | .a A ad=>N.a A=ad.ev N
def Ob.holds (N:Num):Ob→Prop
 | .le a b=>a.ev N≤b.ev N
 | .lt a b=>a.ev N<b.ev N
 | .eq a b=>a.ev N=b.ev N
 | .inA x A=>0≤x.ev N∧x.ev N<(N.a A).length
 | .lenA x A=>x.ev N=(N.a A).length
 | .fits off n A=>0≤off.ev N∧0≤n.ev N∧off.ev N+n.ev N≤(N.a A).length
 | .boo x t=>(!(N.i x==0))=t
 | .prd p is az=>N.f.p p (is.map (·.ev N)) (az.map N.a)
structure Hold (F:Fns) (N:Num) (σ:St):Prop where
 fns:N.f=F
 defs:∀d∈σ.defs,d.sat N
 obs:∀o∈σ.obs,o.holds N
 ins:∀x,x<σ.ni→0≤N.i x∧N.i x<18446744073709551616
structure Ext (σ σ':St):Prop where
 defs:∀d∈σ.defs,d∈σ'.defs
 obs:∀o∈σ.obs,o∈σ'.obs
 ni:σ'.ni=σ.ni
 gl:σ'.gl=σ.gl
 nv:σ.nv≤σ'.nv
theorem Ext.refl (σ:St):Ext σ σ:=⟨fun _ h=>h,fun _ h=>h,rfl,rfl,aS _⟩
theorem Ext.trans {a b c:St}(h:Ext a b)(k:Ext b c):Ext a c:=⟨fun d m=>k.defs d (h.defs d m),fun o m=>k.obs o (h.obs o m),k.ni.trans h.ni,k.gl.trans h.gl,Nat.le_trans h.nv k.nv⟩
theorem eT {F:Fns}{N:Num}{σ σ':St}(h:Ext σ σ')(k:Hold F N σ'):Hold F N σ:=⟨k.fns,fun d m=>k.defs d (h.defs d m),fun o m=>k.obs o (h.obs o m),fun x hx=>k.ins x (by rw[h.ni];exact hx)⟩
theorem Ext.mk1 (σ:St)(nd:Nd):Ext σ (σ.mk1 nd):=⟨fun _ h=>aJ _ h,fun _ h=>h,rfl,rfl,aS _⟩
theorem Ext.mkA (σ:St)(ad:Ad):Ext σ (σ.mkA ad):=⟨fun _ h=>aJ _ h,fun _ h=>h,rfl,rfl,aS _⟩
theorem Ext.ob (σ:St)(o:Ob):Ext σ (σ.ob o):=⟨fun _ h=>h,fun _ h=>aJ _ h,rfl,rfl,aS _⟩
theorem Hold.mk1 {F:Fns}{N:Num}{σ:St}{nd:Nd}(h:Hold F N (σ.mk1 nd)):N.i σ.nx=nd.ev N:=h.defs (.n σ.nx nd) aN
theorem Hold.mkA {F:Fns}{N:Num}{σ:St}{ad:Ad}(h:Hold F N (σ.mkA ad)):N.a σ.na=ad.ev N:=h.defs (.a σ.na ad) aN
theorem Hold.ob {F:Fns}{N:Num}{σ:St}{o:Ob}(h:Hold F N (σ.ob o)):o.holds N:=h.obs o aN
def denP (N:Num)(E:Env):List (Nat×Ar)→Option (List Value)
 | []=>some []
 | (b,off)::l=>(E.blk b).bind fun q=>if 0≤off.ev N then (denP N E l).map (.pointer (some ⟨q.1,q.2.1+(off.ev N).toNat,none⟩):: ·) else none
def Sc.den (N:Num)(E:Env):Sc→Option Value
 | .kst v=>bif cellOk v then some v else none
 | .num k x=>some (.int k (N.i x))
 | .boo x=>some (.bool (!(N.i x==0)))
 | .str A=>some (.string ⟨(bytesOf (N.a A)).toArray⟩)
 | .opq j=>match E.val j with
  | some v=>bif cellOk v then some v else none
  | none=>none
 | .ptr b off=>(E.blk b).bind fun q=>if 0≤off.ev N then some (.pointer (some ⟨q.1,q.2.1+(off.ev N).toNat,none⟩)) else none
 | .sl b off len cap=>(E.blk b).bind fun q =>
  match cap with
  | some c=>if 0≤off.ev N then some (.slice (some ⟨q.1,q.2.1+(off.ev N).toNat,none⟩) (len.ev N).toNat (c.ev N).toNat) else none
  | none=>if 0≤off.ev N∧(off.ev N).toNat+(len.ev N).toNat≤q.2.2 then some (.slice (some ⟨q.1,q.2.1+(off.ev N).toNat,none⟩) (len.ev N).toNat (q.2.2-(off.ev N).toNat)) else none
 | .emp j=>match E.val j with
  | some (.slice a 0 c)=>some (.slice a 0 c)
  | _=>none
 | .ifp t b off=>(E.blk b).bind fun q=>if 0≤off.ev N then some (.iface t (.pointer (some ⟨q.1,q.2.1+(off.ev N).toNat,none⟩))) else none
 | .clo f l=>(denP N E l).map fun vs=> .func (.func f) #[] vs.toArray
 | .nni j=>match E.val j with
  | some (.iface t v)=>some (.iface t v)
  | _=>none
def denL (N:Num)(E:Env):List Sc→Option (List Value)
 | []=>some []
 | x::l=>(x.den N E).bind fun v=>(denL N E l).map (v:: ·)
def V1.den (N:Num)(E:Env):V1→Option Value
 | .sc x=>x.den N E
 | .agg l=>(denL N E l).map fun vs=> .agg vs.toArray
def denL1 (N:Num)(E:Env):List V1→Option (List Value)
 | []=>some []
 | x::l=>(x.den N E).bind fun v=>(denL1 N E l).map (v:: ·)
def SV.den (N:Num)(E:Env):SV→Option Value
 | .one x=>x.den N E
 | .tup l=>(denL1 N E l).map fun vs=> .tuple vs.toArray
def denLV (N:Num)(E:Env):List SV→Option (List Value)
 | []=>some []
 | x::l=>(x.den N E).bind fun v=>(denLV N E l).map (v:: ·)
section
variable {N:Num}
theorem denP_mono {E E':Env}(h:E.le E'):∀ {l:List (Nat×Ar)} {vs:List Value},denP N E l=some vs→denP N E' l=some vs
 | [],_,e=>e
 | (b,off)::l,vs,e=>by
  simp only[denP,aL] at e ⊢;obtain ⟨q,hq,e⟩:=e;refine ⟨q,h.blk _ _ hq,?_⟩;by_cases h0:0≤off.ev N
  ·rw [bG h0] at e ⊢;simp only[aV] at e ⊢;obtain ⟨r,hr,e⟩:=e;exact ⟨r,denP_mono h hr,e⟩
  ·rw [bC h0] at e;cases e
theorem Sc.den_mono {E E':Env}(h:E.le E'){x:Sc}{v:Value}(e:x.den N E=some v):x.den N E'=some v:=by
 cases x with
 | kst u=>exact e
 | num k x=>exact e
 | boo x=>exact e
 | str A=>exact e
 | opq j =>
  simp only[Sc.den] at e ⊢;split at e;·rename_i u hu;rw[h.val _ _ hu];exact e
  ·cases e
 | ptr b off=>simp only[Sc.den,aL] at e ⊢;obtain ⟨n,hn,hv⟩:=e;exact ⟨n,h.blk _ _ hn,hv⟩
 | sl b off len cap=>simp only[Sc.den,aL] at e ⊢;obtain ⟨n,hn,hv⟩:=e;exact ⟨n,h.blk _ _ hn,hv⟩
 | emp j =>
  simp only[Sc.den] at e ⊢;split at e;·rename_i a c hu;rw[h.val _ _ hu];exact e
  ·cases e
 | ifp t b off=>simp only[Sc.den,aL] at e ⊢;obtain ⟨n,hn,hv⟩:=e;exact ⟨n,h.blk _ _ hn,hv⟩
 | clo f l=>simp only[Sc.den,aV] at e ⊢;obtain ⟨n,hn,hv⟩:=e;exact ⟨n,denP_mono h hn,hv⟩
 | nni j =>
  simp only[Sc.den] at e ⊢;split at e;·rename_i a c hu;rw[h.val _ _ hu];exact e
  ·cases e
theorem denL_cons {E:Env}{x:Sc}{l:List Sc}{vs:List Value}:denL N E (x::l)=some vs↔∃v r,x.den N E=some v∧denL N E l=some r∧vs=v::r:=by
 simp only[denL,aL,aV];constructor;·rintro ⟨v,hv,r,hr,rfl⟩;exact ⟨v,r,hv,hr,rfl⟩
 ·rintro ⟨v,r,hv,hr,rfl⟩;exact ⟨v,hv,r,hr,rfl⟩
theorem denL1_cons {E:Env}{x:V1}{l:List V1}{vs:List Value}:denL1 N E (x::l)=some vs↔∃v r,x.den N E=some v∧denL1 N E l=some r∧vs=v::r:=by
 simp only[denL1,aL,aV];constructor;·rintro ⟨v,hv,r,hr,rfl⟩;exact ⟨v,r,hv,hr,rfl⟩
 ·rintro ⟨v,r,hv,hr,rfl⟩;exact ⟨v,hv,r,hr,rfl⟩
theorem denLV_cons {E:Env}{x:SV}{l:List SV}{vs:List Value}:denLV N E (x::l)=some vs↔∃v r,x.den N E=some v∧denLV N E l=some r∧vs=v::r:=by
 simp only[denLV,aL,aV];constructor;·rintro ⟨v,hv,r,hr,rfl⟩;exact ⟨v,r,hv,hr,rfl⟩
 ·rintro ⟨v,r,hv,hr,rfl⟩;exact ⟨v,hv,r,hr,rfl⟩
theorem denL_mono {E E':Env}(h:E.le E'):∀ {l:List Sc} {vs:List Value},denL N E l=some vs→denL N E' l=some vs
 | [],_,e=>e
 | x::l,vs,e=>by obtain ⟨v,r,hv,hr,rfl⟩:=denL_cons.1 e;exact denL_cons.2 ⟨v,r,Sc.den_mono h hv,denL_mono h hr,rfl⟩
theorem V1.den_mono {E E':Env}(h:E.le E'){x:V1}{v:Value}(e:x.den N E=some v):x.den N E'=some v:=by
 cases x with
 | sc x=>exact Sc.den_mono h e
 | agg l=>simp only[V1.den,aV] at e ⊢;obtain ⟨n,hn,hv⟩:=e;exact ⟨n,denL_mono h hn,hv⟩
theorem denL1_mono {E E':Env}(h:E.le E'):∀ {l:List V1} {vs:List Value},denL1 N E l=some vs→denL1 N E' l=some vs
 | [],_,e=>e
 | x::l,vs,e=>by obtain ⟨v,r,hv,hr,rfl⟩:=denL1_cons.1 e;exact denL1_cons.2 ⟨v,r,V1.den_mono h hv,denL1_mono h hr,rfl⟩
theorem SV.den_mono {E E':Env}(h:E.le E'){x:SV}{v:Value}(e:x.den N E=some v):x.den N E'=some v:=by
 cases x with
 | one x=>exact V1.den_mono h e
 | tup l=>simp only[SV.den,aV] at e ⊢;obtain ⟨n,hn,hv⟩:=e;exact ⟨n,denL1_mono h hn,hv⟩
theorem denLV_mono {E E':Env}(h:E.le E'):∀ {l:List SV} {vs:List Value},denLV N E l=some vs→denLV N E' l=some vs
 | [],_,e=>e
 | x::l,vs,e=>by obtain ⟨v,r,hv,hr,rfl⟩:=denLV_cons.1 e;exact denLV_cons.2 ⟨v,r,SV.den_mono h hv,denLV_mono h hr,rfl⟩
theorem denL_length {E:Env}:∀ {l:List Sc} {vs:List Value},denL N E l=some vs→vs.length=l.length
 | [],_,e=>by simp only[denL,aA] at e;subst e;rfl
 | x::l,vs,e=>by obtain ⟨v,r,_,hr,rfl⟩:=denL_cons.1 e;simp[denL_length hr]
theorem kst_cell {v u:Value}(h:(bif cellOk v then some v else none)=some u):u=v∧cellOk v=true:=by
 cases hc:cellOk v with
 | true=>rw[hc] at h;simp only[aH,aA] at h;exact ⟨h.symm,rfl⟩
 | false=>rw[hc] at h;cases h
theorem ptr_den {E:Env}{b:Nat}{off:Ar}{u:Value}(h:(Sc.ptr b off).den N E=some u):∃q s c,E.blk b=some (q,s,c)∧0≤off.ev N∧u= .pointer (some ⟨q,s+(off.ev N).toNat,none⟩):=by
 simp only[Sc.den,aL] at h;obtain ⟨⟨q,s,c⟩,h1,h2⟩:=h;by_cases h0:0≤off.ev N;·rw [bG h0] at h2;simp only[aA] at h2;exact ⟨q,s,c,h1,h0,h2.symm⟩
 ·rw [bC h0] at h2;cases h2
def capOf (N:Num)(off:Ar)(cap:Option Ar)(c:Nat):Nat :=
 match cap with
 | some a=>(a.ev N).toNat
 | none=>c-(off.ev N).toNat
theorem gC {E:Env}{b:Nat}{off len:Ar}{cap:Option Ar}{u:Value}(h:(Sc.sl b off len cap).den N E=some u) :
 ∃q s c m,E.blk b=some (q,s,c)∧0≤off.ev N∧u= .slice (some ⟨q,s+(off.ev N).toNat,none⟩) (len.ev N).toNat m∧m=capOf N off cap c∧(cap=none→(off.ev N).toNat+(len.ev N).toNat≤c):=by
 simp only[Sc.den,aL] at h;obtain ⟨⟨q,s,c⟩,h1,h2⟩:=h;cases cap with
 | some a =>
  simp only at h2;by_cases h0:0≤off.ev N;·rw [bG h0] at h2;simp only[aA] at h2;exact ⟨q,s,c,_,h1,h0,h2.symm,rfl,fun e=>by cases e⟩
  ·rw [bC h0] at h2;cases h2
 | none =>
  simp only at h2;by_cases h0:0≤off.ev N∧(off.ev N).toNat+(len.ev N).toNat≤c;·rw [bG h0] at h2;simp only[aA] at h2;exact ⟨q,s,c,_,h1,h0.1,h2.symm,rfl,fun _=>h0.2⟩
  ·rw [bC h0] at h2;cases h2
theorem ptr_mk {E:Env}{b q s c:Nat}{off:Ar}(h:E.blk b=some (q,s,c))(h0:0≤off.ev N):(Sc.ptr b off).den N E=some (.pointer (some ⟨q,s+(off.ev N).toNat,none⟩)):=by
 simp only[Sc.den,h,dY];rw[bG h0]
theorem sl_mk {E:Env}{b q s c:Nat}{off len:Ar}{cap:Option Ar}(h:E.blk b=some (q,s,c))(h0:0≤off.ev N)(h1:cap=none→(off.ev N).toNat+(len.ev N).toNat≤c) :
 (Sc.sl b off len cap).den N E=some (.slice (some ⟨q,s+(off.ev N).toNat,none⟩) (len.ev N).toNat (capOf N off cap c)):=by
 simp only[Sc.den,h,dY,capOf];cases cap with
 | some a=>simp only;rw[bG h0]
 | none=>simp only;rw[bG ⟨h0,h1 rfl⟩]
theorem Sc.den_cellOk {E:Env}{x:Sc}{v:Value}(e:x.den N E=some v):cellOk v=true:=by
 cases x with
 | kst u=>obtain ⟨rfl,h⟩:=kst_cell e;exact h
 | num k x=>simp only[Sc.den,aA] at e;subst e;rfl
 | boo x=>simp only[Sc.den,aA] at e;subst e;rfl
 | str A=>simp only[Sc.den,aA] at e;subst e;rfl
 | opq j =>
  simp only[Sc.den] at e;split at e;·obtain ⟨rfl,h⟩:=kst_cell e;exact h
  ·cases e
 | ptr b off=>obtain ⟨q,s,c,_,_,rfl⟩:=ptr_den e;rfl
 | sl b off len cap=>obtain ⟨q,s,c,m,_,_,rfl,_⟩:=gC e;rfl
 | emp j =>
  simp only[Sc.den] at e;split at e;·simp only[aA] at e;subst e;rfl
  ·cases e
 | nni j =>
  simp only[Sc.den] at e;split at e;·simp only[aA] at e;subst e;rfl
  ·cases e
 | ifp t b off =>
  simp only[Sc.den,aL] at e;obtain ⟨q,_,e⟩:=e;split at e;·simp only[aA] at e;subst e;rfl
  ·cases e
 | clo f l =>simp only[Sc.den,aV] at e;obtain ⟨vs,_,rfl⟩:=e;rfl
theorem cells_of_cellOk {v:Value}(h:cellOk v=true):v.cells= #[v]:=by cases v <;> first | rfl | cases h
theorem V1.den_cells {E:Env}{x:V1}{v:Value}(e:x.den N E=some v):denL N E x.cells=some v.cells.toList:=by
 cases x with
 | sc x =>rw[cells_of_cellOk (Sc.den_cellOk e)];exact denL_cons.2 ⟨v,[],e,rfl,rfl⟩
 | agg l =>simp only[V1.den,aV] at e;obtain ⟨vs,hvs,rfl⟩:=e;simpa [V1.cells,Value.cells] using hvs
structure RA (N:Num) (E:Env) (n:Nat) (T:Tr SV) (a:Act):Prop where
 size:a.tmps.size=n
 defers:a.defers=[]
 at':∀t sv,T.get (2*t)=some sv→t<n∧∃u,a.tmps[t]? =some u∧sv.den N E=some u
 gl:∀g sv,T.get (2*g+1)=some sv→sv.den N E=some (.pointer (some ⟨g,0,none⟩))
theorem RA.mono {E E':Env}(h:E.le E'){n:Nat}{T:Tr SV}{a:Act}(r:RA N E n T a):RA N E' n T a :=
 ⟨r.size,r.defers,fun t sv e=>let ⟨h1,u,h2,h3⟩:=r.at' t sv e;⟨h1,u,h2,SV.den_mono h h3⟩,fun g sv e=>SV.den_mono h (r.gl g sv e)⟩
theorem RA.put {E:Env}{n:Nat}{T T':Tr SV}{a:Act}(r:RA N E n T a){dst:Option Tmp}{v:Option SV}(h:put n T dst v=some T'){u:Value}
 (hu:∀sv,v=some sv→sv.den N E=some u):RA N E n T' (a.put dst u):=by
 cases dst with
 | none=>simp only[Sy.put,aA] at h;subst h;exact r
 | some d =>
  cases v with
  | none=>cases h
  | some sv =>
   simp only[Sy.put] at h;cases hb:Nat.blt d n with
   | false=>rw[hb] at h;cases h
   | true =>
    rw[hb] at h;simp only[aH,aA] at h;subst h;have hd:d<n:=bX.mp hb;refine ⟨by simp[Act.put,r.size],r.defers,fun t sv' e=> ?_,fun g sv' e=>r.gl g sv' (by rw[fA,bC (by omega)] at e;exact e)⟩;rw[fA] at e;by_cases ht:t=d
    ·subst ht;rw[bG rfl] at e;simp only[aA] at e;subst e;exact ⟨hd,u,by simp[Act.put,r.size,hd],hu sv rfl⟩
    ·rw [bC (by omega)] at e;obtain ⟨h1,u',h2,h3⟩:=r.at' t sv' e;exact ⟨h1,u',by simp only[Act.put];rw[cU (Ne.symm ht)];exact h2,h3⟩
theorem ofCells_den {E:Env}:∀ {vs:List Value} {l:List Sc},ofCells vs=some l→denL N E l=some vs
 | [],l,h=>by simp only[ofCells,aA] at h;subst h;rfl
 | v::vs,l,h=>by
  simp only[ofCells] at h;cases hc:cellOk v with
  | false=>rw[hc] at h;cases h
  | true =>rw[hc] at h;simp only[aH,aV] at h;obtain ⟨r,hr,rfl⟩:=h;exact denL_cons.2 ⟨v,vs,by simp[Sc.den,hc],ofCells_den hr,rfl⟩
theorem ofConst_den {E:Env}{v:Value}{sv:SV}(h:ofConst v=some sv):sv.den N E=some v:=by
 cases v with
 | agg cs =>simp only[ofConst,aV] at h;obtain ⟨l,hl,rfl⟩:=h;simp[SV.den,V1.den,ofCells_den hl]
 | tuple _=>cases h
 | _=>simp only[ofConst,aA] at h;subst h;rfl
theorem eW {E:Env}{n:Nat}{T:Tr SV}{a:Act}(r:RA N E n T a){x:Operand}{sv:SV}(h:evalO T x=some sv):sv.den N E=some (a.eval x):=by
 cases x with
 | tmp t =>obtain ⟨_,u,h2,h3⟩:=r.at' t sv h;rw[h3];simp[Act.eval,h2]
 | const v=>exact ofConst_den h
 | global g =>
  simp only[evalO] at h;split at h
  ·rename_i v hv;simp only[aA] at h;subst h;exact r.gl g _ hv
  ·simp only[aA] at h;subst h;rfl
 | func f=>simp only[evalO,aA] at h;subst h;rfl
def Bk.wid (N:Num)(B:Bk)(c:Nat):Nat :=
 match B.arr with
 | none=>B.n
 | some (_,A,g)=>bif g then Nat.max c (N.a A).length else (N.a A).length
def Bk.cont (N:Num)(E:Env)(B:Bk)(s c:Nat)(arr:Array Value):Prop :=
 match B.arr with
 | none=>∀j sc,B.cells.get j=some sc→j<B.n∧∃u,arr[s+j]? =some u∧sc.den N E=some u
 | some (k,A,g)=>(∀ j v,(N.a A)[j]? =some v→arr[s+j]? =some (.int k v))∧(g=true→∀j,(N.a A).length≤j→j<c→arr[s+j]? =some (.int k 0))
structure BW (N:Num) (E:Env) (bks:Tr Bk) (w:World):Prop where
 at':∀i B,bks.get i=some B→∃q s c arr el fz,E.blk i=some (q,s,c)∧w.heap[q]? =some (.cells arr el fz)∧(B.rw=true→fz=(0,0))∧s+B.wid N c≤arr.size∧B.cont N E s c arr
 apart:∀i i' B B' q s s' c c',bks.get i=some B→bks.get i'=some B'→i≠i'→E.blk i=some (q,s,c)→E.blk i'=some (q,s',c')→(B.rw=true∨B'.rw=true)→s+B.wid N c≤s'∨s'+B'.wid N c'≤s
structure Inv (E:Env) (σ:St):Prop where
 freshB:∀b,σ.nb≤b→E.blk b=none
 freshV:∀j,σ.nv≤j→E.val j=none
 glob:∀t sv,σ.gl.get t=some sv→t%2=1∧∃b c,sv= .one (.sc (.ptr b (.kst 0)))∧E.blk b=some (t/2,0,c)
structure Kept (N:Num) (E:Env) (bks:Tr Bk) (w w':World):Prop where
 os:w'.os=w.os
 tape:w'.tape=w.tape
 output:w'.output=w.output
 size:w.heap.size≤w'.heap.size
 block:∀q,q<w.heap.size→(∀ i B s c,bks.get i=some B→B.rw=true→E.blk i=some (q,s,c)→False)→w'.heap[q]? =w.heap[q]?
 part:∀q arr el fz,w.heap[q]? =some (.cells arr el fz)→∃arr',w'.heap[q]? =some (.cells arr' el fz)∧arr'.size=arr.size ∧
  ∀k,(∀ i B s c,bks.get i=some B→B.rw=true→E.blk i=some (q,s,c)→k<s∨s+B.wid N c≤k)→arr'[k]? =arr[k]?
theorem Kept.refl (E:Env)(bks:Tr Bk)(w:World):Kept N E bks w w :=
 ⟨rfl,rfl,rfl,aS _,fun _ _ _=>rfl,fun _ arr _ _ h=>⟨arr,h,rfl,fun _ _=>rfl⟩⟩
structure Post (N:Num) (E:Env) (σ:St) (w:World) (N':Num) (E':Env) (σ':St) (w':World):Prop where
 inv:Inv E' σ'
 le:E.le E'
 bw:BW N' E' σ'.bks w'
 kept:Kept N E σ.bks w w'
 win:∀i B' q s c,σ'.bks.get i=some B'→B'.rw=true→E'.blk i=some (q,s,c)→q<w.heap.size →
  ∃i0 B s0 c0,σ.bks.get i0=some B∧B.rw=true∧E.blk i0=some (q,s0,c0)∧s0≤s∧s+B'.wid N' c≤s0+B.wid N c0
theorem Post.refl {E:Env}{σ:St}{w:World}(hI:Inv E σ)(hb:BW N E σ.bks w):Post N E σ w N E σ w :=
 ⟨hI,E.le_refl,hb,Kept.refl _ _ _,fun i B' _ s c h1 h2 h3 _=>⟨i,B',s,c,h1,h2,h3,aS _,aS _⟩⟩
theorem Post.trans {N1 N2:Num}{E E1 E2:Env}{σ σ1 σ2:St}{w w1 w2:World}(p:Post N E σ w N1 E1 σ1 w1)(p':Post N1 E1 σ1 w1 N2 E2 σ2 w2) :
 Post N E σ w N2 E2 σ2 w2:=by
 have hwin:∀q,(∀ i B s c,σ.bks.get i=some B→B.rw=true→E.blk i=some (q,s,c)→False)→q<w.heap.size →
  ∀i B s c,σ1.bks.get i=some B→B.rw=true→E1.blk i=some (q,s,c)→False:=fun q h hq i B' s c h1 h2 h3=>by
  obtain ⟨i0,B,s0,c0,h4,h5,h6,_⟩:=p.win i B' q s c h1 h2 h3 hq;exact h i0 B s0 c0 h4 h5 h6
 refine ⟨p'.inv,p.le.trans p'.le,p'.bw,⟨p'.kept.os.trans p.kept.os,p'.kept.tape.trans p.kept.tape,p'.kept.output.trans p.kept.output,
  Nat.le_trans p.kept.size p'.kept.size,fun q hq h=> ?_,fun q arr el fz hq=> ?_⟩,?_⟩
 ·rw [p'.kept.block q (dN hq p.kept.size) (hwin q h hq),p.kept.block q hq h]
 ·obtain ⟨arr1,h1,h2,h3⟩:=p.kept.part q arr el fz hq;obtain ⟨arr2,h4,h5,h6⟩:=p'.kept.part q arr1 el fz h1;have hlt:q<w.heap.size:=by
   rcases bL q w.heap.size with h | h
   ·exact h
   ·rw [cQ h] at hq;cases hq
  refine ⟨arr2,h4,h5.trans h2,fun k hk=> ?_⟩;rw[h6 k (fun i B' s c e1 e2 e3=> ?_),h3 k hk];obtain ⟨i0,B,s0,c0,e4,e5,e6,e7,e8⟩:=p.win i B' q s c e1 e2 e3 hlt;have:=hk i0 B s0 c0 e4 e5 e6;omega
 ·intro i B' q s c h1 h2 h3 h4;obtain ⟨i1,B1,s1,c1,h5,h6,h7,h8,h9⟩:=p'.win i B' q s c h1 h2 h3 (dN h4 p.kept.size);obtain ⟨i0,B,s0,c0,h10,h11,h12,h13,h14⟩:=p.win i1 B1 q s1 c1 h5 h6 h7 h4;exact ⟨i0,B,s0,c0,h10,h11,h12,by omega,by omega⟩
theorem Bk.cont_mono {E E':Env}(h:E.le E'){B:Bk}{s c:Nat}{arr:Array Value}(hc:B.cont N E s c arr):B.cont N E' s c arr:=by
 unfold Bk.cont at *;cases hB:B.arr with
 | none=>rw[hB] at hc;exact fun j sc e=>let ⟨g1,u,g2,g3⟩:=hc j sc e;⟨g1,u,g2,Sc.den_mono h g3⟩
 | some x=>rw[hB] at hc;exact hc
theorem BW.mono {E E':Env}(h:E.le E'){bks:Tr Bk}{w:World}(hI:BW N E bks w):BW N E' bks w:=by
 refine ⟨fun i B hB=> ?_,fun i i' B B' q s s' c c' h1 h2 h3 h4 h5 h6=> ?_⟩
 ·obtain ⟨q,s,c,arr,el,fz,h1,h2,h3,h4,h5⟩:=hI.at' i B hB;exact ⟨q,s,c,arr,el,fz,h.blk _ _ h1,h2,h3,h4,Bk.cont_mono h h5⟩
 ·obtain ⟨q1,s1,c1,_,_,_,g1,_⟩:=hI.at' i B h1;obtain ⟨q2,s2,c2,_,_,_,g2,_⟩:=hI.at' i' B' h2;have e1:=h.blk _ _ g1;have e2:=h.blk _ _ g2;rw[h4] at e1;rw[h5] at e2;simp only[aA,aD] at e1 e2;obtain ⟨rfl,rfl,rfl⟩:=e1;obtain ⟨rfl,rfl,rfl⟩:=e2;exact hI.apart i i' B B' _ _ _ _ _ h1 h2 h3 g1 g2 h6
end
section
variable {F:Fns} {N:Num} {E:Env}
theorem gV {x:Sc}{k:IntKind}{a:Ar}{u:Value}(h:x.ar=some (k,a))(hd:x.den N E=some u):u= .int k (a.ev N):=by
 cases x with
 | kst v =>cases v <;> simp only[Sc.ar,reduceCtorEq] at h;rename_i k' n;simp only[aA,aD] at h;obtain ⟨rfl,rfl⟩:=h;simp only[Sc.den,cellOk,aH,aA] at hd;exact hd.symm
 | num k' x =>simp only[Sc.ar,aA,aD] at h;obtain ⟨rfl,rfl⟩:=h;simp only[Sc.den,aA] at hd;exact hd.symm
 | boo x=>cases h
 | str A=>cases h
 | opq j=>cases h
 | ptr b off=>cases h
 | sl b off len cap=>cases h
 | emp j=>cases h
 | nni j=>cases h
 | ifp t b off=>cases h
 | clo f l=>cases h
theorem fT {a b:IntKind}(h:kindB a b=true):a=b:=by cases a <;> cases b <;> first | rfl | cases h
structure Pur (σ σ':St):Prop where
 ext:Ext σ σ'
 bks:σ'.bks=σ.bks
 nb:σ'.nb=σ.nb
 nv:σ'.nv=σ.nv
theorem Pur.refl (σ:St):Pur σ σ:=⟨Ext.refl σ,rfl,rfl,rfl⟩
theorem Pur.trans {a b c:St}(h:Pur a b)(k:Pur b c):Pur a c:=⟨h.ext.trans k.ext,k.bks.trans h.bks,k.nb.trans h.nb,k.nv.trans h.nv⟩
theorem Pur.mk1 (σ:St)(nd:Nd):Pur σ (σ.mk1 nd):=⟨Ext.mk1 σ nd,rfl,rfl,rfl⟩
theorem Pur.ob (σ:St)(o:Ob):Pur σ (σ.ob o):=⟨Ext.ob σ o,rfl,rfl,rfl⟩
theorem fC {σ σ':St}{a b:Ar}(h:σ.le a b=some σ'):Pur σ σ':=by
 cases a <;> cases b <;> simp only[St.le] at h
 case kst.kst n m =>
  cases hd:decide (n≤m) with
  | false=>rw[hd] at h;cases h
  | true=>rw[hd] at h;simp only[aH,aA] at h;subst h;exact Pur.refl _
 all_goals (simp only[aA] at h;subst h;exact Pur.ob _ _)
theorem fO {σ σ':St}{a b:Ar}(h:σ.le a b=some σ')(hH:Hold F N σ'):a.ev N≤b.ev N:=by
 cases a <;> cases b <;> simp only[St.le] at h
 case kst.kst n m =>
  cases hd:decide (n≤m) with
  | false=>rw[hd] at h;cases h
  | true=>exact cM hd
 all_goals (simp only[aA] at h;subst h;exact hH.ob)
theorem lt_pur {σ σ':St}{a b:Ar}(h:σ.lt a b=some σ'):Pur σ σ':=by
 cases a <;> cases b <;> simp only[St.lt] at h
 case kst.kst n m =>
  cases hd:decide (n<m) with
  | false=>rw[hd] at h;cases h
  | true=>rw[hd] at h;simp only[aH,aA] at h;subst h;exact Pur.refl _
 all_goals (simp only[aA] at h;subst h;exact Pur.ob _ _)
theorem lt_holds {σ σ':St}{a b:Ar}(h:σ.lt a b=some σ')(hH:Hold F N σ'):a.ev N<b.ev N:=by
 cases a <;> cases b <;> simp only[St.lt] at h
 case kst.kst n m =>
  cases hd:decide (n<m) with
  | false=>rw[hd] at h;cases h
  | true=>exact cM hd
 all_goals (simp only[aA] at h;subst h;exact hH.ob)
theorem eq_pur {σ σ':St}{a b:Ar}(h:σ.eq a b=some σ'):Pur σ σ':=by
 cases a <;> cases b <;> simp only[St.eq] at h
 case kst.kst n m =>
  cases hd:decide (n=m) with
  | false=>rw[hd] at h;cases h
  | true=>rw[hd] at h;simp only[aH,aA] at h;subst h;exact Pur.refl _
 all_goals (simp only[aA] at h;subst h;exact Pur.ob _ _)
theorem eq_holds {σ σ':St}{a b:Ar}(h:σ.eq a b=some σ')(hH:Hold F N σ'):a.ev N=b.ev N:=by
 cases a <;> cases b <;> simp only[St.eq] at h
 case kst.kst n m =>
  cases hd:decide (n=m) with
  | false=>rw[hd] at h;cases h
  | true=>exact cM hd
 all_goals (simp only[aA] at h;subst h;exact hH.ob)
theorem lin_pur {σ:St}{a b:Ar}{c:Int}:Pur σ (lin a b c σ).2:=by
 cases a with
 | kst n=>cases b with
  | kst m=>exact Pur.refl _
  | var y=>exact Pur.mk1 _ _
 | var x=>cases b with
  | kst m =>
   simp only[lin];cases (m==0) with
   | true=>exact Pur.refl _
   | false=>exact Pur.mk1 _ _
  | var y=>exact Pur.mk1 _ _
theorem lin_ev {σ:St}{a b:Ar}{c:Int}(hH:Hold F N (lin a b c σ).2):(lin a b c σ).1.ev N=a.ev N+b.ev N*c:=by
 cases a with
 | kst n =>
  cases b with
  | kst m=>rfl
  | var y=>exact hH.mk1
 | var x =>
  cases b with
  | kst m =>
   simp only[lin] at hH ⊢;cases hz:(m==0) with
   | true =>
    have:m=0:=by simpa using hz
    subst this;simp[Ar.ev]
   | false =>rw[hz] at hH;exact hH.mk1
  | var y=>exact hH.mk1
theorem beq_ff_iff {y:Int}:(y==0)=false→y≠0:=by intro h e;subst e;cases h
theorem iop_run {P:Program}{op:BinOp}{k:IntKind}{a:Int}{b:Ar}(h:symOk op b=true)(hs:notShift op=true)(t:TypeId)(w:World) :
 (binOp op t (.int k a) (.int k (b.ev N))).run P w= .ok (.int k (iop op k a (b.ev N))) w:=by
 cases op <;> simp only[symOk,notShift,bV] at h hs
 case add=>simp[binOp,Op.intArith,iop]
 case sub=>simp[binOp,Op.intArith,iop]
 case mul=>simp[binOp,Op.intArith,iop]
 case and=>simp[binOp,Op.intBits,iop]
 case or=>simp[binOp,Op.intBits,iop]
 case xor=>simp[binOp,Op.intBits,iop]
 case andNot=>simp[binOp,Op.intBits,iop]
 case quo=>cases b with
  | var _=>cases h
  | kst n =>
   have:(n==0)=false:=by simpa using h
   simp[binOp,Op.intDiv,beq_ff_iff this,Ar.ev,iop]
 case rem=>cases b with
  | var _=>cases h
  | kst n =>
   have:(n==0)=false:=by simpa using h
   simp[binOp,Op.intDiv,beq_ff_iff this,Ar.ev,iop]
theorem iop_run_shift {P:Program}{op:BinOp}{k yk:IntKind}{a:Int}{b:Ar}(h:symOk op b=true)(hs:notShift op=false)(t:TypeId)(w:World) :
 (binOp op t (.int k a) (.int yk (b.ev N))).run P w= .ok (.int k (iop op k a (b.ev N))) w:=by
 cases op <;> simp only[notShift,reduceCtorEq] at hs
 all_goals
  cases b with
  | var _=>cases h
  | kst n =>
   have h':decide (n<0)=false:=by simpa [symOk] using h
   have:¬n<0:=by simpa using h'
   simp[binOp,Op.shift,this,Ar.ev,iop]
theorem icmp_run {P:Program}{op:BinOp}{k:IntKind}{a b:Int}(h:cmpOk op=true)(t:TypeId)(w:World) :
 (binOp op t (.int k a) (.int k b)).run P w= .ok (.bool (icmp op a b)) w:=by
 cases op <;> simp only[cmpOk,bV] at h <;> simp[binOp,Op.intCmp,icmp]
theorem Pur.mkA (σ:St)(ad:Ad):Pur σ (σ.mkA ad):=⟨Ext.mkA σ ad,rfl,rfl,rfl⟩
theorem shVar_run {P:Program}{op:BinOp}{k yk:IntKind}{a:Int}{b:Ar}(h:shVar op b=true)(h0:0≤b.ev N)(t:TypeId)(w:World) :
 (binOp op t (.int k a) (.int yk (b.ev N))).run P w= .ok (.int k (iop op k a (b.ev N))) w:=by
 have:¬b.ev N<0:=by omega
 cases op <;> cases b <;> simp only[shVar,bV] at h <;> simp[binOp,Op.shift,this,iop]
theorem binI_pur {σ σ':St}{op:BinOp}{k:IntKind}{a b:Ar}{v:Sc}(h:binI op k a b σ=some (v,σ')):Pur σ σ':=by
 unfold binI at h;cases hs:symOk op b with
 | false =>
  rw[hs] at h;cases hv:shVar op b with
  | false=>rw[hv] at h;cases h
  | true =>rw[hv] at h;simp only[aQ,aH,aA,aD] at h;rw[←h.2];exact (Pur.ob _ _).trans (Pur.mk1 _ _)
 | true =>
  rw[hs] at h;simp only[aH] at h;split at h;·simp only[aA,aD] at h;rw[←h.2];exact Pur.refl _
  ·simp only[aA,aD] at h;rw[←h.2];exact Pur.mk1 _ _
theorem binI_sound {σ σ':St}{op:BinOp}{k:IntKind}{a b:Ar}{v:Sc}(h:binI op k a b σ=some (v,σ'))(hH:Hold F N σ') :
 (symOk op b=true∨(shVar op b=true∧0≤b.ev N))∧v.den N E=some (.int k (iop op k (a.ev N) (b.ev N))):=by
 unfold binI at h;cases hs:symOk op b with
 | false =>
  rw[hs] at h;cases hv:shVar op b with
  | false=>rw[hv] at h;cases h
  | true =>rw[hv] at h;simp only[aQ,aH,aA,aD] at h;obtain ⟨rfl,rfl⟩:=h;have h0:(Ob.le (.kst 0) b).holds N:=(eT (Ext.mk1 _ _) hH).ob;have e:N.i σ.nx=(Nd.bin op k a b).ev N:=hH.mk1;exact ⟨.inr ⟨rfl,h0⟩,by simp only[Sc.den,e,Nd.ev]⟩
 | true =>
  rw[hs] at h;simp only[aH] at h;refine ⟨.inl rfl,?_⟩;split at h;·simp only[aA,aD] at h;rw[←h.1];rfl
  ·simp only[aA,aD] at h;obtain ⟨rfl,rfl⟩:=h;simp only[Sc.den,hH.mk1,Nd.ev]
theorem cmpI_pur {σ:St}{op:BinOp}{a b:Ar}:Pur σ (cmpI op a b σ).2:=by
 unfold cmpI
 split
 ·exact Pur.refl _
 ·exact Pur.mk1 _ _
theorem cmpI_sound {σ:St}{op:BinOp}{a b:Ar}(hH:Hold F N (cmpI op a b σ).2):(cmpI op a b σ).1.den N E=some (.bool (icmp op (a.ev N) (b.ev N))):=by
 have sym:∀ {a b:Ar},Hold F N (σ.mk1 (.cmp op a b))→(Sc.boo σ.nx).den N E=some (.bool (icmp op (a.ev N) (b.ev N))):=fun {a b} hH=>by simp only[Sc.den,hH.mk1,Nd.ev];cases icmp op (a.ev N) (b.ev N) <;> rfl
 cases a <;> cases b
 case kst.kst=>rfl
 all_goals exact sym hH
theorem run_equalIn_bool {P:Program}{t:TypeId}(ht:P.underlying t=some .bool)(d:Nat)(a b:Bool)(w:World):(Op.equalIn (d+1) t (.bool a) (.bool b)).run P w= .ok (a==b) w:=by
 simp[Op.equalIn,run_underlying ht]
theorem run_equal_bool {P:Program}{t:TypeId}(ht:P.underlying t=some .bool)(a b:Bool)(w:World):(Op.equal t (.bool a) (.bool b)).run P w= .ok (a==b) w :=
 run_equalIn_bool ht 9999 a b w
theorem eqGuard_int {P:Program}(op:BinOp)(t:TypeId)(xo yo:Operand)(k:IntKind)(n:Int)(v:Value)(w:World)(r:Value)(h:(binOp op t (.int k n) v).run P w= .ok r w) :
 ((do eqGuard op t xo yo (.int k n) v;binOp op t (.int k n) v:Sem Value)).run P w= .ok r w:=by
 rw[eqGuard_at_int];exact h
theorem doBin_pur {σ σ':St}{op:BinOp}{xt:TypeId}{x y v:Sc}{P:Program}(h:doBin P op xt x y σ=some (v,σ')):Pur σ σ':=by
 unfold doBin at h;split at h
 ·cases hs:notShift op with
  | false=>rw[hs] at h;exact binI_pur h
  | true =>
   rw[hs] at h;rename_i k _ k' _ _ _;cases hk:kindB k k' with
   | false=>rw[hk] at h;cases h
   | true =>
    rw[hk] at h;cases hc:cmpOk op with
    | false=>rw[hc] at h;exact binI_pur h
    | true =>rw[hc] at h;simp only[aH,aA] at h;have e:_=σ':=congrArg Prod.snd h;rw[←e];exact cmpI_pur
 ·split at h
  ·unfold boolI at h;split at h <;> first | (simp only[aA,aD] at h;rw[←h.2];exact Pur.refl _) | cases h
  ·cases h
theorem doBin_sound {σ σ':St}{op:BinOp}{xt:TypeId}{x y v:Sc}{u u':Value}{P:Program}(h:doBin P op xt x y σ=some (v,σ'))(hx:x.den N E=some u)(hy:y.den N E=some u')
 (hH:Hold F N σ'):∃r,v.den N E=some r∧∀xo yo w,((do eqGuard op xt xo yo u u';binOp op xt u u':Sem Value)).run P w= .ok r w:=by
 unfold doBin at h;split at h
 ·rename_i k a k' b hxa hya;have e1:=gV hxa hx;have e2:=gV hya hy;subst e1;subst e2;cases hs:notShift op with
  | false =>
   rw[hs] at h;obtain ⟨h1,h2⟩:=binI_sound (E:=E) h hH;exact ⟨_,h2,fun xo yo w=>eqGuard_int _ _ _ _ _ _ _ _ _ (by
    rcases h1 with h1 | ⟨h1,h0⟩
    ·exact iop_run_shift h1 hs xt w
    ·exact shVar_run h1 h0 xt w)⟩
  | true =>
   rw[hs] at h;cases hk:kindB k k' with
   | false=>rw[hk] at h;cases h
   | true =>
    have:=fT hk;subst this;rw[hk] at h;cases hc:cmpOk op with
    | false =>
     rw[hc] at h;obtain ⟨h1,h2⟩:=binI_sound (E:=E) h hH;exact ⟨_,h2,fun xo yo w=>eqGuard_int _ _ _ _ _ _ _ _ _ (by
      rcases h1 with h1 | ⟨h1,h0⟩
      ·exact iop_run h1 hs xt w
      ·exact shVar_run h1 h0 xt w)⟩
    | true =>
     rw[hc] at h;simp only[aH,aA] at h;have hH':Hold F N (cmpI op a b σ).2:=by rw[h];exact hH
     have:=cmpI_sound (E:=E) hH';rw[h] at this;exact ⟨_,this,fun xo yo w=>eqGuard_int _ _ _ _ _ _ _ _ _ (icmp_run hc xt w)⟩
 ·split at h
  ·rename_i a b ht _;simp only[Sc.den,cellOk,aH,aA] at hx hy;subst hx;subst hy;cases op <;> simp only[boolI,reduceCtorEq,aA,aD] at h
   ·obtain ⟨rfl,rfl⟩:=h;exact ⟨_,rfl,fun xo yo w=>by rw[eqGuard_at_bool];simp[binOp,run_equal_bool ht]⟩
   ·obtain ⟨rfl,rfl⟩:=h;exact ⟨_,rfl,fun xo yo w=>by rw[eqGuard_at_bool];simp[binOp,run_equal_bool ht]⟩
  ·cases h
theorem doUn_pur {σ σ':St}{op:UnOp}{x v:Sc}(h:doUn op x σ=some (v,σ')):Pur σ σ':=by
 unfold doUn at h;split at h;·simp only[aA,aD] at h;rw[←h.2];exact Pur.refl _
 ·simp only[aA,aD] at h;rw[←h.2];exact Pur.mk1 _ _
 ·split at h;·exact binI_pur h
  ·cases h
 ·split at h;·exact binI_pur h
  ·cases h
 ·cases h
theorem doUn_sound {σ σ':St}{op:UnOp}{x v:Sc}{u:Value}(P:Program)(h:doUn op x σ=some (v,σ'))(hx:x.den N E=some u)
 (hH:Hold F N σ'):∃r,v.den N E=some r∧∀w,(Op.unary op u).run P w= .ok r w:=by
 unfold doUn at h;split at h
 ·rename_i b;simp only[Sc.den,cellOk,aH,aA] at hx;subst hx;simp only[aA,aD] at h;obtain ⟨rfl,rfl⟩:=h;exact ⟨_,rfl,fun w=>by simp[Op.unary]⟩
 ·rename_i x;simp only[Sc.den,aA] at hx;subst hx;simp only[aA,aD] at h;obtain ⟨rfl,rfl⟩:=h;refine ⟨_,rfl,fun w=> ?_⟩;simp only[Op.unary,bY,hH.mk1,Nd.ev,icmp,Ar.ev];cases N.i x==0 <;> rfl
 ·split at h
  ·rename_i k a hxa;have e:=gV hxa hx;subst e;exact ⟨_,(binI_sound h hH).2,fun w=>rfl⟩
  ·cases h
 ·split at h
  ·rename_i k a hxa;have e:=gV hxa hx;subst e;exact ⟨_,(binI_sound h hH).2,fun w=>rfl⟩
  ·cases h
 ·cases h
theorem doConv_pur {σ σ':St}{k:IntKind}{x v:Sc}(h:doConv k x σ=some (v,σ')):Pur σ σ':=by
 unfold doConv at h;split at h;·simp only[aA,aD] at h;rw[←h.2];exact Pur.refl _
 ·simp only[aA,aD] at h;rw[←h.2];exact Pur.mk1 _ _
 ·cases h
theorem doConv_sound {σ σ':St}{k:IntKind}{x v:Sc}{u:Value}{P:Program}(h:doConv k x σ=some (v,σ'))(hx:x.den N E=some u)
 {s d:TypeId} {td:TypeDesc} (hs:P.underlying s=some td) (hd:P.underlying d=some (.int k))
 (hH:Hold F N σ'):∃r,v.den N E=some r∧∀w,(convert s d u).run P w= .ok r w:=by
 have run:∀(k':IntKind) (n:Int) (w:World),(convert s d (.int k' n)).run P w= .ok (.int k (k.wrap n)) w:=fun k' n w=>by simp[convert,run_underlying hs,run_underlying hd,Conv.intToInt]
 unfold doConv at h;split at h
 ·rename_i k' n hxa;have e:=gV hxa hx;subst e;simp only[aA,aD] at h;obtain ⟨rfl,rfl⟩:=h;exact ⟨_,rfl,run _ _⟩
 ·rename_i k' y hxa;have e:=gV hxa hx;subst e;simp only[aA,aD] at h;obtain ⟨rfl,rfl⟩:=h;exact ⟨.int k (k.wrap (N.i y)),by simp only[Sc.den,hH.mk1,Nd.ev,Ar.ev],run _ _⟩
 ·cases h
end
section
variable {P:Program} {F:Fns} {N:Num}
theorem run_isAgg {t:TypeId}{b:Bool}(h:isAggB P t=some b)(w:World):(isAgg t).run P w= .ok b w:=by
 unfold isAggB at h;unfold isAgg;split at h;·rename_i fs hu;cases h;simp[run_underlying hu]
 ·rename_i n e hu;cases h;simp[run_underlying hu]
 ·rename_i d h1 h2 hu;cases h;simp only[bH,run_underlying hu,aY];cases d <;> first | rfl | exact absurd rfl (h1 _) | exact absurd rfl (h2 _ _)
 ·cases h
theorem run_typeInfo {t:TypeId}{i:TypeInfo}(h:P.info? t=some i)(w:World):(typeInfo t).run P w= .ok i w:=by
 simp[typeInfo,h]
theorem fQ {t:TypeId}{n:Nat}(h:sizeB P t=some n)(w:World):(sizeOf t).run P w= .ok n w:=by
 simp only[sizeB,aV] at h;obtain ⟨i,hi,rfl⟩:=h;simp[sizeOf,run_typeInfo hi]
theorem zeroB_run {t:TypeId}{l:List Sc}(h:zeroB P t=some l):∃z,(∀ w,(zeroValue t).run P w= .ok z w)∧∀E,denL N E l=some z.cells.toList:=by
 unfold zeroB at h;split at h
 ·rename_i i hi;split at h
  ·rename_i z hz;exact ⟨z,fun w=>by simp[zeroValue,run_typeInfo hi,hz],fun E=>ofCells_den h⟩
  ·cases h
 ·cases h
theorem run_fieldPlace {q o:Nat}{f:Field}{n:Nat}(h:sizeB P f.type=some n)(hn:n≠0)(w:World):(fieldPlace ⟨q,o,none⟩ f).run P w= .ok ⟨q,o+f.offset,none⟩ w:=by
 simp[fieldPlace,fQ h,hn,Addr.add_lit]
theorem sget_den {E:Env}:∀ {l:List Sc} {vs:List Value} {k:Nat} {x:Sc},denL N E l=some vs→sget l k=some x→∃v,vs[k]? =some v∧x.den N E=some v
 | [],_,_,_,_,h=>by cases h
 | y::l,vs,0,x,hd,h=>by obtain ⟨v,r,hv,hr,rfl⟩:=denL_cons.1 hd;simp only[sget,aA] at h;subst h;exact ⟨v,rfl,hv⟩
 | y::l,vs,k+1,x,hd,h=>by obtain ⟨v,r,hv,hr,rfl⟩:=denL_cons.1 hd;obtain ⟨u,h1,h2⟩:=sget_den hr h;exact ⟨u,h1,h2⟩
theorem vget_den {E:Env}:∀ {l:List V1} {vs:List Value} {k:Nat} {x:V1},denL1 N E l=some vs→vget l k=some x→∃v,vs[k]? =some v∧x.den N E=some v
 | [],_,_,_,_,h=>by cases h
 | y::l,vs,0,x,hd,h=>by obtain ⟨v,r,hv,hr,rfl⟩:=denL1_cons.1 hd;simp only[vget,aA] at h;subst h;exact ⟨v,rfl,hv⟩
 | y::l,vs,k+1,x,hd,h=>by obtain ⟨v,r,hv,hr,rfl⟩:=denL1_cons.1 hd;obtain ⟨u,h1,h2⟩:=vget_den hr h;exact ⟨u,h1,h2⟩
theorem ldrop_den {E:Env}:∀ {l:List Sc} {vs:List Value} (k:Nat),denL N E l=some vs→denL N E (ldrop l k)=some (vs.drop k)
 | l,vs,0,hd=>by cases l <;> simpa [ldrop] using hd
 | [],vs,k+1,hd=>by simp only[denL,aA] at hd;subst hd;simp[ldrop,denL]
 | y::l,vs,k+1,hd=>by obtain ⟨v,r,hv,hr,rfl⟩:=denL_cons.1 hd;simpa [ldrop] using ldrop_den k hr
theorem ltake_den {E:Env}:∀ {l:List Sc} {vs:List Value} (k:Nat),denL N E l=some vs→denL N E (ltake l k)=some (vs.take k)
 | l,vs,0,_=>by cases l <;> simp[ltake,denL]
 | [],vs,k+1,hd=>by simp only[denL,aA] at hd;subst hd;simp[ltake,denL]
 | y::l,vs,k+1,hd=>by obtain ⟨v,r,hv,hr,rfl⟩:=denL_cons.1 hd;exact denL_cons.2 ⟨v,r.take k,hv,ltake_den k hr,rfl⟩
theorem partS_run {E:Env}{t:TypeId}{l:List Sc}{off:Nat}{x:V1}{vs:List Value}(h:partS P t l off=some x)(hd:denL N E l=some vs) :
 ∃u,x.den N E=some u∧∀w,(part t vs.toArray off).run P w= .ok u w:=by
 unfold partS at h;split at h
 ·rename_i n ha hs;cases h;refine ⟨.agg (((vs.drop off).take n).toArray),by simp[V1.den,ltake_den n (ldrop_den off hd)],fun w=> ?_⟩;simp[part,run_isAgg ha,fQ hs,List.extract_eq_take_drop]
 ·rename_i ha;simp only[aV] at h;obtain ⟨y,hy,rfl⟩:=h;obtain ⟨v,h1,h2⟩:=sget_den hd hy;exact ⟨v,h2,fun w=>by simp[part,run_isAgg ha,h1]⟩
 ·cases h
theorem lset_den {E:Env}{x:Sc}{u:Value}(hx:x.den N E=some u):∀ {l:List Sc} {vs:List Value} (k:Nat),denL N E l=some vs→denL N E (lset l k x)=some (vs.set k u)
 | [],vs,k,hd=>by simp only[denL,aA] at hd;subst hd;cases k <;> simp[lset,denL]
 | y::l,vs,0,hd=>by obtain ⟨v,r,hv,hr,rfl⟩:=denL_cons.1 hd;exact denL_cons.2 ⟨u,r,hx,hr,rfl⟩
 | y::l,vs,k+1,hd=>by obtain ⟨v,r,hv,hr,rfl⟩:=denL_cons.1 hd;exact denL_cons.2 ⟨v,r.set k u,hv,lset_den hx k hr,rfl⟩
theorem lsetL_den {E:Env}:∀ {r:List Sc} {us:List Value} {l:List Sc} {cs:Array Value} (off j:Nat),denL N E r=some us→denL N E l=some cs.toList →
 denL N E (lsetL l (off+j) r)=some ((us.zipIdx j).foldl (fun (cs:Array Value) (p:Value×Nat)=>cs.setIfInBounds (off+p.2) p.1) cs).toList
 | [],us,l,cs,off,j,hr,hl=>by simp only[denL,aA] at hr;subst hr;simpa [lsetL] using hl
 | x::r,us,l,cs,off,j,hr,hl=>by obtain ⟨v,r',hv,hr',rfl⟩:=denL_cons.1 hr;simp only[lsetL,List.zipIdx_cons,List.foldl_cons];exact lsetL_den off (j+1) hr' (by simpa using lset_den hv (off+j) hl)
theorem fillS_run {E:Env}{place:Nat→Option (Nat×Nat)}:∀ {ps:List (Nat×List Sc)} {l l':List Sc} {cs:Array Value} {vs:List (Nat×Value)},fillS place l ps=some l'→denL N E l=some cs.toList →
 ps.length=vs.length→(∀ (k:Nat) (p:Nat×List Sc) (q:Nat×Value),ps[k]? =some p→vs[k]? =some q→p.1=q.1∧denL N E p.2=some q.2.cells.toList) →
 ∃cs',Instr.fill place cs vs=some cs'∧denL N E l'=some cs'.toList
 | [],l,l',cs,vs,h,hl,hlen,hps=>by
  simp only[fillS,aA] at h;subst h;have:vs=[]:=by cases vs <;> simp at hlen ⊢
  subst this;exact ⟨cs,rfl,hl⟩
 | (i,v)::rest,l,l',cs,vs,h,hl,hlen,hps=>by
  cases vs with
  | nil=>simp at hlen
  | cons q vs =>
   obtain ⟨rfl,hv⟩:=hps 0 (i,v) q rfl rfl;simp only[fillS] at h;simp only[Instr.fill];cases hp:place q.1 with
   | none=>rw[hp] at h;cases h
   | some os =>
    obtain ⟨off,size⟩:=os;rw[hp] at h;simp only at h ⊢;cases hb:(Nat.beq v.length size&&Nat.ble (off+v.length) l.length) with
    | false=>rw[hb] at h;cases h
    | true =>
     rw[hb] at h;simp only[aH] at h;simp only[aG] at hb;have e1:v.length=size:=aF hb.1;have e2:off+v.length≤l.length:=aM hb.2;have e3:=denL_length hv;have e4:=denL_length hl;simp only[Array.length_toList] at e3 e4;have hc:(decide (q.2.cells.size≠size)||decide (off+q.2.cells.size>cs.size))=false:=by simp;omega
     simp only[ne_eq,decide_not,gt_iff_lt] at hc ⊢;rw[bC (by rw[Bool.not_eq_true];simpa using hc)];refine fillS_run h ?_ (by simpa using hlen) (fun k p q' h1 h2=>hps (k+1) p q' h1 h2);have:=lsetL_den (off:=off) (j:=0) hv hl;rw[cJ] at this;rw[this,←Array.foldl_toList,Array.toList_zipIdx]
theorem placesB_run:∀ {fs:List Field} {pl:List (Nat×Nat)},placesB P fs=some pl→∀w,(fs.mapM fun f=>do pure (f.offset,←sizeOf f.type):Sem (List (Nat×Nat))).run P w= .ok pl w
 | [],pl,h,w=>by simp only[placesB,aA] at h;subst h;simp
 | f::r,pl,h,w=>by
  simp only[placesB] at h;split at h
  ·rename_i n hn;simp only[aV] at h;obtain ⟨p,hp,rfl⟩:=h;have:=placesB_run hp w;simp only[List.mapM_cons,bH,fQ hn,aY,bY,this]
  ·cases h
theorem nget_eq:∀(l:List (Nat×Nat)) (k:Nat),nget l k=l[k]?
 | [],_=>by simp[nget]
 | _::_,0=>rfl
 | _::l,k+1=>by simp[nget,nget_eq l k]
theorem partsS_den {E:Env}{n:Nat}{T:Tr SV}{a:Act}(r:RA N E n T a):∀ {ps:List (Nat×Operand)} {l:List (Nat×List Sc)},partsS T ps=some l →
 l.length=ps.length∧∀(k:Nat) (p:Nat×List Sc) (q:Nat×Value),l[k]? =some p→(ps.map fun (i,x)=>(i,a.eval x))[k]? =some q→p.1=q.1∧denL N E p.2=some q.2.cells.toList
 | [],l,h=>by simp only[partsS,aA] at h;subst h;exact ⟨rfl,fun k p q h=>by cases h⟩
 | (i,x)::ps,l,h=>by
  simp only[partsS] at h;split at h
  ·rename_i v hv;simp only[aV] at h;obtain ⟨l',hl',rfl⟩:=h;obtain ⟨h1,h2⟩:=partsS_den r hl';refine ⟨by simp[h1],fun k p q hk hq=> ?_⟩;cases k with
   | zero =>simp only[eG,aA] at hk;simp only[aI,eG,aA] at hq;subst hk;subst hq;exact ⟨rfl,V1.den_cells (eW r hv)⟩
   | succ k=>exact h2 k p q (by simpa using hk) (by simpa using hq)
  ·cases h
theorem arsN_get {t:Tr Sc}{k:IntKind}:∀ {n o:Nat} {l:List Ar},arsN t k o n=some l→l.length=n∧∀j,j<n→∃x a,t.get (o+j)=some x∧x.ar=some (k,a)∧l[j]? =some a
 | 0,o,l,h=>by simp only[arsN,aA] at h;subst h;exact ⟨rfl,fun j hj=>by omega⟩
 | n+1,o,l,h=>by
  simp only[arsN] at h;split at h
  ·rename_i x hx;split at h
   ·rename_i k' a ha;cases hk:kindB k k' with
    | false=>rw[hk] at h;cases h
    | true =>
     rw[hk] at h;simp only[aH] at h;have:=fT hk;subst this;split at h
     ·rename_i l' hl';simp only[aA] at h;subst h;obtain ⟨h1,h2⟩:=arsN_get hl';refine ⟨by simp[h1],fun j hj=> ?_⟩;cases j with
      | zero=>exact ⟨x,a,hx,ha,rfl⟩
      | succ j =>obtain ⟨y,b,h3,h4,h5⟩:=h2 j (by omega);exact ⟨y,b,by rw[show o+(j+1)=o+1+j by omega];exact h3,h4,by simpa using h5⟩
     ·cases h
   ·cases h
  ·cases h
theorem load1_pur {σ σ':St}{b:Nat}{off:Ar}{x:Sc}(h:σ.load1 b off=some (x,σ')):Pur σ σ':=by
 simp only[St.load1] at h;split at h
 ·split at h
  ·split at h;·simp only[aV,aD] at h;obtain ⟨_,_,_,rfl⟩:=h;exact Pur.refl _
   ·split at h
    ·split at h
     ·split at h
      ·rename_i σ1 hσ1;simp only[aA,aD] at h;rw[←h.2];simp only[aL] at hσ1;obtain ⟨σ2,h1,h2⟩:=hσ1;exact ((fC h1).trans (lt_pur h2)).trans (Pur.mk1 _ _)
      ·cases h
     ·cases h
    ·cases h
  ·simp only[aA,aD] at h;rw[←h.2];exact (Pur.ob _ _).trans (Pur.mk1 _ _)
 ·cases h
theorem load1_at {E:Env}{σ σ':St}{b:Nat}{off:Ar}{x:Sc}{w:World}(h:σ.load1 b off=some (x,σ'))(hH:Hold F N σ')(hw:BW N E σ.bks w) :
 ∃q s c u,E.blk b=some (q,s,c)∧x.den N E=some u∧w.cell? ⟨q,s+(off.ev N).toNat,none⟩=some u:=by
 simp only[St.load1] at h;split at h
 ·rename_i B hB;obtain ⟨q,s,c,arr,el,fz,g1,g2,g3,g4,g5⟩:=hw.at' b B hB;have cell:∀o u,arr[s+o]? =some u→w.cell? ⟨q,s+o,none⟩=some u:=fun o u hu=>by simp[World.cell?,g2,hu]
  split at h
  ·rename_i harr;unfold Bk.cont at g5;rw[harr] at g5;simp only at g5;split at h
   ·rename_i o;simp only[aV,aD] at h;obtain ⟨y,hy,rfl,rfl⟩:=h;obtain ⟨_,u,h1,h2⟩:=g5 _ _ hy;exact ⟨q,s,c,u,g1,h2,cell _ _ (by simpa [Ar.ev] using h1)⟩
   ·split at h
    ·rename_i k hk;split at h
     ·rename_i l hl;split at h
      ·rename_i σ1 hσ1;simp only[aA,aD] at h;obtain ⟨rfl,rfl⟩:=h;simp only[aL] at hσ1;obtain ⟨σ2,h1,h2⟩:=hσ1;have hH1:Hold F N σ1:=eT (Ext.mk1 _ _) hH;have hH2:Hold F N σ2:=eT (lt_pur h2).ext hH1;have e1:=fO h1 hH2;have e2:=lt_holds h2 hH1;simp only[Ar.ev] at e1 e2;obtain ⟨l1,l2⟩:=arsN_get hl;have hlt:(off.ev N).toNat<B.n:=by simp only[Ar.ev];omega
       obtain ⟨y,a,m1,m2,m3⟩:=l2 _ hlt;rw[bM] at m1;obtain ⟨_,u,m4,m5⟩:=g5 _ _ m1;have m6:=gV m2 m5;subst m6;refine ⟨q,s,c,_,g1,?_,cell _ _ m4⟩;simp only[Sc.den,hH.mk1,Nd.ev,aE,bP,m3,Option.map_some,dZ]
      ·cases h
     ·cases h
    ·cases h
  ·rename_i k A g harr;unfold Bk.cont at g5;rw[harr] at g5;simp only at g5;simp only[aA,aD] at h;obtain ⟨rfl,rfl⟩:=h;have e:=(eT (Ext.mk1 _ _) hH).ob;simp only[Ob.holds] at e;have hlt:(off.ev N).toNat<(N.a A).length:=by omega
   refine ⟨q,s,c,.int k (N.a A)[(off.ev N).toNat],g1,?_,cell _ _ (g5.1 _ _ (aU hlt))⟩;have e1:N.i σ.nx=(Nd.rd A off).ev N:=hH.mk1;simp only[Sc.den,e1,Nd.ev,aE,aU hlt,dZ]
 ·cases h
theorem loadN_pur {b:Nat}:∀ {n off:Nat} {σ σ':St} {l:List Sc},St.loadN b off n σ=some (l,σ')→Pur σ σ'
 | 0,off,σ,σ',l,h=>by simp only[St.loadN,aA,aD] at h;rw[←h.2];exact Pur.refl _
 | n+1,off,σ,σ',l,h=>by
  simp only[St.loadN] at h;split at h
  ·rename_i x σ1 hx;split at h
   ·rename_i l' σ2 hl';simp only[aA,aD] at h;rw[←h.2];exact (load1_pur hx).trans (loadN_pur hl')
   ·cases h
  ·cases h
theorem loadN_at {E:Env}{b:Nat}{w:World}:∀ {n off:Nat} {σ σ':St} {l:List Sc},St.loadN b off n σ=some (l,σ')→Hold F N σ'→BW N E σ.bks w→∀ {q s c:Nat},E.blk b=some (q,s,c) →
 ∃vs,denL N E l=some vs∧vs.length=n∧∀j v,vs[j]? =some v→w.cell? ⟨q,s+off+j,none⟩=some v
 | 0,off,σ,σ',l,h,hH,hw,q,s,c,hb=>by simp only[St.loadN,aA,aD] at h;obtain ⟨rfl,rfl⟩:=h;exact ⟨[],rfl,rfl,fun j v hj=>by simp at hj⟩
 | n+1,off,σ,σ',l,h,hH,hw,q,s,c,hb=>by
  simp only[St.loadN] at h;split at h
  ·rename_i x σ1 hx;split at h
   ·rename_i l' σ2 hl';simp only[aA,aD] at h;obtain ⟨rfl,rfl⟩:=h;have hp:=loadN_pur hl';have hH1:=eT hp.ext hH;obtain ⟨q',s',c',u,h1,h2,h3⟩:=load1_at hx hH1 hw;rw[hb] at h1;simp only[aA,aD] at h1;obtain ⟨rfl,rfl,rfl⟩:=h1;obtain ⟨vs,k1,k2,k3⟩:=loadN_at hl' hH (by rw[(load1_pur hx).bks];exact hw) hb;refine ⟨u::vs,denL_cons.2 ⟨u,vs,h2,k1,rfl⟩,by simp[k2],fun j v hj=> ?_⟩;cases j with
    | zero =>simp only[eG,aA] at hj;subst hj;rw[cJ];simpa [Ar.ev] using h3
    | succ j =>have:=k3 j v (by simpa using hj);rw[show s+off+(j+1)=s+(off+1)+j by omega];exact this
   ·cases h
  ·cases h
theorem run_loadVar_agg {q o n:Nat}{w:World}{t:TypeId}{vs:List Value}(hc:∀j v,vs[j]? =some v→w.cell? ⟨q,o+j,none⟩=some v)
 (ha:isAggB P t=some true) (hs:sizeB P t=some n) (hlen:vs.length=n):(loadVar t ⟨q,o,none⟩).run P w= .ok (.agg vs.toArray) w:=by
 simp only[loadVar,bH,run_isAgg ha,aY,if_true,fQ hs];subst hlen;rw[run_loadCells_list w _ vs (fun j v hj=>by rw[Addr.add_lit];exact hc j v hj)];rfl
theorem run_loadVar_one {w:World}{t:TypeId}{a:Addr}{u:Value}(ha:isAggB P t=some false)(hc:w.cell? a=some u):(loadVar t a).run P w= .ok u w:=by
 simp[loadVar,run_isAgg ha,hc]
theorem run_loadVar_none {w:World}{t:TypeId}{a:Addr}(ha:isAggB P t=some true)(hs:sizeB P t=some 0):(loadVar t a).run P w= .ok (.agg #[]) w:=by
 simp[loadVar,run_isAgg ha,fQ hs,loadCells,loadCellsFrom]
def RelB (N:Num)(v:Option Value)(n:Option Ar):Prop:=(v=none∧n=none)∨∃k m,v=some (.int k (m.ev N))∧n=some m
theorem optAr_rel {E:Env}{n:Nat}{T:Tr SV}{a:Act}(r:RA N E n T a){x:Option Operand}{m:Option Ar}(h:optAr T x=some m):RelB N (x.map a.eval) m:=by
 cases x with
 | none=>simp only[optAr,aA] at h;exact .inl ⟨rfl,h.symm⟩
 | some o =>
  simp only[optAr] at h;split at h
  ·rename_i y hy;split at h
   ·rename_i k b hb;simp only[aA] at h;exact .inr ⟨k,b,by simp only[Option.map_some];rw[gV hb (eW r hy)],h.symm⟩
   ·cases h
  ·cases h
theorem run_sliceBound {k:IntKind}{i:Int}{y:Nat}{c:BoundsCode}(h0:0≤i)(h:i≤y)(w:World):(Instr.sliceBound (.int k i) y c).run P w= .ok i.toNat w:=by
 simp only[Instr.sliceBound,asIntOf,bH,bY,aY];rw[bG ⟨h0,h⟩];simp
theorem run_sliceBounds {isS:Bool}{len:Ar}{cap:Nat}{lo hi:Option Value}{l h:Option Ar}(hl:RelB N lo l)(hh:RelB N hi h)(h0:0≤(l.getD (.kst 0)).ev N)(h1:(l.getD (.kst 0)).ev N≤(h.getD len).ev N)
 (h2:(h.getD len).ev N≤cap) (w:World) :
 (Instr.sliceBounds isS (len.ev N).toNat cap lo hi none).run P w= .ok (((l.getD (.kst 0)).ev N).toNat,((h.getD len).ev N).toNat,cap) w:=by
 rcases hl with ⟨rfl,rfl⟩ | ⟨k,m,rfl,rfl⟩ <;> rcases hh with ⟨rfl,rfl⟩ | ⟨k',m',rfl,rfl⟩
 ·simp [Instr.sliceBounds,Ar.ev]
 ·simp only[Option.getD_none,dZ] at h0 h1 h2;have ez:(Ar.kst 0).ev N=0:=rfl;have:=run_sliceBound (P:=P) (k:=k') (c:=if isS=true then BoundsCode.sliceAcap else BoundsCode.sliceAlen) (by omega) h2 w;simp only[Instr.sliceBounds,bH,bY,aY];rw[this];simp[ez]
 ·simp only[Option.getD_none,dZ] at h0 h1 h2;have:=run_sliceBound (P:=P) (k:=k) (y:=(len.ev N).toNat) (c:=BoundsCode.sliceB) h0 (by omega) w;simp only[Instr.sliceBounds,bH,bY,aY,Option.isSome_none,bV,if_false];rw[this];simp
 ·simp only[dZ] at h0 h1 h2;have e1:=run_sliceBound (P:=P) (k:=k') (c:=if isS=true then BoundsCode.sliceAcap else BoundsCode.sliceAlen) (by omega) h2 w;have e2:=run_sliceBound (P:=P) (k:=k) (y:=(m'.ev N).toNat) (c:=BoundsCode.sliceB) h0 (by omega) w;simp only[Instr.sliceBounds,bH,bY,aY,Option.isSome_none,bV,if_false];rw[e1];simp only[aY];rw[e2];simp
end
end Go.Sy
