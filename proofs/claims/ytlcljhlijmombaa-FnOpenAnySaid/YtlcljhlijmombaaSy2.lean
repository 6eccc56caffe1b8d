/- What the symbolic executor's words mean; its small laws. The symbolic executor's arithmetic is sound. The symbolic executor's operations are sound, one by one: those that leave memory alone. The symbolic executor's operations are sound: those that leave memory alone. The symbolic executor's operations are sound: those that leave memory alone, all together. -/
import Derived.Test.YtlcljhlijmombaaSy1
namespace Go.Sy
theorem nbeq_ff {a b:Nat}(h:a≠b):Nat.beq a b=false:=by
 cases e:Nat.beq a b with
 | false=>rfl
 | true=>exact absurd (Nat.eq_of_beq_eq_true e) h
theorem nbeq_tt {a b:Nat}(h:a=b):Nat.beq a b=true:=by subst h;exact Nat.beq_refl a
theorem Tr.get_nil {α:Type}(k:Nat):(Tr.nil:Tr α).get k=none:=rfl
theorem Tr.get_setF {α:Type}:∀(d:Nat) (t:Tr α) (k:Nat) (x:α) (j:Nat),k<d→(Tr.setF d t k x).get j=if j=k then some x else t.get j
 | 0,_,_,_,_,h=>absurd h (Nat.not_lt_zero _)
 | d+1,t,k,x,j,h=>by
  have ih:=Tr.get_setF (α:=α) d
  cases t with
  | nil =>
   unfold Tr.setF
   by_cases hk:k=0
   ·subst hk;by_cases hj:j=0
    ·subst hj;simp only[Tr.get,nbeq_tt rfl,cond_true,if_true]
    ·rw [if_neg hj,nbeq_tt rfl];simp only[cond_true,Tr.get,nbeq_ff hj,cond_false,Bool.cond_self]
   ·have hk':Nat.beq k 0=false:=nbeq_ff hk
    simp only[hk',cond_false]
    by_cases ho:k%2=1
    ·have ho':Nat.beq (k%2) 1=true:=nbeq_tt ho
     simp only[ho',cond_true,Tr.get]
     by_cases hj:j=0
     ·subst hj;simp;omega
     ·have hj':Nat.beq j 0=false:=nbeq_ff hj
      simp only[hj',cond_false]
      by_cases hjo:j%2=1
      ·have hjo':Nat.beq (j%2) 1=true:=nbeq_tt hjo
       simp only[hjo',cond_true]
       rw[ih _ _ _ _ (by omega)]
       by_cases e:j/2=k/2
       ·rw [if_pos e,if_pos (by omega)]
       ·rw [if_neg e,if_neg (by omega)];rfl
      ·have hjo':Nat.beq (j%2) 1=false:=nbeq_ff hjo
       simp only[hjo',cond_false]
       rw[if_neg (by omega)]
    ·have ho':Nat.beq (k%2) 1=false:=nbeq_ff ho
     simp only[ho',cond_false,Tr.get]
     by_cases hj:j=0
     ·subst hj;simp;omega
     ·have hj':Nat.beq j 0=false:=nbeq_ff hj
      simp only[hj',cond_false]
      by_cases hjo:j%2=1
      ·have hjo':Nat.beq (j%2) 1=true:=nbeq_tt hjo
       simp only[hjo',cond_true]
       rw[if_neg (by omega)]
      ·have hjo':Nat.beq (j%2) 1=false:=nbeq_ff hjo
       simp only[hjo',cond_false]
       rw[ih _ _ _ _ (by omega)]
       by_cases e:j/2-1=k/2-1
       ·rw [if_pos e,if_pos (by omega)]
       ·rw [if_neg e,if_neg (by omega)];rfl
  | node v l r =>
   unfold Tr.setF
   by_cases hk:k=0
   ·subst hk;by_cases hj:j=0
    ·subst hj;simp only[Tr.get,nbeq_tt rfl,cond_true,if_true]
    ·rw [if_neg hj,nbeq_tt rfl];simp only[cond_true,Tr.get,nbeq_ff hj,cond_false]
   ·have hk':Nat.beq k 0=false:=nbeq_ff hk
    simp only[hk',cond_false]
    by_cases ho:k%2=1
    ·have ho':Nat.beq (k%2) 1=true:=nbeq_tt ho
     simp only[ho',cond_true,Tr.get]
     by_cases hj:j=0
     ·subst hj;simp;omega
     ·have hj':Nat.beq j 0=false:=nbeq_ff hj
      simp only[hj',cond_false]
      by_cases hjo:j%2=1
      ·have hjo':Nat.beq (j%2) 1=true:=nbeq_tt hjo
       simp only[hjo',cond_true]
       rw[ih _ _ _ _ (by omega)]
       by_cases e:j/2=k/2
       ·rw [if_pos e,if_pos (by omega)]
       ·rw [if_neg e,if_neg (by omega)]
      ·have hjo':Nat.beq (j%2) 1=false:=nbeq_ff hjo
       simp only[hjo',cond_false]
       rw[if_neg (by omega)]
    ·have ho':Nat.beq (k%2) 1=false:=nbeq_ff ho
     simp only[ho',cond_false,Tr.get]
     by_cases hj:j=0
     ·subst hj;simp;omega
     ·have hj':Nat.beq j 0=false:=nbeq_ff hj
      simp only[hj',cond_false]
      by_cases hjo:j%2=1
      ·have hjo':Nat.beq (j%2) 1=true:=nbeq_tt hjo
       simp only[hjo',cond_true]
       rw[if_neg (by omega)]
      ·have hjo':Nat.beq (j%2) 1=false:=nbeq_ff hjo
       simp only[hjo',cond_false]
       rw[ih _ _ _ _ (by omega)]
       by_cases e:j/2-1=k/2-1
       ·rw [if_pos e,if_pos (by omega)]
       ·rw [if_neg e,if_neg (by omega)]
theorem Tr.get_set {α:Type}(t:Tr α)(k:Nat)(x:α)(j:Nat):(t.set k x).get j=if j=k then some x else t.get j :=
 Tr.get_setF (k+1) t k x j (Nat.lt_succ_self k)
structure Fns where
 i:Nat→List Int→List (List Int)→Nat→Int
 a:Nat→List Int→List (List Int)→List Int
 p:Nat→List Int→List (List Int)→Prop
structure Num where
 i:Nat→Int
 a:Nat→List Int
 f:Fns
structure Env where
 blk:Nat→Option (Nat×Nat×Nat)
 val:Nat→Option Value
structure Env.le (E E':Env):Prop where
 blk:∀b q,E.blk b=some q→E'.blk b=some q
 val:∀j v,E.val j=some v→E'.val j=some v
theorem Env.le_refl (E:Env):E.le E:=⟨fun _ _ h=>h,fun _ _ h=>h⟩
theorem Env.le.trans {A B C:Env}(h:A.le B)(k:B.le C):A.le C:=⟨fun b q e=>k.blk b q (h.blk b q e),fun j v e=>k.val j v (h.val j v e)⟩
def Ar.ev (N:Num):Ar→Int
 | .var x=>N.i x
 | .kst n=>n
def bytesOf (l:List Int):List UInt8:=l.map fun v=>UInt8.ofNat v.toNat
def Nd.ev (N:Num):Nd→Int
 | .seq A B=>bif bytesOf (N.a A)==bytesOf (N.a B) then 1 else 0
 | .bin op k a b=>iop op k (a.ev N) (b.ev N)
 | .conv k a=>k.wrap (a.ev N)
 | .cmp op a b=>bif icmp op (a.ev N) (b.ev N) then 1 else 0
 | .addS a b c=>(((a.ev N).toNat+(b.ev N).toNat+(c.ev N).toNat)%18446744073709551616:Nat)
 | .addC a b c=>if 18446744073709551616≤(a.ev N).toNat+(b.ev N).toNat+(c.ev N).toNat then 1 else 0
 | .subS a b c=>(((a.ev N).toNat+18446744073709551616-(b.ev N).toNat-(c.ev N).toNat)%18446744073709551616:Nat)
 | .subC a b c=>if (a.ev N).toNat<(b.ev N).toNat+(c.ev N).toNat then 1 else 0
 | .lin a b c=>a.ev N+b.ev N*c
 | .mn a b=>if b.ev N<a.ev N then b.ev N else a.ev N
 | .rd A x=>(N.a A).getD (x.ev N).toNat 0
 | .sel l x=>(l.map (·.ev N)).getD (x.ev N).toNat 0
 | .len A=>(N.a A).length
 | .fn f is as j=>N.f.i f (is.map (·.ev N)) (as.map N.a) j
def Ad.ev (N:Num):Ad→List Int
 | .lit l=>l.map (·.ev N)
 | .set A x v=>(N.a A).set (x.ev N).toNat (v.ev N)
 | .sub A off n=>((N.a A).drop (off.ev N).toNat).take (n.ev N).toNat
 | .cat A B=>N.a A++N.a B
 | .rep n v=>List.replicate (n.ev N).toNat (v.ev N)
 | .cpy A off B=>(N.a A).take (off.ev N).toNat++N.a B++(N.a A).drop ((off.ev N).toNat+(N.a B).length)
 | .fn f is as=>N.f.a f (is.map (·.ev N)) (as.map N.a)
def Df.sat (N:Num):Df→Prop
 | .n x nd=>N.i x=nd.ev N
 | .a A ad=>N.a A=ad.ev N
def Ob.holds (N:Num):Ob→Prop
 | .le a b=>a.ev N≤b.ev N
 | .lt a b=>a.ev N<b.ev N
 | .eq a b=>a.ev N=b.ev N
 | .inA x A=>0≤x.ev N∧x.ev N<(N.a A).length
 | .lenA x A=>x.ev N=(N.a A).length
 | .fits off n A=>0≤off.ev N∧0≤n.ev N∧off.ev N+n.ev N≤(N.a A).length
 | .boo x t=>(!(N.i x==0))=t
 | .prd p is as=>N.f.p p (is.map (·.ev N)) (as.map N.a)
structure Hold (F:Fns) (N:Num) (σ:St):Prop where
 fns:N.f=F
 defs:∀d∈σ.defs,d.sat N
 obs:∀o∈σ.obs,o.holds N
 ins:∀x,x<σ.ni→0≤N.i x∧N.i x<18446744073709551616
structure Ext (σ σ':St):Prop where
 defs:∀d∈σ.defs,d∈σ'.defs
 obs:∀o∈σ.obs,o∈σ'.obs
 ni:σ'.ni=σ.ni
 gl:σ'.gl=σ.gl
 nv:σ.nv≤σ'.nv
theorem Ext.refl (σ:St):Ext σ σ:=⟨fun _ h=>h,fun _ h=>h,rfl,rfl,Nat.le_refl _⟩
theorem Ext.trans {a b c:St}(h:Ext a b)(k:Ext b c):Ext a c:=⟨fun d m=>k.defs d (h.defs d m),fun o m=>k.obs o (h.obs o m),k.ni.trans h.ni,k.gl.trans h.gl,Nat.le_trans h.nv k.nv⟩
theorem Hold.of_ext {F:Fns}{N:Num}{σ σ':St}(h:Ext σ σ')(k:Hold F N σ'):Hold F N σ:=⟨k.fns,fun d m=>k.defs d (h.defs d m),fun o m=>k.obs o (h.obs o m),fun x hx=>k.ins x (by rw[h.ni];exact hx)⟩
theorem Ext.mk1 (σ:St)(nd:Nd):Ext σ (σ.mk1 nd):=⟨fun _ h=>List.mem_cons_of_mem _ h,fun _ h=>h,rfl,rfl,Nat.le_refl _⟩
theorem Ext.mkA (σ:St)(ad:Ad):Ext σ (σ.mkA ad):=⟨fun _ h=>List.mem_cons_of_mem _ h,fun _ h=>h,rfl,rfl,Nat.le_refl _⟩
theorem Ext.ob (σ:St)(o:Ob):Ext σ (σ.ob o):=⟨fun _ h=>h,fun _ h=>List.mem_cons_of_mem _ h,rfl,rfl,Nat.le_refl _⟩
theorem Hold.mk1 {F:Fns}{N:Num}{σ:St}{nd:Nd}(h:Hold F N (σ.mk1 nd)):N.i σ.nx=nd.ev N:=h.defs (.n σ.nx nd) List.mem_cons_self
theorem Hold.mkA {F:Fns}{N:Num}{σ:St}{ad:Ad}(h:Hold F N (σ.mkA ad)):N.a σ.na=ad.ev N:=h.defs (.a σ.na ad) List.mem_cons_self
theorem Hold.ob {F:Fns}{N:Num}{σ:St}{o:Ob}(h:Hold F N (σ.ob o)):o.holds N:=h.obs o List.mem_cons_self
def Sc.den (N:Num)(E:Env):Sc→Option Value
 | .kst v=>bif cellOk v then some v else none
 | .num k x=>some (.int k (N.i x))
 | .boo x=>some (.bool (!(N.i x==0)))
 | .str A=>some (.string ⟨(bytesOf (N.a A)).toArray⟩)
 | .opq j=>match E.val j with
  | some v=>bif cellOk v then some v else none
  | none=>none
 | .ptr b off=>(E.blk b).bind fun q=>if 0≤off.ev N then some (.pointer (some ⟨q.1,q.2.1+(off.ev N).toNat,none⟩)) else none
 | .sl b off len cap=>(E.blk b).bind fun q =>
  match cap with
  | some c=>if 0≤off.ev N then some (.slice (some ⟨q.1,q.2.1+(off.ev N).toNat,none⟩) (len.ev N).toNat (c.ev N).toNat) else none
  | none=>if 0≤off.ev N∧(off.ev N).toNat+(len.ev N).toNat≤q.2.2 then some (.slice (some ⟨q.1,q.2.1+(off.ev N).toNat,none⟩) (len.ev N).toNat (q.2.2-(off.ev N).toNat)) else none
 | .emp j=>match E.val j with
  | some (.slice a 0 c)=>some (.slice a 0 c)
  | _=>none
def denL (N:Num)(E:Env):List Sc→Option (List Value)
 | []=>some []
 | x::l=>(x.den N E).bind fun v=>(denL N E l).map (v:: ·)
def V1.den (N:Num)(E:Env):V1→Option Value
 | .sc x=>x.den N E
 | .agg l=>(denL N E l).map fun vs=> .agg vs.toArray
def denL1 (N:Num)(E:Env):List V1→Option (List Value)
 | []=>some []
 | x::l=>(x.den N E).bind fun v=>(denL1 N E l).map (v:: ·)
def SV.den (N:Num)(E:Env):SV→Option Value
 | .one x=>x.den N E
 | .tup l=>(denL1 N E l).map fun vs=> .tuple vs.toArray
def denLV (N:Num)(E:Env):List SV→Option (List Value)
 | []=>some []
 | x::l=>(x.den N E).bind fun v=>(denLV N E l).map (v:: ·)
section
variable {N:Num}
theorem Sc.den_mono {E E':Env}(h:E.le E'){x:Sc}{v:Value}(e:x.den N E=some v):x.den N E'=some v:=by
 cases x with
 | kst u=>exact e
 | num k x=>exact e
 | boo x=>exact e
 | str A=>exact e
 | opq j =>
  simp only[Sc.den] at e ⊢
  split at e
  ·rename_i u hu;rw[h.val _ _ hu];exact e
  ·cases e
 | ptr b off=>simp only[Sc.den,Option.bind_eq_some_iff] at e ⊢;obtain ⟨n,hn,hv⟩:=e;exact ⟨n,h.blk _ _ hn,hv⟩
 | sl b off len cap=>simp only[Sc.den,Option.bind_eq_some_iff] at e ⊢;obtain ⟨n,hn,hv⟩:=e;exact ⟨n,h.blk _ _ hn,hv⟩
 | emp j =>
  simp only[Sc.den] at e ⊢
  split at e
  ·rename_i a c hu;rw[h.val _ _ hu];exact e
  ·cases e
theorem denL_cons {E:Env}{x:Sc}{l:List Sc}{vs:List Value}:denL N E (x::l)=some vs↔∃v r,x.den N E=some v∧denL N E l=some r∧vs=v::r:=by
 simp only[denL,Option.bind_eq_some_iff,Option.map_eq_some_iff]
 constructor
 ·rintro ⟨v,hv,r,hr,rfl⟩;exact ⟨v,r,hv,hr,rfl⟩
 ·rintro ⟨v,r,hv,hr,rfl⟩;exact ⟨v,hv,r,hr,rfl⟩
theorem denL1_cons {E:Env}{x:V1}{l:List V1}{vs:List Value}:denL1 N E (x::l)=some vs↔∃v r,x.den N E=some v∧denL1 N E l=some r∧vs=v::r:=by
 simp only[denL1,Option.bind_eq_some_iff,Option.map_eq_some_iff]
 constructor
 ·rintro ⟨v,hv,r,hr,rfl⟩;exact ⟨v,r,hv,hr,rfl⟩
 ·rintro ⟨v,r,hv,hr,rfl⟩;exact ⟨v,hv,r,hr,rfl⟩
theorem denLV_cons {E:Env}{x:SV}{l:List SV}{vs:List Value}:denLV N E (x::l)=some vs↔∃v r,x.den N E=some v∧denLV N E l=some r∧vs=v::r:=by
 simp only[denLV,Option.bind_eq_some_iff,Option.map_eq_some_iff]
 constructor
 ·rintro ⟨v,hv,r,hr,rfl⟩;exact ⟨v,r,hv,hr,rfl⟩
 ·rintro ⟨v,r,hv,hr,rfl⟩;exact ⟨v,hv,r,hr,rfl⟩
theorem denL_mono {E E':Env}(h:E.le E'):∀ {l:List Sc} {vs:List Value},denL N E l=some vs→denL N E' l=some vs
 | [],_,e=>e
 | x::l,vs,e=>by
  obtain ⟨v,r,hv,hr,rfl⟩:=denL_cons.1 e
  exact denL_cons.2 ⟨v,r,Sc.den_mono h hv,denL_mono h hr,rfl⟩
theorem V1.den_mono {E E':Env}(h:E.le E'){x:V1}{v:Value}(e:x.den N E=some v):x.den N E'=some v:=by
 cases x with
 | sc x=>exact Sc.den_mono h e
 | agg l=>simp only[V1.den,Option.map_eq_some_iff] at e ⊢;obtain ⟨n,hn,hv⟩:=e;exact ⟨n,denL_mono h hn,hv⟩
theorem denL1_mono {E E':Env}(h:E.le E'):∀ {l:List V1} {vs:List Value},denL1 N E l=some vs→denL1 N E' l=some vs
 | [],_,e=>e
 | x::l,vs,e=>by
  obtain ⟨v,r,hv,hr,rfl⟩:=denL1_cons.1 e
  exact denL1_cons.2 ⟨v,r,V1.den_mono h hv,denL1_mono h hr,rfl⟩
theorem SV.den_mono {E E':Env}(h:E.le E'){x:SV}{v:Value}(e:x.den N E=some v):x.den N E'=some v:=by
 cases x with
 | one x=>exact V1.den_mono h e
 | tup l=>simp only[SV.den,Option.map_eq_some_iff] at e ⊢;obtain ⟨n,hn,hv⟩:=e;exact ⟨n,denL1_mono h hn,hv⟩
theorem denLV_mono {E E':Env}(h:E.le E'):∀ {l:List SV} {vs:List Value},denLV N E l=some vs→denLV N E' l=some vs
 | [],_,e=>e
 | x::l,vs,e=>by
  obtain ⟨v,r,hv,hr,rfl⟩:=denLV_cons.1 e
  exact denLV_cons.2 ⟨v,r,SV.den_mono h hv,denLV_mono h hr,rfl⟩
theorem denL_length {E:Env}:∀ {l:List Sc} {vs:List Value},denL N E l=some vs→vs.length=l.length
 | [],_,e=>by simp only[denL,Option.some.injEq] at e;subst e;rfl
 | x::l,vs,e=>by
  obtain ⟨v,r,_,hr,rfl⟩:=denL_cons.1 e
  simp[denL_length hr]
theorem kst_cell {v u:Value}(h:(bif cellOk v then some v else none)=some u):u=v∧cellOk v=true:=by
 cases hc:cellOk v with
 | true=>rw[hc] at h;simp only[cond_true,Option.some.injEq] at h;exact ⟨h.symm,rfl⟩
 | false=>rw[hc] at h;cases h
theorem ptr_den {E:Env}{b:Nat}{off:Ar}{u:Value}(h:(Sc.ptr b off).den N E=some u):∃q s c,E.blk b=some (q,s,c)∧0≤off.ev N∧u= .pointer (some ⟨q,s+(off.ev N).toNat,none⟩):=by
 simp only[Sc.den,Option.bind_eq_some_iff] at h
 obtain ⟨⟨q,s,c⟩,h1,h2⟩:=h
 by_cases h0:0≤off.ev N
 ·rw [if_pos h0] at h2;simp only[Option.some.injEq] at h2;exact ⟨q,s,c,h1,h0,h2.symm⟩
 ·rw [if_neg h0] at h2;cases h2
def capOf (N:Num)(off:Ar)(cap:Option Ar)(c:Nat):Nat :=
 match cap with
 | some a=>(a.ev N).toNat
 | none=>c-(off.ev N).toNat
theorem sl_den {E:Env}{b:Nat}{off len:Ar}{cap:Option Ar}{u:Value}(h:(Sc.sl b off len cap).den N E=some u) :
  ∃q s c m,E.blk b=some (q,s,c)∧0≤off.ev N∧u= .slice (some ⟨q,s+(off.ev N).toNat,none⟩) (len.ev N).toNat m∧m=capOf N off cap c∧(cap=none→(off.ev N).toNat+(len.ev N).toNat≤c):=by
 simp only[Sc.den,Option.bind_eq_some_iff] at h
 obtain ⟨⟨q,s,c⟩,h1,h2⟩:=h
 cases cap with
 | some a =>
  simp only at h2
  by_cases h0:0≤off.ev N
  ·rw [if_pos h0] at h2;simp only[Option.some.injEq] at h2;exact ⟨q,s,c,_,h1,h0,h2.symm,rfl,fun e=>by cases e⟩
  ·rw [if_neg h0] at h2;cases h2
 | none =>
  simp only at h2
  by_cases h0:0≤off.ev N∧(off.ev N).toNat+(len.ev N).toNat≤c
  ·rw [if_pos h0] at h2;simp only[Option.some.injEq] at h2;exact ⟨q,s,c,_,h1,h0.1,h2.symm,rfl,fun _=>h0.2⟩
  ·rw [if_neg h0] at h2;cases h2
theorem ptr_mk {E:Env}{b q s c:Nat}{off:Ar}(h:E.blk b=some (q,s,c))(h0:0≤off.ev N):(Sc.ptr b off).den N E=some (.pointer (some ⟨q,s+(off.ev N).toNat,none⟩)):=by
 simp only[Sc.den,h,Option.bind_some];rw[if_pos h0]
theorem sl_mk {E:Env}{b q s c:Nat}{off len:Ar}{cap:Option Ar}(h:E.blk b=some (q,s,c))(h0:0≤off.ev N)(h1:cap=none→(off.ev N).toNat+(len.ev N).toNat≤c) :
  (Sc.sl b off len cap).den N E=some (.slice (some ⟨q,s+(off.ev N).toNat,none⟩) (len.ev N).toNat (capOf N off cap c)):=by
 simp only[Sc.den,h,Option.bind_some,capOf]
 cases cap with
 | some a=>simp only;rw[if_pos h0]
 | none=>simp only;rw[if_pos ⟨h0,h1 rfl⟩]
theorem Sc.den_cellOk {E:Env}{x:Sc}{v:Value}(e:x.den N E=some v):cellOk v=true:=by
 cases x with
 | kst u=>obtain ⟨rfl,h⟩:=kst_cell e;exact h
 | num k x=>simp only[Sc.den,Option.some.injEq] at e;subst e;rfl
 | boo x=>simp only[Sc.den,Option.some.injEq] at e;subst e;rfl
 | str A=>simp only[Sc.den,Option.some.injEq] at e;subst e;rfl
 | opq j =>
  simp only[Sc.den] at e
  split at e
  ·obtain ⟨rfl,h⟩:=kst_cell e;exact h
  ·cases e
 | ptr b off=>obtain ⟨q,s,c,_,_,rfl⟩:=ptr_den e;rfl
 | sl b off len cap=>obtain ⟨q,s,c,m,_,_,rfl,_⟩:=sl_den e;rfl
 | emp j =>
  simp only[Sc.den] at e
  split at e
  ·simp only[Option.some.injEq] at e;subst e;rfl
  ·cases e
theorem cells_of_cellOk {v:Value}(h:cellOk v=true):v.cells= #[v]:=by cases v <;> first | rfl | cases h
theorem V1.den_cells {E:Env}{x:V1}{v:Value}(e:x.den N E=some v):denL N E x.cells=some v.cells.toList:=by
 cases x with
 | sc x =>
  rw[cells_of_cellOk (Sc.den_cellOk e)]
  exact denL_cons.2 ⟨v,[],e,rfl,rfl⟩
 | agg l =>
  simp only[V1.den,Option.map_eq_some_iff] at e
  obtain ⟨vs,hvs,rfl⟩:=e
  simpa [V1.cells,Value.cells] using hvs
structure RA (N:Num) (E:Env) (n:Nat) (T:Tr SV) (a:Act):Prop where
 size:a.tmps.size=n
 defers:a.defers=[]
 at':∀t sv,T.get (2*t)=some sv→t<n∧∃u,a.tmps[t]? =some u∧sv.den N E=some u
 gl:∀g sv,T.get (2*g+1)=some sv→sv.den N E=some (.pointer (some ⟨g,0,none⟩))
theorem RA.mono {E E':Env}(h:E.le E'){n:Nat}{T:Tr SV}{a:Act}(r:RA N E n T a):RA N E' n T a :=
 ⟨r.size,r.defers,fun t sv e=>let ⟨h1,u,h2,h3⟩:=r.at' t sv e;⟨h1,u,h2,SV.den_mono h h3⟩,fun g sv e=>SV.den_mono h (r.gl g sv e)⟩
theorem RA.put {E:Env}{n:Nat}{T T':Tr SV}{a:Act}(r:RA N E n T a){dst:Option Tmp}{v:Option SV}(h:put n T dst v=some T'){u:Value}
  (hu:∀sv,v=some sv→sv.den N E=some u):RA N E n T' (a.put dst u):=by
 cases dst with
 | none=>simp only[Sy.put,Option.some.injEq] at h;subst h;exact r
 | some d =>
  cases v with
  | none=>cases h
  | some sv =>
   simp only[Sy.put] at h
   cases hb:Nat.blt d n with
   | false=>rw[hb] at h;cases h
   | true =>
    rw[hb] at h
    simp only[cond_true,Option.some.injEq] at h
    subst h
    have hd:d<n:=Nat.blt_eq.mp hb
    refine ⟨by simp[Act.put,r.size],r.defers,fun t sv' e=> ?_,fun g sv' e=>r.gl g sv' (by rw[Tr.get_set,if_neg (by omega)] at e;exact e)⟩
    rw[Tr.get_set] at e
    by_cases ht:t=d
    ·subst ht
     rw[if_pos rfl] at e
     simp only[Option.some.injEq] at e
     subst e
     exact ⟨hd,u,by simp[Act.put,r.size,hd],hu sv rfl⟩
    ·rw [if_neg (by omega)] at e
     obtain ⟨h1,u',h2,h3⟩:=r.at' t sv' e
     exact ⟨h1,u',by simp only[Act.put];rw[Array.getElem?_setIfInBounds_ne (Ne.symm ht)];exact h2,h3⟩
theorem ofCells_den {E:Env}:∀ {vs:List Value} {l:List Sc},ofCells vs=some l→denL N E l=some vs
 | [],l,h=>by simp only[ofCells,Option.some.injEq] at h;subst h;rfl
 | v::vs,l,h=>by
  simp only[ofCells] at h
  cases hc:cellOk v with
  | false=>rw[hc] at h;cases h
  | true =>
   rw[hc] at h
   simp only[cond_true,Option.map_eq_some_iff] at h
   obtain ⟨r,hr,rfl⟩:=h
   exact denL_cons.2 ⟨v,vs,by simp[Sc.den,hc],ofCells_den hr,rfl⟩
theorem ofConst_den {E:Env}{v:Value}{sv:SV}(h:ofConst v=some sv):sv.den N E=some v:=by
 cases v with
 | agg cs =>
  simp only[ofConst,Option.map_eq_some_iff] at h
  obtain ⟨l,hl,rfl⟩:=h
  simp[SV.den,V1.den,ofCells_den hl]
 | tuple _=>cases h
 | _=>simp only[ofConst,Option.some.injEq] at h;subst h;rfl
theorem evalO_den {E:Env}{n:Nat}{T:Tr SV}{a:Act}(r:RA N E n T a){x:Operand}{sv:SV}(h:evalO T x=some sv):sv.den N E=some (a.eval x):=by
 cases x with
 | tmp t =>
  obtain ⟨_,u,h2,h3⟩:=r.at' t sv h
  rw[h3]
  simp[Act.eval,h2]
 | const v=>exact ofConst_den h
 | global g =>
  simp only[evalO] at h
  split at h
  ·rename_i v hv
   simp only[Option.some.injEq] at h
   subst h
   exact r.gl g _ hv
  ·simp only[Option.some.injEq] at h;subst h;rfl
 | func f=>simp only[evalO,Option.some.injEq] at h;subst h;rfl
def Bk.wid (N:Num)(B:Bk)(c:Nat):Nat :=
 match B.arr with
 | none=>B.n
 | some (_,A,g)=>bif g then Nat.max c (N.a A).length else (N.a A).length
def Bk.cont (N:Num)(E:Env)(B:Bk)(s c:Nat)(arr:Array Value):Prop :=
 match B.arr with
 | none=>∀j sc,B.cells.get j=some sc→j<B.n∧∃u,arr[s+j]? =some u∧sc.den N E=some u
 | some (k,A,g)=>(∀ j v,(N.a A)[j]? =some v→arr[s+j]? =some (.int k v))∧(g=true→∀j,(N.a A).length≤j→j<c→arr[s+j]? =some (.int k 0))
structure BW (N:Num) (E:Env) (bks:Tr Bk) (w:World):Prop where
 at':∀i B,bks.get i=some B→∃q s c arr el fz,E.blk i=some (q,s,c)∧w.heap[q]? =some (.cells arr el fz)∧(B.rw=true→fz=(0,0))∧s+B.wid N c≤arr.size∧B.cont N E s c arr
 apart:∀i i' B B' q s s' c c',bks.get i=some B→bks.get i'=some B'→i≠i'→E.blk i=some (q,s,c)→E.blk i'=some (q,s',c')→(B.rw=true∨B'.rw=true)→s+B.wid N c≤s'∨s'+B'.wid N c'≤s
structure Inv (E:Env) (σ:St):Prop where
 freshB:∀b,σ.nb≤b→E.blk b=none
 freshV:∀j,σ.nv≤j→E.val j=none
 glob:∀t sv,σ.gl.get t=some sv→t%2=1∧∃b c,sv= .one (.sc (.ptr b (.kst 0)))∧E.blk b=some (t/2,0,c)
structure Kept (N:Num) (E:Env) (bks:Tr Bk) (w w':World):Prop where
 os:w'.os=w.os
 tape:w'.tape=w.tape
 output:w'.output=w.output
 size:w.heap.size≤w'.heap.size
 block:∀q,q<w.heap.size→(∀ i B s c,bks.get i=some B→B.rw=true→E.blk i=some (q,s,c)→False)→w'.heap[q]? =w.heap[q]?
 part:∀q arr el fz,w.heap[q]? =some (.cells arr el fz)→∃arr',w'.heap[q]? =some (.cells arr' el fz)∧arr'.size=arr.size ∧
  ∀k,(∀ i B s c,bks.get i=some B→B.rw=true→E.blk i=some (q,s,c)→k<s∨s+B.wid N c≤k)→arr'[k]? =arr[k]?
theorem Kept.refl (E:Env)(bks:Tr Bk)(w:World):Kept N E bks w w :=
 ⟨rfl,rfl,rfl,Nat.le_refl _,fun _ _ _=>rfl,fun _ arr _ _ h=>⟨arr,h,rfl,fun _ _=>rfl⟩⟩
structure Post (N:Num) (E:Env) (σ:St) (w:World) (N':Num) (E':Env) (σ':St) (w':World):Prop where
 inv:Inv E' σ'
 le:E.le E'
 bw:BW N' E' σ'.bks w'
 kept:Kept N E σ.bks w w'
 win:∀i B' q s c,σ'.bks.get i=some B'→B'.rw=true→E'.blk i=some (q,s,c)→q<w.heap.size →
  ∃i0 B s0 c0,σ.bks.get i0=some B∧B.rw=true∧E.blk i0=some (q,s0,c0)∧s0≤s∧s+B'.wid N' c≤s0+B.wid N c0
theorem Post.refl {E:Env}{σ:St}{w:World}(hI:Inv E σ)(hb:BW N E σ.bks w):Post N E σ w N E σ w :=
 ⟨hI,E.le_refl,hb,Kept.refl _ _ _,fun i B' _ s c h1 h2 h3 _=>⟨i,B',s,c,h1,h2,h3,Nat.le_refl _,Nat.le_refl _⟩⟩
theorem Post.trans {N1 N2:Num}{E E1 E2:Env}{σ σ1 σ2:St}{w w1 w2:World}(p:Post N E σ w N1 E1 σ1 w1)(p':Post N1 E1 σ1 w1 N2 E2 σ2 w2) :
  Post N E σ w N2 E2 σ2 w2:=by
 have hwin:∀q,(∀ i B s c,σ.bks.get i=some B→B.rw=true→E.blk i=some (q,s,c)→False)→q<w.heap.size →
   ∀i B s c,σ1.bks.get i=some B→B.rw=true→E1.blk i=some (q,s,c)→False:=fun q h hq i B' s c h1 h2 h3=>by
  obtain ⟨i0,B,s0,c0,h4,h5,h6,_⟩:=p.win i B' q s c h1 h2 h3 hq
  exact h i0 B s0 c0 h4 h5 h6
 refine ⟨p'.inv,p.le.trans p'.le,p'.bw,⟨p'.kept.os.trans p.kept.os,p'.kept.tape.trans p.kept.tape,p'.kept.output.trans p.kept.output,
  Nat.le_trans p.kept.size p'.kept.size,fun q hq h=> ?_,fun q arr el fz hq=> ?_⟩,?_⟩
 ·rw [p'.kept.block q (Nat.lt_of_lt_of_le hq p.kept.size) (hwin q h hq),p.kept.block q hq h]
 ·obtain ⟨arr1,h1,h2,h3⟩:=p.kept.part q arr el fz hq
  obtain ⟨arr2,h4,h5,h6⟩:=p'.kept.part q arr1 el fz h1
  have hlt:q<w.heap.size:=by
   rcases Nat.lt_or_ge q w.heap.size with h | h
   ·exact h
   ·rw [Array.getElem?_eq_none h] at hq;cases hq
  refine ⟨arr2,h4,h5.trans h2,fun k hk=> ?_⟩
  rw[h6 k (fun i B' s c e1 e2 e3=> ?_),h3 k hk]
  obtain ⟨i0,B,s0,c0,e4,e5,e6,e7,e8⟩:=p.win i B' q s c e1 e2 e3 hlt
  have:=hk i0 B s0 c0 e4 e5 e6
  omega
 ·intro i B' q s c h1 h2 h3 h4
  obtain ⟨i1,B1,s1,c1,h5,h6,h7,h8,h9⟩:=p'.win i B' q s c h1 h2 h3 (Nat.lt_of_lt_of_le h4 p.kept.size)
  obtain ⟨i0,B,s0,c0,h10,h11,h12,h13,h14⟩:=p.win i1 B1 q s1 c1 h5 h6 h7 h4
  exact ⟨i0,B,s0,c0,h10,h11,h12,by omega,by omega⟩
theorem Bk.cont_mono {E E':Env}(h:E.le E'){B:Bk}{s c:Nat}{arr:Array Value}(hc:B.cont N E s c arr):B.cont N E' s c arr:=by
 unfold Bk.cont at *
 cases hB:B.arr with
 | none=>rw[hB] at hc;exact fun j sc e=>let ⟨g1,u,g2,g3⟩:=hc j sc e;⟨g1,u,g2,Sc.den_mono h g3⟩
 | some x=>rw[hB] at hc;exact hc
theorem BW.mono {E E':Env}(h:E.le E'){bks:Tr Bk}{w:World}(hI:BW N E bks w):BW N E' bks w:=by
 refine ⟨fun i B hB=> ?_,fun i i' B B' q s s' c c' h1 h2 h3 h4 h5 h6=> ?_⟩
 ·obtain ⟨q,s,c,arr,el,fz,h1,h2,h3,h4,h5⟩:=hI.at' i B hB
  exact ⟨q,s,c,arr,el,fz,h.blk _ _ h1,h2,h3,h4,Bk.cont_mono h h5⟩
 ·obtain ⟨q1,s1,c1,_,_,_,g1,_⟩:=hI.at' i B h1
  obtain ⟨q2,s2,c2,_,_,_,g2,_⟩:=hI.at' i' B' h2
  have e1:=h.blk _ _ g1
  have e2:=h.blk _ _ g2
  rw[h4] at e1;rw[h5] at e2
  simp only[Option.some.injEq,Prod.mk.injEq] at e1 e2
  obtain ⟨rfl,rfl,rfl⟩:=e1
  obtain ⟨rfl,rfl,rfl⟩:=e2
  exact hI.apart i i' B B' _ _ _ _ _ h1 h2 h3 g1 g2 h6
end
section
variable {F:Fns} {N:Num} {E:Env}
theorem ar_den {x:Sc}{k:IntKind}{a:Ar}{u:Value}(h:x.ar=some (k,a))(hd:x.den N E=some u):u= .int k (a.ev N):=by
 cases x with
 | kst v =>
  cases v <;> simp only[Sc.ar,reduceCtorEq] at h
  rename_i k' n
  simp only[Option.some.injEq,Prod.mk.injEq] at h
  obtain ⟨rfl,rfl⟩:=h
  simp only[Sc.den,cellOk,cond_true,Option.some.injEq] at hd
  exact hd.symm
 | num k' x =>
  simp only[Sc.ar,Option.some.injEq,Prod.mk.injEq] at h
  obtain ⟨rfl,rfl⟩:=h
  simp only[Sc.den,Option.some.injEq] at hd
  exact hd.symm
 | boo x=>cases h
 | str A=>cases h
 | opq j=>cases h
 | ptr b off=>cases h
 | sl b off len cap=>cases h
 | emp j=>cases h
theorem kindB_eq {a b:IntKind}(h:kindB a b=true):a=b:=by cases a <;> cases b <;> first | rfl | cases h
structure Pur (σ σ':St):Prop where
 ext:Ext σ σ'
 bks:σ'.bks=σ.bks
 nb:σ'.nb=σ.nb
 nv:σ'.nv=σ.nv
theorem Pur.refl (σ:St):Pur σ σ:=⟨Ext.refl σ,rfl,rfl,rfl⟩
theorem Pur.trans {a b c:St}(h:Pur a b)(k:Pur b c):Pur a c:=⟨h.ext.trans k.ext,k.bks.trans h.bks,k.nb.trans h.nb,k.nv.trans h.nv⟩
theorem Pur.mk1 (σ:St)(nd:Nd):Pur σ (σ.mk1 nd):=⟨Ext.mk1 σ nd,rfl,rfl,rfl⟩
theorem Pur.ob (σ:St)(o:Ob):Pur σ (σ.ob o):=⟨Ext.ob σ o,rfl,rfl,rfl⟩
theorem le_pur {σ σ':St}{a b:Ar}(h:σ.le a b=some σ'):Pur σ σ':=by
 cases a <;> cases b <;> simp only[St.le] at h
 case kst.kst n m =>
  cases hd:decide (n≤m) with
  | false=>rw[hd] at h;cases h
  | true=>rw[hd] at h;simp only[cond_true,Option.some.injEq] at h;subst h;exact Pur.refl _
 all_goals (simp only[Option.some.injEq] at h;subst h;exact Pur.ob _ _)
theorem le_holds {σ σ':St}{a b:Ar}(h:σ.le a b=some σ')(hH:Hold F N σ'):a.ev N≤b.ev N:=by
 cases a <;> cases b <;> simp only[St.le] at h
 case kst.kst n m =>
  cases hd:decide (n≤m) with
  | false=>rw[hd] at h;cases h
  | true=>exact of_decide_eq_true hd
 all_goals (simp only[Option.some.injEq] at h;subst h;exact hH.ob)
theorem lt_pur {σ σ':St}{a b:Ar}(h:σ.lt a b=some σ'):Pur σ σ':=by
 cases a <;> cases b <;> simp only[St.lt] at h
 case kst.kst n m =>
  cases hd:decide (n<m) with
  | false=>rw[hd] at h;cases h
  | true=>rw[hd] at h;simp only[cond_true,Option.some.injEq] at h;subst h;exact Pur.refl _
 all_goals (simp only[Option.some.injEq] at h;subst h;exact Pur.ob _ _)
theorem lt_holds {σ σ':St}{a b:Ar}(h:σ.lt a b=some σ')(hH:Hold F N σ'):a.ev N<b.ev N:=by
 cases a <;> cases b <;> simp only[St.lt] at h
 case kst.kst n m =>
  cases hd:decide (n<m) with
  | false=>rw[hd] at h;cases h
  | true=>exact of_decide_eq_true hd
 all_goals (simp only[Option.some.injEq] at h;subst h;exact hH.ob)
theorem eq_pur {σ σ':St}{a b:Ar}(h:σ.eq a b=some σ'):Pur σ σ':=by
 cases a <;> cases b <;> simp only[St.eq] at h
 case kst.kst n m =>
  cases hd:decide (n=m) with
  | false=>rw[hd] at h;cases h
  | true=>rw[hd] at h;simp only[cond_true,Option.some.injEq] at h;subst h;exact Pur.refl _
 all_goals (simp only[Option.some.injEq] at h;subst h;exact Pur.ob _ _)
theorem eq_holds {σ σ':St}{a b:Ar}(h:σ.eq a b=some σ')(hH:Hold F N σ'):a.ev N=b.ev N:=by
 cases a <;> cases b <;> simp only[St.eq] at h
 case kst.kst n m =>
  cases hd:decide (n=m) with
  | false=>rw[hd] at h;cases h
  | true=>exact of_decide_eq_true hd
 all_goals (simp only[Option.some.injEq] at h;subst h;exact hH.ob)
theorem lin_pur {σ:St}{a b:Ar}{c:Int}:Pur σ (lin a b c σ).2:=by
 cases a with
 | kst n=>cases b with
  | kst m=>exact Pur.refl _
  | var y=>exact Pur.mk1 _ _
 | var x=>cases b with
  | kst m =>
   simp only[lin]
   cases (m==0) with
   | true=>exact Pur.refl _
   | false=>exact Pur.mk1 _ _
  | var y=>exact Pur.mk1 _ _
theorem lin_ev {σ:St}{a b:Ar}{c:Int}(hH:Hold F N (lin a b c σ).2):(lin a b c σ).1.ev N=a.ev N+b.ev N*c:=by
 cases a with
 | kst n =>
  cases b with
  | kst m=>rfl
  | var y=>exact hH.mk1
 | var x =>
  cases b with
  | kst m =>
   simp only[lin] at hH ⊢
   cases hz:(m==0) with
   | true =>
    have:m=0:=by simpa using hz
    subst this
    simp[Ar.ev]
   | false =>
    rw[hz] at hH
    exact hH.mk1
  | var y=>exact hH.mk1
theorem beq_ff_iff {y:Int}:(y==0)=false→y≠0:=by intro h e;subst e;cases h
theorem iop_run {P:Program}{op:BinOp}{k:IntKind}{a:Int}{b:Ar}(h:symOk op b=true)(hs:notShift op=true)(t:TypeId)(w:World) :
  (binOp op t (.int k a) (.int k (b.ev N))).run P w= .ok (.int k (iop op k a (b.ev N))) w:=by
 cases op <;> simp only[symOk,notShift,Bool.false_eq_true] at h hs
 case add=>simp[binOp,Op.intArith,iop]
 case sub=>simp[binOp,Op.intArith,iop]
 case mul=>simp[binOp,Op.intArith,iop]
 case and=>simp[binOp,Op.intBits,iop]
 case or=>simp[binOp,Op.intBits,iop]
 case xor=>simp[binOp,Op.intBits,iop]
 case andNot=>simp[binOp,Op.intBits,iop]
 case quo=>cases b with
  | var _=>cases h
  | kst n =>
   have:(n==0)=false:=by simpa using h
   simp[binOp,Op.intDiv,beq_ff_iff this,Ar.ev,iop]
 case rem=>cases b with
  | var _=>cases h
  | kst n =>
   have:(n==0)=false:=by simpa using h
   simp[binOp,Op.intDiv,beq_ff_iff this,Ar.ev,iop]
theorem iop_run_shift {P:Program}{op:BinOp}{k yk:IntKind}{a:Int}{b:Ar}(h:symOk op b=true)(hs:notShift op=false)(t:TypeId)(w:World) :
  (binOp op t (.int k a) (.int yk (b.ev N))).run P w= .ok (.int k (iop op k a (b.ev N))) w:=by
 cases op <;> simp only[notShift,reduceCtorEq] at hs
 all_goals
  cases b with
  | var _=>cases h
  | kst n =>
   have h':decide (n<0)=false:=by simpa [symOk] using h
   have:¬n<0:=by simpa using h'
   simp[binOp,Op.shift,this,Ar.ev,iop]
theorem icmp_run {P:Program}{op:BinOp}{k:IntKind}{a b:Int}(h:cmpOk op=true)(t:TypeId)(w:World) :
  (binOp op t (.int k a) (.int k b)).run P w= .ok (.bool (icmp op a b)) w:=by
 cases op <;> simp only[cmpOk,Bool.false_eq_true] at h <;> simp[binOp,Op.intCmp,icmp]
theorem binI_pur {σ σ':St}{op:BinOp}{k:IntKind}{a b:Ar}{v:Sc}(h:binI op k a b σ=some (v,σ')):Pur σ σ':=by
 unfold binI at h
 cases hs:symOk op b with
 | false=>rw[hs] at h;cases h
 | true =>
  rw[hs] at h
  simp only[cond_true] at h
  split at h
  ·simp only[Option.some.injEq,Prod.mk.injEq] at h;rw[←h.2];exact Pur.refl _
  ·simp only[Option.some.injEq,Prod.mk.injEq] at h;rw[←h.2];exact Pur.mk1 _ _
theorem binI_sound {σ σ':St}{op:BinOp}{k:IntKind}{a b:Ar}{v:Sc}(h:binI op k a b σ=some (v,σ'))(hH:Hold F N σ') :
  symOk op b=true∧v.den N E=some (.int k (iop op k (a.ev N) (b.ev N))):=by
 unfold binI at h
 cases hs:symOk op b with
 | false=>rw[hs] at h;cases h
 | true =>
  rw[hs] at h
  simp only[cond_true] at h
  refine ⟨rfl,?_⟩
  split at h
  ·simp only[Option.some.injEq,Prod.mk.injEq] at h;rw[←h.1];rfl
  ·simp only[Option.some.injEq,Prod.mk.injEq] at h
   obtain ⟨rfl,rfl⟩:=h
   simp only[Sc.den,hH.mk1,Nd.ev]
theorem cmpI_pur {σ:St}{op:BinOp}{a b:Ar}:Pur σ (cmpI op a b σ).2:=by
 unfold cmpI
 split
 ·exact Pur.refl _
 ·exact Pur.mk1 _ _
theorem cmpI_sound {σ:St}{op:BinOp}{a b:Ar}(hH:Hold F N (cmpI op a b σ).2):(cmpI op a b σ).1.den N E=some (.bool (icmp op (a.ev N) (b.ev N))):=by
 have sym:∀ {a b:Ar},Hold F N (σ.mk1 (.cmp op a b))→(Sc.boo σ.nx).den N E=some (.bool (icmp op (a.ev N) (b.ev N))):=fun {a b} hH=>by
  simp only[Sc.den,hH.mk1,Nd.ev]
  cases icmp op (a.ev N) (b.ev N) <;> rfl
 cases a <;> cases b
 case kst.kst=>rfl
 all_goals exact sym hH
theorem run_equalIn_bool {P:Program}{t:TypeId}(ht:P.underlying t=some .bool)(d:Nat)(a b:Bool)(w:World):(Op.equalIn (d+1) t (.bool a) (.bool b)).run P w= .ok (a==b) w:=by
 simp[Op.equalIn,run_underlying ht]
theorem run_equal_bool {P:Program}{t:TypeId}(ht:P.underlying t=some .bool)(a b:Bool)(w:World):(Op.equal t (.bool a) (.bool b)).run P w= .ok (a==b) w :=
 run_equalIn_bool ht 9999 a b w
theorem eqGuard_int {P:Program}(op:BinOp)(t:TypeId)(xo yo:Operand)(k:IntKind)(n:Int)(v:Value)(w:World)(r:Value)(h:(binOp op t (.int k n) v).run P w= .ok r w) :
  ((do eqGuard op t xo yo (.int k n) v;binOp op t (.int k n) v:Sem Value)).run P w= .ok r w:=by
 rw[eqGuard_at_int];exact h
theorem doBin_pur {σ σ':St}{op:BinOp}{xt:TypeId}{x y v:Sc}{P:Program}(h:doBin P op xt x y σ=some (v,σ')):Pur σ σ':=by
 unfold doBin at h
 split at h
 ·cases hs:notShift op with
  | false=>rw[hs] at h;exact binI_pur h
  | true =>
   rw[hs] at h
   rename_i k _ k' _ _ _
   cases hk:kindB k k' with
   | false=>rw[hk] at h;cases h
   | true =>
    rw[hk] at h
    cases hc:cmpOk op with
    | false=>rw[hc] at h;exact binI_pur h
    | true =>
     rw[hc] at h
     simp only[cond_true,Option.some.injEq] at h
     have e:_=σ':=congrArg Prod.snd h
     rw[←e];exact cmpI_pur
 ·split at h
  ·unfold boolI at h
   split at h <;> first | (simp only[Option.some.injEq,Prod.mk.injEq] at h;rw[←h.2];exact Pur.refl _) | cases h
  ·cases h
theorem doBin_sound {σ σ':St}{op:BinOp}{xt:TypeId}{x y v:Sc}{u u':Value}{P:Program}(h:doBin P op xt x y σ=some (v,σ'))(hx:x.den N E=some u)(hy:y.den N E=some u')
  (hH:Hold F N σ'):∃r,v.den N E=some r∧∀xo yo w,((do eqGuard op xt xo yo u u';binOp op xt u u':Sem Value)).run P w= .ok r w:=by
 unfold doBin at h
 split at h
 ·rename_i k a k' b hxa hya
  have e1:=ar_den hxa hx
  have e2:=ar_den hya hy
  subst e1;subst e2
  cases hs:notShift op with
  | false =>
   rw[hs] at h
   obtain ⟨h1,h2⟩:=binI_sound (E:=E) h hH
   exact ⟨_,h2,fun xo yo w=>eqGuard_int _ _ _ _ _ _ _ _ _ (iop_run_shift h1 hs xt w)⟩
  | true =>
   rw[hs] at h
   cases hk:kindB k k' with
   | false=>rw[hk] at h;cases h
   | true =>
    have:=kindB_eq hk;subst this
    rw[hk] at h
    cases hc:cmpOk op with
    | false =>
     rw[hc] at h
     obtain ⟨h1,h2⟩:=binI_sound (E:=E) h hH
     exact ⟨_,h2,fun xo yo w=>eqGuard_int _ _ _ _ _ _ _ _ _ (iop_run h1 hs xt w)⟩
    | true =>
     rw[hc] at h
     simp only[cond_true,Option.some.injEq] at h
     have hH':Hold F N (cmpI op a b σ).2:=by rw[h];exact hH
     have:=cmpI_sound (E:=E) hH'
     rw[h] at this
     exact ⟨_,this,fun xo yo w=>eqGuard_int _ _ _ _ _ _ _ _ _ (icmp_run hc xt w)⟩
 ·split at h
  ·rename_i a b ht _
   simp only[Sc.den,cellOk,cond_true,Option.some.injEq] at hx hy
   subst hx;subst hy
   cases op <;> simp only[boolI,reduceCtorEq,Option.some.injEq,Prod.mk.injEq] at h
   ·obtain ⟨rfl,rfl⟩:=h
    exact ⟨_,rfl,fun xo yo w=>by rw[eqGuard_at_bool];simp[binOp,run_equal_bool ht]⟩
   ·obtain ⟨rfl,rfl⟩:=h
    exact ⟨_,rfl,fun xo yo w=>by rw[eqGuard_at_bool];simp[binOp,run_equal_bool ht]⟩
  ·cases h
theorem doUn_pur {σ σ':St}{op:UnOp}{x v:Sc}(h:doUn op x σ=some (v,σ')):Pur σ σ':=by
 unfold doUn at h
 split at h
 ·simp only[Option.some.injEq,Prod.mk.injEq] at h;rw[←h.2];exact Pur.refl _
 ·simp only[Option.some.injEq,Prod.mk.injEq] at h;rw[←h.2];exact Pur.mk1 _ _
 ·split at h
  ·exact binI_pur h
  ·cases h
 ·split at h
  ·exact binI_pur h
  ·cases h
 ·cases h
theorem doUn_sound {σ σ':St}{op:UnOp}{x v:Sc}{u:Value}(P:Program)(h:doUn op x σ=some (v,σ'))(hx:x.den N E=some u)
  (hH:Hold F N σ'):∃r,v.den N E=some r∧∀w,(Op.unary op u).run P w= .ok r w:=by
 unfold doUn at h
 split at h
 ·rename_i b
  simp only[Sc.den,cellOk,cond_true,Option.some.injEq] at hx
  subst hx
  simp only[Option.some.injEq,Prod.mk.injEq] at h
  obtain ⟨rfl,rfl⟩:=h
  exact ⟨_,rfl,fun w=>by simp[Op.unary]⟩
 ·rename_i x
  simp only[Sc.den,Option.some.injEq] at hx
  subst hx
  simp only[Option.some.injEq,Prod.mk.injEq] at h
  obtain ⟨rfl,rfl⟩:=h
  refine ⟨_,rfl,fun w=> ?_⟩
  simp only[Op.unary,Sem.run_pure,hH.mk1,Nd.ev,icmp,Ar.ev]
  cases N.i x==0 <;> rfl
 ·split at h
  ·rename_i k a hxa
   have e:=ar_den hxa hx
   subst e
   exact ⟨_,(binI_sound h hH).2,fun w=>rfl⟩
  ·cases h
 ·split at h
  ·rename_i k a hxa
   have e:=ar_den hxa hx
   subst e
   exact ⟨_,(binI_sound h hH).2,fun w=>rfl⟩
  ·cases h
 ·cases h
theorem doConv_pur {σ σ':St}{k:IntKind}{x v:Sc}(h:doConv k x σ=some (v,σ')):Pur σ σ':=by
 unfold doConv at h
 split at h
 ·simp only[Option.some.injEq,Prod.mk.injEq] at h;rw[←h.2];exact Pur.refl _
 ·simp only[Option.some.injEq,Prod.mk.injEq] at h;rw[←h.2];exact Pur.mk1 _ _
 ·cases h
theorem doConv_sound {σ σ':St}{k:IntKind}{x v:Sc}{u:Value}{P:Program}(h:doConv k x σ=some (v,σ'))(hx:x.den N E=some u)
  {s d:TypeId} {td:TypeDesc} (hs:P.underlying s=some td) (hd:P.underlying d=some (.int k))
  (hH:Hold F N σ'):∃r,v.den N E=some r∧∀w,(convert s d u).run P w= .ok r w:=by
 have run:∀(k':IntKind) (n:Int) (w:World),(convert s d (.int k' n)).run P w= .ok (.int k (k.wrap n)) w:=fun k' n w=>by
  simp[convert,run_underlying hs,run_underlying hd,Conv.intToInt]
 unfold doConv at h
 split at h
 ·rename_i k' n hxa
  have e:=ar_den hxa hx
  subst e
  simp only[Option.some.injEq,Prod.mk.injEq] at h
  obtain ⟨rfl,rfl⟩:=h
  exact ⟨_,rfl,run _ _⟩
 ·rename_i k' y hxa
  have e:=ar_den hxa hx
  subst e
  simp only[Option.some.injEq,Prod.mk.injEq] at h
  obtain ⟨rfl,rfl⟩:=h
  exact ⟨.int k (k.wrap (N.i y)),by simp only[Sc.den,hH.mk1,Nd.ev,Ar.ev],run _ _⟩
 ·cases h
end
section
variable {P:Program} {F:Fns} {N:Num}
theorem run_isAgg {t:TypeId}{b:Bool}(h:isAggB P t=some b)(w:World):(isAgg t).run P w= .ok b w:=by
 unfold isAggB at h
 unfold isAgg
 split at h
 ·rename_i fs hu;cases h;simp[run_underlying hu]
 ·rename_i n e hu;cases h;simp[run_underlying hu]
 ·rename_i d h1 h2 hu
  cases h
  simp only[Sem.run_bind,run_underlying hu,Result.andThen_ok]
  cases d <;> first | rfl | exact absurd rfl (h1 _) | exact absurd rfl (h2 _ _)
 ·cases h
theorem run_typeInfo {t:TypeId}{i:TypeInfo}(h:P.info? t=some i)(w:World):(typeInfo t).run P w= .ok i w:=by
 simp[typeInfo,h]
theorem run_sizeOf {t:TypeId}{n:Nat}(h:sizeB P t=some n)(w:World):(sizeOf t).run P w= .ok n w:=by
 simp only[sizeB,Option.map_eq_some_iff] at h
 obtain ⟨i,hi,rfl⟩:=h
 simp[sizeOf,run_typeInfo hi]
theorem zeroB_run {t:TypeId}{l:List Sc}(h:zeroB P t=some l):∃z,(∀ w,(zeroValue t).run P w= .ok z w)∧∀E,denL N E l=some z.cells.toList:=by
 unfold zeroB at h
 split at h
 ·rename_i i hi
  split at h
  ·rename_i z hz
   exact ⟨z,fun w=>by simp[zeroValue,run_typeInfo hi,hz],fun E=>ofCells_den h⟩
  ·cases h
 ·cases h
theorem run_fieldPlace {q o:Nat}{f:Field}{n:Nat}(h:sizeB P f.type=some n)(hn:n≠0)(w:World):(fieldPlace ⟨q,o,none⟩ f).run P w= .ok ⟨q,o+f.offset,none⟩ w:=by
 simp[fieldPlace,run_sizeOf h,hn,Addr.add_lit]
theorem sget_den {E:Env}:∀ {l:List Sc} {vs:List Value} {k:Nat} {x:Sc},denL N E l=some vs→sget l k=some x→∃v,vs[k]? =some v∧x.den N E=some v
 | [],_,_,_,_,h=>by cases h
 | y::l,vs,0,x,hd,h=>by
  obtain ⟨v,r,hv,hr,rfl⟩:=denL_cons.1 hd
  simp only[sget,Option.some.injEq] at h
  subst h
  exact ⟨v,rfl,hv⟩
 | y::l,vs,k+1,x,hd,h=>by
  obtain ⟨v,r,hv,hr,rfl⟩:=denL_cons.1 hd
  obtain ⟨u,h1,h2⟩:=sget_den hr h
  exact ⟨u,h1,h2⟩
theorem vget_den {E:Env}:∀ {l:List V1} {vs:List Value} {k:Nat} {x:V1},denL1 N E l=some vs→vget l k=some x→∃v,vs[k]? =some v∧x.den N E=some v
 | [],_,_,_,_,h=>by cases h
 | y::l,vs,0,x,hd,h=>by
  obtain ⟨v,r,hv,hr,rfl⟩:=denL1_cons.1 hd
  simp only[vget,Option.some.injEq] at h
  subst h
  exact ⟨v,rfl,hv⟩
 | y::l,vs,k+1,x,hd,h=>by
  obtain ⟨v,r,hv,hr,rfl⟩:=denL1_cons.1 hd
  obtain ⟨u,h1,h2⟩:=vget_den hr h
  exact ⟨u,h1,h2⟩
theorem ldrop_den {E:Env}:∀ {l:List Sc} {vs:List Value} (k:Nat),denL N E l=some vs→denL N E (ldrop l k)=some (vs.drop k)
 | l,vs,0,hd=>by cases l <;> simpa [ldrop] using hd
 | [],vs,k+1,hd=>by simp only[denL,Option.some.injEq] at hd;subst hd;simp[ldrop,denL]
 | y::l,vs,k+1,hd=>by
  obtain ⟨v,r,hv,hr,rfl⟩:=denL_cons.1 hd
  simpa [ldrop] using ldrop_den k hr
theorem ltake_den {E:Env}:∀ {l:List Sc} {vs:List Value} (k:Nat),denL N E l=some vs→denL N E (ltake l k)=some (vs.take k)
 | l,vs,0,_=>by cases l <;> simp[ltake,denL]
 | [],vs,k+1,hd=>by simp only[denL,Option.some.injEq] at hd;subst hd;simp[ltake,denL]
 | y::l,vs,k+1,hd=>by
  obtain ⟨v,r,hv,hr,rfl⟩:=denL_cons.1 hd
  exact denL_cons.2 ⟨v,r.take k,hv,ltake_den k hr,rfl⟩
theorem partS_run {E:Env}{t:TypeId}{l:List Sc}{off:Nat}{x:V1}{vs:List Value}(h:partS P t l off=some x)(hd:denL N E l=some vs) :
  ∃u,x.den N E=some u∧∀w,(part t vs.toArray off).run P w= .ok u w:=by
 unfold partS at h
 split at h
 ·rename_i n ha hs
  cases h
  refine ⟨.agg (((vs.drop off).take n).toArray),by simp[V1.den,ltake_den n (ldrop_den off hd)],fun w=> ?_⟩
  simp[part,run_isAgg ha,run_sizeOf hs,List.extract_eq_take_drop]
 ·rename_i ha
  simp only[Option.map_eq_some_iff] at h
  obtain ⟨y,hy,rfl⟩:=h
  obtain ⟨v,h1,h2⟩:=sget_den hd hy
  exact ⟨v,h2,fun w=>by simp[part,run_isAgg ha,h1]⟩
 ·cases h
theorem lset_den {E:Env}{x:Sc}{u:Value}(hx:x.den N E=some u):∀ {l:List Sc} {vs:List Value} (k:Nat),denL N E l=some vs→denL N E (lset l k x)=some (vs.set k u)
 | [],vs,k,hd=>by simp only[denL,Option.some.injEq] at hd;subst hd;cases k <;> simp[lset,denL]
 | y::l,vs,0,hd=>by
  obtain ⟨v,r,hv,hr,rfl⟩:=denL_cons.1 hd
  exact denL_cons.2 ⟨u,r,hx,hr,rfl⟩
 | y::l,vs,k+1,hd=>by
  obtain ⟨v,r,hv,hr,rfl⟩:=denL_cons.1 hd
  exact denL_cons.2 ⟨v,r.set k u,hv,lset_den hx k hr,rfl⟩
theorem lsetL_den {E:Env}:∀ {r:List Sc} {us:List Value} {l:List Sc} {cs:Array Value} (off j:Nat),denL N E r=some us→denL N E l=some cs.toList →
  denL N E (lsetL l (off+j) r)=some ((us.zipIdx j).foldl (fun (cs:Array Value) (p:Value×Nat)=>cs.setIfInBounds (off+p.2) p.1) cs).toList
 | [],us,l,cs,off,j,hr,hl=>by simp only[denL,Option.some.injEq] at hr;subst hr;simpa [lsetL] using hl
 | x::r,us,l,cs,off,j,hr,hl=>by
  obtain ⟨v,r',hv,hr',rfl⟩:=denL_cons.1 hr
  simp only[lsetL,List.zipIdx_cons,List.foldl_cons]
  exact lsetL_den off (j+1) hr' (by simpa using lset_den hv (off+j) hl)
theorem fillS_run {E:Env}{place:Nat→Option (Nat×Nat)}:∀ {ps:List (Nat×List Sc)} {l l':List Sc} {cs:Array Value} {vs:List (Nat×Value)},fillS place l ps=some l'→denL N E l=some cs.toList →
  ps.length=vs.length→(∀ (k:Nat) (p:Nat×List Sc) (q:Nat×Value),ps[k]? =some p→vs[k]? =some q→p.1=q.1∧denL N E p.2=some q.2.cells.toList) →
  ∃cs',Instr.fill place cs vs=some cs'∧denL N E l'=some cs'.toList
 | [],l,l',cs,vs,h,hl,hlen,hps=>by
  simp only[fillS,Option.some.injEq] at h;subst h
  have:vs=[]:=by cases vs <;> simp at hlen ⊢
  subst this
  exact ⟨cs,rfl,hl⟩
 | (i,v)::rest,l,l',cs,vs,h,hl,hlen,hps=>by
  cases vs with
  | nil=>simp at hlen
  | cons q vs =>
   obtain ⟨rfl,hv⟩:=hps 0 (i,v) q rfl rfl
   simp only[fillS] at h
   simp only[Instr.fill]
   cases hp:place q.1 with
   | none=>rw[hp] at h;cases h
   | some os =>
    obtain ⟨off,size⟩:=os
    rw[hp] at h
    simp only at h ⊢
    cases hb:(Nat.beq v.length size&&Nat.ble (off+v.length) l.length) with
    | false=>rw[hb] at h;cases h
    | true =>
     rw[hb] at h
     simp only[cond_true] at h
     simp only[Bool.and_eq_true] at hb
     have e1:v.length=size:=Nat.eq_of_beq_eq_true hb.1
     have e2:off+v.length≤l.length:=Nat.le_of_ble_eq_true hb.2
     have e3:=denL_length hv
     have e4:=denL_length hl
     simp only[Array.length_toList] at e3 e4
     have hc:(decide (q.2.cells.size≠size)||decide (off+q.2.cells.size>cs.size))=false:=by simp;omega
     simp only[ne_eq,decide_not,gt_iff_lt] at hc ⊢
     rw[if_neg (by rw[Bool.not_eq_true];simpa using hc)]
     refine fillS_run h ?_ (by simpa using hlen) (fun k p q' h1 h2=>hps (k+1) p q' h1 h2)
     have:=lsetL_den (off:=off) (j:=0) hv hl
     rw[Nat.add_zero] at this
     rw[this,←Array.foldl_toList,Array.toList_zipIdx]
theorem placesB_run:∀ {fs:List Field} {pl:List (Nat×Nat)},placesB P fs=some pl→∀w,(fs.mapM fun f=>do pure (f.offset,←sizeOf f.type):Sem (List (Nat×Nat))).run P w= .ok pl w
 | [],pl,h,w=>by simp only[placesB,Option.some.injEq] at h;subst h;simp
 | f::r,pl,h,w=>by
  simp only[placesB] at h
  split at h
  ·rename_i n hn
   simp only[Option.map_eq_some_iff] at h
   obtain ⟨p,hp,rfl⟩:=h
   have:=placesB_run hp w
   simp only[List.mapM_cons,Sem.run_bind,run_sizeOf hn,Result.andThen_ok,Sem.run_pure,this]
  ·cases h
theorem nget_eq:∀(l:List (Nat×Nat)) (k:Nat),nget l k=l[k]?
 | [],_=>by simp[nget]
 | _::_,0=>rfl
 | _::l,k+1=>by simp[nget,nget_eq l k]
theorem partsS_den {E:Env}{n:Nat}{T:Tr SV}{a:Act}(r:RA N E n T a):∀ {ps:List (Nat×Operand)} {l:List (Nat×List Sc)},partsS T ps=some l →
  l.length=ps.length∧∀(k:Nat) (p:Nat×List Sc) (q:Nat×Value),l[k]? =some p→(ps.map fun (i,x)=>(i,a.eval x))[k]? =some q→p.1=q.1∧denL N E p.2=some q.2.cells.toList
 | [],l,h=>by simp only[partsS,Option.some.injEq] at h;subst h;exact ⟨rfl,fun k p q h=>by cases h⟩
 | (i,x)::ps,l,h=>by
  simp only[partsS] at h
  split at h
  ·rename_i v hv
   simp only[Option.map_eq_some_iff] at h
   obtain ⟨l',hl',rfl⟩:=h
   obtain ⟨h1,h2⟩:=partsS_den r hl'
   refine ⟨by simp[h1],fun k p q hk hq=> ?_⟩
   cases k with
   | zero =>
    simp only[List.getElem?_cons_zero,Option.some.injEq] at hk
    simp only[List.map_cons,List.getElem?_cons_zero,Option.some.injEq] at hq
    subst hk;subst hq
    exact ⟨rfl,V1.den_cells (evalO_den r hv)⟩
   | succ k=>exact h2 k p q (by simpa using hk) (by simpa using hq)
  ·cases h
theorem arsN_get {t:Tr Sc}{k:IntKind}:∀ {n o:Nat} {l:List Ar},arsN t k o n=some l→l.length=n∧∀j,j<n→∃x a,t.get (o+j)=some x∧x.ar=some (k,a)∧l[j]? =some a
 | 0,o,l,h=>by simp only[arsN,Option.some.injEq] at h;subst h;exact ⟨rfl,fun j hj=>by omega⟩
 | n+1,o,l,h=>by
  simp only[arsN] at h
  split at h
  ·rename_i x hx
   split at h
   ·rename_i k' a ha
    cases hk:kindB k k' with
    | false=>rw[hk] at h;cases h
    | true =>
     rw[hk] at h
     simp only[cond_true] at h
     have:=kindB_eq hk;subst this
     split at h
     ·rename_i l' hl'
      simp only[Option.some.injEq] at h
      subst h
      obtain ⟨h1,h2⟩:=arsN_get hl'
      refine ⟨by simp[h1],fun j hj=> ?_⟩
      cases j with
      | zero=>exact ⟨x,a,hx,ha,rfl⟩
      | succ j =>
       obtain ⟨y,b,h3,h4,h5⟩:=h2 j (by omega)
       exact ⟨y,b,by rw[show o+(j+1)=o+1+j by omega];exact h3,h4,by simpa using h5⟩
     ·cases h
   ·cases h
  ·cases h
theorem load1_pur {σ σ':St}{b:Nat}{off:Ar}{x:Sc}(h:σ.load1 b off=some (x,σ')):Pur σ σ':=by
 simp only[St.load1] at h
 split at h
 ·split at h
  ·split at h
   ·simp only[Option.map_eq_some_iff,Prod.mk.injEq] at h;obtain ⟨_,_,_,rfl⟩:=h;exact Pur.refl _
   ·split at h
    ·split at h
     ·split at h
      ·rename_i σ1 hσ1
       simp only[Option.some.injEq,Prod.mk.injEq] at h
       rw[←h.2]
       simp only[Option.bind_eq_some_iff] at hσ1
       obtain ⟨σ2,h1,h2⟩:=hσ1
       exact ((le_pur h1).trans (lt_pur h2)).trans (Pur.mk1 _ _)
      ·cases h
     ·cases h
    ·cases h
  ·simp only[Option.some.injEq,Prod.mk.injEq] at h
   rw[←h.2]
   exact (Pur.ob _ _).trans (Pur.mk1 _ _)
 ·cases h
theorem load1_at {E:Env}{σ σ':St}{b:Nat}{off:Ar}{x:Sc}{w:World}(h:σ.load1 b off=some (x,σ'))(hH:Hold F N σ')(hw:BW N E σ.bks w) :
  ∃q s c u,E.blk b=some (q,s,c)∧x.den N E=some u∧w.cell? ⟨q,s+(off.ev N).toNat,none⟩=some u:=by
 simp only[St.load1] at h
 split at h
 ·rename_i B hB
  obtain ⟨q,s,c,arr,el,fz,g1,g2,g3,g4,g5⟩:=hw.at' b B hB
  have cell:∀o u,arr[s+o]? =some u→w.cell? ⟨q,s+o,none⟩=some u:=fun o u hu=>by simp[World.cell?,g2,hu]
  split at h
  ·rename_i harr
   unfold Bk.cont at g5
   rw[harr] at g5
   simp only at g5
   split at h
   ·rename_i o
    simp only[Option.map_eq_some_iff,Prod.mk.injEq] at h
    obtain ⟨y,hy,rfl,rfl⟩:=h
    obtain ⟨_,u,h1,h2⟩:=g5 _ _ hy
    exact ⟨q,s,c,u,g1,h2,cell _ _ (by simpa [Ar.ev] using h1)⟩
   ·split at h
    ·rename_i k hk
     split at h
     ·rename_i l hl
      split at h
      ·rename_i σ1 hσ1
       simp only[Option.some.injEq,Prod.mk.injEq] at h
       obtain ⟨rfl,rfl⟩:=h
       simp only[Option.bind_eq_some_iff] at hσ1
       obtain ⟨σ2,h1,h2⟩:=hσ1
       have hH1:Hold F N σ1:=Hold.of_ext (Ext.mk1 _ _) hH
       have hH2:Hold F N σ2:=Hold.of_ext (lt_pur h2).ext hH1
       have e1:=le_holds h1 hH2
       have e2:=lt_holds h2 hH1
       simp only[Ar.ev] at e1 e2
       obtain ⟨l1,l2⟩:=arsN_get hl
       have hlt:(off.ev N).toNat<B.n:=by simp only[Ar.ev];omega
       obtain ⟨y,a,m1,m2,m3⟩:=l2 _ hlt
       rw[Nat.zero_add] at m1
       obtain ⟨_,u,m4,m5⟩:=g5 _ _ m1
       have m6:=ar_den m2 m5
       subst m6
       refine ⟨q,s,c,_,g1,?_,cell _ _ m4⟩
       simp only[Sc.den,hH.mk1,Nd.ev,List.getD_eq_getElem?_getD,List.getElem?_map,m3,Option.map_some,Option.getD_some]
      ·cases h
     ·cases h
    ·cases h
  ·rename_i k A g harr
   unfold Bk.cont at g5
   rw[harr] at g5
   simp only at g5
   simp only[Option.some.injEq,Prod.mk.injEq] at h
   obtain ⟨rfl,rfl⟩:=h
   have e:=(Hold.of_ext (Ext.mk1 _ _) hH).ob
   simp only[Ob.holds] at e
   have hlt:(off.ev N).toNat<(N.a A).length:=by omega
   refine ⟨q,s,c,.int k (N.a A)[(off.ev N).toNat],g1,?_,cell _ _ (g5.1 _ _ (List.getElem?_eq_getElem hlt))⟩
   have e1:N.i σ.nx=(Nd.rd A off).ev N:=hH.mk1
   simp only[Sc.den,e1,Nd.ev,List.getD_eq_getElem?_getD,List.getElem?_eq_getElem hlt,Option.getD_some]
 ·cases h
theorem loadN_pur {b:Nat}:∀ {n off:Nat} {σ σ':St} {l:List Sc},St.loadN b off n σ=some (l,σ')→Pur σ σ'
 | 0,off,σ,σ',l,h=>by simp only[St.loadN,Option.some.injEq,Prod.mk.injEq] at h;rw[←h.2];exact Pur.refl _
 | n+1,off,σ,σ',l,h=>by
  simp only[St.loadN] at h
  split at h
  ·rename_i x σ1 hx
   split at h
   ·rename_i l' σ2 hl'
    simp only[Option.some.injEq,Prod.mk.injEq] at h
    rw[←h.2]
    exact (load1_pur hx).trans (loadN_pur hl')
   ·cases h
  ·cases h
theorem loadN_at {E:Env}{b:Nat}{w:World}:∀ {n off:Nat} {σ σ':St} {l:List Sc},St.loadN b off n σ=some (l,σ')→Hold F N σ'→BW N E σ.bks w→∀ {q s c:Nat},E.blk b=some (q,s,c) →
  ∃vs,denL N E l=some vs∧vs.length=n∧∀j v,vs[j]? =some v→w.cell? ⟨q,s+off+j,none⟩=some v
 | 0,off,σ,σ',l,h,hH,hw,q,s,c,hb=>by
  simp only[St.loadN,Option.some.injEq,Prod.mk.injEq] at h
  obtain ⟨rfl,rfl⟩:=h
  exact ⟨[],rfl,rfl,fun j v hj=>by simp at hj⟩
 | n+1,off,σ,σ',l,h,hH,hw,q,s,c,hb=>by
  simp only[St.loadN] at h
  split at h
  ·rename_i x σ1 hx
   split at h
   ·rename_i l' σ2 hl'
    simp only[Option.some.injEq,Prod.mk.injEq] at h
    obtain ⟨rfl,rfl⟩:=h
    have hp:=loadN_pur hl'
    have hH1:=Hold.of_ext hp.ext hH
    obtain ⟨q',s',c',u,h1,h2,h3⟩:=load1_at hx hH1 hw
    rw[hb] at h1
    simp only[Option.some.injEq,Prod.mk.injEq] at h1
    obtain ⟨rfl,rfl,rfl⟩:=h1
    obtain ⟨vs,k1,k2,k3⟩:=loadN_at hl' hH (by rw[(load1_pur hx).bks];exact hw) hb
    refine ⟨u::vs,denL_cons.2 ⟨u,vs,h2,k1,rfl⟩,by simp[k2],fun j v hj=> ?_⟩
    cases j with
    | zero =>
     simp only[List.getElem?_cons_zero,Option.some.injEq] at hj
     subst hj
     rw[Nat.add_zero]
     simpa [Ar.ev] using h3
    | succ j =>
     have:=k3 j v (by simpa using hj)
     rw[show s+off+(j+1)=s+(off+1)+j by omega]
     exact this
   ·cases h
  ·cases h
theorem run_loadVar_agg {q o n:Nat}{w:World}{t:TypeId}{vs:List Value}(hc:∀j v,vs[j]? =some v→w.cell? ⟨q,o+j,none⟩=some v)
  (ha:isAggB P t=some true) (hs:sizeB P t=some n) (hlen:vs.length=n):(loadVar t ⟨q,o,none⟩).run P w= .ok (.agg vs.toArray) w:=by
 simp only[loadVar,Sem.run_bind,run_isAgg ha,Result.andThen_ok,if_true,run_sizeOf hs]
 subst hlen
 rw[run_loadCells_list w _ vs (fun j v hj=>by rw[Addr.add_lit];exact hc j v hj)]
 rfl
theorem run_loadVar_one {w:World}{t:TypeId}{a:Addr}{u:Value}(ha:isAggB P t=some false)(hc:w.cell? a=some u):(loadVar t a).run P w= .ok u w:=by
 simp[loadVar,run_isAgg ha,hc]
theorem run_loadVar_none {w:World}{t:TypeId}{a:Addr}(ha:isAggB P t=some true)(hs:sizeB P t=some 0):(loadVar t a).run P w= .ok (.agg #[]) w:=by
 simp[loadVar,run_isAgg ha,run_sizeOf hs,loadCells,loadCellsFrom]
def RelB (N:Num)(v:Option Value)(n:Option Ar):Prop:=(v=none∧n=none)∨∃k m,v=some (.int k (m.ev N))∧n=some m
theorem optAr_rel {E:Env}{n:Nat}{T:Tr SV}{a:Act}(r:RA N E n T a){x:Option Operand}{m:Option Ar}(h:optAr T x=some m):RelB N (x.map a.eval) m:=by
 cases x with
 | none=>simp only[optAr,Option.some.injEq] at h;exact .inl ⟨rfl,h.symm⟩
 | some o =>
  simp only[optAr] at h
  split at h
  ·rename_i y hy
   split at h
   ·rename_i k b hb
    simp only[Option.some.injEq] at h
    exact .inr ⟨k,b,by simp only[Option.map_some];rw[ar_den hb (evalO_den r hy)],h.symm⟩
   ·cases h
  ·cases h
theorem run_sliceBound {k:IntKind}{i:Int}{y:Nat}{c:BoundsCode}(h0:0≤i)(h:i≤y)(w:World):(Instr.sliceBound (.int k i) y c).run P w= .ok i.toNat w:=by
 simp only[Instr.sliceBound,asIntOf,Sem.run_bind,Sem.run_pure,Result.andThen_ok]
 rw[if_pos ⟨h0,h⟩]
 simp
theorem run_sliceBounds {isS:Bool}{len:Ar}{cap:Nat}{lo hi:Option Value}{l h:Option Ar}(hl:RelB N lo l)(hh:RelB N hi h)(h0:0≤(l.getD (.kst 0)).ev N)(h1:(l.getD (.kst 0)).ev N≤(h.getD len).ev N)
  (h2:(h.getD len).ev N≤cap) (w:World) :
  (Instr.sliceBounds isS (len.ev N).toNat cap lo hi none).run P w= .ok (((l.getD (.kst 0)).ev N).toNat,((h.getD len).ev N).toNat,cap) w:=by
 rcases hl with ⟨rfl,rfl⟩ | ⟨k,m,rfl,rfl⟩ <;> rcases hh with ⟨rfl,rfl⟩ | ⟨k',m',rfl,rfl⟩
 ·simp [Instr.sliceBounds,Ar.ev]
 ·simp only[Option.getD_none,Option.getD_some] at h0 h1 h2
  have ez:(Ar.kst 0).ev N=0:=rfl
  have:=run_sliceBound (P:=P) (k:=k') (c:=if isS=true then BoundsCode.sliceAcap else BoundsCode.sliceAlen) (by omega) h2 w
  simp only[Instr.sliceBounds,Sem.run_bind,Sem.run_pure,Result.andThen_ok]
  rw[this]
  simp[ez]
 ·simp only[Option.getD_none,Option.getD_some] at h0 h1 h2
  have:=run_sliceBound (P:=P) (k:=k) (y:=(len.ev N).toNat) (c:=BoundsCode.sliceB) h0 (by omega) w
  simp only[Instr.sliceBounds,Sem.run_bind,Sem.run_pure,Result.andThen_ok,Option.isSome_none,Bool.false_eq_true,if_false]
  rw[this]
  simp
 ·simp only[Option.getD_some] at h0 h1 h2
  have e1:=run_sliceBound (P:=P) (k:=k') (c:=if isS=true then BoundsCode.sliceAcap else BoundsCode.sliceAlen) (by omega) h2 w
  have e2:=run_sliceBound (P:=P) (k:=k) (y:=(m'.ev N).toNat) (c:=BoundsCode.sliceB) h0 (by omega) w
  simp only[Instr.sliceBounds,Sem.run_bind,Sem.run_pure,Result.andThen_ok,Option.isSome_none,Bool.false_eq_true,if_false]
  rw[e1]
  simp only[Result.andThen_ok]
  rw[e2]
  simp
end
section
variable {P:Program} {F:Fns} {N:Num}
def QuietC (P:Program)(N:Num)(E:Env)(_σ:St)(o:Oper)(a:Act)(v:Option SV)(σ':St)(C:World→Prop):Prop :=
 ∃E' sv u,v=some sv∧Inv E' σ'∧E.le E'∧E'.blk=E.blk∧sv.den N E'=some u∧∀w,C w→(execOp a.eval o).run P w= .ok (.value u) w
def Quiet (P:Program)(N:Num)(E:Env)(σ:St)(o:Oper)(a:Act)(v:Option SV)(σ':St):Prop:=QuietC P N E σ o a v σ' (BW N E σ.bks)
theorem QuietC.quiet {E:Env}{σ σ':St}{o:Oper}{a:Act}{v:Option SV}(h:QuietC P N E σ o a v σ' (fun _=>True)):Quiet P N E σ o a v σ':=by
 obtain ⟨E',sv,u,h1,h2,h3,h4,h5,h6⟩:=h
 exact ⟨E',sv,u,h1,h2,h3,h4,h5,fun w _=>h6 w trivial⟩
structure QX (σ σ':St):Prop where
 ext:Ext σ σ'
 bks:σ'.bks=σ.bks
 nb:σ'.nb=σ.nb
theorem Pur.qx {σ σ':St}(h:Pur σ σ'):QX σ σ':=⟨h.ext,h.bks,h.nb⟩
theorem QX.trans {a b c:St}(h:QX a b)(k:QX b c):QX a c:=⟨h.ext.trans k.ext,k.bks.trans h.bks,k.nb.trans h.nb⟩
theorem Inv.pur {E:Env}{σ σ':St}(h:Inv E σ)(p:Pur σ σ'):Inv E σ':=⟨fun b hb=>h.freshB b (by rw[←p.nb];exact hb),fun j hj=>h.freshV j (by rw[←p.nv];exact hj),fun t sv e=>h.glob t sv (by rw[←p.ext.gl];exact e)⟩
theorem quiet_pur {E:Env}{σ σ':St}{o:Oper}{a:Act}{C:World→Prop}(hI:Inv E σ)(hp:Pur σ σ'){sv:SV}{u:Value}(hd:sv.den N E=some u)
  (hr:∀w,C w→(execOp a.eval o).run P w= .ok (.value u) w):QuietC P N E σ o a (some sv) σ' C :=
 ⟨E,sv,u,rfl,hI.pur hp,E.le_refl,rfl,hd,hr⟩
theorem agg_den {E:Env}{l:List Sc}{u:Value}(h:(SV.one (.agg l)).den N E=some u):∃vs,denL N E l=some vs∧u= .agg vs.toArray:=by
 simp only[SV.den,V1.den,Option.map_eq_some_iff] at h
 obtain ⟨vs,h1,rfl⟩:=h
 exact ⟨vs,h1,rfl⟩
theorem kst_den {E:Env}{v u:Value}(h:(SV.one (.sc (.kst v))).den N E=some u):u=v:=(kst_cell h).1
theorem slDone_pur {b:Nat}{off' l h:Ar}{cap:Option Ar}{σ:St}:Pur σ (slDone b off' l h cap σ).2:=by
 cases cap with
 | some c=>exact lin_pur.trans lin_pur
 | none=>exact lin_pur
theorem ask_pur {σ σ':St}{t:Bool}(h:σ.ask=some (t,σ')):Pur σ σ':=by
 unfold St.ask at h
 split at h
 ·simp only[Option.some.injEq,Prod.mk.injEq] at h;rw[←h.2];exact ⟨⟨fun _ m=>m,fun _ m=>m,rfl,rfl,Nat.le_refl _⟩,rfl,rfl,rfl⟩
 ·cases h
theorem slStrict_pur {l m:Ar}{σ σ':St}{t:Bool}(h:slStrict l m σ=some (t,σ')):Pur σ σ':=by
 unfold slStrict at h
 split at h
 ·simp only[Option.some.injEq,Prod.mk.injEq] at h;rw[←h.2];exact Pur.refl _
 ·exact ask_pur h
theorem Ext.nv1 (σ:St):QX σ {σ with nv:=σ.nv+1}:=⟨⟨fun _ m=>m,fun _ m=>m,rfl,rfl,Nat.le_succ _⟩,rfl,rfl⟩
theorem doSlice_qx {b:Nat}{off len:Ar}{cap lo hi:Option Ar}{sz:Nat}{σ σ':St}{v:Sc}(h:doSlice b off len cap lo hi sz σ=some (v,σ')):QX σ σ':=by
 unfold doSlice at h
 split at h
 ·cases h
 ·rename_i σ1 h1
  simp only[Option.bind_eq_some_iff] at h1
  obtain ⟨σa,ha,σb,hb,hc⟩:=h1
  have p1:Pur σ σ1:=((le_pur ha).trans (le_pur hb)).trans (le_pur hc)
  cases hz:isZ (lo.getD (.kst 0)) with
  | true =>
   rw[hz] at h
   simp only[cond_true,Option.some.injEq] at h
   have e:_=σ':=congrArg Prod.snd h
   rw[←e]
   exact (p1.trans slDone_pur).qx
  | false =>
   rw[hz] at h
   simp only[cond_false] at h
   split at h
   ·rename_i σ2 h2
    split at h
    ·rename_i σ3 h3
     simp only[Option.some.injEq] at h
     have e:_=σ':=congrArg Prod.snd h
     rw[←e]
     have h3:σ2.lt (lo.getD (.kst 0)) (cap.getD len)=some σ3:=by
      cases hs:capSz cap sz <;> rw[hs] at h3
      ·cases h3
      ·exact h3
     exact (p1.trans ((slStrict_pur h2).trans ((lt_pur h3).trans (lin_pur.trans slDone_pur)))).qx
    ·cases h
   ·rename_i σ2 h2
    split at h
    ·rename_i σ3 h3
     simp only[Option.some.injEq,Prod.mk.injEq] at h
     rw[←h.2]
     exact (p1.trans ((slStrict_pur h2).trans (eq_pur h3))).qx.trans (Ext.nv1 _)
    ·cases h
   ·cases h
def Env.addV (E:Env)(j:Nat)(u:Value):Env:={E with val:=fun i=>bif Nat.beq i j then some u else E.val i}
theorem Env.addV_le {E:Env}{σ:St}(h:Inv E σ)(u:Value):E.le (E.addV σ.nv u):=⟨fun _ _ h=>h,fun j v e=>by
 have:j≠σ.nv:=fun e'=>by rw[e',h.freshV σ.nv (Nat.le_refl _)] at e;cases e
 simp only[Env.addV,nbeq_ff this,cond_false];exact e⟩
theorem Env.addV_self {E:Env}{j:Nat}{u:Value}:(E.addV j u).val j=some u:=by simp only[Env.addV,nbeq_tt rfl,cond_true]
theorem Env.addV_inv {E:Env}{σ:St}(h:Inv E σ)(u:Value):Inv (E.addV σ.nv u) {σ with nv:=σ.nv+1}:=⟨h.freshB,fun j hj=>by
 have:j≠σ.nv:=fun e=>by simp only at hj;omega
 simp only[Env.addV,nbeq_ff this,cond_false]
 exact h.freshV j (by simp only at hj;omega),h.glob⟩
def sliceVal (q p l h m sz:Nat):Value:= .slice (some ⟨q,if m=l then p else p+l*sz,none⟩) (h-l) (m-l)
theorem slDone_den {E:Env}{σ:St}{b q s c sz:Nat}{off off' len l h:Ar}{cap:Option Ar}(hH:Hold F N (slDone b off' l h cap σ).2)(hb:E.blk b=some (q,s,c))(h0:0≤off.ev N)
  (hc:cap=none→(off.ev N).toNat+(len.ev N).toNat≤c) (h1:0≤l.ev N) (h2:l.ev N≤h.ev N) (h3:h.ev N≤(cap.getD len).ev N)
  (ho:off'.ev N=off.ev N+l.ev N*sz) (hs:cap=none→l.ev N=0∨sz=1) (hm:l.ev N=0∨capOf N off cap c≠(l.ev N).toNat) :
  (slDone b off' l h cap σ).1.den N E=some (sliceVal q (s+(off.ev N).toNat) (l.ev N).toNat (h.ev N).toNat (capOf N off cap c) sz):=by
 have hls:(0:Int)≤l.ev N*sz:=Int.mul_nonneg h1 (Int.natCast_nonneg sz)
 have ho0:0≤off'.ev N:=by omega
 have ho1:(off'.ev N).toNat=(off.ev N).toNat+(l.ev N).toNat*sz:=by
  have:((l.ev N).toNat*sz:Nat)=((l.ev N*sz).toNat:Nat):=by
   have e:l.ev N=((l.ev N).toNat:Int):=by omega
   generalize (l.ev N).toNat=k at e ⊢
   rw[e]
   have:((k:Int)*(sz:Int))=((k*sz:Nat):Int):=by simp
   rw[this,Int.toNat_natCast]
  rw[this,ho];omega
 have place:(if capOf N off cap c=(l.ev N).toNat then s+(off.ev N).toNat else s+(off.ev N).toNat+(l.ev N).toNat*sz)=s+(off'.ev N).toNat:=by
  rcases hm with hm | hm
  ·have:(l.ev N).toNat=0:=by omega
   rw[ho1,this];simp
  ·rw [if_neg hm,ho1];omega
 unfold sliceVal
 rw[place]
 cases cap with
 | some cp =>
  have e1:(lin h l (-1) σ).1.ev N=h.ev N+l.ev N*(-1):=lin_ev (Hold.of_ext lin_pur.ext hH)
  have e2:=lin_ev (N:=N) (a:=cp) (b:=l) (c:= -1) hH
  simp only[slDone]
  rw[sl_mk hb ho0 (fun e=>by cases e)]
  simp only[Option.getD_some] at h3
  simp only[capOf,e1,e2,Option.some.injEq,Value.slice.injEq,true_and]
  omega
 | none =>
  have e1:(lin h l (-1) σ).1.ev N=h.ev N+l.ev N*(-1):=lin_ev hH
  simp only[slDone]
  have hc:=hc rfl
  simp only[Option.getD_none] at h3
  have hlz:(l.ev N).toNat*sz=(l.ev N).toNat:=by
   rcases hs rfl with h | h
   ·have:(l.ev N).toNat=0:=by omega
    rw[this];simp
   ·rw [h];simp
  rw[sl_mk hb ho0 (fun _=>by rw[e1];omega)]
  simp only[capOf,e1,Option.some.injEq,Value.slice.injEq,true_and]
  omega
theorem isZ_ev {l:Ar}(h:isZ l=true):l.ev N=0:=by
 unfold isZ at h
 split at h
 ·rfl
 ·cases h
theorem doSlice_sound {E:Env}{σ σ':St}{b q s c sz:Nat}{off len:Ar}{cap lo hi:Option Ar}{v:Sc}(h:doSlice b off len cap lo hi sz σ=some (v,σ'))(hH:Hold F N σ')(hI:Inv E σ)
  (hb:E.blk b=some (q,s,c)) (h0:0≤off.ev N) (hc:cap=none→(off.ev N).toNat+(len.ev N).toNat≤c) :
  0≤(lo.getD (.kst 0)).ev N∧(lo.getD (.kst 0)).ev N≤(hi.getD len).ev N∧(hi.getD len).ev N≤capOf N off cap c ∧
  ∃E',Inv E' σ'∧E.le E'∧E'.blk=E.blk∧v.den N E'=some (sliceVal q (s+(off.ev N).toNat) ((lo.getD (.kst 0)).ev N).toNat ((hi.getD len).ev N).toNat (capOf N off cap c) sz):=by
 have hq:=doSlice_qx h
 unfold doSlice at h
 split at h
 ·cases h
 ·rename_i σ1 h1
  simp only[Option.bind_eq_some_iff] at h1
  obtain ⟨σa,ha,σb,hbb,hcc⟩:=h1
  have fin:Hold F N σ1→0≤(lo.getD (.kst 0)).ev N∧(lo.getD (.kst 0)).ev N≤(hi.getD len).ev N∧(hi.getD len).ev N≤(cap.getD len).ev N:=fun hH1=>by
   have hHb:=Hold.of_ext (le_pur hcc).ext hH1
   have hHa:=Hold.of_ext (le_pur hbb).ext hHb
   exact ⟨le_holds ha hHa,le_holds hbb hHb,le_holds hcc hH1⟩
  have hmc:0≤(lo.getD (.kst 0)).ev N→(lo.getD (.kst 0)).ev N≤(hi.getD len).ev N→∀x:Int,x≤(cap.getD len).ev N→x≤capOf N off cap c:=fun g1 g2 x g3=>by
   cases cap with
   | some cp=>simp only[capOf,Option.getD_some] at g3 ⊢;omega
   | none=>have:=hc rfl;simp only[capOf,Option.getD_none] at g3 ⊢;omega
  cases hz:isZ (lo.getD (.kst 0)) with
  | true =>
   rw[hz] at h
   simp only[cond_true,Option.some.injEq] at h
   have ev:_=v:=congrArg Prod.fst h
   have eσ:_=σ':=congrArg Prod.snd h
   rw[←eσ] at hH hq
   obtain ⟨g1,g2,g3⟩:=fin (Hold.of_ext slDone_pur.ext hH)
   refine ⟨g1,g2,hmc g1 g2 _ g3,E,?_,E.le_refl,rfl,?_⟩
   ·rw [←eσ];exact hI.pur (((le_pur ha).trans (le_pur hbb)).trans ((le_pur hcc).trans slDone_pur))
   ·rw [←ev]
    have hz':=isZ_ev (N:=N) hz
    exact slDone_den hH hb h0 hc g1 g2 g3 (by rw[hz'];simp) (fun _=> .inl hz') (.inl hz')
  | false =>
   rw[hz] at h
   simp only[cond_false] at h
   split at h
   ·rename_i σ2 h2
    split at h
    ·rename_i σ3 h3'
     have hcs:(cap=none→(lo.getD (.kst 0)).ev N=0∨sz=1)∧σ2.lt (lo.getD (.kst 0)) (cap.getD len)=some σ3:=by
      cases hs:capSz cap sz <;> rw[hs] at h3'
      ·cases h3'
      ·exact ⟨fun e=>by subst e;exact .inr (Nat.eq_of_beq_eq_true hs),h3'⟩
     obtain ⟨hcs,h3⟩:=hcs
     simp only[Option.some.injEq] at h
     have ev:_=v:=congrArg Prod.fst h
     have eσ:_=σ':=congrArg Prod.snd h
     rw[←eσ] at hH
     have hHl:=Hold.of_ext slDone_pur.ext hH
     have hH3:=Hold.of_ext lin_pur.ext hHl
     have hH1:=Hold.of_ext ((slStrict_pur h2).trans (lt_pur h3)).ext hH3
     obtain ⟨g1,g2,g3⟩:=fin hH1
     have hlt:=lt_holds h3 hH3
     refine ⟨g1,g2,hmc g1 g2 _ g3,E,?_,E.le_refl,rfl,?_⟩
     ·rw [←eσ];exact hI.pur (((le_pur ha).trans (le_pur hbb)).trans ((le_pur hcc).trans ((slStrict_pur h2).trans ((lt_pur h3).trans (lin_pur.trans slDone_pur)))))
     ·rw [←ev]
      have hle:=hmc g1 g2 ((lo.getD (.kst 0)).ev N+1) (by omega)
      exact slDone_den hH hb h0 hc g1 g2 g3 (lin_ev hHl) hcs (.inr (by omega))
    ·cases h
   ·rename_i σ2 h2
    split at h
    ·rename_i σ3 h3
     simp only[Option.some.injEq,Prod.mk.injEq] at h
     obtain ⟨rfl,rfl⟩:=h
     have hH3:Hold F N σ3:=⟨hH.fns,hH.defs,hH.obs,hH.ins⟩
     have hH1:=Hold.of_ext ((slStrict_pur h2).trans (eq_pur h3)).ext hH3
     obtain ⟨g1,g2,g3⟩:=fin hH1
     have he:=eq_holds h3 hH3
     have hI3:Inv E σ3:=hI.pur (((le_pur ha).trans (le_pur hbb)).trans ((le_pur hcc).trans ((slStrict_pur h2).trans (eq_pur h3))))
     refine ⟨g1,g2,hmc g1 g2 _ g3,E.addV σ3.nv (sliceVal q (s+(off.ev N).toNat) ((lo.getD (.kst 0)).ev N).toNat ((hi.getD len).ev N).toNat (capOf N off cap c) sz),Env.addV_inv hI3 _,Env.addV_le hI3 _,rfl,?_⟩
     rw[show sliceVal q (s+(off.ev N).toNat) ((lo.getD (.kst 0)).ev N).toNat ((hi.getD len).ev N).toNat (capOf N off cap c) sz =
      .slice (some ⟨q,if capOf N off cap c=((lo.getD (.kst 0)).ev N).toNat then s+(off.ev N).toNat else s+(off.ev N).toNat+((lo.getD (.kst 0)).ev N).toNat*sz,none⟩) 0 (capOf N off cap c-((lo.getD (.kst 0)).ev N).toNat) by
       unfold sliceVal;rw[show ((hi.getD len).ev N).toNat-((lo.getD (.kst 0)).ev N).toNat=0 by omega]]
     generalize (if capOf N off cap c=((lo.getD (.kst 0)).ev N).toNat then s+(off.ev N).toNat else s+(off.ev N).toNat+((lo.getD (.kst 0)).ev N).toNat*sz)=p
     simp only[Sc.den,Env.addV_self]
    ·cases h
   ·cases h
end
section
variable {P:Program} {F:Fns} {N:Num}
variable {E:Env} {σ σ':St} {n:Nat} {T:Tr SV} {a:Act} {v:Option SV} {dst:Option Tmp} {type:TypeId} {pos:String} {after:Array Edge} {guard:Option (Nat×Bool)}
theorem ev_kst (n:Int):(Ar.kst n).ev N=n:=rfl
theorem quiet_same {o:Oper}{C:World→Prop}(hI:Inv E σ){sv:SV}{u:Value}(h:some (some sv,σ)=some (v,σ'))(hd:sv.den N E=some u)
  (hr:∀w,C w→(execOp a.eval o).run P w= .ok (.value u) w):QuietC P N E σ o a v σ' C:=by
 simp only[Option.some.injEq,Prod.mk.injEq] at h
 obtain ⟨rfl,rfl⟩:=h
 exact quiet_pur hI (Pur.refl _) hd hr
theorem q_move {x:Operand}(h:op1 P T σ (.move x)=some (v,σ'))(hA:RA N E n T a)(hI:Inv E σ):QuietC P N E σ ⟨dst,.move x,type,pos,after,guard⟩ a v σ' (fun _=>True):=by
 simp only[op1] at h
 split at h
 ·rename_i sv hsv
  exact quiet_same hI h (evalO_den hA hsv) fun w _=>rfl
 ·cases h
theorem q_assign {x:Operand}(h:op1 P T σ (.assign x)=some (v,σ'))(hA:RA N E n T a)(hI:Inv E σ):QuietC P N E σ ⟨dst,.assign x,type,pos,after,guard⟩ a v σ' (fun _=>True):=by
 simp only[op1] at h
 split at h
 ·rename_i sv hsv
  exact quiet_same hI h (evalO_den hA hsv) fun w _=>rfl
 ·cases h
theorem q_pick {c x y:Operand}(h:op1 P T σ (.pick c x y)=some (v,σ'))(hA:RA N E n T a)(hI:Inv E σ):QuietC P N E σ ⟨dst,.pick c x y,type,pos,after,guard⟩ a v σ' (fun _=>True):=by
 simp only[op1] at h
 split at h
 ·rename_i t ht
  have e:=kst_den (evalO_den hA ht)
  split at h
  ·rename_i sv hsv
   refine quiet_same hI h (evalO_den hA hsv) fun w _=> ?_
   cases t <;> simp[execOp,e,asBool]
  ·cases h
 ·cases h
theorem q_load {t:TypeId}{x:Operand}(h:op1 P T σ (.load t x)=some (v,σ'))(hA:RA N E n T a)(hI:Inv E σ)(hH:Hold F N σ'){w0:World}(hw0:BW N E σ.bks w0) :
  Quiet P N E σ ⟨dst,.load t x,type,pos,after,guard⟩ a v σ':=by
 simp only[op1] at h
 split at h
 ·rename_i b off hx ha
  obtain ⟨q,s,c,hb,h0,e⟩:=ptr_den (evalO_den hA hx)
  split at h
  ·rename_i m hm
   split at h
   ·rename_i l σ1 hl
    simp only[Option.some.injEq,Prod.mk.injEq] at h
    obtain ⟨rfl,rfl⟩:=h
    obtain ⟨vs,h1,h2,_⟩:=loadN_at hl hH hw0 hb
    refine quiet_pur hI (loadN_pur hl) (u:= .agg vs.toArray) (by simp[SV.den,V1.den,h1]) fun w hw=> ?_
    obtain ⟨vs',h1',h2',h3'⟩:=loadN_at hl hH hw hb
    rw[h1] at h1'
    simp only[Option.some.injEq] at h1'
    subst h1'
    have e0:((Ar.kst (Int.ofNat off)).ev N).toNat=off:=rfl
    rw[e0] at e
    simp[execOp,Instr.loadAt,e,Instr.sureAddr,run_loadVar_agg h3' ha hm h2]
   ·cases h
  ·cases h
 ·rename_i b off hx ha
  obtain ⟨q,s,c,hb,h0,e⟩:=ptr_den (evalO_den hA hx)
  split at h
  ·rename_i y σ1 hy
   simp only[Option.some.injEq,Prod.mk.injEq] at h
   obtain ⟨rfl,rfl⟩:=h
   obtain ⟨q',s',c',u,h1,hu,_⟩:=load1_at hy hH hw0
   refine quiet_pur hI (load1_pur hy) (u:=u) hu fun w hw=> ?_
   obtain ⟨q',s',c',u',h1',hu',hc⟩:=load1_at hy hH hw
   rw[hb] at h1'
   simp only[Option.some.injEq,Prod.mk.injEq] at h1'
   obtain ⟨rfl,rfl,rfl⟩:=h1'
   rw[hu] at hu'
   simp only[Option.some.injEq] at hu'
   subst hu'
   simp[execOp,Instr.loadAt,e,Instr.sureAddr,run_loadVar_one ha hc]
  ·cases h
 ·rename_i p hx ha
  have e:=kst_den (evalO_den hA hx)
  split at h
  ·rename_i hs
   refine quiet_same hI h (u:= .agg #[]) (by simp[SV.den,V1.den,denL]) fun w hw=> ?_
   simp[execOp,Instr.loadAt,e,Instr.sureAddr,run_loadVar_none ha hs]
  ·cases h
 ·cases h
theorem q_nilCheck {x:Operand}(h:op1 P T σ (.nilCheck x)=some (v,σ'))(hA:RA N E n T a)(hI:Inv E σ):QuietC P N E σ ⟨dst,.nilCheck x,type,pos,after,guard⟩ a v σ' (fun _=>True):=by
 simp only[op1] at h
 split at h
 ·rename_i b off hx
  have hd:=evalO_den hA hx
  obtain ⟨q,s,c,hb,h0,e⟩:=ptr_den hd
  exact quiet_same hI h hd fun w _=>by simp[execOp,e]
 ·rename_i p hx
  have hd:=evalO_den hA hx
  have e:=kst_den hd
  exact quiet_same hI h hd fun w _=>by simp[execOp,e]
 ·cases h
theorem q_binOp {op:BinOp}{xt yt:TypeId}{x y:Operand}(h:op1 P T σ (.binOp op xt x y yt)=some (v,σ'))(hA:RA N E n T a)(hI:Inv E σ)(hH:Hold F N σ') :
  QuietC P N E σ ⟨dst,.binOp op xt x y yt,type,pos,after,guard⟩ a v σ' (fun _=>True):=by
 simp only[op1] at h
 split at h
 ·rename_i x' y' hx hy
  split at h
  ·rename_i r σ1 hr
   simp only[Option.some.injEq,Prod.mk.injEq] at h
   obtain ⟨rfl,rfl⟩:=h
   obtain ⟨u,hd,hrun⟩:=doBin_sound hr (evalO_den hA hx) (evalO_den hA hy) hH
   exact quiet_pur hI (doBin_pur hr) hd fun w _=>by
    have:=hrun x y w
    simp only[Sem.run_bind] at this
    simp only[execOp,Sem.run_bind,this,Result.andThen_ok,Sem.run_pure]
  ·cases h
 ·cases h
theorem q_unOp {op:UnOp}{xt:TypeId}{x:Operand}(h:op1 P T σ (.unOp op xt x)=some (v,σ'))(hA:RA N E n T a)(hI:Inv E σ)(hH:Hold F N σ') :
  QuietC P N E σ ⟨dst,.unOp op xt x,type,pos,after,guard⟩ a v σ' (fun _=>True):=by
 simp only[op1] at h
 split at h
 ·rename_i x' hx
  split at h
  ·rename_i r σ1 hr
   simp only[Option.some.injEq,Prod.mk.injEq] at h
   obtain ⟨rfl,rfl⟩:=h
   obtain ⟨u,hd,hrun⟩:=doUn_sound P hr (evalO_den hA hx) hH
   exact quiet_pur hI (doUn_pur hr) hd fun w _=>by simp only[execOp,Sem.run_bind,hrun,Result.andThen_ok,Sem.run_pure]
  ·cases h
 ·cases h
theorem q_convert {s d:TypeId}{x:Operand}(h:op1 P T σ (.convert s d x)=some (v,σ'))(hA:RA N E n T a)(hI:Inv E σ)(hH:Hold F N σ') :
  QuietC P N E σ ⟨dst,.convert s d x,type,pos,after,guard⟩ a v σ' (fun _=>True):=by
 simp only[op1] at h
 split at h
 ·rename_i x' td k hx hs hd'
  split at h
  ·rename_i r σ1 hr
   simp only[Option.some.injEq,Prod.mk.injEq] at h
   obtain ⟨rfl,rfl⟩:=h
   obtain ⟨u,hd,hrun⟩:=doConv_sound hr (evalO_den hA hx) hs hd' hH
   exact quiet_pur hI (doConv_pur hr) hd fun w _=>by simp only[execOp,Sem.run_bind,hrun,Result.andThen_ok,Sem.run_pure]
  ·cases h
 ·cases h
theorem q_arrayPtr {t:TypeId}{x:Operand}(h:op1 P T σ (.sliceToArrayPointer t x)=some (v,σ'))(hA:RA N E n T a)(hI:Inv E σ)(hH:Hold F N σ') :
  QuietC P N E σ ⟨dst,.sliceToArrayPointer t x,type,pos,after,guard⟩ a v σ' (fun _=>True):=by
 simp only[op1] at h
 split at h
 ·rename_i b off len cap m el hx ht
  obtain ⟨q,s,c,cc,hb,h0,e,_⟩:=sl_den (evalO_den hA hx)
  split at h
  ·rename_i σ1 h1
   simp only[Option.some.injEq,Prod.mk.injEq] at h
   obtain ⟨rfl,rfl⟩:=h
   have hle:=le_holds h1 hH
   simp only[ev_kst] at hle
   have:¬(len.ev N).toNat<m:=by omega
   exact quiet_pur hI (le_pur h1) (ptr_mk hb h0) fun w _=>by
    simp[execOp,Instr.arrayAt,e,run_underlying ht,this]
  ·cases h
 ·cases h
theorem addr_at {q o l sz:Nat}:(⟨q,o,none⟩:Addr).add (l*sz)=⟨q,o+l*sz,none⟩:=Addr.add_lit _ _ _
theorem q_slice {t:TypeId}{x:Operand}{lo hi mx:Option Operand}(h:op1 P T σ (.slice t x lo hi mx)=some (v,σ'))(hA:RA N E n T a)(hI:Inv E σ)(hH:Hold F N σ') :
  QuietC P N E σ ⟨dst,.slice t x lo hi mx,type,pos,after,guard⟩ a v σ' (fun _=>True):=by
 simp only[op1] at h
 split at h
 ·rename_i b off l' h' m el hx hlo hhi ht
  obtain ⟨q,s,c,hb,h0,e⟩:=ptr_den (evalO_den hA hx)
  split at h
  ·rename_i sz hsz
   split at h
   ·rename_i y σ1 hr
    simp only[Option.some.injEq,Prod.mk.injEq] at h
    obtain ⟨rfl,rfl⟩:=h
    obtain ⟨g1,g2,g3,E',g4,g5,g6,g7⟩:=doSlice_sound hr hH hI hb h0 (fun e=>by cases e)
    refine ⟨E',_,_,rfl,g4,g5,g6,g7,fun w _=> ?_⟩
    have ecap:capOf N off (some (.kst m)) c=m:=by simp[capOf,Ar.ev]
    rw[ecap] at g3 ⊢
    have elen:((Ar.kst (m:Int)).ev N).toNat=m:=by simp[Ar.ev]
    have rb:=run_sliceBounds (P:=P) (isS:=false) (len:= .kst m) (cap:=m) (optAr_rel hA hlo) (optAr_rel hA hhi) g1 g2 g3 w
    rw[elen] at rb
    simp only[execOp,Instr.sliceAt,e,Sem.run_bind,run_underlying ht,Result.andThen_ok,Instr.sureAddr,Sem.run_pure,Option.map_none,
     rb,run_sizeOf hsz,sliceVal]
    by_cases hc:m=((l'.getD (.kst 0)).ev N).toNat
    ·rw [if_pos hc,if_pos hc]
    ·rw [if_neg hc,if_neg hc,addr_at]
   ·cases h
  ·cases h
 ·rename_i b off len cap l' h' el hx hlo hhi ht
  obtain ⟨q,s,c,m,hb,h0,e,hm,hc0⟩:=sl_den (evalO_den hA hx)
  split at h
  ·rename_i sz hsz
   split at h
   ·rename_i y σ1 hr
    simp only[Option.some.injEq,Prod.mk.injEq] at h
    obtain ⟨rfl,rfl⟩:=h
    obtain ⟨g1,g2,g3,E',g4,g5,g6,g7⟩:=doSlice_sound hr hH hI hb h0 hc0
    refine ⟨E',_,_,rfl,g4,g5,g6,g7,fun w _=> ?_⟩
    rw[←hm] at g3 ⊢
    have rb:=run_sliceBounds (P:=P) (isS:=true) (len:=len) (cap:=m) (optAr_rel hA hlo) (optAr_rel hA hhi) g1 g2 g3 w
    simp only[execOp,Instr.sliceAt,Instr.slice,e,Sem.run_bind,run_underlying ht,Result.andThen_ok,Sem.run_pure,Option.map_none,
     rb,run_sizeOf hsz,sliceVal]
    by_cases hc:m=((l'.getD (.kst 0)).ev N).toNat
    ·rw [if_pos hc,if_pos hc]
    ·rw [if_neg hc,if_neg hc];simp only[Option.map_some,addr_at]
   ·cases h
  ·cases h
 ·rename_i s l' h' hx hlo hhi ht
  have e:=kst_den (evalO_den hA hx)
  split at h
  ·rename_i r hr
   have hr2:0≤(l'.getD (.kst 0)).ev N∧(l'.getD (.kst 0)).ev N≤(h'.getD (.kst (Int.ofNat s.size))).ev N∧(h'.getD (.kst (Int.ofNat s.size))).ev N≤s.size ∧
     r=s.extract ((l'.getD (.kst 0)).ev N).toNat ((h'.getD (.kst (Int.ofNat s.size))).ev N).toNat:=by
    unfold strSlice at hr
    split at hr
    ·rename_i lc hc e1 e2
     cases hb:(Nat.ble lc hc&&Nat.ble hc s.size) with
     | false=>rw[hb] at hr;cases hr
     | true =>
      rw[hb] at hr
      simp only[cond_true,Option.some.injEq] at hr
      simp only[Bool.and_eq_true] at hb
      have b1:=Nat.le_of_ble_eq_true hb.1
      have b2:=Nat.le_of_ble_eq_true hb.2
      rw[e1,e2]
      exact ⟨Int.natCast_nonneg _,Int.ofNat_le.2 b1,Int.ofNat_le.2 b2,hr.symm⟩
    ·cases hr
   obtain ⟨g1,g2,g3,rfl⟩:=hr2
   refine quiet_same hI h (u:= .string _) rfl fun w _=> ?_
   have rb:=run_sliceBounds (P:=P) (isS:=false) (len:= .kst (Int.ofNat s.size)) (cap:=s.size) (optAr_rel hA hlo) (optAr_rel hA hhi) g1 g2 g3 w
   have elen:((Ar.kst (Int.ofNat s.size)).ev N).toNat=s.size:=rfl
   rw[elen] at rb
   simp only[execOp,Instr.sliceAt,Instr.slice,e,Sem.run_bind,run_underlying ht,Result.andThen_ok,Sem.run_pure,Option.map_none,rb,Option.isSome_none,Bool.false_eq_true,if_false]
  ·cases h
 ·rename_i l' h' el hx hlo hhi ht
  have e:=kst_den (evalO_den hA hx)
  split at h
  ·rename_i sz hsz
   split at h
   ·rename_i σ1 hr
    simp only[Option.some.injEq,Prod.mk.injEq] at h
    obtain ⟨rfl,rfl⟩:=h
    simp only[Option.bind_eq_some_iff] at hr
    obtain ⟨σa,r1,σb,r2,r3⟩:=hr
    have hHb:=Hold.of_ext (le_pur r3).ext hH
    have g1:=le_holds r1 (Hold.of_ext (le_pur r2).ext hHb)
    have g2:=le_holds r2 hHb
    have g3:=le_holds r3 hH
    rw[ev_kst] at g1 g3
    refine quiet_pur hI (((le_pur r1).trans (le_pur r2)).trans (le_pur r3)) (u:= .slice none 0 0) rfl fun w _=> ?_
    have rb:=run_sliceBounds (P:=P) (isS:=true) (len:= .kst 0) (cap:=0) (optAr_rel hA hlo) (optAr_rel hA hhi) g1 g2 g3 w
    have el0:((Ar.kst 0).ev N).toNat=0:=rfl
    rw[el0] at rb
    have h1:((l'.getD (.kst 0)).ev N).toNat=0:=by omega
    have h2:((h'.getD (.kst 0)).ev N).toNat=0:=by omega
    simp only[execOp,Instr.sliceAt,Instr.slice,e,Sem.run_bind,run_underlying ht,Result.andThen_ok,Sem.run_pure,Option.map_none,rb,run_sizeOf hsz,h1,h2,Nat.sub_zero,if_true]
   ·cases h
  ·cases h
 ·rename_i j l' h' el hx hlo hhi ht
  split at h
  ·rename_i sz hsz
   cases hz:(isZ (l'.getD (.kst 0))&&isZ (h'.getD (.kst 0))) with
   | false=>rw[hz] at h;cases h
   | true =>
    rw[hz] at h
    simp only[cond_true,Option.some.injEq,Prod.mk.injEq] at h
    obtain ⟨rfl,rfl⟩:=h
    simp only[Bool.and_eq_true] at hz
    have z1:=isZ_ev (N:=N) hz.1
    have z2:=isZ_ev (N:=N) hz.2
    have hd:=evalO_den hA hx
    simp only[SV.den,V1.den,Sc.den] at hd
    split at hd
    ·rename_i ad c hj
     simp only[Option.some.injEq] at hd
     refine quiet_same (sv:=one (.emp j)) hI rfl (u:= .slice ad 0 c) (by simp only[one,SV.den,V1.den,Sc.den,hj]) fun w _=> ?_
     have rb:=run_sliceBounds (P:=P) (isS:=true) (len:= .kst 0) (cap:=c) (optAr_rel hA hlo) (optAr_rel hA hhi) (by rw[z1];exact Int.le_refl _) (by rw[z1,z2];exact Int.le_refl _) (by rw[z2];exact Int.natCast_nonneg _) w
     have el0:((Ar.kst 0).ev N).toNat=0:=rfl
     rw[el0,z1,z2] at rb
     simp only[execOp,Instr.sliceAt,Instr.slice,←hd,Sem.run_bind,run_underlying ht,Result.andThen_ok,Sem.run_pure,Option.map_none,rb,run_sizeOf hsz,Int.toNat_zero,Nat.sub_zero,Nat.zero_mul]
     by_cases hc:c=0
     ·rw [if_pos hc]
     ·rw [if_neg hc]
      cases ad with
      | none=>rfl
      | some ad=>simp only[Option.map_some,Addr.add_zero']
    ·cases hd
  ·cases h
 ·cases h
theorem q_fieldAddr {s:TypeId}{x:Operand}{f:Nat}(h:op1 P T σ (.fieldAddr s x f)=some (v,σ'))(hA:RA N E n T a)(hI:Inv E σ)(hH:Hold F N σ') :
  QuietC P N E σ ⟨dst,.fieldAddr s x f,type,pos,after,guard⟩ a v σ' (fun _=>True):=by
 simp only[op1] at h
 split at h
 ·rename_i b off fields hx ht
  obtain ⟨q,o,c,hb,h0,e⟩:=ptr_den (evalO_den hA hx)
  split at h
  ·rename_i fd hf
   split at h
   ·rename_i m hm
    cases hz:Nat.beq m 0 with
    | true=>rw[hz] at h;cases h
    | false =>
     rw[hz] at h
     have hn0:m≠0:=fun e=>by rw[nbeq_tt e] at hz;cases hz
     simp only[cond_false,Option.some.injEq,Prod.mk.injEq] at h
     obtain ⟨rfl,rfl⟩:=h
     have hev:(lin off (.kst fd.offset) 1 σ).1.ev N=off.ev N+fd.offset*1:=lin_ev hH
     refine quiet_pur hI lin_pur (u:= .pointer (some ⟨q,o+(off.ev N).toNat+fd.offset,none⟩)) ?_ fun w _=> ?_
     ·have:=ptr_mk (N:=N) (off:=(lin off (.kst fd.offset) 1 σ).1) hb (by omega)
      simp only[one,SV.den,V1.den,this]
      rw[hev,show (off.ev N+fd.offset*1).toNat=(off.ev N).toNat+fd.offset by omega,Nat.add_assoc]
     ·simp [execOp,Instr.fieldAt,e,run_underlying ht,hf,Instr.sureAddr,run_fieldPlace hm hn0,Nat.add_assoc]
   ·cases h
  ·cases h
 ·cases h
theorem q_field {s:TypeId}{x:Operand}{f:Nat}(h:op1 P T σ (.field s x f)=some (v,σ'))(hA:RA N E n T a)(hI:Inv E σ) :
  QuietC P N E σ ⟨dst,.field s x f,type,pos,after,guard⟩ a v σ' (fun _=>True):=by
 simp only[op1] at h
 split at h
 ·rename_i l fields hx ht
  obtain ⟨vs,hvs,e⟩:=agg_den (evalO_den hA hx)
  split at h
  ·rename_i fd hf
   split at h
   ·rename_i y hy
    obtain ⟨u,hu,hrun⟩:=partS_run hy hvs
    refine quiet_same hI h (u:=u) hu fun w _=> ?_
    simp[execOp,Instr.field,e,run_underlying ht,hf,asAgg,hrun]
   ·cases h
  ·cases h
 ·cases h
theorem int_in {i n:Nat}(h:i<n):(0:Int)≤((i:Nat):Int)∧((i:Nat):Int)<(n:Int):=⟨Int.natCast_nonneg i,by omega⟩
theorem mul_toNat {i:Int}(h:0≤i)(sz:Nat):0≤i*sz∧(i*(sz:Int)).toNat=i.toNat*sz:=by
 obtain ⟨k,rfl⟩:=Int.eq_ofNat_of_zero_le h
 have:((k:Int)*(sz:Int))=((k*sz:Nat):Int):=by simp
 rw[this,Int.toNat_natCast,Int.toNat_natCast]
 exact ⟨Int.natCast_nonneg _,rfl⟩
theorem q_indexAddr {t:TypeId}{x ix:Operand}(h:op1 P T σ (.indexAddr t x ix)=some (v,σ'))(hA:RA N E n T a)(hI:Inv E σ)(hH:Hold F N σ') :
  QuietC P N E σ ⟨dst,.indexAddr t x ix,type,pos,after,guard⟩ a v σ' (fun _=>True):=by
 simp only[op1] at h
 split at h
 ·rename_i b off i m el hx hi ht
  obtain ⟨q,o,c,hb,h0,e⟩:=ptr_den (evalO_den hA hx)
  split at h
  ·rename_i k j sz hj hsz
   have hk:=ar_den hj (evalO_den hA hi)
   split at h
   ·rename_i σ1 h1
    simp only[Option.some.injEq,Prod.mk.injEq] at h
    obtain ⟨rfl,rfl⟩:=h
    simp only[Option.bind_eq_some_iff] at h1
    obtain ⟨σ2,h1,h2⟩:=h1
    have hH1:=Hold.of_ext lin_pur.ext hH
    have e1:=le_holds h1 (Hold.of_ext (lt_pur h2).ext hH1)
    have e2:=lt_holds h2 hH1
    simp only[ev_kst] at e1 e2
    have hev:(lin off j sz σ1).1.ev N=off.ev N+j.ev N*sz:=lin_ev hH
    obtain ⟨m1,m2⟩:=mul_toNat e1 sz
    refine quiet_pur hI (((le_pur h1).trans (lt_pur h2)).trans lin_pur) (u:= .pointer (some ⟨q,o+(off.ev N).toNat+(j.ev N).toNat*sz,none⟩)) ?_ fun w _=> ?_
    ·have:=ptr_mk (N:=N) (off:=(lin off j sz σ1).1) hb (by omega)
     simp only[one,SV.den,V1.den,this]
     rw[hev,show (off.ev N+j.ev N*sz).toNat=(off.ev N).toNat+(j.ev N).toNat*sz by omega,Nat.add_assoc]
    ·simp only[execOp,Instr.indexAt,e,hk,asIntOf,Sem.run_bind,Sem.run_pure,Result.andThen_ok,run_underlying ht,Instr.sureAddr]
     rw[if_pos ⟨e1,e2⟩]
     simp[run_sizeOf hsz,Addr.add_lit,Nat.add_assoc]
   ·cases h
  ·cases h
 ·rename_i b off len cap i el hx hi ht
  obtain ⟨q,o,c,mm,hb,h0,e,_⟩:=sl_den (evalO_den hA hx)
  split at h
  ·rename_i k j sz hj hsz
   have hk:=ar_den hj (evalO_den hA hi)
   split at h
   ·rename_i σ1 h1
    simp only[Option.some.injEq,Prod.mk.injEq] at h
    obtain ⟨rfl,rfl⟩:=h
    simp only[Option.bind_eq_some_iff] at h1
    obtain ⟨σ2,h1,h2⟩:=h1
    have hH1:=Hold.of_ext lin_pur.ext hH
    have e1:=le_holds h1 (Hold.of_ext (lt_pur h2).ext hH1)
    have e2:=lt_holds h2 hH1
    simp only[ev_kst] at e1 e2
    have hev:(lin off j sz σ1).1.ev N=off.ev N+j.ev N*sz:=lin_ev hH
    obtain ⟨m1,m2⟩:=mul_toNat e1 sz
    refine quiet_pur hI (((le_pur h1).trans (lt_pur h2)).trans lin_pur) (u:= .pointer (some ⟨q,o+(off.ev N).toNat+(j.ev N).toNat*sz,none⟩)) ?_ fun w _=> ?_
    ·have:=ptr_mk (N:=N) (off:=(lin off j sz σ1).1) hb (by omega)
     simp only[one,SV.den,V1.den,this]
     rw[hev,show (off.ev N+j.ev N*sz).toNat=(off.ev N).toNat+(j.ev N).toNat*sz by omega,Nat.add_assoc]
    ·simp only[execOp,Instr.indexAt,e,hk,asIntOf,Sem.run_bind,Sem.run_pure,Result.andThen_ok,run_underlying ht,Instr.sureAddr]
     rw[if_pos ⟨e1,by omega⟩]
     simp[run_sizeOf hsz,Addr.add_lit,Nat.add_assoc]
   ·cases h
  ·cases h
 ·cases h
theorem arsL_den {k:IntKind}:∀ {l:List Sc} {as:List Ar} {vs:List Value},arsL k l=some as→denL N E l=some vs→vs=as.map fun a=> .int k (a.ev N)
 | [],as,vs,h,hd=>by
  simp only[arsL,Option.some.injEq] at h;subst h
  simp only[denL,Option.some.injEq] at hd;subst hd;rfl
 | x::l,as,vs,h,hd=>by
  obtain ⟨v,r,hv,hr,rfl⟩:=denL_cons.1 hd
  simp only[arsL] at h
  split at h
  ·rename_i k' a' ha
   cases hk:kindB k k' with
   | false=>rw[hk] at h;cases h
   | true =>
    have:=kindB_eq hk;subst this
    rw[hk] at h
    simp only[cond_true,Option.map_eq_some_iff] at h
    obtain ⟨as',has,rfl⟩:=h
    rw[arsL_den has hr,ar_den ha hv]
    rfl
  ·cases h
theorem q_index {t:TypeId}{x ix:Operand}(h:op1 P T σ (.index t x ix)=some (v,σ'))(hA:RA N E n T a)(hI:Inv E σ)(hH:Hold F N σ') :
  QuietC P N E σ ⟨dst,.index t x ix,type,pos,after,guard⟩ a v σ' (fun _=>True):=by
 simp only[op1] at h
 split at h
 ·rename_i l i m el hx hi ht
  obtain ⟨vs,hvs,e⟩:=agg_den (evalO_den hA hx)
  split at h
  ·rename_i k j sz hj hsz
   have hk:=ar_den hj (evalO_den hA hi)
   cases hlt:Nat.blt j m with
   | false=>rw[hlt] at h;cases h
   | true =>
    rw[hlt] at h
    have hlt':=int_in (Nat.blt_eq.mp hlt)
    simp only[cond_true] at h
    split at h
    ·rename_i y hy
     obtain ⟨u,hu,hrun⟩:=partS_run hy hvs
     refine quiet_same hI h (u:=u) hu fun w _=> ?_
     simp only[execOp,Instr.index,e,hk,asIntOf,Sem.run_bind,Sem.run_pure,Result.andThen_ok,run_underlying ht]
     rw[if_pos (by simpa [Ar.ev] using hlt')]
     simp[run_sizeOf hsz,hrun,Ar.ev]
    ·cases h
  ·rename_i k j hne hsz hj
   have hk:=ar_den hsz (evalO_den hA hi)
   split at h
   ·rename_i ke ha hu
    split at h
    ·rename_i as has
     cases hlen:Nat.beq as.length m with
     | false=>rw[hlen] at h;cases h
     | true =>
      rw[hlen] at h
      simp only[cond_true] at h
      split at h
      ·rename_i σ1 h1
       simp only[Option.some.injEq,Prod.mk.injEq] at h
       obtain ⟨rfl,rfl⟩:=h
       simp only[Option.bind_eq_some_iff] at h1
       obtain ⟨σ2,h1,h2⟩:=h1
       have hH1:=Hold.of_ext (Ext.mk1 _ _) hH
       have e1:=le_holds h1 (Hold.of_ext (lt_pur h2).ext hH1)
       have e2:=lt_holds h2 hH1
       simp only[ev_kst] at e1 e2
       have hl:=Nat.eq_of_beq_eq_true hlen
       have hn:N.i σ1.nx=(Nd.sel as j).ev N:=hH.mk1
       have hvs':=arsL_den has hvs
       refine quiet_pur hI (((le_pur h1).trans (lt_pur h2)).trans (Pur.mk1 _ _)) (u:= .int ke (N.i σ1.nx)) rfl fun w _=> ?_
       simp only[execOp,Instr.index,e,hk,asIntOf,Sem.run_bind,Sem.run_pure,Result.andThen_ok,run_underlying ht]
       rw[if_pos (by exact ⟨e1,e2⟩)]
       have hlt:(j.ev N).toNat<as.length:=by omega
       rw[hn]
       simp only[Sem.run_bind,run_sizeOf hj,Result.andThen_ok,part,run_isAgg ha,Nat.mul_one,hvs',Nd.ev]
       simp[hlt]
      ·cases h
    ·cases h
   ·cases h
  ·cases h
 ·rename_i s i hx hi ht
  have e:=kst_den (evalO_den hA hx)
  split at h
  ·rename_i k j hj
   have hk:=ar_den hj (evalO_den hA hi)
   split at h
   ·rename_i c hc
    refine quiet_same hI h (u:= .int .u8 c.toNat) (by simp[one,SV.den,V1.den,Sc.den,cellOk]) fun w _=> ?_
    simp only[execOp,Instr.index,e,hk,asIntOf,Sem.run_bind,Sem.run_pure,Result.andThen_ok,run_underlying ht]
    have hg:s[j]? =some c:=by
     obtain ⟨hlt,hget⟩:=List.getElem?_eq_some_iff.1 hc
     have:j<s.size:=by simpa using hlt
     rw[getElem?_pos s j this]
     congr 1
    simp[hg,Ar.ev]
   ·cases h
  ·cases h
 ·cases h
theorem q_extract {x:Operand}{i:Nat}(h:op1 P T σ (.extract x i)=some (v,σ'))(hA:RA N E n T a)(hI:Inv E σ) :
  QuietC P N E σ ⟨dst,.extract x i,type,pos,after,guard⟩ a v σ' (fun _=>True):=by
 simp only[op1] at h
 split at h
 ·rename_i l hx
  have hd:=evalO_den hA hx
  simp only[SV.den,Option.map_eq_some_iff] at hd
  obtain ⟨vs,hvs,e⟩:=hd
  split at h
  ·rename_i y hy
   obtain ⟨u,h1,h2⟩:=vget_den hvs hy
   refine quiet_same hI h (u:=u) h2 fun w _=> ?_
   simp[execOp,←e,Instr.extract,h1]
  ·cases h
 ·cases h
theorem q_build {t:TypeId}{parts:Array (Nat×Operand)}(h:op1 P T σ (.build t parts)=some (v,σ'))(hA:RA N E n T a)(hI:Inv E σ) :
  QuietC P N E σ ⟨dst,.build t parts,type,pos,after,guard⟩ a v σ' (fun _=>True):=by
 simp only[op1] at h
 split at h
 ·rename_i z ps hz hps
  obtain ⟨zv,hzr,hzd⟩:=zeroB_run (N:=N) hz
  obtain ⟨hl1,hl2⟩:=partsS_den hA hps
  split at h
  ·rename_i fields ht
   split at h
   ·rename_i pl hpl
    split at h
    ·rename_i l hl
     obtain ⟨cs',h1,h2⟩:=fillS_run (E:=E) (vs:=parts.toList.map fun (i,x)=>(i,a.eval x)) hl (hzd E) (by simpa using hl1) hl2
     refine quiet_same hI h (u:= .agg cs') (by simp[SV.den,V1.den,h2]) fun w _=> ?_
     have hpr:=placesB_run hpl w
     have e1:nget pl=fun i=>pl.toArray[i]? :=by funext i;simp[nget_eq]
     rw[e1] at h1
     simp only[execOp,Instr.build,Sem.run_bind,hzr,Result.andThen_ok,run_underlying ht,Array.mapM_eq_mapM_toList,Sem.run_map,hpr,Array.toList_map]
     rw[h1]
     rfl
    ·cases h
   ·cases h
  ·rename_i m el ht
   split at h
   ·rename_i sz hsz
    split at h
    ·rename_i l hl
     obtain ⟨cs',h1,h2⟩:=fillS_run (E:=E) (vs:=parts.toList.map fun (i,x)=>(i,a.eval x)) hl (hzd E) (by simpa using hl1) hl2
     refine quiet_same hI h (u:= .agg cs') (by simp[SV.den,V1.den,h2]) fun w _=> ?_
     simp only[execOp,Instr.build,Sem.run_bind,hzr,Result.andThen_ok,run_underlying ht,run_sizeOf hsz,Array.toList_map]
     rw[h1]
     rfl
    ·cases h
   ·cases h
  ·cases h
 ·cases h
end
end Go.Sy
