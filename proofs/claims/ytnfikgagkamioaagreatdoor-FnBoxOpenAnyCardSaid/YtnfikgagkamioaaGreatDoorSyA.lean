/- The symbolic executor's operations are sound: append, copy, make. -/
import Derived.Deep.AppendSrc
import Derived.Laws.AppendOwn
import Derived.Test.YtnfikgagkamioaaGreatDoorSy7
namespace Go.Sy
section
variable {P:Program} {F:Fns} {N:Num} {E:Env} {σ σ':St} {n:Nat} {T:Tr SV} {a:Act} {v:Option SV} {dst:Option Tmp} {type:TypeId} {pos:String} {after:Array Edge} {guard:Option (Nat×Bool)}
structure Upd (w w':World) (q:Nat) (arr':Array Value) (el:TypeId):Prop where
 here:w'.heap[q]? =some (.cells arr' el (0,0))
 oth:∀q',q'≠q→w'.heap[q']? =w.heap[q']?
 size:w'.heap.size=w.heap.size
 os:w'.os=w.os
 tape:w'.tape=w.tape
 output:w'.output=w.output
theorem Upd.same {w:World}{q:Nat}{arr:Array Value}{el:TypeId}(h:w.heap[q]? =some (.cells arr el (0,0))):Upd w w q arr el:=⟨h,fun _ _=>rfl,rfl,rfl,rfl,rfl⟩
theorem Upd.trans {w w1 w2:World}{q:Nat}{a1 a2:Array Value}{el:TypeId}(h:Upd w w1 q a1 el)(k:Upd w1 w2 q a2 el):Upd w w2 q a2 el :=
 ⟨k.here,fun q' hq=>(k.oth q' hq).trans (h.oth q' hq),k.size.trans h.size,k.os.trans h.os,k.tape.trans h.tape,k.output.trans h.output⟩
theorem Upd.setCell {w:World}{q off:Nat}{arr:Array Value}{el:TypeId}{u:Value}(h:w.heap[q]? =some (.cells arr el (0,0))) :
 Upd w (w.setCell ⟨q,off,none⟩ u) q (arr.setIfInBounds off u) el:=by
 refine ⟨by simp[World.setCell,Array.getElem?_modify,h],fun q' hq=> ?_,by simp[World.setCell],rfl,rfl,rfl⟩;simp only[World.setCell,Array.getElem?_modify];rw[bC (Ne.symm hq)]
theorem one_of_cellOk {u:Value}(h:cellOk u=true):u.oneCell'=true:=by cases u <;> first | rfl | cases h
theorem run_store_in {w:World}{q o:Nat}{arr:Array Value}{el:TypeId}{u:Value}(h:w.heap[q]? =some (.cells arr el (0,0)))(ho:o<arr.size)(hu:cellOk u=true) :
 (store ⟨q,o,none⟩ u).run P w= .ok () (w.setCell ⟨q,o,none⟩ u):=by
 have hold:w.cell? ⟨q,o,none⟩=some arr[o]:=by simp[World.cell?,h,Array.getElem?_eq_getElem ho]
 have hfr:w.frozen? ⟨q,o,none⟩=false:=by simp[World.frozen?,h]
 rw[run_store P w _ _ _ (one_of_cellOk hu)];simp[hold,hfr]
theorem gG {q o:Nat}{el:TypeId}:∀ {vs:List Value} {i:Nat} {w:World} {arr:Array Value},w.heap[q]? =some (.cells arr el (0,0))→o+i+vs.length≤arr.size→(∀ v∈vs,cellOk v=true) →
 ∃w' arr',(storeCells ⟨q,o,none⟩ vs i).run P w= .ok () w'∧Upd w w' q arr' el∧arr'.size=arr.size∧(∀ k,(k<o+i∨o+i+vs.length≤k)→arr'[k]? =arr[k]?)∧(∀ j v,vs[j]? =some v→arr'[o+i+j]? =some v)
 | [],i,w,arr,h,hn,hc=>⟨w,arr,rfl,Upd.same h,rfl,fun _ _=>rfl,fun j v hj=>by simp at hj⟩
 | u::vs,i,w,arr,h,hn,hc=>by
  simp only[bU] at hn;have hr:=run_store_in (P:=P) (u:=u) (o:=o+i) h (by omega) (hc u aN);have hu:Upd w (w.setCell ⟨q,o+i,none⟩ u) q (arr.setIfInBounds (o+i) u) el:=Upd.setCell h;obtain ⟨w',arr',h1,h2,h3,h4,h5⟩:=gG (o:=o) (i:=i+1) hu.here (by simp only[Array.size_setIfInBounds];omega) (fun v hv=>hc v (aJ _ hv));refine ⟨w',arr',?_,hu.trans h2,by simpa using h3,fun k hk=> ?_,fun j v hj=> ?_⟩
  ·simp only[storeCells,bH];rw[Addr.add_lit,hr];exact h1
  ·simp only[bU] at hk;rw[h4 k (by omega),cU (by omega)]
  ·cases j with
   | zero =>simp only[eG,aA] at hj;subst hj;rw[h4 (o+i+0) (by omega)];simp[show o+i<arr.size by omega]
   | succ j =>rw[show o+i+(j+1)=o+(i+1)+j by omega];exact h5 j v (by simpa using hj)
theorem cont_wid {B:Bk}{s c:Nat}{arr arr':Array Value}(h:B.cont N E s c arr)(he:∀k,s≤k→k<s+B.wid N c→arr'[k]? =arr[k]?):B.cont N E s c arr':=by
 unfold Bk.cont at *;unfold Bk.wid at he;cases hB:B.arr with
 | none =>rw[hB] at h he;intro j sc hj;obtain ⟨h1,u,h2,h3⟩:=h j sc hj;refine ⟨h1,u,?_,h3⟩;rw[he (s+j) (by omega) (by simp only;omega)];exact h2
 | some x =>
  obtain ⟨k,A,g⟩:=x;rw[hB] at h he;refine ⟨fun j v hj=> ?_,fun hg j h1 h2=> ?_⟩
  ·have hlt:j<(N.a A).length:=by
    rcases bL j (N.a A).length with h | h
    ·exact h
    ·rw [bI h] at hj;cases hj
   rw[he (s+j) (by omega) ?_];·exact h.1 j v hj
   ·cases g with
    | true=>simp only[aH];have:(N.a A).length≤Nat.max c (N.a A).length:=Nat.le_max_right _ _;omega
    | false=>simp only[aQ];omega
  ·subst hg;rw[he (s+j) (by omega) (by simp only[aH];have:c≤Nat.max c (N.a A).length:=Nat.le_max_left _ _;omega)];exact h.2 rfl j h1 h2
theorem upd_post {b q s c:Nat}{B B':Bk}{w w':World}{arr arr':Array Value}{el:TypeId}(hw:BW N E σ.bks w)(hI:Inv E σ)(hB:σ.bks.get b=some B)(hrw:B.rw=true)
 (hb:E.blk b=some (q,s,c)) (hq:w.heap[q]? =some (.cells arr el (0,0))) (hu:Upd w w' q arr' el) (hsz:arr'.size=arr.size)
 (hout:∀k,(k<s∨s+B.wid N c≤k)→arr'[k]? =arr[k]?) (hrw':B'.rw=true) (hwid:B'.wid N c=B.wid N c) (hcont:B'.cont N E s c arr')
 (hs:σ'.bks=σ.bks.set b B') (hnb:σ'.nb=σ.nb) (hnv:σ'.nv=σ.nv) (hgl:σ'.gl=σ.gl):Post N E σ w N E σ' w':=by
 obtain ⟨q0,s0,c0,arr0,el0,fz0,g1,g2,g3,g4,g5⟩:=hw.at' b B hB;rw[hb] at g1;simp only[aA,aD] at g1;obtain ⟨rfl,rfl,rfl⟩:=g1;rw[hq] at g2;simp only[aA,Obj.cells.injEq] at g2;obtain ⟨rfl,rfl,rfl⟩:=g2;have back:∀i B1,σ'.bks.get i=some B1→∃B0,σ.bks.get i=some B0∧B0.rw=B1.rw∧(∀ q' s' c',E.blk i=some (q',s',c')→B0.wid N c'=B1.wid N c'):=fun i B1 h=>by
  rw[hs,fA] at h;by_cases hi:i=b
  ·subst hi;rw[bG rfl] at h;simp only[aA] at h;subst h;exact ⟨B,hB,by rw[hrw,hrw'],fun q' s' c' e=>by rw[hb] at e;simp only[aA,aD] at e;obtain ⟨_,_,rfl⟩:=e;exact hwid.symm⟩
  ·rw [bC hi] at h;exact ⟨B1,h,rfl,fun _ _ _ _=>rfl⟩
 refine ⟨⟨fun i hi=>hI.freshB i (by rw[←hnb];exact hi),fun j hj=>hI.freshV j (by rw[←hnv];exact hj),fun t sv e=>hI.glob t sv (by rw[←hgl];exact e)⟩,E.le_refl,⟨?_,?_⟩,⟨hu.os,hu.tape,hu.output,Nat.le_of_eq hu.size.symm,?_,?_⟩,?_⟩
 ·intro i B1 hB1;by_cases hi:i=b
  ·subst hi;rw[hs,fA,bG rfl] at hB1;simp only[aA] at hB1;subst hB1;exact ⟨q,s,c,arr',el,(0,0),hb,hu.here,fun _=>rfl,by rw[hwid,hsz];exact g4,hcont⟩
  ·rw [hs,fA,bC hi] at hB1;obtain ⟨q',s',c',arr1,el',fz',k1,k2,k3,k4,k5⟩:=hw.at' i B1 hB1;by_cases hqq:q'=q
   ·subst hqq;rw[hq] at k2;simp only[aA,Obj.cells.injEq] at k2;obtain ⟨rfl,rfl,rfl⟩:=k2;refine ⟨q',s',c',arr',el,(0,0),k1,hu.here,fun _=>rfl,by rw[hsz];exact k4,cont_wid (c:=c') k5 fun k hk1 hk2=>hout k ?_⟩;have:=hw.apart i b B1 B q' s' s c' c hB1 hB hi k1 hb (.inr hrw);omega
   ·exact ⟨q',s',c',arr1,el',fz',k1,by rw[hu.oth q' hqq];exact k2,k3,k4,k5⟩
 ·intro i i' B1 B2 q1 s1 s2 c1 c2 h1 h2 h3 h4 h5 h6;obtain ⟨B1',a1,a2,a3⟩:=back i B1 h1;obtain ⟨B2',b1,b2,b3⟩:=back i' B2 h2;rw[←a3 _ _ _ h4,←b3 _ _ _ h5];exact hw.apart i i' B1' B2' q1 s1 s2 c1 c2 a1 b1 h3 h4 h5 (by rw[a2,b2];exact h6)
 ·intro q' hq' hno;by_cases hqq:q'=q;·subst hqq;exact (hno b B s c hB hrw hb).elim
  ·exact hu.oth q' hqq
 ·intro q' arr1 el' fz' hq';by_cases hqq:q'=q
  ·subst hqq;rw[hq] at hq';simp only[aA,Obj.cells.injEq] at hq';obtain ⟨rfl,rfl,rfl⟩:=hq';exact ⟨arr',hu.here,hsz,fun k hk=>hout k (hk b B s c hB hrw hb)⟩
  ·exact ⟨arr1,by rw[hu.oth q' hqq];exact hq',rfl,fun _ _=>rfl⟩
 ·intro i B1 q' s' c' h1 h2 h3 _;obtain ⟨B0,a1,a2,a3⟩:=back i B1 h1;exact ⟨i,B0,s',c',a1,a2.trans h2,h3,aS _,by rw[a3 _ _ _ h3];exact aS _⟩
theorem toArr_ext {b A:Nat}{k:IntKind}{σ1:St}(h:σ.toArr b=some (k,A,σ1)):Ext σ σ1∧σ1.nb=σ.nb∧σ1.nv=σ.nv:=by
 unfold St.toArr at h;split at h
 ·split at h
  ·simp only[aA,aD] at h;obtain ⟨_,_,rfl⟩:=h;exact ⟨Ext.refl _,rfl,rfl⟩
  ·split at h
   ·split at h
    ·simp only[aA,aD] at h;obtain ⟨_,_,rfl⟩:=h;exact ⟨⟨fun _ m=>aJ _ m,fun _ m=>m,rfl,rfl,aS _⟩,rfl,rfl⟩
    ·cases h
   ·cases h
 ·cases h
theorem toArr_sound {b A:Nat}{k:IntKind}{σ1:St}{w:World}{B:Bk}(h:σ.toArr b=some (k,A,σ1))(hH:Hold F N σ1)(hw:BW N E σ.bks w)(hI:Inv E σ)(hB:σ.bks.get b=some B)(hrw:B.rw=true) :
 Post N E σ w N E σ1 w∧∃B1 g,σ1.bks.get b=some B1∧B1.arr=some (k,A,g)∧B1.rw=true∧B1.n=B.n:=by
 unfold St.toArr at h;rw[hB] at h;simp only at h;split at h
 ·rename_i k' A' g hg;simp only[aA,aD] at h;obtain ⟨rfl,rfl,rfl⟩:=h;exact ⟨Post.refl hI hw,B,g,hB,hg,hrw,rfl⟩
 ·rename_i hg;split at h
  ·rename_i k' hk';split at h
   ·rename_i l hl;simp only[aA,aD] at h;obtain ⟨rfl,rfl,rfl⟩:=h;obtain ⟨q,s,c,arr,el,fz,g1,g2,g3,g4,g5⟩:=hw.at' b B hB;have:=g3 hrw;subst this;have hA:N.a σ.na=l.map (·.ev N):=hH.defs (.a σ.na (.lit l)) aN;obtain ⟨l1,l2⟩:=arsN_get hl;refine ⟨upd_post (B':={B with arr:=some (k',σ.na,false)}) hw hI hB hrw g1 g2 (Upd.same g2) rfl (fun _ _=>rfl) hrw ?_ ?_ rfl rfl rfl rfl,{B with arr:=some (k',σ.na,false)},false,by simp[fA],rfl,hrw,rfl⟩
    ·simp only[Bk.wid,hg,aQ,hA,bF,l1]
    ·unfold Bk.cont at g5;rw[hg] at g5;simp only at g5;simp only[Bk.cont];refine ⟨fun j x hj=> ?_,fun e=>by cases e⟩;rw[hA,bP,aV] at hj;obtain ⟨y,hy,rfl⟩:=hj;have hlt:j<B.n:=by
      rcases bL j B.n with h | h
      ·exact h
      ·rw [bI (by omega)] at hy;cases hy
     obtain ⟨sc,a',m1,m2,m3⟩:=l2 j hlt;rw[bM] at m1;obtain ⟨_,u,m4,m5⟩:=g5 j sc m1;rw[hy] at m3;simp only[aA] at m3;subst m3;rw[m4,gV m2 m5]
   ·cases h
  ·cases h
theorem cellAt_some {B:Bk}{off:Ar}{o:Nat}(h:B.cellAt off=some o):B.arr=none∧off= .kst (.ofNat o):=by
 unfold Bk.cellAt at h;split at h
 ·rename_i hg;simp only[aA] at h;subst h;exact ⟨hg,rfl⟩
 ·cases h
theorem store1_ext {σ1:St}{b:Nat}{off:Ar}{x:Sc}(h:σ.store1 b off x=some σ1):Ext σ σ1:=by
 unfold St.store1 at h;split at h
 ·rename_i B hB;cases hc:B.rw with
  | false=>rw[hc] at h;cases h
  | true =>
   rw[hc] at h;simp only[aH] at h;split at h
   ·rename_i o _;cases ho:Nat.blt o B.n with
    | false=>rw[ho] at h;cases h
    | true=>rw[ho] at h;simp only[aH,aA] at h;rw[←h];exact ⟨fun _ m=>m,fun _ m=>m,rfl,rfl,aS _⟩
   ·split at h
    ·rename_i k A σ2 k' v' hA hv;split at h
     ·split at h
      ·cases hk:kindB k k' with
       | false=>rw[hk] at h;cases h
       | true =>rw[hk] at h;simp only[aH,aA] at h;rw[←h];obtain ⟨h1,_,h3⟩:=toArr_ext hA;exact h1.trans ⟨fun _ m=>aJ _ m,fun _ m=>aJ _ m,rfl,rfl,aS _⟩
      ·cases h
     ·cases h
    ·cases h
 ·cases h
theorem store1_sound {σ1:St}{b q s c:Nat}{off:Ar}{x:Sc}{u:Value}{w:World}(h:σ.store1 b off x=some σ1)(hH:Hold F N σ1)(hb:E.blk b=some (q,s,c))(hu:x.den N E=some u)(hw:BW N E σ.bks w)(hI:Inv E σ) :
 ∃w',(store ⟨q,s+(off.ev N).toNat,none⟩ u).run P w= .ok () w'∧Post N E σ w N E σ1 w':=by
 unfold St.store1 at h;split at h
 ·rename_i B hB;cases hc:B.rw with
  | false=>rw[hc] at h;cases h
  | true =>
   rw[hc] at h;simp only[aH] at h;have hrw:=hc;split at h
   ·rename_i o hg0;obtain ⟨hg,rfl⟩:=cellAt_some hg0;cases ho:Nat.blt o B.n with
    | false=>rw[ho] at h;cases h
    | true =>
     rw[ho] at h;simp only[aH,aA] at h;subst h;have hlt:o<B.n:=bX.mp ho;obtain ⟨q',s',c',arr,el,fz,g1,g2,g3,g4,g5⟩:=hw.at' b B hB;rw[hb] at g1;simp only[aA,aD] at g1;obtain ⟨rfl,rfl,rfl⟩:=g1;have:=g3 hrw;subst this;have hwid:B.wid N c=B.n:=by simp only[Bk.wid,hg]
     rw[hwid] at g4;have e0:((Ar.kst (Int.ofNat o)).ev N).toNat=o:=rfl;rw[e0];refine ⟨_,run_store_in g2 (by omega) (Sc.den_cellOk hu),upd_post (B':={B with rw:=true,cells:=B.cells.set o x}) hw hI hB hrw hb g2 (Upd.setCell g2) (by simp) (fun k hk=> ?_) rfl ?_ ?_ rfl rfl rfl rfl⟩
     ·rw [hwid] at hk;rw[cU (by omega)]
     ·simp only[Bk.wid,hg]
     ·unfold Bk.cont at g5 ⊢;rw[hg] at g5;simp only[hg];intro j sc hj;rw[fA] at hj;by_cases hjo:j=o
      ·subst hjo;rw[bG rfl] at hj;simp only[aA] at hj;subst hj;exact ⟨hlt,u,by simp[show s+j<arr.size by omega],hu⟩
      ·rw [bC hjo] at hj;obtain ⟨k1,u',k2,k3⟩:=g5 j sc hj;exact ⟨k1,u',by rw[cU (by omega)];exact k2,k3⟩
   ·split at h
    ·rename_i k A σ2 k' v' hA hv;split at h
     ·rename_i B1 hB1;split at h
      ·rename_i k2 A2 g hg;cases hk:kindB k k' with
       | false=>rw[hk] at h;cases h
       | true =>
        rw[hk] at h;have:=fT hk;subst this;simp only[aH,aA] at h;subst h;have hH2:Hold F N σ2:=⟨hH.fns,fun d m=>hH.defs d (aJ _ m),fun o m=>hH.obs o (aJ _ m),hH.ins⟩
        obtain ⟨hp,B2,g',m1,m2,m3,_⟩:=toArr_sound hA hH2 hw hI hB hrw;rw[hB1] at m1;simp only[aA] at m1;subst m1;rw[hg] at m2;simp only[aA,aD] at m2;obtain ⟨rfl,rfl,rfl⟩:=m2;have hin:0≤off.ev N∧off.ev N<(N.a A2).length:=hH.obs (.inA off A2) aN;have hset:N.a σ2.na=(N.a A2).set (off.ev N).toNat (v'.ev N):=hH.defs (.a σ2.na (.set A2 off v')) aN;obtain ⟨q',s',c',arr,el,fz,g1,g2,g3,g4,g5⟩:=hp.bw.at' b B1 hB1;rw[hb] at g1;simp only[aA,aD] at g1
        obtain ⟨rfl,rfl,rfl⟩:=g1;have:=g3 m3;subst this;have hlen:(N.a A2).length≤B1.wid N c:=by
         simp only[Bk.wid,hg];cases g with
         | true=>exact Nat.le_max_right _ _
         | false=>exact aS _
        have e:=gV hv hu;subst e;refine ⟨_,run_store_in g2 (by omega) rfl,hp.trans (upd_post (B':={B1 with arr:=some (k2,σ2.na+1-1,g)}) hp.bw hp.inv hB1 m3 hb g2 (Upd.setCell g2) (by simp) (fun k hk=> ?_) m3 ?_ ?_ rfl rfl rfl rfl)⟩;·rw [cU (by omega)]
        ·simp only[Bk.wid,hg,Nat.add_sub_cancel,hset,List.length_set]
        ·unfold Bk.cont at g5 ⊢;rw[hg] at g5;simp only[Nat.add_sub_cancel,hset,List.length_set] at g5 ⊢;refine ⟨fun j y hj=> ?_,fun hg j h1 h2=>by rw[cU (by omega)];exact g5.2 hg j h1 h2⟩;by_cases hjo:j=(off.ev N).toNat
         ·subst hjo;rw[List.getElem?_set_self (by omega)] at hj;simp only[aA] at hj;subst hj;simp[show s+(off.ev N).toNat<arr.size by omega]
         ·rw [List.getElem?_set_ne (by omega)] at hj;rw[cU (by omega)];exact g5.1 j y hj
      ·cases h
     ·cases h
    ·cases h
 ·cases h
theorem storeL_ext {b:Nat}:∀ {l:List Sc} {off:Nat} {σ σ1:St},St.storeL b off l σ=some σ1→Ext σ σ1
 | [],off,σ,σ1,h=>by simp only[St.storeL,aA] at h;subst h;exact Ext.refl _
 | x::l,off,σ,σ1,h=>by
  simp only[St.storeL] at h;split at h
  ·rename_i σ2 hσ2;exact (store1_ext hσ2).trans (storeL_ext h)
  ·cases h
theorem storeL_sound {b q s c base:Nat}(hb:E.blk b=some (q,s,c)):∀ {l:List Sc} {vs:List Value} {i off:Nat} {σ σ1:St} {w:World},St.storeL b off l σ=some σ1→Hold F N σ1→denL N E l=some vs→off=base+i→BW N E σ.bks w→Inv E σ →
 ∃w1,(storeCells ⟨q,s+base,none⟩ vs i).run P w= .ok () w1∧Post N E σ w N E σ1 w1
 | [],vs,i,off,σ,σ1,w,h,hH,hd,ho,hw,hI=>by simp only[St.storeL,aA] at h;subst h;simp only[denL,aA] at hd;subst hd;exact ⟨w,rfl,Post.refl hI hw⟩
 | x::l,vs,i,off,σ,σ1,w,h,hH,hd,ho,hw,hI=>by
  obtain ⟨u,r,hu,hr,rfl⟩:=denL_cons.1 hd;simp only[St.storeL] at h;split at h
  ·rename_i σ2 hσ2;obtain ⟨w2,h1,h2⟩:=store1_sound (P:=P) hσ2 (eT (storeL_ext h) hH) hb hu hw hI;obtain ⟨w1,h3,h4⟩:=storeL_sound (base:=base) hb (i:=i+1) (off:=off+1) h hH hr (by omega) h2.bw h2.inv;refine ⟨w1,?_,h2.trans h4⟩;have e0:((Ar.kst (Int.ofNat off)).ev N).toNat=off:=rfl;rw[e0] at h1;simp only[storeCells,bH];rw[Addr.add_lit,show s+base+i=s+off by omega,h1];exact h3
  ·cases h
theorem trOf_get:∀(l:List Sc) (k:Nat) (t:Tr Sc) (j:Nat),(trOf k l t).get j=if k≤j∧j<k+l.length then l[j-k]? else t.get j
 | [],k,t,j=>by simp only[trOf,dV];rw[bC (by omega)]
 | x::l,k,t,j=>by
  simp only[trOf,trOf_get l,bU,fA];by_cases h:j=k;·subst h;rw[bC (by omega),bG rfl,bG (by omega)];simp
  ·by_cases h2:k≤j∧j<k+(l.length+1)
   ·rw [bG h2,bG (by omega)];rw[show j-k=(j-(k+1))+1 by omega];rfl
   ·rw [bC h2,bC (by omega),bC h]
theorem denL_get {E:Env}:∀ {l:List Sc} {vs:List Value} {k:Nat} {x:Sc},denL N E l=some vs→l[k]? =some x→∃v,vs[k]? =some v∧x.den N E=some v
 | [],_,_,_,_,h=>by simp at h
 | y::l,vs,0,x,hd,h=>by obtain ⟨v,r,hv,hr,rfl⟩:=denL_cons.1 hd;simp only[eG,aA] at h;subst h;exact ⟨v,rfl,hv⟩
 | y::l,vs,k+1,x,hd,h=>by obtain ⟨v,r,hv,hr,rfl⟩:=denL_cons.1 hd;obtain ⟨u,h1,h2⟩:=denL_get hr (by simpa using h);exact ⟨u,by simpa using h1,h2⟩
theorem denL_cellOk {E:Env}:∀ {l:List Sc} {vs:List Value},denL N E l=some vs→∀v∈vs,cellOk v=true
 | [],vs,hd=>by simp only[denL,aA] at hd;subst hd;intro v hv;cases hv
 | x::l,vs,hd=>by
  obtain ⟨v,r,hv,hr,rfl⟩:=denL_cons.1 hd;intro u hu;cases hu with
  | head=>exact Sc.den_cellOk hv
  | tail _ hu=>exact denL_cellOk hr u hu
theorem storeAll_ext {b:Nat}{l:List Sc}{σ1:St}(h:St.storeAll b l σ=some σ1):Ext σ σ1:=by
 unfold St.storeAll at h;split at h
 ·rename_i B hB;generalize (B.rw&&Nat.beq l.length B.n&&B.noGrow)=bb at h;cases bb with
  | false=>cases h
  | true =>
   simp only[aH] at h;split at h;·simp only[aA] at h;rw[←h];exact ⟨fun _ m=>m,fun _ m=>m,rfl,rfl,aS _⟩
   ·simp only[aA] at h;rw[←h];exact ⟨fun _ m=>m,fun _ m=>aJ _ m,rfl,rfl,aS _⟩
 ·cases h
theorem storeAll_sound {b q s c:Nat}{l:List Sc}{vs:List Value}{σ1:St}{w:World}(h:St.storeAll b l σ=some σ1)(hH:Hold F N σ1)(hb:E.blk b=some (q,s,c))(hd:denL N E l=some vs)(hw:BW N E σ.bks w)(hI:Inv E σ) :
 ∃w1,(storeCells ⟨q,s,none⟩ vs 0).run P w= .ok () w1∧Post N E σ w N E σ1 w1:=by
 unfold St.storeAll at h;split at h
 ·rename_i B hB;cases hc:(B.rw&&Nat.beq l.length B.n&&B.noGrow) with
  | false=>rw[hc] at h;cases h
  | true =>
   rw[hc] at h;simp only[aH] at h;simp only[aG] at hc;obtain ⟨⟨hrw,hln⟩,hg0⟩:=hc;have hln:l.length=B.n:=aF hln;have hvl:=denL_length hd;have hwid:B.wid N c=B.n∧∃B':Bk,B'={B with cells:=trOf 0 l .nil,arr:=none}∧σ1.bks=σ.bks.set b B'∧σ1.nb=σ.nb∧σ1.nv=σ.nv∧σ1.gl=σ.gl:=by
    split at h
    ·rename_i hg;simp only[aA] at h;subst h;exact ⟨by simp only[Bk.wid,hg],_,rfl,by simp only[St.setB,hg],rfl,rfl,rfl⟩
    ·rename_i k A g hg;simp only[aA] at h;subst h;have hg0:g=false:=by simpa [Bk.noGrow,hg] using hg0
     subst hg0;have:(Ar.kst (B.n:Int)).ev N=(N.a A).length:=hH.obs (.lenA (.kst B.n) A) aN;rw[gE] at this;exact ⟨by simp only[Bk.wid,hg,aQ];omega,_,rfl,rfl,rfl,rfl,rfl⟩
   obtain ⟨hwid,B',rfl,hs,hnb,hnv,hgl⟩:=hwid;obtain ⟨q',s',c',arr,el,fz,g1,g2,g3,g4,g5⟩:=hw.at' b B hB;rw[hb] at g1;simp only[aA,aD] at g1;obtain ⟨rfl,rfl,rfl⟩:=g1;have:=g3 hrw;subst this;rw[hwid] at g4;obtain ⟨w',arr',h1,h2,h3,h4,h5⟩:=gG (P:=P) (o:=s) (i:=0) (vs:=vs) g2 (by omega) (denL_cellOk hd);refine ⟨w',h1,upd_post (B':={B with cells:=trOf 0 l .nil,arr:=none}) hw hI hB hrw hb g2 h2 h3 (fun k hk=>h4 k (by omega)) hrw ?_ ?_ hs hnb hnv hgl⟩
   ·simp only[Bk.wid];exact hwid.symm
   ·simp only[Bk.cont];intro j sc hj;rw[trOf_get] at hj;by_cases hjl:0≤j∧j<0+l.length
    ·rw [bG hjl] at hj;obtain ⟨u,k1,k2⟩:=denL_get hd (by simpa using hj);exact ⟨by omega,u,by simpa using h5 j u k1,k2⟩
    ·rw [bC hjl] at hj;cases hj
 ·cases h
end
section
variable {P:Program} {F:Fns} {N:Num} {E:Env} {σ σ':St} {n:Nat} {T:Tr SV} {a:Act} {v:Option SV} {dst:Option Tmp} {type:TypeId} {pos:String} {after:Array Edge} {guard:Option (Nat×Bool)}
theorem s_store {t:TypeId}{x y:Operand}(h:op1 P T σ (.store t x y)=some (v,σ'))(hA:RA N E n T a)(hI:Inv E σ)(hH:Hold F N σ'){w:World}(hw:BW N E σ.bks w) :
 v=none∧∃w',(execOp a.eval ⟨dst,.store t x y,type,pos,after,guard⟩).run P w= .ok .skip w'∧Post N E σ w N E σ' w':=by
 simp only[op1] at h;split at h
 ·rename_i b off y' m hx hy hm;obtain ⟨q,s,c,hb,h0,e⟩:=ptr_den (eW hA hx);have e0:((Ar.kst (Int.ofNat off)).ev N).toNat=off:=rfl;rw[e0] at e;have hd:=V1.den_cells (eW hA hy);cases hl:Nat.beq y'.cells.length m with
  | false=>rw[hl] at h;cases h
  | true =>
   rw[hl] at h;simp only[aH] at h;have hlen:(a.eval y).cells.size=m:=by have:=denL_length hd;simp only[Array.length_toList] at this;rw[this];exact aF hl
   have fin:∀ {σ1:St} {w1:World},some ((none:Option SV),σ1)=some (v,σ')→(storeCells ⟨q,s+off,none⟩ (a.eval y).cells.toList 0).run P w= .ok () w1→Post N E σ w N E σ1 w1 →
    v=none∧∃w',(execOp a.eval ⟨dst,.store t x y,type,pos,after,guard⟩).run P w= .ok .skip w'∧Post N E σ w N E σ' w':=fun {σ1 w1} h h1 h2=>by
    simp only[aA,aD] at h;obtain ⟨rfl,rfl⟩:=h;refine ⟨rfl,w1,?_,h2⟩;simp only[execOp,Instr.storeAt,e,Instr.sureAddr,bH,bY,aY,storeVar,fQ hm];rw[bC (by simpa using hlen)];rw[h1];rfl
   have viaL:∀ {σ1:St},St.storeL b off y'.cells σ=some σ1→some ((none:Option SV),σ1)=some (v,σ') →
    v=none∧∃w',(execOp a.eval ⟨dst,.store t x y,type,pos,after,guard⟩).run P w= .ok .skip w'∧Post N E σ w N E σ' w':=fun {σ1} hσ1 h=>by
    have hH1:Hold F N σ1:=by simp only[aA,aD] at h;rw[h.2];exact hH
    obtain ⟨w1,h1,h2⟩:=storeL_sound (P:=P) (base:=off) (i:=0) hb hσ1 hH1 hd rfl hw hI;exact fin h h1 h2
   cases y' with
   | sc y'' =>
    simp only at h;split at h
    ·rename_i σ1 hσ1;exact viaL hσ1 h
    ·cases h
   | agg l =>
    simp only at h;split at h
    ·rename_i σ1 hσ1;cases hz:Nat.beq off 0 with
     | false=>rw[hz] at hσ1;cases hσ1
     | true =>
      rw[hz] at hσ1;simp only[aH] at hσ1;have hz':=aF hz;subst hz';have hH1:Hold F N σ1:=by simp only[aA,aD] at h;rw[h.2];exact hH
      obtain ⟨w1,h1,h2⟩:=storeAll_sound (P:=P) hσ1 hH1 hb hd hw hI;exact fin h h1 h2
    ·split at h
     ·rename_i σ1 hσ1;exact viaL hσ1 h
     ·cases h
 ·rename_i b off y' hne hx hy hm;obtain ⟨q,s,c,hb,h0,e⟩:=ptr_den (eW hA hx);have hd:=eW hA hy;split at h
  ·rename_i σ1 hσ1;simp only[aA,aD] at h;obtain ⟨rfl,rfl⟩:=h;obtain ⟨w1,h1,h2⟩:=store1_sound (P:=P) hσ1 hH hb hd hw hI;have hc:=cells_of_cellOk (Sc.den_cellOk hd);refine ⟨rfl,w1,?_,h2⟩;simp only[execOp,Instr.storeAt,e,Instr.sureAddr,bH,bY,aY,storeVar,fQ hm,hc];rw[bC (by simp)];simp only[storeCells,bH,Addr.add_lit,cJ,h1,aY,bY]
  ·cases h
 ·cases h
def Env.addB (E:Env)(b:Nat)(q:Nat×Nat×Nat):Env:={E with blk:=fun j=>bif Nat.beq j b then some q else E.blk j}
theorem fK {b:Nat}{q:Nat×Nat×Nat}:(E.addB b q).blk b=some q:=by simp only[Env.addB,fY rfl,aH]
theorem addB_le {q:Nat×Nat×Nat}(hI:Inv E σ):E.le (E.addB σ.nb q):=by
 refine ⟨fun b q h=> ?_,fun _ _ h=>h⟩;have:b≠σ.nb:=fun e=>by rw[e,hI.freshB σ.nb (aS _)] at h;cases h
 simp only[Env.addB,fH this,aQ];exact h
theorem addB_inv {q:Nat×Nat×Nat}(hI:Inv E σ)(hnb:σ'.nb=σ.nb+1)(hnv:σ'.nv=σ.nv)(hgl:σ'.gl=σ.gl):Inv (E.addB σ.nb q) σ' :=
 ⟨fun b hb=>by
  rw[hnb] at hb;simp only[Env.addB,fH (show b≠σ.nb by omega),aQ];exact hI.freshB b (by omega),fun j hj=>hI.freshV j (by rw[←hnv];exact hj),fun t sv e=>by
  obtain ⟨h1,b,c,h2,h3⟩:=hI.glob t sv (by rw[←hgl];exact e);exact ⟨h1,b,c,h2,(addB_le hI).blk _ _ h3⟩⟩
theorem addBlk0 {B:Bk}{w:World}{q s c:Nat}{arr:Array Value}{el:TypeId}{fz:Nat×Nat}(hI:Inv E σ)(hw:BW N E σ.bks w)(hq:w.heap[q]? =some (.cells arr el fz))(hrw:B.rw=true→fz=(0,0))
 (hwid:s+B.wid N c≤arr.size) (hcont:B.cont N (E.addB σ.nb (q,s,c)) s c arr)
 (hap:∀i B' s' c',σ.bks.get i=some B'→E.blk i=some (q,s',c')→(B'.rw=true∨B.rw=true)→s'+B'.wid N c'≤s∨s+B.wid N c≤s')
 (hs:σ'.bks=σ.bks.set σ.nb B) (hnb:σ'.nb=σ.nb+1) (hnv:σ'.nv=σ.nv) (hgl:σ'.gl=σ.gl) :
 E.le (E.addB σ.nb (q,s,c))∧Inv (E.addB σ.nb (q,s,c)) σ'∧BW N (E.addB σ.nb (q,s,c)) σ'.bks w∧(E.addB σ.nb (q,s,c)).blk σ.nb=some (q,s,c):=by
 have hle:=addB_le (q:=(q,s,c)) hI;have hself:(E.addB σ.nb (q,s,c)).blk σ.nb=some (q,s,c):=fK;have hoth:∀i,i≠σ.nb→(E.addB σ.nb (q,s,c)).blk i=E.blk i:=fun i h=>by simp only[Env.addB,fH h,aQ]
 refine ⟨hle,addB_inv hI hnb hnv hgl,⟨fun i B1 e=> ?_,fun i i' B1 B2 q1 s1 s2 c1 c2 h1 h2 h3 h4 h5 h6=> ?_⟩,hself⟩
 ·rw [hs,fA] at e;by_cases hi:i=σ.nb
  ·rw [bG hi] at e;simp only[aA] at e;subst e;subst hi;exact ⟨q,s,c,arr,el,fz,hself,hq,hrw,hwid,hcont⟩
  ·rw [bC hi] at e;obtain ⟨q',s',c1,arr',el',fz',g1,g2,g3,g4,g5⟩:=hw.at' i B1 e;exact ⟨q',s',c1,arr',el',fz',hle.blk _ _ g1,g2,g3,g4,Bk.cont_mono hle g5⟩
 ·rw [hs,fA] at h1 h2;by_cases hi:i=σ.nb
  ·by_cases hi':i'=σ.nb;·exact absurd (hi.trans hi'.symm) h3
   ·rw [bG hi] at h1;rw[bC hi'] at h2;simp only[aA] at h1;subst h1;rw[hi,hself] at h4;rw[hoth i' hi'] at h5;simp only[aA,aD] at h4;obtain ⟨rfl,rfl,rfl⟩:=h4;exact (hap i' B2 s2 c2 h2 h5 h6.symm).symm
  ·rw [bC hi] at h1;rw[hoth i hi] at h4;by_cases hi':i'=σ.nb
   ·rw [bG hi'] at h2;simp only[aA] at h2;subst h2;rw[hi',hself] at h5;simp only[aA,aD] at h5;obtain ⟨rfl,rfl,rfl⟩:=h5;exact hap i B1 s1 c1 h1 h4 h6
   ·rw [bC hi'] at h2;rw[hoth i' hi'] at h5;exact hw.apart i i' B1 B2 _ _ _ _ _ h1 h2 h3 h4 h5 h6
theorem addBlk {B:Bk}{w:World}{q s c:Nat}{arr:Array Value}{el:TypeId}{fz:Nat×Nat}(hI:Inv E σ)(hw:BW N E σ.bks w)(hq:w.heap[q]? =some (.cells arr el fz))(hrw:B.rw=true→fz=(0,0))
 (hwid:s+B.wid N c≤arr.size) (hcont:B.cont N E s c arr)
 (hap:∀i B' s' c',σ.bks.get i=some B'→E.blk i=some (q,s',c')→(B'.rw=true∨B.rw=true)→s'+B'.wid N c'≤s∨s+B.wid N c≤s')
 (hs:σ'.bks=σ.bks.set σ.nb B) (hnb:σ'.nb=σ.nb+1) (hnv:σ'.nv=σ.nv) (hgl:σ'.gl=σ.gl) :
 E.le (E.addB σ.nb (q,s,c))∧Inv (E.addB σ.nb (q,s,c)) σ'∧BW N (E.addB σ.nb (q,s,c)) σ'.bks w∧(E.addB σ.nb (q,s,c)).blk σ.nb=some (q,s,c) :=
 addBlk0 hI hw hq hrw hwid (Bk.cont_mono (addB_le hI) hcont) hap hs hnb hnv hgl
theorem newBk_gen {B:Bk}{arr0:Array Value}{fz:Nat×Nat}{w w':World}{t:TypeId}{q0 s0 c:Nat}(hw:BW N E σ.bks w)(hI:Inv E σ)(hos:w'.os=w.os)(ht:w'.tape=w.tape)(ho:w'.output=w.output)
 (hsz:w.heap.size≤w'.heap.size) (hkeep:∀q,q<w.heap.size→w'.heap[q]? =w.heap[q]?) (hq0:w.heap.size≤q0) (hh:w'.heap[q0]? =some (.cells arr0 t fz)) (hrw:B.rw=true→fz=(0,0))
 (hwid:s0+B.wid N c≤arr0.size) (hcont:B.cont N (E.addB σ.nb (q0,s0,c)) s0 c arr0)
 (hs:σ'.bks=σ.bks.set σ.nb B) (hnb:σ'.nb=σ.nb+1) (hnv:σ'.nv=σ.nv) (hgl:σ'.gl=σ.gl) :
 Post N E σ w N (E.addB σ.nb (q0,s0,c)) σ' w':=by
 have hlt:∀i B q s c,σ.bks.get i=some B→E.blk i=some (q,s,c)→q<w.heap.size:=fun i B q s c hB hq=>by
  obtain ⟨q',s',c',arr,el,fz,g1,g2,_⟩:=hw.at' i B hB;rw[hq] at g1;simp only[aA,aD] at g1;rw[←g1.1] at g2;rcases bL q w.heap.size with h | h
  ·exact h
  ·rw [cQ h] at g2;cases g2
 have hw':BW N E σ.bks w':=⟨fun i B1 hB=>by obtain ⟨q,s,c1,arr,el,fz,g1,g2,g3⟩:=hw.at' i B1 hB;exact ⟨q,s,c1,arr,el,fz,g1,by rw[hkeep q (hlt i B1 q s c1 hB g1)];exact g2,g3⟩,hw.apart⟩
 obtain ⟨hle,hI',hbw,hself⟩:=addBlk0 (σ':=σ') hI hw' hh hrw hwid hcont (fun i B' s' c' h1 h2 _=>by have:=hlt i B' _ _ _ h1 h2;omega) hs hnb hnv hgl;refine ⟨hI',hle,hbw,⟨hos,ht,ho,hsz,fun q hq _=>hkeep q hq,fun q arr el fz hq=> ?_⟩,fun i B1 q s c1 h1 h2 h3 h4=> ?_⟩
 ·have:q<w.heap.size:=by
   rcases bL q w.heap.size with h | h
   ·exact h
   ·rw [cQ h] at hq;cases hq
  exact ⟨arr,by rw[hkeep q this];exact hq,rfl,fun _ _=>rfl⟩
 ·rw [hs,fA] at h1;by_cases hi:i=σ.nb
  ·rw [hi,hself] at h3;simp only[aA,aD] at h3;omega
  ·rw [bC hi] at h1;simp only[Env.addB,fH hi,aQ] at h3;exact ⟨i,B1,s,c1,h1,h2,h3,aS _,aS _⟩
theorem newBk_sound {B:Bk}{arr0:Array Value}{w w':World}{t:TypeId}{c:Nat}(hw:BW N E σ.bks w)(hI:Inv E σ)
 (hh:w'.heap=w.heap.push (.cells arr0 t)) (hos:w'.os=w.os) (ht:w'.tape=w.tape) (ho:w'.output=w.output) (hwid:B.wid N c≤arr0.size) (hcont:B.cont N (E.addB σ.nb (w.heap.size,0,c)) 0 c arr0)
 (hs:σ'.bks=σ.bks.set σ.nb B) (hnb:σ'.nb=σ.nb+1) (hnv:σ'.nv=σ.nv) (hgl:σ'.gl=σ.gl) :
 Post N E σ w N (E.addB σ.nb (w.heap.size,0,c)) σ' w' :=
 newBk_gen hw hI hos ht ho (by rw[hh];simp) (fun q hq=>by rw[hh,Array.getElem?_push,bC (by omega)]) (aS _) (t:=t) (by rw[hh];simp) (fun _=>rfl) (by omega) hcont hs hnb hnv hgl
theorem newB_cont {l:List Sc}{vs:List Value}{E':Env}{c:Nat}(hd:denL N E l=some vs)(hle:E.le E'):({n:=l.length,rw:=true,cells:=trOf 0 l .nil,arr:=none}:Bk).cont N E' 0 c vs.toArray:=by
 simp only[Bk.cont];intro j sc hj;rw[trOf_get] at hj;by_cases hjl:0≤j∧j<0+l.length
 ·rw [bG hjl] at hj;obtain ⟨u,h1,h2⟩:=denL_get hd (by simpa using hj);exact ⟨by simpa using hjl.2,u,by simpa using h1,Sc.den_mono hle h2⟩
 ·rw [bC hjl] at hj;cases hj
theorem newB_sound {l:List Sc}{vs:List Value}{w:World}{t:TypeId}(hd:denL N E l=some vs)(hw:BW N E σ.bks w)(hI:Inv E σ) :
 Post N E σ w N (E.addB σ.nb (w.heap.size,0,l.length)) (σ.newB l) {w with heap:=w.heap.push (.cells vs.toArray t)}:=by
 have hle:E.le (E.addB σ.nb (w.heap.size,0,l.length)):=by
  refine ⟨fun b q h=> ?_,fun _ _ h=>h⟩;have:b≠σ.nb:=fun e=>by rw[e,hI.freshB σ.nb (aS _)] at h;cases h
  simp only[Env.addB,fH this,aQ];exact h
 refine newBk_sound hw hI rfl rfl rfl rfl ?_ ?_ rfl rfl rfl rfl;·simp only[Bk.wid];simp[denL_length hd]
 ·exact newB_cont hd hle
theorem Ext.newB (l:List Sc):Ext σ (σ.newB l):=⟨fun _ m=>m,fun _ m=>m,rfl,rfl,aS _⟩
theorem s_alloc {t:TypeId}(h:op1 P T σ (.alloc t)=some (v,σ'))(hI:Inv E σ){w:World}(hw:BW N E σ.bks w) :
 ∃sv u w' E',v=some sv∧(execOp a.eval ⟨dst,.alloc t,type,pos,after,guard⟩).run P w= .ok (.value u) w'∧Post N E σ w N E' σ' w'∧sv.den N E'=some u:=by
 simp only[op1] at h;split at h
 ·rename_i l hl;obtain ⟨z,hzr,hzd⟩:=zeroB_run (N:=N) hl;simp only[aA,aD] at h;obtain ⟨rfl,rfl⟩:=h;refine ⟨_,.pointer (some ⟨w.heap.size,0,none⟩),_,_,rfl,?_,newB_sound (t:=t) (hzd E) hw hI,?_⟩;·simp [execOp,Instr.alloc,hzr,newVar,newRow]
  ·simp only[one,SV.den,V1.den];rw[ptr_mk fK (by simp[Ar.ev])];rfl
 ·cases h
theorem s_box {t:TypeId}{x:Operand}(h:op1 P T σ (.box t x)=some (v,σ'))(hA:RA N E n T a)(hI:Inv E σ){w:World}(hw:BW N E σ.bks w) :
 ∃sv u w' E',v=some sv∧(execOp a.eval ⟨dst,.box t x,type,pos,after,guard⟩).run P w= .ok (.value u) w'∧Post N E σ w N E' σ' w'∧sv.den N E'=some u:=by
 simp only[op1] at h;split at h
 ·rename_i y hy;simp only[aA,aD] at h;obtain ⟨rfl,rfl⟩:=h;refine ⟨_,.pointer (some ⟨w.heap.size,0,none⟩),_,_,rfl,?_,newB_sound (t:=t) (V1.den_cells (eW hA hy)) hw hI,?_⟩;·simp [execOp,Instr.box,newVar,newRow]
  ·simp only[one,SV.den,V1.den];rw[ptr_mk fK (by simp[Ar.ev])];rfl
 ·cases h
theorem Post.of_qx {E':Env}{w:World}(h:QX σ σ')(hI:Inv E' σ')(hle:E.le E')(hb:E'.blk=E.blk)(hw:BW N E σ.bks w):Post N E σ w N E' σ' w:=by
 refine ⟨hI,hle,by rw[h.bks];exact BW.mono hle hw,Kept.refl _ _ _,fun i B' q s c h1 h2 h3 _=> ?_⟩;rw[h.bks] at h1;rw[hb] at h3;exact ⟨i,B',s,c,h1,h2,h3,aS _,aS _⟩
theorem fD {w:World}(h:Pur σ σ')(hI:Inv E σ)(hw:BW N E σ.bks w):Post N E σ w N E σ' w:=Post.of_qx h.qx (hI.pur h) E.le_refl rfl hw
theorem op1_ext {o:Op}(h:op1 P T σ o=some (v,σ')):Ext σ σ':=by
 by_cases hq:quietOp o=true;·exact (op1_qx h hq).ext
 ·cases o <;> simp only[quietOp,not_true_eq_false] at hq
  case alloc =>
   simp only[op1] at h;split at h;·simp only[aA,aD] at h;rw[←h.2];exact Ext.newB _
   ·cases h
  case box =>
   simp only[op1] at h;split at h;·simp only[aA,aD] at h;rw[←h.2];exact Ext.newB _
   ·cases h
  case store =>
   simp only[op1] at h;split at h
   ·generalize Nat.beq _ _=bb at h;cases bb with
    | false=>cases h
    | true =>
     simp only[aH] at h;split at h
     ·rename_i σ1 hσ1;simp only[aA,aD] at h;rw[←h.2];split at hσ1
      ·generalize Nat.beq _ _=bb at hσ1;cases bb with
       | false=>cases hσ1
       | true=>exact storeAll_ext hσ1
      ·cases hσ1
     ·split at h;·simp only[aA,aD] at h;rw[←h.2];exact storeL_ext (by assumption)
      ·cases h
   ·split at h;·simp only[aA,aD] at h;rw[←h.2];exact store1_ext (by assumption)
    ·cases h
   ·cases h
  case call c =>
   obtain ⟨callee,args,argTypes⟩:=c;cases callee with
   | builtin b=>cases b <;> first | (simp only[op1,reduceCtorEq] at h;done) | (simp only[not_true_eq_false] at hq)
   | value f=>simp only[op1,reduceCtorEq] at h
   | invoke r m=>simp only[op1,reduceCtorEq] at h
  all_goals (simp only[op1,reduceCtorEq] at h)
theorem op1_sound {o:Oper}(h:op1 P T σ o.op=some (v,σ'))(hA:RA N E n T a)(hI:Inv E σ)(hH:Hold F N σ'){w:World}(hw:BW N E σ.bks w) :
 ∃E' w',Post N E σ w N E' σ' w'∧((v=none∧(execOp a.eval o).run P w= .ok .skip w')∨∃sv u,v=some sv∧sv.den N E'=some u∧(execOp a.eval o).run P w= .ok (.value u) w'):=by
 by_cases hq:quietOp o.op=true
 ·obtain ⟨E',sv,u,h1,h2,h3,h4,h5,h6⟩:=op1_quiet h hq hA hI hH hw;exact ⟨E',w,Post.of_qx (op1_qx h hq) h2 h3 h4 hw,.inr ⟨sv,u,h1,h5,h6 w hw⟩⟩
 ·obtain ⟨dst,op,type,pos,after,guard⟩:=o;simp only at h hq;cases op <;> simp only[quietOp,not_true_eq_false] at hq
  case alloc =>obtain ⟨sv,u,w',E',h1,h2,h3,h4⟩:=s_alloc h hI hw;exact ⟨E',w',h3,.inr ⟨sv,u,h1,h4,h2⟩⟩
  case box =>obtain ⟨sv,u,w',E',h1,h2,h3,h4⟩:=s_box h hA hI hw;exact ⟨E',w',h3,.inr ⟨sv,u,h1,h4,h2⟩⟩
  case store =>obtain ⟨h1,w',h2,h3⟩:=s_store h hA hI hH hw;exact ⟨E,w',h3,.inl ⟨h1,h2⟩⟩
  case call c =>
   obtain ⟨callee,args,argTypes⟩:=c;cases callee with
   | builtin b=>cases b <;> first | (simp only[op1,reduceCtorEq] at h;done) | (simp only[not_true_eq_false] at hq)
   | value f=>simp only[op1,reduceCtorEq] at h
   | invoke r m=>simp only[op1,reduceCtorEq] at h
  all_goals (simp only[op1,reduceCtorEq] at h)
end
section
variable {P:Program} {F:Fns} {N:Num} {E:Env} {σ σ':St} {n:Nat} {T:Tr SV} {a:Act} {v:Option SV} {dst:Option Tmp} {type:TypeId} {pos:String} {after:Array Edge} {guard:Option (Nat×Bool)}
theorem elemK_spec {e:TypeId}{k:IntKind}(h:elemK P e=some k):P.underlying e=some (.int k)∧∃i,P.info? e=some i∧i.size=1∧i.bytes≤8∧i.zero=some (.int k 0):=by
 unfold elemK at h;split at h
 ·rename_i k0 i hu hi;cases hc:(Nat.beq i.size 1&&Nat.ble i.bytes 8&&zeroIs i k0) with
  | false=>rw[hc] at h;cases h
  | true =>
   rw[hc] at h;simp only[aH,aA] at h;subst h;simp only[aG] at hc;obtain ⟨⟨h1,h2⟩,h3⟩:=hc;refine ⟨hu,i,hi,aF h1,aM h2,?_⟩;unfold zeroIs at h3;split at h3
   ·rename_i k' m hz;simp only[aG] at h3;rw[hz,fT h3.1,cM h3.2]
   ·cases h3
 ·cases h
theorem elemK_size {e:TypeId}{k:IntKind}(h:elemK P e=some k):sizeB P e=some 1:=by
 obtain ⟨_,i,hi,hs,_⟩:=elemK_spec h;simp[sizeB,hi,hs]
theorem rng_pur {k:IntKind}{b:Nat}{off m:Ar}{X:Nat}(h:σ.rng k b off m=some (X,σ')):Pur σ σ':=by
 unfold St.rng at h;split at h
 ·split at h
  ·rename_i k' A g _;cases hk:kindB k k' with
   | false=>rw[hk] at h;cases h
   | true=>rw[hk] at h;simp only[aH,aA,aD] at h;rw[←h.2];exact (Pur.ob _ _).trans (Pur.mkA _ _)
  ·split at h
   ·split at h;·simp only[aA,aD] at h;rw[←h.2];exact Pur.mkA _ _
    ·cases h
   ·split at h;·simp only[aA,aD] at h;rw[←h.2];exact ((Pur.mkA _ _).trans (Pur.ob _ _)).trans (Pur.mkA _ _)
    ·split at h
     ·split at h;·simp only[aA,aD] at h;rw[←h.2];exact ((Pur.mkA _ _).trans (Pur.ob _ _)).trans (Pur.mkA _ _)
      ·cases h
     ·cases h
 ·cases h
theorem sub_get {l:List Int}{o m j:Nat}{v:Int}(h:((l.drop o).take m)[j]? =some v):j<m∧l[o+j]? =some v:=by
 rw[dM] at h;by_cases hj:j<m;·rw [bG hj,cH] at h;exact ⟨hj,h⟩
 ·rw [bC hj] at h;cases h
theorem lit_cells {B:Bk}{k:IntKind}{o m s c:Nat}{l:List Ar}{arr:Array Value}(hg:B.arr=none)(hl:arsN B.cells k o m=some l)(hc:B.cont N E s c arr) :
 l.length=m∧∀j v,(l.map (·.ev N))[j]? =some v→arr[s+(o+j)]? =some (.int k v):=by
 obtain ⟨l1,l2⟩:=arsN_get hl;refine ⟨l1,fun j v hj=> ?_⟩;rw[bP,aV] at hj;obtain ⟨y,hy,rfl⟩:=hj;have hlt:j<m:=by
  rcases bL j m with h | h
  ·exact h
  ·rw [bI (by omega)] at hy;cases hy
 obtain ⟨sc,a',m1,m2,m3⟩:=l2 j hlt;unfold Bk.cont at hc;rw[hg] at hc;obtain ⟨_,u,m4,m5⟩:=hc _ sc m1;rw[hy] at m3;simp only[aA] at m3;subst m3;rw[m4,gV m2 m5]
theorem rng_at {k:IntKind}{b:Nat}{off m:Ar}{X:Nat}{w:World}(h:σ.rng k b off m=some (X,σ'))(hH:Hold F N σ')(hw:BW N E σ.bks w) :
 ∃q s c,E.blk b=some (q,s,c)∧0≤off.ev N∧0≤m.ev N∧(N.a X).length=(m.ev N).toNat∧∀j v,(N.a X)[j]? =some v→w.cell? ⟨q,s+(off.ev N).toNat+j,none⟩=some (.int k v):=by
 unfold St.rng at h;split at h
 ·rename_i B hB;obtain ⟨q,s,c,arr,el,fz,g1,g2,g3,g4,g5⟩:=hw.at' b B hB;have cell:∀o u,arr[s+o]? =some u→w.cell? ⟨q,s+o,none⟩=some u:=fun o u hu=>by simp[World.cell?,g2,hu]
  refine ⟨q,s,c,g1,?_⟩;split at h
  ·rename_i k' A g hg;cases hk:kindB k k' with
   | false=>rw[hk] at h;cases h
   | true =>
    have:=fT hk;subst this;rw[hk] at h;simp only[aH,aA,aD] at h;obtain ⟨rfl,rfl⟩:=h;have hX:N.a σ.na=_:=hH.mkA;simp only[Ad.ev] at hX;have hf:0≤off.ev N∧0≤m.ev N∧off.ev N+m.ev N≤(N.a A).length:=(eT (Ext.mkA _ _) hH).ob;unfold Bk.cont at g5;rw[hg] at g5;refine ⟨hf.1,hf.2.1,?_,fun j v hj=> ?_⟩;·rw [hX,bE,aT];omega
    ·rw [hX] at hj;obtain ⟨_,hj⟩:=sub_get hj;rw[dD];exact cell _ _ (g5.1 _ _ hj)
  ·rename_i hg;split at h
   ·rename_i o m';split at h
    ·rename_i l hl;simp only[aA,aD] at h;obtain ⟨rfl,rfl⟩:=h;have hX:N.a σ.na=_:=hH.mkA;simp only[Ad.ev] at hX;obtain ⟨h1,h2⟩:=lit_cells hg hl g5;refine ⟨cR _,cR _,?_,fun j v hj=> ?_⟩;·rw [hX,bF,h1];rfl
     ·rw [hX] at hj;rw[dD];exact cell _ _ (h2 j v hj)
    ·cases h
   ·split at h
    ·rename_i l hl;simp only[aA,aD] at h;obtain ⟨rfl,rfl⟩:=h;have hH1:=eT (Ext.mkA _ _) hH;have hX:N.a (σ.na+1)=_:=hH.mkA;have hY:N.a σ.na=_:=(eT (Ext.ob _ _) hH1).mkA;simp only[Ad.ev] at hX hY;have hf:0≤off.ev N∧0≤m.ev N∧off.ev N+m.ev N≤(N.a σ.na).length:=hH1.ob;obtain ⟨h1,h2⟩:=lit_cells hg hl g5;refine ⟨hf.1,hf.2.1,?_,fun j v hj=> ?_⟩;·rw [hX,bE,aT];omega
     ·rw [hX] at hj;obtain ⟨_,hj⟩:=sub_get hj;rw[hY] at hj;rw[dD];have:=h2 _ v hj;rw[bM] at this;exact cell _ _ this
    ·split at h
     ·rename_i o;split at h
      ·rename_i l hl;simp only[aA,aD] at h;obtain ⟨rfl,rfl⟩:=h;have hH1:=eT (Ext.mkA _ _) hH;have hX:N.a (σ.na+1)=_:=hH.mkA;have hY:N.a σ.na=_:=(eT (Ext.ob _ _) hH1).mkA;simp only[Ad.ev] at hX hY;have hf:0≤(Ar.kst 0).ev N∧0≤m.ev N∧(Ar.kst 0).ev N+m.ev N≤(N.a σ.na).length:=hH1.ob;have e0:(Ar.kst 0).ev N=0:=rfl;rw[e0] at hf hX;obtain ⟨h1,h2⟩:=lit_cells hg hl g5;refine ⟨cR _,hf.2.1,?_,fun j v hj=> ?_⟩;·rw [hX,bE,aT];simp only[Int.toNat_zero];omega
       ·rw [hX] at hj;obtain ⟨_,hj⟩:=sub_get hj;rw[hY] at hj;rw[dD];simp only[Int.toNat_zero,bM] at hj;exact cell _ _ (h2 _ v hj)
      ·cases h
     ·cases h
 ·cases h
theorem src_pur {k:IntKind}{tx:TypeId}{x:SV}{m:Ar}{X:Nat}(h:σ.src P k tx x=some (m,X,σ')):Pur σ σ':=by
 unfold St.src at h;split at h
 ·split at h
  ·rename_i hr;simp only[aA,aD] at h;rw[←h.2.2];exact rng_pur hr
  ·cases h
 ·simp only[aA,aD] at h;rw[←h.2.2];exact Pur.mkA _ _
 ·simp only[aA,aD] at h;rw[←h.2.2];exact Pur.mkA _ _
 ·cases hk:kindB k .u8 with
  | false=>rw[hk] at h;cases h
  | true=>rw[hk] at h;simp only[aH,aA,aD] at h;rw[←h.2.2];exact Pur.mkA _ _
 ·cases h
def intsV (k:IntKind)(l:List Int):List Value:=l.map (.int k ·)
theorem intsV_get {k:IntKind}{l:List Int}{j:Nat}{u:Value}(h:(intsV k l)[j]? =some u):∃v,l[j]? =some v∧u= .int k v:=by
 unfold intsV at h;rw[bP,aV] at h;obtain ⟨v,h1,h2⟩:=h;exact ⟨v,h1,h2.symm⟩
theorem intsV_one {k:IntKind}{l:List Int}:∀u∈intsV k l,u.oneCell'=true:=by
 intro u hu;unfold intsV at hu;obtain ⟨_,_,rfl⟩:=dC.1 hu;rfl
theorem intsV_ok {k:IntKind}{l:List Int}:∀u∈intsV k l,cellOk u=true:=by
 intro u hu;unfold intsV at hu;obtain ⟨_,_,rfl⟩:=dC.1 hu;rfl
theorem src_at {k:IntKind}{tx:TypeId}{x:SV}{m:Ar}{X:Nat}{u:Value}{w:World}(h:σ.src P k tx x=some (m,X,σ'))(hx:x.den N E=some u)(hH:Hold F N σ')(hw:BW N E σ.bks w) :
 0≤m.ev N∧(N.a X).length=(m.ev N).toNat∧Src P 1 tx u (m.ev N).toNat (intsV k (N.a X)) w:=by
 unfold St.src at h;split at h
 ·rename_i b off len cap e hu;split at h
  ·rename_i X' σ1 hr;simp only[aA,aD] at h;obtain ⟨rfl,rfl,rfl⟩:=h;obtain ⟨q,s,c,h1,h2,h3,h4,h5⟩:=rng_at hr hH hw;obtain ⟨q',s',c',mm,g1,g2,g3,_⟩:=gC hx;rw[h1] at g1;simp only[aA,aD] at g1;obtain ⟨rfl,rfl,rfl⟩:=g1;subst g3;refine ⟨h3,h4,Src.ofSlice w hu _ _ _ _ (by simp[intsV,h4]) (fun j u hj=> ?_) intsV_one⟩;obtain ⟨v,hv,rfl⟩:=intsV_get hj;rw[Addr.add_lit];exact h5 j v hv
  ·cases h
 ·rename_i c0 e hu;simp only[aA,aD] at h;obtain ⟨rfl,rfl,rfl⟩:=h;have hX:N.a σ.na=_:=hH.mkA;simp only[Ad.ev,aK] at hX;have:=kst_den hx;subst this;rw[hX];exact ⟨bK _,rfl,Src.ofNil w hu _⟩
 ·rename_i j e hu;simp only[aA,aD] at h;obtain ⟨rfl,rfl,rfl⟩:=h;have hX:N.a σ.na=_:=hH.mkA;simp only[Ad.ev,aK] at hX;simp only[SV.den,V1.den,Sc.den] at hx;split at hx
  ·rename_i aa cc hj;simp only[aA] at hx;subst hx;rw[hX];refine ⟨bK _,rfl,?_⟩;cases aa with
   | none=>exact Src.ofNil w hu _
   | some ad=>exact Src.ofSlice w hu ad 0 _ [] rfl (fun j u hj=>by simp at hj) (fun _ h=>by cases h)
  ·cases hx
 ·rename_i s hu;cases hk:kindB k .u8 with
  | false=>rw[hk] at h;cases h
  | true =>
   have:=fT hk;subst this;rw[hk] at h;simp only[aH,aA,aD] at h;obtain ⟨rfl,rfl,rfl⟩:=h;have hX:N.a σ.na=_:=hH.mkA;simp only[Ad.ev] at hX;have:=kst_den hx;subst this;have e:intsV .u8 (N.a σ.na)=byteCells s:=by rw[hX];simp[intsV,bytesL,byteCells,Ar.ev]
   rw[e];refine ⟨cR _,?_,Src.ofString w hu s⟩;rw[hX];simp only[bytesL,bF,Array.length_toList,gE,bD];rfl
 ·cases h
theorem wrtN_ext {b X:Nat}{k:IntKind}:∀ {m o j:Nat} {σ σ':St},St.wrtN b k X o j m σ=some σ'→Ext σ σ'
 | 0,o,j,σ,σ',h=>by simp only[St.wrtN,aA] at h;subst h;exact Ext.refl _
 | m+1,o,j,σ,σ',h=>by
  simp only[St.wrtN] at h;split at h
  ·rename_i hs;exact ((Ext.mk1 _ _).trans (store1_ext hs)).trans (wrtN_ext h)
  ·cases h
theorem drop_cons {l:List Int}{j:Nat}{x:Int}(h:l[j]? =some x):l.drop j=x::l.drop (j+1):=by
 obtain ⟨hlt,rfl⟩:=List.getElem?_eq_some_iff.1 h;exact dS hlt
theorem wrtN_sound {b X q s c base i0:Nat}{k:IntKind}(hb:E.blk b=some (q,s,c)):∀ {m o j:Nat} {σ σ':St} {w:World},St.wrtN b k X o j m σ=some σ'→Hold F N σ'→BW N E σ.bks w→Inv E σ→o=base+j→(N.a X).length=j+m →
 ∃w',(storeCells ⟨q,s+base,none⟩ (intsV k ((N.a X).drop j)) j).run P w= .ok () w'∧Post N E σ w N E σ' w'
 | 0,o,j,σ,σ',w,h,hH,hw,hI,ho,hl=>by simp only[St.wrtN,aA] at h;subst h;rw[List.drop_eq_nil_of_le (by omega)];exact ⟨w,rfl,Post.refl hI hw⟩
 | m+1,o,j,σ,σ',w,h,hH,hw,hI,ho,hl=>by
  simp only[St.wrtN] at h;split at h
  ·rename_i σ1 hs;have hH1:=eT (wrtN_ext h) hH;have hp0:Post N E σ w N E (σ.mk1 (.rd X (.kst (.ofNat j)))) w:=fD (Pur.mk1 _ _) hI hw;have hn:N.i σ.nx=(N.a X).getD j 0:=(eT (store1_ext hs) hH1).mk1;have hlt:j<(N.a X).length:=by omega
   have hx:(N.a X)[j]? =some (N.i σ.nx):=by rw[hn,aE,aU hlt];rfl
   obtain ⟨w1,h1,h2⟩:=store1_sound (P:=P) (u:= .int k (N.i σ.nx)) hs hH1 hb rfl hp0.bw hp0.inv;obtain ⟨w2,h3,h4⟩:=wrtN_sound (base:=base) (i0:=i0) hb h hH h2.bw h2.inv (by omega) (by omega);refine ⟨w2,?_,(hp0.trans h2).trans h4⟩;rw[drop_cons hx];simp only[intsV,aI,storeCells,bH];have e0:((Ar.kst (Int.ofNat o)).ev N).toNat=o:=rfl;rw[e0] at h1;rw[Addr.add_lit,show s+base+j=s+o by omega,h1];exact h3
  ·cases h
theorem wrtA_ext {b X:Nat}{off m:Ar}{k:IntKind}(h:σ.wrtA b off k X m=some σ'):Ext σ σ':=by
 unfold St.wrtA at h;split at h
 ·rename_i B hB;cases hrw:B.rw with
  | false=>rw[hrw] at h;cases h
  | true =>
   rw[hrw] at h;simp only[aH] at h;split at h
   ·rename_i k' A σ1 hA;split at h
    ·split at h
     ·cases hk:kindB k k' with
      | false=>rw[hk] at h;cases h
      | true =>rw[hk] at h;simp only[aH,aA] at h;rw[←h];exact (toArr_ext hA).1.trans ⟨fun _ m=>aJ _ m,fun _ m=>aJ _ m,rfl,rfl,aS _⟩
     ·cases h
    ·cases h
   ·cases h
 ·cases h
theorem cpy_get {l x:List Int}{o j:Nat}{v:Int}(ho:o+x.length≤l.length)(h:(l.take o++x++l.drop (o+x.length))[j]? =some v) :
 (o≤j∧j<o+x.length∧x[j-o]? =some v)∨((j<o∨o+x.length≤j)∧l[j]? =some v):=by
 have ht:(l.take o).length=o:=by rw[bE];omega
 rw[List.append_assoc,List.getElem?_append,ht] at h;by_cases h1:j<o
 ·rw [bG h1,dM,bG h1] at h;exact .inr ⟨.inl h1,h⟩
 ·rw [bC h1,List.getElem?_append] at h;by_cases h2:j-o<x.length;·rw [bG h2] at h;exact .inl ⟨by omega,by omega,h⟩
  ·rw [bC h2,cH,show o+x.length+(j-o-x.length)=j by omega] at h;exact .inr ⟨.inr (by omega),h⟩
theorem wrtA_sound {b X q s c:Nat}{off m:Ar}{k:IntKind}{w:World}(h:σ.wrtA b off k X m=some σ')(hb:E.blk b=some (q,s,c))(hH:Hold F N σ')(hw:BW N E σ.bks w)(hI:Inv E σ)(hl:(N.a X).length=(m.ev N).toNat) :
 ∃w',(storeCells ⟨q,s+(off.ev N).toNat,none⟩ (intsV k (N.a X)) 0).run P w= .ok () w'∧Post N E σ w N E σ' w':=by
 unfold St.wrtA at h;split at h
 ·rename_i B hB;cases hrw:B.rw with
  | false=>rw[hrw] at h;cases h
  | true =>
   rw[hrw] at h;simp only[aH] at h;split at h
   ·rename_i k' A σ1 hA;split at h
    ·rename_i B1 hB1;split at h
     ·rename_i k2 A2 g hg;cases hk:kindB k k' with
      | false=>rw[hk] at h;cases h
      | true =>
       rw[hk] at h;have:=fT hk;subst this;simp only[aH,aA] at h;subst h;have hH2:Hold F N σ1:=⟨hH.fns,fun d m=>hH.defs d (aJ _ m),fun o m=>hH.obs o (aJ _ m),hH.ins⟩
       obtain ⟨hp,B2,g',m1,m2,m3,_⟩:=toArr_sound hA hH2 hw hI hB hrw;rw[hB1] at m1;simp only[aA] at m1;subst m1;rw[hg] at m2;simp only[aA,aD] at m2;obtain ⟨rfl,rfl,rfl⟩:=m2;have hin:0≤off.ev N∧0≤m.ev N∧off.ev N+m.ev N≤(N.a A2).length:=hH.obs (.fits off m A2) aN;have hset:N.a σ1.na=(N.a A2).take (off.ev N).toNat++N.a X++(N.a A2).drop ((off.ev N).toNat+(N.a X).length):=hH.defs (.a σ1.na (.cpy A2 off X)) aN;have hlen:(N.a σ1.na).length=(N.a A2).length:=by
        rw[hset];simp only[aO,bE,aT];omega
       obtain ⟨q',s',c',arr,el,fz,g1,g2,g3,g4,g5⟩:=hp.bw.at' b B1 hB1;rw[hb] at g1;simp only[aA,aD] at g1;obtain ⟨rfl,rfl,rfl⟩:=g1;have:=g3 m3;subst this;have hwl:(N.a A2).length≤B1.wid N c:=by
        simp only[Bk.wid,hg];cases g with
        | true=>exact Nat.le_max_right _ _
        | false=>exact aS _
       obtain ⟨w',arr',h1,h2,h3,h4,h5⟩:=gG (P:=P) (o:=s+(off.ev N).toNat) (i:=0) (vs:=intsV k2 (N.a X)) g2 (by simp only[intsV,bF];omega) intsV_ok;simp only[intsV,bF,cJ] at h4 h5;refine ⟨w',h1,hp.trans (upd_post (B':={B1 with arr:=some (k2,σ1.na+1-1,g)}) hp.bw hp.inv hB1 m3 hb g2 h2 h3 (fun j hj=>h4 j (by omega)) m3 ?_ ?_ rfl rfl rfl rfl)⟩;·simp only[Bk.wid,hg,Nat.add_sub_cancel,hlen]
       ·unfold Bk.cont at g5 ⊢;rw[hg] at g5;simp only[Nat.add_sub_cancel,hlen] at g5 ⊢;refine ⟨fun j y hj=> ?_,fun hg' j j1 j2=>by rw[h4 (s+j) (by omega)];exact g5.2 hg' j j1 j2⟩;rw[hset] at hj;rcases cpy_get (by omega) hj with ⟨j1,j2,j3⟩ | ⟨j1,j2⟩
        ·have:=h5 (j-(off.ev N).toNat) (.int k2 y) (by rw[bP,j3];rfl);rw[show s+(off.ev N).toNat+(j-(off.ev N).toNat)=s+j by omega] at this;exact this
        ·rw [h4 (s+j) (by omega)];exact g5.1 j y j2
     ·cases h
    ·cases h
   ·cases h
 ·cases h
theorem wrtM_ext {B:Bk}{b X:Nat}{off m:Ar}{k:IntKind}(h:σ.wrtM B b off k X m=some σ'):Ext σ σ':=by
 unfold St.wrtM at h;split at h
 ·split at h;·exact (((Ext.mkA _ _).trans (Ext.ob _ _)).trans (Ext.mkA _ _)).trans (wrtN_ext h)
  ·cases h
 ·cases h
theorem wrtS_ext {B:Bk}{b X:Nat}{off m:Ar}{k:IntKind}(h:σ.wrtS B b off k X m=some σ'):Ext σ σ':=by
 unfold St.wrtS at h;split at h
 ·split at h;·exact (((Ext.mk1 _ _).trans (Ext.mkA _ _)).trans ((Ext.ob _ _).trans (Ext.mkA _ _))).trans (wrtN_ext h)
  ·cases h
 ·cases h
theorem wrt_ext {b X:Nat}{off m:Ar}{k:IntKind}(h:σ.wrt b off k X m=some σ'):Ext σ σ':=by
 unfold St.wrt at h;split at h
 ·split at h;·exact wrtN_ext h
  ·split at h
   ·rename_i h1;simp only[aA] at h;rw[←h];exact wrtA_ext h1
   ·split at h
    ·rename_i h1;simp only[aA] at h;rw[←h];exact wrtM_ext h1
    ·exact wrtS_ext h
 ·cases h
theorem setCell_same {w:World}{q o:Nat}{arr:Array Value}{el:TypeId}{u:Value}(h:w.heap[q]? =some (.cells arr el (0,0)))(hu:arr[o]? =some u):w.setCell ⟨q,o,none⟩ u=w:=by
 have h1:(w.setCell ⟨q,o,none⟩ u).heap=w.heap:=by
  apply Array.ext_getElem?;intro i;have k:=Upd.setCell (w:=w) (off:=o) (u:=u) h;by_cases hi:i=q
  ·subst hi;rw[k.here,h];congr 2;apply Array.ext_getElem?;intro j;rw[Array.getElem?_setIfInBounds];by_cases hj:o=j
   ·subst hj;rw[bG rfl]
    split
    ·exact hu.symm
    ·rename_i hlt;rw[cQ (by omega)]
   ·rw [bC hj]
  ·exact k.oth i hi
 have h2:w.setCell ⟨q,o,none⟩ u={w with heap:=(w.setCell ⟨q,o,none⟩ u).heap}:=rfl;rw[h2,h1]
theorem gO {q o:Nat}{el:TypeId}{w:World}{arr:Array Value}(h:w.heap[q]? =some (.cells arr el (0,0))):∀ {vs:List Value} {i:Nat},(∀ v∈vs,cellOk v=true)→(∀ j v,vs[j]? =some v→arr[o+i+j]? =some v) →
 (storeCells ⟨q,o,none⟩ vs i).run P w= .ok () w
 | [],i,_,_=>rfl
 | u::vs,i,hc,hv=>by
  have h0:arr[o+i]? =some u:=hv 0 u rfl;have hlt:o+i<arr.size:=by
   rcases bL (o+i) arr.size with h | h
   ·exact h
   ·rw [cQ h] at h0;cases h0
  have hr:=run_store_in (P:=P) (u:=u) (o:=o+i) h hlt (hc u aN);rw[setCell_same h h0] at hr;simp only[storeCells,bH];rw[Addr.add_lit,hr];exact gO h (fun v hm=>hc v (aJ _ hm)) (fun j v hj=>by rw[show o+(i+1)+j=o+i+(j+1) by omega];exact hv (j+1) v (by simpa using hj))
theorem run_storeCells_append {q o:Nat}:∀ {vs us:List Value} {i:Nat} {w w1:World},(storeCells ⟨q,o,none⟩ vs i).run P w= .ok () w1 →
 (storeCells ⟨q,o,none⟩ (vs++us) i).run P w=(storeCells ⟨q,o,none⟩ us (i+vs.length)).run P w1
 | [],us,i,w,w1,h=>by
  simp only[storeCells] at h;injection h with _ h
  subst h;rfl
 | v::vs,us,i,w,w1,h=>by
  simp only[storeCells,bH,cT] at h ⊢;cases hs:(store ((⟨q,o,none⟩:Addr).add i) v).run P w with
  | ok x w2 =>rw[hs] at h;simp only[Result.andThen] at h ⊢;rw[run_storeCells_append h,bU,show i+1+vs.length=i+(vs.length+1) by omega]
  | _=>rw[hs] at h;simp only[Result.andThen,reduceCtorEq] at h
theorem wrtM_sound {B:Bk}{b X q s c:Nat}{off m:Ar}{k:IntKind}{w:World}(h:σ.wrtM B b off k X m=some σ')(hB:σ.bks.get b=some B)(hb:E.blk b=some (q,s,c))(hH:Hold F N σ')(hw:BW N E σ.bks w)(hI:Inv E σ)(hl:(N.a X).length=(m.ev N).toNat) :
 ∃w',(storeCells ⟨q,s+(off.ev N).toNat,none⟩ (intsV k (N.a X)) 0).run P w= .ok () w'∧Post N E σ w N E σ' w':=by
 unfold St.wrtM at h;split at h
 ·rename_i o ho;have hrw:B.rw=true:=by
   cases hr:B.rw with
   | true=>rfl
   | false=>rw[hr] at ho;cases ho
  rw[hrw] at ho;obtain ⟨hg,rfl⟩:=cellAt_some ho;have e0:((Ar.kst (Int.ofNat o)).ev N).toNat=o:=rfl;rw[e0];split at h
  ·rename_i l hl2;obtain ⟨q',s',c',arr,el,fz,g1,g2,g3,g4,g5⟩:=hw.at' b B hB;rw[hb] at g1;simp only[aA,aD] at g1;obtain ⟨rfl,rfl,rfl⟩:=g1;have hHs:=eT (wrtN_ext h) hH;have hX:N.a (σ.na+1)=_:=hHs.mkA;have hH1:=eT (Ext.mkA _ _) hHs;have hY:N.a σ.na=_:=(eT (Ext.ob _ _) hH1).mkA;have hf:0≤(Ar.kst 0).ev N∧0≤m.ev N∧(Ar.kst 0).ev N+m.ev N≤(N.a σ.na).length:=hH1.ob;have e1:(Ar.kst 0).ev N=0:=rfl;simp only[Ad.ev] at hX hY;rw[e1] at hf hX
   obtain ⟨h1,h2⟩:=lit_cells hg hl2 g5;simp only[Int.toNat_zero,List.take_zero,cC,bM] at hX;have hlen:(N.a (σ.na+1)).length=l.length:=by rw[hX,aO,aT,hY,bF];rw[hY,bF] at hf;omega
   have hp:Pur σ (((σ.mkA (.lit l)).ob (.fits (.kst 0) m σ.na)).mkA (.cpy σ.na (.kst 0) X)):=((Pur.mkA _ _).trans (Pur.ob _ _)).trans (Pur.mkA _ _);obtain ⟨w2,r1,r2⟩:=wrtN_sound (P:=P) (base:=o) (i0:=0) (j:=0) (by exact hb) h hH (by rw[hp.bks];exact hw) (hI.pur hp) rfl (by rw[hlen];omega);refine ⟨w2,?_,(fD hp hI hw).trans r2⟩;rw[bW,hX] at r1;have hsplit:intsV k (N.a X++(N.a σ.na).drop (N.a X).length)=intsV k (N.a X)++intsV k ((N.a σ.na).drop (N.a X).length):=by simp[intsV]
   rw[hsplit] at r1;have:=g3 hrw;subst this;have hXl:(N.a X).length≤l.length:=by rw[hY,bF] at hf;omega
   have hbnd:(N.a X).length=0∨s+o+(N.a X).length≤arr.size:=by
    rcases dU (N.a X).length with h0 | h0
    ·exact .inl h0
    ·right;have hj:l.length-1<(l.map (·.ev N)).length:=by rw[bF];omega
     have:=h2 (l.length-1) _ (aU hj);have:s+(o+(l.length-1))<arr.size:=by
      rcases bL (s+(o+(l.length-1))) arr.size with h | h
      ·exact h
      ·rw [cQ h] at this;cases this
     omega
   rcases hbnd with h0 | hbnd
   ·have hx0:N.a X=[]:=cI.1 h0;rw[hx0] at r1 ⊢;have hsame:=gO (P:=P) (o:=s+o) g2 (vs:=intsV k ((N.a σ.na).drop ([]:List Int).length)) (i:=0) intsV_ok (fun j v hj=>by
     obtain ⟨y,hy,rfl⟩:=intsV_get hj;simp only[dV,bW] at hy;rw[hY] at hy;have:=h2 _ _ hy;rw[show s+o+0+j=s+(o+j) by omega];exact this)
    have hnil:intsV k ([]:List Int)=[]:=rfl;rw[hnil,cC,hsame] at r1;injection r1 with _ r1
    subst r1;rfl
   obtain ⟨w1,arr1,q1,q2,q3,q4,q5⟩:=gG (P:=P) (o:=s+o) (i:=0) (vs:=intsV k (N.a X)) g2 (by simp only[intsV,bF];omega) intsV_ok;simp only[intsV,bF,cJ] at q4 q5;rw[run_storeCells_append q1] at r1;have hsame:=gO (P:=P) (o:=s+o) q2.here (vs:=intsV k ((N.a σ.na).drop (N.a X).length)) (i:=(N.a X).length) intsV_ok (fun j v hj=>by
    obtain ⟨y,hy,rfl⟩:=intsV_get hj;rw[cH] at hy;rw[q4 _ (by omega)];rw[hY] at hy;have:=h2 _ _ hy;rw[show s+o+(N.a X).length+j=s+(o+((N.a X).length+j)) by omega];exact this)
   rw[show 0+(intsV k (N.a X)).length=(N.a X).length by simp[intsV],hsame] at r1;injection r1 with _ r1
   subst r1;exact q1
  ·cases h
 ·cases h
theorem storeCells_shift {q o:Nat}:∀ {vs:List Value} {i j:Nat} {w:World},(storeCells ⟨q,o,none⟩ vs (i+j)).run P w=(storeCells ⟨q,o+i,none⟩ vs j).run P w
 | [],_,_,_=>rfl
 | v::vs,i,j,w=>by
  simp only[storeCells,bH,Addr.add_lit];rw[show o+i+j=o+(i+j) by omega];cases (store ⟨q,o+(i+j),none⟩ v).run P w with
  | ok x w2 =>simp only[Result.andThen];rw[show i+j+1=i+(j+1) by omega];exact storeCells_shift
  | _=>rfl
theorem wrtS_sound {B:Bk}{b X q s c:Nat}{off m:Ar}{k:IntKind}{w:World}(h:σ.wrtS B b off k X m=some σ')(hB:σ.bks.get b=some B)(hb:E.blk b=some (q,s,c))(hH:Hold F N σ')(hw:BW N E σ.bks w)(hI:Inv E σ)(hl:(N.a X).length=(m.ev N).toNat) :
 ∃w',(storeCells ⟨q,s+(off.ev N).toNat,none⟩ (intsV k (N.a X)) 0).run P w= .ok () w'∧Post N E σ w N E σ' w':=by
 unfold St.wrtS at h;split at h
 ·rename_i x o hrw hg _;split at h
  ·rename_i l hl2;obtain ⟨q',s',c',arr,el,fz,g1,g2,g3,g4,g5⟩:=hw.at' b B hB;rw[hb] at g1;simp only[aA,aD] at g1;obtain ⟨rfl,rfl,rfl⟩:=g1;have hHs:=eT (wrtN_ext h) hH;have hX:N.a (σ.na+1)=_:=hHs.mkA;have hH1:=eT (Ext.mkA _ _) hHs;have hH2:=eT (Ext.ob _ _) hH1;have hY:N.a σ.na=_:=hH2.mkA;have hr:N.i σ.nx=N.i x+(o:Int)*(-1):=(eT (Ext.mkA _ _) hH2).mk1;have hf:0≤N.i σ.nx∧0≤m.ev N∧N.i σ.nx+m.ev N≤(N.a σ.na).length:=hH1.ob
   have hX:N.a (σ.na+1)=(N.a σ.na).take (N.i σ.nx).toNat++N.a X++(N.a σ.na).drop ((N.i σ.nx).toNat+(N.a X).length):=hX;simp only[Ad.ev] at hY;obtain ⟨h1,h2⟩:=lit_cells hg hl2 g5;have hYl:(N.a σ.na).length=l.length:=by rw[hY,bF]
   obtain ⟨r,hrr⟩:∃r:Nat,N.i σ.nx=r:=⟨(N.i σ.nx).toNat,by omega⟩
   rw[hrr] at hX hf hr;simp only[bD] at hX;have hbnd:r+(N.a X).length≤l.length:=by omega
   have hlen:(N.a (σ.na+1)).length=l.length:=by rw[hX,aO,aO,bE,aT];omega
   have hp:Pur σ ((((σ.mk1 (.lin (.var x) (.kst o) (-1))).mkA (.lit l)).ob (.fits (.var σ.nx) m σ.na)).mkA (.cpy σ.na (.var σ.nx) X)):=(((Pur.mk1 _ _).trans (Pur.mkA _ _)).trans (Pur.ob _ _)).trans (Pur.mkA _ _);obtain ⟨w2,r1,r2⟩:=wrtN_sound (P:=P) (base:=o) (i0:=0) (j:=0) (by exact hb) h hH (by rw[hp.bks];exact hw) (hI.pur hp) rfl (by rw[hlen];omega);refine ⟨w2,?_,(fD hp hI hw).trans r2⟩;have hoff:((Ar.var x).ev N).toNat=o+r:=by
    have:(Ar.var x).ev N=N.i x:=rfl;rw[this];omega
   rw[hoff];rw[bW,hX] at r1;have hsplit:intsV k ((N.a σ.na).take r++N.a X++(N.a σ.na).drop (r+(N.a X).length))=intsV k ((N.a σ.na).take r)++(intsV k (N.a X)++intsV k ((N.a σ.na).drop (r+(N.a X).length))):=by simp[intsV]
   rw[hsplit] at r1;have:=g3 hrw;subst this;have hpre:=gO (P:=P) (o:=s+o) g2 (vs:=intsV k ((N.a σ.na).take r)) (i:=0) intsV_ok (fun j v hj=>by
    obtain ⟨y,hy,rfl⟩:=intsV_get hj;have hjr:j<r:=by have:=(List.getElem?_eq_some_iff.1 hy).1;rw[bE] at this;omega
    rw[cY hjr,hY] at hy;have:=h2 _ _ hy;rw[show s+o+0+j=s+(o+j) by omega];exact this)
   rw[run_storeCells_append hpre] at r1;have hlp:0+(intsV k ((N.a σ.na).take r)).length=r:=by simp only[intsV,bF,bE];omega
   rw[hlp] at r1;have hsh:=storeCells_shift (P:=P) (q:=q) (o:=s+o) (vs:=intsV k (N.a X)++intsV k ((N.a σ.na).drop (r+(N.a X).length))) (i:=r) (j:=0) (w:=w);rw[cJ] at hsh;rw[hsh] at r1;rw[show s+(o+r)=s+o+r by omega];rcases dU (N.a X).length with h0 | h0
   ·have hx0:N.a X=[]:=cI.1 h0;rw[hx0] at r1 ⊢;have hsame:=gO (P:=P) (o:=s+o+r) g2 (vs:=intsV k ((N.a σ.na).drop (r+([]:List Int).length))) (i:=0) intsV_ok (fun j v hj=>by
     obtain ⟨y,hy,rfl⟩:=intsV_get hj;rw[cH,hY] at hy;have:=h2 _ _ hy;rw[show s+o+r+0+j=s+(o+(r+([]:List Int).length+j)) by simp only[dV];omega];exact this)
    have hnil:intsV k ([]:List Int)=[]:=rfl;rw[hnil,cC,hsame] at r1;injection r1 with _ r1
    subst r1;rfl
   ·have hin:s+o+r+(N.a X).length≤arr.size:=by
     have hj:l.length-1<(l.map (·.ev N)).length:=by rw[bF];omega
     have:=h2 (l.length-1) _ (aU hj);have:s+(o+(l.length-1))<arr.size:=by
      rcases bL (s+(o+(l.length-1))) arr.size with h | h
      ·exact h
      ·rw [cQ h] at this;cases this
     omega
    obtain ⟨w1,arr1,q1,q2,q3,q4,q5⟩:=gG (P:=P) (o:=s+o+r) (i:=0) (vs:=intsV k (N.a X)) g2 (by simp only[intsV,bF];omega) intsV_ok;simp only[intsV,bF,cJ] at q4 q5;rw[run_storeCells_append q1] at r1;have hsame:=gO (P:=P) (o:=s+o+r) q2.here (vs:=intsV k ((N.a σ.na).drop (r+(N.a X).length))) (i:=(N.a X).length) intsV_ok (fun j v hj=>by
     obtain ⟨y,hy,rfl⟩:=intsV_get hj;rw[cH] at hy;rw[q4 _ (by omega)];rw[hY] at hy;have:=h2 _ _ hy;rw[show s+o+r+(N.a X).length+j=s+(o+(r+(N.a X).length+j)) by omega];exact this)
    rw[show 0+(intsV k (N.a X)).length=(N.a X).length by simp[intsV],hsame] at r1;injection r1 with _ r1
    subst r1;exact q1
  ·cases h
 ·cases h
theorem wrt_sound {b X q s c:Nat}{off m:Ar}{k:IntKind}{w:World}(h:σ.wrt b off k X m=some σ')(hb:E.blk b=some (q,s,c))(hH:Hold F N σ')(hw:BW N E σ.bks w)(hI:Inv E σ)(hl:(N.a X).length=(m.ev N).toNat) :
 ∃w',(storeCells ⟨q,s+(off.ev N).toNat,none⟩ (intsV k (N.a X)) 0).run P w= .ok () w'∧Post N E σ w N E σ' w':=by
 unfold St.wrt at h;split at h
 ·rename_i B hB;split at h
  ·rename_i o m' ho;obtain ⟨_,rfl⟩:=cellAt_some ho;have e0:((Ar.kst (Int.ofNat o)).ev N).toNat=o:=rfl;rw[e0];have:=wrtN_sound (P:=P) (base:=o) (i0:=0) (j:=0) hb h hH hw hI rfl (by rw[hl];simp[Ar.ev]);simpa using this
  ·split at h
   ·rename_i h1;simp only[aA] at h;subst h;exact wrtA_sound h1 hb hH hw hI hl
   ·split at h
    ·rename_i h1;simp only[aA] at h;subst h;exact wrtM_sound h1 hB hb hH hw hI hl
    ·exact wrtS_sound h hB hb hH hw hI hl
 ·cases h
end
end Go.Sy
