/- The symbolic executor's operations are sound: strings. -/
import Derived.Laws.BytesArg
import Derived.Test.YtnfikgagkamioaaGreatDoorSyA
namespace Go.Sy
theorem gJ {α:Type}:∀(t:Tr α) (k j:Nat),(t.erase k).get j=if j=k then none else t.get j
 | .nil,k,j=>by simp[Tr.erase,Tr.get]
 | .node v l r,k,j=>by
  unfold Tr.erase;by_cases hk:k=0
  ·subst hk;rw[fY rfl];simp only[aH,Tr.get];by_cases hj:j=0;·subst hj;simp
   ·rw [fH hj,bC hj];rfl
  ·rw [fH hk];simp only[aQ];by_cases ho:k%2=1
   ·rw [fY ho];simp only[aH,Tr.get,gJ l];by_cases hj:j=0;·subst hj;rw[bC (show ¬0=k by omega)];rfl
    ·rw [fH hj];simp only[aQ];by_cases hjo:j%2=1
     ·rw [fY hjo];simp only[aH];by_cases e:j/2=k/2;·rw [bG e,bG (by omega)]
      ·rw [bC e,bC (by omega)]
     ·rw [fH hjo,bC (show ¬j=k by intro e;subst e;exact hjo ho)];rfl
   ·rw [fH ho];simp only[aQ,Tr.get,gJ r];by_cases hj:j=0;·subst hj;rw[bC (show ¬0=k by omega)];rfl
    ·rw [fH hj];simp only[aQ];by_cases hjo:j%2=1;·rw [fY hjo,bC (show ¬j=k by intro e;subst e;exact ho hjo)];rfl
     ·rw [fH hjo];simp only[aQ];by_cases e:j/2-1=k/2-1;·rw [bG e,bG (by omega)]
      ·rw [bC e,bC (by omega)]
section
variable {P:Program} {F:Fns} {N:Num} {E:Env} {σ σ':St} {n:Nat} {T:Tr SV} {a:Act} {v:Option SV} {dst:Option Tmp} {type:TypeId} {pos:String} {after:Array Edge} {guard:Option (Nat×Bool)}
theorem BW.of_get {bks bks':Tr Bk}{w:World}(h:∀i B,bks'.get i=some B→bks.get i=some B)(k:BW N E bks w):BW N E bks' w :=
 ⟨fun i B e=>k.at' i B (h i B e),fun i i' B B' q s s' c c' h1 h2=>k.apart i i' B B' q s s' c c' (h i B h1) (h i' B' h2)⟩
theorem forget_post {w:World}(hI:Inv E σ)(hw:BW N E σ.bks w)(h:∀i B,σ'.bks.get i=some B→σ.bks.get i=some B)(hnb:σ'.nb=σ.nb)(hnv:σ'.nv=σ.nv)(hgl:σ'.gl=σ.gl):Post N E σ w N E σ' w :=
 ⟨⟨fun b hb=>hI.freshB b (by rw[←hnb];exact hb),fun j hj=>hI.freshV j (by rw[←hnv];exact hj),fun t sv e=>hI.glob t sv (by rw[←hgl];exact e)⟩,E.le_refl,hw.of_get h,Kept.refl _ _ _,
  fun i B' q s c h1 h2 h3 _=>⟨i,B',s,c,h i B' h1,h2,h3,aS _,aS _⟩⟩
theorem rename_post {w:World}{b q s c:Nat}{B:Bk}(hI:Inv E σ)(hw:BW N E σ.bks w)(hB:σ.bks.get b=some B)(hb:E.blk b=some (q,s,c))
 (h:∀i B',σ'.bks.get i=some B'→(i=σ.nb∧B'=B)∨(i≠σ.nb∧i≠b∧σ.bks.get i=some B')) (hnb:σ'.nb=σ.nb+1) (hnv:σ'.nv=σ.nv) (hgl:σ'.gl=σ.gl):Post N E σ w N (E.addB σ.nb (q,s,c)) σ' w:=by
 have hle:E.le (E.addB σ.nb (q,s,c)):=by
  refine ⟨fun b q h=> ?_,fun _ _ h=>h⟩;have:b≠σ.nb:=fun e=>by rw[e,hI.freshB σ.nb (aS _)] at h;cases h
  simp only[Env.addB,fH this,aQ];exact h
 have hoth:∀i,i≠σ.nb→(E.addB σ.nb (q,s,c)).blk i=E.blk i:=fun i h=>by simp only[Env.addB,fH h,aQ]
 refine ⟨⟨fun i hi=> ?_,fun j hj=>hI.freshV j (by rw[←hnv];exact hj),fun t sv e=> ?_⟩,hle,⟨fun i B' e=> ?_,fun i i' B1 B2 q1 s1 s2 c1 c2 e1 e2 e3 e4 e5 e6=> ?_⟩,Kept.refl _ _ _,fun i B' q1 s1 c1 e1 e2 e3 _=> ?_⟩
 ·rw [hnb] at hi;rw[hoth i (by omega)];exact hI.freshB i (by omega)
 ·obtain ⟨h1,b',c',h2,h3⟩:=hI.glob t sv (by rw[←hgl];exact e);exact ⟨h1,b',c',h2,hle.blk _ _ h3⟩
 ·rcases h i B' e with ⟨rfl,rfl⟩ | ⟨h1,_,h2⟩
  ·obtain ⟨q',s',c',arr,el,fz,g1,g2,g3,g4,g5⟩:=hw.at' b B' hB;rw[hb] at g1;simp only[aA,aD] at g1;obtain ⟨rfl,rfl,rfl⟩:=g1;exact ⟨_,_,_,arr,el,fz,fK,g2,g3,g4,Bk.cont_mono hle g5⟩
  ·obtain ⟨q',s',c',arr,el,fz,g1,g2,g3,g4,g5⟩:=hw.at' i B' h2;exact ⟨q',s',c',arr,el,fz,hle.blk _ _ g1,g2,g3,g4,Bk.cont_mono hle g5⟩
 ·rcases h i B1 e1 with ⟨rfl,rfl⟩ | ⟨h1,h1b,h2⟩ <;> rcases h i' B2 e2 with ⟨rfl,rfl⟩ | ⟨h3,h3b,h4⟩
  ·exact absurd rfl e3
  ·rw [fK] at e4;simp only[aA,aD] at e4;obtain ⟨rfl,rfl,rfl⟩:=e4;rw[hoth i' h3] at e5;exact hw.apart b i' B1 B2 _ _ _ _ _ hB h4 (Ne.symm h3b) hb e5 e6
  ·rw [fK] at e5;simp only[aA,aD] at e5;obtain ⟨rfl,rfl,rfl⟩:=e5;rw[hoth i h1] at e4;exact hw.apart i b B1 B2 _ _ _ _ _ h2 hB h1b e4 hb e6
  ·rw [hoth i h1] at e4;rw[hoth i' h3] at e5;exact hw.apart i i' B1 B2 _ _ _ _ _ h2 h4 e3 e4 e5 e6
 ·rcases h i B' e1 with ⟨rfl,rfl⟩ | ⟨h1,_,h2⟩
  ·rw [fK] at e3;simp only[aA,aD] at e3;obtain ⟨rfl,rfl,rfl⟩:=e3;exact ⟨b,B',_,_,hB,e2,hb,aS _,aS _⟩
  ·rw [hoth i h1] at e3;exact ⟨i,B',s1,c1,h2,e2,e3,aS _,aS _⟩
theorem growBy_le {need:Nat}:∀(r c:Nat),c≤need+(need+768)/4→Builtin.growBy need r c≤need+(need+768)/4
 | 0,c,h=>h
 | r+1,c,h=>by
  unfold Builtin.growBy;by_cases hc:c≥need;·rw [bG hc];exact h
  ·rw [bC hc];exact growBy_le r _ (by omega)
theorem nsc_le {need old:Nat}(h:old<need)(hn:need≤1099511627776):Builtin.nextslicecap need old≤4398046511104:=by
 unfold Builtin.nextslicecap
 split
 ·omega
 ·split
  ·omega
  ·have:=growBy_le (need:=need) 4 old (by omega);omega
theorem append_room {t tx ty e:TypeId}{i:TypeInfo}(ht:P.underlying t=some (.slice e))(hi:P.info? e=some i){ad:Addr}{sLen sCap m:Nat}{x:Value}{news:List Value}{w w':World}(hs:Src P i.size tx x m news w)
 (hroom:sLen+m≤sCap) (hst:(storeCells (ad.add (sLen*i.size)) news 0).run P w= .ok () w') :
 (Builtin.append_ #[t,tx] ty #[.slice (some ad) sLen sCap,x]).run P w= .ok (.slice (some ad) (sLen+m) sCap) w':=by
 rcases hs.kind with ⟨e',hk⟩ | hk <;> simp[Builtin.append_,run_underlying ht,run_underlying hk,sizeOf,typeInfo,hi,hs.len,hroom,hs.cells,hst]
theorem append_nothing {t tx ty e:TypeId}{i:TypeInfo}(ht:P.underlying t=some (.slice e))(hi:P.info? e=some i){base:Option Addr}{sLen sCap:Nat}{x:Value}{w:World}(hle:sLen≤sCap)(hs:Src P i.size tx x 0 [] w) :
 (Builtin.append_ #[t,tx] ty #[.slice base sLen sCap,x]).run P w= .ok (.slice base sLen sCap) w:=by
 rcases hs.kind with ⟨e',hk⟩ | hk <;> cases base <;> simp[Builtin.append_,run_underlying ht,run_underlying hk,sizeOf,typeInfo,hi,hs.len,hle,hs.cells,storeCells]
theorem zeroCells_get {k:IntKind}{m j:Nat}(h:j<m):(Builtin.zeroCells #[.int k 0] m)[j]? =some (.int k 0):=by
 simp[Builtin.zeroCells,h,Nat.mod_one]
theorem narrow_post {w:World}{b q s c:Nat}{B B1:Bk}(hI:Inv E σ)(hw:BW N E σ.bks w)(hB:σ.bks.get b=some B)(hrw:B1.rw=true→B.rw=true)(hb:E.blk b=some (q,s,c))(hwid:B1.wid N c≤B.wid N c)
 (hc:∀arr el fz,w.heap[q]? =some (.cells arr el fz)→B.cont N E s c arr→B1.cont N E s c arr)
 (h:∀i B',σ'.bks.get i=some B'→(i=b∧B'=B1)∨(i≠b∧σ.bks.get i=some B')) (hnb:σ'.nb=σ.nb) (hnv:σ'.nv=σ.nv) (hgl:σ'.gl=σ.gl):Post N E σ w N E σ' w:=by
 have old:∀i B',σ'.bks.get i=some B'→∃B0,σ.bks.get i=some B0∧(B'.rw=true→B0.rw=true)∧∀q' s' c',E.blk i=some (q',s',c')→B'.wid N c'≤B0.wid N c':=fun i B' e=>by
  rcases h i B' e with ⟨rfl,rfl⟩ | ⟨_,h2⟩
  ·exact ⟨B,hB,hrw,fun q' s' c' e=>by rw[hb] at e;simp only[aA,aD] at e;obtain ⟨_,_,rfl⟩:=e;exact hwid⟩
  ·exact ⟨B',h2,fun k=>k,fun _ _ _ _=>aS _⟩
 refine ⟨⟨fun b hb=>hI.freshB b (by rw[←hnb];exact hb),fun j hj=>hI.freshV j (by rw[←hnv];exact hj),fun t sv e=>hI.glob t sv (by rw[←hgl];exact e)⟩,E.le_refl,⟨fun i B' e=> ?_,fun i i' B1 B2 q1 s1 s2 c1 c2 e1 e2 e3 e4 e5 e6=> ?_⟩,Kept.refl _ _ _,fun i B' q1 s1 c1 e1 e2 e3 _=> ?_⟩
 ·rcases h i B' e with ⟨rfl,rfl⟩ | ⟨_,h2⟩
  ·obtain ⟨q',s',c',arr,el,fz,g1,g2,g3,g4,g5⟩:=hw.at' i B hB;rw[hb] at g1;simp only[aA,aD] at g1;obtain ⟨rfl,rfl,rfl⟩:=g1;exact ⟨_,_,_,arr,el,fz,hb,g2,fun k=>g3 (hrw k),by omega,hc _ _ _ g2 g5⟩
  ·exact hw.at' i B' h2
 ·obtain ⟨A1,a1,a2,a3⟩:=old i B1 e1;obtain ⟨A2,b1,b2,b3⟩:=old i' B2 e2;have:=hw.apart i i' A1 A2 _ _ _ _ _ a1 b1 e3 e4 e5 (e6.imp a2 b2);have:=a3 _ _ _ e4;have:=b3 _ _ _ e5;omega
 ·obtain ⟨A1,a1,a2,a3⟩:=old i B' e1;exact ⟨i,A1,s1,c1,a1,a2 e2,e3,aS _,by have:=a3 _ _ _ e3;omega⟩
theorem grow_sound {t tx ty e:TypeId}{k:IntKind}(ht:P.underlying t=some (.slice e))(he:elemK P e=some k){base:Option Addr}{sLen sCap m A:Nat}{x:Value}{news olds:List Value}{w:World}
 (hs:Src P 1 tx x m news w) (hold:(Builtin.firstCells 1 sLen (.slice base sLen sCap)).run P w.drew= .ok olds.toArray w.drew) (hg:sCap<sLen+m) (hn:sLen+m≤1099511627776)
 (hA:intsV k (N.a A)=olds++news) (hAl:(N.a A).length=sLen+m) (hI:Inv E σ) (hw:BW N E σ.bks w) :
 ∃c w',(Builtin.append_ #[t,tx] ty #[.slice base sLen sCap,x]).run P w= .ok (.slice (some ⟨w.heap.size,0,none⟩) (sLen+m) c) w'∧sLen+m≤c∧Post N E σ w N (E.addB σ.nb (w.heap.size,0,c)) (σ.newA k A true) w':=by
 obtain ⟨_,i,hi,hsz,hby,hz⟩:=elemK_spec he;have hfit:Builtin.nextslicecap (sLen+m) sCap*i.bytes≤281474976710656:=by have h1:=nsc_le hg hn;have h2:Builtin.nextslicecap (sLen+m) sCap*i.bytes≤4398046511104*8:=Nat.mul_le_mul h1 hby;omega
 have hrun:=run_append_grow_src (P:=P) w t tx ty e i (.int k 0) ht hi hz base sLen sCap olds (by rw[hsz];exact hold) x m news (by rw[hsz];exact hs) hg (by omega) hfit;have hge:=grownCap_ge w (sLen+m) sCap e;refine ⟨_,_,hrun,hge,?_⟩;generalize grownCap w (sLen+m) sCap e=c at hge ⊢;have hsize:(olds++news).length=sLen+m:=by rw[←hA];simp[intsV,hAl]
 have hzc:(Value.int k 0).cells= #[.int k 0]:=rfl;refine newBk_sound (B:={n:=0,rw:=true,cells:= .nil,arr:=some (k,A,true)}) (arr0:=(olds++news).toArray++Builtin.zeroCells #[.int k 0] (c-(sLen+m))) (t:=e) hw hI rfl rfl rfl rfl ?_ ?_ rfl rfl rfl rfl
 ·simp only[Bk.wid,aH,hAl,Array.size_append,List.size_toArray,hsize,size_zeroCells];have:Nat.max c (sLen+m)=c:=Nat.max_eq_left hge;rw[this];simp;omega
 ·simp only[Bk.cont];refine ⟨fun j y hj=> ?_,fun _ j h1 h2=> ?_⟩
  ·have hlt:j<sLen+m:=by
    rcases bL j (sLen+m) with h | h
    ·exact h
    ·rw [bI (by omega)] at hj;cases hj
   rw[bM,Array.getElem?_append];simp only[List.size_toArray,hsize,hlt,if_true];rw[←hA];simp[intsV,hj]
  ·rw [bM,Array.getElem?_append];rw[hAl] at h1;simp only[List.size_toArray,hsize];rw[bC (by omega)];exact zeroCells_get (by omega)
theorem fX {x y:Ar}{t:Bool}(h:σ.decide x y=some (t,σ')):Pur σ σ':=by
 unfold St.decide at h;split at h;·simp only[aA,aD] at h;rw[←h.2];exact Pur.refl _
 ·exact ask_pur h
theorem Ext.newA (σ:St)(k:IntKind)(A:Nat)(g:Bool):Ext σ (σ.newA k A g):=⟨fun _ m=>m,fun _ m=>m,rfl,rfl,aS _⟩
theorem appendS_ext {k:IntKind}{tx:TypeId}{s x sv:SV}(h:appendS P k tx s x σ=some (sv,σ')):Ext σ σ':=by
 unfold appendS at h;split at h
 ·split at h
  ·rename_i hsrc;split at h
   ·rename_i hd;split at h
    ·rename_i he;simp only[aA,aD] at h;rw[←h.2];exact (((src_pur hsrc).trans (fX hd)).trans (eq_pur he)).ext
    ·cases h
   ·rename_i hd;split at h
    ·rename_i σ3 he;simp only[aA,aD] at h;simp only[aL] at he;obtain ⟨σ2,h1,h2⟩:=he;rw[←h.2];exact ((((src_pur hsrc).trans (fX hd)).trans (lt_pur h1)).trans (fC h2)).ext.trans (Ext.newA _ _ _ _)
    ·cases h
   ·cases h
  ·cases h
 ·split at h
  ·rename_i hsrc;split at h
   ·rename_i hd;split at h
    ·rename_i he;simp only[aA,aD] at h;rw[←h.2];exact (((src_pur hsrc).trans (fX hd)).trans (eq_pur he)).ext
    ·cases h
   ·rename_i hd;split at h
    ·rename_i σ3 he;simp only[aA,aD] at h;simp only[aL] at he;obtain ⟨σ2,h1,h2⟩:=he;rw[←h.2];exact ((((src_pur hsrc).trans (fX hd)).trans (lt_pur h1)).trans (fC h2)).ext.trans (Ext.newA _ _ _ _)
    ·cases h
   ·cases h
  ·cases h
 ·split at h
  ·rename_i hsrc;split at h
   ·rename_i σ2 hle;simp only[aL] at hle;obtain ⟨σa,h1,h2⟩:=hle;have p0:=((src_pur hsrc).trans (fC h1)).trans (fC h2);split at h
    ·rename_i hd;split at h
     ·rename_i σ3 hwr;simp only[aA,aD] at h;simp only[aL] at hwr;obtain ⟨σ4,h3,h4⟩:=hwr;rw[←h.2];exact ((((p0.trans lin_pur).trans (fX hd)).trans (fC h3)).trans lin_pur).ext.trans (wrt_ext h4)
     ·cases h
    ·rename_i hd;split at h
     ·rename_i σ3 hwr;simp only[aL] at hwr;obtain ⟨σ4,h3,h4⟩:=hwr;split at h
      ·rename_i O σ5 hr;simp only[aA,aD] at h;rw[←h.2];exact ((((((p0.trans lin_pur).trans (fX hd)).trans (lt_pur h3)).trans (fC h4)).trans (rng_pur hr)).trans (Pur.mkA _ _)).ext.trans (Ext.newA _ _ _ _)
      ·cases h
     ·cases h
    ·cases h
   ·cases h
  ·cases h
 ·split at h
  ·rename_i m X σ1 hsrc;split at h
   ·rename_i B hB;split at h
    ·rename_i k' A hg;generalize (kindB k k'&&B.rw)=bb at h;cases bb with
     | false=>cases h
     | true =>
      simp only[aH] at h;split at h
      ·rename_i σ2 hle;simp only[aA,aD] at h;rw[←h.2];have p1:=(src_pur hsrc).trans (fC hle);exact p1.ext.trans ⟨fun _ m=>m,fun _ m=>m,rfl,rfl,aS _⟩
      ·cases h
    ·cases h
   ·cases h
  ·cases h
 ·split at h
  ·rename_i m X σ1 hsrc;split at h
   ·rename_i B hB;split at h
    ·rename_i k' A hg;generalize (kindB k k'&&B.rw)=bb at h;cases bb with
     | false=>cases h
     | true =>
      simp only[aH] at h;split at h
      ·rename_i σ2 hle;simp only[aA,aD] at h;rw[←h.2];have p1:=(((src_pur hsrc).trans (Pur.ob _ _)).trans lin_pur).trans (fC hle);exact p1.ext.trans ⟨fun _ m=>aJ _ m,fun _ m=>m,rfl,rfl,aS _⟩
      ·cases h
    ·cases h
   ·cases h
  ·cases h
 ·cases h
end
section
variable {P:Program} {F:Fns} {N:Num} {E:Env} {σ σ':St} {n:Nat} {T:Tr SV} {a:Act} {v:Option SV} {dst:Option Tmp} {type:TypeId} {pos:String} {after:Array Edge} {guard:Option (Nat×Bool)}
theorem intsV_append {k:IntKind}{l m:List Int}:intsV k (l++m)=intsV k l++intsV k m:=by simp[intsV]
theorem newA_den {b q c:Nat}{len:Ar}(hl:(len.ev N).toNat≤c):(one (.sl b (.kst 0) len none)).den N (E.addB b (q,0,c))=some (.slice (some ⟨q,0,none⟩) (len.ev N).toNat c):=by
 have:=sl_mk (N:=N) (E:=E.addB b (q,0,c)) (b:=b) (off:= .kst 0) (len:=len) (cap:=none) fK (bK _) (fun _=>by rw[gE];simpa using hl);simp only[one,SV.den,V1.den,this,capOf,gE];simp
set_option maxHeartbeats 2000000 in
theorem appendS_sound {k:IntKind}{t tx ty e:TypeId}{s x sv:SV}{us ux:Value}{w:World}(h:appendS P k tx s x σ=some (sv,σ'))(ht:P.underlying t=some (.slice e))(he:elemK P e=some k)
 (hs:s.den N E=some us) (hx:x.den N E=some ux) (hH:Hold F N σ') (hI:Inv E σ) (hw:BW N E σ.bks w) :
 ∃E' w' u,(Builtin.append_ #[t,tx] ty #[us,ux]).run P w= .ok u w'∧Post N E σ w N E' σ' w'∧sv.den N E'=some u:=by
 obtain ⟨_,i,hi,hsz,hby,hz⟩:=elemK_spec he;unfold appendS at h;split at h
 ·
  have:=kst_den hs;subst this;split at h
  ·rename_i m X σ1 hsrc;split at h
   ·rename_i σ2 hd;split at h
    ·rename_i σ3 hq;simp only[aA,aD] at h;obtain ⟨rfl,rfl⟩:=h;have hH2:=eT (eq_pur hq).ext hH;have hH1:=eT (fX hd).ext hH2;obtain ⟨h1,h2,h3⟩:=src_at hsrc hx hH1 hw;have h0:=eq_holds hq hH;rw[gE] at h0;rw[h0] at h2 h3;have hnil:N.a X=[]:=cI.1 h2;rw[hnil] at h3;refine ⟨E,w,_,append_nothing ht hi (aS _) (by rw[hsz];exact h3),fD (((src_pur hsrc).trans (fX hd)).trans (eq_pur hq)) hI hw,rfl⟩
    ·cases h
   ·rename_i σ2 hd;split at h
    ·rename_i σ3 hq;simp only[aA,aD] at h;obtain ⟨rfl,rfl⟩:=h;simp only[aL] at hq;obtain ⟨σ4,hq1,hq2⟩:=hq;have hH3:Hold F N σ3:=⟨hH.fns,hH.defs,hH.obs,hH.ins⟩
     have hH4:=eT (fC hq2).ext hH3;have hH2:=eT (lt_pur hq1).ext hH4;have hH1:=eT (fX hd).ext hH2;obtain ⟨h1,h2,h3⟩:=src_at hsrc hx hH1 hw;have g1:=lt_holds hq1 hH4;have g2:=fO hq2 hH3;rw[gE] at g1 g2;have hp:Post N E σ w N E σ3 w:=fD ((((src_pur hsrc).trans (fX hd)).trans (lt_pur hq1)).trans (fC hq2)) hI hw;unfold most at g2;obtain ⟨c,w',r1,r2,r3⟩:=grow_sound (σ:=σ3) (k:=k) (ty:=ty) (base:=none) (sLen:=0) (sCap:=0) (olds:=[]) (A:=X) ht he h3 (run_firstCells_none w.drew 1 0 0 0) (by omega) (by omega) rfl (by rw[h2];omega) hp.inv hp.bw
     refine ⟨_,w',_,r1,hp.trans r3,?_⟩;rw[bM] at r2 ⊢;exact newA_den r2
    ·cases h
   ·cases h
  ·cases h
 ·
  rename_i b off;have hs':(Sc.sl b off (.kst (.ofNat 0)) (some (.kst (.ofNat 0)))).den N E=some us:=hs;obtain ⟨q,s0,c,mm,hb,h0,rfl,hmm,_⟩:=gC hs';have e00:((Ar.kst (Int.ofNat 0)).ev N).toNat=0:=rfl;simp only[capOf,e00] at hmm;subst hmm;rw[e00] at hs hs' ⊢;split at h
  ·rename_i m X σ1 hsrc;split at h
   ·rename_i σ2 hd;split at h
    ·rename_i σ3 hq;simp only[aA,aD] at h;obtain ⟨rfl,rfl⟩:=h;have hH2:=eT (eq_pur hq).ext hH;have hH1:=eT (fX hd).ext hH2;obtain ⟨h1,h2,h3⟩:=src_at hsrc hx hH1 hw;have h0:=eq_holds hq hH;rw[gE] at h0;rw[h0] at h2 h3;have hnil:N.a X=[]:=cI.1 h2;rw[hnil] at h3;refine ⟨E,w,_,append_nothing ht hi (aS _) (by rw[hsz];exact h3),fD (((src_pur hsrc).trans (fX hd)).trans (eq_pur hq)) hI hw,hs⟩
    ·cases h
   ·rename_i σ2 hd;split at h
    ·rename_i σ3 hq;simp only[aA,aD] at h;obtain ⟨rfl,rfl⟩:=h;simp only[aL] at hq;obtain ⟨σ4,hq1,hq2⟩:=hq;have hH3:Hold F N σ3:=⟨hH.fns,hH.defs,hH.obs,hH.ins⟩
     have hH4:=eT (fC hq2).ext hH3;have hH2:=eT (lt_pur hq1).ext hH4;have hH1:=eT (fX hd).ext hH2;obtain ⟨h1,h2,h3⟩:=src_at hsrc hx hH1 hw;have g1:=lt_holds hq1 hH4;have g2:=fO hq2 hH3;rw[gE] at g1 g2;have hp:Post N E σ w N E σ3 w:=fD ((((src_pur hsrc).trans (fX hd)).trans (lt_pur hq1)).trans (fC hq2)) hI hw;unfold most at g2;obtain ⟨c,w',r1,r2,r3⟩:=grow_sound (σ:=σ3) (k:=k) (ty:=ty) (base:=some ⟨q,s0+(off.ev N).toNat,none⟩) (sLen:=0) (sCap:=0) (olds:=[]) (A:=X) ht he h3 (run_firstCells_some w.drew 1 0 _ 0 0 [] rfl (fun j u hj=>by simp at hj)) (by omega) (by omega) rfl (by rw[h2];omega) hp.inv hp.bw
     refine ⟨_,w',_,r1,hp.trans r3,?_⟩;rw[bM] at r2 ⊢;exact newA_den r2
    ·cases h
   ·cases h
  ·cases h
 ·
  rename_i b off len cap _;have hs':(Sc.sl b off len (some cap)).den N E=some us:=hs;obtain ⟨q,s0,c,mm,hb,h0,rfl,hmm,_⟩:=gC hs';simp only[capOf] at hmm;subst hmm;split at h
  ·rename_i m X σ1 hsrc;split at h
   ·rename_i σ2 hle;simp only[aL] at hle;obtain ⟨σa,hl1,hl2⟩:=hle;have p0:=((src_pur hsrc).trans (fC hl1)).trans (fC hl2);have facts:Hold F N σ2→0≤len.ev N∧len.ev N≤cap.ev N∧0≤m.ev N∧(N.a X).length=(m.ev N).toNat∧Src P 1 tx ux (m.ev N).toNat (intsV k (N.a X)) w:=fun hH2=>by
     have hHa:=eT (fC hl2).ext hH2;have hH1:=eT (fC hl1).ext hHa;obtain ⟨h1,h2,h3⟩:=src_at hsrc hx hH1 hw;have g1:=fO hl1 hHa;rw[gE] at g1;exact ⟨g1,fO hl2 hH2,h1,h2,h3⟩
    split at h
    ·rename_i σ3 hd;split at h
     ·rename_i σ5 hwr;simp only[aA,aD] at h;obtain ⟨rfl,rfl⟩:=h;simp only[aL] at hwr;obtain ⟨σ4,hq,hwr⟩:=hwr;have hHl:=eT (wrt_ext hwr) hH;have hH4:=eT lin_pur.ext hHl;have hH3:=eT (fC hq).ext hH4;have hHn:=eT (fX hd).ext hH3;have hH2:=eT lin_pur.ext hHn;obtain ⟨g1,g2,g3,g4,g5⟩:=facts hH2;have en:(lin len m 1 σ2).1.ev N=len.ev N+m.ev N*1:=lin_ev hHn;have eo:(lin off len 1 σ4).1.ev N=off.ev N+len.ev N*1:=lin_ev hHl;have gq:=fO hq hH4
      rw[en] at gq;have p1:=(((p0.trans lin_pur).trans (fX hd)).trans (fC hq)).trans (lin_pur (a:=off) (b:=len) (c:=1));have hp:Post N E σ w N E _ w:=fD p1 hI hw;obtain ⟨w',r1,r2⟩:=wrt_sound (P:=P) hwr hb hH hp.bw hp.inv g4;refine ⟨E,w',_,append_room (sLen:=(len.ev N).toNat) (m:=(m.ev N).toNat) ht hi (by rw[hsz];exact g5) (by omega) (w':=w') ?_,hp.trans r2,?_⟩
      ·rw [hsz,Addr.add_lit,Nat.mul_one];rw[eo,show (off.ev N+len.ev N*1).toNat=(off.ev N).toNat+(len.ev N).toNat by omega,←dD] at r1;exact r1
      ·have:=sl_mk (N:=N) (E:=E) (b:=b) (off:=off) (len:=(lin len m 1 σ2).1) (cap:=some cap) hb h0 (fun e=>by cases e);simp only[one,SV.den,V1.den,this,capOf,en];rw[show (len.ev N+m.ev N*1).toNat=(len.ev N).toNat+(m.ev N).toNat by omega]
     ·cases h
    ·rename_i σ3 hd;split at h
     ·rename_i σ5 hwr;simp only[aL] at hwr;obtain ⟨σ4,hq1,hq2⟩:=hwr;split at h
      ·rename_i O σ6 hr;simp only[aA,aD] at h;obtain ⟨rfl,rfl⟩:=h;have hHc:Hold F N (σ6.mkA (.cat O X)):=⟨hH.fns,hH.defs,hH.obs,hH.ins⟩
       have hH6:=eT (Ext.mkA _ _) hHc;have hH5:=eT (rng_pur hr).ext hH6;have hH4:=eT (fC hq2).ext hH5;have hH3:=eT (lt_pur hq1).ext hH4;have hHn:=eT (fX hd).ext hH3;have hH2:=eT lin_pur.ext hHn;obtain ⟨g1,g2,g3,g4,g5⟩:=facts hH2;have en:(lin len m 1 σ2).1.ev N=len.ev N+m.ev N*1:=lin_ev hHn;have gq1:=lt_holds hq1 hH4;have gq2:=fO hq2 hH5;rw[en] at gq1 gq2;rw[gE] at gq2;unfold most at gq2;have hcat:N.a σ6.na=N.a O++N.a X:=hHc.mkA
       have p5:=((((p0.trans lin_pur).trans (fX hd)).trans (lt_pur hq1)).trans (fC hq2))
       have p1:=(p5.trans (rng_pur hr)).trans (Pur.mkA _ (.cat O X));have hp5:Post N E σ w N E σ5 w:=fD p5 hI hw;have hp:Post N E σ w N E (σ6.mkA (.cat O X)) w:=fD p1 hI hw;obtain ⟨q',s',c',k1,k2,k3,k4,k5⟩:=rng_at hr hH6 hp5.bw;rw[hb] at k1;simp only[aA,aD] at k1;obtain ⟨rfl,rfl,rfl⟩:=k1;obtain ⟨c2,w',r1,r2,r3⟩:=grow_sound (σ:=σ6.mkA (.cat O X)) (k:=k) (ty:=ty) (base:=some ⟨q,s0+(off.ev N).toNat,none⟩) (sLen:=(len.ev N).toNat) (sCap:=(cap.ev N).toNat) (olds:=intsV k (N.a O)) (A:=σ6.na) ht he g5
        (run_firstCells_some w.drew 1 _ _ _ _ _ (by simp[intsV,k4]) (fun j u hj=>by obtain ⟨y,hy,rfl⟩:=intsV_get hj;rw[Addr.add_lit];simpa using k5 j y hy)) (by omega) (by omega) (by rw[hcat,intsV_append]) (by rw[hcat,aO,k4,g4]) hp.inv hp.bw
       refine ⟨_,w',_,r1,hp.trans r3,?_⟩;have e2:((lin len m 1 σ2).1.ev N).toNat=(len.ev N).toNat+(m.ev N).toNat:=by rw[en];omega
       have:=newA_den (N:=N) (E:=E) (b:=σ6.nb) (q:=w.heap.size) (c:=c2) (len:=(lin len m 1 σ2).1) (by rw[e2];exact r2);rw[e2] at this;exact this
      ·cases h
     ·cases h
    ·cases h
   ·cases h
  ·cases h
 ·
  rename_i b;have hs':(Sc.sl b (.kst (.ofNat 0)) (.kst (.ofNat 0)) none).den N E=some us:=hs;obtain ⟨q,s0,c,mm,hb,h0,rfl,hmm,hc0⟩:=gC hs';have e00:((Ar.kst (Int.ofNat 0)).ev N).toNat=0:=rfl;have hmm:c=mm:=by rw[hmm];simp[capOf,gE]
  subst hmm;rw[e00] at hs hs' ⊢;split at h
  ·rename_i m X σ1 hsrc;split at h
   ·rename_i B hB;split at h
    ·rename_i k' A hg;cases hbb:(kindB k k'&&B.rw) with
     | false=>rw[hbb] at h;cases h
     | true =>
      rw[hbb] at h;simp only[aG] at hbb;have:=fT hbb.1;subst this;have hrw:=hbb.2;simp only[aH] at h;split at h
      ·rename_i σ2 hle;simp only[aA,aD] at h;obtain ⟨rfl,rfl⟩:=h;have p1:=(src_pur hsrc).trans (fC hle);have hH2:Hold F N σ2:=⟨hH.fns,hH.defs,hH.obs,hH.ins⟩
       have hH1:=eT (fC hle).ext hH2;obtain ⟨g3,g4,g5⟩:=src_at hsrc hx hH1 hw;have gq:=fO hle hH2;rw[gE] at gq;unfold most at gq;have hp:Post N E σ w N E σ2 w:=fD p1 hI hw;have hB2:σ2.bks.get b=some B:=by have e1:σ2.bks=σ.bks:=p1.bks;have e2:σ1.bks=σ.bks:=(src_pur hsrc).bks;rw[e1,←e2];exact hB
       obtain ⟨q',s',c',arr,el,fz,k1,k2,k3,k4,k5⟩:=hp.bw.at' b B hB2;rw[hb] at k1;simp only[aA,aD] at k1;obtain ⟨e1,e2,e3⟩:=k1;subst e1 e2 e3;have:=k3 hrw;subst this;have hbn:b≠σ2.nb:=fun e=>by have:=hp.inv.freshB b (by omega);rw[hb] at this;cases this
       by_cases hroom:(m.ev N).toNat≤c
       ·
        have hcw:c≤B.wid N c:=by simp only[Bk.wid,hg,aH];exact Nat.le_max_left _ _
        obtain ⟨w',arr',r1,r2,r3,r4,r5⟩:=gG (P:=P) (o:=s0) (i:=0) (vs:=intsV k (N.a X)) k2 (by simp only[intsV,bF,g4];omega) intsV_ok;simp only[intsV,bF,g4,cJ] at r4 r5;have hu:Post N E σ2 w N E {σ2 with bks:=σ2.bks.set b {n:=B.wid N c,rw:=true,cells:= .nil,arr:=none}} w' :=
         by
         refine upd_post (B':={n:=B.wid N c,rw:=true,cells:= .nil,arr:=none}) hp.bw hp.inv hB2 hrw hb k2 r2 r3 (fun j hj=>r4 j (by omega)) rfl rfl ?_ rfl rfl rfl rfl;intro j sc hj;cases hj
        have hv:Post N E {σ2 with bks:=σ2.bks.set b {n:=B.wid N c,rw:=true,cells:= .nil,arr:=none}} w' N E {σ2 with bks:=σ2.bks.set b {n:=0,rw:=true,cells:= .nil,arr:=some (k,X,false)}} w':=by
         refine narrow_post (b:=b) (B:={n:=B.wid N c,rw:=true,cells:= .nil,arr:=none}) (B1:={n:=0,rw:=true,cells:= .nil,arr:=some (k,X,false)}) hu.inv hu.bw (by simp only[fA,if_true]) (fun _=>rfl) hb ?_ ?_ ?_ rfl rfl rfl
         ·show (N.a X).length≤B.wid N c;omega
         ·intro arr1 el1 fz1 h1 _;rw[r2.here] at h1;simp only[aA,Obj.cells.injEq] at h1;obtain ⟨rfl,_,_⟩:=h1;refine ⟨fun j y hj=> ?_,fun e=>by cases e⟩;exact r5 j (.int k y) (by rw[bP,hj];rfl)
         ·intro i B' e;simp only[fA] at e ⊢;by_cases hi:i=b;·rw [bG hi] at e;simp only[aA] at e;exact .inl ⟨hi,e.symm⟩
          ·rw [bC hi] at e;rw[bC hi];exact .inr ⟨hi,e⟩
        have hn:Post N E {σ2 with bks:=σ2.bks.set b {n:=0,rw:=true,cells:= .nil,arr:=some (k,X,false)}} w' N (E.addB σ2.nb (q,s0,c)) ({σ2 with bks:=σ2.bks.erase b}.newA k X false) w' :=
         rename_post (b:=b) (B:={n:=0,rw:=true,cells:= .nil,arr:=some (k,X,false)}) hv.inv hv.bw (by simp only[fA,if_true]) hb (fun i B' e=>by
          simp only[St.newA,fA] at e;by_cases hi:i=σ2.nb;·rw [bG hi] at e;simp only[aA] at e;exact .inl ⟨hi,e.symm⟩
          ·rw [bC hi,gJ] at e;by_cases hib:i=b;·rw [bG hib] at e;cases e
           ·rw [bC hib] at e;exact .inr ⟨hi,hib,by simp only[fA];rw[bC hib];exact e⟩) rfl rfl rfl
        refine ⟨_,w',_,append_room (sLen:=0) (m:=(m.ev N).toNat) ht hi (by rw[hsz];exact g5) (by omega) (w':=w') ?_,((hp.trans hu).trans hv).trans hn,?_⟩
        ·rw [hsz,Addr.add_lit,Nat.mul_one,cJ];exact r1
        ·have:=sl_mk (N:=N) (E:=E.addB σ2.nb (q,s0,c)) (b:=σ2.nb) (off:= .kst 0) (len:=m) (cap:=none) fK (bK _) (fun _=>by rw[gE];simpa using hroom);simp only[one,SV.den,V1.den,this,capOf,gE];simp
       ·
        have hf:Post N E σ2 w N E {σ2 with bks:=σ2.bks.erase b} w:=forget_post hp.inv hp.bw (fun i B' e=>by
         simp only[gJ] at e;by_cases hib:i=b;·rw [bG hib] at e;cases e
         ·rw [bC hib] at e;exact e) rfl rfl rfl
        obtain ⟨c2,w',r1,r2,r3⟩:=grow_sound (σ:={σ2 with bks:=σ2.bks.erase b}) (k:=k) (ty:=ty) (base:=some ⟨q,s0+0,none⟩) (sLen:=0) (sCap:=c) (olds:=[]) (A:=X) ht he g5
         (run_firstCells_some w.drew 1 0 _ _ _ [] rfl (fun j u hj=>by simp at hj)) (by omega) (by omega) rfl (by omega) hf.inv hf.bw
        have hv:Post N (E.addB σ2.nb (w.heap.size,0,c2)) ({σ2 with bks:=σ2.bks.erase b}.newA k X true) w' N (E.addB σ2.nb (w.heap.size,0,c2)) ({σ2 with bks:=σ2.bks.erase b}.newA k X false) w':=by
         refine narrow_post (b:=σ2.nb) (B:={n:=0,rw:=true,cells:= .nil,arr:=some (k,X,true)}) (B1:={n:=0,rw:=true,cells:= .nil,arr:=some (k,X,false)}) r3.inv r3.bw (by simp only[St.newA,fA,if_true]) (fun _=>rfl) fK ?_ ?_ ?_ rfl rfl rfl
         ·show (N.a X).length≤Nat.max c2 (N.a X).length;exact Nat.le_max_right _ _
         ·intro arr1 el1 fz1 _ h2;exact ⟨h2.1,fun e=>by cases e⟩
         ·intro i B' e;simp only[St.newA,fA] at e ⊢;by_cases hi:i=σ2.nb;·rw [bG hi] at e;simp only[aA] at e;exact .inl ⟨hi,e.symm⟩
          ·rw [bC hi] at e;rw[bC hi];exact .inr ⟨hi,e⟩
        refine ⟨_,w',_,r1,((hp.trans hf).trans r3).trans hv,?_⟩;rw[bM] at r2 ⊢;exact newA_den r2
      ·cases h
    ·cases h
   ·cases h
  ·cases h
 ·
  rename_i b len _;have hs':(Sc.sl b (.kst (.ofNat 0)) len none).den N E=some us:=hs;obtain ⟨q,s0,c,mm,hb,h0,rfl,hmm,hc0⟩:=gC hs';have hc0:=hc0 rfl;have e00:((Ar.kst (Int.ofNat 0)).ev N).toNat=0:=rfl;rw[e00] at hc0;have hmm:c=mm:=by rw[hmm];simp[capOf,gE]
  subst hmm;split at h
  ·rename_i m X σ1 hsrc;split at h
   ·rename_i B hB;split at h
    ·rename_i k' A hg;cases hbb:(kindB k k'&&B.rw) with
     | false=>rw[hbb] at h;cases h
     | true =>
      rw[hbb] at h;simp only[aG] at hbb;have:=fT hbb.1;subst this;have hrw:=hbb.2;simp only[aH] at h;split at h
      ·rename_i σ2 hle;simp only[aA,aD] at h;obtain ⟨rfl,rfl⟩:=h;have p1:=(((src_pur hsrc).trans (Pur.ob _ (.lenA len A))).trans (lin_pur (a:=len) (b:=m) (c:=1))).trans (fC hle);have hH2:Hold F N σ2:=⟨hH.fns,fun d m=>hH.defs d (aJ _ m),hH.obs,hH.ins⟩
       have hHn:=eT (fC hle).ext hH2;have hHo:=eT lin_pur.ext hHn;have hH1:=eT (Ext.ob _ _) hHo;obtain ⟨g3,g4,g5⟩:=src_at hsrc hx hH1 hw;have glen:len.ev N=(N.a A).length:=hHo.ob;have en:(lin len m 1 (σ1.ob (.lenA len A))).1.ev N=len.ev N+m.ev N*1:=lin_ev hHn;have gq:=fO hle hH2;rw[en,gE] at gq;unfold most at gq;have hcat:N.a σ2.na=N.a A++N.a X:=hH.defs (.a σ2.na (.cat A X)) aN;have hp:Post N E σ w N E σ2 w:=fD p1 hI hw
       have hB2:σ2.bks.get b=some B:=by have e1:σ2.bks=σ.bks:=p1.bks;have e2:σ1.bks=σ.bks:=(src_pur hsrc).bks;rw[e1,←e2];exact hB
       obtain ⟨q',s',c',arr,el,fz,k1,k2,k3,k4,k5⟩:=hp.bw.at' b B hB2;rw[hb] at k1;simp only[aA,aD] at k1;obtain ⟨e1,e2,e3⟩:=k1;subst e1 e2 e3;have:=k3 hrw;subst this;have elen:(len.ev N).toNat=(N.a A).length:=by omega
       have e2:((lin len m 1 (σ1.ob (.lenA len A))).1.ev N).toNat=(len.ev N).toNat+(m.ev N).toNat:=by rw[en];omega
       have hbn:b≠σ2.nb:=fun e=>by have:=hp.inv.freshB b (by omega);rw[hb] at this;cases this
       have getf:∀i B',((σ2.bks.erase b).set σ2.nb {n:=0,rw:=true,cells:= .nil,arr:=some (k,σ2.na,true)}).get i=some B'→(i=σ2.nb∧B'={n:=0,rw:=true,cells:= .nil,arr:=some (k,σ2.na,true)})∨(i≠σ2.nb∧i≠b∧σ2.bks.get i=some B'):=fun i B' e=>by
        rw[fA] at e;by_cases hi:i=σ2.nb;·rw [bG hi] at e;simp only[aA] at e;exact .inl ⟨hi,e.symm⟩
        ·rw [bC hi,gJ] at e;by_cases hib:i=b;·rw [bG hib] at e;cases e
         ·rw [bC hib] at e;exact .inr ⟨hi,hib,e⟩
       by_cases hroom:(len.ev N).toNat+(m.ev N).toNat≤c
       ·
        have hwid:B.wid N c=c:=by simp only[Bk.wid,hg,aH];exact Nat.max_eq_left (by omega)
        rw[hwid] at k4;obtain ⟨w',arr',r1,r2,r3,r4,r5⟩:=gG (P:=P) (o:=s0+(len.ev N).toNat) (i:=0) (vs:=intsV k (N.a X)) k2 (by simp only[intsV,bF,g4];omega) intsV_ok;simp only[intsV,bF,g4,cJ] at r4 r5;have hu:Post N E σ2 w N E {σ2 with bks:=σ2.bks.set b {n:=0,rw:=true,cells:= .nil,arr:=some (k,σ2.na,true)}} w':=by
         refine upd_post hp.bw hp.inv hB2 hrw hb k2 r2 r3 (fun j hj=>r4 j (by rw[hwid] at hj;omega)) rfl ?_ ?_ rfl rfl rfl rfl
         ·rw [hwid];simp only[Bk.wid,aH,hcat,aO];exact Nat.max_eq_left (by omega)
         ·unfold Bk.cont at k5 ⊢;rw[hg] at k5;simp only[hcat,aO];refine ⟨fun j y hj=> ?_,fun _ j j1 j2=>by rw[r4 (s0+j) (by omega)];exact k5.2 rfl j (by omega) j2⟩;rw[List.getElem?_append] at hj;by_cases hjl:j<(N.a A).length
          ·rw [bG hjl] at hj;rw[r4 (s0+j) (by omega)];exact k5.1 j y hj
          ·rw [bC hjl] at hj;have:=r5 (j-(N.a A).length) (.int k y) (by rw[bP,hj];rfl);rw[show s0+(len.ev N).toNat+(j-(N.a A).length)=s0+j by omega] at this;exact this
        have hn:Post N E {σ2 with bks:=σ2.bks.set b {n:=0,rw:=true,cells:= .nil,arr:=some (k,σ2.na,true)}} w' N (E.addB σ2.nb (q,s0,c)) (({σ2 with bks:=σ2.bks.erase b}.mkA (.cat A X)).newA k σ2.na true) w' :=
         rename_post (b:=b) (B:={n:=0,rw:=true,cells:= .nil,arr:=some (k,σ2.na,true)}) hu.inv hu.bw (by simp[fA]) hb (fun i B' e=>by
          rcases getf i B' e with h | ⟨h1,h2,h3⟩
          ·exact .inl h
          ·exact .inr ⟨h1,h2,by simp only[fA];rw[bC h2];exact h3⟩) rfl rfl rfl
        refine ⟨_,w',_,append_room (sLen:=(len.ev N).toNat) (m:=(m.ev N).toNat) ht hi (by rw[hsz];exact g5) hroom (w':=w') ?_,(hp.trans hu).trans hn,?_⟩
        ·rw [hsz,Addr.add_lit,Nat.mul_one,e00,cJ];exact r1
        ·have:=sl_mk (N:=N) (E:=E.addB σ2.nb (q,s0,c)) (b:=σ2.nb) (off:= .kst 0) (len:=(lin len m 1 (σ1.ob (.lenA len A))).1) (cap:=none) fK (bK _) (fun _=>by rw[e2,gE];simpa using hroom);simp only[one,SV.den,V1.den,this,capOf,e2,gE];simp
       ·
        have hf:Post N E σ2 w N E ({σ2 with bks:=σ2.bks.erase b}.mkA (.cat A X)) w:=forget_post hp.inv hp.bw (fun i B' e=>by
         simp only[St.mkA,gJ] at e;by_cases hib:i=b;·rw [bG hib] at e;cases e
         ·rw [bC hib] at e;exact e) rfl rfl rfl
        have hcell:∀j u,(intsV k (N.a A))[j]? =some u→w.drew.cell? ((⟨q,s0+0,none⟩:Addr).add j)=some u:=fun j u hj=>by obtain ⟨y,hy,rfl⟩:=intsV_get hj;rw[Addr.add_lit,cJ];unfold Bk.cont at k5;rw[hg] at k5;have:=k5.1 j y hy;show w.cell? ⟨q,s0+j,none⟩=_;simp[World.cell?,k2,this]
        obtain ⟨c2,w',r1,r2,r3⟩:=grow_sound (σ:={σ2 with bks:=σ2.bks.erase b}.mkA (.cat A X)) (k:=k) (ty:=ty) (base:=some ⟨q,s0+0,none⟩) (sLen:=(len.ev N).toNat) (sCap:=c) (olds:=intsV k (N.a A)) (A:=σ2.na) ht he g5
         (run_firstCells_some w.drew 1 _ _ _ _ _ (by simp[intsV];omega) hcell) (by omega) (by omega) (by rw[hcat,intsV_append]) (by rw[hcat,aO];omega) hf.inv hf.bw
        refine ⟨_,w',_,r1,(hp.trans hf).trans r3,?_⟩;have:=newA_den (N:=N) (E:=E) (b:=σ2.nb) (q:=w.heap.size) (c:=c2) (len:=(lin len m 1 (σ1.ob (.lenA len A))).1) (by rw[e2];exact r2);rw[e2] at this;exact this
      ·cases h
    ·cases h
   ·cases h
  ·cases h
 ·cases h
end
section
variable {P:Program} {F:Fns} {N:Num} {E:Env} {σ σ':St} {n:Nat} {T:Tr SV} {a:Act} {v:Option SV} {dst:Option Tmp} {type:TypeId} {pos:String} {after:Array Edge} {guard:Option (Nat×Bool)}
theorem copy_some {t tx ty e:TypeId}(ht:P.underlying t=some (.slice e))(he:sizeB P e=some 1){ad:Addr}{dLen dCap m:Nat}{x:Value}{news:List Value}{w w':World}
 (hlen:(Builtin.lenOf x).run P w= .ok m w) (hcells:(Builtin.firstCells 1 (Nat.min m dLen) x).run P w= .ok news.toArray w) (hst:(storeCells ad news 0).run P w= .ok () w') :
 (Builtin.copy_ #[t,tx] ty #[.slice (some ad) dLen dCap,x]).run P w= .ok (.int .i64 (Nat.min m dLen:Nat)) w':=by
 simp[Builtin.copy_,run_underlying ht,hlen,fQ he,hcells,hst,goInt]
theorem copy_none {t tx ty e:TypeId}(ht:P.underlying t=some (.slice e))(he:sizeB P e=some 1){dCap m:Nat}{x:Value}{news:List Value}{w:World}
 (hlen:(Builtin.lenOf x).run P w= .ok m w) (hcells:(Builtin.firstCells 1 0 x).run P w= .ok news.toArray w) :
 (Builtin.copy_ #[t,tx] ty #[.slice none 0 dCap,x]).run P w= .ok (.int .i64 0) w:=by
 have e0:Nat.min m 0=0:=Nat.min_zero m;simp[Builtin.copy_,run_underlying ht,hlen,fQ he,hcells,goInt]
theorem mnA_pur {x y:Ar}:Pur σ (mnA x y σ).2:=by
 unfold mnA
 split
 ·exact Pur.refl _
 ·generalize mnA.arB' _ _=bb;cases bb with
  | true=>exact Pur.refl _
  | false=>exact Pur.mk1 _ _
theorem mnA_ev {x y:Ar}(hH:Hold F N (mnA x y σ).2):((mnA x y σ).1.ev N).toNat=Nat.min (x.ev N).toNat (y.ev N).toNat:=by
 have key:∀p q:Int,(if q<p then q else p).toNat=Nat.min p.toNat q.toNat:=fun p q=>by
  have:Nat.min p.toNat q.toNat=if p.toNat≤q.toNat then p.toNat else q.toNat:=by
   by_cases h:p.toNat≤q.toNat;·rw [bG h];exact Nat.min_eq_left h
   ·rw [bC h];exact Nat.min_eq_right (by omega)
  rw[this]
  split <;> split <;> omega
 have gen:∀ {x y:Ar},Hold F N (bif mnA.arB' x y then (x,σ) else (.var σ.nx,σ.mk1 (.mn x y))).2→((bif mnA.arB' x y then (x,σ) else (Ar.var σ.nx,σ.mk1 (.mn x y))).1.ev N).toNat=Nat.min (x.ev N).toNat (y.ev N).toNat:=fun {x y} hH=>by
  cases hb:mnA.arB' x y with
  | true =>
   simp only[aH];have:x=y:=by cases x <;> cases y <;> simp only[mnA.arB',bV] at hb;rw[aF hb]
   subst this;exact (Nat.min_self _).symm
  | false =>rw[hb] at hH;have:N.i σ.nx=_:=hH.mk1;simp only[aQ,Ar.ev,this,Nd.ev];exact key _ _
 cases x <;> cases y
 case kst.kst p q=>exact key p q
 all_goals exact gen hH
theorem copyS_ext {k:IntKind}{tx:TypeId}{d x sv:SV}(h:copyS P k tx d x σ=some (sv,σ')):Ext σ σ':=by
 unfold copyS at h;split at h
 ·split at h
  ·rename_i r hr;simp only[aA] at h;subst h;split at hr
   ·split at hr
    ·split at hr
     ·split at hr
      ·split at hr
       ·rename_i hl;split at hr
        ·rename_i hs;simp only[aA,aD] at hr;rw[←hr.2];exact (loadN_pur hl).ext.trans (storeL_ext hs)
        ·cases hr
       ·cases hr
      ·cases hr
     ·cases hr
    ·cases hr
   ·cases hr
  ·split at h
   ·split at h
    ·rename_i hr;split at h
     ·rename_i hw;simp only[aL] at hw;obtain ⟨σ1,h1,h2⟩:=hw;simp only[aA,aD] at h;rw[←h.2];exact ((mnA_pur.trans (rng_pur hr)).trans (fC h1)).ext.trans (wrt_ext h2)
     ·cases h
    ·cases h
   ·simp only[aA,aD] at h;rw[←h.2];exact Ext.refl _
   ·simp only[aA,aD] at h;rw[←h.2];exact Ext.refl _
   ·split at h
    ·cases hk:kindB k .u8 with
     | false=>rw[hk] at h;cases h
     | true =>
      rw[hk] at h;simp only[aH] at h;split at h
      ·rename_i hs;simp only[aA,aD] at h;rw[←h.2];exact storeL_ext hs
      ·cases h
    ·cases h
   ·cases h
 ·split at h;·simp only[aA,aD] at h;rw[←h.2];exact Ext.refl _
  ·cases h
 ·cases h
theorem strCells_den:∀(l:List UInt8),denL N E (l.map fun b=>Sc.kst (.int .u8 b.toNat))=some (l.map fun b=> .int .u8 b.toNat)
 | []=>rfl
 | b::l=>by simp only[aI];exact denL_cons.2 ⟨_,_,rfl,strCells_den l,rfl⟩
theorem arV_den {k:IntKind}{x:Ar}:(one (arV k x)).den N E=some (.int k (x.ev N)):=by
 cases x <;> rfl
set_option maxHeartbeats 2000000 in
theorem copyS_sound {k:IntKind}{t tx ty e:TypeId}{d x sv:SV}{ud ux:Value}{w:World}(h:copyS P k tx d x σ=some (sv,σ'))(ht:P.underlying t=some (.slice e))(he:elemK P e=some k)
 (hd:d.den N E=some ud) (hx:x.den N E=some ux) (hH:Hold F N σ') (hI:Inv E σ) (hw:BW N E σ.bks w) :
 ∃w' u,(Builtin.copy_ #[t,tx] ty #[ud,ux]).run P w= .ok u w'∧Post N E σ w N E σ' w'∧sv.den N E=some u:=by
 have hsz:=elemK_size he;unfold copyS at h;split at h
 ·rename_i b off len cap;have hd':(Sc.sl b off len cap).den N E=some ud:=hd;obtain ⟨q,s,c,mm,hb,h0,rfl,hmm,hcc⟩:=gC hd';split at h
  ·rename_i r hr;simp only[aA] at h;subst h;split at hr
   ·rename_i b' o' l' cap' e' o hu;split at hr
    ·rename_i l;split at hr
     ·split at hr
      ·split at hr
       ·rename_i vs σ1 hl;split at hr
        ·rename_i σ2 hs;simp only[aA,aD] at hr;obtain ⟨rfl,rfl⟩:=hr;have hx':(Sc.sl b' (.kst (.ofNat o')) (.kst (.ofNat l')) cap').den N E=some ux:=hx;obtain ⟨q',s',c',mm',hb',_,rfl,_⟩:=gC hx';have eo:((Ar.kst (Int.ofNat o)).ev N).toNat=o:=rfl;have eo':((Ar.kst (Int.ofNat o')).ev N).toNat=o':=rfl;have el:((Ar.kst (Int.ofNat l)).ev N).toNat=l:=rfl;have el':((Ar.kst (Int.ofNat l')).ev N).toNat=l':=rfl;rw[eo,el,eo',el']
         have hH1:=eT (storeL_ext hs) hH;obtain ⟨us,g1,g2,g3⟩:=loadN_at hl hH1 hw hb';have hp:Post N E σ w N E σ1 w:=fD (loadN_pur hl) hI hw;obtain ⟨w',r1,r2⟩:=storeL_sound (P:=P) (base:=o) (i:=0) hb hs hH g1 rfl hp.bw hp.inv;refine ⟨w',_,copy_some ht hsz (m:=l') (news:=us) rfl (run_firstCells_some w 1 _ _ _ _ us (by rw[g2];simp) (fun j u hj=>by rw[Addr.add_lit];exact g3 j u hj)) r1,hp.trans r2,rfl⟩
        ·cases hr
       ·cases hr
      ·cases hr
     ·cases hr
    ·cases hr
   ·cases hr
  ·split at h
   ·rename_i b' off' len' cap' e' hu _;have hx':(Sc.sl b' off' len' cap').den N E=some ux:=hx;obtain ⟨q',s',c',mm',hb',h0',rfl,_⟩:=gC hx';split at h
    ·rename_i X σ1 hr;split at h
     ·rename_i σ3 hwr;simp only[aL] at hwr;obtain ⟨σ2,hl,hwr⟩:=hwr;simp only[aA,aD] at h;obtain ⟨rfl,rfl⟩:=h;have hH2:=eT (wrt_ext hwr) hH;have hH1:=eT (fC hl).ext hH2;have hHm:=eT (rng_pur hr).ext hH1;have em:=mnA_ev hHm;have hpm:Post N E σ w N E (mnA len' len σ).2 w:=fD mnA_pur hI hw;obtain ⟨q2,s2,c2,k1,k2,k3,k4,k5⟩:=rng_at hr hH1 hpm.bw;rw[hb'] at k1;simp only[aA,aD] at k1;obtain ⟨rfl,rfl,rfl⟩:=k1;have hp:Post N E σ w N E σ2 w:=fD ((mnA_pur.trans (rng_pur hr)).trans (fC hl)) hI hw
      obtain ⟨w',r1,r2⟩:=wrt_sound (P:=P) hwr hb hH hp.bw hp.inv k4;refine ⟨w',_,copy_some ht hsz (m:=(len'.ev N).toNat) (news:=intsV k (N.a X)) rfl (run_firstCells_some w 1 _ _ _ _ _ (by simp[intsV,k4,em]) (fun j u hj=>by obtain ⟨y,hy,rfl⟩:=intsV_get hj;rw[Addr.add_lit];exact k5 j y hy)) r1,hp.trans r2,?_⟩
      rw[arV_den,←em,Int.toNat_of_nonneg k3]
     ·cases h
    ·cases h
   ·rename_i c0 e' hu _;simp only[aA,aD] at h;obtain ⟨rfl,rfl⟩:=h;have:=kst_den hx;subst this;have e0:Nat.min 0 (len.ev N).toNat=0:=Nat.zero_min _;refine ⟨w,_,copy_some ht hsz (m:=0) (news:=[]) (w':=w) rfl (by rw[e0];exact run_firstCells_none w 1 0 0 c0) rfl,Post.refl hI hw,?_⟩;rw[e0];rfl
   ·rename_i j e' hu _;simp only[aA,aD] at h;obtain ⟨rfl,rfl⟩:=h;have hx':(Sc.emp j).den N E=some ux:=hx;simp only[Sc.den] at hx';have e0:Nat.min 0 (len.ev N).toNat=0:=Nat.zero_min _;split at hx'
    ·rename_i aa cc _;simp only[aA] at hx';subst hx';have hfc:(Builtin.firstCells 1 0 (.slice aa 0 cc)).run P w= .ok #[] w:=by
      cases aa with
      | none=>exact run_firstCells_none w 1 0 0 cc
      | some ad=>exact run_firstCells_some w 1 0 ad 0 cc [] rfl (fun j u hj=>by simp at hj)
     refine ⟨w,_,copy_some ht hsz (m:=0) (news:=[]) (w':=w) rfl (by rw[e0];exact hfc) rfl,Post.refl hI hw,?_⟩;rw[e0];rfl
    ·cases hx'
   ·rename_i s hu _;have:=kst_den hx;subst this;split at h
    ·rename_i o l _;cases hk:kindB k .u8 with
     | false=>rw[hk] at h;cases h
     | true =>
      have:=fT hk;subst this;rw[hk] at h;simp only[aH] at h;split at h
      ·rename_i σ1 hs;simp only[aA,aD] at h;obtain ⟨rfl,rfl⟩:=h;have eo:((Ar.kst (Int.ofNat o)).ev N).toNat=o:=rfl;have el:((Ar.kst (Int.ofNat l)).ev N).toNat=l:=rfl;rw[eo,el];obtain ⟨w',r1,r2⟩:=storeL_sound (P:=P) (base:=o) (i:=0) hb hs hH (strCells_den (N:=N) (E:=E) _) rfl hw hI;refine ⟨w',_,copy_some ht hsz (m:=s.size) rfl ?_ r1,r2,rfl⟩;simp[Builtin.firstCells];apply Array.ext';simp
      ·cases h
    ·cases h
   ·cases h
 ·rename_i dc;have:=kst_den hd;subst this;split at h
  ·rename_i b' off' len' cap' e' hu;simp only[aA,aD] at h;obtain ⟨rfl,rfl⟩:=h;have hx':(Sc.sl b' off' len' cap').den N E=some ux:=hx;obtain ⟨q',s',c',mm',hb',h0',rfl,_⟩:=gC hx';exact ⟨w,_,copy_none ht hsz (news:=[]) rfl (run_firstCells_some w 1 0 _ _ _ [] rfl (fun j u hj=>by simp at hj)),Post.refl hI hw,rfl⟩
  ·cases h
 ·cases h
theorem makeSlice_run {t e:TypeId}{k k1 k2:IntKind}(ht:P.underlying t=some (.slice e))(he:elemK P e=some k){l c:Int}(h0:0≤l)(h1:l≤c)(h2:c≤1099511627776)(w:World) :
 ∃arr0:Array Value,(Instr.makeSlice t (.int k1 l) (.int k2 c)).run P w= .ok (.slice (some ⟨w.heap.size,0,none⟩) l.toNat c.toNat) {w with heap:=w.heap.push (.cells arr0 e)}∧arr0.size=c.toNat∧∀j,j<c.toNat→arr0[j]? =some (.int k 0):=by
 obtain ⟨_,i,hi,hsz,hby,hz⟩:=elemK_spec he;have hwl:IntKind.i64.wrap l=l:=by simp[IntKind.wrap,IntKind.signed,IntKind.bits];omega
 have hwc:IntKind.i64.wrap c=c:=by simp[IntKind.wrap,IntKind.signed,IntKind.bits];omega
 have hb1:(i.bytes:Int)*c≤8*1099511627776:=Int.mul_le_mul (by omega) h2 (by omega) (by omega);have hb2:c.toNat*i.bytes≤1099511627776*8:=Nat.mul_le_mul (by omega) hby;have hn1:¬(c<0):=by omega
 have hn2:¬(281474976710656<(i.bytes:Int)*c):=by omega
 have hn3:¬(l<0):=by omega
 have hn4:¬(c<l):=by omega
 have hn5:¬(roomBytes<c.toNat*i.bytes):=by
  have:roomBytes=140737488355328:=by decide
  rw[this];omega
 by_cases hc0:c.toNat=0
 ·refine ⟨Array.map (fun _=>default) (Array.range 0),?_,by simp[hc0],fun j hj=>by omega⟩;simp[Instr.makeSlice,run_underlying ht,typeInfo,hi,asInt,asIntOf,hwl,hwc,hn1,hn2,hn3,hn4,askRoom,sizeOf,hc0,newRow]
 ·refine ⟨(Array.range c.toNat).map fun x=>(#[Value.int k 0])[x%1]!,?_,by simp,fun j hj=>by simp[hj,Nat.mod_one]⟩;simp[Instr.makeSlice,run_underlying ht,typeInfo,hi,asInt,asIntOf,hwl,hwc,hn1,hn2,hn3,hn4,askRoom,sizeOf,hsz,hc0,newRow,zeroValue,hz,Value.cells]
end
section
variable {P:Program} {F:Fns} {N:Num} {E:Env} {σ σ':St} {n:Nat} {T:Tr SV} {a:Act} {v:Option SV} {dst:Option Tmp} {type:TypeId} {pos:String} {after:Array Edge} {guard:Option (Nat×Bool)}
theorem strA_pur {x:Sc}{A:Nat}(h:strA x σ=some (A,σ')):Pur σ σ':=by
 unfold strA at h;split at h;·simp only[aA,aD] at h;rw[←h.2];exact Pur.refl _
 ·simp only[aA,aD] at h;rw[←h.2];exact Pur.mkA _ _
 ·cases h
theorem strA_at {x:Sc}{A:Nat}{u:Value}(h:strA x σ=some (A,σ'))(hx:x.den N E=some u)(hH:Hold F N σ'):u= .string ⟨(bytesOf (N.a A)).toArray⟩:=by
 unfold strA at h;split at h
 ·simp only[aA,aD] at h;obtain ⟨rfl,rfl⟩:=h;simp only[Sc.den,aA] at hx;exact hx.symm
 ·rename_i s;simp only[aA,aD] at h;obtain ⟨rfl,rfl⟩:=h;have hX:N.a σ.na=_:=hH.mkA;simp only[Sc.den] at hx;have:u= .string s:=(kst_cell hx).1;rw[this,hX];congr 1;simp only[Ad.ev,bytesL,bytesOf,cZ];have e:(s.data.toList.map ((fun v:Int=>UInt8.ofNat v.toNat)∘(fun x:Ar=>x.ev N)∘fun b:UInt8=>Ar.kst b.toNat))=s.data.toList:=by
   conv=>rhs;rw[←List.map_id s.data.toList]
   apply cW;intro b _;simp[Ar.ev]
  rw[e]
 ·cases h
theorem strOp_pur {op:BinOp}{A B:Nat}{x:Sc}(h:strOp op A B σ=some (x,σ')):Pur σ σ':=by
 unfold strOp at h;split at h;·simp only[aA,aD] at h;rw[←h.2];exact Pur.mk1 _ _
 ·simp only[aA,aD] at h;rw[←h.2];exact (Pur.mk1 _ _).trans (Pur.mk1 _ _)
 ·simp only[aA,aD] at h;rw[←h.2];exact ((((Pur.mk1 _ _).trans (Pur.mk1 _ _)).trans (Pur.ob _ _)).trans (Pur.ob _ _)).trans (Pur.mkA _ _)
 ·cases h
theorem bytesOf_append {l m:List Int}:bytesOf (l++m)=bytesOf l++bytesOf m:=by simp[bytesOf]
theorem strOp_sound {op:BinOp}{A B:Nat}{x:Sc}{xt:TypeId}(h:strOp op A B σ=some (x,σ'))(hH:Hold F N σ') :
 ∃u,x.den N E=some u∧∀xo yo w,((do eqGuard op xt xo yo (.string ⟨(bytesOf (N.a A)).toArray⟩) (.string ⟨(bytesOf (N.a B)).toArray⟩);binOp op xt (.string ⟨(bytesOf (N.a A)).toArray⟩) (.string ⟨(bytesOf (N.a B)).toArray⟩):Sem Value)).run P w= .ok u w:=by
 unfold strOp at h;split at h
 ·simp only[aA,aD] at h;obtain ⟨rfl,rfl⟩:=h;have h1:N.i σ.nx=_:=hH.mk1;refine ⟨.bool (bytesOf (N.a A)==bytesOf (N.a B)),?_,fun xo yo w=> ?_⟩
  ·simp only[Sc.den,h1,Nd.ev];cases bytesOf (N.a A)==bytesOf (N.a B) <;> rfl
  ·rw [eqGuard_at_string];simp[binOp,Op.stringOp]
 ·simp only[aA,aD] at h;obtain ⟨rfl,rfl⟩:=h;have h2:N.i (σ.nx+1)=_:=hH.mk1;have h1:N.i σ.nx=_:=(eT (Ext.mk1 _ _) hH).mk1;refine ⟨.bool (!(bytesOf (N.a A)==bytesOf (N.a B))),?_,fun xo yo w=> ?_⟩
  ·simp only[Sc.den,h2,Nd.ev,icmp,Ar.ev,h1];cases bytesOf (N.a A)==bytesOf (N.a B) <;> rfl
  ·rw [eqGuard_at_string];simp[binOp,Op.stringOp]
 ·simp only[aA,aD] at h;obtain ⟨rfl,rfl⟩:=h;have h5:N.a σ.na=_:=hH.mkA;have hH4:=eT (Ext.mkA _ _) hH;have o2:=hH4.ob;have hH3:=eT (Ext.ob _ _) hH4;have o1:=hH3.ob;have hH2:=eT (Ext.ob _ _) hH3;have n2:N.i (σ.nx+1)=_:=hH2.mk1;have n1:N.i σ.nx=_:=(eT (Ext.mk1 _ _) hH2).mk1;simp only[Ob.holds,Ar.ev,n1,n2,Nd.ev,most] at o1 o2;refine ⟨_,rfl,fun xo yo w=> ?_⟩;rw[eqGuard_at_string];have hsz:¬(((ByteArray.mk (bytesOf (N.a A)).toArray).size+(ByteArray.mk (bytesOf (N.a B)).toArray).size:Nat):Int)>IntKind.i64.max:=by
   have e1:(ByteArray.mk (bytesOf (N.a A)).toArray).size=(N.a A).length:=by show (bytesOf (N.a A)).toArray.size=_;simp[bytesOf]
   have e2:(ByteArray.mk (bytesOf (N.a B)).toArray).size=(N.a B).length:=by show (bytesOf (N.a B)).toArray.size=_;simp[bytesOf]
   have e3:IntKind.i64.max=9223372036854775807:=by decide
   rw[e1,e2,e3];omega
  have happ:(ByteArray.mk (bytesOf (N.a A)).toArray)++(ByteArray.mk (bytesOf (N.a B)).toArray)=⟨(bytesOf (N.a σ.na)).toArray⟩:=by rw[h5];simp only[Ad.ev,bytesOf_append];apply ByteArray.ext;simp
  simp only[binOp,Op.stringOp,bH,bY,aY];rw[bC hsz,happ];rfl
 ·cases h
theorem strOfNums_eq (l:List Int):strOfNums l=⟨(bytesOf l).toArray⟩:=by
 simp[strOfNums,bytesOf]
theorem run_to_string {src d e:TypeId}{_k0:IntKind}{q o m cap:Nat}{l:List Int}{w:World}(hs:P.underlying src=some (.slice e))(he:P.underlying e=some (.int .u8))(hd:P.underlying d=some .string)
 (hl:l.length=m) (hc:∀j v,l[j]? =some v→w.cell? ⟨q,o+j,none⟩=some (.int .u8 v)):(convert src d (.slice (some ⟨q,o,none⟩) m cap)).run P w= .ok (.string ⟨(bytesOf l).toArray⟩) w:=by
 rw[←strOfNums_eq];refine run_convert_bytes_arg w src e hs he q o m cap l hl (fun i hi=> ?_) d hd;have:l[i]? =some (l.getD i 0):=by rw[aE,aU (by omega)];rfl
 exact hc i _ this
end
end Go.Sy
