/- The symbolic executor's operations are sound: those that leave memory alone, joined; what they do to the state. -/
import Derived.ChangeKeysEq
import Derived.Test.YtnfikgagkamioaaGreatDoorSy4
namespace Go.Sy
section
variable {P:Program} {F:Fns} {N:Num}
def QuietC (P:Program)(N:Num)(E:Env)(_σ:St)(o:Oper)(a:Act)(v:Option SV)(σ':St)(C:World→Prop):Prop :=
 ∃E' sv u,v=some sv∧Inv E' σ'∧E.le E'∧E'.blk=E.blk∧sv.den N E'=some u∧∀w,C w→(execOp a.eval o).run P w= .ok (.value u) w
def Quiet (P:Program)(N:Num)(E:Env)(σ:St)(o:Oper)(a:Act)(v:Option SV)(σ':St):Prop:=QuietC P N E σ o a v σ' (BW N E σ.bks)
theorem QuietC.quiet {E:Env}{σ σ':St}{o:Oper}{a:Act}{v:Option SV}(h:QuietC P N E σ o a v σ' (fun _=>True)):Quiet P N E σ o a v σ':=by
 obtain ⟨E',sv,u,h1,h2,h3,h4,h5,h6⟩:=h;exact ⟨E',sv,u,h1,h2,h3,h4,h5,fun w _=>h6 w trivial⟩
structure QX (σ σ':St):Prop where
 ext:Ext σ σ'
 bks:σ'.bks=σ.bks
 nb:σ'.nb=σ.nb
theorem Pur.qx {σ σ':St}(h:Pur σ σ'):QX σ σ':=⟨h.ext,h.bks,h.nb⟩
theorem QX.trans {a b c:St}(h:QX a b)(k:QX b c):QX a c:=⟨h.ext.trans k.ext,k.bks.trans h.bks,k.nb.trans h.nb⟩
theorem Inv.pur {E:Env}{σ σ':St}(h:Inv E σ)(p:Pur σ σ'):Inv E σ':=⟨fun b hb=>h.freshB b (by rw[←p.nb];exact hb),fun j hj=>h.freshV j (by rw[←p.nv];exact hj),fun t sv e=>h.glob t sv (by rw[←p.ext.gl];exact e)⟩
theorem gN {E:Env}{σ σ':St}{o:Oper}{a:Act}{C:World→Prop}(hI:Inv E σ)(hp:Pur σ σ'){sv:SV}{u:Value}(hd:sv.den N E=some u)
 (hr:∀w,C w→(execOp a.eval o).run P w= .ok (.value u) w):QuietC P N E σ o a (some sv) σ' C :=
 ⟨E,sv,u,rfl,hI.pur hp,E.le_refl,rfl,hd,hr⟩
theorem agg_den {E:Env}{l:List Sc}{u:Value}(h:(SV.one (.agg l)).den N E=some u):∃vs,denL N E l=some vs∧u= .agg vs.toArray:=by
 simp only[SV.den,V1.den,aV] at h;obtain ⟨vs,h1,rfl⟩:=h;exact ⟨vs,h1,rfl⟩
theorem kst_den {E:Env}{v u:Value}(h:(SV.one (.sc (.kst v))).den N E=some u):u=v:=(kst_cell h).1
theorem slDone_pur {b:Nat}{off' l h:Ar}{cap:Option Ar}{σ:St}:Pur σ (slDone b off' l h cap σ).2:=by
 cases cap with
 | some c=>exact lin_pur.trans lin_pur
 | none=>exact lin_pur
theorem ask_pur {σ σ':St}{t:Bool}(h:σ.ask=some (t,σ')):Pur σ σ':=by
 unfold St.ask at h;split at h;·simp only[aA,aD] at h;rw[←h.2];exact ⟨⟨fun _ m=>m,fun _ m=>m,rfl,rfl,aS _⟩,rfl,rfl,rfl⟩
 ·cases h
theorem slStrict_pur {l m:Ar}{σ σ':St}{t:Bool}(h:slStrict l m σ=some (t,σ')):Pur σ σ':=by
 unfold slStrict at h;split at h;·simp only[aA,aD] at h;rw[←h.2];exact Pur.refl _
 ·exact ask_pur h
theorem Ext.nv1 (σ:St):QX σ {σ with nv:=σ.nv+1}:=⟨⟨fun _ m=>m,fun _ m=>m,rfl,rfl,Nat.le_succ _⟩,rfl,rfl⟩
theorem doSlice_qx {b:Nat}{off len:Ar}{cap lo hi:Option Ar}{sz:Nat}{σ σ':St}{v:Sc}(h:doSlice b off len cap lo hi sz σ=some (v,σ')):QX σ σ':=by
 unfold doSlice at h;split at h;·cases h
 ·rename_i σ1 h1;simp only[aL] at h1;obtain ⟨σa,ha,σb,hb,hc⟩:=h1;have p1:Pur σ σ1:=((fC ha).trans (fC hb)).trans (fC hc);cases hz:isZ (lo.getD (.kst 0)) with
  | true =>rw[hz] at h;simp only[aH,aA] at h;have e:_=σ':=congrArg Prod.snd h;rw[←e];exact (p1.trans slDone_pur).qx
  | false =>
   rw[hz] at h;simp only[aQ] at h;split at h
   ·rename_i σ2 h2;split at h
    ·rename_i σ3 h3;simp only[aA] at h;have e:_=σ':=congrArg Prod.snd h;rw[←e];have h3:σ2.lt (lo.getD (.kst 0)) (cap.getD len)=some σ3:=by
      cases hs:capSz cap sz <;> rw[hs] at h3;·cases h3
      ·exact h3
     exact (p1.trans ((slStrict_pur h2).trans ((lt_pur h3).trans (lin_pur.trans slDone_pur)))).qx
    ·cases h
   ·rename_i σ2 h2;split at h
    ·rename_i σ3 h3;simp only[aA,aD] at h;rw[←h.2];exact (p1.trans ((slStrict_pur h2).trans (eq_pur h3))).qx.trans (Ext.nv1 _)
    ·cases h
   ·cases h
def Env.addV (E:Env)(j:Nat)(u:Value):Env:={E with val:=fun i=>bif Nat.beq i j then some u else E.val i}
theorem Env.addV_le {E:Env}{σ:St}(h:Inv E σ)(u:Value):E.le (E.addV σ.nv u):=⟨fun _ _ h=>h,fun j v e=>by
 have:j≠σ.nv:=fun e'=>by rw[e',h.freshV σ.nv (aS _)] at e;cases e
 simp only[Env.addV,fH this,aQ];exact e⟩
theorem Env.addV_self {E:Env}{j:Nat}{u:Value}:(E.addV j u).val j=some u:=by simp only[Env.addV,fY rfl,aH]
theorem Env.addV_inv {E:Env}{σ:St}(h:Inv E σ)(u:Value):Inv (E.addV σ.nv u) {σ with nv:=σ.nv+1}:=⟨h.freshB,fun j hj=>by
 have:j≠σ.nv:=fun e=>by simp only at hj;omega
 simp only[Env.addV,fH this,aQ];exact h.freshV j (by simp only at hj;omega),h.glob⟩
def sliceVal (q p l h m sz:Nat):Value:= .slice (some ⟨q,if m=l then p else p+l*sz,none⟩) (h-l) (m-l)
theorem slDone_den {E:Env}{σ:St}{b q s c sz:Nat}{off off' len l h:Ar}{cap:Option Ar}(hH:Hold F N (slDone b off' l h cap σ).2)(hb:E.blk b=some (q,s,c))(h0:0≤off.ev N)
 (hc:cap=none→(off.ev N).toNat+(len.ev N).toNat≤c) (h1:0≤l.ev N) (h2:l.ev N≤h.ev N) (h3:h.ev N≤(cap.getD len).ev N)
 (ho:off'.ev N=off.ev N+l.ev N*sz) (hs:cap=none→l.ev N=0∨sz=1) (hm:l.ev N=0∨capOf N off cap c≠(l.ev N).toNat) :
 (slDone b off' l h cap σ).1.den N E=some (sliceVal q (s+(off.ev N).toNat) (l.ev N).toNat (h.ev N).toNat (capOf N off cap c) sz):=by
 have hls:(0:Int)≤l.ev N*sz:=Int.mul_nonneg h1 (cR sz);have ho0:0≤off'.ev N:=by omega
 have ho1:(off'.ev N).toNat=(off.ev N).toNat+(l.ev N).toNat*sz:=by
  have:((l.ev N).toNat*sz:Nat)=((l.ev N*sz).toNat:Nat):=by
   have e:l.ev N=((l.ev N).toNat:Int):=by omega
   generalize (l.ev N).toNat=k at e ⊢;rw[e];have:((k:Int)*(sz:Int))=((k*sz:Nat):Int):=by simp
   rw[this,bD]
  rw[this,ho];omega
 have place:(if capOf N off cap c=(l.ev N).toNat then s+(off.ev N).toNat else s+(off.ev N).toNat+(l.ev N).toNat*sz)=s+(off'.ev N).toNat:=by
  rcases hm with hm | hm
  ·have:(l.ev N).toNat=0:=by omega
   rw[ho1,this];simp
  ·rw [bC hm,ho1];omega
 unfold sliceVal;rw[place];cases cap with
 | some cp =>have e1:(lin h l (-1) σ).1.ev N=h.ev N+l.ev N*(-1):=lin_ev (eT lin_pur.ext hH);have e2:=lin_ev (N:=N) (a:=cp) (b:=l) (c:= -1) hH;simp only[slDone];rw[sl_mk hb ho0 (fun e=>by cases e)];simp only[dZ] at h3;simp only[capOf,e1,e2,aA,Value.slice.injEq,true_and];omega
 | none =>
  have e1:(lin h l (-1) σ).1.ev N=h.ev N+l.ev N*(-1):=lin_ev hH;simp only[slDone];have hc:=hc rfl;simp only[Option.getD_none] at h3;have hlz:(l.ev N).toNat*sz=(l.ev N).toNat:=by
   rcases hs rfl with h | h
   ·have:(l.ev N).toNat=0:=by omega
    rw[this];simp
   ·rw [h];simp
  rw[sl_mk hb ho0 (fun _=>by rw[e1];omega)];simp only[capOf,e1,aA,Value.slice.injEq,true_and];omega
theorem isZ_ev {l:Ar}(h:isZ l=true):l.ev N=0:=by
 unfold isZ at h;split at h;·rfl
 ·cases h
theorem doSlice_sound {E:Env}{σ σ':St}{b q s c sz:Nat}{off len:Ar}{cap lo hi:Option Ar}{v:Sc}(h:doSlice b off len cap lo hi sz σ=some (v,σ'))(hH:Hold F N σ')(hI:Inv E σ)
 (hb:E.blk b=some (q,s,c)) (h0:0≤off.ev N) (hc:cap=none→(off.ev N).toNat+(len.ev N).toNat≤c) :
 0≤(lo.getD (.kst 0)).ev N∧(lo.getD (.kst 0)).ev N≤(hi.getD len).ev N∧(hi.getD len).ev N≤capOf N off cap c ∧
 ∃E',Inv E' σ'∧E.le E'∧E'.blk=E.blk∧v.den N E'=some (sliceVal q (s+(off.ev N).toNat) ((lo.getD (.kst 0)).ev N).toNat ((hi.getD len).ev N).toNat (capOf N off cap c) sz):=by
 have hq:=doSlice_qx h;unfold doSlice at h;split at h;·cases h
 ·rename_i σ1 h1;simp only[aL] at h1;obtain ⟨σa,ha,σb,hbb,hcc⟩:=h1;have fin:Hold F N σ1→0≤(lo.getD (.kst 0)).ev N∧(lo.getD (.kst 0)).ev N≤(hi.getD len).ev N∧(hi.getD len).ev N≤(cap.getD len).ev N:=fun hH1=>by
   have hHb:=eT (fC hcc).ext hH1;have hHa:=eT (fC hbb).ext hHb;exact ⟨fO ha hHa,fO hbb hHb,fO hcc hH1⟩
  have hmc:0≤(lo.getD (.kst 0)).ev N→(lo.getD (.kst 0)).ev N≤(hi.getD len).ev N→∀x:Int,x≤(cap.getD len).ev N→x≤capOf N off cap c:=fun g1 g2 x g3=>by
   cases cap with
   | some cp=>simp only[capOf,dZ] at g3 ⊢;omega
   | none=>have:=hc rfl;simp only[capOf,Option.getD_none] at g3 ⊢;omega
  cases hz:isZ (lo.getD (.kst 0)) with
  | true =>
   rw[hz] at h;simp only[aH,aA] at h;have ev:_=v:=congrArg Prod.fst h;have eσ:_=σ':=congrArg Prod.snd h;rw[←eσ] at hH hq;obtain ⟨g1,g2,g3⟩:=fin (eT slDone_pur.ext hH);refine ⟨g1,g2,hmc g1 g2 _ g3,E,?_,E.le_refl,rfl,?_⟩;·rw [←eσ];exact hI.pur (((fC ha).trans (fC hbb)).trans ((fC hcc).trans slDone_pur))
   ·rw [←ev];have hz':=isZ_ev (N:=N) hz;exact slDone_den hH hb h0 hc g1 g2 g3 (by rw[hz'];simp) (fun _=> .inl hz') (.inl hz')
  | false =>
   rw[hz] at h;simp only[aQ] at h;split at h
   ·rename_i σ2 h2;split at h
    ·rename_i σ3 h3';have hcs:(cap=none→(lo.getD (.kst 0)).ev N=0∨sz=1)∧σ2.lt (lo.getD (.kst 0)) (cap.getD len)=some σ3:=by
      cases hs:capSz cap sz <;> rw[hs] at h3';·cases h3'
      ·exact ⟨fun e=>by subst e;exact .inr (aF hs),h3'⟩
     obtain ⟨hcs,h3⟩:=hcs;simp only[aA] at h;have ev:_=v:=congrArg Prod.fst h;have eσ:_=σ':=congrArg Prod.snd h;rw[←eσ] at hH;have hHl:=eT slDone_pur.ext hH;have hH3:=eT lin_pur.ext hHl;have hH1:=eT ((slStrict_pur h2).trans (lt_pur h3)).ext hH3;obtain ⟨g1,g2,g3⟩:=fin hH1;have hlt:=lt_holds h3 hH3;refine ⟨g1,g2,hmc g1 g2 _ g3,E,?_,E.le_refl,rfl,?_⟩;·rw [←eσ];exact hI.pur (((fC ha).trans (fC hbb)).trans ((fC hcc).trans ((slStrict_pur h2).trans ((lt_pur h3).trans (lin_pur.trans slDone_pur)))))
     ·rw [←ev];have hle:=hmc g1 g2 ((lo.getD (.kst 0)).ev N+1) (by omega);exact slDone_den hH hb h0 hc g1 g2 g3 (lin_ev hHl) hcs (.inr (by omega))
    ·cases h
   ·rename_i σ2 h2;split at h
    ·rename_i σ3 h3;simp only[aA,aD] at h;obtain ⟨rfl,rfl⟩:=h;have hH3:Hold F N σ3:=⟨hH.fns,hH.defs,hH.obs,hH.ins⟩
     have hH1:=eT ((slStrict_pur h2).trans (eq_pur h3)).ext hH3;obtain ⟨g1,g2,g3⟩:=fin hH1;have he:=eq_holds h3 hH3;have hI3:Inv E σ3:=hI.pur (((fC ha).trans (fC hbb)).trans ((fC hcc).trans ((slStrict_pur h2).trans (eq_pur h3))));refine ⟨g1,g2,hmc g1 g2 _ g3,E.addV σ3.nv (sliceVal q (s+(off.ev N).toNat) ((lo.getD (.kst 0)).ev N).toNat ((hi.getD len).ev N).toNat (capOf N off cap c) sz),Env.addV_inv hI3 _,Env.addV_le hI3 _,rfl,?_⟩
     rw[show sliceVal q (s+(off.ev N).toNat) ((lo.getD (.kst 0)).ev N).toNat ((hi.getD len).ev N).toNat (capOf N off cap c) sz =
      .slice (some ⟨q,if capOf N off cap c=((lo.getD (.kst 0)).ev N).toNat then s+(off.ev N).toNat else s+(off.ev N).toNat+((lo.getD (.kst 0)).ev N).toNat*sz,none⟩) 0 (capOf N off cap c-((lo.getD (.kst 0)).ev N).toNat) by unfold sliceVal;rw[show ((hi.getD len).ev N).toNat-((lo.getD (.kst 0)).ev N).toNat=0 by omega]]
     generalize (if capOf N off cap c=((lo.getD (.kst 0)).ev N).toNat then s+(off.ev N).toNat else s+(off.ev N).toNat+((lo.getD (.kst 0)).ev N).toNat*sz)=p;simp only[Sc.den,Env.addV_self]
    ·cases h
   ·cases h
end
section
variable {P:Program} {F:Fns} {N:Num}
variable {E:Env} {σ σ':St} {n:Nat} {T:Tr SV} {a:Act} {v:Option SV} {dst:Option Tmp} {type:TypeId} {pos:String} {after:Array Edge} {guard:Option (Nat×Bool)}
theorem gE (n:Int):(Ar.kst n).ev N=n:=rfl
theorem fJ {o:Oper}{C:World→Prop}(hI:Inv E σ){sv:SV}{u:Value}(h:some (some sv,σ)=some (v,σ'))(hd:sv.den N E=some u)
 (hr:∀w,C w→(execOp a.eval o).run P w= .ok (.value u) w):QuietC P N E σ o a v σ' C:=by
 simp only[aA,aD] at h;obtain ⟨rfl,rfl⟩:=h;exact gN hI (Pur.refl _) hd hr
theorem q_move {x:Operand}(h:op1 P T σ (.move x)=some (v,σ'))(hA:RA N E n T a)(hI:Inv E σ):QuietC P N E σ ⟨dst,.move x,type,pos,after,guard⟩ a v σ' (fun _=>True):=by
 simp only[op1] at h;split at h
 ·rename_i sv hsv;exact fJ hI h (eW hA hsv) fun w _=>rfl
 ·cases h
theorem q_assign {x:Operand}(h:op1 P T σ (.assign x)=some (v,σ'))(hA:RA N E n T a)(hI:Inv E σ):QuietC P N E σ ⟨dst,.assign x,type,pos,after,guard⟩ a v σ' (fun _=>True):=by
 simp only[op1] at h;split at h
 ·rename_i sv hsv;exact fJ hI h (eW hA hsv) fun w _=>rfl
 ·cases h
theorem q_pick {c x y:Operand}(h:op1 P T σ (.pick c x y)=some (v,σ'))(hA:RA N E n T a)(hI:Inv E σ):QuietC P N E σ ⟨dst,.pick c x y,type,pos,after,guard⟩ a v σ' (fun _=>True):=by
 simp only[op1] at h;split at h
 ·rename_i t ht;have e:=kst_den (eW hA ht);split at h
  ·rename_i sv hsv;refine fJ hI h (eW hA hsv) fun w _=> ?_
   cases t <;> simp[execOp,e,asBool]
  ·cases h
 ·cases h
theorem q_load {t:TypeId}{x:Operand}(h:op1 P T σ (.load t x)=some (v,σ'))(hA:RA N E n T a)(hI:Inv E σ)(hH:Hold F N σ'){w0:World}(hw0:BW N E σ.bks w0) :
 Quiet P N E σ ⟨dst,.load t x,type,pos,after,guard⟩ a v σ':=by
 simp only[op1] at h;split at h
 ·rename_i b off hx ha;obtain ⟨q,s,c,hb,h0,e⟩:=ptr_den (eW hA hx);split at h
  ·rename_i m hm;split at h
   ·rename_i l σ1 hl;simp only[aA,aD] at h;obtain ⟨rfl,rfl⟩:=h;obtain ⟨vs,h1,h2,_⟩:=loadN_at hl hH hw0 hb;refine gN hI (loadN_pur hl) (u:= .agg vs.toArray) (by simp[SV.den,V1.den,h1]) fun w hw=> ?_
    obtain ⟨vs',h1',h2',h3'⟩:=loadN_at hl hH hw hb;rw[h1] at h1';simp only[aA] at h1';subst h1';have e0:((Ar.kst (Int.ofNat off)).ev N).toNat=off:=rfl;rw[e0] at e;simp[execOp,Instr.loadAt,e,Instr.sureAddr,run_loadVar_agg h3' ha hm h2]
   ·cases h
  ·cases h
 ·rename_i b off hx ha;obtain ⟨q,s,c,hb,h0,e⟩:=ptr_den (eW hA hx);split at h
  ·rename_i y σ1 hy;simp only[aA,aD] at h;obtain ⟨rfl,rfl⟩:=h;obtain ⟨q',s',c',u,h1,hu,_⟩:=load1_at hy hH hw0;refine gN hI (load1_pur hy) (u:=u) hu fun w hw=> ?_
   obtain ⟨q',s',c',u',h1',hu',hc⟩:=load1_at hy hH hw;rw[hb] at h1';simp only[aA,aD] at h1';obtain ⟨rfl,rfl,rfl⟩:=h1';rw[hu] at hu';simp only[aA] at hu';subst hu';simp[execOp,Instr.loadAt,e,Instr.sureAddr,run_loadVar_one ha hc]
  ·cases h
 ·rename_i p hx ha;have e:=kst_den (eW hA hx);split at h
  ·rename_i hs;refine fJ hI h (u:= .agg #[]) (by simp[SV.den,V1.den,denL]) fun w hw=> ?_
   simp[execOp,Instr.loadAt,e,Instr.sureAddr,run_loadVar_none ha hs]
  ·cases h
 ·cases h
theorem q_nilCheck {x:Operand}(h:op1 P T σ (.nilCheck x)=some (v,σ'))(hA:RA N E n T a)(hI:Inv E σ):QuietC P N E σ ⟨dst,.nilCheck x,type,pos,after,guard⟩ a v σ' (fun _=>True):=by
 simp only[op1] at h;split at h
 ·rename_i b off hx;have hd:=eW hA hx;obtain ⟨q,s,c,hb,h0,e⟩:=ptr_den hd;exact fJ hI h hd fun w _=>by simp[execOp,e]
 ·rename_i p hx;have hd:=eW hA hx;have e:=kst_den hd;exact fJ hI h hd fun w _=>by simp[execOp,e]
 ·rename_i t b off hx;have hd:=eW hA hx;obtain ⟨q,_,e⟩:=aL.1 (show (Sc.ifp t b off).den N E=some (a.eval x) from hd);split at e
  ·simp only[aA] at e;exact fJ hI h hd fun w _=>by simp[execOp,←e]
  ·cases e
 ·rename_i f l hx;have hd:=eW hA hx;obtain ⟨q,_,e⟩:=aV.1 (show (Sc.clo f l).den N E=some (a.eval x) from hd);exact fJ hI h hd fun w _=>by simp[execOp,←e]
 ·rename_i f l1 l2 hx;have hd:=eW hA hx;have e:=kst_den hd;exact fJ hI h hd fun w _=>by simp[execOp,e]
 ·cases h
theorem arsL_den {k:IntKind}:∀ {l:List Sc} {az:List Ar} {vs:List Value},arsL k l=some az→denL N E l=some vs→vs=az.map fun a=> .int k (a.ev N)
 | [],az,vs,h,hd=>by simp only[arsL,aA] at h;subst h;simp only[denL,aA] at hd;subst hd;rfl
 | x::l,az,vs,h,hd=>by
  obtain ⟨v,r,hv,hr,rfl⟩:=denL_cons.1 hd;simp only[arsL] at h;split at h
  ·rename_i k' a' ha;cases hk:kindB k k' with
   | false=>rw[hk] at h;cases h
   | true =>have:=fT hk;subst this;rw[hk] at h;simp only[aH,aV] at h;obtain ⟨as',has,rfl⟩:=h;rw[arsL_den has hr,gV ha hv];rfl
  ·cases h
theorem run_eqItems_int {d:Nat}{e:TypeId}{k:IntKind}(he:P.underlying e=some (.int k)){xs ys:List Int}{w:World}:∀ {is:List Nat},(∀ i∈is,i<xs.length∧i<ys.length) →
 (Op.eqItems (d+1) e 1 (xs.map (Value.int k)).toArray (ys.map (Value.int k)).toArray is).run P w= .ok (is.all fun i=>xs.getD i 0==ys.getD i 0) w
 | [],_=>by simp[Op.eqItems]
 | i::is,h=>by
  have hi:=h i aN;have ih:=run_eqItems_int (d:=d) (w:=w) he fun j hj=>h j (aJ _ hj)
  have ha:isAggB P e=some false:=by simp[isAggB,he]
  simp only[Op.eqItems,bH,part,run_isAgg ha,aY,Nat.mul_one];simp only[List.getElem?_toArray,bP,aU hi.1,aU hi.2,Option.map_some,bY,aY,bV,if_false,Op.equalIn,bH,run_underlying he,if_true];have e1:xs.getD i 0=xs[i]:=by rw[aE,aU hi.1];rfl
  have e2:ys.getD i 0=ys[i]:=by rw[aE,aU hi.2];rfl
  simp only[List.all_cons,e1,e2];cases hb:xs[i]==ys[i] with
  | false=>simp
  | true=>simpa using ih
theorem all_getD {xs ys:List Int}{n:Nat}(hx:xs.length=n)(hy:ys.length=n):((List.range n).all fun i=>xs.getD i 0==ys.getD i 0)=decide (xs=ys):=by
 rw[Bool.eq_iff_iff,bT,dL];refine ⟨fun h=>List.ext_getElem (by omega) fun i h1 h2=> ?_,fun h i _=>by rw[h];exact beq_self_eq_true _⟩;have:=h i (cE.2 (by omega));rw[beq_iff_eq,aE,aE,aU h1,aU h2] at this;exact this
theorem aggEq_pur {op:BinOp}{xt:TypeId}{l m:List Sc}{x:Sc}{σ':St}(h:aggEq P op xt l m σ=some (x,σ')):Pur σ σ':=by
 unfold aggEq at h;split at h
 ·split at h
  ·split at h
   ·rename_i az bs _ _;generalize (Nat.beq az.length _&&Nat.beq bs.length _&& !_)=bb at h;cases bb with
    | false=>cases h
    | true =>simp only[aH,aA,aD] at h;rw[←h.2];exact ((Pur.mkA _ _).trans (Pur.mkA _ _)).trans (Pur.mk1 _ _)
   ·cases h
  ·cases h
 ·cases h
theorem aggEq_sound {op:BinOp}{xt:TypeId}{l m:List Sc}{x:Sc}{σ':St}{us vs:List Value}(h:aggEq P op xt l m σ=some (x,σ'))(hl:denL N E l=some us)(hm:denL N E m=some vs)(hH:Hold F N σ') :
 ∃r,x.den N E=some r∧∀xo yo w,((do eqGuard op xt xo yo (.agg us.toArray) (.agg vs.toArray);binOp op xt (.agg us.toArray) (.agg vs.toArray):Sem Value)).run P w= .ok r w:=by
 unfold aggEq at h;split at h
 ·rename_i n e ht;split at h
  ·rename_i k he hsz;split at h
   ·rename_i az bs has hbs;cases hb:(Nat.beq az.length n&&Nat.beq bs.length n&& !(P.eqGuardType P.depth xt)) with
    | false=>rw[hb] at h;cases h
    | true =>
     rw[hb] at h;simp only[aG,Bool.not_eq_true'] at hb;obtain ⟨⟨h1,h2⟩,h3⟩:=hb;have h1:=aF h1;have h2:=aF h2;simp only[aH,aA,aD] at h;obtain ⟨rfl,rfl⟩:=h;have e1:=arsL_den has hl;have e2:=arsL_den hbs hm;have hx:N.i σ.nx=(Nd.leq σ.na (σ.na+1)).ev N:=hH.mk1;have hB:N.a (σ.na+1)=(Ad.lit bs).ev N:=(eT (Ext.mk1 _ _) hH).mkA;have hA:N.a σ.na=(Ad.lit az).ev N:=(eT (Ext.mkA _ _) (eT (Ext.mk1 _ _) hH)).mkA;simp only[Ad.ev] at hA hB
     refine ⟨.bool (decide (az.map (·.ev N)=bs.map (·.ev N))),?_,fun xo yo w=> ?_⟩
     ·simp only[Sc.den,hx,Nd.ev,hA,hB];cases decide (az.map (·.ev N)=bs.map (·.ev N)) <;> rfl
     ·have hi:∃i,P.info? e=some i∧i.size=1:=by
       unfold sizeB at hsz;simpa using hsz
      obtain ⟨i,hi,hi1⟩:=hi;have hc:P.cellsOf e=1:=by simp[Program.cellsOf,hi,hi1]
      have hg:(eqGuard .eql xt xo yo (.agg us.toArray) (.agg vs.toArray)).run P w= .ok () w:=by simp[eqGuard,run_program,h3]
      have hq:(Op.equalIn 10000 xt (.agg us.toArray) (.agg vs.toArray)).run P w= .ok (decide (az.map (·.ev N)=bs.map (·.ev N))) w:=by
       rw[run_equalIn_array w 9999 us.toArray vs.toArray ht hi,hc,e1,e2,←all_getD (xs:=az.map (·.ev N)) (ys:=bs.map (·.ev N)) (n:=n) (by simpa using h1) (by simpa using h2)];have:=run_eqItems_int (d:=9998) (w:=w) he (xs:=az.map (·.ev N)) (ys:=bs.map (·.ev N)) (is:=List.range n) (fun i hi=>by have:=cE.1 hi;simp only[bF];omega)
       simpa [cZ,Function.comp_def] using this
      simp only[bH,hg,aY,binOp,Op.equal,Op.maxDepth,hq,bY]
   ·cases h
  ·cases h
 ·cases h
theorem nilEq_sound {op:BinOp}{xt:TypeId}{x:Sc}{y:Operand}{b:Bool}{u:Value}(h:nilEq P op xt x y=some b)(hx:x.den N E=some u)(xo:Operand)(w:World) :
 y= .const .nilIface∧((do eqGuard op xt xo y u .nilIface;binOp op xt u .nilIface:Sem Value)).run P w= .ok (.bool b) w:=by
 unfold nilEq at h;have ifp:∀ {t b off},(Sc.ifp t b off).den N E=some u→∃a,u= .iface t a:=fun {t b off} e=>by
  simp only[Sc.den,aL] at e;obtain ⟨q,_,e⟩:=e;split at e;·simp only[aA] at e;exact ⟨_,e.symm⟩
  ·cases e
 have nni:∀ {j},(Sc.nni j).den N E=some u→∃t a,u= .iface t a:=fun {j} e=>by
  simp only[Sc.den] at e;split at e;·simp only[aA] at e;exact ⟨_,_,e.symm⟩
  ·cases e
 have nl:(Sc.kst .nilIface).den N E=some u→u= .nilIface:=fun e=>by simp only[Sc.den] at e;exact (kst_cell e).1
 have q1:∀ {ms} (_:P.underlying xt=some (.interface ms)) (d:Nat),(Op.equalIn (d+1) xt .nilIface .nilIface).run P w= .ok true w:=fun ht d=>by simp[Op.equalIn,run_underlying ht]
 have q2:∀ {ms} (_:P.underlying xt=some (.interface ms)) (d:Nat) (t:TypeId) (a:Value),(Op.equalIn (d+1) xt (.iface t a) .nilIface).run P w= .ok false w:=fun ht d t a=>by simp[Op.equalIn,run_underlying ht]
 have g1:∀(op:BinOp),(eqGuard op xt xo (.const .nilIface) .nilIface .nilIface).run P w= .ok () w:=fun op=>by cases op <;> simp[eqGuard]
 have g2:∀(op:BinOp) (t:TypeId) (a:Value),(eqGuard op xt xo (.const .nilIface) (.iface t a) .nilIface).run P w= .ok () w:=fun op t a=>by cases op <;> simp[eqGuard]
 split at h
 ·rename_i ms ht;simp only[aA] at h;subst h;obtain rfl:=nl hx;exact ⟨rfl,by simp only[bH,g1,aY,binOp,Op.equal,Op.maxDepth,q1 ht 9999,bY,Bool.not_true]⟩
 ·rename_i ms _ _ _ ht;simp only[aA] at h;subst h;obtain ⟨a,rfl⟩:=ifp hx;exact ⟨rfl,by simp only[bH,g2,aY,binOp,Op.equal,Op.maxDepth,q2 ht 9999,bY,Bool.not_false]⟩
 ·rename_i ms _ ht;simp only[aA] at h;subst h;obtain ⟨t,a,rfl⟩:=nni hx;exact ⟨rfl,by simp only[bH,g2,aY,binOp,Op.equal,Op.maxDepth,q2 ht 9999,bY,Bool.not_false]⟩
 ·rename_i ms ht;simp only[aA] at h;subst h;obtain rfl:=nl hx;exact ⟨rfl,by simp only[bH,g1,aY,binOp,Op.equal,Op.maxDepth,q1 ht 9999,bY]⟩
 ·rename_i ms _ _ _ ht;simp only[aA] at h;subst h;obtain ⟨a,rfl⟩:=ifp hx;exact ⟨rfl,by simp only[bH,g2,aY,binOp,Op.equal,Op.maxDepth,q2 ht 9999,bY]⟩
 ·rename_i ms _ ht;simp only[aA] at h;subst h;obtain ⟨t,a,rfl⟩:=nni hx;exact ⟨rfl,by simp only[bH,g2,aY,binOp,Op.equal,Op.maxDepth,q2 ht 9999,bY]⟩
 ·cases h
theorem q_binOp {op:BinOp}{xt yt:TypeId}{x y:Operand}(h:op1 P T σ (.binOp op xt x y yt)=some (v,σ'))(hA:RA N E n T a)(hI:Inv E σ)(hH:Hold F N σ') :
 QuietC P N E σ ⟨dst,.binOp op xt x y yt,type,pos,after,guard⟩ a v σ' (fun _=>True):=by
 simp only[op1] at h;split at h
 ·rename_i x' y' hx hy;split at h
  ·rename_i r σ1 hr;simp only[aA,aD] at h;obtain ⟨rfl,rfl⟩:=h;obtain ⟨u,hd,hrun⟩:=doBin_sound hr (eW hA hx) (eW hA hy) hH;exact gN hI (doBin_pur hr) hd fun w _=>by have:=hrun x y w;simp only[bH] at this;simp only[execOp,bH,this,aY,bY]
  ·split at h
   ·rename_i b hb;have hd:=eW hA hx;exact fJ hI h (u:= .bool b) rfl fun w _=>by obtain ⟨rfl,this⟩:=nilEq_sound hb hd x w;simp only[bH] at this;simp only[execOp,bH,show a.eval (Operand.const .nilIface)= .nilIface from rfl,this,aY,bY]
   ·cases h
 ·rename_i l m hx hy;obtain ⟨us,hus,e1⟩:=agg_den (eW hA hx);obtain ⟨vs,hvs,e2⟩:=agg_den (eW hA hy);split at h
  ·rename_i r σ1 hr;simp only[aA,aD] at h;obtain ⟨rfl,rfl⟩:=h;obtain ⟨u,hd,hrun⟩:=aggEq_sound hr hus hvs hH;exact gN hI (aggEq_pur hr) hd fun w _=>by have:=hrun x y w;simp only[bH] at this;simp only[execOp,bH,e1,e2,this,aY,bY]
  ·cases h
 ·cases h
theorem q_unOp {op:UnOp}{xt:TypeId}{x:Operand}(h:op1 P T σ (.unOp op xt x)=some (v,σ'))(hA:RA N E n T a)(hI:Inv E σ)(hH:Hold F N σ') :
 QuietC P N E σ ⟨dst,.unOp op xt x,type,pos,after,guard⟩ a v σ' (fun _=>True):=by
 simp only[op1] at h;split at h
 ·rename_i x' hx;split at h
  ·rename_i r σ1 hr;simp only[aA,aD] at h;obtain ⟨rfl,rfl⟩:=h;obtain ⟨u,hd,hrun⟩:=doUn_sound P hr (eW hA hx) hH;exact gN hI (doUn_pur hr) hd fun w _=>by simp only[execOp,bH,hrun,aY,bY]
  ·cases h
 ·cases h
theorem q_convert {s d:TypeId}{x:Operand}(h:op1 P T σ (.convert s d x)=some (v,σ'))(hA:RA N E n T a)(hI:Inv E σ)(hH:Hold F N σ') :
 QuietC P N E σ ⟨dst,.convert s d x,type,pos,after,guard⟩ a v σ' (fun _=>True):=by
 simp only[op1] at h;split at h
 ·rename_i x' td k hx hs hd';split at h
  ·rename_i r σ1 hr;simp only[aA,aD] at h;obtain ⟨rfl,rfl⟩:=h;obtain ⟨u,hd,hrun⟩:=doConv_sound hr (eW hA hx) hs hd' hH;exact gN hI (doConv_pur hr) hd fun w _=>by simp only[execOp,bH,hrun,aY,bY]
  ·cases h
 ·cases h
theorem q_arrayPtr {t:TypeId}{x:Operand}(h:op1 P T σ (.sliceToArrayPointer t x)=some (v,σ'))(hA:RA N E n T a)(hI:Inv E σ)(hH:Hold F N σ') :
 QuietC P N E σ ⟨dst,.sliceToArrayPointer t x,type,pos,after,guard⟩ a v σ' (fun _=>True):=by
 simp only[op1] at h;split at h
 ·rename_i b off len cap m el hx ht;obtain ⟨q,s,c,cc,hb,h0,e,_⟩:=gC (eW hA hx);split at h
  ·rename_i σ1 h1;simp only[aA,aD] at h;obtain ⟨rfl,rfl⟩:=h;have hle:=fO h1 hH;simp only[gE] at hle;have:¬(len.ev N).toNat<m:=by omega
   exact gN hI (fC h1) (ptr_mk hb h0) fun w _=>by simp[execOp,Instr.arrayAt,e,run_underlying ht,this]
  ·cases h
 ·cases h
theorem addr_at {q o l sz:Nat}:(⟨q,o,none⟩:Addr).add (l*sz)=⟨q,o+l*sz,none⟩:=Addr.add_lit _ _ _
theorem q_slice {t:TypeId}{x:Operand}{lo hi mx:Option Operand}(h:op1 P T σ (.slice t x lo hi mx)=some (v,σ'))(hA:RA N E n T a)(hI:Inv E σ)(hH:Hold F N σ') :
 QuietC P N E σ ⟨dst,.slice t x lo hi mx,type,pos,after,guard⟩ a v σ' (fun _=>True):=by
 simp only[op1] at h;split at h
 ·rename_i b off l' h' m el hx hlo hhi ht;obtain ⟨q,s,c,hb,h0,e⟩:=ptr_den (eW hA hx);split at h
  ·rename_i sz hsz;split at h
   ·rename_i y σ1 hr;simp only[aA,aD] at h;obtain ⟨rfl,rfl⟩:=h;obtain ⟨g1,g2,g3,E',g4,g5,g6,g7⟩:=doSlice_sound hr hH hI hb h0 (fun e=>by cases e);refine ⟨E',_,_,rfl,g4,g5,g6,g7,fun w _=> ?_⟩;have ecap:capOf N off (some (.kst m)) c=m:=by simp[capOf,Ar.ev]
    rw[ecap] at g3 ⊢;have elen:((Ar.kst (m:Int)).ev N).toNat=m:=by simp[Ar.ev]
    have rb:=run_sliceBounds (P:=P) (isS:=false) (len:= .kst m) (cap:=m) (optAr_rel hA hlo) (optAr_rel hA hhi) g1 g2 g3 w;rw[elen] at rb;simp only[execOp,Instr.sliceAt,e,bH,run_underlying ht,aY,Instr.sureAddr,bY,Option.map_none,
     rb,fQ hsz,sliceVal]
    by_cases hc:m=((l'.getD (.kst 0)).ev N).toNat;·rw [bG hc,bG hc]
    ·rw [bC hc,bC hc,addr_at]
   ·cases h
  ·cases h
 ·rename_i b off len cap l' h' el hx hlo hhi ht;obtain ⟨q,s,c,m,hb,h0,e,hm,hc0⟩:=gC (eW hA hx);split at h
  ·rename_i sz hsz;split at h
   ·rename_i y σ1 hr;simp only[aA,aD] at h;obtain ⟨rfl,rfl⟩:=h;obtain ⟨g1,g2,g3,E',g4,g5,g6,g7⟩:=doSlice_sound hr hH hI hb h0 hc0;refine ⟨E',_,_,rfl,g4,g5,g6,g7,fun w _=> ?_⟩;rw[←hm] at g3 ⊢;have rb:=run_sliceBounds (P:=P) (isS:=true) (len:=len) (cap:=m) (optAr_rel hA hlo) (optAr_rel hA hhi) g1 g2 g3 w;simp only[execOp,Instr.sliceAt,Instr.slice,e,bH,run_underlying ht,aY,bY,Option.map_none,
     rb,fQ hsz,sliceVal]
    by_cases hc:m=((l'.getD (.kst 0)).ev N).toNat;·rw [bG hc,bG hc]
    ·rw [bC hc,bC hc];simp only[Option.map_some,addr_at]
   ·cases h
  ·cases h
 ·rename_i s l' h' hx hlo hhi ht;have e:=kst_den (eW hA hx);split at h
  ·rename_i r hr;have hr2:0≤(l'.getD (.kst 0)).ev N∧(l'.getD (.kst 0)).ev N≤(h'.getD (.kst (Int.ofNat s.size))).ev N∧(h'.getD (.kst (Int.ofNat s.size))).ev N≤s.size ∧
    r=s.extract ((l'.getD (.kst 0)).ev N).toNat ((h'.getD (.kst (Int.ofNat s.size))).ev N).toNat:=by
    unfold strSlice at hr;split at hr
    ·rename_i lc hc e1 e2;cases hb:(Nat.ble lc hc&&Nat.ble hc s.size) with
     | false=>rw[hb] at hr;cases hr
     | true =>rw[hb] at hr;simp only[aH,aA] at hr;simp only[aG] at hb;have b1:=aM hb.1;have b2:=aM hb.2;rw[e1,e2];exact ⟨cR _,Int.ofNat_le.2 b1,Int.ofNat_le.2 b2,hr.symm⟩
    ·cases hr
   obtain ⟨g1,g2,g3,rfl⟩:=hr2;refine fJ hI h (u:= .string _) rfl fun w _=> ?_
   have rb:=run_sliceBounds (P:=P) (isS:=false) (len:= .kst (Int.ofNat s.size)) (cap:=s.size) (optAr_rel hA hlo) (optAr_rel hA hhi) g1 g2 g3 w;have elen:((Ar.kst (Int.ofNat s.size)).ev N).toNat=s.size:=rfl;rw[elen] at rb;simp only[execOp,Instr.sliceAt,Instr.slice,e,bH,run_underlying ht,aY,bY,Option.map_none,rb,Option.isSome_none,bV,if_false]
  ·cases h
 ·rename_i l' h' el hx hlo hhi ht;have e:=kst_den (eW hA hx);split at h
  ·rename_i sz hsz;split at h
   ·rename_i σ1 hr;simp only[aA,aD] at h;obtain ⟨rfl,rfl⟩:=h;simp only[aL] at hr;obtain ⟨σa,r1,σb,r2,r3⟩:=hr;have hHb:=eT (fC r3).ext hH;have g1:=fO r1 (eT (fC r2).ext hHb);have g2:=fO r2 hHb;have g3:=fO r3 hH;rw[gE] at g1 g3;refine gN hI (((fC r1).trans (fC r2)).trans (fC r3)) (u:= .slice none 0 0) rfl fun w _=> ?_
    have rb:=run_sliceBounds (P:=P) (isS:=true) (len:= .kst 0) (cap:=0) (optAr_rel hA hlo) (optAr_rel hA hhi) g1 g2 g3 w;have el0:((Ar.kst 0).ev N).toNat=0:=rfl;rw[el0] at rb;have h1:((l'.getD (.kst 0)).ev N).toNat=0:=by omega
    have h2:((h'.getD (.kst 0)).ev N).toNat=0:=by omega
    simp only[execOp,Instr.sliceAt,Instr.slice,e,bH,run_underlying ht,aY,bY,Option.map_none,rb,fQ hsz,h1,h2,Nat.sub_zero,if_true]
   ·cases h
  ·cases h
 ·rename_i j l' h' el hx hlo hhi ht;split at h
  ·rename_i sz hsz;cases hz:(isZ (l'.getD (.kst 0))&&isZ (h'.getD (.kst 0))) with
   | false=>rw[hz] at h;cases h
   | true =>
    rw[hz] at h;simp only[aH,aA,aD] at h;obtain ⟨rfl,rfl⟩:=h;simp only[aG] at hz;have z1:=isZ_ev (N:=N) hz.1;have z2:=isZ_ev (N:=N) hz.2;have hd:=eW hA hx;simp only[SV.den,V1.den,Sc.den] at hd;split at hd
    ·rename_i ad c hj;simp only[aA] at hd;refine fJ (sv:=one (.emp j)) hI rfl (u:= .slice ad 0 c) (by simp only[one,SV.den,V1.den,Sc.den,hj]) fun w _=> ?_
     have rb:=run_sliceBounds (P:=P) (isS:=true) (len:= .kst 0) (cap:=c) (optAr_rel hA hlo) (optAr_rel hA hhi) (by rw[z1];exact bK _) (by rw[z1,z2];exact bK _) (by rw[z2];exact cR _) w;have el0:((Ar.kst 0).ev N).toNat=0:=rfl;rw[el0,z1,z2] at rb;simp only[execOp,Instr.sliceAt,Instr.slice,←hd,bH,run_underlying ht,aY,bY,Option.map_none,rb,fQ hsz,Int.toNat_zero,Nat.sub_zero,Nat.zero_mul];by_cases hc:c=0;·rw [bG hc]
     ·rw [bC hc];cases ad with
      | none=>rfl
      | some ad=>simp only[Option.map_some,Addr.add_zero']
    ·cases hd
  ·cases h
 ·cases h
theorem q_fieldAddr {s:TypeId}{x:Operand}{f:Nat}(h:op1 P T σ (.fieldAddr s x f)=some (v,σ'))(hA:RA N E n T a)(hI:Inv E σ)(hH:Hold F N σ') :
 QuietC P N E σ ⟨dst,.fieldAddr s x f,type,pos,after,guard⟩ a v σ' (fun _=>True):=by
 simp only[op1] at h;split at h
 ·rename_i b off fields hx ht;obtain ⟨q,o,c,hb,h0,e⟩:=ptr_den (eW hA hx);split at h
  ·rename_i fd hf;split at h
   ·rename_i m hm;cases hz:Nat.beq m 0 with
    | true=>rw[hz] at h;cases h
    | false =>
     rw[hz] at h;have hn0:m≠0:=fun e=>by rw[fY e] at hz;cases hz
     simp only[aQ,aA,aD] at h;obtain ⟨rfl,rfl⟩:=h;have hev:(lin off (.kst fd.offset) 1 σ).1.ev N=off.ev N+fd.offset*1:=lin_ev hH;refine gN hI lin_pur (u:= .pointer (some ⟨q,o+(off.ev N).toNat+fd.offset,none⟩)) ?_ fun w _=> ?_
     ·have:=ptr_mk (N:=N) (off:=(lin off (.kst fd.offset) 1 σ).1) hb (by omega);simp only[one,SV.den,V1.den,this];rw[hev,show (off.ev N+fd.offset*1).toNat=(off.ev N).toNat+fd.offset by omega,dD]
     ·simp [execOp,Instr.fieldAt,e,run_underlying ht,hf,Instr.sureAddr,run_fieldPlace hm hn0,dD]
   ·cases h
  ·cases h
 ·cases h
theorem q_field {s:TypeId}{x:Operand}{f:Nat}(h:op1 P T σ (.field s x f)=some (v,σ'))(hA:RA N E n T a)(hI:Inv E σ) :
 QuietC P N E σ ⟨dst,.field s x f,type,pos,after,guard⟩ a v σ' (fun _=>True):=by
 simp only[op1] at h;split at h
 ·rename_i l fields hx ht;obtain ⟨vs,hvs,e⟩:=agg_den (eW hA hx);split at h
  ·rename_i fd hf;split at h
   ·rename_i y hy;obtain ⟨u,hu,hrun⟩:=partS_run hy hvs;refine fJ hI h (u:=u) hu fun w _=> ?_
    simp[execOp,Instr.field,e,run_underlying ht,hf,asAgg,hrun]
   ·cases h
  ·cases h
 ·cases h
theorem int_in {i n:Nat}(h:i<n):(0:Int)≤((i:Nat):Int)∧((i:Nat):Int)<(n:Int):=⟨cR i,by omega⟩
theorem mul_toNat {i:Int}(h:0≤i)(sz:Nat):0≤i*sz∧(i*(sz:Int)).toNat=i.toNat*sz:=by
 obtain ⟨k,rfl⟩:=aZ h;have:((k:Int)*(sz:Int))=((k*sz:Nat):Int):=by simp
 rw[this,bD,bD];exact ⟨cR _,rfl⟩
theorem q_indexAddr {t:TypeId}{x ix:Operand}(h:op1 P T σ (.indexAddr t x ix)=some (v,σ'))(hA:RA N E n T a)(hI:Inv E σ)(hH:Hold F N σ') :
 QuietC P N E σ ⟨dst,.indexAddr t x ix,type,pos,after,guard⟩ a v σ' (fun _=>True):=by
 simp only[op1] at h;split at h
 ·rename_i b off i m el hx hi ht;obtain ⟨q,o,c,hb,h0,e⟩:=ptr_den (eW hA hx);split at h
  ·rename_i k j sz hj hsz;have hk:=gV hj (eW hA hi);split at h
   ·rename_i σ1 h1;simp only[aA,aD] at h;obtain ⟨rfl,rfl⟩:=h;simp only[aL] at h1;obtain ⟨σ2,h1,h2⟩:=h1;have hH1:=eT lin_pur.ext hH;have e1:=fO h1 (eT (lt_pur h2).ext hH1);have e2:=lt_holds h2 hH1;simp only[gE] at e1 e2;have hev:(lin off j sz σ1).1.ev N=off.ev N+j.ev N*sz:=lin_ev hH;obtain ⟨m1,m2⟩:=mul_toNat e1 sz;refine gN hI (((fC h1).trans (lt_pur h2)).trans lin_pur) (u:= .pointer (some ⟨q,o+(off.ev N).toNat+(j.ev N).toNat*sz,none⟩)) ?_ fun w _=> ?_
    ·have:=ptr_mk (N:=N) (off:=(lin off j sz σ1).1) hb (by omega);simp only[one,SV.den,V1.den,this];rw[hev,show (off.ev N+j.ev N*sz).toNat=(off.ev N).toNat+(j.ev N).toNat*sz by omega,dD]
    ·simp only[execOp,Instr.indexAt,e,hk,asIntOf,bH,bY,aY,run_underlying ht,Instr.sureAddr];rw[bG ⟨e1,e2⟩];simp[fQ hsz,Addr.add_lit,dD]
   ·cases h
  ·cases h
 ·rename_i b off len cap i el hx hi ht;obtain ⟨q,o,c,mm,hb,h0,e,_⟩:=gC (eW hA hx);split at h
  ·rename_i k j sz hj hsz;have hk:=gV hj (eW hA hi);split at h
   ·rename_i σ1 h1;simp only[aA,aD] at h;obtain ⟨rfl,rfl⟩:=h;simp only[aL] at h1;obtain ⟨σ2,h1,h2⟩:=h1;have hH1:=eT lin_pur.ext hH;have e1:=fO h1 (eT (lt_pur h2).ext hH1);have e2:=lt_holds h2 hH1;simp only[gE] at e1 e2;have hev:(lin off j sz σ1).1.ev N=off.ev N+j.ev N*sz:=lin_ev hH;obtain ⟨m1,m2⟩:=mul_toNat e1 sz;refine gN hI (((fC h1).trans (lt_pur h2)).trans lin_pur) (u:= .pointer (some ⟨q,o+(off.ev N).toNat+(j.ev N).toNat*sz,none⟩)) ?_ fun w _=> ?_
    ·have:=ptr_mk (N:=N) (off:=(lin off j sz σ1).1) hb (by omega);simp only[one,SV.den,V1.den,this];rw[hev,show (off.ev N+j.ev N*sz).toNat=(off.ev N).toNat+(j.ev N).toNat*sz by omega,dD]
    ·simp only[execOp,Instr.indexAt,e,hk,asIntOf,bH,bY,aY,run_underlying ht,Instr.sureAddr];rw[bG ⟨e1,by omega⟩];simp[fQ hsz,Addr.add_lit,dD]
   ·cases h
  ·cases h
 ·cases h
theorem q_index {t:TypeId}{x ix:Operand}(h:op1 P T σ (.index t x ix)=some (v,σ'))(hA:RA N E n T a)(hI:Inv E σ)(hH:Hold F N σ') :
 QuietC P N E σ ⟨dst,.index t x ix,type,pos,after,guard⟩ a v σ' (fun _=>True):=by
 simp only[op1] at h;split at h
 ·rename_i l i m el hx hi ht;obtain ⟨vs,hvs,e⟩:=agg_den (eW hA hx);split at h
  ·rename_i k j sz hj hsz;have hk:=gV hj (eW hA hi);cases hlt:Nat.blt j m with
   | false=>rw[hlt] at h;cases h
   | true =>
    rw[hlt] at h;have hlt':=int_in (bX.mp hlt);simp only[aH] at h;split at h
    ·rename_i y hy;obtain ⟨u,hu,hrun⟩:=partS_run hy hvs;refine fJ hI h (u:=u) hu fun w _=> ?_
     simp only[execOp,Instr.index,e,hk,asIntOf,bH,bY,aY,run_underlying ht];rw[bG (by simpa [Ar.ev] using hlt')];simp[fQ hsz,hrun,Ar.ev]
    ·cases h
  ·rename_i k j hne hsz hj;have hk:=gV hsz (eW hA hi);split at h
   ·rename_i ke ha hu;split at h
    ·rename_i az has;cases hlen:Nat.beq az.length m with
     | false=>rw[hlen] at h;cases h
     | true =>
      rw[hlen] at h;simp only[aH] at h;split at h
      ·rename_i σ1 h1;simp only[aA,aD] at h;obtain ⟨rfl,rfl⟩:=h;simp only[aL] at h1;obtain ⟨σ2,h1,h2⟩:=h1;have hH1:=eT (Ext.mk1 _ _) hH;have e1:=fO h1 (eT (lt_pur h2).ext hH1);have e2:=lt_holds h2 hH1;simp only[gE] at e1 e2;have hl:=aF hlen;have hn:N.i σ1.nx=(Nd.sel az j).ev N:=hH.mk1;have hvs':=arsL_den has hvs;refine gN hI (((fC h1).trans (lt_pur h2)).trans (Pur.mk1 _ _)) (u:= .int ke (N.i σ1.nx)) rfl fun w _=> ?_
       simp only[execOp,Instr.index,e,hk,asIntOf,bH,bY,aY,run_underlying ht];rw[bG (by exact ⟨e1,e2⟩)];have hlt:(j.ev N).toNat<az.length:=by omega
       rw[hn];simp only[bH,fQ hj,aY,part,run_isAgg ha,Nat.mul_one,hvs',Nd.ev];simp[hlt]
      ·cases h
    ·cases h
   ·cases h
  ·cases h
 ·rename_i s i hx hi ht;have e:=kst_den (eW hA hx);split at h
  ·rename_i k j hj;have hk:=gV hj (eW hA hi);split at h
   ·rename_i c hc;refine fJ hI h (u:= .int .u8 c.toNat) (by simp[one,SV.den,V1.den,Sc.den,cellOk]) fun w _=> ?_
    simp only[execOp,Instr.index,e,hk,asIntOf,bH,bY,aY,run_underlying ht];have hg:s[j]? =some c:=by
     obtain ⟨hlt,hget⟩:=List.getElem?_eq_some_iff.1 hc;have:j<s.size:=by simpa using hlt
     rw[getElem?_pos s j this];congr 1
    simp[hg,Ar.ev]
   ·cases h
  ·cases h
 ·cases h
theorem q_extract {x:Operand}{i:Nat}(h:op1 P T σ (.extract x i)=some (v,σ'))(hA:RA N E n T a)(hI:Inv E σ) :
 QuietC P N E σ ⟨dst,.extract x i,type,pos,after,guard⟩ a v σ' (fun _=>True):=by
 simp only[op1] at h;split at h
 ·rename_i l hx;have hd:=eW hA hx;simp only[SV.den,aV] at hd;obtain ⟨vs,hvs,e⟩:=hd;split at h
  ·rename_i y hy;obtain ⟨u,h1,h2⟩:=vget_den hvs hy;refine fJ hI h (u:=u) h2 fun w _=> ?_
   simp[execOp,←e,Instr.extract,h1]
  ·cases h
 ·cases h
theorem q_build {t:TypeId}{parts:Array (Nat×Operand)}(h:op1 P T σ (.build t parts)=some (v,σ'))(hA:RA N E n T a)(hI:Inv E σ) :
 QuietC P N E σ ⟨dst,.build t parts,type,pos,after,guard⟩ a v σ' (fun _=>True):=by
 simp only[op1] at h;split at h
 ·rename_i z ps hz hps;obtain ⟨zv,hzr,hzd⟩:=zeroB_run (N:=N) hz;obtain ⟨hl1,hl2⟩:=partsS_den hA hps;split at h
  ·rename_i fields ht;split at h
   ·rename_i pl hpl;split at h
    ·rename_i l hl;obtain ⟨cs',h1,h2⟩:=fillS_run (E:=E) (vs:=parts.toList.map fun (i,x)=>(i,a.eval x)) hl (hzd E) (by simpa using hl1) hl2;refine fJ hI h (u:= .agg cs') (by simp[SV.den,V1.den,h2]) fun w _=> ?_
     have hpr:=placesB_run hpl w;have e1:nget pl=fun i=>pl.toArray[i]? :=by funext i;simp[nget_eq]
     rw[e1] at h1;simp only[execOp,Instr.build,bH,hzr,aY,run_underlying ht,Array.mapM_eq_mapM_toList,Sem.run_map,hpr,Array.toList_map];rw[h1];rfl
    ·cases h
   ·cases h
  ·rename_i m el ht;split at h
   ·rename_i sz hsz;split at h
    ·rename_i l hl;obtain ⟨cs',h1,h2⟩:=fillS_run (E:=E) (vs:=parts.toList.map fun (i,x)=>(i,a.eval x)) hl (hzd E) (by simpa using hl1) hl2;refine fJ hI h (u:= .agg cs') (by simp[SV.den,V1.den,h2]) fun w _=> ?_
     simp only[execOp,Instr.build,bH,hzr,aY,run_underlying ht,fQ hsz,Array.toList_map];rw[h1];rfl
    ·cases h
   ·cases h
  ·cases h
 ·cases h
end
section
variable {P:Program} {F:Fns} {N:Num}
variable {E:Env} {σ σ':St} {n:Nat} {T:Tr SV} {a:Act} {v:Option SV} {dst:Option Tmp} {type:TypeId} {pos:String} {after:Array Edge} {guard:Option (Nat×Bool)}
theorem q_len {args:Array Operand}{argTypes:Array TypeId}(h:op1 P T σ (.call {callee:= .builtin .len,args,argTypes})=some (v,σ'))(hA:RA N E n T a)(hI:Inv E σ)(hH:Hold F N σ') :
 QuietC P N E σ ⟨dst,.call {callee:= .builtin .len,args,argTypes},type,pos,after,guard⟩ a v σ' (fun _=>True):=by
 simp only[op1] at h;split at h
 ·rename_i x t hx ht;obtain ⟨args⟩:=args;obtain ⟨argTypes⟩:=argTypes;simp only at hx ht;subst hx;subst ht;have run:∀w,(execOp a.eval ⟨dst,.call {callee:= .builtin .len,args:=⟨[x]⟩,argTypes:=⟨[t]⟩},type,pos,after,guard⟩).run P w =
   ((Builtin.len_ #[t] type #[a.eval x]).run P w).andThen fun u w=> .ok (.value u) w:=fun w=>by
   simp[execOp,resolve,invoke,builtin]
  split at h
  ·rename_i b off len cap el hx ht;obtain ⟨q,s,c,m,hb,h0,e,_⟩:=gC (eW hA hx);have fin:∀ {σ1:St},σ.le (.kst 0) len=some σ1→Hold F N σ1→∀w,(execOp a.eval ⟨dst,.call {callee:= .builtin .len,args:=⟨[x]⟩,argTypes:=⟨[t]⟩},type,pos,after,guard⟩).run P w= .ok (.value (.int .i64 (len.ev N))) w:=fun {σ1} h1 hH1 w=>by
    have:=fO h1 hH1;rw[gE] at this;rw[run];simp[Builtin.len_,e,run_underlying ht,goInt,Int.toNat_of_nonneg this]
   split at h
   ·rename_i m';split at h
    ·rename_i σ1 h1;simp only[aA,aD] at h;obtain ⟨rfl,rfl⟩:=h;exact gN hI (fC h1) rfl fun w _=>fin h1 hH w
    ·cases h
   ·rename_i y;split at h
    ·rename_i σ1 h1;simp only[aA,aD] at h;obtain ⟨rfl,rfl⟩:=h;exact gN hI (fC h1) rfl fun w _=>fin h1 hH w
    ·cases h
  ·rename_i j el hx ht;have hd:=eW hA hx;simp only[SV.den,V1.den,Sc.den] at hd;split at hd
   ·rename_i aa cc hj;simp only[aA] at hd;exact fJ hI h (u:= .int .i64 0) rfl fun w _=>by rw[run];simp[Builtin.len_,←hd,run_underlying ht,goInt]
   ·cases hd
  ·rename_i m cc el hx ht;have e:=kst_den (eW hA hx);exact fJ hI h (u:= .int .i64 m) rfl fun w _=>by rw[run];simp[Builtin.len_,e,run_underlying ht,goInt]
  ·rename_i m el hx ht;exact fJ hI h (u:= .int .i64 m) rfl fun w _=>by rw[run];simp[Builtin.len_,run_underlying ht,goInt]
  ·rename_i s hx ht;have e:=kst_den (eW hA hx);exact fJ hI h (u:= .int .i64 s.size) rfl fun w _=>by rw[run];simp[Builtin.len_,e,run_underlying ht,goInt]
  ·rename_i p hx ht;split at h
   ·rename_i m el ht';exact fJ hI h (u:= .int .i64 m) rfl fun w _=>by rw[run];simp[Builtin.len_,run_underlying ht,run_underlying ht',goInt]
   ·cases h
  ·cases h
 ·cases h
theorem q_min {args:Array Operand}{argTypes:Array TypeId}(h:op1 P T σ (.call {callee:= .builtin .min,args,argTypes})=some (v,σ'))(hA:RA N E n T a)(hI:Inv E σ)(hH:Hold F N σ') :
 QuietC P N E σ ⟨dst,.call {callee:= .builtin .min,args,argTypes},type,pos,after,guard⟩ a v σ' (fun _=>True):=by
 simp only[op1] at h;split at h
 ·rename_i x y hx;obtain ⟨args⟩:=args;simp only at hx;subst hx;have run:∀w,(execOp a.eval ⟨dst,.call {callee:= .builtin .min,args:=⟨[x,y]⟩,argTypes:=argTypes},type,pos,after,guard⟩).run P w =
   ((Builtin.min2 (a.eval x) (a.eval y)).run P w).andThen fun u w=> .ok (.value u) w:=fun w=>by
   simp[execOp,resolve,invoke,builtin,Builtin.min_]
  split at h
  ·rename_i x' y' hx hy;split at h
   ·rename_i k a' k' b' hxa hya;have e1:=gV hxa (eW hA hx);have e2:=gV hya (eW hA hy);cases hk:kindB k k' with
    | false=>rw[hk] at h;cases h
    | true =>
     rw[hk] at h;have:=fT hk;subst this;simp only[aH] at h;split at h;·exact fJ hI h rfl fun w _=>by rw[run,e1,e2];rfl
     ·simp only[aA,aD] at h;obtain ⟨rfl,rfl⟩:=h;have hn:N.i σ.nx=_:=hH.mk1;refine gN hI (Pur.mk1 _ _) (u:= .int k (N.i σ.nx)) rfl fun w _=> ?_
      rw[run,e1,e2,hn];rfl
   ·cases h
  ·cases h
 ·cases h
theorem op1_pure {o:Oper}(h:op1 P T σ o.op=some (v,σ'))(hq:pureOp o.op=true)(hA:RA N E n T a)(hI:Inv E σ)(hH:Hold F N σ'):QuietC P N E σ o a v σ' (fun _=>True):=by
 obtain ⟨dst,op,type,pos,after,guard⟩:=o;simp only at h hq;cases op <;> simp only[pureOp,quietOp,bV] at hq
 case move=>exact q_move h hA hI
 case assign=>exact q_assign h hA hI
 case pick=>exact q_pick h hA hI
 case build=>exact q_build h hA hI
 case nilCheck=>exact q_nilCheck h hA hI
 case binOp=>exact q_binOp h hA hI hH
 case unOp=>exact q_unOp h hA hI hH
 case convert=>exact q_convert h hA hI hH
 case sliceToArrayPointer=>exact q_arrayPtr h hA hI hH
 case slice=>exact q_slice h hA hI hH
 case fieldAddr=>exact q_fieldAddr h hA hI hH
 case field=>exact q_field h hA hI
 case indexAddr=>exact q_indexAddr h hA hI hH
 case index=>exact q_index h hA hI hH
 case extract=>exact q_extract h hA hI
 case call c =>
  obtain ⟨callee,args,argTypes⟩:=c;cases callee with
  | builtin b=>cases b <;> first | exact q_len h hA hI hH | exact q_min h hA hI hH | (simp only[bV] at hq)
  | value f=>simp only[bV] at hq
  | invoke r m=>simp only[bV] at hq
theorem op1_quiet {o:Oper}(h:op1 P T σ o.op=some (v,σ'))(hq:quietOp o.op=true)(hA:RA N E n T a)(hI:Inv E σ)(hH:Hold F N σ'){w0:World}(hw0:BW N E σ.bks w0):Quiet P N E σ o a v σ':=by
 cases hp:pureOp o.op with
 | true=>exact (op1_pure h hp hA hI hH).quiet
 | false =>obtain ⟨dst,op,type,pos,after,guard⟩:=o;cases op <;> simp only[pureOp,hq,reduceCtorEq] at hp;exact q_load h hA hI hH hw0
theorem qx_same {x:Option SV}(h:some (x,σ)=some (v,σ')):QX σ σ':=by
 simp only[aA,aD] at h;rw[←h.2];exact (Pur.refl _).qx
theorem qx_pur {x:Option SV}{σ1:St}(h:some (x,σ1)=some (v,σ'))(p:Pur σ σ1):QX σ σ':=by
 simp only[aA,aD] at h;rw[←h.2];exact p.qx
theorem qx_qx {x:Option SV}{σ1:St}(h:some (x,σ1)=some (v,σ'))(p:QX σ σ1):QX σ σ':=by
 simp only[aA,aD] at h;rw[←h.2];exact p
theorem lelt_pur {σ1:St}{a b c:Ar}(h:(σ.le a b).bind (·.lt b c)=some σ1):Pur σ σ1:=by
 simp only[aL] at h;obtain ⟨σ2,h1,h2⟩:=h;exact (fC h1).trans (lt_pur h2)
theorem op1_qx {o:Op}(h:op1 P T σ o=some (v,σ'))(hq:quietOp o=true):QX σ σ':=by
 cases o <;> simp only[quietOp,bV] at hq
 case fieldAddr =>
  simp only[op1] at h;split at h
  ·split at h
   ·split at h
    ·rename_i m _;cases hz:Nat.beq m 0 with
     | true=>rw[hz] at h;cases h
     | false=>rw[hz] at h;exact qx_pur h lin_pur
    ·cases h
   ·cases h
  ·cases h
 case index =>
  simp only[op1] at h;split at h
  ·split at h
   ·rename_i m _ _ _ _ _ _ _ _ j _ _ _;generalize Nat.blt j _=bb at h;cases bb with
    | false=>cases h
    | true =>
     simp only[aH] at h;split at h;·exact qx_same h
     ·cases h
   ·split at h
    ·split at h
     ·generalize Nat.beq _ _=bb at h;cases bb with
      | false=>cases h
      | true =>
       simp only[aH] at h;split at h;·exact qx_pur h ((lelt_pur (by assumption)).trans (Pur.mk1 _ _))
       ·cases h
     ·cases h
    ·cases h
   ·cases h
  ·split at h
   ·split at h;·exact qx_same h
    ·cases h
   ·cases h
  ·cases h
 case call c =>
  obtain ⟨callee,args,argTypes⟩:=c;cases callee with
  | builtin b =>
   cases b <;> simp only[bV] at hq
   case len =>
    simp only[op1] at h;split at h
    ·split at h
     ·split at h
      ·split at h;·exact qx_pur h (fC (by assumption))
       ·cases h
      ·split at h;·exact qx_pur h (fC (by assumption))
       ·cases h
     ·exact qx_same h
     ·exact qx_same h
     ·exact qx_same h
     ·exact qx_same h
     ·split at h;·exact qx_same h
      ·cases h
     ·cases h
    ·cases h
   case min =>
    simp only[op1] at h;split at h
    ·split at h
     ·split at h
      ·generalize kindB _ _=bb at h;cases bb with
       | false=>cases h
       | true =>
        simp only[aH] at h;split at h;·exact qx_same h
        ·exact qx_pur h (Pur.mk1 _ _)
      ·cases h
     ·cases h
    ·cases h
  | value f=>simp only[bV] at hq
  | invoke r m=>simp only[bV] at hq
 case indexAddr =>
  simp only[op1] at h;split at h
  ·split at h
   ·split at h;·exact qx_pur h ((lelt_pur (by assumption)).trans lin_pur)
    ·cases h
   ·cases h
  ·split at h
   ·split at h;·exact qx_pur h ((lelt_pur (by assumption)).trans lin_pur)
    ·cases h
   ·cases h
  ·cases h
 case slice =>
  simp only[op1] at h;split at h
  ·split at h
   ·split at h;·exact qx_qx h (doSlice_qx (by assumption))
    ·cases h
   ·cases h
  ·split at h
   ·split at h;·exact qx_qx h (doSlice_qx (by assumption))
    ·cases h
   ·cases h
  ·split at h;·exact qx_same h
   ·cases h
  ·split at h
   ·split at h
    ·rename_i hr;simp only[aL] at hr;obtain ⟨σa,r1,σb,r2,r3⟩:=hr;exact qx_pur h (((fC r1).trans (fC r2)).trans (fC r3))
    ·cases h
   ·cases h
  ·split at h
   ·rename_i l h' _ _ _ _ _ _ _;generalize (isZ _&&isZ _)=bb at h;cases bb with
    | true=>exact qx_same h
    | false=>cases h
   ·cases h
  ·cases h
 all_goals
  simp only[op1] at h
  repeat' split at h
  all_goals first
   | cases h;done
   | exact qx_same h
   | exact qx_pur h (loadN_pur (by assumption))
   | exact qx_pur h (load1_pur (by assumption))
   | exact qx_pur h (doBin_pur (by assumption))
   | exact qx_pur h (aggEq_pur (by assumption))
   | exact qx_pur h (doUn_pur (by assumption))
   | exact qx_pur h (doConv_pur (by assumption))
   | exact qx_pur h (fC (by assumption))
end
end Go.Sy
