/- Contracts: calls by a table of contracts. Contracts: how a body is entered and left. -/
import Derived.Test.YtlcljhlijmombaaSy9
namespace Go.Sy
section
variable {P:Program} {F:Fns} {N:Num} {E:Env} {σ σ':St}
theorem apply_inv {ct:Ct}{args:List SV}{sv:SV}(h:ct.apply1 args σ=some (sv,σ')) :
  ∃is as σ1 σ2 vs,takeL ct.ps args σ=some (is,as,σ1)∧apartB (blksL ct.ps args)=true∧ct.okG=true ∧
   (match rwOf ct.ps args with
    | some (b,off,k,n)=>((σ1.ob (.prd ct.p is as)).mkA (.fn ct.fw is as)).wrt b off k σ1.na n
    | none=>some ((σ1.ob (.prd ct.p is as)).drop (grOf ct.ps args)))=some σ2 ∧
   (match slOf ct.res with
     | some (k,some n)=>resL ct.fi is as (.sl σ2.nb (.kst 0) (.kst n) none) ct.res 0 ((σ2.mkA (.fn ct.fs is as)).newA k σ2.na true)
     | some (k,none)=>resL ct.fi is as (.sl σ2.nb (.kst 0) (.var σ2.nx) none) ct.res 0 (((σ2.mkA (.fn ct.fs is as)).newA k σ2.na true).mk1 (.len σ2.na))
     | none=>resL ct.fi is as (.kst (.bool true)) ct.res 0 σ2)=some (vs,σ')∧sv=resV vs:=by
 unfold Ct.apply1 at h
 split at h
 ·cases h
 ·rename_i is as σ1 h1
  cases hb:(apartB (blksL ct.ps args)&&ct.okG) with
  | false=>rw[hb] at h;cases h
  | true =>
   rw[hb] at h
   simp only[cond_true] at h
   simp only[Bool.and_eq_true] at hb
   split at h
   ·cases h
   ·rename_i σ2 h2
    split at h
    ·rename_i vs σ3 h3
     simp only[Option.some.injEq,Prod.mk.injEq] at h
     obtain ⟨rfl,rfl⟩:=h
     exact ⟨is,as,σ1,σ2,vs,h1,hb.1,hb.2,h2,h3,rfl⟩
    ·cases h
theorem drop_ext (σ:St)(o:Option Nat):Ext σ (σ.drop o):=by
 cases o with
 | none=>exact Ext.refl _
 | some b=>exact ⟨fun _ m=>m,fun _ m=>m,rfl,rfl,Nat.le_refl _⟩
theorem undup_den {ct:Ct}{args args':List SV}{us:List Value}(h:ct.undup args=some args')(hd:denLV N E args=some us):∃us',denLV N E args'=some us'∧us=dupL ct.dup us':=by
 unfold Ct.undup at h
 unfold dupL
 cases hb:ct.dup with
 | false =>
  rw[hb] at h
  simp only[cond_false,Option.some.injEq] at h ⊢
  subst h
  exact ⟨us,hd,rfl⟩
 | true =>
  rw[hb] at h
  simp only[cond_true] at h ⊢
  split at h
  ·rename_i x y r
   cases hs:sameSl x y with
   | false=>rw[hs] at h;cases h
   | true =>
    rw[hs] at h
    simp only[cond_true,Option.some.injEq] at h
    subst h
    obtain ⟨u,us1,d1,d2,rfl⟩:=denLV_cons.1 hd
    obtain ⟨u',us2,d3,d4,rfl⟩:=denLV_cons.1 d2
    have e:x=y:=by
     unfold sameSl at hs
     split at hs
     ·simp only[Bool.and_eq_true] at hs
      obtain ⟨⟨⟨h1,h2⟩,h3⟩,h4⟩:=hs
      rw[Nat.eq_of_beq_eq_true h1,Nat.eq_of_beq_eq_true h2,Nat.eq_of_beq_eq_true h3,Nat.eq_of_beq_eq_true h4]
     ·cases hs
    subst e
    rw[d1] at d3
    simp only[Option.some.injEq] at d3
    subst d3
    exact ⟨u::us2,denLV_cons.2 ⟨u,us2,d1,d4,rfl⟩,rfl⟩
  ·cases h
theorem apply_ext {ct:Ct}{args:List SV}{sv:SV}(h:ct.apply args σ=some (sv,σ')):Ext σ σ':=by
 unfold Ct.apply at h
 split at h
 case h_2=>cases h
 obtain ⟨is,as,σ1,σ2,vs,h1,_,_,h2,h3,_⟩:=apply_inv h
 refine ((takeL_pur h1).ext.trans ?_).trans (b:=σ2) ?_
 ·split at h2
  ·exact ((Ext.ob _ _).trans (Ext.mkA _ _)).trans (wrt_ext h2)
  ·simp only[Option.some.injEq] at h2;rw[←h2];exact (Ext.ob _ _).trans (drop_ext _ _)
 ·split at h3
  ·exact ((Ext.mkA _ _).trans (Ext.newA _ _ _ _)).trans (resL_qx h3).ext
  ·exact (((Ext.mkA _ _).trans (Ext.newA _ _ _ _)).trans (Ext.mk1 _ _)).trans (resL_qx h3).ext
  ·exact (resL_qx h3).ext
theorem slOf_none {r:List Re}(h:slOf r=none):¬slOf r≠none:=fun k=>k h
theorem fresh_post {x:Option Win}{o:Option Nat}{k:IntKind}{A:Nat}{w w':World}{L:List Int}{v:Value}(hw:BW N E σ.bks w)(hI:Inv E σ)(hg:Grow x w w')(hG:GWok N E σ.bks o x)(hf:Fresh x w w' k L v)(hA:N.a A=L)
  {n:Ar} (hn:(n.ev N).toNat=L.length) (hs:σ'.bks=(σ.drop o).bks.set σ.nb {n:=0,rw:=true,cells:= .nil,arr:=some (k,A,true)}) (hnb:σ'.nb=σ.nb+1) (hnv:σ'.nv=σ.nv) (hgl:σ'.gl=σ.gl) :
  ∃E',Post N E σ w N E' σ' w'∧(Sc.sl σ.nb (.kst 0) n none).den N E'=some v:=by
 obtain ⟨q,s,c,arr,el,rfl,h1,h2,h3,h4,h5,h6⟩:=hf
 refine ⟨E.addB σ.nb (q,s,c),newBk_grow (B:={n:=0,rw:=true,cells:= .nil,arr:=some (k,A,true)}) hw hI hg hG h2 h3 ?_ h4 ?_ hs hnb hnv hgl,?_⟩
 ·simp only[Bk.wid,cond_true,hA]
  exact Nat.max_eq_left h1
 ·simp only[Bk.cont,hA]
  exact ⟨h5,fun _=>h6⟩
 ·have:=sl_mk (N:=N) (E:=E.addB σ.nb (q,s,c)) (b:=σ.nb) (off:= .kst 0) (len:=n) (cap:=none) Env.addB_self (Int.le_refl _) (fun _=>by rw[ev_kst,hn];simpa using h1)
  rw[this,hn]
  simp[capOf,ev_kst]
theorem rwN_none:∀ {ps:List Pa} {xs:List SV},ownN ps=0→rwOf ps xs=none
 | [],xs,_=>by cases xs <;> rfl
 | .int _::ps,[],_=>rfl
 | .agg _ _::ps,[],_=>rfl
 | .emp::ps,[],_=>rfl
 | .ign::ps,[],_=>rfl
 | .zc::ps,[],_=>rfl
 | .kst _::ps,[],_=>rfl
 | .gr _::ps,_,h=>by cases h
 | .ptr _ _ true::ps,_,h=>by cases h
 | .sl _ true _::ps,_,h=>by cases h
 | .ptr _ _ false::ps,[],_=>rfl
 | .sl _ false _::ps,[],_=>rfl
 | .int _::ps,x::xs,h=>rwN_none (ps:=ps) (xs:=xs) h
 | .agg _ _::ps,x::xs,h=>rwN_none (ps:=ps) (xs:=xs) h
 | .emp::ps,x::xs,h=>rwN_none (ps:=ps) (xs:=xs) h
 | .ign::ps,x::xs,h=>rwN_none (ps:=ps) (xs:=xs) h
 | .zc::ps,x::xs,h=>rwN_none (ps:=ps) (xs:=xs) h
 | .kst _::ps,x::xs,h=>rwN_none (ps:=ps) (xs:=xs) h
 | .ptr _ _ false::ps,x::xs,h=>rwN_none (ps:=ps) (xs:=xs) h
 | .sl _ false _::ps,x::xs,h=>rwN_none (ps:=ps) (xs:=xs) h
theorem grN_rw:∀ {ps:List Pa} {xs:List SV},hasGr ps=true→ownN ps=1→rwOf ps xs=none
 | [],xs,h,_=>by cases h
 | .gr _::ps,[],_,_=>rfl
 | .gr _::ps,x::xs,_,h=>rwN_none (ps:=ps) (xs:=xs) (by simpa [ownN] using h)
 | .ptr _ _ true::ps,xs,h,h1=>(grN_no (ps:=ps) h (by simpa [ownN] using h1)).elim
 | .sl _ true _::ps,xs,h,h1=>(grN_no (ps:=ps) h (by simpa [ownN] using h1)).elim
 | .int _::ps,[],_,_=>rfl
 | .agg _ _::ps,[],_,_=>rfl
 | .emp::ps,[],_,_=>rfl
 | .ign::ps,[],_,_=>rfl
 | .zc::ps,[],_,_=>rfl
 | .kst _::ps,[],_,_=>rfl
 | .ptr _ _ false::ps,[],_,_=>rfl
 | .sl _ false _::ps,[],_,_=>rfl
 | .int _::ps,x::xs,h,h1=>grN_rw (ps:=ps) (xs:=xs) h h1
 | .agg _ _::ps,x::xs,h,h1=>grN_rw (ps:=ps) (xs:=xs) h h1
 | .emp::ps,x::xs,h,h1=>grN_rw (ps:=ps) (xs:=xs) h h1
 | .ign::ps,x::xs,h,h1=>grN_rw (ps:=ps) (xs:=xs) h h1
 | .zc::ps,x::xs,h,h1=>grN_rw (ps:=ps) (xs:=xs) h h1
 | .kst _::ps,x::xs,h,h1=>grN_rw (ps:=ps) (xs:=xs) h h1
 | .ptr _ _ false::ps,x::xs,h,h1=>grN_rw (ps:=ps) (xs:=xs) h h1
 | .sl _ false _::ps,x::xs,h,h1=>grN_rw (ps:=ps) (xs:=xs) h h1
 where
 grN_no:∀ {ps:List Pa},hasGr ps=true→ownN ps=0→False
  | [],h,_=>by cases h
  | .gr _::ps,_,h=>by cases h
  | .ptr _ _ true::ps,_,h=>by cases h
  | .sl _ true _::ps,_,h=>by cases h
  | .int _::ps,h,h1=>grN_no (ps:=ps) h h1
  | .agg _ _::ps,h,h1=>grN_no (ps:=ps) h h1
  | .emp::ps,h,h1=>grN_no (ps:=ps) h h1
  | .ign::ps,h,h1=>grN_no (ps:=ps) h h1
  | .zc::ps,h,h1=>grN_no (ps:=ps) h h1
  | .kst _::ps,h,h1=>grN_no (ps:=ps) h h1
  | .ptr _ _ false::ps,h,h1=>grN_no (ps:=ps) h h1
  | .sl _ false _::ps,h,h1=>grN_no (ps:=ps) h h1
theorem grW_none:∀ {ps:List Pa} {ws:List (Option Win)},hasGr ps=false→grW ps ws=none
 | [],ws,_=>by cases ws <;> rfl
 | .gr _::ps,_,h=>by cases h
 | .int _::ps,[],_=>rfl
 | .agg _ _::ps,[],_=>rfl
 | .emp::ps,[],_=>rfl
 | .ign::ps,[],_=>rfl
 | .zc::ps,[],_=>rfl
 | .kst _::ps,[],_=>rfl
 | .ptr _ _ _::ps,[],_=>rfl
 | .sl _ _ _::ps,[],_=>rfl
 | .int _::ps,x::xs,h=>grW_none (ps:=ps) (ws:=xs) h
 | .agg _ _::ps,x::xs,h=>grW_none (ps:=ps) (ws:=xs) h
 | .emp::ps,x::xs,h=>grW_none (ps:=ps) (ws:=xs) h
 | .ign::ps,x::xs,h=>grW_none (ps:=ps) (ws:=xs) h
 | .zc::ps,x::xs,h=>grW_none (ps:=ps) (ws:=xs) h
 | .kst _::ps,x::xs,h=>grW_none (ps:=ps) (ws:=xs) h
 | .ptr _ _ _::ps,x::xs,h=>grW_none (ps:=ps) (ws:=xs) h
 | .sl _ _ _::ps,x::xs,h=>grW_none (ps:=ps) (ws:=xs) h
theorem apply_sound {ct:Ct}{f:FuncId}(hS:CSpec P F f ct){args:List SV}{sv:SV}(h:ct.apply args σ=some (sv,σ')){us:List Value}{w:World}(hH:Hold F N σ')(hI:Inv E σ)(hw:BW N E σ.bks w)(hd:denLV N E args=some us) :
  Calls P f us.toArray w fun e w'=>∃E' u,e= .returned u∧Post N E σ w N E' σ' w'∧sv.den N E'=some u:=by
 unfold Ct.apply at h
 split at h
 case h_2=>cases h
 rename_i args' hun
 obtain ⟨us,hd',rfl⟩:=undup_den hun hd
 clear hun
 obtain ⟨is,as,σ1,σ2,vs,h1,hap,hok,h2,h3,rfl⟩:=apply_inv h
 have hq:Ext σ2 σ':=by
  split at h3
  ·exact ((Ext.mkA _ _).trans (Ext.newA _ _ _ _)).trans (resL_qx h3).ext
  ·exact (((Ext.mkA _ _).trans (Ext.newA _ _ _ _)).trans (Ext.mk1 _ _)).trans (resL_qx h3).ext
  ·exact (resL_qx h3).ext
 have hH2:Hold F N σ2:=Hold.of_ext hq hH
 have hp1:=takeL_pur h1
 have hHo:Hold F N (σ1.ob (.prd ct.p is as)):=by
  split at h2
  ·exact Hold.of_ext ((Ext.mkA _ _).trans (wrt_ext h2)) hH2
  ·simp only[Option.some.injEq] at h2;rw[←h2] at hH2;exact Hold.of_ext (drop_ext _ _) hH2
 have hH1:=Hold.of_ext (Ext.ob _ _) hHo
 obtain ⟨ws,hA,hWB,hRW,hGW⟩:=takeL_sound h1 hH1 hw hd'
 have hpr:F.p ct.p (is.map (·.ev N)) (as.map N.a):=by
  have:N.f.p ct.p (is.map (·.ev N)) (as.map N.a):=hHo.ob
  rwa [hH.fns] at this
 refine (hS us _ _ ws w hA (WB.apart hw hWB hap) hpr).mono ?_
 rintro e w' ⟨u,rfl,w1,vs',sl,rfl,hw1,hg,hsl,hres⟩
 have hI1:=hI.pur hp1
 have hw1':BW N E σ1.bks w:=by rw[hp1.bks];exact hw
 have hgr:∀b,grOf ct.ps args'=some b→hasGr ct.ps=true:=fun b e=>by
  cases hh:hasGr ct.ps with
  | true=>rfl
  | false=>rw[e,grW_none hh] at hGW;exact hGW.elim
 have hok2:hasGr ct.ps=true→rwOf ct.ps args'=none∧slOf ct.res≠none:=fun hh=>by
  unfold Ct.okG at hok
  simp only[hh,Bool.not_true,Bool.false_or,Bool.and_eq_true] at hok
  refine ⟨grN_rw hh (Nat.eq_of_beq_eq_true hok.1),fun e=> ?_⟩
  rw[e] at hok;cases hok.2
 have stepA:∃σb o,σ2=σb.drop o∧Post N E σ w N E σb w1∧GWok N E σb.bks o (grW ct.ps ws)∧(slOf ct.res=none→o=none):=by
  split at h2
  ·rename_i b off k n hro
   have hn:hasGr ct.ps=false:=by
    cases hh:hasGr ct.ps with
    | false=>rfl
    | true=>rw[(hok2 hh).1] at hro;cases hro
   rw[hro] at hRW
   cases hrw:rwW ct.ps ws with
   | none=>rw[hrw] at hRW;exact hRW.elim
   | some y =>
    obtain ⟨x,k'⟩:=y
    rw[hrw] at hRW hw1
    obtain ⟨rfl,s0,c,g1,g2,g3⟩:=hRW
    obtain ⟨m1,m2⟩:=hw1
    have hHw:=Hold.of_ext (wrt_ext h2) hH2
    have hX:N.a σ1.na=_:=hHw.mkA
    simp only[Ad.ev,hH.fns] at hX
    have hp:Pur σ1 ((σ1.ob (.prd ct.p is as)).mkA (.fn ct.fw is as)):=(Pur.ob _ _).trans (Pur.mkA _ _)
    obtain ⟨w2,r1,r2⟩:=wrt_sound (P:=P) h2 g1 hH2 (by rw[hp.bks];exact hw1') (hI1.pur hp) (by rw[hX,m1,g3])
    rw[hX,←g2,m2] at r1
    injection r1 with _ r1
    subst r1
    exact ⟨σ2,none,rfl,(Post.of_pur hp1 hI hw).trans ((Post.of_pur hp hI1 hw1').trans r2),by rw[grW_none hn];trivial,fun _=>rfl⟩
  ·rename_i hro
   rw[hro] at hRW
   simp only[Option.some.injEq] at h2
   cases hrw:rwW ct.ps ws with
   | some y=>rw[hrw] at hRW;exact hRW.elim
   | none =>
    rw[hrw] at hw1
    simp only at hw1
    subst hw1
    refine ⟨σ1.ob (.prd ct.p is as),grOf ct.ps args',h2.symm,(Post.of_pur hp1 hI hw).trans (Post.of_pur (Pur.ob _ _) hI1 hw1'),?_,fun e=> ?_⟩
    ·have:(σ1.ob (.prd ct.p is as)).bks=σ.bks:=hp1.bks
     rw[this];exact hGW
    ·cases hg:grOf ct.ps args' with
     | none=>rfl
     | some b=>exact ((hok2 (hgr b hg)).2 e).elim
 obtain ⟨σb,o,rfl,stepA,hGb,hno⟩:=stepA
 have fin:∀ {σ3:St} {E3:Env} {sc:Sc},Post N E σb w1 N E3 σ3 w'→(slOf ct.res≠none→sc.den N E3=some sl)→(∀ b len,sc= .sl b (.kst (.ofNat 0)) len none→sc.den N E3=some sl)→resL ct.fi is as sc ct.res 0 σ3=some (vs,σ') →
   ∃E' u,Ending.returned (tupOf vs')=Ending.returned u∧Post N E σ w N E' σ' w'∧(resV vs).den N E'=some u:=fun {σ3 E3 sc} hp hsc hsc2 hr=>by
  obtain ⟨E',e1,e2,e3,e4⟩:=resL_sound hr hH hp.inv hsc hsc2 hres
  exact ⟨E',_,rfl,(stepA.trans hp).trans (Post.of_qx (resL_qx hr) e3 e1 e2 hp.bw),resV_den e4⟩
 have dr:∀ad,(((σb.drop o).mkA ad).bks=((σb.mkA ad).drop o).bks)∧((σb.drop o).nb=σb.nb)∧((σb.drop o).nv=σb.nv)∧((σb.drop o).gl=σb.gl)∧(σb.drop o).nx=σb.nx∧(σb.drop o).na=σb.na:=fun ad=>by cases o <;> exact ⟨rfl,rfl,rfl,rfl,rfl,rfl⟩
 obtain ⟨d1,d2,d3,d4,d5,d6⟩:=dr (.fn ct.fs is as)
 have pb:Post N E σb w1 N E (σb.mkA (.fn ct.fs is as)) w1:=Post.of_pur (Pur.mkA _ _) stepA.inv stepA.bw
 have dbks:∀k,(((σb.drop o).mkA (.fn ct.fs is as)).newA k (σb.drop o).na true).bks=((σb.mkA (.fn ct.fs is as)).drop o).bks.set σb.nb {n:=0,rw:=true,cells:= .nil,arr:=some (k,(σb.drop o).na,true)}:=fun k=>by
  rw[←d1,←d2];rfl
 split at h3
 ·rename_i k n hso
  rw[hso] at hsl
  have hX:N.a (σb.drop o).na=_:=(Hold.of_ext ((Ext.newA _ _ _ _).trans (resL_qx h3).ext) hH).mkA
  simp only[Ad.ev,hH.fns] at hX
  obtain ⟨E3,p1,p2⟩:=fresh_post (σ':=((σb.drop o).mkA (.fn ct.fs is as)).newA k (σb.drop o).na true) (A:=(σb.drop o).na) (n:= .kst n) pb.bw pb.inv hg hGb hsl.1 hX (by simp[ev_kst,hsl.2 n rfl]) (dbks k) (by rw[←show (σb.drop o).nb=(σb.mkA (.fn ct.fs is as)).nb from d2];rfl) (by rw[←show (σb.drop o).nv=(σb.mkA (.fn ct.fs is as)).nv from d3];rfl) (by rw[←show (σb.drop o).gl=(σb.mkA (.fn ct.fs is as)).gl from d4];rfl)
  rw[←show (σb.drop o).nb=(σb.mkA (.fn ct.fs is as)).nb from d2] at p2
  exact fin (pb.trans p1) (fun _=>p2) (fun _ _ _=>p2) h3
 ·rename_i k hso
  rw[hso] at hsl
  have hHn:=Hold.of_ext (resL_qx h3).ext hH
  have hl:N.i (σb.drop o).nx=_:=hHn.mk1
  have hX:N.a (σb.drop o).na=_:=(Hold.of_ext ((Ext.newA _ _ _ _).trans (Ext.mk1 _ _)) hHn).mkA
  simp only[Ad.ev,Nd.ev,hH.fns] at hX hl
  obtain ⟨E3,p1,p2⟩:=fresh_post (σ':=(((σb.drop o).mkA (.fn ct.fs is as)).newA k (σb.drop o).na true).mk1 (.len (σb.drop o).na)) (A:=(σb.drop o).na) (n:= .var (σb.drop o).nx) pb.bw pb.inv hg hGb hsl.1 hX (by simp[Ar.ev,hl,hX]) (dbks k) (by rw[←show (σb.drop o).nb=(σb.mkA (.fn ct.fs is as)).nb from d2];rfl) (by rw[←show (σb.drop o).nv=(σb.mkA (.fn ct.fs is as)).nv from d3];rfl) (by rw[←show (σb.drop o).gl=(σb.mkA (.fn ct.fs is as)).gl from d4];rfl)
  rw[←show (σb.drop o).nb=(σb.mkA (.fn ct.fs is as)).nb from d2] at p2
  exact fin (pb.trans p1) (fun _=>p2) (fun _ _ _=>p2) h3
 ·rename_i hso
  have:=hno hso
  subst this
  have hgn:grW ct.ps ws=none:=by
   cases hh:grW ct.ps ws with
   | none=>rfl
   | some y=>rw[hh] at hGb;exact hGb.elim
  rw[hgn] at hg
  exact fin (grow_post stepA.bw stepA.inv hg) (fun k=>(k hso).elim) (fun _ _ e=>by cases e) h3
def tryCts:List Ct→List SV→St→Option (SV×St)
 | [],_,_=>none
 | c::cs,args,σ=>match c.apply args σ with
  | some r=>some r
  | none=>tryCts cs args σ
def lkT:List (FuncId×List Ct)→FuncId→Option (List Ct)
 | [],_=>none
 | (g,cs)::l,f=>bif Nat.beq f g then some cs else lkT l f
def hasBody (P:Program)(f:FuncId):Bool :=
 match P.funcs[f]? with
 | some fn => (match fn.body with | some _ => true | none => false) && !(fn.name == "runtime.NumGoroutine")
 | none=>false
def tabU (tab:List (FuncId×List Ct))(fb:FuncId→List SV→St→Option (SV×St))(f:FuncId):Option (List SV→St→Option (SV×St)) :=
 match lkT tab f with
 | none=>none
 | some cs=>some fun args σ=>match tryCts cs args σ with
  | some r=>some r
  | none=>fb f args σ
def noCall (_:FuncId)(_:List SV)(_:St):Option (SV×St):=none
theorem noCall_ok:CallOk F P noCall:=fun f args σ sv σ' h=>by cases h
theorem callFunc_enter {f:FuncId}(h:hasBody P f=true)(args:Array Value)(w:World):(callFunc f args).run P w= .ok (.enter f args) w:=by
 unfold hasBody at h
 split at h
 ·rename_i fn hf
  simp only[Bool.and_eq_true,Bool.not_eq_true'] at h
  obtain ⟨hb,hn⟩:=h
  split at hb
  ·rename_i body hbo
   have h1 : fn.name ≠ "runtime.NumGoroutine" := by simpa using hn
   simp[callFunc,hf,h1,hbo]
  ·cases hb
 ·cases h
theorem tryCts_ok {f:FuncId}(hb:hasBody P f=true):∀ {cs:List Ct},(∀ c∈cs,CSpec P F f c)→∀ {args:List SV} {σ σ':St} {sv:SV},tryCts cs args σ=some (sv,σ') →
  Ext σ σ'∧∀N E us w,Hold F N σ'→Inv E σ→BW N E σ.bks w→denLV N E args=some us →
   Calls P f us.toArray w fun e w'=>∃E' u,e= .returned u∧Post N E σ w N E' σ' w'∧sv.den N E'=some u
 | [],_,args,σ,σ',sv,h=>by cases h
 | c::cs,hc,args,σ,σ',sv,h=>by
  simp only[tryCts] at h
  split at h
  ·rename_i r hr
   simp only[Option.some.injEq] at h
   subst h
   exact ⟨apply_ext hr,fun N E us w hH hI hw hd=>apply_sound (hc c List.mem_cons_self) hr hH hI hw hd⟩
  ·exact tryCts_ok hb (fun c' h'=>hc c' (List.mem_cons_of_mem _ h')) h
theorem tabU_ok {tab:List (FuncId×List Ct)}{fb:FuncId→List SV→St→Option (SV×St)}(hfb:CallOk F P fb)(ht:∀f cs,lkT tab f=some cs→hasBody P f=true∧∀c∈cs,CSpec P F f c) :
  CallOk F P (fun f args σ=>(tabU tab fb f).bind fun c=>c args σ):=fun f args σ sv σ' h=>by
 simp only[tabU] at h
 split at h
 ·cases h
 ·rename_i cs hl
  simp only[Option.bind_some] at h
  obtain ⟨hb,hc⟩:=ht f cs hl
  split at h
  ·rename_i r hr
   simp only[Option.some.injEq] at h
   subst h
   obtain ⟨e1,e2⟩:=tryCts_ok hb hc hr
   exact ⟨e1,fun N E us w hH hI hw hd=> .inr ⟨callFunc_enter hb _ _,e2 N E us w hH hI hw hd⟩⟩
  ·exact hfb f args σ sv σ' h
end
def numsS (k:IntKind):Nat→Nat→List Sc
 | _,0=>[]
 | x,n+1=> .num k x::numsS k (x+1) n
def patL:List Pa→St→List SV×St
 | [],σ=>([],σ)
 | .int k::ps,σ=>(.one (.sc (.num k σ.nx))::(patL ps {σ with nx:=σ.nx+1}).1,(patL ps {σ with nx:=σ.nx+1}).2)
 | .agg k n::ps,σ=>(.one (.agg (numsS k σ.nx n))::(patL ps {σ with nx:=σ.nx+n}).1,(patL ps {σ with nx:=σ.nx+n}).2)
 | .ptr k n rw::ps,σ =>
  (.one (.sc (.ptr σ.nb (.kst 0)))::(patL ps {σ with nx:=σ.nx+n,nb:=σ.nb+1,bks:=σ.bks.set σ.nb {n:=n,rw:=rw,cells:=trOf 0 (numsS k σ.nx n) .nil,arr:=none}}).1,
   (patL ps {σ with nx:=σ.nx+n,nb:=σ.nb+1,bks:=σ.bks.set σ.nb {n:=n,rw:=rw,cells:=trOf 0 (numsS k σ.nx n) .nil,arr:=none}}).2)
 | .sl k rw none::ps,σ =>
  (.one (.sc (.sl σ.nb (.kst 0) (.var σ.nx) none))::(patL ps {σ with nx:=σ.nx+1,na:=σ.na+1,nb:=σ.nb+1,bks:=σ.bks.set σ.nb {n:=0,rw:=rw,cells:= .nil,arr:=some (k,σ.na,false)}}).1,
   (patL ps {σ with nx:=σ.nx+1,na:=σ.na+1,nb:=σ.nb+1,bks:=σ.bks.set σ.nb {n:=0,rw:=rw,cells:= .nil,arr:=some (k,σ.na,false)}}).2)
 | .sl k rw (some m)::ps,σ =>
  (.one (.sc (.sl σ.nb (.kst 0) (.kst m) none))::(patL ps {σ with na:=σ.na+1,nb:=σ.nb+1,bks:=σ.bks.set σ.nb {n:=0,rw:=rw,cells:= .nil,arr:=some (k,σ.na,false)}}).1,
   (patL ps {σ with na:=σ.na+1,nb:=σ.nb+1,bks:=σ.bks.set σ.nb {n:=0,rw:=rw,cells:= .nil,arr:=some (k,σ.na,false)}}).2)
 | .emp::ps,σ=>(.one (.sc (.emp σ.nv))::(patL ps {σ with nv:=σ.nv+1}).1,(patL ps {σ with nv:=σ.nv+1}).2)
 | .zc::ps,σ=>(.one (.sc (.sl σ.nb (.kst 0) (.kst 0) (some (.kst 0))))::(patL ps {σ with nb:=σ.nb+1}).1,(patL ps {σ with nb:=σ.nb+1}).2)
 | .gr k::ps,σ =>
  (.one (.sc (.sl σ.nb (.kst 0) (.var σ.nx) none))::(patL ps {σ with nx:=σ.nx+1,na:=σ.na+1,nb:=σ.nb+1,bks:=σ.bks.set σ.nb {n:=0,rw:=true,cells:= .nil,arr:=some (k,σ.na,true)}}).1,
   (patL ps {σ with nx:=σ.nx+1,na:=σ.na+1,nb:=σ.nb+1,bks:=σ.bks.set σ.nb {n:=0,rw:=true,cells:= .nil,arr:=some (k,σ.na,true)}}).2)
 | .ign::ps,σ=>(.one (.sc (.opq σ.nv))::(patL ps {σ with nv:=σ.nv+1}).1,(patL ps {σ with nv:=σ.nv+1}).2)
 | .kst v::ps,σ=>(.one (.sc (.kst v))::(patL ps σ).1,(patL ps σ).2)
def σ00:St:=⟨0,0,0,0,0,[],[],[],.nil,.nil⟩
def numsL:List Pa→List Int→List (List Int)→List Int
 | .int _::ps,n::is,as=>n::numsL ps is as
 | .agg _ _::ps,is,L::as=>L++numsL ps is as
 | .ptr _ _ _::ps,is,L::as=>L++numsL ps is as
 | .sl _ _ none::ps,is,L::as=>(L.length:Int)::numsL ps is as
 | .sl _ _ (some _)::ps,is,_::as=>numsL ps is as
 | .emp::ps,is,_::as=>numsL ps is as
 | .zc::ps,is,_::as=>numsL ps is as
 | .gr _::ps,is,L::as=>(L.length:Int)::numsL ps is as
 | .kst _::ps,is,as=>numsL ps is as
 | .ign::ps,is,as=>numsL ps is as
 | _,_,_=>[]
def listsL:List Pa→List Int→List (List Int)→List (List Int)
 | .int _::ps,_::is,as=>listsL ps is as
 | .agg _ _::ps,is,_::as=>listsL ps is as
 | .ptr _ _ _::ps,is,_::as=>listsL ps is as
 | .sl _ _ _::ps,is,L::as=>L::listsL ps is as
 | .emp::ps,is,_::as=>listsL ps is as
 | .zc::ps,is,_::as=>listsL ps is as
 | .gr _::ps,is,L::as=>L::listsL ps is as
 | .kst _::ps,is,as=>listsL ps is as
 | .ign::ps,is,as=>listsL ps is as
 | _,_,_=>[]
def num0 (F:Fns)(ps:List Pa)(is:List Int)(as:List (List Int)):Num:=⟨fun x=>(numsL ps is as).getD x 0,fun A=>(listsL ps is as).getD A [],F⟩
def Shape:List Pa→List Int→List (List Int)→Prop
 | [],[],[]=>True
 | .int _::ps,_::is,as=>Shape ps is as
 | .agg _ n::ps,is,L::as=>L.length=n∧Shape ps is as
 | .ptr _ n _::ps,is,L::as=>L.length=n∧Shape ps is as
 | .sl _ _ none::ps,is,_::as=>Shape ps is as
 | .sl _ _ (some n)::ps,is,L::as=>L.length=n∧Shape ps is as
 | .emp::ps,is,L::as=>L=[]∧Shape ps is as
 | .zc::ps,is,L::as=>L=[]∧Shape ps is as
 | .gr _::ps,is,_::as=>Shape ps is as
 | .kst _::ps,is,as=>Shape ps is as
 | .ign::ps,is,as=>Shape ps is as
 | _,_,_=>False
def Tie (N:Num)(E:Env)(bks:Tr Bk):Nat→List Pa→List (Option Win)→Prop
 | _,[],[]=>True
 | nb,.ptr _ _ _::ps,some x::ws=>(∃ c B,E.blk nb=some (x.q,x.s,c)∧bks.get nb=some B∧B.wid N c=x.n)∧Tie N E bks (nb+1) ps ws
 | nb,.sl _ _ _::ps,some x::ws=>(∃ c B,E.blk nb=some (x.q,x.s,c)∧bks.get nb=some B∧B.wid N c=x.n)∧Tie N E bks (nb+1) ps ws
 | nb,.zc::ps,none::ws=>Tie N E bks (nb+1) ps ws
 | nb,.gr _::ps,some x::ws=>(∃ c B,E.blk nb=some (x.q,x.s,c)∧bks.get nb=some B∧B.wid N c=x.n)∧Tie N E bks (nb+1) ps ws
 | nb,.int _::ps,none::ws=>Tie N E bks nb ps ws
 | nb,.agg _ _::ps,none::ws=>Tie N E bks nb ps ws
 | nb,.emp::ps,none::ws=>Tie N E bks nb ps ws
 | nb,.ign::ps,none::ws=>Tie N E bks nb ps ws
 | nb,.kst _::ps,none::ws=>Tie N E bks nb ps ws
 | _,_,_=>False
def rwBlk:Nat→List Pa→Option (Nat×IntKind)
 | nb,.ptr k _ true::_=>some (nb,k)
 | nb,.sl k true _::_=>some (nb,k)
 | nb,.ptr _ _ false::ps=>rwBlk (nb+1) ps
 | nb,.sl _ false _::ps=>rwBlk (nb+1) ps
 | nb,.zc::ps=>rwBlk (nb+1) ps
 | nb,.gr _::ps=>rwBlk (nb+1) ps
 | nb,_::ps=>rwBlk nb ps
 | _,[]=>none
def grBlk:Nat→List Pa→Option (Nat×IntKind)
 | nb,.gr k::_=>some (nb,k)
 | nb,.ptr _ _ _::ps=>grBlk (nb+1) ps
 | nb,.sl _ _ _::ps=>grBlk (nb+1) ps
 | nb,.zc::ps=>grBlk (nb+1) ps
 | nb,_::ps=>grBlk nb ps
 | _,[]=>none
section
variable {P:Program} {F:Fns} {N:Num} {E:Env} {σ σ':St}
theorem patL_get:∀ {ps:List Pa} {σ:St} {i:Nat},i<σ.nb→(patL ps σ).2.bks.get i=σ.bks.get i
 | [],_,_,_=>rfl
 | .int _::ps,σ,i,h=>patL_get (ps:=ps) (σ:={σ with nx:=σ.nx+1}) h
 | .agg _ n::ps,σ,i,h=>patL_get (ps:=ps) (σ:={σ with nx:=σ.nx+n}) h
 | .ptr k n rw::ps,σ,i,h=>by
  rw[patL,patL_get (ps:=ps) (by simp only;omega)]
  simp only
  rw[Tr.get_set,if_neg (by omega)]
 | .sl k rw none::ps,σ,i,h=>by
  rw[patL,patL_get (ps:=ps) (by simp only;omega)]
  simp only
  rw[Tr.get_set,if_neg (by omega)]
 | .sl k rw (some m)::ps,σ,i,h=>by
  rw[patL,patL_get (ps:=ps) (by simp only;omega)]
  simp only
  rw[Tr.get_set,if_neg (by omega)]
 | .emp::ps,σ,i,h=>patL_get (ps:=ps) (σ:={σ with nv:=σ.nv+1}) h
 | .zc::ps,σ,i,h=>patL_get (ps:=ps) (σ:={σ with nb:=σ.nb+1}) (by simp only;omega)
 | .gr k::ps,σ,i,h=>by
  rw[patL,patL_get (ps:=ps) (by simp only;omega)]
  simp only
  rw[Tr.get_set,if_neg (by omega)]
 | .ign::ps,σ,i,h=>patL_get (ps:=ps) (σ:={σ with nv:=σ.nv+1}) h
 | .kst _::ps,σ,i,h=>patL_get (ps:=ps) (σ:=σ) h
theorem patL_new {ps:List Pa}{σ1:St}{b:Nat}{B:Bk}{t:Tr Bk}(h:b<σ1.nb)(hs:σ1.bks=t.set b B):(patL ps σ1).2.bks.get b=some B:=by
 rw[patL_get h,hs,Tr.get_set,if_pos rfl]
theorem addBlk {B:Bk}{w:World}{q s c:Nat}{arr:Array Value}{el:TypeId}{fz:Nat×Nat}(hI:Inv E σ)(hw:BW N E σ.bks w)(hq:w.heap[q]? =some (.cells arr el fz))(hrw:B.rw=true→fz=(0,0))
  (hwid:s+B.wid N c≤arr.size) (hcont:B.cont N E s c arr)
  (hap:∀i B' s' c',σ.bks.get i=some B'→E.blk i=some (q,s',c')→(B'.rw=true∨B.rw=true)→s'+B'.wid N c'≤s∨s+B.wid N c≤s')
  (hs:σ'.bks=σ.bks.set σ.nb B) (hnb:σ'.nb=σ.nb+1) (hnv:σ'.nv=σ.nv) (hgl:σ'.gl=σ.gl) :
  E.le (E.addB σ.nb (q,s,c))∧Inv (E.addB σ.nb (q,s,c)) σ'∧BW N (E.addB σ.nb (q,s,c)) σ'.bks w∧(E.addB σ.nb (q,s,c)).blk σ.nb=some (q,s,c):=by
 have hle:E.le (E.addB σ.nb (q,s,c)):=by
  refine ⟨fun b q h=> ?_,fun _ _ h=>h⟩
  have:b≠σ.nb:=fun e=>by rw[e,hI.freshB σ.nb (Nat.le_refl _)] at h;cases h
  simp only[Env.addB,nbeq_ff this,cond_false]
  exact h
 have hself:(E.addB σ.nb (q,s,c)).blk σ.nb=some (q,s,c):=Env.addB_self
 have hoth:∀i,i≠σ.nb→(E.addB σ.nb (q,s,c)).blk i=E.blk i:=fun i h=>by simp only[Env.addB,nbeq_ff h,cond_false]
 refine ⟨hle,⟨fun b hb=> ?_,fun j hj=>hI.freshV j (by rw[←hnv];exact hj),fun t sv e=> ?_⟩,⟨fun i B1 e=> ?_,fun i i' B1 B2 q1 s1 s2 c1 c2 h1 h2 h3 h4 h5 h6=> ?_⟩,hself⟩
 ·rw [hnb] at hb
  rw[hoth b (by omega)]
  exact hI.freshB b (by omega)
 ·obtain ⟨h1,b,c,h2,h3⟩:=hI.glob t sv (by rw[←hgl];exact e)
  exact ⟨h1,b,c,h2,hle.blk _ _ h3⟩
 ·rw [hs,Tr.get_set] at e
  by_cases hi:i=σ.nb
  ·rw [if_pos hi] at e
   simp only[Option.some.injEq] at e
   subst e
   subst hi
   exact ⟨q,s,c,arr,el,fz,hself,hq,hrw,hwid,Bk.cont_mono hle hcont⟩
  ·rw [if_neg hi] at e
   obtain ⟨q',s',c1,arr',el',fz',g1,g2,g3,g4,g5⟩:=hw.at' i B1 e
   exact ⟨q',s',c1,arr',el',fz',hle.blk _ _ g1,g2,g3,g4,Bk.cont_mono hle g5⟩
 ·rw [hs,Tr.get_set] at h1 h2
  by_cases hi:i=σ.nb
  ·by_cases hi':i'=σ.nb
   ·exact absurd (hi.trans hi'.symm) h3
   ·rw [if_pos hi] at h1
    rw[if_neg hi'] at h2
    simp only[Option.some.injEq] at h1
    subst h1
    rw[hi,hself] at h4
    rw[hoth i' hi'] at h5
    simp only[Option.some.injEq,Prod.mk.injEq] at h4
    obtain ⟨rfl,rfl,rfl⟩:=h4
    exact (hap i' B2 s2 c2 h2 h5 h6.symm).symm
  ·rw [if_neg hi] at h1
   rw[hoth i hi] at h4
   by_cases hi':i'=σ.nb
   ·rw [if_pos hi'] at h2
    simp only[Option.some.injEq] at h2
    subst h2
    rw[hi',hself] at h5
    simp only[Option.some.injEq,Prod.mk.injEq] at h5
    obtain ⟨rfl,rfl,rfl⟩:=h5
    exact hap i B1 s1 c1 h1 h4 h6
   ·rw [if_neg hi'] at h2
    rw[hoth i' hi'] at h5
    exact hw.apart i i' B1 B2 _ _ _ _ _ h1 h2 h3 h4 h5 h6
theorem numsS_den {k:IntKind}:∀ {L:List Int} {x:Nat},(∀ j v,L[j]? =some v→N.i (x+j)=v)→denL N E (numsS k x L.length)=some (intsV k L)
 | [],_,_=>rfl
 | v::L,x,h=>by
  simp only[List.length_cons,numsS]
  refine denL_cons.2 ⟨.int k v,intsV k L,?_,numsS_den (fun j v hj=> ?_),rfl⟩
  ·simp only[Sc.den]
   rw[show N.i x=v from h 0 v rfl]
  ·have:=h (j+1) v (by simpa using hj)
   rw[show x+1+j=x+(j+1) by omega];exact this
theorem numsS_length {k:IntKind}:∀ {n x:Nat},(numsS k x n).length=n
 | 0,_=>rfl
 | n+1,x=>by simp[numsS,numsS_length]
theorem ptr_cont {k:IntKind}{L:List Int}{x s c:Nat}{rw:Bool}{arr:Array Value}(hx:∀j v,L[j]? =some v→N.i (x+j)=v)(ha:∀j v,L[j]? =some v→arr[s+j]? =some (.int k v)) :
  Bk.cont N E {n:=L.length,rw:=rw,cells:=trOf 0 (numsS k x L.length) .nil,arr:=none} s c arr:=by
 simp only[Bk.cont]
 intro j sc hj
 rw[trOf_get] at hj
 by_cases hjl:0≤j∧j<0+(numsS k x L.length).length
 ·rw [if_pos hjl] at hj
  obtain ⟨u,h1,h2⟩:=denL_get (numsS_den (E:=E) (k:=k) hx) (by simpa using hj)
  obtain ⟨v,h3,rfl⟩:=intsV_get h1
  rw[numsS_length] at hjl
  exact ⟨by omega,.int k v,ha j v h3,h2⟩
 ·rw [if_neg hjl] at hj;cases hj
set_option maxHeartbeats 1000000 in
theorem patL_ok {w:World}{ps:List Pa}{us:List Value}{is:List Int}{as:List (List Int)}{ws:List (Option Win)}(hA:Args w ps us is as ws):∀(σ:St) (E:Env),Inv E σ→BW N E σ.bks w →
  (∀ j v,(numsL ps is as)[j]? =some v→N.i (σ.nx+j)=v)→(∀ j L,(listsL ps is as)[j]? =some L→N.a (σ.na+j)=L)→ApartW ws →
  (∀ y,some y∈ws→∀i B s c,σ.bks.get i=some B→E.blk i=some (y.q,s,c)→(B.rw=true∨y.rw=true)→s+B.wid N c≤y.s∨y.s+y.n≤s) →
  ∃E',E.le E'∧Inv E' (patL ps σ).2∧BW N E' (patL ps σ).2.bks w∧denLV N E' (patL ps σ).1=some us∧Tie N E' (patL ps σ).2.bks σ.nb ps ws:=by
 induction hA with
 | nil=>intro σ E hI hw _ _ _ _;exact ⟨E,E.le_refl,hI,hw,rfl,trivial⟩
 | @int k n ps us is as ws h ih =>
  intro σ E hI hw hn hl ha hap
  obtain ⟨E',e1,e2,e3,e4,e5⟩:=ih {σ with nx:=σ.nx+1} E ⟨hI.freshB,hI.freshV,hI.glob⟩ hw (fun j v hj=>by
   have:=hn (j+1) v (by simpa [numsL] using hj)
   rw[show σ.nx+1+j=σ.nx+(j+1) by omega];exact this) hl ha (fun y hy=>hap y (List.mem_cons_of_mem _ hy))
  refine ⟨E',e1,e2,e3,denLV_cons.2 ⟨_,_,?_,e4,rfl⟩,e5⟩
  have:=hn 0 n rfl
  simp only[SV.den,V1.den,Sc.den]
  rw[show N.i σ.nx=n from this]
 | @agg k n L ps us is as ws hL h ih =>
  intro σ E hI hw hn hl ha hap
  subst hL
  obtain ⟨E',e1,e2,e3,e4,e5⟩:=ih {σ with nx:=σ.nx+L.length} E ⟨hI.freshB,hI.freshV,hI.glob⟩ hw (fun j v hj=>by
   have:=hn (L.length+j) v (by simp only[numsL];rw[List.getElem?_append_right (by omega)];simpa using hj)
   rw[show σ.nx+L.length+j=σ.nx+(L.length+j) by omega];exact this) hl ha (fun y hy=>hap y (List.mem_cons_of_mem _ hy))
  refine ⟨E',e1,e2,e3,denLV_cons.2 ⟨_,_,?_,e4,rfl⟩,e5⟩
  simp only[SV.den,V1.den]
  rw[numsS_den (fun j v hj=>hn j v (by simp only[numsL];rw[List.getElem?_append_left (some_lt' hj)];exact hj))]
  rfl
 | @ptr k n rw q s L ps us is as ws hm hL h ih =>
  intro σ E hI hw hn hl ha hap
  subst hL
  obtain ⟨arr,el,fz,m1,m2,m3,m4⟩:=hm
  have hx:∀j v,L[j]? =some v→N.i (σ.nx+j)=v:=fun j v hj=>hn j v (by simp only[numsL];rw[List.getElem?_append_left (some_lt' hj)];exact hj)
  obtain ⟨k1,k2,k3,k4⟩:=addBlk (σ:=σ) (σ':={σ with nx:=σ.nx+L.length,nb:=σ.nb+1,bks:=σ.bks.set σ.nb {n:=L.length,rw:=rw,cells:=trOf 0 (numsS k σ.nx L.length) .nil,arr:=none}})
   (B:={n:=L.length,rw:=rw,cells:=trOf 0 (numsS k σ.nx L.length) .nil,arr:=none}) (c:=L.length) hI hw m1 m2 m3 (ptr_cont hx m4)
   (fun i B' s' c' h1 h2 h3=>hap _ List.mem_cons_self i B' s' c' h1 h2 h3) rfl rfl rfl rfl
  obtain ⟨E',e1,e2,e3,e4,e5⟩:=ih _ _ k2 k3 (fun j v hj=>by
   have:=hn (L.length+j) v (by simp only[numsL];rw[List.getElem?_append_right (by omega)];simpa using hj)
   show N.i (σ.nx+L.length+j)=v
   rw[show σ.nx+L.length+j=σ.nx+(L.length+j) by omega];exact this) hl ha.2 (fun y hy i B' s' c' h1 h2 h3=>by
    rw[Tr.get_set] at h1
    by_cases hi:i=σ.nb
    ·rw [if_pos hi] at h1
     simp only[Option.some.injEq] at h1
     subst h1
     rw[hi,k4] at h2
     simp only[Option.some.injEq,Prod.mk.injEq] at h2
     obtain ⟨g1,rfl,rfl⟩:=h2
     exact ha.1 y hy g1 h3
    ·rw [if_neg hi] at h1
     simp only[Env.addB,nbeq_ff hi,cond_false] at h2
     exact hap y (List.mem_cons_of_mem _ hy) i B' s' c' h1 h2 h3)
  refine ⟨E',k1.trans e1,e2,e3,denLV_cons.2 ⟨_,_,?_,e4,rfl⟩,⟨_,{n:=L.length,rw:=rw,cells:=trOf 0 (numsS k σ.nx L.length) .nil,arr:=none},e1.blk _ _ k4,by rw[patL];exact patL_new (t:=σ.bks) (Nat.lt_succ_self _) rfl,rfl⟩,e5⟩
  exact ptr_mk (e1.blk _ _ k4) (Int.le_refl _)
 | @sl k rw n q s c L ps us is as ws hm hc hn' h ih =>
  intro σ E hI hw hn hl ha hap
  obtain ⟨arr,el,fz,m1,m2,m3,m4⟩:=hm
  have hA0:N.a σ.na=L:=hl 0 L (by cases n <;> rfl)
  have step:∀nx:Nat,∃E1,E.le E1∧Inv E1 {σ with nx:=nx,na:=σ.na+1,nb:=σ.nb+1,bks:=σ.bks.set σ.nb {n:=0,rw:=rw,cells:= .nil,arr:=some (k,σ.na,false)}} ∧
    BW N E1 (σ.bks.set σ.nb {n:=0,rw:=rw,cells:= .nil,arr:=some (k,σ.na,false)}) w∧E1.blk σ.nb=some (q,s,c)∧∀i,i≠σ.nb→E1.blk i=E.blk i:=fun nx=>by
   obtain ⟨k1,k2,k3,k4⟩:=addBlk (σ:=σ) (σ':={σ with nx:=nx,na:=σ.na+1,nb:=σ.nb+1,bks:=σ.bks.set σ.nb {n:=0,rw:=rw,cells:= .nil,arr:=some (k,σ.na,false)}})
    (B:={n:=0,rw:=rw,cells:= .nil,arr:=some (k,σ.na,false)}) (c:=c) hI hw m1 m2 (by simp only[Bk.wid,cond_false,hA0];exact m3)
    (by simp only[Bk.cont,hA0];exact ⟨m4,fun e=>by cases e⟩)
    (fun i B' s' c' h1 h2 h3=>by
     simp only[Bk.wid,cond_false,hA0]
     exact hap _ List.mem_cons_self i B' s' c' h1 h2 h3) rfl rfl rfl rfl
   exact ⟨_,k1,k2,k3,k4,fun i hi=>by simp only[Env.addB,nbeq_ff hi,cond_false]⟩
  have apart':∀ {E1:Env},E1.blk σ.nb=some (q,s,c)→(∀ i,i≠σ.nb→E1.blk i=E.blk i)→∀y,some y∈ws→∀i B' s' c',
    (σ.bks.set σ.nb {n:=0,rw:=rw,cells:= .nil,arr:=some (k,σ.na,false)}).get i=some B'→E1.blk i=some (y.q,s',c')→(B'.rw=true∨y.rw=true)→s'+B'.wid N c'≤y.s∨y.s+y.n≤s':=fun {E1} k4 k5 y hy i B' s' c' h1 h2 h3=>by
   rw[Tr.get_set] at h1
   by_cases hi:i=σ.nb
   ·rw [if_pos hi] at h1
    simp only[Option.some.injEq] at h1
    subst h1
    rw[hi,k4] at h2
    simp only[Option.some.injEq,Prod.mk.injEq] at h2
    obtain ⟨g1,rfl,rfl⟩:=h2
    simp only[Bk.wid,cond_false,hA0]
    exact ha.1 y hy g1 h3
   ·rw [if_neg hi] at h1
    rw[k5 i hi] at h2
    exact hap y (List.mem_cons_of_mem _ hy) i B' s' c' h1 h2 h3
  cases n with
  | none =>
   obtain ⟨E1,k1,k2,k3,k4,k5⟩:=step (σ.nx+1)
   obtain ⟨E',e1,e2,e3,e4,e5⟩:=ih _ _ k2 k3 (fun j v hj=>by
    have:=hn (j+1) v (by simpa [numsL] using hj)
    show N.i (σ.nx+1+j)=v
    rw[show σ.nx+1+j=σ.nx+(j+1) by omega];exact this) (fun j L' hj=>by
    have:=hl (j+1) L' (by simpa [listsL] using hj)
    show N.a (σ.na+1+j)=L'
    rw[show σ.na+1+j=σ.na+(j+1) by omega];exact this) ha.2 (apart' k4 k5)
   refine ⟨E',k1.trans e1,e2,e3,denLV_cons.2 ⟨_,_,?_,e4,rfl⟩,⟨_,{n:=0,rw:=rw,cells:= .nil,arr:=some (k,σ.na,false)},e1.blk _ _ k4,by rw[patL];exact patL_new (t:=σ.bks) (Nat.lt_succ_self _) rfl,by simp only[Bk.wid,cond_false,hA0]⟩,e5⟩
   have hlen:N.i σ.nx=(L.length:Int):=hn 0 _ rfl
   have h9:=sl_mk (N:=N) (E:=E') (b:=σ.nb) (off:= .kst 0) (len:= .var σ.nx) (cap:=none) (e1.blk _ _ k4) (Int.le_refl _) (fun _=>by simp only[Ar.ev,hlen];simpa using hc)
   simp only[SV.den,V1.den,h9,capOf,Ar.ev,hlen]
   simp
  | some m =>
   obtain ⟨E1,k1,k2,k3,k4,k5⟩:=step σ.nx
   obtain ⟨E',e1,e2,e3,e4,e5⟩:=ih _ _ k2 k3 (fun j v hj=>hn j v (by simpa [numsL] using hj)) (fun j L' hj=>by
    have:=hl (j+1) L' (by simpa [listsL] using hj)
    show N.a (σ.na+1+j)=L'
    rw[show σ.na+1+j=σ.na+(j+1) by omega];exact this) ha.2 (apart' k4 k5)
   refine ⟨E',k1.trans e1,e2,e3,denLV_cons.2 ⟨_,_,?_,e4,rfl⟩,⟨_,{n:=0,rw:=rw,cells:= .nil,arr:=some (k,σ.na,false)},e1.blk _ _ k4,by rw[patL];exact patL_new (t:=σ.bks) (Nat.lt_succ_self _) rfl,by simp only[Bk.wid,cond_false,hA0]⟩,e5⟩
   have hlen:=hn' m rfl
   have h9:=sl_mk (N:=N) (E:=E') (b:=σ.nb) (off:= .kst 0) (len:= .kst m) (cap:=none) (e1.blk _ _ k4) (Int.le_refl _) (fun _=>by simp only[Ar.ev];simp;omega)
   simp only[SV.den,V1.den,h9,capOf,Ar.ev]
   simp[hlen]
 | @emp b c ps us is as ws h ih =>
  intro σ E hI hw hn hl ha hap
  have hle:E.le (E.addV σ.nv (.slice b 0 c)):=⟨fun _ _ h=>h,fun i v h=>by
   have:i≠σ.nv:=fun e=>by rw[e,hI.freshV σ.nv (Nat.le_refl _)] at h;cases h
   simp only[Env.addV,nbeq_ff this,cond_false];exact h⟩
  have hI':Inv (E.addV σ.nv (.slice b 0 c)) {σ with nv:=σ.nv+1}:=⟨hI.freshB,fun i hi=>by
   have hi':σ.nv+1≤i:=hi
   have:i≠σ.nv:=by omega
   simp only[Env.addV,nbeq_ff this,cond_false];exact hI.freshV i (by omega),hI.glob⟩
  obtain ⟨E',e1,e2,e3,e4,e5⟩:=ih _ _ hI' (BW.mono hle hw) hn hl ha (fun y hy=>hap y (List.mem_cons_of_mem _ hy))
  refine ⟨E',hle.trans e1,e2,e3,denLV_cons.2 ⟨_,_,?_,e4,rfl⟩,e5⟩
  have:(E.addV σ.nv (.slice b 0 c)).val σ.nv=some (.slice b 0 c):=by simp only[Env.addV,nbeq_tt rfl,cond_true]
  have:=e1.val _ _ this
  simp only[SV.den,V1.den,Sc.den,this]
 | @ign v0 ps us is as ws hv0 h ih =>
  intro σ E hI hw hn hl ha hap
  have hle:E.le (E.addV σ.nv v0):=⟨fun _ _ h=>h,fun i v h=>by
   have:i≠σ.nv:=fun e=>by rw[e,hI.freshV σ.nv (Nat.le_refl _)] at h;cases h
   simp only[Env.addV,nbeq_ff this,cond_false];exact h⟩
  have hI':Inv (E.addV σ.nv v0) {σ with nv:=σ.nv+1}:=⟨hI.freshB,fun i hi=>by
   have hi':σ.nv+1≤i:=hi
   have:i≠σ.nv:=by omega
   simp only[Env.addV,nbeq_ff this,cond_false];exact hI.freshV i (by omega),hI.glob⟩
  obtain ⟨E',e1,e2,e3,e4,e5⟩:=ih _ _ hI' (BW.mono hle hw) hn hl ha (fun y hy=>hap y (List.mem_cons_of_mem _ hy))
  refine ⟨E',hle.trans e1,e2,e3,denLV_cons.2 ⟨_,_,?_,e4,rfl⟩,e5⟩
  have:(E.addV σ.nv v0).val σ.nv=some v0:=by simp only[Env.addV,nbeq_tt rfl,cond_true]
  have:=e1.val _ _ this
  simp only[SV.den,V1.den,Sc.den,this,hv0,cond_true]
 | @zc q s ps us is as ws h ih =>
  intro σ E hI hw hn hl ha hap
  have hle:E.le (E.addB σ.nb (q,s,0)):=by
   refine ⟨fun b q h=> ?_,fun _ _ h=>h⟩
   have:b≠σ.nb:=fun e=>by rw[e,hI.freshB σ.nb (Nat.le_refl _)] at h;cases h
   simp only[Env.addB,nbeq_ff this,cond_false]
   exact h
  have hnone:σ.bks.get σ.nb=none:=by
   cases hb:σ.bks.get σ.nb with
   | none=>rfl
   | some B =>
    obtain ⟨q',s',c',arr,el,fz,g1,_⟩:=hw.at' _ B hb
    rw[hI.freshB σ.nb (Nat.le_refl _)] at g1;cases g1
  have hI':Inv (E.addB σ.nb (q,s,0)) {σ with nb:=σ.nb+1}:=⟨fun i hi=>by
   have hi':σ.nb+1≤i:=hi
   have:i≠σ.nb:=by omega
   simp only[Env.addB,nbeq_ff this,cond_false];exact hI.freshB i (by omega),hI.freshV,fun t sv e=>by
   obtain ⟨h1,b,c,h2,h3⟩:=hI.glob t sv e
   exact ⟨h1,b,c,h2,hle.blk _ _ h3⟩⟩
  obtain ⟨E',e1,e2,e3,e4,e5⟩:=ih _ _ hI' (BW.mono hle hw) hn hl ha (fun y hy i B' s' c' h1 h2 h3=>by
   have hi:i≠σ.nb:=fun e=>by
    have h1':σ.bks.get i=some B':=h1
    rw[e,hnone] at h1';cases h1'
   simp only[Env.addB,nbeq_ff hi,cond_false] at h2
   exact hap y (List.mem_cons_of_mem _ hy) i B' s' c' h1 h2 h3)
  refine ⟨E',hle.trans e1,e2,e3,denLV_cons.2 ⟨_,_,?_,e4,rfl⟩,e5⟩
  have h9:=sl_mk (N:=N) (E:=E') (b:=σ.nb) (off:= .kst 0) (len:= .kst 0) (cap:=some (.kst 0)) (e1.blk _ _ Env.addB_self) (Int.le_refl _) (fun e=>by cases e)
  simp only[SV.den,V1.den,h9,capOf,Ar.ev]
  simp
 | @gr k q s c L ps us is as ws hm hc h ih =>
  intro σ E hI hw hn hl ha hap
  obtain ⟨arr,el,m1,m2,m3,m4⟩:=hm
  have hA0:N.a σ.na=L:=hl 0 L rfl
  have hwid:Bk.wid N {n:=0,rw:=true,cells:= .nil,arr:=some (k,σ.na,true)} c=c:=by simp only[Bk.wid,cond_true,hA0];exact Nat.max_eq_left hc
  obtain ⟨k1,k2,k3,k4⟩:=addBlk (σ:=σ) (σ':={σ with nx:=σ.nx+1,na:=σ.na+1,nb:=σ.nb+1,bks:=σ.bks.set σ.nb {n:=0,rw:=true,cells:= .nil,arr:=some (k,σ.na,true)}})
   (B:={n:=0,rw:=true,cells:= .nil,arr:=some (k,σ.na,true)}) (c:=c) hI hw m1 (fun _=>rfl) (by rw[hwid];exact m2) (by simp only[Bk.cont,hA0];exact ⟨m3,fun _=>m4⟩)
   (fun i B' s' c' h1 h2 h3=>by rw[hwid];exact hap _ List.mem_cons_self i B' s' c' h1 h2 (.inr rfl)) rfl rfl rfl rfl
  obtain ⟨E',e1,e2,e3,e4,e5⟩:=ih _ _ k2 k3 (fun j v hj=>by
   have:=hn (j+1) v (by simpa [numsL] using hj)
   show N.i (σ.nx+1+j)=v
   rw[show σ.nx+1+j=σ.nx+(j+1) by omega];exact this) (fun j L' hj=>by
   have:=hl (j+1) L' (by simpa [listsL] using hj)
   show N.a (σ.na+1+j)=L'
   rw[show σ.na+1+j=σ.na+(j+1) by omega];exact this) ha.2 (fun y hy i B' s' c' h1 h2 h3=>by
    rw[Tr.get_set] at h1
    by_cases hi:i=σ.nb
    ·rw [if_pos hi] at h1
     simp only[Option.some.injEq] at h1
     subst h1
     rw[hi,k4] at h2
     simp only[Option.some.injEq,Prod.mk.injEq] at h2
     obtain ⟨g1,rfl,rfl⟩:=h2
     rw[hwid]
     exact ha.1 y hy g1 h3
    ·rw [if_neg hi] at h1
     simp only[Env.addB,nbeq_ff hi,cond_false] at h2
     exact hap y (List.mem_cons_of_mem _ hy) i B' s' c' h1 h2 h3)
  refine ⟨E',k1.trans e1,e2,e3,denLV_cons.2 ⟨_,_,?_,e4,rfl⟩,⟨_,{n:=0,rw:=true,cells:= .nil,arr:=some (k,σ.na,true)},e1.blk _ _ k4,by rw[patL];exact patL_new (t:=σ.bks) (Nat.lt_succ_self _) rfl,hwid⟩,e5⟩
  have hlen:N.i σ.nx=(L.length:Int):=hn 0 _ rfl
  have h9:=sl_mk (N:=N) (E:=E') (b:=σ.nb) (off:= .kst 0) (len:= .var σ.nx) (cap:=none) (e1.blk _ _ k4) (Int.le_refl _) (fun _=>by simp only[Ar.ev,hlen];simpa using hc)
  simp only[SV.den,V1.den,h9,capOf,Ar.ev,hlen]
  simp
 | @kst v ps us is as ws hv h ih =>
  intro σ E hI hw hn hl ha hap
  obtain ⟨E',e1,e2,e3,e4,e5⟩:=ih _ _ hI hw hn hl ha (fun y hy=>hap y (List.mem_cons_of_mem _ hy))
  exact ⟨E',e1,e2,e3,denLV_cons.2 ⟨_,_,by simp only[SV.den,V1.den,Sc.den,hv,cond_true],e4,rfl⟩,e5⟩
 where
 some_lt' {l:List Int} {i:Nat} {x:Int} (h:l[i]? =some x):i<l.length:=by
  rcases Nat.lt_or_ge i l.length with k | k
  ·exact k
  ·rw [List.getElem?_eq_none k] at h;cases h
theorem Args.shape {w:World}{ps:List Pa}{us:List Value}{is:List Int}{as:List (List Int)}{ws:List (Option Win)}(hA:Args w ps us is as ws):Shape ps is as:=by
 induction hA with
 | nil=>trivial
 | int h ih=>exact ih
 | agg hl h ih=>exact ⟨hl,ih⟩
 | ptr hm hl h ih=>exact ⟨hl,ih⟩
 | @sl k rw n q s c L ps us is as ws hm hc hn h ih =>
  cases n with
  | none=>exact ih
  | some m=>exact ⟨hn m rfl,ih⟩
 | emp h ih=>exact ⟨rfl,ih⟩
 | ign hv h ih=>exact ih
 | zc h ih=>exact ⟨rfl,ih⟩
 | gr hm hc h ih=>exact ih
 | kst hv h ih=>exact ih
theorem getD_of {α:Type}{l:List α}{j:Nat}{v d:α}(h:l[j]? =some v):l.getD j d=v:=by
 rw[List.getD_eq_getElem?_getD,h];rfl
theorem dup_den {d:Bool}{args:List SV}{us:List Value}(h:denLV N E args=some us):denLV N E (dupL d args)=some (dupL d us):=by
 cases d with
 | false=>exact h
 | true =>
  cases args with
  | nil=>simp only[denLV,Option.some.injEq] at h;subst h;rfl
  | cons x r =>
   obtain ⟨u,us1,d1,d2,rfl⟩:=denLV_cons.1 h
   exact denLV_cons.2 ⟨u,_,d1,h,rfl⟩
theorem cspec_enter {ct:Ct}{f:FuncId}{fn:Func}{body:Code}{args:List SV}{σe:St}(hp:patL ct.ps σ00=(args,σe))(hf:P.funcs[f]? =some fn)(hb:fn.body=some body)(hn:Nat.ble (dupL ct.dup args).length fn.ntmps=true)(hni:σe.ni=0)
  (H:∀is as ws w E a,Shape ct.ps is as→F.p ct.p is as→Inv E σe→Tie (num0 F ct.ps is as) E σe.bks 0 ct.ps ws→BW (num0 F ct.ps is as) E σe.bks w→At F fn.ntmps (num0 F ct.ps is as) E σe w (trArgs 0 (dupL ct.dup args) σe.gl) σe (num0 F ct.ps is as) a w →
   Args w ct.ps (args.map fun x=>(x.den (num0 F ct.ps is as) E).getD undef) is as ws →
   body.wp P (wpK P [] (bodyPost P fn fun e w'=>∃u,e= .returned u∧ResOk P F ct is as ws w u w')) a w):CSpec P F f ct:=by
 intro us is as ws w hA hW hpr
 have hI0:Inv ⟨fun _=>none,fun _=>none⟩ σ00:=⟨fun _ _=>rfl,fun _ _=>rfl,fun t sv e=>by cases e⟩
 have hB0:BW (num0 F ct.ps is as) ⟨fun _=>none,fun _=>none⟩ σ00.bks w:=⟨fun i B e=>(by cases e),fun i i' B B' q s s' c c' e=>(by cases e)⟩
 obtain ⟨E,_,e2,e3,e4,e5⟩:=patL_ok (N:=num0 F ct.ps is as) hA _ _ hI0 hB0 (fun j v hj=>by simp only[num0];rw[show σ00.nx+j=j by simp[σ00]];exact getD_of hj)
  (fun j L hj=>by simp only[num0];rw[show σ00.na+j=j by simp[σ00]];exact getD_of hj) hW (fun y hy i B s c e=>by cases e)
 rw[hp] at e2 e3 e4 e5
 refine calls_of_wp hf hb (H is as ws w E _ hA.shape hpr e2 e5 e3 ⟨rfl,fun x hx=>by rw[hni] at hx;omega,E,RA.enter e2 (dup_den e4) (Nat.le_of_ble_eq_true hn),Post.refl e2 e3⟩ ?_)
 rwa [den_map e4]
 where
 den_map {N:Num} {E:Env}:∀ {l:List SV} {us:List Value},denLV N E l=some us→(l.map fun x=>(x.den N E).getD undef)=us
  | [],us,h=>by simp only[denLV,Option.some.injEq] at h;subst h;rfl
  | x::l,us,h=>by
   obtain ⟨v,r,h1,h2,rfl⟩:=denLV_cons.1 h
   simp only[List.map_cons,h1,den_map h2,Option.getD_some]
end
end Go.Sy
