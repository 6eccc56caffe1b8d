/- Numbers bounded, sums of products: what straight code comes to, checked. -/
import Derived.Test.YtnfikgagkamioaaGreatDoorProg
import Derived.KernelRfl
import Derived.Test.YtnfikgagkamioaaGreatDoorSy21
namespace Go.Sy
def mkT {α:Type}:List (Nat×α)→Tr α→Tr α
 | [],t=>t
 | (k,x)::l,t=>mkT l (t.set k x)
structure Ent (F:Fns) (ct:Ct) (is:List Int) (az:List (List Int)) (ws:List (Option Win)) (we:World) (Ne:Num) (Ee:Env) (σe:St):Prop where
 inv:Inv Ee σe
 tie:Tie Ne Ee σe.bks 0 ct.ps ws
 bw:BW Ne Ee σe.bks we
 args:∃us,Args we ct.ps us is az ws
def Qend (P:Program)(F:Fns)(fn:Func)(ct:Ct)(is:List Int)(az:List (List Int))(ws:List (Option Win))(we:World):Exit→Act→World→Prop :=
 bodyPost P fn fun e w'=>∃u,e= .returned u∧ResOk P F ct is az ws we u w'
def notExit:Ex→Bool
 | .exit _=>false
 | _=>true
def endD (P:Program)(ct:Ct)(σe:St)(fn:Func)(σ:St)(r:Option (Out×Tr SV×St)):Option (Sum1×List Df×List Ob) :=
 match r with
 | some (.done e,T1,σ1) =>
  bif notExit e&&oneSl ct.res then
   match resS T1 P fn.results.toList σ1 with
   | some (vs,σ2)=>match summ ct σe vs σ2,ordOk σ.nx σ.na σ2.defs with
    | some S,some _=>some (S,σ2.defs,σ2.obs)
    | _,_=>none
   | none=>none
  else none
 | _=>none
def atD (σe:St)(T0:Tr SV)(σ0:St)(σ:St)(T1:Tr SV)(σ1:St):Option (List Ar×List (Option Nat)×List Df×List Ob) :=
 match mtch σe.nb σe.nv T0 σ0 T1 σ1,ordOk σ.nx σ.na σ1.defs with
 | some m,some _=>bif Nat.ble σe.nb σ0.nb&&Nat.ble σe.nv σ0.nv&&patB T0 σ0 then
  some ((List.range σ0.nx).map (fun x=>(m.i.get x).getD (.kst 0)),(List.range σ0.na).map m.a.get,σ1.defs,σ1.obs)
  else none
 | _,_=>none
def headD (σe:St)(T0:Tr SV)(σ0:St)(σ:St)(r:Option (Out×Tr SV×St)):Option ((Code×List Kt)×List Ar×List (Option Nat)×List Df×List Ob) :=
 match r with
 | some (.at c ks,T1,σ1)=>(atD σe T0 σ0 σ T1 σ1).map ((c,ks),·)
 | _=>none
def runB (P:Program)(call:FuncId→List SV→St→Option (SV×St))(stops:List Nat)(n f fuel:Nat)(b:Code)(ks:List Kt)(T:Tr SV)(σ:St):Option (Bool×Out×Tr SV×St) :=
 match runK P call stops n f fuel b [] T σ with
 | some (.done .normal,T1,σ1)=>some (true,.done .normal,T1,σ1)
 | some (.done e,T1,σ1)=>match unw ks e with
  | .inl e=>some (false,.done e,T1,σ1)
  | .inr (c,ks)=>match runK P call stops n f fuel c ks T1 σ1 with
   | some r=>some (false,r)
   | none=>none
 | _=>none
def roundD (σe:St)(T0:Tr SV)(σ0:St)(σ:St)(r:Option (Bool×Out×Tr SV×St)):Option (List Ar×List (Option Nat)×List Df×List Ob) :=
 match r with
 | some (true,_,T1,σ1)=>atD σe T0 σ0 σ T1 σ1
 | _=>none
def outD (r:Option (Bool×Out×Tr SV×St)):Option (Out×Tr SV×St) :=
 match r with
 | some (false,r)=>some r
 | _=>none
def findLoop (id:Nat):Code→List Kt→Option (Code×List Kt)
 | .seq a b,ks=>match findLoop id a (.seq b::ks) with
  | some r=>some r
  | none=>findLoop id b ks
 | .block i b,ks=>findLoop id b (.block i::ks)
 | .cond _ a b,ks=>match findLoop id a ks with
  | some r=>some r
  | none=>findLoop id b ks
 | .loop b,ks=>match firstReg b with
  | some i=>bif Nat.beq i id then some (b,ks) else none
  | none=>none
 | _,_=>none
def loopOf (P:Program)(f id:Nat):Code×List Kt :=
 match P.funcs[f]? with
 | some fn=>match fn.body with
  | some b=>(findLoop id b []).getD (.skip,[])
  | none=>(.skip,[])
 | none=>(.skip,[])
def pn (is:List Ar)(az:List (Option Nat))(N:Num):Num :=
 ⟨fun x=>(is.getD x (.kst 0)).ev N,fun A=>match az.getD A none with | some B=>N.a B | none=>[],N.f⟩
section
variable {P:Program} {F:Fns} {call:FuncId→List SV→St→Option (SV×St)} {n:Nat} {Ne:Num} {Ee:Env} {σe:St} {we:World}
theorem At.agr {T:Tr SV}{σ:St}{N N':Num}{a:Act}{w:World}(h:Agr σ.nx σ.na N N')(hpat:patB T σ=true)(hat:At F n Ne Ee σe we T σ N a w):At F n Ne Ee σe we T σ N' a w:=by
 obtain ⟨_,_,hT,hB,hni⟩:=patB_spec hpat;obtain ⟨h1,h2,E,h3,h4⟩:=hat;exact ⟨h.f.trans h1,fun x hx=>by rw[h.i x (by omega)];exact h2 x hx,E,RA.agr h hT h3,Post.agr h hB h4⟩
theorem getD_range {α _β:Type}{f:Nat→α}{n x:Nat}{d:α}(h:x<n):((List.range n).map f).getD x d=f x:=by
 rw[aE,bP,cL h];rfl
theorem atD_at {T0 T1:Tr SV}{σ0 σ σ1:St}{is:List Ar}{az:List (Option Nat)}{ds:List Df}{os:List Ob}{N:Num}{a:Act}{w:World}(h:atD σe T0 σ0 σ T1 σ1=some (is,az,ds,os))(hI:Inv Ee σe)(hgl:σ0.gl=σe.gl)(hni:σ0.ni=0)
 (hat:At F n Ne Ee σe we T1 σ1 N a w):At F n Ne Ee σe we T0 σ0 (pn is az N) a w:=by
 unfold atD at h;split at h
 ·rename_i m _ hm _;cases hb:(Nat.ble σe.nb σ0.nb&&Nat.ble σe.nv σ0.nv&&patB T0 σ0) with
  | false=>rw[hb] at h;cases h
  | true =>
   rw[hb] at h;simp only[aH,aA,aD] at h;obtain ⟨rfl,rfl,rfl,rfl⟩:=h;simp only[aG] at hb;have:=At.match hI hat hm hb.1.1 hb.1.2 hgl (fun x hx=>by rw[hni] at hx;omega)
   refine At.agr (N:=m.num N) ⟨rfl,fun x hx=> ?_,fun A hA=> ?_⟩ hb.2 this
   ·simp only[pn,M.num];rw[getD_range (_β:=Nat) hx];cases m.i.get x with
    | none=>rfl
    | some q=>rfl
   ·simp only[pn,M.num];rw[getD_range (_β:=Nat) hA];cases m.a.get A <;> rfl
 ·cases h
theorem atD_ds {T0 T1:Tr SV}{σ0 σ σ1:St}{is:List Ar}{az:List (Option Nat)}{ds:List Df}{os:List Ob}(h:atD σe T0 σ0 σ T1 σ1=some (is,az,ds,os)):σ1.defs=ds∧σ1.obs=os∧∃mx,ordOk σ.nx σ.na σ1.defs=some mx:=by
 unfold atD at h;split at h
 ·rename_i m mx _ ho;cases hb:(Nat.ble σe.nb σ0.nb&&Nat.ble σe.nv σ0.nv&&patB T0 σ0) with
  | false=>rw[hb] at h;cases h
  | true =>rw[hb] at h;simp only[aH,aA,aD] at h;exact ⟨h.2.2.1,h.2.2.2,mx,ho⟩
 ·cases h
theorem ext_at {T:Tr SV}{σ σ1:St}{o:List Bool}{mx:Nat×Nat}{N:Num}{a:Act}{w:World}(hpat:patB T σ=true)(hord:ordOk σ.nx σ.na σ1.defs=some mx)(hni1:σ1.ni=σ.ni)(hat:At F n Ne Ee σe we T σ N a w) :
 ∃N',Agr σ.nx σ.na N N'∧N'.f=F∧(∀ d∈σ1.defs,d.sat N')∧((∀ ob∈σ1.obs,ob.holds N')→Hold F N' σ1∧∃E,RA N' E n T a∧Post Ne Ee σe we N' E (σ.ask' o) w):=by
 obtain ⟨hd,hob,hT,hB,hni⟩:=patB_spec hpat;obtain ⟨hF,hins,E,hA,hp⟩:=hat;obtain ⟨mx,ma⟩:=mx;obtain ⟨_,_,hagr,hsat,_⟩:=ext_spec (N:=N) hord;refine ⟨ext N σ1.defs,hagr,hagr.f.trans hF,hsat,fun hobs=>⟨⟨hagr.f.trans hF,hsat,hobs,fun x hx=> ?_⟩,E,RA.agr hagr hT hA,?_⟩⟩
 ·rw [hni1] at hx;rw[hagr.i x (by omega)];exact hins x hx
 ·have:=Post.agr hagr hB hp;exact ⟨⟨this.inv.freshB,this.inv.freshV,this.inv.glob⟩,this.le,this.bw,this.kept,this.win⟩
theorem runB_ext (hcall:CallOk F P call){stops:List Nat}{f fuel:Nat}{b:Code}{ks:List Kt}{T T1:Tr SV}{σ σ1:St}{r:Bool}{out:Out}(h:runB P call stops n f fuel b ks T σ=some (r,out,T1,σ1)):Ext σ σ1:=by
 unfold runB at h;split at h
 ·rename_i hr;simp only[aA,aD] at h;rw[←h.2.2.2];exact runK_ext hcall f hr
 ·rename_i hr;split at h
  ·simp only[aA,aD] at h;rw[←h.2.2.2];exact runK_ext hcall f hr
  ·split at h
   ·rename_i h2;simp only[aA,aD] at h;obtain ⟨_,rfl⟩:=h;exact (runK_ext hcall f hr).trans (runK_ext hcall f h2)
   ·cases h
 ·cases h
theorem runB_sound (hm:P.follows .mixedOrders=true)(hcall:CallOk F P call){stops:List Nat}{f fuel:Nat}{b:Code}{ks:List Kt}{T T1:Tr SV}{σ σ1:St}{r:Bool}{out:Out}(h:runB P call stops n f fuel b ks T σ=some (r,out,T1,σ1))
 {N:Num} {E:Env} {a:Act} {w:World} (hH:Hold F N σ1) (hA:RA N E n T a) (hI:Inv E σ) (hw:BW N E σ.bks w) {K:Act→World→Prop} {Q:Exit→Act→World→Prop}
 (hQ:∀E' a' w',RA N E' n T1 a'→Post N E σ w N E' σ1 w'→(r=true→K a' w')∧(r=false→outK P Q out a' w')):b.wp P (Exit.then K (wpK P ks Q)) a w:=by
 unfold runB at h;split at h
 ·rename_i hr;simp only[aA,aD] at h;obtain ⟨rfl,rfl,rfl,rfl⟩:=h;refine gL (Q:=Exit.then K (wpK P ks Q)) hm hcall f hr hH hA hI hw fun E' a' w' h1 h2=> ?_
  exact (hQ E' a' w' h1 h2).1 rfl
 ·rename_i e T2 σ2 hne hr;have hne':e≠ .normal:=hne;have hth:∀a' w',wpK P ks Q e.den a' w'→outK P (Exit.then K (wpK P ks Q)) (.done e) a' w':=fun a' w' k=>by
   cases e with
   | normal=>exact (hne' rfl).elim
   | exit id=>exact k
   | ret=>exact k
  split at h
  ·rename_i e' hu;simp only[aA,aD] at h;obtain ⟨rfl,rfl,rfl,rfl⟩:=h;refine gL (Q:=Exit.then K (wpK P ks Q)) hm hcall f hr hH hA hI hw fun E' a' w' h1 h2=> ?_
   exact hth a' w' (unw_done hu ((hQ E' a' w' h1 h2).2 rfl))
  ·rename_i c ks' hu;split at h
   ·rename_i r' h2;simp only[aA,aD] at h;obtain ⟨rfl,rfl⟩:=h;refine gL (Q:=Exit.then K (wpK P ks Q)) hm hcall f hr (eT (runK_ext hcall f h2) hH) hA hI hw fun E' a' w' h1 hp1=> ?_
    refine hth a' w' (unw_more hu ?_);exact gL (Q:=Q) hm hcall f h2 hH h1 hp1.inv hp1.bw fun E2 a2 w2 g1 g2=>(hQ E2 a2 w2 g1 (hp1.trans g2)).2 rfl
   ·cases h
 ·cases h
theorem endD_inv {ct:Ct}{fn:Func}{σ:St}{r:Option (Out×Tr SV×St)}{S:Sum1}{ds:List Df}{os:List Ob}(h:endD P ct σe fn σ r=some (S,ds,os)) :
 ∃e T1 σ1 vs σ2 mx,r=some (.done e,T1,σ1)∧(∀ id,e≠ .exit id)∧oneSl ct.res=true∧resS T1 P fn.results.toList σ1=some (vs,σ2)∧summ ct σe vs σ2=some S∧ordOk σ.nx σ.na σ2.defs=some mx∧ds=σ2.defs∧os=σ2.obs:=by
 unfold endD at h;split at h
 ·rename_i e T1 σ1;cases hb:(notExit e&&oneSl ct.res) with
  | false=>rw[hb] at h;cases h
  | true =>
   rw[hb] at h;simp only[aH] at h;simp only[aG] at hb;split at h
   ·rename_i vs σ2 hr;split at h
    ·rename_i S' mx hs ho;simp only[aA,aD] at h;obtain ⟨rfl,rfl,rfl⟩:=h;exact ⟨e,T1,σ1,vs,σ2,mx,rfl,(fun id he=>by rw[he] at hb;cases hb.1),hb.2,hr,hs,ho,rfl,rfl⟩
    ·cases h
   ·cases h
 ·cases h
theorem end_ok {ct:Ct}{fn:Func}{is:List Int}{az:List (List Int)}{ws:List (Option Win)}{e:Ex}{T1:Tr SV}{σ1 σ2:St}{vs:List V1}{S:Sum1}{N:Num}{E:Env}{a:Act}{w:World}(he:∀id,e≠ .exit id)(h1:oneSl ct.res=true)(hres:resS T1 P fn.results.toList σ1=some (vs,σ2))
 (hS:summ ct σe vs σ2=some S) (hH:Hold F N σ2) (hA:RA N E fn.ntmps T1 a) (hp:Post Ne Ee σe we N E σ1 w) (hent:Ent F ct is az ws we Ne Ee σe) (hok:S.ok N F ct is az) (hlen:∀L,rwArg ct.ps is az=some L→(F.a ct.fw is az).length=L.length) :
 Qend P F fn ct is az ws we e.den a w:=by
 obtain ⟨u,hu,hrun⟩:=resV_run hA hp.bw hres hH;obtain ⟨us,hargs⟩:=hent.args;have:=resOk_of (P:=P) hS h1 hu (hp.trans (fD (resS_pur hres) hp.inv hp.bw)) hent.bw hent.tie hargs hok hlen;cases e with
 | normal=>exact ⟨hA.defers,u,hrun,u,rfl,this⟩
 | ret=>exact ⟨hA.defers,u,hrun,u,rfl,this⟩
 | exit id=>exact (he id rfl).elim
variable {ct:Ct} {fn:Func} {is:List Int} {az:List (List Int)} {ws:List (Option Win)} {stops:List Nat} {f fuel:Nat} {c b:Code} {ks:List Kt} {T T0:Tr SV} {σ σ0:St} {o:List Bool} {S:Sum1} {ds:List Df} {os:List Ob} {N:Num} {a:Act} {w:World} {is':List Ar} {as':List (Option Nat)}
theorem to_end (hm:P.follows .mixedOrders=true)(hcall:CallOk F P call)(hrun:endD P ct σe fn σ (runK P call stops fn.ntmps f fuel c ks T (σ.ask' o))=some (S,ds,os))(hpat:patB T σ=true)
 (hat:At F fn.ntmps Ne Ee σe we T σ N a w) (hent:Ent F ct is az ws we Ne Ee σe)
 (H:∀N',Agr σ.nx σ.na N N'→N'.f=F→(∀ d∈ds,d.sat N')→(∀ ob∈os,ob.holds N')∧S.ok N' F ct is az∧∀L,rwArg ct.ps is az=some L→(F.a ct.fw is az).length=L.length) :
 c.wp P (wpK P ks (Qend P F fn ct is az ws we)) a w:=by
 obtain ⟨e,T1,σ1,vs,σ2,mx,h1,h2,h3,h4,h5,h6,rfl,rfl⟩:=endD_inv hrun;have hx:=runK_ext hcall f h1;have hx2:=(resS_pur h4).ext;obtain ⟨N',k1,k2,k3,k4⟩:=ext_at (o:=o) hpat h6 (hx2.ni.trans hx.ni) hat;obtain ⟨g1,g2,g3⟩:=H N' k1 k2 k3;obtain ⟨hH,E,hA,hp⟩:=k4 g1;exact gL hm hcall f h1 (eT hx2 hH) hA hp.inv hp.bw fun E' a' w' q1 q2=>end_ok h2 h3 h4 h5 hH q1 (hp.trans q2) hent g2 g3
theorem to_head (hm:P.follows .mixedOrders=true)(hcall:CallOk F P call){c':Code}{ks':List Kt}(hrun:headD σe T0 σ0 σ (runK P call stops n f fuel c ks T (σ.ask' o))=some ((.loop c',ks'),is',as',ds,os))(hpat:patB T σ=true)(hgl:σ0.gl=σe.gl)(hni:σ0.ni=0)
 (hat:At F n Ne Ee σe we T σ N a w) (hI:Inv Ee σe) {Q:Exit→Act→World→Prop}
 (H:∀N',Agr σ.nx σ.na N N'→N'.f=F→(∀ d∈ds,d.sat N')→(∀ ob∈os,ob.holds N')∧∀a' w',At F n Ne Ee σe we T0 σ0 (pn is' as' N') a' w'→(Code.loop c').wp P (wpK P ks' Q) a' w') :
 c.wp P (wpK P ks Q) a w:=by
 unfold headD at hrun;split at hrun
 ·rename_i c2 ks2 T1 σ1 h1;simp only[aV,aD] at hrun;obtain ⟨y,hy,⟨⟨rfl,rfl⟩,rfl⟩⟩:=hrun;obtain ⟨rfl,rfl,mx,h6⟩:=atD_ds hy;have hx:=runK_ext hcall f h1;obtain ⟨N',k1,k2,k3,k4⟩:=ext_at (o:=o) hpat h6 hx.ni hat;obtain ⟨g1,g2⟩:=H N' k1 k2 k3;obtain ⟨hH,E,hA,hp⟩:=k4 g1;exact gL hm hcall f h1 hH hA hp.inv hp.bw fun E' a' w' q1 q2=>g2 a' w' (atD_at hy hI hgl hni ⟨k2,hH.ins,E',q1,hp.trans q2⟩)
 ·cases hrun
theorem gI (hm:P.follows .mixedOrders=true)(hcall:CallOk F P call)(hrun:roundD σe T0 σ0 σ (runB P call stops n f fuel b ks T (σ.ask' o))=some (is',as',ds,os))(hpat:patB T σ=true)(hgl:σ0.gl=σe.gl)(hni:σ0.ni=0)
 (hat:At F n Ne Ee σe we T σ N a w) (hI:Inv Ee σe) {K:Act→World→Prop} {Q:Exit→Act→World→Prop}
 (H:∀N',Agr σ.nx σ.na N N'→N'.f=F→(∀ d∈ds,d.sat N')→(∀ ob∈os,ob.holds N')∧∀a' w',At F n Ne Ee σe we T0 σ0 (pn is' as' N') a' w'→K a' w') :
 b.wp P (Exit.then K (wpK P ks Q)) a w:=by
 unfold roundD at hrun;split at hrun
 ·rename_i out T1 σ1 h1;obtain ⟨rfl,rfl,mx,h6⟩:=atD_ds hrun;have hx:=runB_ext hcall h1;obtain ⟨N',k1,k2,k3,k4⟩:=ext_at (o:=o) hpat h6 hx.ni hat;obtain ⟨g1,g2⟩:=H N' k1 k2 k3;obtain ⟨hH,E,hA,hp⟩:=k4 g1;exact runB_sound hm hcall h1 hH hA hp.inv hp.bw fun E' a' w' q1 q2=>⟨fun _=>g2 a' w' (atD_at hrun hI hgl hni ⟨k2,hH.ins,E',q1,hp.trans q2⟩),fun e=>by cases e⟩
 ·cases hrun
theorem gH (hm:P.follows .mixedOrders=true)(hcall:CallOk F P call)(hrun:endD P ct σe fn σ (outD (runB P call stops fn.ntmps f fuel b ks T (σ.ask' o)))=some (S,ds,os))(hpat:patB T σ=true)
 (hat:At F fn.ntmps Ne Ee σe we T σ N a w) (hent:Ent F ct is az ws we Ne Ee σe) {K:Act→World→Prop}
 (H:∀N',Agr σ.nx σ.na N N'→N'.f=F→(∀ d∈ds,d.sat N')→(∀ ob∈os,ob.holds N')∧S.ok N' F ct is az∧∀L,rwArg ct.ps is az=some L→(F.a ct.fw is az).length=L.length) :
 b.wp P (Exit.then K (wpK P ks (Qend P F fn ct is az ws we))) a w:=by
 obtain ⟨e,T1,σ1,vs,σ2,mx,h1,h2,h3,h4,h5,h6,rfl,rfl⟩:=endD_inv hrun;unfold outD at h1;split at h1
 ·rename_i r hr;simp only[aA] at h1;subst h1;have hx:=runB_ext hcall hr;have hx2:=(resS_pur h4).ext;obtain ⟨N',k1,k2,k3,k4⟩:=ext_at (o:=o) hpat h6 (hx2.ni.trans hx.ni) hat;obtain ⟨g1,g2,g3⟩:=H N' k1 k2 k3;obtain ⟨hH,E,hA,hp⟩:=k4 g1;exact runB_sound hm hcall hr (eT hx2 hH) hA hp.inv hp.bw fun E' a' w' q1 q2=>⟨fun e=>(by cases e),fun _=>end_ok h2 h3 h4 h5 hH q1 (hp.trans q2) hent g2 g3⟩
 ·cases h1
theorem to_next (hm:P.follows .mixedOrders=true)(hcall:CallOk F P call){c':Code}{ks':List Kt}(hrun:headD σe T0 σ0 σ (outD (runB P call stops n f fuel b ks T (σ.ask' o)))=some ((.loop c',ks'),is',as',ds,os))(hpat:patB T σ=true)(hgl:σ0.gl=σe.gl)(hni:σ0.ni=0)
 (hat:At F n Ne Ee σe we T σ N a w) (hI:Inv Ee σe) {K:Act→World→Prop} {Q:Exit→Act→World→Prop}
 (H:∀N',Agr σ.nx σ.na N N'→N'.f=F→(∀ d∈ds,d.sat N')→(∀ ob∈os,ob.holds N')∧∀a' w',At F n Ne Ee σe we T0 σ0 (pn is' as' N') a' w'→(Code.loop c').wp P (wpK P ks' Q) a' w') :
 b.wp P (Exit.then K (wpK P ks Q)) a w:=by
 unfold headD at hrun;split at hrun
 ·rename_i c2 ks2 T1 σ1 h1;unfold outD at h1;split at h1
  ·rename_i r hr;simp only[aA] at h1;subst h1;simp only[aV,aD] at hrun;obtain ⟨y,hy,⟨⟨rfl,rfl⟩,rfl⟩⟩:=hrun;obtain ⟨rfl,rfl,mx,h6⟩:=atD_ds hy;have hx:=runB_ext hcall hr;obtain ⟨N',k1,k2,k3,k4⟩:=ext_at (o:=o) hpat h6 hx.ni hat;obtain ⟨g1,g2⟩:=H N' k1 k2 k3;obtain ⟨hH,E,hA,hp⟩:=k4 g1;exact runB_sound hm hcall hr hH hA hp.inv hp.bw fun E' a' w' q1 q2=>⟨fun e=>(by cases e),fun _=>g2 a' w' (atD_at hy hI hgl hni ⟨k2,hH.ins,E',q1,hp.trans q2⟩)⟩
  ·cases h1
 ·cases hrun
def doneD (σe:St)(T0:Tr SV)(σ0:St)(σ:St)(r:Option (Out×Tr SV×St)):Option (List Ar×List (Option Nat)×List Df×List Ob) :=
 match r with
 | some (.done .normal,T1,σ1)=>atD σe T0 σ0 σ T1 σ1
 | _=>none
theorem to_done (hm:P.follows .mixedOrders=true)(hcall:CallOk F P call)(hrun:doneD σe T0 σ0 σ (outD (runB P call stops n f fuel b ks T (σ.ask' o)))=some (is',as',ds,os))(hpat:patB T σ=true)(hgl:σ0.gl=σe.gl)(hni:σ0.ni=0)
 (hat:At F n Ne Ee σe we T σ N a w) (hI:Inv Ee σe) {K:Act→World→Prop} {Q:Exit→Act→World→Prop}
 (H:∀N',Agr σ.nx σ.na N N'→N'.f=F→(∀ d∈ds,d.sat N')→(∀ ob∈os,ob.holds N')∧∀a' w',At F n Ne Ee σe we T0 σ0 (pn is' as' N') a' w'→Q .normal a' w') :
 b.wp P (Exit.then K (wpK P ks Q)) a w:=by
 unfold doneD at hrun;split at hrun
 ·rename_i T1 σ1 h1;unfold outD at h1;split at h1
  ·rename_i r hr;simp only[aA] at h1;subst h1;obtain ⟨rfl,rfl,mx,h6⟩:=atD_ds hrun;have hx:=runB_ext hcall hr;obtain ⟨N',k1,k2,k3,k4⟩:=ext_at (o:=o) hpat h6 hx.ni hat;obtain ⟨g1,g2⟩:=H N' k1 k2 k3;obtain ⟨hH,E,hA,hp⟩:=k4 g1;exact runB_sound hm hcall hr hH hA hp.inv hp.bw fun E' a' w' q1 q2=>⟨fun e=>(by cases e),fun _=>g2 a' w' (atD_at hrun hI hgl hni ⟨k2,hH.ins,E',q1,hp.trans q2⟩)⟩
  ·cases h1
 ·cases hrun
theorem gA {f:FuncId}{fn:Func}{body:Code}{args:List SV}(hp:entL ct=(args,σe))(hf:P.funcs[f]? =some fn)(hb:fn.body=some body)(hn:Nat.ble args.length fn.ntmps=true)(hni:σe.ni=0)
 (H:∀is az ws we Ee a,Shape ct.ps is az→F.p ct.p is az→Ent F ct is az ws we (num0 F ct.ps is az) Ee σe→At F fn.ntmps (num0 F ct.ps is az) Ee σe we (trArgs 0 args σe.gl) σe (num0 F ct.ps is az) a we →
  body.wp P (wpK P [] (Qend P F fn ct is az ws we)) a we) (hgp:glpB ct=true:=by rfl):CSpec P F f ct :=
 cspec_enter hp hf hb hn hni hgp fun is az ws w E a h1 h2 h3 h4 h5 h6 h7=>H is az ws w E a h1 h2 ⟨h3,h4,h5,h7⟩ h6
end
end Go.Sy
namespace Go.Proofs.YtnfikgagkamioaaGreatDoor
open Go.Sy
theorem hm:Tryz.prog.follows .mixedOrders=true:=by kernel_rfl
def bodyC (fn:Func):Code:=match fn.body with | some b=>b | none=> .skip
theorem fM {fn:Func}(h:fn.body.isSome=true):fn.body=some (bodyC fn):=by
 unfold bodyC;cases hb:fn.body with
 | some b=>rfl
 | none=>rw[hb] at h;cases h
def argsOf (ct:Ct):List SV:=(entL ct).1
def stOf (ct:Ct):St:=(entL ct).2
noncomputable def runE (ct:Ct)(fn:Func)(call:FuncId→List SV→St→Option (SV×St))(o:List Bool):Option (Sum1×List Df×List Ob) :=
 endD Tryz.prog ct (stOf ct) fn (stOf ct) (runK Tryz.prog call [] fn.ntmps 1000 2000 (bodyC fn) [] (trArgs 0 (argsOf ct) (stOf ct).gl) ((stOf ct).ask' o))
theorem fG {F:Fns}{call:FuncId→List SV→St→Option (SV×St)}(hcall:CallOk F Tryz.prog call){ct:Ct}{f:FuncId}{fn:Func}{S:Sum1}{ds:List Df}{os:List Ob}{o:List Bool}
 (hf:Tryz.prog.funcs[f]? =some fn) (hb:fn.body.isSome=true) (hn:Nat.ble (argsOf ct).length fn.ntmps=true) (hni:(stOf ct).ni=0) (hrun:runE ct fn call o=some (S,ds,os)) (hpat:patB (trArgs 0 (argsOf ct) (stOf ct).gl) (stOf ct)=true)
 (H:∀is ls N',Shape ct.ps is ls→F.p ct.p is ls→Agr (stOf ct).nx (stOf ct).na (num0 F ct.ps is ls) N'→N'.f=F→(∀ d∈ds,d.sat N') →
  (∀ ob∈os,ob.holds N')∧S.ok N' F ct is ls∧∀L,rwArg ct.ps is ls=some L→(F.a ct.fw is ls).length=L.length) (hgp:glpB ct=true:=by rfl):CSpec Tryz.prog F f ct :=
 gA (args:=argsOf ct) (σe:=stOf ct) rfl hf (fM hb) hn hni (fun is ls _ _ _ _ h1 h2 h3 h4=>to_end hm hcall hrun hpat h4 h3 fun N' k1 k2 k3=>H is ls N' h1 h2 k1 k2 k3) hgp
def noIntB:List Pa→Bool
 | []=>true
 | .int _::_=>false
 | _::ps=>noIntB ps
theorem eV:∀ {ps:List Pa} {is:List Int} {ls:List (List Int)},noIntB ps=true→Shape ps is ls→is=[]
 | [],[],[],_,_=>rfl
 | [],_::_,_,_,h=>h.elim
 | [],[],_::_,_,h=>h.elim
 | .int _::_,_,_,hb,_=>by cases hb
 | .agg _ _::ps,is,_::ls,hb,h=>eV (ps:=ps) hb h.2
 | .ptr _ _ _::ps,is,_::ls,hb,h=>eV (ps:=ps) hb h.2
 | .sl _ _ none::ps,is,_::ls,hb,h=>eV (ps:=ps) (is:=is) (ls:=ls) hb h
 | .sl _ _ (some _)::ps,is,_::ls,hb,h=>eV (ps:=ps) hb h.2
 | .emp::ps,is,_::ls,hb,h=>eV (ps:=ps) hb h.2
 | .zc::ps,is,_::ls,hb,h=>eV (ps:=ps) hb h.2
 | .kst _::ps,is,ls,hb,h=>eV (ps:=ps) (is:=is) (ls:=ls) hb h
 | .ign::ps,is,ls,hb,h=>eV (ps:=ps) (is:=is) (ls:=ls) hb h
 | .gr _::ps,is,_::ls,hb,h=>eV (ps:=ps) (is:=is) (ls:=ls) hb h
 | .gr _::_,_,[],_,h=>h.elim
 | .agg _ _::_,_,[],_,h=>h.elim
 | .ptr _ _ _::_,_,[],_,h=>h.elim
 | .sl _ _ none::_,_,[],_,h=>h.elim
 | .sl _ _ (some _)::_,_,[],_,h=>h.elim
 | .emp::_,_,[],_,h=>h.elim
 | .zc::_,_,[],_,h=>h.elim
noncomputable def callT (tab:List (FuncId×List Ct)):FuncId→List SV→St→Option (SV×St):=call1 Tryz.prog (tabU tab noCall) 8 2000
def TabOk (F:Fns):List (FuncId×List Ct)→Prop
 | []=>True
 | (f,cs)::l=>(hasBody Tryz.prog f=true∧∀c∈cs,CSpec Tryz.prog F f c)∧TabOk F l
theorem TabOk.get {F:Fns}{f:FuncId}{cs:List Ct}:∀ {tab:List (FuncId×List Ct)},TabOk F tab→lkT tab f=some cs→hasBody Tryz.prog f=true∧∀c∈cs,CSpec Tryz.prog F f c
 | [],_,h=>by cases h
 | (g,ds)::l,ht,h=>by
  simp only[lkT] at h;cases hb:Nat.beq f g with
  | true =>rw[hb] at h;simp only[aH,aA] at h;subst h;rw[aF hb];exact ht.1
  | false=>rw[hb] at h;exact TabOk.get ht.2 h
theorem eU {F:Fns}{tab:List (FuncId×List Ct)}(h:TabOk F tab):CallOk F Tryz.prog (callT tab):=call1_sound hm (tabU_ok noCall_ok fun _ _ hl=>h.get hl) 8 2000
noncomputable def headOf (ct:Ct)(fn:Func)(call:FuncId→List SV→St→Option (SV×St))(stops:List Nat)(o:List Bool)(T0:Tr SV)(σ0:St):Option ((Code×List Kt)×List Ar×List (Option Nat)×List Df×List Ob) :=
 headD (stOf ct) T0 σ0 (stOf ct) (runK Tryz.prog call stops fn.ntmps 1000 2000 (bodyC fn) [] (trArgs 0 (argsOf ct) (stOf ct).gl) ((stOf ct).ask' o))
noncomputable def rndOf (ct:Ct)(fn:Func)(call:FuncId→List SV→St→Option (SV×St))(stops:List Nat)(lp:Code×List Kt)(T:Tr SV)(σ:St)(o:List Bool)(T0:Tr SV)(σ0:St):Option (List Ar×List (Option Nat)×List Df×List Ob) :=
 roundD (stOf ct) T0 σ0 σ (runB Tryz.prog call stops fn.ntmps 1000 2000 lp.1 lp.2 T (σ.ask' o))
noncomputable def outOf (ct:Ct)(fn:Func)(call:FuncId→List SV→St→Option (SV×St))(stops:List Nat)(lp:Code×List Kt)(T:Tr SV)(σ:St)(o:List Bool):Option (Sum1×List Df×List Ob) :=
 endD Tryz.prog ct (stOf ct) fn σ (outD (runB Tryz.prog call stops fn.ntmps 1000 2000 lp.1 lp.2 T (σ.ask' o)))
noncomputable def nxtOf (ct:Ct)(fn:Func)(call:FuncId→List SV→St→Option (SV×St))(stops:List Nat)(lp:Code×List Kt)(T:Tr SV)(σ:St)(o:List Bool)(T0:Tr SV)(σ0:St):Option ((Code×List Kt)×List Ar×List (Option Nat)×List Df×List Ob) :=
 headD (stOf ct) T0 σ0 σ (outD (runB Tryz.prog call stops fn.ntmps 1000 2000 lp.1 lp.2 T (σ.ask' o)))
noncomputable def doneOf (ct:Ct)(fn:Func)(call:FuncId→List SV→St→Option (SV×St))(stops:List Nat)(lp:Code×List Kt)(T:Tr SV)(σ:St)(o:List Bool)(T0:Tr SV)(σ0:St):Option (List Ar×List (Option Nat)×List Df×List Ob) :=
 doneD (stOf ct) T0 σ0 σ (outD (runB Tryz.prog call stops fn.ntmps 1000 2000 lp.1 lp.2 T (σ.ask' o)))
noncomputable def inOf (ct:Ct)(fn:Func)(call:FuncId→List SV→St→Option (SV×St))(stops:List Nat)(lp:Code×List Kt)(T:Tr SV)(σ:St)(o:List Bool)(T0:Tr SV)(σ0:St):Option ((Code×List Kt)×List Ar×List (Option Nat)×List Df×List Ob) :=
 headD (stOf ct) T0 σ0 σ (runK Tryz.prog call stops fn.ntmps 1000 2000 lp.1 [] T (σ.ask' o))
noncomputable def loopIn (f id id':Nat):Code×List Kt:=(findLoop id' (loopOf Tryz.prog f id).1 []).getD (.skip,[])
noncomputable def loopAt (f id:Nat):Code×List Kt:=loopOf Tryz.prog f id
end Go.Proofs.YtnfikgagkamioaaGreatDoor
namespace Go.Sy
theorem u64_add (a b:Int):iop .add .u64 a b=(a+b)%18446744073709551616:=by simp only[iop,IntKind.wrap_u64]
theorem u64_sub (a b:Int):iop .sub .u64 a b=(a-b)%18446744073709551616:=by simp only[iop,IntKind.wrap_u64]
theorem u64_mul (a b:Int):iop .mul .u64 a b=(a*b)%18446744073709551616:=by simp only[iop,IntKind.wrap_u64]
theorem u32_add (a b:Int):iop .add .u32 a b=(a+b)%4294967296:=by simp only[iop,IntKind.wrap_u32]
theorem shr_kst {k:IntKind}{a:Int}{c:Nat}(h:c≤k.bits):iop .shr k a (c:Int)=a/(2:Int)^c:=by
 simp only[iop,bD];rw[Nat.min_eq_left h];exact Int.fdiv_eq_ediv_of_nonneg _ (Int.le_of_lt (Int.pow_pos (by decide)))
theorem shl_kst {k:IntKind}{a:Int}{c:Nat}(h:c≤k.bits):iop .shl k a (c:Int)=k.wrap (a*(2:Int)^c):=by
 simp only[iop,bD];rw[Nat.min_eq_left h]
theorem wrap_nat {k:IntKind}(hk:unsignedB k=true){x:Nat}(hx:x<2^k.bits):k.wrap (x:Int)=x:=by
 cases k <;> simp only[unsignedB,bV] at hk <;> simp only[IntKind.bits] at hx <;>
  simp only[IntKind.wrap_u8,IntKind.wrap_u16,IntKind.wrap_u32,IntKind.wrap_u64] <;> omega
theorem ofInt_toNat {n x:Nat}(hx:x<2^n):(BitVec.ofInt n (x:Int)).toNat=x:=by
 rw[BitVec.ofInt_natCast,BitVec.toNat_ofNat,Nat.mod_eq_of_lt hx]
theorem iop_and {k:IntKind}(hk:unsignedB k=true){x y:Nat}(hx:x<2^k.bits)(hy:y<2^k.bits):iop .and k x y=((x&&&y:Nat):Int):=by
 simp only[iop,BitVec.toNat_and,ofInt_toNat hx,ofInt_toNat hy];exact wrap_nat hk (Nat.lt_of_le_of_lt Nat.and_le_left hx)
theorem iop_or {k:IntKind}(hk:unsignedB k=true){x y:Nat}(hx:x<2^k.bits)(hy:y<2^k.bits):iop .or k x y=((x|||y:Nat):Int):=by
 simp only[iop,BitVec.toNat_or,ofInt_toNat hx,ofInt_toNat hy];exact wrap_nat hk (Nat.or_lt_two_pow hx hy)
theorem iop_xor {k:IntKind}(hk:unsignedB k=true){x y:Nat}(hx:x<2^k.bits)(hy:y<2^k.bits):iop .xor k x y=((x^^^y:Nat):Int):=by
 simp only[iop,BitVec.toNat_xor,ofInt_toNat hx,ofInt_toNat hy];exact wrap_nat hk (Nat.xor_lt_two_pow hx hy)
theorem and_mask {k:IntKind}(hk:unsignedB k=true){a:Int}{c:Nat}(h0:0≤a)(h1:a<(2:Int)^k.bits)(hc:c≤k.bits):iop .and k a ((2^c-1:Nat):Int)=a%(2:Int)^c:=by
 obtain ⟨x,rfl⟩:=aZ h0;have hx:x<2^k.bits:=by
  have:((2:Int)^k.bits)=((2^k.bits:Nat):Int):=by simp
  rw[this] at h1;exact Int.ofNat_lt.1 h1
 have hm:2^c-1<2^k.bits:=by have h1:2^c≤2^k.bits:=Nat.pow_le_pow_right (by decide) hc;have h2:0<2^c:=Nat.pow_pos (by decide);omega
 rw[iop_and hk hx hm,Nat.and_two_pow_sub_one_eq_mod];simp
theorem or_add {x y c:Nat}(hx:x<2^c):x|||(y*2^c)=x+y*2^c:=by
 rw[Nat.or_comm,Nat.mul_comm,←Nat.two_pow_add_eq_or_of_lt hx,Nat.add_comm]
theorem or_shl {k:IntKind}(hk:unsignedB k=true){x y:Int}{c:Nat}(hx0:0≤x)(hx:x<(2:Int)^c)(hy:0≤y)(hxb:x<(2:Int)^k.bits)(hb:y*(2:Int)^c<(2:Int)^k.bits) :
 iop .or k x (y*(2:Int)^c)=x+y*(2:Int)^c:=by
 obtain ⟨x,rfl⟩:=aZ hx0;obtain ⟨y,rfl⟩:=aZ hy;have e1:((2:Int)^c)=((2^c:Nat):Int):=by simp
 have e2:((2:Int)^k.bits)=((2^k.bits:Nat):Int):=by simp
 rw[e1] at hx hb ⊢;rw[e2] at hxb hb;have h1:x<2^c:=Int.ofNat_lt.1 hx;have h2:x<2^k.bits:=Int.ofNat_lt.1 hxb;have h3:y*2^c<2^k.bits:=by
  have:((y*2^c:Nat):Int)<((2^k.bits:Nat):Int):=by rw[Int.natCast_mul];exact hb
  exact Int.ofNat_lt.1 this
 have h4:((y:Int)*((2^c:Nat):Int))=((y*2^c:Nat):Int):=by rw[Int.natCast_mul]
 rw[h4,iop_or hk h2 h3,or_add h1];simp
def leV:List Int→Int
 | []=>0
 | b::l=>b+256*leV l
def Bytes (l:List Int):Prop:=∀x∈l,0≤x∧x<256
end Go.Sy
namespace Go.Proofs.YtnfikgagkamioaaGreatDoor
open Go.Sy
def vs (x n:Nat):List Ar:=(List.range' x n).map .var
def zs (n:Nat):List Ar:=List.replicate n (.kst 0)
def rds (x A k n:Nat):List Df:=(List.range n).reverse.map fun j=> .n (x+j) (.rd A (.kst ((k+j:Nat):Int)))
def fns (x f:Nat)(is:List Ar)(ls:List Nat)(k n:Nat):List Df:=(List.range n).reverse.map fun j=> .n (x+j) (.fn f is ls (k+j))
theorem rds_sat {N:Num}{x A k n:Nat}(h:∀d∈rds x A k n,d.sat N):∀j,j<n→N.i (x+j)=(N.a A).getD (k+j) 0:=fun j hj=>by
 have:N.i (x+j)=(N.a A).getD ((k+j:Nat):Int).toNat 0:=h (.n (x+j) (.rd A (.kst ((k+j:Nat):Int)))) (dC.2 ⟨j,eP.2 (cE.2 hj),rfl⟩);rw[this,bD]
theorem fns_sat {N:Num}{x f k n:Nat}{is:List Ar}{ls:List Nat}(h:∀d∈fns x f is ls k n,d.sat N):∀j,j<n→N.i (x+j)=N.f.i f (is.map (·.ev N)) (ls.map N.a) (k+j):=fun j hj =>
 h (.n (x+j) (.fn f is ls (k+j))) (dC.2 ⟨j,eP.2 (cE.2 hj),rfl⟩)
theorem map_getD' {L:List Int}{n:Nat}(hl:L.length=n):(List.range n).map (fun j=>L.getD j 0)=L:=by
 subst hl;apply dA;intro i;rw[bP];by_cases h:i<L.length;·rw [cL h,Option.map_some,aE,aU h];rfl
 ·rw [bI (by rw[cV];omega),bI (by omega)];rfl
theorem vs_map {N:Num}{L:List Int}{x n:Nat}(h:∀j,j<n→N.i (x+j)=L.getD j 0)(hl:L.length=n):(vs x n).map (·.ev N)=L:=by
 refine dF ?_ (map_getD' hl);simp only[vs,List.range'_eq_map_range,cZ];exact cW fun j hj=>h j (cE.1 hj)
theorem xor_zero_iff {p q:Nat}:p^^^q=0↔p=q:=by
 refine ⟨fun h=> ?_,fun h=>by rw[h,Nat.xor_self]⟩;have:p^^^q^^^q=p:=by rw[Nat.xor_assoc,Nat.xor_self,Nat.xor_zero]
 rw[←this,h,Nat.zero_xor]
def cmpD (x a b:Nat):List Df :=
 [.n (x+35) (.cmp .eql (.var (x+34)) (.kst 1)),.n (x+34) (.conv .i64 (.var (x+33))),.n (x+33) (.cmp .neq (.var (x+32)) (.kst 0)),.n (x+32) (.cmp .eql (.var (x+31)) (.kst 0))] ++
 (List.range 16).reverse.flatMap fun j=>[.n (x+(2*j+1)) (.bin .or .u8 (bif Nat.beq j 0 then .kst 0 else .var (x+(2*j-1))) (.var (x+2*j))),.n (x+2*j) (.bin .xor .u8 (.var (b+j)) (.var (a+j)))]
theorem cmpD_sat {N:Num}{x a b:Nat}{A B:List Int}(h:∀d∈cmpD x a b,d.sat N)(hA:∀j,j<16→N.i (a+j)=A.getD j 0)(hB:∀j,j<16→N.i (b+j)=B.getD j 0)(bA:Bytes A)(bB:Bytes B)(lA:A.length=16)(lB:B.length=16) :
 N.i (x+35)=if B=A then 1 else 0:=by
 have byte:∀ {L:List Int} {j:Nat},Bytes L→L.length=16→j<16→∃y:Nat,L.getD j 0=(y:Int)∧y<2^IntKind.u8.bits:=fun {L j} hL hl hj=>by
  have hj':j<L.length:=by omega
  have e:L.getD j 0=L[j]:=by rw[aE,aU hj'];rfl
  obtain ⟨h0,h1⟩:=hL _ (List.getElem_mem hj');obtain ⟨y,hy⟩:=aZ h0;exact ⟨y,by rw[e,hy],by rw[hy] at h1;simp only[IntKind.bits];omega⟩
 have acc:∀m,m<16→∃z:Nat,N.i (x+(2*m+1))=(z:Int)∧z<2^IntKind.u8.bits∧(z=0↔∀j,j≤m→B.getD j 0=A.getD j 0):=by
  intro m
  induction m with
  | zero =>
   intro hm;obtain ⟨p,p1,p2⟩:=byte bB lB hm;obtain ⟨q,q1,q2⟩:=byte bA lA hm;have m1:(0:Nat)∈(List.range 16).reverse:=eP.2 (cE.2 hm);have g1:N.i (x+(2*0+1))=iop .or .u8 0 (N.i (x+2*0)):=h (.n (x+(2*0+1)) (.bin .or .u8 (.kst 0) (.var (x+2*0)))) (eF _ (List.mem_flatMap.2 ⟨0,m1,by simp⟩));have g2:N.i (x+2*0)=iop .xor .u8 (N.i (b+0)) (N.i (a+0)):=h (.n (x+2*0) (.bin .xor .u8 (.var (b+0)) (.var (a+0)))) (eF _ (List.mem_flatMap.2 ⟨0,m1,by simp⟩))
   rw[hA 0 hm,hB 0 hm,p1,q1,iop_xor rfl p2 q2] at g2;rw[g2,show (0:Int)=((0:Nat):Int) from rfl,iop_or rfl (by decide) (Nat.xor_lt_two_pow p2 q2),Nat.zero_or] at g1;refine ⟨p^^^q,g1,Nat.xor_lt_two_pow p2 q2,?_⟩;rw[xor_zero_iff];refine ⟨fun e j hj=> ?_,fun e=> ?_⟩
   ·have:j=0:=by omega
    subst this;rw[p1,q1,e]
   ·have:=e 0 (aS _);rw[p1,q1] at this;omega
  | succ m ih =>
   intro hm;obtain ⟨z,z1,z2,z3⟩:=ih (by omega);obtain ⟨p,p1,p2⟩:=byte bB lB hm;obtain ⟨q,q1,q2⟩:=byte bA lA hm;have m1:m+1∈(List.range 16).reverse:=eP.2 (cE.2 hm);have g1:N.i (x+(2*(m+1)+1))=iop .or .u8 (N.i (x+(2*(m+1)-1))) (N.i (x+2*(m+1))):=h (.n (x+(2*(m+1)+1)) (.bin .or .u8 (.var (x+(2*(m+1)-1))) (.var (x+2*(m+1))))) (eF _ (List.mem_flatMap.2 ⟨m+1,m1,by simp[Nat.beq]⟩));have g2:N.i (x+2*(m+1))=iop .xor .u8 (N.i (b+(m+1))) (N.i (a+(m+1))):=h (.n (x+2*(m+1)) (.bin .xor .u8 (.var (b+(m+1))) (.var (a+(m+1))))) (eF _ (List.mem_flatMap.2 ⟨m+1,m1,by simp⟩))
   rw[hA _ hm,hB _ hm,p1,q1,iop_xor rfl p2 q2] at g2;rw[g2,show 2*(m+1)-1=2*m+1 by omega,z1,iop_or rfl z2 (Nat.xor_lt_two_pow p2 q2)] at g1;refine ⟨z|||(p^^^q),g1,Nat.or_lt_two_pow z2 (Nat.xor_lt_two_pow p2 q2),?_⟩;rw[Nat.or_eq_zero_iff,z3,xor_zero_iff];refine ⟨fun ⟨e1,e2⟩ j hj=> ?_,fun e=>⟨fun j hj=>e j (by omega),?_⟩⟩
   ·by_cases hj':j≤m;·exact e1 j hj'
    ·have:j=m+1:=by omega
     subst this;rw[p1,q1,e2]
   ·have:=e (m+1) (aS _);rw[p1,q1] at this;omega
 obtain ⟨z,z1,_,z3⟩:=acc 15 (by decide);have heq:z=0↔B=A:=by rw[z3];refine ⟨fun e=>List.ext_getElem (by omega) fun j h1 h2=> ?_,fun e j _=>by rw[e]⟩;have:=e j (by omega);rw[aE,aE,aU h1,aU h2] at this;exact this
 have t1:N.i (x+32)=bif icmp .eql (N.i (x+31)) 0 then 1 else 0:=h (.n (x+32) (.cmp .eql (.var (x+31)) (.kst 0))) (eJ _ (by simp));have t2:N.i (x+33)=bif icmp .neq (N.i (x+32)) 0 then 1 else 0:=h (.n (x+33) (.cmp .neq (.var (x+32)) (.kst 0))) (eJ _ (by simp));have t3:N.i (x+34)=IntKind.i64.wrap (N.i (x+33)):=h (.n (x+34) (.conv .i64 (.var (x+33)))) (eJ _ (by simp));have t4:N.i (x+35)=bif icmp .eql (N.i (x+34)) 1 then 1 else 0:=h (.n (x+35) (.cmp .eql (.var (x+34)) (.kst 1))) (eJ _ (by simp))
 have z1:N.i (x+31)=z:=z1;by_cases hz:z=0
 ·rw [bG (heq.1 hz)];subst hz;rw[z1] at t1;rw[show N.i (x+32)=1 from t1] at t2;rw[show N.i (x+33)=1 from t2] at t3;rw[show N.i (x+34)=1 from t3] at t4;exact t4
 ·rw [bC (fun e=>hz (heq.2 e))];have t1:N.i (x+32)=0:=by
   rw[t1,z1];simp only[icmp];have:((z:Int)==0)=false:=by rw[beq_eq_false_iff_ne];omega
   rw[this];rfl
  rw[t1] at t2;rw[show N.i (x+33)=0 from t2] at t3;rw[show N.i (x+34)=0 from t3] at t4;exact t4
def empFst:List SV→Bool
 | .one (.sc (.emp _))::_=>true
 | _=>false
noncomputable def callE (tab:List (FuncId×List Ct))(f:FuncId)(args:List SV)(σ:St):Option (SV×St):=bif empFst args then callT tab f args σ else none
noncomputable def callF (tab tab2:List (FuncId×List Ct)):FuncId→List SV→St→Option (SV×St):=call1 Tryz.prog (tabU tab (callE tab2)) 8 2000
theorem callE_ok {F:Fns}{tab:List (FuncId×List Ct)}(h:TabOk F tab):CallOk F Tryz.prog (callE tab):=fun f args σ sv σ' e=>by
 unfold callE at e;cases hb:empFst args with
 | false=>rw[hb] at e;cases e
 | true=>rw[hb] at e;exact eU h f args σ sv σ' e
theorem gP {F:Fns}{tab tab2:List (FuncId×List Ct)}(h:TabOk F tab)(h2:TabOk F tab2):CallOk F Tryz.prog (callF tab tab2):=call1_sound hm (tabU_ok (callE_ok h2) fun _ _ hl=>h.get hl) 8 2000
def n16:Pa:= .agg .u64 16
def r16:Re:= .agg .u64 16
def ct58:Ct:={ps:=[n16,n16],res:=[.bool],p:=58,fi:=58,fw:=0,fs:=0}
def ct42:Ct:={ps:=[n16],res:=[r16],p:=42,fi:=42,fw:=0,fs:=0}
def tab42:List (FuncId×List Ct):=[(58,[ct58])]
def ct38:Ct:={ps:=[n16,n16],res:=[r16],p:=38,fi:=38,fw:=0,fs:=0}
def ct57:Ct:={ps:=[n16],res:=[r16],p:=42,fi:=57,fw:=0,fs:=0}
def ct39:Ct:={ps:=[n16,n16],res:=[r16],p:=38,fi:=39,fw:=0,fs:=0}
def ct29:Ct:={ps:=[n16,n16],res:=[r16],p:=38,fi:=29,fw:=0,fs:=0}
def tab38:List (FuncId×List Ct):=[(42,[ct42])]
def tab39:List (FuncId×List Ct):=[(57,[ct57]),(38,[ct38])]
def ct27:Ct:={ps:=[.agg .u64 80,.int .u64],res:=[.agg .u64 80],p:=27,fi:=27,fw:=0,fs:=0}
def tab27:List (FuncId×List Ct):=[(29,[ct29]),(38,[ct38]),(39,[ct39]),(42,[ct42])]
def ct43:Ct:={ps:=[n16,n16],res:=[r16],p:=38,fi:=43,fw:=0,fs:=0}
def tab43:List (FuncId×List Ct):=[(29,[ct29])]
def ct12:Ct:={ps:=[.agg .u8 32,.agg .u8 32],res:=[.agg .u8 32],p:=12,fi:=12,fw:=0,fs:=0}
def tab12':List (FuncId×List Ct):=[(27,[ct27]),(29,[ct29]),(43,[ct43])]
def ct106:Ct:={ps:=[.int .u64,.int .u64],res:=[.int .u64,.int .u64],p:=106,fi:=106,fw:=0,fs:=0}
def fe (rw:Bool):Pa:= .ptr .u64 5 rw
def ct100:Ct:={ps:=[fe true,fe false,fe false],res:=[],p:=100,fi:=0,fw:=100,fs:=0}
def ct100a:Ct:={ps:=[fe true,fe false],sel:=some [0,0,1],res:=[],p:=101,fi:=0,fw:=101,fs:=0}
def ct100b:Ct:={ps:=[fe true,fe false],sel:=some [0,1,0],res:=[],p:=102,fi:=0,fw:=102,fs:=0}
def ct91:Ct:={ps:=[fe true,fe false],res:=[],p:=91,fi:=0,fw:=91,fs:=0}
def ct91a:Ct:={ps:=[fe true],sel:=some [0,0],res:=[],p:=92,fi:=0,fw:=92,fs:=0}
def ct107:Ct:={ps:=[fe true,fe false,.int .i64],res:=[],p:=107,fi:=0,fw:=107,fs:=0}
def ct107a:Ct:={ps:=[fe true,.int .i64],sel:=some [0,0,1],res:=[],p:=108,fi:=0,fw:=108,fs:=0}
def tab106:List (FuncId×List Ct):=[(106,[ct106])]
def tabE:List (FuncId×List Ct):=[(106,[ct106]),(100,[ct100,ct100a,ct100b]),(91,[ct91,ct91a]),(107,[ct107,ct107a])]
def ct64:Ct:={ps:=[fe false,.sl .u8 true (some 32),.sl .u8 false (some 32),.sl .u8 false (some 32)],sel:=some [1,2,3],glp:=some 0,res:=[],p:=64,fi:=0,fw:=64,fs:=0}
end Go.Proofs.YtnfikgagkamioaaGreatDoor
namespace Go.Sy
def xt (N:Num):List Df→Num
 | []=>N
 | .n x nd::ds=>⟨fun y=>bif Nat.beq y x then nd.ev (xt N ds) else (xt N ds).i y,(xt N ds).a,(xt N ds).f⟩
 | .a A ad::ds=>⟨(xt N ds).i,fun y=>bif Nat.beq y A then ad.ev (xt N ds) else (xt N ds).a y,(xt N ds).f⟩
theorem xt_self {N:Num}:∀ {ds:List Df},(∀ d∈ds,d.sat N)→xt N ds=N
 | [],_=>rfl
 | .n x nd::ds,h=>by
  have e:=xt_self fun d hd=>h d (aJ _ hd)
  have hx:N.i x=nd.ev N:=h (.n x nd) aN;cases N with
  | mk i a f =>
   simp only[xt,e,Num.mk.injEq,and_true]
   funext y
   cases hb:Nat.beq y x with
   | true=>rw[aF hb];exact hx.symm
   | false=>rfl
 | .a A ad::ds,h=>by
  have e:=xt_self fun d hd=>h d (aJ _ hd)
  have hx:N.a A=ad.ev N:=h (.a A ad) aN;cases N with
  | mk i a f =>
   simp only[xt,e,Num.mk.injEq,and_true,true_and]
   funext y
   cases hb:Nat.beq y A with
   | true=>rw[aF hb];exact hx.symm
   | false=>rfl
def lkN:List Df→Nat→Option Nd
 | [],_=>none
 | .n y nd::ds,x=>bif Nat.beq x y then some nd else lkN ds x
 | .a _ _::ds,x=>lkN ds x
theorem fB {N:Num}{x:Nat}{nd:Nd}:∀ {ds:List Df},(∀ d∈ds,d.sat N)→lkN ds x=some nd→N.i x=nd.ev N
 | [],_,h=>by cases h
 | .n y nd'::ds,hd,h=>by
  simp only[lkN] at h;cases hb:Nat.beq x y with
  | true =>rw[hb] at h;simp only[aH,aA] at h;subst h;rw[aF hb];exact hd (.n y nd') aN
  | false=>rw[hb] at h;exact fB (fun d m=>hd d (aJ _ m)) h
 | .a _ _::ds,hd,h=>fB (ds:=ds) (fun d m=>hd d (aJ _ m)) h
def lkA:List Df→Nat→Option Ad
 | [],_=>none
 | .a y ad::ds,x=>bif Nat.beq x y then some ad else lkA ds x
 | .n _ _::ds,x=>lkA ds x
theorem fR {N:Num}{x:Nat}{ad:Ad}:∀ {ds:List Df},(∀ d∈ds,d.sat N)→lkA ds x=some ad→N.a x=ad.ev N
 | [],_,h=>by cases h
 | .a y ad'::ds,hd,h=>by
  simp only[lkA] at h;cases hb:Nat.beq x y with
  | true =>rw[hb] at h;simp only[aH,aA] at h;subst h;rw[aF hb];exact hd (.a y ad') aN
  | false=>rw[hb] at h;exact fR (fun d m=>hd d (aJ _ m)) h
 | .n _ _::ds,hd,h=>fR (ds:=ds) (fun d m=>hd d (aJ _ m)) h
def famF (ds:List Df)(x f:Nat)(bs:List Nat)(n:Nat):Bool:=(List.range n).all fun j=>match lkN ds (x+j) with
 | some (.fn g [] cs m)=>Nat.beq g f&&(Nat.beq m j&&eL Nat.beq cs bs)
 | _=>false
theorem fam_f {N:Num}{ds:List Df}(hd:∀d∈ds,d.sat N){x f n:Nat}{bs:List Nat}(h:famF ds x f bs n=true):∀j,j<n→N.i (x+j)=N.f.i f [] (bs.map N.a) j:=fun j hj=>by
 unfold famF at h;rw[bT] at h;have:=h j (cE.2 hj);split at this
 ·rename_i g cs m hl;simp only[aG] at this;rw[fB hd hl,eNats_eq this.2.2,aF this.1,aF this.2.1];rfl
 ·cases this
def cmpP (op:BinOp)(t:Bool)(x y:Int):Prop :=
 match op,t with
 | .eql,true=>x=y
 | .eql,false=>x≠y
 | .neq,true=>x≠y
 | .neq,false=>x=y
 | .lss,true=>x<y
 | .lss,false=>y≤x
 | .leq,true=>x≤y
 | .leq,false=>y<x
 | .gtr,true=>y<x
 | .gtr,false=>x≤y
 | .geq,true=>y≤x
 | .geq,false=>x<y
 | _,t=>false=t
theorem cmpP_icmp {op:BinOp}{t:Bool}{x y:Int}(h:cmpP op t x y):icmp op x y=t:=by
 cases op <;> cases t <;> simp only[cmpP] at h <;> simp only[icmp,beq_iff_eq,bne_iff_ne,ne_eq,dL,decide_eq_false_iff_not,beq_eq_false_iff_ne,bne_eq_false_iff_eq] <;> first | exact h | omega
def Ob.pr (M:Num)(ds:List Df):Ob→Prop
 | .le a b=>a.ev M≤b.ev M
 | .lt a b=>a.ev M<b.ev M
 | .eq a b=>a.ev M=b.ev M
 | .inA x A=>0≤x.ev M∧x.ev M<(M.a A).length
 | .lenA x A=>x.ev M=(M.a A).length
 | .fits off n A=>0≤off.ev M∧0≤n.ev M∧off.ev M+n.ev M≤(M.a A).length
 | .boo x t=>match lkN ds x with
  | some (.cmp op a b)=>cmpP op t (a.ev M) (b.ev M)
  | some (.seq A B)=>match t with | true=>bytesOf (M.a A)=bytesOf (M.a B) | false=>bytesOf (M.a A)≠bytesOf (M.a B)
  | some nd=>match t with | true=>nd.ev M≠0 | false=>nd.ev M=0
  | none=>match t with | true=>M.i x≠0 | false=>M.i x=0
 | .prd p is az=>M.f.p p (is.map (·.ev M)) (az.map M.a)
def obsP (M:Num)(ds:List Df):List Ob→Prop
 | []=>True
 | [o]=>o.pr M ds
 | o::l=>o.pr M ds∧obsP M ds l
theorem boo_ne {x:Int}{t:Bool}(h:match t with | true=>x≠0 | false=>x=0):(!(x==0))=t:=by
 cases t with
 | true=>simp only at h;simp[h]
 | false=>simp only at h;simp[h]
theorem Ob.of_pr {N:Num}{ds:List Df}(hd:∀d∈ds,d.sat N){o:Ob}(h:o.pr N ds):o.holds N:=by
 cases o with
 | boo x t =>
  simp only[Ob.pr] at h;simp only[Ob.holds];split at h
  ·rename_i op a b hl;rw[fB hd hl];simp only[Nd.ev,cmpP_icmp h];cases t <;> rfl
  ·rename_i A B hl;rw[fB hd hl];simp only[Nd.ev];cases t with
   | true=>simp only at h;rw[h];simp
   | false =>
    simp only at h;have:(bytesOf (N.a A)==bytesOf (N.a B))=false:=by rw[beq_eq_false_iff_ne];exact h
    rw[this];rfl
  ·rename_i nd _ _ hl;rw[fB hd hl];exact boo_ne h
  ·exact boo_ne h
 | _=>exact h
theorem obsP_all {M:Num}{ds:List Df}:∀ {os:List Ob},obsP M ds os→∀o∈os,o.pr M ds
 | [],_,_,h=>by cases h
 | [o],h,o',hm=>by simp only[aX] at hm;subst hm;exact h
 | o::o2::l,h,o',hm=>by
  rcases cD.1 hm with e | e
  ·subst e;exact h.1
  ·exact obsP_all (os:=o2::l) h.2 o' e
theorem obs_of {N:Num}{ds:List Df}{os:List Ob}{R:Prop}(hd:∀d∈ds,d.sat N)(e:obsP (xt N ds) ds os=R)(h:R):∀o∈os,o.holds N:=fun o ho=>by
 rw[←e,xt_self hd] at h;exact Ob.of_pr hd (obsP_all h o ho)
theorem pn_of {N:Num}{ds:List Df}{is:List Ar}{az:List (Option Nat)}(hd:∀d∈ds,d.sat N)(x:Nat){v:Int}(e:(pn is az (xt N ds)).i x=v):(pn is az N).i x=v:=by
 rw[xt_self hd] at e;exact e
theorem i_of {N:Num}{ds:List Df}(hd:∀d∈ds,d.sat N)(x:Nat){v:Int}(e:(xt N ds).i x=v):N.i x=v:=by
 rw[xt_self hd] at e;exact e
theorem a_of {N:Num}{ds:List Df}(hd:∀d∈ds,d.sat N)(x:Nat){v:List Int}(e:(xt N ds).a x=v):N.a x=v:=by
 rw[xt_self hd] at e;exact e
def famV (is:List Ar)(x y n:Nat):Bool:=(List.range n).all fun j=>match is.getD (x+j) (.kst 0) with | .var z=>Nat.beq z (y+j) | _=>false
theorem fam_v {N:Num}{is:List Ar}{al:List (Option Nat)}{x y n:Nat}(h:famV is x y n=true):∀j,j<n→(pn is al N).i (x+j)=N.i (y+j):=fun j hj=>by
 unfold famV at h;rw[bT] at h;have:=h j (cE.2 hj);show Ar.ev N (is.getD (x+j) (.kst 0))=_;cases e:is.getD (x+j) (.kst 0) with
 | var z=>rw[e] at this;simp only at this;rw[aF this];rfl
 | kst c=>rw[e] at this;cases this
def rowI (N:Num)(x n:Nat):List Int:=(List.range n).map fun j=>N.i (x+j)
theorem rowI_length (N:Num)(x n:Nat):(rowI N x n).length=n:=by unfold rowI;rw[bF,cV]
theorem rowI_get {N:Num}{x n j:Nat}(h:j<n):(rowI N x n)[j]? =some (N.i (x+j)):=by unfold rowI;rw[bP,cL h];rfl
theorem fZ {N:Num}{x n j:Nat}(h:j<n):(rowI N x n).getD j 0=N.i (x+j):=by rw[aE,rowI_get h];rfl
theorem fP {N:Num}{x n:Nat}{L:List Int}(hl:L.length=n)(h:∀j,j<n→N.i (x+j)=L.getD j 0):rowI N x n=L:=by
 apply dA;intro j;by_cases hj:j<n;·rw [rowI_get hj,h j hj,aE,aU (by omega)];rfl
 ·rw [bI (by rw[rowI_length];omega),bI (by omega)]
theorem fI {N M:Num}{x y n:Nat}(h:∀j,j<n→N.i (x+j)=M.i (y+j)):rowI N x n=rowI M y n:=by
 unfold rowI;exact cW fun j hj=>h j (cE.1 hj)
abbrev Pol:=List (List Nat×Int)
def monEv (N:Num):List Nat→Int
 | []=>1
 | x::l=>N.i x*monEv N l
def Pol.ev (N:Num):Pol→Int
 | []=>0
 | t::p=>t.2*monEv N t.1+Pol.ev N p
def monLt:List Nat→List Nat→Bool
 | [],[]=>false
 | [],_::_=>true
 | _::_,[]=>false
 | x::l,y::m=>bif Nat.blt x y then true else bif Nat.blt y x then false else monLt l m
def isZ0 (c:Int):Bool :=
 match c with
 | .ofNat n=>Nat.beq n 0
 | .negSucc _=>false
def pins (t:List Nat×Int):Pol→Pol
 | []=>[t]
 | u::q=>bif natsB t.1 u.1 then (bif isZ0 (t.2+u.2) then q else (t.1,t.2+u.2)::q) else bif monLt t.1 u.1 then t::u::q else u::pins t q
def padd:Pol→Pol→Pol
 | [],q=>q
 | t::p,q=>pins t (padd p q)
def pscale (c:Int):Pol→Pol
 | []=>[]
 | t::p=>(t.1,t.2*c)::pscale c p
def mins (x:Nat):List Nat→List Nat
 | []=>[x]
 | y::l=>bif Nat.ble x y then x::y::l else y::mins x l
def mmul:List Nat→List Nat→List Nat
 | [],m=>m
 | x::l,m=>mins x (mmul l m)
def pmul1 (t:List Nat×Int):Pol→Pol→Pol
 | [],acc=>acc
 | u::q,acc=>pins (mmul t.1 u.1,t.2*u.2) (pmul1 t q acc)
def pmul:Pol→Pol→Pol
 | [],_=>[]
 | t::p,q=>pmul1 t q (pmul p q)
def pk:Nat→Pol
 | 0=>[]
 | n+1=>[([],Int.ofNat (n+1))]
def px (x:Nat):Pol:=[([x],1)]
def pdiv (m:Nat):Pol→Bool
 | []=>true
 | t::p=>Nat.beq (t.2.natAbs%m) 0&&pdiv m p
section
variable {N:Num}
theorem pins_ev {t:List Nat×Int}:∀ {p:Pol},(pins t p).ev N=t.2*monEv N t.1+p.ev N
 | []=>rfl
 | u::q=>by
  unfold pins;cases h1:natsB t.1 u.1 with
  | true =>
   have e:=natsB_eq h1;simp only[aH];cases h2:isZ0 (t.2+u.2) with
   | true =>
    have hz:t.2+u.2=0:=by
     unfold isZ0 at h2;split at h2;·rename_i n hn;rw[hn,aF h2];rfl
     ·cases h2
    simp only[aH,Pol.ev,←e];rw[←Int.add_assoc,←Int.add_mul,hz];simp
   | false =>simp only[aQ,Pol.ev,←e,Int.add_mul];omega
  | false =>
   simp only[aQ];cases monLt t.1 u.1 with
   | true=>rfl
   | false=>simp only[aQ,Pol.ev,pins_ev (p:=q)];omega
theorem fS:∀ {p q:Pol},(padd p q).ev N=p.ev N+q.ev N
 | [],q=>by simp[padd,Pol.ev]
 | t::p,q=>by simp only[padd,pins_ev,fS (p:=p),Pol.ev];omega
theorem fN {c:Int}:∀ {p:Pol},(pscale c p).ev N=c*p.ev N
 | []=>by simp[pscale,Pol.ev]
 | t::p=>by simp only[pscale,Pol.ev,fN (p:=p),Int.mul_add];rw[dT t.2 c,dW]
theorem mins_ev {x:Nat}:∀ {l:List Nat},monEv N (mins x l)=N.i x*monEv N l
 | []=>rfl
 | y::l=>by
  unfold mins;cases Nat.ble x y with
  | true=>rfl
  | false=>simp only[aQ,monEv,mins_ev (l:=l)];rw[←dW,←dW,dT (N.i y)]
theorem mmul_ev:∀ {l m:List Nat},monEv N (mmul l m)=monEv N l*monEv N m
 | [],m=>by simp[mmul,monEv]
 | x::l,m=>by simp only[mmul,mins_ev,mmul_ev (l:=l),monEv,dW]
theorem pmul1_ev {t:List Nat×Int}:∀ {q acc:Pol},(pmul1 t q acc).ev N=t.2*monEv N t.1*q.ev N+acc.ev N
 | [],acc=>by simp[pmul1,Pol.ev]
 | u::q,acc=>by
  simp only[pmul1,pins_ev,pmul1_ev (q:=q),mmul_ev,Pol.ev,Int.mul_add];rw[show t.2*u.2*(monEv N t.1*monEv N u.1)=t.2*monEv N t.1*(u.2*monEv N u.1) by rw[dW,dW,←dW u.2,dT u.2,dW]]
  omega
theorem pmul_ev:∀ {p q:Pol},(pmul p q).ev N=p.ev N*q.ev N
 | [],q=>by simp[pmul,Pol.ev]
 | t::p,q=>by simp only[pmul,pmul1_ev,pmul_ev (p:=p),Pol.ev,Int.add_mul]
theorem pk_ev {n:Nat}:(pk n).ev N=n:=by
 cases n with
 | zero=>rfl
 | succ n=>simp only[pk,Pol.ev,monEv];rw[Int.mul_one,dJ];rfl
theorem px_ev {x:Nat}:(px x).ev N=N.i x:=by simp[px,Pol.ev,monEv]
theorem pdiv_ev {m:Nat}:∀ {p:Pol},pdiv m p=true→(m:Int) ∣ p.ev N
 | [],_=>⟨0,by simp[Pol.ev]⟩
 | t::p,h=>by simp only[pdiv,aG] at h;have h1:(m:Int) ∣ t.2:=Int.ofNat_dvd_left.2 (Nat.dvd_of_mod_eq_zero (aF h.1));exact Int.dvd_add (Int.dvd_mul_of_dvd_left h1) (pdiv_ev h.2)
end
structure Ab where
 lo:Nat
 hi:Nat
 p:Pol
def Ab.ok (N:Num)(A:Ab)(x:Int):Prop:=x=A.p.ev N∧(A.lo:Int)≤x∧x≤(A.hi:Int)
def kMax:IntKind→Nat
 | .u8=>255
 | .u16=>65535
 | .u32=>4294967295
 | .u64=>18446744073709551615
 | .i8=>0
 | .i16=>0
 | .i32=>2147483647
 | .i64=>9223372036854775807
theorem wrap_id {k:IntKind}{x:Int}(h0:0≤x)(h:x≤kMax k):k.wrap x=x:=by
 cases k <;> simp only[kMax] at h
 case u8=>rw[IntKind.wrap_u8];omega
 case u16=>rw[IntKind.wrap_u16];omega
 case u32=>rw[IntKind.wrap_u32];omega
 case u64=>rw[IntKind.wrap_u64];omega
 case i8 =>
  obtain rfl:x=0:=by omega
  decide
 case i16 =>
  obtain rfl:x=0:=by omega
  decide
 case i32=>rw[IntKind.wrap_i32];omega
 case i64=>rw[IntKind.wrap_i64];omega
theorem wrap_uns {k:IntKind}(hk:unsignedB k=true)(x:Int):k.wrap x=x%((2^k.bits:Nat):Int):=by
 cases k <;> simp only[unsignedB,bV] at hk <;> simp only[IntKind.wrap_u8,IntKind.wrap_u16,IntKind.wrap_u32,IntKind.wrap_u64,IntKind.bits] <;> rfl
theorem kMax_uns {k:IntKind}(hk:unsignedB k=true):kMax k+1=2^k.bits:=by
 cases k <;> simp only[unsignedB,bV] at hk <;> rfl
theorem wrap_rng {k:IntKind}(hk:unsignedB k=true)(x:Int):0≤k.wrap x∧k.wrap x≤kMax k:=by
 have h:=kMax_uns hk;have hp:0<2^k.bits:=Nat.pow_pos (by decide);rw[wrap_uns hk];have h1:=Int.emod_nonneg x (show ((2^k.bits:Nat):Int)≠0 by omega);have h2:=eI x (show (0:Int)<((2^k.bits:Nat):Int) by omega);omega
def atomA (x lo hi:Nat):Ab:=⟨lo,hi,px x⟩
structure Cx where
 fm:Nat:=0
 up:Nat→Bool:=fun _=>false
 fl:Nat→Nat:=fun _=>0
 fi:Nat→Nat:=fun _=>0
 il:Nat→Nat:=fun _=>0
structure Px where
 qs:List (Nat×Nat×Nat)
 ca:List (Nat×Ar×Ar×Ar)
 ma:List (Nat×Ar×Ar)
structure Sx where
 t:Tr Ab
 la:Tr Ad
def qGet:List (Nat×Nat×Nat)→Nat→Nat→Option Nat
 | [],_,_=>none
 | (q,y,n)::l,x,m=>bif Nat.beq y x&&Nat.beq n m then some q else qGet l x m
def qVar (qs:List (Nat×Nat×Nat))(a:Ar)(m:Nat):Option Nat :=
 match a with
 | .var x=>qGet qs x m
 | .kst _=>none
def caGet:List (Nat×Ar×Ar×Ar)→Ar→Ar→Ar→Option Nat
 | [],_,_,_=>none
 | (x,a,b,c)::l,a',b',c'=>bif eAr a a'&&eAr b b'&&eAr c c' then some x else caGet l a' b' c'
def maGet:List (Nat×Ar×Ar)→Ar→Ar→Option Nat
 | [],_,_=>none
 | (x,a,b)::l,a',b'=>bif eAr a a'&&eAr b b' then some x else maGet l a' b'
def abAr (t:Tr Ab):Ar→Option Ab
 | .var x=>t.get x
 | .kst (.ofNat n)=>some ⟨n,n,pk n⟩
 | .kst (.negSucc _)=>none
def abMod (x:Nat)(qs:List (Nat×Nat×Nat))(a:Ar)(A:Ab)(m:Nat):Ab :=
 bif Nat.blt A.hi m then A else match qVar qs a m with
  | some q=>⟨0,m-1,padd A.p (pscale (-(Int.ofNat m)) (px q))⟩
  | none=>atomA x 0 (m-1)
def abDiv (x:Nat)(A:Ab)(m:Nat):Ab:=bif Nat.blt A.hi m then ⟨0,0,[]⟩ else atomA x (A.lo/m) (A.hi/m)
def top (x:Nat)(k:IntKind):Option Ab:=bif unsignedB k then some (atomA x 0 (kMax k)) else none
def pow2 (n:Nat):Nat:=bif Nat.beq n 0 then 1 else 2^(Nat.log2 n+1)
def abBin (x:Nat)(qs:List (Nat×Nat×Nat))(op:BinOp)(k:IntKind)(a b:Ar)(A B:Ab):Option Ab :=
 match op with
 | .add=>bif Nat.ble (A.hi+B.hi) (kMax k) then some ⟨A.lo+B.lo,A.hi+B.hi,padd A.p B.p⟩ else top x k
 | .sub=>bif Nat.ble B.hi A.lo&&Nat.ble A.hi (kMax k) then some ⟨A.lo-B.hi,A.hi-B.lo,padd A.p (pscale (-1) B.p)⟩ else top x k
 | .mul=>bif Nat.ble (A.hi*B.hi) (kMax k) then some ⟨A.lo*B.lo,A.hi*B.hi,pmul A.p B.p⟩ else top x k
 | .shl=>match b with
  | .kst (.ofNat n)=>bif Nat.ble n k.bits&&unsignedB k&&Nat.ble A.hi (kMax k) then
   bif Nat.ble (A.hi*2^n) (kMax k) then some ⟨A.lo*2^n,A.hi*2^n,pscale (Int.ofNat (2^n)) A.p⟩ else
    match qVar qs a (2^(k.bits-n)) with
    | some q=>some ⟨0,kMax k,padd (pscale (Int.ofNat (2^n)) A.p) (pscale (-(Int.ofNat (2^k.bits))) (px q))⟩
    | none=>top x k
   else none
  | _=>top x k
 | .shr=>match b with
  | .kst (.ofNat n)=>bif Nat.ble n k.bits then some (abDiv x A (2^n)) else none
  | _=>none
 | .quo=>match b with
  | .kst (.ofNat m)=>bif Nat.blt 0 m&&Nat.ble A.hi (kMax k) then some (abDiv x A m) else none
  | _=>none
 | .rem=>match b with
  | .kst (.ofNat m)=>bif Nat.blt 0 m&&Nat.ble A.hi (kMax k) then some (abMod x qs a A m) else none
  | _=>none
 | .and=>match b with
  | .kst (.ofNat m)=>bif unsignedB k&&Nat.ble A.hi (kMax k)&&Nat.ble m (kMax k) then
   bif Nat.beq (m+1) (2^Nat.log2 (m+1)) then some (abMod x qs a A (m+1)) else some (atomA x 0 m)
   else top x k
  | _=>top x k
 | .or=>bif unsignedB k&&Nat.ble A.hi (kMax k)&&Nat.ble B.hi (kMax k) then
  bif pdiv (pow2 B.hi) A.p then some ⟨A.lo+B.lo,A.hi+B.hi,padd A.p B.p⟩ else
   bif pdiv (pow2 A.hi) B.p then some ⟨A.lo+B.lo,A.hi+B.hi,padd A.p B.p⟩ else top x k
  else top x k
 | .xor=>top x k
 | .andNot=>top x k
 | _=>none
def decC (op:BinOp)(A B:Ab):Option Bool :=
 match op with
 | .lss=>bif Nat.blt A.hi B.lo then some true else bif Nat.ble B.hi A.lo then some false else none
 | .leq=>bif Nat.ble A.hi B.lo then some true else bif Nat.blt B.hi A.lo then some false else none
 | .gtr=>bif Nat.blt B.hi A.lo then some true else bif Nat.ble A.hi B.lo then some false else none
 | .geq=>bif Nat.ble B.hi A.lo then some true else bif Nat.blt A.hi B.lo then some false else none
 | .eql=>bif Nat.beq A.lo A.hi&&Nat.beq B.lo B.hi&&Nat.beq A.lo B.lo then some true else bif Nat.blt A.hi B.lo||Nat.blt B.hi A.lo then some false else none
 | .neq=>bif Nat.beq A.lo A.hi&&Nat.beq B.lo B.hi&&Nat.beq A.lo B.lo then some false else bif Nat.blt A.hi B.lo||Nat.blt B.hi A.lo then some true else none
 | _=>none
def maxHi (t:Tr Ab):List Ar→Option Nat
 | []=>some 0
 | a::l=>match abAr t a,maxHi t l with
  | some A,some m=>some (Nat.max A.hi m)
  | _,_=>none
def nz (x n:Nat):Option Ab:=match n with | 0=>none | n+1=>some (atomA x 0 n)
def abNd (cx:Cx)(px':Px)(s:Sx)(x:Nat):Nd→Option Ab
 | .bin op k a b=>match abAr s.t a,abAr s.t b with
  | some A,some B=>abBin x px'.qs op k a b A B
  | _,_=>none
 | .conv k a=>match abAr s.t a with
  | some A=>bif Nat.ble A.hi (kMax k) then some A else bif unsignedB k&&Nat.ble A.hi 18446744073709551615 then some (abMod x px'.qs a A (2^k.bits)) else none
  | none=>none
 | .cmp op a b=>match abAr s.t a,abAr s.t b with
  | some A,some B=>match decC op A B with
   | some true=>some ⟨1,1,pk 1⟩
   | some false=>some ⟨0,0,[]⟩
   | none=>some (atomA x 0 1)
  | _,_=>some (atomA x 0 1)
 | .addS a b c=>match abAr s.t a,abAr s.t b,abAr s.t c with
  | some A,some B,some C=>bif Nat.ble (A.hi+B.hi+C.hi) 18446744073709551615 then some ⟨A.lo+B.lo+C.lo,A.hi+B.hi+C.hi,padd A.p (padd B.p C.p)⟩ else match caGet px'.ca a b c with
   | some y=>bif Nat.ble (A.hi+B.hi+C.hi) 36893488147419103231 then some ⟨0,18446744073709551615,padd (padd A.p (padd B.p C.p)) (pscale (-18446744073709551616) (px y))⟩ else some (atomA x 0 18446744073709551615)
   | none=>some (atomA x 0 18446744073709551615)
  | _,_,_=>some (atomA x 0 18446744073709551615)
 | .addC a b c=>match abAr s.t a,abAr s.t b,abAr s.t c with
  | some A,some B,some C=>bif Nat.ble (A.hi+B.hi+C.hi) 18446744073709551615 then some ⟨0,0,[]⟩ else some (atomA x 0 1)
  | _,_,_=>some (atomA x 0 1)
 | .lin a b c=>match abAr s.t a,abAr s.t b,c with
  | some A,some B,.ofNat c=>some ⟨A.lo+B.lo*c,A.hi+B.hi*c,padd A.p (pscale (Int.ofNat c) B.p)⟩
  | some A,some B,.negSucc c=>bif Nat.ble (B.hi*(c+1)) A.lo then some ⟨A.lo-B.hi*(c+1),A.hi-B.lo*(c+1),padd A.p (pscale (Int.negSucc c) B.p)⟩ else none
  | _,_,_=>none
 | .rd A (.kst (.ofNat j))=>match s.la.get A with
  | some (.lit l)=>match l[j]? with
   | some a=>abAr s.t a
   | none=>none
  | some (.fn f _ _)=>nz x (cx.fl f)
  | some _=>none
  | none=>nz x (cx.il A)
 | .rd A _=>match s.la.get A with
  | none=>nz x (cx.il A)
  | some _=>none
 | .sel l _=>match maxHi s.t l with
  | some m=>some (atomA x 0 m)
  | none=>none
 | .fn f is az j=>bif Nat.blt 0 cx.fm&&Nat.beq f cx.fm then
  match is,az,j with
  | [a,b],[],0=>match abAr s.t a,abAr s.t b with
   | some A,some B=>bif Nat.blt A.hi 18446744073709551616&&Nat.blt B.hi 18446744073709551616 then bif Nat.blt (A.hi*B.hi) 18446744073709551616 then some ⟨0,0,[]⟩ else some (atomA x 0 (A.hi*B.hi/18446744073709551616)) else none
   | _,_=>none
  | [a,b],[],1=>match abAr s.t a,abAr s.t b with
   | some A,some B=>bif Nat.blt A.hi 18446744073709551616&&Nat.blt B.hi 18446744073709551616 then bif Nat.blt (A.hi*B.hi) 18446744073709551616 then some ⟨A.lo*B.lo,A.hi*B.hi,pmul A.p B.p⟩ else match maGet px'.ma a b with
    | some h=>some ⟨0,18446744073709551615,padd (pmul A.p B.p) (pscale (-18446744073709551616) (px h))⟩
    | none=>none
    else none
   | _,_=>none
  | _,_,_=>none
  else nz x (cx.fi f)
 | .seq _ _=>some (atomA x 0 1)
 | .leq _ _=>some (atomA x 0 1)
 | _=>none
def pre1 (fm:Nat)(p:Px):Df→Px
 | .n q (.bin .shr k (.var x) (.kst (.ofNat n)))=>bif Nat.ble n k.bits then {p with qs:=(q,x,2^n)::p.qs} else p
 | .n q (.bin .quo k (.var x) (.kst (.ofNat m)))=>bif Nat.blt 0 m&&kindB k .u64 then {p with qs:=(q,x,m)::p.qs} else p
 | .n y (.addC a b c)=>{p with ca:=(y,a,b,c)::p.ca}
 | .n y (.fn f [a,b] [] 0)=>bif Nat.beq f fm then {p with ma:=(y,a,b)::p.ma} else p
 | _=>p
def pre (fm:Nat):List Df→Px→Px
 | [],p=>p
 | d::r,p=>pre fm r (pre1 fm p d)
def goA (cx:Cx)(px':Px):List Df→Sx→Sx
 | [],s=>s
 | .n x nd::r,s=>match abNd cx px' s x nd with
  | some A=>goA cx px' r {s with t:=s.t.set x A}
  | none=>goA cx px' r s
 | .a A ad::r,s=>goA cx px' r {s with la:=s.la.set A ad}
def obOk (cx:Cx)(s:Sx):Ob→Bool
 | .le a b=>match abAr s.t a,abAr s.t b with
  | some A,some B=>Nat.ble A.hi B.lo
  | _,_=>false
 | .lt a b=>match abAr s.t a,abAr s.t b with
  | some A,some B=>Nat.blt A.hi B.lo
  | _,_=>false
 | .eq a b=>match abAr s.t a,abAr s.t b with
  | some A,some B=>Nat.beq A.lo A.hi&&Nat.beq B.lo B.hi&&Nat.beq A.lo B.lo
  | _,_=>false
 | .boo x t=>match s.t.get x with
  | some A=>bif t then Nat.blt 0 A.lo else Nat.beq A.hi 0
  | none=>false
 | .prd p is _=>cx.up p&&is.all fun a=>match abAr s.t a with
  | some A=>Nat.blt A.hi 18446744073709551616
  | none=>false
 | .inA x A=>match abAr s.t x,s.la.get A with
  | some X,some (.lit l)=>Nat.blt X.hi l.length
  | _,_=>false
 | _=>false
def valW (w:Int):List Int→Int
 | []=>0
 | v::l=>v+w*valW w l
def polW (t:Tr Ab)(w:Int):List Ar→Option Pol
 | []=>some []
 | a::l=>match abAr t a,polW t w l with
  | some A,some p=>some (padd A.p (pscale w p))
  | _,_=>none
def bndL (t:Tr Ab)(hi:Nat):List Ar→Bool
 | []=>true
 | a::l=>(match abAr t a with | some A=>Nat.blt A.hi hi | none=>false)&&bndL t hi l
end Go.Sy
