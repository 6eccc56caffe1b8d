/- secretbox.Open: its loop over the first bytes. -/
import Derived.Test.YtnfikgagkamioaaGreatDoorS23
namespace Go.Proofs.YtnfikgagkamioaaGreatDoor.S
open Go.Sy
noncomputable def rawD (P:Program)(fn:Func)(σ:St)(r:Option (Out×Tr SV×St)):Option (List V1×St) :=
 match r with
 | some (.done e,T1,σ1) =>
  bif notExit e then
   match resS T1 P fn.results.toList σ1 with
   | some (vs,σ2)=>match ordOk σ.nx σ.na σ2.defs with
    | some _=>some (vs,σ2)
    | none=>none
   | none=>none
  else none
 | _=>none
theorem to_raw {F:Fns}{call:FuncId→List SV→St→Option (SV×St)}(hcall:CallOk F Tryz.prog call){fn:Func}{Ne:Num}{Ee:Env}{σe:St}{we:World}{stops:List Nat}{f fuel:Nat}{c:Code}{ks:List Kt}{T:Tr SV}{σ σ2:St}{o:List Bool}{vs:List V1}{N:Num}{a:Act}{w:World}{Z:Ending→World→Prop}
 (hrun:rawD Tryz.prog fn σ (runK Tryz.prog call stops fn.ntmps f fuel c ks T (σ.ask' o))=some (vs,σ2)) (hpat:patB T σ=true) (hat:At F fn.ntmps Ne Ee σe we T σ N a w)
 (H:∀N',Agr σ.nx σ.na N N'→N'.f=F→(∀ d∈σ2.defs,d.sat N')→(∀ ob∈σ2.obs,ob.holds N')∧∀E' w' u,(resV vs).den N' E'=some u→Post Ne Ee σe we N' E' σ2 w'→Z (.returned u) w') :
 c.wp Tryz.prog (wpK Tryz.prog ks (bodyPost Tryz.prog fn Z)) a w:=by
 unfold rawD at hrun;split at hrun
 ·rename_i e T1 σ1 h1;cases hb:notExit e with
  | false=>rw[hb] at hrun;cases hrun
  | true =>
   rw[hb] at hrun;simp only[aH] at hrun;split at hrun
   ·rename_i vs' σ2' h4;split at hrun
    ·rename_i mx h6;simp only[aA,aD] at hrun;obtain ⟨rfl,rfl⟩:=hrun;have hx:=runK_ext hcall f h1;have hx2:=(resS_pur h4).ext;obtain ⟨N',k1,k2,k3,k4⟩:=ext_at (o:=o) hpat h6 (hx2.ni.trans hx.ni) hat;obtain ⟨g1,g2⟩:=H N' k1 k2 k3;obtain ⟨hH,E,hA,hp⟩:=k4 g1;refine gL hm hcall f h1 (eT hx2 hH) hA hp.inv hp.bw fun E' a' w' q1 q2=> ?_
     have hp2:=hp.trans q2;obtain ⟨u,hu,hres⟩:=resV_run q1 hp2.bw h4 hH;have:=g2 E' w' u hu (hp2.trans (fD (resS_pur h4) hp2.inv hp2.bw));cases e with
     | normal=>exact ⟨q1.defers,u,hres,this⟩
     | ret=>exact ⟨q1.defers,u,hres,this⟩
     | exit id=>cases hb
    ·cases hrun
   ·cases hrun
 ·cases hrun
def a24:List SV:=[.one (.sc (.sl 0 (.kst 0) (.var 0) (some (.var 1)))),.one (.sc (.num .i64 2))]
def s24:St:={ni:=0,nx:=3,na:=1,nb:=1,nv:=0,defs:=[],obs:=[],orc:=[],gl:= .nil,bks:=mkT [(0,{n:=0,rw:=true,cells:=mkT [] .nil,arr:=some (.u8,0,false)})] .nil}
noncomputable def raw24 (o:List Bool):Option (List V1×St):=rawD Tryz.prog Tryz.f55 s24 (runK Tryz.prog (callT []) [] Tryz.f55.ntmps 1000 2000 (bodyC Tryz.f55) [] (trArgs 0 a24 s24.gl) (s24.ask' o))
def z24a:St:={ni:=0,nx:=8,na:=1,nb:=1,nv:=0,defs:=[.n 7 (.lin (.var 1) (.var 0) (-1)),
 .n 6 (.lin (.var 3) (.var 0) (-1)),
 .n 5 (.lin (.kst 0) (.var 0) 1),
 .n 4 (.cmp .geq (.var 1) (.var 3)),
 .n 3 (.bin .add .i64 (.var 0) (.var 2))],obs:=[.lt (.var 0) (.var 1),
 .le (.var 3) (.var 1),
 .le (.var 0) (.var 3),
 .le (.kst 0) (.var 0),
 .le (.kst 0) (.var 0),
 .le (.var 3) (.var 1),
 .le (.kst 0) (.var 3),
 .boo 4 true,
 .le (.kst 0) (.var 1),
 .le (.kst 0) (.var 0)],orc:=[],gl:= .nil,bks:=mkT [(0,{n:=0,rw:=true,cells:=mkT [] .nil,arr:=some (.u8,0,false)})] .nil}
theorem run24a:raw24 [true,true]=some ([.sc (.sl 0 (.kst 0) (.var 3) (some (.var 1))),.sc (.sl 0 (.var 5) (.var 6) (some (.var 7)))],z24a):=by kernel_rfl
def z24b:St:={ni:=0,nx:=9,na:=4,nb:=2,nv:=0,defs:=[.n 8 (.lin (.var 3) (.var 0) (-1)),
 .n 7 (.lin (.var 3) (.var 0) (-1)),
 .n 6 (.lin (.kst 0) (.var 0) 1),
 .a 3 (.cpy 1 (.kst 0) 2),
 .a 2 (.sub 0 (.kst 0) (.var 5)),
 .n 5 (.mn (.var 0) (.var 3)),
 .a 1 (.rep (.var 3) (.kst 0)),
 .n 4 (.cmp .geq (.var 1) (.var 3)),
 .n 3 (.bin .add .i64 (.var 0) (.var 2))],obs:=[.lt (.var 0) (.var 3),
 .le (.var 3) (.var 3),
 .le (.var 0) (.var 3),
 .le (.kst 0) (.var 0),
 .le (.kst 0) (.var 0),
 .fits (.kst 0) (.var 5) 1,
 .le (.kst 0) (.var 5),
 .fits (.kst 0) (.var 5) 0,
 .le (.var 3) (.kst 1099511627776),
 .le (.var 3) (.var 3),
 .le (.kst 0) (.var 3),
 .boo 4 false,
 .le (.kst 0) (.var 1),
 .le (.kst 0) (.var 0)],orc:=[],gl:= .nil,bks:=mkT [(0,{n:=0,rw:=true,cells:=mkT [] .nil,arr:=some (.u8,0,false)}),(1,{n:=0,rw:=true,cells:=mkT [] .nil,arr:=some (.u8,3,false)})] .nil}
theorem run24b:raw24 [false,true]=some ([.sc (.sl 1 (.kst 0) (.var 3) (some (.var 3))),.sc (.sl 1 (.var 6) (.var 7) (some (.var 8)))],z24b):=by kernel_rfl
def z24c:St:={ni:=0,nx:=5,na:=1,nb:=1,nv:=1,defs:=[.n 4 (.cmp .geq (.var 1) (.var 3)),
 .n 3 (.bin .add .i64 (.var 0) (.var 2))],obs:=[.eq (.var 0) (.var 3),
 .le (.var 3) (.var 1),
 .le (.var 0) (.var 3),
 .le (.kst 0) (.var 0),
 .le (.kst 0) (.var 0),
 .le (.var 3) (.var 1),
 .le (.kst 0) (.var 3),
 .boo 4 true,
 .le (.kst 0) (.var 1),
 .le (.kst 0) (.var 0)],orc:=[],gl:= .nil,bks:=mkT [(0,{n:=0,rw:=true,cells:=mkT [] .nil,arr:=some (.u8,0,false)})] .nil}
theorem run24c:raw24 [true,false]=some ([.sc (.sl 0 (.kst 0) (.var 3) (some (.var 1))),.sc (.emp 0)],z24c):=by kernel_rfl
def P24:List Int→List (List Int)→Prop
 | [n],[L]=>0<n∧(L.length:Int)+n≤1099511627776
 | [n],[]=>0<n∧n≤1099511627776
 | _,_=>False
def P24z:List Int→List (List Int)→Prop
 | [n],[L]=>n=0∧(L.length:Int)≤1099511627776
 | [n],[]=>n=0
 | _,_=>False
def I24:List Int→List (List Int)→Nat→Int
 | [n],[L],j=>if j=0 then L.length else n
 | [n],[],j=>if j=0 then 0 else n
 | _,_,_=>0
def A24:List Int→List (List Int)→List Int
 | [n],[L]=>L++List.replicate n.toNat 0
 | [n],[]=>List.replicate n.toNat 0
 | _,_=>[]
structure F24 (F:Fns):Prop where
 p24:F.p 24=P24
 p24z:F.p 240=P24z
 i24:F.i 24=I24
 a24:F.a 24=A24
def n24 (F:Fns)(L:List Int)(c:Nat)(n:Int):Num:=⟨fun x=>[(L.length:Int),(c:Int),n].getD x 0,fun A=>[L++List.replicate (c-L.length) 0].getD A [],F⟩
def b24:Bk:={n:=0,rw:=true,cells:= .nil,arr:=some (.u8,0,false)}
theorem enter24 {F:Fns}{q s c:Nat}{L:List Int}{n:Int}{w:World}{Z:Ending→World→Prop}(hmem:MemG w q s c .u8 L)(hc:L.length≤c)
 (H:∀E a,E.blk 0=some (q,s,c)→At F Tryz.f55.ntmps (n24 F L c n) E s24 w (trArgs 0 a24 s24.gl) s24 (n24 F L c n) a w→(bodyC Tryz.f55).wp Tryz.prog (wpK Tryz.prog [] (bodyPost Tryz.prog Tryz.f55 Z)) a w) :
 Calls Tryz.prog 55 #[.slice (some ⟨q,s,none⟩) L.length c,.int .i64 n] w Z:=by
 obtain ⟨arr,el,m1,m2,m3,m4⟩:=hmem;have hI0:Inv ⟨fun _=>none,fun _=>none⟩ σ00:=⟨fun _ _=>rfl,fun _ _=>rfl,fun t sv e=>by cases e⟩
 have hB0:BW (n24 F L c n) ⟨fun _=>none,fun _=>none⟩ σ00.bks w:=⟨fun i B e=>(by cases e),fun i i' B B' q s s' c c' e=>(by cases e)⟩
 have hA:(n24 F L c n).a 0=L++List.replicate (c-L.length) 0:=rfl;have hlen:((n24 F L c n).a 0).length=c:=by rw[hA,aO,aW];omega
 have hw0:b24.wid (n24 F L c n) c=c:=by simp only[b24,Bk.wid,aQ,hlen]
 obtain ⟨k1,k2,k3,k4⟩:=addBlk (N:=n24 F L c n) (σ:=σ00) (σ':=s24) (B:=b24) (c:=c) hI0 hB0 m1 (fun _=>rfl) (by rw[hw0];exact m2) (by
  simp only[Bk.cont,b24,hA];refine ⟨fun j v hj=> ?_,fun e=>by cases e⟩;rw[List.getElem?_append] at hj;by_cases hjl:j<L.length;·rw [bG hjl] at hj;exact m3 j v hj
  ·rw [bC hjl,eH] at hj;split at hj
   ·rename_i h1;simp only[aA] at hj;subst hj;exact m4 j (by omega) (by omega)
   ·cases hj)
  (fun i B' s' c' e=>by cases e) rfl rfl rfl rfl
 have hd:denLV (n24 F L c n) (Env.addB ⟨fun _=>none,fun _=>none⟩ 0 (q,s,c)) a24=some [.slice (some ⟨q,s,none⟩) L.length c,.int .i64 n]:=by
  refine denLV_cons.2 ⟨_,_,?_,denLV_cons.2 ⟨_,_,rfl,rfl,rfl⟩,rfl⟩;have h9:=sl_mk (N:=n24 F L c n) (E:=Env.addB ⟨fun _=>none,fun _=>none⟩ 0 (q,s,c)) (b:=0) (off:= .kst 0) (len:= .var 0) (cap:=some (.var 1)) k4 (bK _) (fun e=>by cases e);simp only[SV.den,V1.den,h9,capOf,Ar.ev];simp[n24]
 exact calls_of_wp (f:=55) (fn:=Tryz.f55) Tryz.func55 (fM rfl) (H _ _ k4 ⟨rfl,fun x hx=>(by cases hx),_,RA.enter k2 hd (by decide),Post.refl k2 k3⟩)
theorem grow24 {N N':Num}{E E':Env}{σ2:St}{q s c:Nat}{w w':World}(hb:E.blk 0=some (q,s,c))(hn:(N.a 0).length=c)(hp:Post N E s24 w N' E' σ2 w'):Grow (some ⟨q,s,c,true⟩) w w':=by
 have only:∀i B s1 c1 q1,s24.bks.get i=some B→E.blk i=some (q1,s1,c1)→q1=q∧s1=s∧B.wid N c1=c:=fun i B s1 c1 q1 h1 h2=>by
  have hs:s24.bks=Tr.nil.set 0 b24:=rfl;rw[hs,fA] at h1;by_cases hi:i=0
  ·rw [bG hi] at h1;simp only[aA] at h1;subst h1;rw[hi,hb] at h2;simp only[aA,aD] at h2;obtain ⟨rfl,rfl,rfl⟩:=h2;exact ⟨rfl,rfl,by simp only[b24,Bk.wid,aQ,hn]⟩
  ·rw [bC hi] at h1;cases h1
 refine ⟨hp.kept.os,hp.kept.tape,hp.kept.output,hp.kept.size,fun q1 hq hno=>hp.kept.block q1 hq fun i B s1 c1 h1 _ h3=> ?_,fun y arr el fz e hh=> ?_⟩
 ·obtain ⟨rfl,_⟩:=only i B s1 c1 q1 h1 h3;exact hno _ rfl rfl
 ·simp only[aA] at e;subst e;obtain ⟨arr',k1,k2,k3⟩:=hp.kept.part q arr el fz hh;refine ⟨arr',k1,k2,fun j hj=>k3 j fun i B s1 c1 h1 _ h3=> ?_⟩;obtain ⟨_,rfl,h5⟩:=only i B s1 c1 q h1 h3;rw[h5];exact hj
theorem add64 {a b:Int}(ha:0≤a)(hb:0≤b)(h:a+b≤1099511627776):iop .add .i64 a b=a+b:=by
 simp only[iop];rw[IntKind.wrap_i64];omega
theorem v1sc {N:Num}{E:Env}{x:Sc}{u:Value}(h:(V1.sc x).den N E=some u):x.den N E=some u:=h
theorem room24 {F:Fns}{q s c:Nat}{L:List Int}{n:Int}{w w':World}{N':Num}{E E':Env}{σ2:St}(hc:L.length≤c)(hn0:0≤n)(hn:(L.length:Int)+n≤c)(hE:E.blk 0=some (q,s,c))(hag:N'.a 0=(n24 F L c n).a 0)(hs:σ2.bks=s24.bks)(hp:Post (n24 F L c n) E s24 w N' E' σ2 w') :
 Fresh (some ⟨q,s,c,true⟩) w w' .u8 (L++List.replicate n.toNat 0) (.slice (some ⟨q,s,none⟩) (L.length+n.toNat) c):=by
 have hb:σ2.bks.get 0=some b24:=by rw[hs];rfl
 obtain ⟨q',s',c',arr,el,fz,g1,g2,g3,g4,g5⟩:=hp.bw.at' 0 b24 hb;rw[hp.le.blk _ _ hE] at g1;simp only[aA,aD] at g1;obtain ⟨rfl,rfl,rfl⟩:=g1;have:=g3 rfl;subst this;have hA:(n24 F L c n).a 0=L++List.replicate (c-L.length) 0:=rfl;have hlen:(N'.a 0).length=c:=by rw[hag,hA,aO,aW];omega
 simp only[b24,Bk.wid,Bk.cont,aQ,hlen] at g4 g5;have g5:=g5.1;rw[hag,hA] at g5;refine ⟨q,s,c,arr,el,by rw[aO,aW],by rw[aO,aW];omega,.inr ⟨_,rfl,rfl,aS _,aS _⟩,g2,g4,fun j v hj=> ?_,fun j h1 h2=> ?_⟩
 ·refine g5 j v ?_;rw[List.getElem?_append] at hj ⊢;by_cases h:j<L.length;·rw [bG h] at hj ⊢;exact hj
  ·rw [bC h,eH] at hj ⊢;split at hj;·rw [bG (by omega)];exact hj
   ·cases hj
 ·rw [aO,aW] at h1;refine g5 j 0 ?_;rw[List.getElem?_append,bC (by omega),eH,bG (by omega)]
theorem spec24 {F:Fns}(h:F24 F):CSpec Tryz.prog F 55 ct24:=by
 intro us is ls ws w hA _ _ hpr;cases hA with
 | @gr _ q s c L _ _ _ _ _ hmem hc h1 =>
  cases h1 with
  | @int _ n _ _ _ _ _ h2 =>
   cases h2;have hpr:0<n∧(L.length:Int)+n≤1099511627776:=by
    have:P24 [n] [L]:=by rw[←h.p24];exact hpr
    exact this
   have hA0:∀c n,(n24 F L c n).a 0=L++List.replicate (c-L.length) 0:=fun _ _=>rfl
   have hl0:((n24 F L c n).a 0).length=c:=by rw[hA0,aO,aW];omega
   refine enter24 (F:=F) hmem hc fun E a hE hat=> ?_
   by_cases hr:(L.length:Int)+n≤c
   ·refine to_raw (eU (tab:=[]) trivial) run24a (by kernel_rfl) hat fun N hag hf hd=> ?_
    have e0:N.i 0=L.length:=hag.i 0 (by decide);have e1:N.i 1=c:=hag.i 1 (by decide);have e2:N.i 2=n:=hag.i 2 (by decide);have ea:N.a 0=_:=hag.a 0 (by decide);simp only[z24a,aC,Df.sat,Nd.ev,Ar.ev,e0,e1,e2] at hd;obtain ⟨q7,q6,q5,q4,q3,-⟩:=hd;rw[add64 (by omega) (by omega) (by omega)] at q3;rw[q3] at q4 q6;refine ⟨?_,fun E' w' u hu hp=> ?_⟩
    ·simp only[z24a,aC,Ob.holds,Ar.ev,e0,e1,q3,q4];refine ⟨by omega,by omega,by omega,by omega,by omega,by omega,by omega,?_,by omega,by omega,nofun⟩;simp only[icmp];rw[bS (by omega)];rfl
    ·obtain ⟨us,hd,rfl⟩:=resV_den_inv hu;obtain ⟨u1,r1,d1,hd1,rfl⟩:=denL1_cons.1 hd;obtain ⟨u2,r2,d2,hd2,rfl⟩:=denL1_cons.1 hd1;simp only[denL1,aA] at hd2;subst hd2;have hb:=hp.le.blk _ _ hE;obtain ⟨_,_,_,m1,g1,_,rfl,g2,_⟩:=gC (v1sc d1);rw[hb] at g1;simp only[aA,aD] at g1;obtain ⟨rfl,rfl,rfl⟩:=g1;obtain ⟨_,_,_,m2,g1,_,rfl,g3,_⟩:=gC (v1sc d2);rw[hb] at g1;simp only[aA,aD] at g1;obtain ⟨rfl,rfl,rfl⟩:=g1;simp only[capOf,Ar.ev,e1,q3,q5,q6,q7] at g2 g3 ⊢
     have hF:=room24 (F:=F) (σ2:=z24a) hc (by omega) hr hE ea rfl hp;have ht:((L.length:Int)+n).toNat=L.length+n.toNat:=by omega
     refine ⟨_,rfl,w,[_,_],.slice (some ⟨q,s,none⟩) (L.length+n.toNat) c,rfl,rfl,grow24 hE hl0 hp,⟨?_,fun _ e=>by cases e⟩,⟨?_,?_,trivial⟩⟩
     ·show Fresh _ _ _ _ (F.a 24 [n] [L]) _;rw[h.a24];exact hF
     ·rw [g2,ht,bD,Int.toNat_zero,cJ]
     ·refine ⟨q,s,L.length+n.toNat,c,L.length,n.toNat,rfl,by show F.i 24 _ _ _=_;rw[h.i24];rfl,by show F.i 24 _ _ 1=_;rw[h.i24];show n=_;omega,by omega,?_⟩;subst g3;have e5:((0:Int)+ ↑L.length*1).toNat=L.length:=by omega
      have e6:((L.length:Int)+n+ ↑L.length* -1).toNat=n.toNat:=by omega
      have e7:((c:Int)+ ↑L.length* -1).toNat=c-L.length:=by omega
      rw[e5,e6,e7]
   ·refine to_raw (eU (tab:=[]) trivial) run24b (by kernel_rfl) hat fun N hag hf hd=> ?_
    have e0:N.i 0=L.length:=hag.i 0 (by decide);have e1:N.i 1=c:=hag.i 1 (by decide);have e2:N.i 2=n:=hag.i 2 (by decide);have ea:N.a 0=_:=hag.a 0 (by decide);simp only[z24b,aC,Df.sat,Nd.ev,Ad.ev,Ar.ev,e0,e1,e2] at hd;obtain ⟨q8,q7,q6,w3,w2,q5,w1,q4,q3,-⟩:=hd;rw[add64 (by omega) (by omega) (by omega)] at q3;rw[q3] at q4 q5 q7 q8 w1;have t5:N.i 5=L.length:=by rw[q5];split <;> omega
    rw[t5,ea,hA0] at w2;have t2:N.a 2=L:=by rw[w2];simp
    have ht:((L.length:Int)+n).toNat=L.length+n.toNat:=by omega
    have t3:N.a 3=L++List.replicate n.toNat 0:=by rw[w3,w1,t2,ht];simp only[Int.toNat_zero,List.take_zero,cC,bM,List.drop_replicate,bR]
    refine ⟨?_,fun E' w' u hu hp=> ?_⟩
    ·have l0:(N.a 0).length=c:=by rw[ea];exact hl0
     have l1:(N.a 1).length=L.length+n.toNat:=by rw[w1,ht,aW]
     simp only[z24b,aC,Ob.holds,Ar.ev,e0,e1,q3,q4,t5,l0,l1];refine ⟨by omega,by omega,by omega,by omega,by omega,⟨by omega,by omega,by omega⟩,by omega,⟨by omega,by omega,by omega⟩,by omega,by omega,by omega,?_,by omega,by omega,nofun⟩;simp only[icmp];rw[bZ (by omega)];rfl
    ·obtain ⟨us,hd,rfl⟩:=resV_den_inv hu;obtain ⟨u1,r1,d1,hd1,rfl⟩:=denL1_cons.1 hd;obtain ⟨u2,r2,d2,hd2,rfl⟩:=denL1_cons.1 hd1;simp only[denL1,aA] at hd2;subst hd2;obtain ⟨q',s',c',arr,el,fz,f1,f2,f3,f4,f5⟩:=hp.bw.at' 1 {n:=0,rw:=true,cells:= .nil,arr:=some (.u8,3,false)} rfl;have:=f3 rfl;subst this;obtain ⟨_,_,_,m1,g1,_,rfl,g2,_⟩:=gC (v1sc d1);rw[f1] at g1;simp only[aA,aD] at g1;obtain ⟨rfl,rfl,rfl⟩:=g1;obtain ⟨_,_,_,m2,g1,_,rfl,g3,_⟩:=gC (v1sc d2)
     rw[f1] at g1;simp only[aA,aD] at g1;obtain ⟨rfl,rfl,rfl⟩:=g1;simp only[capOf,Ar.ev,q3,q6,q7,q8] at g2 g3 ⊢;have l3:(N.a 3).length=L.length+n.toNat:=by rw[t3,aO,aW]
     simp only[Bk.wid,Bk.cont,aQ,l3] at f4 f5;have f5:=f5.1;rw[t3] at f5;have hqs:w.heap.size≤q':=by
      rcases bL q' w.heap.size with hlt | hge
      ·exfalso
       obtain ⟨i0,B0,s0,c0,k1,k2,k3,k4,k5⟩:=hp.win 1 _ q' s' c' (show z24b.bks.get 1=some _ from rfl) rfl f1 hlt;have hs:s24.bks=Tr.nil.set 0 b24:=rfl;rw[hs,fA] at k1;split at k1
       ·rename_i hi;simp only[aA] at k1;subst k1 hi;have:b24.wid (n24 F L c n) c0=c:=by simp only[b24,Bk.wid,aQ];exact hl0
        rw[this] at k5;simp only[Bk.wid,aQ,l3] at k5;rw[hE] at k3;simp only[aA,aD] at k3;omega
       ·cases k1
      ·exact hge
     refine ⟨_,rfl,w,[_,_],.slice (some ⟨q',s',none⟩) (L.length+n.toNat) (L.length+n.toNat),rfl,rfl,grow24 hE hl0 hp,⟨?_,fun _ e=>by cases e⟩,⟨?_,?_,trivial⟩⟩
     ·show Fresh _ _ _ _ (F.a 24 [n] [L]) _;have e9:F.a 24 [n] [L]=L++List.replicate n.toNat 0:=by rw[h.a24];rfl
      have l9:(F.a 24 [n] [L]).length=L.length+n.toNat:=by rw[e9,aO,aW]
      exact ⟨q',s',L.length+n.toNat,arr,el,by rw[l9],by rw[l9];exact aS _,.inl hqs,f2,f4,by rw[e9];exact f5,fun j h1 h2=>by rw[l9] at h1;omega⟩
     ·rw [g2,ht,Int.toNat_zero,cJ]
     ·refine ⟨q',s',L.length+n.toNat,L.length+n.toNat,L.length,n.toNat,?_,by show F.i 24 _ _ _=_;rw[h.i24];rfl,by show F.i 24 _ _ 1=_;rw[h.i24];show n=_;omega,by omega,?_⟩;·rfl
      ·subst g3;have e5:((0:Int)+ ↑L.length*1).toNat=L.length:=by omega
       have e6:((L.length:Int)+n+ ↑L.length* -1).toNat=n.toNat:=by omega
       rw[e5,e6,show L.length+n.toNat-L.length=n.toNat by omega]
theorem spec24z {F:Fns}(h:F24 F):CSpec Tryz.prog F 55 ct24z:=by
 intro us is ls ws w hA _ _ hpr;cases hA with
 | @gr _ q s c L _ _ _ _ _ hmem hc h1 =>
  cases h1 with
  | @int _ n _ _ _ _ _ h2 =>
   cases h2;have hpr:n=0∧(L.length:Int)≤1099511627776:=by
    have:P24z [n] [L]:=by rw[←h.p24z];exact hpr
    exact this
   obtain ⟨rfl,hbig⟩:=hpr;have hA0:∀c n,(n24 F L c n).a 0=L++List.replicate (c-L.length) 0:=fun _ _=>rfl
   have hl0:((n24 F L c 0).a 0).length=c:=by rw[hA0,aO,aW];omega
   have res:∀ {E E':Env} {N:Num} {σ2:St} {w':World} {v2:Value},E.blk 0=some (q,s,c)→N.a 0=(n24 F L c 0).a 0→σ2.bks=s24.bks→Post (n24 F L c 0) E s24 w N E' σ2 w'→(∃ a c,v2= .slice a 0 c) →
    ResOk Tryz.prog F ct24z [0] [L] [some ⟨q,s,c,true⟩,none] w (tupOf [.slice (some ⟨q,s,none⟩) L.length c,v2]) w':=fun {E E' N σ2 w' v2} hE ea hs hp hv=>by
    have hF:=room24 (F:=F) hc (bK 0) (by omega) hE ea hs hp;refine ⟨w,[_,_],_,rfl,rfl,grow24 hE hl0 hp,⟨?_,fun _ e=>by cases e⟩,⟨rfl,hv,trivial⟩⟩;show Fresh _ _ _ _ (F.a 24 [0] [L]) _;rw[h.a24];exact hF
   refine enter24 (F:=F) hmem hc fun E a hE hat=> ?_
   by_cases hr:(L.length:Int)<c
   ·refine to_raw (eU (tab:=[]) trivial) run24a (by kernel_rfl) hat fun N hag hf hd=> ?_
    have e0:N.i 0=L.length:=hag.i 0 (by decide);have e1:N.i 1=c:=hag.i 1 (by decide);have e2:N.i 2=0:=hag.i 2 (by decide);have ea:N.a 0=_:=hag.a 0 (by decide);simp only[z24a,aC,Df.sat,Nd.ev,Ar.ev,e0,e1,e2] at hd;obtain ⟨q7,q6,q5,q4,q3,-⟩:=hd;rw[add64 (by omega) (by omega) (by omega),dJ] at q3;rw[q3] at q4 q6;refine ⟨?_,fun E' w' u hu hp=> ?_⟩
    ·simp only[z24a,aC,Ob.holds,Ar.ev,e0,e1,q3,q4];refine ⟨by omega,by omega,by omega,by omega,by omega,by omega,by omega,?_,by omega,by omega,nofun⟩;simp only[icmp];rw[bS (by omega)];rfl
    ·obtain ⟨us,hd,rfl⟩:=resV_den_inv hu;obtain ⟨u1,r1,d1,hd1,rfl⟩:=denL1_cons.1 hd;obtain ⟨u2,r2,d2,hd2,rfl⟩:=denL1_cons.1 hd1;simp only[denL1,aA] at hd2;subst hd2;have hb:=hp.le.blk _ _ hE;obtain ⟨_,_,_,m1,g1,_,rfl,g2,_⟩:=gC (v1sc d1);rw[hb] at g1;simp only[aA,aD] at g1;obtain ⟨rfl,rfl,rfl⟩:=g1;obtain ⟨_,_,_,m2,g1,_,rfl,g3,_⟩:=gC (v1sc d2);simp only[capOf,Ar.ev,e1,q3,q5,q6,q7] at g2 g3 ⊢;subst g2;have e6:((L.length:Int)+ ↑L.length* -1).toNat=0:=by omega
     rw[e6];exact ⟨_,rfl,res (σ2:=z24a) hE ea rfl hp ⟨_,_,rfl⟩⟩
   ·refine to_raw (eU (tab:=[]) trivial) run24c (by kernel_rfl) hat fun N hag hf hd=> ?_
    have e0:N.i 0=L.length:=hag.i 0 (by decide);have e1:N.i 1=c:=hag.i 1 (by decide);have e2:N.i 2=0:=hag.i 2 (by decide);have ea:N.a 0=_:=hag.a 0 (by decide);simp only[z24c,aC,Df.sat,Nd.ev,Ar.ev,e0,e1,e2] at hd;obtain ⟨q4,q3,-⟩:=hd;rw[add64 (by omega) (by omega) (by omega),dJ] at q3;rw[q3] at q4;refine ⟨?_,fun E' w' u hu hp=> ?_⟩
    ·simp only[z24c,aC,Ob.holds,Ar.ev,e0,e1,q3,q4];refine ⟨trivial,by omega,by omega,by omega,by omega,by omega,by omega,?_,by omega,by omega,nofun⟩;simp only[icmp];rw[bS (by omega)];rfl
    ·obtain ⟨us,hd,rfl⟩:=resV_den_inv hu;obtain ⟨u1,r1,d1,hd1,rfl⟩:=denL1_cons.1 hd;obtain ⟨u2,r2,d2,hd2,rfl⟩:=denL1_cons.1 hd1;simp only[denL1,aA] at hd2;subst hd2;have hb:=hp.le.blk _ _ hE;obtain ⟨_,_,_,m1,g1,_,rfl,g2,_⟩:=gC (v1sc d1);rw[hb] at g1;simp only[aA,aD] at g1;obtain ⟨rfl,rfl,rfl⟩:=g1;simp only[capOf,Ar.ev,e1,q3] at g2 ⊢;subst g2;exact ⟨_,rfl,res (σ2:=z24c) hE ea rfl hp (isEmp_den (x:= .emp 0) rfl (v1sc d2))⟩
noncomputable def rawOf (ct:Ct)(fn:Func)(call:FuncId→List SV→St→Option (SV×St))(o:List Bool):Option (List V1×St) :=
 rawD Tryz.prog fn (stOf ct) (runK Tryz.prog call [] fn.ntmps 1000 2000 (bodyC fn) [] (trArgs 0 (argsOf ct) (stOf ct).gl) ((stOf ct).ask' o))
def z24n:St:={ni:=0,nx:=3,na:=1,nb:=1,nv:=0,defs:=[.a 0 (.rep (.var 1) (.kst 0)),.n 2 (.cmp .geq (.kst 0) (.var 1)),.n 1 (.bin .add .i64 (.kst 0) (.var 0))],obs:=[.le (.var 1) (.var 1),.le (.kst 0) (.var 1),.le (.var 1) (.kst 1099511627776),.le (.var 1) (.var 1),.le (.kst 0) (.var 1),.boo 2 false],orc:=[],gl:= .nil,bks:=mkT [(0,b24)] .nil}
theorem run24n:rawOf ct24n Tryz.f55 (callT []) [false]=some ([.sc (.sl 0 (.kst 0) (.var 1) (some (.var 1))),.sc (.sl 0 (.kst 0) (.var 1) (some (.var 1)))],z24n):=by kernel_rfl
theorem run24nz:runE ct24nz Tryz.f55 (callT []) [true]=some (⟨[],none,none⟩,[.n 2 (.cmp .geq (.kst 0) (.var 1)),.n 1 (.bin .add .i64 (.kst 0) (.var 0))],[.le (.var 1) (.kst 0),.le (.kst 0) (.var 1),.boo 2 true]):=by kernel_rfl
theorem spec24n {F:Fns}(h:F24 F):CSpec Tryz.prog F 55 ct24n:=by
 refine gA (args:=argsOf ct24n) (σe:=stOf ct24n) rfl Tryz.func55 (fM (by kernel_rfl)) (by kernel_rfl) (by kernel_rfl) fun is ls ws we Ee a hs hp hent hat=> ?_
 match is,ls,hs with
 | [n],[],_ =>
 have hpr:0<n∧n≤1099511627776:=by
  have:P24 [n] []:=by rw[←h.p24];exact hp
  exact this
 have hws:ws=[none,none]:=by
  obtain ⟨us,hA⟩:=hent.args;cases hA with
  | kst _ h1=>cases h1 with
   | int h2=>cases h2;rfl
 subst hws;refine to_raw (eU (tab:=[]) trivial) run24n (by kernel_rfl) hat fun N hag hf hd=> ?_
 have e0:N.i 0=n:=hag.i 0 (by decide);simp only[z24n,aC,Df.sat,Nd.ev,Ad.ev,Ar.ev,e0] at hd;obtain ⟨w0,q2,q1,-⟩:=hd;rw[add64 (by omega) (by omega) (by omega),Int.zero_add] at q1;rw[q1] at q2 w0;refine ⟨?_,fun E' w' u hu hp=> ?_⟩
 ·simp only[z24n,aC,Ob.holds,Ar.ev,q1,q2];exact ⟨by omega,by omega,by omega,by omega,by omega,by simp only[icmp];rw[bZ (by omega)];rfl,nofun⟩
 ·obtain ⟨us,hd,rfl⟩:=resV_den_inv hu;obtain ⟨u1,r1,d1,hd1,rfl⟩:=denL1_cons.1 hd;obtain ⟨u2,r2,d2,hd2,rfl⟩:=denL1_cons.1 hd1;simp only[denL1,aA] at hd2;subst hd2;obtain ⟨q',s',c',arr,el,fz,f1,f2,f3,f4,f5⟩:=hp.bw.at' 0 b24 rfl;have:=f3 rfl;subst this;obtain ⟨_,_,_,m1,g1,_,rfl,g2,_⟩:=gC (v1sc d1);rw[f1] at g1;simp only[aA,aD] at g1;obtain ⟨rfl,rfl,rfl⟩:=g1;obtain ⟨_,_,_,m2,g1,_,rfl,g3,_⟩:=gC (v1sc d2);rw[f1] at g1;simp only[aA,aD] at g1;obtain ⟨rfl,rfl,rfl⟩:=g1
  simp only[capOf,Ar.ev,q1] at g2 g3 ⊢;subst g2 g3;have l0:(N.a 0).length=n.toNat:=by rw[w0,aW]
  simp only[b24,Bk.wid,Bk.cont,aQ,l0] at f4 f5;have f5:=f5.1;rw[w0] at f5;have nob:∀i,(stOf ct24n).bks.get i=none:=fun i=>rfl
  have hg:Grow none we w':=⟨hp.kept.os,hp.kept.tape,hp.kept.output,hp.kept.size,fun q hq _=>hp.kept.block q hq (fun i B s c e=>by rw[nob] at e;cases e),fun y _ _ _ e=>by cases e⟩
  have hqs:we.heap.size≤q':=by
   rcases bL q' we.heap.size with hlt | hge
   ·obtain ⟨i0,B0,s0,c0,k1,_⟩:=hp.win 0 b24 q' s' c' rfl rfl f1 hlt;rw[nob] at k1;cases k1
   ·exact hge
  have e9:F.a 24 [n] []=List.replicate n.toNat 0:=by rw[h.a24];rfl
  have l9:(F.a 24 [n] []).length=n.toNat:=by rw[e9,aW]
  rw[Int.toNat_zero,cJ];refine ⟨_,rfl,we,[_,_],.slice (some ⟨q',s',none⟩) n.toNat n.toNat,rfl,rfl,hg,⟨?_,fun _ e=>by cases e⟩,⟨rfl,⟨q',s',n.toNat,n.toNat,0,n.toNat,rfl,by show F.i 24 _ _ _=_;rw[h.i24];rfl,by show F.i 24 _ _ 1=_;rw[h.i24];show n=_;omega,by omega,by rw[cJ,Nat.sub_zero]⟩,trivial⟩⟩;show Fresh _ _ _ _ (F.a 24 [n] []) _;exact ⟨q',s',n.toNat,arr,el,by rw[l9],by rw[l9];exact aS _,.inl hqs,f2,f4,by rw[e9];exact f5,fun j h1 h2=>by rw[l9] at h1;omega⟩
theorem spec24nz {F:Fns}(h:F24 F):CSpec Tryz.prog F 55 ct24nz:=by
 refine fG (eU (tab:=[]) trivial) Tryz.func55 (by kernel_rfl) (by kernel_rfl) (by kernel_rfl) run24nz (by kernel_rfl) fun is ls N hs hp hag hf hd=> ?_
 match is,ls,hs with
 | [n],[],_ =>
 have hpr:n=0:=by
  have:P24z [n] []:=by rw[←h.p24z];exact hp
  exact this
 subst hpr;have e0:N.i 0=0:=hag.i 0 (by decide);simp only[aC,Df.sat,Nd.ev,Ar.ev,e0] at hd;obtain ⟨q2,q1,-⟩:=hd;have q1:N.i 1=0:=q1;rw[q1] at q2;refine ⟨?_,⟨nofun,trivial,trivial⟩,fun L hL=>by cases hL⟩;simp only[aC,Ob.holds,Ar.ev,q1,q2];exact ⟨by omega,by omega,rfl,nofun⟩
noncomputable def subK (nonce key:List Int):List Int:=hsaL (matL key (nonce.take 16) sigmaL)
def ctrN (nonce:List Int):List Int:=nonce.drop 16++List.replicate 8 0
noncomputable def fbL (nonce key:List Int):List Int:=xorL (List.replicate 64 0) (ctrN nonce) (subK nonce key)
noncomputable def tagOf (box nonce key:List Int):List Int:=tagL ((fbL nonce key).take 32) (box.drop 16)
noncomputable def headL (box nonce key:List Int):List Int:=(List.range (min (box.length-16) 32)).map fun i=>iop .xor .u8 ((fbL nonce key).getD (32+i) 0) (box.getD (16+i) 0)
noncomputable def restL (box nonce key:List Int):List Int:=xorL (box.drop 48) ((ctrN nonce).set 8 1) (subK nonce key)
noncomputable def msgL (box nonce key:List Int):List Int:=headL box nonce key++restL box nonce key
theorem subK_length (nonce key:List Int):(subK nonce key).length=32:=hsaL_length _
theorem ctrN_length {nonce:List Int}(h:nonce.length=24):(ctrN nonce).length=16:=by unfold ctrN;rw[aO,aT,aW];omega
theorem fbL_length (nonce key:List Int):(fbL nonce key).length=64:=by unfold fbL;rw[xorL_length,aW]
theorem headL_length (box nonce key:List Int):(headL box nonce key).length=min (box.length-16) 32:=by unfold headL;rw[bF,cV]
theorem restL_length (box nonce key:List Int):(restL box nonce key).length=box.length-48:=by unfold restL;rw[xorL_length,aT]
theorem msgL_length (box nonce key:List Int):(msgL box nonce key).length=box.length-16:=by unfold msgL;rw[aO,headL_length,restL_length];omega
theorem xorL_bytes (z c k:List Int):Bytes (xorL z c k):=by
 intro y hy;obtain ⟨i,_,rfl⟩:=dC.1 hy;unfold xorB iop;simp only[IntKind.wrap_u8];omega
theorem ctrN_drop {nonce:List Int}(h:nonce.length=24):(ctrN nonce).drop 9=[0,0,0,0,0,0,0]:=by
 unfold ctrN;have:(nonce.drop 16).length=8:=by rw[aT];omega
 rw[List.drop_append,cF (by omega),this];rfl
theorem ctrN_one {nonce:List Int}(h:nonce.length=24):((ctrN nonce).set 8 1).drop 9=[0,0,0,0,0,0,0]∧((ctrN nonce).set 8 1).getD 8 0=1:=by
 unfold ctrN;have:(nonce.drop 16).length=8:=by rw[aT];omega
 rw[List.set_append,bC (by omega),this];refine ⟨?_,?_⟩;·rw [List.drop_append,cF (by omega),this];rfl
 ·rw [aE,aP (by omega),this];rfl
def P120 (_:List Int)(ls:List (List Int)):Prop :=
 match ls with
 | [box,nonce,key]=>Bytes box∧box.length≤8192∧¬(16≤box.length∧tagOf box nonce key=box.take 16)
 | _=>False
def okBox (box nonce key:List Int):Prop:=Bytes box∧box.length≤8192∧tagOf box nonce key=box.take 16
def P121 (_:List Int)(ls:List (List Int)):Prop :=
 match ls with
 | [box,nonce,key]=>okBox box nonce key∧16<box.length
 | [out,box,nonce,key]=>out.length≤8192∧okBox box nonce key∧16<box.length
 | _=>False
def P122 (_:List Int)(ls:List (List Int)):Prop :=
 match ls with
 | [box,nonce,key]=>okBox box nonce key∧box.length=16
 | [out,box,nonce,key]=>out.length≤8192∧okBox box nonce key∧box.length=16
 | _=>False
noncomputable def A12 (_:List Int)(ls:List (List Int)):List Int :=
 match ls with
 | [box,nonce,key]=>msgL box nonce key
 | [out,box,nonce,key]=>out++msgL box nonce key
 | _=>[]
structure F12 (F:Fns):Prop extends F23 F,F33 F,F33s F,F24 F where
 p31:∀is ls,F.p 31 is ls
 a31:F.a 31=A31
 p120:F.p 120=P120
 p121:F.p 121=P121
 p122:F.p 122=P122
 a12:F.a 12=A12
theorem gM {F:Fns}(h:F12 F):TabOk F tab12:=by
 refine ⟨⟨by kernel_rfl,fun c hc=> ?_⟩,⟨by kernel_rfl,fun c hc=> ?_⟩,⟨by kernel_rfl,fun c hc=> ?_⟩,⟨by kernel_rfl,fun c hc=> ?_⟩,trivial⟩ <;> simp only[cD,dX,or_false] at hc
 ·rcases hc with rfl | rfl
  ·exact spec23 h.toF23
  ·exact spec23e h.toF23
 ·rcases hc with rfl | rfl
  ·exact spec24 h.toF24
  ·exact spec24n h.toF24
 ·subst hc;exact spec31 h.a31
 ·rcases hc with rfl | rfl
  ·exact spec33 h.toF33
  ·exact spec33s h.toF33 h.toF33s
theorem tab12z_ok {F:Fns}(h:F12 F):TabOk F tab12z:=by
 obtain ⟨h1,_,h3,h4,h5⟩:=gM h;refine ⟨h1,⟨by kernel_rfl,fun c hc=> ?_⟩,h3,h4,h5⟩;simp only[cD,dX,or_false] at hc;rcases hc with rfl | rfl
 ·exact spec24z h.toF24
 ·exact spec24nz h.toF24
section
variable {F:Fns} {N:Num} {box nonce key:List Int}
theorem vs_split {a b:List Ar}{L:List Int}{A B:List Int}(h1:a.map (·.ev N)=A)(h2:b.map (·.ev N)=B)(h:L=A++B):(a++b).map (·.ev N)=L:=by rw[List.map_append,h1,h2,h]
theorem zs_map (n:Nat):(zs n).map (·.ev N)=List.replicate n 0:=by unfold zs;rw[List.map_replicate];rfl
theorem getD_dropK (L:List Int)(k j:Nat):(L.drop k).getD j 0=L.getD (k+j) 0:=by rw[aE,cH,aE]
theorem getD_takeK {L:List Int}{k j:Nat}(h:j<k):(L.take k).getD j 0=L.getD j 0:=by rw[aE,dM,bG h,aE]
theorem blk12_law (hF:F12 F)(hf:N.f=F){e c A:Nat}(hd:∀d∈blk12 e c A,d.sat N)(hn:∀j,j<24→N.i (e+j)=nonce.getD j 0)(hk:∀j,j<32→N.i (e+24+j)=key.getD j 0)(ln:nonce.length=24)(lk:key.length=32) :
 (Ob.prd 330 [] [A+5,A+6,A+7]).holds N∧(∀ j,j<32→N.i (c+j)=(subK nonce key).getD j 0)∧∀j,j<64→N.i (c+32+j)=(fbL nonce key).getD j 0:=by
 simp only[blk12,cB,aC] at hd;obtain ⟨hfb,⟨w8,w7,w6,w5,-⟩,hsub,w4,w3,w2,w1,w0,-⟩:=hd;have w5:N.a (A+5)=List.replicate 64 0:=dF w5 (zs_map 64);have w3:N.a (A+3)=sigmaL:=w3;have w2:N.a (A+2)=key:=dF w2 (vs_map hk lk);have w1:N.a (A+1)=nonce.take 16:=dF w1 (vs_map (fun j hj=>by rw[hn j (by omega),getD_takeK hj]) (by rw[bE];omega));have w4:N.a (A+4)=subK nonce key:=by
  have:N.a (A+4)=N.f.a 31 [] [N.a A,N.a (A+1),N.a (A+2),N.a (A+3)]:=w4;rw[this,hf,hF.a31,w1,w2,w3];rfl
 have hs:∀j,j<32→N.i (c+j)=(subK nonce key).getD j 0:=fun j hj=>by rw[rds_sat hsub j hj,bM,w4]
 have w7:N.a (A+7)=subK nonce key:=dF w7 (vs_map hs (subK_length _ _));have w6:N.a (A+6)=ctrN nonce:=dF w6 (vs_split (vs_map (L:=nonce.drop 16) (fun j hj=>by rw[dD,hn _ (by omega),getD_dropK]) (by rw[aT];omega)) (zs_map 8) rfl);have w8:N.a (A+8)=fbL nonce key:=by have:N.a (A+8)=N.f.a 330 [] [N.a (A+5),N.a (A+6),N.a (A+7)]:=w8;rw[this,hf,hF.a33s,w5,w6,w7];rfl
 refine ⟨?_,hs,fun j hj=>by rw[rds_sat hfb j hj,bM,w8]⟩;show N.f.p 330 [] [N.a (A+5),N.a (A+6),N.a (A+7)];rw[hf,hF.p33s,w5,w6,w7];exact ctrN_drop ln
theorem take32 {n:Nat}(h:∀j,j<64→N.i (n+j)=(fbL nonce key).getD j 0):(vs n 32).map (·.ev N)=(fbL nonce key).take 32 :=
 vs_map (fun j hj=>by rw[h j (by omega),getD_takeK hj]) (by rw[bE,fbL_length];rfl)
theorem tag_fits (h:16≤box.length):(box.take 16).length=16:=by rw[bE];omega
theorem pre12_law (hF:F12 F)(hf:N.f=F){s:Nat}(hd:∀d∈pre12 s,d.sat N)(hl:N.i s=box.length)(hb:N.a s=box)(h16:16<box.length)(hB:Bytes box)(h8:box.length≤8192)
 (hn:∀j,j<24→N.i (1+s+j)=nonce.getD j 0) (hk:∀j,j<32→N.i (1+s+24+j)=key.getD j 0) (ln:nonce.length=24) (lk:key.length=32) :
 (∀ o∈obs12 s,o.holds N)∧N.i (156+s)=(if tagOf box nonce key=box.take 16 then 1 else 0)∧(∀ j,j<32→N.i (58+s+j)=(subK nonce key).getD j 0)∧∀j,j<64→N.i (90+s+j)=(fbL nonce key).getD j 0:=by
 unfold pre12 at hd;rw[cB,cB] at hd;obtain ⟨hd1,hd2,hd3⟩:=hd;obtain ⟨g1,g2,g3⟩:=blk12_law hF hf hd2 hn hk ln lk;have g3:∀j,j<64→N.i (90+s+j)=(fbL nonce key).getD j 0:=fun j hj=>by
  have:=g3 j hj
  rwa [show 58+s+32=90+s by omega] at this
 simp only[aC] at hd1 hd3;obtain ⟨q156,w15,w14,w13,q155,w12,w11,w10,q154,-⟩:=hd1;have w15:N.a (15+s)=(fbL nonce key).take 32:=dF w15 (take32 g3);simp only[Df.sat,Nd.ev,Ad.ev,Ar.ev,hl,hb] at q154 q155 w10 w12 w13 w14;have q154:N.i (154+s)=16:=by rw[q154];rw[bG (by omega)]
 rw[q154] at w10;have w10:N.a (10+s)=box.take 16:=w10;have l10:=tag_fits (show 16≤box.length by omega);have w11:N.a (11+s)=List.replicate 16 0:=dF w11 (zs_map 16);have w12:N.a (12+s)=box.take 16:=by rw[w12,w10,w11,l10];simp
 have w13:N.a (13+s)=box.take 16:=by rw[w13,w12];show ((box.take 16).drop 0).take 16=_;rw[bW,bO (by omega)]
 have w14:N.a (14+s)=box.drop 16:=by rw[w14,q155];show (box.drop 16).take _=_;rw[bO (by rw[aT];omega)]
 have q57:N.i (57+s)=0:=by have:N.i (57+s)=bif icmp .lss (N.i s) 16 then 1 else 0:=hd3.1;rw[this,hl];simp only[icmp];rw[bZ (by omega)];rfl
 refine ⟨?_,?_,g2,g3⟩
 ·simp only[obs12,aC];refine ⟨?_,?_,?_,?_,?_,?_,?_,?_,?_,?_,?_,?_,?_,nofun⟩
  ·show N.f.p 23 [] [N.a (13+s),N.a (14+s),N.a (15+s)];rw[hf,hF.p23,w13,w14,w15];refine ⟨hB.take 16,hB.drop 16,?_,by rw[aT];omega⟩;exact Bytes.take (xorL_bytes _ _ _) 32
  ·simp only[Ob.holds,Ar.ev,q155,hb];omega
  ·simp only[Ob.holds,Ar.ev,w12,l10];omega
  ·simp only[Ob.holds,Ar.ev,hl];omega
  ·simp only[Ob.holds,Ar.ev,hl];omega
  ·simp only[Ob.holds,Ar.ev,hl];omega
  ·simp only[Ob.holds,Ar.ev,q154,w11,aW];omega
  ·simp only[Ob.holds,Ar.ev,q154];omega
  ·simp only[Ob.holds,Ar.ev,q154,hb];omega
  ·have:=g1
   rwa [show 1+s+5=6+s by omega,show 1+s+6=7+s by omega,show 1+s+7=8+s by omega] at this
  ·show N.f.p 31 [] _;rw[hf];exact hF.p31 _ _
  ·simp only[Ob.holds,q57];rfl
  ·simp only[Ob.holds,Ar.ev,hl];omega
 ·have:N.i (156+s)=N.f.i 23 [] [N.a (13+s),N.a (14+s),N.a (15+s)] 0:=q156;rw[this,hf,hF.i23,w13,w14,w15];rfl
theorem pre0_law (hF:F12 F)(hf:N.f=F){s:Nat}(hd:∀d∈pre0 s,d.sat N)(hl:N.i s=box.length)(hb:N.a s=box)(h16:box.length=16)(hB:Bytes box)
 (hn:∀j,j<24→N.i (1+s+j)=nonce.getD j 0) (hk:∀j,j<32→N.i (1+s+24+j)=key.getD j 0) (ln:nonce.length=24) (lk:key.length=32) :
 (∀ o∈obs0 s,o.holds N)∧N.i (155+s)=if tagOf box nonce key=box.take 16 then 1 else 0:=by
 unfold pre0 at hd;rw[cB,cB] at hd;obtain ⟨hd1,hd2,hd3⟩:=hd;obtain ⟨g1,g2,g3⟩:=blk12_law hF hf hd2 hn hk ln lk;have g3:∀j,j<64→N.i (90+s+j)=(fbL nonce key).getD j 0:=fun j hj=>by
  have:=g3 j hj
  rwa [show 58+s+32=90+s by omega] at this
 simp only[aC] at hd1 hd3;obtain ⟨q155,w15,w14,w13,w12,w11,w10,q154,-⟩:=hd1;have w15:N.a (15+s)=(fbL nonce key).take 32:=dF w15 (take32 g3);have w14:N.a (14+s)=[]:=w14;have w11:N.a (11+s)=List.replicate 16 0:=dF w11 (zs_map 16);simp only[Df.sat,Nd.ev,Ad.ev,Ar.ev,hl,hb] at q154 w10 w12 w13 hd3;have q154:N.i (154+s)=16:=by rw[q154];split <;> omega
 have w10:N.a (10+s)=box:=by rw[w10,q154];show box.take 16=_;rw[bO (by omega)]
 have w12:N.a (12+s)=box:=by rw[w12,w10,w11,h16];simp
 have w13:N.a (13+s)=box:=by rw[w13,w12];show box.take 16=_;rw[bO (by omega)]
 have e:box.drop 16=[]:=cF (by omega);have e2:box.take 16=box:=bO (by omega);refine ⟨?_,?_⟩
 ·have o1:(Ob.prd 23 [] [13+s,14+s,15+s]).holds N:=by
   show N.f.p 23 [] [N.a (13+s),N.a (14+s),N.a (15+s)];rw[hf,hF.p23,w13,w14,w15];exact ⟨hB,nofun,Bytes.take (xorL_bytes _ _ _) 32,dK _⟩
  have o2:(Ob.prd 31 [] [1+s,2+s,3+s,4+s]).holds N:=by show N.f.p 31 [] _;rw[hf];exact hF.p31 _ _
  rw[show 1+s+5=6+s by omega,show 1+s+6=7+s by omega,show 1+s+7=8+s by omega] at g1;simp only[obs0,aC];refine ⟨o1,?_,?_,?_,?_,?_,?_,?_,g1,o2,?_,?_,nofun⟩
  all_goals simp only[Ob.holds,Ar.ev,q154,hl,hb,w12,w11,aW,hd3.1,icmp]
  all_goals first | omega | exact gR (bZ (by omega))
 ·have:N.i (155+s)=N.f.i 23 [] [N.a (13+s),N.a (14+s),N.a (15+s)] 0:=q155;rw[this,hf,hF.i23,w13,w14,w15];unfold tagOf;rw[e,e2];rfl
end
theorem xor_eq (a b:Int):iop .xor .u8 a b=((BitVec.ofInt 8 a^^^BitVec.ofInt 8 b).toNat:Int):=by
 have h:(BitVec.ofInt 8 a^^^BitVec.ofInt 8 b).toNat<2^IntKind.u8.bits:=(BitVec.ofInt 8 a^^^BitVec.ofInt 8 b).isLt;show IntKind.u8.wrap _=_;exact wrap_nat rfl h
theorem ofInt_toNat8 (v:BitVec 8):BitVec.ofInt 8 (v.toNat:Int)=v:=by
 rw[BitVec.ofInt_natCast,BitVec.ofNat_toNat,BitVec.setWidth_eq]
theorem xor_zero (b:Int):iop .xor .u8 0 b=((BitVec.ofInt 8 b).toNat:Int):=by
 rw[xor_eq];simp
theorem xor_turn (a b:Int):iop .xor .u8 (iop .xor .u8 0 b) a=iop .xor .u8 a b:=by
 rw[xor_zero,xor_eq,xor_eq,ofInt_toNat8,BitVec.xor_comm]
theorem xor_back2 {a:Int}(b:Int)(h:0≤a∧a<256):iop .xor .u8 (iop .xor .u8 a b) b=a:=by
 obtain ⟨x,rfl⟩:=aZ h.1;rw[xor_eq,xor_eq,ofInt_toNat8,BitVec.xor_assoc,BitVec.xor_self,BitVec.xor_zero,BitVec.ofInt_natCast,BitVec.toNat_ofNat];omega
section
variable {nonce key M:List Int}
theorem str_get {inp c k:List Int}{i:Nat}(h:i<inp.length):(streamL inp c k)[i]? =some (strB inp c k i):=by
 unfold streamL;rw[bP,cL h];rfl
theorem ctrN_8 (ln:nonce.length=24):(ctrN nonce).getD 8 0=0:=by
 unfold ctrN;rw[show (8:Nat)=8+0 from rfl,getD_at (by rw[aT];omega)];rfl
theorem fb_get (ln:nonce.length=24){i:Nat}(h:i<64):(fbL nonce key).getD i 0=iop .xor .u8 0 ((blk (subK nonce key) (ctrN nonce) 0).getD i 0):=by
 have:(fbL nonce key)[i]? =_:=xorL_get (by rw[aW];exact h);rw[aE,this];have e1:i/64=0:=by omega
 have e2:i%64=i:=by omega
 show xorB _ _ _ i=_;simp only[xorB,e1,e2,ctrN_8 ln,Int.natCast_zero,dJ,aE,eH,bG h,dZ]
theorem str_first (ln:nonce.length=24):(streamL (List.replicate 32 0++M) (ctrN nonce) (subK nonce key)).take 32=(fbL nonce key).take 32:=by
 apply dA;intro i;by_cases h:i<32
 ·rw [dM,dM,bG h,bG h,str_get (by rw[aO,aW];omega)];have:=fb_get (key:=key) ln (show i<64 by omega);rw[aE] at this;have hl:i<(fbL nonce key).length:=by rw[fbL_length];omega
  rw[aU hl] at this ⊢;simp only[dZ] at this;rw[this];have e1:i/64=0:=by omega
  have e2:i%64=i:=by omega
  simp only[strB,e1,e2,Int.natCast_zero];rw[getD_lo (by rw[aW];exact h),aE,eH,bG h];rfl
 ·rw [dM,dM,bC h,bC h]
theorem ctrL_set (n:Int)(_hl:(ctrN nonce).length=16):ctrL ((ctrN nonce).set 8 1) n=ctrL (ctrN nonce) n:=by
 unfold ctrL;congr 1;apply dA;intro i;rw[dM,dM]
 split
 ·rw [List.getElem?_set_ne (by omega)]
 ·rfl
noncomputable def strK (nonce key:List Int)(i:Nat):Int:=(blk (subK nonce key) (ctrN nonce) (((32+i)/64:Nat):Int)).getD ((32+i)%64) 0
theorem str_rest:((streamL (List.replicate 32 0++M) (ctrN nonce) (subK nonce key)).drop 32)=(List.range M.length).map fun i=>iop .xor .u8 (M.getD i 0) (strK nonce key i):=by
 apply dA;intro i;rw[cH,bP];by_cases h:i<M.length
 ·rw [str_get (by rw[aO,aW];omega),cL h,Option.map_some];simp only[strB,strK];rw[getD_at (aW ..)]
 ·rw [bI (by rw[gY,aO,aW];omega),bI (by rw[cV];omega)];rfl
theorem msg_eq {box:List Int}(ln:nonce.length=24):msgL box nonce key=(List.range (box.length-16)).map fun i=>iop .xor .u8 (box.getD (16+i) 0) (strK nonce key i):=by
 have hcl:=ctrN_length ln;apply dA;intro i;rw[bP];unfold msgL;rw[List.getElem?_append,headL_length];by_cases h:i<box.length-16
 ·rw [cL h,Option.map_some];by_cases h2:i<32
  ·rw [bG (by omega)];unfold headL;rw[bP,cL (by omega),Option.map_some,fb_get ln (by omega),xor_turn];simp only[strK];rw[show (32+i)/64=0 by omega,show (32+i)%64=32+i by omega];rfl
  ·rw [bC (by omega),show min (box.length-16) 32=32 by omega];unfold restL;rw[xorL_get (by rw[aT];omega)];have h9:=(ctrN_one ln).2;simp only[xorB,strK,h9,blk,ctrL_set _ hcl];rw[getD_dropK,show 48+(i-32)=16+i by omega,show (32+i)/64=1+(i-32)/64 by omega,show (32+i)%64=(i-32)%64 by omega,Int.natCast_add];rfl
 ·rw [bI (l:=List.range _) (by rw[cV];omega)]
  split
  ·omega
  ·rw [bI (by rw[restL_length];omega)];rfl
theorem str_msg {box:List Int}(ln:nonce.length=24):(streamL (List.replicate 32 0++box.drop 16) (ctrN nonce) (subK nonce key)).drop 32=msgL box nonce key:=by
 rw[str_rest,msg_eq ln,aT];exact cW fun i _=>by rw[getD_dropK]
theorem msg_sealed {T:List Int}(ln:nonce.length=24)(hT:T.length=16)(hM:Bytes M):msgL (T++(streamL (List.replicate 32 0++M) (ctrN nonce) (subK nonce key)).drop 32) nonce key=M:=by
 have hl:((streamL (List.replicate 32 0++M) (ctrN nonce) (subK nonce key)).drop 32).length=M.length:=by rw[str_rest,bF,cV]
 rw[msg_eq ln,aO,hT,hl,bR];refine (cW fun i hi=> ?_).trans (map_getD' rfl);have hi:=cE.1 hi;rw[getD_at hT,str_rest,aE,bP,cL hi];refine xor_back2 _ ?_;rw[aE,aU hi];exact hM _ (List.getElem_mem hi)
end
structure I12 (N:Num) (s:Nat) (out box nonce key:List Int) (i:Nat):Prop where
 hi:i≤min (box.length-16) 32
 i57:N.i (57+s)=(out.length:Nat)
 i58:N.i (58+s)=((box.length-16:Nat):Int)
 i59:N.i (59+s)=((box.length-16:Nat):Int)
 i60:N.i (60+s)=((out.length+(box.length-16):Nat):Int)
 i61:N.i (61+s)=(i:Nat)
 hsub:∀j,j<32→N.i (62+s+j)=(subK nonce key).getD j 0
 hctr:∀j,j<16→N.i (94+s+j)=(ctrN nonce).getD j 0
 hfb:∀j,j<64→N.i (110+s+j)=(fbL nonce key).getD j 0
 hbox:N.a s=box
 hout:N.a (1+s)=out++((headL box nonce key).take i++List.replicate (box.length-16-i) 0)
section
variable {F:Fns} {N M:Num} {s i:Nat} {out box nonce key:List Int}
theorem I12.agr {nx na:Nat}(h:Agr nx na N M)(hx:nx=174+s)(ha:na=2+s)(hI:I12 N s out box nonce key i):I12 M s out box nonce key i:=by
 subst hx ha;exact ⟨hI.hi,(h.i _ (by omega)).trans hI.i57,(h.i _ (by omega)).trans hI.i58,(h.i _ (by omega)).trans hI.i59,(h.i _ (by omega)).trans hI.i60,(h.i _ (by omega)).trans hI.i61,
  fun j hj=>(h.i _ (by omega)).trans (hI.hsub j hj),fun j hj=>(h.i _ (by omega)).trans (hI.hctr j hj),fun j hj=>(h.i _ (by omega)).trans (hI.hfb j hj),(h.a _ (by omega)).trans hI.hbox,(h.a _ (by omega)).trans hI.hout⟩
theorem headL_get (h:i<min (box.length-16) 32):(headL box nonce key)[i]? =some (iop .xor .u8 ((fbL nonce key).getD (32+i) 0) (box.getD (16+i) 0)):=by
 unfold headL;rw[bP,cL h];rfl
theorem sub64 {a:Nat}(h:16≤a)(h8:a≤8192):iop .sub .i64 (a:Int) 16=((a-16:Nat):Int):=by
 simp only[iop];rw[IntKind.wrap_i64];omega
theorem mid12_law (hF:F12 F)(hf:N.f=F){ls:List Nat}(hs:s=0∨s=1)(hd:∀d∈mid12 s ls,d.sat N)(hl:N.i s=box.length)(hb:N.a s=box)(h16:16<box.length)(h8:box.length≤8192)(ho8:out.length≤8192)
 (hls:(ls.map N.a=[]∧out=[])∨ls.map N.a=[out]) (hn:∀j,j<24→N.i (1+s+j)=nonce.getD j 0) (ln:nonce.length=24)
 (h2:∀j,j<32→N.i (58+s+j)=(subK nonce key).getD j 0) (h3:∀j,j<64→N.i (90+s+j)=(fbL nonce key).getD j 0) (h156:N.i (156+s)=1) :
 I12 (pn (is12 s) (as12 s 16) N) s out box nonce key 0∧∀o,(∀ x∈o,x.holds N)→∀t,t=decide (32<box.length-16)→∀x∈mob12 s ls o t,x.holds N:=by
 simp only[mid12,aC] at hd;obtain ⟨q162,q161,q160,q159,q158,w16,q157,-⟩:=hd;simp only[Df.sat,Nd.ev,Ar.ev,hl] at q157 q161 q162;rw[sub64 (by omega) h8] at q157;have hq:N.i (161+s)=((box.length-16:Nat):Int):=by rw[q161];omega
 rw[hq] at q162;have cA:N.a (16+s)=out++List.replicate (box.length-16) 0:=by
  have:N.a (16+s)=N.f.a 24 [N.i (157+s)] (ls.map N.a):=w16;rw[this,hf,hF.a24,q157];rcases hls with ⟨e1,e2⟩ | e1 <;> rw[e1]
  ·rw [e2];rfl
  ·rfl
 have c0:N.i (159+s)=(out.length:Nat):=by
  have:N.i (159+s)=N.f.i 24 [N.i (157+s)] (ls.map N.a) 0:=q159;rw[this,hf,hF.i24,q157];rcases hls with ⟨e1,e2⟩ | e1 <;> rw[e1]
  ·rw [e2];rfl
  ·rfl
 have c1:N.i (160+s)=((box.length-16:Nat):Int):=by have:N.i (160+s)=N.f.i 24 [N.i (157+s)] (ls.map N.a) 1:=q160;rw[this,hf,hF.i24,q157];rcases hls with ⟨e1,e2⟩ | e1 <;> rw[e1] <;> rfl
 have cP:N.f.p 24 [N.i (157+s)] (ls.map N.a):=by
  rw[hf,hF.p24,q157];rcases hls with ⟨e1,e2⟩ | e1 <;> rw[e1]
  ·show 0<_∧_≤_;omega
  ·show 0<_∧_≤_;omega
 have c2:N.i (158+s)=((out.length+(box.length-16):Nat):Int):=by have:N.i (158+s)=((N.a (16+s)).length:Nat):=q158;rw[this,cA,aO,aW]
 refine ⟨⟨dK _,?_,?_,?_,?_,?_,?_,?_,?_,?_,?_⟩,fun o ho t ht x hx=> ?_⟩;·rcases hs with rfl | rfl <;> exact c0
 ·rcases hs with rfl | rfl <;> exact c1
 ·rcases hs with rfl | rfl <;> exact hq
 ·rcases hs with rfl | rfl <;> exact c2
 ·rcases hs with rfl | rfl <;> rfl
 ·rcases hs with rfl | rfl
  ·exact fun j hj=>(fV (x:=62) (y:=58) (n:=32) (by kernel_rfl) j hj).trans (h2 j hj)
  ·exact fun j hj=>(fV (x:=63) (y:=59) (n:=32) (by kernel_rfl) j hj).trans (h2 j hj)
 ·have hlo:∀j,j<8→N.i (17+s+j)=(ctrN nonce).getD j 0:=fun j hj=>by
   have:=hn (16+j) (by omega);rw[show 1+s+(16+j)=17+s+j by omega] at this;unfold ctrN;rw[this,getD_lo (by rw[aT];omega),getD_dropK]
  have hhi:∀j,(ctrN nonce).getD (8+j) 0=0:=fun j=>by
   unfold ctrN;rw[getD_at (by rw[aT];omega),aE,eH]
   split <;> rfl
  intro j hj;rcases bL j 8 with h | h
  ·rcases hs with rfl | rfl
   ·exact (fV (x:=94) (y:=17) (n:=8) (by kernel_rfl) j h).trans (hlo j h)
   ·exact (fV (x:=95) (y:=18) (n:=8) (by kernel_rfl) j h).trans (hlo j h)
  ·obtain ⟨k,rfl⟩:∃k,j=8+k:=⟨j-8,by omega⟩
   rw[hhi k];have:k<8:=by omega
   rcases hs with rfl | rfl
   ·match k,this with
    | 0,_=>rfl
    | 1,_=>rfl
    | 2,_=>rfl
    | 3,_=>rfl
    | 4,_=>rfl
    | 5,_=>rfl
    | 6,_=>rfl
    | 7,_=>rfl
    | k+8,h=>exact absurd h (by omega)
   ·match k,this with
    | 0,_=>rfl
    | 1,_=>rfl
    | 2,_=>rfl
    | 3,_=>rfl
    | 4,_=>rfl
    | 5,_=>rfl
    | 6,_=>rfl
    | 7,_=>rfl
    | k+8,h=>exact absurd h (by omega)
 ·rcases hs with rfl | rfl
  ·exact fun j hj=>(fV (x:=110) (y:=90) (n:=64) (by kernel_rfl) j hj).trans (h3 j hj)
  ·exact fun j hj=>(fV (x:=111) (y:=91) (n:=64) (by kernel_rfl) j hj).trans (h3 j hj)
 ·rcases hs with rfl | rfl <;> exact hb
 ·have:(pn (is12 s) (as12 s 16) N).a (1+s)=N.a (16+s):=by rcases hs with rfl | rfl <;> rfl
  rw[this,cA,List.take_zero,cC,Nat.sub_zero]
 ·simp only[mob12,cX] at hx;rcases hx with hx | hx | hx
  ·have h7:∀x∈[Ob.le (.kst (bif t then 32 else 0)) (.var (161+s)),.boo (162+s) t,.le (.kst 0) (.var (161+s)),.lt (.kst 16) (.var s),.le (.var s) (.var s),.le (.kst 16) (.var s),.prd 24 [.var (157+s)] ls],x.holds N:=by
    simp only[aC,Ob.holds,Ar.ev,hl,hq,q162,icmp];refine ⟨?_,?_,by omega,by omega,by omega,by omega,cP,nofun⟩
    ·cases t with
     | true=>have:=cM ht.symm;simp only[aH];omega
     | false=>simp only[aQ];omega
    ·subst ht;by_cases h:32<box.length-16;·rw [bS (by omega:((box.length-16:Nat):Int)>32),bS h];rfl
     ·rw [bZ (by omega:¬((box.length-16:Nat):Int)>32),bZ h];rfl
   exact h7 x hx
  ·exact ho x hx
  ·simp only[cD,dX,or_false] at hx;rcases hx with rfl | rfl
   ·simp only[Ob.holds,Ar.ev,hl];omega
   ·simp only[Ob.holds,h156];rfl
theorem rnd12_law {b:Ar}(hs:s=0∨s=1)(hI:I12 M s out box nonce key i)(hd:∀d∈rnd12 s b,d.sat M)(hb:b.ev M=((min (box.length-16) 32:Nat):Int))(hlt:i<min (box.length-16) 32)(h16:16<box.length)(h8:box.length≤8192) :
 (∀ x∈rob12 s b,x.holds M)∧I12 (pn (js12 s) (as12 s 2) M) s out box nonce key (i+1):=by
 simp only[rnd12,aC] at hd;obtain ⟨q182,w2,q181,q180,q179,q178,q177,q176,q175,q174,-⟩:=hd;simp only[Df.sat,Nd.ev,Ad.ev,Ar.ev,hI.i57,hI.i61,hI.hbox] at q182 w2 q181 q180 q178 q177 q176 q175;have q174:M.i (174+s)=bif icmp .lss (M.i (61+s)) (b.ev M) then 1 else 0:=q174;rw[hI.i61,hb] at q174;rw[add64 (by omega) (by omega) (by omega)] at q182 q177;rw[q177] at q178;have h178:M.i (178+s)=((32+i:Nat):Int):=by rw[q178];omega
 have h175:M.i (175+s)=((16+i:Nat):Int):=by rw[q175];omega
 have h181:M.i (181+s)=((out.length+i:Nat):Int):=by rw[q181];omega
 have h182:M.i (182+s)=((i+1:Nat):Int):=by rw[q182];omega
 have h176:M.i (176+s)=box.getD (16+i) 0:=by rw[q176,h175,bD]
 have h179:M.i (179+s)=(fbL nonce key).getD (32+i) 0:=by have:M.i (179+s)=((vs (110+s) 64).map (·.ev M)).getD (M.i (178+s)).toNat 0:=q179;rw[this,vs_map hI.hfb (fbL_length _ _),h178,bD]
 have hl1:(M.a (1+s)).length=out.length+(box.length-16):=by rw[hI.hout,aO,aO,bE,headL_length,aW];omega
 have hlb:(M.a s).length=box.length:=by rw[hI.hbox]
 have cA:M.a (2+s)=out++((headL box nonce key).take (i+1)++List.replicate (box.length-16-(i+1)) 0):=by
  have e:box.length-16-i=(box.length-16-(i+1))+1:=by omega
  have ht:((headL box nonce key).take i).length=i:=by rw[bE,headL_length];omega
  rw[w2,h181,bD,hI.hout,List.set_append,bC (by omega),bR,List.set_append,bC (by omega),ht,Nat.sub_self,e,List.replicate_succ,List.set_cons_zero,
   List.take_add_one,headL_get hlt,q180,h179,h176]
  simp
 refine ⟨?_,hlt,?_,?_,?_,?_,?_,?_,?_,?_,?_,?_⟩
 ·have h7:M.i (177+s)=32+(i:Nat):=q177;simp only[rob12,aC,Ob.holds,Ar.ev,hI.i58,hI.i61,h181,h178,h7,h175,hl1,hlb,q174,icmp];refine ⟨by omega,by omega,by omega,by omega,by omega,by omega,by omega,by omega,?_,by omega,?_,nofun⟩
  ·have:b.ev M=((min (box.length-16) 32:Nat):Int):=hb;show _<b.ev M;rw[this];omega
  ·exact fL (bS (by omega))
 ·rcases hs with rfl | rfl <;> exact hI.i57
 ·rcases hs with rfl | rfl <;> exact hI.i58
 ·rcases hs with rfl | rfl <;> exact hI.i59
 ·rcases hs with rfl | rfl <;> exact hI.i60
 ·rcases hs with rfl | rfl <;> exact h182
 ·rcases hs with rfl | rfl
  ·exact fun j hj=>(fV (x:=62) (y:=62) (n:=32) (by kernel_rfl) j hj).trans (hI.hsub j hj)
  ·exact fun j hj=>(fV (x:=63) (y:=63) (n:=32) (by kernel_rfl) j hj).trans (hI.hsub j hj)
 ·rcases hs with rfl | rfl
  ·exact fun j hj=>(fV (x:=94) (y:=94) (n:=16) (by kernel_rfl) j hj).trans (hI.hctr j hj)
  ·exact fun j hj=>(fV (x:=95) (y:=95) (n:=16) (by kernel_rfl) j hj).trans (hI.hctr j hj)
 ·rcases hs with rfl | rfl
  ·exact fun j hj=>(fV (x:=110) (y:=110) (n:=64) (by kernel_rfl) j hj).trans (hI.hfb j hj)
  ·exact fun j hj=>(fV (x:=111) (y:=111) (n:=64) (by kernel_rfl) j hj).trans (hI.hfb j hj)
 ·rcases hs with rfl | rfl <;> exact hI.hbox
 ·have:(pn (js12 s) (as12 s 2) M).a (1+s)=M.a (2+s):=by rcases hs with rfl | rfl <;> rfl
  rw[this,cA]
theorem msg_short (h:box.length-16≤32):(headL box nonce key).take (box.length-16)=msgL box nonce key:=by
 have hr:restL box nonce key=[]:=cI.1 (by rw[restL_length];omega);unfold msgL;rw[hr,bJ,bO (by rw[headL_length];omega)]
theorem end12b (hI:I12 M s out box nonce key (box.length-16))(h174:M.i (174+s)=bif icmp .lss (M.i (61+s)) (M.i (59+s)) then 1 else 0)(h:box.length-16≤32) :
 (∀ x∈pob12 s,x.holds M)∧M.a (1+s)=out++msgL box nonce key∧M.i (60+s)=((out++msgL box nonce key).length:Nat):=by
 rw[hI.i61,hI.i59] at h174;refine ⟨?_,?_,?_⟩
 ·simp only[pob12,aC,Ob.holds,Ar.ev,hI.i58,hI.i59,h174,icmp];exact ⟨trivial,by omega,by omega,by omega,by omega,trivial,by omega,by omega,by omega,by omega,gR (bZ (by omega)),nofun⟩
 ·rw [hI.hout,msg_short h,Nat.sub_self];simp
 ·rw [hI.i60,aO,msgL_length]
theorem end12a (hF:F12 F)(hf:M.f=F)(hI:I12 M s out box nonce key 32)(hd:∀d∈out12 s,d.sat M)(h:32<box.length-16)(h8:box.length≤8192)(ln:nonce.length=24) :
 (∀ x∈oob12 s,x.holds M)∧M.a (7+s)=out++msgL box nonce key∧M.i (60+s)=((out++msgL box nonce key).length:Nat):=by
 simp only[out12,aC] at hd;obtain ⟨w7,w6,w5,w4,w3,w2,q177,q176,q175,q174,-⟩:=hd;simp only[Df.sat,Nd.ev,Ad.ev,Ar.ev,hI.i57,hI.i58,hI.i59,hI.i61,hI.hbox] at w7 w3 w2 q177 q176 q175 q174;have h177:M.i (177+s)=((box.length-48:Nat):Int):=by rw[q177];omega
 have h176:M.i (176+s)=((out.length+32:Nat):Int):=by rw[q176];omega
 have h175:M.i (175+s)=((box.length-48:Nat):Int):=by rw[q175];omega
 have hh:(headL box nonce key).take 32=headL box nonce key:=bO (by rw[headL_length];omega);have hhl:(headL box nonce key).length=32:=by rw[headL_length];omega
 have hout:=hI.hout;rw[hh,show box.length-16-32=box.length-48 by omega] at hout;have hol:(out++headL box nonce key).length=out.length+32:=by rw[aO,hhl]
 rw[←List.append_assoc] at hout;have hl1:(M.a (1+s)).length=out.length+32+(box.length-48):=by rw[hout,aO,hol,aW]
 have t2:M.a (2+s)=List.replicate (box.length-48) 0:=by rw[w2,h176,h177,bD,bD,hout,←hol,List.drop_left,bO (by rw[aW];exact aS _)]
 have t3:M.a (3+s)=box.drop 48:=by rw[w3,h175,bD];show (box.drop 48).take _=_;rw[bO (by rw[aT];exact aS _)]
 have t5:M.a (5+s)=subK nonce key:=dF w5 (vs_map hI.hsub (subK_length _ _));have t4:M.a (4+s)=(ctrN nonce).set 8 1:=by
  have hcl:=ctrN_length ln;refine dF w4 (vs_split (A:=(ctrN nonce).take 8) (B:=1::(ctrN nonce).drop 9) (vs_map (fun j hj=>by rw[hI.hctr j (by omega),getD_takeK hj]) (by rw[bE];omega)) ?_ ?_)
  ·rw [aI];congr 1;refine vs_map (fun j hj=> ?_) (by rw[aT];omega);have:=hI.hctr (9+j) (by omega);rw[show 94+s+(9+j)=103+s+j by omega] at this;rw[this,getD_dropK]
  ·exact List.set_eq_take_append_cons_drop.trans (bG (by omega))
 have t6:M.a (6+s)=restL box nonce key:=by have:M.a (6+s)=M.f.a 33 [] [M.a (2+s),M.a (3+s),M.a (4+s),M.a (5+s)]:=w6;rw[this,hf,hF.a33,t3,t4,t5];rfl
 have hP:M.f.p 33 [] [M.a (2+s),M.a (3+s),M.a (4+s),M.a (5+s)]:=by rw[hf,hF.p33,t2,t3,t4,t5];have:=ctrN_one ln;exact ⟨by rw[aW,aT],by rw[aT];omega,this.1,by rw[this.2];decide,by rw[this.2];decide⟩
 have hrl:=restL_length box nonce key;refine ⟨?_,?_,?_⟩
 ·simp only[oob12,aC,Ob.holds,Ar.ev,hI.i58,hI.i59,hI.hbox,h175,h176,h177,q174,hl1,icmp];exact ⟨by omega,hP,by omega,by omega,by omega,by omega,by omega,by omega,by omega,by omega,by rfl,nofun⟩
 ·rw [w7,h176,bD,t6,hout,←hol,List.take_left,cF (by rw[aO,aW];omega),bJ,msgL,List.append_assoc]
 ·rw [hI.i60,aO,msgL_length]
end
end Go.Proofs.YtnfikgagkamioaaGreatDoor.S
