/- secretbox.sliceForAppend does as its contracts say. -/
import Derived.Test.YtlcljhlijmombaaYa0
namespace Go.Proofs.Ytlcljhlijmombaa
open Go.Sy
noncomputable def rawD (P:Program)(fn:Func)(σ:St)(r:Option (Out×Tr SV×St)):Option (List V1×St) :=
 match r with
 | some (.done e,T1,σ1) =>
  bif notExit e then
   match resS T1 P fn.results.toList σ1 with
   | some (vs,σ2)=>match ordOk σ.nx σ.na σ2.defs with
    | some _=>some (vs,σ2)
    | none=>none
   | none=>none
  else none
 | _=>none
theorem to_raw {F:Fns}{call:FuncId→List SV→St→Option (SV×St)}(hcall:CallOk F Try.prog call){fn:Func}{Ne:Num}{Ee:Env}{σe:St}{we:World}{stops:List Nat}{f fuel:Nat}{c:Code}{ks:List Kt}{T:Tr SV}{σ σ2:St}{o:List Bool}{vs:List V1}{N:Num}{a:Act}{w:World}{Z:Ending→World→Prop}
  (hrun:rawD Try.prog fn σ (runK Try.prog call stops fn.ntmps f fuel c ks T (σ.ask' o))=some (vs,σ2)) (hpat:patB T σ=true) (hat:At F fn.ntmps Ne Ee σe we T σ N a w)
  (H:∀N',Agr σ.nx σ.na N N'→N'.f=F→(∀ d∈σ2.defs,d.sat N')→(∀ ob∈σ2.obs,ob.holds N')∧∀E' w' u,(resV vs).den N' E'=some u→Post Ne Ee σe we N' E' σ2 w'→Z (.returned u) w') :
  c.wp Try.prog (wpK Try.prog ks (bodyPost Try.prog fn Z)) a w:=by
 unfold rawD at hrun
 split at hrun
 ·rename_i e T1 σ1 h1
  cases hb:notExit e with
  | false=>rw[hb] at hrun;cases hrun
  | true =>
   rw[hb] at hrun
   simp only[cond_true] at hrun
   split at hrun
   ·rename_i vs' σ2' h4
    split at hrun
    ·rename_i mx h6
     simp only[Option.some.injEq,Prod.mk.injEq] at hrun
     obtain ⟨rfl,rfl⟩:=hrun
     have hx:=runK_ext hcall f h1
     have hx2:=(resS_pur h4).ext
     obtain ⟨N',k1,k2,k3,k4⟩:=ext_at (o:=o) hpat h6 (hx2.ni.trans hx.ni) hat
     obtain ⟨g1,g2⟩:=H N' k1 k2 k3
     obtain ⟨hH,E,hA,hp⟩:=k4 g1
     refine runK_sound hm hcall f h1 (Hold.of_ext hx2 hH) hA hp.inv hp.bw fun E' a' w' q1 q2=> ?_
     have hp2:=hp.trans q2
     obtain ⟨u,hu,hres⟩:=resV_run q1 hp2.bw h4 hH
     have:=g2 E' w' u hu (hp2.trans (Post.of_pur (resS_pur h4) hp2.inv hp2.bw))
     cases e with
     | normal=>exact ⟨q1.defers,u,hres,this⟩
     | ret=>exact ⟨q1.defers,u,hres,this⟩
     | exit id=>cases hb
    ·cases hrun
   ·cases hrun
 ·cases hrun
def a24:List SV:=[.one (.sc (.sl 0 (.kst 0) (.var 0) (some (.var 1)))),.one (.sc (.num .i64 2))]
def s24:St:={ni:=0,nx:=3,na:=1,nb:=1,nv:=0,defs:=[],obs:=[],orc:=[],gl:= .nil,bks:=mkT [(0,{n:=0,rw:=true,cells:=mkT [] .nil,arr:=some (.u8,0,false)})] .nil}
noncomputable def raw24 (o:List Bool):Option (List V1×St):=rawD Try.prog Try.f24 s24 (runK Try.prog (callT []) [] Try.f24.ntmps 1000 2000 (bodyC Try.f24) [] (trArgs 0 a24 s24.gl) (s24.ask' o))
def z24a:St:={ni:=0,nx:=8,na:=1,nb:=1,nv:=0,defs:=[.n 7 (.lin (.var 1) (.var 0) (-1)),
  .n 6 (.lin (.var 3) (.var 0) (-1)),
  .n 5 (.lin (.kst 0) (.var 0) 1),
  .n 4 (.cmp .geq (.var 1) (.var 3)),
  .n 3 (.bin .add .i64 (.var 0) (.var 2))],obs:=[.lt (.var 0) (.var 1),
  .le (.var 3) (.var 1),
  .le (.var 0) (.var 3),
  .le (.kst 0) (.var 0),
  .le (.kst 0) (.var 0),
  .le (.var 3) (.var 1),
  .le (.kst 0) (.var 3),
  .boo 4 true,
  .le (.kst 0) (.var 1),
  .le (.kst 0) (.var 0)],orc:=[],gl:= .nil,bks:=mkT [(0,{n:=0,rw:=true,cells:=mkT [] .nil,arr:=some (.u8,0,false)})] .nil}
theorem run24a:raw24 [true,true]=some ([.sc (.sl 0 (.kst 0) (.var 3) (some (.var 1))),.sc (.sl 0 (.var 5) (.var 6) (some (.var 7)))],z24a):=by kernel_rfl
def z24b:St:={ni:=0,nx:=9,na:=4,nb:=2,nv:=0,defs:=[.n 8 (.lin (.var 3) (.var 0) (-1)),
  .n 7 (.lin (.var 3) (.var 0) (-1)),
  .n 6 (.lin (.kst 0) (.var 0) 1),
  .a 3 (.cpy 1 (.kst 0) 2),
  .a 2 (.sub 0 (.kst 0) (.var 5)),
  .n 5 (.mn (.var 0) (.var 3)),
  .a 1 (.rep (.var 3) (.kst 0)),
  .n 4 (.cmp .geq (.var 1) (.var 3)),
  .n 3 (.bin .add .i64 (.var 0) (.var 2))],obs:=[.lt (.var 0) (.var 3),
  .le (.var 3) (.var 3),
  .le (.var 0) (.var 3),
  .le (.kst 0) (.var 0),
  .le (.kst 0) (.var 0),
  .fits (.kst 0) (.var 5) 1,
  .le (.kst 0) (.var 5),
  .fits (.kst 0) (.var 5) 0,
  .le (.var 3) (.kst 1099511627776),
  .le (.var 3) (.var 3),
  .le (.kst 0) (.var 3),
  .boo 4 false,
  .le (.kst 0) (.var 1),
  .le (.kst 0) (.var 0)],orc:=[],gl:= .nil,bks:=mkT [(0,{n:=0,rw:=true,cells:=mkT [] .nil,arr:=some (.u8,0,false)}),(1,{n:=0,rw:=true,cells:=mkT [] .nil,arr:=some (.u8,3,false)})] .nil}
theorem run24b:raw24 [false,true]=some ([.sc (.sl 1 (.kst 0) (.var 3) (some (.var 3))),.sc (.sl 1 (.var 6) (.var 7) (some (.var 8)))],z24b):=by kernel_rfl
def z24c:St:={ni:=0,nx:=5,na:=1,nb:=1,nv:=1,defs:=[.n 4 (.cmp .geq (.var 1) (.var 3)),
  .n 3 (.bin .add .i64 (.var 0) (.var 2))],obs:=[.eq (.var 0) (.var 3),
  .le (.var 3) (.var 1),
  .le (.var 0) (.var 3),
  .le (.kst 0) (.var 0),
  .le (.kst 0) (.var 0),
  .le (.var 3) (.var 1),
  .le (.kst 0) (.var 3),
  .boo 4 true,
  .le (.kst 0) (.var 1),
  .le (.kst 0) (.var 0)],orc:=[],gl:= .nil,bks:=mkT [(0,{n:=0,rw:=true,cells:=mkT [] .nil,arr:=some (.u8,0,false)})] .nil}
theorem run24c:raw24 [true,false]=some ([.sc (.sl 0 (.kst 0) (.var 3) (some (.var 1))),.sc (.emp 0)],z24c):=by kernel_rfl
def P24:List Int→List (List Int)→Prop
 | [n],[L]=>0<n∧(L.length:Int)+n≤1099511627776
 | [n],[]=>0<n∧n≤1099511627776
 | _,_=>False
def P24z:List Int→List (List Int)→Prop
 | [n],[L]=>n=0∧(L.length:Int)≤1099511627776
 | [n],[]=>n=0
 | _,_=>False
def I24:List Int→List (List Int)→Nat→Int
 | [n],[L],j=>if j=0 then L.length else n
 | [n],[],j=>if j=0 then 0 else n
 | _,_,_=>0
def A24:List Int→List (List Int)→List Int
 | [n],[L]=>L++List.replicate n.toNat 0
 | [n],[]=>List.replicate n.toNat 0
 | _,_=>[]
structure F24 (F:Fns):Prop where
 p24:F.p 24=P24
 p24z:F.p 240=P24z
 i24:F.i 24=I24
 a24:F.a 24=A24
def n24 (F:Fns)(L:List Int)(c:Nat)(n:Int):Num:=⟨fun x=>[(L.length:Int),(c:Int),n].getD x 0,fun A=>[L++List.replicate (c-L.length) 0].getD A [],F⟩
def b24:Bk:={n:=0,rw:=true,cells:= .nil,arr:=some (.u8,0,false)}
theorem enter24 {F:Fns}{q s c:Nat}{L:List Int}{n:Int}{w:World}{Z:Ending→World→Prop}(hmem:MemG w q s c .u8 L)(hc:L.length≤c)
  (H:∀E a,E.blk 0=some (q,s,c)→At F Try.f24.ntmps (n24 F L c n) E s24 w (trArgs 0 a24 s24.gl) s24 (n24 F L c n) a w→(bodyC Try.f24).wp Try.prog (wpK Try.prog [] (bodyPost Try.prog Try.f24 Z)) a w) :
  Calls Try.prog 24 #[.slice (some ⟨q,s,none⟩) L.length c,.int .i64 n] w Z:=by
 obtain ⟨arr,el,m1,m2,m3,m4⟩:=hmem
 have hI0:Inv ⟨fun _=>none,fun _=>none⟩ σ00:=⟨fun _ _=>rfl,fun _ _=>rfl,fun t sv e=>by cases e⟩
 have hB0:BW (n24 F L c n) ⟨fun _=>none,fun _=>none⟩ σ00.bks w:=⟨fun i B e=>(by cases e),fun i i' B B' q s s' c c' e=>(by cases e)⟩
 have hA:(n24 F L c n).a 0=L++List.replicate (c-L.length) 0:=rfl
 have hlen:((n24 F L c n).a 0).length=c:=by rw[hA,List.length_append,List.length_replicate];omega
 have hw0:b24.wid (n24 F L c n) c=c:=by simp only[b24,Bk.wid,cond_false,hlen]
 obtain ⟨k1,k2,k3,k4⟩:=addBlk (N:=n24 F L c n) (σ:=σ00) (σ':=s24) (B:=b24) (c:=c) hI0 hB0 m1 (fun _=>rfl) (by rw[hw0];exact m2) (by
   simp only[Bk.cont,b24,hA]
   refine ⟨fun j v hj=> ?_,fun e=>by cases e⟩
   rw[List.getElem?_append] at hj
   by_cases hjl:j<L.length
   ·rw [if_pos hjl] at hj;exact m3 j v hj
   ·rw [if_neg hjl,List.getElem?_replicate] at hj
    split at hj
    ·rename_i h1
     simp only[Option.some.injEq] at hj
     subst hj
     exact m4 j (by omega) (by omega)
    ·cases hj)
  (fun i B' s' c' e=>by cases e) rfl rfl rfl rfl
 have hd:denLV (n24 F L c n) (Env.addB ⟨fun _=>none,fun _=>none⟩ 0 (q,s,c)) a24=some [.slice (some ⟨q,s,none⟩) L.length c,.int .i64 n]:=by
  refine denLV_cons.2 ⟨_,_,?_,denLV_cons.2 ⟨_,_,rfl,rfl,rfl⟩,rfl⟩
  have h9:=sl_mk (N:=n24 F L c n) (E:=Env.addB ⟨fun _=>none,fun _=>none⟩ 0 (q,s,c)) (b:=0) (off:= .kst 0) (len:= .var 0) (cap:=some (.var 1)) k4 (Int.le_refl _) (fun e=>by cases e)
  simp only[SV.den,V1.den,h9,capOf,Ar.ev]
  simp[n24]
 exact calls_of_wp (f:=24) (fn:=Try.f24) rfl (body_some rfl) (H _ _ k4 ⟨rfl,fun x hx=>(by cases hx),_,RA.enter k2 hd (by decide),Post.refl k2 k3⟩)
theorem grow24 {N N':Num}{E E':Env}{σ2:St}{q s c:Nat}{w w':World}(hb:E.blk 0=some (q,s,c))(hn:(N.a 0).length=c)(hp:Post N E s24 w N' E' σ2 w'):Grow (some ⟨q,s,c,true⟩) w w':=by
 have only:∀i B s1 c1 q1,s24.bks.get i=some B→E.blk i=some (q1,s1,c1)→q1=q∧s1=s∧B.wid N c1=c:=fun i B s1 c1 q1 h1 h2=>by
  have hs:s24.bks=Tr.nil.set 0 b24:=rfl
  rw[hs,Tr.get_set] at h1
  by_cases hi:i=0
  ·rw [if_pos hi] at h1
   simp only[Option.some.injEq] at h1
   subst h1
   rw[hi,hb] at h2
   simp only[Option.some.injEq,Prod.mk.injEq] at h2
   obtain ⟨rfl,rfl,rfl⟩:=h2
   exact ⟨rfl,rfl,by simp only[b24,Bk.wid,cond_false,hn]⟩
  ·rw [if_neg hi] at h1;cases h1
 refine ⟨hp.kept.os,hp.kept.tape,hp.kept.output,hp.kept.size,fun q1 hq hno=>hp.kept.block q1 hq fun i B s1 c1 h1 _ h3=> ?_,fun y arr el fz e hh=> ?_⟩
 ·obtain ⟨rfl,_⟩:=only i B s1 c1 q1 h1 h3
  exact hno _ rfl rfl
 ·simp only[Option.some.injEq] at e
  subst e
  obtain ⟨arr',k1,k2,k3⟩:=hp.kept.part q arr el fz hh
  refine ⟨arr',k1,k2,fun j hj=>k3 j fun i B s1 c1 h1 _ h3=> ?_⟩
  obtain ⟨_,rfl,h5⟩:=only i B s1 c1 q h1 h3
  rw[h5];exact hj
theorem add64 {a b:Int}(ha:0≤a)(hb:0≤b)(h:a+b≤1099511627776):iop .add .i64 a b=a+b:=by
 simp only[iop];rw[IntKind.wrap_i64];omega
theorem v1sc {N:Num}{E:Env}{x:Sc}{u:Value}(h:(V1.sc x).den N E=some u):x.den N E=some u:=h
theorem room24 {F:Fns}{q s c:Nat}{L:List Int}{n:Int}{w w':World}{N':Num}{E E':Env}{σ2:St}(hc:L.length≤c)(hn0:0≤n)(hn:(L.length:Int)+n≤c)(hE:E.blk 0=some (q,s,c))(hag:N'.a 0=(n24 F L c n).a 0)(hs:σ2.bks=s24.bks)(hp:Post (n24 F L c n) E s24 w N' E' σ2 w') :
  Fresh (some ⟨q,s,c,true⟩) w w' .u8 (L++List.replicate n.toNat 0) (.slice (some ⟨q,s,none⟩) (L.length+n.toNat) c):=by
 have hb:σ2.bks.get 0=some b24:=by rw[hs];rfl
 obtain ⟨q',s',c',arr,el,fz,g1,g2,g3,g4,g5⟩:=hp.bw.at' 0 b24 hb
 rw[hp.le.blk _ _ hE] at g1
 simp only[Option.some.injEq,Prod.mk.injEq] at g1
 obtain ⟨rfl,rfl,rfl⟩:=g1
 have:=g3 rfl;subst this
 have hA:(n24 F L c n).a 0=L++List.replicate (c-L.length) 0:=rfl
 have hlen:(N'.a 0).length=c:=by rw[hag,hA,List.length_append,List.length_replicate];omega
 simp only[b24,Bk.wid,Bk.cont,cond_false,hlen] at g4 g5
 have g5:=g5.1
 rw[hag,hA] at g5
 refine ⟨q,s,c,arr,el,by rw[List.length_append,List.length_replicate],by rw[List.length_append,List.length_replicate];omega,.inr ⟨_,rfl,rfl,Nat.le_refl _,Nat.le_refl _⟩,g2,g4,fun j v hj=> ?_,fun j h1 h2=> ?_⟩
 ·refine g5 j v ?_
  rw[List.getElem?_append] at hj ⊢
  by_cases h:j<L.length
  ·rw [if_pos h] at hj ⊢;exact hj
  ·rw [if_neg h,List.getElem?_replicate] at hj ⊢
   split at hj
   ·rw [if_pos (by omega)];exact hj
   ·cases hj
 ·rw [List.length_append,List.length_replicate] at h1
  refine g5 j 0 ?_
  rw[List.getElem?_append,if_neg (by omega),List.getElem?_replicate,if_pos (by omega)]
theorem spec24 {F:Fns}(h:F24 F):CSpec Try.prog F 24 ct24:=by
 intro us is ls ws w hA _ hpr
 cases hA with
 | @gr _ q s c L _ _ _ _ _ hmem hc h1 =>
  cases h1 with
  | @int _ n _ _ _ _ _ h2 =>
   cases h2
   have hpr:0<n∧(L.length:Int)+n≤1099511627776:=by
     have:P24 [n] [L]:=by rw[←h.p24];exact hpr
     exact this
   have hA0:∀c n,(n24 F L c n).a 0=L++List.replicate (c-L.length) 0:=fun _ _=>rfl
   have hl0:((n24 F L c n).a 0).length=c:=by rw[hA0,List.length_append,List.length_replicate];omega
   refine enter24 (F:=F) hmem hc fun E a hE hat=> ?_
   by_cases hr:(L.length:Int)+n≤c
   ·refine to_raw (callT_ok (tab:=[]) trivial) run24a (by kernel_rfl) hat fun N hag hf hd=> ?_
    have e0:N.i 0=L.length:=hag.i 0 (by decide)
    have e1:N.i 1=c:=hag.i 1 (by decide)
    have e2:N.i 2=n:=hag.i 2 (by decide)
    have ea:N.a 0=_:=hag.a 0 (by decide)
    simp only[z24a,List.forall_mem_cons,Df.sat,Nd.ev,Ar.ev,e0,e1,e2] at hd
    obtain ⟨q7,q6,q5,q4,q3,-⟩:=hd
    rw[add64 (by omega) (by omega) (by omega)] at q3
    rw[q3] at q4 q6
    refine ⟨?_,fun E' w' u hu hp=> ?_⟩
    ·simp only[z24a,List.forall_mem_cons,Ob.holds,Ar.ev,e0,e1,q3,q4]
     refine ⟨by omega,by omega,by omega,by omega,by omega,by omega,by omega,?_,by omega,by omega,nofun⟩
     simp only[icmp];rw[decide_eq_true (by omega)];rfl
    ·obtain ⟨us,hd,rfl⟩:=resV_den_inv hu
     obtain ⟨u1,r1,d1,hd1,rfl⟩:=denL1_cons.1 hd
     obtain ⟨u2,r2,d2,hd2,rfl⟩:=denL1_cons.1 hd1
     simp only[denL1,Option.some.injEq] at hd2
     subst hd2
     have hb:=hp.le.blk _ _ hE
     obtain ⟨_,_,_,m1,g1,_,rfl,g2,_⟩:=sl_den (v1sc d1)
     rw[hb] at g1;simp only[Option.some.injEq,Prod.mk.injEq] at g1;obtain ⟨rfl,rfl,rfl⟩:=g1
     obtain ⟨_,_,_,m2,g1,_,rfl,g3,_⟩:=sl_den (v1sc d2)
     rw[hb] at g1;simp only[Option.some.injEq,Prod.mk.injEq] at g1;obtain ⟨rfl,rfl,rfl⟩:=g1
     simp only[capOf,Ar.ev,e1,q3,q5,q6,q7] at g2 g3 ⊢
     have hF:=room24 (F:=F) (σ2:=z24a) hc (by omega) hr hE ea rfl hp
     have ht:((L.length:Int)+n).toNat=L.length+n.toNat:=by omega
     refine ⟨_,rfl,w,[_,_],.slice (some ⟨q,s,none⟩) (L.length+n.toNat) c,rfl,rfl,grow24 hE hl0 hp,⟨?_,fun _ e=>by cases e⟩,⟨?_,?_,trivial⟩⟩
     ·show Fresh _ _ _ _ (F.a 24 [n] [L]) _
      rw[h.a24]
      exact hF
     ·rw [g2,ht,Int.toNat_natCast,Int.toNat_zero,Nat.add_zero]
     ·refine ⟨q,s,L.length+n.toNat,c,L.length,n.toNat,rfl,by show F.i 24 _ _ _=_;rw[h.i24];rfl,by show F.i 24 _ _ 1=_;rw[h.i24];show n=_;omega,by omega,?_⟩
      subst g3
      have e5:((0:Int)+ ↑L.length*1).toNat=L.length:=by omega
      have e6:((L.length:Int)+n+ ↑L.length* -1).toNat=n.toNat:=by omega
      have e7:((c:Int)+ ↑L.length* -1).toNat=c-L.length:=by omega
      rw[e5,e6,e7]
   ·refine to_raw (callT_ok (tab:=[]) trivial) run24b (by kernel_rfl) hat fun N hag hf hd=> ?_
    have e0:N.i 0=L.length:=hag.i 0 (by decide)
    have e1:N.i 1=c:=hag.i 1 (by decide)
    have e2:N.i 2=n:=hag.i 2 (by decide)
    have ea:N.a 0=_:=hag.a 0 (by decide)
    simp only[z24b,List.forall_mem_cons,Df.sat,Nd.ev,Ad.ev,Ar.ev,e0,e1,e2] at hd
    obtain ⟨q8,q7,q6,w3,w2,q5,w1,q4,q3,-⟩:=hd
    rw[add64 (by omega) (by omega) (by omega)] at q3
    rw[q3] at q4 q5 q7 q8 w1
    have t5:N.i 5=L.length:=by rw[q5];split <;> omega
    rw[t5,ea,hA0] at w2
    have t2:N.a 2=L:=by
     rw[w2];simp
    have ht:((L.length:Int)+n).toNat=L.length+n.toNat:=by omega
    have t3:N.a 3=L++List.replicate n.toNat 0:=by
     rw[w3,w1,t2,ht]
     simp only[Int.toNat_zero,List.take_zero,List.nil_append,Nat.zero_add,List.drop_replicate,Nat.add_sub_cancel_left]
    refine ⟨?_,fun E' w' u hu hp=> ?_⟩
    ·have l0:(N.a 0).length=c:=by rw[ea];exact hl0
     have l1:(N.a 1).length=L.length+n.toNat:=by rw[w1,ht,List.length_replicate]
     simp only[z24b,List.forall_mem_cons,Ob.holds,Ar.ev,e0,e1,q3,q4,t5,l0,l1]
     refine ⟨by omega,by omega,by omega,by omega,by omega,⟨by omega,by omega,by omega⟩,by omega,⟨by omega,by omega,by omega⟩,by omega,by omega,by omega,?_,by omega,by omega,nofun⟩
     simp only[icmp];rw[decide_eq_false (by omega)];rfl
    ·obtain ⟨us,hd,rfl⟩:=resV_den_inv hu
     obtain ⟨u1,r1,d1,hd1,rfl⟩:=denL1_cons.1 hd
     obtain ⟨u2,r2,d2,hd2,rfl⟩:=denL1_cons.1 hd1
     simp only[denL1,Option.some.injEq] at hd2
     subst hd2
     obtain ⟨q',s',c',arr,el,fz,f1,f2,f3,f4,f5⟩:=hp.bw.at' 1 {n:=0,rw:=true,cells:= .nil,arr:=some (.u8,3,false)} rfl
     have:=f3 rfl;subst this
     obtain ⟨_,_,_,m1,g1,_,rfl,g2,_⟩:=sl_den (v1sc d1)
     rw[f1] at g1;simp only[Option.some.injEq,Prod.mk.injEq] at g1;obtain ⟨rfl,rfl,rfl⟩:=g1
     obtain ⟨_,_,_,m2,g1,_,rfl,g3,_⟩:=sl_den (v1sc d2)
     rw[f1] at g1;simp only[Option.some.injEq,Prod.mk.injEq] at g1;obtain ⟨rfl,rfl,rfl⟩:=g1
     simp only[capOf,Ar.ev,q3,q6,q7,q8] at g2 g3 ⊢
     have l3:(N.a 3).length=L.length+n.toNat:=by rw[t3,List.length_append,List.length_replicate]
     simp only[Bk.wid,Bk.cont,cond_false,l3] at f4 f5
     have f5:=f5.1
     rw[t3] at f5
     have hqs:w.heap.size≤q':=by
      rcases Nat.lt_or_ge q' w.heap.size with hlt | hge
      ·exfalso
       obtain ⟨i0,B0,s0,c0,k1,k2,k3,k4,k5⟩:=hp.win 1 _ q' s' c' (show z24b.bks.get 1=some _ from rfl) rfl f1 hlt
       have hs:s24.bks=Tr.nil.set 0 b24:=rfl
       rw[hs,Tr.get_set] at k1
       split at k1
       ·rename_i hi
        simp only[Option.some.injEq] at k1
        subst k1 hi
        have:b24.wid (n24 F L c n) c0=c:=by simp only[b24,Bk.wid,cond_false];exact hl0
        rw[this] at k5
        simp only[Bk.wid,cond_false,l3] at k5
        rw[hE] at k3
        simp only[Option.some.injEq,Prod.mk.injEq] at k3
        omega
       ·cases k1
      ·exact hge
     refine ⟨_,rfl,w,[_,_],.slice (some ⟨q',s',none⟩) (L.length+n.toNat) (L.length+n.toNat),rfl,rfl,grow24 hE hl0 hp,⟨?_,fun _ e=>by cases e⟩,⟨?_,?_,trivial⟩⟩
     ·show Fresh _ _ _ _ (F.a 24 [n] [L]) _
      have e9:F.a 24 [n] [L]=L++List.replicate n.toNat 0:=by rw[h.a24];rfl
      have l9:(F.a 24 [n] [L]).length=L.length+n.toNat:=by rw[e9,List.length_append,List.length_replicate]
      exact ⟨q',s',L.length+n.toNat,arr,el,by rw[l9],by rw[l9];exact Nat.le_refl _,.inl hqs,f2,f4,by rw[e9];exact f5,fun j h1 h2=>by rw[l9] at h1;omega⟩
     ·rw [g2,ht,Int.toNat_zero,Nat.add_zero]
     ·refine ⟨q',s',L.length+n.toNat,L.length+n.toNat,L.length,n.toNat,?_,by show F.i 24 _ _ _=_;rw[h.i24];rfl,by show F.i 24 _ _ 1=_;rw[h.i24];show n=_;omega,by omega,?_⟩
      ·rfl
      ·subst g3
       have e5:((0:Int)+ ↑L.length*1).toNat=L.length:=by omega
       have e6:((L.length:Int)+n+ ↑L.length* -1).toNat=n.toNat:=by omega
       rw[e5,e6,show L.length+n.toNat-L.length=n.toNat by omega]
theorem spec24z {F:Fns}(h:F24 F):CSpec Try.prog F 24 ct24z:=by
 intro us is ls ws w hA _ hpr
 cases hA with
 | @gr _ q s c L _ _ _ _ _ hmem hc h1 =>
  cases h1 with
  | @int _ n _ _ _ _ _ h2 =>
   cases h2
   have hpr:n=0∧(L.length:Int)≤1099511627776:=by
     have:P24z [n] [L]:=by rw[←h.p24z];exact hpr
     exact this
   obtain ⟨rfl,hbig⟩:=hpr
   have hA0:∀c n,(n24 F L c n).a 0=L++List.replicate (c-L.length) 0:=fun _ _=>rfl
   have hl0:((n24 F L c 0).a 0).length=c:=by rw[hA0,List.length_append,List.length_replicate];omega
   have res:∀ {E E':Env} {N:Num} {σ2:St} {w':World} {v2:Value},E.blk 0=some (q,s,c)→N.a 0=(n24 F L c 0).a 0→σ2.bks=s24.bks→Post (n24 F L c 0) E s24 w N E' σ2 w'→(∃ a c,v2= .slice a 0 c) →
     ResOk Try.prog F ct24z [0] [L] [some ⟨q,s,c,true⟩,none] w (tupOf [.slice (some ⟨q,s,none⟩) L.length c,v2]) w':=fun {E E' N σ2 w' v2} hE ea hs hp hv=>by
    have hF:=room24 (F:=F) hc (Int.le_refl 0) (by omega) hE ea hs hp
    refine ⟨w,[_,_],_,rfl,rfl,grow24 hE hl0 hp,⟨?_,fun _ e=>by cases e⟩,⟨rfl,hv,trivial⟩⟩
    show Fresh _ _ _ _ (F.a 24 [0] [L]) _
    rw[h.a24]
    exact hF
   refine enter24 (F:=F) hmem hc fun E a hE hat=> ?_
   by_cases hr:(L.length:Int)<c
   ·refine to_raw (callT_ok (tab:=[]) trivial) run24a (by kernel_rfl) hat fun N hag hf hd=> ?_
    have e0:N.i 0=L.length:=hag.i 0 (by decide)
    have e1:N.i 1=c:=hag.i 1 (by decide)
    have e2:N.i 2=0:=hag.i 2 (by decide)
    have ea:N.a 0=_:=hag.a 0 (by decide)
    simp only[z24a,List.forall_mem_cons,Df.sat,Nd.ev,Ar.ev,e0,e1,e2] at hd
    obtain ⟨q7,q6,q5,q4,q3,-⟩:=hd
    rw[add64 (by omega) (by omega) (by omega),Int.add_zero] at q3
    rw[q3] at q4 q6
    refine ⟨?_,fun E' w' u hu hp=> ?_⟩
    ·simp only[z24a,List.forall_mem_cons,Ob.holds,Ar.ev,e0,e1,q3,q4]
     refine ⟨by omega,by omega,by omega,by omega,by omega,by omega,by omega,?_,by omega,by omega,nofun⟩
     simp only[icmp];rw[decide_eq_true (by omega)];rfl
    ·obtain ⟨us,hd,rfl⟩:=resV_den_inv hu
     obtain ⟨u1,r1,d1,hd1,rfl⟩:=denL1_cons.1 hd
     obtain ⟨u2,r2,d2,hd2,rfl⟩:=denL1_cons.1 hd1
     simp only[denL1,Option.some.injEq] at hd2
     subst hd2
     have hb:=hp.le.blk _ _ hE
     obtain ⟨_,_,_,m1,g1,_,rfl,g2,_⟩:=sl_den (v1sc d1)
     rw[hb] at g1;simp only[Option.some.injEq,Prod.mk.injEq] at g1;obtain ⟨rfl,rfl,rfl⟩:=g1
     obtain ⟨_,_,_,m2,g1,_,rfl,g3,_⟩:=sl_den (v1sc d2)
     simp only[capOf,Ar.ev,e1,q3,q5,q6,q7] at g2 g3 ⊢
     subst g2
     have e6:((L.length:Int)+ ↑L.length* -1).toNat=0:=by omega
     rw[e6]
     exact ⟨_,rfl,res (σ2:=z24a) hE ea rfl hp ⟨_,_,rfl⟩⟩
   ·refine to_raw (callT_ok (tab:=[]) trivial) run24c (by kernel_rfl) hat fun N hag hf hd=> ?_
    have e0:N.i 0=L.length:=hag.i 0 (by decide)
    have e1:N.i 1=c:=hag.i 1 (by decide)
    have e2:N.i 2=0:=hag.i 2 (by decide)
    have ea:N.a 0=_:=hag.a 0 (by decide)
    simp only[z24c,List.forall_mem_cons,Df.sat,Nd.ev,Ar.ev,e0,e1,e2] at hd
    obtain ⟨q4,q3,-⟩:=hd
    rw[add64 (by omega) (by omega) (by omega),Int.add_zero] at q3
    rw[q3] at q4
    refine ⟨?_,fun E' w' u hu hp=> ?_⟩
    ·simp only[z24c,List.forall_mem_cons,Ob.holds,Ar.ev,e0,e1,q3,q4]
     refine ⟨trivial,by omega,by omega,by omega,by omega,by omega,by omega,?_,by omega,by omega,nofun⟩
     simp only[icmp];rw[decide_eq_true (by omega)];rfl
    ·obtain ⟨us,hd,rfl⟩:=resV_den_inv hu
     obtain ⟨u1,r1,d1,hd1,rfl⟩:=denL1_cons.1 hd
     obtain ⟨u2,r2,d2,hd2,rfl⟩:=denL1_cons.1 hd1
     simp only[denL1,Option.some.injEq] at hd2
     subst hd2
     have hb:=hp.le.blk _ _ hE
     obtain ⟨_,_,_,m1,g1,_,rfl,g2,_⟩:=sl_den (v1sc d1)
     rw[hb] at g1;simp only[Option.some.injEq,Prod.mk.injEq] at g1;obtain ⟨rfl,rfl,rfl⟩:=g1
     simp only[capOf,Ar.ev,e1,q3] at g2 ⊢
     subst g2
     exact ⟨_,rfl,res (σ2:=z24c) hE ea rfl hp (isEmp_den (x:= .emp 0) rfl (v1sc d2))⟩
noncomputable def rawOf (ct:Ct)(fn:Func)(call:FuncId→List SV→St→Option (SV×St))(o:List Bool):Option (List V1×St) :=
 rawD Try.prog fn (stOf ct) (runK Try.prog call [] fn.ntmps 1000 2000 (bodyC fn) [] (trArgs 0 (argsOf ct) (stOf ct).gl) ((stOf ct).ask' o))
def z24n:St:={ni:=0,nx:=3,na:=1,nb:=1,nv:=0,defs:=[.a 0 (.rep (.var 1) (.kst 0)),.n 2 (.cmp .geq (.kst 0) (.var 1)),.n 1 (.bin .add .i64 (.kst 0) (.var 0))],obs:=[.le (.var 1) (.var 1),.le (.kst 0) (.var 1),.le (.var 1) (.kst 1099511627776),.le (.var 1) (.var 1),.le (.kst 0) (.var 1),.boo 2 false],orc:=[],gl:= .nil,bks:=mkT [(0,b24)] .nil}
theorem run24n:rawOf ct24n Try.f24 (callT []) [false]=some ([.sc (.sl 0 (.kst 0) (.var 1) (some (.var 1))),.sc (.sl 0 (.kst 0) (.var 1) (some (.var 1)))],z24n):=by kernel_rfl
theorem run24nz:runE ct24nz Try.f24 (callT []) [true]=some (⟨[],none,none⟩,[.n 2 (.cmp .geq (.kst 0) (.var 1)),.n 1 (.bin .add .i64 (.kst 0) (.var 0))],[.le (.var 1) (.kst 0),.le (.kst 0) (.var 1),.boo 2 true]):=by kernel_rfl
theorem spec24n {F:Fns}(h:F24 F):CSpec Try.prog F 24 ct24n:=by
 refine cspec_of (args:=argsOf ct24n) (σe:=stOf ct24n) rfl Try.func24 (body_some (by kernel_rfl)) (by kernel_rfl) (by kernel_rfl) fun is ls ws we Ee a hs hp hent hat=> ?_
 match is,ls,hs with
 | [n],[],_ =>
 have hpr:0<n∧n≤1099511627776:=by
   have:P24 [n] []:=by rw[←h.p24];exact hp
   exact this
 have hws:ws=[none,none]:=by
  obtain ⟨us,hA⟩:=hent.args
  cases hA with
  | kst _ h1=>cases h1 with
   | int h2=>cases h2;rfl
 subst hws
 refine to_raw (callT_ok (tab:=[]) trivial) run24n (by kernel_rfl) hat fun N hag hf hd=> ?_
 have e0:N.i 0=n:=hag.i 0 (by decide)
 simp only[z24n,List.forall_mem_cons,Df.sat,Nd.ev,Ad.ev,Ar.ev,e0] at hd
 obtain ⟨w0,q2,q1,-⟩:=hd
 rw[add64 (by omega) (by omega) (by omega),Int.zero_add] at q1
 rw[q1] at q2 w0
 refine ⟨?_,fun E' w' u hu hp=> ?_⟩
 ·simp only[z24n,List.forall_mem_cons,Ob.holds,Ar.ev,q1,q2]
  exact ⟨by omega,by omega,by omega,by omega,by omega,by simp only[icmp];rw[decide_eq_false (by omega)];rfl,nofun⟩
 ·obtain ⟨us,hd,rfl⟩:=resV_den_inv hu
  obtain ⟨u1,r1,d1,hd1,rfl⟩:=denL1_cons.1 hd
  obtain ⟨u2,r2,d2,hd2,rfl⟩:=denL1_cons.1 hd1
  simp only[denL1,Option.some.injEq] at hd2
  subst hd2
  obtain ⟨q',s',c',arr,el,fz,f1,f2,f3,f4,f5⟩:=hp.bw.at' 0 b24 rfl
  have:=f3 rfl;subst this
  obtain ⟨_,_,_,m1,g1,_,rfl,g2,_⟩:=sl_den (v1sc d1)
  rw[f1] at g1;simp only[Option.some.injEq,Prod.mk.injEq] at g1;obtain ⟨rfl,rfl,rfl⟩:=g1
  obtain ⟨_,_,_,m2,g1,_,rfl,g3,_⟩:=sl_den (v1sc d2)
  rw[f1] at g1;simp only[Option.some.injEq,Prod.mk.injEq] at g1;obtain ⟨rfl,rfl,rfl⟩:=g1
  simp only[capOf,Ar.ev,q1] at g2 g3 ⊢
  subst g2 g3
  have l0:(N.a 0).length=n.toNat:=by rw[w0,List.length_replicate]
  simp only[b24,Bk.wid,Bk.cont,cond_false,l0] at f4 f5
  have f5:=f5.1
  rw[w0] at f5
  have nob:∀i,(stOf ct24n).bks.get i=none:=fun i=>rfl
  have hg:Grow none we w':=⟨hp.kept.os,hp.kept.tape,hp.kept.output,hp.kept.size,fun q hq _=>hp.kept.block q hq (fun i B s c e=>by rw[nob] at e;cases e),fun y _ _ _ e=>by cases e⟩
  have hqs:we.heap.size≤q':=by
   rcases Nat.lt_or_ge q' we.heap.size with hlt | hge
   ·obtain ⟨i0,B0,s0,c0,k1,_⟩:=hp.win 0 b24 q' s' c' rfl rfl f1 hlt
    rw[nob] at k1;cases k1
   ·exact hge
  have e9:F.a 24 [n] []=List.replicate n.toNat 0:=by rw[h.a24];rfl
  have l9:(F.a 24 [n] []).length=n.toNat:=by rw[e9,List.length_replicate]
  rw[Int.toNat_zero,Nat.add_zero]
  refine ⟨_,rfl,we,[_,_],.slice (some ⟨q',s',none⟩) n.toNat n.toNat,rfl,rfl,hg,⟨?_,fun _ e=>by cases e⟩,⟨rfl,⟨q',s',n.toNat,n.toNat,0,n.toNat,rfl,by show F.i 24 _ _ _=_;rw[h.i24];rfl,by show F.i 24 _ _ 1=_;rw[h.i24];show n=_;omega,by omega,by rw[Nat.add_zero,Nat.sub_zero]⟩,trivial⟩⟩
  show Fresh _ _ _ _ (F.a 24 [n] []) _
  exact ⟨q',s',n.toNat,arr,el,by rw[l9],by rw[l9];exact Nat.le_refl _,.inl hqs,f2,f4,by rw[e9];exact f5,fun j h1 h2=>by rw[l9] at h1;omega⟩
theorem spec24nz {F:Fns}(h:F24 F):CSpec Try.prog F 24 ct24nz:=by
 refine straight (callT_ok (tab:=[]) trivial) Try.func24 (by kernel_rfl) (by kernel_rfl) (by kernel_rfl) run24nz (by kernel_rfl) fun is ls N hs hp hag hf hd=> ?_
 match is,ls,hs with
 | [n],[],_ =>
 have hpr:n=0:=by
   have:P24z [n] []:=by rw[←h.p24z];exact hp
   exact this
 subst hpr
 have e0:N.i 0=0:=hag.i 0 (by decide)
 simp only[List.forall_mem_cons,Df.sat,Nd.ev,Ar.ev,e0] at hd
 obtain ⟨q2,q1,-⟩:=hd
 have q1:N.i 1=0:=q1
 rw[q1] at q2
 refine ⟨?_,⟨nofun,trivial,trivial⟩,fun L hL=>by cases hL⟩
 simp only[List.forall_mem_cons,Ob.holds,Ar.ev,q1,q2]
 exact ⟨by omega,by omega,rfl,nofun⟩
end Go.Proofs.Ytlcljhlijmombaa
