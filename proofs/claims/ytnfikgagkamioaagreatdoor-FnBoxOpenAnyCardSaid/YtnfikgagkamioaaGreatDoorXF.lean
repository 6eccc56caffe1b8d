/- All symbols, once. -/
import Derived.Test.YtnfikgagkamioaaGreatDoorS8
namespace Go.Proofs.YtnfikgagkamioaaGreatDoor.S
open Go.Sy
noncomputable def hd9:Code:=match bodyC Tryz.f10 with | .seq r _=>r | _=> .skip
noncomputable def ops9:Array Oper:=match bodyC Tryz.f10 with | .seq _ (.seq (.region _ ops _) _)=>ops | _=> #[]
noncomputable def tl9:Code:=match bodyC Tryz.f10 with | .seq _ (.seq _ t)=>t | _=> .skip
theorem body9:bodyC Tryz.f10= .seq hd9 (.seq (.region 1 ops9 false) tl9):=by kernel_rfl
def noOper : Oper := ⟨none, .move (.const (.bool true)), 0, "", #[], none⟩
noncomputable def o90:Oper:=ops9.toList.headD noOper
noncomputable def o91:Oper:=(ops9.toList.drop 1).headD noOper
noncomputable def l9:List Oper:=ops9.toList.drop 2
theorem ops9_l:ops9.toList=o90::o91::l9:=by kernel_rfl
theorem o91_is:o91.dst=some 5∧o91.guard=none∧o91.op= .convert 22 22 (.tmp 4):=⟨by kernel_rfl,by kernel_rfl,by kernel_rfl⟩
noncomputable def e22:TypeId:=match Tryz.prog.underlying 22 with | some (.slice e)=>e | _=>0
def v9:SV:= .one (.sc (.sl 0 (.kst 0) (.kst 1) (some (.kst 1))))
def T90:Tr SV:=mkT [(0,.one (.sc (.kst (.bool false))))] .nil
def T91:Tr SV:=T90.set 8 v9
def T92:Tr SV:=T91.set 10 v9
def b9 (rw:Bool):Bk:={n:=1,rw:=rw,cells:=trOf 0 [.kst (.int .u8 97)] .nil,arr:=none}
def s9 (rw:Bool):St:={stOf ct9 with nb:=1,bks:=Tr.nil.set 0 (b9 rw)}
theorem r90:run Tryz.prog 1000 (callT tab9) Tryz.f10.ntmps hd9 (trArgs 0 (argsOf ct9) (stOf ct9).gl) (stOf ct9)=some (.normal,T90,stOf ct9):=by kernel_rfl
theorem r91:run.runL Tryz.prog (callT tab9) Tryz.f10.ntmps [o90] T90 (stOf ct9)=some (T91,s9 true):=by kernel_rfl
theorem r92:put Tryz.f10.ntmps T91 (some 5) (some v9)=some T92:=by kernel_rfl
def ds9:List Df :=
 [.n 37 (.seq 19 20),.a 20 (.lit [.kst 97]),.a 19 (.sub 18 (.kst 0) (.var 36)),.n 36 (.len 18),.a 18 (.fn 12 [] [15,16,17]),.a 17 (.lit (zs 32)),.a 16 (.lit (zs 24)),.a 15 (.sub 14 (.kst 0) (.var 35)),.a 14 (.sub 13 (.kst 0) (.var 35)),.a 13 (.cat 11 12),.n 35 (.lin (.kst 16) (.var 34) 1),
  .a 12 (.sub 8 (.kst 32) (.var 34)),.a 11 (.fn 11 [] [9,10]),.a 10 (.sub 8 (.kst 32) (.var 33)),.a 9 (.sub 8 (.kst 0) (.kst 32)),.n 34 (.lin (.var 32) (.kst 32) (-1)),.n 33 (.lin (.var 32) (.kst 32) (-1)),.n 32 (.len 8),.a 8 (.fn 17 [] [5,6,7]),.a 7 (.lit (vs 0 32)),.a 6 (.lit (zs 16)),.a 5 (.sub 2 (.kst 0) (.kst 33))] ++
  (fns 0 16 [] [3,4] 0 32++[.a 4 (.lit (zs 32)),.a 3 (.lit (zs 16)),.a 2 (.cat 1 0),.a 1 (.lit (zs 32)),.a 0 (.lit [.kst 97])])
def os9:List Ob :=
 [.fits (.kst 0) (.var 36) 18,.prd 121 [] [15,16,17],.fits (.kst 0) (.var 35) 14,.le (.var 35) (.kst 1099511627776),.lt (.kst 0) (.var 35),.fits (.kst 0) (.var 35) 13,.le (.var 35) (.kst 1099511627776),.lenA (.kst 16) 11,.fits (.kst 32) (.var 34) 8,.prd 11 [] [9,10],.fits (.kst 32) (.var 33) 8,.fits (.kst 0) (.kst 32) 8,
  .lt (.kst 32) (.var 32),.le (.var 32) (.var 32),.le (.kst 32) (.var 32),.lt (.kst 32) (.var 32),.le (.var 32) (.var 32),.le (.kst 32) (.var 32),.le (.kst 32) (.var 32),.prd 17 [] [5,6,7],.fits (.kst 0) (.kst 33) 2,.prd 16 [] [3,4]]
noncomputable def run9 (o:List Bool):Option (Sum1×List Df×List Ob) :=
 match run.runL Tryz.prog (callT tab9) Tryz.f10.ntmps l9 T92 ((s9 false).ask' o) with
 | some (T,σ)=>endD Tryz.prog ct9 (stOf ct9) Tryz.f10 (s9 false) (runK Tryz.prog (callT tab9) [] Tryz.f10.ntmps 1000 2000 tl9 [] T σ)
 | none=>none
theorem r93:run9 [true,true,false]=some (⟨[(.var 37,0)],none,none⟩,ds9,os9):=by kernel_rfl
section
variable {F:Fns}
theorem tab9_ok (h:F8 F):TabOk F tab9:=by
 obtain ⟨h1,h2,h3,-⟩:=tab5_ok h.toF5;exact ⟨h1,⟨by kernel_rfl,fun c hc=>by simp only[aX] at hc;subst hc;exact spec12n h.toF12⟩,h2,h3,trivial⟩
theorem conv9 {P:Program}{t e:TypeId}{w:World}{q s l c:Nat}{arr:Array Value}{el:TypeId}{fz:Nat×Nat}(ht:P.underlying t=some (.slice e))(he:P.underlying e=some (.int .u8))(hq:w.heap[q]? =some (.cells arr el fz)) :
 ∃w',(convert t t (.slice (some ⟨q,s,none⟩) l c)).run P w= .ok (.slice (some ⟨q,s,none⟩) l c) w'∧w'.os=w.os∧w'.tape=w.tape∧w'.output=w.output∧w'.heap.size=w.heap.size∧(∀ j,j≠q→w'.heap[j]? =w.heap[j]?)∧∃fz',w'.heap[q]? =some (.cells arr el fz'):=by
 have hsh:w.shape? q=some (el,arr.size):=by simp[World.shape?,hq]
 refine ⟨w.freeze ⟨q,arr.size,none⟩ 1,?_,?_,?_,?_,?_,?_,?_⟩;·simp [convert,run_underlying ht,run_underlying he,markStringish,hsh,Result.andThen]
 ·simp [World.freeze]
 ·simp [World.freeze]
 ·simp [World.freeze]
 ·simp [World.freeze]
 ·intro j hj;simp[World.freeze,Array.getElem?_modify,Ne.symm hj]
 ·simp [World.freeze,Array.getElem?_modify,hq]
theorem law9 (hF:F8 F){N:Num}(hf:N.f=F)(hd:∀d∈ds9,d.sat N):(∀ o∈os9,o.holds N)∧N.i 37=1:=by
 simp only[ds9,cB,aC] at hd;obtain ⟨⟨q37,w20,w19,q36,w18,w17,w16,w15,w14,w13,q35,w12,w11,w10,w9,q34,q33,q32,w8,w7,w6,w5,-⟩,hfn,w4,w3,w2,w1,w0,-⟩:=hd;have ln:(List.replicate 24 (0:Int)).length=24:=aW ..;have w0:N.a 0=[97]:=w0;have w1:N.a 1=List.replicate 32 0:=dF w1 (zs_map 32);have w2:N.a 2=List.replicate 32 0++[97]:=by have:N.a 2=N.a 1++N.a 0:=w2;rw[this,w1,w0]
 have w3:N.a 3=(List.replicate 24 (0:Int)).take 16:=dF w3 (zs_map 16);have w4:N.a 4=List.replicate 32 0:=dF w4 (zs_map 32);have hsub:=sub5_law hF.toF5 hf hfn w3 w4;generalize hk:List.replicate 32 (0:Int)=key at *;have lk:key.length=32:=by rw[←hk];exact aW ..
 generalize hn:List.replicate 24 (0:Int)=nonce at *;have w7:N.a 7=subK nonce key:=dF w7 (vs_map (fun j hj=>by have:=hsub j hj;rwa [bM] at this ⊢) (subK_length _ _));have w6:N.a 6=ctrN nonce:=dF w6 ((zs_map 16).trans (by rw[←hn];rfl));have l2:(N.a 2).length=33:=by rw[w2,aO,lk];rfl
 have w5:N.a 5=key++[97]:=by have:N.a 5=((N.a 2).drop 0).take 33:=w5;rw[this,bW,bO (by omega),w2]
 have w8:N.a 8=streamL (key++[97]) (ctrN nonce) (subK nonce key):=by have:N.a 8=N.f.a 17 [] [N.a 5,N.a 6,N.a 7]:=w8;rw[this,hf,hF.a17,w5,w6,w7];rfl
 have l8:(N.a 8).length=33:=by rw[w8,gY,aO,lk];rfl
 have q32:N.i 32=33:=by have:N.i 32=((N.a 8).length:Nat):=q32;rw[this,l8];rfl
 simp only[Df.sat,Nd.ev,Ar.ev,q32] at q33 q34;have q33:N.i 33=1:=by rw[q33];rfl
 have q34:N.i 34=1:=by rw[q34];rfl
 have q35:N.i 35=17:=by have:N.i 35=16+N.i 34*1:=q35;rw[this,q34];rfl
 have w9:N.a 9=(fbL nonce key).take 32:=by have:N.a 9=((N.a 8).drop 0).take 32:=w9;rw[this,bW,w8,←hk,str_first ln,hk]
 have ld:((N.a 8).drop 32).length=1:=by rw[aT,l8]
 have w10:N.a 10=(N.a 8).drop 32:=by have:N.a 10=((N.a 8).drop 32).take (N.i 33).toNat:=w10;rw[this,q33,bO (by rw[ld];decide)]
 have w12:N.a 12=(N.a 8).drop 32:=by have:N.a 12=((N.a 8).drop 32).take (N.i 34).toNat:=w12;rw[this,q34,bO (by rw[ld];decide)]
 have w11:N.a 11=tagL ((fbL nonce key).take 32) ((N.a 8).drop 32):=by have:N.a 11=N.f.a 11 [] [N.a 9,N.a 10]:=w11;rw[this,hf,hF.a11,w9,w10];rfl
 have l11:(N.a 11).length=16:=by rw[w11];exact tagL_length _ _
 have w13:N.a 13=N.a 11++(N.a 8).drop 32:=by have:N.a 13=N.a 11++N.a 12:=w13;rw[this,w12]
 have l13:(N.a 13).length=17:=by rw[w13,aO,l11,ld]
 have w14:N.a 14=N.a 13:=by have:N.a 14=((N.a 13).drop 0).take (N.i 35).toNat:=w14;rw[this,q35,bW,bO (by rw[l13];decide)]
 have w15:N.a 15=N.a 13:=by have:N.a 15=((N.a 14).drop 0).take (N.i 35).toNat:=w15;rw[this,q35,w14,bW,bO (by rw[l13];decide)]
 have w16:N.a 16=nonce:=dF w16 ((zs_map 24).trans hn);have w17:N.a 17=key:=dF w17 ((zs_map 32).trans hk);have hB8:Bytes ((N.a 8).drop 32):=by refine Bytes.drop (fun y hy=> ?_) 32;rw[w8] at hy;obtain ⟨i,_,rfl⟩:=dC.1 hy;unfold strB iop;simp only[IntKind.wrap_u8];omega
 have hB:Bytes (N.a 13):=by
  rw[w13];intro x hx;rcases cX.1 hx with h | h
  ·rw [w11] at h;exact tagL_bytes _ _ x h
  ·exact hB8 x h
 have e1:(N.a 13).drop 16=(N.a 8).drop 32:=by rw[w13,←l11,List.drop_left]
 have e2:(N.a 13).take 16=N.a 11:=by rw[w13,←l11,List.take_left]
 have hok:okBox (N.a 13) nonce key:=⟨hB,by rw[l13];decide,by unfold tagOf;rw[e1,e2,w11]⟩
 have hmsg:msgL (N.a 13) nonce key=[97]:=by
  rw[w13,w8,←hk];rw[hk];have:=msg_sealed (nonce:=nonce) (key:=key) (M:=[97]) (T:=N.a 11) ln l11 (by intro x hx;simp only[aX] at hx;subst hx;decide)
  rwa [hk] at this
 have w18:N.a 18=[97]:=by have:N.a 18=N.f.a 12 [] [N.a 15,N.a 16,N.a 17]:=w18;rw[this,hf,hF.a12,w15,w16,w17];exact hmsg
 have q36:N.i 36=1:=by have:N.i 36=((N.a 18).length:Nat):=q36;rw[this,w18];rfl
 have w19:N.a 19=[97]:=by have:N.a 19=((N.a 18).drop 0).take (N.i 36).toNat:=w19;rw[this,q36,w18];rfl
 have w20:N.a 20=[97]:=w20;have o1:(Ob.prd 121 [] [15,16,17]).holds N:=by show N.f.p 121 [] [N.a 15,N.a 16,N.a 17];rw[hf,hF.p121,w15,w16,w17];exact ⟨hok,by rw[l13];decide⟩
 have o2:(Ob.prd 11 [] [9,10]).holds N:=by show N.f.p 11 [] [N.a 9,N.a 10];rw[hf,hF.p11,w9,w10];exact ⟨hB8,Bytes.take (xorL_bytes _ _ _) 32,by rw[ld];decide⟩
 have o3:(Ob.prd 17 [] [5,6,7]).holds N:=by show N.f.p 17 [] [N.a 5,N.a 6,N.a 7];rw[hf,hF.p17,w5,w6,w7];exact ⟨by rw[aO,lk];decide,by rw[aO,lk];decide,ctrN_drop8 (by rw[←hn];exact aW ..)⟩
 have o4:(Ob.prd 16 [] [3,4]).holds N:=by show N.f.p 16 [] _;rw[hf];exact hF.p16 _ _
 refine ⟨?_,?_⟩
 ·simp only[os9,aC];refine ⟨?_,o1,?_,?_,?_,?_,?_,?_,?_,o2,?_,?_,?_,?_,?_,?_,?_,?_,?_,o3,?_,o4,nofun⟩
  all_goals simp only[Ob.holds,Ar.ev,q32,q33,q34,q35,q36,w18,w14,l13,l11,l8,l2,bU,dV]
  all_goals omega
 ·have:N.i 37=bif bytesOf (N.a 19)==bytesOf (N.a 20) then 1 else 0:=q37;rw[this,w19,w20];rfl
theorem wpL_cons {P:Program}{ops:Array Oper}{Q:Exit→Act→World→Prop}{a:Act}{w:World}{rest:List Oper}{o:Oper}(hg:o.guard=none)(h:o.wp P a w (wpList P ops Q rest) Q):wpList P ops Q (o::rest) a w:=by
 unfold wpList;rw[bG (wanted_none hg _)];exact .inl h
set_option maxRecDepth 20000 in
theorem spec9 (hF:F8 F):CSpec Tryz.prog F 10 ct9:=by
 refine gA (args:=argsOf ct9) (σe:=stOf ct9) rfl Tryz.func10 (fM (by kernel_rfl)) (by kernel_rfl) (by kernel_rfl) fun is ls ws we Ee a hs hp hent hat=> ?_
 match is,ls,hs with
 | [],[],_ =>
 have hcall:=eU (tab9_ok hF);obtain ⟨hF0,hins,E,hA,hp0⟩:=hat;have hH:∀ {σ:St},σ.defs=[]→σ.obs=[]→σ.ni=0→Hold F (num0 F ct9.ps [] []) σ:=fun {σ} h1 h2 h3=>⟨rfl,(fun d hd=>by rw[h1] at hd;cases hd),(fun o ho=>by rw[h2] at ho;cases ho),(fun x hx=>by rw[h3] at hx;cases hx)⟩
 rw[body9];refine wp_seq ((run_sound hm hcall 1000).1 r90 (hH rfl rfl rfl) hA hp0.inv hp0.bw fun E1 a1 w1 hA1 hp1=> ?_);refine wp_seq (wp_region_list ?_);rw[ops9_l];have h0:=opL_sound (Q:=Exit.then (tl9.wp Tryz.prog (wpK Tryz.prog [] (Qend Tryz.prog F Tryz.f10 ct9 [] [] ws we))) (wpK Tryz.prog [] (Qend Tryz.prog F Tryz.f10 ct9 [] [] ws we)))
  (K:=wpList Tryz.prog ops9 (Exit.then (tl9.wp Tryz.prog (wpK Tryz.prog [] (Qend Tryz.prog F Tryz.f10 ct9 [] [] ws we))) (wpK Tryz.prog [] (Qend Tryz.prog F Tryz.f10 ct9 [] [] ws we))) (o91::l9)) hcall r91 (hH rfl rfl rfl) hA1 hp1.inv hp1.bw fun E2 a2 w2 hA2 hp2=> ?_
 ·exact wpL_cons h0.1 h0.2
 ·have p02:=(hp0.trans hp1).trans hp2;obtain ⟨hdst,hgu,hop⟩:=o91_is;refine wpL_cons hgu ?_;obtain ⟨_,u,hu1,hu2⟩:=hA2.at' 4 v9 (by kernel_rfl);obtain ⟨q,s,c,arr,el,fz,g1,g2,g3,g4,g5⟩:=p02.bw.at' 0 (b9 true) rfl;have hu3:(Sc.sl 0 (.kst 0) (.kst 1) (some (.kst 1))).den (num0 F ct9.ps [] []) E2=some u:=hu2;obtain ⟨q',s',c',m,k1,_,rfl,k3,_⟩:=gC hu3;rw[g1] at k1;simp only[aA,aD] at k1;obtain ⟨rfl,rfl,rfl⟩:=k1;obtain ⟨w3,c1,c2,c3,c4,c5,c6,fz',c7⟩:=conv9 (P:=Tryz.prog) (t:=22) (e:=e22) (w:=w2) (q:=q) (s:=s+((Ar.kst 0).ev (num0 F ct9.ps [] [])).toNat) (l:=((Ar.kst 1).ev (num0 F ct9.ps [] [])).toNat) (c:=m) (by kernel_rfl) (by kernel_rfl) g2
  have hev:a2.eval (.tmp 4)= .slice (some ⟨q,s+((Ar.kst 0).ev (num0 F ct9.ps [] [])).toNat,none⟩) ((Ar.kst 1).ev (num0 F ct9.ps [] [])).toNat m:=by have h:v9.den (num0 F ct9.ps [] []) E2=some (a2.eval (.tmp 4)):=eW hA2 (show evalO T91 (.tmp 4)=some v9 by kernel_rfl);rw[hu2] at h;simp only[aA] at h;exact h.symm
  have hr:(execOp a2.eval o91).run Tryz.prog w2= .ok (.value (a2.eval (.tmp 4))) w3:=by
   have:∀o:Oper,o.op= .convert 22 22 (.tmp 4)→(execOp a2.eval o).run Tryz.prog w2= .ok (.value (a2.eval (.tmp 4))) w3:=fun o ho=>by obtain ⟨_,op,_,_,_,_⟩:=o;simp only at ho;subst ho;simp only[execOp,bH,hev,c1,aY,bY]
   exact this _ hop
  unfold Oper.wp;rw[hr];show wpList Tryz.prog ops9 _ l9 (a2.put o91.dst (a2.eval (.tmp 4))) w3;rw[hdst];have hA3:RA (num0 F ct9.ps [] []) E2 Tryz.f10.ntmps T92 (a2.put (some 5) (a2.eval (.tmp 4))):=RA.put hA2 r92 fun sv e=>by simp only[aA] at e;subst e;rw[hev];exact hu2
  have nob:∀i,(stOf ct9).bks.get i=none:=fun i=>rfl
  have only:∀rw i B,(s9 rw).bks.get i=some B→i=0∧B=b9 rw:=fun rw i B e=>by
   have hs:(s9 rw).bks=Tr.nil.set 0 (b9 rw):=rfl;rw[hs,fA] at e;by_cases hi:i=0;·rw [bG hi] at e;simp only[aA] at e;exact ⟨hi,e.symm⟩
   ·rw [bC hi] at e;cases e
  have hq:we.heap.size≤q:=by
   rcases bL q we.heap.size with hlt | hge
   ·obtain ⟨i0,B0,s0,c0,k1,_⟩:=p02.win 0 (b9 true) q s c rfl rfl g1 hlt;rw[nob] at k1;cases k1
   ·exact hge
  have p03:Post (num0 F ct9.ps [] []) Ee (stOf ct9) we (num0 F ct9.ps [] []) E2 (s9 false) w3:=by
   refine ⟨⟨p02.inv.freshB,p02.inv.freshV,p02.inv.glob⟩,p02.le,⟨fun i B e=> ?_,fun i i' B B' q1 s1 s2 c1 c2 e1 e2 hne=> ?_⟩,⟨c2.trans p02.kept.os,c3.trans p02.kept.tape,c4.trans p02.kept.output,by rw[c5];exact p02.kept.size,fun j hj hno=> ?_,fun j arr' el' fz1 hj=> ?_⟩,fun i B q1 s1 c1 e1 e2=> ?_⟩
   ·obtain ⟨rfl,rfl⟩:=only false i B e;exact ⟨q,s,c,arr,el,fz',g1,c7,fun e=>(by cases e),g4,g5⟩
   ·obtain ⟨rfl,_⟩:=only false i B e1;obtain ⟨rfl,_⟩:=only false i' B' e2;exact (hne rfl).elim
   ·rw [c6 j (by omega)];exact p02.kept.block j hj hno
   ·obtain ⟨arr2,k1,k2,k3⟩:=p02.kept.part j arr' el' fz1 hj;have:=lt_of_heap hj;exact ⟨arr2,by rw[c6 j (by omega)];exact k1,k2,k3⟩
   ·obtain ⟨_,rfl⟩:=only false i B e1;cases e2
  have h9:=r93;unfold run9 at h9;split at h9
  ·rename_i T3 σ3 hl;obtain ⟨e,T4,σ4,vs,σ5,mx,k1,k2,k3,k4,k5,k6,k7,k8⟩:=endD_inv h9;have hx:=runL_ext hcall hl;have hx1:=runK_ext hcall 1000 k1;have hx2:=(resS_pur k4).ext;obtain ⟨N',m1,m2,m3,m4⟩:=ext_at (o:=[true,true,false]) (T:=T92) (σ:=s9 false) (by kernel_rfl) k6 ((hx2.ni.trans hx1.ni).trans hx.ni) ⟨rfl,hins,E2,hA3,p03⟩;rw[←k7] at m3;obtain ⟨o1,q37⟩:=law9 hF m2 m3;obtain ⟨hHe,E3,hA4,hp4⟩:=m4 (by rw[←k8];exact o1)
   have hok:Sum1.ok ⟨[(.var 37,0)],none,none⟩ N' F ct9 [] []:=⟨fun p hp=>by simp only[aX] at hp;subst hp;show N'.i 37=F.i 9 [] [] 0;rw[hF.i9,q37],trivial,trivial⟩
   refine runL_sound hcall hl (eT (hx1.trans hx2) hHe) hA4 hp4.inv hp4.bw fun E5 a5 w5 hA5 hp5=> ?_
   exact gL hm hcall 1000 k1 (eT hx2 hHe) hA5 hp5.inv hp5.bw fun E6 a6 w6 hA6 hp6=>end_ok k2 k3 k4 k5 hHe hA6 ((hp4.trans hp5).trans hp6) hent hok nofun
  ·cases h9
end
end Go.Proofs.YtnfikgagkamioaaGreatDoor.S
namespace Go.Proofs.YtnfikgagkamioaaGreatDoor
open Go.Sy
inductive Tg where
 | len (t:Nat)
 | sum
 | row (t j:Nat)
 | kst (n:Nat)
structure En where
 len:List (Nat×Nat×Nat)
 sum:Nat×Nat
 prd:List (Nat×List Nat)
 fi:List (Nat×List Nat×Nat)
 row:List (Nat×List Nat×Nat)
 fa:List (Nat×List Nat×Nat)
structure Sk where
 la:Tr Nat
 li:Tr Tg
def lkL {α:Type}(f:α→Bool):List α→Option α
 | []=>none
 | x::l=>bif f x then some x else lkL f l
theorem lkL_mem {α:Type}{f:α→Bool}{x:α}:∀ {l:List α},lkL f l=some x→x∈l∧f x=true
 | [],h=>by cases h
 | y::l,h=>by
  simp only[lkL] at h;cases hy:f y with
  | true =>rw[hy] at h;simp only[aH,aA] at h;subst h;exact ⟨aN,hy⟩
  | false =>rw[hy] at h;exact ⟨aJ _ (lkL_mem h).1,(lkL_mem h).2⟩
def lk3 (l:List (Nat×List Nat×Nat))(f:Nat)(ts:List Nat):Option Nat:=(lkL (fun q=>Nat.beq q.1 f&&eL Nat.beq q.2.1 ts) l).map (·.2.2)
theorem lk3_mem {l:List (Nat×List Nat×Nat)}{f b:Nat}{ts:List Nat}(h:lk3 l f ts=some b):(f,ts,b)∈l:=by
 unfold lk3 at h;obtain ⟨⟨g,us,c⟩,h1,h2⟩:=aV.1 h;obtain ⟨h3,h4⟩:=lkL_mem h1;simp only[aG] at h4;rw[←aF h4.1,←eNats_eq h4.2,←h2];exact h3
def En.bnd (e:En):Tg→Option (Nat×Nat)
 | .len t=>(lkL (fun q=>Nat.beq q.1 t) e.len).map (·.2)
 | .sum=>some e.sum
 | _=>none
def termsL (t:Tr Nat):List Nat→Option (List Nat)
 | []=>some []
 | A::l=>match t.get A,termsL t l with
  | some x,some xs=>some (x::xs)
  | _,_=>none
def rowB (li:Tr Tg)(t:Nat):Nat→List Ar→Bool
 | _,[]=>true
 | j,.var x::l=>(match li.get x with | some (.row t' j')=>Nat.beq t' t&&Nat.beq j' j | _=>false)&&rowB li t (j+1) l
 | _,_=>false
def litT (e:En)(li:Tr Tg):List Ar→Option Nat
 | []=>some 0
 | .kst n::l=>bif eL eAr (.kst n::l) (zs 32) then some 10 else none
 | .var x::l=>match li.get x with
  | some (.row t 0)=>match e.bnd (.len t) with
   | some (lo,hi)=>bif Nat.beq lo (l.length+1)&&(Nat.beq hi (l.length+1)&&rowB li t 0 (.var x::l)) then some t else none
   | none=>none
  | _=>none
def kNd (e:En)(s:Sk):Nd→Option Tg
 | .cmp .gtr (.var y) (.kst (.ofNat K))=>match s.li.get y with
  | some g=>match e.bnd g with
   | some (lo,hi)=>bif Nat.blt K lo then some (.kst 1) else bif Nat.ble hi K then some (.kst 0) else none
   | none=>none
  | none=>none
 | .bin .add .i64 (.kst (.ofNat 0)) (.var y)=>match s.li.get y with
  | some (.len t)=>match e.bnd (.len t) with
   | some (_,hi)=>bif Nat.ble hi 1099511627776 then some (.len t) else none
   | none=>none
  | _=>none
 | .bin .add .i64 (.var y) (.kst (.ofNat 0))=>match s.li.get y with
  | some (.len t)=>match e.bnd (.len t) with
   | some (_,hi)=>bif Nat.ble hi 1099511627776 then some (.len t) else none
   | none=>none
  | _=>none
 | .bin .add .i64 (.var x) (.var y)=>match s.li.get x,s.li.get y with
  | some (.len 1),some (.len 2)=>bif Nat.ble e.sum.2 1099511627776 then some .sum else none
  | _,_=>none
 | .fn f [] bs j=>match termsL s.la bs with
  | some ts=>match lk3 e.row f ts with
   | some t=>some (.row t j)
   | none=>match j with
    | 0=>(lk3 e.fi f ts).map .kst
    | _=>none
  | none=>none
 | .rd A (.kst (.ofNat j))=>(s.la.get A).map fun t=> .row t j
 | .len A=>(s.la.get A).map .len
 | _=>none
def kAd (e:En)(s:Sk):Ad→Option Nat
 | .lit l=>litT e s.li l
 | .sub A (.kst (.ofNat 0)) (.var x)=>match s.la.get A,s.li.get x with
  | some t,some (.len t')=>bif Nat.beq t' t then some t else none
  | _,_=>none
 | .fn f [] bs=>match termsL s.la bs with
  | some ts=>lk3 e.fa f ts
  | none=>none
 | _=>none
def kOb (e:En)(s:Sk):Ob→Bool
 | .boo x b=>match s.li.get x with
  | some (.kst n)=>b== !(Nat.beq n 0)
  | _=>false
 | .prd p [] bs=>Nat.beq p 123||(match termsL s.la bs with
  | some ts=>match lkL (fun q=>Nat.beq q.1 p&&eL Nat.beq q.2 ts) e.prd with | some _=>true | none=>false
  | none=>false)
 | .fits (.kst (.ofNat 0)) (.var x) A=>match s.la.get A,s.li.get x with
  | some t,some (.len t')=>Nat.beq t' t
  | _,_=>false
 | .lenA (.var x) A=>match s.la.get A,s.li.get x with
  | some t,some (.len t')=>Nat.beq t' t
  | _,_=>false
 | .le (.kst (.ofNat 0)) (.var x)=>match s.li.get x with
  | some (.len _)=>true
  | some .sum=>true
  | _=>false
 | .le (.var x) (.kst (.ofNat K))=>match s.li.get x with
  | some g=>match e.bnd g with
   | some (_,hi)=>Nat.ble hi K
   | none=>false
  | none=>false
 | .lt (.kst (.ofNat 0)) (.var x)=>match s.li.get x with
  | some g=>match e.bnd g with
   | some (lo,_)=>Nat.blt 0 lo
   | none=>false
  | none=>false
 | .eq (.var x) (.kst (.ofNat 0))=>match s.li.get x with
  | some g=>match e.bnd g with
   | some (_,hi)=>Nat.beq hi 0
   | none=>false
  | none=>false
 | _=>false
def kGo (e:En):List Df→Sk→Sk
 | [],s=>s
 | .n x nd::l,s=>kGo e l (match kNd e s nd with | some g=>{s with li:=s.li.set x g} | none=>{s with li:=s.li.erase x})
 | .a A ad::l,s=>kGo e l (match kAd e s ad with | some t=>{s with la:=s.la.set A t} | none=>{s with la:=s.la.erase A})
def kB (e:En)(s:Sk)(ds:List Df)(os:List Ob):Bool:=os.all (kOb e (kGo e ds.reverse s))
section
variable {N:Num} {F:Fns} {V:Nat→List Int} {e:En}
def Tg.ok (N:Num)(V:Nat→List Int)(x:Nat):Tg→Prop
 | .len t=>N.i x=((V t).length:Nat)
 | .sum=>N.i x=(((V 1).length+(V 2).length:Nat):Int)
 | .row t j=>N.i x=(V t).getD j 0
 | .kst n=>N.i x=(n:Nat)
structure En.ok (V:Nat→List Int) (F:Fns) (e:En):Prop where
 len:∀q∈e.len,q.2.1≤(V q.1).length∧(V q.1).length≤q.2.2
 sum:e.sum.1≤(V 1).length+(V 2).length∧(V 1).length+(V 2).length≤e.sum.2
 prd:∀q∈e.prd,F.p q.1 [] (q.2.map V)
 fi:∀q∈e.fi,F.i q.1 [] (q.2.1.map V) 0=(q.2.2:Nat)
 row:∀q∈e.row,∀j,F.i q.1 [] (q.2.1.map V) j=(V q.2.2).getD j 0
 fa:∀q∈e.fa,F.a q.1 [] (q.2.1.map V)=V q.2.2
 p123:∀is ls,F.p 123 is ls
 nl:V 0=[]
 z:V 10=z32
structure Sk.ok (N:Num) (V:Nat→List Int) (s:Sk):Prop where
 la:∀A t,s.la.get A=some t→N.a A=V t
 li:∀x g,s.li.get x=some g→g.ok N V x
theorem bnd_ok (hE:e.ok V F){x:Nat}{g:Tg}{lo hi:Nat}(hg:g.ok N V x)(h:e.bnd g=some (lo,hi)):∃n:Nat,N.i x=n∧lo≤n∧n≤hi:=by
 cases g with
 | len t =>simp only[En.bnd,aV] at h;obtain ⟨⟨t',lo',hi'⟩,h1,h2⟩:=h;obtain ⟨h3,h4⟩:=lkL_mem h1;have:=hE.len _ h3;simp only[aD] at h2;obtain ⟨rfl,rfl⟩:=h2;simp only at this;have h4:t'=t:=aF h4;rw[h4] at this;exact ⟨_,hg,this.1,this.2⟩
 | sum =>simp only[En.bnd,aA] at h;have:=hE.sum;rw[h] at this;exact ⟨_,hg,this.1,this.2⟩
 | row t j=>cases h
 | kst n=>cases h
theorem terms_ok {s:Sk}(hs:s.ok N V):∀ {bs ts:List Nat},termsL s.la bs=some ts→bs.map N.a=ts.map V
 | [],ts,h=>by simp only[termsL,aA] at h;subst h;rfl
 | A::l,ts,h=>by
  simp only[termsL] at h;split at h
  ·rename_i x xs h1 h2;simp only[aA] at h;subst h;rw[aI,aI,hs.la _ _ h1,terms_ok hs h2]
  ·cases h
theorem rowB_ok {s:Sk}(hs:s.ok N V){t:Nat}:∀ {l:List Ar} {j:Nat},rowB s.li t j l=true→l.map (·.ev N)=(List.range' j l.length).map fun i=>(V t).getD i 0
 | [],_,_=>rfl
 | .var x::l,j,h=>by
  simp only[rowB,aG] at h;obtain ⟨h1,h2⟩:=h;split at h1
  ·rename_i t' j' hg;simp only[aG] at h1;have:=hs.li _ _ hg;rw[aF h1.1,aF h1.2] at this;rw[aI,bU,List.range'_succ,aI,rowB_ok hs h2];show N.i x::_=_;rw[show N.i x=(V t).getD j 0 from this]
  ·cases h1
 | .kst _::_,_,h=>by cases h
theorem lit_okT (hE:e.ok V F){s:Sk}(hs:s.ok N V){l:List Ar}{t:Nat}(h:litT e s.li l=some t):l.map (·.ev N)=V t:=by
 match l,h with
 | [],h =>simp only[litT,aA] at h;subst h;exact hE.nl.symm
 | .kst n::l,h =>
  simp only[litT] at h;cases hb:eL eAr (.kst n::l) (zs 32) with
  | false=>rw[hb] at h;cases h
  | true =>rw[hb] at h;simp only[aH,aA] at h;subst h;rw[eArs_eq hb,hE.z];rfl
 | .var x::l,h =>
  simp only[litT] at h;split at h
  ·rename_i t0 hg;split at h
   ·rename_i lo hi hb;cases hc:(Nat.beq lo (l.length+1)&&(Nat.beq hi (l.length+1)&&rowB s.li t0 0 (.var x::l))) with
    | false=>rw[hc] at h;cases h
    | true =>rw[hc] at h;simp only[aH,aA] at h;subst h;simp only[aG] at hc;obtain ⟨c1,c2,c3⟩:=hc;simp only[En.bnd,aV] at hb;obtain ⟨⟨t',lo',hi'⟩,h1,h2⟩:=hb;obtain ⟨h3,h4⟩:=lkL_mem h1;have hl:=hE.len _ h3;simp only[aD] at h2;obtain ⟨rfl,rfl⟩:=h2;simp only at hl;have h4:t'=t0:=aF h4;rw[h4,aF c1,aF c2] at hl;rw[rowB_ok hs c3,←List.range_eq_range'];refine map_getD' ?_;rw[bU];omega
   ·cases h
  ·cases h
theorem kNd_ok (hE:e.ok V F)(hf:N.f=F){s:Sk}(hs:s.ok N V){x:Nat}{nd:Nd}{g:Tg}(h:kNd e s nd=some g)(hx:N.i x=nd.ev N):g.ok N V x:=by
 unfold kNd at h;split at h
 ·rename_i y K;split at h
  ·rename_i g0 hg;split at h
   ·rename_i lo hi hb;obtain ⟨n,hn,h1,h2⟩:=bnd_ok hE (hs.li _ _ hg) hb;have hx:N.i x=bif icmp .gtr (N.i y) (Int.ofNat K) then 1 else 0:=hx;rw[hn] at hx;cases hk:Nat.blt K lo with
    | true =>rw[hk] at h;simp only[aH,aA] at h;subst h;have:=aM hk;rw[show icmp .gtr (n:Int) (Int.ofNat K)=true from bS (by show (n:Int)>K;omega)] at hx;exact hx
    | false =>
     rw[hk] at h;simp only[aQ] at h;cases hk2:Nat.ble hi K with
     | false=>rw[hk2] at h;cases h
     | true =>rw[hk2] at h;simp only[aH,aA] at h;subst h;have:=aM hk2;rw[show icmp .gtr (n:Int) (Int.ofNat K)=false from bZ (by show ¬(n:Int)>K;omega)] at hx;exact hx
   ·cases h
  ·cases h
 ·rename_i y;split at h
  ·rename_i t hg;split at h
   ·rename_i lo hi hb;cases hk:Nat.ble hi 1099511627776 with
    | false=>rw[hk] at h;cases h
    | true =>rw[hk] at h;simp only[aH,aA] at h;subst h;obtain ⟨n,hn,h1,h2⟩:=bnd_ok hE (hs.li _ _ hg) hb;have:=aM hk;have h0:N.i y=((V t).length:Nat):=hs.li _ _ hg;have hx:N.i x=IntKind.i64.wrap (0+N.i y):=hx;rw[hn,IntKind.wrap_i64] at hx;show N.i x=_;rw[←h0,hx,hn];omega
   ·cases h
  ·cases h
 ·rename_i y;split at h
  ·rename_i t hg;split at h
   ·rename_i lo hi hb;cases hk:Nat.ble hi 1099511627776 with
    | false=>rw[hk] at h;cases h
    | true =>rw[hk] at h;simp only[aH,aA] at h;subst h;obtain ⟨n,hn,h1,h2⟩:=bnd_ok hE (hs.li _ _ hg) hb;have:=aM hk;have h0:N.i y=((V t).length:Nat):=hs.li _ _ hg;have hx:N.i x=IntKind.i64.wrap (N.i y+0):=hx;rw[hn,IntKind.wrap_i64] at hx;show N.i x=_;rw[←h0,hx,hn];omega
   ·cases h
  ·cases h
 ·rename_i y y';split at h
  ·rename_i h1 h2;cases hk:Nat.ble e.sum.2 1099511627776 with
   | false=>rw[hk] at h;cases h
   | true =>rw[hk] at h;simp only[aH,aA] at h;subst h;have:=aM hk;have e1:N.i y=((V 1).length:Nat):=hs.li _ _ h1;have e2:N.i y'=((V 2).length:Nat):=hs.li _ _ h2;have hx:N.i x=IntKind.i64.wrap (N.i y+N.i y'):=hx;have hsum:=hE.sum;rw[e1,e2,IntKind.wrap_i64] at hx;show N.i x=_;rw[hx];omega
  ·cases h
 ·rename_i f bs j;split at h
  ·rename_i ts ht;have hx:N.i x=N.f.i f [] (bs.map N.a) j:=hx;rw[hf,terms_ok hs ht] at hx;split at h
   ·rename_i t hr;simp only[aA] at h;subst h;exact hx.trans (hE.row _ (lk3_mem hr) j)
   ·split at h
    ·simp only[aV] at h;obtain ⟨b,hb,rfl⟩:=h;exact hx.trans (hE.fi _ (lk3_mem hb))
    ·cases h
  ·cases h
 ·rename_i A j;simp only[aV] at h;obtain ⟨t,ht,rfl⟩:=h;have hx:N.i x=(N.a A).getD (Int.ofNat j).toNat 0:=hx;rw[hs.la _ _ ht] at hx;exact hx
 ·rename_i A;simp only[aV] at h;obtain ⟨t,ht,rfl⟩:=h;have hx:N.i x=((N.a A).length:Nat):=hx;rw[hs.la _ _ ht] at hx;exact hx
 ·cases h
theorem kAd_ok (hE:e.ok V F)(hf:N.f=F){s:Sk}(hs:s.ok N V){A:Nat}{ad:Ad}{t:Nat}(h:kAd e s ad=some t)(hx:N.a A=ad.ev N):N.a A=V t:=by
 unfold kAd at h;split at h
 ·rename_i l;exact hx.trans (lit_okT hE hs h)
 ·rename_i B x;split at h
  ·rename_i t0 t1 h1 h2;cases hb:Nat.beq t1 t0 with
   | false=>rw[hb] at h;cases h
   | true =>rw[hb] at h;simp only[aH,aA] at h;subst h;have:=aF hb;subst this;have h0:N.i x=((V t1).length:Nat):=hs.li _ _ h2;have hx:N.a A=((N.a B).drop (Int.toNat 0)).take (N.i x).toNat:=hx;rw[hx,hs.la _ _ h1,h0];show ((V t1).drop 0).take (V t1).length=V t1;rw[bW,cS]
  ·cases h
 ·rename_i f bs;split at h
  ·rename_i ts ht;have hx:N.a A=N.f.a f [] (bs.map N.a):=hx;rw[hf,terms_ok hs ht] at hx;exact hx.trans (hE.fa _ (lk3_mem h))
  ·cases h
 ·cases h
theorem kGo_ok (hE:e.ok V F)(hf:N.f=F):∀ {ds:List Df} {s:Sk},(∀ d∈ds,d.sat N)→s.ok N V→(kGo e ds s).ok N V
 | [],_,_,hs=>hs
 | .n x nd::l,s,hd,hs=>by
  have hx:N.i x=nd.ev N:=hd _ aN;simp only[kGo];refine kGo_ok hE hf (fun d hm=>hd d (aJ _ hm)) ?_
  split
  ·rename_i g hg;refine ⟨hs.la,fun y g' h=> ?_⟩;simp only[fA] at h;by_cases hy:y=x
   ·rw [bG hy] at h;simp only[aA] at h;subst h;subst hy;exact kNd_ok hE hf hs hg hx
   ·rw [bC hy] at h;exact hs.li _ _ h
  ·refine ⟨hs.la,fun y g' h=> ?_⟩;simp only[gJ] at h;by_cases hy:y=x;·rw [bG hy] at h;cases h
   ·rw [bC hy] at h;exact hs.li _ _ h
 | .a A ad::l,s,hd,hs=>by
  have hx:N.a A=ad.ev N:=hd _ aN;simp only[kGo];refine kGo_ok hE hf (fun d hm=>hd d (aJ _ hm)) ?_
  split
  ·rename_i t ht;refine ⟨fun B t' h=> ?_,hs.li⟩;simp only[fA] at h;by_cases hy:B=A
   ·rw [bG hy] at h;simp only[aA] at h;subst h;subst hy;exact kAd_ok hE hf hs ht hx
   ·rw [bC hy] at h;exact hs.la _ _ h
  ·refine ⟨fun B t' h=> ?_,hs.li⟩;simp only[gJ] at h;by_cases hy:B=A;·rw [bG hy] at h;cases h
   ·rw [bC hy] at h;exact hs.la _ _ h
theorem kOb_ok (hE:e.ok V F)(hf:N.f=F){s:Sk}(hs:s.ok N V){o:Ob}(h:kOb e s o=true):o.holds N:=by
 unfold kOb at h;split at h
 ·rename_i x b;split at h
  ·rename_i n hg;have h0:N.i x=(n:Nat):=hs.li _ _ hg;show (!(N.i x==0))=b;rw[eq_of_beq h,h0];congr 1;cases n with
   | zero=>rfl
   | succ n =>rw[show Nat.beq (n+1) 0=false from rfl,beq_eq_false_iff_ne];omega
  ·cases h
 ·rename_i p bs;show N.f.p p [] (bs.map N.a);rw[hf];rw[eM] at h;rcases h with h | h
  ·rw [aF h];exact hE.p123 _ _
  ·split at h
   ·rename_i ts ht;split at h
    ·rename_i q hq;obtain ⟨h1,h2⟩:=lkL_mem hq;simp only[aG] at h2;have:=hE.prd _ h1;rw[aF h2.1,eNats_eq h2.2] at this;rw[terms_ok hs ht];exact this
    ·cases h
   ·cases h
 ·rename_i x A;split at h
  ·rename_i t t' h1 h2;have h0:N.i x=((V t').length:Nat):=hs.li _ _ h2;show (0:Int)≤0∧0≤N.i x∧0+N.i x≤((N.a A).length:Nat);rw[hs.la _ _ h1,h0,aF h];omega
  ·cases h
 ·rename_i x A;split at h
  ·rename_i t t' h1 h2;have h0:N.i x=((V t').length:Nat):=hs.li _ _ h2;show N.i x=((N.a A).length:Nat);rw[hs.la _ _ h1,h0,aF h]
  ·cases h
 ·rename_i x;show (0:Int)≤N.i x;split at h
  ·rename_i t hg;have h0:N.i x=((V t).length:Nat):=hs.li _ _ hg;omega
  ·rename_i hg;have h0:N.i x=(((V 1).length+(V 2).length:Nat):Int):=hs.li _ _ hg;omega
  ·cases h
 ·rename_i x K;split at h
  ·rename_i g hg;split at h
   ·rename_i lo hi hb;obtain ⟨n,hn,h1,h2⟩:=bnd_ok hE (hs.li _ _ hg) hb;have:=aM h;show N.i x≤Int.ofNat K;rw[hn];show (n:Int)≤K;omega
   ·cases h
  ·cases h
 ·rename_i x;split at h
  ·rename_i g hg;split at h
   ·rename_i lo hi hb;obtain ⟨n,hn,h1,h2⟩:=bnd_ok hE (hs.li _ _ hg) hb;have:=aM h;show (0:Int)<N.i x;omega
   ·cases h
  ·cases h
 ·rename_i x;split at h
  ·rename_i g hg;split at h
   ·rename_i lo hi hb;obtain ⟨n,hn,h1,h2⟩:=bnd_ok hE (hs.li _ _ hg) hb;have:=aF h;show N.i x=0;omega
   ·cases h
  ·cases h
 ·cases h
theorem kB_ok (hE:e.ok V F)(hf:N.f=F){s:Sk}(hs:s.ok N V){ds:List Df}{os:List Ob}(hd:∀d∈ds,d.sat N)(h:kB e s ds os=true):∀o∈os,o.holds N:=fun o ho =>
 kOb_ok hE hf (kGo_ok hE hf (fun d hm=>hd d (eP.1 hm)) hs) (bT.1 h o ho)
end
def sl8:Pa:= .sl .u8 false none
def ct3 (a b:Pa):Ct:={ps:=[fe false,a,b,.agg .u8 24,.agg .u8 32,.agg .u8 32],sel:=some [1,2,3,4,5],glp:=some 0,res:=[.kst (.bool true)],p:=300,fi:=0,fw:=0,fs:=0}
def tab3 (c5 c12:List Ct):List (FuncId×List Ct):=[(5,[ct5p]),(6,c5),(9,[S.ct8f,S.ct8 sl8 sl8 sl8,S.ct8 sl8 (.kst S.nilV) sl8,S.ct8 sl8 sl8 .emp,S.ct8 .emp (.kst S.nilV) .emp]),(10,[S.ct9]),(35,[ct35]),(36,c12)]
def tabK:Nat→List (FuncId×List Ct)
 | 0 | 1=>tab3 [S.ct5s,S.ct5e] [S.ct12f,S.ct12e]
 | 2=>tab3 [S.ct5z] [S.ct12f]
 | 3=>tab3 [S.ct5z] [S.ct12n0,S.ct12g0]
 | 4=>tab3 [S.ct5] [S.ct12f]
 | 5=>tab3 [S.ct5] [S.ct12n,S.ct12g]
 | _=>[]
def P300 (_:List Int)(ls:List (List Int)):Prop :=
 match ls with
 | g::r=>g=[1,0,0,0,0]∧∀l∈r,Bytes l
 | _=>False
structure F3 (F:Fns):Prop where
 x:F35 F
 s:S.F8 F
 p300:F.p 300=P300
section
variable {F:Fns}
theorem two {P:Ct→Prop}{a b:Ct}(ha:P a)(hb:P b):∀c∈[a,b],P c:=by simp only[aC];exact ⟨ha,hb,nofun⟩
theorem one1 {P:Ct→Prop}{a:Ct}(ha:P a):∀c∈[a],P c:=by simp only[aC];exact ⟨ha,nofun⟩
theorem tab3_ok (hF:F3 F){c5 c12:List Ct}(h5:∀c∈c5,CSpec Tryz.prog F 6 c)(h12:∀c∈c12,CSpec Tryz.prog F 36 c):TabOk F (tab3 c5 c12):=by
 refine ⟨⟨by kernel_rfl,one1 (spec5p hF.x)⟩,⟨by kernel_rfl,h5⟩,⟨by kernel_rfl,?_⟩,⟨by kernel_rfl,one1 (S.spec9 hF.s)⟩,⟨by kernel_rfl,one1 (spec35 hF.x)⟩,⟨by kernel_rfl,h12⟩,trivial⟩;simp only[aC];exact ⟨S.spec8f hF.s,S.spec8a hF.s,S.spec8b hF.s,S.spec8c hF.s,S.spec8d hF.s,nofun⟩
theorem tabK_ok (hF:F3 F):∀k,TabOk F (tabK k)
 | 0 | 1=>tab3_ok hF (two (S.spec5s hF.s.toF5) (S.spec5e hF.s.toF5)) (two (S.spec12f hF.s.toF12) (S.spec12e hF.s.toF12))
 | 2=>tab3_ok hF (one1 (S.spec5z hF.s.toF5)) (one1 (S.spec12f hF.s.toF12))
 | 3=>tab3_ok hF (one1 (S.spec5z hF.s.toF5)) (two (S.spec12n0 hF.s.toF12) (S.spec12g0 hF.s.toF12))
 | 4=>tab3_ok hF (one1 (S.spec5 hF.s.toF5)) (one1 (S.spec12f hF.s.toF12))
 | 5=>tab3_ok hF (one1 (S.spec5 hF.s.toF5)) (two (S.spec12n hF.s.toF12) (S.spec12g hF.s.toF12))
 | _+6=>trivial
end
abbrev nl:List Int:=[]
noncomputable def Vl (ahead box nonce pb pv g:List Int)(t:Nat):List Int :=
 [nl,ahead,box,nonce,pb,pv,g,shr pb pv,S.msgL box nonce (shr pb pv),ahead++S.msgL box nonce (shr pb pv),z32].getD t []
def prdK:Nat→List (Nat×List Nat)
 | 0=>[(52,[2,3,7]),(120,[0,3,7])]
 | 1=>[(52,[2,3,7]),(120,[2,3,7])]
 | 2=>[(51,[2,3,7]),(120,[2,3,7])]
 | 3=>[(51,[2,3,7]),(122,[2,3,7]),(122,[0,2,3,7]),(122,[1,2,3,7]),(8,[0,0]),(8,[9,1,0]),(8,[8,1,0])]
 | 4=>[(5,[2,3,7]),(120,[2,3,7])]
 | 5=>[(5,[2,3,7]),(121,[2,3,7]),(121,[0,2,3,7]),(121,[1,2,3,7]),(8,[8,8]),(8,[9,1,8]),(8,[8,1,8])]
 | _=>[]
def fiK (e:Bool):Nat→List (Nat×List Nat×Nat)
 | 2 | 4=>[(5,[2,3,7],0)]
 | 3=>[(5,[2,3,7],1),(8,[0,0],1),(8,[9,1,0],1)]++bif e then [(8,[8,1,0],1)] else []
 | 5=>[(5,[2,3,7],1),(8,[8,8],1),(8,[9,1,8],1)]++bif e then [(8,[8,1,8],1)] else []
 | _=>[]
def faK:Nat→List (Nat×List Nat×Nat)
 | 3=>[(12,[2,3,7],8),(12,[0,2,3,7],8),(12,[1,2,3,7],9)]
 | 4=>[(5,[2,3,7],8)]
 | 5=>[(5,[2,3,7],8),(12,[2,3,7],8),(12,[0,2,3,7],8),(12,[1,2,3,7],9)]
 | _=>[]
def lenK (alo ahi blo bhi:Nat):List (Nat×Nat×Nat):=[(1,alo,ahi),(2,blo,bhi),(3,24,24),(4,32,32),(5,32,32),(6,5,5),(7,32,32)]
def envK (k:Nat)(e:Bool)(alo ahi blo bhi slo shi:Nat):En :=
 {len:=lenK alo ahi blo bhi,sum:=(slo,shi),prd:=(500,[4,5])::(350,[6,10,4,5])::prdK k,fi:=(9,[],1)::fiK e k,row:=[(500,[4,5],7)],fa:=(350,[6,10,4,5],7)::faK k}
def KOk (k:Nat)(box nonce key:List Int):Prop :=
 match k with
 | 0=>box=[]
 | 1=>box.length<16
 | 2=>box.length=16∧S.tagOf box nonce key≠box.take 16
 | 3=>box.length=16∧S.tagOf box nonce key=box.take 16
 | 4=>16<box.length∧S.tagOf box nonce key≠box.take 16
 | 5=>16<box.length∧S.tagOf box nonce key=box.take 16
 | _=>True
theorem msgL_bytes {box nonce key:List Int}:Bytes (S.msgL box nonce key):=by
 intro x hx;unfold S.msgL at hx;rcases cX.1 hx with h | h
 ·obtain ⟨i,_,rfl⟩:=dC.1 h;unfold iop;simp only[IntKind.wrap_u8];omega
 ·exact S.xorL_bytes _ _ _ x h
theorem okL {A:List Int}(hA:Bytes A)(h:A.length≤8192):Bytes A∧A.length≤1099511627776:=⟨hA,by omega⟩
theorem app_bytes {A B:List Int}(hA:Bytes A)(hB:Bytes B):Bytes (A++B):=fun x hx=>by
 rcases cX.1 hx with h | h
 ·exact hA x h
 ·exact hB x h
section
variable {F:Fns} {ahead box nonce pb pv g:List Int}
theorem prdK_ok (hF:F3 F)(hA:Bytes ahead)(hB:Bytes box){k:Nat}(hk:KOk k box nonce (shr pb pv))(hl:k<6→ahead.length+box.length≤2048):∀q∈prdK k,F.p q.1 [] (q.2.map (Vl ahead box nonce pb pv g)):=by
 have ml:(S.msgL box nonce (shr pb pv)).length=box.length-16:=S.msgL_length _ _ _;have mb:Bytes (S.msgL box nonce (shr pb pv)):=msgL_bytes;have n0:Bytes nl:=nofun
 match k,hk,hl with
 | 0,hk,hl =>simp only[prdK,aC];rw[hF.s.p52,hF.s.p120];obtain rfl:box=[]:=hk;exact ⟨show (0:Nat)<16 by decide,⟨nofun,dK _,fun h=>absurd (show 16≤0 from h.1) (by decide)⟩,nofun⟩
 | 1,hk,hl =>simp only[prdK,aC];rw[hF.s.p52,hF.s.p120];have hk:box.length<16:=hk;exact ⟨hk,⟨hB,show box.length≤8192 by omega,fun h=>absurd (show 16≤box.length from h.1) (by omega)⟩,nofun⟩
 | 2,hk,hl =>simp only[prdK,aC];rw[hF.s.p51,hF.s.p120];obtain ⟨h1,h2⟩:_∧_:=hk;exact ⟨⟨hB,h1⟩,⟨hB,show box.length≤8192 by omega,fun h=>h2 h.2⟩,nofun⟩
 | 3,hk,hl =>
  simp only[prdK,aC];rw[hF.s.p51,hF.s.p122,hF.s.p8];obtain ⟨h1,h2⟩:_∧_:=hk;have hl:=hl (by decide);have ob:S.okBox box nonce (shr pb pv):=⟨hB,by omega,h2⟩
  refine ⟨⟨hB,h1⟩,⟨ob,h1⟩,⟨dK _,ob,h1⟩,⟨by show ahead.length≤_;omega,ob,h1⟩,?_,?_,?_,nofun⟩
  ·show ∀l∈[nl,nl],_;simp only[aC];exact ⟨okL n0 (by decide),okL n0 (by decide),nofun⟩
  ·show ∀l∈[ahead++S.msgL box nonce (shr pb pv),ahead,nl],_;simp only[aC];exact ⟨okL (app_bytes hA mb) (by rw[aO];omega),okL hA (by omega),okL n0 (by decide),nofun⟩
  ·show ∀l∈[S.msgL box nonce (shr pb pv),ahead,nl],_;simp only[aC];exact ⟨okL mb (by omega),okL hA (by omega),okL n0 (by decide),nofun⟩
 | 4,hk,hl =>simp only[prdK,aC];rw[hF.s.p5,hF.s.p120];obtain ⟨h1,h2⟩:_∧_:=hk;have hl:=hl (by decide);exact ⟨⟨hB,h1,show box.length≤4096 by omega⟩,⟨hB,show box.length≤8192 by omega,fun h=>h2 h.2⟩,nofun⟩
 | 5,hk,hl =>
  simp only[prdK,aC];rw[hF.s.p5,hF.s.p121,hF.s.p8];obtain ⟨h1,h2⟩:_∧_:=hk;have hl:=hl (by decide);have ob:S.okBox box nonce (shr pb pv):=⟨hB,by omega,h2⟩
  refine ⟨⟨hB,h1,show box.length≤4096 by omega⟩,⟨ob,h1⟩,⟨dK _,ob,h1⟩,⟨by show ahead.length≤_;omega,ob,h1⟩,?_,?_,?_,nofun⟩
  ·show ∀l∈[S.msgL box nonce (shr pb pv),S.msgL box nonce (shr pb pv)],_;simp only[aC];exact ⟨okL mb (by omega),okL mb (by omega),nofun⟩
  ·show ∀l∈[ahead++S.msgL box nonce (shr pb pv),ahead,S.msgL box nonce (shr pb pv)],_;simp only[aC];exact ⟨okL (app_bytes hA mb) (by rw[aO];omega),okL hA (by omega),okL mb (by omega),nofun⟩
  ·show ∀l∈[S.msgL box nonce (shr pb pv),ahead,S.msgL box nonce (shr pb pv)],_;simp only[aC];exact ⟨okL mb (by omega),okL hA (by omega),okL mb (by omega),nofun⟩
 | _+6,_,_=>exact nofun
theorem fiK_ok (hF:F3 F){k:Nat}{e:Bool}(hk:KOk k box nonce (shr pb pv))(he:e=true→ahead=[]):∀q∈fiK e k,F.i q.1 [] (q.2.1.map (Vl ahead box nonce pb pv g)) 0=(q.2.2:Nat):=by
 have ml:(S.msgL box nonce (shr pb pv)).length=box.length-16:=S.msgL_length _ _ _
 match k,hk with
 | 0,_=>exact nofun
 | 1,_=>exact nofun
 | 2,hk =>simp only[fiK,aC];rw[hF.s.i5];obtain ⟨h1,h2⟩:_∧_:=hk;exact ⟨bC h2,nofun⟩
 | 4,hk =>simp only[fiK,aC];rw[hF.s.i5];obtain ⟨h1,h2⟩:_∧_:=hk;exact ⟨bC h2,nofun⟩
 | 3,hk =>
  obtain ⟨h1,h2⟩:_∧_:=hk;have m0:S.msgL box nonce (shr pb pv)=[]:=cI.1 (by omega);cases e with
  | false =>simp only[fiK,aQ,bJ,aC];rw[hF.s.i5,hF.s.i8];exact ⟨bG h2,show (if nl=nl then (1:Int) else 0)=1 from bG rfl,bG (show ahead++S.msgL box nonce (shr pb pv)=ahead++[] by rw[m0]),nofun⟩
  | true =>obtain rfl:=he rfl;simp only[fiK,aH,cT,cC,aC];rw[hF.s.i5,hF.s.i8];exact ⟨bG h2,show (if nl=nl then (1:Int) else 0)=1 from bG rfl,bG (show []++S.msgL box nonce (shr pb pv)=[]++[] by rw[m0]),bG (show S.msgL box nonce (shr pb pv)=[]++[] by rw[m0];rfl),nofun⟩
 | 5,hk =>
  obtain ⟨h1,h2⟩:_∧_:=hk;cases e with
  | false =>simp only[fiK,aQ,bJ,aC];rw[hF.s.i5,hF.s.i8];exact ⟨bG h2,bG rfl,bG rfl,nofun⟩
  | true =>obtain rfl:=he rfl;simp only[fiK,aH,cT,cC,aC];rw[hF.s.i5,hF.s.i8];exact ⟨bG h2,bG rfl,bG rfl,bG rfl,nofun⟩
 | _+6,_=>exact nofun
theorem faK_ok (hF:F3 F):∀k,∀q∈faK k,F.a q.1 [] (q.2.1.map (Vl ahead box nonce pb pv g))=Vl ahead box nonce pb pv g q.2.2
 | 0=>nofun
 | 1=>nofun
 | 2=>nofun
 | 3=>by simp only[faK,aC];rw[hF.s.a12];exact ⟨rfl,rfl,rfl,nofun⟩
 | 4=>by simp only[faK,aC];rw[hF.s.a5];exact ⟨rfl,nofun⟩
 | 5=>by simp only[faK,aC];rw[hF.s.a5,hF.s.a12];exact ⟨rfl,rfl,rfl,rfl,nofun⟩
 | _+6=>nofun
theorem envK_ok (hF:F3 F)(hg:g=[1,0,0,0,0])(hA:Bytes ahead)(hB:Bytes box)(hpb:Bytes pb)(hpv:Bytes pv)(ln:nonce.length=24)(lp:pb.length=32)(lv:pv.length=32)
 {k:Nat} {e:Bool} {alo ahi blo bhi slo shi:Nat} (hk:KOk k box nonce (shr pb pv)) (hl:k<6→ahead.length+box.length≤2048) (he:e=true→ahead=[])
 (ha:alo≤ahead.length∧ahead.length≤ahi) (hb:blo≤box.length∧box.length≤bhi) (hs:slo≤ahead.length+box.length∧ahead.length+box.length≤shi) :
 (envK k e alo ahi blo bhi slo shi).ok (Vl ahead box nonce pb pv g) F:=by
 have ls:(shr pb pv).length=32:=S.hsaL_length _;refine ⟨?_,hs,?_,?_,?_,?_,hF.s.p123,rfl,rfl⟩
 ·show ∀q∈lenK alo ahi blo bhi,_;simp only[lenK,aC];exact ⟨ha,hb,⟨by show _≤nonce.length;omega,by show nonce.length≤_;omega⟩,⟨by show _≤pb.length;omega,by show pb.length≤_;omega⟩,⟨by show _≤pv.length;omega,by show pv.length≤_;omega⟩,
   ⟨by show _≤g.length;rw[hg];decide,by show g.length≤_;rw[hg];decide⟩,⟨by show _≤(shr pb pv).length;omega,by show (shr pb pv).length≤_;omega⟩,nofun⟩
 ·show ∀q∈(500,[4,5])::(350,[6,10,4,5])::prdK k,_;simp only[aC];refine ⟨?_,?_,prdK_ok hF hA hB hk hl⟩;·rw [hF.x.p500];exact ⟨hpb,hpv⟩
  ·rw [hF.x.p350];exact ⟨hg,hpb,hpv⟩
 ·show ∀q∈(9,[],1)::fiK e k,_;simp only[aC];exact ⟨by rw[hF.s.i9];rfl,fiK_ok hF hk he⟩
 ·show ∀q∈[(500,[4,5],7)],_;simp only[aC];exact ⟨fun j=>by rw[hF.x.i500];rfl,nofun⟩
 ·show ∀q∈(350,[6,10,4,5],7)::faK k,_;simp only[aC];exact ⟨by rw[hF.x.a350];rfl,faK_ok hF k⟩
end
def rowT (x t:Nat):Nat→Tr Tg→Tr Tg
 | 0,T=>T
 | n+1,T=>(rowT x t n T).set (x+n) (.row t n)
theorem rowT_get {x t y:Nat}{T:Tr Tg}{a:Tg}:∀ {n:Nat},(rowT x t n T).get y=some a→(∃ j,j<n∧y=x+j∧a= .row t j)∨T.get y=some a
 | 0,h=> .inr h
 | n+1,h=>by
  simp only[rowT,fA] at h;by_cases hy:y=x+n
  ·rw [bG hy] at h;simp only[aA] at h;exact .inl ⟨n,Nat.lt_succ_self n,hy,h.symm⟩
  ·rw [bC hy] at h;rcases rowT_get h with ⟨j,h1,h2,h3⟩ | h
   ·exact .inl ⟨j,by omega,h2,h3⟩
   ·exact .inr h
def lensT:Nat→List Nat→Tr Tg→Tr Tg
 | _,[],T=>T
 | x,t::l,T=>(lensT (x+1) l T).set x (.len t)
def lsT:Nat→List Nat→Tr Nat
 | _,[]=> .nil
 | A,t::l=>(lsT (A+1) l).set A t
def s3 (xs:List Nat):Sk:=⟨lsT 0 xs,rowT 0 6 5 (rowT (5+xs.length) 3 24 (rowT (29+xs.length) 4 32 (rowT (61+xs.length) 5 32 (lensT 5 xs .nil))))⟩
theorem lensT_get {V:Nat→List Int}{N:Num}{y:Nat}{a:Tg}:∀ {xs:List Nat} {x:Nat},(∀ j (h:j<xs.length),N.i (x+j)=((V xs[j]).length:Nat))→(lensT x xs .nil).get y=some a→a.ok N V y
 | [],x,_,h=>by cases h
 | t::l,x,hN,h=>by
  simp only[lensT,fA] at h;by_cases hy:y=x
  ·rw [bG hy] at h;simp only[aA] at h;subst h;subst hy;exact hN 0 (Nat.zero_lt_succ _)
  ·rw [bC hy] at h;refine lensT_get (x:=x+1) (fun j hj=> ?_) h;have:=hN (j+1) (Nat.succ_lt_succ hj);rw[show x+1+j=x+(j+1) by omega];exact this
theorem lsT_get {V:Nat→List Int}{N:Num}{B t':Nat}:∀ {xs:List Nat} {A:Nat},(∀ j (h:j<xs.length),N.a (A+j)=V xs[j])→(lsT A xs).get B=some t'→N.a B=V t'
 | [],A,_,h=>by cases h
 | t::l,A,hN,h=>by
  simp only[lsT,fA] at h;by_cases hy:B=A
  ·rw [bG hy] at h;simp only[aA] at h;subst h;subst hy;exact hN 0 (Nat.zero_lt_succ _)
  ·rw [bC hy] at h;refine lsT_get (A:=A+1) (fun j hj=> ?_) h;have:=hN (j+1) (Nat.succ_lt_succ hj);rw[show A+1+j=A+(j+1) by omega];exact this
theorem s3_ok {V:Nat→List Int}{N:Num}{xs:List Nat}(hl:∀A (h:A<xs.length),N.a A=V xs[A])
 (hn:∀x,x<93+xs.length→N.i x=(V 6++((xs.map fun t=>((V t).length:Int))++(V 3++(V 4++V 5)))).getD x 0) (h6:(V 6).length=5) (h3:(V 3).length=24) (h4:(V 4).length=32) (_h5:(V 5).length=32):(s3 xs).ok N V:=by
 have lx:(xs.map fun t=>((V t).length:Int)).length=xs.length:=bF _;have r6:∀j,j<5→N.i (0+j)=(V 6).getD j 0:=fun j hj=>by rw[bM,hn j (by omega),aE,bQ (by omega),aE]
 have rx:∀j (h:j<xs.length),N.i (5+j)=((V xs[j]).length:Nat):=fun j hj=>by rw[hn _ (by omega),aE,aP (by omega),h6,bR,bQ (by omega),bP,aU hj];rfl
 have r3:∀j,j<24→N.i (5+xs.length+j)=(V 3).getD j 0:=fun j hj=>by rw[hn _ (by omega),aE,aP (by omega),h6,aP (by omega),lx,bQ (by omega),aE];congr 2;omega
 have r4:∀j,j<32→N.i (29+xs.length+j)=(V 4).getD j 0:=fun j hj=>by rw[hn _ (by omega),aE,aP (by omega),h6,aP (by omega),lx,aP (by omega),h3,bQ (by omega),aE];congr 2;omega
 have r5:∀j,j<32→N.i (61+xs.length+j)=(V 5).getD j 0:=fun j hj=>by rw[hn _ (by omega),aE,aP (by omega),h6,aP (by omega),lx,aP (by omega),h3,aP (by omega),h4,aE];congr 2;omega
 refine ⟨fun A t h=>lsT_get (fun j hj=>by rw[bM];exact hl j hj) h,fun y a h=> ?_⟩;rcases rowT_get h with ⟨j,hj,rfl,rfl⟩ | h
 ·exact r6 j hj
 rcases rowT_get h with ⟨j,hj,rfl,rfl⟩ | h
 ·exact r3 j hj
 rcases rowT_get h with ⟨j,hj,rfl,rfl⟩ | h
 ·exact r4 j hj
 rcases rowT_get h with ⟨j,hj,rfl,rfl⟩ | h
 ·exact r5 j hj
 ·exact lensT_get rx h
def okC (r:RE3)(e:En)(s:Sk):Bool :=
 match r with
 | some (⟨[],none,none⟩,ds,os)=>kB e s ds os
 | _=>false
theorem okC_ok {r:RE3}{e:En}{s:Sk}(h:okC r e s=true):r=some (⟨[],none,none⟩,dE r,oE r)∧kB e s (dE r) (oE r)=true:=by
 unfold okC at h;split at h;·exact ⟨rfl,h⟩
 ·cases h
def pa (t:Bool):Pa:=bif t then sl8 else .kst S.nilV
def ct3c (a b:Bool):Ct:=ct3 (pa a) (pa b)
def xs3 (a b:Bool):List Nat:=(bif a then [1] else [])++bif b then [2] else []
def oneB (t b:Bool):List Bool:=bif t then [b] else []
def orc3 (a b:Bool)(k:Nat)(e:Bool):List Bool :=
 (fun cl:List Bool=>oneB a false++(oneB b false++(oneB a false++(oneB (a||b) false++((match k with | 2 | 4=>[false] | 3 | 5=>[true] | _=>[])++(cl++(cl++((match k with | 3 | 5=>[true,true] | _=>[])++[true])))))))) (oneB a e++oneB b (Nat.beq k 0))
def aB (e:Bool):Nat×Nat:=bif e then (0,0) else (1,2048)
def bB:Nat→Nat×Nat
 | 0=>(0,0) | 1=>(1,15) | 2=>(16,16) | 3=>(16,16) | 4=>(17,2048) | 5=>(17,2048) | _=>(0,0)
def envC (k:Nat)(e:Bool):En:=envK k e (aB e).1 (aB e).2 (bB k).1 (bB k).2 0 2048
noncomputable def okK (a b:Bool)(k:Nat)(e:Bool):Bool:=okC (runE (ct3c a b) Tryz.f3 (callT (tabK k)) (orc3 a b k e)) (envC k e) (s3 (xs3 a b))
theorem okff:okK false false 0 true=true:=by kernel_rfl
theorem okft0:okK false true 0 true=true:=by kernel_rfl
theorem okft1:okK false true 1 true=true:=by kernel_rfl
theorem okft2:okK false true 2 true=true:=by kernel_rfl
theorem okft3:okK false true 3 true=true:=by kernel_rfl
theorem okft4:okK false true 4 true=true:=by kernel_rfl
theorem okft5:okK false true 5 true=true:=by kernel_rfl
theorem oktft:okK true false 0 true=true:=by kernel_rfl
theorem oktff:okK true false 0 false=true:=by kernel_rfl
theorem oktt0t:okK true true 0 true=true:=by kernel_rfl
theorem oktt1t:okK true true 1 true=true:=by kernel_rfl
theorem oktt2t:okK true true 2 true=true:=by kernel_rfl
theorem oktt3t:okK true true 3 true=true:=by kernel_rfl
theorem oktt4t:okK true true 4 true=true:=by kernel_rfl
theorem oktt5t:okK true true 5 true=true:=by kernel_rfl
theorem oktt0f:okK true true 0 false=true:=by kernel_rfl
theorem oktt1f:okK true true 1 false=true:=by kernel_rfl
theorem oktt2f:okK true true 2 false=true:=by kernel_rfl
theorem oktt3f:okK true true 3 false=true:=by kernel_rfl
theorem oktt4f:okK true true 4 false=true:=by kernel_rfl
theorem oktt5f:okK true true 5 false=true:=by kernel_rfl
theorem okK_all:∀(a b:Bool) (k:Nat) (e:Bool),k<6→(b=false→k=0)→(a=false→e=true)→okK a b k e=true
 | false,false,k,e,_,h,h'=>by rw[h rfl,h' rfl];exact okff
 | true,false,k,e,_,h,_=>by rw[h rfl];cases e;exact oktff;exact oktft
 | false,true,k,e,hk,_,h'=>by
  rw[h' rfl]
  match k,hk with
  | 0,_=>exact okft0
  | 1,_=>exact okft1
  | 2,_=>exact okft2
  | 3,_=>exact okft3
  | 4,_=>exact okft4
  | 5,_=>exact okft5
 | true,true,k,e,hk,_,_=>by
  cases e
  ·match k,hk with
   | 0,_=>exact oktt0f
   | 1,_=>exact oktt1f
   | 2,_=>exact oktt2f
   | 3,_=>exact oktt3f
   | 4,_=>exact oktt4f
   | 5,_=>exact oktt5f
  ·match k,hk with
   | 0,_=>exact oktt0t
   | 1,_=>exact oktt1t
   | 2,_=>exact oktt2t
   | 3,_=>exact oktt3t
   | 4,_=>exact oktt4t
   | 5,_=>exact oktt5t
theorem bigA1 (b:Bool)(hi bl bh sl sh:Nat):okC (runE (ct3c true b) Tryz.f3 (callT (tabK 6)) [true]) (envK 6 false 2147483648 hi bl bh sl sh) (s3 (xs3 true b))=true:=by cases b <;> kernel_rfl
theorem bigB1 (bl bh sl sh:Nat):okC (runE (ct3c true false) Tryz.f3 (callT (tabK 6)) [false,true]) (envK 6 false 2049 2147483647 bl bh sl sh) (s3 (xs3 true false))=true:=by kernel_rfl
theorem bigA2 (al ah hi sl sh:Nat):okC (runE (ct3c false true) Tryz.f3 (callT (tabK 6)) [true]) (envK 6 false al ah 2147483648 hi sl sh) (s3 (xs3 false true))=true:=by kernel_rfl
theorem bigB2 (al ah sl sh:Nat):okC (runE (ct3c false true) Tryz.f3 (callT (tabK 6)) [false,true]) (envK 6 false al ah 2049 2147483647 sl sh) (s3 (xs3 false true))=true:=by kernel_rfl
theorem bigC2 (hi sl sh:Nat):okC (runE (ct3c true true) Tryz.f3 (callT (tabK 6)) [false,true]) (envK 6 false 0 2147483647 2147483648 hi sl sh) (s3 (xs3 true true))=true:=by kernel_rfl
theorem bigD (sl sh:Nat):okC (runE (ct3c true true) Tryz.f3 (callT (tabK 6)) [false,false,true]) (envK 6 false 2049 2147483647 0 2147483647 sl sh) (s3 (xs3 true true))=true:=by kernel_rfl
theorem bigE:okC (runE (ct3c true true) Tryz.f3 (callT (tabK 6)) [false,false,false,true]) (envK 6 false 0 2048 0 2147483647 2049 4294967296) (s3 (xs3 true true))=true:=by kernel_rfl
def oneL' (t:Bool)(l:List Int):List (List Int):=bif t then [l] else []
theorem shape3 {a b:Bool}{is:List Int}{ls:List (List Int)}(h:Shape (ct3c a b).ps is ls)(hp:P300 is ls):∃g ahead box nonce pb pv,is=[]∧ls=g::(oneL' a ahead++(oneL' b box++[nonce,pb,pv]))∧g=[1,0,0,0,0]∧(nonce.length=24∧pb.length=32∧pv.length=32) ∧
 (Bytes ahead∧Bytes box∧Bytes pb∧Bytes pv)∧(a=false→ahead=[])∧(b=false→box=[]):=by
 have n0:Bytes nl:=nofun;cases a <;> cases b
 ·obtain rfl:=eV rfl h
  match ls,h,hp with
  | [g,nonce,pb,pv],h,hp =>obtain ⟨hg,hb⟩:=hp;simp only[aC] at hb;exact ⟨g,[],[],nonce,pb,pv,rfl,rfl,hg,⟨h.2.1,h.2.2.1,h.2.2.2.1⟩,⟨n0,n0,hb.2.1,hb.2.2.1⟩,fun _=>rfl,fun _=>rfl⟩
 ·obtain rfl:=eV rfl h
  match ls,h,hp with
  | [g,box,nonce,pb,pv],h,hp =>obtain ⟨hg,hb⟩:=hp;simp only[aC] at hb;exact ⟨g,[],box,nonce,pb,pv,rfl,rfl,hg,⟨h.2.1,h.2.2.1,h.2.2.2.1⟩,⟨n0,hb.1,hb.2.2.1,hb.2.2.2.1⟩,fun _=>rfl,nofun⟩
 ·obtain rfl:=eV rfl h
  match ls,h,hp with
  | [g,ahead,nonce,pb,pv],h,hp =>obtain ⟨hg,hb⟩:=hp;simp only[aC] at hb;exact ⟨g,ahead,[],nonce,pb,pv,rfl,rfl,hg,⟨h.2.1,h.2.2.1,h.2.2.2.1⟩,⟨hb.1,n0,hb.2.2.1,hb.2.2.2.1⟩,nofun,fun _=>rfl⟩
 ·obtain rfl:=eV rfl h
  match ls,h,hp with
  | [g,ahead,box,nonce,pb,pv],h,hp =>obtain ⟨hg,hb⟩:=hp;simp only[aC] at hb;exact ⟨g,ahead,box,nonce,pb,pv,rfl,rfl,hg,⟨h.2.1,h.2.2.1,h.2.2.2.1⟩,⟨hb.1,hb.2.1,hb.2.2.2.1,hb.2.2.2.2.1⟩,nofun,nofun⟩
section
variable {F:Fns} {a b:Bool}
theorem rw3 {is:List Int}{ls:List (List Int)}:∀L,rwArg (ct3c a b).ps is ls=some L→False:=by
 have key:∀ {q:List Pa} {is:List Int} {ls:List (List Int)},(q.all fun p=>match p with | .ptr _ _ false=>true | .sl _ false _=>true | .kst _=>true | .agg _ _=>true | _=>false)=true→∀L,rwArg q is ls=some L→False:=by
  intro q
  induction q with
  | nil=>intro is ls _ L h;cases h
  | cons p q ih =>
   intro is ls hq L h;rw[List.all_cons,aG] at hq;cases p with
   | ptr k n r =>
    cases r with
    | true=>exact Bool.noConfusion (show false=true from hq.1)
    | false =>
     cases ls with
     | nil=>cases h
     | cons l ls=>exact ih hq.2 L h
   | sl k r n =>
    cases r with
    | true=>exact Bool.noConfusion (show false=true from hq.1)
    | false =>
     cases ls with
     | nil=>cases h
     | cons l ls=>exact ih hq.2 L h
   | agg k n =>
    cases ls with
    | nil=>cases h
    | cons l ls=>exact ih hq.2 L h
   | kst v=>exact ih hq.2 L h
   | _=>exact Bool.noConfusion (show false=true from hq.1)
 exact key (by cases a <;> cases b <;> rfl)
theorem pat3:patB (trArgs 0 (argsOf (ct3c a b)) (stOf (ct3c a b)).gl) (stOf (ct3c a b))=true:=by cases a <;> cases b <;> kernel_rfl
theorem in3 {g ahead box nonce pb pv:List Int}{N:Num}(hag:Agr (stOf (ct3c a b)).nx (stOf (ct3c a b)).na (num0 F (ct3c a b).ps [] (g::(oneL' a ahead++(oneL' b box++[nonce,pb,pv])))) N)(hg:g.length=5)(ln:nonce.length=24)(lp:pb.length=32)(lv:pv.length=32) :
 (s3 (xs3 a b)).ok N (Vl ahead box nonce pb pv g):=by
 refine s3_ok (fun A h=> ?_) (fun x hx=> ?_) hg ln lp lv
 ·cases a <;> cases b;·exact absurd h (by show ¬A<0;omega)
  ·have h:A<1:=h;obtain rfl:A=0:=by omega
   exact hag.a 0 (by show 0<1;decide)
  ·have h:A<1:=h;obtain rfl:A=0:=by omega
   exact hag.a 0 (by show 0<1;decide)
  ·have h:A<2:=h
   match A,h with
   | 0,_=>exact hag.a 0 (by show 0<2;decide)
   | 1,_=>exact hag.a 1 (by show 1<2;decide)
 ·rw [hag.i x (dN hx (by cases a <;> cases b <;> decide))];show (numsL _ [] _).getD x 0=_;congr 1;cases a <;> cases b <;> simp only[ct3c,ct3,pa,fe,sl8,oneL',xs3,numsL,aH,aQ,cC,cT,bJ,aI,aK] <;> rfl
theorem spec3 (hF:F3 F)(a b:Bool):CSpec Tryz.prog F 3 (ct3c a b):=by
 refine gA (args:=argsOf (ct3c a b)) (σe:=stOf (ct3c a b)) rfl Tryz.func3 (fM (by kernel_rfl)) (by cases a <;> cases b <;> kernel_rfl) (by cases a <;> cases b <;> kernel_rfl) (fun is ls ws we Ee ac hs hp hent hat=> ?_) rfl;obtain ⟨g,ahead,box,nonce,pb,pv,rfl,rfl,hg,⟨ln,lp,lv⟩,⟨hA,hB,hpb,hpv⟩,ea,eb⟩:=shape3 hs (by have:F.p 300 _ _:=hp;rwa [hF.p300] at this);have gl:g.length=5:=by rw[hg];rfl
 have fin:∀ {k:Nat} {o:List Bool} {e:En},okC (runE (ct3c a b) Tryz.f3 (callT (tabK k)) o) e (s3 (xs3 a b))=true→e.ok (Vl ahead box nonce pb pv g) F →
  (bodyC Tryz.f3).wp Tryz.prog (wpK Tryz.prog [] (Qend Tryz.prog F Tryz.f3 (ct3c a b) [] (g::(oneL' a ahead++(oneL' b box++[nonce,pb,pv]))) ws we)) ac we:=fun {k o e} h hE=>by
  obtain ⟨h1,h2⟩:=okC_ok h;exact to_end hm (eU (tabK_ok hF k)) h1 pat3 hat hent fun N hag hf hd=>⟨kB_ok hE hf (in3 hag gl ln lp lv) hd h2,⟨nofun,trivial,trivial⟩,fun L hL=>(rw3 L hL).elim⟩
 have big:∀ {alo ahi blo bhi slo shi:Nat},alo≤ahead.length∧ahead.length≤ahi→blo≤box.length∧box.length≤bhi→slo≤ahead.length+box.length∧ahead.length+box.length≤shi→(envK 6 false alo ahi blo bhi slo shi).ok (Vl ahead box nonce pb pv g) F :=
  fun h1 h2 h3=>envK_ok hF hg hA hB hpb hpv ln lp lv trivial (fun h=>absurd h (by decide)) nofun h1 h2 h3
 have self:∀n:Nat,n≤n∧n≤n:=fun n=>⟨aS n,aS n⟩
 by_cases c1:2147483647<ahead.length
 ·cases a with
  | false=>rw[ea rfl] at c1;exact absurd c1 (by decide)
  | true=>exact fin (bigA1 b _ _ _ _ _) (big ⟨c1,aS _⟩ (self _) (self _))
 by_cases c2:2147483647<box.length
 ·cases b with
  | false=>rw[eb rfl] at c2;exact absurd c2 (by decide)
  | true =>
   cases a with
   | false=>exact fin (bigA2 _ _ _ _ _) (big (self _) ⟨c2,aS _⟩ (self _))
   | true=>exact fin (bigC2 _ _ _) (big ⟨dK _,by omega⟩ ⟨c2,aS _⟩ (self _))
 by_cases c3:2048<ahead.length
 ·cases a with
  | false=>rw[ea rfl] at c3;exact absurd c3 (by decide)
  | true =>
   cases b with
   | false=>exact fin (bigB1 _ _ _ _) (big ⟨c3,by omega⟩ (self _) (self _))
   | true=>exact fin (bigD _ _) (big ⟨c3,by omega⟩ ⟨dK _,by omega⟩ (self _))
 by_cases c4:2048<ahead.length+box.length
 ·cases b with
  | false=>rw[eb rfl] at c4;exact absurd c4 (by show ¬2048<ahead.length+0;omega)
  | true =>
   cases a with
   | false =>
    have h0:ahead.length=0:=by rw[ea rfl];rfl
    exact fin (bigB2 _ _ _ _) (big (self _) ⟨by omega,by omega⟩ (self _))
   | true=>exact fin bigE (big ⟨dK _,by omega⟩ ⟨dK _,by omega⟩ ⟨by omega,by omega⟩)
 have main:∀ {k:Nat},k<6→(b=false→k=0)→KOk k box nonce (shr pb pv)→(bB k).1≤box.length∧box.length≤(bB k).2→(bodyC Tryz.f3).wp Tryz.prog (wpK Tryz.prog [] (Qend Tryz.prog F Tryz.f3 (ct3c a b) [] (g::(oneL' a ahead++(oneL' b box++[nonce,pb,pv]))) ws we)) ac we:=fun {k} hk hkb hK hbb=>by
  rcases dU ahead.length with h0 | h0
  ·exact fin (okK_all a b k true hk hkb fun _=>rfl) (envK_ok hF hg hA hB hpb hpv ln lp lv hK (fun _=>by omega) (fun _=>cI.1 h0) ⟨dK _,by show _≤0;omega⟩ hbb ⟨dK _,by omega⟩)
  ·exact fin (okK_all a b k false hk hkb fun h=>by rw[ea h] at h0;exact absurd h0 (by decide)) (envK_ok hF hg hA hB hpb hpv ln lp lv hK (fun _=>by omega) nofun ⟨h0,by show _≤2048;omega⟩ hbb ⟨dK _,by omega⟩)
 have nb:0<box.length→∀ {k:Nat},b=false→k=0:=fun h k hb=>by rw[eb hb] at h;exact absurd h (by decide)
 rcases dU box.length with h0 | h0
 ·exact main (k:=0) (by decide) (fun _=>rfl) (cI.1 h0) ⟨dK _,by show _≤0;omega⟩
 rcases bL box.length 16 with h1 | h1
 ·exact main (k:=1) (by decide) (nb h0) h1 ⟨h0,by show _≤15;omega⟩
 rcases Nat.eq_or_lt_of_le h1 with h2 | h2
 ·by_cases hok:S.tagOf box nonce (shr pb pv)=box.take 16;·exact main (k:=3) (by decide) (nb h0) ⟨h2.symm,hok⟩ ⟨by show 16≤_;omega,by show _≤16;omega⟩
  ·exact main (k:=2) (by decide) (nb h0) ⟨h2.symm,hok⟩ ⟨by show 16≤_;omega,by show _≤16;omega⟩
 ·by_cases hok:S.tagOf box nonce (shr pb pv)=box.take 16;·exact main (k:=5) (by decide) (nb h0) ⟨h2,hok⟩ ⟨by show 17≤_;omega,by show _≤2048;omega⟩
  ·exact main (k:=4) (by decide) (nb h0) ⟨h2,hok⟩ ⟨by show 17≤_;omega,by show _≤2048;omega⟩
end
noncomputable def Fi:Nat→List Int→List (List Int)→Nat→Int
 | 12=>I12 | 27=>I27 | 29=>bin (· * ·) | 38=>bin (· + ·) | 39=>bin (· - ·) | 42=>I42 | 43=>I43 | 57=>I57 | 58=>I58 | 106=>I106 | 590=>I59 | 500=>I500
 | 48=>S.I48 | 53=>S.I53 | 54=>S.I54 | 55=>S.I55 | 23=>S.I23 | 24=>S.I24 | 16=>S.I16 | 25=>S.I25 | 28=>S.I28 | 290=>S.I29 | 18=>S.I18 | 19=>S.I19 | 20=>S.I20 | 5=>S.I5 | 8=>S.I8
 | _=>fun _ _ _=>1
noncomputable def Fa:Nat→List Int→List (List Int)→List Int
 | 64=>W64 | 91=>AM E91 ct91 5 5 | 92=>AM E91a ct91a 0 0 | 100=>AM E100 ct100 5 10 | 101=>AM E100a ct100a 0 5 | 102=>AM E100b ct100b 5 0 | 107=>A107 P107 st107 | 108=>A107 P107a st107 | 490=>W64 | 311=>A311 | 350=>A350
 | 49=>S.A49 | 44=>S.A44 | 50=>S.A50 | 34=>S.A34 | 38=>S.A38 | 31=>S.A31 | 33=>S.A33 | 330=>S.A33s | 24=>S.A24 | 12=>S.A12 | 17=>S.A17 | 11=>S.A11 | 5=>S.A5
 | _=>fun _ _=>[]
noncomputable def Fp:Nat→List Int→List (List Int)→Prop
 | 12=>P12 | 27=>P27 | 38=>P58 | 42=>P42 | 58=>P58 | 64=>P64 | 91=>PM ct91 5 5 | 92=>PM ct91a 0 0 | 100=>PM ct100 5 10 | 101=>PM ct100a 0 5 | 102=>PM ct100b 5 0 | 106=>P106 | 107=>P107 | 108=>P107a
 | 590=>P59 Not | 591=>P59 id | 490=>P49 Not | 491=>P49 id | 492=>P49 fun _=>True | 350=>P350 | 500=>P12 | 300=>P300
 | 48=>S.P48 | 53=>S.P53 | 54=>S.P54 | 55=>S.P55 | 49=>S.P49 | 44=>S.P44 | 50=>S.P50 | 34=>S.P34 | 23=>S.P23 | 33=>S.P33 | 330=>S.P33s | 24=>S.P24 | 240=>S.P24z | 120=>S.P120 | 121=>S.P121 | 122=>S.P122
 | 29=>S.P29 | 17=>S.P17 | 18=>S.P18 | 19=>S.P19 | 20=>S.P20 | 11=>S.P11 | 5=>S.P5 | 51=>S.P51 | 52=>S.P52 | 8=>S.P8
 | 3=>fun _ ls=>match ls with
  | [box,_,_]=>Bytes box
  | [ahead,box,_,_]=>Bytes ahead∧Bytes box
  | [_,_]=>True
  | _=>False
 | _=>fun _ _=>True
noncomputable def FA:Fns:=⟨Fi,Fa,Fp⟩
theorem f42:F42 FA:=⟨rfl,rfl,rfl,rfl⟩
theorem f38:F38 FA:={f42 with p38:=rfl,i38:=rfl,i29:=rfl,i39:=rfl,i57:=rfl}
theorem f27:F27 FA:={f38 with p27:=rfl,i27:=rfl}
theorem f12:F12 FA:={f27 with i43:=rfl,p12:=rfl,i12:=rfl}
theorem f106:F106' FA:=⟨rfl,rfl⟩
theorem f91:F91 FA:={f106 with p100:=rfl,a100:=rfl,p101:=rfl,a101:=rfl,p102:=rfl,a102:=rfl,p91:=rfl,a91:=rfl,p92:=rfl,a92:=rfl}
theorem f107:F107 FA:={f106 with p107:=rfl,a107:=rfl,p108:=rfl,a108:=rfl}
theorem f64:F64 FA:={f91,f107 with p64:=rfl,a64:=rfl}
theorem f59:F59 FA:={f64 with p590:=rfl,p591:=rfl,i590:=rfl,p490:=rfl,p491:=rfl,p492:=rfl,a490:=rfl}
theorem f35:F35 FA:={f59,f12 with p31:=fun _ _=>trivial,a31:=rfl,p311:=fun _ _=>trivial,a311:=rfl,p16:=fun _ _=>trivial,i16:=rfl,p25:=fun _ _=>trivial,i25:=rfl,p350:=rfl,a350:=rfl,p500:=rfl,i500:=rfl}
namespace S
theorem f49:F49 FA:=⟨rfl,rfl,rfl,rfl,rfl,rfl,rfl,rfl,rfl,rfl⟩
theorem f34:F34 FA:={f49 with p44:=rfl,a44:=rfl,p50:=rfl,a50:=rfl,p34:=rfl,a34:=rfl}
theorem f23:F23 FA:={f34 with p23:=rfl,i23:=rfl}
theorem f33:F33 FA:=⟨fun _ _=>trivial,rfl,rfl,rfl⟩
theorem f33s:F33s FA:=⟨rfl,rfl⟩
theorem f24:F24 FA:=⟨rfl,rfl,rfl,rfl⟩
theorem f12:F12 FA:={f23,f33,f33s,f24 with p31:=fun _ _=>trivial,a31:=rfl,p120:=rfl,p121:=rfl,p122:=rfl,a12:=rfl}
theorem fsal:Fsal FA:=⟨fun _ _=>trivial,rfl,fun _ _=>trivial,rfl,rfl,rfl,rfl,rfl⟩
theorem f11:F11 FA:=⟨rfl,rfl,rfl,rfl,rfl,rfl,rfl,rfl⟩
theorem f5:F5 FA:={f12,fsal,f11 with p16:=fun _ _=>trivial,i16:=rfl,p5:=rfl,p51:=rfl,p52:=rfl,p123:=fun _ _=>trivial,i5:=rfl,a5:=rfl}
theorem f8:F8 FA:={f5 with p8:=rfl,i8:=rfl,i9:=rfl,p3:=rfl}
end S
theorem f3:F3 FA:=⟨f35,S.f8,rfl⟩
end Go.Proofs.YtnfikgagkamioaaGreatDoor
