/- laws.told does as its contracts say. -/
import Derived.Test.YtnfikgagkamioaaGreatDoorSa20
namespace Go.Proofs.YtnfikgagkamioaaGreatDoor.S
open Go.Sy
def T11a:Tr SV:=mkT [(0,.one (.sc (.sl 0 (.kst 0) (.kst 32) none))),(2,.one (.sc (.sl 1 (.var 1) (.var 2) none))),(8,.one (.sc (.kst (.slice none 0 0)))),(10,.one (.sc (.ptr 2 (.kst 0)))),(16,.one (.sc (.ptr 3 (.kst 0))))] .nil
def s11a:St:={ni:=0,nx:=21,na:=2,nb:=4,nv:=0,defs:=[],obs:=[],orc:=[],gl:= .nil,bks:=mkT [(0,{n:=0,rw:=false,cells:=mkT [] .nil,arr:=some (.u8,0,false)}),(1,{n:=0,rw:=false,cells:=mkT [] .nil,arr:=some (.u8,1,false)}),(2,{n:=9,rw:=true,cells:=mkT [(0,.num .u64 3),(1,.num .u64 4),(2,.num .u64 5),(3,.num .u64 6),(4,.num .u64 7),(5,.num .u64 8),(6,.num .u64 9),(7,.num .u64 10),(8,.num .u64 11)] .nil,arr:=none}),(3,{n:=9,rw:=true,cells:=mkT [(0,.num .u64 12),(1,.num .u64 13),(2,.num .u64 14),(3,.num .u64 15),(4,.num .u64 16),(5,.num .u64 17),(6,.num .u64 18),(7,.num .u64 19),(8,.num .u64 20)] .nil,arr:=none})] .nil}
def T11b:Tr SV:=mkT [(0,.one (.sc (.sl 0 (.kst 0) (.kst 32) none))),(2,.one (.sc (.emp 0))),(8,.one (.sc (.kst (.slice none 0 0)))),(10,.one (.sc (.ptr 2 (.kst 0)))),(16,.one (.sc (.ptr 3 (.kst 0))))] .nil
def s11b:St:={ni:=0,nx:=19,na:=2,nb:=4,nv:=1,defs:=[],obs:=[],orc:=[],gl:= .nil,bks:=mkT [(0,{n:=0,rw:=false,cells:=mkT [] .nil,arr:=some (.u8,0,false)}),(1,{n:=0,rw:=false,cells:=mkT [] .nil,arr:=some (.u8,1,false)}),(2,{n:=9,rw:=true,cells:=mkT [(0,.num .u64 1),(1,.num .u64 2),(2,.num .u64 3),(3,.num .u64 4),(4,.num .u64 5),(5,.num .u64 6),(6,.num .u64 7),(7,.num .u64 8),(8,.num .u64 9)] .nil,arr:=none}),(3,{n:=9,rw:=true,cells:=mkT [(0,.num .u64 10),(1,.num .u64 11),(2,.num .u64 12),(3,.num .u64 13),(4,.num .u64 14),(5,.num .u64 15),(6,.num .u64 16),(7,.num .u64 17),(8,.num .u64 18)] .nil,arr:=none})] .nil}
def P11 (_:List Int)(ls:List (List Int)):Prop :=
 match ls with
 | [key,m]=>Bytes m∧Bytes key∧m.length≤1099511627776
 | _=>False
def A11 (_:List Int)(ls:List (List Int)):List Int :=
 match ls with
 | [key,m]=>tagL key m
 | _=>[]
structure F11 (F:Fns):Prop where
 p18:F.p 18=P18
 i18:F.i 18=I18
 p19:F.p 19=P19
 i19:F.i 19=I19
 p20:F.p 20=P20
 i20:F.i 20=I20
 p11:F.p 11=P11
 a11:F.a 11=A11
theorem tab11_ok {F:Fns}(h:F11 F):TabOk F tab11 :=
 ⟨⟨by kernel_rfl,fun c hc=>by simp only[aX] at hc;subst hc;exact spec18 h.p18 h.i18⟩,
  ⟨by kernel_rfl,fun c hc=>by simp only[aX] at hc;subst hc;exact spec19 h.p19 h.i19⟩,
  ⟨by kernel_rfl,fun c hc=>by simp only[aX] at hc;subst hc;exact spec20 h.p19 h.i19 h.p20 h.i20⟩,trivial⟩
theorem modmul (H c Q:Int):((H%pP+c)%pP)*Q%pP=(H+c)*Q%pP:=by
 have e1:(H%pP+c)%pP=(H+c)%pP:=by rw[Int.add_emod,Int.emod_emod_of_dvd _ (Int.dvd_refl _),←Int.add_emod]
 rw[e1,Int.mul_emod,Int.emod_emod_of_dvd _ (Int.dvd_refl _),←Int.mul_emod]
theorem pP_mod (X:Int):0≤X%pP∧X%pP<1361129467683753853853498429727072845819:=⟨Int.emod_nonneg _ (by decide),eI _ (by decide)⟩
theorem end8 {d0 d1 d2 d3 d4 d5 d6 d7 d8 d9 d10 d11 d12 d13 d14 d15 c1 c2 c3 c4 c5 c6 c7 c8 a0 a1 a2 a3 a4 a5 a6 a7 a8 k0 k1 k2 k3 k4 k5 k6 k7 k8 k9 k10 k11 k12 k13 k14 k15 H S:Int}(hS:S=leV [k0,k1,k2,k3,k4,k5,k6,k7,k8,k9,k10,k11,k12,k13,k14,k15])(hH:[a0,a1,a2,a3,a4,a5,a6,a7,a8]=digs 9 (H%pP))
 (e0:(0≤d0∧d0<256)∧(0≤d1∧d1<256)∧(0≤c1∧c1≤1)∧d0+256*d1+65536*c1=0+a0+k0+256*k1) (e1:(0≤d2∧d2<256)∧(0≤d3∧d3<256)∧(0≤c2∧c2≤1)∧d2+256*d3+65536*c2=c1+a1+k2+256*k3) (e2:(0≤d4∧d4<256)∧(0≤d5∧d5<256)∧(0≤c3∧c3≤1)∧d4+256*d5+65536*c3=c2+a2+k4+256*k5) (e3:(0≤d6∧d6<256)∧(0≤d7∧d7<256)∧(0≤c4∧c4≤1)∧d6+256*d7+65536*c4=c3+a3+k6+256*k7) (e4:(0≤d8∧d8<256)∧(0≤d9∧d9<256)∧(0≤c5∧c5≤1)∧d8+256*d9+65536*c5=c4+a4+k8+256*k9) (e5:(0≤d10∧d10<256)∧(0≤d11∧d11<256)∧(0≤c6∧c6≤1)∧d10+256*d11+65536*c6=c5+a5+k10+256*k11) (e6:(0≤d12∧d12<256)∧(0≤d13∧d13<256)∧(0≤c7∧c7≤1)∧d12+256*d13+65536*c7=c6+a6+k12+256*k13) (e7:(0≤d14∧d14<256)∧(0≤d15∧d15<256)∧(0≤c8∧c8≤1)∧d14+256*d15+65536*c8=c7+a7+k14+256*k15) :
 [d0,d1,d2,d3,d4,d5,d6,d7,d8,d9,d10,d11,d12,d13,d14,d15]=Go.Sy.outB H S:=by
 have pb:=pP_mod H;have hv:valD [a0,a1,a2,a3,a4,a5,a6,a7,a8]=H%pP:=by rw[hH,val_digs 9 pb.1 (dH pb.2 (by decide))]
 unfold Go.Sy.outB;have e:(H%pP+S)%340282366920938463463374607431768211456=leV [d0,d1,d2,d3,d4,d5,d6,d7,d8,d9,d10,d11,d12,d13,d14,d15]:=by rw[←hv,hS];simp only[valD,leV];clear hS hH hv pb;omega
 rw[e];refine (leB_leV (l:=[d0,d1,d2,d3,d4,d5,d6,d7,d8,d9,d10,d11,d12,d13,d14,d15]) ?_).symm;intro x hx;simp only[cD,dX,or_false] at hx;rcases hx with rfl | rfl | rfl | rfl | rfl | rfl | rfl | rfl | rfl | rfl | rfl | rfl | rfl | rfl | rfl | rfl
 ·exact e0.1
 ·exact e0.2.1
 ·exact e1.1
 ·exact e1.2.1
 ·exact e2.1
 ·exact e2.2.1
 ·exact e3.1
 ·exact e3.2.1
 ·exact e4.1
 ·exact e4.2.1
 ·exact e5.1
 ·exact e5.2.1
 ·exact e6.1
 ·exact e6.2.1
 ·exact e7.1
 ·exact e7.2.1
theorem sK_eq {k0 k1 k2 k3 k4 k5 k6 k7 k8 k9 k10 k11 k12 k13 k14 k15 k16 k17 k18 k19 k20 k21 k22 k23 k24 k25 k26 k27 k28 k29 k30 k31:Int}:s0K [k0,k1,k2,k3,k4,k5,k6,k7,k8,k9,k10,k11,k12,k13,k14,k15,k16,k17,k18,k19,k20,k21,k22,k23,k24,k25,k26,k27,k28,k29,k30,k31]+s1K [k0,k1,k2,k3,k4,k5,k6,k7,k8,k9,k10,k11,k12,k13,k14,k15,k16,k17,k18,k19,k20,k21,k22,k23,k24,k25,k26,k27,k28,k29,k30,k31]*18446744073709551616=leV [k16,k17,k18,k19,k20,k21,k22,k23,k24,k25,k26,k27,k28,k29,k30,k31]:=by
 simp only[s0K,s1K,leV,List.drop_succ_cons,bW,List.take_succ_cons,List.take_zero];omega
structure A11a (N:Num) (key m:List Int) (o:Nat) (H T:Int):Prop where
 ho:o≤m.length
 i1:N.i 1=((o:Nat):Int)
 i2:N.i 2=((m.length-o:Nat):Int)
 a0:N.a 0=key
 a1:N.a 1=m
 r:∀j,j<9→N.i (3+j)=(digs 9 (RK key)).getD j 0
 d:∀j,j<9→N.i (12+j)=(digs 9 (H%pP)).getD j 0
 t:updH (RK key) (m.drop o).length H (m.drop o)=T
theorem A11a.agr {N N':Num}{key m:List Int}{o:Nat}{H T:Int}(h:Agr s11a.nx s11a.na N N')(hA:A11a N key m o H T):A11a N' key m o H T:=by
 have e:∀x,x<21→N'.i x=N.i x:=h.i;have ea:∀x,x<2→N'.a x=N.a x:=h.a;exact ⟨hA.ho,(e 1 (by decide)).trans hA.i1,(e 2 (by decide)).trans hA.i2,(ea 0 (by decide)).trans hA.a0,(ea 1 (by decide)).trans hA.a1,fun j hj=>(e _ (by omega)).trans (hA.r j hj),fun j hj=>(e _ (by omega)).trans (hA.d j hj),hA.t⟩
structure A11b (N:Num) (key:List Int) (T:Int):Prop where
 a0:N.a 0=key
 d:∀j,j<9→N.i (10+j)=(digs 9 (T%pP)).getD j 0
theorem A11b.agr {N N':Num}{key:List Int}{T:Int}(h:Agr s11b.nx s11b.na N N')(hA:A11b N key T):A11b N' key T:=by
 have e:∀x,x<19→N'.i x=N.i x:=h.i;exact ⟨(h.a 0 (by decide)).trans hA.a0,fun j hj=>(e _ (by omega)).trans (hA.d j hj)⟩
theorem mn_nat {a b:Nat}:(if (a:Int)<(b:Int) then (a:Int) else (b:Int))=((min a b:Nat):Int):=by split <;> omega
noncomputable abbrev H11:=headOf ct11 Tryz.f14 (callT tab11) [12] [] T11a s11a
noncomputable abbrev R11a:=rndOf ct11 Tryz.f14 (callT tab11) [12] (loopAt 14 12) T11a s11a [true,true] T11a s11a
noncomputable abbrev R11b:=rndOf ct11 Tryz.f14 (callT tab11) [12] (loopAt 14 12) T11a s11a [true,false] T11b s11b
noncomputable abbrev O11a:=outOf ct11 Tryz.f14 (callT tab11) [12] (loopAt 14 12) T11a s11a [false]
noncomputable abbrev O11b:=outOf ct11 Tryz.f14 (callT tab11) [12] (loopAt 14 12) T11b s11b []
noncomputable abbrev E11e:=runE ct11e Tryz.f14 (callT tab11) []
theorem H11_c:H11.map (·.1)=some (.loop (loopAt 14 12).1,(loopAt 14 12).2):=by kernel_rfl
theorem R11a_s:R11a=some (iR R11a,aR R11a,dR R11a,oR R11a):=someR (by kernel_rfl)
theorem R11b_s:R11b=some (iR R11b,aR R11b,dR R11b,oR R11b):=someR (by kernel_rfl)
theorem O11a_s:O11a=some (⟨[],none,some (.kst 16,16)⟩,dE O11a,oE O11a):=someE (by kernel_rfl)
theorem O11b_s:O11b=some (⟨[],none,some (.kst 16,16)⟩,dE O11b,oE O11b):=someE (by kernel_rfl)
theorem E11e_s:E11e=some (⟨[],none,some (.kst 16,15)⟩,dE E11e,oE E11e):=someE (by kernel_rfl)
def hasN (ds:List Df)(x:Nat)(nd:Nd):Bool:=match lkN ds x with | some m=>eNd m nd | none=>false
def hasA (ds:List Df)(A:Nat)(ad:Ad):Bool:=match lkA ds A with | some m=>eAd m ad | none=>false
section
variable {N:Num} {ds:List Df}
theorem gT (hd:∀d∈ds,d.sat N){x:Nat}{nd:Nd}(h:hasN ds x nd=true):N.i x=nd.ev N:=by
 unfold hasN at h;split at h;·rename_i m hl;rw[fB hd hl,eNd_eq h]
 ·cases h
theorem hasA_ok (hd:∀d∈ds,d.sat N){A:Nat}{ad:Ad}(h:hasA ds A ad=true):N.a A=ad.ev N:=by
 unfold hasA at h;split at h;·rename_i m hl;rw[fR hd hl,eAd_eq h]
 ·cases h
def flatA (ds:List Df):Nat→Nat→Option (List Ar)
 | 0,_=>none
 | f+1,A=>match lkA ds A with
  | some (.lit l)=>some l
  | some (.cat B C)=>match flatA ds f B,flatA ds f C with
   | some l,some m=>some (l++m)
   | _,_=>none
  | _=>none
theorem flatA_ok (hd:∀d∈ds,d.sat N):∀ {f A:Nat} {l:List Ar},flatA ds f A=some l→N.a A=l.map (·.ev N)
 | 0,_,_,h=>by cases h
 | f+1,A,l,h=>by
  simp only[flatA] at h;split at h
  ·rename_i m hl;simp only[aA] at h;subst h;exact fR hd hl
  ·rename_i B C hl;split at h
   ·rename_i l1 l2 h1 h2;simp only[aA] at h;subst h;rw[List.map_append,←flatA_ok hd h1,←flatA_ok hd h2];exact fR hd hl
   ·cases h
  ·cases h
def blkB (ds:List Df)(x i:Nat)(t:Ar):Bool :=
 hasN ds (x+1) (.rd 0 (.kst (.ofNat (16+2*i))))&&(hasN ds (x+2) (.conv .u64 (.var (x+1)))&&(hasN ds (x+3) (.bin .add .u64 t (.var (x+2)))&&(hasN ds (x+4) (.rd 0 (.kst (.ofNat (17+2*i))))&&(hasN ds (x+5) (.conv .u64 (.var (x+4)))&&(hasN ds (x+6) (.bin .shl .u64 (.var (x+5)) (.kst 8)) &&
 (hasN ds (x+7) (.bin .add .u64 (.var (x+3)) (.var (x+6)))&&(hasN ds (x+8) (.conv .u8 (.var (x+7)))&&(hasN ds (x+9) (.bin .shr .u64 (.var (x+7)) (.kst 8))&&(hasN ds (x+10) (.conv .u8 (.var (x+9)))&&hasN ds (x+11) (.bin .shr .u64 (.var (x+7)) (.kst 16)))))))))))
def endB (ds:List Df)(x:Nat)(ys:List Ar)(t:Ar)(A:Nat):Bool :=
 ((eAr t (.var x)&&hasN ds x (.bin .add .u64 (.kst 0) (ys.getD 0 (.kst 0))))||(eAr t (.kst 0)&&eAr (ys.getD 0 (.kst 0)) (.kst 0)))&&(blkB ds x 0 t&&(((List.range' 1 7).all fun i=>hasN ds (x+12*i) (.bin .add .u64 (.var (x+12*i-1)) (ys.getD i (.kst 0)))&&blkB ds (x+12*i) i (.var (x+12*i))) &&
 (match flatA ds 20 A with | some l=>eL eAr l ((List.range 8).flatMap fun i=>[.var (x+12*i+8),.var (x+12*i+10)]) | none=>false)))
def ob11 (ds:List Df)(z:Bool):Ob→Bool
 | .inA (.kst (.ofNat j)) 0=>Nat.blt j 32
 | .lenA (.kst (.ofNat n)) A=>match flatA ds 20 A with | some l=>Nat.beq l.length n | none=>false
 | .boo 21 false=>z&&hasN ds 21 (.cmp .gtr (.var 2) (.kst 0))
 | .le (.kst (.ofNat 0)) (.var 2)=>z
 | _=>false
theorem ob11_ok (hd:∀d∈ds,d.sat N){z:Bool}(hl:(N.a 0).length=32)(hz:z=true→N.i 2=0){os:List Ob}(h:os.all (ob11 ds z)=true):∀o∈os,o.holds N:=fun o ho=>by
 have:=bT.1 h o ho;unfold ob11 at this;split at this
 ·rename_i j;have:=aM this;show 0≤Int.ofNat j∧Int.ofNat j<((N.a 0).length:Int);rw[hl];exact ⟨cR j,by show (j:Int)<32;omega⟩
 ·rename_i n A;split at this
  ·rename_i l hf;show Int.ofNat n=((N.a A).length:Int);rw[flatA_ok hd hf,bF,aF this];rfl
  ·cases this
 ·simp only[aG] at this;show (!(N.i 21==0))=false;rw[gT hd this.2];simp only[Nd.ev,Ar.ev];rw[hz this.1];rfl
 ·show (0:Int)≤N.i 2;rw[hz this];exact bK _
 ·cases this
theorem end11 {key:List Int}{H:Int}(hd:∀d∈ds,d.sat N)(hBk:Bytes key)(hlk:key.length=32)(ea0:N.a 0=key){x A:Nat}{ys:List Ar}{t:Ar}(hA:ys.map (·.ev N)=digs 9 (H%pP))(h:endB ds x ys t A=true) :
 N.a A=Go.Sy.outB H (s0K key+s1K key*18446744073709551616):=by
 have la:ys.length=9:=by rw[←bF (f:=(·.ev N)),hA,gX]
 match key,hlk,ys,la with
 | [k0,k1,k2,k3,k4,k5,k6,k7,k8,k9,k10,k11,k12,k13,k14,k15,k16,k17,k18,k19,k20,k21,k22,k23,k24,k25,k26,k27,k28,k29,k30,k31],_,[b0,b1,b2,b3,b4,b5,b6,b7,b8],_ =>
 simp only[Bytes,aC] at hBk;obtain ⟨-,-,-,-,-,-,-,-,-,-,-,-,-,-,-,-,g16,g17,g18,g19,g20,g21,g22,g23,g24,g25,g26,g27,g28,g29,g30,g31,-⟩:=hBk;have bA:∀d∈digs 9 (H%pP),0≤d∧d<65536:=digs_bound 9 _;rw[←hA] at bA;simp only[aI,aK,aC] at bA hA;obtain ⟨a0,a1,a2,a3,a4,a5,a6,a7,a8,-⟩:=bA;simp only[endB,aG] at h;obtain ⟨h0,h1,h2,h3⟩:=h;have blk:∀ {y i:Nat} {t:Ar} {c a u v:Int},blkB ds y i t=true→0≤c∧c≤1→0≤a∧a<65536→0≤u∧u<256→0≤v∧v<256→(N.a 0).getD (16+2*i) 0=u→(N.a 0).getD (17+2*i) 0=v→t.ev N=iop .add .u64 c a →
  (0≤N.i (y+8)∧N.i (y+8)<256)∧(0≤N.i (y+10)∧N.i (y+10)<256)∧(0≤N.i (y+11)∧N.i (y+11)≤1)∧N.i (y+8)+256*N.i (y+10)+65536*N.i (y+11)=c+a+u+256*v:=fun h hc ha hu hv e1 e2 ht=>by
  simp only[blkB,aG] at h;obtain ⟨q1,q2,q3,q4,q5,q6,q7,q8,q9,q10,q11⟩:=h;exact endS hc ha hu hv ht ((gT hd q1).trans e1) (gT hd q2) (gT hd q3) ((gT hd q4).trans e2) (gT hd q5) (gT hd q6) (gT hd q7) (gT hd q8) (gT hd q9) (gT hd q10) (gT hd q11)
 have t0:t.ev N=iop .add .u64 0 (b0.ev N):=by
  simp only[eM,aG] at h0;rcases h0 with ⟨e1,e2⟩ | ⟨e1,e2⟩
  ·rw [fF e1];exact gT hd e2
  ·rw [fF e1,show b0= .kst 0 from fF e2];rfl
 have nx:∀i,1≤i→i<8→N.i (x+12*i)=iop .add .u64 (N.i (x+12*i-1)) (([b0,b1,b2,b3,b4,b5,b6,b7,b8].getD i (.kst 0)).ev N)∧blkB ds (x+12*i) i (.var (x+12*i))=true:=fun i hi hj=>by have:=bT.1 h2 i (List.mem_range'.2 ⟨i-1,by omega,by omega⟩);simp only[aG] at this;exact ⟨gT hd this.1,this.2⟩
 have E0:=blk h1 (by decide) a0 g16 g17 (by rw[ea0];rfl) (by rw[ea0];rfl) t0;have E1:=blk (nx 1 (by decide) (by decide)).2 E0.2.2.1 a1 g18 g19 (by rw[ea0];rfl) (by rw[ea0];rfl) (nx 1 (by decide) (by decide)).1;have E2:=blk (nx 2 (by decide) (by decide)).2 E1.2.2.1 a2 g20 g21 (by rw[ea0];rfl) (by rw[ea0];rfl) (nx 2 (by decide) (by decide)).1;have E3:=blk (nx 3 (by decide) (by decide)).2 E2.2.2.1 a3 g22 g23 (by rw[ea0];rfl) (by rw[ea0];rfl) (nx 3 (by decide) (by decide)).1
 have E4:=blk (nx 4 (by decide) (by decide)).2 E3.2.2.1 a4 g24 g25 (by rw[ea0];rfl) (by rw[ea0];rfl) (nx 4 (by decide) (by decide)).1;have E5:=blk (nx 5 (by decide) (by decide)).2 E4.2.2.1 a5 g26 g27 (by rw[ea0];rfl) (by rw[ea0];rfl) (nx 5 (by decide) (by decide)).1;have E6:=blk (nx 6 (by decide) (by decide)).2 E5.2.2.1 a6 g28 g29 (by rw[ea0];rfl) (by rw[ea0];rfl) (nx 6 (by decide) (by decide)).1;have E7:=blk (nx 7 (by decide) (by decide)).2 E6.2.2.1 a7 g30 g31 (by rw[ea0];rfl) (by rw[ea0];rfl) (nx 7 (by decide) (by decide)).1
 split at h3
 ·rename_i l hl;rw[flatA_ok hd hl,eArs_eq h3,sK_eq];exact end8 (H:=H) rfl hA E0 E1 E2 E3 E4 E5 E6 E7
 ·cases h3
end
theorem O11a_b:(endB (dE O11a) 22 (vs 12 9) (.var 22) 16&&(oE O11a).all (ob11 (dE O11a) true))=true:=by kernel_rfl
theorem O11b_b:(endB (dE O11b) 19 (vs 10 9) (.var 19) 16&&(oE O11b).all (ob11 (dE O11b) false))=true:=by kernel_rfl
theorem E11e_b:(endB (dE E11e) 70 (zs 9) (.kst 0) 15&&(oE E11e).all (ob11 (dE E11e) false))=true:=by kernel_rfl
def rN:List Nat:=[1,5,9,13,18,23,27,31,36,41,45,49,54,59,63,67]
def kN:List Nat:=[1,5,9,14,19,23,27,32,37,41,45,50,55,59,63,68]
def lN:List Ar:=[.var 8,.var 17,.var 26,.var 35,.var 44,.var 53,.var 62,.var 71,.kst 0]
def h11B (ds:List Df):Bool:=((List.range 16).all fun j=>hasN ds (rN.getD j 0) (.rd 0 (.kst (.ofNat j))))&&((List.range 4).all fun j=>hasN ds (kN.getD (4*j+3) 0) (.bin .and .u8 (.var (rN.getD (4*j+3) 0)) (.kst 15)))&&((List.range' 1 3).all fun j=>hasN ds (kN.getD (4*j) 0) (.bin .and .u8 (.var (rN.getD (4*j) 0)) (.kst 252)))
theorem H11_b:h11B (dR (hR H11))=true:=by kernel_rfl
theorem H11_ok:okB cx0 (kN.map fun x=>(x,1,255)) (dR (hR H11)) [] [] [.law 65536 lN (rowPL 256 kN) 0,.bnd lN 65536]=true:=by kernel_rfl
theorem H11_o:(oR (hR H11)).all (ob11 [] false)=true:=by kernel_rfl
theorem H11_i:slA (iR (hR H11)) 0 3=[.kst 0,.kst 0,.var 0]∧slA (iR (hR H11)) 3 9=lN∧slA (iR (hR H11)) 12 9=zs 9:=by refine ⟨?_,?_,?_⟩ <;> kernel_rfl
theorem pnA2 {N:Num}{r:RA4}(h:aR r=[some 0,some 1]):(pn (iR r) (aR r) N).a 0=N.a 0∧(pn (iR r) (aR r) N).a 1=N.a 1:=by rw[h];exact ⟨rfl,rfl⟩
theorem H11_a:aR (hR H11)=[some 0,some 1]:=by kernel_rfl
theorem and8 {x:Int}{c:Int}:0≤iop .and .u8 x c∧iop .and .u8 x c≤((255:Nat):Int):=by simp only[iop,IntKind.wrap_u8];omega
theorem clamp11 {N:Num}{key:List Int}(hd:∀d∈dR (hR H11),d.sat N)(hBk:Bytes key)(hlk:key.length=32)(ea0:N.a 0=key):lN.map (·.ev N)=digs 9 (RK key):=by
 match key,hlk with
 | [k0,k1,k2,k3,k4,k5,k6,k7,k8,k9,k10,k11,k12,k13,k14,k15,k16,k17,k18,k19,k20,k21,k22,k23,k24,k25,k26,k27,k28,k29,k30,k31],_ =>
 simp only[Bytes,aC] at hBk;obtain ⟨g0,g1,g2,g3,g4,g5,g6,g7,g8,g9,g10,g11,g12,g13,g14,g15,-⟩:=hBk;have hb:=H11_b;simp only[h11B,aG,bT] at hb;obtain ⟨⟨h1,h2⟩,h3⟩:=hb;have rd:∀j,j<16→N.i (rN.getD j 0)=[k0,k1,k2,k3,k4,k5,k6,k7,k8,k9,k10,k11,k12,k13,k14,k15,k16,k17,k18,k19,k20,k21,k22,k23,k24,k25,k26,k27,k28,k29,k30,k31].getD j 0:=fun j hj=>by have:=gT hd (h1 j (cE.2 hj));simp only[Nd.ev,Ar.ev,ea0] at this;exact this
 have m15:∀j,j<4→N.i (kN.getD (4*j+3) 0)=iop .and .u8 (N.i (rN.getD (4*j+3) 0)) 15:=fun j hj=>gT hd (h2 j (cE.2 hj))
 have m252:∀j,1≤j→j<4→N.i (kN.getD (4*j) 0)=iop .and .u8 (N.i (rN.getD (4*j) 0)) 252:=fun j h1 h2=>gT hd (h3 j (List.mem_range'.2 ⟨j-1,by omega,by omega⟩))
 have ek:kN.map N.i=[k0,k1,k2,iop .and .u8 k3 15,iop .and .u8 k4 252,k5,k6,iop .and .u8 k7 15,iop .and .u8 k8 252,k9,k10,iop .and .u8 k11 15,iop .and .u8 k12 252,k13,k14,iop .and .u8 k15 15]:=by
  have e3:N.i 14=iop .and .u8 k3 15:=(m15 0 (by decide)).trans (congrArg (iop .and .u8 · 15) (rd 3 (by decide)));have e7:N.i 32=iop .and .u8 k7 15:=(m15 1 (by decide)).trans (congrArg (iop .and .u8 · 15) (rd 7 (by decide)));have e11:N.i 50=iop .and .u8 k11 15:=(m15 2 (by decide)).trans (congrArg (iop .and .u8 · 15) (rd 11 (by decide)));have e15:N.i 68=iop .and .u8 k15 15:=(m15 3 (by decide)).trans (congrArg (iop .and .u8 · 15) (rd 15 (by decide)))
  have e4:N.i 19=iop .and .u8 k4 252:=(m252 1 (by decide) (by decide)).trans (congrArg (iop .and .u8 · 252) (rd 4 (by decide)));have e8:N.i 37=iop .and .u8 k8 252:=(m252 2 (by decide) (by decide)).trans (congrArg (iop .and .u8 · 252) (rd 8 (by decide)));have e12:N.i 55=iop .and .u8 k12 252:=(m252 3 (by decide) (by decide)).trans (congrArg (iop .and .u8 · 252) (rd 12 (by decide)));simp only[kN,aI,aK,e3,e7,e11,e15,e4,e8,e12]
  rw[show N.i 1=k0 from rd 0 (by decide),show N.i 5=k1 from rd 1 (by decide),show N.i 9=k2 from rd 2 (by decide),show N.i 23=k5 from rd 5 (by decide),show N.i 27=k6 from rd 6 (by decide),show N.i 41=k9 from rd 9 (by decide),show N.i 45=k10 from rd 10 (by decide),show N.i 59=k13 from rd 13 (by decide),show N.i 63=k14 from rd 14 (by decide)]
 have bk:∀v∈kN.map N.i,0≤v∧v≤((255:Nat):Int):=by
  rw[ek];have w:∀ {v:Int},0≤v∧v<256→0≤v∧v≤((255:Nat):Int):=fun h=>by omega
  simp only[aC];exact ⟨w g0,w g1,w g2,and8,and8,w g5,w g6,and8,and8,w g9,w g10,and8,and8,w g13,w g14,and8,nofun⟩
 obtain ⟨-,q⟩:=okB_ok H11_ok (N:=N) cx0_ok il0 (fun x m hi' hm j hj=>by
  obtain ⟨y,hy,e⟩:=dC.1 hm;simp only[aD] at e;obtain ⟨rfl,rfl,rfl⟩:=e;obtain rfl:j=0:=by omega
  exact bk _ (dG hy)) hd
 simp only[aC,Tst.holds] at q;obtain ⟨⟨z,q1⟩,q2,-⟩:=q;rw[fU,ek] at q1;refine digs9 q2 rfl ?_;have q1:valW 65536 (lN.map (·.ev N))-valW 256 [k0,k1,k2,iop .and .u8 k3 15,iop .and .u8 k4 252,k5,k6,iop .and .u8 k7 15,iop .and .u8 k8 252,k9,k10,iop .and .u8 k11 15,iop .and .u8 k12 252,k13,k14,iop .and .u8 k15 15]=0*z:=q1;rw[valD_W,show RK [k0,k1,k2,k3,k4,k5,k6,k7,k8,k9,k10,k11,k12,k13,k14,k15,k16,k17,k18,k19,k20,k21,k22,k23,k24,k25,k26,k27,k28,k29,k30,k31]=iop .and .u64 (leV [k0,k1,k2,k3,k4,k5,k6,k7]) 1152921487695413247+iop .and .u64 (leV [k8,k9,k10,k11,k12,k13,k14,k15]) 1152921487695413244*18446744073709551616 from rfl,andR0 g0 g1 g2 g3 g4 g5 g6 g7,andR1 g8 g9 g10 g11 g12 g13 g14 g15]
 simp only[leV,valW] at q1 ⊢;omega
def pN11:List Ar:=[.var 51,.var 69,.var 87,.var 105,.var 123,.var 141,.var 159,.var 177,.var 195,.var 197,.var 199,.var 201,.var 203,.var 205,.var 207,.var 209,.var 211,.kst 0]
def r11B (ds:List Df):Bool:=hasN ds 21 (.cmp .gtr (.var 2) (.kst 0))&&(hasN ds 22 (.mn (.var 2) (.kst 16))&&(hasA ds 2 (.sub 1 (.var 1) (.var 22))&&(famG ds 23 18 [] [2] 9&&(hasA ds 3 (.lit (vs 32 9))&&(famG ds 41 19 [] [3] 9&&(hasA ds 4 (.lit pN11)&&(famG ds 212 20 [] [4] 9 &&
 okB cx0 [(3,9,65535),(12,9,65535),(23,9,65535),(41,9,65535)] ds [] [] [.law 65536 (vs 32 9) (padd (rowP 65536 12 9) (rowP 65536 23 9)) 0,.bnd (vs 32 9) 131072,.law 65536 pN11 (pmul (rowP 65536 41 9) (rowP 65536 3 9)) 0,.bnd pN11 4611686018427387904])))))))
theorem R11a_b:r11B (dR R11a)=true:=by kernel_rfl
theorem R11b_b:r11B (dR R11b)=true:=by kernel_rfl
theorem mul11 {F:Fns}(hF:F11 F){M:Num}(hf:M.f=F){H Q:Int}{c:List Int}{ds:List Df}(hd:∀d∈ds,d.sat M)(hb:r11B ds=true)(hr:rowI M 3 9=digs 9 Q)(ha:rowI M 12 9=digs 9 (H%pP))
 (hQ:0≤Q∧Q<21267647932558653966460912964485513216) (hc:0≤chunkN c∧chunkN c<680564733841876926926749214863536422912) (h2:M.a 2=c) :
 P19 [] [M.a 3]∧P20 [] [M.a 4]∧rowI M 212 9=digs 9 (redN ((H+chunkN c)*Q)%pP):=by
 simp only[r11B,aG] at hb;obtain ⟨-,-,-,h23,h3,h41,h4,h212,hok⟩:=hb;have e23:rowI M 23 9=digs 9 (chunkN c):=fP (gX 9 _) fun j hj=>by rw[fam_g hd h23 j hj,aI,aK,h2,hf,hF.i18];rfl
 have a3:M.a 3=rowI M 32 9:=(hasA_ok hd h3).trans gD;have a4:M.a 4=pN11.map (·.ev M):=hasA_ok hd h4;have e41:rowI M 41 9=digs 9 (valD (rowI M 32 9)%pP):=fP (gX 9 _) fun j hj=>by rw[fam_g hd h41 j hj,aI,aK,a3,hf,hF.i19];rfl
 have e212:rowI M 212 9=digs 9 (valD (pN11.map (·.ev M))%pP):=fP (gX 9 _) fun j hj=>by rw[fam_g hd h212 j hj,aI,aK,a4,hf,hF.i20];rfl
 have bd:∀ {x:Nat} {V:Int},rowI M x 9=digs 9 V→∀v∈rowI M x 9,0≤v∧v≤((65535:Nat):Int):=fun h v hv=>by rw[h] at hv;have:=digs_bound 9 _ v hv;omega
 obtain ⟨-,q⟩:=okB_ok hok (N:=M) cx0_ok il0 (gB (bd hr) (gB (bd ha) (gB (bd e23) (gB (bd e41) ent_nil)))) hd;simp only[aC,Tst.holds] at q;obtain ⟨⟨z1,q1⟩,q2,⟨z2,q3⟩,q4,-⟩:=q;have pb:=pP_mod H;rw[fS,rowP_row,rowP_row,ha,e23,gD] at q1;rw[pmul_ev,rowP_row,rowP_row,hr,e41] at q3;rw[gD] at q2;have vD:∀ {V:Int},valW 65536 (digs 9 V)=valD (digs 9 V):=valD_W.symm;have vS:valD (rowI M 32 9)=H%pP+chunkN c:=by
  have q1:valW 65536 (rowI M 32 9)-(valW 65536 (digs 9 (H%pP))+valW 65536 (digs 9 (chunkN c)))=0*z1:=q1;rw[vD,vD,←valD_W,val_digs 9 pb.1 (dH pb.2 (by decide)),val_digs 9 hc.1 (dH hc.2 (by decide))] at q1;omega
 have xb:=pP_mod (H%pP+chunkN c);have vT:valD (pN11.map (·.ev M))=(H%pP+chunkN c)%pP*Q:=by have q3:valW 65536 (pN11.map (·.ev M))-valW 65536 (digs 9 (valD (rowI M 32 9)%pP))*valW 65536 (digs 9 Q)=0*z2:=q3;rw[vD,vD,←valD_W,vS,val_digs 9 hQ.1 (dH hQ.2 (by decide)),val_digs 9 xb.1 (dH xb.2 (by decide))] at q3;omega
 refine ⟨?_,⟨by rw[a4];exact q4,?_⟩,by rw[e212,vT,redN_mod,←modmul]⟩
 ·rw [a3];have w:∀j,j<9→0≤M.i (32+j)∧M.i (32+j)<1152921504606846976:=fun j hj=>by
   have:=q2 _ (dI (rowI_get hj));omega
  have w':∀j,j<9→0≤M.i (32+j)∧M.i (32+j)<4611686018427387904:=fun j hj=>⟨(w j hj).1,dH (w j hj).2 (by decide)⟩
  exact ⟨w' 0 (by decide),w' 1 (by decide),w' 2 (by decide),w' 3 (by decide),w' 4 (by decide),w' 5 (by decide),w' 6 (by decide),w' 7 (by decide),w 8 (by decide)⟩
 ·rw [a4,vT];exact cG (mul_b (a:=1361129467683753853853498429727072845818) (b:=21267647932558653966460912964485513215) ⟨xb.1,Int.le_of_lt_add_one xb.2⟩ ⟨hQ.1,Int.le_of_lt_add_one hQ.2⟩).2 (by decide)
theorem low11 {M:Num}{ds:List Df}(hd:∀d∈ds,d.sat M)(hb:r11B ds=true):(M.i 21=bif icmp .gtr (M.i 2) 0 then 1 else 0)∧(M.i 22=if 16<M.i 2 then 16 else M.i 2)∧M.a 2=((M.a 1).drop (M.i 1).toNat).take (M.i 22).toNat:=by
 simp only[r11B,aG] at hb;exact ⟨gT hd hb.1,gT hd hb.2.1,hasA_ok hd hb.2.2.1⟩
theorem row9 {M:Num}{x:Nat}{L:List Int}(h:∀j,j<9→M.i (x+j)=L.getD j 0)(hl:L.length=9):rowI M x 9=L:=fP hl h
theorem R11a_o:oR R11a=[.lt (.var 22) (.var 2),.le (.var 2) (.var 2),.le (.var 22) (.var 2),.le (.kst 0) (.var 22),.prd 20 [] [4],.prd 19 [] [3],.prd 18 [] [2],.fits (.var 1) (.var 22) 1,.le (.var 22) (.var 2),.le (.kst 0) (.var 22),.le (.kst 0) (.var 2),.boo 21 true,.le (.kst 0) (.var 2)]:=by kernel_rfl
theorem R11b_o:oR R11b=[.eq (.var 22) (.var 2),.le (.var 2) (.var 2),.le (.var 22) (.var 2),.le (.kst 0) (.var 22),.prd 20 [] [4],.prd 19 [] [3],.prd 18 [] [2],.fits (.var 1) (.var 22) 1,.le (.var 22) (.var 2),.le (.kst 0) (.var 22),.le (.kst 0) (.var 2),.boo 21 true,.le (.kst 0) (.var 2)]:=by kernel_rfl
theorem R11a_n:(hasN (dR R11a) 222 (.lin (.var 2) (.var 22) (-1))&&(hasN (dR R11a) 221 (.lin (.var 1) (.var 22) 1)&&(eAr ((iR R11a).getD 1 (.kst 0)) (.var 221)&&eAr ((iR R11a).getD 2 (.kst 0)) (.var 222))))=true:=by kernel_rfl
theorem R11a_a:aR R11a=[some 0,some 1]:=by kernel_rfl
theorem R11b_a:aR R11b=[some 0,some 1]:=by kernel_rfl
set_option maxRecDepth 8000 in
theorem spec11 {F:Fns}(hF:F11 F):CSpec Tryz.prog F 14 ct11:=by
 refine gA (args:=argsOf ct11) (σe:=stOf ct11) rfl Tryz.func14 (fM (by kernel_rfl)) (by kernel_rfl) (by kernel_rfl) fun is ls ws we Ee a hs hp hent hat=> ?_
 obtain rfl:=eV rfl hs
 match ls,hs with
 | [key,m],hs =>
 obtain ⟨hlk,-⟩:=hs;have hp:P11 [] [key,m]:=by rw[←hF.p11];exact hp
 obtain ⟨hB,hBk,hbig⟩:=hp;have hA11:F.a ct11.fs [] [key,m]=Go.Sy.outB (updH (RK key) m.length 0 m) (s0K key+s1K key*18446744073709551616):=by show F.a 11 _ _=_;rw[hF.a11];rfl
 have hQ:=RK_bd hBk hlk;generalize hT:updH (RK key) m.length 0 m=T at hA11;have hsl:∀ {M:Num} {A:Nat},M.a A=Go.Sy.outB T (s0K key+s1K key*18446744073709551616)→M.a A=F.a ct11.fs [] [key,m]∧(16:Int)=(F.a ct11.fs [] [key,m]).length∧(F.a ct11.fs [] [key,m]).length=16:=fun h=>by rw[hA11,outB_length];exact ⟨h,rfl,rfl⟩
 refine to_head hm (eU (tab11_ok hF)) (headR H11_c) (by kernel_rfl) rfl rfl hat hent.inv fun N hag hf hd=> ?_
 have ea0:N.a 0=key:=hag.a 0 (by decide);have ea1:N.a 1=m:=hag.a 1 (by decide);have e0:N.i 0=m.length:=hag.i 0 (by decide);obtain ⟨i1,i2,i3⟩:=H11_i;have hcl:=clamp11 hd hBk hlk ea0;refine ⟨ob11_ok (ds:=[]) nofun (z:=false) (by rw[ea0,hlk]) nofun H11_o,fun a1 w1 hat1=> ?_⟩
 let Ne:=num0 F ct11.ps [] [key,m]
 refine gQ (fun k a w=>(∃ N o H,A11a N key m o H T∧k=m.length-o∧At F Tryz.f14.ntmps Ne Ee (stOf ct11) we T11a s11a N a w)∨(∃ N:Num,k=0∧A11b N key T∧At F Tryz.f14.ntmps Ne Ee (stOf ct11) we T11b s11b N a w)) (k:=m.length) (.inl ⟨_,0,0,?_,rfl,hat1⟩) ?_
 ·have g3:rowI (pn (iR (hR H11)) (aR (hR H11)) N) 0 3=[0,0,(m.length:Int)]:=by rw[gF,i1];show [0,0,N.i 0]=_;rw[e0]
  have at3:∀j,j<3→(pn (iR (hR H11)) (aR (hR H11)) N).i j=[0,0,(m.length:Int)].getD j 0:=fun j hj=>by rw[←g3,fZ hj,bM]
  have g12:rowI (pn (iR (hR H11)) (aR (hR H11)) N) 3 9=digs 9 (RK key)∧rowI (pn (iR (hR H11)) (aR (hR H11)) N) 12 9=digs 9 (0%pP):=by rw[gF,gF,i2,i3,hcl];exact ⟨rfl,rfl⟩
  refine ⟨dK _,at3 1 (by decide),at3 2 (by decide),(pnA2 H11_a).1.trans ea0,(pnA2 H11_a).2.trans ea1,fun j hj=>(fZ hj).symm.trans (congrArg (·.getD j 0) g12.1),fun j hj=>(fZ hj).symm.trans (congrArg (·.getD j 0) g12.2),hT⟩
 ·clear hat hat1 hag hd ea0 ea1 e0 hcl hf;intro k a w hJ;rcases hJ with ⟨N,o,H,hA,hk,hat⟩ | ⟨N,hk,hA,hat⟩
  ·have ho:=hA.ho;rcases bL o m.length with h1 | h1
   ·have hmn:((m.length-o:Nat):Int)=m.length-o:=by omega
    rcases bL (o+16) m.length with h2 | h2
    ·refine gI hm (eU (tab11_ok hF)) R11a_s (by kernel_rfl) rfl rfl hat hent.inv fun M hag hf hd=> ?_
     obtain ⟨_,e1,e2,ea0,ea1,hr,hdg,ht⟩:=hA.agr hag;have hn:=R11a_n;simp only[aG] at hn;have q222:M.i 222=M.i 2+M.i 22*(-1):=gT hd hn.1;have q221:M.i 221=M.i 1+M.i 22*1:=gT hd hn.2.1;obtain ⟨q21,q22,w2⟩:=low11 hd R11a_b;rw[e2,show (16:Int)=((16:Nat):Int) from rfl,mn_nat,show min 16 (m.length-o)=16 by omega] at q22;rw[ea1,e1,q22,bD,bD] at w2;have hcl:((m.drop o).take 16).length=16:=by rw[bE,aT];omega
     obtain ⟨k1,k3,k4⟩:=mul11 hF hf hd R11a_b (row9 hr (gX 9 _)) (row9 hdg (gX 9 _)) hQ (chunkN_bound ((hB.drop o).take 16) (by omega)) w2;refine ⟨?_,fun x2 y2 hat2=>⟨m.length-(o+16),by omega,.inl ⟨_,o+16,redN ((H+chunkN ((m.drop o).take 16))*RK key),?_,rfl,hat2⟩⟩⟩
     ·rw [R11a_o];simp only[aC,Ob.holds,Ar.ev,aI,aK,hf,hF.p18,hF.p19,hF.p20,q22,e1,e2,ea1];exact ⟨by omega,by omega,by omega,by omega,k3,k1,⟨by rw[w2];exact (hB.drop o).take 16,by rw[w2,hcl];decide,by rw[w2,hcl];decide⟩,⟨by omega,by omega⟩,by omega,by omega,by omega,by rw[q21,e2];exact fL (bS (by omega)),by omega,nofun⟩
     ·refine ⟨by omega,?_,?_,(pnA2 R11a_a).1.trans ea0,(pnA2 R11a_a).2.trans ea1,fun j hj=>(fV (by kernel_rfl) j hj).trans (hr j hj),fun j hj=>(fV (y:=212) (by kernel_rfl) j hj).trans (by rw[←k4,fZ hj]),?_⟩
      ·rw [pn_at (fF hn.2.2.1)];show M.i 221=_;rw[q221,q22,e1];omega
      ·rw [pn_at (fF hn.2.2.2)];show M.i 222=_;rw[q222,q22,e2];omega
      ·rw [←ht,updH_step (m:=m.drop o) (by rw[aT];omega),←List.drop_drop];exact updH_fuel (by simp only[aT];omega) (by simp only[aT];omega)
    ·refine gI hm (eU (tab11_ok hF)) R11b_s (by kernel_rfl) rfl rfl hat hent.inv fun M hag hf hd=> ?_
     obtain ⟨_,e1,e2,ea0,ea1,hr,hdg,ht⟩:=hA.agr hag;obtain ⟨q21,q22,w2⟩:=low11 hd R11b_b;rw[e2,show (16:Int)=((16:Nat):Int) from rfl,mn_nat,show min 16 (m.length-o)=m.length-o by omega] at q22;rw[ea1,e1,q22,bD,bD,bO (by rw[aT];exact aS _)] at w2;have hcl:(m.drop o).length=m.length-o:=aT;obtain ⟨k1,k3,k4⟩:=mul11 hF hf hd R11b_b (row9 hr (gX 9 _)) (row9 hdg (gX 9 _)) hQ (chunkN_bound (hB.drop o) (by omega)) w2;refine ⟨?_,fun x2 y2 hat2=>⟨0,by omega,.inr ⟨_,rfl,?_,hat2⟩⟩⟩
     ·rw [R11b_o];simp only[aC,Ob.holds,Ar.ev,aI,aK,hf,hF.p18,hF.p19,hF.p20,q22,e1,e2,ea1];exact ⟨trivial,by omega,by omega,by omega,k3,k1,⟨by rw[w2];exact hB.drop o,by rw[w2,hcl];omega,by rw[w2,hcl];omega⟩,⟨by omega,by omega⟩,by omega,by omega,by omega,by rw[q21,e2];exact fL (bS (by omega)),by omega,nofun⟩
     ·refine ⟨(pnA2 R11b_a).1.trans ea0,fun j hj=>(fV (y:=212) (by kernel_rfl) j hj).trans ?_⟩;have:redN ((H+chunkN (m.drop o))*RK key)=T:=by
       rw[←ht,updH_step (m:=m.drop o) (by omega),bO (l:=m.drop o) (by omega),cF (l:=m.drop o) (i:=16) (by omega),updH_nil]
      rw[←this,←k4,fZ hj]
   ·refine gH hm (eU (tab11_ok hF)) O11a_s (by kernel_rfl) hat hent fun M hag hf hd=> ?_
    obtain ⟨_,e1,e2,ea0,ea1,-,hdg,ht⟩:=hA.agr hag;rw[cF h1,updH_nil] at ht;subst ht;have hb:=O11a_b;simp only[aG] at hb;exact ⟨ob11_ok hd (by rw[ea0,hlk]) (fun _=>by rw[e2];omega) hb.2,⟨nofun,trivial,hsl (end11 hd hBk hlk ea0 (by rw[gD];exact row9 hdg (gX 9 _)) hb.1)⟩,nofun⟩
  ·refine gH hm (eU (tab11_ok hF)) O11b_s (by kernel_rfl) hat hent fun M hag hf hd=> ?_
   obtain ⟨ea0,hdg⟩:=hA.agr hag;have hb:=O11b_b;simp only[aG] at hb;exact ⟨ob11_ok hd (z:=false) (by rw[ea0,hlk]) nofun hb.2,⟨nofun,trivial,hsl (end11 hd hBk hlk ea0 (by rw[gD];exact row9 hdg (gX 9 _)) hb.1)⟩,nofun⟩
theorem spec11e {F:Fns}(hF:F11 F):CSpec Tryz.prog F 14 ct11e:=by
 refine fG (eU (tab11_ok hF)) Tryz.func14 (by kernel_rfl) (by kernel_rfl) (by kernel_rfl) E11e_s (by kernel_rfl) fun is ls N hs hp hag hf hd=> ?_
 obtain rfl:=eV rfl hs
 match ls,hs with
 | [key,m],hs =>
 obtain ⟨hlk,hm0,-⟩:=hs;subst hm0;have hBk:Bytes key:=(show P11 [] [key,[]] by rw[←hF.p11];exact hp).2.1;have hA11:F.a ct11e.fs [] [key,[]]=Go.Sy.outB 0 (s0K key+s1K key*18446744073709551616):=by show F.a 11 _ _=_;rw[hF.a11];rfl
 have ea0:N.a 0=key:=hag.a 0 (by decide);have hb:=E11e_b;simp only[aG] at hb;have z:=end11 (H:=0) hd hBk hlk ea0 (show (zs 9).map (·.ev N)=digs 9 (0%pP) from rfl) hb.1;exact ⟨ob11_ok hd (z:=false) (by rw[ea0,hlk]) nofun hb.2,⟨nofun,trivial,by rw[hA11];exact z,by rw[hA11,outB_length];rfl,by show (F.a ct11e.fs [] [key,[]]).length=16;rw[hA11,outB_length]⟩,nofun⟩
theorem run5z:runE ct5z Tryz.f6 (callT tab5) [false,false,false,false]=some (⟨[(.var 91,0)],none,none⟩,
 [.n 91 (.seq 11 12),.a 12 (.sub 0 (.kst 0) (.kst 16)),.a 11 (.sub 10 (.kst 0) (.kst 16)),.a 10 (.fn 11 [] [8,9]),.a 9 (.lit []),.a 8 (.sub 7 (.kst 0) (.kst 32)),.n 90 (.len 7),.a 7 (.fn 17 [] [4,5,6]),.a 6 (.lit (vs 58 32)),.a 5 (.lit (vs 17 8++zs 8)),.a 4 (.lit (zs 32))] ++
  (fns 58 16 [] [2,3] 0 32++[.a 3 (.lit (vs 25 32)),.a 2 (.lit (vs 1 16)),.a 1 (.lit []),.n 57 (.cmp .lss (.var 0) (.kst 16))]),
 [.fits (.kst 0) (.kst 16) 0,.fits (.kst 0) (.kst 16) 10,.prd 11 [] [8,9],.fits (.kst 0) (.kst 32) 7,.le (.kst 16) (.var 0),.eq (.kst 16) (.var 0),.le (.var 0) (.var 0),.le (.kst 16) (.var 0),.le (.kst 32) (.var 90),.eq (.kst 32) (.var 90),.le (.var 90) (.var 90),.le (.kst 32) (.var 90),
  .prd 17 [] [4,5,6],.prd 16 [] [2,3],.eq (.kst 16) (.var 0),.le (.var 0) (.var 0),.le (.kst 16) (.var 0),.boo 57 false,.le (.kst 0) (.var 0)]):=by kernel_rfl
def ds5:List Df :=
 [.n 95 (.seq 13 14),.a 14 (.sub 0 (.kst 0) (.kst 16)),.a 13 (.sub 12 (.kst 0) (.kst 16)),.a 12 (.fn 11 [] [10,11]),.a 11 (.sub 0 (.kst 16) (.var 94)),.a 10 (.sub 9 (.kst 0) (.kst 32)),.n 94 (.lin (.var 0) (.kst 16) (-1)),.n 93 (.lin (.var 92) (.kst 32) (-1)),.n 92 (.len 9),
  .a 9 (.fn 17 [] [6,7,8]),.a 8 (.lit (vs 60 32)),.a 7 (.lit (vs 17 8++zs 8)),.a 6 (.sub 3 (.kst 0) (.var 59))] ++
  (fns 60 16 [] [4,5] 0 32++[.a 5 (.lit (vs 25 32)),.a 4 (.lit (vs 1 16)),.a 3 (.cat 2 1),.a 2 (.lit (zs 32)),.n 59 (.lin (.kst 32) (.var 58) 1),.a 1 (.sub 0 (.kst 16) (.var 58)),.n 58 (.lin (.var 0) (.kst 16) (-1)),.n 57 (.cmp .lss (.var 0) (.kst 16))])
def os5:List Ob :=
 [.fits (.kst 0) (.kst 16) 0,.fits (.kst 0) (.kst 16) 12,.prd 11 [] [10,11],.fits (.kst 16) (.var 94) 0,.fits (.kst 0) (.kst 32) 9,.le (.kst 16) (.var 0),.lt (.kst 16) (.var 0),.le (.var 0) (.var 0),.le (.kst 16) (.var 0),.le (.kst 32) (.var 92),.lt (.kst 32) (.var 92),.le (.var 92) (.var 92),.le (.kst 32) (.var 92),
  .prd 17 [] [6,7,8],.fits (.kst 0) (.var 59) 3,.prd 16 [] [4,5],.le (.var 59) (.kst 1099511627776),.lt (.kst 32) (.var 59),.fits (.kst 16) (.var 58) 0,.lt (.kst 16) (.var 0),.le (.var 0) (.var 0),.le (.kst 16) (.var 0),.boo 57 false,.le (.kst 0) (.var 0)]
def b5:Bk:={n:=0,rw:=true,cells:= .nil,arr:=some (.u8,9,true)}
theorem run5:(rawOf ct5 Tryz.f6 (callT tab5) [false,true,false,true,true]).map (fun r=>(r.1,r.2.bks.get 7,r.2.defs,r.2.obs))=some ([.sc (.sl 7 (.kst 32) (.var 93) none),.sc (.boo 95)],some b5,ds5,os5):=by kernel_rfl
theorem run5s:runE ct5s Tryz.f6 (callT tab5) [true]=some (⟨[],none,none⟩,[.n 57 (.cmp .lss (.var 0) (.kst 16))],[.boo 57 true,.le (.kst 0) (.var 0)]):=by kernel_rfl
theorem run5e:runE ct5e Tryz.f6 (callT tab5) []=some (⟨[],none,none⟩,[],[]):=by kernel_rfl
def P5 (_:List Int)(ls:List (List Int)):Prop :=
 match ls with
 | [box,_,_]=>Bytes box∧16<box.length∧box.length≤4096
 | _=>False
def P51 (_:List Int)(ls:List (List Int)):Prop :=
 match ls with
 | [box,_,_]=>Bytes box∧box.length=16
 | _=>False
def P52 (_:List Int)(ls:List (List Int)):Prop :=
 match ls with
 | [box,_,_]=>box.length<16
 | _=>False
noncomputable def I5 (_:List Int)(ls:List (List Int))(_:Nat):Int :=
 match ls with
 | [box,nonce,key]=>if tagOf box nonce key=box.take 16 then 1 else 0
 | _=>0
noncomputable def A5 (_:List Int)(ls:List (List Int)):List Int :=
 match ls with
 | [box,nonce,key]=>msgL box nonce key
 | _=>[]
structure F5 (F:Fns):Prop extends F12 F,Fsal F,F11 F where
 p16:∀is ls,F.p 16 is ls
 i16:F.i 16=I16
 p5:F.p 5=P5
 p51:F.p 51=P51
 p52:F.p 52=P52
 p123:∀is ls,F.p 123 is ls
 i5:F.i 5=I5
 a5:F.a 5=A5
theorem tab5_ok {F:Fns}(h:F5 F):TabOk F tab5:=by
 refine ⟨⟨by kernel_rfl,fun c hc=> ?_⟩,⟨by kernel_rfl,fun c hc=> ?_⟩,⟨by kernel_rfl,fun c hc=> ?_⟩,trivial⟩ <;> simp only[cD,dX,or_false] at hc
 ·rcases hc with rfl | rfl
  ·exact spec11 h.toF11
  ·exact spec11e h.toF11
 ·subst hc;exact spec16 h.i16 h.i25 h.p25
 ·subst hc;exact spec17 h.toFsal
theorem bytesOf_eq {A B:List Int}(hA:Bytes A)(hB:Bytes B):(bytesOf A==bytesOf B)=decide (A=B):=by
 have key:∀ {l m:List Int},Bytes l→Bytes m→bytesOf l=bytesOf m→l=m:=by
  intro l
  induction l with
  | nil=>intro m _ _ h;cases m with | nil=>rfl | cons _ _=>simp[bytesOf] at h
  | cons x l ih =>
   intro m hl hm h;cases m with
   | nil=>simp[bytesOf] at h
   | cons y m =>
    simp only[bytesOf,aI,List.cons.injEq] at h;have hx:=hl x aN;have hy:=hm y aN;have h1:x=y:=by have:=congrArg UInt8.toNat h.1;simp only[UInt8.toNat_ofNat'] at this;omega
    rw[h1,ih (fun z hz=>hl z (aJ _ hz)) (fun z hz=>hm z (aJ _ hz)) h.2]
 by_cases h:A=B;·rw [h];simp
 ·rw [bZ h];exact beq_eq_false_iff_ne.2 fun e=>h (key hA hB e)
section
variable {F:Fns} {N:Num} {box nonce key:List Int}
theorem sub5_law (hF:F5 F)(hf:N.f=F){x A B:Nat}(h:∀d∈fns x 16 [] [A,B] 0 32,d.sat N)(hA:N.a A=nonce.take 16)(hB:N.a B=key):∀j,j<32→N.i (x+j)=(subK nonce key).getD j 0:=fun j hj=>by
 rw[fns_sat h j hj,hf,hF.i16];simp only[aI,aK,hA,hB,bM];rfl
theorem ctr5 (h:∀j,j<24→N.i (1+j)=nonce.getD j 0)(ln:nonce.length=24):(vs 17 8++zs 8).map (·.ev N)=ctrN nonce :=
 vs_split (vs_map (L:=nonce.drop 16) (fun j hj=>by rw[show 17+j=1+(16+j) by omega,h _ (by omega),getD_dropK]) (by rw[aT];omega)) (zs_map 8) rfl
theorem nonce5 (h:∀j,j<24→N.i (1+j)=nonce.getD j 0)(ln:nonce.length=24):(vs 1 16).map (·.ev N)=nonce.take 16 :=
 vs_map (fun j hj=>by rw[h j (by omega),getD_takeK hj]) (by rw[bE];omega)
theorem ctrN_drop8 (ln:nonce.length=24):(ctrN nonce).drop 8=[0,0,0,0,0,0,0,0]:=by
 unfold ctrN;have:(nonce.drop 16).length=8:=by rw[aT];omega
 rw[List.drop_append,cF (by omega),this];rfl
theorem nums5 {ps:List Pa}(hps:numsL ps [] [box,nonce,key]=(box.length:Int)::(nonce++key)){nx na:Nat}(hag:Agr nx na (num0 F ps [] [box,nonce,key]) N)(hx:57≤nx)(ln:nonce.length=24)(lk:key.length=32) :
 N.i 0=box.length∧(∀ j,j<24→N.i (1+j)=nonce.getD j 0)∧∀j,j<32→N.i (25+j)=key.getD j 0 :=
 nums12 (s:=0) (pre:=[]) rfl (fun x hx'=>by rw[hag.i x (by omega)];show (numsL ps [] [box,nonce,key]).getD x 0=_;rw[hps];rfl) ln lk
end
theorem spec5s {F:Fns}(hF:F5 F):CSpec Tryz.prog F 6 ct5s:=by
 refine fG (eU (tab5_ok hF)) Tryz.func6 (by kernel_rfl) (by kernel_rfl) (by kernel_rfl) run5s (by kernel_rfl) fun is ls N hs hp hag hf hd=> ?_
 obtain rfl:=eV rfl hs
 match ls,hs with
 | [box,nonce,key],hs =>
 obtain ⟨ln,lk,-⟩:=hs;have hp:box.length<16:=by
  have:P52 [] [box,nonce,key]:=by rw[←hF.p52];exact hp
  exact this
 obtain ⟨hl,-,-⟩:=nums5 (by simp only[ct5s,ct5,numsL,bJ]) hag (by decide) ln lk;simp only[aC,Df.sat,Nd.ev,Ar.ev,hl] at hd;refine ⟨?_,⟨nofun,trivial,trivial⟩,nofun⟩;simp only[aC,Ob.holds,Ar.ev,hl,hd.1,icmp];exact ⟨fL (bS (by omega)),by omega,nofun⟩
theorem spec5e {F:Fns}(hF:F5 F):CSpec Tryz.prog F 6 ct5e :=
 fG (eU (tab5_ok hF)) Tryz.func6 (by kernel_rfl) (by kernel_rfl) (by kernel_rfl) run5e (by kernel_rfl) fun is ls N hs hp hag hf hd=>by
  obtain rfl:=eV rfl hs
  match ls,hs with
  | [_,_,_],_=>exact ⟨nofun,⟨nofun,trivial,trivial⟩,nofun⟩
theorem spec5z {F:Fns}(hF:F5 F):CSpec Tryz.prog F 6 ct5z:=by
 refine fG (eU (tab5_ok hF)) Tryz.func6 (by kernel_rfl) (by kernel_rfl) (by kernel_rfl) run5z (by kernel_rfl) fun is ls N hs hp hag hf hd=> ?_
 obtain rfl:=eV rfl hs
 match ls,hs with
 | [box,nonce,key],hs =>
 obtain ⟨ln,lk,-⟩:=hs;have hp:Bytes box∧box.length=16:=by
  have:P51 [] [box,nonce,key]:=by rw[←hF.p51];exact hp
  exact this
 obtain ⟨hB,h16⟩:=hp;obtain ⟨hl,hn,hk⟩:=nums5 (by simp only[ct5z,ct5,numsL,bJ]) hag (by decide) ln lk;have hb:N.a 0=box:=hag.a 0 (by decide);simp only[cB,aC] at hd;obtain ⟨⟨q91,w12,w11,w10,w9,w8,q90,w7,w6,w5,w4,-⟩,hfn,w3,w2,w1,q57,-⟩:=hd;have w3:N.a 3=key:=dF w3 (vs_map hk lk);have w2:N.a 2=nonce.take 16:=dF w2 (nonce5 hn ln);have hsub:=sub5_law hF hf hfn w2 w3;have w6:N.a 6=subK nonce key:=dF w6 (vs_map hsub (subK_length _ _))
 have w5:N.a 5=ctrN nonce:=dF w5 (ctr5 hn ln);have w4:N.a 4=List.replicate 32 0:=dF w4 (zs_map 32);have w9:N.a 9=[]:=w9;have w7:N.a 7=streamL (List.replicate 32 0++[]) (ctrN nonce) (subK nonce key):=by have:N.a 7=N.f.a 17 [] [N.a 4,N.a 5,N.a 6]:=w7;rw[this,hf,hF.a17,w4,w5,w6];rfl
 have l7:(N.a 7).length=32:=by rw[w7,gY];rfl
 have w8:N.a 8=(fbL nonce key).take 32:=by have:N.a 8=((N.a 7).drop 0).take 32:=w8;rw[this,bW,w7,str_first ln]
 have e0:box.drop 16=[]:=cF (by omega);have w10:N.a 10=tagOf box nonce key:=by have:N.a 10=N.f.a 11 [] [N.a 8,N.a 9]:=w10;rw[this,hf,hF.a11,w8,w9,←e0];rfl
 have hT:tagOf box nonce key=tagL ((fbL nonce key).take 32) (box.drop 16):=rfl;have l10:(N.a 10).length=16:=by rw[w10];exact tagL_length _ _
 have w11:N.a 11=tagOf box nonce key:=by have:N.a 11=((N.a 10).drop 0).take 16:=w11;rw[this,bW,bO (by omega),w10]
 have w12:N.a 12=box.take 16:=by have:N.a 12=((N.a 0).drop 0).take 16:=w12;rw[this,bW,hb]
 have q91:N.i 91=if tagOf box nonce key=box.take 16 then 1 else 0:=by
  have:N.i 91=bif bytesOf (N.a 11)==bytesOf (N.a 12) then 1 else 0:=q91;rw[this,w11,w12,bytesOf_eq (show Bytes (tagOf box nonce key) from tagL_bytes _ _) (hB.take 16)];by_cases h:tagOf box nonce key=box.take 16;·rw [bG h,bS h];rfl
  ·rw [bC h,bZ h];rfl
 have q90:N.i 90=32:=by have:N.i 90=((N.a 7).length:Nat):=q90;rw[this,l7];rfl
 have q57:N.i 57=bif icmp .lss (N.i 0) 16 then 1 else 0:=q57;rw[hl] at q57;have o1:(Ob.prd 11 [] [8,9]).holds N:=by show N.f.p 11 [] [N.a 8,N.a 9];rw[hf,hF.p11,w8,w9];exact ⟨nofun,Bytes.take (xorL_bytes _ _ _) 32,dK _⟩
 have o2:(Ob.prd 17 [] [4,5,6]).holds N:=by show N.f.p 17 [] [N.a 4,N.a 5,N.a 6];rw[hf,hF.p17,w4,w5,w6];exact ⟨by rw[aW];decide,by rw[aW];decide,ctrN_drop8 ln⟩
 have o3:(Ob.prd 16 [] [2,3]).holds N:=by show N.f.p 16 [] _;rw[hf];exact hF.p16 _ _
 refine ⟨?_,⟨fun p hp=> ?_,trivial,trivial⟩,nofun⟩
 ·simp only[aC];refine ⟨?_,?_,o1,?_,?_,?_,?_,?_,?_,?_,?_,?_,o2,o3,?_,?_,?_,?_,?_,nofun⟩
  all_goals simp only[Ob.holds,Ar.ev,hl,hb,l7,l10,q90,q57,icmp]
  all_goals first | omega | exact gR (bZ (by omega))
 ·simp only[aX] at hp;subst hp;show N.i 91=F.i 5 _ _ 0;rw[hF.i5,q91];rfl
theorem spec5 {F:Fns}(hF:F5 F):CSpec Tryz.prog F 6 ct5:=by
 refine gA (args:=argsOf ct5) (σe:=stOf ct5) rfl Tryz.func6 (fM (by kernel_rfl)) (by kernel_rfl) (by kernel_rfl) fun is ls ws we Ee a hs hp hent hat=> ?_
 obtain rfl:=eV rfl hs
 match ls,hs with
 | [box,nonce,key],hs =>
 obtain ⟨ln,lk,-⟩:=hs;have hp:Bytes box∧16<box.length∧box.length≤4096:=by
  have:P5 [] [box,nonce,key]:=by rw[←hF.p5];exact hp
  exact this
 obtain ⟨hB,h16,h4⟩:=hp;have hws:rwW ct5.ps ws=none∧grW ct5.ps ws=none:=by
  refine ⟨?_,grW_none rfl⟩;obtain ⟨us,hA⟩:=hent.args;cases hA with
  | sl _ _ _ h1=>cases h1 with
   | agg _ h2=>cases h2 with
    | agg _ h3=>cases h3;rfl
 obtain ⟨⟨vs0,σ2⟩,hraw,hproj⟩:=aV.1 run5;simp only[aD] at hproj;obtain ⟨rfl,hb7,hds,hos⟩:=hproj;refine to_raw (eU (tab5_ok hF)) hraw (by kernel_rfl) hat fun N hag hf hd=> ?_
 rw[hds] at hd;rw[hos];obtain ⟨hl,hn,hk⟩:=nums5 (by simp only[ct5,numsL,bJ]) hag (by decide) ln lk;have hb:N.a 0=box:=hag.a 0 (by decide);simp only[ds5,cB,aC] at hd;obtain ⟨⟨q95,w14,w13,w12,w11,w10,q94,q93,q92,w9,w8,w7,w6,-⟩,hfn,w5,w4,w3,w2,q59,w1,q58,q57,-⟩:=hd;have w5:N.a 5=key:=dF w5 (vs_map hk lk);have w4:N.a 4=nonce.take 16:=dF w4 (nonce5 hn ln);have hsub:=sub5_law hF hf hfn w4 w5;have w8:N.a 8=subK nonce key:=dF w8 (vs_map hsub (subK_length _ _))
 have w7:N.a 7=ctrN nonce:=dF w7 (ctr5 hn ln);have w2:N.a 2=List.replicate 32 0:=dF w2 (zs_map 32);simp only[Df.sat,Nd.ev,Ad.ev,Ar.ev,hl,hb] at q57 q58 q59 q93 q94 w1 w11 w14;have q58:N.i 58=((box.length-16:Nat):Int):=by rw[q58];omega
 have q59:N.i 59=((32+(box.length-16):Nat):Int):=by rw[q59,q58];omega
 have q94:N.i 94=((box.length-16:Nat):Int):=by rw[q94];omega
 have ld:(box.drop 16).length=box.length-16:=aT;have w1:N.a 1=box.drop 16:=by rw[w1,q58,bD];show (box.drop 16).take _=_;rw[bO (by omega)]
 have w3:N.a 3=List.replicate 32 0++box.drop 16:=by have:N.a 3=N.a 2++N.a 1:=w3;rw[this,w2,w1]
 have l3:(N.a 3).length=32+(box.length-16):=by rw[w3,aO,aW,ld]
 have w6:N.a 6=List.replicate 32 0++box.drop 16:=by have:N.a 6=((N.a 3).drop 0).take (N.i 59).toNat:=w6;rw[this,q59,bD,bW,bO (by omega),w3]
 have w9:N.a 9=streamL (List.replicate 32 0++box.drop 16) (ctrN nonce) (subK nonce key):=by have:N.a 9=N.f.a 17 [] [N.a 6,N.a 7,N.a 8]:=w9;rw[this,hf,hF.a17,w6,w7,w8];rfl
 have l9:(N.a 9).length=32+(box.length-16):=by rw[w9,gY,aO,aW,ld]
 have w10:N.a 10=(fbL nonce key).take 32:=by have:N.a 10=((N.a 9).drop 0).take 32:=w10;rw[this,bW,w9,str_first ln]
 have w11:N.a 11=box.drop 16:=by rw[w11,q94,bD];show (box.drop 16).take _=_;rw[bO (by omega)]
 have w12:N.a 12=tagOf box nonce key:=by have:N.a 12=N.f.a 11 [] [N.a 10,N.a 11]:=w12;rw[this,hf,hF.a11,w10,w11];rfl
 have l12:(N.a 12).length=16:=by rw[w12];exact tagL_length _ _
 have w13:N.a 13=tagOf box nonce key:=by have:N.a 13=((N.a 12).drop 0).take 16:=w13;rw[this,bW,bO (by omega),w12]
 have w14:N.a 14=box.take 16:=w14;have q95:N.i 95=if tagOf box nonce key=box.take 16 then 1 else 0:=by
  have:N.i 95=bif bytesOf (N.a 13)==bytesOf (N.a 14) then 1 else 0:=q95;rw[this,w13,w14,bytesOf_eq (show Bytes (tagOf box nonce key) from tagL_bytes _ _) (hB.take 16)];by_cases h:tagOf box nonce key=box.take 16;·rw [bG h,bS h];rfl
  ·rw [bC h,bZ h];rfl
 have q92:N.i 92=((32+(box.length-16):Nat):Int):=by have:N.i 92=((N.a 9).length:Nat):=q92;rw[this,l9]
 rw[q92] at q93;have q93:N.i 93=((box.length-16:Nat):Int):=by rw[q93];omega
 have o1:(Ob.prd 11 [] [10,11]).holds N:=by show N.f.p 11 [] [N.a 10,N.a 11];rw[hf,hF.p11,w10,w11];exact ⟨hB.drop 16,Bytes.take (xorL_bytes _ _ _) 32,by omega⟩
 have o2:(Ob.prd 17 [] [6,7,8]).holds N:=by show N.f.p 17 [] [N.a 6,N.a 7,N.a 8];rw[hf,hF.p17,w6,w7,w8];exact ⟨by rw[aO,aW];omega,by rw[aO,aW,ld];omega,ctrN_drop8 ln⟩
 have o3:(Ob.prd 16 [] [4,5]).holds N:=by show N.f.p 16 [] _;rw[hf];exact hF.p16 _ _
 refine ⟨?_,fun E' w' u hu hp=> ?_⟩
 ·simp only[os5,aC];refine ⟨?_,?_,o1,?_,?_,?_,?_,?_,?_,?_,?_,?_,?_,o2,?_,o3,?_,?_,?_,?_,?_,?_,?_,?_,nofun⟩
  all_goals simp only[Ob.holds,Ar.ev,hl,hb,l3,l9,l12,q58,q59,q92,q94,q57,icmp]
  all_goals first | omega | exact gR (bZ (by omega))
 ·obtain ⟨us,hd,rfl⟩:=resV_den_inv hu;obtain ⟨u1,r1,d1,hd1,rfl⟩:=denL1_cons.1 hd;obtain ⟨u2,r2,d2,hd2,rfl⟩:=denL1_cons.1 hd1;simp only[denL1,aA] at hd2;subst hd2;have d2:some (Value.bool (!(N.i 95==0)))=some u2:=d2;simp only[aA] at d2;obtain ⟨q',s',c',arr,el,fz,f1,f2,f3,f4,f5⟩:=hp.bw.at' 7 b5 hb7;have:=f3 rfl;subst this;obtain ⟨_,_,_,m1,g1,_,rfl,g2,g3⟩:=gC (v1sc d1);rw[f1] at g1;simp only[aA,aD] at g1;obtain ⟨rfl,rfl,rfl⟩:=g1
  have g3:=g3 rfl;simp only[capOf,Ar.ev,q93,bD] at g2 g3 ⊢;have e32:(32:Int).toNat=32:=rfl;rw[e32] at g2 g3 ⊢;subst g2;have hmax:Nat.max c' (32+(box.length-16))=c':=Nat.max_eq_left g3;simp only[b5,Bk.wid,Bk.cont,aH,l9,hmax] at f4 f5;obtain ⟨f5,f6⟩:=f5;have nob:∀i B,(stOf ct5).bks.get i=some B→B.rw=true→False:=fun i B e1 e2=>by
   have hs:(stOf ct5).bks=Tr.nil.set 0 {n:=0,rw:=false,cells:= .nil,arr:=some (.u8,0,false)}:=rfl;rw[hs,fA] at e1;split at e1;·simp only[aA] at e1;subst e1;cases e2
   ·cases e1
  have hqs:we.heap.size≤q':=by
   rcases bL q' we.heap.size with hlt | hge
   ·obtain ⟨i0,B0,s0,c0,k1,k2,_⟩:=hp.win 7 b5 q' s' c' hb7 rfl f1 hlt;exact (nob i0 B0 k1 k2).elim
   ·exact hge
  have hA5:F.a 5 [] [box,nonce,key]=msgL box nonce key:=by rw[hF.a5];rfl
  have hml:=msgL_length box nonce key;refine ⟨_,rfl,we,[_,_],_,rfl,by rw[hws.1],?_,⟨?_,fun _ e=>by cases e⟩,⟨rfl,?_,trivial⟩⟩
  ·rw [hws.2];exact ⟨hp.kept.os,hp.kept.tape,hp.kept.output,hp.kept.size,fun q hq _=>hp.kept.block q hq (fun i B s c e1 e2 _=>nob i B e1 e2),fun y _ _ _ e=>by cases e⟩
  ·show Fresh _ _ _ _ (F.a 5 [] [box,nonce,key]) _;rw[hA5];refine ⟨q',s'+32,c'-32,arr,el,by rw[hml],by rw[hml];omega,.inl hqs,f2,by omega,fun j v hj=> ?_,fun j h1 h2=> ?_⟩
   ·rw [←str_msg ln,cH,←w9] at hj;have:=f5 _ v hj
    rwa [←dD] at this
   ·rw [hml] at h1;have:=f6 trivial (32+j) (by omega) (by omega)
    rwa [←dD] at this
  ·show u2= .bool (!(F.i 5 [] [box,nonce,key] 0==0));rw[←d2,q95,hF.i5];rfl
theorem run8a:runE (ct8 sl8 sl8 sl8) Tryz.f9 (callT []) []=some (⟨[(.var 5,0)],none,none⟩,[.n 5 (.seq 3 6),.a 6 (.cat 4 5),.n 4 (.len 5),.n 3 (.len 4),.a 5 (.sub 2 (.kst 0) (.var 2)),.a 4 (.sub 1 (.kst 0) (.var 1)),.a 3 (.sub 0 (.kst 0) (.var 0))],
 [.le (.var 4) (.kst 1099511627776),.le (.var 3) (.kst 1099511627776),.fits (.kst 0) (.var 2) 2,.fits (.kst 0) (.var 1) 1,.fits (.kst 0) (.var 0) 0]):=by kernel_rfl
theorem run8b:runE (ct8 sl8 (.kst nilV) sl8) Tryz.f9 (callT []) []=some (⟨[(.var 4,0)],none,none⟩,[.n 4 (.seq 2 5),.a 5 (.cat 4 3),.n 3 (.len 3),.n 2 (.len 4),.a 4 (.lit []),.a 3 (.sub 1 (.kst 0) (.var 1)),.a 2 (.sub 0 (.kst 0) (.var 0))],
 [.le (.var 3) (.kst 1099511627776),.le (.var 2) (.kst 1099511627776),.fits (.kst 0) (.var 1) 1,.fits (.kst 0) (.var 0) 0]):=by kernel_rfl
theorem run8c:runE (ct8 sl8 sl8 .emp) Tryz.f9 (callT []) []=some (⟨[(.var 4,0)],none,none⟩,[.n 4 (.seq 2 5),.a 5 (.cat 3 4),.n 3 (.len 4),.n 2 (.len 3),.a 4 (.lit []),.a 3 (.sub 1 (.kst 0) (.var 1)),.a 2 (.sub 0 (.kst 0) (.var 0))],
 [.le (.var 3) (.kst 1099511627776),.le (.var 2) (.kst 1099511627776),.fits (.kst 0) (.var 1) 1,.fits (.kst 0) (.var 0) 0]):=by kernel_rfl
theorem run8d:runE (ct8 .emp (.kst nilV) .emp) Tryz.f9 (callT []) []=some (⟨[(.var 2,0)],none,none⟩,[.n 2 (.seq 3 2),.a 3 (.lit []),.a 2 (.cat 0 1),.n 1 (.len 1),.n 0 (.len 0),.a 1 (.lit []),.a 0 (.lit [])],
 [.le (.var 1) (.kst 1099511627776),.le (.var 0) (.kst 1099511627776)]):=by kernel_rfl
theorem run8f:runE ct8f Tryz.f9 (callT []) []=some (⟨[],none,none⟩,[],[]):=by kernel_rfl
def P8 (_:List Int)(ls:List (List Int)):Prop:=∀l∈ls,Bytes l∧l.length≤1099511627776
def I8 (_:List Int)(ls:List (List Int))(_:Nat):Int :=
 match ls with
 | [got,want]=>if got=want then 1 else 0
 | [got,ahead,want]=>if got=ahead++want then 1 else 0
 | _=>0
structure F8 (F:Fns):Prop extends F5 F where
 p8:F.p 8=P8
 i8:F.i 8=I8
 i9:F.i 9=fun _ _ _=>1
 p3:F.p 3=fun _ ls=>match ls with
  | [box,_,_]=>Bytes box
  | [ahead,box,_,_]=>Bytes ahead∧Bytes box
  | [_,_]=>True
  | _=>False
section
variable {F:Fns}
theorem spec8f (_hF:F8 F):CSpec Tryz.prog F 9 ct8f :=
 fG (eU (tab:=[]) trivial) Tryz.func9 (by kernel_rfl) (by kernel_rfl) (by kernel_rfl) run8f (by kernel_rfl) fun is ls N hs hp hag hf hd=>by
  obtain rfl:=eV rfl hs
  match ls,hs with
  | [],_=>exact ⟨nofun,⟨nofun,trivial,trivial⟩,nofun⟩
theorem dec8 {A B:List Int}(hA:Bytes A)(hB:Bytes B):(bif bytesOf A==bytesOf B then (1:Int) else 0)=if A=B then 1 else 0:=by
 rw[bytesOf_eq hA hB];by_cases h:A=B;·rw [bG h,bS h];rfl
 ·rw [bC h,bZ h];rfl
theorem sub8 {L:List Int}{x:Int}(h:x=(L.length:Nat)):(L.drop (Int.toNat 0)).take x.toNat=L:=by
 rw[h,bD];exact cS
theorem spec8a (hF:F8 F):CSpec Tryz.prog F 9 (ct8 sl8 sl8 sl8):=by
 refine fG (eU (tab:=[]) trivial) Tryz.func9 (by kernel_rfl) (by kernel_rfl) (by kernel_rfl) run8a (by kernel_rfl) fun is ls N hs hp hag hf hd=> ?_
 obtain rfl:=eV rfl hs
 match ls,hs with
 | [got,ahead,want],_ =>
 have hp:P8 [] [got,ahead,want]:=by rw[←hF.p8];exact hp
 simp only[P8,aC] at hp;obtain ⟨⟨b1,c1⟩,⟨b2,c2⟩,⟨b3,c3⟩,-⟩:=hp;have e0:N.i 0=(got.length:Nat):=hag.i 0 (by decide);have e1:N.i 1=(ahead.length:Nat):=hag.i 1 (by decide);have e2:N.i 2=(want.length:Nat):=hag.i 2 (by decide);have a0:N.a 0=got:=hag.a 0 (by decide);have a1:N.a 1=ahead:=hag.a 1 (by decide);have a2:N.a 2=want:=hag.a 2 (by decide);simp only[aC,Df.sat,Nd.ev,Ad.ev,Ar.ev,a0,a1,a2] at hd;obtain ⟨q5,w6,q4,q3,w5,w4,w3,-⟩:=hd
 rw[sub8 e0] at w3;rw[sub8 e1] at w4;rw[sub8 e2] at w5;rw[w4,w5] at w6;rw[w5] at q4;rw[w4] at q3;have bb:Bytes (ahead++want):=fun x hx=>by
  rcases cX.1 hx with h | h
  ·exact b2 x h
  ·exact b3 x h
 rw[w3,w6,dec8 b1 bb] at q5;refine ⟨?_,⟨fun p hp=> ?_,trivial,trivial⟩,nofun⟩
 ·simp only[aC,Ob.holds,Ar.ev,a0,a1,a2,e0,e1,e2,q3,q4];exact ⟨by omega,by omega,by omega,by omega,by omega,nofun⟩
 ·simp only[aX] at hp;subst hp;show N.i 5=F.i 8 _ _ 0;rw[hF.i8,q5];rfl
theorem spec8b (hF:F8 F):CSpec Tryz.prog F 9 (ct8 sl8 (.kst nilV) sl8):=by
 refine fG (eU (tab:=[]) trivial) Tryz.func9 (by kernel_rfl) (by kernel_rfl) (by kernel_rfl) run8b (by kernel_rfl) fun is ls N hs hp hag hf hd=> ?_
 obtain rfl:=eV rfl hs
 match ls,hs with
 | [got,want],_ =>
 have hp:P8 [] [got,want]:=by rw[←hF.p8];exact hp
 simp only[P8,aC] at hp;obtain ⟨⟨b1,c1⟩,⟨b3,c3⟩,-⟩:=hp;have e0:N.i 0=(got.length:Nat):=hag.i 0 (by decide);have e1:N.i 1=(want.length:Nat):=hag.i 1 (by decide);have a0:N.a 0=got:=hag.a 0 (by decide);have a1:N.a 1=want:=hag.a 1 (by decide);simp only[aC,Df.sat,Nd.ev,Ad.ev,Ar.ev,aK,a0,a1] at hd;obtain ⟨q4,w5,q3,q2,w4,w3,w2,-⟩:=hd;rw[sub8 e0] at w2;rw[sub8 e1] at w3;rw[w4,w3,cC] at w5;rw[w3] at q3;rw[w4] at q2;rw[w2,w5,dec8 b1 b3] at q4
 refine ⟨?_,⟨fun p hp=> ?_,trivial,trivial⟩,nofun⟩
 ·simp only[aC,Ob.holds,Ar.ev,a0,a1,e0,e1,q3,q2];exact ⟨by omega,by decide,by omega,by omega,nofun⟩
 ·simp only[aX] at hp;subst hp;show N.i 4=F.i 8 _ _ 0;rw[hF.i8,q4];rfl
theorem spec8c (hF:F8 F):CSpec Tryz.prog F 9 (ct8 sl8 sl8 .emp):=by
 refine fG (eU (tab:=[]) trivial) Tryz.func9 (by kernel_rfl) (by kernel_rfl) (by kernel_rfl) run8c (by kernel_rfl) fun is ls N hs hp hag hf hd=> ?_
 obtain rfl:=eV rfl hs
 match ls,hs with
 | [got,ahead,want],hs =>
 obtain ⟨rfl,-⟩:=hs;have hp:P8 [] [got,ahead,[]]:=by rw[←hF.p8];exact hp
 simp only[P8,aC] at hp;obtain ⟨⟨b1,c1⟩,⟨b2,c2⟩,-⟩:=hp;have e0:N.i 0=(got.length:Nat):=hag.i 0 (by decide);have e1:N.i 1=(ahead.length:Nat):=hag.i 1 (by decide);have a0:N.a 0=got:=hag.a 0 (by decide);have a1:N.a 1=ahead:=hag.a 1 (by decide);simp only[aC,Df.sat,Nd.ev,Ad.ev,Ar.ev,aK,a0,a1] at hd;obtain ⟨q4,w5,q3,q2,w4,w3,w2,-⟩:=hd;rw[sub8 e0] at w2;rw[sub8 e1] at w3;rw[w4,w3,bJ] at w5;rw[w4] at q3;rw[w3] at q2;rw[w2,w5,dec8 b1 b2] at q4
 refine ⟨?_,⟨fun p hp=> ?_,trivial,trivial⟩,nofun⟩
 ·simp only[aC,Ob.holds,Ar.ev,a0,a1,e0,e1,q3,q2];exact ⟨by decide,by omega,by omega,by omega,nofun⟩
 ·simp only[aX] at hp;subst hp;show N.i 4=F.i 8 _ [got,ahead,[]] 0;rw[hF.i8,q4];show _=if got=ahead++[] then (1:Int) else 0
  rw[bJ]
theorem spec8d (hF:F8 F):CSpec Tryz.prog F 9 (ct8 .emp (.kst nilV) .emp):=by
 refine fG (eU (tab:=[]) trivial) Tryz.func9 (by kernel_rfl) (by kernel_rfl) (by kernel_rfl) run8d (by kernel_rfl) fun is ls N hs hp hag hf hd=> ?_
 obtain rfl:=eV rfl hs
 match ls,hs with
 | [got,want],hs =>
 obtain ⟨rfl,rfl,-⟩:=hs;simp only[aC,Df.sat,Nd.ev,Ad.ev,Ar.ev,aK] at hd;obtain ⟨q2,w3,w2,q1,q0,w1,w0,-⟩:=hd;rw[w0] at q0;rw[w1] at q1;rw[w3,w2,w0,w1] at q2;refine ⟨?_,⟨fun p hp=> ?_,trivial,trivial⟩,nofun⟩
 ·simp only[aC,Ob.holds,Ar.ev,q0,q1];exact ⟨by decide,by decide,nofun⟩
 ·simp only[aX] at hp;subst hp;show N.i 2=F.i 8 _ [[],[]] 0;rw[hF.i8,q2];rfl
end
end Go.Proofs.YtnfikgagkamioaaGreatDoor.S
