/- spec.lowered does as its contract says. -/
import Derived.Test.YtnfikgagkamioaaGreatDoorSf18
namespace Go.Proofs.YtnfikgagkamioaaGreatDoor.S
open Go.Sy
def P19 (_:List Int)(ls:List (List Int)):Prop :=
 match ls with
 | [l]=>Wide l
 | _=>False
def I19 (_:List Int)(ls:List (List Int))(j:Nat):Int :=
 match ls with
 | [l]=>(digs 9 (valD l%pP)).getD j 0
 | _=>0
structure A19a (N:Num) (V0:Int) (k:Nat):Prop where
 w:Wide [N.i 0,N.i 1,N.i 2,N.i 3,N.i 4,N.i 5,N.i 6,N.i 7,N.i 8]
 c:0≤N.i 9
 red:N.i 9=0→(N.i 0<65536∧N.i 1<65536∧N.i 2<65536∧N.i 3<65536∧N.i 4<65536∧N.i 5<65536∧N.i 6<65536∧N.i 7<65536∧N.i 8<4)
 v:valD [N.i 0,N.i 1,N.i 2,N.i 3,N.i 4,N.i 5,N.i 6,N.i 7,N.i 8]%pP=V0%pP
 k:2*(valD [N.i 0,N.i 1,N.i 2,N.i 3,N.i 4,N.i 5,N.i 6,N.i 7,N.i 8]).toNat+(if N.i 9=0 then 0 else 1)≤k
theorem A19a.agr {N N':Num}{V0:Int}{k:Nat}(h:Agr s19a.nx s19a.na N N')(hA:A19a N V0 k):A19a N' V0 k:=by
 have e:∀x,x<19→N'.i x=N.i x:=h.i;obtain ⟨w,c,r,v,k⟩:=hA;refine ⟨?_,?_,?_,?_,?_⟩ <;> simp only[e 0 (by decide),e 1 (by decide),e 2 (by decide),e 3 (by decide),e 4 (by decide),e 5 (by decide),e 6 (by decide),e 7 (by decide),e 8 (by decide),e 9 (by decide)] <;> assumption
theorem zipJ_of' {N:Num}{M:List Int}{l:List Ar}(h:l.map (·.ev N)=M)(p:Ar×Nat)(hp:p∈zipJ l 0):p.1.ev N=M.getD p.2 0:=by
 have key:∀ {l:List Ar} {j:Nat} {M:List Int},l.map (·.ev N)=M→∀p∈zipJ l j,j≤p.2∧p.1.ev N=M.getD (p.2-j) 0:=by
  intro l
  induction l with
  | nil=>intro j M _ p hp;cases hp
  | cons a l ih =>
   intro j M h p hp;subst h;rcases cD.1 hp with rfl | hp
   ·exact ⟨aS _,by simp⟩
   ·obtain ⟨h1,h2⟩:=ih (j:=j+1) rfl p hp;refine ⟨by omega,?_⟩;rw[h2,show p.2-j=(p.2-(j+1))+1 by omega];rfl
 exact (key h p hp).2
theorem settle_law {l0 l1 l2 l3 l4 l5 l6 l7 l8 d0 d1 d2 d3 d4 d5 d6 d7 d8 c1 c2 c3 c4 c5 c6 c7 c8 c9:Int}(h0:0+l0=d0+65536*c1)(h1:c1+l1=d1+65536*c2)(h2:c2+l2=d2+65536*c3)(h3:c3+l3=d3+65536*c4)(h4:c4+l4=d4+65536*c5)(h5:c5+l5=d5+65536*c6)(h6:c6+l6=d6+65536*c7)(h7:c7+l7=d7+65536*c8)(h8:c8+l8=d8+4*c9) :
 valD [d0+5*c9,d1,d2,d3,d4,d5,d6,d7,d8]=valD [l0,l1,l2,l3,l4,l5,l6,l7,l8]-c9*pP:=by
 simp only[valD,pP];omega
theorem valD_nonneg {l:List Int}(h:∀d∈l,0≤d):0≤valD l:=by
 induction l with
 | nil=>exact bK _
 | cons d l ih =>have h1:=h d aN;have h2:=ih (fun x hx=>h x (aJ _ hx));simp only[valD];omega
theorem wide_nonneg {l:List Int}(h:Wide l):0≤valD l:=by
 match l,h with
 | [a,b,c,d,e,f,g,i,j],h =>obtain ⟨ha,hb,hc,hd,he,hf,hg,hi,hj⟩:=h;simp only[valD];omega
theorem b48 {d e:Int}(x0:0≤d∧d<65536)(z8:0≤e∧e<288371113640067072):0≤d+5*e∧d+5*e<4611686018427387904:=by omega
theorem meas {V V' c9 c:Int}(h0:0≤V')(hV:V'=V-c9*pP)(hc:0<c)(hc9:0≤c9):2*V'.toNat+(if c9=0 then 0 else 1)<2*V.toNat+(if c=0 then 0 else 1):=by
 have hp:(0:Int)<pP:=by decide
 rw[bC (by omega:¬c=0)];by_cases h:c9=0;·rw [bG h];subst h;rw[Int.zero_mul,Int.sub_zero] at hV;subst hV;omega
 ·rw [bC h];have:c9*pP≥1*pP:=Int.mul_le_mul_of_nonneg_right (by omega) (Int.le_of_lt hp);omega
set_option maxHeartbeats 1000000 in
theorem rnd19 {F:Fns}{Ne:Num}{Ee:Env}{we:World}(hI:Inv Ee (stOf ct19)){N:Num}{V0:Int}{k:Nat}{a:Act}{w:World}(hat:At F Tryz.f33.ntmps Ne Ee (stOf ct19) we T19a s19a N a w)(hA:A19a N V0 k)(hc:0<N.i 9){K:Act→World→Prop}{Q:Exit→Act→World→Prop}
 (H:∀N' k' a' w',k'<k→A19a N' V0 k'→At F Tryz.f33.ntmps Ne Ee (stOf ct19) we T19a s19a N' a' w'→K a' w') :
 (loopAt 33 2).1.wp Tryz.prog (Exit.then K (wpK Tryz.prog (loopAt 33 2).2 Q)) a w:=by
 refine gI hm (eU (F:=F) (tab:=[]) trivial) r19a (by kernel_rfl) rfl rfl hat hI fun M hag hf hd=> ?_
 have e9:M.i 9=N.i 9:=hag.i 9 (by decide);rw[←e9] at hc;obtain ⟨⟨b0,b1,b2,b3,b4,b5,b6,b7,b8⟩,-,-,hv,hk⟩:=hA.agr hag;clear hag hat hA;simp only[aC,Df.sat,Nd.ev,Ar.ev] at hd;obtain ⟨q48,q47,q46,q45,q44,q43,q42,q41,q40,q39,q38,q37,q36,q35,q34,q33,q32,q31,q30,q29,q28,q27,q26,q25,q24,q23,q22,q21,q20,q19,-⟩:=hd;obtain ⟨x0,z0,y0⟩:=stp (c:=0) (by decide) b0 q20 q21 q22;obtain ⟨x1,z1,y1⟩:=stp z0 b1 q23 q24 q25;obtain ⟨x2,z2,y2⟩:=stp z1 b2 q26 q27 q28
 obtain ⟨x3,z3,y3⟩:=stp z2 b3 q29 q30 q31;obtain ⟨x4,z4,y4⟩:=stp z3 b4 q32 q33 q34;obtain ⟨x5,z5,y5⟩:=stp z4 b5 q35 q36 q37;obtain ⟨x6,z6,y6⟩:=stp z5 b6 q38 q39 q40;obtain ⟨x7,z7,y7⟩:=stp z6 b7 q41 q42 q43;obtain ⟨x8,z8,y8⟩:=stp4 z7 b8 q44 q45 q46;have h48:=stp5 x0 z8 q47 q48;have main:=settle_law y0 y1 y2 y3 y4 y5 y6 y7 y8;rw[←h48] at main;have bd:0≤M.i 48∧M.i 48<4611686018427387904:=by rw[h48];exact b48 x0 z8
 have w16:∀ {x:Int},0≤x∧x<65536→0≤x∧x<4611686018427387904:=fun h=>⟨h.1,dH h.2 (by decide)⟩
 have hw:Wide [M.i 48,M.i 24,M.i 27,M.i 30,M.i 33,M.i 36,M.i 39,M.i 42,M.i 45]:=⟨bd,w16 x1,w16 x2,w16 x3,w16 x4,w16 x5,w16 x6,w16 x7,⟨x8.1,dH x8.2 (by decide)⟩⟩
 refine ⟨?_,fun p1 p2 hat2=>H _ _ p1 p2 (dN (meas (wide_nonneg hw) main hc z8.1) hk) ⟨hw,z8.1,fun h=> ?_,?_,aS _⟩ hat2⟩
 ·simp only[aC,Ob.holds];exact ⟨by rw[q19];exact fL (bS hc),nofun⟩
 ·have h46:M.i 46=0:=h;refine ⟨?_,x1.2,x2.2,x3.2,x4.2,x5.2,x6.2,x7.2,x8.2⟩;show M.i 48<65536;rw[h48,h46];simpa using x0.2
 ·show valD [M.i 48,M.i 24,M.i 27,M.i 30,M.i 33,M.i 36,M.i 39,M.i 42,M.i 45]%pP=_;rw[main,mod_sub_mul];exact hv
theorem small9 {a b c d e f g h i V0:Int}(ha:0≤a∧a<65536)(hb:0≤b∧b<65536)(hc:0≤c∧c<65536)(hd:0≤d∧d<65536)(he:0≤e∧e<65536)(hf:0≤f∧f<65536)(hg:0≤g∧g<65536)(hh:0≤h∧h<65536)(hi:0≤i∧i<65536)
 (hv:valD [a,b,c,d,e,f,g,h,i]%pP=V0%pP) (hlt:valD [a,b,c,d,e,f,g,h,i]<pP):[a,b,c,d,e,f,g,h,i]=digs 9 (V0%pP):=by
 have hall:∀x∈[a,b,c,d,e,f,g,h,i],0≤x∧x<65536:=by simp only[aC];exact ⟨ha,hb,hc,hd,he,hf,hg,hh,hi,nofun⟩
 have h0:0≤valD [a,b,c,d,e,f,g,h,i]:=valD_nonneg fun x hx=>(hall x hx).1
 rw[←hv,bN h0 hlt];exact (digs_val hall).symm
theorem bor {x b s d m e g c:Int}(hx:x=65535)(hb:b=0)(qs:s=iop .add .u64 x 65536)(qd:d=iop .sub .u64 s 65535)(qm:m=iop .sub .u64 d b)(qe:e=iop .rem .u64 m 65536)(qg:g=iop .quo .u64 m 65536)(qc:c=iop .sub .u64 1 g):e=0∧c=0:=by
 subst hx hb qs qd qm qe qg qc;decide
set_option maxHeartbeats 4000000 in
theorem spec19 {F:Fns}(hp:F.p 19=P19)(hi:F.i 19=I19):CSpec Tryz.prog F 33 ct19:=by
 have hcall:CallOk F Tryz.prog (callT []):=eU (tab:=[]) trivial;refine gA (args:=argsOf ct19) (σe:=stOf ct19) rfl Tryz.func33 (fM (by kernel_rfl)) (by kernel_rfl) (by kernel_rfl) fun is ls ws we Ee a hs hp' hent hat=> ?_
 obtain rfl:=eV rfl hs
 match ls,hs with
 | [l],hs =>
 obtain ⟨hl,-⟩:=hs
 match l,hl with
 | [l0,l1,l2,l3,l4,l5,l6,l7,l8],_ =>
 have hw:Wide [l0,l1,l2,l3,l4,l5,l6,l7,l8]:=by
  have:P19 [] [[l0,l1,l2,l3,l4,l5,l6,l7,l8]]:=by rw[←hp];exact hp'
  exact this
 generalize hV:valD [l0,l1,l2,l3,l4,l5,l6,l7,l8]=V0;have hI19:∀j,F.i ct19.fi [] [[l0,l1,l2,l3,l4,l5,l6,l7,l8]] j=(digs 9 (V0%pP)).getD j 0:=fun j=>by
  show F.i 19 _ _ j=_;rw[hi];show (digs 9 (valD _%pP)).getD j 0=_
  rw[hV]
 refine to_head hm hcall h19 (by kernel_rfl) rfl rfl hat hent.inv fun N hag hf _=>⟨nofun,fun p1 p2 hat1=> ?_⟩
 have e:∀x,x<9→N.i x=[l0,l1,l2,l3,l4,l5,l6,l7,l8].getD x 0:=fun x hx=>hag.i x hx
 have e0:N.i 0=l0:=e 0 (by decide);have e1:N.i 1=l1:=e 1 (by decide);have e2:N.i 2=l2:=e 2 (by decide);have e3:N.i 3=l3:=e 3 (by decide);have e4:N.i 4=l4:=e 4 (by decide);have e5:N.i 5=l5:=e 5 (by decide);have e6:N.i 6=l6:=e 6 (by decide);have e7:N.i 7=l7:=e 7 (by decide);have e8:N.i 8=l8:=e 8 (by decide)
 let Ne:=num0 F ct19.ps [] [[l0,l1,l2,l3,l4,l5,l6,l7,l8]]
 refine gQ (fun k a w=>∃N,A19a N V0 k∧At F Tryz.f33.ntmps Ne Ee (stOf ct19) we T19a s19a N a w) (k:=2*V0.toNat+1) ⟨_,⟨?_,show (0:Int)≤1 by decide,fun h=>absurd (show (1:Int)=0 from h) (by decide),?_,?_⟩,hat1⟩ ?_
 ·show Wide [N.i 0,N.i 1,N.i 2,N.i 3,N.i 4,N.i 5,N.i 6,N.i 7,N.i 8];rw[e0,e1,e2,e3,e4,e5,e6,e7,e8];exact hw
 ·show valD [N.i 0,N.i 1,N.i 2,N.i 3,N.i 4,N.i 5,N.i 6,N.i 7,N.i 8]%pP=_;rw[e0,e1,e2,e3,e4,e5,e6,e7,e8,hV]
 ·show 2*(valD [N.i 0,N.i 1,N.i 2,N.i 3,N.i 4,N.i 5,N.i 6,N.i 7,N.i 8]).toNat+1≤_;rw[e0,e1,e2,e3,e4,e5,e6,e7,e8,hV];exact aS _
 ·clear hat hat1 hag e e0 e1 e2 e3 e4 e5 e6 e7 e8 hf;intro k a w hJ;obtain ⟨N,hA,hat⟩:=hJ;rcases Int.lt_or_le 0 (N.i 9) with hc | hc
  ·exact rnd19 hent.inv hat hA hc fun N' k' a' w' h1 h2 h3=>⟨k',h1,N',h2,h3⟩
  ·have hc0:N.i 9=0:=Int.le_antisymm hc hA.c;obtain ⟨r0,r1,r2,r3,r4,r5,r6,r7,r8⟩:=hA.red hc0;obtain ⟨b0,b1,b2,b3,b4,b5,b6,b7,b8⟩:=hA.w;have hv:=hA.v;rcases Int.lt_or_le (N.i 8) 3 with hlt | hge
   ·refine gH hm hcall o19_8 (by kernel_rfl) hat hent fun M hag hf hd=> ?_
    have m:∀x,x<19→M.i x=N.i x:=hag.i;simp only[aC,Df.sat,Nd.ev,Ar.ev] at hd;obtain ⟨q20,q19,-⟩:=hd;refine ⟨?_,⟨?_,trivial,trivial⟩,nofun⟩
    ·simp only[aC,Ob.holds];exact ⟨by rw[q20];exact fL (bS (by rw[m 8 (by decide)];exact hlt)),by rw[q19,m 9 (by decide),hc0];rfl,nofun⟩
    ·have main:=small9 ⟨b0.1,r0⟩ ⟨b1.1,r1⟩ ⟨b2.1,r2⟩ ⟨b3.1,r3⟩ ⟨b4.1,r4⟩ ⟨b5.1,r5⟩ ⟨b6.1,r6⟩ ⟨b7.1,r7⟩ ⟨b8.1,dH r8 (by decide)⟩ hv (by simp only[valD,pP];omega);have fin:∀p∈zipJ [.var 0,.var 1,.var 2,.var 3,.var 4,.var 5,.var 6,.var 7,.var 8] 0,p.1.ev M=(digs 9 (V0%pP)).getD p.2 0:=fun p hp=>(zipJ_of' (by simp only[aI,aK,Ar.ev,m 0 (by decide),m 1 (by decide),m 2 (by decide),m 3 (by decide),m 4 (by decide),m 5 (by decide),m 6 (by decide),m 7 (by decide),m 8 (by decide)];exact main) p hp)
     intro p hp;rw[hI19];exact fin p hp
   ·have t8:N.i 8=3:=by omega
    clear hge;rcases Int.lt_or_le (N.i 7) 65535 with hlt | hge
    ·refine gH hm hcall o19_7 (by kernel_rfl) hat hent fun M hag hf hd=> ?_
     have m:∀x,x<19→M.i x=N.i x:=hag.i;simp only[aC,Df.sat,Nd.ev,Ar.ev] at hd;obtain ⟨q22,q21,q20,q19,-⟩:=hd;refine ⟨?_,⟨?_,trivial,trivial⟩,nofun⟩
     ·simp only[aC,Ob.holds];exact ⟨by rw[q22];exact fL (bS (by rw[m 7 (by decide)];exact hlt)),by rw[q21,m 8 (by decide),t8];rfl,by rw[q20,m 8 (by decide),t8];rfl,by rw[q19,m 9 (by decide),hc0];rfl,nofun⟩
     ·have main:=small9 ⟨b0.1,r0⟩ ⟨b1.1,r1⟩ ⟨b2.1,r2⟩ ⟨b3.1,r3⟩ ⟨b4.1,r4⟩ ⟨b5.1,r5⟩ ⟨b6.1,r6⟩ ⟨b7.1,r7⟩ ⟨b8.1,dH r8 (by decide)⟩ hv (by simp only[valD,pP];omega);have fin:∀p∈zipJ [.var 0,.var 1,.var 2,.var 3,.var 4,.var 5,.var 6,.var 7,.var 8] 0,p.1.ev M=(digs 9 (V0%pP)).getD p.2 0:=fun p hp=>(zipJ_of' (by simp only[aI,aK,Ar.ev,m 0 (by decide),m 1 (by decide),m 2 (by decide),m 3 (by decide),m 4 (by decide),m 5 (by decide),m 6 (by decide),m 7 (by decide),m 8 (by decide)];exact main) p hp)
      intro p hp;rw[hI19];exact fin p hp
    ·have t7:N.i 7=65535:=by omega
     clear hge;rcases Int.lt_or_le (N.i 6) 65535 with hlt | hge
     ·refine gH hm hcall o19_6 (by kernel_rfl) hat hent fun M hag hf hd=> ?_
      have m:∀x,x<19→M.i x=N.i x:=hag.i;simp only[aC,Df.sat,Nd.ev,Ar.ev] at hd;obtain ⟨q24,q23,q22,q21,q20,q19,-⟩:=hd;refine ⟨?_,⟨?_,trivial,trivial⟩,nofun⟩
      ·simp only[aC,Ob.holds];exact ⟨by rw[q24];exact fL (bS (by rw[m 6 (by decide)];exact hlt)),by rw[q23,m 7 (by decide),t7];rfl,by rw[q22,m 7 (by decide),t7];rfl,by rw[q21,m 8 (by decide),t8];rfl,by rw[q20,m 8 (by decide),t8];rfl,by rw[q19,m 9 (by decide),hc0];rfl,nofun⟩
      ·have main:=small9 ⟨b0.1,r0⟩ ⟨b1.1,r1⟩ ⟨b2.1,r2⟩ ⟨b3.1,r3⟩ ⟨b4.1,r4⟩ ⟨b5.1,r5⟩ ⟨b6.1,r6⟩ ⟨b7.1,r7⟩ ⟨b8.1,dH r8 (by decide)⟩ hv (by simp only[valD,pP];omega);have fin:∀p∈zipJ [.var 0,.var 1,.var 2,.var 3,.var 4,.var 5,.var 6,.var 7,.var 8] 0,p.1.ev M=(digs 9 (V0%pP)).getD p.2 0:=fun p hp=>(zipJ_of' (by simp only[aI,aK,Ar.ev,m 0 (by decide),m 1 (by decide),m 2 (by decide),m 3 (by decide),m 4 (by decide),m 5 (by decide),m 6 (by decide),m 7 (by decide),m 8 (by decide)];exact main) p hp)
       intro p hp;rw[hI19];exact fin p hp
     ·have t6:N.i 6=65535:=by omega
      clear hge;rcases Int.lt_or_le (N.i 5) 65535 with hlt | hge
      ·refine gH hm hcall o19_5 (by kernel_rfl) hat hent fun M hag hf hd=> ?_
       have m:∀x,x<19→M.i x=N.i x:=hag.i;simp only[aC,Df.sat,Nd.ev,Ar.ev] at hd;obtain ⟨q26,q25,q24,q23,q22,q21,q20,q19,-⟩:=hd;refine ⟨?_,⟨?_,trivial,trivial⟩,nofun⟩
       ·simp only[aC,Ob.holds];exact ⟨by rw[q26];exact fL (bS (by rw[m 5 (by decide)];exact hlt)),by rw[q25,m 6 (by decide),t6];rfl,by rw[q24,m 6 (by decide),t6];rfl,by rw[q23,m 7 (by decide),t7];rfl,by rw[q22,m 7 (by decide),t7];rfl,by rw[q21,m 8 (by decide),t8];rfl,by rw[q20,m 8 (by decide),t8];rfl,by rw[q19,m 9 (by decide),hc0];rfl,nofun⟩
       ·have main:=small9 ⟨b0.1,r0⟩ ⟨b1.1,r1⟩ ⟨b2.1,r2⟩ ⟨b3.1,r3⟩ ⟨b4.1,r4⟩ ⟨b5.1,r5⟩ ⟨b6.1,r6⟩ ⟨b7.1,r7⟩ ⟨b8.1,dH r8 (by decide)⟩ hv (by simp only[valD,pP];omega);have fin:∀p∈zipJ [.var 0,.var 1,.var 2,.var 3,.var 4,.var 5,.var 6,.var 7,.var 8] 0,p.1.ev M=(digs 9 (V0%pP)).getD p.2 0:=fun p hp=>(zipJ_of' (by simp only[aI,aK,Ar.ev,m 0 (by decide),m 1 (by decide),m 2 (by decide),m 3 (by decide),m 4 (by decide),m 5 (by decide),m 6 (by decide),m 7 (by decide),m 8 (by decide)];exact main) p hp)
        intro p hp;rw[hI19];exact fin p hp
      ·have t5:N.i 5=65535:=by omega
       clear hge;rcases Int.lt_or_le (N.i 4) 65535 with hlt | hge
       ·refine gH hm hcall o19_4 (by kernel_rfl) hat hent fun M hag hf hd=> ?_
        have m:∀x,x<19→M.i x=N.i x:=hag.i;simp only[aC,Df.sat,Nd.ev,Ar.ev] at hd;obtain ⟨q28,q27,q26,q25,q24,q23,q22,q21,q20,q19,-⟩:=hd;refine ⟨?_,⟨?_,trivial,trivial⟩,nofun⟩
        ·simp only[aC,Ob.holds];exact ⟨by rw[q28];exact fL (bS (by rw[m 4 (by decide)];exact hlt)),by rw[q27,m 5 (by decide),t5];rfl,by rw[q26,m 5 (by decide),t5];rfl,by rw[q25,m 6 (by decide),t6];rfl,by rw[q24,m 6 (by decide),t6];rfl,by rw[q23,m 7 (by decide),t7];rfl,by rw[q22,m 7 (by decide),t7];rfl,by rw[q21,m 8 (by decide),t8];rfl,by rw[q20,m 8 (by decide),t8];rfl,by rw[q19,m 9 (by decide),hc0];rfl,nofun⟩
        ·have main:=small9 ⟨b0.1,r0⟩ ⟨b1.1,r1⟩ ⟨b2.1,r2⟩ ⟨b3.1,r3⟩ ⟨b4.1,r4⟩ ⟨b5.1,r5⟩ ⟨b6.1,r6⟩ ⟨b7.1,r7⟩ ⟨b8.1,dH r8 (by decide)⟩ hv (by simp only[valD,pP];omega);have fin:∀p∈zipJ [.var 0,.var 1,.var 2,.var 3,.var 4,.var 5,.var 6,.var 7,.var 8] 0,p.1.ev M=(digs 9 (V0%pP)).getD p.2 0:=fun p hp=>(zipJ_of' (by simp only[aI,aK,Ar.ev,m 0 (by decide),m 1 (by decide),m 2 (by decide),m 3 (by decide),m 4 (by decide),m 5 (by decide),m 6 (by decide),m 7 (by decide),m 8 (by decide)];exact main) p hp)
         intro p hp;rw[hI19];exact fin p hp
       ·have t4:N.i 4=65535:=by omega
        clear hge;rcases Int.lt_or_le (N.i 3) 65535 with hlt | hge
        ·refine gH hm hcall o19_3 (by kernel_rfl) hat hent fun M hag hf hd=> ?_
         have m:∀x,x<19→M.i x=N.i x:=hag.i;simp only[aC,Df.sat,Nd.ev,Ar.ev] at hd;obtain ⟨q30,q29,q28,q27,q26,q25,q24,q23,q22,q21,q20,q19,-⟩:=hd;refine ⟨?_,⟨?_,trivial,trivial⟩,nofun⟩
         ·simp only[aC,Ob.holds];exact ⟨by rw[q30];exact fL (bS (by rw[m 3 (by decide)];exact hlt)),by rw[q29,m 4 (by decide),t4];rfl,by rw[q28,m 4 (by decide),t4];rfl,by rw[q27,m 5 (by decide),t5];rfl,by rw[q26,m 5 (by decide),t5];rfl,by rw[q25,m 6 (by decide),t6];rfl,by rw[q24,m 6 (by decide),t6];rfl,by rw[q23,m 7 (by decide),t7];rfl,by rw[q22,m 7 (by decide),t7];rfl,by rw[q21,m 8 (by decide),t8];rfl,by rw[q20,m 8 (by decide),t8];rfl,by rw[q19,m 9 (by decide),hc0];rfl,nofun⟩
         ·have main:=small9 ⟨b0.1,r0⟩ ⟨b1.1,r1⟩ ⟨b2.1,r2⟩ ⟨b3.1,r3⟩ ⟨b4.1,r4⟩ ⟨b5.1,r5⟩ ⟨b6.1,r6⟩ ⟨b7.1,r7⟩ ⟨b8.1,dH r8 (by decide)⟩ hv (by simp only[valD,pP];omega);have fin:∀p∈zipJ [.var 0,.var 1,.var 2,.var 3,.var 4,.var 5,.var 6,.var 7,.var 8] 0,p.1.ev M=(digs 9 (V0%pP)).getD p.2 0:=fun p hp=>(zipJ_of' (by simp only[aI,aK,Ar.ev,m 0 (by decide),m 1 (by decide),m 2 (by decide),m 3 (by decide),m 4 (by decide),m 5 (by decide),m 6 (by decide),m 7 (by decide),m 8 (by decide)];exact main) p hp)
          intro p hp;rw[hI19];exact fin p hp
        ·have t3:N.i 3=65535:=by omega
         clear hge;rcases Int.lt_or_le (N.i 2) 65535 with hlt | hge
         ·refine gH hm hcall o19_2 (by kernel_rfl) hat hent fun M hag hf hd=> ?_
          have m:∀x,x<19→M.i x=N.i x:=hag.i;simp only[aC,Df.sat,Nd.ev,Ar.ev] at hd;obtain ⟨q32,q31,q30,q29,q28,q27,q26,q25,q24,q23,q22,q21,q20,q19,-⟩:=hd;refine ⟨?_,⟨?_,trivial,trivial⟩,nofun⟩
          ·simp only[aC,Ob.holds];exact ⟨by rw[q32];exact fL (bS (by rw[m 2 (by decide)];exact hlt)),by rw[q31,m 3 (by decide),t3];rfl,by rw[q30,m 3 (by decide),t3];rfl,by rw[q29,m 4 (by decide),t4];rfl,by rw[q28,m 4 (by decide),t4];rfl,by rw[q27,m 5 (by decide),t5];rfl,by rw[q26,m 5 (by decide),t5];rfl,by rw[q25,m 6 (by decide),t6];rfl,by rw[q24,m 6 (by decide),t6];rfl,by rw[q23,m 7 (by decide),t7];rfl,by rw[q22,m 7 (by decide),t7];rfl,by rw[q21,m 8 (by decide),t8];rfl,by rw[q20,m 8 (by decide),t8];rfl,by rw[q19,m 9 (by decide),hc0];rfl,nofun⟩
          ·have main:=small9 ⟨b0.1,r0⟩ ⟨b1.1,r1⟩ ⟨b2.1,r2⟩ ⟨b3.1,r3⟩ ⟨b4.1,r4⟩ ⟨b5.1,r5⟩ ⟨b6.1,r6⟩ ⟨b7.1,r7⟩ ⟨b8.1,dH r8 (by decide)⟩ hv (by simp only[valD,pP];omega);have fin:∀p∈zipJ [.var 0,.var 1,.var 2,.var 3,.var 4,.var 5,.var 6,.var 7,.var 8] 0,p.1.ev M=(digs 9 (V0%pP)).getD p.2 0:=fun p hp=>(zipJ_of' (by simp only[aI,aK,Ar.ev,m 0 (by decide),m 1 (by decide),m 2 (by decide),m 3 (by decide),m 4 (by decide),m 5 (by decide),m 6 (by decide),m 7 (by decide),m 8 (by decide)];exact main) p hp)
           intro p hp;rw[hI19];exact fin p hp
         ·have t2:N.i 2=65535:=by omega
          clear hge;rcases Int.lt_or_le (N.i 1) 65535 with hlt | hge
          ·refine gH hm hcall o19_1 (by kernel_rfl) hat hent fun M hag hf hd=> ?_
           have m:∀x,x<19→M.i x=N.i x:=hag.i;simp only[aC,Df.sat,Nd.ev,Ar.ev] at hd;obtain ⟨q34,q33,q32,q31,q30,q29,q28,q27,q26,q25,q24,q23,q22,q21,q20,q19,-⟩:=hd;refine ⟨?_,⟨?_,trivial,trivial⟩,nofun⟩
           ·simp only[aC,Ob.holds];exact ⟨by rw[q34];exact fL (bS (by rw[m 1 (by decide)];exact hlt)),by rw[q33,m 2 (by decide),t2];rfl,by rw[q32,m 2 (by decide),t2];rfl,by rw[q31,m 3 (by decide),t3];rfl,by rw[q30,m 3 (by decide),t3];rfl,by rw[q29,m 4 (by decide),t4];rfl,by rw[q28,m 4 (by decide),t4];rfl,by rw[q27,m 5 (by decide),t5];rfl,by rw[q26,m 5 (by decide),t5];rfl,by rw[q25,m 6 (by decide),t6];rfl,by rw[q24,m 6 (by decide),t6];rfl,by rw[q23,m 7 (by decide),t7];rfl,by rw[q22,m 7 (by decide),t7];rfl,by rw[q21,m 8 (by decide),t8];rfl,by rw[q20,m 8 (by decide),t8];rfl,by rw[q19,m 9 (by decide),hc0];rfl,nofun⟩
           ·have main:=small9 ⟨b0.1,r0⟩ ⟨b1.1,r1⟩ ⟨b2.1,r2⟩ ⟨b3.1,r3⟩ ⟨b4.1,r4⟩ ⟨b5.1,r5⟩ ⟨b6.1,r6⟩ ⟨b7.1,r7⟩ ⟨b8.1,dH r8 (by decide)⟩ hv (by simp only[valD,pP];omega);have fin:∀p∈zipJ [.var 0,.var 1,.var 2,.var 3,.var 4,.var 5,.var 6,.var 7,.var 8] 0,p.1.ev M=(digs 9 (V0%pP)).getD p.2 0:=fun p hp=>(zipJ_of' (by simp only[aI,aK,Ar.ev,m 0 (by decide),m 1 (by decide),m 2 (by decide),m 3 (by decide),m 4 (by decide),m 5 (by decide),m 6 (by decide),m 7 (by decide),m 8 (by decide)];exact main) p hp)
            intro p hp;rw[hI19];exact fin p hp
          ·have t1:N.i 1=65535:=by omega
           clear hge;rcases Int.lt_or_le (N.i 0) 65531 with hlt | hge
           ·refine gH hm hcall o19_0 (by kernel_rfl) hat hent fun M hag hf hd=> ?_
            have m:∀x,x<19→M.i x=N.i x:=hag.i;simp only[aC,Df.sat,Nd.ev,Ar.ev] at hd;obtain ⟨q36,q35,q34,q33,q32,q31,q30,q29,q28,q27,q26,q25,q24,q23,q22,q21,q20,q19,-⟩:=hd;refine ⟨?_,⟨?_,trivial,trivial⟩,nofun⟩
            ·simp only[aC,Ob.holds];exact ⟨by rw[q36];exact fL (bS (by rw[m 0 (by decide)];exact hlt)),by rw[q35,m 1 (by decide),t1];rfl,by rw[q34,m 1 (by decide),t1];rfl,by rw[q33,m 2 (by decide),t2];rfl,by rw[q32,m 2 (by decide),t2];rfl,by rw[q31,m 3 (by decide),t3];rfl,by rw[q30,m 3 (by decide),t3];rfl,by rw[q29,m 4 (by decide),t4];rfl,by rw[q28,m 4 (by decide),t4];rfl,by rw[q27,m 5 (by decide),t5];rfl,by rw[q26,m 5 (by decide),t5];rfl,by rw[q25,m 6 (by decide),t6];rfl,by rw[q24,m 6 (by decide),t6];rfl,by rw[q23,m 7 (by decide),t7];rfl,by rw[q22,m 7 (by decide),t7];rfl,by rw[q21,m 8 (by decide),t8];rfl,by rw[q20,m 8 (by decide),t8];rfl,by rw[q19,m 9 (by decide),hc0];rfl,nofun⟩
            ·have main:=small9 ⟨b0.1,r0⟩ ⟨b1.1,r1⟩ ⟨b2.1,r2⟩ ⟨b3.1,r3⟩ ⟨b4.1,r4⟩ ⟨b5.1,r5⟩ ⟨b6.1,r6⟩ ⟨b7.1,r7⟩ ⟨b8.1,dH r8 (by decide)⟩ hv (by simp only[valD,pP];omega);have fin:∀p∈zipJ [.var 0,.var 1,.var 2,.var 3,.var 4,.var 5,.var 6,.var 7,.var 8] 0,p.1.ev M=(digs 9 (V0%pP)).getD p.2 0:=fun p hp=>(zipJ_of' (by simp only[aI,aK,Ar.ev,m 0 (by decide),m 1 (by decide),m 2 (by decide),m 3 (by decide),m 4 (by decide),m 5 (by decide),m 6 (by decide),m 7 (by decide),m 8 (by decide)];exact main) p hp)
             intro p hp;rw[hI19];exact fin p hp
           ·rcases Int.lt_or_le 65531 (N.i 0) with hgt | hle
            ·refine gH hm hcall o19_b (by kernel_rfl) hat hent fun M hag hf hd=> ?_
             have m:∀x,x<19→M.i x=N.i x:=hag.i;simp only[aC,Df.sat,Nd.ev,Ar.ev] at hd;obtain ⟨q91,q90,q89,q88,q87,q86,q85,q84,q83,q82,q81,q80,q79,q78,q77,q76,q75,q74,q73,q72,q71,q70,q69,q68,q67,q66,q65,q64,q63,q62,q61,q60,q59,q58,q57,q56,q55,q54,q53,q52,q51,q50,q49,q48,q47,q46,q45,q44,q43,q42,q41,q40,q39,q38,q37,q36,q35,q34,q33,q32,q31,q30,q29,q28,q27,q26,q25,q24,q23,q22,q21,q20,q19,-⟩:=hd;have u0:M.i 0=N.i 0:=m 0 (by decide)
             have h38:M.i 38=N.i 0+65536:=by rw[q38,u0,u64_add];omega
             have h39:M.i 39=N.i 0+5:=by rw[q39,h38,u64_sub];omega
             have h40:M.i 40=N.i 0+5:=by rw[q40,h39,u64_sub];omega
             have h41:M.i 41=N.i 0-65531:=by rw[q41,h40,show (65536:Int)=((65536:Nat):Int) from rfl,u64_rem (by omega)];omega
             have h42:M.i 42=1:=by rw[q42,h40,show (65536:Int)=((65536:Nat):Int) from rfl,u64_quo (by omega) (by omega) (by decide)];omega
             have h43:M.i 43=0:=by rw[q43,h42];decide
             obtain ⟨h47,h49⟩:=bor ((m 1 (by decide)).trans t1) h43 q44 q45 q46 q47 q48 q49;obtain ⟨h53,h55⟩:=bor ((m 2 (by decide)).trans t2) h49 q50 q51 q52 q53 q54 q55;obtain ⟨h59,h61⟩:=bor ((m 3 (by decide)).trans t3) h55 q56 q57 q58 q59 q60 q61;obtain ⟨h65,h67⟩:=bor ((m 4 (by decide)).trans t4) h61 q62 q63 q64 q65 q66 q67;obtain ⟨h71,h73⟩:=bor ((m 5 (by decide)).trans t5) h67 q68 q69 q70 q71 q72 q73;obtain ⟨h77,h79⟩:=bor ((m 6 (by decide)).trans t6) h73 q74 q75 q76 q77 q78 q79
             obtain ⟨h83,h85⟩:=bor ((m 7 (by decide)).trans t7) h79 q80 q81 q82 q83 q84 q85;have h86:M.i 86=65539:=by rw[q86,m 8 (by decide),t8];decide
             have h87:M.i 87=65536:=by rw[q87,h86];decide
             have h88:M.i 88=65536:=by rw[q88,h87,h85];decide
             have h89:M.i 89=0:=by rw[q89,h88];decide
             refine ⟨?_,⟨?_,trivial,trivial⟩,nofun⟩
             ·simp only[aC,Ob.holds];exact ⟨by rw[q37];exact fL (bS (by rw[m 0 (by decide)];exact hgt)),by rw[q36];exact gR (bZ (by rw[m 0 (by decide)];omega)),by rw[q35,m 1 (by decide),t1];rfl,by rw[q34,m 1 (by decide),t1];rfl,by rw[q33,m 2 (by decide),t2];rfl,by rw[q32,m 2 (by decide),t2];rfl,by rw[q31,m 3 (by decide),t3];rfl,by rw[q30,m 3 (by decide),t3];rfl,by rw[q29,m 4 (by decide),t4];rfl,by rw[q28,m 4 (by decide),t4];rfl,by rw[q27,m 5 (by decide),t5];rfl,by rw[q26,m 5 (by decide),t5];rfl,by rw[q25,m 6 (by decide),t6];rfl,by rw[q24,m 6 (by decide),t6];rfl,by rw[q23,m 7 (by decide),t7];rfl,by rw[q22,m 7 (by decide),t7];rfl,by rw[q21,m 8 (by decide),t8];rfl,by rw[q20,m 8 (by decide),t8];rfl,by rw[q19,m 9 (by decide),hc0];rfl,nofun⟩
             ·have hv':valD [N.i 0-65531,0,0,0,0,0,0,0,0]%pP=V0%pP:=by
               rw[←hv,t1,t2,t3,t4,t5,t6,t7,t8];have:valD [N.i 0-65531,0,0,0,0,0,0,0,0]=valD [N.i 0,65535,65535,65535,65535,65535,65535,65535,3]-1*pP:=by simp only[valD,pP];omega
               rw[this,mod_sub_mul]
              have main:=small9 (a:=N.i 0-65531) ⟨by omega,by omega⟩ (by decide) (by decide) (by decide) (by decide) (by decide) (by decide) (by decide) (by decide) hv' (by simp only[valD,pP];omega);have fin:∀p∈zipJ [.var 41,.var 47,.var 53,.var 59,.var 65,.var 71,.var 77,.var 83,.var 89] 0,p.1.ev M=(digs 9 (V0%pP)).getD p.2 0:=fun p hp=>(zipJ_of' (by simp only[aI,aK,Ar.ev,h41,h47,h53,h59,h65,h71,h77,h83,h89];exact main) p hp)
              intro p hp;rw[hI19];exact fin p hp
            ·refine gH hm hcall o19_e (by kernel_rfl) hat hent fun M hag hf hd=> ?_
             have m:∀x,x<19→M.i x=N.i x:=hag.i;simp only[aC,Df.sat,Nd.ev,Ar.ev] at hd;obtain ⟨q91,q90,q89,q88,q87,q86,q85,q84,q83,q82,q81,q80,q79,q78,q77,q76,q75,q74,q73,q72,q71,q70,q69,q68,q67,q66,q65,q64,q63,q62,q61,q60,q59,q58,q57,q56,q55,q54,q53,q52,q51,q50,q49,q48,q47,q46,q45,q44,q43,q42,q41,q40,q39,q38,q37,q36,q35,q34,q33,q32,q31,q30,q29,q28,q27,q26,q25,q24,q23,q22,q21,q20,q19,-⟩:=hd;have u0:M.i 0=N.i 0:=m 0 (by decide)
             have h38:M.i 38=N.i 0+65536:=by rw[q38,u0,u64_add];omega
             have h39:M.i 39=N.i 0+5:=by rw[q39,h38,u64_sub];omega
             have h40:M.i 40=N.i 0+5:=by rw[q40,h39,u64_sub];omega
             have h41:M.i 41=N.i 0-65531:=by rw[q41,h40,show (65536:Int)=((65536:Nat):Int) from rfl,u64_rem (by omega)];omega
             have h42:M.i 42=1:=by rw[q42,h40,show (65536:Int)=((65536:Nat):Int) from rfl,u64_quo (by omega) (by omega) (by decide)];omega
             have h43:M.i 43=0:=by rw[q43,h42];decide
             obtain ⟨h47,h49⟩:=bor ((m 1 (by decide)).trans t1) h43 q44 q45 q46 q47 q48 q49;obtain ⟨h53,h55⟩:=bor ((m 2 (by decide)).trans t2) h49 q50 q51 q52 q53 q54 q55;obtain ⟨h59,h61⟩:=bor ((m 3 (by decide)).trans t3) h55 q56 q57 q58 q59 q60 q61;obtain ⟨h65,h67⟩:=bor ((m 4 (by decide)).trans t4) h61 q62 q63 q64 q65 q66 q67;obtain ⟨h71,h73⟩:=bor ((m 5 (by decide)).trans t5) h67 q68 q69 q70 q71 q72 q73;obtain ⟨h77,h79⟩:=bor ((m 6 (by decide)).trans t6) h73 q74 q75 q76 q77 q78 q79
             obtain ⟨h83,h85⟩:=bor ((m 7 (by decide)).trans t7) h79 q80 q81 q82 q83 q84 q85;have h86:M.i 86=65539:=by rw[q86,m 8 (by decide),t8];decide
             have h87:M.i 87=65536:=by rw[q87,h86];decide
             have h88:M.i 88=65536:=by rw[q88,h87,h85];decide
             have h89:M.i 89=0:=by rw[q89,h88];decide
             refine ⟨?_,⟨?_,trivial,trivial⟩,nofun⟩
             ·simp only[aC,Ob.holds];exact ⟨by rw[q37];exact gR (bZ (by rw[m 0 (by decide)];omega)),by rw[q36];exact gR (bZ (by rw[m 0 (by decide)];omega)),by rw[q35,m 1 (by decide),t1];rfl,by rw[q34,m 1 (by decide),t1];rfl,by rw[q33,m 2 (by decide),t2];rfl,by rw[q32,m 2 (by decide),t2];rfl,by rw[q31,m 3 (by decide),t3];rfl,by rw[q30,m 3 (by decide),t3];rfl,by rw[q29,m 4 (by decide),t4];rfl,by rw[q28,m 4 (by decide),t4];rfl,by rw[q27,m 5 (by decide),t5];rfl,by rw[q26,m 5 (by decide),t5];rfl,by rw[q25,m 6 (by decide),t6];rfl,by rw[q24,m 6 (by decide),t6];rfl,by rw[q23,m 7 (by decide),t7];rfl,by rw[q22,m 7 (by decide),t7];rfl,by rw[q21,m 8 (by decide),t8];rfl,by rw[q20,m 8 (by decide),t8];rfl,by rw[q19,m 9 (by decide),hc0];rfl,nofun⟩
             ·have hv':valD [N.i 0-65531,0,0,0,0,0,0,0,0]%pP=V0%pP:=by
               rw[←hv,t1,t2,t3,t4,t5,t6,t7,t8];have:valD [N.i 0-65531,0,0,0,0,0,0,0,0]=valD [N.i 0,65535,65535,65535,65535,65535,65535,65535,3]-1*pP:=by simp only[valD,pP];omega
               rw[this,mod_sub_mul]
              have main:=small9 (a:=N.i 0-65531) ⟨by omega,by omega⟩ (by decide) (by decide) (by decide) (by decide) (by decide) (by decide) (by decide) (by decide) hv' (by simp only[valD,pP];omega);have fin:∀p∈zipJ [.var 41,.var 47,.var 53,.var 59,.var 65,.var 71,.var 77,.var 83,.var 89] 0,p.1.ev M=(digs 9 (V0%pP)).getD p.2 0:=fun p hp=>(zipJ_of' (by simp only[aI,aK,Ar.ev,h41,h47,h53,h59,h65,h71,h77,h83,h89];exact main) p hp)
              intro p hp;rw[hI19];exact fin p hp
def P18 (_:List Int)(ls:List (List Int)):Prop :=
 match ls with
 | [b]=>Bytes b∧1≤b.length∧b.length≤16
 | _=>False
def I18 (_:List Int)(ls:List (List Int))(j:Nat):Int :=
 match ls with
 | [b]=>(digs 9 (chunkN b)).getD j 0
 | _=>0
theorem digs9 {l:List Int}{V:Int}(h:∀d∈l,0≤d∧d<65536)(hl:l.length=9)(hv:valD l=V):l=digs 9 V:=by
 rw[←hv,←hl];exact (digs_val h).symm
def o18 (n:Nat):List Ar:=(List.range 9).map fun k=>bif Nat.ble (2*k+1) n then .var (8*k+7) else bif Nat.beq (2*k) n then .var (8*k+3) else .kst 0
def x18 (n:Nat):List Nat:=(List.range (n+1)).map fun j=>4*j
def d18 (n:Nat)(ds:List Df):Bool:=(match lkA ds 1,lkA ds 2,lkA ds 3 with
 | some (.sub 0 (.kst (.ofNat 0)) (.kst (.ofNat m))),some (.lit [.kst (.ofNat 1)]),some (.cat 1 2)=>Nat.beq m n
 | _,_,_=>false)&&(List.range (n+1)).all fun j=>match lkN ds (4*j) with
 | some (.rd 3 (.kst (.ofNat i)))=>Nat.beq i j
 | _=>false
def ob18 (n:Nat):Ob→Bool
 | .inA (.kst (.ofNat j)) 3=>Nat.ble j n
 | .lenA (.kst (.ofNat m)) 1=>Nat.beq m n
 | .fits (.kst (.ofNat 0)) (.kst (.ofNat m)) 0=>Nat.beq m n
 | _=>false
noncomputable abbrev E18 (n:Nat):=runE (ct18n n) Tryz.f32 (callT []) []
def c18 (n:Nat)(r:RE3):Bool:=match r with
 | some (⟨outs,none,none⟩,ds,os)=>eL (fun p q=>eAr p.1 q.1&&Nat.beq p.2 q.2) outs (zipJ (o18 n) 0)&&(d18 n ds&&(os.all (ob18 n) &&
  okB cx0 ((x18 n).map fun x=>(x,1,255)) ds [] [] [.law 65536 (o18 n) (rowPL 256 (x18 n)) 0,.bnd (o18 n) 65536]))
 | _=>false
noncomputable def b18 (n:Nat):Bool:=Nat.ble (argsOf (ct18n n)).length Tryz.f32.ntmps&&(Nat.beq (stOf (ct18n n)).ni 0&&(patB (trArgs 0 (argsOf (ct18n n)) (stOf (ct18n n)).gl) (stOf (ct18n n))&&c18 n (E18 n)))
theorem b18_all:(List.range' 1 16).all b18=true:=by kernel_rfl
theorem valD_W:∀ {l:List Int},valD l=valW 65536 l
 | []=>rfl
 | x::l=>by simp only[valD,valW,valD_W (l:=l)]
theorem leV_W:∀ {l:List Int},leV l=valW 256 l
 | []=>rfl
 | x::l=>by simp only[leV,valW,leV_W (l:=l)]
theorem spec18n {F:Fns}(hp:F.p 18=P18)(hi:F.i 18=I18){n:Nat}(h1:1≤n)(h16:n≤16):CSpec Tryz.prog F 32 (ct18n n):=by
 have hb:=bT.1 b18_all n (List.mem_range'.2 ⟨n-1,by omega,by omega⟩);simp only[b18,aG] at hb;obtain ⟨k1,k2,k3,k4⟩:=hb;unfold c18 at k4;split at k4
 ·rename_i outs ds os hr;simp only[aG] at k4;obtain ⟨c1,⟨c2,c3⟩,c4,c5⟩:=(by simpa only[d18,aG] using k4:_∧(_∧_)∧_∧_)
  have eo:outs=zipJ (o18 n) 0:=eL_eq (fun p q h=>by simp only[aG] at h;exact Prod.ext (fF h.1) (aF h.2)) c1
  subst eo;refine fG (eU (tab:=[]) trivial) Tryz.func32 (by kernel_rfl) k1 (aF k2) hr k3 fun is ls N hs hp' hag hf hd=> ?_
  obtain rfl:=eV rfl hs
  match ls,hs with
  | [b],hs =>
  obtain ⟨hlb,-⟩:=hs;obtain ⟨hB,-,-⟩:P18 [] [b]:=by rw[←hp];exact hp'
  have ea:N.a 0=b:=hag.a 0 (show 0<1 by decide);have t3:N.a 1=b∧N.a 3=b++[1]:=by
   split at c2
   ·rename_i m e1 e2 e3;have w1:=fR hd e1;have w2:=fR hd e2;have w3:=fR hd e3;rw[aF c2] at w1;have w1:N.a 1=((N.a 0).drop 0).take n:=w1;rw[ea,bW,←hlb,cS] at w1;have w2:N.a 2=[1]:=w2;have w3:N.a 3=N.a 1++N.a 2:=w3;exact ⟨w1,by rw[w3,w1,w2]⟩
   ·cases c2
  have l3:(N.a 3).length=n+1:=by rw[t3.2,aO,hlb];rfl
  have rd:(x18 n).map N.i=b++[1]:=by
   rw[←t3.2];refine dA fun j=> ?_
   rw[x18,cZ,bP];by_cases hj:j<n+1
   ·have:=bT.1 c3 j (cE.2 hj);split at this
    ·rename_i i hl;rw[cL hj,Option.map_some];show some (N.i (4*j))=_;rw[fB hd hl,aF this];show some ((N.a 3).getD j 0)=_;rw[aE,aU (by omega)];rfl
    ·cases this
   ·rw [bI (by rw[cV];omega),bI (by omega)];rfl
  have hB1:∀v∈b++[1],0≤v∧v≤255:=fun v hv=>by
   rcases cX.1 hv with h | h
   ·have:=hB v h;omega
   ·simp only[aX] at h;subst h;decide
  obtain ⟨-,q⟩:=okB_ok c5 (N:=N) cx0_ok il0 (fun x m hi' hm j hj=>by
   obtain ⟨y,hy,e⟩:=dC.1 hm;simp only[aD] at e;obtain ⟨rfl,rfl,rfl⟩:=e;obtain rfl:j=0:=by omega
   exact hB1 _ (rd▸dG hy)) hd
  simp only[aC,Tst.holds] at q;obtain ⟨⟨z,q1⟩,q2,-⟩:=q;rw[fU,rd] at q1;have hm:(o18 n).map (·.ev N)=digs 9 (chunkN b):=by refine digs9 q2 (by rw[bF,o18,bF,cV]) ?_;have q1:valW 65536 ((o18 n).map (·.ev N))-valW 256 (b++[1])=0*z:=q1;rw[valD_W,chunkN,leV_W];rw[valW_append] at q1;simp only[valW] at q1;omega
  refine ⟨fun o ho=> ?_,⟨fun p hp2=> ?_,trivial,trivial⟩,nofun⟩
  ·have:=bT.1 c4 o ho;unfold ob18 at this;split at this
   ·rename_i j;have:=aM this;show 0≤Int.ofNat j∧Int.ofNat j<((N.a 3).length:Int);rw[l3];exact ⟨cR j,Int.ofNat_lt.2 (by omega)⟩
   ·rename_i m;show Int.ofNat m=((N.a 1).length:Int);rw[t3.1,hlb,aF this];rfl
   ·rename_i m;show (0:Int)≤0∧0≤Int.ofNat m∧0+Int.ofNat m≤((N.a 0).length:Int);rw[ea,hlb,aF this];exact ⟨bK _,cR n,by show 0+(n:Int)≤n;omega⟩
   ·cases this
  ·show _=F.i 18 _ _ _;rw[hi];exact zipJ_of' hm p hp2
 ·cases k4
theorem args_len {w:World}{k:IntKind}{us:List Value}{is:List Int}{L:List Int}{ws:List (Option Win)}{n:Nat}(h:Args w [.sl k false none] us is [L] ws)(hn:L.length=n):Args w [.sl k false (some n)] us is [L] ws:=by
 cases h with
 | sl hm hc _ h=>exact .sl hm hc (fun m e=>by simp only[aA] at e;omega) h
theorem spec18 {F:Fns}(hp:F.p 18=P18)(hi:F.i 18=I18):CSpec Tryz.prog F 32 ct18:=by
 intro us is ls ws w hA hW hG hpr;have hsh:=hA.shape;obtain rfl:=eV (ps:=ct18.ps) rfl hsh
 match ls,hsh with
 | [b],_ =>
 obtain ⟨-,h1,h16⟩:P18 [] [b]:=by rw[←hp];exact hpr
 have hw1:rwW ct18.ps ws=none:=by cases hA with | sl hm hc hn h=>cases h;rfl
 have hw2:rwW (ct18n b.length).ps ws=none:=by cases hA with | sl hm hc hn h=>cases h;rfl
 exact (spec18n hp hi h1 h16 us [] [b] ws w (args_len hA rfl) hW hG hpr).mono fun e w' ⟨u,h1,w1,vs,sl,h2,h3,h4,h5,h6⟩=>⟨u,h1,w1,vs,sl,h2,by rw[hw1];rw[hw2] at h3;exact h3,by rw[grW_none (ps:=ct18.ps) rfl];rw[grW_none (ps:=(ct18n b.length).ps) rfl] at h4;exact h4,h5,h6⟩
end Go.Proofs.YtnfikgagkamioaaGreatDoor.S
namespace Go.Sy
theorem leB_leV:∀ {l:List Int},Bytes l→leB l.length (leV l)=l
 | [],_=>rfl
 | x::l,h=>by have h1:=h x aN;have h2:=leB_leV (l:=l) (fun y hy=>h y (aJ _ hy));simp only[bU,leB,leV];rw[show (x+256*leV l)%256=x by omega,show (x+256*leV l)/256=leV l by omega,h2]
theorem redN_mod (X:Int):redN X%pP=X%pP:=by
 have:redN X=X-(X/1361129467683753853853498429727072845824)*pP:=by unfold redN pP;omega
 rw[this,mod_sub_mul]
theorem endS {c a x y t1 t2 t3 t4 t5 t6 t7 s d0 e d1 c':Int}(hc:0≤c∧c≤1)(ha:0≤a∧a<65536)(hx:0≤x∧x<256)(hy:0≤y∧y<256)(q1:t1=iop .add .u64 c a)(q2:t2=x)(q3:t3=IntKind.u64.wrap t2)(q4:t4=iop .add .u64 t1 t3)
 (q5:t5=y) (q6:t6=IntKind.u64.wrap t5) (q7:t7=iop .shl .u64 t6 8) (q8:s=iop .add .u64 t4 t7) (q9:d0=IntKind.u8.wrap s) (q10:e=iop .shr .u64 s 8) (q11:d1=IntKind.u8.wrap e) (q12:c'=iop .shr .u64 s 16) :
 (0≤d0∧d0<256)∧(0≤d1∧d1<256)∧(0≤c'∧c'≤1)∧d0+256*d1+65536*c'=c+a+x+256*y:=by
 subst q2 q5;rw[IntKind.wrap_u64,bN (by omega) (by omega)] at q3 q6;subst q3 q6;rw[show (8:Int)=((8:Nat):Int) from rfl,shl_kst (by decide),IntKind.wrap_u64,bN (by omega) (by omega)] at q7;rw[u64_add,bN (by omega) (by omega)] at q1;subst q1;rw[u64_add,bN (by omega) (by omega)] at q4;subst q4 q7;rw[u64_add,bN (by omega) (by omega)] at q8;rw[show (8:Int)=((8:Nat):Int) from rfl,shr_kst (by decide)] at q10;rw[show (16:Int)=((16:Nat):Int) from rfl,shr_kst (by decide)] at q12
 rw[IntKind.wrap_u8] at q9 q11;subst q9 q10 q11 q12;omega
theorem andH (x y m n:Nat)(hx:x<256)(hm:m<256):(x+256*y)&&&(m+256*n)=(x&&&m)+256*(y&&&n):=by
 have h1:=Nat.and_mod_two_pow (a:=x+256*y) (b:=m+256*n) (n:=8);have h2:=Nat.and_div_two_pow (a:=x+256*y) (b:=m+256*n) (n:=8);rw[show 2^8=256 from rfl] at h1 h2;rw[show (x+256*y)%256=x by omega,show (m+256*n)%256=m by omega] at h1;rw[show (x+256*y)/256=y by omega,show (m+256*n)/256=n by omega] at h2;omega
theorem and255 (x:Nat)(hx:x<256):x&&&255=x:=by
 rw[show 255=2^8-1 from rfl,Nat.and_two_pow_sub_one_eq_mod];omega
theorem andR0 {b0 b1 b2 b3 b4 b5 b6 b7:Int}(h0:0≤b0∧b0<256)(h1:0≤b1∧b1<256)(h2:0≤b2∧b2<256)(h3:0≤b3∧b3<256)(h4:0≤b4∧b4<256)(h5:0≤b5∧b5<256)(h6:0≤b6∧b6<256)(h7:0≤b7∧b7<256) :
 iop .and .u64 (leV [b0,b1,b2,b3,b4,b5,b6,b7]) 1152921487695413247=leV [b0,b1,b2,iop .and .u8 b3 15,iop .and .u8 b4 252,b5,b6,iop .and .u8 b7 15]:=by
 obtain ⟨b0,rfl⟩:=aZ h0.1;obtain ⟨b1,rfl⟩:=aZ h1.1;obtain ⟨b2,rfl⟩:=aZ h2.1;obtain ⟨b3,rfl⟩:=aZ h3.1;obtain ⟨b4,rfl⟩:=aZ h4.1;obtain ⟨b5,rfl⟩:=aZ h5.1;obtain ⟨b6,rfl⟩:=aZ h6.1;obtain ⟨b7,rfl⟩:=aZ h7.1;have p8:(2:Nat)^IntKind.u8.bits=256:=rfl;have p64:(2:Nat)^IntKind.u64.bits=18446744073709551616:=rfl;rw[show (15:Int)=((15:Nat):Int) from rfl,show (252:Int)=((252:Nat):Int) from rfl,iop_and (k:= .u8) rfl (by omega) (by omega),iop_and (k:= .u8) rfl (by omega) (by omega),iop_and (k:= .u8) rfl (by omega) (by omega)]
 have e:leV [(b0:Int),b1,b2,b3,b4,b5,b6,b7]=((b0+256*(b1+256*(b2+256*(b3+256*(b4+256*(b5+256*(b6+256*b7)))))):Nat):Int):=by simp only[leV];omega
 rw[e,show (1152921487695413247:Int)=((255+256*(255+256*(255+256*(15+256*(252+256*(255+256*(255+256*15)))))):Nat):Int) from rfl];rw[iop_and (k:= .u64) rfl (by omega) (by omega)];rw[andH _ _ _ _ (by omega) (by omega),andH _ _ _ _ (by omega) (by omega),andH _ _ _ _ (by omega) (by omega),andH _ _ _ _ (by omega) (by omega),andH _ _ _ _ (by omega) (by omega),andH _ _ _ _ (by omega) (by omega),andH _ _ _ _ (by omega) (by omega)]
 rw[and255 b0 (by omega),and255 b1 (by omega),and255 b2 (by omega),and255 b5 (by omega),and255 b6 (by omega)];simp only[leV];omega
theorem andR1 {b0 b1 b2 b3 b4 b5 b6 b7:Int}(h0:0≤b0∧b0<256)(h1:0≤b1∧b1<256)(h2:0≤b2∧b2<256)(h3:0≤b3∧b3<256)(h4:0≤b4∧b4<256)(h5:0≤b5∧b5<256)(h6:0≤b6∧b6<256)(h7:0≤b7∧b7<256) :
 iop .and .u64 (leV [b0,b1,b2,b3,b4,b5,b6,b7]) 1152921487695413244=leV [iop .and .u8 b0 252,b1,b2,iop .and .u8 b3 15,iop .and .u8 b4 252,b5,b6,iop .and .u8 b7 15]:=by
 obtain ⟨b0,rfl⟩:=aZ h0.1;obtain ⟨b1,rfl⟩:=aZ h1.1;obtain ⟨b2,rfl⟩:=aZ h2.1;obtain ⟨b3,rfl⟩:=aZ h3.1;obtain ⟨b4,rfl⟩:=aZ h4.1;obtain ⟨b5,rfl⟩:=aZ h5.1;obtain ⟨b6,rfl⟩:=aZ h6.1;obtain ⟨b7,rfl⟩:=aZ h7.1;have p8:(2:Nat)^IntKind.u8.bits=256:=rfl;have p64:(2:Nat)^IntKind.u64.bits=18446744073709551616:=rfl;rw[show (15:Int)=((15:Nat):Int) from rfl,show (252:Int)=((252:Nat):Int) from rfl,iop_and (k:= .u8) rfl (by omega) (by omega),iop_and (k:= .u8) rfl (by omega) (by omega),iop_and (k:= .u8) rfl (by omega) (by omega),iop_and (k:= .u8) rfl (by omega) (by omega)]
 have e:leV [(b0:Int),b1,b2,b3,b4,b5,b6,b7]=((b0+256*(b1+256*(b2+256*(b3+256*(b4+256*(b5+256*(b6+256*b7)))))):Nat):Int):=by simp only[leV];omega
 rw[e,show (1152921487695413244:Int)=((252+256*(255+256*(255+256*(15+256*(252+256*(255+256*(255+256*15)))))):Nat):Int) from rfl];rw[iop_and (k:= .u64) rfl (by omega) (by omega)];rw[andH _ _ _ _ (by omega) (by omega),andH _ _ _ _ (by omega) (by omega),andH _ _ _ _ (by omega) (by omega),andH _ _ _ _ (by omega) (by omega),andH _ _ _ _ (by omega) (by omega),andH _ _ _ _ (by omega) (by omega),andH _ _ _ _ (by omega) (by omega)]
 rw[and255 b1 (by omega),and255 b2 (by omega),and255 b5 (by omega),and255 b6 (by omega)];simp only[leV];omega
end Go.Sy
namespace Go.Proofs.YtnfikgagkamioaaGreatDoor.S
open Go.Sy
def P20 (_:List Int)(ls:List (List Int)):Prop :=
 match ls with
 | [l]=>(∀ d∈l,0≤d∧d<4611686018427387904)∧valD l<115792089237316195423570985008687907853269984665640564039457584007913129639936
 | _=>False
def I20 (_:List Int)(ls:List (List Int))(j:Nat):Int :=
 match ls with
 | [l]=>(digs 9 (valD l%pP)).getD j 0
 | _=>0
theorem hig {e f u v m h:Int}(he:0≤e∧e<65536)(hf:0≤f∧f<65536)(hu:u=iop .quo .u64 e 4)(hv:v=iop .rem .u64 f 4)(qm:m=iop .mul .u64 v 16384)(qh:h=iop .add .u64 u m):u=e/4∧v=f%4∧h=u+16384*v∧0≤h∧h<65536:=by
 rw[show (4:Int)=((4:Nat):Int) from rfl,u64_quo he.1 (by omega) (by decide)] at hu;rw[show (4:Int)=((4:Nat):Int) from rfl,u64_rem hf.1] at hv;rw[u64_mul,bN (by omega) (by omega)] at qm;rw[u64_add,bN (by omega) (by omega)] at qh;omega
theorem low5 {l h m s:Int}(hl:0≤l∧l<65536)(hh:0≤h∧h<65536)(qm:m=iop .mul .u64 5 h)(qs:s=iop .add .u64 l m):s=l+5*h∧0≤s∧s<4611686018427387904:=by
 rw[u64_mul,bN (by omega) (by omega)] at qm;rw[u64_add,bN (by omega) (by omega)] at qs;omega
theorem b4 (x:Int):0≤x%4∧x%4<65536:=by omega
theorem dv4 (x:Int):x=4*(x/4)+x%4:=by omega
theorem b8b {s l h:Int}(hs:s=l+5*h)(hl:0≤l∧l<65536)(hh:0≤h∧h<65536):s<1152921504606846976:=by omega
theorem low_law {l0 l1 l2 l3 l4 l5 l6 l7 l8 l9 l10 l11 l12 l13 l14 l15 l16 l17 e0 e1 e2 e3 e4 e5 e6 e7 e8 e9 e10 e11 e12 e13 e14 e15 e16 e17 c1 c2 c3 c4 c5 c6 c7 c8 c9 c10 c11 c12 c13 c14 c15 c16 c17 c18 u8 u9 u10 u11 u12 u13 u14 u15 u16 v8 v9 v10 v11 v12 v13 v14 v15 v16 v17:Int}(y0:0+l0=e0+65536*c1)(y1:c1+l1=e1+65536*c2)(y2:c2+l2=e2+65536*c3)(y3:c3+l3=e3+65536*c4)(y4:c4+l4=e4+65536*c5)(y5:c5+l5=e5+65536*c6)(y6:c6+l6=e6+65536*c7)(y7:c7+l7=e7+65536*c8)(y8:c8+l8=e8+65536*c9)(y9:c9+l9=e9+65536*c10)(y10:c10+l10=e10+65536*c11)(y11:c11+l11=e11+65536*c12)(y12:c12+l12=e12+65536*c13)(y13:c13+l13=e13+65536*c14)(y14:c14+l14=e14+65536*c15)(y15:c15+l15=e15+65536*c16)(y16:c16+l16=e16+65536*c17)(y17:c17+l17=e17+65536*c18)
 (k8:e8=4*u8+v8) (k9:e9=4*u9+v9) (k10:e10=4*u10+v10) (k11:e11=4*u11+v11) (k12:e12=4*u12+v12) (k13:e13=4*u13+v13) (k14:e14=4*u14+v14) (k15:e15=4*u15+v15) (k16:e16=4*u16+v16) (k17:e17=v17) (hc:c18=0) :
 valD [e0+5*(u8+16384*v9),e1+5*(u9+16384*v10),e2+5*(u10+16384*v11),e3+5*(u11+16384*v12),e4+5*(u12+16384*v13),e5+5*(u13+16384*v14),e6+5*(u14+16384*v15),e7+5*(u15+16384*v16),v8+5*(u16+16384*v17)] =
 valD [l0,l1,l2,l3,l4,l5,l6,l7,l8,l9,l10,l11,l12,l13,l14,l15,l16,l17]-valD [u8+16384*v9,u9+16384*v10,u10+16384*v11,u11+16384*v12,u12+16384*v13,u13+16384*v14,u14+16384*v15,u15+16384*v16,u16+16384*v17]*pP:=by
 have hV:valD [l0,l1,l2,l3,l4,l5,l6,l7,l8,l9,l10,l11,l12,l13,l14,l15,l16,l17]=valD [e0,e1,e2,e3,e4,e5,e6,e7,e8,e9,e10,e11,e12,e13,e14,e15,e16,e17]:=by simp only[valD];omega
 rw[hV];simp only[valD,pP];omega
theorem top0 {l0 l1 l2 l3 l4 l5 l6 l7 l8 l9 l10 l11 l12 l13 l14 l15 l16 l17 e0 e1 e2 e3 e4 e5 e6 e7 e8 e9 e10 e11 e12 e13 e14 e15 e16 e17 c1 c2 c3 c4 c5 c6 c7 c8 c9 c10 c11 c12 c13 c14 c15 c16 c17 c18:Int}(y0:0+l0=e0+65536*c1)(y1:c1+l1=e1+65536*c2)(y2:c2+l2=e2+65536*c3)(y3:c3+l3=e3+65536*c4)(y4:c4+l4=e4+65536*c5)(y5:c5+l5=e5+65536*c6)(y6:c6+l6=e6+65536*c7)(y7:c7+l7=e7+65536*c8)(y8:c8+l8=e8+65536*c9)(y9:c9+l9=e9+65536*c10)(y10:c10+l10=e10+65536*c11)(y11:c11+l11=e11+65536*c12)(y12:c12+l12=e12+65536*c13)(y13:c13+l13=e13+65536*c14)(y14:c14+l14=e14+65536*c15)(y15:c15+l15=e15+65536*c16)(y16:c16+l16=e16+65536*c17)(y17:c17+l17=e17+65536*c18)
 (z0:0≤e0) (z1:0≤e1) (z2:0≤e2) (z3:0≤e3) (z4:0≤e4) (z5:0≤e5) (z6:0≤e6) (z7:0≤e7) (z8:0≤e8) (z9:0≤e9) (z10:0≤e10) (z11:0≤e11) (z12:0≤e12) (z13:0≤e13) (z14:0≤e14) (z15:0≤e15) (z16:0≤e16) (z17:0≤e17) (hc:0≤c18) (hV:valD [l0,l1,l2,l3,l4,l5,l6,l7,l8,l9,l10,l11,l12,l13,l14,l15,l16,l17]<115792089237316195423570985008687907853269984665640564039457584007913129639936):c18=0∧e17=0:=by
 have h:valD [l0,l1,l2,l3,l4,l5,l6,l7,l8,l9,l10,l11,l12,l13,l14,l15,l16,l17]=valD [e0,e1,e2,e3,e4,e5,e6,e7,e8,e9,e10,e11,e12,e13,e14,e15,e16,e17]+497323236409786642155382248146820840100456150797347717440463976893159497012533375533056*c18:=by simp only[valD];omega
 simp only[valD] at h hV;omega
set_option maxHeartbeats 4000000 in
theorem spec20 {F:Fns}(hp19:F.p 19=P19)(hi19:F.i 19=I19)(hp:F.p 20=P20)(hi:F.i 20=I20):CSpec Tryz.prog F 34 ct20:=by
 refine fG (eU (tab:=tab20) ⟨⟨by kernel_rfl,fun c hc=>by simp only[aX] at hc;subst hc;exact spec19 hp19 hi19⟩,trivial⟩) Tryz.func34 (by kernel_rfl) (by kernel_rfl) (by kernel_rfl) run20 (by kernel_rfl) fun is ls N hs hp' hag hf hd=> ?_
 obtain rfl:=eV rfl hs
 match ls,hs with
 | [l],hs =>
 obtain ⟨hll,-⟩:=hs;have hP:P20 [] [l]:=by rw[←hp];exact hp'
 obtain ⟨hB,hV⟩:=hP
 match l,hll with
 | [l0,l1,l2,l3,l4,l5,l6,l7,l8,l9,l10,l11,l12,l13,l14,l15,l16,l17],_ =>
 simp only[aC] at hB;obtain ⟨g0,g1,g2,g3,g4,g5,g6,g7,g8,g9,g10,g11,g12,g13,g14,g15,g16,g17,-⟩:=hB;have en:∀x,x<18→N.i x=[l0,l1,l2,l3,l4,l5,l6,l7,l8,l9,l10,l11,l12,l13,l14,l15,l16,l17].getD x 0:=fun x hx=>hag.i x hx
 have i0:N.i 0=l0:=en 0 (by decide);have i1:N.i 1=l1:=en 1 (by decide);have i2:N.i 2=l2:=en 2 (by decide);have i3:N.i 3=l3:=en 3 (by decide);have i4:N.i 4=l4:=en 4 (by decide);have i5:N.i 5=l5:=en 5 (by decide);have i6:N.i 6=l6:=en 6 (by decide);have i7:N.i 7=l7:=en 7 (by decide);have i8:N.i 8=l8:=en 8 (by decide);have i9:N.i 9=l9:=en 9 (by decide);have i10:N.i 10=l10:=en 10 (by decide);have i11:N.i 11=l11:=en 11 (by decide)
 have i12:N.i 12=l12:=en 12 (by decide);have i13:N.i 13=l13:=en 13 (by decide);have i14:N.i 14=l14:=en 14 (by decide);have i15:N.i 15=l15:=en 15 (by decide);have i16:N.i 16=l16:=en 16 (by decide);have i17:N.i 17=l17:=en 17 (by decide);clear en hag;simp only[aC,Df.sat,Nd.ev,Ad.ev,Ar.ev,aI,aK,hf,hi19,i0,i1,i2,i3,i4,i5,i6,i7,i8,i9,i10,i11,i12,i13,i14,i15,i16,i17] at hd;obtain ⟨q135,q134,q133,q132,q131,q130,q129,q128,q127,w0,q126,q125,q124,q123,q122,q121,q120,q119,q118,q117,q116,q115,q114,q113,q112,q111,q110,q109,q108,q107,q106,q105,q104,q103,q102,q101,q100,q99,q98,q97,q96,q95,q94,q93,q92,q91,q90,q89,q88,q87,q86,q85,q84,q83,q82,q81,q80,q79,q78,q77,q76,q75,q74,q73,q72,q71,q70,q69,q68,q67,q66,q65,q64,q63,q62,q61,q60,q59,q58,q57,q56,q55,q54,q53,q52,q51,q50,q49,q48,q47,q46,q45,q44,q43,q42,q41,q40,q39,q38,q37,q36,q35,q34,q33,q32,q31,q30,q29,q28,q27,q26,q25,q24,q23,q22,q21,q20,q19,q18,-⟩:=hd
 obtain ⟨x0,z0,y0⟩:=stp (c:=0) (by decide) g0 q18 q19 q20;obtain ⟨x1,z1,y1⟩:=stp z0 g1 q21 q22 q23;obtain ⟨x2,z2,y2⟩:=stp z1 g2 q24 q25 q26;obtain ⟨x3,z3,y3⟩:=stp z2 g3 q27 q28 q29;obtain ⟨x4,z4,y4⟩:=stp z3 g4 q30 q31 q32;obtain ⟨x5,z5,y5⟩:=stp z4 g5 q33 q34 q35;obtain ⟨x6,z6,y6⟩:=stp z5 g6 q36 q37 q38;obtain ⟨x7,z7,y7⟩:=stp z6 g7 q39 q40 q41;obtain ⟨x8,z8,y8⟩:=stp z7 g8 q42 q43 q44;obtain ⟨x9,z9,y9⟩:=stp z8 g9 q45 q46 q47
 obtain ⟨x10,z10,y10⟩:=stp z9 g10 q48 q49 q50;obtain ⟨x11,z11,y11⟩:=stp z10 g11 q51 q52 q53;obtain ⟨x12,z12,y12⟩:=stp z11 g12 q54 q55 q56;obtain ⟨x13,z13,y13⟩:=stp z12 g13 q57 q58 q59;obtain ⟨x14,z14,y14⟩:=stp z13 g14 q60 q61 q62;obtain ⟨x15,z15,y15⟩:=stp z14 g15 q63 q64 q65;obtain ⟨x16,z16,y16⟩:=stp z15 g16 q66 q67 q68;obtain ⟨x17,z17,y17⟩:=stp z16 g17 q69 q70 q71;obtain ⟨t18,t17⟩:=top0 y0 y1 y2 y3 y4 y5 y6 y7 y8 y9 y10 y11 y12 y13 y14 y15 y16 y17 x0.1 x1.1 x2.1 x3.1 x4.1 x5.1 x6.1 x7.1 x8.1 x9.1 x10.1 x11.1 x12.1 x13.1 x14.1 x15.1 x16.1 x17.1 z17.1 hV
 obtain ⟨u0,v0,h0,k0⟩:=hig x8 x9 q73 q74 q75 q76;obtain ⟨u1,v1,h1,k1⟩:=hig x9 x10 q77 q78 q79 q80;obtain ⟨u2,v2,h2,k2⟩:=hig x10 x11 q81 q82 q83 q84;obtain ⟨u3,v3,h3,k3⟩:=hig x11 x12 q85 q86 q87 q88;obtain ⟨u4,v4,h4,k4⟩:=hig x12 x13 q89 q90 q91 q92;obtain ⟨u5,v5,h5,k5⟩:=hig x13 x14 q93 q94 q95 q96;obtain ⟨u6,v6,h6,k6⟩:=hig x14 x15 q97 q98 q99 q100;obtain ⟨u7,v7,h7,k7⟩:=hig x15 x16 q101 q102 q103 q104;obtain ⟨u8,v8,h8,k8⟩:=hig x16 x17 q105 q106 q107 q108
 have h72:N.i 72=N.i 43%4:=by rw[q72,show (4:Int)=((4:Nat):Int) from rfl,u64_rem x8.1]
 have b72:0≤N.i 72∧N.i 72<65536:=by rw[h72];exact b4 _
 obtain ⟨s0,a0⟩:=low5 x0 k0 q109 q110;obtain ⟨s1,a1⟩:=low5 x1 k1 q111 q112;obtain ⟨s2,a2⟩:=low5 x2 k2 q113 q114;obtain ⟨s3,a3⟩:=low5 x3 k3 q115 q116;obtain ⟨s4,a4⟩:=low5 x4 k4 q117 q118;obtain ⟨s5,a5⟩:=low5 x5 k5 q119 q120;obtain ⟨s6,a6⟩:=low5 x6 k6 q121 q122;obtain ⟨s7,a7⟩:=low5 x7 k7 q123 q124;obtain ⟨s8,a8⟩:=low5 b72 k8 q125 q126;have main:=low_law y0 y1 y2 y3 y4 y5 y6 y7 y8 y9 y10 y11 y12 y13 y14 y15 y16 y17 (dv4 (N.i 43)) (dv4 (N.i 46)) (dv4 (N.i 49)) (dv4 (N.i 52)) (dv4 (N.i 55)) (dv4 (N.i 58)) (dv4 (N.i 61)) (dv4 (N.i 64)) (dv4 (N.i 67)) (show N.i 70=N.i 70%4 from by rw[t17];rfl) t18
 rw[←h72] at main;rw[←u0] at main;rw[←u1] at main;rw[←u2] at main;rw[←u3] at main;rw[←u4] at main;rw[←u5] at main;rw[←u6] at main;rw[←u7] at main;rw[←u8] at main;rw[←v0] at main;rw[←v1] at main;rw[←v2] at main;rw[←v3] at main;rw[←v4] at main;rw[←v5] at main;rw[←v6] at main;rw[←v7] at main;rw[←v8] at main;rw[←h0] at main;rw[←h1] at main;rw[←h2] at main;rw[←h3] at main;rw[←h4] at main;rw[←h5] at main;rw[←h6] at main;rw[←h7] at main
 rw[←h8] at main;rw[←s0] at main;rw[←s1] at main;rw[←s2] at main;rw[←s3] at main;rw[←s4] at main;rw[←s5] at main;rw[←s6] at main;rw[←s7] at main;rw[←s8] at main;have hval:valD (N.a 0)%pP=valD [l0,l1,l2,l3,l4,l5,l6,l7,l8,l9,l10,l11,l12,l13,l14,l15,l16,l17]%pP:=by rw[w0,main,mod_sub_mul]
 have hm:([.var 127,.var 128,.var 129,.var 130,.var 131,.var 132,.var 133,.var 134,.var 135]:List Ar).map (·.ev N)=digs 9 (valD [l0,l1,l2,l3,l4,l5,l6,l7,l8,l9,l10,l11,l12,l13,l14,l15,l16,l17]%pP):=by simp only[aI,aK,Ar.ev,q127,q128,q129,q130,q131,q132,q133,q134,q135];rw[←hval];rfl
 refine ⟨?_,⟨?_,trivial,trivial⟩,nofun⟩
 ·simp only[aC,Ob.holds,aI,aK,hf,hp19,w0];exact ⟨⟨a0,a1,a2,a3,a4,a5,a6,a7,a8.1,b8b s8 b72 k8⟩,nofun⟩
 ·intro p hp2;show _=F.i 20 _ _ _;rw[hi];exact zipJ_of' hm p hp2
end Go.Proofs.YtnfikgagkamioaaGreatDoor.S
