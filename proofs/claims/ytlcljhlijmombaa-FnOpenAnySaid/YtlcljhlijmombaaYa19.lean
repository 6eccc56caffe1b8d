/- spec.settled does as its contract says. -/
import Derived.Test.YtlcljhlijmombaaYf18
import Derived.Test.YtlcljhlijmombaaYpoly
import Derived.Test.YtlcljhlijmombaaYa50
namespace Go.Proofs.Ytlcljhlijmombaa
open Go.Sy
def P19 (_:List Int)(ls:List (List Int)):Prop :=
 match ls with
 | [l]=>Wide l
 | _=>False
def I19 (_:List Int)(ls:List (List Int))(j:Nat):Int :=
 match ls with
 | [l]=>(digs 9 (valD l%pP)).getD j 0
 | _=>0
structure A19a (N:Num) (V0:Int) (k:Nat):Prop where
 w:Wide [N.i 0,N.i 1,N.i 2,N.i 3,N.i 4,N.i 5,N.i 6,N.i 7,N.i 8]
 c:0≤N.i 9
 red:N.i 9=0→(N.i 0<65536∧N.i 1<65536∧N.i 2<65536∧N.i 3<65536∧N.i 4<65536∧N.i 5<65536∧N.i 6<65536∧N.i 7<65536∧N.i 8<4)
 v:valD [N.i 0,N.i 1,N.i 2,N.i 3,N.i 4,N.i 5,N.i 6,N.i 7,N.i 8]%pP=V0%pP
 k:2*(valD [N.i 0,N.i 1,N.i 2,N.i 3,N.i 4,N.i 5,N.i 6,N.i 7,N.i 8]).toNat+(if N.i 9=0 then 0 else 1)≤k
theorem A19a.agr {N N':Num}{V0:Int}{k:Nat}(h:Agr s19a.nx s19a.na N N')(hA:A19a N V0 k):A19a N' V0 k:=by
 have e:∀x,x<19→N'.i x=N.i x:=h.i
 obtain ⟨w,c,r,v,k⟩:=hA
 refine ⟨?_,?_,?_,?_,?_⟩ <;> simp only[e 0 (by decide),e 1 (by decide),e 2 (by decide),e 3 (by decide),e 4 (by decide),e 5 (by decide),e 6 (by decide),e 7 (by decide),e 8 (by decide),e 9 (by decide)] <;> assumption
theorem zipJ_of' {N:Num}{M:List Int}{l:List Ar}(h:l.map (·.ev N)=M)(p:Ar×Nat)(hp:p∈zipJ l 0):p.1.ev N=M.getD p.2 0:=by
 have key:∀ {l:List Ar} {j:Nat} {M:List Int},l.map (·.ev N)=M→∀p∈zipJ l j,j≤p.2∧p.1.ev N=M.getD (p.2-j) 0:=by
  intro l
  induction l with
  | nil=>intro j M _ p hp;cases hp
  | cons a l ih =>
   intro j M h p hp
   subst h
   rcases List.mem_cons.1 hp with rfl | hp
   ·exact ⟨Nat.le_refl _,by simp⟩
   ·obtain ⟨h1,h2⟩:=ih (j:=j+1) rfl p hp
    refine ⟨by omega,?_⟩
    rw[h2,show p.2-j=(p.2-(j+1))+1 by omega]
    rfl
 exact (key h p hp).2
theorem settle_law {l0 l1 l2 l3 l4 l5 l6 l7 l8 d0 d1 d2 d3 d4 d5 d6 d7 d8 c1 c2 c3 c4 c5 c6 c7 c8 c9:Int}(h0:0+l0=d0+65536*c1)(h1:c1+l1=d1+65536*c2)(h2:c2+l2=d2+65536*c3)(h3:c3+l3=d3+65536*c4)(h4:c4+l4=d4+65536*c5)(h5:c5+l5=d5+65536*c6)(h6:c6+l6=d6+65536*c7)(h7:c7+l7=d7+65536*c8)(h8:c8+l8=d8+4*c9) :
  valD [d0+5*c9,d1,d2,d3,d4,d5,d6,d7,d8]=valD [l0,l1,l2,l3,l4,l5,l6,l7,l8]-c9*pP:=by
 simp only[valD,pP];omega
theorem valD_nonneg {l:List Int}(h:∀d∈l,0≤d):0≤valD l:=by
 induction l with
 | nil=>exact Int.le_refl _
 | cons d l ih =>
  have h1:=h d List.mem_cons_self
  have h2:=ih (fun x hx=>h x (List.mem_cons_of_mem _ hx))
  simp only[valD];omega
theorem wide_nonneg {l:List Int}(h:Wide l):0≤valD l:=by
 match l,h with
 | [a,b,c,d,e,f,g,i,j],h =>
  obtain ⟨ha,hb,hc,hd,he,hf,hg,hi,hj⟩:=h
  simp only[valD];omega
theorem b48 {d e:Int}(x0:0≤d∧d<65536)(z8:0≤e∧e<288371113640067072):0≤d+5*e∧d+5*e<4611686018427387904:=by omega
theorem meas {V V' c9 c:Int}(h0:0≤V')(hV:V'=V-c9*pP)(hc:0<c)(hc9:0≤c9):2*V'.toNat+(if c9=0 then 0 else 1)<2*V.toNat+(if c=0 then 0 else 1):=by
 have hp:(0:Int)<pP:=by decide
 rw[if_neg (by omega:¬c=0)]
 by_cases h:c9=0
 ·rw [if_pos h];subst h;rw[Int.zero_mul,Int.sub_zero] at hV;subst hV;omega
 ·rw [if_neg h]
  have:c9*pP≥1*pP:=Int.mul_le_mul_of_nonneg_right (by omega) (Int.le_of_lt hp)
  omega
set_option maxHeartbeats 1000000 in
theorem rnd19 {F:Fns}{Ne:Num}{Ee:Env}{we:World}(hI:Inv Ee (stOf ct19)){N:Num}{V0:Int}{k:Nat}{a:Act}{w:World}(hat:At F Try.f19.ntmps Ne Ee (stOf ct19) we T19a s19a N a w)(hA:A19a N V0 k)(hc:0<N.i 9){K:Act→World→Prop}{Q:Exit→Act→World→Prop}
  (H:∀N' k' a' w',k'<k→A19a N' V0 k'→At F Try.f19.ntmps Ne Ee (stOf ct19) we T19a s19a N' a' w'→K a' w') :
  (loopAt 19 2).1.wp Try.prog (Exit.then K (wpK Try.prog (loopAt 19 2).2 Q)) a w:=by
 refine to_round hm (callT_ok (F:=F) (tab:=[]) trivial) r19a (by kernel_rfl) rfl rfl hat hI fun M hag hf hd=> ?_
 have e9:M.i 9=N.i 9:=hag.i 9 (by decide)
 rw[←e9] at hc
 obtain ⟨⟨b0,b1,b2,b3,b4,b5,b6,b7,b8⟩,-,-,hv,hk⟩:=hA.agr hag
 clear hag hat hA
 simp only[List.forall_mem_cons,Df.sat,Nd.ev,Ar.ev] at hd
 obtain ⟨q48,q47,q46,q45,q44,q43,q42,q41,q40,q39,q38,q37,q36,q35,q34,q33,q32,q31,q30,q29,q28,q27,q26,q25,q24,q23,q22,q21,q20,q19,-⟩:=hd
 obtain ⟨x0,z0,y0⟩:=stp (c:=0) (by decide) b0 q20 q21 q22
 obtain ⟨x1,z1,y1⟩:=stp z0 b1 q23 q24 q25
 obtain ⟨x2,z2,y2⟩:=stp z1 b2 q26 q27 q28
 obtain ⟨x3,z3,y3⟩:=stp z2 b3 q29 q30 q31
 obtain ⟨x4,z4,y4⟩:=stp z3 b4 q32 q33 q34
 obtain ⟨x5,z5,y5⟩:=stp z4 b5 q35 q36 q37
 obtain ⟨x6,z6,y6⟩:=stp z5 b6 q38 q39 q40
 obtain ⟨x7,z7,y7⟩:=stp z6 b7 q41 q42 q43
 obtain ⟨x8,z8,y8⟩:=stp4 z7 b8 q44 q45 q46
 have h48:=stp5 x0 z8 q47 q48
 have main:=settle_law y0 y1 y2 y3 y4 y5 y6 y7 y8
 rw[←h48] at main
 have bd:0≤M.i 48∧M.i 48<4611686018427387904:=by rw[h48];exact b48 x0 z8
 have w16:∀ {x:Int},0≤x∧x<65536→0≤x∧x<4611686018427387904:=fun h=>⟨h.1,Int.lt_trans h.2 (by decide)⟩
 have hw:Wide [M.i 48,M.i 24,M.i 27,M.i 30,M.i 33,M.i 36,M.i 39,M.i 42,M.i 45]:=⟨bd,w16 x1,w16 x2,w16 x3,w16 x4,w16 x5,w16 x6,w16 x7,⟨x8.1,Int.lt_trans x8.2 (by decide)⟩⟩
 refine ⟨?_,fun p1 p2 hat2=>H _ _ p1 p2 (Nat.lt_of_lt_of_le (meas (wide_nonneg hw) main hc z8.1) hk) ⟨hw,z8.1,fun h=> ?_,?_,Nat.le_refl _⟩ hat2⟩
 ·simp only[List.forall_mem_cons,Ob.holds]
  exact ⟨by rw[q19];exact boo_true (decide_eq_true hc),nofun⟩
 ·have h46:M.i 46=0:=h
  refine ⟨?_,x1.2,x2.2,x3.2,x4.2,x5.2,x6.2,x7.2,x8.2⟩
  show M.i 48<65536
  rw[h48,h46];simpa using x0.2
 ·show valD [M.i 48,M.i 24,M.i 27,M.i 30,M.i 33,M.i 36,M.i 39,M.i 42,M.i 45]%pP=_
  rw[main,mod_sub_mul];exact hv
theorem small9 {a b c d e f g h i V0:Int}(ha:0≤a∧a<65536)(hb:0≤b∧b<65536)(hc:0≤c∧c<65536)(hd:0≤d∧d<65536)(he:0≤e∧e<65536)(hf:0≤f∧f<65536)(hg:0≤g∧g<65536)(hh:0≤h∧h<65536)(hi:0≤i∧i<65536)
  (hv:valD [a,b,c,d,e,f,g,h,i]%pP=V0%pP) (hlt:valD [a,b,c,d,e,f,g,h,i]<pP):[a,b,c,d,e,f,g,h,i]=digs 9 (V0%pP):=by
 have hall:∀x∈[a,b,c,d,e,f,g,h,i],0≤x∧x<65536:=by
  simp only[List.forall_mem_cons];exact ⟨ha,hb,hc,hd,he,hf,hg,hh,hi,nofun⟩
 have h0:0≤valD [a,b,c,d,e,f,g,h,i]:=valD_nonneg fun x hx=>(hall x hx).1
 rw[←hv,Int.emod_eq_of_lt h0 hlt]
 exact (digs_val hall).symm
theorem bor {x b s d m e g c:Int}(hx:x=65535)(hb:b=0)(qs:s=iop .add .u64 x 65536)(qd:d=iop .sub .u64 s 65535)(qm:m=iop .sub .u64 d b)(qe:e=iop .rem .u64 m 65536)(qg:g=iop .quo .u64 m 65536)(qc:c=iop .sub .u64 1 g):e=0∧c=0:=by
 subst hx hb qs qd qm qe qg qc;decide
set_option maxHeartbeats 4000000 in
theorem spec19 {F:Fns}(hp:F.p 19=P19)(hi:F.i 19=I19):CSpec Try.prog F 19 ct19:=by
 have hcall:CallOk F Try.prog (callT []):=callT_ok (tab:=[]) trivial
 refine cspec_of (args:=argsOf ct19) (σe:=stOf ct19) rfl Try.func19 (body_some (by kernel_rfl)) (by kernel_rfl) (by kernel_rfl) fun is ls ws we Ee a hs hp' hent hat=> ?_
 obtain rfl:=Shape.noInt rfl hs
 match ls,hs with
 | [l],hs =>
 obtain ⟨hl,-⟩:=hs
 match l,hl with
 | [l0,l1,l2,l3,l4,l5,l6,l7,l8],_ =>
 have hw:Wide [l0,l1,l2,l3,l4,l5,l6,l7,l8]:=by
  have:P19 [] [[l0,l1,l2,l3,l4,l5,l6,l7,l8]]:=by rw[←hp];exact hp'
  exact this
 generalize hV:valD [l0,l1,l2,l3,l4,l5,l6,l7,l8]=V0
 have hI19:∀j,F.i ct19.fi [] [[l0,l1,l2,l3,l4,l5,l6,l7,l8]] j=(digs 9 (V0%pP)).getD j 0:=fun j=>by
  show F.i 19 _ _ j=_
  rw[hi];show (digs 9 (valD _%pP)).getD j 0=_
  rw[hV]
 refine to_head hm hcall h19 (by kernel_rfl) rfl rfl hat hent.inv fun N hag hf _=>⟨nofun,fun p1 p2 hat1=> ?_⟩
 have e:∀x,x<9→N.i x=[l0,l1,l2,l3,l4,l5,l6,l7,l8].getD x 0:=fun x hx=>hag.i x hx
 have e0:N.i 0=l0:=e 0 (by decide)
 have e1:N.i 1=l1:=e 1 (by decide)
 have e2:N.i 2=l2:=e 2 (by decide)
 have e3:N.i 3=l3:=e 3 (by decide)
 have e4:N.i 4=l4:=e 4 (by decide)
 have e5:N.i 5=l5:=e 5 (by decide)
 have e6:N.i 6=l6:=e 6 (by decide)
 have e7:N.i 7=l7:=e 7 (by decide)
 have e8:N.i 8=l8:=e 8 (by decide)
 let Ne:=num0 F ct19.ps [] [[l0,l1,l2,l3,l4,l5,l6,l7,l8]]
 refine loop_law (fun k a w=>∃N,A19a N V0 k∧At F Try.f19.ntmps Ne Ee (stOf ct19) we T19a s19a N a w) (k:=2*V0.toNat+1) ⟨_,⟨?_,show (0:Int)≤1 by decide,fun h=>absurd (show (1:Int)=0 from h) (by decide),?_,?_⟩,hat1⟩ ?_
 ·show Wide [N.i 0,N.i 1,N.i 2,N.i 3,N.i 4,N.i 5,N.i 6,N.i 7,N.i 8]
  rw[e0,e1,e2,e3,e4,e5,e6,e7,e8];exact hw
 ·show valD [N.i 0,N.i 1,N.i 2,N.i 3,N.i 4,N.i 5,N.i 6,N.i 7,N.i 8]%pP=_
  rw[e0,e1,e2,e3,e4,e5,e6,e7,e8,hV]
 ·show 2*(valD [N.i 0,N.i 1,N.i 2,N.i 3,N.i 4,N.i 5,N.i 6,N.i 7,N.i 8]).toNat+1≤_
  rw[e0,e1,e2,e3,e4,e5,e6,e7,e8,hV];exact Nat.le_refl _
 ·clear hat hat1 hag e e0 e1 e2 e3 e4 e5 e6 e7 e8 hf
  intro k a w hJ
  obtain ⟨N,hA,hat⟩:=hJ
  rcases Int.lt_or_le 0 (N.i 9) with hc | hc
  ·exact rnd19 hent.inv hat hA hc fun N' k' a' w' h1 h2 h3=>⟨k',h1,N',h2,h3⟩
  ·have hc0:N.i 9=0:=Int.le_antisymm hc hA.c
   obtain ⟨r0,r1,r2,r3,r4,r5,r6,r7,r8⟩:=hA.red hc0
   obtain ⟨b0,b1,b2,b3,b4,b5,b6,b7,b8⟩:=hA.w
   have hv:=hA.v
   rcases Int.lt_or_le (N.i 8) 3 with hlt | hge
   ·refine to_out hm hcall o19_8 (by kernel_rfl) hat hent fun M hag hf hd=> ?_
    have m:∀x,x<19→M.i x=N.i x:=hag.i
    simp only[List.forall_mem_cons,Df.sat,Nd.ev,Ar.ev] at hd
    obtain ⟨q20,q19,-⟩:=hd
    refine ⟨?_,⟨?_,trivial,trivial⟩,nofun⟩
    ·simp only[List.forall_mem_cons,Ob.holds]
     exact ⟨by rw[q20];exact boo_true (decide_eq_true (by rw[m 8 (by decide)];exact hlt)),by rw[q19,m 9 (by decide),hc0];rfl,nofun⟩
    ·have main:=small9 ⟨b0.1,r0⟩ ⟨b1.1,r1⟩ ⟨b2.1,r2⟩ ⟨b3.1,r3⟩ ⟨b4.1,r4⟩ ⟨b5.1,r5⟩ ⟨b6.1,r6⟩ ⟨b7.1,r7⟩ ⟨b8.1,Int.lt_trans r8 (by decide)⟩ hv (by simp only[valD,pP];omega)
     have fin:∀p∈zipJ [.var 0,.var 1,.var 2,.var 3,.var 4,.var 5,.var 6,.var 7,.var 8] 0,p.1.ev M=(digs 9 (V0%pP)).getD p.2 0:=fun p hp=>(zipJ_of' (by simp only[List.map_cons,List.map_nil,Ar.ev,m 0 (by decide),m 1 (by decide),m 2 (by decide),m 3 (by decide),m 4 (by decide),m 5 (by decide),m 6 (by decide),m 7 (by decide),m 8 (by decide)];exact main) p hp)
     intro p hp
     rw[hI19];exact fin p hp
   ·have t8:N.i 8=3:=by omega
    clear hge
    rcases Int.lt_or_le (N.i 7) 65535 with hlt | hge
    ·refine to_out hm hcall o19_7 (by kernel_rfl) hat hent fun M hag hf hd=> ?_
     have m:∀x,x<19→M.i x=N.i x:=hag.i
     simp only[List.forall_mem_cons,Df.sat,Nd.ev,Ar.ev] at hd
     obtain ⟨q22,q21,q20,q19,-⟩:=hd
     refine ⟨?_,⟨?_,trivial,trivial⟩,nofun⟩
     ·simp only[List.forall_mem_cons,Ob.holds]
      exact ⟨by rw[q22];exact boo_true (decide_eq_true (by rw[m 7 (by decide)];exact hlt)),by rw[q21,m 8 (by decide),t8];rfl,by rw[q20,m 8 (by decide),t8];rfl,by rw[q19,m 9 (by decide),hc0];rfl,nofun⟩
     ·have main:=small9 ⟨b0.1,r0⟩ ⟨b1.1,r1⟩ ⟨b2.1,r2⟩ ⟨b3.1,r3⟩ ⟨b4.1,r4⟩ ⟨b5.1,r5⟩ ⟨b6.1,r6⟩ ⟨b7.1,r7⟩ ⟨b8.1,Int.lt_trans r8 (by decide)⟩ hv (by simp only[valD,pP];omega)
      have fin:∀p∈zipJ [.var 0,.var 1,.var 2,.var 3,.var 4,.var 5,.var 6,.var 7,.var 8] 0,p.1.ev M=(digs 9 (V0%pP)).getD p.2 0:=fun p hp=>(zipJ_of' (by simp only[List.map_cons,List.map_nil,Ar.ev,m 0 (by decide),m 1 (by decide),m 2 (by decide),m 3 (by decide),m 4 (by decide),m 5 (by decide),m 6 (by decide),m 7 (by decide),m 8 (by decide)];exact main) p hp)
      intro p hp
      rw[hI19];exact fin p hp
    ·have t7:N.i 7=65535:=by omega
     clear hge
     rcases Int.lt_or_le (N.i 6) 65535 with hlt | hge
     ·refine to_out hm hcall o19_6 (by kernel_rfl) hat hent fun M hag hf hd=> ?_
      have m:∀x,x<19→M.i x=N.i x:=hag.i
      simp only[List.forall_mem_cons,Df.sat,Nd.ev,Ar.ev] at hd
      obtain ⟨q24,q23,q22,q21,q20,q19,-⟩:=hd
      refine ⟨?_,⟨?_,trivial,trivial⟩,nofun⟩
      ·simp only[List.forall_mem_cons,Ob.holds]
       exact ⟨by rw[q24];exact boo_true (decide_eq_true (by rw[m 6 (by decide)];exact hlt)),by rw[q23,m 7 (by decide),t7];rfl,by rw[q22,m 7 (by decide),t7];rfl,by rw[q21,m 8 (by decide),t8];rfl,by rw[q20,m 8 (by decide),t8];rfl,by rw[q19,m 9 (by decide),hc0];rfl,nofun⟩
      ·have main:=small9 ⟨b0.1,r0⟩ ⟨b1.1,r1⟩ ⟨b2.1,r2⟩ ⟨b3.1,r3⟩ ⟨b4.1,r4⟩ ⟨b5.1,r5⟩ ⟨b6.1,r6⟩ ⟨b7.1,r7⟩ ⟨b8.1,Int.lt_trans r8 (by decide)⟩ hv (by simp only[valD,pP];omega)
       have fin:∀p∈zipJ [.var 0,.var 1,.var 2,.var 3,.var 4,.var 5,.var 6,.var 7,.var 8] 0,p.1.ev M=(digs 9 (V0%pP)).getD p.2 0:=fun p hp=>(zipJ_of' (by simp only[List.map_cons,List.map_nil,Ar.ev,m 0 (by decide),m 1 (by decide),m 2 (by decide),m 3 (by decide),m 4 (by decide),m 5 (by decide),m 6 (by decide),m 7 (by decide),m 8 (by decide)];exact main) p hp)
       intro p hp
       rw[hI19];exact fin p hp
     ·have t6:N.i 6=65535:=by omega
      clear hge
      rcases Int.lt_or_le (N.i 5) 65535 with hlt | hge
      ·refine to_out hm hcall o19_5 (by kernel_rfl) hat hent fun M hag hf hd=> ?_
       have m:∀x,x<19→M.i x=N.i x:=hag.i
       simp only[List.forall_mem_cons,Df.sat,Nd.ev,Ar.ev] at hd
       obtain ⟨q26,q25,q24,q23,q22,q21,q20,q19,-⟩:=hd
       refine ⟨?_,⟨?_,trivial,trivial⟩,nofun⟩
       ·simp only[List.forall_mem_cons,Ob.holds]
        exact ⟨by rw[q26];exact boo_true (decide_eq_true (by rw[m 5 (by decide)];exact hlt)),by rw[q25,m 6 (by decide),t6];rfl,by rw[q24,m 6 (by decide),t6];rfl,by rw[q23,m 7 (by decide),t7];rfl,by rw[q22,m 7 (by decide),t7];rfl,by rw[q21,m 8 (by decide),t8];rfl,by rw[q20,m 8 (by decide),t8];rfl,by rw[q19,m 9 (by decide),hc0];rfl,nofun⟩
       ·have main:=small9 ⟨b0.1,r0⟩ ⟨b1.1,r1⟩ ⟨b2.1,r2⟩ ⟨b3.1,r3⟩ ⟨b4.1,r4⟩ ⟨b5.1,r5⟩ ⟨b6.1,r6⟩ ⟨b7.1,r7⟩ ⟨b8.1,Int.lt_trans r8 (by decide)⟩ hv (by simp only[valD,pP];omega)
        have fin:∀p∈zipJ [.var 0,.var 1,.var 2,.var 3,.var 4,.var 5,.var 6,.var 7,.var 8] 0,p.1.ev M=(digs 9 (V0%pP)).getD p.2 0:=fun p hp=>(zipJ_of' (by simp only[List.map_cons,List.map_nil,Ar.ev,m 0 (by decide),m 1 (by decide),m 2 (by decide),m 3 (by decide),m 4 (by decide),m 5 (by decide),m 6 (by decide),m 7 (by decide),m 8 (by decide)];exact main) p hp)
        intro p hp
        rw[hI19];exact fin p hp
      ·have t5:N.i 5=65535:=by omega
       clear hge
       rcases Int.lt_or_le (N.i 4) 65535 with hlt | hge
       ·refine to_out hm hcall o19_4 (by kernel_rfl) hat hent fun M hag hf hd=> ?_
        have m:∀x,x<19→M.i x=N.i x:=hag.i
        simp only[List.forall_mem_cons,Df.sat,Nd.ev,Ar.ev] at hd
        obtain ⟨q28,q27,q26,q25,q24,q23,q22,q21,q20,q19,-⟩:=hd
        refine ⟨?_,⟨?_,trivial,trivial⟩,nofun⟩
        ·simp only[List.forall_mem_cons,Ob.holds]
         exact ⟨by rw[q28];exact boo_true (decide_eq_true (by rw[m 4 (by decide)];exact hlt)),by rw[q27,m 5 (by decide),t5];rfl,by rw[q26,m 5 (by decide),t5];rfl,by rw[q25,m 6 (by decide),t6];rfl,by rw[q24,m 6 (by decide),t6];rfl,by rw[q23,m 7 (by decide),t7];rfl,by rw[q22,m 7 (by decide),t7];rfl,by rw[q21,m 8 (by decide),t8];rfl,by rw[q20,m 8 (by decide),t8];rfl,by rw[q19,m 9 (by decide),hc0];rfl,nofun⟩
        ·have main:=small9 ⟨b0.1,r0⟩ ⟨b1.1,r1⟩ ⟨b2.1,r2⟩ ⟨b3.1,r3⟩ ⟨b4.1,r4⟩ ⟨b5.1,r5⟩ ⟨b6.1,r6⟩ ⟨b7.1,r7⟩ ⟨b8.1,Int.lt_trans r8 (by decide)⟩ hv (by simp only[valD,pP];omega)
         have fin:∀p∈zipJ [.var 0,.var 1,.var 2,.var 3,.var 4,.var 5,.var 6,.var 7,.var 8] 0,p.1.ev M=(digs 9 (V0%pP)).getD p.2 0:=fun p hp=>(zipJ_of' (by simp only[List.map_cons,List.map_nil,Ar.ev,m 0 (by decide),m 1 (by decide),m 2 (by decide),m 3 (by decide),m 4 (by decide),m 5 (by decide),m 6 (by decide),m 7 (by decide),m 8 (by decide)];exact main) p hp)
         intro p hp
         rw[hI19];exact fin p hp
       ·have t4:N.i 4=65535:=by omega
        clear hge
        rcases Int.lt_or_le (N.i 3) 65535 with hlt | hge
        ·refine to_out hm hcall o19_3 (by kernel_rfl) hat hent fun M hag hf hd=> ?_
         have m:∀x,x<19→M.i x=N.i x:=hag.i
         simp only[List.forall_mem_cons,Df.sat,Nd.ev,Ar.ev] at hd
         obtain ⟨q30,q29,q28,q27,q26,q25,q24,q23,q22,q21,q20,q19,-⟩:=hd
         refine ⟨?_,⟨?_,trivial,trivial⟩,nofun⟩
         ·simp only[List.forall_mem_cons,Ob.holds]
          exact ⟨by rw[q30];exact boo_true (decide_eq_true (by rw[m 3 (by decide)];exact hlt)),by rw[q29,m 4 (by decide),t4];rfl,by rw[q28,m 4 (by decide),t4];rfl,by rw[q27,m 5 (by decide),t5];rfl,by rw[q26,m 5 (by decide),t5];rfl,by rw[q25,m 6 (by decide),t6];rfl,by rw[q24,m 6 (by decide),t6];rfl,by rw[q23,m 7 (by decide),t7];rfl,by rw[q22,m 7 (by decide),t7];rfl,by rw[q21,m 8 (by decide),t8];rfl,by rw[q20,m 8 (by decide),t8];rfl,by rw[q19,m 9 (by decide),hc0];rfl,nofun⟩
         ·have main:=small9 ⟨b0.1,r0⟩ ⟨b1.1,r1⟩ ⟨b2.1,r2⟩ ⟨b3.1,r3⟩ ⟨b4.1,r4⟩ ⟨b5.1,r5⟩ ⟨b6.1,r6⟩ ⟨b7.1,r7⟩ ⟨b8.1,Int.lt_trans r8 (by decide)⟩ hv (by simp only[valD,pP];omega)
          have fin:∀p∈zipJ [.var 0,.var 1,.var 2,.var 3,.var 4,.var 5,.var 6,.var 7,.var 8] 0,p.1.ev M=(digs 9 (V0%pP)).getD p.2 0:=fun p hp=>(zipJ_of' (by simp only[List.map_cons,List.map_nil,Ar.ev,m 0 (by decide),m 1 (by decide),m 2 (by decide),m 3 (by decide),m 4 (by decide),m 5 (by decide),m 6 (by decide),m 7 (by decide),m 8 (by decide)];exact main) p hp)
          intro p hp
          rw[hI19];exact fin p hp
        ·have t3:N.i 3=65535:=by omega
         clear hge
         rcases Int.lt_or_le (N.i 2) 65535 with hlt | hge
         ·refine to_out hm hcall o19_2 (by kernel_rfl) hat hent fun M hag hf hd=> ?_
          have m:∀x,x<19→M.i x=N.i x:=hag.i
          simp only[List.forall_mem_cons,Df.sat,Nd.ev,Ar.ev] at hd
          obtain ⟨q32,q31,q30,q29,q28,q27,q26,q25,q24,q23,q22,q21,q20,q19,-⟩:=hd
          refine ⟨?_,⟨?_,trivial,trivial⟩,nofun⟩
          ·simp only[List.forall_mem_cons,Ob.holds]
           exact ⟨by rw[q32];exact boo_true (decide_eq_true (by rw[m 2 (by decide)];exact hlt)),by rw[q31,m 3 (by decide),t3];rfl,by rw[q30,m 3 (by decide),t3];rfl,by rw[q29,m 4 (by decide),t4];rfl,by rw[q28,m 4 (by decide),t4];rfl,by rw[q27,m 5 (by decide),t5];rfl,by rw[q26,m 5 (by decide),t5];rfl,by rw[q25,m 6 (by decide),t6];rfl,by rw[q24,m 6 (by decide),t6];rfl,by rw[q23,m 7 (by decide),t7];rfl,by rw[q22,m 7 (by decide),t7];rfl,by rw[q21,m 8 (by decide),t8];rfl,by rw[q20,m 8 (by decide),t8];rfl,by rw[q19,m 9 (by decide),hc0];rfl,nofun⟩
          ·have main:=small9 ⟨b0.1,r0⟩ ⟨b1.1,r1⟩ ⟨b2.1,r2⟩ ⟨b3.1,r3⟩ ⟨b4.1,r4⟩ ⟨b5.1,r5⟩ ⟨b6.1,r6⟩ ⟨b7.1,r7⟩ ⟨b8.1,Int.lt_trans r8 (by decide)⟩ hv (by simp only[valD,pP];omega)
           have fin:∀p∈zipJ [.var 0,.var 1,.var 2,.var 3,.var 4,.var 5,.var 6,.var 7,.var 8] 0,p.1.ev M=(digs 9 (V0%pP)).getD p.2 0:=fun p hp=>(zipJ_of' (by simp only[List.map_cons,List.map_nil,Ar.ev,m 0 (by decide),m 1 (by decide),m 2 (by decide),m 3 (by decide),m 4 (by decide),m 5 (by decide),m 6 (by decide),m 7 (by decide),m 8 (by decide)];exact main) p hp)
           intro p hp
           rw[hI19];exact fin p hp
         ·have t2:N.i 2=65535:=by omega
          clear hge
          rcases Int.lt_or_le (N.i 1) 65535 with hlt | hge
          ·refine to_out hm hcall o19_1 (by kernel_rfl) hat hent fun M hag hf hd=> ?_
           have m:∀x,x<19→M.i x=N.i x:=hag.i
           simp only[List.forall_mem_cons,Df.sat,Nd.ev,Ar.ev] at hd
           obtain ⟨q34,q33,q32,q31,q30,q29,q28,q27,q26,q25,q24,q23,q22,q21,q20,q19,-⟩:=hd
           refine ⟨?_,⟨?_,trivial,trivial⟩,nofun⟩
           ·simp only[List.forall_mem_cons,Ob.holds]
            exact ⟨by rw[q34];exact boo_true (decide_eq_true (by rw[m 1 (by decide)];exact hlt)),by rw[q33,m 2 (by decide),t2];rfl,by rw[q32,m 2 (by decide),t2];rfl,by rw[q31,m 3 (by decide),t3];rfl,by rw[q30,m 3 (by decide),t3];rfl,by rw[q29,m 4 (by decide),t4];rfl,by rw[q28,m 4 (by decide),t4];rfl,by rw[q27,m 5 (by decide),t5];rfl,by rw[q26,m 5 (by decide),t5];rfl,by rw[q25,m 6 (by decide),t6];rfl,by rw[q24,m 6 (by decide),t6];rfl,by rw[q23,m 7 (by decide),t7];rfl,by rw[q22,m 7 (by decide),t7];rfl,by rw[q21,m 8 (by decide),t8];rfl,by rw[q20,m 8 (by decide),t8];rfl,by rw[q19,m 9 (by decide),hc0];rfl,nofun⟩
           ·have main:=small9 ⟨b0.1,r0⟩ ⟨b1.1,r1⟩ ⟨b2.1,r2⟩ ⟨b3.1,r3⟩ ⟨b4.1,r4⟩ ⟨b5.1,r5⟩ ⟨b6.1,r6⟩ ⟨b7.1,r7⟩ ⟨b8.1,Int.lt_trans r8 (by decide)⟩ hv (by simp only[valD,pP];omega)
            have fin:∀p∈zipJ [.var 0,.var 1,.var 2,.var 3,.var 4,.var 5,.var 6,.var 7,.var 8] 0,p.1.ev M=(digs 9 (V0%pP)).getD p.2 0:=fun p hp=>(zipJ_of' (by simp only[List.map_cons,List.map_nil,Ar.ev,m 0 (by decide),m 1 (by decide),m 2 (by decide),m 3 (by decide),m 4 (by decide),m 5 (by decide),m 6 (by decide),m 7 (by decide),m 8 (by decide)];exact main) p hp)
            intro p hp
            rw[hI19];exact fin p hp
          ·have t1:N.i 1=65535:=by omega
           clear hge
           rcases Int.lt_or_le (N.i 0) 65531 with hlt | hge
           ·refine to_out hm hcall o19_0 (by kernel_rfl) hat hent fun M hag hf hd=> ?_
            have m:∀x,x<19→M.i x=N.i x:=hag.i
            simp only[List.forall_mem_cons,Df.sat,Nd.ev,Ar.ev] at hd
            obtain ⟨q36,q35,q34,q33,q32,q31,q30,q29,q28,q27,q26,q25,q24,q23,q22,q21,q20,q19,-⟩:=hd
            refine ⟨?_,⟨?_,trivial,trivial⟩,nofun⟩
            ·simp only[List.forall_mem_cons,Ob.holds]
             exact ⟨by rw[q36];exact boo_true (decide_eq_true (by rw[m 0 (by decide)];exact hlt)),by rw[q35,m 1 (by decide),t1];rfl,by rw[q34,m 1 (by decide),t1];rfl,by rw[q33,m 2 (by decide),t2];rfl,by rw[q32,m 2 (by decide),t2];rfl,by rw[q31,m 3 (by decide),t3];rfl,by rw[q30,m 3 (by decide),t3];rfl,by rw[q29,m 4 (by decide),t4];rfl,by rw[q28,m 4 (by decide),t4];rfl,by rw[q27,m 5 (by decide),t5];rfl,by rw[q26,m 5 (by decide),t5];rfl,by rw[q25,m 6 (by decide),t6];rfl,by rw[q24,m 6 (by decide),t6];rfl,by rw[q23,m 7 (by decide),t7];rfl,by rw[q22,m 7 (by decide),t7];rfl,by rw[q21,m 8 (by decide),t8];rfl,by rw[q20,m 8 (by decide),t8];rfl,by rw[q19,m 9 (by decide),hc0];rfl,nofun⟩
            ·have main:=small9 ⟨b0.1,r0⟩ ⟨b1.1,r1⟩ ⟨b2.1,r2⟩ ⟨b3.1,r3⟩ ⟨b4.1,r4⟩ ⟨b5.1,r5⟩ ⟨b6.1,r6⟩ ⟨b7.1,r7⟩ ⟨b8.1,Int.lt_trans r8 (by decide)⟩ hv (by simp only[valD,pP];omega)
             have fin:∀p∈zipJ [.var 0,.var 1,.var 2,.var 3,.var 4,.var 5,.var 6,.var 7,.var 8] 0,p.1.ev M=(digs 9 (V0%pP)).getD p.2 0:=fun p hp=>(zipJ_of' (by simp only[List.map_cons,List.map_nil,Ar.ev,m 0 (by decide),m 1 (by decide),m 2 (by decide),m 3 (by decide),m 4 (by decide),m 5 (by decide),m 6 (by decide),m 7 (by decide),m 8 (by decide)];exact main) p hp)
             intro p hp
             rw[hI19];exact fin p hp
           ·rcases Int.lt_or_le 65531 (N.i 0) with hgt | hle
            ·refine to_out hm hcall o19_b (by kernel_rfl) hat hent fun M hag hf hd=> ?_
             have m:∀x,x<19→M.i x=N.i x:=hag.i
             simp only[List.forall_mem_cons,Df.sat,Nd.ev,Ar.ev] at hd
             obtain ⟨q91,q90,q89,q88,q87,q86,q85,q84,q83,q82,q81,q80,q79,q78,q77,q76,q75,q74,q73,q72,q71,q70,q69,q68,q67,q66,q65,q64,q63,q62,q61,q60,q59,q58,q57,q56,q55,q54,q53,q52,q51,q50,q49,q48,q47,q46,q45,q44,q43,q42,q41,q40,q39,q38,q37,q36,q35,q34,q33,q32,q31,q30,q29,q28,q27,q26,q25,q24,q23,q22,q21,q20,q19,-⟩:=hd
             have u0:M.i 0=N.i 0:=m 0 (by decide)
             have h38:M.i 38=N.i 0+65536:=by rw[q38,u0,u64_add];omega
             have h39:M.i 39=N.i 0+5:=by rw[q39,h38,u64_sub];omega
             have h40:M.i 40=N.i 0+5:=by rw[q40,h39,u64_sub];omega
             have h41:M.i 41=N.i 0-65531:=by rw[q41,h40,show (65536:Int)=((65536:Nat):Int) from rfl,u64_rem (by omega)];omega
             have h42:M.i 42=1:=by rw[q42,h40,show (65536:Int)=((65536:Nat):Int) from rfl,u64_quo (by omega) (by omega) (by decide)];omega
             have h43:M.i 43=0:=by rw[q43,h42];decide
             obtain ⟨h47,h49⟩:=bor ((m 1 (by decide)).trans t1) h43 q44 q45 q46 q47 q48 q49
             obtain ⟨h53,h55⟩:=bor ((m 2 (by decide)).trans t2) h49 q50 q51 q52 q53 q54 q55
             obtain ⟨h59,h61⟩:=bor ((m 3 (by decide)).trans t3) h55 q56 q57 q58 q59 q60 q61
             obtain ⟨h65,h67⟩:=bor ((m 4 (by decide)).trans t4) h61 q62 q63 q64 q65 q66 q67
             obtain ⟨h71,h73⟩:=bor ((m 5 (by decide)).trans t5) h67 q68 q69 q70 q71 q72 q73
             obtain ⟨h77,h79⟩:=bor ((m 6 (by decide)).trans t6) h73 q74 q75 q76 q77 q78 q79
             obtain ⟨h83,h85⟩:=bor ((m 7 (by decide)).trans t7) h79 q80 q81 q82 q83 q84 q85
             have h86:M.i 86=65539:=by rw[q86,m 8 (by decide),t8];decide
             have h87:M.i 87=65536:=by rw[q87,h86];decide
             have h88:M.i 88=65536:=by rw[q88,h87,h85];decide
             have h89:M.i 89=0:=by rw[q89,h88];decide
             refine ⟨?_,⟨?_,trivial,trivial⟩,nofun⟩
             ·simp only[List.forall_mem_cons,Ob.holds]
              exact ⟨by rw[q37];exact boo_true (decide_eq_true (by rw[m 0 (by decide)];exact hgt)),by rw[q36];exact boo_false (decide_eq_false (by rw[m 0 (by decide)];omega)),by rw[q35,m 1 (by decide),t1];rfl,by rw[q34,m 1 (by decide),t1];rfl,by rw[q33,m 2 (by decide),t2];rfl,by rw[q32,m 2 (by decide),t2];rfl,by rw[q31,m 3 (by decide),t3];rfl,by rw[q30,m 3 (by decide),t3];rfl,by rw[q29,m 4 (by decide),t4];rfl,by rw[q28,m 4 (by decide),t4];rfl,by rw[q27,m 5 (by decide),t5];rfl,by rw[q26,m 5 (by decide),t5];rfl,by rw[q25,m 6 (by decide),t6];rfl,by rw[q24,m 6 (by decide),t6];rfl,by rw[q23,m 7 (by decide),t7];rfl,by rw[q22,m 7 (by decide),t7];rfl,by rw[q21,m 8 (by decide),t8];rfl,by rw[q20,m 8 (by decide),t8];rfl,by rw[q19,m 9 (by decide),hc0];rfl,nofun⟩
             ·have hv':valD [N.i 0-65531,0,0,0,0,0,0,0,0]%pP=V0%pP:=by
               rw[←hv,t1,t2,t3,t4,t5,t6,t7,t8]
               have:valD [N.i 0-65531,0,0,0,0,0,0,0,0]=valD [N.i 0,65535,65535,65535,65535,65535,65535,65535,3]-1*pP:=by simp only[valD,pP];omega
               rw[this,mod_sub_mul]
              have main:=small9 (a:=N.i 0-65531) ⟨by omega,by omega⟩ (by decide) (by decide) (by decide) (by decide) (by decide) (by decide) (by decide) (by decide) hv' (by simp only[valD,pP];omega)
              have fin:∀p∈zipJ [.var 41,.var 47,.var 53,.var 59,.var 65,.var 71,.var 77,.var 83,.var 89] 0,p.1.ev M=(digs 9 (V0%pP)).getD p.2 0:=fun p hp=>(zipJ_of' (by simp only[List.map_cons,List.map_nil,Ar.ev,h41,h47,h53,h59,h65,h71,h77,h83,h89];exact main) p hp)
              intro p hp
              rw[hI19];exact fin p hp
            ·refine to_out hm hcall o19_e (by kernel_rfl) hat hent fun M hag hf hd=> ?_
             have m:∀x,x<19→M.i x=N.i x:=hag.i
             simp only[List.forall_mem_cons,Df.sat,Nd.ev,Ar.ev] at hd
             obtain ⟨q91,q90,q89,q88,q87,q86,q85,q84,q83,q82,q81,q80,q79,q78,q77,q76,q75,q74,q73,q72,q71,q70,q69,q68,q67,q66,q65,q64,q63,q62,q61,q60,q59,q58,q57,q56,q55,q54,q53,q52,q51,q50,q49,q48,q47,q46,q45,q44,q43,q42,q41,q40,q39,q38,q37,q36,q35,q34,q33,q32,q31,q30,q29,q28,q27,q26,q25,q24,q23,q22,q21,q20,q19,-⟩:=hd
             have u0:M.i 0=N.i 0:=m 0 (by decide)
             have h38:M.i 38=N.i 0+65536:=by rw[q38,u0,u64_add];omega
             have h39:M.i 39=N.i 0+5:=by rw[q39,h38,u64_sub];omega
             have h40:M.i 40=N.i 0+5:=by rw[q40,h39,u64_sub];omega
             have h41:M.i 41=N.i 0-65531:=by rw[q41,h40,show (65536:Int)=((65536:Nat):Int) from rfl,u64_rem (by omega)];omega
             have h42:M.i 42=1:=by rw[q42,h40,show (65536:Int)=((65536:Nat):Int) from rfl,u64_quo (by omega) (by omega) (by decide)];omega
             have h43:M.i 43=0:=by rw[q43,h42];decide
             obtain ⟨h47,h49⟩:=bor ((m 1 (by decide)).trans t1) h43 q44 q45 q46 q47 q48 q49
             obtain ⟨h53,h55⟩:=bor ((m 2 (by decide)).trans t2) h49 q50 q51 q52 q53 q54 q55
             obtain ⟨h59,h61⟩:=bor ((m 3 (by decide)).trans t3) h55 q56 q57 q58 q59 q60 q61
             obtain ⟨h65,h67⟩:=bor ((m 4 (by decide)).trans t4) h61 q62 q63 q64 q65 q66 q67
             obtain ⟨h71,h73⟩:=bor ((m 5 (by decide)).trans t5) h67 q68 q69 q70 q71 q72 q73
             obtain ⟨h77,h79⟩:=bor ((m 6 (by decide)).trans t6) h73 q74 q75 q76 q77 q78 q79
             obtain ⟨h83,h85⟩:=bor ((m 7 (by decide)).trans t7) h79 q80 q81 q82 q83 q84 q85
             have h86:M.i 86=65539:=by rw[q86,m 8 (by decide),t8];decide
             have h87:M.i 87=65536:=by rw[q87,h86];decide
             have h88:M.i 88=65536:=by rw[q88,h87,h85];decide
             have h89:M.i 89=0:=by rw[q89,h88];decide
             refine ⟨?_,⟨?_,trivial,trivial⟩,nofun⟩
             ·simp only[List.forall_mem_cons,Ob.holds]
              exact ⟨by rw[q37];exact boo_false (decide_eq_false (by rw[m 0 (by decide)];omega)),by rw[q36];exact boo_false (decide_eq_false (by rw[m 0 (by decide)];omega)),by rw[q35,m 1 (by decide),t1];rfl,by rw[q34,m 1 (by decide),t1];rfl,by rw[q33,m 2 (by decide),t2];rfl,by rw[q32,m 2 (by decide),t2];rfl,by rw[q31,m 3 (by decide),t3];rfl,by rw[q30,m 3 (by decide),t3];rfl,by rw[q29,m 4 (by decide),t4];rfl,by rw[q28,m 4 (by decide),t4];rfl,by rw[q27,m 5 (by decide),t5];rfl,by rw[q26,m 5 (by decide),t5];rfl,by rw[q25,m 6 (by decide),t6];rfl,by rw[q24,m 6 (by decide),t6];rfl,by rw[q23,m 7 (by decide),t7];rfl,by rw[q22,m 7 (by decide),t7];rfl,by rw[q21,m 8 (by decide),t8];rfl,by rw[q20,m 8 (by decide),t8];rfl,by rw[q19,m 9 (by decide),hc0];rfl,nofun⟩
             ·have hv':valD [N.i 0-65531,0,0,0,0,0,0,0,0]%pP=V0%pP:=by
               rw[←hv,t1,t2,t3,t4,t5,t6,t7,t8]
               have:valD [N.i 0-65531,0,0,0,0,0,0,0,0]=valD [N.i 0,65535,65535,65535,65535,65535,65535,65535,3]-1*pP:=by simp only[valD,pP];omega
               rw[this,mod_sub_mul]
              have main:=small9 (a:=N.i 0-65531) ⟨by omega,by omega⟩ (by decide) (by decide) (by decide) (by decide) (by decide) (by decide) (by decide) (by decide) hv' (by simp only[valD,pP];omega)
              have fin:∀p∈zipJ [.var 41,.var 47,.var 53,.var 59,.var 65,.var 71,.var 77,.var 83,.var 89] 0,p.1.ev M=(digs 9 (V0%pP)).getD p.2 0:=fun p hp=>(zipJ_of' (by simp only[List.map_cons,List.map_nil,Ar.ev,h41,h47,h53,h59,h65,h71,h77,h83,h89];exact main) p hp)
              intro p hp
              rw[hI19];exact fin p hp
end Go.Proofs.Ytlcljhlijmombaa
