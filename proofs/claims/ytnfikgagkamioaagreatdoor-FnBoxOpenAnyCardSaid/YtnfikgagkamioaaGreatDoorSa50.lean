/- poly1305's beginning and end. -/
import Derived.Test.YtnfikgagkamioaaGreatDoorSa53
namespace Go.Sy
theorem adS {a b c:Int}(ha:0≤a)(hb:0≤b)(hc:0≤c):(((a.toNat+b.toNat+c.toNat)%18446744073709551616:Nat):Int)=(a+b+c)%18446744073709551616:=by omega
theorem adC {a b c:Int}(ha:0≤a∧a<18446744073709551616)(hb:0≤b∧b<18446744073709551616)(hc:0≤c∧c≤1):(if 18446744073709551616≤a.toNat+b.toNat+c.toNat then (1:Int) else 0)=(a+b+c)/18446744073709551616:=by
 split <;> omega
theorem and_hi {a:Int}(h0:0≤a)(h1:a<18446744073709551616):iop .and .u64 a 18446744073709551612=a-a%4:=by
 obtain ⟨x,rfl⟩:=aZ h0;have hx:x<2^64:=by
  have:((2:Nat)^64:Nat)=18446744073709551616:=by decide
  omega
 rw[show (18446744073709551612:Int)=((18446744073709551612:Nat):Int) from rfl,iop_and (k:= .u64) rfl hx (by decide)];have h2:x&&&18446744073709551612=x-x%4:=by
  apply Nat.eq_of_testBit_eq;intro i;rw[Nat.testBit_and,show x-x%4=2^2*(x/2^2) by omega,Nat.testBit_two_pow_mul,Nat.testBit_div_two_pow];rcases bL i 64 with h | h
  ·have:∀j:Fin 64,Nat.testBit 18446744073709551612 j.val=decide (2≤j.val):=by decide
   rw[this ⟨i,h⟩];by_cases hi:2≤i;·simp [hi]
   ·simp [hi]
  ·rw [Nat.testBit_lt_two_pow (dN hx (Nat.pow_le_pow_right (by decide) h))];simp;intro hi;rw[show i-2+2=i by omega];exact Nat.testBit_lt_two_pow (dN hx (Nat.pow_le_pow_right (by decide) h))
 rw[h2];omega
theorem modB (x:Int):0≤x%18446744073709551616∧x%18446744073709551616<18446744073709551616:=by omega
theorem carB {a b c:Int}(ha:0≤a∧a<18446744073709551616)(hb:0≤b∧b<18446744073709551616)(hc:0≤c∧c≤1):0≤(a+b+c)/18446744073709551616∧(a+b+c)/18446744073709551616≤1:=by omega
theorem dB {x:Int}(h0:0≤x)(h1:x<340282366920938463463374607431768211456):0≤x/18446744073709551616∧x/18446744073709551616<18446744073709551616:=by omega
theorem t3B {p20 p11 p21 c:Int}(B20:0≤p20∧p20≤6*1152921487695413247)(B11:0≤p11∧p11≤18446744073709551615*1152921487695413244)(B21:0≤p21∧p21≤6*1152921487695413244)(hc:0≤c∧c≤1) :
 (p21+(p20+p11)/18446744073709551616+c)%18446744073709551616=p21+(p20+p11)/18446744073709551616+c:=by omega
theorem hiB {x:Int}(h:0≤x∧x<18446744073709551616):0≤x-x%4∧x-x%4<18446744073709551616:=by omega
theorem shB {x y:Int}(h:0≤x∧x<18446744073709551616)(_k:0≤y∧y<18446744073709551616):0≤x/4+y%4*4611686018427387904∧x/4+y%4*4611686018427387904<18446744073709551616:=by omega
theorem quB {x:Int}(h:0≤x∧x<18446744073709551616):0≤x/4∧x/4<18446744073709551616:=by omega
theorem smB {x c:Int}(h:0≤x∧x≤4)(k:0≤c∧c≤1):(x+c)%18446744073709551616=x+c:=by omega
theorem lo4 (x:Int):0≤x%4∧x%4≤4:=by omega
theorem lo5 {x c:Int}(h:0≤c∧c≤1):0≤x%4+c∧x%4+c≤4:=by omega
def redN (X:Int):Int:=X%1361129467683753853853498429727072845824+5*(X/1361129467683753853853498429727072845824)
theorem mul_b {x y a b:Int}(hx:0≤x∧x≤a)(hy:0≤y∧y≤b):0≤x*y∧x*y≤a*b :=
 ⟨Int.mul_nonneg hx.1 hy.1,Int.mul_le_mul hx.2 hy.2 hy.1 (Int.le_trans hx.1 hx.2)⟩
set_option maxHeartbeats 2000000 in
theorem limbs {p00 p10 p20 p01 p11 p21 t1 t2 t3 c1 c2:Int}
 (b00:0≤p00∧p00<21267647932558653966460912964485513216) (b10:0≤p10∧p10<21267647932558653966460912964485513216) (b20:0≤p20∧p20<9223372036854775808) (b01:0≤p01∧p01<21267647932558653966460912964485513216)
 (b11:0≤p11∧p11<21267647932558653966460912964485513216) (b21:0≤p21∧p21<6917529027641081857)
 (h1:t1=((p10+p01)%18446744073709551616+p00/18446744073709551616)%18446744073709551616) (k1:c1=((p10+p01)%18446744073709551616+p00/18446744073709551616)/18446744073709551616)
 (h2:t2=((p20+p11)%18446744073709551616+(p10+p01)/18446744073709551616+c1)%18446744073709551616) (k2:c2=((p20+p11)%18446744073709551616+(p10+p01)/18446744073709551616+c1)/18446744073709551616)
 (h3:t3=p21+(p20+p11)/18446744073709551616+c2) :
 p00%18446744073709551616+t1*18446744073709551616+t2*340282366920938463463374607431768211456+t3*6277101735386680763835789423207666416102355444464034512896 =
  p00+(p10+p01)*18446744073709551616+(p20+p11)*340282366920938463463374607431768211456+p21*6277101735386680763835789423207666416102355444464034512896 ∧
 (0≤t1∧t1<18446744073709551616)∧(0≤t2∧t2<18446744073709551616)∧(0≤t3∧t3<9223372036854775808):=by
 generalize hM1:p10+p01=M1 at *;generalize hM2:p20+p11=M2 at *;omega
set_option maxHeartbeats 2000000 in
theorem fold {t0 t1 t2 t3 l c x0 d0 x1 d1 x2 y0 e0 y1 e1 y2:Int}(b0:0≤t0∧t0<18446744073709551616)(b1:0≤t1∧t1<18446744073709551616)(b2:0≤t2∧t2<18446744073709551616)(b3:0≤t3∧t3<9223372036854775808)
 (hl:l=t2%4) (hc:c=t2-t2%4)
 (h0:x0=(t0+c)%18446744073709551616) (k0:d0=(t0+c)/18446744073709551616) (h1:x1=(t1+t3+d0)%18446744073709551616) (k1:d1=(t1+t3+d0)/18446744073709551616) (h2:x2=l+d1)
 (g0:y0=(x0+(c/4+t3%4*4611686018427387904))%18446744073709551616) (j0:e0=(x0+(c/4+t3%4*4611686018427387904))/18446744073709551616) (g1:y1=(x1+t3/4+e0)%18446744073709551616) (j1:e1=(x1+t3/4+e0)/18446744073709551616) (g2:y2=x2+e1) :
 y0+y1*18446744073709551616+y2*340282366920938463463374607431768211456=redN (t0+t1*18446744073709551616+t2*340282366920938463463374607431768211456+t3*6277101735386680763835789423207666416102355444464034512896) ∧
 (0≤y0∧y0<18446744073709551616)∧(0≤y1∧y1<18446744073709551616)∧0≤y2∧y2≤4∧0≤x2∧x2≤4:=by
 have e:t0+t1*18446744073709551616+t2*340282366920938463463374607431768211456+t3*6277101735386680763835789423207666416102355444464034512896 =
  (t0+t1*18446744073709551616+(t2%4)*340282366920938463463374607431768211456)+(t2/4+t3*4611686018427387904)*1361129467683753853853498429727072845824:=by omega
 have hlow:0≤t0+t1*18446744073709551616+(t2%4)*340282366920938463463374607431768211456∧t0+t1*18446744073709551616+(t2%4)*340282366920938463463374607431768211456<1361129467683753853853498429727072845824:=by omega
 unfold redN;rw[e];have e1:(t0+t1*18446744073709551616+(t2%4)*340282366920938463463374607431768211456+(t2/4+t3*4611686018427387904)*1361129467683753853853498429727072845824)%1361129467683753853853498429727072845824=t0+t1*18446744073709551616+(t2%4)*340282366920938463463374607431768211456:=by rw[Int.add_mul_emod_self_right];exact bN hlow.1 hlow.2
 have e2:(t0+t1*18446744073709551616+(t2%4)*340282366920938463463374607431768211456+(t2/4+t3*4611686018427387904)*1361129467683753853853498429727072845824)/1361129467683753853853498429727072845824=t2/4+t3*4611686018427387904:=by rw[Int.add_mul_ediv_right _ _ (by decide),Int.ediv_eq_zero_of_lt hlow.1 hlow.2,Int.zero_add]
 rw[e1,e2];have main:y0+y1*18446744073709551616+y2*340282366920938463463374607431768211456=t0+t1*18446744073709551616+(t2%4)*340282366920938463463374607431768211456+5*(t2/4+t3*4611686018427387904):=by omega
 exact ⟨main,by omega,by omega,by omega,by omega,by omega,by omega⟩
set_option maxHeartbeats 4000000 in
theorem red {g0 g1 g2 r0 r1 a26 a27 a28 a29 a30 a31 a32 a33 a34 a35 a36 a37 a40 a41 a42 a43 a44 a45 a46 a47 a48 a50 a51 a52 a53 a54 a55 a56 a57 a58 a59 a60 a61 a62 a63:Int}
 (hg0:0≤g0∧g0<18446744073709551616) (hg1:0≤g1∧g1<18446744073709551616) (hg2:0≤g2∧g2≤6) (hr0:0≤r0∧r0≤1152921487695413247) (hr1:0≤r1∧r1≤1152921487695413244)
 (q26:a26=g0*r0%18446744073709551616) (q27:a27=g0*r0/18446744073709551616) (q28:a28=g1*r0%18446744073709551616) (q29:a29=g1*r0/18446744073709551616)
 (q30:a30=g2*r0%18446744073709551616) (q31:a31=g2*r0/18446744073709551616) (q32:a32=g0*r1%18446744073709551616) (q33:a33=g0*r1/18446744073709551616)
 (q34:a34=g1*r1%18446744073709551616) (q35:a35=g1*r1/18446744073709551616) (q36:a36=g2*r1%18446744073709551616) (q37:a37=g2*r1/18446744073709551616)
 (q40:a40=(a28+a32)%18446744073709551616) (q41:a41=(a28+a32)/18446744073709551616+a29+a33) (q42:a42=(a30+a34)%18446744073709551616) (q43:a43=(a30+a34)/18446744073709551616+a31+a35)
 (q44:a44=(((a40.toNat+a27.toNat+(0:Int).toNat)%18446744073709551616:Nat):Int)) (q45:a45=if 18446744073709551616≤a40.toNat+a27.toNat+(0:Int).toNat then 1 else 0)
 (q46:a46=(((a42.toNat+a41.toNat+a45.toNat)%18446744073709551616:Nat):Int)) (q47:a47=if 18446744073709551616≤a42.toNat+a41.toNat+a45.toNat then 1 else 0)
 (q48:a48=(((a36.toNat+a43.toNat+a47.toNat)%18446744073709551616:Nat):Int))
 (q50:a50=iop .and .u64 a46 3) (q51:a51=iop .and .u64 a46 18446744073709551612)
 (q52:a52=(((a26.toNat+a51.toNat+(0:Int).toNat)%18446744073709551616:Nat):Int)) (q53:a53=if 18446744073709551616≤a26.toNat+a51.toNat+(0:Int).toNat then 1 else 0)
 (q54:a54=(((a44.toNat+a48.toNat+a53.toNat)%18446744073709551616:Nat):Int)) (q55:a55=if 18446744073709551616≤a44.toNat+a48.toNat+a53.toNat then 1 else 0)
 (q56:a56=iop .add .u64 a50 a55) (q57:a57=a51/4+a48%4*4611686018427387904) (q58:a58=a48/4)
 (q59:a59=(((a52.toNat+a57.toNat+(0:Int).toNat)%18446744073709551616:Nat):Int)) (q60:a60=if 18446744073709551616≤a52.toNat+a57.toNat+(0:Int).toNat then 1 else 0)
 (q61:a61=(((a54.toNat+a58.toNat+a60.toNat)%18446744073709551616:Nat):Int)) (q62:a62=if 18446744073709551616≤a54.toNat+a58.toNat+a60.toNat then 1 else 0)
 (q63:a63=iop .add .u64 a56 a62) :
 (a59+a61*18446744073709551616+a63*340282366920938463463374607431768211456=redN ((g0+g1*18446744073709551616+g2*340282366920938463463374607431768211456)*(r0+r1*18446744073709551616)) ∧
  (0≤a59∧a59<18446744073709551616)∧(0≤a61∧a61<18446744073709551616)∧0≤a63∧a63≤4) ∧
 a31=0∧a37=0 ∧
 ((0≤a28∧a28<18446744073709551616)∧(0≤a29∧a29<18446744073709551616)∧(0≤a32∧a32<18446744073709551616)∧(0≤a33∧a33<18446744073709551616)∧(a28+a32)/18446744073709551616+a29+a33<18446744073709551616) ∧
 ((0≤a30∧a30<18446744073709551616)∧(0≤a31∧a31<18446744073709551616)∧(0≤a34∧a34<18446744073709551616)∧(0≤a35∧a35<18446744073709551616)∧(a30+a34)/18446744073709551616+a31+a35<18446744073709551616) ∧
 (0≤a40∧a40<18446744073709551616)∧(0≤a27∧a27<18446744073709551616)∧(0≤a42∧a42<18446744073709551616)∧(0≤a41∧a41<18446744073709551616) ∧
 (0≤a36∧a36<18446744073709551616)∧(0≤a43∧a43<18446744073709551616)∧(0≤a26∧a26<18446744073709551616)∧(0≤a51∧a51<18446744073709551616)∧(0≤a48∧a48<18446744073709551616) ∧
 (0≤a57∧a57<18446744073709551616)∧(0≤a58∧a58<18446744073709551616):=by
 have B00:=mul_b (x:=g0) (y:=r0) (a:=18446744073709551615) (b:=1152921487695413247) (by omega) hr0;have B10:=mul_b (x:=g1) (y:=r0) (a:=18446744073709551615) (b:=1152921487695413247) (by omega) hr0;have B20:=mul_b (x:=g2) (y:=r0) (a:=6) (b:=1152921487695413247) hg2 hr0;have B01:=mul_b (x:=g0) (y:=r1) (a:=18446744073709551615) (b:=1152921487695413244) (by omega) hr1;have B11:=mul_b (x:=g1) (y:=r1) (a:=18446744073709551615) (b:=1152921487695413244) (by omega) hr1
 have B21:=mul_b (x:=g2) (y:=r1) (a:=6) (b:=1152921487695413244) hg2 hr1;have hX:(g0+g1*18446744073709551616+g2*340282366920938463463374607431768211456)*(r0+r1*18446744073709551616) =
  g0*r0+(g1*r0+g0*r1)*18446744073709551616+(g2*r0+g1*r1)*340282366920938463463374607431768211456+g2*r1*6277101735386680763835789423207666416102355444464034512896:=by grind
 generalize g0*r0=p00 at *;generalize g1*r0=p10 at *;generalize g2*r0=p20 at *;generalize g0*r1=p01 at *;generalize g1*r1=p11 at *;generalize g2*r1=p21 at *;have r31:a31=0:=by rw[q31];exact Int.ediv_eq_zero_of_lt B20.1 (cG B20.2 (by decide))
 have r37:a37=0:=by rw[q37];exact Int.ediv_eq_zero_of_lt B21.1 (cG B21.2 (by decide))
 have s41:a40=(p10+p01)%18446744073709551616∧a41=(p10+p01)/18446744073709551616:=by clear q44 q45 q46 q47 q48 q50 q51 q52 q53 q54 q55 q56 q57 q58 q59 q60 q61 q62 q63 hX q26 q27 q30 q31 q34 q35 q36 q37 q42 q43;omega
 have s43:a42=(p20+p11)%18446744073709551616∧a43=(p20+p11)/18446744073709551616:=by clear q44 q45 q46 q47 q48 q50 q51 q52 q53 q54 q55 q56 q57 q58 q59 q60 q61 q62 q63 hX q26 q27 q28 q29 q32 q33 q36 q37 q40 q41;omega
 obtain ⟨s40,s41⟩:=s41;obtain ⟨s42,s43⟩:=s43;have s36:a36=p21:=by rw[q36];exact bN B21.1 (cG B21.2 (by decide))
 have b27:0≤a27∧a27<18446744073709551616:=by rw[q27];exact dB B00.1 (cG B00.2 (by decide))
 have b29:0≤a29∧a29<18446744073709551616:=by rw[q29];exact dB B10.1 (cG B10.2 (by decide))
 have b31:0≤a31∧a31<18446744073709551616:=by rw[r31];decide
 have b33:0≤a33∧a33<18446744073709551616:=by rw[q33];exact dB B01.1 (cG B01.2 (by decide))
 have b35:0≤a35∧a35<18446744073709551616:=by rw[q35];exact dB B11.1 (cG B11.2 (by decide))
 have b28:0≤a28∧a28<18446744073709551616:=by rw[q28];exact modB _
 have b30:0≤a30∧a30<18446744073709551616:=by rw[q30];exact modB _
 have b32:0≤a32∧a32<18446744073709551616:=by rw[q32];exact modB _
 have b34:0≤a34∧a34<18446744073709551616:=by rw[q34];exact modB _
 have b36:0≤a36∧a36<18446744073709551616:=by rw[q36];exact modB _
 have b26:0≤a26∧a26<18446744073709551616:=by rw[q26];exact modB _
 have b40:0≤a40∧a40<18446744073709551616:=by rw[q40];exact modB _
 have b42:0≤a42∧a42<18446744073709551616:=by rw[q42];exact modB _
 have b41:0≤a41∧a41<18446744073709551616:=by rw[s41];exact dB (Int.add_nonneg B10.1 B01.1) (cG (Int.add_le_add B10.2 B01.2) (by decide))
 have b43:0≤a43∧a43<18446744073709551616:=by rw[s43];exact dB (Int.add_nonneg B20.1 B11.1) (cG (Int.add_le_add B20.2 B11.2) (by decide))
 rw[adS b40.1 b27.1 (bK _)] at q44;rw[adC b40 b27 (by decide)] at q45;have c45:0≤a45∧a45≤1:=by rw[q45];exact carB b40 b27 (by decide)
 rw[adS b42.1 b41.1 c45.1] at q46;rw[adC b42 b41 c45] at q47;have c47:0≤a47∧a47≤1:=by rw[q47];exact carB b42 b41 c45
 rw[adS b36.1 b43.1 c47.1] at q48;have t3:a48=p21+(p20+p11)/18446744073709551616+a47:=by rw[q48,s36,s43];exact t3B B20 B11 B21 c47
 obtain ⟨l1,l2,l3,l4⟩:=limbs (t1:=a44) (t2:=a46) (t3:=a48) (c1:=a45) (c2:=a47) (p00:=p00) (p10:=p10) (p20:=p20) (p01:=p01) (p11:=p11) (p21:=p21)
  ⟨B00.1,cG B00.2 (by decide)⟩ ⟨B10.1,cG B10.2 (by decide)⟩ ⟨B20.1,cG B20.2 (by decide)⟩ ⟨B01.1,cG B01.2 (by decide)⟩ ⟨B11.1,cG B11.2 (by decide)⟩ ⟨B21.1,cG B21.2 (by decide)⟩
  (by rw[q44,s40,q27,dJ]) (by rw[q45,s40,q27,dJ]) (by rw[q46,s42,s41]) (by rw[q47,s42,s41]) t3
 have hc:a50=a46%4:=by rw[q50,show (3:Int)=((2^2-1:Nat):Int) from rfl,and_mask (k:= .u64) (c:=2) rfl l3.1 (by simpa [IntKind.bits] using l3.2) (by decide)];rfl
 have hm:a51=a46-a46%4:=by rw[q51];exact and_hi l3.1 l3.2
 have b51:0≤a51∧a51<18446744073709551616:=by rw[hm];exact hiB l3
 have b48:0≤a48∧a48<18446744073709551616:=⟨l4.1,dH l4.2 (by decide)⟩
 rw[adS b26.1 b51.1 (bK _)] at q52;rw[adC b26 b51 (by decide)] at q53;have c53:0≤a53∧a53≤1:=by rw[q53];exact carB b26 b51 (by decide)
 rw[adS l2.1 b48.1 c53.1] at q54;rw[adC l2 b48 c53] at q55;have c55:0≤a55∧a55≤1:=by rw[q55];exact carB l2 b48 c53
 have b52:0≤a52∧a52<18446744073709551616:=by rw[q52];exact modB _
 have b54:0≤a54∧a54<18446744073709551616:=by rw[q54];exact modB _
 have b57:0≤a57∧a57<18446744073709551616:=by rw[q57];exact shB b51 b48
 have b58:0≤a58∧a58<18446744073709551616:=by rw[q58];exact quB b48
 rw[adS b52.1 b57.1 (bK _)] at q59;rw[adC b52 b57 (by decide)] at q60;have c60:0≤a60∧a60≤1:=by rw[q60];exact carB b52 b57 (by decide)
 rw[adS b54.1 b58.1 c60.1] at q61;rw[adC b54 b58 c60] at q62;have c62:0≤a62∧a62≤1:=by rw[q62];exact carB b54 b58 c60
 rw[u64_add] at q56 q63;have s56:a56=a50+a55:=by rw[q56,hc];exact smB (lo4 a46) c55
 have s63:a63=a56+a62:=by rw[q63,s56,hc];exact smB (x:=a46%4+a55) (lo5 c55) c62
 obtain ⟨f1,f2,f3,f4,f5,_⟩:=fold (t0:=a26) (t1:=a44) (t2:=a46) (t3:=a48) (l:=a50) (c:=a51) (x0:=a52) (d0:=a53) (x1:=a54) (d1:=a55) (x2:=a56) (y0:=a59) (e0:=a60) (y1:=a61) (e1:=a62) (y2:=a63)
  b26 l2 l3 l4 hc hm (by rw[q52,dJ]) (by rw[q53,dJ]) q54 q55 s56 (by rw[q59,q57,dJ]) (by rw[q60,q57,dJ]) (by rw[q61,q58]) (by rw[q62,q58]) s63
 refine ⟨⟨?_,f2,f3,f4,f5⟩,r31,r37,⟨b28,b29,b32,b33,by rw[←q41];exact b41.2⟩,⟨b30,b31,b34,b35,by rw[←q43];exact b43.2⟩,b40,b27,b42,b41,b36,b43,b26,b51,b48,b57,b58⟩;rw[f1,hX,←l1,q26]
theorem leV_append:∀(l m:List Int),leV (l++m)=leV l+256^l.length*leV m
 | [],m=>by simp[leV]
 | x::l,m=>by
  simp only[cT,leV,leV_append l m,bU,Int.pow_succ]
  grind
theorem leV_bound:∀ {l:List Int},Bytes l→0≤leV l∧leV l<256^l.length
 | [],_=>by simp[leV]
 | x::l,h=>by have h1:=h x aN;have h2:=leV_bound (l:=l) (fun y hy=>h y (aJ _ hy));simp only[leV,bU,Int.pow_succ];omega
theorem Bytes.take {l:List Int}(h:Bytes l)(n:Nat):Bytes (l.take n):=fun x hx=>h x (dQ hx)
theorem Bytes.drop {l:List Int}(h:Bytes l)(n:Nat):Bytes (l.drop n):=fun x hx=>h x (List.mem_of_mem_drop hx)
def chunkN (m:List Int):Int:=leV m+256^m.length
def updH (R:Int):Nat→Int→List Int→Int
 | 0,H,_=>H
 | k+1,H,m=>if m.length=0 then H else updH R k (redN ((H+chunkN (m.take 16))*R)) (m.drop 16)
theorem updH_nil {R:Int}{k:Nat}{H:Int}:updH R k H []=H:=by cases k <;> rfl
theorem updH_fuel {R:Int}:∀ {k k':Nat} {H:Int} {m:List Int},m.length≤k→m.length≤k'→updH R k H m=updH R k' H m
 | 0,k',H,m,h,_=>by have:m=[]:=cI.1 (by omega);subst this;rw[updH_nil,updH_nil]
 | k+1,0,H,m,_,h=>by have:m=[]:=cI.1 (by omega);subst this;rw[updH_nil,updH_nil]
 | k+1,k'+1,H,m,h,h'=>by
  simp only[updH]
  split
  ·rfl
  ·exact updH_fuel (by rw[aT];omega) (by rw[aT];omega)
theorem updH_step {R H:Int}{m:List Int}(h:0<m.length):updH R m.length H m=updH R (m.length-16) (redN ((H+chunkN (m.take 16))*R)) (m.drop 16):=by
 obtain ⟨k,hk⟩:∃k,m.length=k+1:=⟨m.length-1,by omega⟩
 rw[hk];simp only[updH];rw[bC (by omega)];exact updH_fuel (by rw[aT];omega) (by rw[aT];omega)
theorem addc {h0 h1 h2 x y g0 g1 c c':Int}(b0:0≤h0∧h0<18446744073709551616)(b1:0≤h1∧h1<18446744073709551616)(_b2:0≤h2∧h2≤4)(bx:0≤x∧x<18446744073709551616)(by':0≤y∧y<18446744073709551616)
 (q0:g0=(((h0.toNat+x.toNat+(0:Int).toNat)%18446744073709551616:Nat):Int)) (q1:c=if 18446744073709551616≤h0.toNat+x.toNat+(0:Int).toNat then 1 else 0)
 (q2:g1=(((h1.toNat+y.toNat+c.toNat)%18446744073709551616:Nat):Int)) (q3:c'=if 18446744073709551616≤h1.toNat+y.toNat+c.toNat then 1 else 0) :
 (0≤g0∧g0<18446744073709551616)∧(0≤g1∧g1<18446744073709551616)∧(0≤c∧c≤1)∧(0≤c'∧c'≤1) ∧
 g0+g1*18446744073709551616+(h2+c')*340282366920938463463374607431768211456=h0+h1*18446744073709551616+h2*340282366920938463463374607431768211456+(x+y*18446744073709551616):=by
 rw[adS b0.1 bx.1 (bK _)] at q0;rw[adC b0 bx (by decide)] at q1;have hc:0≤c∧c≤1:=by rw[q1];exact carB b0 bx (by decide)
 rw[adS b1.1 by'.1 hc.1] at q2;rw[adC b1 by' hc] at q3;have hc':0≤c'∧c'≤1:=by rw[q3];exact carB b1 by' hc
 refine ⟨by rw[q0];exact modB _,by rw[q2];exact modB _,hc,hc',?_⟩;omega
end Go.Sy
namespace Go.Sy
def leB:Nat→Int→List Int
 | 0,_=>[]
 | n+1,x=>x%256::leB n (x/256)
theorem leB_length:∀(n:Nat) (x:Int),(leB n x).length=n
 | 0,_=>rfl
 | n+1,x=>by simp[leB,leB_length n]
theorem leB8 (a:Int):leB 8 a=[a%256,a/256%256,a/65536%256,a/16777216%256,a/4294967296%256,a/1099511627776%256,a/281474976710656%256,a/72057594037927936%256]:=by
 have h:∀ {x y:Int},0≤x→a/x/y=a/(x*y):=fun hx=>by rw[Int.ediv_ediv_of_nonneg hx]
 simp only[leB];rw[h (by decide),h (by decide),h (by decide),h (by decide),h (by decide),h (by decide)];rfl
theorem leB_append:∀(n k:Nat) (a b:Int),0≤a→a<256^n→leB (n+k) (a+b*256^n)=leB n a++leB k b
 | 0,k,a,b,h0,h1=>by
  have:a=0:=by simp only[Int.pow_zero] at h1;omega
  subst this;simp[leB]
 | n+1,k,a,b,h0,h1=>by
  rw[show n+1+k=(n+k)+1 by omega];simp only[leB,cT];have e:(256:Int)^(n+1)=256^n*256:=Int.pow_succ _ _;rw[e] at h1 ⊢;have e1:(a+b*(256^n*256))%256=a%256:=by rw[←dW,Int.add_mul_emod_self_right]
  have e2:(a+b*(256^n*256))/256=a/256+b*256^n:=by rw[←dW,Int.add_mul_ediv_right _ _ (by decide)]
  rw[e1,e2,leB_append n k (a/256) b (by omega) (by omega)]
theorem sbS {a b c:Int}(ha:0≤a∧a<18446744073709551616)(hb:0≤b∧b<18446744073709551616)(hc:0≤c∧c≤1):(((a.toNat+18446744073709551616-b.toNat-c.toNat)%18446744073709551616:Nat):Int)=(a-b-c)%18446744073709551616:=by omega
theorem sbC {a b c:Int}(ha:0≤a)(hb:0≤b)(hc:0≤c):(if a.toNat<b.toNat+c.toNat then (1:Int) else 0)=if a<b+c then 1 else 0:=by
 by_cases h:a<b+c;·rw [bG h,bG (by omega)]
 ·rw [bC h,bC (by omega)]
theorem and_all {x:Int}(h:0≤x∧x<18446744073709551616):iop .and .u64 18446744073709551615 x=x:=by
 obtain ⟨x,rfl⟩:=aZ h.1;have hx:x<2^64:=by
  have:((2:Nat)^64:Nat)=18446744073709551616:=by decide
  omega
 rw[show (18446744073709551615:Int)=((18446744073709551615:Nat):Int) from rfl,iop_and (k:= .u64) rfl (by decide) hx];have:18446744073709551615&&&x=x:=by rw[Nat.and_comm,show 18446744073709551615=2^64-1 by decide,Nat.and_two_pow_sub_one_eq_mod,Nat.mod_eq_of_lt hx]
 rw[this]
theorem and_zero {x:Int}(h:0≤x∧x<18446744073709551616):iop .and .u64 0 x=0:=by
 obtain ⟨x,rfl⟩:=aZ h.1;have hx:x<2^64:=by
  have:((2:Nat)^64:Nat)=18446744073709551616:=by decide
  omega
 rw[show (0:Int)=((0:Nat):Int) from rfl,iop_and (k:= .u64) rfl (by decide) hx,Nat.zero_and]
theorem or_zero {x:Int}(h:0≤x∧x<18446744073709551616):iop .or .u64 x 0=x∧iop .or .u64 0 x=x:=by
 obtain ⟨x,rfl⟩:=aZ h.1;have hx:x<2^64:=by
  have:((2:Nat)^64:Nat)=18446744073709551616:=by decide
  omega
 rw[show (0:Int)=((0:Nat):Int) from rfl,iop_or (k:= .u64) rfl hx (by decide),iop_or (k:= .u64) rfl (by decide) hx,Nat.or_zero,Nat.zero_or];exact ⟨rfl,rfl⟩
theorem sel64 {v x y a b c d:Int}(hv:v=0∨v=1)(hx:0≤x∧x<18446744073709551616)(hy:0≤y∧y<18446744073709551616)(qa:a=iop .sub .u64 v 1)(qb:b=iop .xor .u64 18446744073709551615 a)(qc:c=iop .and .u64 b x)(qd:d=iop .and .u64 (iop .sub .u64 v 1) y) :
 iop .or .u64 c d=if v=1 then x else y:=by
 rcases hv with rfl | rfl
 ·have e1:iop .sub .u64 0 1=18446744073709551615:=by decide
  have e2:iop .xor .u64 18446744073709551615 18446744073709551615=0:=by decide
  rw[qc,qd,qb,qa,e1,e2,and_zero hx,and_all hy,(or_zero hy).2];rfl
 ·have e1:iop .sub .u64 1 1=0:=by decide
  have e2:iop .xor .u64 18446744073709551615 0=18446744073709551615:=by decide
  rw[qc,qd,qb,qa,e1,e2,and_all hx,and_zero hy,(or_zero hx).1];rfl
def pP:Int:=1361129467683753853853498429727072845819
theorem fin50 {h0 h1 h2 s0 s1 d0 b0 d1 b1 b2 x0 x1 y0 c0 y1:Int}(g0:0≤h0∧h0<18446744073709551616)(g1:0≤h1∧h1<18446744073709551616)(g2:0≤h2∧h2≤4)(_k0:0≤s0∧s0<18446744073709551616)(_k1:0≤s1∧s1<18446744073709551616)
 (q0:d0=(h0-18446744073709551611)%18446744073709551616) (r0:b0=if h0<18446744073709551611 then 1 else 0) (q1:d1=(h1-18446744073709551615-b0)%18446744073709551616) (r1:b1=if h1<18446744073709551615+b0 then 1 else 0)
 (r2:b2=if h2<3+b1 then 1 else 0) (e0:x0=if b2=1 then h0 else d0) (e1:x1=if b2=1 then h1 else d1) (z0:y0=(x0+s0)%18446744073709551616) (z1:c0=(x0+s0)/18446744073709551616) (z2:y1=(x1+s1+c0)%18446744073709551616) :
 y0+y1*18446744073709551616=((h0+h1*18446744073709551616+h2*340282366920938463463374607431768211456)%pP+(s0+s1*18446744073709551616))%340282366920938463463374607431768211456:=by
 unfold pP;have hb0:b0=0∨b0=1:=by rw[r0];split <;> simp
 by_cases hlt:h0+h1*18446744073709551616+h2*340282366920938463463374607431768211456<1361129467683753853853498429727072845819
 ·have hb2:b2=1:=by
   rw[r2,r1,r0]
   split <;> split <;> split <;> omega
  rw[bG hb2] at e0 e1;rw[bN (by omega) hlt];subst e0 e1;omega
 ·have hb2:b2=0:=by
   rw[r2,r1,r0]
   split <;> split <;> split <;> omega
  rw[bC (by omega)] at e0 e1;have:(h0+h1*18446744073709551616+h2*340282366920938463463374607431768211456)%1361129467683753853853498429727072845819=h0+h1*18446744073709551616+h2*340282366920938463463374607431768211456-1361129467683753853853498429727072845819:=by omega
  rw[this];clear this r1 r2 hb2;subst e0 e1;split at r0;·subst r0;omega
  ·subst r0;omega
def outB (H s:Int):List Int:=leB 16 ((H%pP+s)%340282366920938463463374607431768211456)
theorem outB_of {H s a b:Int}(ha:0≤a∧a<18446744073709551616)(h:a+b*18446744073709551616=(H%pP+s)%340282366920938463463374607431768211456):outB H s=leB 8 a++leB 8 b:=by
 unfold outB;rw[←h];exact leB_append 8 8 a b ha.1 (by simpa using ha.2)
end Go.Sy
namespace Go.Sy
theorem updH_append {R:Int}{M2:List Int}:∀(k:Nat) {H:Int} {M1:List Int},M1.length=16*k→updH R (M1++M2).length H (M1++M2)=updH R M2.length (updH R M1.length H M1) M2
 | 0,H,M1,h=>by have:M1=[]:=cI.1 (by omega);subst this;rw[updH_nil];rfl
 | k+1,H,M1,h=>by rw[updH_step (m:=M1++M2) (by rw[aO];omega),updH_step (m:=M1) (by omega)];rw[List.take_append_of_le_length (by omega),List.drop_append_of_le_length (by omega)];have:=updH_append (R:=R) (M2:=M2) k (H:=redN ((H+chunkN (M1.take 16))*R)) (M1:=M1.drop 16) (by rw[aT];omega);rw[aO,aT] at this;rw[aO,show M1.length+M2.length-16=M1.length-16+M2.length by omega,this]
theorem redN_bound {H c R:Int}(h0:0≤H)(h1:H<1701411834604692317316873037158841057280)(c0:0≤c)(c1:c<680564733841876926926749214863536422912)(r0:0≤R)(r1:R<21267647932558653966460912964485513216) :
 0≤redN ((H+c)*R)∧redN ((H+c)*R)<1701411834604692317316873037158841057280:=by
 have hx:=mul_b (x:=H+c) (y:=R) (a:=2381976568446569244243622252022377480191) (b:=21267647932558653966460912964485513215) ⟨by omega,by omega⟩ ⟨r0,by omega⟩;generalize (H+c)*R=X at hx;unfold redN;omega
theorem chunkN_bound {m:List Int}(hm:Bytes m)(hl:m.length≤16):0≤chunkN m∧chunkN m<680564733841876926926749214863536422912:=by
 have h1:=leV_bound hm;have h2:(256:Int)^m.length≤256^16:=by
  have h:((256^m.length:Nat):Int)≤((256^16:Nat):Int):=Int.ofNat_le.2 (Nat.pow_le_pow_right (by decide) hl)
  rwa [Int.natCast_pow,Int.natCast_pow] at h
 have h3:(256:Int)^16=340282366920938463463374607431768211456:=by decide
 unfold chunkN;omega
theorem updH_bound {R:Int}(r0:0≤R)(r1:R<21267647932558653966460912964485513216):∀(k:Nat) {H:Int} {m:List Int},Bytes m→0≤H→H<1701411834604692317316873037158841057280→0≤updH R k H m∧updH R k H m<1701411834604692317316873037158841057280
 | 0,H,m,_,h0,h1=>⟨h0,h1⟩
 | k+1,H,m,hm,h0,h1=>by
  simp only[updH]
  split
  ·exact ⟨h0,h1⟩
  ·have hc:=chunkN_bound (hm.take 16) (by rw[bE];omega);have:=redN_bound h0 h1 hc.1 hc.2 r0 r1;exact updH_bound r0 r1 k (hm.drop 16) this.1 this.2
def r0K (key:List Int):Int:=iop .and .u64 (leV (key.take 8)) 1152921487695413247
def r1K (key:List Int):Int:=iop .and .u64 (leV ((key.drop 8).take 8)) 1152921487695413244
def s0K (key:List Int):Int:=leV ((key.drop 16).take 8)
def s1K (key:List Int):Int:=leV ((key.drop 24).take 8)
def tagL (key m:List Int):List Int:=outB (updH (r0K key+r1K key*18446744073709551616) m.length 0 m) (s0K key+s1K key*18446744073709551616)
theorem and_le {x:Int}{k:Nat}(h:0≤x∧x<18446744073709551616)(hk:k<18446744073709551616):0≤iop .and .u64 x k∧iop .and .u64 x k≤k:=by
 obtain ⟨x,rfl⟩:=aZ h.1;have e:((2:Nat)^64:Nat)=18446744073709551616:=by decide
 rw[iop_and (k:= .u64) rfl (by simp only[IntKind.bits];omega) (by simp only[IntKind.bits];omega)];have:x&&&k≤k:=Nat.and_le_right;omega
end Go.Sy
namespace Go.Proofs.YtnfikgagkamioaaGreatDoor.S
open Go.Sy
def P49 (_:List Int)(ls:List (List Int)):Prop :=
 match ls with
 | [[h0,h1,h2,r0,r1,_,_],m]=>(0≤h0∧h0<18446744073709551616)∧(0≤h1∧h1<18446744073709551616)∧(0≤h2∧h2≤4)∧(0≤r0∧r0≤1152921487695413247)∧(0≤r1∧r1≤1152921487695413244)∧Bytes m
 | _=>False
def A49 (_:List Int)(ls:List (List Int)):List Int :=
 match ls with
 | [[h0,h1,h2,r0,r1,s0,s1],m] =>
  let H:=updH (r0+r1*18446744073709551616) m.length (h0+h1*18446744073709551616+h2*340282366920938463463374607431768211456) m
  [H%18446744073709551616,H/18446744073709551616%18446744073709551616,H/340282366920938463463374607431768211456,r0,r1,s0,s1]
 | _=>[]
structure F49 (F:Fns):Prop where
 p48:F.p 48=P48
 i48:F.i 48=I48
 p53:F.p 53=P53
 i53:F.i 53=I53
 p54:F.p 54=P54
 i54:F.i 54=I54
 p55:F.p 55=P55
 i55:F.i 55=I55
 p49:F.p 49=P49
 a49:F.a 49=A49
theorem tab49_ok {F:Fns}(h:F49 F):TabOk F tab49 :=
 ⟨⟨by kernel_rfl,fun c hc=>by simp only[aX] at hc;subst hc;exact spec48 h.p48 h.i48⟩,
  ⟨by kernel_rfl,fun c hc=>by simp only[aX] at hc;subst hc;exact spec53 h.p53 h.i53⟩,
  ⟨by kernel_rfl,fun c hc=>by simp only[aX] at hc;subst hc;exact spec54 h.p54 h.i54⟩,
  ⟨by kernel_rfl,fun c hc=>by simp only[aX] at hc;subst hc;exact spec55 h.p55 h.i55⟩,trivial⟩
def LimbsOk (a b c:Int):Prop:=(0≤a∧a<18446744073709551616)∧(0≤b∧b<18446744073709551616)∧(0≤c∧c≤4)
def limbV (a b c:Int):Int:=a+b*18446744073709551616+c*340282366920938463463374607431768211456
structure A49a (N:Num) (s0 s1 s2 s3 s4 s5 s6:Int) (m:List Int) (T:Int) (k:Nat):Prop where
 c:N.i 0=s0∧N.i 1=s1∧N.i 2=s2∧N.i 3=s3∧N.i 4=s4∧N.i 5=s5∧N.i 6=s6
 hm:N.a 0=m
 o:∃o:Nat,N.i 8=o∧o≤m.length∧N.i 9=((m.length-o:Nat):Int)∧k=m.length-o∧updH (s3+s4*18446744073709551616) k (limbV (N.i 10) (N.i 11) (N.i 12)) (m.drop o)=T
 h:LimbsOk (N.i 10) (N.i 11) (N.i 12)
structure A49b (N:Num) (s0 s1 s2 s3 s4 s5 s6:Int) (T:Int):Prop where
 c:N.i 0=s0∧N.i 1=s1∧N.i 2=s2∧N.i 3=s3∧N.i 4=s4∧N.i 5=s5∧N.i 6=s6
 o:limbV (N.i 8) (N.i 9) (N.i 10)=T
 h:LimbsOk (N.i 8) (N.i 9) (N.i 10)
theorem bytes_sub {l:List Int}(h:Bytes l)(o n:Nat):Bytes ((l.drop o).take n):=(h.drop o).take n
theorem leV8 {l:List Int}(h:Bytes l)(hl:l.length=8):0≤leV l∧leV l<18446744073709551616:=by
 have:=leV_bound h;rw[hl] at this;exact this
theorem leV_16 {l:List Int}{o:Nat}(ho:o+16≤l.length):leV ((l.drop o).take 8)+leV ((l.drop (o+8)).take 8)*18446744073709551616=leV ((l.drop o).take 16):=by
 have:(l.drop o).take 16=(l.drop o).take 8++(l.drop (o+8)).take 8:=by rw[←List.drop_drop,←List.take_add]
 rw[this,leV_append,bE,aT,Nat.min_eq_left (by omega)];simp only[show (256:Int)^8=18446744073709551616 from rfl];omega
theorem A49a.agr {N N':Num}{s0 s1 s2 s3 s4 s5 s6:Int}{m:List Int}{T:Int}{k:Nat}(h:Agr s49a.nx s49a.na N N')(hA:A49a N s0 s1 s2 s3 s4 s5 s6 m T k):A49a N' s0 s1 s2 s3 s4 s5 s6 m T k:=by
 have e:∀x,x<13→N'.i x=N.i x:=h.i;have ea:N'.a 0=N.a 0:=h.a 0 (by decide);obtain ⟨c,hm,o,hh⟩:=hA;refine ⟨?_,by rw[ea];exact hm,?_,?_⟩;·simpa only[e 0 (by decide),e 1 (by decide),e 2 (by decide),e 3 (by decide),e 4 (by decide),e 5 (by decide),e 6 (by decide)] using c
 ·simpa only[e 8 (by decide),e 9 (by decide),e 10 (by decide),e 11 (by decide),e 12 (by decide)] using o
 ·simpa only[e 10 (by decide),e 11 (by decide),e 12 (by decide)] using hh
theorem P53.mk {a b:Int}(ha:0≤a∧a<18446744073709551616)(hb:0≤b∧b<18446744073709551616):P53 [a,b] []:=by
 intro x hx;simp only[cD,dX,or_false] at hx;rcases hx with rfl | rfl
 ·exact ha
 ·exact hb
theorem P48.mk {a b:List Int}(ha:a=[])(hb:Bytes b):P48 [] [a,b]:=by
 intro x hx;simp only[cD,dX,or_false] at hx;rcases hx with rfl | rfl
 ·rw [ha];intro y hy;cases hy
 ·exact hb
theorem g2b {x:Int}(h:0≤x∧x≤6):0≤x∧x<18446744073709551616:=by omega
theorem r0b {x:Int}(h:0≤x∧x≤1152921487695413247):0≤x∧x<18446744073709551616:=by omega
theorem r1b {x:Int}(h:0≤x∧x≤1152921487695413244):0≤x∧x<18446744073709551616:=by omega
theorem up2 {x c:Int}(h:0≤x∧x≤4)(k:0≤c∧c≤1):(x+(c+1)%18446744073709551616)%18446744073709551616=x+c+1:=by omega
theorem up3 {x c:Int}(h:0≤x∧x≤4)(k:0≤c∧c≤1):0≤x+c+1∧x+c+1≤6:=by omega
theorem up0 {x c:Int}(h:0≤x∧x≤4)(k:0≤c∧c≤1):(x+c)%18446744073709551616=x+c:=by omega
theorem up1 {x c:Int}(h:0≤x∧x≤4)(k:0≤c∧c≤1):0≤x+c∧x+c≤6:=by omega
theorem fL {t:Bool}(h:t=true):(!((bif t then (1:Int) else 0)==0))=true:=by rw[h];rfl
theorem gR {t:Bool}(h:t=false):(!((bif t then (1:Int) else 0)==0))=false:=by rw[h];rfl
theorem set_end {l:List Int}{k:Nat}(hl:l.length=k)(hk:k<16):(l++List.replicate (16-k) 0).set (k:Int).toNat 1=l++1::List.replicate (15-k) 0:=by
 rw[bD,List.set_append,bC (by omega),hl,Nat.sub_self,show 16-k=(15-k)+1 by omega,List.replicate_succ,List.set_cons_zero]
theorem leV_one (n:Nat):leV (1::List.replicate n 0)=1:=by
 simp only[leV];have:∀n,leV (List.replicate n 0)=0:=by
  intro n
  induction n with
  | zero=>rfl
  | succ n ih=>simp only[List.replicate_succ,leV,ih];rfl
 rw[this];rfl
theorem sum_c {x y z p:Int}(h:z+p*1=x+18446744073709551616*y):x+y*18446744073709551616=z+p:=by omega
theorem sum_a {a b c h0 h1 h2 x:Int}(h:a+b*18446744073709551616+(h2+c)*340282366920938463463374607431768211456=h0+h1*18446744073709551616+h2*340282366920938463463374607431768211456+x) :
 a+b*18446744073709551616+(h2+c+1)*340282366920938463463374607431768211456=h0+h1*18446744073709551616+h2*340282366920938463463374607431768211456+(x+340282366920938463463374607431768211456):=by omega
set_option maxHeartbeats 4000000 in
theorem rnd49a {F:Fns}(hF:F49 F){Ne:Num}{Ee:Env}{we:World}(hI:Inv Ee (stOf ct49)){M:Num}{s0 s1 s2 s3 s4 s5 s6:Int}{m:List Int}{T:Int}{k:Nat}{a:Act}{w:World}(hat:At F Tryz.f96.ntmps Ne Ee (stOf ct49) we T49a s49a M a w)
 (hA:A49a M s0 s1 s2 s3 s4 s5 s6 m T k) (hk:16<k) (hr0:0≤s3∧s3≤1152921487695413247) (hr1:0≤s4∧s4≤1152921487695413244) (hB:Bytes m) {K:Act→World→Prop} {Q:Exit→Act→World→Prop}
 (H:∀N a' w',A49a N s0 s1 s2 s3 s4 s5 s6 m T (k-16)→At F Tryz.f96.ntmps Ne Ee (stOf ct49) we T49a s49a N a' w'→K a' w') :
 (loopAt 96 2).1.wp Tryz.prog (Exit.then K (wpK Tryz.prog (loopAt 96 2).2 Q)) a w:=by
 refine gI hm (eU (tab49_ok hF)) r49a (by kernel_rfl) rfl rfl hat hI fun N hag hf hd=> ?_
 have hA:=hA.agr hag;clear hag hat;obtain ⟨⟨c0,c1,c2,c3,c4,c5,c6⟩,hm0,⟨o,e8,ho,e9,hko,hT⟩,hh0,hh1,hh2⟩:=hA;have v0:o+16≤m.length:=by omega
 have v1:min 8 (m.length-o)=8:=by omega
 have v2:min 8 (m.length-(o+8))=8:=by omega
 have v3:min 16 (m.length-o)=16:=by omega
 have v4:(m.drop o).length=k:=by rw[aT];omega
 have v5:0<(m.drop o).length:=by omega
 have u0:0≤N.i 9:=by omega
 have u1:16≤N.i 9:=by omega
 have u2:8≤N.i 9:=by omega
 have u3:8<N.i 9:=by omega
 have u4:(0:Int)<N.i 9:=by omega
 have u5:0≤N.i 8∧0≤(8:Int)∧N.i 8+8≤m.length:=by omega
 have u6:0≤N.i 8+8*1∧0≤(8:Int)∧N.i 8+8*1+8≤m.length:=by omega
 have u7:16<N.i 9:=by omega
 have z8:(N.i 8).toNat=o:=by omega
 have z18:(N.i 8+8*1).toNat=o+8:=by omega
 have z24:N.i 8+16*1=((o+16:Nat):Int):=by omega
 have z25:N.i 9+16*(-1)=((m.length-(o+16):Nat):Int):=by omega
 have zo:o+16≤m.length:=by omega
 have zk:k-16=m.length-(o+16):=by omega
 simp only[aC,Df.sat,Nd.ev,Ad.ev,Ar.ev,aI,aK,hf,hF.i48,hF.i53,hF.i54,hF.i55,I53] at hd;obtain ⟨q63,q62,q61,q60,q59,q58,q57,w9,q56,q55,q54,q53,q52,q51,q50,q49,q48,q47,q46,q45,q44,q43,q42,w8,w7,q41,q40,w6,w5,q39,q38,q37,q36,q35,q34,q33,q32,q31,q30,q29,q28,q27,q26,q25,q24,q23,q22,q21,q20,q19,w4,w3,q18,q17,q16,q15,w2,w1,q14,q13,-⟩:=hd;rw[w5,w6] at q40 q41;rw[w7,w8] at q42 q43;rw[w9] at q57 q58;simp only[I54,I55] at q40 q41 q42 q43 q57 q58
 rw[c3] at q26 q27 q28 q29 q30 q31;rw[c4] at q32 q33 q34 q35 q36 q37;have t2:N.a 2=(m.drop o).take 8:=by rw[w2,hm0,z8];rfl
 have t4:N.a 4=(m.drop (o+8)).take 8:=by rw[w4,hm0,q18,z18];rfl
 have l2:(N.a 2).length=8:=by rw[t2,bE,aT];exact v1
 have l4:(N.a 4).length=8:=by rw[t4,bE,aT];exact v2
 have y2:Bytes (N.a 2):=by rw[t2];exact bytes_sub hB _ _
 have y4:Bytes (N.a 4):=by rw[t4];exact bytes_sub hB _ _
 have b15:0≤N.i 15∧N.i 15<18446744073709551616:=by rw[q15];exact leV8 y2 l2
 have b19:0≤N.i 19∧N.i 19<18446744073709551616:=by rw[q19];exact leV8 y4 l4
 obtain ⟨d1,d2,d3,d4,d5⟩:=addc hh0 hh1 hh2 b15 b19 q16 q17 q20 q21;have g2:N.i 23=N.i 12+N.i 21+1:=by rw[q23,q22,u64_add,u64_add];exact up2 hh2 d4
 have bg2:0≤N.i 23∧N.i 23≤6:=by rw[g2];exact up3 hh2 d4
 have hsum:N.i 15+N.i 19*18446744073709551616=leV ((m.drop o).take 16):=by
  rw[q15,q19];show leV (N.a 2)+leV (N.a 4)*_=_
  rw[t2,t4];exact leV_16 v0
 have hG:N.i 16+N.i 20*18446744073709551616+N.i 23*340282366920938463463374607431768211456=limbV (N.i 10) (N.i 11) (N.i 12)+chunkN ((m.drop o).take 16):=by
  rw[g2,chunkN,bE,aT,v3,←hsum,limbV];have:(256:Int)^16=340282366920938463463374607431768211456:=by decide
  rw[this];exact sum_a d5
 obtain ⟨⟨f1,f2,f3,f4⟩,r31,r37,pA,pB,b40,b27,b42,b41,b36,b43,b26,b51,b48,b57,b58⟩:=red (g0:=N.i 16) (g1:=N.i 20) (g2:=N.i 23) (r0:=s3) (r1:=s4) d1 d2 bg2 hr0 hr1
  q26 q27 q28 q29 q30 q31 q32 q33 q34 q35 q36 q37 q40 q41 q42 q43 q44 q45 q46 q47 q48 q50 q51 q52 q53 q54 q55 q56 q57 q58 q59 q60 q61 q62 q63
 refine ⟨?_,fun a2 w2 hat2=>H _ a2 w2 ?_ hat2⟩
 ·simp only[aC,Ob.holds,Ar.ev,aI,aK,hf,hF.p48,hF.p53,hF.p54,hF.p55,hm0];refine ⟨b58.2,b58.1,b57.2,b57.1,(by rw[w9];exact ⟨b51,b48⟩),b26.2,b26.1,b43.2,b43.1,b36.2,b36.1,b41.2,b41.1,b42.2,b42.1,b27.2,b27.1,b40.2,b40.1,(by rw[w7,w8];exact pB),(by rw[w5,w6];exact pA),(by rw[q39,r37];rfl),(by rw[q38,r31];rfl),(P53.mk (g2b bg2) (c4▸r1b hr1)),(P53.mk d2 (c4▸r1b hr1)),(P53.mk d1 (c4▸r1b hr1)),(P53.mk (g2b bg2) (c3▸r0b hr0)),(P53.mk d2 (c3▸r0b hr0)),(P53.mk d1 (c3▸r0b hr0)),u7,(bK _),u1,b19.2,b19.1,hh1.2,hh1.1,(P48.mk w3 y4),(by rw[q18];exact u6),u3,u1,b15.2,b15.1,hh0.2,hh0.1,(P48.mk w1 y2),u5,u2,(by rw[q14];exact fL (bS u1)),u0,(by rw[q13];exact fL (bS u4)),u0,nofun⟩
 ·refine ⟨⟨c0,c1,c2,c3,c4,c5,c6⟩,hm0,⟨o+16,?_,zo,?_,zk,?_⟩,f2,f3,f4⟩
  ·show N.i 24=_;rw[q24];exact z24
  ·show N.i 25=_;rw[q25];exact z25
  ·show updH _ _ (N.i 59+N.i 61*18446744073709551616+N.i 63*340282366920938463463374607431768211456) _=T;rw[f1,hG,←hT];have:=updH_step (R:=s3+s4*18446744073709551616) (H:=limbV (N.i 10) (N.i 11) (N.i 12)) (m:=m.drop o) v5;rw[v4,List.drop_drop] at this;rw[this]
set_option maxHeartbeats 4000000 in
theorem rnd49b {F:Fns}(hF:F49 F){Ne:Num}{Ee:Env}{we:World}(hI:Inv Ee (stOf ct49)){M:Num}{s0 s1 s2 s3 s4 s5 s6:Int}{m:List Int}{T:Int}{k:Nat}{a:Act}{w:World}(hat:At F Tryz.f96.ntmps Ne Ee (stOf ct49) we T49a s49a M a w)
 (hA:A49a M s0 s1 s2 s3 s4 s5 s6 m T k) (hk:k=16) (hr0:0≤s3∧s3≤1152921487695413247) (hr1:0≤s4∧s4≤1152921487695413244) (hB:Bytes m) {K:Act→World→Prop} {Q:Exit→Act→World→Prop}
 (H:∀N a' w',A49b N s0 s1 s2 s3 s4 s5 s6 T→At F Tryz.f96.ntmps Ne Ee (stOf ct49) we T49b s49b N a' w'→K a' w') :
 (loopAt 96 2).1.wp Tryz.prog (Exit.then K (wpK Tryz.prog (loopAt 96 2).2 Q)) a w:=by
 refine gI hm (eU (tab49_ok hF)) r49b (by kernel_rfl) rfl rfl hat hI fun N hag hf hd=> ?_
 have hA:=hA.agr hag;clear hag hat;obtain ⟨⟨c0,c1,c2,c3,c4,c5,c6⟩,hm0,⟨o,e8,ho,e9,hko,hT⟩,hh0,hh1,hh2⟩:=hA;have v0:o+16≤m.length:=by omega
 have v1:min 8 (m.length-o)=8:=by omega
 have v2:min 8 (m.length-(o+8))=8:=by omega
 have v3:min 16 (m.length-o)=16:=by omega
 have v4:(m.drop o).length=k:=by rw[aT];omega
 have v5:0<(m.drop o).length:=by omega
 have u0:0≤N.i 9:=by omega
 have u1:16≤N.i 9:=by omega
 have u2:8≤N.i 9:=by omega
 have u3:8<N.i 9:=by omega
 have u4:(0:Int)<N.i 9:=by omega
 have u5:0≤N.i 8∧0≤(8:Int)∧N.i 8+8≤m.length:=by omega
 have u6:0≤N.i 8+8*1∧0≤(8:Int)∧N.i 8+8*1+8≤m.length:=by omega
 have u7:16=N.i 9:=by omega
 have z8:(N.i 8).toNat=o:=by omega
 have z18:(N.i 8+8*1).toNat=o+8:=by omega
 have zl:(m.drop o).length≤16:=by omega
 simp only[aC,Df.sat,Nd.ev,Ad.ev,Ar.ev,aI,aK,hf,hF.i48,hF.i53,hF.i54,hF.i55,I53] at hd;obtain ⟨q61,q60,q59,q58,q57,q56,q55,w9,q54,q53,q52,q51,q50,q49,q48,q47,q46,q45,q44,q43,q42,q41,q40,w8,w7,q39,q38,w6,w5,q37,q36,q35,q34,q33,q32,q31,q30,q29,q28,q27,q26,q25,q24,q23,q22,q21,q20,q19,w4,w3,q18,q17,q16,q15,w2,w1,q14,q13,-⟩:=hd;rw[w5,w6] at q38 q39;rw[w7,w8] at q40 q41;rw[w9] at q55 q56;simp only[I54,I55] at q38 q39 q40 q41 q55 q56
 rw[c3] at q24 q25 q26 q27 q28 q29;rw[c4] at q30 q31 q32 q33 q34 q35;have t2:N.a 2=(m.drop o).take 8:=by rw[w2,hm0,z8];rfl
 have t4:N.a 4=(m.drop (o+8)).take 8:=by rw[w4,hm0,q18,z18];rfl
 have l2:(N.a 2).length=8:=by rw[t2,bE,aT];exact v1
 have l4:(N.a 4).length=8:=by rw[t4,bE,aT];exact v2
 have y2:Bytes (N.a 2):=by rw[t2];exact bytes_sub hB _ _
 have y4:Bytes (N.a 4):=by rw[t4];exact bytes_sub hB _ _
 have b15:0≤N.i 15∧N.i 15<18446744073709551616:=by rw[q15];exact leV8 y2 l2
 have b19:0≤N.i 19∧N.i 19<18446744073709551616:=by rw[q19];exact leV8 y4 l4
 obtain ⟨d1,d2,d3,d4,d5⟩:=addc hh0 hh1 hh2 b15 b19 q16 q17 q20 q21;have g2:N.i 23=N.i 12+N.i 21+1:=by rw[q23,q22,u64_add,u64_add];exact up2 hh2 d4
 have bg2:0≤N.i 23∧N.i 23≤6:=by rw[g2];exact up3 hh2 d4
 have hsum:N.i 15+N.i 19*18446744073709551616=leV ((m.drop o).take 16):=by
  rw[q15,q19];show leV (N.a 2)+leV (N.a 4)*_=_
  rw[t2,t4];exact leV_16 v0
 have hG:N.i 16+N.i 20*18446744073709551616+N.i 23*340282366920938463463374607431768211456=limbV (N.i 10) (N.i 11) (N.i 12)+chunkN ((m.drop o).take 16):=by
  rw[g2,chunkN,bE,aT,v3,←hsum,limbV];have:(256:Int)^16=340282366920938463463374607431768211456:=by decide
  rw[this];exact sum_a d5
 obtain ⟨⟨f1,f2,f3,f4⟩,r31,r37,pA,pB,b40,b27,b42,b41,b36,b43,b26,b51,b48,b57,b58⟩:=red (g0:=N.i 16) (g1:=N.i 20) (g2:=N.i 23) (r0:=s3) (r1:=s4) d1 d2 bg2 hr0 hr1
  q24 q25 q26 q27 q28 q29 q30 q31 q32 q33 q34 q35 q38 q39 q40 q41 q42 q43 q44 q45 q46 q48 q49 q50 q51 q52 q53 q54 q55 q56 q57 q58 q59 q60 q61
 refine ⟨?_,fun a2 w2 hat2=>H _ a2 w2 ?_ hat2⟩
 ·simp only[aC,Ob.holds,Ar.ev,aI,aK,hf,hF.p48,hF.p53,hF.p54,hF.p55,hm0];refine ⟨b58.2,b58.1,b57.2,b57.1,(by rw[w9];exact ⟨b51,b48⟩),b26.2,b26.1,b43.2,b43.1,b36.2,b36.1,b41.2,b41.1,b42.2,b42.1,b27.2,b27.1,b40.2,b40.1,(by rw[w7,w8];exact pB),(by rw[w5,w6];exact pA),(by rw[q37,r37];rfl),(by rw[q36,r31];rfl),(P53.mk (g2b bg2) (c4▸r1b hr1)),(P53.mk d2 (c4▸r1b hr1)),(P53.mk d1 (c4▸r1b hr1)),(P53.mk (g2b bg2) (c3▸r0b hr0)),(P53.mk d2 (c3▸r0b hr0)),(P53.mk d1 (c3▸r0b hr0)),u7,(bK _),u1,b19.2,b19.1,hh1.2,hh1.1,(P48.mk w3 y4),(by rw[q18];exact u6),u3,u1,b15.2,b15.1,hh0.2,hh0.1,(P48.mk w1 y2),u5,u2,(by rw[q14];exact fL (bS u1)),u0,(by rw[q13];exact fL (bS u4)),u0,nofun⟩
 ·refine ⟨⟨c0,c1,c2,c3,c4,c5,c6⟩,?_,f2,f3,f4⟩;show N.i 57+N.i 59*18446744073709551616+N.i 61*340282366920938463463374607431768211456=T;rw[f1,hG,←hT];have:=updH_step (R:=s3+s4*18446744073709551616) (H:=limbV (N.i 10) (N.i 11) (N.i 12)) (m:=m.drop o) v5;rw[v4,cF zl,updH_nil] at this;rw[this]
set_option maxHeartbeats 4000000 in
theorem rnd49c {F:Fns}(hF:F49 F){Ne:Num}{Ee:Env}{we:World}(hI:Inv Ee (stOf ct49)){M:Num}{s0 s1 s2 s3 s4 s5 s6:Int}{m:List Int}{T:Int}{k:Nat}{a:Act}{w:World}(hat:At F Tryz.f96.ntmps Ne Ee (stOf ct49) we T49a s49a M a w)
 (hA:A49a M s0 s1 s2 s3 s4 s5 s6 m T k) (hk:0<k∧k<16) (hr0:0≤s3∧s3≤1152921487695413247) (hr1:0≤s4∧s4≤1152921487695413244) (hB:Bytes m) {K:Act→World→Prop} {Q:Exit→Act→World→Prop}
 (H:∀N a' w',A49b N s0 s1 s2 s3 s4 s5 s6 T→At F Tryz.f96.ntmps Ne Ee (stOf ct49) we T49c s49c N a' w'→K a' w') :
 (loopAt 96 2).1.wp Tryz.prog (Exit.then K (wpK Tryz.prog (loopAt 96 2).2 Q)) a w:=by
 refine gI hm (eU (tab49_ok hF)) r49c (by kernel_rfl) rfl rfl hat hI fun N hag hf hd=> ?_
 have hA:=hA.agr hag;clear hag hat;obtain ⟨⟨c0,c1,c2,c3,c4,c5,c6⟩,hm0,⟨o,e8,ho,e9,hko,hT⟩,hh0,hh1,hh2⟩:=hA;have b9:N.i 9=(k:Int):=by omega
 have v4:(m.drop o).length=k:=by rw[aT];omega
 have v5:0<(m.drop o).length:=by omega
 have v6:(m.drop o).length≤16:=by omega
 have v7:(m.drop o).length≤k:=by omega
 have v8:k+(16-k)=16:=by omega
 have v9:k+(15-k+1)=16:=by omega
 have v10:¬((16:Int)<N.i 9):=by omega
 have v11:(0:Int)+(k:Int)*1=k:=by omega
 have hk2:k<16:=by omega
 have u0:0≤N.i 9:=by omega
 have u4:(0:Int)<N.i 9:=by omega
 have u8:¬(16≤N.i 9):=by omega
 have u9:N.i 9<16:=by omega
 have z8:(N.i 8).toNat=o:=by omega
 have u10:0≤N.i 8∧0≤(k:Int)∧N.i 8+(k:Int)≤m.length:=by omega
 have u11:(0:Int)≤0∧0≤(k:Int)∧0+(k:Int)≤16:=by omega
 have u12:0≤(k:Int)∧(k:Int)<16:=by omega
 have zl:(m.drop o).length≤16:=by omega
 simp only[aC,Df.sat,Nd.ev,Ad.ev,Ar.ev,aI,aK,hf,hF.i48,hF.i53,hF.i54,hF.i55,I53] at hd;obtain ⟨q61,q60,q59,q58,q57,q56,q55,w13,q54,q53,q52,q51,q50,q49,q48,q47,q46,q45,q44,q43,q42,q41,q40,w12,w11,q39,q38,w10,w9,q37,q36,q35,q34,q33,q32,q31,q30,q29,q28,q27,q26,q25,q24,q23,q22,q21,q20,w8,w7,q19,q18,q17,w6,w5,w4,q16,w3,w2,w1,q15,q14,q13,-⟩:=hd;rw[w9,w10] at q38 q39;rw[w11,w12] at q40 q41;rw[w13] at q55 q56;simp only[I54,I55] at q38 q39 q40 q41 q55 q56
 rw[c3] at q24 q25 q26 q27 q28 q29;rw[c4] at q30 q31 q32 q33 q34 q35;have q15':N.i 15=(k:Int):=(q15.trans (bC v10)).trans b9;have t1:N.a 1=m.drop o:=by rw[w1,hm0,q15',z8,bD,bO v7]
 have l1:(m.drop o).length=k:=v4;have q16':N.i 16=(k:Int):=by rw[q16,b9];exact v11
 have t3:N.a 3=m.drop o++List.replicate (16-k) 0:=by rw[w3,w2,t1];show List.take 0 _++m.drop o++List.drop (0+(m.drop o).length) (List.replicate 16 (0:Int))=_;rw[l1,List.take_zero,cC,bM,List.drop_replicate]
 have t4:N.a 4=m.drop o++1::List.replicate (15-k) 0:=by rw[w4,t3,q16'];exact set_end l1 hk2
 have y4:Bytes (N.a 4):=by
  rw[t4];intro x hx;rcases cX.1 hx with h | h
  ·exact hB.drop o x h
  ·rcases cD.1 h with h | h
   ·rw [h];decide
   ·rw [(List.mem_replicate.1 h).2];decide
 have l4:(N.a 4).length=16:=by rw[t4];simp only[aO,bU,aW,l1];exact v9
 have l3:(N.a 3).length=16:=by rw[t3];simp only[aO,aW,l1];exact v8
 have t6:N.a 6=(N.a 4).take 8:=by rw[w6];rfl
 have t8:N.a 8=(N.a 4).drop 8:=by
  rw[w8];show ((N.a 4).drop 8).take 8=_
  rw[bO (by rw[aT,l4];decide)]
 have l6:(N.a 6).length=8:=by rw[t6,bE,l4];decide
 have l8:(N.a 8).length=8:=by rw[t8,aT,l4]
 have y6:Bytes (N.a 6):=by rw[t6];exact y4.take 8
 have y8:Bytes (N.a 8):=by rw[t8];exact y4.drop 8
 have b17:0≤N.i 17∧N.i 17<18446744073709551616:=by rw[q17];exact leV8 y6 l6
 have b20:0≤N.i 20∧N.i 20<18446744073709551616:=by rw[q20];exact leV8 y8 l8
 obtain ⟨d1,d2,d3,d4,d5⟩:=addc hh0 hh1 hh2 b17 b20 q18 q19 q21 q22;have g2:N.i 23=N.i 12+N.i 22:=by rw[q23,u64_add];exact up0 hh2 d4
 have bg2:0≤N.i 23∧N.i 23≤6:=by rw[g2];exact up1 hh2 d4
 have hsum:N.i 17+N.i 20*18446744073709551616=chunkN ((m.drop o).take 16):=by
  rw[q17,q20];show leV (N.a 6)+leV (N.a 8)*_=_
  have e1:=leV_append (N.a 6) (N.a 8);have e0:N.a 6++N.a 8=N.a 4:=by rw[t6,t8,List.take_append_drop]
  rw[e0,l6,t4,leV_append,l1] at e1;rw[chunkN,bO v6,l1];rw[leV_one] at e1;have:(256:Int)^8=18446744073709551616:=by decide
  rw[this] at e1;exact sum_c e1
 have hG:N.i 18+N.i 21*18446744073709551616+N.i 23*340282366920938463463374607431768211456=limbV (N.i 10) (N.i 11) (N.i 12)+chunkN ((m.drop o).take 16):=by rw[g2,limbV,←hsum];exact d5
 obtain ⟨⟨f1,f2,f3,f4⟩,r31,r37,pA,pB,b40,b27,b42,b41,b36,b43,b26,b51,b48,b57,b58⟩:=red (g0:=N.i 18) (g1:=N.i 21) (g2:=N.i 23) (r0:=s3) (r1:=s4) d1 d2 bg2 hr0 hr1
  q24 q25 q26 q27 q28 q29 q30 q31 q32 q33 q34 q35 q38 q39 q40 q41 q42 q43 q44 q45 q46 q48 q49 q50 q51 q52 q53 q54 q55 q56 q57 q58 q59 q60 q61
 refine ⟨?_,fun a2 w2 hat2=>H _ a2 w2 ?_ hat2⟩
 ·simp only[aC,Ob.holds,Ar.ev,aI,aK,hf,hF.p48,hF.p53,hF.p54,hF.p55,hm0];refine ⟨b58.2,b58.1,b57.2,b57.1,(by rw[w13];exact ⟨b51,b48⟩),b26.2,b26.1,b43.2,b43.1,b36.2,b36.1,b41.2,b41.1,b42.2,b42.1,b27.2,b27.1,b40.2,b40.1,(by rw[w11,w12];exact pB),(by rw[w9,w10];exact pA),(by rw[q37,r37];rfl),(by rw[q36,r31];rfl),(P53.mk (g2b bg2) (c4▸r1b hr1)),(P53.mk d2 (c4▸r1b hr1)),(P53.mk d1 (c4▸r1b hr1)),(P53.mk (g2b bg2) (c3▸r0b hr0)),(P53.mk d2 (c3▸r0b hr0)),(P53.mk d1 (c3▸r0b hr0)),b20.2,b20.1,hh1.2,hh1.1,(P48.mk w7 y8),(by rw[l4];decide),b17.2,b17.1,hh0.2,hh0.1,(P48.mk w5 y6),(by rw[l4];decide),(by rw[q16',l3];exact u12),u9,u0,u0,(by rw[q15',w2];exact u11),(by rw[q15'];exact u12.1),(by rw[q15'];exact u10),(by rw[q14];exact gR (bZ u8)),u0,(by rw[q13];exact fL (bS u4)),u0,nofun⟩
 ·refine ⟨⟨c0,c1,c2,c3,c4,c5,c6⟩,?_,f2,f3,f4⟩;show N.i 57+N.i 59*18446744073709551616+N.i 61*340282366920938463463374607431768211456=T;rw[f1,hG,←hT];have:=updH_step (R:=s3+s4*18446744073709551616) (H:=limbV (N.i 10) (N.i 11) (N.i 12)) (m:=m.drop o) v5;rw[v4,cF zl,updH_nil] at this;rw[this]
theorem out49 {H h0 h1 h2:Int}(hl:LimbsOk h0 h1 h2)(hH:limbV h0 h1 h2=H):h0=H%18446744073709551616∧h1=H/18446744073709551616%18446744073709551616∧h2=H/340282366920938463463374607431768211456:=by
 obtain ⟨a,b,c⟩:=hl;unfold limbV at hH;omega
set_option maxHeartbeats 1000000 in
theorem spec49 {F:Fns}(hF:F49 F):CSpec Tryz.prog F 96 ct49:=by
 refine gA (args:=argsOf ct49) (σe:=stOf ct49) rfl Tryz.func96 (fM (by kernel_rfl)) (by kernel_rfl) (by kernel_rfl) fun is ls ws we Ee a hs hp hent hat=> ?_
 obtain rfl:=eV rfl hs
 match ls,hs with
 | [S,m],hs =>
 obtain ⟨hl,-⟩:=hs
 match S,hl with
 | [s0,s1,s2,s3,s4,s5,s6],_ =>
 have hp:P49 [] [[s0,s1,s2,s3,s4,s5,s6],m]:=by rw[←hF.p49];exact hp
 obtain ⟨b0,b1,b2,br0,br1,hB⟩:=hp;refine to_head hm (eU (tab49_ok hF)) h49 (by kernel_rfl) rfl rfl hat hent.inv fun N hag hf _=>⟨nofun,fun a1 w1 hat1=> ?_⟩
 have e:∀x,x<8→N.i x=(num0 F ct49.ps [] [[s0,s1,s2,s3,s4,s5,s6],m]).i x:=hag.i;have ea:N.a 0=m:=hag.a 0 (by decide);generalize hT:updH (s3+s4*18446744073709551616) m.length (s0+s1*18446744073709551616+s2*340282366920938463463374607431768211456) m=T;have fin:∀ {N:Num} {x y z:Nat} ,LimbsOk (N.i x) (N.i y) (N.i z)→limbV (N.i x) (N.i y) (N.i z)=T→N.i 3=s3→N.i 4=s4→N.i 5=s5→N.i 6=s6 →
  [Ar.var x,Ar.var y,Ar.var z,Ar.var 3,Ar.var 4,Ar.var 5,Ar.var 6].map (·.ev N)=F.a 49 [] [[s0,s1,s2,s3,s4,s5,s6],m]:=fun {N x y z} hl hv c3 c4 c5 c6=>by
  rw[hF.a49];obtain ⟨g1,g2,g3⟩:=out49 hl hv;simp only[aI,aK,Ar.ev,A49,hT,c3,c4,c5,c6,g1.symm,g2.symm,g3.symm]
 have hlen:∀L,rwArg ct49.ps [] [[s0,s1,s2,s3,s4,s5,s6],m]=some L→(F.a ct49.fw [] [[s0,s1,s2,s3,s4,s5,s6],m]).length=L.length:=fun L h=>by
  have:L=[s0,s1,s2,s3,s4,s5,s6]:=by simp only[ct49,rwArg,aA] at h;exact h.symm
  subst this;show (F.a 49 [] _).length=_;rw[hF.a49];rfl
 let Ne:=num0 F ct49.ps [] [[s0,s1,s2,s3,s4,s5,s6],m]
 refine gQ (fun k a w=>(∃ N,A49a N s0 s1 s2 s3 s4 s5 s6 m T k∧At F Tryz.f96.ntmps Ne Ee (stOf ct49) we T49a s49a N a w)∨(∃ N,A49b N s0 s1 s2 s3 s4 s5 s6 T∧At F Tryz.f96.ntmps Ne Ee (stOf ct49) we T49b s49b N a w) ∨
  (∃ N,A49b N s0 s1 s2 s3 s4 s5 s6 T∧At F Tryz.f96.ntmps Ne Ee (stOf ct49) we T49c s49c N a w)) (k:=m.length) (.inl ⟨_,?_,hat1⟩) ?_
 ·refine ⟨⟨e 0 (by decide),e 1 (by decide),e 2 (by decide),e 3 (by decide),e 4 (by decide),e 5 (by decide),e 6 (by decide)⟩,ea,⟨0,rfl,dK _,e 7 (by decide),rfl,?_⟩,?_⟩
  all_goals have h0:N.i 0=s0:=e 0 (by decide)
  all_goals have h1:N.i 1=s1:=e 1 (by decide)
  all_goals have h2:N.i 2=s2:=e 2 (by decide)
  ·show updH _ _ (N.i 0+N.i 1*_+N.i 2*_) (m.drop 0)=T;rw[h0,h1,h2];exact hT
  ·show LimbsOk (N.i 0) (N.i 1) (N.i 2);rw[h0,h1,h2];exact ⟨b0,b1,b2⟩
 ·clear hat hat1 e ea hag hf;intro k a w hJ;rcases hJ with ⟨N,hA,hat⟩ | ⟨N,hA,hat⟩ | ⟨N,hA,hat⟩
  ·rcases dU k with h0 | h0
   ·
    refine gH hm (eU (tab49_ok hF)) o49a (by kernel_rfl) hat hent fun N' hag hf hd=> ?_
    have hA:=hA.agr hag;obtain ⟨⟨c0,c1,c2,c3,c4,c5,c6⟩,hm0,⟨o,e8,ho,e9,hko,hT'⟩,hh⟩:=hA;simp only[aC,Df.sat,Nd.ev,Ar.ev] at hd;have h9:N'.i 9=0:=by omega
    refine ⟨?_,⟨nofun,fin hh (by rw[h0] at hT';exact hT') c3 c4 c5 c6,trivial⟩,hlen⟩;simp only[aC,Ob.holds,Ar.ev];refine ⟨by rw[hd.1];exact gR (bZ (by rw[h9];decide)),by rw[h9];decide,nofun⟩
   ·rcases Nat.lt_trichotomy k 16 with h | h | h
    ·exact rnd49c hF hent.inv hat hA ⟨h0,h⟩ br0 br1 hB fun N' a' w' h1 h2=>⟨0,h0,.inr (.inr ⟨N',h1,h2⟩)⟩
    ·exact rnd49b hF hent.inv hat hA h br0 br1 hB fun N' a' w' h1 h2=>⟨0,h0,.inr (.inl ⟨N',h1,h2⟩)⟩
    ·exact rnd49a hF hent.inv hat hA h br0 br1 hB fun N' a' w' h1 h2=>⟨k-16,by omega,.inl ⟨N',h1,h2⟩⟩
  ·refine gH hm (eU (tab49_ok hF)) o49b (by kernel_rfl) hat hent fun N' hag hf hd=> ?_
   have e:∀x,x<11→N'.i x=N.i x:=hag.i;obtain ⟨⟨c0,c1,c2,c3,c4,c5,c6⟩,hv,hh⟩:=hA;rw[←e 8 (by decide),←e 9 (by decide),←e 10 (by decide)] at hv hh;rw[←e 3 (by decide)] at c3;rw[←e 4 (by decide)] at c4;rw[←e 5 (by decide)] at c5;rw[←e 6 (by decide)] at c6;exact ⟨nofun,⟨nofun,fin hh hv c3 c4 c5 c6,trivial⟩,hlen⟩
  ·refine gH hm (eU (tab49_ok hF)) o49c (by kernel_rfl) hat hent fun N' hag hf hd=> ?_
   have e:∀x,x<11→N'.i x=N.i x:=hag.i;obtain ⟨⟨c0,c1,c2,c3,c4,c5,c6⟩,hv,hh⟩:=hA;rw[←e 8 (by decide),←e 9 (by decide),←e 10 (by decide)] at hv hh;rw[←e 3 (by decide)] at c3;rw[←e 4 (by decide)] at c4;rw[←e 5 (by decide)] at c5;rw[←e 6 (by decide)] at c6;exact ⟨nofun,⟨nofun,fin hh hv c3 c4 c5 c6,trivial⟩,hlen⟩
def A44 (_:List Int)(ls:List (List Int)):List Int :=
 match ls with
 | [key,[m0,m1,m2,_,_,_,_]]=>[m0,m1,m2,iop .and .u64 (leV (key.take 8)) 1152921487695413247,iop .and .u64 (leV ((key.drop 8).take 8)) 1152921487695413244,leV ((key.drop 16).take 8),leV ((key.drop 24).take 8)]
 | _=>[]
def P44 (_:List Int)(ls:List (List Int)):Prop :=
 match ls with
 | [key,_]=>Bytes key
 | _=>False
def P50 (_:List Int)(ls:List (List Int)):Prop :=
 match ls with
 | [_,[h0,h1,h2],[s0,s1]]=>LimbsOk h0 h1 h2∧(0≤s0∧s0<18446744073709551616)∧(0≤s1∧s1<18446744073709551616)
 | _=>False
def A50 (_:List Int)(ls:List (List Int)):List Int :=
 match ls with
 | [_,[h0,h1,h2],[s0,s1]]=>Sy.outB (limbV h0 h1 h2) (s0+s1*18446744073709551616)
 | _=>[]
theorem list8 {l:List Int}(h:8≤l.length):l.take 8=[l.getD 0 0,l.getD 1 0,l.getD 2 0,l.getD 3 0,l.getD 4 0,l.getD 5 0,l.getD 6 0,l.getD 7 0]:=by
 match l,h with
 | a::b::c::d::e::f::g::i::l,_=>rfl
theorem getD_drop' (l:List Int)(o j:Nat):(l.drop o).getD j 0=l.getD (o+j) 0:=by
 rw[aE,cH,aE]
theorem spec44 {F:Fns}(hF:F49 F)(hp:F.p 44=P44)(ha:F.a 44=A44):CSpec Tryz.prog F 83 ct44:=by
 refine fG (eU (tab:=tab44) ⟨⟨by kernel_rfl,fun c hc=>by simp only[aX] at hc;subst hc;exact spec48 hF.p48 hF.i48⟩,trivial⟩) Tryz.func83 (by kernel_rfl) (by kernel_rfl) (by kernel_rfl) run44 (by kernel_rfl) fun is ls N h1 h2 h3 h4 h5=> ?_
 obtain rfl:=eV rfl h1
 match ls,h1 with
 | [key,m],h1 =>
  obtain ⟨hl1,hl2,_⟩:=h1
  match m,hl2 with
  | [m0,m1,m2,m3,m4,m5,m6],_ =>
  have hB:P44 [] [key,[m0,m1,m2,m3,m4,m5,m6]]:=by rw[←hp];exact h2
  have hB:Bytes key:=hB;have e:∀x,x<39→N.i x=(key++[m0,m1,m2,m3,m4,m5,m6]).getD x 0:=fun x hx=>by have:=h3.i x hx;rw[this];show (numsL ct44.ps [] [key,[m0,m1,m2,m3,m4,m5,m6]]).getD x 0=_;simp only[ct44,numsL,bJ]
  have ek:∀x,x<32→N.i x=key.getD x 0:=fun x hx=>by rw[e x (by omega),aE,bQ (by omega),aE]
  have em:∀x,x<7→N.i (32+x)=[m0,m1,m2,m3,m4,m5,m6].getD x 0:=fun x hx=>by rw[e (32+x) (by omega),aE,aP (by omega),aE,hl1,bR]
  have w8:∀o,o+8≤32→[N.i o,N.i (o+1),N.i (o+2),N.i (o+3),N.i (o+4),N.i (o+5),N.i (o+6),N.i (o+7)]=(key.drop o).take 8:=fun o ho=>by rw[list8 (by rw[aT];omega)];simp only[getD_drop',cJ];rw[ek _ (by omega),ek _ (by omega),ek _ (by omega),ek _ (by omega),ek _ (by omega),ek _ (by omega),ek _ (by omega),ek _ (by omega)]
  simp only[aC,Df.sat,Nd.ev,Ad.ev,Ar.ev,aI,aK,h4,hF.i48] at h5;obtain ⟨q44,w7,w6,q43,w5,w4,q42,q41,w3,w2,q40,q39,w1,w0,-⟩:=h5;have t7:N.a 7=(key.drop 24).take 8:=w7.trans (w8 24 (by decide));have t5:N.a 5=(key.drop 16).take 8:=w5.trans (w8 16 (by decide));have t3:N.a 3=(key.drop 8).take 8:=w3.trans (w8 8 (by decide));have t1:N.a 1=(key.drop 0).take 8:=w1.trans (w8 0 (by decide));refine ⟨?_,⟨nofun,?_,trivial⟩,fun L h=> ?_⟩
  ·simp only[aC,Ob.holds,aI,aK,h4,hF.p48];exact ⟨P48.mk w6 (by rw[t7];exact bytes_sub hB _ _),P48.mk w4 (by rw[t5];exact bytes_sub hB _ _),P48.mk w2 (by rw[t3];exact bytes_sub hB _ _),P48.mk w0 (by rw[t1];exact bytes_sub hB _ _),nofun⟩
  ·show List.map (fun x=>Ar.ev N x) _=F.a 44 _ _;rw[ha];simp only[aI,aK,Ar.ev,A44,q44,q43,q42,q41,q40,q39,I48,t7,t5,t3,t1,bW];rw[show N.i 32=m0 from em 0 (by decide),show N.i 33=m1 from em 1 (by decide),show N.i 34=m2 from em 2 (by decide)]
  ·have:L=[m0,m1,m2,m3,m4,m5,m6]:=by
    simp only[ct44,rwArg,aA] at h;exact h.symm
   subst this;show (F.a 44 [] _).length=_;rw[ha];rfl
set_option maxHeartbeats 2000000 in
theorem spec50 {F:Fns}(hp:F.p 50=P50)(ha:F.a 50=A50):CSpec Tryz.prog F 97 ct50:=by
 refine fG (eU (tab:=[]) trivial) Tryz.func97 (by kernel_rfl) (by kernel_rfl) (by kernel_rfl) run50 (by kernel_rfl) fun is ls N h1 h2 h3 h4 h5=> ?_
 obtain rfl:=eV rfl h1
 match ls,h1 with
 | [out,h,s],h1 =>
  obtain ⟨hl1,hl2,hl3,_⟩:=h1
  match h,s,hl2,hl3 with
  | [h0,h1,h2'],[s0,s1],_,_ =>
  have h2:P50 [] [out,[h0,h1,h2'],[s0,s1]]:=by rw[←hp];exact h2
  obtain ⟨⟨g0,g1,g2⟩,k0,k1⟩:=h2;have e:∀x,x<5→N.i (16+x)=[h0,h1,h2',s0,s1].getD x 0:=fun x hx=>by have:=h3.i (16+x) (by show 16+x<21;omega);rw[this];show (numsL ct50.ps [] [out,[h0,h1,h2'],[s0,s1]]).getD (16+x) 0=_;simp only[ct50,numsL];rw[aE,aP (by omega),aE,hl1,bR];rfl
  have e16:N.i 16=h0:=e 0 (by decide);have e17:N.i 17=h1:=e 1 (by decide);have e18:N.i 18=h2':=e 2 (by decide);have e19:N.i 19=s0:=e 3 (by decide);have e20:N.i 20=s1:=e 4 (by decide);clear e h3;simp only[aC,Df.sat,Nd.ev,Ar.ev,e16,e17,e18,e19,e20] at h5;obtain ⟨q72,q71,q70,q69,q68,q67,q66,q65,q64,q63,q62,q61,q60,q59,q58,q57,q56,q55,q54,q53,q52,q51,q50,q49,q48,q47,q46,q45,q44,q43,q42,q41,q40,q39,q38,q37,q36,q35,q34,q33,q32,q31,q30,q29,q28,q27,q26,q25,q24,q23,q22,q21,-⟩:=h5
  rw[sbS g0 (by decide) (by decide),Int.sub_zero] at q21;rw[sbC g0.1 (by decide) (by decide),dJ] at q22;have c22:0≤N.i 22∧N.i 22≤1:=by rw[q22];split <;> decide
  rw[sbS g1 (by decide) c22] at q23;rw[sbC g1.1 (by decide) c22.1] at q24;have c24:0≤N.i 24∧N.i 24≤1:=by rw[q24];split <;> decide
  rw[sbC g2.1 (by decide) c24.1] at q26;have c26:N.i 26=0∨N.i 26=1:=by rw[q26];split <;> simp
  have b21:0≤N.i 21∧N.i 21<18446744073709551616:=by rw[q21];exact modB _
  have b23:0≤N.i 23∧N.i 23<18446744073709551616:=by rw[q23];exact modB _
  have s32:=q32.trans (sel64 c26 g0 b21 q27 q28 q29 (by rw[q31,q30]));have s38:=q38.trans (sel64 c26 g1 b23 q33 q34 q35 (by rw[q37,q36]));have b32:0≤N.i 32∧N.i 32<18446744073709551616:=by rw[s32];split;exact g0;exact b21
  have b38:0≤N.i 38∧N.i 38<18446744073709551616:=by rw[s38];split;exact g1;exact b23
  rw[adS b32.1 k0.1 (bK _),dJ] at q39;rw[adC b32 k0 (by decide),dJ] at q40;have c40:0≤N.i 40∧N.i 40≤1:=by rw[q40,←dJ (N.i 32+s0)];exact carB b32 k0 (by decide)
  rw[adS b38.1 k1.1 c40.1] at q41;have b39:0≤N.i 39∧N.i 39<18446744073709551616:=by rw[q39];exact modB _
  have main:=fin50 g0 g1 g2 k0 k1 q21 q22 q23 q24 q26 s32 s38 q39 q40 q41;have hs:∀(x:Int) (c:Nat) (ci:Int),ci=c→c≤64→iop .shr .u64 x ci=x/(2:Int)^c:=fun x c ci e hc=>by rw[e];exact shr_kst (k:= .u64) hc
  refine ⟨?_,⟨nofun,?_,trivial⟩,fun L h=> ?_⟩
  ·simp only[aC,Ob.holds,Ar.ev,e16,e17,e18,e19,e20];exact ⟨k1.2,k1.1,k0.2,k0.1,cG g2.2 (by decide),g2.1,g1.2,g1.1,g0.2,g0.1,nofun⟩
  ·show List.map (fun x=>Ar.ev N x) _=F.a 50 _ _;rw[ha];show _=Sy.outB (limbV h0 h1 h2') (s0+s1*18446744073709551616);unfold limbV;rw[outB_of (a:=N.i 39) (b:=N.i 41) b39 main,leB8,leB8];simp only[aI,aK,Ar.ev,IntKind.wrap_u8,cT,cC,q72,q71,q70,q69,q68,q67,q66,q65,q64,q63,q62,q61,q60,q59,q58,q57,q56,q55,q54,q53,q52,q51,q50,q49,q48,q47,q46,q45,q44,q43,
    hs _ 8 8 rfl (by decide),hs _ 16 16 rfl (by decide),hs _ 24 24 rfl (by decide),hs _ 32 32 rfl (by decide),hs _ 40 40 rfl (by decide),hs _ 48 48 rfl (by decide),hs _ 56 56 rfl (by decide)]
   rfl
  ·have:L=out:=by
    simp only[ct50,rwArg,aA] at h;exact h.symm
   subst this;show (F.a 50 [] _).length=_;rw[ha,hl1];exact leB_length 16 _
end Go.Proofs.YtnfikgagkamioaaGreatDoor.S
