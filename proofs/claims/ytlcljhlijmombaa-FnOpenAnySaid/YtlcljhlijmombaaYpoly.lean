/- One step of Poly1305 in limbs of 64 bits. Poly1305: what a message comes to. The reference's digits of 16 bits. -/
import Derived.Test.YtlcljhlijmombaaYa0
namespace Go.Sy
theorem adS {a b c:Int}(ha:0≤a)(hb:0≤b)(hc:0≤c):(((a.toNat+b.toNat+c.toNat)%18446744073709551616:Nat):Int)=(a+b+c)%18446744073709551616:=by omega
theorem adC {a b c:Int}(ha:0≤a∧a<18446744073709551616)(hb:0≤b∧b<18446744073709551616)(hc:0≤c∧c≤1):(if 18446744073709551616≤a.toNat+b.toNat+c.toNat then (1:Int) else 0)=(a+b+c)/18446744073709551616:=by
 split <;> omega
theorem and_hi {a:Int}(h0:0≤a)(h1:a<18446744073709551616):iop .and .u64 a 18446744073709551612=a-a%4:=by
 obtain ⟨x,rfl⟩:=Int.eq_ofNat_of_zero_le h0
 have hx:x<2^64:=by
   have:((2:Nat)^64:Nat)=18446744073709551616:=by decide
   omega
 rw[show (18446744073709551612:Int)=((18446744073709551612:Nat):Int) from rfl,iop_and (k:= .u64) rfl hx (by decide)]
 have h2:x&&&18446744073709551612=x-x%4:=by
  apply Nat.eq_of_testBit_eq
  intro i
  rw[Nat.testBit_and,show x-x%4=2^2*(x/2^2) by omega,Nat.testBit_two_pow_mul,Nat.testBit_div_two_pow]
  rcases Nat.lt_or_ge i 64 with h | h
  ·have:∀j:Fin 64,Nat.testBit 18446744073709551612 j.val=decide (2≤j.val):=by decide
   rw[this ⟨i,h⟩]
   by_cases hi:2≤i
   ·simp [hi]
   ·simp [hi]
  ·rw [Nat.testBit_lt_two_pow (Nat.lt_of_lt_of_le hx (Nat.pow_le_pow_right (by decide) h))]
   simp
   intro hi
   rw[show i-2+2=i by omega]
   exact Nat.testBit_lt_two_pow (Nat.lt_of_lt_of_le hx (Nat.pow_le_pow_right (by decide) h))
 rw[h2];omega
theorem modB (x:Int):0≤x%18446744073709551616∧x%18446744073709551616<18446744073709551616:=by omega
theorem carB {a b c:Int}(ha:0≤a∧a<18446744073709551616)(hb:0≤b∧b<18446744073709551616)(hc:0≤c∧c≤1):0≤(a+b+c)/18446744073709551616∧(a+b+c)/18446744073709551616≤1:=by omega
theorem dB {x:Int}(h0:0≤x)(h1:x<340282366920938463463374607431768211456):0≤x/18446744073709551616∧x/18446744073709551616<18446744073709551616:=by omega
theorem t3B {p20 p11 p21 c:Int}(B20:0≤p20∧p20≤6*1152921487695413247)(B11:0≤p11∧p11≤18446744073709551615*1152921487695413244)(B21:0≤p21∧p21≤6*1152921487695413244)(hc:0≤c∧c≤1) :
  (p21+(p20+p11)/18446744073709551616+c)%18446744073709551616=p21+(p20+p11)/18446744073709551616+c:=by omega
theorem hiB {x:Int}(h:0≤x∧x<18446744073709551616):0≤x-x%4∧x-x%4<18446744073709551616:=by omega
theorem shB {x y:Int}(h:0≤x∧x<18446744073709551616)(_k:0≤y∧y<18446744073709551616):0≤x/4+y%4*4611686018427387904∧x/4+y%4*4611686018427387904<18446744073709551616:=by omega
theorem quB {x:Int}(h:0≤x∧x<18446744073709551616):0≤x/4∧x/4<18446744073709551616:=by omega
theorem smB {x c:Int}(h:0≤x∧x≤4)(k:0≤c∧c≤1):(x+c)%18446744073709551616=x+c:=by omega
theorem lo4 (x:Int):0≤x%4∧x%4≤4:=by omega
theorem lo5 {x c:Int}(h:0≤c∧c≤1):0≤x%4+c∧x%4+c≤4:=by omega
def redN (X:Int):Int:=X%1361129467683753853853498429727072845824+5*(X/1361129467683753853853498429727072845824)
theorem mul_b {x y a b:Int}(hx:0≤x∧x≤a)(hy:0≤y∧y≤b):0≤x*y∧x*y≤a*b :=
 ⟨Int.mul_nonneg hx.1 hy.1,Int.mul_le_mul hx.2 hy.2 hy.1 (Int.le_trans hx.1 hx.2)⟩
set_option maxHeartbeats 2000000 in
theorem limbs {p00 p10 p20 p01 p11 p21 t1 t2 t3 c1 c2:Int}
  (b00:0≤p00∧p00<21267647932558653966460912964485513216) (b10:0≤p10∧p10<21267647932558653966460912964485513216) (b20:0≤p20∧p20<9223372036854775808) (b01:0≤p01∧p01<21267647932558653966460912964485513216)
  (b11:0≤p11∧p11<21267647932558653966460912964485513216) (b21:0≤p21∧p21<6917529027641081857)
  (h1:t1=((p10+p01)%18446744073709551616+p00/18446744073709551616)%18446744073709551616) (k1:c1=((p10+p01)%18446744073709551616+p00/18446744073709551616)/18446744073709551616)
  (h2:t2=((p20+p11)%18446744073709551616+(p10+p01)/18446744073709551616+c1)%18446744073709551616) (k2:c2=((p20+p11)%18446744073709551616+(p10+p01)/18446744073709551616+c1)/18446744073709551616)
  (h3:t3=p21+(p20+p11)/18446744073709551616+c2) :
  p00%18446744073709551616+t1*18446744073709551616+t2*340282366920938463463374607431768211456+t3*6277101735386680763835789423207666416102355444464034512896 =
   p00+(p10+p01)*18446744073709551616+(p20+p11)*340282366920938463463374607431768211456+p21*6277101735386680763835789423207666416102355444464034512896 ∧
  (0≤t1∧t1<18446744073709551616)∧(0≤t2∧t2<18446744073709551616)∧(0≤t3∧t3<9223372036854775808):=by
 generalize hM1:p10+p01=M1 at *
 generalize hM2:p20+p11=M2 at *
 omega
set_option maxHeartbeats 2000000 in
theorem fold {t0 t1 t2 t3 l c x0 d0 x1 d1 x2 y0 e0 y1 e1 y2:Int}(b0:0≤t0∧t0<18446744073709551616)(b1:0≤t1∧t1<18446744073709551616)(b2:0≤t2∧t2<18446744073709551616)(b3:0≤t3∧t3<9223372036854775808)
  (hl:l=t2%4) (hc:c=t2-t2%4)
  (h0:x0=(t0+c)%18446744073709551616) (k0:d0=(t0+c)/18446744073709551616) (h1:x1=(t1+t3+d0)%18446744073709551616) (k1:d1=(t1+t3+d0)/18446744073709551616) (h2:x2=l+d1)
  (g0:y0=(x0+(c/4+t3%4*4611686018427387904))%18446744073709551616) (j0:e0=(x0+(c/4+t3%4*4611686018427387904))/18446744073709551616) (g1:y1=(x1+t3/4+e0)%18446744073709551616) (j1:e1=(x1+t3/4+e0)/18446744073709551616) (g2:y2=x2+e1) :
  y0+y1*18446744073709551616+y2*340282366920938463463374607431768211456=redN (t0+t1*18446744073709551616+t2*340282366920938463463374607431768211456+t3*6277101735386680763835789423207666416102355444464034512896) ∧
  (0≤y0∧y0<18446744073709551616)∧(0≤y1∧y1<18446744073709551616)∧0≤y2∧y2≤4∧0≤x2∧x2≤4:=by
 have e:t0+t1*18446744073709551616+t2*340282366920938463463374607431768211456+t3*6277101735386680763835789423207666416102355444464034512896 =
   (t0+t1*18446744073709551616+(t2%4)*340282366920938463463374607431768211456)+(t2/4+t3*4611686018427387904)*1361129467683753853853498429727072845824:=by omega
 have hlow:0≤t0+t1*18446744073709551616+(t2%4)*340282366920938463463374607431768211456∧t0+t1*18446744073709551616+(t2%4)*340282366920938463463374607431768211456<1361129467683753853853498429727072845824:=by omega
 unfold redN
 rw[e]
 have e1:(t0+t1*18446744073709551616+(t2%4)*340282366920938463463374607431768211456+(t2/4+t3*4611686018427387904)*1361129467683753853853498429727072845824)%1361129467683753853853498429727072845824=t0+t1*18446744073709551616+(t2%4)*340282366920938463463374607431768211456:=by
  rw[Int.add_mul_emod_self_right];exact Int.emod_eq_of_lt hlow.1 hlow.2
 have e2:(t0+t1*18446744073709551616+(t2%4)*340282366920938463463374607431768211456+(t2/4+t3*4611686018427387904)*1361129467683753853853498429727072845824)/1361129467683753853853498429727072845824=t2/4+t3*4611686018427387904:=by
  rw[Int.add_mul_ediv_right _ _ (by decide),Int.ediv_eq_zero_of_lt hlow.1 hlow.2,Int.zero_add]
 rw[e1,e2]
 have main:y0+y1*18446744073709551616+y2*340282366920938463463374607431768211456=t0+t1*18446744073709551616+(t2%4)*340282366920938463463374607431768211456+5*(t2/4+t3*4611686018427387904):=by omega
 exact ⟨main,by omega,by omega,by omega,by omega,by omega,by omega⟩
set_option maxHeartbeats 4000000 in
theorem red {g0 g1 g2 r0 r1 a26 a27 a28 a29 a30 a31 a32 a33 a34 a35 a36 a37 a40 a41 a42 a43 a44 a45 a46 a47 a48 a50 a51 a52 a53 a54 a55 a56 a57 a58 a59 a60 a61 a62 a63:Int}
  (hg0:0≤g0∧g0<18446744073709551616) (hg1:0≤g1∧g1<18446744073709551616) (hg2:0≤g2∧g2≤6) (hr0:0≤r0∧r0≤1152921487695413247) (hr1:0≤r1∧r1≤1152921487695413244)
  (q26:a26=g0*r0%18446744073709551616) (q27:a27=g0*r0/18446744073709551616) (q28:a28=g1*r0%18446744073709551616) (q29:a29=g1*r0/18446744073709551616)
  (q30:a30=g2*r0%18446744073709551616) (q31:a31=g2*r0/18446744073709551616) (q32:a32=g0*r1%18446744073709551616) (q33:a33=g0*r1/18446744073709551616)
  (q34:a34=g1*r1%18446744073709551616) (q35:a35=g1*r1/18446744073709551616) (q36:a36=g2*r1%18446744073709551616) (q37:a37=g2*r1/18446744073709551616)
  (q40:a40=(a28+a32)%18446744073709551616) (q41:a41=(a28+a32)/18446744073709551616+a29+a33) (q42:a42=(a30+a34)%18446744073709551616) (q43:a43=(a30+a34)/18446744073709551616+a31+a35)
  (q44:a44=(((a40.toNat+a27.toNat+(0:Int).toNat)%18446744073709551616:Nat):Int)) (q45:a45=if 18446744073709551616≤a40.toNat+a27.toNat+(0:Int).toNat then 1 else 0)
  (q46:a46=(((a42.toNat+a41.toNat+a45.toNat)%18446744073709551616:Nat):Int)) (q47:a47=if 18446744073709551616≤a42.toNat+a41.toNat+a45.toNat then 1 else 0)
  (q48:a48=(((a36.toNat+a43.toNat+a47.toNat)%18446744073709551616:Nat):Int))
  (q50:a50=iop .and .u64 a46 3) (q51:a51=iop .and .u64 a46 18446744073709551612)
  (q52:a52=(((a26.toNat+a51.toNat+(0:Int).toNat)%18446744073709551616:Nat):Int)) (q53:a53=if 18446744073709551616≤a26.toNat+a51.toNat+(0:Int).toNat then 1 else 0)
  (q54:a54=(((a44.toNat+a48.toNat+a53.toNat)%18446744073709551616:Nat):Int)) (q55:a55=if 18446744073709551616≤a44.toNat+a48.toNat+a53.toNat then 1 else 0)
  (q56:a56=iop .add .u64 a50 a55) (q57:a57=a51/4+a48%4*4611686018427387904) (q58:a58=a48/4)
  (q59:a59=(((a52.toNat+a57.toNat+(0:Int).toNat)%18446744073709551616:Nat):Int)) (q60:a60=if 18446744073709551616≤a52.toNat+a57.toNat+(0:Int).toNat then 1 else 0)
  (q61:a61=(((a54.toNat+a58.toNat+a60.toNat)%18446744073709551616:Nat):Int)) (q62:a62=if 18446744073709551616≤a54.toNat+a58.toNat+a60.toNat then 1 else 0)
  (q63:a63=iop .add .u64 a56 a62) :
  (a59+a61*18446744073709551616+a63*340282366920938463463374607431768211456=redN ((g0+g1*18446744073709551616+g2*340282366920938463463374607431768211456)*(r0+r1*18446744073709551616)) ∧
   (0≤a59∧a59<18446744073709551616)∧(0≤a61∧a61<18446744073709551616)∧0≤a63∧a63≤4) ∧
  a31=0∧a37=0 ∧
  ((0≤a28∧a28<18446744073709551616)∧(0≤a29∧a29<18446744073709551616)∧(0≤a32∧a32<18446744073709551616)∧(0≤a33∧a33<18446744073709551616)∧(a28+a32)/18446744073709551616+a29+a33<18446744073709551616) ∧
  ((0≤a30∧a30<18446744073709551616)∧(0≤a31∧a31<18446744073709551616)∧(0≤a34∧a34<18446744073709551616)∧(0≤a35∧a35<18446744073709551616)∧(a30+a34)/18446744073709551616+a31+a35<18446744073709551616) ∧
  (0≤a40∧a40<18446744073709551616)∧(0≤a27∧a27<18446744073709551616)∧(0≤a42∧a42<18446744073709551616)∧(0≤a41∧a41<18446744073709551616) ∧
  (0≤a36∧a36<18446744073709551616)∧(0≤a43∧a43<18446744073709551616)∧(0≤a26∧a26<18446744073709551616)∧(0≤a51∧a51<18446744073709551616)∧(0≤a48∧a48<18446744073709551616) ∧
  (0≤a57∧a57<18446744073709551616)∧(0≤a58∧a58<18446744073709551616):=by
 have B00:=mul_b (x:=g0) (y:=r0) (a:=18446744073709551615) (b:=1152921487695413247) (by omega) hr0
 have B10:=mul_b (x:=g1) (y:=r0) (a:=18446744073709551615) (b:=1152921487695413247) (by omega) hr0
 have B20:=mul_b (x:=g2) (y:=r0) (a:=6) (b:=1152921487695413247) hg2 hr0
 have B01:=mul_b (x:=g0) (y:=r1) (a:=18446744073709551615) (b:=1152921487695413244) (by omega) hr1
 have B11:=mul_b (x:=g1) (y:=r1) (a:=18446744073709551615) (b:=1152921487695413244) (by omega) hr1
 have B21:=mul_b (x:=g2) (y:=r1) (a:=6) (b:=1152921487695413244) hg2 hr1
 have hX:(g0+g1*18446744073709551616+g2*340282366920938463463374607431768211456)*(r0+r1*18446744073709551616) =
   g0*r0+(g1*r0+g0*r1)*18446744073709551616+(g2*r0+g1*r1)*340282366920938463463374607431768211456+g2*r1*6277101735386680763835789423207666416102355444464034512896:=by grind
 generalize g0*r0=p00 at *
 generalize g1*r0=p10 at *
 generalize g2*r0=p20 at *
 generalize g0*r1=p01 at *
 generalize g1*r1=p11 at *
 generalize g2*r1=p21 at *
 have r31:a31=0:=by rw[q31];exact Int.ediv_eq_zero_of_lt B20.1 (Int.lt_of_le_of_lt B20.2 (by decide))
 have r37:a37=0:=by rw[q37];exact Int.ediv_eq_zero_of_lt B21.1 (Int.lt_of_le_of_lt B21.2 (by decide))
 have s41:a40=(p10+p01)%18446744073709551616∧a41=(p10+p01)/18446744073709551616:=by
  clear q44 q45 q46 q47 q48 q50 q51 q52 q53 q54 q55 q56 q57 q58 q59 q60 q61 q62 q63 hX q26 q27 q30 q31 q34 q35 q36 q37 q42 q43
  omega
 have s43:a42=(p20+p11)%18446744073709551616∧a43=(p20+p11)/18446744073709551616:=by
  clear q44 q45 q46 q47 q48 q50 q51 q52 q53 q54 q55 q56 q57 q58 q59 q60 q61 q62 q63 hX q26 q27 q28 q29 q32 q33 q36 q37 q40 q41
  omega
 obtain ⟨s40,s41⟩:=s41
 obtain ⟨s42,s43⟩:=s43
 have s36:a36=p21:=by rw[q36];exact Int.emod_eq_of_lt B21.1 (Int.lt_of_le_of_lt B21.2 (by decide))
 have b27:0≤a27∧a27<18446744073709551616:=by rw[q27];exact dB B00.1 (Int.lt_of_le_of_lt B00.2 (by decide))
 have b29:0≤a29∧a29<18446744073709551616:=by rw[q29];exact dB B10.1 (Int.lt_of_le_of_lt B10.2 (by decide))
 have b31:0≤a31∧a31<18446744073709551616:=by rw[r31];decide
 have b33:0≤a33∧a33<18446744073709551616:=by rw[q33];exact dB B01.1 (Int.lt_of_le_of_lt B01.2 (by decide))
 have b35:0≤a35∧a35<18446744073709551616:=by rw[q35];exact dB B11.1 (Int.lt_of_le_of_lt B11.2 (by decide))
 have b28:0≤a28∧a28<18446744073709551616:=by rw[q28];exact modB _
 have b30:0≤a30∧a30<18446744073709551616:=by rw[q30];exact modB _
 have b32:0≤a32∧a32<18446744073709551616:=by rw[q32];exact modB _
 have b34:0≤a34∧a34<18446744073709551616:=by rw[q34];exact modB _
 have b36:0≤a36∧a36<18446744073709551616:=by rw[q36];exact modB _
 have b26:0≤a26∧a26<18446744073709551616:=by rw[q26];exact modB _
 have b40:0≤a40∧a40<18446744073709551616:=by rw[q40];exact modB _
 have b42:0≤a42∧a42<18446744073709551616:=by rw[q42];exact modB _
 have b41:0≤a41∧a41<18446744073709551616:=by rw[s41];exact dB (Int.add_nonneg B10.1 B01.1) (Int.lt_of_le_of_lt (Int.add_le_add B10.2 B01.2) (by decide))
 have b43:0≤a43∧a43<18446744073709551616:=by rw[s43];exact dB (Int.add_nonneg B20.1 B11.1) (Int.lt_of_le_of_lt (Int.add_le_add B20.2 B11.2) (by decide))
 rw[adS b40.1 b27.1 (Int.le_refl _)] at q44
 rw[adC b40 b27 (by decide)] at q45
 have c45:0≤a45∧a45≤1:=by rw[q45];exact carB b40 b27 (by decide)
 rw[adS b42.1 b41.1 c45.1] at q46
 rw[adC b42 b41 c45] at q47
 have c47:0≤a47∧a47≤1:=by rw[q47];exact carB b42 b41 c45
 rw[adS b36.1 b43.1 c47.1] at q48
 have t3:a48=p21+(p20+p11)/18446744073709551616+a47:=by
  rw[q48,s36,s43]
  exact t3B B20 B11 B21 c47
 obtain ⟨l1,l2,l3,l4⟩:=limbs (t1:=a44) (t2:=a46) (t3:=a48) (c1:=a45) (c2:=a47) (p00:=p00) (p10:=p10) (p20:=p20) (p01:=p01) (p11:=p11) (p21:=p21)
  ⟨B00.1,Int.lt_of_le_of_lt B00.2 (by decide)⟩ ⟨B10.1,Int.lt_of_le_of_lt B10.2 (by decide)⟩ ⟨B20.1,Int.lt_of_le_of_lt B20.2 (by decide)⟩ ⟨B01.1,Int.lt_of_le_of_lt B01.2 (by decide)⟩ ⟨B11.1,Int.lt_of_le_of_lt B11.2 (by decide)⟩ ⟨B21.1,Int.lt_of_le_of_lt B21.2 (by decide)⟩
  (by rw[q44,s40,q27,Int.add_zero]) (by rw[q45,s40,q27,Int.add_zero]) (by rw[q46,s42,s41]) (by rw[q47,s42,s41]) t3
 have hc:a50=a46%4:=by rw[q50,show (3:Int)=((2^2-1:Nat):Int) from rfl,and_mask (k:= .u64) (c:=2) rfl l3.1 (by simpa [IntKind.bits] using l3.2) (by decide)];rfl
 have hm:a51=a46-a46%4:=by
  rw[q51];exact and_hi l3.1 l3.2
 have b51:0≤a51∧a51<18446744073709551616:=by rw[hm];exact hiB l3
 have b48:0≤a48∧a48<18446744073709551616:=⟨l4.1,Int.lt_trans l4.2 (by decide)⟩
 rw[adS b26.1 b51.1 (Int.le_refl _)] at q52
 rw[adC b26 b51 (by decide)] at q53
 have c53:0≤a53∧a53≤1:=by rw[q53];exact carB b26 b51 (by decide)
 rw[adS l2.1 b48.1 c53.1] at q54
 rw[adC l2 b48 c53] at q55
 have c55:0≤a55∧a55≤1:=by rw[q55];exact carB l2 b48 c53
 have b52:0≤a52∧a52<18446744073709551616:=by rw[q52];exact modB _
 have b54:0≤a54∧a54<18446744073709551616:=by rw[q54];exact modB _
 have b57:0≤a57∧a57<18446744073709551616:=by rw[q57];exact shB b51 b48
 have b58:0≤a58∧a58<18446744073709551616:=by rw[q58];exact quB b48
 rw[adS b52.1 b57.1 (Int.le_refl _)] at q59
 rw[adC b52 b57 (by decide)] at q60
 have c60:0≤a60∧a60≤1:=by rw[q60];exact carB b52 b57 (by decide)
 rw[adS b54.1 b58.1 c60.1] at q61
 rw[adC b54 b58 c60] at q62
 have c62:0≤a62∧a62≤1:=by rw[q62];exact carB b54 b58 c60
 rw[u64_add] at q56 q63
 have s56:a56=a50+a55:=by rw[q56,hc];exact smB (lo4 a46) c55
 have s63:a63=a56+a62:=by rw[q63,s56,hc];exact smB (x:=a46%4+a55) (lo5 c55) c62
 obtain ⟨f1,f2,f3,f4,f5,_⟩:=fold (t0:=a26) (t1:=a44) (t2:=a46) (t3:=a48) (l:=a50) (c:=a51) (x0:=a52) (d0:=a53) (x1:=a54) (d1:=a55) (x2:=a56) (y0:=a59) (e0:=a60) (y1:=a61) (e1:=a62) (y2:=a63)
  b26 l2 l3 l4 hc hm (by rw[q52,Int.add_zero]) (by rw[q53,Int.add_zero]) q54 q55 s56 (by rw[q59,q57,Int.add_zero]) (by rw[q60,q57,Int.add_zero]) (by rw[q61,q58]) (by rw[q62,q58]) s63
 refine ⟨⟨?_,f2,f3,f4,f5⟩,r31,r37,⟨b28,b29,b32,b33,by rw[←q41];exact b41.2⟩,⟨b30,b31,b34,b35,by rw[←q43];exact b43.2⟩,b40,b27,b42,b41,b36,b43,b26,b51,b48,b57,b58⟩
 rw[f1,hX,←l1,q26]
theorem leV_append:∀(l m:List Int),leV (l++m)=leV l+256^l.length*leV m
 | [],m=>by simp[leV]
 | x::l,m=>by
  simp only[List.cons_append,leV,leV_append l m,List.length_cons,Int.pow_succ]
  grind
theorem leV_bound:∀ {l:List Int},Bytes l→0≤leV l∧leV l<256^l.length
 | [],_=>by simp[leV]
 | x::l,h=>by
  have h1:=h x List.mem_cons_self
  have h2:=leV_bound (l:=l) (fun y hy=>h y (List.mem_cons_of_mem _ hy))
  simp only[leV,List.length_cons,Int.pow_succ]
  omega
theorem Bytes.take {l:List Int}(h:Bytes l)(n:Nat):Bytes (l.take n):=fun x hx=>h x (List.mem_of_mem_take hx)
theorem Bytes.drop {l:List Int}(h:Bytes l)(n:Nat):Bytes (l.drop n):=fun x hx=>h x (List.mem_of_mem_drop hx)
def chunkN (m:List Int):Int:=leV m+256^m.length
def updH (R:Int):Nat→Int→List Int→Int
 | 0,H,_=>H
 | k+1,H,m=>if m.length=0 then H else updH R k (redN ((H+chunkN (m.take 16))*R)) (m.drop 16)
theorem updH_nil {R:Int}{k:Nat}{H:Int}:updH R k H []=H:=by cases k <;> rfl
theorem updH_fuel {R:Int}:∀ {k k':Nat} {H:Int} {m:List Int},m.length≤k→m.length≤k'→updH R k H m=updH R k' H m
 | 0,k',H,m,h,_=>by
  have:m=[]:=List.length_eq_zero_iff.1 (by omega)
  subst this;rw[updH_nil,updH_nil]
 | k+1,0,H,m,_,h=>by
  have:m=[]:=List.length_eq_zero_iff.1 (by omega)
  subst this;rw[updH_nil,updH_nil]
 | k+1,k'+1,H,m,h,h'=>by
  simp only[updH]
  split
  ·rfl
  ·exact updH_fuel (by rw[List.length_drop];omega) (by rw[List.length_drop];omega)
theorem updH_step {R H:Int}{m:List Int}(h:0<m.length):updH R m.length H m=updH R (m.length-16) (redN ((H+chunkN (m.take 16))*R)) (m.drop 16):=by
 obtain ⟨k,hk⟩:∃k,m.length=k+1:=⟨m.length-1,by omega⟩
 rw[hk]
 simp only[updH]
 rw[if_neg (by omega)]
 exact updH_fuel (by rw[List.length_drop];omega) (by rw[List.length_drop];omega)
theorem addc {h0 h1 h2 x y g0 g1 c c':Int}(b0:0≤h0∧h0<18446744073709551616)(b1:0≤h1∧h1<18446744073709551616)(_b2:0≤h2∧h2≤4)(bx:0≤x∧x<18446744073709551616)(by':0≤y∧y<18446744073709551616)
  (q0:g0=(((h0.toNat+x.toNat+(0:Int).toNat)%18446744073709551616:Nat):Int)) (q1:c=if 18446744073709551616≤h0.toNat+x.toNat+(0:Int).toNat then 1 else 0)
  (q2:g1=(((h1.toNat+y.toNat+c.toNat)%18446744073709551616:Nat):Int)) (q3:c'=if 18446744073709551616≤h1.toNat+y.toNat+c.toNat then 1 else 0) :
  (0≤g0∧g0<18446744073709551616)∧(0≤g1∧g1<18446744073709551616)∧(0≤c∧c≤1)∧(0≤c'∧c'≤1) ∧
  g0+g1*18446744073709551616+(h2+c')*340282366920938463463374607431768211456=h0+h1*18446744073709551616+h2*340282366920938463463374607431768211456+(x+y*18446744073709551616):=by
 rw[adS b0.1 bx.1 (Int.le_refl _)] at q0
 rw[adC b0 bx (by decide)] at q1
 have hc:0≤c∧c≤1:=by rw[q1];exact carB b0 bx (by decide)
 rw[adS b1.1 by'.1 hc.1] at q2
 rw[adC b1 by' hc] at q3
 have hc':0≤c'∧c'≤1:=by rw[q3];exact carB b1 by' hc
 refine ⟨by rw[q0];exact modB _,by rw[q2];exact modB _,hc,hc',?_⟩
 omega
def leB:Nat→Int→List Int
 | 0,_=>[]
 | n+1,x=>x%256::leB n (x/256)
theorem leB_length:∀(n:Nat) (x:Int),(leB n x).length=n
 | 0,_=>rfl
 | n+1,x=>by simp[leB,leB_length n]
theorem leB8 (a:Int):leB 8 a=[a%256,a/256%256,a/65536%256,a/16777216%256,a/4294967296%256,a/1099511627776%256,a/281474976710656%256,a/72057594037927936%256]:=by
 have h:∀ {x y:Int},0≤x→a/x/y=a/(x*y):=fun hx=>by rw[Int.ediv_ediv_of_nonneg hx]
 simp only[leB]
 rw[h (by decide),h (by decide),h (by decide),h (by decide),h (by decide),h (by decide)]
 rfl
theorem leB_append:∀(n k:Nat) (a b:Int),0≤a→a<256^n→leB (n+k) (a+b*256^n)=leB n a++leB k b
 | 0,k,a,b,h0,h1=>by
  have:a=0:=by simp only[Int.pow_zero] at h1;omega
  subst this
  simp[leB]
 | n+1,k,a,b,h0,h1=>by
  rw[show n+1+k=(n+k)+1 by omega]
  simp only[leB,List.cons_append]
  have e:(256:Int)^(n+1)=256^n*256:=Int.pow_succ _ _
  rw[e] at h1 ⊢
  have e1:(a+b*(256^n*256))%256=a%256:=by
   rw[←Int.mul_assoc,Int.add_mul_emod_self_right]
  have e2:(a+b*(256^n*256))/256=a/256+b*256^n:=by
   rw[←Int.mul_assoc,Int.add_mul_ediv_right _ _ (by decide)]
  rw[e1,e2,leB_append n k (a/256) b (by omega) (by omega)]
theorem sbS {a b c:Int}(ha:0≤a∧a<18446744073709551616)(hb:0≤b∧b<18446744073709551616)(hc:0≤c∧c≤1):(((a.toNat+18446744073709551616-b.toNat-c.toNat)%18446744073709551616:Nat):Int)=(a-b-c)%18446744073709551616:=by omega
theorem sbC {a b c:Int}(ha:0≤a)(hb:0≤b)(hc:0≤c):(if a.toNat<b.toNat+c.toNat then (1:Int) else 0)=if a<b+c then 1 else 0:=by
 by_cases h:a<b+c
 ·rw [if_pos h,if_pos (by omega)]
 ·rw [if_neg h,if_neg (by omega)]
theorem and_all {x:Int}(h:0≤x∧x<18446744073709551616):iop .and .u64 18446744073709551615 x=x:=by
 obtain ⟨x,rfl⟩:=Int.eq_ofNat_of_zero_le h.1
 have hx:x<2^64:=by
  have:((2:Nat)^64:Nat)=18446744073709551616:=by decide
  omega
 rw[show (18446744073709551615:Int)=((18446744073709551615:Nat):Int) from rfl,iop_and (k:= .u64) rfl (by decide) hx]
 have:18446744073709551615&&&x=x:=by
  rw[Nat.and_comm,show 18446744073709551615=2^64-1 by decide,Nat.and_two_pow_sub_one_eq_mod,Nat.mod_eq_of_lt hx]
 rw[this]
theorem and_zero {x:Int}(h:0≤x∧x<18446744073709551616):iop .and .u64 0 x=0:=by
 obtain ⟨x,rfl⟩:=Int.eq_ofNat_of_zero_le h.1
 have hx:x<2^64:=by
  have:((2:Nat)^64:Nat)=18446744073709551616:=by decide
  omega
 rw[show (0:Int)=((0:Nat):Int) from rfl,iop_and (k:= .u64) rfl (by decide) hx,Nat.zero_and]
theorem or_zero {x:Int}(h:0≤x∧x<18446744073709551616):iop .or .u64 x 0=x∧iop .or .u64 0 x=x:=by
 obtain ⟨x,rfl⟩:=Int.eq_ofNat_of_zero_le h.1
 have hx:x<2^64:=by
  have:((2:Nat)^64:Nat)=18446744073709551616:=by decide
  omega
 rw[show (0:Int)=((0:Nat):Int) from rfl,iop_or (k:= .u64) rfl hx (by decide),iop_or (k:= .u64) rfl (by decide) hx,Nat.or_zero,Nat.zero_or]
 exact ⟨rfl,rfl⟩
theorem sel64 {v x y a b c d:Int}(hv:v=0∨v=1)(hx:0≤x∧x<18446744073709551616)(hy:0≤y∧y<18446744073709551616)(qa:a=iop .sub .u64 v 1)(qb:b=iop .xor .u64 18446744073709551615 a)(qc:c=iop .and .u64 b x)(qd:d=iop .and .u64 (iop .sub .u64 v 1) y) :
  iop .or .u64 c d=if v=1 then x else y:=by
 rcases hv with rfl | rfl
 ·have e1:iop .sub .u64 0 1=18446744073709551615:=by decide
  have e2:iop .xor .u64 18446744073709551615 18446744073709551615=0:=by decide
  rw[qc,qd,qb,qa,e1,e2,and_zero hx,and_all hy,(or_zero hy).2];rfl
 ·have e1:iop .sub .u64 1 1=0:=by decide
  have e2:iop .xor .u64 18446744073709551615 0=18446744073709551615:=by decide
  rw[qc,qd,qb,qa,e1,e2,and_all hx,and_zero hy,(or_zero hx).1];rfl
def pP:Int:=1361129467683753853853498429727072845819
theorem fin50 {h0 h1 h2 s0 s1 d0 b0 d1 b1 b2 x0 x1 y0 c0 y1:Int}(g0:0≤h0∧h0<18446744073709551616)(g1:0≤h1∧h1<18446744073709551616)(g2:0≤h2∧h2≤4)(_k0:0≤s0∧s0<18446744073709551616)(_k1:0≤s1∧s1<18446744073709551616)
  (q0:d0=(h0-18446744073709551611)%18446744073709551616) (r0:b0=if h0<18446744073709551611 then 1 else 0) (q1:d1=(h1-18446744073709551615-b0)%18446744073709551616) (r1:b1=if h1<18446744073709551615+b0 then 1 else 0)
  (r2:b2=if h2<3+b1 then 1 else 0) (e0:x0=if b2=1 then h0 else d0) (e1:x1=if b2=1 then h1 else d1) (z0:y0=(x0+s0)%18446744073709551616) (z1:c0=(x0+s0)/18446744073709551616) (z2:y1=(x1+s1+c0)%18446744073709551616) :
  y0+y1*18446744073709551616=((h0+h1*18446744073709551616+h2*340282366920938463463374607431768211456)%pP+(s0+s1*18446744073709551616))%340282366920938463463374607431768211456:=by
 unfold pP
 have hb0:b0=0∨b0=1:=by rw[r0];split <;> simp
 by_cases hlt:h0+h1*18446744073709551616+h2*340282366920938463463374607431768211456<1361129467683753853853498429727072845819
 ·have hb2:b2=1:=by
   rw[r2,r1,r0]
   split <;> split <;> split <;> omega
  rw[if_pos hb2] at e0 e1
  rw[Int.emod_eq_of_lt (by omega) hlt]
  subst e0 e1
  omega
 ·have hb2:b2=0:=by
   rw[r2,r1,r0]
   split <;> split <;> split <;> omega
  rw[if_neg (by omega)] at e0 e1
  have:(h0+h1*18446744073709551616+h2*340282366920938463463374607431768211456)%1361129467683753853853498429727072845819=h0+h1*18446744073709551616+h2*340282366920938463463374607431768211456-1361129467683753853853498429727072845819:=by omega
  rw[this]
  clear this r1 r2 hb2
  subst e0 e1
  split at r0
  ·subst r0;omega
  ·subst r0;omega
def outB (H s:Int):List Int:=leB 16 ((H%pP+s)%340282366920938463463374607431768211456)
theorem outB_of {H s a b:Int}(ha:0≤a∧a<18446744073709551616)(h:a+b*18446744073709551616=(H%pP+s)%340282366920938463463374607431768211456):outB H s=leB 8 a++leB 8 b:=by
 unfold outB
 rw[←h]
 exact leB_append 8 8 a b ha.1 (by simpa using ha.2)
theorem updH_append {R:Int}{M2:List Int}:∀(k:Nat) {H:Int} {M1:List Int},M1.length=16*k→updH R (M1++M2).length H (M1++M2)=updH R M2.length (updH R M1.length H M1) M2
 | 0,H,M1,h=>by
  have:M1=[]:=List.length_eq_zero_iff.1 (by omega)
  subst this;rw[updH_nil];rfl
 | k+1,H,M1,h=>by
  rw[updH_step (m:=M1++M2) (by rw[List.length_append];omega),updH_step (m:=M1) (by omega)]
  rw[List.take_append_of_le_length (by omega),List.drop_append_of_le_length (by omega)]
  have:=updH_append (R:=R) (M2:=M2) k (H:=redN ((H+chunkN (M1.take 16))*R)) (M1:=M1.drop 16) (by rw[List.length_drop];omega)
  rw[List.length_append,List.length_drop] at this
  rw[List.length_append,show M1.length+M2.length-16=M1.length-16+M2.length by omega,this]
theorem redN_bound {H c R:Int}(h0:0≤H)(h1:H<1701411834604692317316873037158841057280)(c0:0≤c)(c1:c<680564733841876926926749214863536422912)(r0:0≤R)(r1:R<21267647932558653966460912964485513216) :
  0≤redN ((H+c)*R)∧redN ((H+c)*R)<1701411834604692317316873037158841057280:=by
 have hx:=mul_b (x:=H+c) (y:=R) (a:=2381976568446569244243622252022377480191) (b:=21267647932558653966460912964485513215) ⟨by omega,by omega⟩ ⟨r0,by omega⟩
 generalize (H+c)*R=X at hx
 unfold redN
 omega
theorem chunkN_bound {m:List Int}(hm:Bytes m)(hl:m.length≤16):0≤chunkN m∧chunkN m<680564733841876926926749214863536422912:=by
 have h1:=leV_bound hm
 have h2:(256:Int)^m.length≤256^16:=by
  have h:((256^m.length:Nat):Int)≤((256^16:Nat):Int):=Int.ofNat_le.2 (Nat.pow_le_pow_right (by decide) hl)
  rwa [Int.natCast_pow,Int.natCast_pow] at h
 have h3:(256:Int)^16=340282366920938463463374607431768211456:=by decide
 unfold chunkN
 omega
theorem updH_bound {R:Int}(r0:0≤R)(r1:R<21267647932558653966460912964485513216):∀(k:Nat) {H:Int} {m:List Int},Bytes m→0≤H→H<1701411834604692317316873037158841057280→0≤updH R k H m∧updH R k H m<1701411834604692317316873037158841057280
 | 0,H,m,_,h0,h1=>⟨h0,h1⟩
 | k+1,H,m,hm,h0,h1=>by
  simp only[updH]
  split
  ·exact ⟨h0,h1⟩
  ·have hc:=chunkN_bound (hm.take 16) (by rw[List.length_take];omega)
   have:=redN_bound h0 h1 hc.1 hc.2 r0 r1
   exact updH_bound r0 r1 k (hm.drop 16) this.1 this.2
def r0K (key:List Int):Int:=iop .and .u64 (leV (key.take 8)) 1152921487695413247
def r1K (key:List Int):Int:=iop .and .u64 (leV ((key.drop 8).take 8)) 1152921487695413244
def s0K (key:List Int):Int:=leV ((key.drop 16).take 8)
def s1K (key:List Int):Int:=leV ((key.drop 24).take 8)
def tagL (key m:List Int):List Int:=outB (updH (r0K key+r1K key*18446744073709551616) m.length 0 m) (s0K key+s1K key*18446744073709551616)
theorem and_le {x:Int}{k:Nat}(h:0≤x∧x<18446744073709551616)(hk:k<18446744073709551616):0≤iop .and .u64 x k∧iop .and .u64 x k≤k:=by
 obtain ⟨x,rfl⟩:=Int.eq_ofNat_of_zero_le h.1
 have e:((2:Nat)^64:Nat)=18446744073709551616:=by decide
 rw[iop_and (k:= .u64) rfl (by simp only[IntKind.bits];omega) (by simp only[IntKind.bits];omega)]
 have:x&&&k≤k:=Nat.and_le_right
 omega
def valD:List Int→Int
 | []=>0
 | d::l=>d+65536*valD l
def digs:Nat→Int→List Int
 | 0,_=>[]
 | n+1,V=>V%65536::digs n (V/65536)
theorem digs_length:∀(n:Nat) (V:Int),(digs n V).length=n
 | 0,_=>rfl
 | n+1,V=>by simp[digs,digs_length n]
theorem digs_val:∀ {l:List Int},(∀ d∈l,0≤d∧d<65536)→digs l.length (valD l)=l
 | [],_=>rfl
 | d::l,h=>by
  have h1:=h d List.mem_cons_self
  have h2:=digs_val (l:=l) (fun x hx=>h x (List.mem_cons_of_mem _ hx))
  simp only[List.length_cons,digs,valD]
  have e1:(d+65536*valD l)%65536=d:=by omega
  have e2:(d+65536*valD l)/65536=valD l:=by omega
  rw[e1,e2,h2]
theorem val_digs:∀(n:Nat) {V:Int},0≤V→V<65536^n→valD (digs n V)=V
 | 0,V,h0,h1=>by simp only[Int.pow_zero] at h1;simp only[digs,valD];omega
 | n+1,V,h0,h1=>by
  simp only[digs,valD]
  have e:(65536:Int)^(n+1)=65536^n*65536:=Int.pow_succ _ _
  rw[e] at h1
  rw[val_digs n (V:=V/65536) (by omega) (by omega)]
  omega
theorem digs_bound:∀(n:Nat) (V:Int),∀d∈digs n V,0≤d∧d<65536
 | 0,_,_,h=>by cases h
 | n+1,V,d,h=>by
  rcases List.mem_cons.1 h with rfl | h
  ·omega
  ·exact digs_bound n _ d h
theorem u64_rem {x:Int}{k:Nat}(h:0≤x):iop .rem .u64 x (k:Int)=x%k:=by
 simp only[iop];rw[Int.tmod_eq_emod_of_nonneg h]
theorem u64_quo {x:Int}{k:Nat}(h:0≤x)(h1:x<18446744073709551616)(hk:0<k):iop .quo .u64 x (k:Int)=x/k:=by
 simp only[iop];rw[Int.tdiv_eq_ediv_of_nonneg h,IntKind.wrap_u64,Int.emod_eq_of_lt (Int.ediv_nonneg h (by omega)) (Int.lt_of_le_of_lt (Int.ediv_le_self _ h) h1)]
theorem stp {c l s d e:Int}(hc:0≤c∧c<281474976710656)(hl:0≤l∧l<4611686018427387904)(qs:s=iop .add .u64 c l)(qd:d=iop .rem .u64 s 65536)(qe:e=iop .quo .u64 s 65536) :
  (0≤d∧d<65536)∧(0≤e∧e<281474976710656)∧c+l=d+65536*e:=by
 rw[u64_add,Int.emod_eq_of_lt (by omega) (by omega)] at qs
 rw[show (65536:Int)=((65536:Nat):Int) from rfl,u64_rem (by omega)] at qd
 rw[show (65536:Int)=((65536:Nat):Int) from rfl,u64_quo (by omega) (by omega) (by decide)] at qe
 omega
theorem stp4 {c l s d e:Int}(hc:0≤c∧c<281474976710656)(hl:0≤l∧l<1152921504606846976)(qs:s=iop .add .u64 c l)(qd:d=iop .rem .u64 s 4)(qe:e=iop .quo .u64 s 4) :
  (0≤d∧d<4)∧(0≤e∧e<288371113640067072)∧c+l=d+4*e:=by
 rw[u64_add,Int.emod_eq_of_lt (by omega) (by omega)] at qs
 rw[show (4:Int)=((4:Nat):Int) from rfl,u64_rem (by omega)] at qd
 rw[show (4:Int)=((4:Nat):Int) from rfl,u64_quo (by omega) (by omega) (by decide)] at qe
 omega
theorem stp5 {d e m s:Int}(hd:0≤d∧d<65536)(he:0≤e∧e<288371113640067072)(qm:m=iop .mul .u64 5 e)(qs:s=iop .add .u64 d m):s=d+5*e:=by
 rw[u64_mul,Int.emod_eq_of_lt (by omega) (by omega)] at qm
 rw[u64_add,Int.emod_eq_of_lt (by omega) (by omega)] at qs
 omega
def Wide (l:List Int):Prop :=
 match l with
 | [a,b,c,d,e,f,g,h,i]=>(0≤a∧a<4611686018427387904)∧(0≤b∧b<4611686018427387904)∧(0≤c∧c<4611686018427387904)∧(0≤d∧d<4611686018427387904)∧(0≤e∧e<4611686018427387904)∧(0≤f∧f<4611686018427387904)∧(0≤g∧g<4611686018427387904)∧(0≤h∧h<4611686018427387904)∧(0≤i∧i<1152921504606846976)
 | _=>False
theorem mod_sub_mul (V c:Int):(V-c*pP)%pP=V%pP:=by
 rw[Int.sub_eq_add_neg,←Int.neg_mul,Int.add_mul_emod_self_right]
end Go.Sy
