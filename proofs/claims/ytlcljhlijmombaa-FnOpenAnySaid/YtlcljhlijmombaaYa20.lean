/- spec.lowered does as its contract says. Plain laws of spec.Poly1305: rows of products, the clamp, the last bytes. spec.Poly1305 does as its contract says. -/
import Derived.Test.YtlcljhlijmombaaYa18
import Derived.Test.YtlcljhlijmombaaYpoly
import Derived.Test.YtlcljhlijmombaaYf11
import Derived.Test.YtlcljhlijmombaaYa33
namespace Go.Proofs.Ytlcljhlijmombaa
open Go.Sy
def P20 (_:List Int)(ls:List (List Int)):Prop :=
 match ls with
 | [l]=>(∀ d∈l,0≤d∧d<4611686018427387904)∧valD l<115792089237316195423570985008687907853269984665640564039457584007913129639936
 | _=>False
def I20 (_:List Int)(ls:List (List Int))(j:Nat):Int :=
 match ls with
 | [l]=>(digs 9 (valD l%pP)).getD j 0
 | _=>0
theorem hig {e f u v m h:Int}(he:0≤e∧e<65536)(hf:0≤f∧f<65536)(hu:u=iop .quo .u64 e 4)(hv:v=iop .rem .u64 f 4)(qm:m=iop .mul .u64 v 16384)(qh:h=iop .add .u64 u m):u=e/4∧v=f%4∧h=u+16384*v∧0≤h∧h<65536:=by
 rw[show (4:Int)=((4:Nat):Int) from rfl,u64_quo he.1 (by omega) (by decide)] at hu
 rw[show (4:Int)=((4:Nat):Int) from rfl,u64_rem hf.1] at hv
 rw[u64_mul,Int.emod_eq_of_lt (by omega) (by omega)] at qm
 rw[u64_add,Int.emod_eq_of_lt (by omega) (by omega)] at qh
 omega
theorem low5 {l h m s:Int}(hl:0≤l∧l<65536)(hh:0≤h∧h<65536)(qm:m=iop .mul .u64 5 h)(qs:s=iop .add .u64 l m):s=l+5*h∧0≤s∧s<4611686018427387904:=by
 rw[u64_mul,Int.emod_eq_of_lt (by omega) (by omega)] at qm
 rw[u64_add,Int.emod_eq_of_lt (by omega) (by omega)] at qs
 omega
theorem b4 (x:Int):0≤x%4∧x%4<65536:=by omega
theorem dv4 (x:Int):x=4*(x/4)+x%4:=by omega
theorem b8b {s l h:Int}(hs:s=l+5*h)(hl:0≤l∧l<65536)(hh:0≤h∧h<65536):s<1152921504606846976:=by omega
theorem low_law {l0 l1 l2 l3 l4 l5 l6 l7 l8 l9 l10 l11 l12 l13 l14 l15 l16 l17 e0 e1 e2 e3 e4 e5 e6 e7 e8 e9 e10 e11 e12 e13 e14 e15 e16 e17 c1 c2 c3 c4 c5 c6 c7 c8 c9 c10 c11 c12 c13 c14 c15 c16 c17 c18 u8 u9 u10 u11 u12 u13 u14 u15 u16 v8 v9 v10 v11 v12 v13 v14 v15 v16 v17:Int}(y0:0+l0=e0+65536*c1)(y1:c1+l1=e1+65536*c2)(y2:c2+l2=e2+65536*c3)(y3:c3+l3=e3+65536*c4)(y4:c4+l4=e4+65536*c5)(y5:c5+l5=e5+65536*c6)(y6:c6+l6=e6+65536*c7)(y7:c7+l7=e7+65536*c8)(y8:c8+l8=e8+65536*c9)(y9:c9+l9=e9+65536*c10)(y10:c10+l10=e10+65536*c11)(y11:c11+l11=e11+65536*c12)(y12:c12+l12=e12+65536*c13)(y13:c13+l13=e13+65536*c14)(y14:c14+l14=e14+65536*c15)(y15:c15+l15=e15+65536*c16)(y16:c16+l16=e16+65536*c17)(y17:c17+l17=e17+65536*c18)
  (k8:e8=4*u8+v8) (k9:e9=4*u9+v9) (k10:e10=4*u10+v10) (k11:e11=4*u11+v11) (k12:e12=4*u12+v12) (k13:e13=4*u13+v13) (k14:e14=4*u14+v14) (k15:e15=4*u15+v15) (k16:e16=4*u16+v16) (k17:e17=v17) (hc:c18=0) :
  valD [e0+5*(u8+16384*v9),e1+5*(u9+16384*v10),e2+5*(u10+16384*v11),e3+5*(u11+16384*v12),e4+5*(u12+16384*v13),e5+5*(u13+16384*v14),e6+5*(u14+16384*v15),e7+5*(u15+16384*v16),v8+5*(u16+16384*v17)] =
  valD [l0,l1,l2,l3,l4,l5,l6,l7,l8,l9,l10,l11,l12,l13,l14,l15,l16,l17]-valD [u8+16384*v9,u9+16384*v10,u10+16384*v11,u11+16384*v12,u12+16384*v13,u13+16384*v14,u14+16384*v15,u15+16384*v16,u16+16384*v17]*pP:=by
 have hV:valD [l0,l1,l2,l3,l4,l5,l6,l7,l8,l9,l10,l11,l12,l13,l14,l15,l16,l17]=valD [e0,e1,e2,e3,e4,e5,e6,e7,e8,e9,e10,e11,e12,e13,e14,e15,e16,e17]:=by
  simp only[valD];omega
 rw[hV]
 simp only[valD,pP]
 omega
theorem top0 {l0 l1 l2 l3 l4 l5 l6 l7 l8 l9 l10 l11 l12 l13 l14 l15 l16 l17 e0 e1 e2 e3 e4 e5 e6 e7 e8 e9 e10 e11 e12 e13 e14 e15 e16 e17 c1 c2 c3 c4 c5 c6 c7 c8 c9 c10 c11 c12 c13 c14 c15 c16 c17 c18:Int}(y0:0+l0=e0+65536*c1)(y1:c1+l1=e1+65536*c2)(y2:c2+l2=e2+65536*c3)(y3:c3+l3=e3+65536*c4)(y4:c4+l4=e4+65536*c5)(y5:c5+l5=e5+65536*c6)(y6:c6+l6=e6+65536*c7)(y7:c7+l7=e7+65536*c8)(y8:c8+l8=e8+65536*c9)(y9:c9+l9=e9+65536*c10)(y10:c10+l10=e10+65536*c11)(y11:c11+l11=e11+65536*c12)(y12:c12+l12=e12+65536*c13)(y13:c13+l13=e13+65536*c14)(y14:c14+l14=e14+65536*c15)(y15:c15+l15=e15+65536*c16)(y16:c16+l16=e16+65536*c17)(y17:c17+l17=e17+65536*c18)
  (z0:0≤e0) (z1:0≤e1) (z2:0≤e2) (z3:0≤e3) (z4:0≤e4) (z5:0≤e5) (z6:0≤e6) (z7:0≤e7) (z8:0≤e8) (z9:0≤e9) (z10:0≤e10) (z11:0≤e11) (z12:0≤e12) (z13:0≤e13) (z14:0≤e14) (z15:0≤e15) (z16:0≤e16) (z17:0≤e17) (hc:0≤c18) (hV:valD [l0,l1,l2,l3,l4,l5,l6,l7,l8,l9,l10,l11,l12,l13,l14,l15,l16,l17]<115792089237316195423570985008687907853269984665640564039457584007913129639936):c18=0∧e17=0:=by
 have h:valD [l0,l1,l2,l3,l4,l5,l6,l7,l8,l9,l10,l11,l12,l13,l14,l15,l16,l17]=valD [e0,e1,e2,e3,e4,e5,e6,e7,e8,e9,e10,e11,e12,e13,e14,e15,e16,e17]+497323236409786642155382248146820840100456150797347717440463976893159497012533375533056*c18:=by
  simp only[valD];omega
 simp only[valD] at h hV
 omega
set_option maxHeartbeats 4000000 in
theorem spec20 {F:Fns}(hp19:F.p 19=P19)(hi19:F.i 19=I19)(hp:F.p 20=P20)(hi:F.i 20=I20):CSpec Try.prog F 20 ct20:=by
 refine straight (callT_ok (tab:=tab20) ⟨⟨by kernel_rfl,fun c hc=>by simp only[List.mem_singleton] at hc;subst hc;exact spec19 hp19 hi19⟩,trivial⟩) Try.func20 (by kernel_rfl) (by kernel_rfl) (by kernel_rfl) run20 (by kernel_rfl) fun is ls N hs hp' hag hf hd=> ?_
 obtain rfl:=Shape.noInt rfl hs
 match ls,hs with
 | [l],hs =>
 obtain ⟨hll,-⟩:=hs
 have hP:P20 [] [l]:=by rw[←hp];exact hp'
 obtain ⟨hB,hV⟩:=hP
 match l,hll with
 | [l0,l1,l2,l3,l4,l5,l6,l7,l8,l9,l10,l11,l12,l13,l14,l15,l16,l17],_ =>
 simp only[List.forall_mem_cons] at hB
 obtain ⟨g0,g1,g2,g3,g4,g5,g6,g7,g8,g9,g10,g11,g12,g13,g14,g15,g16,g17,-⟩:=hB
 have en:∀x,x<18→N.i x=[l0,l1,l2,l3,l4,l5,l6,l7,l8,l9,l10,l11,l12,l13,l14,l15,l16,l17].getD x 0:=fun x hx=>hag.i x hx
 have i0:N.i 0=l0:=en 0 (by decide)
 have i1:N.i 1=l1:=en 1 (by decide)
 have i2:N.i 2=l2:=en 2 (by decide)
 have i3:N.i 3=l3:=en 3 (by decide)
 have i4:N.i 4=l4:=en 4 (by decide)
 have i5:N.i 5=l5:=en 5 (by decide)
 have i6:N.i 6=l6:=en 6 (by decide)
 have i7:N.i 7=l7:=en 7 (by decide)
 have i8:N.i 8=l8:=en 8 (by decide)
 have i9:N.i 9=l9:=en 9 (by decide)
 have i10:N.i 10=l10:=en 10 (by decide)
 have i11:N.i 11=l11:=en 11 (by decide)
 have i12:N.i 12=l12:=en 12 (by decide)
 have i13:N.i 13=l13:=en 13 (by decide)
 have i14:N.i 14=l14:=en 14 (by decide)
 have i15:N.i 15=l15:=en 15 (by decide)
 have i16:N.i 16=l16:=en 16 (by decide)
 have i17:N.i 17=l17:=en 17 (by decide)
 clear en hag
 simp only[List.forall_mem_cons,Df.sat,Nd.ev,Ad.ev,Ar.ev,List.map_cons,List.map_nil,hf,hi19,i0,i1,i2,i3,i4,i5,i6,i7,i8,i9,i10,i11,i12,i13,i14,i15,i16,i17] at hd
 obtain ⟨q135,q134,q133,q132,q131,q130,q129,q128,q127,w0,q126,q125,q124,q123,q122,q121,q120,q119,q118,q117,q116,q115,q114,q113,q112,q111,q110,q109,q108,q107,q106,q105,q104,q103,q102,q101,q100,q99,q98,q97,q96,q95,q94,q93,q92,q91,q90,q89,q88,q87,q86,q85,q84,q83,q82,q81,q80,q79,q78,q77,q76,q75,q74,q73,q72,q71,q70,q69,q68,q67,q66,q65,q64,q63,q62,q61,q60,q59,q58,q57,q56,q55,q54,q53,q52,q51,q50,q49,q48,q47,q46,q45,q44,q43,q42,q41,q40,q39,q38,q37,q36,q35,q34,q33,q32,q31,q30,q29,q28,q27,q26,q25,q24,q23,q22,q21,q20,q19,q18,-⟩:=hd
 obtain ⟨x0,z0,y0⟩:=stp (c:=0) (by decide) g0 q18 q19 q20
 obtain ⟨x1,z1,y1⟩:=stp z0 g1 q21 q22 q23
 obtain ⟨x2,z2,y2⟩:=stp z1 g2 q24 q25 q26
 obtain ⟨x3,z3,y3⟩:=stp z2 g3 q27 q28 q29
 obtain ⟨x4,z4,y4⟩:=stp z3 g4 q30 q31 q32
 obtain ⟨x5,z5,y5⟩:=stp z4 g5 q33 q34 q35
 obtain ⟨x6,z6,y6⟩:=stp z5 g6 q36 q37 q38
 obtain ⟨x7,z7,y7⟩:=stp z6 g7 q39 q40 q41
 obtain ⟨x8,z8,y8⟩:=stp z7 g8 q42 q43 q44
 obtain ⟨x9,z9,y9⟩:=stp z8 g9 q45 q46 q47
 obtain ⟨x10,z10,y10⟩:=stp z9 g10 q48 q49 q50
 obtain ⟨x11,z11,y11⟩:=stp z10 g11 q51 q52 q53
 obtain ⟨x12,z12,y12⟩:=stp z11 g12 q54 q55 q56
 obtain ⟨x13,z13,y13⟩:=stp z12 g13 q57 q58 q59
 obtain ⟨x14,z14,y14⟩:=stp z13 g14 q60 q61 q62
 obtain ⟨x15,z15,y15⟩:=stp z14 g15 q63 q64 q65
 obtain ⟨x16,z16,y16⟩:=stp z15 g16 q66 q67 q68
 obtain ⟨x17,z17,y17⟩:=stp z16 g17 q69 q70 q71
 obtain ⟨t18,t17⟩:=top0 y0 y1 y2 y3 y4 y5 y6 y7 y8 y9 y10 y11 y12 y13 y14 y15 y16 y17 x0.1 x1.1 x2.1 x3.1 x4.1 x5.1 x6.1 x7.1 x8.1 x9.1 x10.1 x11.1 x12.1 x13.1 x14.1 x15.1 x16.1 x17.1 z17.1 hV
 obtain ⟨u0,v0,h0,k0⟩:=hig x8 x9 q73 q74 q75 q76
 obtain ⟨u1,v1,h1,k1⟩:=hig x9 x10 q77 q78 q79 q80
 obtain ⟨u2,v2,h2,k2⟩:=hig x10 x11 q81 q82 q83 q84
 obtain ⟨u3,v3,h3,k3⟩:=hig x11 x12 q85 q86 q87 q88
 obtain ⟨u4,v4,h4,k4⟩:=hig x12 x13 q89 q90 q91 q92
 obtain ⟨u5,v5,h5,k5⟩:=hig x13 x14 q93 q94 q95 q96
 obtain ⟨u6,v6,h6,k6⟩:=hig x14 x15 q97 q98 q99 q100
 obtain ⟨u7,v7,h7,k7⟩:=hig x15 x16 q101 q102 q103 q104
 obtain ⟨u8,v8,h8,k8⟩:=hig x16 x17 q105 q106 q107 q108
 have h72:N.i 72=N.i 43%4:=by rw[q72,show (4:Int)=((4:Nat):Int) from rfl,u64_rem x8.1]
 have b72:0≤N.i 72∧N.i 72<65536:=by rw[h72];exact b4 _
 obtain ⟨s0,a0⟩:=low5 x0 k0 q109 q110
 obtain ⟨s1,a1⟩:=low5 x1 k1 q111 q112
 obtain ⟨s2,a2⟩:=low5 x2 k2 q113 q114
 obtain ⟨s3,a3⟩:=low5 x3 k3 q115 q116
 obtain ⟨s4,a4⟩:=low5 x4 k4 q117 q118
 obtain ⟨s5,a5⟩:=low5 x5 k5 q119 q120
 obtain ⟨s6,a6⟩:=low5 x6 k6 q121 q122
 obtain ⟨s7,a7⟩:=low5 x7 k7 q123 q124
 obtain ⟨s8,a8⟩:=low5 b72 k8 q125 q126
 have main:=low_law y0 y1 y2 y3 y4 y5 y6 y7 y8 y9 y10 y11 y12 y13 y14 y15 y16 y17 (dv4 (N.i 43)) (dv4 (N.i 46)) (dv4 (N.i 49)) (dv4 (N.i 52)) (dv4 (N.i 55)) (dv4 (N.i 58)) (dv4 (N.i 61)) (dv4 (N.i 64)) (dv4 (N.i 67)) (show N.i 70=N.i 70%4 from by rw[t17];rfl) t18
 rw[←h72] at main
 rw[←u0] at main
 rw[←u1] at main
 rw[←u2] at main
 rw[←u3] at main
 rw[←u4] at main
 rw[←u5] at main
 rw[←u6] at main
 rw[←u7] at main
 rw[←u8] at main
 rw[←v0] at main
 rw[←v1] at main
 rw[←v2] at main
 rw[←v3] at main
 rw[←v4] at main
 rw[←v5] at main
 rw[←v6] at main
 rw[←v7] at main
 rw[←v8] at main
 rw[←h0] at main
 rw[←h1] at main
 rw[←h2] at main
 rw[←h3] at main
 rw[←h4] at main
 rw[←h5] at main
 rw[←h6] at main
 rw[←h7] at main
 rw[←h8] at main
 rw[←s0] at main
 rw[←s1] at main
 rw[←s2] at main
 rw[←s3] at main
 rw[←s4] at main
 rw[←s5] at main
 rw[←s6] at main
 rw[←s7] at main
 rw[←s8] at main
 have hval:valD (N.a 0)%pP=valD [l0,l1,l2,l3,l4,l5,l6,l7,l8,l9,l10,l11,l12,l13,l14,l15,l16,l17]%pP:=by
  rw[w0,main,mod_sub_mul]
 have hm:([.var 127,.var 128,.var 129,.var 130,.var 131,.var 132,.var 133,.var 134,.var 135]:List Ar).map (·.ev N)=digs 9 (valD [l0,l1,l2,l3,l4,l5,l6,l7,l8,l9,l10,l11,l12,l13,l14,l15,l16,l17]%pP):=by
  simp only[List.map_cons,List.map_nil,Ar.ev,q127,q128,q129,q130,q131,q132,q133,q134,q135]
  rw[←hval];rfl
 refine ⟨?_,⟨?_,trivial,trivial⟩,nofun⟩
 ·simp only[List.forall_mem_cons,Ob.holds,List.map_cons,List.map_nil,hf,hp19,w0]
  exact ⟨⟨a0,a1,a2,a3,a4,a5,a6,a7,a8.1,b8b s8 b72 k8⟩,nofun⟩
 ·intro p hp2
  show _=F.i 20 _ _ _
  rw[hi]
  exact zipJ_of' hm p hp2
end Go.Proofs.Ytlcljhlijmombaa
namespace Go.Sy
theorem mac {x r s p t B:Int}(hx:0≤x∧x<65536)(hr:0≤r∧r<65536)(hB:B≤1099511627776)(hs:0≤s∧s<B)(qp:p=iop .mul .u64 x r)(qt:t=iop .add .u64 s p):t=s+x*r∧0≤t∧t<B+4294967296:=by
 have h:=mul_b (x:=x) (y:=r) (a:=65535) (b:=65535) ⟨hx.1,by omega⟩ ⟨hr.1,by omega⟩
 rw[u64_mul] at qp
 rw[u64_add] at qt
 generalize x*r=z at h qp
 rw[Int.emod_eq_of_lt (by omega) (by omega)] at qp
 subst qp
 rw[Int.emod_eq_of_lt (by omega) (by omega)] at qt
 subst qt
 omega
theorem mulA (x r:Int)(l:List Int):x*valD (r::l)=x*r+65536*(x*valD l):=by simp only[valD];grind
theorem mulN (x:Int):x*valD []=0:=by simp only[valD,Int.mul_zero]
theorem mac9 {x s0 s1 s2 s3 s4 s5 s6 s7 s8 r0 r1 r2 r3 r4 r5 r6 r7 r8 p0 p1 p2 p3 p4 p5 p6 p7 p8 t0 t1 t2 t3 t4 t5 t6 t7 t8 B:Int}(hx:0≤x∧x<65536)(hB:B≤1099511627776)(hs0:0≤s0∧s0<B)(hs1:0≤s1∧s1<B)(hs2:0≤s2∧s2<B)(hs3:0≤s3∧s3<B)(hs4:0≤s4∧s4<B)(hs5:0≤s5∧s5<B)(hs6:0≤s6∧s6<B)(hs7:0≤s7∧s7<B)(hs8:0≤s8∧s8<B)(hr0:0≤r0∧r0<65536)(hr1:0≤r1∧r1<65536)(hr2:0≤r2∧r2<65536)(hr3:0≤r3∧r3<65536)(hr4:0≤r4∧r4<65536)(hr5:0≤r5∧r5<65536)(hr6:0≤r6∧r6<65536)(hr7:0≤r7∧r7<65536)(hr8:0≤r8∧r8<65536)(qp0:p0=iop .mul .u64 x r0)(qt0:t0=iop .add .u64 s0 p0)(qp1:p1=iop .mul .u64 x r1)(qt1:t1=iop .add .u64 s1 p1)(qp2:p2=iop .mul .u64 x r2)(qt2:t2=iop .add .u64 s2 p2)(qp3:p3=iop .mul .u64 x r3)(qt3:t3=iop .add .u64 s3 p3)(qp4:p4=iop .mul .u64 x r4)(qt4:t4=iop .add .u64 s4 p4)(qp5:p5=iop .mul .u64 x r5)(qt5:t5=iop .add .u64 s5 p5)(qp6:p6=iop .mul .u64 x r6)(qt6:t6=iop .add .u64 s6 p6)(qp7:p7=iop .mul .u64 x r7)(qt7:t7=iop .add .u64 s7 p7)(qp8:p8=iop .mul .u64 x r8)(qt8:t8=iop .add .u64 s8 p8) :
  valD [t0,t1,t2,t3,t4,t5,t6,t7,t8]=valD [s0,s1,s2,s3,s4,s5,s6,s7,s8]+x*valD [r0,r1,r2,r3,r4,r5,r6,r7,r8]∧(0≤t0∧t0<B+4294967296)∧(0≤t1∧t1<B+4294967296)∧(0≤t2∧t2<B+4294967296)∧(0≤t3∧t3<B+4294967296)∧(0≤t4∧t4<B+4294967296)∧(0≤t5∧t5<B+4294967296)∧(0≤t6∧t6<B+4294967296)∧(0≤t7∧t7<B+4294967296)∧(0≤t8∧t8<B+4294967296):=by
 obtain ⟨e0,b0⟩:=mac hx hr0 hB hs0 qp0 qt0
 obtain ⟨e1,b1⟩:=mac hx hr1 hB hs1 qp1 qt1
 obtain ⟨e2,b2⟩:=mac hx hr2 hB hs2 qp2 qt2
 obtain ⟨e3,b3⟩:=mac hx hr3 hB hs3 qp3 qt3
 obtain ⟨e4,b4⟩:=mac hx hr4 hB hs4 qp4 qt4
 obtain ⟨e5,b5⟩:=mac hx hr5 hB hs5 qp5 qt5
 obtain ⟨e6,b6⟩:=mac hx hr6 hB hs6 qp6 qt6
 obtain ⟨e7,b7⟩:=mac hx hr7 hB hs7 qp7 qt7
 obtain ⟨e8,b8⟩:=mac hx hr8 hB hs8 qp8 qt8
 refine ⟨?_,b0,b1,b2,b3,b4,b5,b6,b7,b8⟩
 simp only[mulA,mulN]
 simp only[valD]
 rw[e0,e1,e2,e3,e4,e5,e6,e7,e8]
 clear b0 b1 b2 b3 b4 b5 b6 b7 b8 hs0 hs1 hs2 hs3 hs4 hs5 hs6 hs7 hs8 hr0 hr1 hr2 hr3 hr4 hr5 hr6 hr7 hr8 qp0 qp1 qp2 qp3 qp4 qp5 qp6 qp7 qp8 qt0 qt1 qt2 qt3 qt4 qt5 qt6 qt7 qt8 e0 e1 e2 e3 e4 e5 e6 e7 e8 hx hB
 omega
theorem school {x0 x1 x2 x3 x4 x5 x6 x7 x8 t00 t01 t02 t03 t04 t05 t06 t07 t08 t10 t11 t12 t13 t14 t15 t16 t17 t18 t20 t21 t22 t23 t24 t25 t26 t27 t28 t30 t31 t32 t33 t34 t35 t36 t37 t38 t40 t41 t42 t43 t44 t45 t46 t47 t48 t50 t51 t52 t53 t54 t55 t56 t57 t58 t60 t61 t62 t63 t64 t65 t66 t67 t68 t70 t71 t72 t73 t74 t75 t76 t77 t78 t80 t81 t82 t83 t84 t85 t86 t87 t88 V:Int}(h0:valD [t00,t01,t02,t03,t04,t05,t06,t07,t08]=valD [0,0,0,0,0,0,0,0,0]+x0*V)(h1:valD [t10,t11,t12,t13,t14,t15,t16,t17,t18]=valD [t01,t02,t03,t04,t05,t06,t07,t08,0]+x1*V)(h2:valD [t20,t21,t22,t23,t24,t25,t26,t27,t28]=valD [t11,t12,t13,t14,t15,t16,t17,t18,0]+x2*V)(h3:valD [t30,t31,t32,t33,t34,t35,t36,t37,t38]=valD [t21,t22,t23,t24,t25,t26,t27,t28,0]+x3*V)(h4:valD [t40,t41,t42,t43,t44,t45,t46,t47,t48]=valD [t31,t32,t33,t34,t35,t36,t37,t38,0]+x4*V)(h5:valD [t50,t51,t52,t53,t54,t55,t56,t57,t58]=valD [t41,t42,t43,t44,t45,t46,t47,t48,0]+x5*V)(h6:valD [t60,t61,t62,t63,t64,t65,t66,t67,t68]=valD [t51,t52,t53,t54,t55,t56,t57,t58,0]+x6*V)(h7:valD [t70,t71,t72,t73,t74,t75,t76,t77,t78]=valD [t61,t62,t63,t64,t65,t66,t67,t68,0]+x7*V)(h8:valD [t80,t81,t82,t83,t84,t85,t86,t87,t88]=valD [t71,t72,t73,t74,t75,t76,t77,t78,0]+x8*V) :
  valD [t00,t10,t20,t30,t40,t50,t60,t70,t80,t81,t82,t83,t84,t85,t86,t87,t88,0]=valD [x0,x1,x2,x3,x4,x5,x6,x7,x8]*V:=by
 have e:valD [x0,x1,x2,x3,x4,x5,x6,x7,x8]*V=V*valD [x0,x1,x2,x3,x4,x5,x6,x7,x8]:=Int.mul_comm _ _
 rw[e]
 simp only[mulA,mulN]
 simp only[valD] at h0 h1 h2 h3 h4 h5 h6 h7 h8 ⊢
 have c0:=Int.mul_comm x0 V
 have c1:=Int.mul_comm x1 V
 have c2:=Int.mul_comm x2 V
 have c3:=Int.mul_comm x3 V
 have c4:=Int.mul_comm x4 V
 have c5:=Int.mul_comm x5 V
 have c6:=Int.mul_comm x6 V
 have c7:=Int.mul_comm x7 V
 have c8:=Int.mul_comm x8 V
 rw[c0] at h0
 rw[c1] at h1
 rw[c2] at h2
 rw[c3] at h3
 rw[c4] at h4
 rw[c5] at h5
 rw[c6] at h6
 rw[c7] at h7
 rw[c8] at h8
 generalize V*x0=y0 at h0 ⊢
 generalize V*x1=y1 at h1 ⊢
 generalize V*x2=y2 at h2 ⊢
 generalize V*x3=y3 at h3 ⊢
 generalize V*x4=y4 at h4 ⊢
 generalize V*x5=y5 at h5 ⊢
 generalize V*x6=y6 at h6 ⊢
 generalize V*x7=y7 at h7 ⊢
 generalize V*x8=y8 at h8 ⊢
 clear e c0 c1 c2 c3 c4 c5 c6 c7 c8
 omega
theorem leB_leV:∀ {l:List Int},Bytes l→leB l.length (leV l)=l
 | [],_=>rfl
 | x::l,h=>by
  have h1:=h x List.mem_cons_self
  have h2:=leB_leV (l:=l) (fun y hy=>h y (List.mem_cons_of_mem _ hy))
  simp only[List.length_cons,leB,leV]
  rw[show (x+256*leV l)%256=x by omega,show (x+256*leV l)/256=leV l by omega,h2]
theorem redN_mod (X:Int):redN X%pP=X%pP:=by
 have:redN X=X-(X/1361129467683753853853498429727072845824)*pP:=by unfold redN pP;omega
 rw[this,mod_sub_mul]
theorem endS {c a x y t1 t2 t3 t4 t5 t6 t7 s d0 e d1 c':Int}(hc:0≤c∧c≤1)(ha:0≤a∧a<65536)(hx:0≤x∧x<256)(hy:0≤y∧y<256)(q1:t1=iop .add .u64 c a)(q2:t2=x)(q3:t3=IntKind.u64.wrap t2)(q4:t4=iop .add .u64 t1 t3)
  (q5:t5=y) (q6:t6=IntKind.u64.wrap t5) (q7:t7=iop .shl .u64 t6 8) (q8:s=iop .add .u64 t4 t7) (q9:d0=IntKind.u8.wrap s) (q10:e=iop .shr .u64 s 8) (q11:d1=IntKind.u8.wrap e) (q12:c'=iop .shr .u64 s 16) :
  (0≤d0∧d0<256)∧(0≤d1∧d1<256)∧(0≤c'∧c'≤1)∧d0+256*d1+65536*c'=c+a+x+256*y:=by
 subst q2 q5
 rw[IntKind.wrap_u64,Int.emod_eq_of_lt (by omega) (by omega)] at q3 q6
 subst q3 q6
 rw[show (8:Int)=((8:Nat):Int) from rfl,shl_kst (by decide),IntKind.wrap_u64,Int.emod_eq_of_lt (by omega) (by omega)] at q7
 rw[u64_add,Int.emod_eq_of_lt (by omega) (by omega)] at q1
 subst q1
 rw[u64_add,Int.emod_eq_of_lt (by omega) (by omega)] at q4
 subst q4 q7
 rw[u64_add,Int.emod_eq_of_lt (by omega) (by omega)] at q8
 rw[show (8:Int)=((8:Nat):Int) from rfl,shr_kst (by decide)] at q10
 rw[show (16:Int)=((16:Nat):Int) from rfl,shr_kst (by decide)] at q12
 rw[IntKind.wrap_u8] at q9 q11
 subst q9 q10 q11 q12
 omega
theorem andH (x y m n:Nat)(hx:x<256)(hm:m<256):(x+256*y)&&&(m+256*n)=(x&&&m)+256*(y&&&n):=by
 have h1:=Nat.and_mod_two_pow (a:=x+256*y) (b:=m+256*n) (n:=8)
 have h2:=Nat.and_div_two_pow (a:=x+256*y) (b:=m+256*n) (n:=8)
 rw[show 2^8=256 from rfl] at h1 h2
 rw[show (x+256*y)%256=x by omega,show (m+256*n)%256=m by omega] at h1
 rw[show (x+256*y)/256=y by omega,show (m+256*n)/256=n by omega] at h2
 omega
theorem and255 (x:Nat)(hx:x<256):x&&&255=x:=by
 rw[show 255=2^8-1 from rfl,Nat.and_two_pow_sub_one_eq_mod];omega
theorem andR0 {b0 b1 b2 b3 b4 b5 b6 b7:Int}(h0:0≤b0∧b0<256)(h1:0≤b1∧b1<256)(h2:0≤b2∧b2<256)(h3:0≤b3∧b3<256)(h4:0≤b4∧b4<256)(h5:0≤b5∧b5<256)(h6:0≤b6∧b6<256)(h7:0≤b7∧b7<256) :
  iop .and .u64 (leV [b0,b1,b2,b3,b4,b5,b6,b7]) 1152921487695413247=leV [b0,b1,b2,iop .and .u8 b3 15,iop .and .u8 b4 252,b5,b6,iop .and .u8 b7 15]:=by
 obtain ⟨b0,rfl⟩:=Int.eq_ofNat_of_zero_le h0.1
 obtain ⟨b1,rfl⟩:=Int.eq_ofNat_of_zero_le h1.1
 obtain ⟨b2,rfl⟩:=Int.eq_ofNat_of_zero_le h2.1
 obtain ⟨b3,rfl⟩:=Int.eq_ofNat_of_zero_le h3.1
 obtain ⟨b4,rfl⟩:=Int.eq_ofNat_of_zero_le h4.1
 obtain ⟨b5,rfl⟩:=Int.eq_ofNat_of_zero_le h5.1
 obtain ⟨b6,rfl⟩:=Int.eq_ofNat_of_zero_le h6.1
 obtain ⟨b7,rfl⟩:=Int.eq_ofNat_of_zero_le h7.1
 have p8:(2:Nat)^IntKind.u8.bits=256:=rfl
 have p64:(2:Nat)^IntKind.u64.bits=18446744073709551616:=rfl
 rw[show (15:Int)=((15:Nat):Int) from rfl,show (252:Int)=((252:Nat):Int) from rfl,iop_and (k:= .u8) rfl (by omega) (by omega),iop_and (k:= .u8) rfl (by omega) (by omega),iop_and (k:= .u8) rfl (by omega) (by omega)]
 have e:leV [(b0:Int),b1,b2,b3,b4,b5,b6,b7]=((b0+256*(b1+256*(b2+256*(b3+256*(b4+256*(b5+256*(b6+256*b7)))))):Nat):Int):=by simp only[leV];omega
 rw[e,show (1152921487695413247:Int)=((255+256*(255+256*(255+256*(15+256*(252+256*(255+256*(255+256*15)))))):Nat):Int) from rfl]
 rw[iop_and (k:= .u64) rfl (by omega) (by omega)]
 rw[andH _ _ _ _ (by omega) (by omega),andH _ _ _ _ (by omega) (by omega),andH _ _ _ _ (by omega) (by omega),andH _ _ _ _ (by omega) (by omega),andH _ _ _ _ (by omega) (by omega),andH _ _ _ _ (by omega) (by omega),andH _ _ _ _ (by omega) (by omega)]
 rw[and255 b0 (by omega),and255 b1 (by omega),and255 b2 (by omega),and255 b5 (by omega),and255 b6 (by omega)]
 simp only[leV];omega
theorem andR1 {b0 b1 b2 b3 b4 b5 b6 b7:Int}(h0:0≤b0∧b0<256)(h1:0≤b1∧b1<256)(h2:0≤b2∧b2<256)(h3:0≤b3∧b3<256)(h4:0≤b4∧b4<256)(h5:0≤b5∧b5<256)(h6:0≤b6∧b6<256)(h7:0≤b7∧b7<256) :
  iop .and .u64 (leV [b0,b1,b2,b3,b4,b5,b6,b7]) 1152921487695413244=leV [iop .and .u8 b0 252,b1,b2,iop .and .u8 b3 15,iop .and .u8 b4 252,b5,b6,iop .and .u8 b7 15]:=by
 obtain ⟨b0,rfl⟩:=Int.eq_ofNat_of_zero_le h0.1
 obtain ⟨b1,rfl⟩:=Int.eq_ofNat_of_zero_le h1.1
 obtain ⟨b2,rfl⟩:=Int.eq_ofNat_of_zero_le h2.1
 obtain ⟨b3,rfl⟩:=Int.eq_ofNat_of_zero_le h3.1
 obtain ⟨b4,rfl⟩:=Int.eq_ofNat_of_zero_le h4.1
 obtain ⟨b5,rfl⟩:=Int.eq_ofNat_of_zero_le h5.1
 obtain ⟨b6,rfl⟩:=Int.eq_ofNat_of_zero_le h6.1
 obtain ⟨b7,rfl⟩:=Int.eq_ofNat_of_zero_le h7.1
 have p8:(2:Nat)^IntKind.u8.bits=256:=rfl
 have p64:(2:Nat)^IntKind.u64.bits=18446744073709551616:=rfl
 rw[show (15:Int)=((15:Nat):Int) from rfl,show (252:Int)=((252:Nat):Int) from rfl,iop_and (k:= .u8) rfl (by omega) (by omega),iop_and (k:= .u8) rfl (by omega) (by omega),iop_and (k:= .u8) rfl (by omega) (by omega),iop_and (k:= .u8) rfl (by omega) (by omega)]
 have e:leV [(b0:Int),b1,b2,b3,b4,b5,b6,b7]=((b0+256*(b1+256*(b2+256*(b3+256*(b4+256*(b5+256*(b6+256*b7)))))):Nat):Int):=by simp only[leV];omega
 rw[e,show (1152921487695413244:Int)=((252+256*(255+256*(255+256*(15+256*(252+256*(255+256*(255+256*15)))))):Nat):Int) from rfl]
 rw[iop_and (k:= .u64) rfl (by omega) (by omega)]
 rw[andH _ _ _ _ (by omega) (by omega),andH _ _ _ _ (by omega) (by omega),andH _ _ _ _ (by omega) (by omega),andH _ _ _ _ (by omega) (by omega),andH _ _ _ _ (by omega) (by omega),andH _ _ _ _ (by omega) (by omega),andH _ _ _ _ (by omega) (by omega)]
 rw[and255 b1 (by omega),and255 b2 (by omega),and255 b5 (by omega),and255 b6 (by omega)]
 simp only[leV];omega
theorem andB8 {b:Int}{k:Nat}(h:0≤b∧b<256)(hk:k<256):0≤iop .and .u8 b k∧iop .and .u8 b k≤k:=by
 obtain ⟨b,rfl⟩:=Int.eq_ofNat_of_zero_le h.1
 have p8:(2:Nat)^IntKind.u8.bits=256:=rfl
 rw[iop_and (k:= .u8) rfl (by omega) (by omega)]
 have:=Nat.and_le_right (n:=b) (m:=k)
 omega
end Go.Sy
namespace Go.Proofs.Ytlcljhlijmombaa
open Go.Sy
def defs11:List Df :=
  [.n 220 (.fn 20 [] [4] 8),
  .n 219 (.fn 20 [] [4] 7),
  .n 218 (.fn 20 [] [4] 6),
  .n 217 (.fn 20 [] [4] 5),
  .n 216 (.fn 20 [] [4] 4),
  .n 215 (.fn 20 [] [4] 3),
  .n 214 (.fn 20 [] [4] 2),
  .n 213 (.fn 20 [] [4] 1),
  .n 212 (.fn 20 [] [4] 0),
  .a 4 (.lit [.var 51,.var 69,.var 87,.var 105,.var 123,.var 141,.var 159,.var 177,.var 195,.var 197,.var 199,.var 201,.var 203,.var 205,.var 207,.var 209,.var 211,.kst 0]),
  .n 211 (.bin .add .u64 (.kst 0) (.var 210)),
  .n 210 (.bin .mul .u64 (.var 49) (.var 11)),
  .n 209 (.bin .add .u64 (.var 193) (.var 208)),
  .n 208 (.bin .mul .u64 (.var 49) (.var 10)),
  .n 207 (.bin .add .u64 (.var 191) (.var 206)),
  .n 206 (.bin .mul .u64 (.var 49) (.var 9)),
  .n 205 (.bin .add .u64 (.var 189) (.var 204)),
  .n 204 (.bin .mul .u64 (.var 49) (.var 8)),
  .n 203 (.bin .add .u64 (.var 187) (.var 202)),
  .n 202 (.bin .mul .u64 (.var 49) (.var 7)),
  .n 201 (.bin .add .u64 (.var 185) (.var 200)),
  .n 200 (.bin .mul .u64 (.var 49) (.var 6)),
  .n 199 (.bin .add .u64 (.var 183) (.var 198)),
  .n 198 (.bin .mul .u64 (.var 49) (.var 5)),
  .n 197 (.bin .add .u64 (.var 181) (.var 196)),
  .n 196 (.bin .mul .u64 (.var 49) (.var 4)),
  .n 195 (.bin .add .u64 (.var 179) (.var 194)),
  .n 194 (.bin .mul .u64 (.var 49) (.var 3)),
  .n 193 (.bin .add .u64 (.kst 0) (.var 192)),
  .n 192 (.bin .mul .u64 (.var 48) (.var 11)),
  .n 191 (.bin .add .u64 (.var 175) (.var 190)),
  .n 190 (.bin .mul .u64 (.var 48) (.var 10)),
  .n 189 (.bin .add .u64 (.var 173) (.var 188)),
  .n 188 (.bin .mul .u64 (.var 48) (.var 9)),
  .n 187 (.bin .add .u64 (.var 171) (.var 186)),
  .n 186 (.bin .mul .u64 (.var 48) (.var 8)),
  .n 185 (.bin .add .u64 (.var 169) (.var 184)),
  .n 184 (.bin .mul .u64 (.var 48) (.var 7)),
  .n 183 (.bin .add .u64 (.var 167) (.var 182)),
  .n 182 (.bin .mul .u64 (.var 48) (.var 6)),
  .n 181 (.bin .add .u64 (.var 165) (.var 180)),
  .n 180 (.bin .mul .u64 (.var 48) (.var 5)),
  .n 179 (.bin .add .u64 (.var 163) (.var 178)),
  .n 178 (.bin .mul .u64 (.var 48) (.var 4)),
  .n 177 (.bin .add .u64 (.var 161) (.var 176)),
  .n 176 (.bin .mul .u64 (.var 48) (.var 3)),
  .n 175 (.bin .add .u64 (.kst 0) (.var 174)),
  .n 174 (.bin .mul .u64 (.var 47) (.var 11)),
  .n 173 (.bin .add .u64 (.var 157) (.var 172)),
  .n 172 (.bin .mul .u64 (.var 47) (.var 10)),
  .n 171 (.bin .add .u64 (.var 155) (.var 170)),
  .n 170 (.bin .mul .u64 (.var 47) (.var 9)),
  .n 169 (.bin .add .u64 (.var 153) (.var 168)),
  .n 168 (.bin .mul .u64 (.var 47) (.var 8)),
  .n 167 (.bin .add .u64 (.var 151) (.var 166)),
  .n 166 (.bin .mul .u64 (.var 47) (.var 7)),
  .n 165 (.bin .add .u64 (.var 149) (.var 164)),
  .n 164 (.bin .mul .u64 (.var 47) (.var 6)),
  .n 163 (.bin .add .u64 (.var 147) (.var 162)),
  .n 162 (.bin .mul .u64 (.var 47) (.var 5)),
  .n 161 (.bin .add .u64 (.var 145) (.var 160)),
  .n 160 (.bin .mul .u64 (.var 47) (.var 4)),
  .n 159 (.bin .add .u64 (.var 143) (.var 158)),
  .n 158 (.bin .mul .u64 (.var 47) (.var 3)),
  .n 157 (.bin .add .u64 (.kst 0) (.var 156)),
  .n 156 (.bin .mul .u64 (.var 46) (.var 11)),
  .n 155 (.bin .add .u64 (.var 139) (.var 154)),
  .n 154 (.bin .mul .u64 (.var 46) (.var 10)),
  .n 153 (.bin .add .u64 (.var 137) (.var 152)),
  .n 152 (.bin .mul .u64 (.var 46) (.var 9)),
  .n 151 (.bin .add .u64 (.var 135) (.var 150)),
  .n 150 (.bin .mul .u64 (.var 46) (.var 8)),
  .n 149 (.bin .add .u64 (.var 133) (.var 148)),
  .n 148 (.bin .mul .u64 (.var 46) (.var 7)),
  .n 147 (.bin .add .u64 (.var 131) (.var 146)),
  .n 146 (.bin .mul .u64 (.var 46) (.var 6)),
  .n 145 (.bin .add .u64 (.var 129) (.var 144)),
  .n 144 (.bin .mul .u64 (.var 46) (.var 5)),
  .n 143 (.bin .add .u64 (.var 127) (.var 142)),
  .n 142 (.bin .mul .u64 (.var 46) (.var 4)),
  .n 141 (.bin .add .u64 (.var 125) (.var 140)),
  .n 140 (.bin .mul .u64 (.var 46) (.var 3)),
  .n 139 (.bin .add .u64 (.kst 0) (.var 138)),
  .n 138 (.bin .mul .u64 (.var 45) (.var 11)),
  .n 137 (.bin .add .u64 (.var 121) (.var 136)),
  .n 136 (.bin .mul .u64 (.var 45) (.var 10)),
  .n 135 (.bin .add .u64 (.var 119) (.var 134)),
  .n 134 (.bin .mul .u64 (.var 45) (.var 9)),
  .n 133 (.bin .add .u64 (.var 117) (.var 132)),
  .n 132 (.bin .mul .u64 (.var 45) (.var 8)),
  .n 131 (.bin .add .u64 (.var 115) (.var 130)),
  .n 130 (.bin .mul .u64 (.var 45) (.var 7)),
  .n 129 (.bin .add .u64 (.var 113) (.var 128)),
  .n 128 (.bin .mul .u64 (.var 45) (.var 6)),
  .n 127 (.bin .add .u64 (.var 111) (.var 126)),
  .n 126 (.bin .mul .u64 (.var 45) (.var 5)),
  .n 125 (.bin .add .u64 (.var 109) (.var 124)),
  .n 124 (.bin .mul .u64 (.var 45) (.var 4)),
  .n 123 (.bin .add .u64 (.var 107) (.var 122)),
  .n 122 (.bin .mul .u64 (.var 45) (.var 3)),
  .n 121 (.bin .add .u64 (.kst 0) (.var 120)),
  .n 120 (.bin .mul .u64 (.var 44) (.var 11)),
  .n 119 (.bin .add .u64 (.var 103) (.var 118)),
  .n 118 (.bin .mul .u64 (.var 44) (.var 10)),
  .n 117 (.bin .add .u64 (.var 101) (.var 116)),
  .n 116 (.bin .mul .u64 (.var 44) (.var 9)),
  .n 115 (.bin .add .u64 (.var 99) (.var 114)),
  .n 114 (.bin .mul .u64 (.var 44) (.var 8)),
  .n 113 (.bin .add .u64 (.var 97) (.var 112)),
  .n 112 (.bin .mul .u64 (.var 44) (.var 7)),
  .n 111 (.bin .add .u64 (.var 95) (.var 110)),
  .n 110 (.bin .mul .u64 (.var 44) (.var 6)),
  .n 109 (.bin .add .u64 (.var 93) (.var 108)),
  .n 108 (.bin .mul .u64 (.var 44) (.var 5)),
  .n 107 (.bin .add .u64 (.var 91) (.var 106)),
  .n 106 (.bin .mul .u64 (.var 44) (.var 4)),
  .n 105 (.bin .add .u64 (.var 89) (.var 104)),
  .n 104 (.bin .mul .u64 (.var 44) (.var 3)),
  .n 103 (.bin .add .u64 (.kst 0) (.var 102)),
  .n 102 (.bin .mul .u64 (.var 43) (.var 11)),
  .n 101 (.bin .add .u64 (.var 85) (.var 100)),
  .n 100 (.bin .mul .u64 (.var 43) (.var 10)),
  .n 99 (.bin .add .u64 (.var 83) (.var 98)),
  .n 98 (.bin .mul .u64 (.var 43) (.var 9)),
  .n 97 (.bin .add .u64 (.var 81) (.var 96)),
  .n 96 (.bin .mul .u64 (.var 43) (.var 8)),
  .n 95 (.bin .add .u64 (.var 79) (.var 94)),
  .n 94 (.bin .mul .u64 (.var 43) (.var 7)),
  .n 93 (.bin .add .u64 (.var 77) (.var 92)),
  .n 92 (.bin .mul .u64 (.var 43) (.var 6)),
  .n 91 (.bin .add .u64 (.var 75) (.var 90)),
  .n 90 (.bin .mul .u64 (.var 43) (.var 5)),
  .n 89 (.bin .add .u64 (.var 73) (.var 88)),
  .n 88 (.bin .mul .u64 (.var 43) (.var 4)),
  .n 87 (.bin .add .u64 (.var 71) (.var 86)),
  .n 86 (.bin .mul .u64 (.var 43) (.var 3)),
  .n 85 (.bin .add .u64 (.kst 0) (.var 84)),
  .n 84 (.bin .mul .u64 (.var 42) (.var 11)),
  .n 83 (.bin .add .u64 (.var 67) (.var 82)),
  .n 82 (.bin .mul .u64 (.var 42) (.var 10)),
  .n 81 (.bin .add .u64 (.var 65) (.var 80)),
  .n 80 (.bin .mul .u64 (.var 42) (.var 9)),
  .n 79 (.bin .add .u64 (.var 63) (.var 78)),
  .n 78 (.bin .mul .u64 (.var 42) (.var 8)),
  .n 77 (.bin .add .u64 (.var 61) (.var 76)),
  .n 76 (.bin .mul .u64 (.var 42) (.var 7)),
  .n 75 (.bin .add .u64 (.var 59) (.var 74)),
  .n 74 (.bin .mul .u64 (.var 42) (.var 6)),
  .n 73 (.bin .add .u64 (.var 57) (.var 72)),
  .n 72 (.bin .mul .u64 (.var 42) (.var 5)),
  .n 71 (.bin .add .u64 (.var 55) (.var 70)),
  .n 70 (.bin .mul .u64 (.var 42) (.var 4)),
  .n 69 (.bin .add .u64 (.var 53) (.var 68)),
  .n 68 (.bin .mul .u64 (.var 42) (.var 3)),
  .n 67 (.bin .add .u64 (.kst 0) (.var 66)),
  .n 66 (.bin .mul .u64 (.var 41) (.var 11)),
  .n 65 (.bin .add .u64 (.kst 0) (.var 64)),
  .n 64 (.bin .mul .u64 (.var 41) (.var 10)),
  .n 63 (.bin .add .u64 (.kst 0) (.var 62)),
  .n 62 (.bin .mul .u64 (.var 41) (.var 9)),
  .n 61 (.bin .add .u64 (.kst 0) (.var 60)),
  .n 60 (.bin .mul .u64 (.var 41) (.var 8)),
  .n 59 (.bin .add .u64 (.kst 0) (.var 58)),
  .n 58 (.bin .mul .u64 (.var 41) (.var 7)),
  .n 57 (.bin .add .u64 (.kst 0) (.var 56)),
  .n 56 (.bin .mul .u64 (.var 41) (.var 6)),
  .n 55 (.bin .add .u64 (.kst 0) (.var 54)),
  .n 54 (.bin .mul .u64 (.var 41) (.var 5)),
  .n 53 (.bin .add .u64 (.kst 0) (.var 52)),
  .n 52 (.bin .mul .u64 (.var 41) (.var 4)),
  .n 51 (.bin .add .u64 (.kst 0) (.var 50)),
  .n 50 (.bin .mul .u64 (.var 41) (.var 3)),
  .n 49 (.fn 19 [] [3] 8),
  .n 48 (.fn 19 [] [3] 7),
  .n 47 (.fn 19 [] [3] 6),
  .n 46 (.fn 19 [] [3] 5),
  .n 45 (.fn 19 [] [3] 4),
  .n 44 (.fn 19 [] [3] 3),
  .n 43 (.fn 19 [] [3] 2),
  .n 42 (.fn 19 [] [3] 1),
  .n 41 (.fn 19 [] [3] 0),
  .a 3 (.lit [.var 32,.var 33,.var 34,.var 35,.var 36,.var 37,.var 38,.var 39,.var 40]),
  .n 40 (.bin .add .u64 (.var 20) (.var 31)),
  .n 39 (.bin .add .u64 (.var 19) (.var 30)),
  .n 38 (.bin .add .u64 (.var 18) (.var 29)),
  .n 37 (.bin .add .u64 (.var 17) (.var 28)),
  .n 36 (.bin .add .u64 (.var 16) (.var 27)),
  .n 35 (.bin .add .u64 (.var 15) (.var 26)),
  .n 34 (.bin .add .u64 (.var 14) (.var 25)),
  .n 33 (.bin .add .u64 (.var 13) (.var 24)),
  .n 32 (.bin .add .u64 (.var 12) (.var 23)),
  .n 31 (.fn 18 [] [2] 8),
  .n 30 (.fn 18 [] [2] 7),
  .n 29 (.fn 18 [] [2] 6),
  .n 28 (.fn 18 [] [2] 5),
  .n 27 (.fn 18 [] [2] 4),
  .n 26 (.fn 18 [] [2] 3),
  .n 25 (.fn 18 [] [2] 2),
  .n 24 (.fn 18 [] [2] 1),
  .n 23 (.fn 18 [] [2] 0),
  .a 2 (.sub 1 (.var 1) (.var 22)),
  .n 22 (.mn (.var 2) (.kst 16)),
  .n 21 (.cmp .gtr (.var 2) (.kst 0))]
def P11 (_:List Int)(ls:List (List Int)):Prop :=
 match ls with
 | [key,m]=>Bytes m∧Bytes key∧m.length≤1099511627776
 | _=>False
def A11 (_:List Int)(ls:List (List Int)):List Int :=
 match ls with
 | [key,m]=>tagL key m
 | _=>[]
structure F11 (F:Fns):Prop where
 p18:F.p 18=P18
 i18:F.i 18=I18
 p19:F.p 19=P19
 i19:F.i 19=I19
 p20:F.p 20=P20
 i20:F.i 20=I20
 p11:F.p 11=P11
 a11:F.a 11=A11
theorem tab11_ok {F:Fns}(h:F11 F):TabOk F tab11 :=
 ⟨⟨by kernel_rfl,fun c hc=>by simp only[List.mem_singleton] at hc;subst hc;exact spec18 h.p18 h.i18⟩,
  ⟨by kernel_rfl,fun c hc=>by simp only[List.mem_singleton] at hc;subst hc;exact spec19 h.p19 h.i19⟩,
  ⟨by kernel_rfl,fun c hc=>by simp only[List.mem_singleton] at hc;subst hc;exact spec20 h.p19 h.i19 h.p20 h.i20⟩,trivial⟩
theorem list9 {L:List Int}(h:L.length=9):[L.getD 0 0,L.getD 1 0,L.getD 2 0,L.getD 3 0,L.getD 4 0,L.getD 5 0,L.getD 6 0,L.getD 7 0,L.getD 8 0]=L:=by
 match L,h with
 | [_,_,_,_,_,_,_,_,_],_=>rfl
theorem addD {x y z:Int}(hx:0≤x∧x<65536)(hy:0≤y∧y<65536)(q:z=iop .add .u64 x y):z=x+y∧0≤z∧z<131072:=by
 rw[u64_add,Int.emod_eq_of_lt (by omega) (by omega)] at q
 omega
theorem wk {t B:Int}(h:0≤t∧t<B)(hB:B≤4611686018427387904):0≤t∧t<4611686018427387904:=⟨h.1,Int.lt_of_lt_of_le h.2 hB⟩
theorem wk8 {t B:Int}(h:0≤t∧t<B)(hB:B≤1152921504606846976):0≤t∧t<1152921504606846976:=⟨h.1,Int.lt_of_lt_of_le h.2 hB⟩
theorem add9 {x0 x1 x2 x3 x4 x5 x6 x7 x8 y0 y1 y2 y3 y4 y5 y6 y7 y8 z0 z1 z2 z3 z4 z5 z6 z7 z8:Int}(hx0:0≤x0∧x0<65536)(hx1:0≤x1∧x1<65536)(hx2:0≤x2∧x2<65536)(hx3:0≤x3∧x3<65536)(hx4:0≤x4∧x4<65536)(hx5:0≤x5∧x5<65536)(hx6:0≤x6∧x6<65536)(hx7:0≤x7∧x7<65536)(hx8:0≤x8∧x8<65536)(hy0:0≤y0∧y0<65536)(hy1:0≤y1∧y1<65536)(hy2:0≤y2∧y2<65536)(hy3:0≤y3∧y3<65536)(hy4:0≤y4∧y4<65536)(hy5:0≤y5∧y5<65536)(hy6:0≤y6∧y6<65536)(hy7:0≤y7∧y7<65536)(hy8:0≤y8∧y8<65536)(q0:z0=iop .add .u64 x0 y0)(q1:z1=iop .add .u64 x1 y1)(q2:z2=iop .add .u64 x2 y2)(q3:z3=iop .add .u64 x3 y3)(q4:z4=iop .add .u64 x4 y4)(q5:z5=iop .add .u64 x5 y5)(q6:z6=iop .add .u64 x6 y6)(q7:z7=iop .add .u64 x7 y7)(q8:z8=iop .add .u64 x8 y8) :
  valD [z0,z1,z2,z3,z4,z5,z6,z7,z8]=valD [x0,x1,x2,x3,x4,x5,x6,x7,x8]+valD [y0,y1,y2,y3,y4,y5,y6,y7,y8]∧Wide [z0,z1,z2,z3,z4,z5,z6,z7,z8]:=by
 obtain ⟨e0,b0⟩:=addD hx0 hy0 q0
 obtain ⟨e1,b1⟩:=addD hx1 hy1 q1
 obtain ⟨e2,b2⟩:=addD hx2 hy2 q2
 obtain ⟨e3,b3⟩:=addD hx3 hy3 q3
 obtain ⟨e4,b4⟩:=addD hx4 hy4 q4
 obtain ⟨e5,b5⟩:=addD hx5 hy5 q5
 obtain ⟨e6,b6⟩:=addD hx6 hy6 q6
 obtain ⟨e7,b7⟩:=addD hx7 hy7 q7
 obtain ⟨e8,b8⟩:=addD hx8 hy8 q8
 refine ⟨?_,wk b0 (by decide),wk b1 (by decide),wk b2 (by decide),wk b3 (by decide),wk b4 (by decide),wk b5 (by decide),wk b6 (by decide),wk b7 (by decide),wk8 b8 (by decide)⟩
 simp only[valD]
 rw[e0,e1,e2,e3,e4,e5,e6,e7,e8]
 clear b0 e0 hx0 hy0 q0 b1 e1 hx1 hy1 q1 b2 e2 hx2 hy2 q2 b3 e3 hx3 hy3 q3 b4 e4 hx4 hy4 q4 b5 e5 hx5 hy5 q5 b6 e6 hx6 hy6 q6 b7 e7 hx7 hy7 q7 b8 e8 hx8 hy8 q8
 omega
theorem modmul (H c Q:Int):((H%pP+c)%pP)*Q%pP=(H+c)*Q%pP:=by
 have e1:(H%pP+c)%pP=(H+c)%pP:=by rw[Int.add_emod,Int.emod_emod_of_dvd _ (Int.dvd_refl _),←Int.add_emod]
 rw[e1,Int.mul_emod,Int.emod_emod_of_dvd _ (Int.dvd_refl _),←Int.mul_emod]
theorem pP_mod (X:Int):0≤X%pP∧X%pP<1361129467683753853853498429727072845819:=⟨Int.emod_nonneg _ (by decide),Int.emod_lt_of_pos _ (by decide)⟩
set_option maxRecDepth 8000 in
set_option maxHeartbeats 4000000 in
theorem mul11 {F:Fns}(hF:F11 F){M:Num}(hf:M.f=F){H Q:Int}{c:List Int}(hd:∀d∈defs11,d.sat M)(hr:∀j,j<9→M.i (3+j)=(digs 9 Q).getD j 0)(ha:∀j,j<9→M.i (12+j)=(digs 9 (H%pP)).getD j 0)
  (hQ:0≤Q∧Q<21267647932558653966460912964485513216) (hc:0≤chunkN c∧chunkN c<680564733841876926926749214863536422912) (h2:M.a 2=c) :
  Wide [M.i 32,M.i 33,M.i 34,M.i 35,M.i 36,M.i 37,M.i 38,M.i 39,M.i 40]∧M.a 3=[M.i 32,M.i 33,M.i 34,M.i 35,M.i 36,M.i 37,M.i 38,M.i 39,M.i 40]∧P20 [] [M.a 4]∧∀j,j<9→M.i (212+j)=(digs 9 (redN ((H+chunkN c)*Q)%pP)).getD j 0:=by
 unfold defs11 at hd
 simp only[List.forall_mem_cons,Df.sat,Nd.ev,Ad.ev,Ar.ev,List.map_cons,List.map_nil,hf,hF.i18,hF.i19,hF.i20,h2] at hd
 obtain ⟨q220,q219,q218,q217,q216,q215,q214,q213,q212,w4,q211,q210,q209,q208,q207,q206,q205,q204,q203,q202,q201,q200,q199,q198,q197,q196,q195,q194,q193,q192,q191,q190,q189,q188,q187,q186,q185,q184,q183,q182,q181,q180,q179,q178,q177,q176,q175,q174,q173,q172,q171,q170,q169,q168,q167,q166,q165,q164,q163,q162,q161,q160,q159,q158,q157,q156,q155,q154,q153,q152,q151,q150,q149,q148,q147,q146,q145,q144,q143,q142,q141,q140,q139,q138,q137,q136,q135,q134,q133,q132,q131,q130,q129,q128,q127,q126,q125,q124,q123,q122,q121,q120,q119,q118,q117,q116,q115,q114,q113,q112,q111,q110,q109,q108,q107,q106,q105,q104,q103,q102,q101,q100,q99,q98,q97,q96,q95,q94,q93,q92,q91,q90,q89,q88,q87,q86,q85,q84,q83,q82,q81,q80,q79,q78,q77,q76,q75,q74,q73,q72,q71,q70,q69,q68,q67,q66,q65,q64,q63,q62,q61,q60,q59,q58,q57,q56,q55,q54,q53,q52,q51,q50,q49,q48,q47,q46,q45,q44,q43,q42,q41,w3,q40,q39,q38,q37,q36,q35,q34,q33,q32,q31,q30,q29,q28,q27,q26,q25,q24,q23,w2,q22,q21,-⟩:=hd
 have eR:[M.i 3,M.i 4,M.i 5,M.i 6,M.i 7,M.i 8,M.i 9,M.i 10,M.i 11]=digs 9 Q:=congrN hr (digs_length 9 Q)
 have eA:[M.i 12,M.i 13,M.i 14,M.i 15,M.i 16,M.i 17,M.i 18,M.i 19,M.i 20]=digs 9 (H%pP):=congrN ha (digs_length 9 _)
 have eD:[M.i 23,M.i 24,M.i 25,M.i 26,M.i 27,M.i 28,M.i 29,M.i 30,M.i 31]=digs 9 (chunkN c):=by
  rw[q23,q24,q25,q26,q27,q28,q29,q30,q31];exact list9 (digs_length 9 _)
 have bR:∀d∈[M.i 3,M.i 4,M.i 5,M.i 6,M.i 7,M.i 8,M.i 9,M.i 10,M.i 11],0≤d∧d<65536:=by rw[eR];exact digs_bound 9 Q
 have bA:∀d∈[M.i 12,M.i 13,M.i 14,M.i 15,M.i 16,M.i 17,M.i 18,M.i 19,M.i 20],0≤d∧d<65536:=by rw[eA];exact digs_bound 9 _
 have bD:∀d∈[M.i 23,M.i 24,M.i 25,M.i 26,M.i 27,M.i 28,M.i 29,M.i 30,M.i 31],0≤d∧d<65536:=by rw[eD];exact digs_bound 9 _
 simp only[List.forall_mem_cons] at bR bA bD
 obtain ⟨r0,r1,r2,r3,r4,r5,r6,r7,r8,-⟩:=bR
 obtain ⟨a0,a1,a2,a3,a4,a5,a6,a7,a8,-⟩:=bA
 obtain ⟨d0,d1,d2,d3,d4,d5,d6,d7,d8,-⟩:=bD
 obtain ⟨vS,wS⟩:=add9 a0 a1 a2 a3 a4 a5 a6 a7 a8 d0 d1 d2 d3 d4 d5 d6 d7 d8 q32 q33 q34 q35 q36 q37 q38 q39 q40
 have pb:=pP_mod H
 rw[eA,eD,val_digs 9 pb.1 (Int.lt_trans pb.2 (by decide)),val_digs 9 hc.1 (Int.lt_trans hc.2 (by decide))] at vS
 have eX:[M.i 41,M.i 42,M.i 43,M.i 44,M.i 45,M.i 46,M.i 47,M.i 48,M.i 49]=digs 9 ((H%pP+chunkN c)%pP):=by
  rw[q41,q42,q43,q44,q45,q46,q47,q48,q49,←vS,←w3];exact list9 (digs_length 9 _)
 have bX:∀d∈[M.i 41,M.i 42,M.i 43,M.i 44,M.i 45,M.i 46,M.i 47,M.i 48,M.i 49],0≤d∧d<65536:=by rw[eX];exact digs_bound 9 _
 simp only[List.forall_mem_cons] at bX
 obtain ⟨x0,x1,x2,x3,x4,x5,x6,x7,x8,-⟩:=bX
 have z0:(0:Int)≤0∧(0:Int)<1:=by decide
 obtain ⟨e0,b00,b01,b02,b03,b04,b05,b06,b07,b08⟩:=mac9 (B:=1) x0 (by decide) z0 z0 z0 z0 z0 z0 z0 z0 z0 r0 r1 r2 r3 r4 r5 r6 r7 r8 q50 q51 q52 q53 q54 q55 q56 q57 q58 q59 q60 q61 q62 q63 q64 q65 q66 q67
 have z1:(0:Int)≤0∧(0:Int)<4294967297:=by decide
 obtain ⟨e1,b10,b11,b12,b13,b14,b15,b16,b17,b18⟩:=mac9 (B:=4294967297) x1 (by decide) b01 b02 b03 b04 b05 b06 b07 b08 z1 r0 r1 r2 r3 r4 r5 r6 r7 r8 q68 q69 q70 q71 q72 q73 q74 q75 q76 q77 q78 q79 q80 q81 q82 q83 q84 q85
 have z2:(0:Int)≤0∧(0:Int)<8589934593:=by decide
 obtain ⟨e2,b20,b21,b22,b23,b24,b25,b26,b27,b28⟩:=mac9 (B:=8589934593) x2 (by decide) b11 b12 b13 b14 b15 b16 b17 b18 z2 r0 r1 r2 r3 r4 r5 r6 r7 r8 q86 q87 q88 q89 q90 q91 q92 q93 q94 q95 q96 q97 q98 q99 q100 q101 q102 q103
 have z3:(0:Int)≤0∧(0:Int)<12884901889:=by decide
 obtain ⟨e3,b30,b31,b32,b33,b34,b35,b36,b37,b38⟩:=mac9 (B:=12884901889) x3 (by decide) b21 b22 b23 b24 b25 b26 b27 b28 z3 r0 r1 r2 r3 r4 r5 r6 r7 r8 q104 q105 q106 q107 q108 q109 q110 q111 q112 q113 q114 q115 q116 q117 q118 q119 q120 q121
 have z4:(0:Int)≤0∧(0:Int)<17179869185:=by decide
 obtain ⟨e4,b40,b41,b42,b43,b44,b45,b46,b47,b48⟩:=mac9 (B:=17179869185) x4 (by decide) b31 b32 b33 b34 b35 b36 b37 b38 z4 r0 r1 r2 r3 r4 r5 r6 r7 r8 q122 q123 q124 q125 q126 q127 q128 q129 q130 q131 q132 q133 q134 q135 q136 q137 q138 q139
 have z5:(0:Int)≤0∧(0:Int)<21474836481:=by decide
 obtain ⟨e5,b50,b51,b52,b53,b54,b55,b56,b57,b58⟩:=mac9 (B:=21474836481) x5 (by decide) b41 b42 b43 b44 b45 b46 b47 b48 z5 r0 r1 r2 r3 r4 r5 r6 r7 r8 q140 q141 q142 q143 q144 q145 q146 q147 q148 q149 q150 q151 q152 q153 q154 q155 q156 q157
 have z6:(0:Int)≤0∧(0:Int)<25769803777:=by decide
 obtain ⟨e6,b60,b61,b62,b63,b64,b65,b66,b67,b68⟩:=mac9 (B:=25769803777) x6 (by decide) b51 b52 b53 b54 b55 b56 b57 b58 z6 r0 r1 r2 r3 r4 r5 r6 r7 r8 q158 q159 q160 q161 q162 q163 q164 q165 q166 q167 q168 q169 q170 q171 q172 q173 q174 q175
 have z7:(0:Int)≤0∧(0:Int)<30064771073:=by decide
 obtain ⟨e7,b70,b71,b72,b73,b74,b75,b76,b77,b78⟩:=mac9 (B:=30064771073) x7 (by decide) b61 b62 b63 b64 b65 b66 b67 b68 z7 r0 r1 r2 r3 r4 r5 r6 r7 r8 q176 q177 q178 q179 q180 q181 q182 q183 q184 q185 q186 q187 q188 q189 q190 q191 q192 q193
 have z8:(0:Int)≤0∧(0:Int)<34359738369:=by decide
 obtain ⟨e8,b80,b81,b82,b83,b84,b85,b86,b87,b88⟩:=mac9 (B:=34359738369) x8 (by decide) b71 b72 b73 b74 b75 b76 b77 b78 z8 r0 r1 r2 r3 r4 r5 r6 r7 r8 q194 q195 q196 q197 q198 q199 q200 q201 q202 q203 q204 q205 q206 q207 q208 q209 q210 q211
 have vT:=school e0 e1 e2 e3 e4 e5 e6 e7 e8
 have xb:=pP_mod (H%pP+chunkN c)
 rw[eR,eX,val_digs 9 hQ.1 (Int.lt_trans hQ.2 (by decide)),val_digs 9 xb.1 (Int.lt_trans xb.2 (by decide)),←w4] at vT
 refine ⟨wS,w3,⟨?_,?_⟩,?_⟩
 ·rw [w4]
  simp only[List.forall_mem_cons]
  exact ⟨wk b00 (by decide),wk b10 (by decide),wk b20 (by decide),wk b30 (by decide),wk b40 (by decide),wk b50 (by decide),wk b60 (by decide),wk b70 (by decide),wk b80 (by decide),wk b81 (by decide),wk b82 (by decide),wk b83 (by decide),wk b84 (by decide),wk b85 (by decide),wk b86 (by decide),wk b87 (by decide),wk b88 (by decide),by decide,nofun⟩
 ·rw [vT]
  exact Int.lt_of_le_of_lt (mul_b (a:=1361129467683753853853498429727072845818) (b:=21267647932558653966460912964485513215) ⟨xb.1,Int.le_of_lt_add_one xb.2⟩ ⟨hQ.1,Int.le_of_lt_add_one hQ.2⟩).2 (by decide)
 ·have eZ:[M.i 212,M.i 213,M.i 214,M.i 215,M.i 216,M.i 217,M.i 218,M.i 219,M.i 220]=digs 9 (redN ((H+chunkN c)*Q)%pP):=by
   rw[redN_mod,←modmul,←vT,q212,q213,q214,q215,q216,q217,q218,q219,q220];exact list9 (digs_length 9 _)
  intro j hj
  rw[←eZ]
  match j,hj with
  | 0,_=>rfl
  | 1,_=>rfl
  | 2,_=>rfl
  | 3,_=>rfl
  | 4,_=>rfl
  | 5,_=>rfl
  | 6,_=>rfl
  | 7,_=>rfl
  | 8,_=>rfl
  | j+9,h=>exact absurd h (by omega)
theorem clamp11 {k0 k1 k2 k3 k4 k5 k6 k7 k8 k9 k10 k11 k12 k13 k14 k15 k16 k17 k18 k19 k20 k21 k22 k23 k24 k25 k26 k27 k28 k29 k30 k31 n1 n2 n3 n4 n5 n6 n7 n8 n9 n10 n11 n12 n13 n14 n15 n16 n17 n18 n19 n20 n21 n22 n23 n24 n25 n26 n27 n28 n29 n30 n31 n32 n33 n34 n35 n36 n37 n38 n39 n40 n41 n42 n43 n44 n45 n46 n47 n48 n49 n50 n51 n52 n53 n54 n55 n56 n57 n58 n59 n60 n61 n62 n63 n64 n65 n66 n67 n68 n69 n70 n71:Int}(h0:0≤k0∧k0<256)(h1:0≤k1∧k1<256)(h2:0≤k2∧k2<256)(h3:0≤k3∧k3<256)(h4:0≤k4∧k4<256)(h5:0≤k5∧k5<256)(h6:0≤k6∧k6<256)(h7:0≤k7∧k7<256)(h8:0≤k8∧k8<256)(h9:0≤k9∧k9<256)(h10:0≤k10∧k10<256)(h11:0≤k11∧k11<256)(h12:0≤k12∧k12<256)(h13:0≤k13∧k13<256)(h14:0≤k14∧k14<256)(h15:0≤k15∧k15<256)(q1:n1=k0)(q2:n2=IntKind.u64.wrap n1)(q3:n3=iop .shl .u64 n2 0)(q4:n4=iop .add .u64 0 n3)(q5:n5=k1)(q6:n6=IntKind.u64.wrap n5)(q7:n7=iop .shl .u64 n6 8)(q8:n8=iop .add .u64 n4 n7)(q9:n9=k2)(q10:n10=IntKind.u64.wrap n9)(q11:n11=iop .shl .u64 n10 0)(q12:n12=iop .add .u64 0 n11)(q13:n13=k3)(q14:n14=iop .and .u8 n13 15)(q15:n15=IntKind.u64.wrap n14)(q16:n16=iop .shl .u64 n15 8)(q17:n17=iop .add .u64 n12 n16)(q18:n18=k4)(q19:n19=iop .and .u8 n18 252)(q20:n20=IntKind.u64.wrap n19)(q21:n21=iop .shl .u64 n20 0)(q22:n22=iop .add .u64 0 n21)(q23:n23=k5)(q24:n24=IntKind.u64.wrap n23)(q25:n25=iop .shl .u64 n24 8)(q26:n26=iop .add .u64 n22 n25)(q27:n27=k6)(q28:n28=IntKind.u64.wrap n27)(q29:n29=iop .shl .u64 n28 0)(q30:n30=iop .add .u64 0 n29)(q31:n31=k7)(q32:n32=iop .and .u8 n31 15)(q33:n33=IntKind.u64.wrap n32)(q34:n34=iop .shl .u64 n33 8)(q35:n35=iop .add .u64 n30 n34)(q36:n36=k8)(q37:n37=iop .and .u8 n36 252)(q38:n38=IntKind.u64.wrap n37)(q39:n39=iop .shl .u64 n38 0)(q40:n40=iop .add .u64 0 n39)(q41:n41=k9)(q42:n42=IntKind.u64.wrap n41)(q43:n43=iop .shl .u64 n42 8)(q44:n44=iop .add .u64 n40 n43)(q45:n45=k10)(q46:n46=IntKind.u64.wrap n45)(q47:n47=iop .shl .u64 n46 0)(q48:n48=iop .add .u64 0 n47)(q49:n49=k11)(q50:n50=iop .and .u8 n49 15)(q51:n51=IntKind.u64.wrap n50)(q52:n52=iop .shl .u64 n51 8)(q53:n53=iop .add .u64 n48 n52)(q54:n54=k12)(q55:n55=iop .and .u8 n54 252)(q56:n56=IntKind.u64.wrap n55)(q57:n57=iop .shl .u64 n56 0)(q58:n58=iop .add .u64 0 n57)(q59:n59=k13)(q60:n60=IntKind.u64.wrap n59)(q61:n61=iop .shl .u64 n60 8)(q62:n62=iop .add .u64 n58 n61)(q63:n63=k14)(q64:n64=IntKind.u64.wrap n63)(q65:n65=iop .shl .u64 n64 0)(q66:n66=iop .add .u64 0 n65)(q67:n67=k15)(q68:n68=iop .and .u8 n67 15)(q69:n69=IntKind.u64.wrap n68)(q70:n70=iop .shl .u64 n69 8)(q71:n71=iop .add .u64 n66 n70) :
  [n8,n17,n26,n35,n44,n53,n62,n71,0]=digs 9 (RK [k0,k1,k2,k3,k4,k5,k6,k7,k8,k9,k10,k11,k12,k13,k14,k15,k16,k17,k18,k19,k20,k21,k22,k23,k24,k25,k26,k27,k28,k29,k30,k31]):=by
 have c0:=h0
 have c1:=h1
 have c2:=h2
 have c3:0≤(iop .and .u8 k3 15)∧(iop .and .u8 k3 15)<256:=by have:=andB8 (k:=15) h3 (by decide);exact ⟨this.1,Int.lt_of_le_of_lt this.2 (by decide)⟩
 have c4:0≤(iop .and .u8 k4 252)∧(iop .and .u8 k4 252)<256:=by have:=andB8 (k:=252) h4 (by decide);exact ⟨this.1,Int.lt_of_le_of_lt this.2 (by decide)⟩
 have c5:=h5
 have c6:=h6
 have c7:0≤(iop .and .u8 k7 15)∧(iop .and .u8 k7 15)<256:=by have:=andB8 (k:=15) h7 (by decide);exact ⟨this.1,Int.lt_of_le_of_lt this.2 (by decide)⟩
 have c8:0≤(iop .and .u8 k8 252)∧(iop .and .u8 k8 252)<256:=by have:=andB8 (k:=252) h8 (by decide);exact ⟨this.1,Int.lt_of_le_of_lt this.2 (by decide)⟩
 have c9:=h9
 have c10:=h10
 have c11:0≤(iop .and .u8 k11 15)∧(iop .and .u8 k11 15)<256:=by have:=andB8 (k:=15) h11 (by decide);exact ⟨this.1,Int.lt_of_le_of_lt this.2 (by decide)⟩
 have c12:0≤(iop .and .u8 k12 252)∧(iop .and .u8 k12 252)<256:=by have:=andB8 (k:=252) h12 (by decide);exact ⟨this.1,Int.lt_of_le_of_lt this.2 (by decide)⟩
 have c13:=h13
 have c14:=h14
 have c15:0≤(iop .and .u8 k15 15)∧(iop .and .u8 k15 15)<256:=by have:=andB8 (k:=15) h15 (by decide);exact ⟨this.1,Int.lt_of_le_of_lt this.2 (by decide)⟩
 have g0:=dg1 (x:=k0) c0 q1 q2 q3 q4
 have u0:=dg2 g0 c0 c1 q5 q6 q7 q8
 have g1:=dg1 (x:=k2) c2 q9 q10 q11 q12
 have u1:=dg2 g1 c2 c3 (by rw[q14,q13]) q15 q16 q17
 have g2:=dg1 (x:=(iop .and .u8 k4 252)) c4 (by rw[q19,q18]) q20 q21 q22
 have u2:=dg2 g2 c4 c5 q23 q24 q25 q26
 have g3:=dg1 (x:=k6) c6 q27 q28 q29 q30
 have u3:=dg2 g3 c6 c7 (by rw[q32,q31]) q33 q34 q35
 have g4:=dg1 (x:=(iop .and .u8 k8 252)) c8 (by rw[q37,q36]) q38 q39 q40
 have u4:=dg2 g4 c8 c9 q41 q42 q43 q44
 have g5:=dg1 (x:=k10) c10 q45 q46 q47 q48
 have u5:=dg2 g5 c10 c11 (by rw[q50,q49]) q51 q52 q53
 have g6:=dg1 (x:=(iop .and .u8 k12 252)) c12 (by rw[q55,q54]) q56 q57 q58
 have u6:=dg2 g6 c12 c13 q59 q60 q61 q62
 have g7:=dg1 (x:=k14) c14 q63 q64 q65 q66
 have u7:=dg2 g7 c14 c15 (by rw[q68,q67]) q69 q70 q71
 rw[u0]
 rw[u1]
 rw[u2]
 rw[u3]
 rw[u4]
 rw[u5]
 rw[u6]
 rw[u7]
 clear u0 g0 u1 g1 u2 g2 u3 g3 u4 g4 u5 g5 u6 g6 u7 g7 q1 q2 q3 q4 q5 q6 q7 q8 q9 q10 q11 q12 q13 q14 q15 q16 q17 q18 q19 q20 q21 q22 q23 q24 q25 q26 q27 q28 q29 q30 q31 q32 q33 q34 q35 q36 q37 q38 q39 q40 q41 q42 q43 q44 q45 q46 q47 q48 q49 q50 q51 q52 q53 q54 q55 q56 q57 q58 q59 q60 q61 q62 q63 q64 q65 q66 q67 q68 q69 q70 q71
 have e:RK [k0,k1,k2,k3,k4,k5,k6,k7,k8,k9,k10,k11,k12,k13,k14,k15,k16,k17,k18,k19,k20,k21,k22,k23,k24,k25,k26,k27,k28,k29,k30,k31]=leV [k0,k1,k2,(iop .and .u8 k3 15),(iop .and .u8 k4 252),k5,k6,(iop .and .u8 k7 15)]+leV [(iop .and .u8 k8 252),k9,k10,(iop .and .u8 k11 15),(iop .and .u8 k12 252),k13,k14,(iop .and .u8 k15 15)]*18446744073709551616:=by
  rw[←andR0 h0 h1 h2 h3 h4 h5 h6 h7,←andR1 h8 h9 h10 h11 h12 h13 h14 h15];rfl
 rw[e]
 simp only[leV]
 generalize iop .and .u8 k3 15=y3 at c3 ⊢
 generalize iop .and .u8 k7 15=y7 at c7 ⊢
 generalize iop .and .u8 k11 15=y11 at c11 ⊢
 generalize iop .and .u8 k15 15=y15 at c15 ⊢
 generalize iop .and .u8 k4 252=y4 at c4 ⊢
 generalize iop .and .u8 k8 252=y8 at c8 ⊢
 generalize iop .and .u8 k12 252=y12 at c12 ⊢
 refine digs9 ?_ rfl ?_
 ·simp only[List.forall_mem_cons]
  refine ⟨?_,?_,?_,?_,?_,?_,?_,?_,by decide,nofun⟩ <;> omega
 ·simp only[valD];omega
theorem end8 {d0 d1 d2 d3 d4 d5 d6 d7 d8 d9 d10 d11 d12 d13 d14 d15 c1 c2 c3 c4 c5 c6 c7 c8 a0 a1 a2 a3 a4 a5 a6 a7 a8 k0 k1 k2 k3 k4 k5 k6 k7 k8 k9 k10 k11 k12 k13 k14 k15 H S:Int}(hS:S=leV [k0,k1,k2,k3,k4,k5,k6,k7,k8,k9,k10,k11,k12,k13,k14,k15])(hH:[a0,a1,a2,a3,a4,a5,a6,a7,a8]=digs 9 (H%pP))
  (e0:(0≤d0∧d0<256)∧(0≤d1∧d1<256)∧(0≤c1∧c1≤1)∧d0+256*d1+65536*c1=0+a0+k0+256*k1) (e1:(0≤d2∧d2<256)∧(0≤d3∧d3<256)∧(0≤c2∧c2≤1)∧d2+256*d3+65536*c2=c1+a1+k2+256*k3) (e2:(0≤d4∧d4<256)∧(0≤d5∧d5<256)∧(0≤c3∧c3≤1)∧d4+256*d5+65536*c3=c2+a2+k4+256*k5) (e3:(0≤d6∧d6<256)∧(0≤d7∧d7<256)∧(0≤c4∧c4≤1)∧d6+256*d7+65536*c4=c3+a3+k6+256*k7) (e4:(0≤d8∧d8<256)∧(0≤d9∧d9<256)∧(0≤c5∧c5≤1)∧d8+256*d9+65536*c5=c4+a4+k8+256*k9) (e5:(0≤d10∧d10<256)∧(0≤d11∧d11<256)∧(0≤c6∧c6≤1)∧d10+256*d11+65536*c6=c5+a5+k10+256*k11) (e6:(0≤d12∧d12<256)∧(0≤d13∧d13<256)∧(0≤c7∧c7≤1)∧d12+256*d13+65536*c7=c6+a6+k12+256*k13) (e7:(0≤d14∧d14<256)∧(0≤d15∧d15<256)∧(0≤c8∧c8≤1)∧d14+256*d15+65536*c8=c7+a7+k14+256*k15) :
  [d0,d1,d2,d3,d4,d5,d6,d7,d8,d9,d10,d11,d12,d13,d14,d15]=outB H S:=by
 have pb:=pP_mod H
 have hv:valD [a0,a1,a2,a3,a4,a5,a6,a7,a8]=H%pP:=by rw[hH,val_digs 9 pb.1 (Int.lt_trans pb.2 (by decide))]
 unfold outB
 have e:(H%pP+S)%340282366920938463463374607431768211456=leV [d0,d1,d2,d3,d4,d5,d6,d7,d8,d9,d10,d11,d12,d13,d14,d15]:=by
  rw[←hv,hS]
  simp only[valD,leV]
  clear hS hH hv pb
  omega
 rw[e]
 refine (leB_leV (l:=[d0,d1,d2,d3,d4,d5,d6,d7,d8,d9,d10,d11,d12,d13,d14,d15]) ?_).symm
 intro x hx
 simp only[List.mem_cons,List.not_mem_nil,or_false] at hx
 rcases hx with rfl | rfl | rfl | rfl | rfl | rfl | rfl | rfl | rfl | rfl | rfl | rfl | rfl | rfl | rfl | rfl
 ·exact e0.1
 ·exact e0.2.1
 ·exact e1.1
 ·exact e1.2.1
 ·exact e2.1
 ·exact e2.2.1
 ·exact e3.1
 ·exact e3.2.1
 ·exact e4.1
 ·exact e4.2.1
 ·exact e5.1
 ·exact e5.2.1
 ·exact e6.1
 ·exact e6.2.1
 ·exact e7.1
 ·exact e7.2.1
theorem sK_eq {k0 k1 k2 k3 k4 k5 k6 k7 k8 k9 k10 k11 k12 k13 k14 k15 k16 k17 k18 k19 k20 k21 k22 k23 k24 k25 k26 k27 k28 k29 k30 k31:Int}:s0K [k0,k1,k2,k3,k4,k5,k6,k7,k8,k9,k10,k11,k12,k13,k14,k15,k16,k17,k18,k19,k20,k21,k22,k23,k24,k25,k26,k27,k28,k29,k30,k31]+s1K [k0,k1,k2,k3,k4,k5,k6,k7,k8,k9,k10,k11,k12,k13,k14,k15,k16,k17,k18,k19,k20,k21,k22,k23,k24,k25,k26,k27,k28,k29,k30,k31]*18446744073709551616=leV [k16,k17,k18,k19,k20,k21,k22,k23,k24,k25,k26,k27,k28,k29,k30,k31]:=by
 simp only[s0K,s1K,leV,List.drop_succ_cons,List.drop_zero,List.take_succ_cons,List.take_zero]
 omega
structure A11a (N:Num) (key m:List Int) (o:Nat) (H T:Int):Prop where
 ho:o≤m.length
 i1:N.i 1=((o:Nat):Int)
 i2:N.i 2=((m.length-o:Nat):Int)
 a0:N.a 0=key
 a1:N.a 1=m
 r:∀j,j<9→N.i (3+j)=(digs 9 (RK key)).getD j 0
 d:∀j,j<9→N.i (12+j)=(digs 9 (H%pP)).getD j 0
 t:updH (RK key) (m.drop o).length H (m.drop o)=T
theorem A11a.agr {N N':Num}{key m:List Int}{o:Nat}{H T:Int}(h:Agr s11a.nx s11a.na N N')(hA:A11a N key m o H T):A11a N' key m o H T:=by
 have e:∀x,x<21→N'.i x=N.i x:=h.i
 have ea:∀x,x<2→N'.a x=N.a x:=h.a
 exact ⟨hA.ho,(e 1 (by decide)).trans hA.i1,(e 2 (by decide)).trans hA.i2,(ea 0 (by decide)).trans hA.a0,(ea 1 (by decide)).trans hA.a1,fun j hj=>(e _ (by omega)).trans (hA.r j hj),fun j hj=>(e _ (by omega)).trans (hA.d j hj),hA.t⟩
structure A11b (N:Num) (key:List Int) (T:Int):Prop where
 a0:N.a 0=key
 d:∀j,j<9→N.i (10+j)=(digs 9 (T%pP)).getD j 0
theorem A11b.agr {N N':Num}{key:List Int}{T:Int}(h:Agr s11b.nx s11b.na N N')(hA:A11b N key T):A11b N' key T:=by
 have e:∀x,x<19→N'.i x=N.i x:=h.i
 exact ⟨(h.a 0 (by decide)).trans hA.a0,fun j hj=>(e _ (by omega)).trans (hA.d j hj)⟩
theorem mn_nat {a b:Nat}:(if (a:Int)<(b:Int) then (a:Int) else (b:Int))=((min a b:Nat):Int):=by split <;> omega
end Go.Proofs.Ytlcljhlijmombaa
