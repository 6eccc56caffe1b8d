/- spec.digits, spec.lowered do as their contracts say. -/
import Derived.Test.YtlcljhlijmombaaYa19
namespace Go.Proofs.Ytlcljhlijmombaa
open Go.Sy
def P18 (_:List Int)(ls:List (List Int)):Prop :=
 match ls with
 | [b]=>Bytes b∧1≤b.length∧b.length≤16
 | _=>False
def I18 (_:List Int)(ls:List (List Int))(j:Nat):Int :=
 match ls with
 | [b]=>(digs 9 (chunkN b)).getD j 0
 | _=>0
theorem dg1 {x a b c d:Int}(hx:0≤x∧x<256)(ha:a=x)(hb:b=IntKind.u64.wrap a)(hc:c=iop .shl .u64 b 0)(hd:d=iop .add .u64 0 c):d=x:=by
 subst ha
 rw[IntKind.wrap_u64,Int.emod_eq_of_lt hx.1 (by omega)] at hb
 rw[show (0:Int)=((0:Nat):Int) from rfl,shl_kst (k:= .u64) (c:=0) (by decide),IntKind.wrap_u64,hb] at hc
 rw[u64_add] at hd
 simp only[Int.pow_zero,Int.mul_one] at hc
 omega
theorem dg2 {x y d a b c e:Int}(hd:d=x)(hx:0≤x∧x<256)(hy:0≤y∧y<256)(ha:a=y)(hb:b=IntKind.u64.wrap a)(hc:c=iop .shl .u64 b 8)(he:e=iop .add .u64 d c):e=x+256*y:=by
 subst ha hd
 rw[IntKind.wrap_u64,Int.emod_eq_of_lt hy.1 (by omega)] at hb
 rw[show (8:Int)=((8:Nat):Int) from rfl,shl_kst (k:= .u64) (c:=8) (by decide),IntKind.wrap_u64,hb] at hc
 rw[u64_add] at he
 have:(2:Int)^8=256:=by decide
 rw[this] at hc
 omega
theorem digs9 {l:List Int}{V:Int}(h:∀d∈l,0≤d∧d<65536)(hl:l.length=9)(hv:valD l=V):l=digs 9 V:=by
 rw[←hv,←hl];exact (digs_val h).symm
set_option maxHeartbeats 1000000 in
theorem spec18_1 {F:Fns}(hp:F.p 18=P18)(hi:F.i 18=I18):CSpec Try.prog F 18 (ct18n 1):=by
 refine straight (callT_ok (tab:=[]) trivial) Try.func18 (by kernel_rfl) (by kernel_rfl) (by kernel_rfl) run18_1 (by kernel_rfl) fun is ls N hs hp' hag hf hd=> ?_
 obtain rfl:=Shape.noInt rfl hs
 match ls,hs with
 | [b],hs =>
 obtain ⟨hlb,-⟩:=hs
 have hP:P18 [] [b]:=by rw[←hp];exact hp'
 obtain ⟨hB,-,-⟩:=hP
 match b,hlb with
 | [b0],_ =>
 have ea:N.a 0=[b0]:=hag.a 0 (by decide)
 simp only[Bytes,List.forall_mem_cons] at hB
 obtain ⟨g0,-⟩:=hB
 simp only[List.forall_mem_cons,Df.sat,Nd.ev,Ad.ev,Ar.ev,List.map_cons,List.map_nil] at hd
 obtain ⟨q7,q6,q5,q4,q3,q2,q1,q0,w3,w2,w1,-⟩:=hd
 have t3:N.a 3=[b0,1]:=by rw[w3,w1,w2,ea];rfl
 rw[t3] at q4 q0
 have d0:N.i 3=b0:=dg1 g0 q0 q1 q2 q3
 have f0:N.i 7=b0+256*1:=dg2 d0 g0 (show (0:Int)≤1∧(1:Int)<256 by decide) q4 q5 q6 q7
 have hm:([.var 7,.kst 0,.kst 0,.kst 0,.kst 0,.kst 0,.kst 0,.kst 0,.kst 0]:List Ar).map (·.ev N)=digs 9 (chunkN [b0]):=by
  simp only[List.map_cons,List.map_nil,Ar.ev,f0]
  refine digs9 ?_ rfl ?_
  ·simp only[List.forall_mem_cons]
   exact ⟨by omega,by omega,by omega,by omega,by omega,by omega,by omega,by omega,by omega,nofun⟩
  ·simp only[valD,chunkN,leV,List.length_cons,List.length_nil]
   rw[show (256:Int)^(0+1)=256 from by decide]
   omega
 refine ⟨?_,⟨?_,trivial,trivial⟩,nofun⟩
 ·simp only[List.forall_mem_cons,Ob.holds,Ar.ev,t3,w1,ea,List.length_cons,List.length_nil,List.drop_zero,List.length_take,Int.toNat_zero]
  exact ⟨(by decide),(by decide),(by decide),(by decide),nofun⟩
 ·intro p hp2
  show _=F.i 18 _ _ _
  rw[hi]
  exact zipJ_of' hm p hp2
set_option maxHeartbeats 1000000 in
theorem spec18_2 {F:Fns}(hp:F.p 18=P18)(hi:F.i 18=I18):CSpec Try.prog F 18 (ct18n 2):=by
 refine straight (callT_ok (tab:=[]) trivial) Try.func18 (by kernel_rfl) (by kernel_rfl) (by kernel_rfl) run18_2 (by kernel_rfl) fun is ls N hs hp' hag hf hd=> ?_
 obtain rfl:=Shape.noInt rfl hs
 match ls,hs with
 | [b],hs =>
 obtain ⟨hlb,-⟩:=hs
 have hP:P18 [] [b]:=by rw[←hp];exact hp'
 obtain ⟨hB,-,-⟩:=hP
 match b,hlb with
 | [b0,b1],_ =>
 have ea:N.a 0=[b0,b1]:=hag.a 0 (by decide)
 simp only[Bytes,List.forall_mem_cons] at hB
 obtain ⟨g0,g1,-⟩:=hB
 simp only[List.forall_mem_cons,Df.sat,Nd.ev,Ad.ev,Ar.ev,List.map_cons,List.map_nil] at hd
 obtain ⟨q11,q10,q9,q8,q7,q6,q5,q4,q3,q2,q1,q0,w3,w2,w1,-⟩:=hd
 have t3:N.a 3=[b0,b1,1]:=by rw[w3,w1,w2,ea];rfl
 rw[t3] at q8 q4 q0
 have d0:N.i 3=b0:=dg1 g0 q0 q1 q2 q3
 have f0:N.i 7=b0+256*b1:=dg2 d0 g0 g1 q4 q5 q6 q7
 have d1:N.i 11=1:=dg1 (show (0:Int)≤1∧(1:Int)<256 by decide) q8 q9 q10 q11
 have hm:([.var 7,.var 11,.kst 0,.kst 0,.kst 0,.kst 0,.kst 0,.kst 0,.kst 0]:List Ar).map (·.ev N)=digs 9 (chunkN [b0,b1]):=by
  simp only[List.map_cons,List.map_nil,Ar.ev,f0,d1]
  refine digs9 ?_ rfl ?_
  ·simp only[List.forall_mem_cons]
   exact ⟨by omega,by omega,by omega,by omega,by omega,by omega,by omega,by omega,by omega,nofun⟩
  ·simp only[valD,chunkN,leV,List.length_cons,List.length_nil]
   rw[show (256:Int)^(0+1+1)=65536 from by decide]
   omega
 refine ⟨?_,⟨?_,trivial,trivial⟩,nofun⟩
 ·simp only[List.forall_mem_cons,Ob.holds,Ar.ev,t3,w1,ea,List.length_cons,List.length_nil,List.drop_zero,List.length_take,Int.toNat_zero]
  exact ⟨(by decide),(by decide),(by decide),(by decide),(by decide),nofun⟩
 ·intro p hp2
  show _=F.i 18 _ _ _
  rw[hi]
  exact zipJ_of' hm p hp2
set_option maxHeartbeats 1000000 in
theorem spec18_3 {F:Fns}(hp:F.p 18=P18)(hi:F.i 18=I18):CSpec Try.prog F 18 (ct18n 3):=by
 refine straight (callT_ok (tab:=[]) trivial) Try.func18 (by kernel_rfl) (by kernel_rfl) (by kernel_rfl) run18_3 (by kernel_rfl) fun is ls N hs hp' hag hf hd=> ?_
 obtain rfl:=Shape.noInt rfl hs
 match ls,hs with
 | [b],hs =>
 obtain ⟨hlb,-⟩:=hs
 have hP:P18 [] [b]:=by rw[←hp];exact hp'
 obtain ⟨hB,-,-⟩:=hP
 match b,hlb with
 | [b0,b1,b2],_ =>
 have ea:N.a 0=[b0,b1,b2]:=hag.a 0 (by decide)
 simp only[Bytes,List.forall_mem_cons] at hB
 obtain ⟨g0,g1,g2,-⟩:=hB
 simp only[List.forall_mem_cons,Df.sat,Nd.ev,Ad.ev,Ar.ev,List.map_cons,List.map_nil] at hd
 obtain ⟨q15,q14,q13,q12,q11,q10,q9,q8,q7,q6,q5,q4,q3,q2,q1,q0,w3,w2,w1,-⟩:=hd
 have t3:N.a 3=[b0,b1,b2,1]:=by rw[w3,w1,w2,ea];rfl
 rw[t3] at q12 q8 q4 q0
 have d0:N.i 3=b0:=dg1 g0 q0 q1 q2 q3
 have f0:N.i 7=b0+256*b1:=dg2 d0 g0 g1 q4 q5 q6 q7
 have d1:N.i 11=b2:=dg1 g2 q8 q9 q10 q11
 have f1:N.i 15=b2+256*1:=dg2 d1 g2 (show (0:Int)≤1∧(1:Int)<256 by decide) q12 q13 q14 q15
 have hm:([.var 7,.var 15,.kst 0,.kst 0,.kst 0,.kst 0,.kst 0,.kst 0,.kst 0]:List Ar).map (·.ev N)=digs 9 (chunkN [b0,b1,b2]):=by
  simp only[List.map_cons,List.map_nil,Ar.ev,f0,f1]
  refine digs9 ?_ rfl ?_
  ·simp only[List.forall_mem_cons]
   exact ⟨by omega,by omega,by omega,by omega,by omega,by omega,by omega,by omega,by omega,nofun⟩
  ·simp only[valD,chunkN,leV,List.length_cons,List.length_nil]
   rw[show (256:Int)^(0+1+1+1)=16777216 from by decide]
   omega
 refine ⟨?_,⟨?_,trivial,trivial⟩,nofun⟩
 ·simp only[List.forall_mem_cons,Ob.holds,Ar.ev,t3,w1,ea,List.length_cons,List.length_nil,List.drop_zero,List.length_take,Int.toNat_zero]
  exact ⟨(by decide),(by decide),(by decide),(by decide),(by decide),(by decide),nofun⟩
 ·intro p hp2
  show _=F.i 18 _ _ _
  rw[hi]
  exact zipJ_of' hm p hp2
set_option maxHeartbeats 1000000 in
theorem spec18_4 {F:Fns}(hp:F.p 18=P18)(hi:F.i 18=I18):CSpec Try.prog F 18 (ct18n 4):=by
 refine straight (callT_ok (tab:=[]) trivial) Try.func18 (by kernel_rfl) (by kernel_rfl) (by kernel_rfl) run18_4 (by kernel_rfl) fun is ls N hs hp' hag hf hd=> ?_
 obtain rfl:=Shape.noInt rfl hs
 match ls,hs with
 | [b],hs =>
 obtain ⟨hlb,-⟩:=hs
 have hP:P18 [] [b]:=by rw[←hp];exact hp'
 obtain ⟨hB,-,-⟩:=hP
 match b,hlb with
 | [b0,b1,b2,b3],_ =>
 have ea:N.a 0=[b0,b1,b2,b3]:=hag.a 0 (by decide)
 simp only[Bytes,List.forall_mem_cons] at hB
 obtain ⟨g0,g1,g2,g3,-⟩:=hB
 simp only[List.forall_mem_cons,Df.sat,Nd.ev,Ad.ev,Ar.ev,List.map_cons,List.map_nil] at hd
 obtain ⟨q19,q18,q17,q16,q15,q14,q13,q12,q11,q10,q9,q8,q7,q6,q5,q4,q3,q2,q1,q0,w3,w2,w1,-⟩:=hd
 have t3:N.a 3=[b0,b1,b2,b3,1]:=by rw[w3,w1,w2,ea];rfl
 rw[t3] at q16 q12 q8 q4 q0
 have d0:N.i 3=b0:=dg1 g0 q0 q1 q2 q3
 have f0:N.i 7=b0+256*b1:=dg2 d0 g0 g1 q4 q5 q6 q7
 have d1:N.i 11=b2:=dg1 g2 q8 q9 q10 q11
 have f1:N.i 15=b2+256*b3:=dg2 d1 g2 g3 q12 q13 q14 q15
 have d2:N.i 19=1:=dg1 (show (0:Int)≤1∧(1:Int)<256 by decide) q16 q17 q18 q19
 have hm:([.var 7,.var 15,.var 19,.kst 0,.kst 0,.kst 0,.kst 0,.kst 0,.kst 0]:List Ar).map (·.ev N)=digs 9 (chunkN [b0,b1,b2,b3]):=by
  simp only[List.map_cons,List.map_nil,Ar.ev,f0,f1,d2]
  refine digs9 ?_ rfl ?_
  ·simp only[List.forall_mem_cons]
   exact ⟨by omega,by omega,by omega,by omega,by omega,by omega,by omega,by omega,by omega,nofun⟩
  ·simp only[valD,chunkN,leV,List.length_cons,List.length_nil]
   rw[show (256:Int)^(0+1+1+1+1)=4294967296 from by decide]
   omega
 refine ⟨?_,⟨?_,trivial,trivial⟩,nofun⟩
 ·simp only[List.forall_mem_cons,Ob.holds,Ar.ev,t3,w1,ea,List.length_cons,List.length_nil,List.drop_zero,List.length_take,Int.toNat_zero]
  exact ⟨(by decide),(by decide),(by decide),(by decide),(by decide),(by decide),(by decide),nofun⟩
 ·intro p hp2
  show _=F.i 18 _ _ _
  rw[hi]
  exact zipJ_of' hm p hp2
set_option maxHeartbeats 1000000 in
theorem spec18_5 {F:Fns}(hp:F.p 18=P18)(hi:F.i 18=I18):CSpec Try.prog F 18 (ct18n 5):=by
 refine straight (callT_ok (tab:=[]) trivial) Try.func18 (by kernel_rfl) (by kernel_rfl) (by kernel_rfl) run18_5 (by kernel_rfl) fun is ls N hs hp' hag hf hd=> ?_
 obtain rfl:=Shape.noInt rfl hs
 match ls,hs with
 | [b],hs =>
 obtain ⟨hlb,-⟩:=hs
 have hP:P18 [] [b]:=by rw[←hp];exact hp'
 obtain ⟨hB,-,-⟩:=hP
 match b,hlb with
 | [b0,b1,b2,b3,b4],_ =>
 have ea:N.a 0=[b0,b1,b2,b3,b4]:=hag.a 0 (by decide)
 simp only[Bytes,List.forall_mem_cons] at hB
 obtain ⟨g0,g1,g2,g3,g4,-⟩:=hB
 simp only[List.forall_mem_cons,Df.sat,Nd.ev,Ad.ev,Ar.ev,List.map_cons,List.map_nil] at hd
 obtain ⟨q23,q22,q21,q20,q19,q18,q17,q16,q15,q14,q13,q12,q11,q10,q9,q8,q7,q6,q5,q4,q3,q2,q1,q0,w3,w2,w1,-⟩:=hd
 have t3:N.a 3=[b0,b1,b2,b3,b4,1]:=by rw[w3,w1,w2,ea];rfl
 rw[t3] at q20 q16 q12 q8 q4 q0
 have d0:N.i 3=b0:=dg1 g0 q0 q1 q2 q3
 have f0:N.i 7=b0+256*b1:=dg2 d0 g0 g1 q4 q5 q6 q7
 have d1:N.i 11=b2:=dg1 g2 q8 q9 q10 q11
 have f1:N.i 15=b2+256*b3:=dg2 d1 g2 g3 q12 q13 q14 q15
 have d2:N.i 19=b4:=dg1 g4 q16 q17 q18 q19
 have f2:N.i 23=b4+256*1:=dg2 d2 g4 (show (0:Int)≤1∧(1:Int)<256 by decide) q20 q21 q22 q23
 have hm:([.var 7,.var 15,.var 23,.kst 0,.kst 0,.kst 0,.kst 0,.kst 0,.kst 0]:List Ar).map (·.ev N)=digs 9 (chunkN [b0,b1,b2,b3,b4]):=by
  simp only[List.map_cons,List.map_nil,Ar.ev,f0,f1,f2]
  refine digs9 ?_ rfl ?_
  ·simp only[List.forall_mem_cons]
   exact ⟨by omega,by omega,by omega,by omega,by omega,by omega,by omega,by omega,by omega,nofun⟩
  ·simp only[valD,chunkN,leV,List.length_cons,List.length_nil]
   rw[show (256:Int)^(0+1+1+1+1+1)=1099511627776 from by decide]
   omega
 refine ⟨?_,⟨?_,trivial,trivial⟩,nofun⟩
 ·simp only[List.forall_mem_cons,Ob.holds,Ar.ev,t3,w1,ea,List.length_cons,List.length_nil,List.drop_zero,List.length_take,Int.toNat_zero]
  exact ⟨(by decide),(by decide),(by decide),(by decide),(by decide),(by decide),(by decide),(by decide),nofun⟩
 ·intro p hp2
  show _=F.i 18 _ _ _
  rw[hi]
  exact zipJ_of' hm p hp2
set_option maxHeartbeats 1000000 in
theorem spec18_6 {F:Fns}(hp:F.p 18=P18)(hi:F.i 18=I18):CSpec Try.prog F 18 (ct18n 6):=by
 refine straight (callT_ok (tab:=[]) trivial) Try.func18 (by kernel_rfl) (by kernel_rfl) (by kernel_rfl) run18_6 (by kernel_rfl) fun is ls N hs hp' hag hf hd=> ?_
 obtain rfl:=Shape.noInt rfl hs
 match ls,hs with
 | [b],hs =>
 obtain ⟨hlb,-⟩:=hs
 have hP:P18 [] [b]:=by rw[←hp];exact hp'
 obtain ⟨hB,-,-⟩:=hP
 match b,hlb with
 | [b0,b1,b2,b3,b4,b5],_ =>
 have ea:N.a 0=[b0,b1,b2,b3,b4,b5]:=hag.a 0 (by decide)
 simp only[Bytes,List.forall_mem_cons] at hB
 obtain ⟨g0,g1,g2,g3,g4,g5,-⟩:=hB
 simp only[List.forall_mem_cons,Df.sat,Nd.ev,Ad.ev,Ar.ev,List.map_cons,List.map_nil] at hd
 obtain ⟨q27,q26,q25,q24,q23,q22,q21,q20,q19,q18,q17,q16,q15,q14,q13,q12,q11,q10,q9,q8,q7,q6,q5,q4,q3,q2,q1,q0,w3,w2,w1,-⟩:=hd
 have t3:N.a 3=[b0,b1,b2,b3,b4,b5,1]:=by rw[w3,w1,w2,ea];rfl
 rw[t3] at q24 q20 q16 q12 q8 q4 q0
 have d0:N.i 3=b0:=dg1 g0 q0 q1 q2 q3
 have f0:N.i 7=b0+256*b1:=dg2 d0 g0 g1 q4 q5 q6 q7
 have d1:N.i 11=b2:=dg1 g2 q8 q9 q10 q11
 have f1:N.i 15=b2+256*b3:=dg2 d1 g2 g3 q12 q13 q14 q15
 have d2:N.i 19=b4:=dg1 g4 q16 q17 q18 q19
 have f2:N.i 23=b4+256*b5:=dg2 d2 g4 g5 q20 q21 q22 q23
 have d3:N.i 27=1:=dg1 (show (0:Int)≤1∧(1:Int)<256 by decide) q24 q25 q26 q27
 have hm:([.var 7,.var 15,.var 23,.var 27,.kst 0,.kst 0,.kst 0,.kst 0,.kst 0]:List Ar).map (·.ev N)=digs 9 (chunkN [b0,b1,b2,b3,b4,b5]):=by
  simp only[List.map_cons,List.map_nil,Ar.ev,f0,f1,f2,d3]
  refine digs9 ?_ rfl ?_
  ·simp only[List.forall_mem_cons]
   exact ⟨by omega,by omega,by omega,by omega,by omega,by omega,by omega,by omega,by omega,nofun⟩
  ·simp only[valD,chunkN,leV,List.length_cons,List.length_nil]
   rw[show (256:Int)^(0+1+1+1+1+1+1)=281474976710656 from by decide]
   omega
 refine ⟨?_,⟨?_,trivial,trivial⟩,nofun⟩
 ·simp only[List.forall_mem_cons,Ob.holds,Ar.ev,t3,w1,ea,List.length_cons,List.length_nil,List.drop_zero,List.length_take,Int.toNat_zero]
  exact ⟨(by decide),(by decide),(by decide),(by decide),(by decide),(by decide),(by decide),(by decide),(by decide),nofun⟩
 ·intro p hp2
  show _=F.i 18 _ _ _
  rw[hi]
  exact zipJ_of' hm p hp2
set_option maxHeartbeats 1000000 in
theorem spec18_7 {F:Fns}(hp:F.p 18=P18)(hi:F.i 18=I18):CSpec Try.prog F 18 (ct18n 7):=by
 refine straight (callT_ok (tab:=[]) trivial) Try.func18 (by kernel_rfl) (by kernel_rfl) (by kernel_rfl) run18_7 (by kernel_rfl) fun is ls N hs hp' hag hf hd=> ?_
 obtain rfl:=Shape.noInt rfl hs
 match ls,hs with
 | [b],hs =>
 obtain ⟨hlb,-⟩:=hs
 have hP:P18 [] [b]:=by rw[←hp];exact hp'
 obtain ⟨hB,-,-⟩:=hP
 match b,hlb with
 | [b0,b1,b2,b3,b4,b5,b6],_ =>
 have ea:N.a 0=[b0,b1,b2,b3,b4,b5,b6]:=hag.a 0 (by decide)
 simp only[Bytes,List.forall_mem_cons] at hB
 obtain ⟨g0,g1,g2,g3,g4,g5,g6,-⟩:=hB
 simp only[List.forall_mem_cons,Df.sat,Nd.ev,Ad.ev,Ar.ev,List.map_cons,List.map_nil] at hd
 obtain ⟨q31,q30,q29,q28,q27,q26,q25,q24,q23,q22,q21,q20,q19,q18,q17,q16,q15,q14,q13,q12,q11,q10,q9,q8,q7,q6,q5,q4,q3,q2,q1,q0,w3,w2,w1,-⟩:=hd
 have t3:N.a 3=[b0,b1,b2,b3,b4,b5,b6,1]:=by rw[w3,w1,w2,ea];rfl
 rw[t3] at q28 q24 q20 q16 q12 q8 q4 q0
 have d0:N.i 3=b0:=dg1 g0 q0 q1 q2 q3
 have f0:N.i 7=b0+256*b1:=dg2 d0 g0 g1 q4 q5 q6 q7
 have d1:N.i 11=b2:=dg1 g2 q8 q9 q10 q11
 have f1:N.i 15=b2+256*b3:=dg2 d1 g2 g3 q12 q13 q14 q15
 have d2:N.i 19=b4:=dg1 g4 q16 q17 q18 q19
 have f2:N.i 23=b4+256*b5:=dg2 d2 g4 g5 q20 q21 q22 q23
 have d3:N.i 27=b6:=dg1 g6 q24 q25 q26 q27
 have f3:N.i 31=b6+256*1:=dg2 d3 g6 (show (0:Int)≤1∧(1:Int)<256 by decide) q28 q29 q30 q31
 have hm:([.var 7,.var 15,.var 23,.var 31,.kst 0,.kst 0,.kst 0,.kst 0,.kst 0]:List Ar).map (·.ev N)=digs 9 (chunkN [b0,b1,b2,b3,b4,b5,b6]):=by
  simp only[List.map_cons,List.map_nil,Ar.ev,f0,f1,f2,f3]
  refine digs9 ?_ rfl ?_
  ·simp only[List.forall_mem_cons]
   exact ⟨by omega,by omega,by omega,by omega,by omega,by omega,by omega,by omega,by omega,nofun⟩
  ·simp only[valD,chunkN,leV,List.length_cons,List.length_nil]
   rw[show (256:Int)^(0+1+1+1+1+1+1+1)=72057594037927936 from by decide]
   omega
 refine ⟨?_,⟨?_,trivial,trivial⟩,nofun⟩
 ·simp only[List.forall_mem_cons,Ob.holds,Ar.ev,t3,w1,ea,List.length_cons,List.length_nil,List.drop_zero,List.length_take,Int.toNat_zero]
  exact ⟨(by decide),(by decide),(by decide),(by decide),(by decide),(by decide),(by decide),(by decide),(by decide),(by decide),nofun⟩
 ·intro p hp2
  show _=F.i 18 _ _ _
  rw[hi]
  exact zipJ_of' hm p hp2
set_option maxHeartbeats 1000000 in
theorem spec18_8 {F:Fns}(hp:F.p 18=P18)(hi:F.i 18=I18):CSpec Try.prog F 18 (ct18n 8):=by
 refine straight (callT_ok (tab:=[]) trivial) Try.func18 (by kernel_rfl) (by kernel_rfl) (by kernel_rfl) run18_8 (by kernel_rfl) fun is ls N hs hp' hag hf hd=> ?_
 obtain rfl:=Shape.noInt rfl hs
 match ls,hs with
 | [b],hs =>
 obtain ⟨hlb,-⟩:=hs
 have hP:P18 [] [b]:=by rw[←hp];exact hp'
 obtain ⟨hB,-,-⟩:=hP
 match b,hlb with
 | [b0,b1,b2,b3,b4,b5,b6,b7],_ =>
 have ea:N.a 0=[b0,b1,b2,b3,b4,b5,b6,b7]:=hag.a 0 (by decide)
 simp only[Bytes,List.forall_mem_cons] at hB
 obtain ⟨g0,g1,g2,g3,g4,g5,g6,g7,-⟩:=hB
 simp only[List.forall_mem_cons,Df.sat,Nd.ev,Ad.ev,Ar.ev,List.map_cons,List.map_nil] at hd
 obtain ⟨q35,q34,q33,q32,q31,q30,q29,q28,q27,q26,q25,q24,q23,q22,q21,q20,q19,q18,q17,q16,q15,q14,q13,q12,q11,q10,q9,q8,q7,q6,q5,q4,q3,q2,q1,q0,w3,w2,w1,-⟩:=hd
 have t3:N.a 3=[b0,b1,b2,b3,b4,b5,b6,b7,1]:=by rw[w3,w1,w2,ea];rfl
 rw[t3] at q32 q28 q24 q20 q16 q12 q8 q4 q0
 have d0:N.i 3=b0:=dg1 g0 q0 q1 q2 q3
 have f0:N.i 7=b0+256*b1:=dg2 d0 g0 g1 q4 q5 q6 q7
 have d1:N.i 11=b2:=dg1 g2 q8 q9 q10 q11
 have f1:N.i 15=b2+256*b3:=dg2 d1 g2 g3 q12 q13 q14 q15
 have d2:N.i 19=b4:=dg1 g4 q16 q17 q18 q19
 have f2:N.i 23=b4+256*b5:=dg2 d2 g4 g5 q20 q21 q22 q23
 have d3:N.i 27=b6:=dg1 g6 q24 q25 q26 q27
 have f3:N.i 31=b6+256*b7:=dg2 d3 g6 g7 q28 q29 q30 q31
 have d4:N.i 35=1:=dg1 (show (0:Int)≤1∧(1:Int)<256 by decide) q32 q33 q34 q35
 have hm:([.var 7,.var 15,.var 23,.var 31,.var 35,.kst 0,.kst 0,.kst 0,.kst 0]:List Ar).map (·.ev N)=digs 9 (chunkN [b0,b1,b2,b3,b4,b5,b6,b7]):=by
  simp only[List.map_cons,List.map_nil,Ar.ev,f0,f1,f2,f3,d4]
  refine digs9 ?_ rfl ?_
  ·simp only[List.forall_mem_cons]
   exact ⟨by omega,by omega,by omega,by omega,by omega,by omega,by omega,by omega,by omega,nofun⟩
  ·simp only[valD,chunkN,leV,List.length_cons,List.length_nil]
   rw[show (256:Int)^(0+1+1+1+1+1+1+1+1)=18446744073709551616 from by decide]
   omega
 refine ⟨?_,⟨?_,trivial,trivial⟩,nofun⟩
 ·simp only[List.forall_mem_cons,Ob.holds,Ar.ev,t3,w1,ea,List.length_cons,List.length_nil,List.drop_zero,List.length_take,Int.toNat_zero]
  exact ⟨(by decide),(by decide),(by decide),(by decide),(by decide),(by decide),(by decide),(by decide),(by decide),(by decide),(by decide),nofun⟩
 ·intro p hp2
  show _=F.i 18 _ _ _
  rw[hi]
  exact zipJ_of' hm p hp2
set_option maxHeartbeats 1000000 in
theorem spec18_9 {F:Fns}(hp:F.p 18=P18)(hi:F.i 18=I18):CSpec Try.prog F 18 (ct18n 9):=by
 refine straight (callT_ok (tab:=[]) trivial) Try.func18 (by kernel_rfl) (by kernel_rfl) (by kernel_rfl) run18_9 (by kernel_rfl) fun is ls N hs hp' hag hf hd=> ?_
 obtain rfl:=Shape.noInt rfl hs
 match ls,hs with
 | [b],hs =>
 obtain ⟨hlb,-⟩:=hs
 have hP:P18 [] [b]:=by rw[←hp];exact hp'
 obtain ⟨hB,-,-⟩:=hP
 match b,hlb with
 | [b0,b1,b2,b3,b4,b5,b6,b7,b8],_ =>
 have ea:N.a 0=[b0,b1,b2,b3,b4,b5,b6,b7,b8]:=hag.a 0 (by decide)
 simp only[Bytes,List.forall_mem_cons] at hB
 obtain ⟨g0,g1,g2,g3,g4,g5,g6,g7,g8,-⟩:=hB
 simp only[List.forall_mem_cons,Df.sat,Nd.ev,Ad.ev,Ar.ev,List.map_cons,List.map_nil] at hd
 obtain ⟨q39,q38,q37,q36,q35,q34,q33,q32,q31,q30,q29,q28,q27,q26,q25,q24,q23,q22,q21,q20,q19,q18,q17,q16,q15,q14,q13,q12,q11,q10,q9,q8,q7,q6,q5,q4,q3,q2,q1,q0,w3,w2,w1,-⟩:=hd
 have t3:N.a 3=[b0,b1,b2,b3,b4,b5,b6,b7,b8,1]:=by rw[w3,w1,w2,ea];rfl
 rw[t3] at q36 q32 q28 q24 q20 q16 q12 q8 q4 q0
 have d0:N.i 3=b0:=dg1 g0 q0 q1 q2 q3
 have f0:N.i 7=b0+256*b1:=dg2 d0 g0 g1 q4 q5 q6 q7
 have d1:N.i 11=b2:=dg1 g2 q8 q9 q10 q11
 have f1:N.i 15=b2+256*b3:=dg2 d1 g2 g3 q12 q13 q14 q15
 have d2:N.i 19=b4:=dg1 g4 q16 q17 q18 q19
 have f2:N.i 23=b4+256*b5:=dg2 d2 g4 g5 q20 q21 q22 q23
 have d3:N.i 27=b6:=dg1 g6 q24 q25 q26 q27
 have f3:N.i 31=b6+256*b7:=dg2 d3 g6 g7 q28 q29 q30 q31
 have d4:N.i 35=b8:=dg1 g8 q32 q33 q34 q35
 have f4:N.i 39=b8+256*1:=dg2 d4 g8 (show (0:Int)≤1∧(1:Int)<256 by decide) q36 q37 q38 q39
 have hm:([.var 7,.var 15,.var 23,.var 31,.var 39,.kst 0,.kst 0,.kst 0,.kst 0]:List Ar).map (·.ev N)=digs 9 (chunkN [b0,b1,b2,b3,b4,b5,b6,b7,b8]):=by
  simp only[List.map_cons,List.map_nil,Ar.ev,f0,f1,f2,f3,f4]
  refine digs9 ?_ rfl ?_
  ·simp only[List.forall_mem_cons]
   exact ⟨by omega,by omega,by omega,by omega,by omega,by omega,by omega,by omega,by omega,nofun⟩
  ·simp only[valD,chunkN,leV,List.length_cons,List.length_nil]
   rw[show (256:Int)^(0+1+1+1+1+1+1+1+1+1)=4722366482869645213696 from by decide]
   omega
 refine ⟨?_,⟨?_,trivial,trivial⟩,nofun⟩
 ·simp only[List.forall_mem_cons,Ob.holds,Ar.ev,t3,w1,ea,List.length_cons,List.length_nil,List.drop_zero,List.length_take,Int.toNat_zero]
  exact ⟨(by decide),(by decide),(by decide),(by decide),(by decide),(by decide),(by decide),(by decide),(by decide),(by decide),(by decide),(by decide),nofun⟩
 ·intro p hp2
  show _=F.i 18 _ _ _
  rw[hi]
  exact zipJ_of' hm p hp2
set_option maxHeartbeats 1000000 in
theorem spec18_10 {F:Fns}(hp:F.p 18=P18)(hi:F.i 18=I18):CSpec Try.prog F 18 (ct18n 10):=by
 refine straight (callT_ok (tab:=[]) trivial) Try.func18 (by kernel_rfl) (by kernel_rfl) (by kernel_rfl) run18_10 (by kernel_rfl) fun is ls N hs hp' hag hf hd=> ?_
 obtain rfl:=Shape.noInt rfl hs
 match ls,hs with
 | [b],hs =>
 obtain ⟨hlb,-⟩:=hs
 have hP:P18 [] [b]:=by rw[←hp];exact hp'
 obtain ⟨hB,-,-⟩:=hP
 match b,hlb with
 | [b0,b1,b2,b3,b4,b5,b6,b7,b8,b9],_ =>
 have ea:N.a 0=[b0,b1,b2,b3,b4,b5,b6,b7,b8,b9]:=hag.a 0 (by decide)
 simp only[Bytes,List.forall_mem_cons] at hB
 obtain ⟨g0,g1,g2,g3,g4,g5,g6,g7,g8,g9,-⟩:=hB
 simp only[List.forall_mem_cons,Df.sat,Nd.ev,Ad.ev,Ar.ev,List.map_cons,List.map_nil] at hd
 obtain ⟨q43,q42,q41,q40,q39,q38,q37,q36,q35,q34,q33,q32,q31,q30,q29,q28,q27,q26,q25,q24,q23,q22,q21,q20,q19,q18,q17,q16,q15,q14,q13,q12,q11,q10,q9,q8,q7,q6,q5,q4,q3,q2,q1,q0,w3,w2,w1,-⟩:=hd
 have t3:N.a 3=[b0,b1,b2,b3,b4,b5,b6,b7,b8,b9,1]:=by rw[w3,w1,w2,ea];rfl
 rw[t3] at q40 q36 q32 q28 q24 q20 q16 q12 q8 q4 q0
 have d0:N.i 3=b0:=dg1 g0 q0 q1 q2 q3
 have f0:N.i 7=b0+256*b1:=dg2 d0 g0 g1 q4 q5 q6 q7
 have d1:N.i 11=b2:=dg1 g2 q8 q9 q10 q11
 have f1:N.i 15=b2+256*b3:=dg2 d1 g2 g3 q12 q13 q14 q15
 have d2:N.i 19=b4:=dg1 g4 q16 q17 q18 q19
 have f2:N.i 23=b4+256*b5:=dg2 d2 g4 g5 q20 q21 q22 q23
 have d3:N.i 27=b6:=dg1 g6 q24 q25 q26 q27
 have f3:N.i 31=b6+256*b7:=dg2 d3 g6 g7 q28 q29 q30 q31
 have d4:N.i 35=b8:=dg1 g8 q32 q33 q34 q35
 have f4:N.i 39=b8+256*b9:=dg2 d4 g8 g9 q36 q37 q38 q39
 have d5:N.i 43=1:=dg1 (show (0:Int)≤1∧(1:Int)<256 by decide) q40 q41 q42 q43
 have hm:([.var 7,.var 15,.var 23,.var 31,.var 39,.var 43,.kst 0,.kst 0,.kst 0]:List Ar).map (·.ev N)=digs 9 (chunkN [b0,b1,b2,b3,b4,b5,b6,b7,b8,b9]):=by
  simp only[List.map_cons,List.map_nil,Ar.ev,f0,f1,f2,f3,f4,d5]
  refine digs9 ?_ rfl ?_
  ·simp only[List.forall_mem_cons]
   exact ⟨by omega,by omega,by omega,by omega,by omega,by omega,by omega,by omega,by omega,nofun⟩
  ·simp only[valD,chunkN,leV,List.length_cons,List.length_nil]
   rw[show (256:Int)^(0+1+1+1+1+1+1+1+1+1+1)=1208925819614629174706176 from by decide]
   omega
 refine ⟨?_,⟨?_,trivial,trivial⟩,nofun⟩
 ·simp only[List.forall_mem_cons,Ob.holds,Ar.ev,t3,w1,ea,List.length_cons,List.length_nil,List.drop_zero,List.length_take,Int.toNat_zero]
  exact ⟨(by decide),(by decide),(by decide),(by decide),(by decide),(by decide),(by decide),(by decide),(by decide),(by decide),(by decide),(by decide),(by decide),nofun⟩
 ·intro p hp2
  show _=F.i 18 _ _ _
  rw[hi]
  exact zipJ_of' hm p hp2
set_option maxHeartbeats 1000000 in
theorem spec18_11 {F:Fns}(hp:F.p 18=P18)(hi:F.i 18=I18):CSpec Try.prog F 18 (ct18n 11):=by
 refine straight (callT_ok (tab:=[]) trivial) Try.func18 (by kernel_rfl) (by kernel_rfl) (by kernel_rfl) run18_11 (by kernel_rfl) fun is ls N hs hp' hag hf hd=> ?_
 obtain rfl:=Shape.noInt rfl hs
 match ls,hs with
 | [b],hs =>
 obtain ⟨hlb,-⟩:=hs
 have hP:P18 [] [b]:=by rw[←hp];exact hp'
 obtain ⟨hB,-,-⟩:=hP
 match b,hlb with
 | [b0,b1,b2,b3,b4,b5,b6,b7,b8,b9,b10],_ =>
 have ea:N.a 0=[b0,b1,b2,b3,b4,b5,b6,b7,b8,b9,b10]:=hag.a 0 (by decide)
 simp only[Bytes,List.forall_mem_cons] at hB
 obtain ⟨g0,g1,g2,g3,g4,g5,g6,g7,g8,g9,g10,-⟩:=hB
 simp only[List.forall_mem_cons,Df.sat,Nd.ev,Ad.ev,Ar.ev,List.map_cons,List.map_nil] at hd
 obtain ⟨q47,q46,q45,q44,q43,q42,q41,q40,q39,q38,q37,q36,q35,q34,q33,q32,q31,q30,q29,q28,q27,q26,q25,q24,q23,q22,q21,q20,q19,q18,q17,q16,q15,q14,q13,q12,q11,q10,q9,q8,q7,q6,q5,q4,q3,q2,q1,q0,w3,w2,w1,-⟩:=hd
 have t3:N.a 3=[b0,b1,b2,b3,b4,b5,b6,b7,b8,b9,b10,1]:=by rw[w3,w1,w2,ea];rfl
 rw[t3] at q44 q40 q36 q32 q28 q24 q20 q16 q12 q8 q4 q0
 have d0:N.i 3=b0:=dg1 g0 q0 q1 q2 q3
 have f0:N.i 7=b0+256*b1:=dg2 d0 g0 g1 q4 q5 q6 q7
 have d1:N.i 11=b2:=dg1 g2 q8 q9 q10 q11
 have f1:N.i 15=b2+256*b3:=dg2 d1 g2 g3 q12 q13 q14 q15
 have d2:N.i 19=b4:=dg1 g4 q16 q17 q18 q19
 have f2:N.i 23=b4+256*b5:=dg2 d2 g4 g5 q20 q21 q22 q23
 have d3:N.i 27=b6:=dg1 g6 q24 q25 q26 q27
 have f3:N.i 31=b6+256*b7:=dg2 d3 g6 g7 q28 q29 q30 q31
 have d4:N.i 35=b8:=dg1 g8 q32 q33 q34 q35
 have f4:N.i 39=b8+256*b9:=dg2 d4 g8 g9 q36 q37 q38 q39
 have d5:N.i 43=b10:=dg1 g10 q40 q41 q42 q43
 have f5:N.i 47=b10+256*1:=dg2 d5 g10 (show (0:Int)≤1∧(1:Int)<256 by decide) q44 q45 q46 q47
 have hm:([.var 7,.var 15,.var 23,.var 31,.var 39,.var 47,.kst 0,.kst 0,.kst 0]:List Ar).map (·.ev N)=digs 9 (chunkN [b0,b1,b2,b3,b4,b5,b6,b7,b8,b9,b10]):=by
  simp only[List.map_cons,List.map_nil,Ar.ev,f0,f1,f2,f3,f4,f5]
  refine digs9 ?_ rfl ?_
  ·simp only[List.forall_mem_cons]
   exact ⟨by omega,by omega,by omega,by omega,by omega,by omega,by omega,by omega,by omega,nofun⟩
  ·simp only[valD,chunkN,leV,List.length_cons,List.length_nil]
   rw[show (256:Int)^(0+1+1+1+1+1+1+1+1+1+1+1)=309485009821345068724781056 from by decide]
   omega
 refine ⟨?_,⟨?_,trivial,trivial⟩,nofun⟩
 ·simp only[List.forall_mem_cons,Ob.holds,Ar.ev,t3,w1,ea,List.length_cons,List.length_nil,List.drop_zero,List.length_take,Int.toNat_zero]
  exact ⟨(by decide),(by decide),(by decide),(by decide),(by decide),(by decide),(by decide),(by decide),(by decide),(by decide),(by decide),(by decide),(by decide),(by decide),nofun⟩
 ·intro p hp2
  show _=F.i 18 _ _ _
  rw[hi]
  exact zipJ_of' hm p hp2
set_option maxHeartbeats 1000000 in
theorem spec18_12 {F:Fns}(hp:F.p 18=P18)(hi:F.i 18=I18):CSpec Try.prog F 18 (ct18n 12):=by
 refine straight (callT_ok (tab:=[]) trivial) Try.func18 (by kernel_rfl) (by kernel_rfl) (by kernel_rfl) run18_12 (by kernel_rfl) fun is ls N hs hp' hag hf hd=> ?_
 obtain rfl:=Shape.noInt rfl hs
 match ls,hs with
 | [b],hs =>
 obtain ⟨hlb,-⟩:=hs
 have hP:P18 [] [b]:=by rw[←hp];exact hp'
 obtain ⟨hB,-,-⟩:=hP
 match b,hlb with
 | [b0,b1,b2,b3,b4,b5,b6,b7,b8,b9,b10,b11],_ =>
 have ea:N.a 0=[b0,b1,b2,b3,b4,b5,b6,b7,b8,b9,b10,b11]:=hag.a 0 (by decide)
 simp only[Bytes,List.forall_mem_cons] at hB
 obtain ⟨g0,g1,g2,g3,g4,g5,g6,g7,g8,g9,g10,g11,-⟩:=hB
 simp only[List.forall_mem_cons,Df.sat,Nd.ev,Ad.ev,Ar.ev,List.map_cons,List.map_nil] at hd
 obtain ⟨q51,q50,q49,q48,q47,q46,q45,q44,q43,q42,q41,q40,q39,q38,q37,q36,q35,q34,q33,q32,q31,q30,q29,q28,q27,q26,q25,q24,q23,q22,q21,q20,q19,q18,q17,q16,q15,q14,q13,q12,q11,q10,q9,q8,q7,q6,q5,q4,q3,q2,q1,q0,w3,w2,w1,-⟩:=hd
 have t3:N.a 3=[b0,b1,b2,b3,b4,b5,b6,b7,b8,b9,b10,b11,1]:=by rw[w3,w1,w2,ea];rfl
 rw[t3] at q48 q44 q40 q36 q32 q28 q24 q20 q16 q12 q8 q4 q0
 have d0:N.i 3=b0:=dg1 g0 q0 q1 q2 q3
 have f0:N.i 7=b0+256*b1:=dg2 d0 g0 g1 q4 q5 q6 q7
 have d1:N.i 11=b2:=dg1 g2 q8 q9 q10 q11
 have f1:N.i 15=b2+256*b3:=dg2 d1 g2 g3 q12 q13 q14 q15
 have d2:N.i 19=b4:=dg1 g4 q16 q17 q18 q19
 have f2:N.i 23=b4+256*b5:=dg2 d2 g4 g5 q20 q21 q22 q23
 have d3:N.i 27=b6:=dg1 g6 q24 q25 q26 q27
 have f3:N.i 31=b6+256*b7:=dg2 d3 g6 g7 q28 q29 q30 q31
 have d4:N.i 35=b8:=dg1 g8 q32 q33 q34 q35
 have f4:N.i 39=b8+256*b9:=dg2 d4 g8 g9 q36 q37 q38 q39
 have d5:N.i 43=b10:=dg1 g10 q40 q41 q42 q43
 have f5:N.i 47=b10+256*b11:=dg2 d5 g10 g11 q44 q45 q46 q47
 have d6:N.i 51=1:=dg1 (show (0:Int)≤1∧(1:Int)<256 by decide) q48 q49 q50 q51
 have hm:([.var 7,.var 15,.var 23,.var 31,.var 39,.var 47,.var 51,.kst 0,.kst 0]:List Ar).map (·.ev N)=digs 9 (chunkN [b0,b1,b2,b3,b4,b5,b6,b7,b8,b9,b10,b11]):=by
  simp only[List.map_cons,List.map_nil,Ar.ev,f0,f1,f2,f3,f4,f5,d6]
  refine digs9 ?_ rfl ?_
  ·simp only[List.forall_mem_cons]
   exact ⟨by omega,by omega,by omega,by omega,by omega,by omega,by omega,by omega,by omega,nofun⟩
  ·simp only[valD,chunkN,leV,List.length_cons,List.length_nil]
   rw[show (256:Int)^(0+1+1+1+1+1+1+1+1+1+1+1+1)=79228162514264337593543950336 from by decide]
   omega
 refine ⟨?_,⟨?_,trivial,trivial⟩,nofun⟩
 ·simp only[List.forall_mem_cons,Ob.holds,Ar.ev,t3,w1,ea,List.length_cons,List.length_nil,List.drop_zero,List.length_take,Int.toNat_zero]
  exact ⟨(by decide),(by decide),(by decide),(by decide),(by decide),(by decide),(by decide),(by decide),(by decide),(by decide),(by decide),(by decide),(by decide),(by decide),(by decide),nofun⟩
 ·intro p hp2
  show _=F.i 18 _ _ _
  rw[hi]
  exact zipJ_of' hm p hp2
set_option maxHeartbeats 1000000 in
theorem spec18_13 {F:Fns}(hp:F.p 18=P18)(hi:F.i 18=I18):CSpec Try.prog F 18 (ct18n 13):=by
 refine straight (callT_ok (tab:=[]) trivial) Try.func18 (by kernel_rfl) (by kernel_rfl) (by kernel_rfl) run18_13 (by kernel_rfl) fun is ls N hs hp' hag hf hd=> ?_
 obtain rfl:=Shape.noInt rfl hs
 match ls,hs with
 | [b],hs =>
 obtain ⟨hlb,-⟩:=hs
 have hP:P18 [] [b]:=by rw[←hp];exact hp'
 obtain ⟨hB,-,-⟩:=hP
 match b,hlb with
 | [b0,b1,b2,b3,b4,b5,b6,b7,b8,b9,b10,b11,b12],_ =>
 have ea:N.a 0=[b0,b1,b2,b3,b4,b5,b6,b7,b8,b9,b10,b11,b12]:=hag.a 0 (by decide)
 simp only[Bytes,List.forall_mem_cons] at hB
 obtain ⟨g0,g1,g2,g3,g4,g5,g6,g7,g8,g9,g10,g11,g12,-⟩:=hB
 simp only[List.forall_mem_cons,Df.sat,Nd.ev,Ad.ev,Ar.ev,List.map_cons,List.map_nil] at hd
 obtain ⟨q55,q54,q53,q52,q51,q50,q49,q48,q47,q46,q45,q44,q43,q42,q41,q40,q39,q38,q37,q36,q35,q34,q33,q32,q31,q30,q29,q28,q27,q26,q25,q24,q23,q22,q21,q20,q19,q18,q17,q16,q15,q14,q13,q12,q11,q10,q9,q8,q7,q6,q5,q4,q3,q2,q1,q0,w3,w2,w1,-⟩:=hd
 have t3:N.a 3=[b0,b1,b2,b3,b4,b5,b6,b7,b8,b9,b10,b11,b12,1]:=by rw[w3,w1,w2,ea];rfl
 rw[t3] at q52 q48 q44 q40 q36 q32 q28 q24 q20 q16 q12 q8 q4 q0
 have d0:N.i 3=b0:=dg1 g0 q0 q1 q2 q3
 have f0:N.i 7=b0+256*b1:=dg2 d0 g0 g1 q4 q5 q6 q7
 have d1:N.i 11=b2:=dg1 g2 q8 q9 q10 q11
 have f1:N.i 15=b2+256*b3:=dg2 d1 g2 g3 q12 q13 q14 q15
 have d2:N.i 19=b4:=dg1 g4 q16 q17 q18 q19
 have f2:N.i 23=b4+256*b5:=dg2 d2 g4 g5 q20 q21 q22 q23
 have d3:N.i 27=b6:=dg1 g6 q24 q25 q26 q27
 have f3:N.i 31=b6+256*b7:=dg2 d3 g6 g7 q28 q29 q30 q31
 have d4:N.i 35=b8:=dg1 g8 q32 q33 q34 q35
 have f4:N.i 39=b8+256*b9:=dg2 d4 g8 g9 q36 q37 q38 q39
 have d5:N.i 43=b10:=dg1 g10 q40 q41 q42 q43
 have f5:N.i 47=b10+256*b11:=dg2 d5 g10 g11 q44 q45 q46 q47
 have d6:N.i 51=b12:=dg1 g12 q48 q49 q50 q51
 have f6:N.i 55=b12+256*1:=dg2 d6 g12 (show (0:Int)≤1∧(1:Int)<256 by decide) q52 q53 q54 q55
 have hm:([.var 7,.var 15,.var 23,.var 31,.var 39,.var 47,.var 55,.kst 0,.kst 0]:List Ar).map (·.ev N)=digs 9 (chunkN [b0,b1,b2,b3,b4,b5,b6,b7,b8,b9,b10,b11,b12]):=by
  simp only[List.map_cons,List.map_nil,Ar.ev,f0,f1,f2,f3,f4,f5,f6]
  refine digs9 ?_ rfl ?_
  ·simp only[List.forall_mem_cons]
   exact ⟨by omega,by omega,by omega,by omega,by omega,by omega,by omega,by omega,by omega,nofun⟩
  ·simp only[valD,chunkN,leV,List.length_cons,List.length_nil]
   rw[show (256:Int)^(0+1+1+1+1+1+1+1+1+1+1+1+1+1)=20282409603651670423947251286016 from by decide]
   omega
 refine ⟨?_,⟨?_,trivial,trivial⟩,nofun⟩
 ·simp only[List.forall_mem_cons,Ob.holds,Ar.ev,t3,w1,ea,List.length_cons,List.length_nil,List.drop_zero,List.length_take,Int.toNat_zero]
  exact ⟨(by decide),(by decide),(by decide),(by decide),(by decide),(by decide),(by decide),(by decide),(by decide),(by decide),(by decide),(by decide),(by decide),(by decide),(by decide),(by decide),nofun⟩
 ·intro p hp2
  show _=F.i 18 _ _ _
  rw[hi]
  exact zipJ_of' hm p hp2
set_option maxHeartbeats 1000000 in
theorem spec18_14 {F:Fns}(hp:F.p 18=P18)(hi:F.i 18=I18):CSpec Try.prog F 18 (ct18n 14):=by
 refine straight (callT_ok (tab:=[]) trivial) Try.func18 (by kernel_rfl) (by kernel_rfl) (by kernel_rfl) run18_14 (by kernel_rfl) fun is ls N hs hp' hag hf hd=> ?_
 obtain rfl:=Shape.noInt rfl hs
 match ls,hs with
 | [b],hs =>
 obtain ⟨hlb,-⟩:=hs
 have hP:P18 [] [b]:=by rw[←hp];exact hp'
 obtain ⟨hB,-,-⟩:=hP
 match b,hlb with
 | [b0,b1,b2,b3,b4,b5,b6,b7,b8,b9,b10,b11,b12,b13],_ =>
 have ea:N.a 0=[b0,b1,b2,b3,b4,b5,b6,b7,b8,b9,b10,b11,b12,b13]:=hag.a 0 (by decide)
 simp only[Bytes,List.forall_mem_cons] at hB
 obtain ⟨g0,g1,g2,g3,g4,g5,g6,g7,g8,g9,g10,g11,g12,g13,-⟩:=hB
 simp only[List.forall_mem_cons,Df.sat,Nd.ev,Ad.ev,Ar.ev,List.map_cons,List.map_nil] at hd
 obtain ⟨q59,q58,q57,q56,q55,q54,q53,q52,q51,q50,q49,q48,q47,q46,q45,q44,q43,q42,q41,q40,q39,q38,q37,q36,q35,q34,q33,q32,q31,q30,q29,q28,q27,q26,q25,q24,q23,q22,q21,q20,q19,q18,q17,q16,q15,q14,q13,q12,q11,q10,q9,q8,q7,q6,q5,q4,q3,q2,q1,q0,w3,w2,w1,-⟩:=hd
 have t3:N.a 3=[b0,b1,b2,b3,b4,b5,b6,b7,b8,b9,b10,b11,b12,b13,1]:=by rw[w3,w1,w2,ea];rfl
 rw[t3] at q56 q52 q48 q44 q40 q36 q32 q28 q24 q20 q16 q12 q8 q4 q0
 have d0:N.i 3=b0:=dg1 g0 q0 q1 q2 q3
 have f0:N.i 7=b0+256*b1:=dg2 d0 g0 g1 q4 q5 q6 q7
 have d1:N.i 11=b2:=dg1 g2 q8 q9 q10 q11
 have f1:N.i 15=b2+256*b3:=dg2 d1 g2 g3 q12 q13 q14 q15
 have d2:N.i 19=b4:=dg1 g4 q16 q17 q18 q19
 have f2:N.i 23=b4+256*b5:=dg2 d2 g4 g5 q20 q21 q22 q23
 have d3:N.i 27=b6:=dg1 g6 q24 q25 q26 q27
 have f3:N.i 31=b6+256*b7:=dg2 d3 g6 g7 q28 q29 q30 q31
 have d4:N.i 35=b8:=dg1 g8 q32 q33 q34 q35
 have f4:N.i 39=b8+256*b9:=dg2 d4 g8 g9 q36 q37 q38 q39
 have d5:N.i 43=b10:=dg1 g10 q40 q41 q42 q43
 have f5:N.i 47=b10+256*b11:=dg2 d5 g10 g11 q44 q45 q46 q47
 have d6:N.i 51=b12:=dg1 g12 q48 q49 q50 q51
 have f6:N.i 55=b12+256*b13:=dg2 d6 g12 g13 q52 q53 q54 q55
 have d7:N.i 59=1:=dg1 (show (0:Int)≤1∧(1:Int)<256 by decide) q56 q57 q58 q59
 have hm:([.var 7,.var 15,.var 23,.var 31,.var 39,.var 47,.var 55,.var 59,.kst 0]:List Ar).map (·.ev N)=digs 9 (chunkN [b0,b1,b2,b3,b4,b5,b6,b7,b8,b9,b10,b11,b12,b13]):=by
  simp only[List.map_cons,List.map_nil,Ar.ev,f0,f1,f2,f3,f4,f5,f6,d7]
  refine digs9 ?_ rfl ?_
  ·simp only[List.forall_mem_cons]
   exact ⟨by omega,by omega,by omega,by omega,by omega,by omega,by omega,by omega,by omega,nofun⟩
  ·simp only[valD,chunkN,leV,List.length_cons,List.length_nil]
   rw[show (256:Int)^(0+1+1+1+1+1+1+1+1+1+1+1+1+1+1)=5192296858534827628530496329220096 from by decide]
   omega
 refine ⟨?_,⟨?_,trivial,trivial⟩,nofun⟩
 ·simp only[List.forall_mem_cons,Ob.holds,Ar.ev,t3,w1,ea,List.length_cons,List.length_nil,List.drop_zero,List.length_take,Int.toNat_zero]
  exact ⟨(by decide),(by decide),(by decide),(by decide),(by decide),(by decide),(by decide),(by decide),(by decide),(by decide),(by decide),(by decide),(by decide),(by decide),(by decide),(by decide),(by decide),nofun⟩
 ·intro p hp2
  show _=F.i 18 _ _ _
  rw[hi]
  exact zipJ_of' hm p hp2
set_option maxHeartbeats 1000000 in
theorem spec18_15 {F:Fns}(hp:F.p 18=P18)(hi:F.i 18=I18):CSpec Try.prog F 18 (ct18n 15):=by
 refine straight (callT_ok (tab:=[]) trivial) Try.func18 (by kernel_rfl) (by kernel_rfl) (by kernel_rfl) run18_15 (by kernel_rfl) fun is ls N hs hp' hag hf hd=> ?_
 obtain rfl:=Shape.noInt rfl hs
 match ls,hs with
 | [b],hs =>
 obtain ⟨hlb,-⟩:=hs
 have hP:P18 [] [b]:=by rw[←hp];exact hp'
 obtain ⟨hB,-,-⟩:=hP
 match b,hlb with
 | [b0,b1,b2,b3,b4,b5,b6,b7,b8,b9,b10,b11,b12,b13,b14],_ =>
 have ea:N.a 0=[b0,b1,b2,b3,b4,b5,b6,b7,b8,b9,b10,b11,b12,b13,b14]:=hag.a 0 (by decide)
 simp only[Bytes,List.forall_mem_cons] at hB
 obtain ⟨g0,g1,g2,g3,g4,g5,g6,g7,g8,g9,g10,g11,g12,g13,g14,-⟩:=hB
 simp only[List.forall_mem_cons,Df.sat,Nd.ev,Ad.ev,Ar.ev,List.map_cons,List.map_nil] at hd
 obtain ⟨q63,q62,q61,q60,q59,q58,q57,q56,q55,q54,q53,q52,q51,q50,q49,q48,q47,q46,q45,q44,q43,q42,q41,q40,q39,q38,q37,q36,q35,q34,q33,q32,q31,q30,q29,q28,q27,q26,q25,q24,q23,q22,q21,q20,q19,q18,q17,q16,q15,q14,q13,q12,q11,q10,q9,q8,q7,q6,q5,q4,q3,q2,q1,q0,w3,w2,w1,-⟩:=hd
 have t3:N.a 3=[b0,b1,b2,b3,b4,b5,b6,b7,b8,b9,b10,b11,b12,b13,b14,1]:=by rw[w3,w1,w2,ea];rfl
 rw[t3] at q60 q56 q52 q48 q44 q40 q36 q32 q28 q24 q20 q16 q12 q8 q4 q0
 have d0:N.i 3=b0:=dg1 g0 q0 q1 q2 q3
 have f0:N.i 7=b0+256*b1:=dg2 d0 g0 g1 q4 q5 q6 q7
 have d1:N.i 11=b2:=dg1 g2 q8 q9 q10 q11
 have f1:N.i 15=b2+256*b3:=dg2 d1 g2 g3 q12 q13 q14 q15
 have d2:N.i 19=b4:=dg1 g4 q16 q17 q18 q19
 have f2:N.i 23=b4+256*b5:=dg2 d2 g4 g5 q20 q21 q22 q23
 have d3:N.i 27=b6:=dg1 g6 q24 q25 q26 q27
 have f3:N.i 31=b6+256*b7:=dg2 d3 g6 g7 q28 q29 q30 q31
 have d4:N.i 35=b8:=dg1 g8 q32 q33 q34 q35
 have f4:N.i 39=b8+256*b9:=dg2 d4 g8 g9 q36 q37 q38 q39
 have d5:N.i 43=b10:=dg1 g10 q40 q41 q42 q43
 have f5:N.i 47=b10+256*b11:=dg2 d5 g10 g11 q44 q45 q46 q47
 have d6:N.i 51=b12:=dg1 g12 q48 q49 q50 q51
 have f6:N.i 55=b12+256*b13:=dg2 d6 g12 g13 q52 q53 q54 q55
 have d7:N.i 59=b14:=dg1 g14 q56 q57 q58 q59
 have f7:N.i 63=b14+256*1:=dg2 d7 g14 (show (0:Int)≤1∧(1:Int)<256 by decide) q60 q61 q62 q63
 have hm:([.var 7,.var 15,.var 23,.var 31,.var 39,.var 47,.var 55,.var 63,.kst 0]:List Ar).map (·.ev N)=digs 9 (chunkN [b0,b1,b2,b3,b4,b5,b6,b7,b8,b9,b10,b11,b12,b13,b14]):=by
  simp only[List.map_cons,List.map_nil,Ar.ev,f0,f1,f2,f3,f4,f5,f6,f7]
  refine digs9 ?_ rfl ?_
  ·simp only[List.forall_mem_cons]
   exact ⟨by omega,by omega,by omega,by omega,by omega,by omega,by omega,by omega,by omega,nofun⟩
  ·simp only[valD,chunkN,leV,List.length_cons,List.length_nil]
   rw[show (256:Int)^(0+1+1+1+1+1+1+1+1+1+1+1+1+1+1+1)=1329227995784915872903807060280344576 from by decide]
   omega
 refine ⟨?_,⟨?_,trivial,trivial⟩,nofun⟩
 ·simp only[List.forall_mem_cons,Ob.holds,Ar.ev,t3,w1,ea,List.length_cons,List.length_nil,List.drop_zero,List.length_take,Int.toNat_zero]
  exact ⟨(by decide),(by decide),(by decide),(by decide),(by decide),(by decide),(by decide),(by decide),(by decide),(by decide),(by decide),(by decide),(by decide),(by decide),(by decide),(by decide),(by decide),(by decide),nofun⟩
 ·intro p hp2
  show _=F.i 18 _ _ _
  rw[hi]
  exact zipJ_of' hm p hp2
set_option maxHeartbeats 1000000 in
theorem spec18_16 {F:Fns}(hp:F.p 18=P18)(hi:F.i 18=I18):CSpec Try.prog F 18 (ct18n 16):=by
 refine straight (callT_ok (tab:=[]) trivial) Try.func18 (by kernel_rfl) (by kernel_rfl) (by kernel_rfl) run18_16 (by kernel_rfl) fun is ls N hs hp' hag hf hd=> ?_
 obtain rfl:=Shape.noInt rfl hs
 match ls,hs with
 | [b],hs =>
 obtain ⟨hlb,-⟩:=hs
 have hP:P18 [] [b]:=by rw[←hp];exact hp'
 obtain ⟨hB,-,-⟩:=hP
 match b,hlb with
 | [b0,b1,b2,b3,b4,b5,b6,b7,b8,b9,b10,b11,b12,b13,b14,b15],_ =>
 have ea:N.a 0=[b0,b1,b2,b3,b4,b5,b6,b7,b8,b9,b10,b11,b12,b13,b14,b15]:=hag.a 0 (by decide)
 simp only[Bytes,List.forall_mem_cons] at hB
 obtain ⟨g0,g1,g2,g3,g4,g5,g6,g7,g8,g9,g10,g11,g12,g13,g14,g15,-⟩:=hB
 simp only[List.forall_mem_cons,Df.sat,Nd.ev,Ad.ev,Ar.ev,List.map_cons,List.map_nil] at hd
 obtain ⟨q67,q66,q65,q64,q63,q62,q61,q60,q59,q58,q57,q56,q55,q54,q53,q52,q51,q50,q49,q48,q47,q46,q45,q44,q43,q42,q41,q40,q39,q38,q37,q36,q35,q34,q33,q32,q31,q30,q29,q28,q27,q26,q25,q24,q23,q22,q21,q20,q19,q18,q17,q16,q15,q14,q13,q12,q11,q10,q9,q8,q7,q6,q5,q4,q3,q2,q1,q0,w3,w2,w1,-⟩:=hd
 have t3:N.a 3=[b0,b1,b2,b3,b4,b5,b6,b7,b8,b9,b10,b11,b12,b13,b14,b15,1]:=by rw[w3,w1,w2,ea];rfl
 rw[t3] at q64 q60 q56 q52 q48 q44 q40 q36 q32 q28 q24 q20 q16 q12 q8 q4 q0
 have d0:N.i 3=b0:=dg1 g0 q0 q1 q2 q3
 have f0:N.i 7=b0+256*b1:=dg2 d0 g0 g1 q4 q5 q6 q7
 have d1:N.i 11=b2:=dg1 g2 q8 q9 q10 q11
 have f1:N.i 15=b2+256*b3:=dg2 d1 g2 g3 q12 q13 q14 q15
 have d2:N.i 19=b4:=dg1 g4 q16 q17 q18 q19
 have f2:N.i 23=b4+256*b5:=dg2 d2 g4 g5 q20 q21 q22 q23
 have d3:N.i 27=b6:=dg1 g6 q24 q25 q26 q27
 have f3:N.i 31=b6+256*b7:=dg2 d3 g6 g7 q28 q29 q30 q31
 have d4:N.i 35=b8:=dg1 g8 q32 q33 q34 q35
 have f4:N.i 39=b8+256*b9:=dg2 d4 g8 g9 q36 q37 q38 q39
 have d5:N.i 43=b10:=dg1 g10 q40 q41 q42 q43
 have f5:N.i 47=b10+256*b11:=dg2 d5 g10 g11 q44 q45 q46 q47
 have d6:N.i 51=b12:=dg1 g12 q48 q49 q50 q51
 have f6:N.i 55=b12+256*b13:=dg2 d6 g12 g13 q52 q53 q54 q55
 have d7:N.i 59=b14:=dg1 g14 q56 q57 q58 q59
 have f7:N.i 63=b14+256*b15:=dg2 d7 g14 g15 q60 q61 q62 q63
 have d8:N.i 67=1:=dg1 (show (0:Int)≤1∧(1:Int)<256 by decide) q64 q65 q66 q67
 have hm:([.var 7,.var 15,.var 23,.var 31,.var 39,.var 47,.var 55,.var 63,.var 67]:List Ar).map (·.ev N)=digs 9 (chunkN [b0,b1,b2,b3,b4,b5,b6,b7,b8,b9,b10,b11,b12,b13,b14,b15]):=by
  simp only[List.map_cons,List.map_nil,Ar.ev,f0,f1,f2,f3,f4,f5,f6,f7,d8]
  refine digs9 ?_ rfl ?_
  ·simp only[List.forall_mem_cons]
   exact ⟨by omega,by omega,by omega,by omega,by omega,by omega,by omega,by omega,by omega,nofun⟩
  ·simp only[valD,chunkN,leV,List.length_cons,List.length_nil]
   rw[show (256:Int)^(0+1+1+1+1+1+1+1+1+1+1+1+1+1+1+1+1)=340282366920938463463374607431768211456 from by decide]
   omega
 refine ⟨?_,⟨?_,trivial,trivial⟩,nofun⟩
 ·simp only[List.forall_mem_cons,Ob.holds,Ar.ev,t3,w1,ea,List.length_cons,List.length_nil,List.drop_zero,List.length_take,Int.toNat_zero]
  exact ⟨(by decide),(by decide),(by decide),(by decide),(by decide),(by decide),(by decide),(by decide),(by decide),(by decide),(by decide),(by decide),(by decide),(by decide),(by decide),(by decide),(by decide),(by decide),(by decide),nofun⟩
 ·intro p hp2
  show _=F.i 18 _ _ _
  rw[hi]
  exact zipJ_of' hm p hp2
theorem args_len {w:World}{k:IntKind}{us:List Value}{is:List Int}{L:List Int}{ws:List (Option Win)}{n:Nat}(h:Args w [.sl k false none] us is [L] ws)(hn:L.length=n):Args w [.sl k false (some n)] us is [L] ws:=by
 cases h with
 | sl hm hc _ h=>exact .sl hm hc (fun m e=>by simp only[Option.some.injEq] at e;omega) h
theorem spec18 {F:Fns}(hp:F.p 18=P18)(hi:F.i 18=I18):CSpec Try.prog F 18 ct18:=by
 intro us is ls ws w hA hW hpr
 have hsh:=hA.shape
 obtain rfl:=Shape.noInt (ps:=ct18.ps) rfl hsh
 match ls,hsh with
 | [b],_ =>
 have hP:P18 [] [b]:=by rw[←hp];exact hpr
 have hw1:rwW ct18.ps ws=none:=by cases hA with | sl hm hc hn h=>cases h;rfl
 have hw2:∀n,rwW (ct18n n).ps ws=none:=fun n=>by cases hA with | sl hm hc hn h=>cases h;rfl
 have go:∀n,b.length=n→CSpec Try.prog F 18 (ct18n n)→Calls Try.prog 18 us.toArray w fun e w'=>∃u,e= .returned u∧ResOk Try.prog F ct18 [] [b] ws w u w':=fun n hn hs =>
  (hs us [] [b] ws w (args_len hA hn) hW hpr).mono fun e w' ⟨u,h1,w1,vs,sl,h2,h3,h4,h5,h6⟩=>⟨u,h1,w1,vs,sl,h2,by rw[hw1];rw[hw2 n] at h3;exact h3,by rw[grW_none (ps:=ct18.ps) rfl];rw[grW_none (ps:=(ct18n n).ps) rfl] at h4;exact h4,h5,h6⟩
 obtain ⟨-,h1,h16⟩:=hP
 generalize hn:b.length=n at h1 h16
 match n,h1,h16 with
 | 1,_,_=>exact go 1 hn (spec18_1 hp hi)
 | 2,_,_=>exact go 2 hn (spec18_2 hp hi)
 | 3,_,_=>exact go 3 hn (spec18_3 hp hi)
 | 4,_,_=>exact go 4 hn (spec18_4 hp hi)
 | 5,_,_=>exact go 5 hn (spec18_5 hp hi)
 | 6,_,_=>exact go 6 hn (spec18_6 hp hi)
 | 7,_,_=>exact go 7 hn (spec18_7 hp hi)
 | 8,_,_=>exact go 8 hn (spec18_8 hp hi)
 | 9,_,_=>exact go 9 hn (spec18_9 hp hi)
 | 10,_,_=>exact go 10 hn (spec18_10 hp hi)
 | 11,_,_=>exact go 11 hn (spec18_11 hp hi)
 | 12,_,_=>exact go 12 hn (spec18_12 hp hi)
 | 13,_,_=>exact go 13 hn (spec18_13 hp hi)
 | 14,_,_=>exact go 14 hn (spec18_14 hp hi)
 | 15,_,_=>exact go 15 hn (spec18_15 hp hi)
 | 16,_,_=>exact go 16 hn (spec18_16 hp hi)
 | n+17,_,h=>exact absurd h (by omega)
end Go.Proofs.Ytlcljhlijmombaa
