/- x25519ScalarMult does as its contract says. -/
import Derived.Test.YtnfikgagkamioaaGreatDoorX64b
namespace Go.Proofs.YtnfikgagkamioaaGreatDoor
open Go.Sy
noncomputable abbrev O64:=outOf ct64 Tryz.f64 (callT tabE) [12] (loopAt 64 12) T64 s64g [false]
theorem O64_s:O64=some (⟨[],some (.inl 79),none⟩,dE O64,oE O64):=someE (by kernel_rfl)
theorem digW_add {w:Int}(hw:0<w):∀ {n:Nat} {v k:Int},digW w n (v+w^n*k)=digW w n v
 | 0,_,_=>rfl
 | n+1,v,k=>by simp only[digW];rw[show v+w^(n+1)*k=v+w*(w^n*k) by rw[Int.pow_succ,dT (w^n) w,dW],Int.add_mul_emod_self_left,Int.add_mul_ediv_left _ _ (by omega),digW_add hw]
theorem reduce_dig {V:Int}(h0:0≤V)(h1:V<115792089237316195423570985008687907853269984665640564039457584007913129639898):digW w51 5 (19*((19+V)/w51^5)+V)=digW w51 5 (V%pI):=by
 have e:w51^5=57896044618658097711785492504343953926634992332820282019728792003956564819968:=by decide
 have ep:pI=57896044618658097711785492504343953926634992332820282019728792003956564819949:=rfl;rw[e,ep];rcases Int.lt_or_le V 57896044618658097711785492504343953926634992332820282019728792003956564819949 with h | h
 ·rw [show (19+V)/57896044618658097711785492504343953926634992332820282019728792003956564819968=0 by omega,bN h0 h];congr 1;omega
 ·rw [show (19+V)/57896044618658097711785492504343953926634992332820282019728792003956564819968=1 by omega,show V%57896044618658097711785492504343953926634992332820282019728792003956564819949=V-57896044618658097711785492504343953926634992332820282019728792003956564819949 by omega];rw[←digW_add (w:=w51) (by decide) (v:=V-57896044618658097711785492504343953926634992332820282019728792003956564819949) (k:=1),e];rw[show V-57896044618658097711785492504343953926634992332820282019728792003956564819949+57896044618658097711785492504343953926634992332820282019728792003956564819968*1=19*1+V by omega]
theorem or_lo {a b:Int}{s:Nat}{m:Int}(_ha:0≤a)(hb0:0≤b)(hb:b<2^s)(hs:s≤64)(hm:m*2^s=18446744073709551616)(hp:0<m):iop .or .u64 (iop .shl .u64 a (s:Int)) b=(a%m)*2^s+b:=by
 have p:(0:Int)<2^s:=Int.pow_pos (by decide);have e:IntKind.u64.wrap (a*2^s)=(a%m)*2^s:=by rw[IntKind.wrap_u64,←hm,dT a,dT m,Int.mul_emod_mul_of_pos _ _ p,dT]
 have r0:=Int.emod_nonneg a (show m≠0 by omega);have r1:=eI a hp;have t:(a%m)*2^s≤(m-1)*2^s:=Int.mul_le_mul_of_nonneg_right (by omega) (Int.le_of_lt p);rw[Int.sub_mul,hm] at t;have t2:1*(2:Int)^s≤m*2^s:=Int.mul_le_mul_of_nonneg_right (by omega) (Int.le_of_lt p);rw[Int.one_mul,hm] at t2;have b64:((2:Int)^IntKind.u64.bits)=18446744073709551616:=rfl;rw[shl_kst (k:= .u64) hs,e,iop_or_comm,or_shl (k:= .u64) rfl hb0 hb r0 (by rw[b64];omega) (by rw[b64];omega)]
 omega
section
variable {N:Num} {ds:List Df}
def shB (ds:List Df)(x a s:Nat):Bool:=match lkN ds x with | some (.bin .shr .u64 (.var b) (.kst (.ofNat t)))=>Nat.beq b a&&Nat.beq t s | _=>false
theorem sh_ok (hd:∀d∈ds,d.sat N){x a s:Nat}(h:shB ds x a s=true)(hs:s≤64):N.i x=N.i a/2^s:=by
 unfold shB at h;split at h
 ·rename_i b t hl;simp only[aG] at h;rw[fB hd hl,aF h.1,aF h.2];exact shr_kst (k:= .u64) hs
 ·cases h
def mkB (ds:List Df)(x a:Nat):Bool:=match lkN ds x with | some (.bin .and .u64 (.var b) (.kst (.ofNat t)))=>Nat.beq b a&&Nat.beq t 2251799813685247 | _=>false
theorem mk_ok (hd:∀d∈ds,d.sat N){x a:Nat}(h:mkB ds x a=true)(h0:0≤N.i a)(h1:N.i a<18446744073709551616):N.i x=N.i a%w51:=by
 unfold mkB at h;split at h
 ·rename_i b t hl;simp only[aG] at h;rw[fB hd hl,aF h.1,aF h.2];exact and_mask (k:= .u64) (c:=51) rfl h0 h1 (by decide)
 ·cases h
def wdB (ds:List Df)(x u a s l:Nat):Bool:=match lkN ds x,lkN ds u with
 | some (.bin .or .u64 (.var v) (.var m)),some (.bin .shl .u64 (.var b) (.kst (.ofNat t)))=>Nat.beq v u&&(Nat.beq m l&&(Nat.beq b a&&Nat.beq t s))
 | _,_=>false
theorem wd_ok (hd:∀d∈ds,d.sat N){x u a s l:Nat}{m:Int}(h:wdB ds x u a s l=true)(ha:0≤N.i a)(hb0:0≤N.i l)(hb:N.i l<2^s)(hs:s≤64)(hm:m*2^s=18446744073709551616)(hp:0<m):N.i x=(N.i a%m)*2^s+N.i l:=by
 unfold wdB at h;split at h
 ·rename_i v m' b t h1 h2;simp only[aG] at h;rw[fB hd h1];simp only[Nd.ev,Ar.ev];rw[aF h.1,fB hd h2,aF h.2.1];simp only[Nd.ev,Ar.ev];rw[aF h.2.2.1,aF h.2.2.2];exact or_lo ha hb0 hb hs hm hp
 ·cases h
def by8 (ds:List Df)(x y:Nat):Bool:=(List.range 8).all fun j=>match lkN ds (x+2*j+1) with
 | some (.conv .u8 (.var z))=>Nat.beq z (x+2*j)&&shB ds (x+2*j) y (8*j)
 | _=>false
theorem by8_ok (hd:∀d∈ds,d.sat N){x y j:Nat}(h:by8 ds x y=true)(hj:j<8):N.i (x+2*j+1)=N.i y/256^j%256:=by
 unfold by8 at h;have:=bT.1 h j (cE.2 hj);split at this
 ·rename_i z hl;simp only[aG] at this;rw[fB hd hl];simp only[Nd.ev,Ar.ev];rw[aF this.1,sh_ok hd this.2 (by omega),IntKind.wrap_u8,Int.pow_mul];rfl
 ·cases this
theorem law_eq {x a:Nat}{t:Pol}(h:(Tst.law (-1) [.var x,.var a] t 0).holds N):N.i x=N.i a+t.ev N:=by
 obtain ⟨z,hz⟩:=h;have hz:valW (-1) [N.i x,N.i a]-t.ev N=0*z:=hz;simp only[valW] at hz;omega
end
def cryN:List Nat:=[232,244,241,238,235]
def redB (ds:List Df):Bool:=shB ds 246 245 51&&(shB ds 248 247 51&&(shB ds 250 249 51&&(shB ds 252 251 51&&(shB ds 254 253 51&&(shB ds 257 256 51&&(shB ds 260 258 51&&(shB ds 263 261 51&&(shB ds 266 264 51 &&
 (mkB ds 259 256&&(mkB ds 262 258&&(mkB ds 265 261&&(mkB ds 268 264&&(mkB ds 269 267&&(wdB ds 271 270 262 51 259&&(wdB ds 274 272 265 38 273&&(wdB ds 277 275 268 25 276&&(wdB ds 280 278 269 12 279 &&
 (shB ds 273 262 13&&(shB ds 276 265 26&&(shB ds 279 268 39&&(by8 ds 281 271&&(by8 ds 297 274&&(by8 ds 313 277&&by8 ds 329 280)))))))))))))))))))))))
def redT:List Tst:=[.law w51 (vl cryN) (rowP w51 221 5) pN,.bnd (vl cryN) 2251799822073857,.law (-1) [.var 245,.var 232] (pk 19) 0,.law (-1) [.var 247,.var 244] (px 246) 0,.law (-1) [.var 249,.var 241] (px 248) 0,.law (-1) [.var 251,.var 238] (px 250) 0,.law (-1) [.var 253,.var 235] (px 252) 0,
 .law (-1) [.var 256,.var 232] (pscale 19 (px 254)) 0,.law (-1) [.var 258,.var 244] (px 257) 0,.law (-1) [.var 261,.var 241] (px 260) 0,.law (-1) [.var 264,.var 238] (px 263) 0,.law (-1) [.var 267,.var 235] (px 266) 0,.bnd (vl [256,258,261,264,267]) 18446744073709551616]
theorem O64_b:redB (dE O64)=true:=by kernel_rfl
theorem O64_t:okB cxE [(221,5,2251799822073856)] (dE O64) [] [] redT=true:=by kernel_rfl
theorem words {X r0 r1 r2 r3 r4:Int}(hx0:0≤X)(hx1:X<57896044618658097711785492504343953926634992332820282019728792003956564819968)(h0:r0=X%2251799813685248)(h1:r1=X/2251799813685248%2251799813685248)(h2:r2=X/5070602400912917605986812821504%2251799813685248)
 (h3:r3=X/11417981541647679048466287755595961091061972992%2251799813685248) (h4:r4=X/25711008708143844408671393477458601640355247900524685364822016%2251799813685248) :
 ((r1%8192)*2251799813685248+r0=X%18446744073709551616∧(r2%67108864)*274877906944+r1/8192=X/18446744073709551616%18446744073709551616)∧((r3%549755813888)*33554432+r2/67108864=X/340282366920938463463374607431768211456%18446744073709551616∧(r4%4503599627370496)*4096+r3/549755813888=X/6277101735386680763835789423207666416102355444464034512896):=by
 refine ⟨⟨?_,?_⟩,?_,?_⟩;·omega
 ·omega
 ·omega
 ·omega
theorem word8 {W:Int}(i:Nat)(hi:i<8):W%18446744073709551616/256^i%256=W/256^i%256:=by
 match i,hi with
 | 0,_=>rw[show (256:Int)^0=1 from rfl];omega
 | 1,_=>rw[show (256:Int)^1=256 from rfl];omega
 | 2,_=>rw[show (256:Int)^2=65536 from rfl];omega
 | 3,_=>rw[show (256:Int)^3=16777216 from rfl];omega
 | 4,_=>rw[show (256:Int)^4=4294967296 from rfl];omega
 | 5,_=>rw[show (256:Int)^5=1099511627776 from rfl];omega
 | 6,_=>rw[show (256:Int)^6=281474976710656 from rfl];omega
 | 7,_=>rw[show (256:Int)^7=72057594037927936 from rfl];omega
theorem red64a {F:Fns}(hF:F91 F){N:Num}(hf:N.f=F)(hd:∀d∈dE O64,d.sat N)(hL:LimO (rowI N 221 5)):[N.i 259,N.i 262,N.i 265,N.i 268,N.i 269]=digW w51 5 (V51 (rowI N 221 5)%pI):=by
 obtain ⟨-,k2⟩:=okB_ok O64_t (N:=N) (by rw[hf];exact cxE_ok hF) (fun _ _ h=>by cases h) (gB (fun v hv=>hL.2 v hv) ent_nil) hd;simp only[redT,aC] at k2;obtain ⟨l0,b0,l1,l2,l3,l4,l5,l6,l7,l8,l9,l10,b1,-⟩:=k2;have hb:=O64_b;simp only[redB,aG] at hb;obtain ⟨s1,s2,s3,s4,s5,s6,s7,s8,s9,m1,m2,m3,m4,m5,-⟩:=hb
 replace l1:=law_eq l1
 replace l2:=law_eq l2
 replace l3:=law_eq l3
 replace l4:=law_eq l4
 replace l5:=law_eq l5
 replace l6:=law_eq l6
 replace l7:=law_eq l7
 replace l8:=law_eq l8
 replace l9:=law_eq l9
 replace l10:=law_eq l10
 simp only[fN,px_ev,pk_ev] at l1 l2 l3 l4 l5 l6 l7 l8 l9 l10
 replace s1:=sh_ok hd s1 (by decide)
 replace s2:=sh_ok hd s2 (by decide)
 replace s3:=sh_ok hd s3 (by decide)
 replace s4:=sh_ok hd s4 (by decide)
 replace s5:=sh_ok hd s5 (by decide)
 replace s6:=sh_ok hd s6 (by decide)
 replace s7:=sh_ok hd s7 (by decide)
 replace s8:=sh_ok hd s8 (by decide)
 replace s9:=sh_ok hd s9 (by decide)
 have p51:(2:Int)^51=w51:=rfl;rw[p51] at s1 s2 s3 s4 s5 s6 s7 s8 s9;simp only[Tst.holds,vl_ev,aI,aK,aC] at b1
 replace m1:=mk_ok hd m1 b1.1.1 b1.1.2
 replace m2:=mk_ok hd m2 b1.2.1.1 b1.2.1.2
 replace m3:=mk_ok hd m3 b1.2.2.1.1 b1.2.2.1.2
 replace m4:=mk_ok hd m4 b1.2.2.2.1.1 b1.2.2.2.1.2
 replace m5:=mk_ok hd m5 b1.2.2.2.2.1.1 b1.2.2.2.2.1.2
 have hc:N.i 254=cry w51 19 (cryN.map N.i):=by simp only[cryN,aI,aK,cry];rw[s5,l5,s4,l4,s3,l3,s2,l2,s1,l1];rfl
 have hV0:0≤V51 (cryN.map N.i)∧V51 (cryN.map N.i)<115792089237316195423570985008687907853269984665640564039457584007913129639898:=by simp only[Tst.holds,vl_ev,cryN,aI,aK,aC] at b0;obtain ⟨c0,c1,c2,c3,c4,-⟩:=b0;simp only[V51,cryN,aI,aK,valW,w51];omega
 have hl:(cryN.map N.i).length=5:=rfl;rw[cry_val (by decide),hl] at hc;have hrow:[N.i 259,N.i 262,N.i 265,N.i 268,N.i 269]=dgc w51 (19*N.i 254) (cryN.map N.i):=by simp only[cryN,aI,aK,dgc];rw[m1,m2,m3,m4,m5,l10,s9,l9,s8,l8,s7,l7,s6,l6]
 have hX:V51 (cryN.map N.i)%pI=V51 (rowI N 221 5)%pI:=by
  have:cg (V51 (cryN.map N.i)) (V51 (rowI N 221 5)):=by simp only[Tst.holds,vl_ev,rowP_row] at l0;exact l0
  exact Int.emod_eq_emod_iff_emod_sub_eq_zero.2 (Int.emod_eq_zero_of_dvd this)
 rw[dgc_val (by decide),hl,hc,show valW w51 (cryN.map N.i)=V51 (cryN.map N.i) from rfl,reduce_dig hV0.1 hV0.2,hX] at hrow;exact hrow
theorem red64b {N:Num}{X:Int}(hd:∀d∈dE O64,d.sat N)(hx0:0≤X)(hx1:X<57896044618658097711785492504343953926634992332820282019728792003956564819968)(hrow:[N.i 259,N.i 262,N.i 265,N.i 268,N.i 269]=digW w51 5 X) :
 (N.i 271=X%18446744073709551616∧N.i 274=X/18446744073709551616%18446744073709551616)∧(N.i 277=X/340282366920938463463374607431768211456%18446744073709551616∧N.i 280=X/6277101735386680763835789423207666416102355444464034512896):=by
 have hb:=O64_b;simp only[redB,aG] at hb;obtain ⟨-,-,-,-,-,-,-,-,-,-,-,-,-,-,w1,w2,w3,w4,t1,t2,t3,-⟩:=hb;have at':∀j,j<5→([N.i 259,N.i 262,N.i 265,N.i 268,N.i 269]).getD j 0=X/w51^j%w51:=fun j hj=>by rw[hrow,digW_get (by decide) hj]
 have r0:N.i 259=X/w51^0%w51:=at' 0 (by decide);have r1:N.i 262=X/w51^1%w51:=at' 1 (by decide);have r2:N.i 265=X/w51^2%w51:=at' 2 (by decide);have r3:N.i 268=X/w51^3%w51:=at' 3 (by decide);have r4:N.i 269=X/w51^4%w51:=at' 4 (by decide);rw[show w51^0=1 from rfl,show w51=2251799813685248 from rfl,Int.ediv_one] at r0;rw[show w51^1=2251799813685248 from rfl,show w51=2251799813685248 from rfl] at r1;rw[show w51^2=5070602400912917605986812821504 by decide,show w51=2251799813685248 from rfl] at r2
 rw[show w51^3=11417981541647679048466287755595961091061972992 by decide,show w51=2251799813685248 from rfl] at r3;rw[show w51^4=25711008708143844408671393477458601640355247900524685364822016 by decide,show w51=2251799813685248 from rfl] at r4;have rng:∀ {a:Int},0≤a%2251799813685248∧a%2251799813685248<2251799813685248:=fun {a}=>by omega
 have g0:0≤N.i 259∧N.i 259<2251799813685248:=by rw[r0];exact rng
 have g1:0≤N.i 262∧N.i 262<2251799813685248:=by rw[r1];exact rng
 have g2:0≤N.i 265∧N.i 265<2251799813685248:=by rw[r2];exact rng
 have g3:0≤N.i 268∧N.i 268<2251799813685248:=by rw[r3];exact rng
 have g4:0≤N.i 269∧N.i 269<2251799813685248:=by rw[r4];exact rng
 obtain ⟨⟨q1,q2⟩,q3,q4⟩:=words hx0 hx1 r0 r1 r2 r3 r4;clear at' r0 r1 r2 r3 r4 hrow
 replace t1:=sh_ok hd t1 (by decide)
 replace t2:=sh_ok hd t2 (by decide)
 replace t3:=sh_ok hd t3 (by decide)
 rw[show (2:Int)^13=8192 from rfl] at t1;rw[show (2:Int)^26=67108864 from rfl] at t2;rw[show (2:Int)^39=549755813888 from rfl] at t3;rw[←t1] at q2;rw[←t2] at q3;rw[←t3] at q4;rw[←q1,←q2,←q3,←q4];clear q1 q2 q3 q4;exact ⟨⟨wd_ok hd w1 (m:=8192) g1.1 g0.1 g0.2 (by decide) (by decide) (by decide),
  wd_ok hd w2 (m:=67108864) g2.1 (by omega) (by rw[show (2:Int)^38=274877906944 from rfl];omega) (by decide) (by decide) (by decide)⟩,
  wd_ok hd w3 (m:=549755813888) g3.1 (by omega) (by rw[show (2:Int)^25=33554432 from rfl];omega) (by decide) (by decide) (by decide),
  wd_ok hd w4 (m:=4503599627370496) g4.1 (by omega) (by rw[show (2:Int)^12=4096 from rfl];omega) (by decide) (by decide) (by decide)⟩
theorem reduce64 {F:Fns}(hF:F91 F){N:Num}(hf:N.f=F)(hd:∀d∈dE O64,d.sat N)(hL:LimO (rowI N 221 5)):∀j,j<32→N.i (282+2*j)=(digW 256 32 (V51 (rowI N 221 5)%pI)).getD j 0:=by
 have hrow:=red64a hF hf hd hL;have hx0:0≤V51 (rowI N 221 5)%pI:=Int.emod_nonneg _ (by decide);have hx1:V51 (rowI N 221 5)%pI<57896044618658097711785492504343953926634992332820282019728792003956564819968:=dH (eI _ (by decide)) (by decide);obtain ⟨X,eX⟩:∃X,V51 (rowI N 221 5)%pI=X:=⟨_,rfl⟩
 rw[eX] at hrow hx0 hx1 ⊢;obtain ⟨⟨v1,v2⟩,v3,v4⟩:=red64b hd hx0 hx1 hrow;have hb:=O64_b;simp only[redB,aG] at hb;obtain ⟨-,-,-,-,-,-,-,-,-,-,-,-,-,-,-,-,-,-,-,-,-,y1,y2,y3,y4⟩:=hb;intro j hj;rw[digW_get (by decide) hj];have pw:∀ {c:Int} {q:Nat},256^(8*q)=c→0≤c→X/c/256^(j-8*q)=X/256^(8*q+(j-8*q)):=fun {c q} hc h0=>by rw[←hc,Int.ediv_ediv_of_nonneg (by rw[hc];exact h0),Int.pow_add]
 rcases bL j 8 with h | h
 ·have:=by8_ok hd y1 (j:=j) h;rw[v1,word8 j h] at this;rw[←this,show 282+2*j=281+2*j+1 by omega]
 rcases bL j 16 with h' | h'
 ·have:=by8_ok hd y2 (j:=j-8*1) (by omega);rw[v2,word8 _ (by omega),pw (q:=1) (by decide) (by decide),show 8*1+(j-8*1)=j by omega] at this;rw[←this,show 282+2*j=297+2*(j-8*1)+1 by omega]
 rcases bL j 24 with h'' | h''
 ·have:=by8_ok hd y3 (j:=j-8*2) (by omega);rw[v3,word8 _ (by omega),pw (q:=2) (by decide) (by decide),show 8*2+(j-8*2)=j by omega] at this;rw[←this,show 282+2*j=313+2*(j-8*2)+1 by omega]
 ·have:=by8_ok hd y4 (j:=j-8*3) (by omega);rw[v4,pw (q:=3) (by decide) (by decide),show 8*3+(j-8*3)=j by omega] at this;rw[←this,show 282+2*j=329+2*(j-8*3)+1 by omega]
def swB (ds:List Df)(m x y:Nat)(nx ny:List Nat):Bool:=(List.range 5).all fun j=>match nx[j]?,ny[j]? with
 | some a,some b=>(match lkN ds a,lkN ds b with
  | some (.bin .xor .u64 (.var p) (.var t)),some (.bin .xor .u64 (.var q) (.var t'))=>Nat.beq p (x+j)&&(Nat.beq q (y+j)&&(Nat.beq t t'&&(match lkN ds t with
   | some (.bin .and .u64 (.var m') (.var r))=>Nat.beq m' m&&(match lkN ds r with
    | some (.bin .xor .u64 (.var p') (.var q'))=>Nat.beq p' (x+j)&&Nat.beq q' (y+j)
    | _=>false)
   | _=>false)))
  | _,_=>false)
 | _,_=>false
theorem swp {x y:Nat}(hx:x<18446744073709551616)(hy:y<18446744073709551616) :
 (iop .xor .u64 (x:Int) (iop .and .u64 0 (iop .xor .u64 (x:Int) (y:Int)))=x∧iop .xor .u64 (y:Int) (iop .and .u64 0 (iop .xor .u64 (x:Int) (y:Int)))=y) ∧
 (iop .xor .u64 (x:Int) (iop .and .u64 18446744073709551615 (iop .xor .u64 (x:Int) (y:Int)))=y∧iop .xor .u64 (y:Int) (iop .and .u64 18446744073709551615 (iop .xor .u64 (x:Int) (y:Int)))=x):=by
 have hb:(2:Nat)^IntKind.u64.bits=18446744073709551616:=rfl;have hz:x^^^y<2^IntKind.u64.bits:=Nat.xor_lt_two_pow (by rw[hb];exact hx) (by rw[hb];exact hy);rw[iop_xor rfl (by rw[hb];exact hx) (by rw[hb];exact hy),show (0:Int)=((0:Nat):Int) from rfl,show (18446744073709551615:Int)=((18446744073709551615:Nat):Int) from rfl,iop_and rfl (by decide) hz,iop_and rfl (by decide) hz,Nat.zero_and];have e:18446744073709551615&&&(x^^^y)=x^^^y:=by
  rw[Nat.and_comm,show (18446744073709551615:Nat)=2^64-1 from rfl,Nat.and_two_pow_sub_one_eq_mod];exact Nat.mod_eq_of_lt hz
 rw[e,iop_xor rfl (by rw[hb];exact hx) (by decide),iop_xor rfl (by rw[hb];exact hy) (by decide),iop_xor rfl (by rw[hb];exact hx) hz,iop_xor rfl (by rw[hb];exact hy) hz,Nat.xor_zero,Nat.xor_zero];refine ⟨⟨rfl,rfl⟩,?_,?_⟩;·rw [←Nat.xor_assoc,Nat.xor_self,Nat.zero_xor]
 ·rw [Nat.xor_comm x y,←Nat.xor_assoc,Nat.xor_self,Nat.zero_xor]
theorem sw_ok {N:Num}{ds:List Df}{m x y:Nat}{nx ny:List Nat}(hd:∀d∈ds,d.sat N)(h:swB ds m x y nx ny=true)(hx:nx.length=5)(hy:ny.length=5)
 (rx:∀j,j<5→0≤N.i (x+j)∧N.i (x+j)<18446744073709551616) (ry:∀j,j<5→0≤N.i (y+j)∧N.i (y+j)<18446744073709551616) :
 (N.i m=0→nx.map N.i=rowI N x 5∧ny.map N.i=rowI N y 5)∧(N.i m=18446744073709551615→nx.map N.i=rowI N y 5∧ny.map N.i=rowI N x 5):=by
 have key:∀j,j<5→∃a b,nx[j]? =some a∧ny[j]? =some b∧(N.i m=0→N.i a=N.i (x+j)∧N.i b=N.i (y+j))∧(N.i m=18446744073709551615→N.i a=N.i (y+j)∧N.i b=N.i (x+j)):=fun j hj=>by
  unfold swB at h;rw[bT] at h;have:=h j (cE.2 hj);split at this
  ·rename_i a b ha hb;refine ⟨a,b,ha,hb,?_⟩;split at this
   ·rename_i p t q t' l1 l2;simp only[aG] at this;obtain ⟨h1,h2,h3,h4⟩:=this;split at h4
    ·rename_i m' r l3;simp only[aG] at h4;obtain ⟨h4,h5⟩:=h4;split at h5
     ·rename_i p' q' l4;simp only[aG] at h5;have e1:=fB hd l1;have e2:=fB hd l2;have e3:=fB hd l3;have e4:=fB hd l4;simp only[Nd.ev,Ar.ev] at e1 e2 e3 e4;rw[aF h5.1,aF h5.2] at e4;rw[aF h4,e4] at e3;rw[aF h1,e3] at e1;rw[aF h2,←aF h3,e3] at e2;obtain ⟨u,hu⟩:=aZ (rx j hj).1;obtain ⟨v,hv⟩:=aZ (ry j hj).1;have bu:u<18446744073709551616:=by have:=(rx j hj).2;omega
      have bv:v<18446744073709551616:=by have:=(ry j hj).2;omega
      have k:=swp bu bv;rw[hu,hv] at e1 e2 ⊢;exact ⟨fun hm0=>by rw[hm0] at e1 e2;exact ⟨e1.trans k.1.1,e2.trans k.1.2⟩,fun hm1=>by rw[hm1] at e1 e2;exact ⟨e1.trans k.2.1,e2.trans k.2.2⟩⟩
     ·cases h5
    ·cases h4
   ·cases this
  ·cases this
 have row:∀ {l:List Nat} {z:Nat},l.length=5→(∀ j,j<5→∃a,l[j]? =some a∧N.i a=N.i (z+j))→l.map N.i=rowI N z 5:=fun {l z} hl hk=>by refine (fP (by rw[bF,hl]) fun j hj=> ?_).symm;obtain ⟨a,h1,h2⟩:=hk j hj;rw[aE,bP,h1];exact h2.symm
 refine ⟨fun hm=>⟨row hx fun j hj=> ?_,row hy fun j hj=> ?_⟩,fun hm=>⟨row hx fun j hj=> ?_,row hy fun j hj=> ?_⟩⟩ <;> obtain ⟨a,b,h1,h2,h3,h4⟩:=key j hj;·exact ⟨a,h1,(h3 hm).1⟩
 ·exact ⟨b,h2,(h3 hm).2⟩
 ·exact ⟨a,h1,(h4 hm).1⟩
 ·exact ⟨b,h2,(h4 hm).2⟩
theorem R64_w:(swB (dR R64) 71 37 47 nx2 nx3&&swB (dR R64) 94 42 52 nz2 nz3)=true:=by kernel_rfl
theorem cg_emod (v:Int):cg (v%pI) v:=pI_dvd_emod v
theorem cg_op (g:Int→Int→Int)(a b:List Int):cg (V16 (opL g a b)) (g (V16 a) (V16 b)):=by rw[opL,dgp_val];exact cg_emod _
theorem five_0 {p q:List Int}(h:p.length=16):five (p++q) 0=p:=by unfold five;rw[Nat.mul_zero,bW,dO h]
theorem five_s {p q:List Int}{k:Nat}(h:p.length=16):five (p++q) (k+1)=five q k:=by
 unfold five;rw[show 16*(k+1)=p.length+16*k by omega,List.drop_length_add_append]
theorem five_l {p:List Int}(h:p.length=16):five p 0=p:=by unfold five;rw[Nat.mul_zero,bW,←h,cS]
theorem kL_val:V16 kL=121665:=by decide
theorem stL_cg (u a b c d:List Int):cg (V16 (five (stL u a b c d) 0)) (V16 u)∧cg (V16 (five (stL u a b c d) 1)) (fX2 (V16 a) (V16 b))∧cg (V16 (five (stL u a b c d) 2)) (fZ2 (V16 a) (V16 b)) ∧
 cg (V16 (five (stL u a b c d) 3)) (fX3 (V16 a) (V16 b) (V16 c) (V16 d))∧cg (V16 (five (stL u a b c d) 4)) (fZ3 (V16 u) (V16 a) (V16 b) (V16 c) (V16 d)):=by
 have eA:=cg_op (· + ·) a b;have eB:=cg_op (· - ·) a b;have eC:=cg_op (· + ·) c d;have eD:=cg_op (· - ·) c d;have eAA:=(cg_op (· * ·) (adL a b) (adL a b)).trans (eA.mul eA);have eBB:=(cg_op (· * ·) (suL a b) (suL a b)).trans (eB.mul eB);have eE:=(cg_op (· - ·) (muL (adL a b) (adL a b)) (muL (suL a b) (suL a b))).trans (eAA.sub eBB);have eDA:=(cg_op (· * ·) (suL c d) (adL a b)).trans (eD.mul eA);have eCB:=(cg_op (· * ·) (adL c d) (suL a b)).trans (eC.mul eB)
 have eX:=(cg_op (· + ·) (muL (suL c d) (adL a b)) (muL (adL c d) (suL a b))).trans (eDA.add eCB);have eY:=(cg_op (· - ·) (muL (suL c d) (adL a b)) (muL (adL c d) (suL a b))).trans (eDA.sub eCB);have eK:=(cg_op (· * ·) kL (suL (muL (adL a b) (adL a b)) (muL (suL a b) (suL a b)))).trans ((cg.of kL_val).mul eE);have eS:=(cg_op (· + ·) (muL (adL a b) (adL a b)) (muL kL (suL (muL (adL a b) (adL a b)) (muL (suL a b) (suL a b))))).trans (eAA.add eK)
 have l0:(dgp (V16 u)).length=16:=dgp_length _;refine ⟨?_,?_,?_,?_,?_⟩;·unfold stL;rw[five_0 l0,dgp_val];exact cg_emod _
 ·unfold stL;rw[five_s l0,five_0 gS];exact (cg_op _ _ _).trans (eAA.mul eBB)
 ·unfold stL;rw[five_s l0,five_s gS,five_0 gS];refine (cg_op _ _ _).trans (((eE.mul eS)).trans (cg.of ?_));show ((V16 a+V16 b)*(V16 a+V16 b)-(V16 a-V16 b)*(V16 a-V16 b))*((V16 a+V16 b)*(V16 a+V16 b)+121665*((V16 a+V16 b)*(V16 a+V16 b)-(V16 a-V16 b)*(V16 a-V16 b)))=fZ2 (V16 a) (V16 b);unfold fZ2 fE;congr 1;omega
 ·unfold stL;rw[five_s l0,five_s gS,five_s gS,five_0 gS];exact (cg_op _ _ _).trans (eX.mul eX)
 ·unfold stL;rw[five_s l0,five_s gS,five_s gS,five_s gS,five_l gS];exact (cg_op _ _ _).trans ((cg.refl _).mul ((cg_op _ _ _).trans (eY.mul eY)))
section
variable {N:Num}
theorem R64_66 (hd:∀d∈dR R64,d.sat N):N.i 66=iop .and .u8 (iop .shr .u8 ((rowI N 0 32).getD (0+iop .quo .i64 (N.i 58) 8*1).toNat 0) (IntKind.u64.wrap (iop .and .i64 (N.i 58) 7))) 1:=i_of hd 66 (by kernel_rfl)
theorem R64_64 (hd:∀d∈dR R64,d.sat N):N.i 64=IntKind.u64.wrap (iop .and .i64 (N.i 58) 7):=i_of hd 64 (by kernel_rfl)
theorem R64_x (hd:∀d∈dR R64,d.sat N):N.i 115=IntKind.i64.wrap (N.i 66)∧N.i 67=IntKind.i64.wrap (N.i 66)∧N.i 68=iop .xor .i64 (N.i 57) (N.i 67) :=
 ⟨fB hd (nd:= .conv .i64 (.var 66)) (by kernel_rfl),fB hd (nd:= .conv .i64 (.var 66)) (by kernel_rfl),fB hd (nd:= .bin .xor .i64 (.var 57) (.var 67)) (by kernel_rfl)⟩
theorem R64_k (hd:∀d∈dR R64,d.sat N):N.i 71=iop .xor .u64 18446744073709551615 (iop .sub .u64 (IntKind.u64.wrap (N.i 68)) 1)∧N.i 94=iop .xor .u64 18446744073709551615 (iop .sub .u64 (IntKind.u64.wrap (N.i 68)) 1):=by
 have a1:=fB hd (x:=71) (nd:= .bin .xor .u64 (.kst 18446744073709551615) (.var 70)) (by kernel_rfl);have a2:=fB hd (x:=70) (nd:= .bin .sub .u64 (.var 69) (.kst 1)) (by kernel_rfl);have a3:=fB hd (x:=69) (nd:= .conv .u64 (.var 68)) (by kernel_rfl);have b1:=fB hd (x:=94) (nd:= .bin .xor .u64 (.kst 18446744073709551615) (.var 93)) (by kernel_rfl);have b2:=fB hd (x:=93) (nd:= .bin .sub .u64 (.var 92) (.kst 1)) (by kernel_rfl)
 have b3:=fB hd (x:=92) (nd:= .conv .u64 (.var 68)) (by kernel_rfl);simp only[Nd.ev,Ar.ev] at a1 a2 a3 b1 b2 b3;rw[a1,b1,a2,b2,a3,b3];exact ⟨rfl,rfl⟩
end
theorem and7:((List.range 255).all fun i=>decide (IntKind.u64.wrap (iop .and .i64 (i:Int) 7)=((i%8:Nat):Int)))=true:=by kernel_rfl
theorem mask01 {s:Int}(h:s=0∨s=1):iop .xor .u64 18446744073709551615 (iop .sub .u64 (IntKind.u64.wrap s) 1)=if s=1 then 18446744073709551615 else 0:=by
 rcases h with rfl | rfl <;> decide
theorem xor01 {s b:Int}(hs:s=0∨s=1)(hb:b=0∨b=1):iop .xor .i64 s b=iop .xor .u64 b s∧(iop .xor .u64 b s=0∨iop .xor .u64 b s=1)∧IntKind.i64.wrap b=b:=by
 rcases hs with rfl | rfl <;> rcases hb with rfl | rfl <;> decide
theorem and1_01 (v:Int):iop .and .u64 v 1=0∨iop .and .u64 v 1=1:=by
 have e:(BitVec.ofInt 64 v&&&BitVec.ofInt 64 1).toNat=(BitVec.ofInt 64 v).toNat%2:=by rw[BitVec.toNat_and];exact Nat.and_one_is_mod _
 show IntKind.u64.wrap ((BitVec.ofInt 64 v&&&BitVec.ofInt 64 1).toNat:Int)=0∨IntKind.u64.wrap ((BitVec.ofInt 64 v&&&BitVec.ofInt 64 1).toNat:Int)=1;rw[e];rcases Nat.mod_two_eq_zero_or_one (BitVec.ofInt 64 v).toNat with h | h <;> rw[h]
 ·exact .inl (by decide)
 ·exact .inr (by decide)
theorem bit01 (l:List Int)(i:Nat):bitL l i=0∨bitL l i=1:=and1_01 _
theorem lad01 (k w0:List Int):∀n,(lad k w0 n).2=0∨(lad k w0 n).2=1
 | 0=> .inl rfl
 | _+1=>bit01 _ _
def rel (N:Num)(x:Nat)(l:List Int):Prop:=LimO (rowI N x 5)∧cg (V51 (rowI N x 5)) (V16 l)
structure A64 (N:Num) (eb w0:List Int) (n:Nat):Prop where
 hn:n≤255
 pos:N.i 58=254-(n:Int)
 sw:N.i 57=(lad (ofB eb) w0 n).2
 he:rowI N 0 32=eb
 r0:rel N 32 (five (lad (ofB eb) w0 n).1 0)
 r1:rel N 37 (five (lad (ofB eb) w0 n).1 1)
 r2:rel N 42 (five (lad (ofB eb) w0 n).1 2)
 r3:rel N 47 (five (lad (ofB eb) w0 n).1 3)
 r4:rel N 52 (five (lad (ofB eb) w0 n).1 4)
 dl:(N.a 0).length=32
theorem A64.agr {N N':Num}{eb w0:List Int}{n:Nat}(h:Agr s64g.nx s64g.na N N')(hA:A64 N eb w0 n):A64 N' eb w0 n:=by
 have q:∀x,x<59→N'.i x=N.i x:=h.i;have r:∀ {x:Nat} {l:List Int},x+5≤59→rel N x l→rel N' x l:=fun {x l} hx hr=>by unfold rel;rw[show rowI N' x 5=rowI N x 5 from fI fun j hj=>q _ (by omega)];exact hr
 exact ⟨hA.hn,(q 58 (by decide)).trans hA.pos,(q 57 (by decide)).trans hA.sw,(fI fun j hj=>q _ (by omega)).trans hA.he,r (by decide) hA.r0,r (by decide) hA.r1,r (by decide) hA.r2,r (by decide) hA.r3,r (by decide) hA.r4,by rw[h.a 0 (by decide)];exact hA.dl⟩
theorem bit64 {N:Num}{eb:List Int}{i:Nat}(hd:∀d∈dR R64,d.sat N)(hb:Bytes eb)(hl:eb.length=32)(he:rowI N 0 32=eb)(hp:N.i 58=(i:Int))(hi:i<255):N.i 66=bitL (ofB eb) i∧0≤N.i 64:=by
 have a7:=cM (bT.1 and7 i (cE.2 hi));have e64:=R64_64 hd;have e66:=R64_66 hd;rw[hp,a7] at e64 e66;have eq:iop .quo .i64 (i:Int) 8=((i/8:Nat):Int):=by rw[show (8:Int)=Int.ofNat 8 from rfl,iop_quo_nat (by omega) (by simp only[kMax];omega)];rfl
 rw[he,eq,show (0+((i/8:Nat):Int)*1).toNat=i/8 by omega] at e66;exact ⟨e66.trans (bit_byte hb hl (by omega)).symm,by rw[e64];omega⟩
section
variable {N:Num}
theorem R64_v:∀j,j<37→(pn (iR R64) (aR R64) N).i (0+j)=N.i (0+j):=fam_v (by kernel_rfl)
theorem R64_v2:∀j,j<5→(pn (iR R64) (aR R64) N).i (37+j)=N.i (295+j):=fam_v (by kernel_rfl)
theorem R64_v3:∀j,j<5→(pn (iR R64) (aR R64) N).i (42+j)=N.i (404+j):=fam_v (by kernel_rfl)
theorem R64_v4:∀j,j<5→(pn (iR R64) (aR R64) N).i (47+j)=N.i (370+j):=fam_v (by kernel_rfl)
theorem R64_v5:∀j,j<5→(pn (iR R64) (aR R64) N).i (52+j)=N.i (399+j):=fam_v (by kernel_rfl)
theorem R64_57:(pn (iR R64) (aR R64) N).i 57=N.i 115:=pn_at (a:= .var 115) (by kernel_rfl)
theorem R64_58 (hd:∀d∈dR R64,d.sat N):(pn (iR R64) (aR R64) N).i 58=iop .sub .i64 (N.i 58) 1:=pn_of hd 58 (by kernel_rfl)
theorem R64_a:(aR R64).getD 0 none=some 0:=by kernel_rfl
end
theorem pnA_at {N:Num}{is:List Ar}{al:List (Option Nat)}{x A:Nat}(h:al.getD x none=some A):(pn is al N).a x=N.a A:=by
 simp only[pn,h]
theorem keep64 {F:Fns}(hF:F91 F){N:Num}{eb w0:List Int}{n:Nat}(hf:N.f=F)(hd:∀d∈dR R64,d.sat N)(hA:A64 N eb w0 n)(hlt:n<255)(hb:Bytes eb)(hl:eb.length=32) :
 (∀ o∈oR R64,o.holds N)∧A64 (pn (iR R64) (aR R64) N) eb w0 (n+1):=by
 obtain ⟨b66,p64⟩:=bit64 (i:=254-n) hd hb hl hA.he (by rw[hA.pos];omega) (by omega);obtain ⟨x1,x2,x3⟩:=R64_x hd;obtain ⟨m1,m2⟩:=R64_k hd;have hb01:=bit01 (ofB eb) (254-n);have hs01:=lad01 (ofB eb) w0 n;obtain ⟨y1,y2,y3⟩:=xor01 hs01 hb01;rw[b66,y3] at x1 x2;rw[x2,hA.sw,y1] at x3;rw[x3,mask01 y2] at m1 m2;have hw:=R64_w;simp only[aG] at hw;have rg:∀ {x:Nat} {l:List Int},rel N x l→∀j,j<5→0≤N.i (x+j)∧N.i (x+j)<18446744073709551616:=fun {x l} h j hj=>by
  have:=h.1.2 (N.i (x+j)) (dI (rowI_get hj));omega
 obtain ⟨sx0,sx1⟩:=sw_ok hd hw.1 rfl rfl (rg hA.r1) (rg hA.r3);obtain ⟨sz0,sz1⟩:=sw_ok hd hw.2 rfl rfl (rg hA.r2) (rg hA.r4);have hpos:0≤N.i 58∧N.i 58≤254:=by rw[hA.pos];omega
 have fin:∀ {a b c d:List Int},step (lad (ofB eb) w0 n).1 (iop .xor .u64 (bitL (ofB eb) (254-n)) (lad (ofB eb) w0 n).2)=stL (five (lad (ofB eb) w0 n).1 0) a b c d →
  LimO (nx2.map N.i)∧cg (V51 (nx2.map N.i)) (V16 a)→LimO (nz2.map N.i)∧cg (V51 (nz2.map N.i)) (V16 b)→LimO (nx3.map N.i)∧cg (V51 (nx3.map N.i)) (V16 c)→LimO (nz3.map N.i)∧cg (V51 (nz3.map N.i)) (V16 d) →
  (∀ o∈oR R64,o.holds N)∧A64 (pn (iR R64) (aR R64) N) eb w0 (n+1):=fun {a b c d} hst ha hb' hc hd'=>by
  obtain ⟨k0,k1,k2,k3,k4⟩:=round64 hF hf hd p64 hpos hA.r0.1 ha.1 hb'.1 hc.1 hd'.1 hA.r0.2 ha.2 hb'.2 hc.2 hd'.2;have e:(lad (ofB eb) w0 (n+1)).1=stL (five (lad (ofB eb) w0 n).1 0) a b c d:=hst;obtain ⟨c0,c1,c2,c3,c4⟩:=stL_cg (five (lad (ofB eb) w0 n).1 0) a b c d;rw[←e] at c0 c1 c2 c3 c4;have mv:∀ {x y:Nat} {l:List Int} {v:Int},(∀ j,j<5→(pn (iR R64) (aR R64) N).i (x+j)=N.i (y+j))→LimO (rowI N y 5)∧cg (V51 (rowI N y 5)) v→cg (V16 l) v→rel (pn (iR R64) (aR R64) N) x l:=fun {x y l v} hx h hc=>by
   unfold rel;rw[fI (M:=N) (y:=y) hx];exact ⟨h.1,h.2.trans hc.symm⟩
  refine ⟨k0,by omega,?_,?_,?_,mv (x:=32) (y:=32) (fun j hj=> ?_) hA.r0 c0,mv R64_v2 k1 c1,mv R64_v3 k2 c2,mv R64_v4 k3 c3,mv R64_v5 k4 c4,?_⟩;·rw [R64_58 hd,hA.pos];simp only[iop];rw[IntKind.wrap_i64];omega
  ·rw [R64_57,x1];rfl
  ·exact (fI fun j hj=>R64_v j (by omega)).trans hA.he
  ·have:=R64_v (N:=N) (32+j) (by omega);rw[bM] at this;exact this
  ·have:(pn (iR R64) (aR R64) N).a 0=N.a 0:=by
    exact pnA_at R64_a
   rw[this];exact hA.dl
 by_cases h1:iop .xor .u64 (bitL (ofB eb) (254-n)) (lad (ofB eb) w0 n).2=1
 ·rw [bG h1] at m1 m2;obtain ⟨q1,q2⟩:=sx1 m1;obtain ⟨q3,q4⟩:=sz1 m2;exact fin (by unfold step;rw[bG h1]) (by rw[q1];exact hA.r3) (by rw[q3];exact hA.r4) (by rw[q2];exact hA.r1) (by rw[q4];exact hA.r2)
 ·rw [bC h1] at m1 m2;obtain ⟨q1,q2⟩:=sx0 m1;obtain ⟨q3,q4⟩:=sz0 m2;exact fin (by unfold step;rw[bC h1]) (by rw[q1];exact hA.r1) (by rw[q3];exact hA.r2) (by rw[q2];exact hA.r3) (by rw[q4];exact hA.r4)
structure Stq where
 A:Nat
 x:Nat
 f:Nat
 ks:List Nat
 d:Option Nat
 args:List (Nat×List Nat)
def stqB (ds:List Df)(m:Stq):Bool :=
 (match lkA ds m.A with | some (.fn g js cs)=>Nat.beq g m.f&&(eL eAr js (m.ks.map fun k=> .kst ((k:Nat):Int))&&eL Nat.beq cs (m.d.toList++m.args.map (·.1))) | _=>false) &&
 (m.args.all fun p=>match lkA ds p.1 with | some (.lit l)=>eL eAr l (p.2.map .var) | _=>false) &&
 (m.d.toList.all fun i=>match lkA ds i with | some (.lit l)=>Nat.beq l.length 5 | _=>false) &&
 (List.range 5).all fun j=>match lkN ds (m.x+j) with | some (.rd B (.kst (.ofNat i)))=>Nat.beq B m.A&&Nat.beq i j | _=>false
theorem stq_ok {N:Num}{ds:List Df}{m:Stq}(hd:∀d∈ds,d.sat N)(h:stqB ds m=true) :
 N.a m.A=N.f.a m.f (m.ks.map fun k=>((k:Nat):Int)) (m.d.toList.map N.a++m.args.map fun p=>p.2.map N.i)∧(∀ p∈m.args,N.a p.1=p.2.map N.i)∧(∀ i∈m.d.toList,(N.a i).length=5)∧((N.a m.A).length=5→rowI N m.x 5=N.a m.A):=by
 simp only[stqB,aG,bT] at h;obtain ⟨⟨⟨h1,h2⟩,h4⟩,h3⟩:=h;have ha:∀p∈m.args,N.a p.1=p.2.map N.i:=fun p hp=>by
  have:=h2 p hp;split at this
  ·rename_i l hl;rw[fR hd hl,eArs_eq this];simp only[Ad.ev,cZ];rfl
  ·cases this
 refine ⟨?_,ha,fun i hi=> ?_,fun hl=>fP hl fun j hj=> ?_⟩
 ·split at h1
  ·rename_i g js cs hl;simp only[aG] at h1;rw[fR hd hl,aF h1.1,eArs_eq h1.2.1,eNats_eq h1.2.2];simp only[Ad.ev,List.map_append,cZ];congr 2;exact cW fun p hp=>ha p hp
  ·cases h1
 ·have:=h4 i hi;split at this
  ·rename_i l hl;rw[fR hd hl];simp only[Ad.ev,bF];exact aF this
  ·cases this
 ·have:=h3 j (cE.2 hj);split at this
  ·rename_i B i hl;simp only[aG] at this;rw[fB hd hl,aF this.1,aF this.2];rfl
  ·cases this
structure El (N:Num) (z:Int) (k:Nat) (l:List Nat):Prop where
 lim:Lim (l.map N.i)
 pw:Pw z k (V51 (l.map N.i))
section
variable {F:Fns} {N:Num} {ds:List Df} {A x i j l k k' n:Nat} {na nb:List Nat} {z:Int}
theorem el_of (L:LimO (rowI N x 5))(h:Pw z k (V51 (rowI N x 5))):El N z k (r5 x):=⟨by rw[r5_row];exact L.lim,by rw[r5_row];exact h⟩
section
theorem el91 (hF:F91 F)(hf:N.f=F)(hd:∀d∈ds,d.sat N)(h:stqB ds ⟨A,x,91,[],some i,[(j,na)]⟩=true)(a:El N z k na)(hk:Nat.beq (k+k) n=true):N.f.p 91 [] [N.a i,N.a j]∧El N z n (r5 x):=by
 obtain ⟨q,b,c,r⟩:=stq_ok hd h;simp only[aC,aI,aK,Option.toList,cT,cC] at q b c r;obtain ⟨p,L,e⟩:=law91 hF c.1 a.lim;rw[←hf,←q] at L e
 replace r:=r L.1
 rw[←r] at L e;rw[b.1,hf];exact ⟨p,el_of L ((a.pw.mul a.pw hk).cg e)⟩
theorem el92 (hF:F91 F)(hf:N.f=F)(hd:∀d∈ds,d.sat N)(h:stqB ds ⟨A,x,92,[],none,[(i,na)]⟩=true)(a:El N z k na)(hk:Nat.beq (k+k) n=true):N.f.p 92 [] [N.a i]∧El N z n (r5 x):=by
 obtain ⟨q,b,c,r⟩:=stq_ok hd h;simp only[aC,aI,aK,Option.toList,cC] at q b c r;obtain ⟨p,L,e⟩:=law92 hF a.lim;rw[←hf,←q] at L e
 replace r:=r L.1
 rw[←r] at L e;rw[b.1,hf];exact ⟨p,el_of L ((a.pw.mul a.pw hk).cg e)⟩
theorem el100 (hF:F91 F)(hf:N.f=F)(hd:∀d∈ds,d.sat N)(h:stqB ds ⟨A,x,100,[],some i,[(j,na),(l,nb)]⟩=true)(a:El N z k na)(a':El N z k' nb)(hk:Nat.beq (k+k') n=true):N.f.p 100 [] [N.a i,N.a j,N.a l]∧El N z n (r5 x):=by
 obtain ⟨q,b,c,r⟩:=stq_ok hd h;simp only[aC,aI,aK,Option.toList,cT,cC] at q b c r;obtain ⟨p,L,e⟩:=law100 hF c.1 a.lim a'.lim;rw[←hf,←q] at L e
 replace r:=r L.1
 rw[←r] at L e;rw[b.1,b.2.1,hf];exact ⟨p,el_of L ((a.pw.mul a'.pw hk).cg e)⟩
theorem el101g (hF:F91 F)(hf:N.f=F)(hd:∀d∈ds,d.sat N)(h:stqB ds ⟨A,x,101,[],none,[(j,na),(l,nb)]⟩=true)(a:Lim (na.map N.i))(a':Lim (nb.map N.i)):N.f.p 101 [] [N.a j,N.a l]∧LimO (rowI N x 5)∧cg (V51 (rowI N x 5)) (V51 (na.map N.i)*V51 (nb.map N.i)):=by
 obtain ⟨q,b,c,r⟩:=stq_ok hd h;simp only[aC,aI,aK,Option.toList,cC] at q b c r;obtain ⟨p,L,e⟩:=law101 hF a a';rw[←hf,←q] at L e
 replace r:=r L.1
 rw[←r] at L e;rw[b.1,b.2.1,hf];exact ⟨p,L,e⟩
theorem el101 (hF:F91 F)(hf:N.f=F)(hd:∀d∈ds,d.sat N)(h:stqB ds ⟨A,x,101,[],none,[(j,na),(l,nb)]⟩=true)(a:El N z k na)(a':El N z k' nb)(hk:Nat.beq (k+k') n=true):N.f.p 101 [] [N.a j,N.a l]∧El N z n (r5 x):=by
 obtain ⟨p,L,e⟩:=el101g hF hf hd h a.lim a'.lim;exact ⟨p,el_of L ((a.pw.mul a'.pw hk).cg e)⟩
theorem el102 (hF:F91 F)(hf:N.f=F)(hd:∀d∈ds,d.sat N)(h:stqB ds ⟨A,x,102,[],none,[(j,na),(l,nb)]⟩=true)(a:El N z k na)(a':El N z k' nb)(hk:Nat.beq (k'+k) n=true):N.f.p 102 [] [N.a j,N.a l]∧El N z n (r5 x):=by
 obtain ⟨q,b,c,r⟩:=stq_ok hd h;simp only[aC,aI,aK,Option.toList,cC] at q b c r;obtain ⟨p,L,e⟩:=law102 hF a.lim a'.lim;rw[←hf,←q] at L e
 replace r:=r L.1
 rw[←r] at L e;rw[b.1,b.2.1,hf];exact ⟨p,el_of L ((a'.pw.mul a.pw hk).cg e)⟩
end
theorem el107 (hF:F107 F)(hf:N.f=F)(hd:∀d∈ds,d.sat N)(h:stqB ds ⟨A,x,107,[n],some i,[(j,na)]⟩=true)(a:El N z k' na)(h0:0<n)(hn:n<2147483648)(hk:Nat.beq (k'*2^n) k=true):N.f.p 107 [(n:Int)] [N.a i,N.a j]∧El N z k (r5 x):=by
 obtain ⟨q,b,c,r⟩:=stq_ok hd h;simp only[aC,aI,aK,Option.toList,cT,cC] at q b c r;obtain ⟨⟨p,L,e⟩,-⟩:=lawS hF (v:=N.a i) a.lim h0 hn a.pw hk;rw[←hf,←q] at L e
 replace r:=r L.1
 rw[←r] at L e;rw[b.1,hf];exact ⟨p,el_of L e⟩
theorem el108 (hF:F107 F)(hf:N.f=F)(hd:∀d∈ds,d.sat N)(h:stqB ds ⟨A,x,108,[n],none,[(j,na)]⟩=true)(a:El N z k' na)(h0:0<n)(hn:n<2147483648)(hk:Nat.beq (k'*2^n) k=true):N.f.p 108 [(n:Int)] [N.a j]∧El N z k (r5 x):=by
 obtain ⟨q,b,c,r⟩:=stq_ok hd h;simp only[aC,aI,aK,Option.toList,cC] at q b c r;obtain ⟨-,p,L,e⟩:=lawS hF (v:=na.map N.i) a.lim h0 hn a.pw hk;rw[←hf,←q] at L e
 replace r:=r L.1
 rw[←r] at L e;rw[b.1,hf];exact ⟨p,el_of L e⟩
end
structure FE (F:Fns):Prop extends F91 F,F107 F
def nXe:List Nat:=[65,69,73,77,81]
def nXf:List Nat:=[66,70,74,78,82]
def nZe:List Nat:=[88,92,96,100,104]
def nZf:List Nat:=[89,93,97,101,105]
def kInv:Nat:=57896044618658097711785492504343953926634992332820282019728792003956564819947
def invS:List Stq:=[⟨3,106,91,[],some 1,[(2,nZe)]⟩,⟨6,111,91,[],some 4,[(5,r5 106)]⟩,⟨8,116,92,[],none,[(7,r5 111)]⟩,⟨12,121,100,[],some 9,[(10,r5 116),(11,nZe)]⟩,⟨16,126,100,[],some 13,[(14,r5 121),(15,r5 106)]⟩,⟨19,131,91,[],some 17,[(18,r5 126)]⟩,⟨23,136,100,[],some 20,[(21,r5 131),(22,r5 121)]⟩,⟨26,141,107,[5],some 24,[(25,r5 136)]⟩,⟨30,146,100,[],some 27,[(28,r5 141),(29,r5 136)]⟩,⟨33,151,107,[5],some 31,[(32,r5 146)]⟩,⟨36,156,102,[],none,[(34,r5 136),(35,r5 151)]⟩,⟨39,161,107,[15],some 37,[(38,r5 156)]⟩,⟨43,166,100,[],some 40,[(41,r5 161),(42,r5 156)]⟩,⟨46,171,107,[30],some 44,[(45,r5 166)]⟩,⟨50,176,100,[],some 47,[(48,r5 171),(49,r5 166)]⟩,⟨53,181,107,[60],some 51,[(52,r5 176)]⟩,⟨57,186,100,[],some 54,[(55,r5 181),(56,r5 176)]⟩,⟨60,191,107,[120],some 58,[(59,r5 186)]⟩,⟨63,196,101,[],none,[(61,r5 191),(62,r5 186)]⟩,⟨65,201,108,[10],none,[(64,r5 196)]⟩,⟨68,206,101,[],none,[(66,r5 201),(67,r5 146)]⟩,⟨70,211,108,[5],none,[(69,r5 206)]⟩,⟨74,216,100,[],some 71,[(72,r5 211),(73,r5 126)]⟩,⟨77,221,101,[],none,[(75,nXe),(76,r5 216)]⟩]
theorem O64_i:invS.all (stqB (dE O64))=true:=by kernel_rfl
def invO:List Ob:=[.fits (.kst 0) (.kst 32) 0,.prd 101 [] [75,76],.prd 100 [] [71,72,73],.prd 108 [.kst 5] [69],.prd 101 [] [66,67],.prd 108 [.kst 10] [64],.prd 101 [] [61,62],.prd 107 [.kst 120] [58,59],.prd 100 [] [54,55,56],.prd 107 [.kst 60] [51,52],.prd 100 [] [47,48,49],.prd 107 [.kst 30] [44,45],.prd 100 [] [40,41,42],.prd 107 [.kst 15] [37,38],.prd 102 [] [34,35],.prd 107 [.kst 5] [31,32],.prd 100 [] [27,28,29],.prd 107 [.kst 5] [24,25],.prd 100 [] [20,21,22],.prd 91 [] [17,18],.prd 100 [] [13,14,15],.prd 100 [] [9,10,11],.prd 92 [] [7],.prd 91 [] [4,5],.prd 91 [] [1,2],.boo 59 false]
theorem O64_o:oE O64=invO:=by kernel_rfl
theorem O64_59 {N:Num}(hd:∀d∈dE O64,d.sat N):N.i 59=bif decide (N.i 58≥0) then 1 else 0:=fB hd (nd:= .cmp .geq (.var 58) (.kst 0)) (by kernel_rfl)
theorem O64_78 {N:Num}(hd:∀d∈dE O64,d.sat N):N.a 78=(List.range 32).map fun j=>N.i (282+2*j) :=
 (fR hd (ad:= .lit ((List.range 32).map fun j=> .var (282+2*j))) (by kernel_rfl)).trans (by simp only[Ad.ev,cZ];rfl)
theorem O64_79 {N:Num}(hd:∀d∈dE O64,d.sat N):N.a 79=(Ad.cpy 0 (.kst 0) 78).ev N:=fR hd (by kernel_rfl)
theorem inv64 {F:Fns}(hF:FE F){N:Num}(hf:N.f=F)(hd:∀d∈dE O64,d.sat N)(hl:(N.a 0).length=32)(h58:N.i 58<0){x z q:Int}(lx:LimO (nXe.map N.i))(ex:cg (V51 (nXe.map N.i)) x)(lz:LimO (nZe.map N.i))(ez:cg (V51 (nZe.map N.i)) z)(hq:Pw z kInv q) :
 (∀ o∈oE O64,o.holds N)∧N.a 79=digW 256 32 ((x*q)%pI):=by
 have hm:=O64_i;simp only[invS,List.all_cons,List.all_nil,aG] at hm;obtain ⟨m0,m1,m2,m3,m4,m5,m6,m7,m8,m9,m10,m11,m12,m13,m14,m15,m16,m17,m18,m19,m20,m21,m22,mE,-⟩:=hm;have eZ:El N z 1 nZe:=⟨lz.lim,Pw.one.cg ez⟩
 obtain ⟨p0,e106⟩:=el91 hF.toF91 hf hd m0 eZ (n:=2) rfl;obtain ⟨p1,e111⟩:=el91 hF.toF91 hf hd m1 e106 (n:=4) rfl;obtain ⟨p2,e116⟩:=el92 hF.toF91 hf hd m2 e111 (n:=8) rfl;obtain ⟨p3,e121⟩:=el100 hF.toF91 hf hd m3 e116 eZ (n:=9) rfl;obtain ⟨p4,e126⟩:=el100 hF.toF91 hf hd m4 e121 e106 (n:=11) rfl;obtain ⟨p5,e131⟩:=el91 hF.toF91 hf hd m5 e126 (n:=22) rfl;obtain ⟨p6,e136⟩:=el100 hF.toF91 hf hd m6 e131 e121 (n:=31) rfl;obtain ⟨p7,e141⟩:=el107 hF.toF107 hf hd m7 e136 (by decide) (by decide) (k:=992) rfl
 obtain ⟨p8,e146⟩:=el100 hF.toF91 hf hd m8 e141 e136 (n:=1023) rfl;obtain ⟨p9,e151⟩:=el107 hF.toF107 hf hd m9 e146 (by decide) (by decide) (k:=32736) rfl;obtain ⟨p10,e156⟩:=el102 hF.toF91 hf hd m10 e136 e151 (n:=32767) rfl;obtain ⟨p11,e161⟩:=el107 hF.toF107 hf hd m11 e156 (by decide) (by decide) (k:=1073709056) rfl;obtain ⟨p12,e166⟩:=el100 hF.toF91 hf hd m12 e161 e156 (n:=1073741823) rfl;obtain ⟨p13,e171⟩:=el107 hF.toF107 hf hd m13 e166 (by decide) (by decide) (k:=1152921503533105152) rfl
 obtain ⟨p14,e176⟩:=el100 hF.toF91 hf hd m14 e171 e166 (n:=1152921504606846975) rfl;obtain ⟨p15,e181⟩:=el107 hF.toF107 hf hd m15 e176 (by decide) (by decide) (k:=1329227995784915871750885555673497600) rfl;obtain ⟨p16,e186⟩:=el100 hF.toF91 hf hd m16 e181 e176 (n:=1329227995784915872903807060280344575) rfl;obtain ⟨p17,e191⟩:=el107 hF.toF107 hf hd m17 e186 (by decide) (by decide) (k:=1766847064778384329583297500742918514498255901090703085217799141012275200) rfl
 obtain ⟨p18,e196⟩:=el101 hF.toF91 hf hd m18 e191 e186 (n:=1766847064778384329583297500742918515827483896875618958121606201292619775) rfl;obtain ⟨p19,e201⟩:=el108 hF.toF107 hf hd m19 e196 (by decide) (by decide) (k:=1809251394333065553493296640760748560207343510400633813116524750123642649600) rfl;obtain ⟨p20,e206⟩:=el101 hF.toF91 hf hd m20 e201 e146 (n:=1809251394333065553493296640760748560207343510400633813116524750123642650623) rfl
 obtain ⟨p21,e211⟩:=el108 hF.toF107 hf hd m21 e206 (by decide) (by decide) (k:=57896044618658097711785492504343953926634992332820282019728792003956564819936) rfl;obtain ⟨p22,e216⟩:=el100 hF.toF91 hf hd m22 e211 e126 (n:=57896044618658097711785492504343953926634992332820282019728792003956564819947) rfl;obtain ⟨pE,LE,eE⟩:=el101g hF.toF91 hf hd mE lx.lim e216.lim;have e59:=O64_59 hd;rw[bZ (by omega)] at e59;refine ⟨?_,?_⟩
 ·rw [O64_o];simp only[invO,aC,Ob.holds,aK,aI,Ar.ev];exact ⟨by rw[hl];decide,pE,p22,p21,p20,p19,p18,p17,p16,p15,p14,p13,p12,p11,p10,p9,p8,p7,p6,p5,p4,p3,p2,p1,p0,by rw[e59];rfl,nofun⟩
 ·have h78:N.a 78=digW 256 32 (V51 (rowI N 221 5)%pI):=by
   rw[O64_78 hd];refine dA fun i=> ?_
   by_cases hi:i<32;·rw [bP,cL hi,Option.map_some,reduce64 hF.toF91 hf hd LE i hi,aE,aU (by rw[gW];exact hi)];rfl
   ·rw [bI (by rw[bF,cV];omega),bI (by rw[gW];omega)]
  have ee:V51 (rowI N 221 5)%pI=(x*q)%pI:=by have c1:cg (V51 ((r5 216).map N.i)) q:=e216.pw.h.trans hq.h.symm;exact Int.emod_eq_emod_iff_emod_sub_eq_zero.2 (Int.emod_eq_zero_of_dvd (eE.trans (ex.mul c1)))
  rw[O64_79 hd];simp only[Ad.ev,Ar.ev];rw[h78,ee,cF (by rw[gW,hl];decide)];exact bJ _
noncomputable abbrev H64:=headOf ct64 Tryz.f64 (callT tabE) [12] [] T64 s64g
theorem H64_c:H64.map (·.1)=some (.loop (loopAt 64 12).1,(loopAt 64 12).2):=by kernel_rfl
def rdB (ds:List Df)(x A k n:Nat):Bool:=(List.range n).all fun j=>match lkN ds (x+j) with | some (.rd B (.kst (.ofNat i)))=>Nat.beq B A&&Nat.beq i (k+j) | _=>false
theorem rd_ok {N:Num}{ds:List Df}(hd:∀d∈ds,d.sat N){x A k n j:Nat}(h:rdB ds x A k n=true)(hj:j<n):N.i (x+j)=(N.a A).getD (k+j) 0:=by
 have:=bT.1 h j (cE.2 hj);split at this
 ·rename_i B i hl;simp only[aG] at this;rw[fB hd hl,aF this.1,aF this.2];rfl
 ·cases this
def wnB (ds:List Df)(x k:Nat):Bool:=(List.range 8).all fun j=>match lkN ds (x+28-4*j) with | some (.rd B (.kst (.ofNat i)))=>Nat.beq B 2&&Nat.beq i (k+j) | _=>false
def wnL (x:Nat):List Nat:=(List.range 8).map fun j=>x+28-4*j
theorem wn_ok {N:Num}{ds:List Df}(hd:∀d∈ds,d.sat N){x k:Nat}(h:wnB ds x k=true)(hl:k+8≤(N.a 2).length):(wnL x).map N.i=((N.a 2).drop k).take 8:=by
 refine dA fun j=> ?_
 by_cases hj:j<8
 ·have:=bT.1 h j (cE.2 hj);split at this
  ·rename_i B i hl';simp only[aG] at this;rw[wnL,cZ,bP,cL hj,cY hj,cH];show some (N.i (x+28-4*j))=_;rw[fB hd hl',aF this.1,aF this.2];simp only[Nd.ev,Ar.ev];rw[show (Int.ofNat (k+j)).toNat=k+j from rfl,aE,aU (by omega)];rfl
  ·cases this
 ·rw [bI (by rw[bF,wnL,bF,cV];omega),bI (by rw[bE];omega)]
def h64B (ds:List Df):Bool:=rdB ds 5 1 0 32&&(wnB ds 40 0&&(wnB ds 72 6&&(wnB ds 105 12&&(wnB ds 138 19&&wnB ds 171 24))))
theorem H64_b:h64B (dR (hR H64))=true:=by kernel_rfl
def o64B (os:List Ob):Bool:=os.all fun o=>match o with | .inA (.kst (.ofNat j)) A=>Nat.blt j 32&&(Nat.beq A 1||Nat.beq A 2) | _=>false
theorem H64_o:o64B (oR (hR H64))=true:=by kernel_rfl
def hEnt:Ent0:=(wnL 40++wnL 72++wnL 105++wnL 138++wnL 171).map fun x=>(x,1,255)
theorem H64_ok:okB cxE hEnt (dR (hR H64)) [] [] [.law 1 [.var 70] (rowPL 256 (wnL 40)) 0,.law 1 [.var 102] (rowPL 256 (wnL 72)) 0,.law 1 [.var 135] (rowPL 256 (wnL 105)) 0,.law 1 [.var 168] (rowPL 256 (wnL 138)) 0,.law 1 [.var 201] (rowPL 256 (wnL 171)) 0]=true:=by kernel_rfl
def xN:List Ar:=[.var 71,.var 104,.var 137,.var 170,.var 203]
def eN:List Ar:= .var 37::(vs 6 30++[.var 39])
theorem H64_i:slA (iR (hR H64)) 0 32=eN∧slA (iR (hR H64)) 32 5=xN∧slA (iR (hR H64)) 37 5=vs 0 5∧slA (iR (hR H64)) 42 5=zs 5∧slA (iR (hR H64)) 47 5=xN∧slA (iR (hR H64)) 52 5=vs 0 5∧slA (iR (hR H64)) 57 2=[.kst 0,.kst 254]:=by
 refine ⟨?_,?_,?_,?_,?_,?_,?_⟩ <;> kernel_rfl
theorem H64_a:(aR (hR H64)).getD 0 none=some 0:=by kernel_rfl
section
variable {N:Num}
theorem H64_37 (hd:∀d∈dR (hR H64),d.sat N):N.i 37=iop .and .u8 (N.i 5) 248:=fB hd (nd:= .bin .and .u8 (.var 5) (.kst 248)) (by kernel_rfl)
theorem H64_39 (hd:∀d∈dR (hR H64),d.sat N):N.i 39=iop .or .u8 (iop .and .u8 (N.i 36) 127) 64:=by
 have a:=fB hd (x:=39) (nd:= .bin .or .u8 (.var 38) (.kst 64)) (by kernel_rfl);have b:=fB hd (x:=38) (nd:= .bin .and .u8 (.var 36) (.kst 127)) (by kernel_rfl);simp only[Nd.ev,Ar.ev] at a b;rw[a,b]
theorem H64_x (hd:∀d∈dR (hR H64),d.sat N):N.i 71=iop .and .u64 (N.i 70) 2251799813685247∧N.i 104=iop .and .u64 (N.i 103) 2251799813685247∧N.i 137=iop .and .u64 (N.i 136) 2251799813685247∧N.i 170=iop .and .u64 (N.i 169) 2251799813685247∧N.i 203=iop .and .u64 (N.i 202) 2251799813685247 :=
 ⟨fB hd (nd:= .bin .and .u64 (.var 70) (.kst 2251799813685247)) (by kernel_rfl),fB hd (nd:= .bin .and .u64 (.var 103) (.kst 2251799813685247)) (by kernel_rfl),fB hd (nd:= .bin .and .u64 (.var 136) (.kst 2251799813685247)) (by kernel_rfl),fB hd (nd:= .bin .and .u64 (.var 169) (.kst 2251799813685247)) (by kernel_rfl),fB hd (nd:= .bin .and .u64 (.var 202) (.kst 2251799813685247)) (by kernel_rfl)⟩
theorem H64_y (hd:∀d∈dR (hR H64),d.sat N):N.i 103=iop .shr .u64 (N.i 102) 3∧N.i 136=iop .shr .u64 (N.i 135) 6∧N.i 169=iop .shr .u64 (N.i 168) 1∧N.i 202=iop .shr .u64 (N.i 201) 12 :=
 ⟨fB hd (nd:= .bin .shr .u64 (.var 102) (.kst 3)) (by kernel_rfl),fB hd (nd:= .bin .shr .u64 (.var 135) (.kst 6)) (by kernel_rfl),fB hd (nd:= .bin .shr .u64 (.var 168) (.kst 1)) (by kernel_rfl),fB hd (nd:= .bin .shr .u64 (.var 201) (.kst 12)) (by kernel_rfl)⟩
end
theorem law_one {N:Num}{x:Nat}{t:Pol}(h:(Tst.law 1 [.var x] t 0).holds N):N.i x=t.ev N:=by
 obtain ⟨z,hz⟩:=h;have hz:valW 1 [N.i x]-t.ev N=0*z:=hz;simp only[valW] at hz;omega
theorem clamp0:((List.range 256).all fun i=>decide (iop .and .u8 (i:Int) 248=iop .andNot .u8 (i:Int) 7))=true:=by kernel_rfl
theorem limbs {U:Int}(_h0:0≤U) :
 [U%18446744073709551616%2251799813685248,U/281474976710656%18446744073709551616/8%2251799813685248,U/79228162514264337593543950336%18446744073709551616/64%2251799813685248,U/5708990770823839524233143877797980545530986496%18446744073709551616/2%2251799813685248,
  U/6277101735386680763835789423207666416102355444464034512896%18446744073709551616/4096%2251799813685248]=digW w51 5 (U%57896044618658097711785492504343953926634992332820282019728792003956564819968):=by
 have e:w51=2251799813685248:=rfl;simp only[digW,e];refine List.cons_eq_cons.2 ⟨by omega,List.cons_eq_cons.2 ⟨by omega,List.cons_eq_cons.2 ⟨by omega,List.cons_eq_cons.2 ⟨by omega,List.cons_eq_cons.2 ⟨by omega,rfl⟩⟩⟩⟩⟩
theorem start64 {F:Fns}(hF:F91 F){N:Num}(hf:N.f=F)(hd:∀d∈dR (hR H64),d.sat N)(hu:Bytes (N.a 2))(ul:(N.a 2).length=32):xN.map (·.ev N)=digW w51 5 (valW 256 (um (N.a 2))):=by
 have hb:=H64_b;simp only[h64B,aG] at hb;obtain ⟨-,b1,b2,b3,b4,b5⟩:=hb;have w1:=wn_ok hd b1 (by omega);have w2:=wn_ok hd b2 (by omega);have w3:=wn_ok hd b3 (by omega);have w4:=wn_ok hd b4 (by omega);have w5:=wn_ok hd b5 (by omega);have byt:∀ {k:Nat},∀v∈((N.a 2).drop k).take 8,0≤v∧v≤255:=fun v hv=>by have:=hu v (List.mem_of_mem_drop (dQ hv));omega
 have hent:EntOk N hEnt:=by
  intro x n hi hm j hj;obtain ⟨y,hy,e⟩:=dC.1 hm;simp only[aD] at e;obtain ⟨rfl,rfl,rfl⟩:=e;obtain rfl:j=0:=by omega
  rw[cJ];simp only[cX] at hy;rcases hy with (((hy | hy) | hy) | hy) | hy
  ·exact byt _ (w1▸dG hy)
  ·exact byt _ (w2▸dG hy)
  ·exact byt _ (w3▸dG hy)
  ·exact byt _ (w4▸dG hy)
  ·exact byt _ (w5▸dG hy)
 obtain ⟨-,k2⟩:=okB_ok H64_ok (N:=N) (by rw[hf];exact cxE_ok hF) (fun _ _ h=>by cases h) hent hd;simp only[aC] at k2;obtain ⟨l1,l2,l3,l4,l5,-⟩:=k2
 replace l1:=law_one l1
 replace l2:=law_one l2
 replace l3:=law_one l3
 replace l4:=law_one l4
 replace l5:=law_one l5
 rw[fU,w1,window hu (by omega)] at l1;rw[fU,w2,window hu (by omega)] at l2;rw[fU,w3,window hu (by omega)] at l3;rw[fU,w4,window hu (by omega)] at l4;rw[fU,w5,window hu (by omega)] at l5;obtain ⟨x1,x2,x3,x4,x5⟩:=H64_x hd;obtain ⟨y2,y3,y4,y5⟩:=H64_y hd;have rng:∀ {a:Int},0≤a%18446744073709551616∧a%18446744073709551616<18446744073709551616:=fun {a}=>by omega
 have lb:∀ {W:Int} {s:Nat},s≤64→0≤W∧W<18446744073709551616→iop .and .u64 (iop .shr .u64 W (s:Int)) 2251799813685247=W/2^s%2251799813685248:=fun hs h=>limb_eq h.1 h.2 hs
 rw[y2,l2] at x2;rw[y3,l3] at x3;rw[y4,l4] at x4;rw[y5,l5] at x5;rw[l1] at x1;have x1:N.i 71=_:=x1.trans (and_mask (k:= .u64) (c:=51) rfl rng.1 rng.2 (by decide));have x2:N.i 104=_:=x2.trans (lb (s:=3) (by decide) rng);have x3:N.i 137=_:=x3.trans (lb (s:=6) (by decide) rng);have x4:N.i 170=_:=x4.trans (lb (s:=1) (by decide) rng);have x5:N.i 203=_:=x5.trans (lb (s:=12) (by decide) rng);show [N.i 71,N.i 104,N.i 137,N.i 170,N.i 203]=_
 rw[(um_val hu ul).1,←limbs (valW_rng (w:=256) (by decide) (bytes_dig hu)).1,x1,x2,x3,x4,x5];rw[Int.pow_zero,Int.ediv_one,show (256:Int)^6=281474976710656 by decide,show (256:Int)^12=79228162514264337593543950336 by decide,show (256:Int)^19=5708990770823839524233143877797980545530986496 by decide,show (256:Int)^24=6277101735386680763835789423207666416102355444464034512896 by decide];rfl
def P64 (_:List Int)(ls:List (List Int)):Prop :=
 match ls with
 | [g,_,s,u]=>g=[1,0,0,0,0]∧Bytes s∧Bytes u
 | _=>False
def W64 (_:List Int)(ls:List (List Int)):List Int :=
 match ls with
 | [_,_,s,u]=>xfn s u
 | _=>[]
structure F64 (F:Fns):Prop extends FE F where
 p64:F.p 64=P64
 a64:F.a 64=W64
theorem tabE_ok {F:Fns}(h:FE F):TabOk F tabE :=
 ⟨⟨by kernel_rfl,fun c hc=>by simp only[aX] at hc;subst hc;exact spec106 h.p106 h.i106⟩,⟨by kernel_rfl,spec100 h.toF91⟩,⟨by kernel_rfl,spec91 h.toF91⟩,⟨by kernel_rfl,spec107 h.toF107⟩,trivial⟩
section
variable {N:Num}
theorem O64_w:(swB (dE O64) 62 37 47 nXe nXf&&swB (dE O64) 85 42 52 nZe nZf)=true:=by kernel_rfl
theorem O64_k (hd:∀d∈dE O64,d.sat N):N.i 62=iop .xor .u64 18446744073709551615 (iop .sub .u64 (IntKind.u64.wrap (N.i 57)) 1)∧N.i 85=iop .xor .u64 18446744073709551615 (iop .sub .u64 (IntKind.u64.wrap (N.i 57)) 1):=by
 have a1:=fB hd (x:=62) (nd:= .bin .xor .u64 (.kst 18446744073709551615) (.var 61)) (by kernel_rfl);have a2:=fB hd (x:=61) (nd:= .bin .sub .u64 (.var 60) (.kst 1)) (by kernel_rfl);have a3:=fB hd (x:=60) (nd:= .conv .u64 (.var 57)) (by kernel_rfl);have b1:=fB hd (x:=85) (nd:= .bin .xor .u64 (.kst 18446744073709551615) (.var 84)) (by kernel_rfl);have b2:=fB hd (x:=84) (nd:= .bin .sub .u64 (.var 83) (.kst 1)) (by kernel_rfl)
 have b3:=fB hd (x:=83) (nd:= .conv .u64 (.var 57)) (by kernel_rfl);simp only[Nd.ev,Ar.ev] at a1 a2 a3 b1 b2 b3;rw[a1,b1,a2,b2,a3,b3];exact ⟨rfl,rfl⟩
end
theorem cl_bytes {s:List Int}(h:Bytes s):Bytes (cl s):=by
 intro d hd;have w:∀ {x:Int},0≤IntKind.u8.wrap x∧IntKind.u8.wrap x<256:=fun {x}=>by rw[IntKind.wrap_u8];omega
 simp only[cl,cD,cX,List.mem_nil_iff,or_false] at hd;rcases hd with e | e | e
 ·rw [e];exact w
 ·exact h d (List.mem_of_mem_drop (dQ e))
 ·rw [e];exact w
theorem cl_length {s:List Int}(h:s.length=32):(cl s).length=32:=by
 simp only[cl,bU,aO,bE,aT,h,dV];rfl
theorem V16_ofB {b:List Int}(h:Bytes b)(hl:b.length=32):V16 (ofB b)=valW 256 b:=by
 have r:=valW_rng (w:=256) (by decide) (bytes_dig h);rw[hl] at r;exact digW_val (by decide) r.1 (Int.lt_of_lt_of_le r.2 (by decide))
theorem shape64 {is:List Int}{ls:List (List Int)}(h:Shape ct64.ps is ls):∃g d s u,is=[]∧ls=[g,d,s,u]∧g.length=5∧d.length=32∧s.length=32∧u.length=32:=by
 obtain rfl:=eV rfl h
 match ls,h with
 | [g,d,s,u],h=>exact ⟨g,d,s,u,rfl,rfl,h.1,h.2.1,h.2.2.1,h.2.2.2.1⟩
theorem head64 {F:Fns}(hF:F91 F){N:Num}{g d s u:List Int}(hf:N.f=F)(hd:∀x∈dR (hR H64),x.sat N)(e0:N.a 0=d)(e1:N.a 1=s)(e2:N.a 2=u)(hg:rowI N 0 5=g)(g1:g=[1,0,0,0,0])(dl:d.length=32)(sl:s.length=32)(ul:u.length=32)(bs:Bytes s)(bu:Bytes u) :
 (∀ o∈oR (hR H64),o.holds N)∧A64 (pn (iR (hR H64)) (aR (hR H64)) N) (cl s) (start (ofB (um u))) 0:=by
 refine ⟨fun o ho=> ?_,?_⟩
 ·have:=bT.1 H64_o o ho;split at this
  ·rename_i j A;simp only[aG,eM] at this;have hj:j<32:=aM this.1;have hl:(N.a A).length=32:=by
    rcases this.2 with h | h
    ·rw [aF h,e1,sl]
    ·rw [aF h,e2,ul]
   show 0≤Int.ofNat j∧Int.ofNat j<((N.a A).length:Int);rw[hl];exact ⟨cR j,by show (j:Int)<32;omega⟩
  ·cases this
 ·obtain ⟨i1,i2,i3,i4,i5,i6,i7⟩:=H64_i;have hb:=H64_b;simp only[h64B,aG] at hb;have at_s:∀j,j<32→N.i (5+j)=s.getD j 0:=fun j hj=>by rw[rd_ok hd hb.1 hj,e1,bM]
  have hx:=start64 hF hf hd (by rw[e2];exact bu) (by rw[e2];exact ul);rw[e2] at hx;obtain ⟨uv,ub,ulen⟩:=um_val bu ul;have u0:=(valW_rng (w:=256) (by decide) (bytes_dig bu)).1;have um0:0≤valW 256 (um u)∧valW 256 (um u)<57896044618658097711785492504343953926634992332820282019728792003956564819968:=by rw[uv];omega
  have rx:∀ {x:Nat},slA (iR (hR H64)) x 5=xN→rel (pn (iR (hR H64)) (aR (hR H64)) N) x (ofB (um u)):=fun {x} h=>by
   unfold rel;rw[gF,h,hx];refine ⟨⟨gW,fun d hd=> ?_⟩,?_⟩
   ·have:=digW_dig (w:=w51) (by decide) d hd;simp only[w51] at this;omega
   ·rw [V16_ofB ub ulen];exact cg.of (digW_val (by decide) um0.1 um0.2)
  have ro:∀ {x:Nat},slA (iR (hR H64)) x 5=vs 0 5→rel (pn (iR (hR H64)) (aR (hR H64)) N) x oneL:=fun {x} h=>by unfold rel;rw[gF,h,gD,hg,g1];exact ⟨⟨rfl,by decide⟩,cg.of (by decide)⟩
  have lo:oneL.length=16:=rfl;have lz:zeroL.length=16:=rfl;have lu:(ofB (um u)).length=16:=gW;have p57:(pn (iR (hR H64)) (aR (hR H64)) N).i 57=0∧(pn (iR (hR H64)) (aR (hR H64)) N).i 58=254:=by
   have:rowI (pn (iR (hR H64)) (aR (hR H64)) N) 57 2=[0,254]:=by rw[gF,i7];rfl
   exact ⟨by rw[←fZ (N:=pn (iR (hR H64)) (aR (hR H64)) N) (x:=57) (n:=2) (j:=0) (by decide),this];rfl,by rw[←fZ (N:=pn (iR (hR H64)) (aR (hR H64)) N) (x:=57) (n:=2) (j:=1) (by decide),this];rfl⟩
  refine ⟨by omega,by rw[p57.2];rfl,p57.1,?_,?_,?_,?_,?_,?_,?_⟩
  ·rw [gF,i1];simp only[eN,cl,aI,List.map_append,aK];rw[gD];show N.i 37::(rowI N 6 30++[N.i 39])=_;have c0:N.i 37=iop .andNot .u8 (s.getD 0 0) 7:=by
    obtain ⟨x,ex,bx⟩:=byte_at bs 0;have:=cM (bT.1 clamp0 x (cE.2 bx));rw[H64_37 hd,show (5:Nat)=5+0 from rfl,at_s 0 (by decide),ex,this]
   have c31:N.i 39=iop .or .u8 (iop .and .u8 (s.getD 31 0) 127) 64:=by rw[H64_39 hd,show (36:Nat)=5+31 from rfl,at_s 31 (by decide)]
   have hr:rowI N 6 30=(s.drop 1).take 30:=by
    refine fP (by rw[bE,aT,sl];rfl) fun j hj=> ?_
    rw[show 6+j=5+(1+j) by omega,at_s (1+j) (by omega),aE,aE,cY hj,cH]
   rw[c0,c31,hr]
  ·show rel _ 32 (five (start (ofB (um u))) 0);rw[start,five_0 lu];exact rx i2
  ·show rel _ 37 (five (start (ofB (um u))) 1);rw[start,five_s lu,five_0 lo];exact ro i3
  ·show rel _ 42 (five (start (ofB (um u))) 2);rw[start,five_s lu,five_s lo,five_0 lz];unfold rel;rw[gF,i4];show LimO [0,0,0,0,0]∧cg (V51 [0,0,0,0,0]) (V16 zeroL);exact ⟨⟨rfl,by decide⟩,cg.of (by decide)⟩
  ·show rel _ 47 (five (start (ofB (um u))) 3);rw[start,five_s lu,five_s lo,five_s lz,five_0 lu];exact rx i5
  ·show rel _ 52 (five (start (ofB (um u))) 4);rw[start,five_s lu,five_s lo,five_s lz,five_s lu,five_l lo];exact ro i6
  ·rw [pnA_at H64_a,e0];exact dl
theorem end64 {F:Fns}(hF:FE F){N:Num}{eb w0:List Int}(hf:N.f=F)(hd:∀d∈dE O64,d.sat N)(hA:A64 N eb w0 255) :
 (∀ o∈oE O64,o.holds N)∧N.a 79=(fun r:List Int×Int=>if r.2=1 then quoL (five r.1 3) (five r.1 4) else quoL (five r.1 1) (five r.1 2)) (lad (ofB eb) w0 255):=by
 have hs01:=lad01 (ofB eb) w0 255;obtain ⟨m1,m2⟩:=O64_k hd;rw[hA.sw,mask01 hs01] at m1 m2;have hw:=O64_w;simp only[aG] at hw;have rg:∀ {x:Nat} {l:List Int},rel N x l→∀j,j<5→0≤N.i (x+j)∧N.i (x+j)<18446744073709551616:=fun {x l} h j hj=>by have:=h.1.2 (N.i (x+j)) (dI (rowI_get hj));omega
 obtain ⟨sx0,sx1⟩:=sw_ok hd hw.1 rfl rfl (rg hA.r1) (rg hA.r3);obtain ⟨sz0,sz1⟩:=sw_ok hd hw.2 rfl rfl (rg hA.r2) (rg hA.r4);have fin:∀ {a b:List Int},LimO (nXe.map N.i)∧cg (V51 (nXe.map N.i)) (V16 a)→LimO (nZe.map N.i)∧cg (V51 (nZe.map N.i)) (V16 b)→(∀ o∈oE O64,o.holds N)∧N.a 79=quoL a b:=fun {a b} ha hb=>by
  have hq:Pw (V16 b) kInv (V16 (pwN b pm2 256)):=by
   have:=pwN_pw (a:=b) (e:=pm2) (n:=256)
   rwa [ex_pm2] at this
  obtain ⟨k1,k2⟩:=inv64 hF hf hd hA.dl (by rw[hA.pos];decide) ha.1 ha.2 hb.1 hb.2 hq;refine ⟨k1,?_⟩;rw[k2,quoL,muL,opL,dgp,bytesL_dig (Int.emod_nonneg _ (by decide))]
 by_cases h1:(lad (ofB eb) w0 255).2=1
 ·rw [bG h1] at m1 m2;have a:=fin (a:=five (lad (ofB eb) w0 255).1 3) (b:=five (lad (ofB eb) w0 255).1 4) (by rw[(sx1 m1).1];exact hA.r3) (by rw[(sz1 m2).1];exact hA.r4);exact ⟨a.1,a.2.trans (by simp only[bG h1])⟩
 ·rw [bC h1] at m1 m2;have a:=fin (a:=five (lad (ofB eb) w0 255).1 1) (b:=five (lad (ofB eb) w0 255).1 2) (by rw[(sx0 m1).1];exact hA.r1) (by rw[(sz0 m2).1];exact hA.r2);exact ⟨a.1,a.2.trans (by simp only[bC h1])⟩
theorem spec64 {F:Fns}(hF:F64 F):CSpec Tryz.prog F 64 ct64:=by
 refine gA (args:=argsOf ct64) (σe:=stOf ct64) rfl Tryz.func64 (fM (by kernel_rfl)) (by kernel_rfl) (by kernel_rfl) fun is ls ws we Ee ac hs hp' hent hat=> ?_
 obtain ⟨g,d,s,u,rfl,rfl,gl,dl,sl,ul⟩:=shape64 hs;obtain ⟨g1,bs,bu⟩:P64 [] [g,d,s,u]:=by rw[←hF.p64];exact hp'
 have hct:=eU (tabE_ok hF.toFE);have hres:F.a 64 [] [g,d,s,u]=xfn s u:=by rw[hF.a64];rfl
 have hlen:∀L,rwArg ct64.ps [] [g,d,s,u]=some L→(F.a ct64.fw [] [g,d,s,u]).length=L.length:=fun L hL=>by
  have hL:some d=some L:=hL;simp only[aA] at hL;subst hL;show (F.a 64 [] [g,d,s,u]).length=_;rw[hres,dl];unfold xfn quoL bytesL;show (if _ then _ else _:List Int).length=32
  split <;> rw[bF,cV]
 refine to_headX hm hct (headR H64_c) (by kernel_rfl) rfl rfl hat hent.inv fun hag hf hd=> ?_
 obtain ⟨ho,h0⟩:=head64 hF.toF91 (g:=g) hf hd (hag.a 0 (by decide)) (hag.a 1 (by decide)) (hag.a 2 (by decide)) (fP gl fun j hj=>by rw[hag.i _ (by show 0+j<5;omega)];show (numsL ct64.ps [] [g,d,s,u]).getD (0+j) 0=_;simp only[ct64,fe,numsL,bJ,bM]) g1 dl sl ul bs bu
 refine ⟨ho,fun a1 w1 hat1=> ?_⟩;refine gQ (fun k ac w=>∃N n,k=255-n∧A64 N (cl s) (start (ofB (um u))) n∧At F Tryz.f64.ntmps (num0 F ct64.ps [] [g,d,s,u]) Ee (stOf ct64) we T64 s64g N ac w) (k:=255) ⟨_,0,rfl,h0,hat1⟩ ?_;clear hat hat1 hag hd h0 hf ho;intro k ac w hJ;obtain ⟨N,n,hk,hA,hat⟩:=hJ;have hn:=hA.hn;rcases bL n 255 with hlt | hge
 ·refine to_roundX hm hct R64_s (by kernel_rfl) rfl rfl hat hent.inv fun hag hf hd=> ?_
  obtain ⟨k1,k2⟩:=keep64 hF.toF91 hf hd (hA.agr hag) hlt (cl_bytes bs) (cl_length sl);exact ⟨k1,fun a2 w2 hat2=>⟨254-n,by omega,_,n+1,by omega,k2,hat2⟩⟩
 ·obtain rfl:n=255:=by omega
  refine gH hm hct O64_s (by kernel_rfl) hat hent fun M hag hf hd=> ?_
  obtain ⟨k1,k2⟩:=end64 hF.toFE hf hd (hA.agr hag);refine ⟨k1,⟨nofun,?_,trivial⟩,hlen⟩;show M.a 79=F.a 64 _ _;rw[k2,hres];rfl
end Go.Proofs.YtnfikgagkamioaaGreatDoor
