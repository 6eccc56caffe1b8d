/- The reference's stream does as its contract says. -/
import Derived.Test.YtnfikgagkamioaaGreatDoorSf17
import Derived.Test.YtnfikgagkamioaaGreatDoorS12f
import Derived.Test.YtnfikgagkamioaaGreatDoorSa50
namespace Go.Proofs.YtnfikgagkamioaaGreatDoor.S
open Go.Sy
def P34 (_:List Int)(ls:List (List Int)):Prop :=
 match ls with
 | [_,m,key]=>Bytes m∧Bytes key∧m.length≤1099511627776
 | _=>False
def A34 (_:List Int)(ls:List (List Int)):List Int :=
 match ls with
 | [_,m,key]=>tagL key m
 | _=>[]
structure F34 (F:Fns):Prop extends F49 F where
 p44:F.p 44=P44
 a44:F.a 44=A44
 p50:F.p 50=P50
 a50:F.a 50=A50
 p34:F.p 34=P34
 a34:F.a 34=A34
theorem tab34_ok {F:Fns}(h:F34 F):TabOk F tab34 :=
 ⟨⟨by kernel_rfl,fun c hc=>by simp only[aX] at hc;subst hc;exact spec44 h.toF49 h.p44 h.a44⟩,
  ⟨by kernel_rfl,fun c hc=>by simp only[aX] at hc;subst hc;exact spec49 h.toF49⟩,
  ⟨by kernel_rfl,fun c hc=>by simp only[aX] at hc;subst hc;exact spec50 h.p50 h.a50⟩,trivial⟩
theorem list16 {L:List Int}(h:L.length=16):[L.getD 0 0,L.getD 1 0,L.getD 2 0,L.getD 3 0,L.getD 4 0,L.getD 5 0,L.getD 6 0,L.getD 7 0,L.getD 8 0,L.getD 9 0,L.getD 10 0,L.getD 11 0,L.getD 12 0,L.getD 13 0,L.getD 14 0,L.getD 15 0]=L:=by
 match L,h with
 | [_,_,_,_,_,_,_,_,_,_,_,_,_,_,_,_],_=>rfl
theorem list32 {L:List Int}(h:L.length=32):[L.getD 0 0,L.getD 1 0,L.getD 2 0,L.getD 3 0,L.getD 4 0,L.getD 5 0,L.getD 6 0,L.getD 7 0,L.getD 8 0,L.getD 9 0,L.getD 10 0,L.getD 11 0,L.getD 12 0,L.getD 13 0,L.getD 14 0,L.getD 15 0,
 L.getD 16 0,L.getD 17 0,L.getD 18 0,L.getD 19 0,L.getD 20 0,L.getD 21 0,L.getD 22 0,L.getD 23 0,L.getD 24 0,L.getD 25 0,L.getD 26 0,L.getD 27 0,L.getD 28 0,L.getD 29 0,L.getD 30 0,L.getD 31 0]=L:=by
 match L,h with
 | [_,_,_,_,_,_,_,_,_,_,_,_,_,_,_,_,_,_,_,_,_,_,_,_,_,_,_,_,_,_,_,_],_=>rfl
def st7 (H:Int)(key:List Int):List Int:=[H%18446744073709551616,H/18446744073709551616%18446744073709551616,H/340282366920938463463374607431768211456,r0K key,r1K key,s0K key,s1K key]
def RK (key:List Int):Int:=r0K key+r1K key*18446744073709551616
theorem limb_eq (H:Int):H%18446744073709551616+H/18446744073709551616%18446744073709551616*18446744073709551616+H/340282366920938463463374607431768211456*340282366920938463463374607431768211456=H:=by omega
theorem A49_st (H:Int)(key M:List Int):A49 [] [st7 H key,M]=st7 (updH (RK key) M.length H M) key:=by
 simp only[A49,st7,limb_eq];rfl
theorem limbs_ok {H:Int}(h0:0≤H)(h1:H<1701411834604692317316873037158841057280):LimbsOk (H%18446744073709551616) (H/18446744073709551616%18446744073709551616) (H/340282366920938463463374607431768211456):=by
 unfold LimbsOk;omega
theorem r_bd {key:List Int}(hB:Bytes key)(hl:key.length=32):(0≤r0K key∧r0K key≤1152921487695413247)∧(0≤r1K key∧r1K key≤1152921487695413244) :=
 ⟨and_le (k:=1152921487695413247) (leV8 (hB.take 8) (by rw[bE];omega)) (by decide),and_le (k:=1152921487695413244) (leV8 (bytes_sub hB 8 8) (by rw[bE,aT];omega)) (by decide)⟩
theorem RK_bd {key:List Int}(hB:Bytes key)(hl:key.length=32):0≤RK key∧RK key<21267647932558653966460912964485513216:=by
 have:=r_bd hB hl;unfold RK;omega
theorem s_bd {key:List Int}(hB:Bytes key)(hl:key.length=32):(0≤s0K key∧s0K key<18446744073709551616)∧(0≤s1K key∧s1K key<18446744073709551616) :=
 ⟨leV8 (bytes_sub hB 16 8) (by rw[bE,aT];omega),leV8 (bytes_sub hB 24 8) (by rw[bE,aT];omega)⟩
theorem P49_st {H:Int}{key M:List Int}(h0:0≤H)(h1:H<1701411834604692317316873037158841057280)(hB:Bytes key)(hl:key.length=32)(hM:Bytes M):P49 [] [st7 H key,M]:=by
 obtain ⟨a,b,c⟩:=limbs_ok h0 h1;exact ⟨a,b,c,(r_bd hB hl).1,(r_bd hB hl).2,hM⟩
theorem P50_st {H:Int}{key z:List Int}(h0:0≤H)(h1:H<1701411834604692317316873037158841057280)(hB:Bytes key)(hl:key.length=32) :
 P50 [] [z,[H%18446744073709551616,H/18446744073709551616%18446744073709551616,H/340282366920938463463374607431768211456],[s0K key,s1K key]]:=⟨limbs_ok h0 h1,(s_bd hB hl).1,(s_bd hB hl).2⟩
theorem A50_st (H:Int)(key z:List Int):A50 [] [z,[H%18446744073709551616,H/18446744073709551616%18446744073709551616,H/340282366920938463463374607431768211456],[s0K key,s1K key]]=Sy.outB H (s0K key+s1K key*18446744073709551616):=by
 simp only[A50,limbV,limb_eq]
theorem outB_length (H s:Int):(Sy.outB H s).length=16:=leB_length 16 _
theorem rem16 (L:Nat):iop .rem .i64 (L:Int) 16=((L%16:Nat):Int):=by
 simp only[iop];rw[Int.tmod_eq_emod_of_nonneg (by omega)];rfl
theorem wrap_i64 {x:Int}(h0:0≤x)(h1:x<9223372036854775808):IntKind.i64.wrap x=x:=by rw[IntKind.wrap_i64];omega
theorem sub16 {L:Nat}(h:L≤1099511627776):iop .sub .i64 (L:Int) ((L%16:Nat):Int)=((L-L%16:Nat):Int):=by
 simp only[iop];rw[wrap_i64 (by omega) (by omega)];omega
theorem add0 {r:Nat}(h:r<16):iop .add .i64 0 (r:Int)=(r:Int):=by
 simp only[iop];rw[wrap_i64 (by omega) (by omega)];omega
theorem gt0 {x:Int}(h:0<x):(!((bif icmp .gtr x 0 then (1:Int) else 0)==0))=true:=fL (bS h)
theorem congr32 {f:Nat→Int}{L:List Int}(h:∀x,x<32→f (17+x)=L.getD x 0):[f 17,f 18,f 19,f 20,f 21,f 22,f 23,f 24,f 25,f 26,f 27,f 28,f 29,f 30,f 31,f 32,f 33,f 34,f 35,f 36,f 37,f 38,f 39,f 40,f 41,f 42,f 43,f 44,f 45,f 46,f 47,f 48] =
 [L.getD 0 0,L.getD 1 0,L.getD 2 0,L.getD 3 0,L.getD 4 0,L.getD 5 0,L.getD 6 0,L.getD 7 0,L.getD 8 0,L.getD 9 0,L.getD 10 0,L.getD 11 0,L.getD 12 0,L.getD 13 0,L.getD 14 0,L.getD 15 0,
 L.getD 16 0,L.getD 17 0,L.getD 18 0,L.getD 19 0,L.getD 20 0,L.getD 21 0,L.getD 22 0,L.getD 23 0,L.getD 24 0,L.getD 25 0,L.getD 26 0,L.getD 27 0,L.getD 28 0,L.getD 29 0,L.getD 30 0,L.getD 31 0]:=by
 rw[←h 0 (by decide),←h 1 (by decide),←h 2 (by decide),←h 3 (by decide),←h 4 (by decide),←h 5 (by decide),←h 6 (by decide),←h 7 (by decide),←h 8 (by decide),←h 9 (by decide),←h 10 (by decide),←h 11 (by decide),←h 12 (by decide),←h 13 (by decide),←h 14 (by decide),←h 15 (by decide),←h 16 (by decide),←h 17 (by decide),←h 18 (by decide),←h 19 (by decide),←h 20 (by decide),←h 21 (by decide),←h 22 (by decide),←h 23 (by decide),←h 24 (by decide),←h 25 (by decide),←h 26 (by decide),←h 27 (by decide),←h 28 (by decide),←h 29 (by decide),←h 30 (by decide),←h 31 (by decide)]
set_option maxHeartbeats 4000000 in
theorem spec34 {F:Fns}(hF:F34 F):CSpec Tryz.prog F 62 ct34:=by
 refine gA (args:=argsOf ct34) (σe:=stOf ct34) rfl Tryz.func62 (fM (by kernel_rfl)) (by kernel_rfl) (by kernel_rfl) fun is ls ws we Ee a hs hp hent hat=> ?_
 obtain rfl:=eV rfl hs
 match ls,hs with
 | [out,m,key],hs =>
 obtain ⟨hlo,hlk,-⟩:=hs;have hp:P34 [] [out,m,key]:=by rw[←hF.p34];exact hp
 obtain ⟨hB,hBk,hbig⟩:=hp;have hlen:∀L,rwArg ct34.ps [] [out,m,key]=some L→(F.a ct34.fw [] [out,m,key]).length=L.length:=fun L h=>by
  have:L=out:=by simp only[ct34,rwArg,aA] at h;exact h.symm
  subst this;show (F.a 34 [] _).length=_;rw[hF.a34,hlo];exact outB_length _ _
 have hnum:∀x,x<49→(num0 F ct34.ps [] [out,m,key]).i x=(out++(m.length:Int)::key).getD x 0:=fun x _=>by show (numsL ct34.ps [] [out,m,key]).getD x 0=_;simp only[ct34,numsL,bJ]
 have hnum16:(out++(m.length:Int)::key).getD 16 0=(m.length:Int):=by rw[aE,aP (by omega),hlo];rfl
 have hkey:∀x,x<32→(num0 F ct34.ps [] [out,m,key]).i (17+x)=key.getD x 0:=fun x hx=>by rw[hnum _ (by omega),aE,aP (by omega),hlo,show 17+x-16=x+1 by omega,List.getElem?_cons_succ,aE]
 have hz:(0:Int)<1701411834604692317316873037158841057280:=by decide
 have hR:=RK_bd hBk hlk;have hP44:∀z,P44 [] [key,z]:=fun z=>hBk
 rcases dU (m.length-m.length%16) with hq | hq <;> rcases dU (m.length%16) with hr | hr
 ·
  have hm0:m=[]:=cI.1 (by omega);refine to_end hm (eU (tab34_ok hF)) run34d (by kernel_rfl) hat hent fun N hag hf hd=> ?_
  have e:∀x,x<49→N.i x=(num0 F ct34.ps [] [out,m,key]).i x:=hag.i;have ea:N.a 0=m:=hag.a 0 (by decide);have e16:N.i 16=(m.length:Int):=by rw[e 16 (by decide),hnum 16 (by decide)];exact hnum16
  have ek:∀x,x<32→N.i (17+x)=key.getD x 0:=fun x hx=>by rw[e _ (by omega)];exact hkey x hx
  clear e hag hat;simp only[aC,Df.sat,Nd.ev,Ad.ev,Ar.ev,aI,aK,hf,hF.a44,hF.a50] at hd;obtain ⟨q91,q90,q89,q88,q87,q86,q85,q84,q83,q82,q81,q80,q79,q78,q77,q76,w8,q75,q74,q73,q72,q71,q70,q69,q68,q67,q66,q65,q64,q63,q62,q61,q60,w7,w6,w5,w4,q59,q58,q57,q56,q55,q54,q53,q52,q51,q50,q49,w3,w2,w1,-⟩:=hd;have t1:N.a 1=key:=by rw[w1];exact (congr32 ek).trans (list32 hlk)
  have t3:N.a 3=st7 0 key:=by rw[w3,t1,w2];rfl
  have t6:N.a 6=[s0K key,s1K key]:=by rw[w6,q54,q55,t3];rfl
  have t5:N.a 5=[(0:Int)%18446744073709551616,(0:Int)/18446744073709551616%18446744073709551616,(0:Int)/340282366920938463463374607431768211456]:=by rw[w5,q49,q50,q51,t3];rfl
  have t7:N.a 7=Sy.outB ((0:Int)) (s0K key+s1K key*18446744073709551616):=by rw[w7,t5,t6];exact A50_st _ _ _
  have l7:(N.a 7).length=16:=by rw[t7];exact outB_length _ _
  have t8:N.a 8=N.a 7:=by rw[w8,q60,q61,q62,q63,q64,q65,q66,q67,q68,q69,q70,q71,q72,q73,q74,q75];exact list16 l7
  have h57:N.i 57=0:=by rw[q57,q56,e16,rem16,sub16 hbig,hq];rfl
  have h16:N.i 16=0:=by rw[e16,hm0];rfl
  refine ⟨?_,⟨nofun,?_,trivial⟩,hlen⟩
  ·simp only[aC,Ob.holds,Ar.ev,aI,aK,hf,hF.p44,hF.p50,t1,t5,t6,q59,q58,h57,h16];exact ⟨P50_st (bK _) hz hBk hlk,rfl,by decide,rfl,by decide,by decide,by decide,hP44 _,nofun⟩
  ·show List.map (fun x=>Ar.ev N x) _=F.a 34 _ _;rw[hF.a34];simp only[aI,aK,Ar.ev,q76,q77,q78,q79,q80,q81,q82,q83,q84,q85,q86,q87,q88,q89,q90,q91,t8];refine (list16 l7).trans ?_;rw[t7];subst hm0;rfl
 ·
  have hmr:m.length=m.length%16:=by omega
  refine to_end hm (eU (tab34_ok hF)) run34c (by kernel_rfl) hat hent fun N hag hf hd=> ?_
  have e:∀x,x<49→N.i x=(num0 F ct34.ps [] [out,m,key]).i x:=hag.i;have ea:N.a 0=m:=hag.a 0 (by decide);have e16:N.i 16=(m.length:Int):=by rw[e 16 (by decide),hnum 16 (by decide)];exact hnum16
  have ek:∀x,x<32→N.i (17+x)=key.getD x 0:=fun x hx=>by rw[e _ (by omega)];exact hkey x hx
  clear e hag hat;simp only[aC,Df.sat,Nd.ev,Ad.ev,Ar.ev,aI,aK,hf,hF.a44,hF.a49,hF.a50] at hd;obtain ⟨q117,q116,q115,q114,q113,q112,q111,q110,q109,q108,q107,q106,q105,q104,q103,q102,w15,q101,q100,q99,q98,q97,q96,q95,q94,q93,q92,q91,q90,q89,q88,q87,q86,w14,w13,w12,w11,q85,q84,q83,q82,q81,q80,q79,w10,w9,w8,w7,q78,q77,q76,q75,q74,q73,q72,q71,q70,q69,q68,q67,q66,q65,q64,q63,q62,q61,w6,w5,w4,q60,q59,q58,q57,q56,q55,q54,q53,q52,q51,q50,q49,w3,w2,w1,-⟩:=hd
  have t1:N.a 1=key:=by rw[w1];exact (congr32 ek).trans (list32 hlk)
  have t3:N.a 3=st7 0 key:=by rw[w3,t1,w2];rfl
  have h57:N.i 57=0:=by rw[q57,q56,e16,rem16,sub16 hbig,hq];rfl
  have h60:N.i 60=(m.length:Int):=(q60.trans (bC (by rw[e16];omega))).trans e16;have h77:N.i 77=(m.length:Int):=by rw[q77,h60];exact add0 (by omega)
  have t4:N.a 4=m:=by rw[w4,ea,h60];show (m.drop 0).take (m.length:Int).toNat=m;rw[bD,bW,cS]
  have t6:N.a 6=m++List.replicate (16-m.length) 0:=by rw[w6,w5,t4];show List.take 0 _++m++List.drop (0+m.length) (List.replicate 16 (0:Int))=_;rw[List.take_zero,cC,bM,List.drop_replicate]
  have l6:(N.a 6).length=16:=by rw[t6,aO,aW];omega
  have t8:N.a 8=N.a 6:=by rw[w8,q61,q62,q63,q64,q65,q66,q67,q68,q69,q70,q71,q72,q73,q74,q75,q76];exact list16 l6
  have t9:N.a 9=m:=by rw[w9,t8,h77,t6];show ((m++List.replicate (16-m.length) 0).drop 0).take (m.length:Int).toNat=m;rw[bD,bW,List.take_left]
  have t7:N.a 7=st7 0 key:=by rw[w7,q49,q50,q51,q52,q53,q54,q55,t3];rfl
  have t10:N.a 10=st7 (updH (RK key) m.length 0 m) key:=by rw[w10,t7,t9];exact A49_st _ _ _
  have hH:=updH_bound hR.1 hR.2 m.length hB (bK 0) hz;have t13:N.a 13=[s0K key,s1K key]:=by rw[w13,q84,q85,t10];rfl
  have t12:N.a 12=[updH (RK key) m.length 0 m%18446744073709551616,updH (RK key) m.length 0 m/18446744073709551616%18446744073709551616,updH (RK key) m.length 0 m/340282366920938463463374607431768211456]:=by rw[w12,q79,q80,q81,t10];rfl
  have t14:N.a 14=Sy.outB (updH (RK key) m.length 0 m) (s0K key+s1K key*18446744073709551616):=by rw[w14,t12,t13];exact A50_st _ _ _
  have l14:(N.a 14).length=16:=by rw[t14];exact outB_length _ _
  have t15:N.a 15=N.a 14:=by rw[w15,q86,q87,q88,q89,q90,q91,q92,q93,q94,q95,q96,q97,q98,q99,q100,q101];exact list16 l14
  refine ⟨?_,⟨nofun,?_,trivial⟩,hlen⟩
  ·simp only[aC,Ob.holds,Ar.ev,aI,aK,hf,hF.p44,hF.p49,hF.p50,t1,t12,t13,t7,t9,q78,q59,q58,h57,h60,h77,e16,t8,l6,ea];refine ⟨P50_st hH.1 hH.2 hBk hlk,P49_st (bK _) hz hBk hlk hB,⟨by decide,by omega,by omega⟩,by omega,by omega,by omega,gt0 (by omega),⟨by decide,by omega,?_⟩,by omega,⟨by decide,by omega,by omega⟩,gt0 (by omega),by omega,rfl,by omega,by omega,by omega,hP44 _,nofun⟩;rw[w5];show (0:Int)+(m.length:Int)≤((List.replicate 16 (0:Int)).length:Int)
   rw[aW];omega
  ·show List.map (fun x=>Ar.ev N x) _=F.a 34 _ _;rw[hF.a34];simp only[aI,aK,Ar.ev,q102,q103,q104,q105,q106,q107,q108,q109,q110,q111,q112,q113,q114,q115,q116,q117,t15];refine (list16 l14).trans ?_;rw[t14];rfl
 ·
  have hmq:m.length-m.length%16=m.length:=by omega
  refine to_end hm (eU (tab34_ok hF)) run34b (by kernel_rfl) hat hent fun N hag hf hd=> ?_
  have e:∀x,x<49→N.i x=(num0 F ct34.ps [] [out,m,key]).i x:=hag.i;have ea:N.a 0=m:=hag.a 0 (by decide);have e16:N.i 16=(m.length:Int):=by rw[e 16 (by decide),hnum 16 (by decide)];exact hnum16
  have ek:∀x,x<32→N.i (17+x)=key.getD x 0:=fun x hx=>by rw[e _ (by omega)];exact hkey x hx
  clear e hag hat;simp only[aC,Df.sat,Nd.ev,Ad.ev,Ar.ev,aI,aK,hf,hF.a44,hF.a49,hF.a50] at hd;obtain ⟨q97,q96,q95,q94,q93,q92,q91,q90,q89,q88,q87,q86,q85,q84,q83,q82,w11,q81,q80,q79,q78,q77,q76,q75,q74,q73,q72,q71,q70,q69,q68,q67,q66,w10,w9,w8,w7,q65,q64,q63,q62,q61,q60,q59,w6,w5,w4,q58,q57,q56,q55,q54,q53,q52,q51,q50,q49,w3,w2,w1,-⟩:=hd;have t1:N.a 1=key:=by rw[w1];exact (congr32 ek).trans (list32 hlk)
  have t3:N.a 3=st7 0 key:=by rw[w3,t1,w2];rfl
  have h57:N.i 57=(m.length:Int):=by rw[q57,q56,e16,rem16,sub16 hbig,hmq]
  have t5:N.a 5=m:=by rw[w5,ea,h57];show (m.drop 0).take (m.length:Int).toNat=m;rw[bD,bW,cS]
  have t4:N.a 4=st7 0 key:=by rw[w4,q49,q50,q51,q52,q53,q54,q55,t3];rfl
  have t6:N.a 6=st7 (updH (RK key) m.length 0 m) key:=by rw[w6,t4,t5];exact A49_st _ _ _
  have hH:=updH_bound hR.1 hR.2 m.length hB (bK 0) hz;have t9:N.a 9=[s0K key,s1K key]:=by rw[w9,q64,q65,t6];rfl
  have t8:N.a 8=[updH (RK key) m.length 0 m%18446744073709551616,updH (RK key) m.length 0 m/18446744073709551616%18446744073709551616,updH (RK key) m.length 0 m/340282366920938463463374607431768211456]:=by rw[w8,q59,q60,q61,t6];rfl
  have t10:N.a 10=Sy.outB (updH (RK key) m.length 0 m) (s0K key+s1K key*18446744073709551616):=by rw[w10,t8,t9];exact A50_st _ _ _
  have l10:(N.a 10).length=16:=by rw[t10];exact outB_length _ _
  have t11:N.a 11=N.a 10:=by rw[w11,q66,q67,q68,q69,q70,q71,q72,q73,q74,q75,q76,q77,q78,q79,q80,q81];exact list16 l10
  refine ⟨?_,⟨nofun,?_,trivial⟩,hlen⟩
  ·simp only[aC,Ob.holds,Ar.ev,aI,aK,hf,hF.p44,hF.p49,hF.p50,t1,t8,t9,t4,t5,q58,h57,e16,ea];exact ⟨P50_st hH.1 hH.2 hBk hlk,trivial,bK _,bK _,by omega,P49_st (bK _) hz hBk hlk hB,⟨by decide,by omega,by omega⟩,bK _,by omega,gt0 (by omega),by omega,by omega,by omega,hP44 _,nofun⟩
  ·show List.map (fun x=>Ar.ev N x) _=F.a 34 _ _;rw[hF.a34];simp only[aI,aK,Ar.ev,q82,q83,q84,q85,q86,q87,q88,q89,q90,q91,q92,q93,q94,q95,q96,q97,t11];refine (list16 l10).trans ?_;rw[t10];rfl
 ·
  have hr16:m.length%16<16:=Nat.mod_lt _ (by decide);have hs1:(m.take (m.length-m.length%16)).length=m.length-m.length%16:=by rw[bE];omega
  have hs2:(m.drop (m.length-m.length%16)).length=m.length%16:=by rw[aT];omega
  have hk16:(m.take (m.length-m.length%16)).length=16*(m.length/16):=by omega
  have hsp:m.take (m.length-m.length%16)++m.drop (m.length-m.length%16)=m:=List.take_append_drop _ _;refine to_end hm (eU (tab34_ok hF)) run34a (by kernel_rfl) hat hent fun N hag hf hd=> ?_
  have e:∀x,x<49→N.i x=(num0 F ct34.ps [] [out,m,key]).i x:=hag.i;have ea:N.a 0=m:=hag.a 0 (by decide);have e16:N.i 16=(m.length:Int):=by rw[e 16 (by decide),hnum 16 (by decide)];exact hnum16
  have ek:∀x,x<32→N.i (17+x)=key.getD x 0:=fun x hx=>by rw[e _ (by omega)];exact hkey x hx
  clear e hag hat;simp only[aC,Df.sat,Nd.ev,Ad.ev,Ar.ev,aI,aK,hf,hF.a44,hF.a49,hF.a50] at hd;obtain ⟨q126,q125,q124,q123,q122,q121,q120,q119,q118,q117,q116,q115,q114,q113,q112,q111,w18,q110,q109,q108,q107,q106,q105,q104,q103,q102,q101,q100,q99,q98,q97,q96,q95,w17,w16,w15,w14,q94,q93,q92,q91,q90,q89,q88,w13,w12,w11,w10,q87,q86,q85,q84,q83,q82,q81,q80,q79,q78,q77,q76,q75,q74,q73,q72,q71,q70,w9,w8,w7,q69,q68,q67,q66,q65,q64,q63,q62,q61,q60,q59,w6,w5,w4,q58,q57,q56,q55,q54,q53,q52,q51,q50,q49,w3,w2,w1,-⟩:=hd
  have t1:N.a 1=key:=by rw[w1];exact (congr32 ek).trans (list32 hlk)
  have t3:N.a 3=st7 0 key:=by rw[w3,t1,w2];rfl
  have h57:N.i 57=((m.length-m.length%16:Nat):Int):=by rw[q57,q56,e16,rem16,sub16 hbig]
  generalize hn:m.length-m.length%16=n at *;generalize hrr:m.length%16=r at *;have hnr:n+r=m.length:=by omega
  have h67:N.i 67=(r:Int):=by rw[q67,h57,e16];omega
  have h66:N.i 66=(n:Int):=by rw[q66,h57];omega
  have h69:N.i 69=(r:Int):=(q69.trans (bC (by rw[h67];omega))).trans h67;have h86:N.i 86=(r:Int):=by rw[q86,h69];exact add0 (by omega)
  have t5:N.a 5=m.take n:=by rw[w5,ea,h57];show (m.drop 0).take (n:Int).toNat=_;rw[bD,bW]
  have t4:N.a 4=st7 0 key:=by rw[w4,q49,q50,q51,q52,q53,q54,q55,t3];rfl
  have t6:N.a 6=st7 (updH (RK key) n 0 (m.take n)) key:=by rw[w6,t4,t5];exact (A49_st _ _ _).trans (by rw[hs1])
  have hH1:=updH_bound hR.1 hR.2 n (hB.take n) (bK 0) hz;have t7:N.a 7=m.drop n:=by rw[w7,ea,h66,h69,bD,bD,bO (by omega)]
  have t9:N.a 9=m.drop n++List.replicate (16-r) 0:=by rw[w9,w8,t7];show List.take 0 _++m.drop n++List.drop (0+(m.drop n).length) (List.replicate 16 (0:Int))=_;rw[hs2,List.take_zero,cC,bM,List.drop_replicate]
  have l9:(N.a 9).length=16:=by rw[t9,aO,aW,hs2];omega
  have t11:N.a 11=N.a 9:=by rw[w11,q70,q71,q72,q73,q74,q75,q76,q77,q78,q79,q80,q81,q82,q83,q84,q85];exact list16 l9
  have t12:N.a 12=m.drop n:=by rw[w12,t11,h86,t9];show ((m.drop n++List.replicate (16-r) 0).drop 0).take (r:Int).toNat=_;rw[bD,bW,List.take_append_of_le_length (by omega),bO (by omega)]
  have t10:N.a 10=st7 (updH (RK key) n 0 (m.take n)) key:=by rw[w10,q59,q60,q61,q62,q63,q64,q65,t6];rfl
  have happ:=updH_append (R:=RK key) (M2:=m.drop n) (m.length/16) (H:=0) (M1:=m.take n) hk16;rw[hsp,hs1,hs2] at happ;have t13:N.a 13=st7 (updH (RK key) m.length 0 m) key:=by rw[w13,t10,t12,happ];exact (A49_st _ _ _).trans (by rw[hs2])
  have hH:=updH_bound hR.1 hR.2 m.length hB (bK 0) hz;have t16:N.a 16=[s0K key,s1K key]:=by rw[w16,q93,q94,t13];rfl
  have t15:N.a 15=[updH (RK key) m.length 0 m%18446744073709551616,updH (RK key) m.length 0 m/18446744073709551616%18446744073709551616,updH (RK key) m.length 0 m/340282366920938463463374607431768211456]:=by rw[w15,q88,q89,q90,t13];rfl
  have t17:N.a 17=Sy.outB (updH (RK key) m.length 0 m) (s0K key+s1K key*18446744073709551616):=by rw[w17,t15,t16];exact A50_st _ _ _
  have l17:(N.a 17).length=16:=by rw[t17];exact outB_length _ _
  have t18:N.a 18=N.a 17:=by rw[w18,q95,q96,q97,q98,q99,q100,q101,q102,q103,q104,q105,q106,q107,q108,q109,q110];exact list16 l17
  refine ⟨?_,⟨nofun,?_,trivial⟩,hlen⟩
  ·simp only[aC,Ob.holds,Ar.ev,aI,aK,hf,hF.p44,hF.p49,hF.p50,t1,t15,t16,t4,t5,t10,t12,q58,q68,q87,h57,h66,h67,h69,h86,e16,ea,t11,l9];refine ⟨P50_st hH.1 hH.2 hBk hlk,P49_st hH1.1 hH1.2 hBk hlk (hB.drop n),⟨by decide,by omega,by omega⟩,by omega,by omega,by omega,gt0 (by omega),⟨by decide,by omega,?_⟩,by omega,⟨by omega,by omega,by omega⟩,gt0 (by omega),by omega,by omega,bK _,by omega,by omega,P49_st (bK _) hz hBk hlk (hB.take n),⟨by decide,by omega,by omega⟩,by omega,by omega,gt0 (by omega),by omega,by omega,by omega,hP44 _,nofun⟩
   rw[w8];show (0:Int)+(r:Int)≤((List.replicate 16 (0:Int)).length:Int)
   rw[aW];omega
  ·show List.map (fun x=>Ar.ev N x) _=F.a 34 _ _;rw[hF.a34];simp only[aI,aK,Ar.ev,q111,q112,q113,q114,q115,q116,q117,q118,q119,q120,q121,q122,q123,q124,q125,q126,t18];refine (list16 l17).trans ?_;rw[t17];rfl
theorem congr32' {f:Nat→Int}{L:List Int}(h:∀x,x<32→f (16+x)=L.getD x 0):[f 16,f 17,f 18,f 19,f 20,f 21,f 22,f 23,f 24,f 25,f 26,f 27,f 28,f 29,f 30,f 31,f 32,f 33,f 34,f 35,f 36,f 37,f 38,f 39,f 40,f 41,f 42,f 43,f 44,f 45,f 46,f 47] =
 [L.getD 0 0,L.getD 1 0,L.getD 2 0,L.getD 3 0,L.getD 4 0,L.getD 5 0,L.getD 6 0,L.getD 7 0,L.getD 8 0,L.getD 9 0,L.getD 10 0,L.getD 11 0,L.getD 12 0,L.getD 13 0,L.getD 14 0,L.getD 15 0,
 L.getD 16 0,L.getD 17 0,L.getD 18 0,L.getD 19 0,L.getD 20 0,L.getD 21 0,L.getD 22 0,L.getD 23 0,L.getD 24 0,L.getD 25 0,L.getD 26 0,L.getD 27 0,L.getD 28 0,L.getD 29 0,L.getD 30 0,L.getD 31 0]:=by
 rw[←h 0 (by decide),←h 1 (by decide),←h 2 (by decide),←h 3 (by decide),←h 4 (by decide),←h 5 (by decide),←h 6 (by decide),←h 7 (by decide),←h 8 (by decide),←h 9 (by decide),←h 10 (by decide),←h 11 (by decide),←h 12 (by decide),←h 13 (by decide),←h 14 (by decide),←h 15 (by decide),←h 16 (by decide),←h 17 (by decide),←h 18 (by decide),←h 19 (by decide),←h 20 (by decide),←h 21 (by decide),←h 22 (by decide),←h 23 (by decide),←h 24 (by decide),←h 25 (by decide),←h 26 (by decide),←h 27 (by decide),←h 28 (by decide),←h 29 (by decide),←h 30 (by decide),←h 31 (by decide)]
set_option maxHeartbeats 1000000 in
theorem spec34e {F:Fns}(hF:F34 F):CSpec Tryz.prog F 62 ct34e:=by
 refine fG (eU (tab34_ok hF)) Tryz.func62 (by kernel_rfl) (by kernel_rfl) (by kernel_rfl) run34e (by kernel_rfl) fun is ls N hs hp hag hf hd=> ?_
 obtain rfl:=eV rfl hs
 match ls,hs with
 | [out,m,key],hs =>
 obtain ⟨hlo,rfl,hlk,-⟩:=hs;have hp:P34 [] [out,[],key]:=by rw[←hF.p34];exact hp
 obtain ⟨-,hBk,-⟩:=hp;have hlen:∀L,rwArg ct34e.ps [] [out,[],key]=some L→(F.a ct34e.fw [] [out,[],key]).length=L.length:=fun L h=>by
  have:L=out:=by simp only[ct34e,rwArg,aA] at h;exact h.symm
  subst this;show (F.a 34 [] _).length=_;rw[hF.a34,hlo];exact outB_length _ _
 have ek:∀x,x<32→N.i (16+x)=key.getD x 0:=fun x hx=>by rw[hag.i (16+x) (by show 16+x<48;omega)];show (numsL ct34e.ps [] [out,[],key]).getD (16+x) 0=_;simp only[ct34e,numsL,bJ];rw[aE,aP (by omega),hlo,bR,aE]
 have hz:(0:Int)<1701411834604692317316873037158841057280:=by decide
 clear hag;simp only[aC,Df.sat,Nd.ev,Ad.ev,Ar.ev,aI,aK,hf,hF.a44,hF.a50] at hd;obtain ⟨q86,q85,q84,q83,q82,q81,q80,q79,q78,q77,q76,q75,q74,q73,q72,q71,w7,q70,q69,q68,q67,q66,q65,q64,q63,q62,q61,q60,q59,q58,q57,q56,q55,w6,w5,w4,w3,q54,q53,q52,q51,q50,q49,q48,w2,w1,w0,-⟩:=hd;have t0:N.a 0=key:=by rw[w0];exact (congr32' ek).trans (list32 hlk)
 have t2:N.a 2=st7 0 key:=by rw[w2,t0,w1];rfl
 have t5:N.a 5=[s0K key,s1K key]:=by rw[w5,q53,q54,t2];rfl
 have t4:N.a 4=[(0:Int)%18446744073709551616,(0:Int)/18446744073709551616%18446744073709551616,(0:Int)/340282366920938463463374607431768211456]:=by rw[w4,q48,q49,q50,t2];rfl
 have t6:N.a 6=Sy.outB 0 (s0K key+s1K key*18446744073709551616):=by rw[w6,t4,t5];exact A50_st _ _ _
 have l6:(N.a 6).length=16:=by rw[t6];exact outB_length _ _
 have t7:N.a 7=N.a 6:=by rw[w7,q55,q56,q57,q58,q59,q60,q61,q62,q63,q64,q65,q66,q67,q68,q69,q70];exact list16 l6
 refine ⟨?_,⟨nofun,?_,trivial⟩,hlen⟩
 ·simp only[aC,Ob.holds,Ar.ev,aI,aK,hf,hF.p44,hF.p50,t0,t4,t5];exact ⟨P50_st (bK _) hz hBk hlk,hBk,nofun⟩
 ·show List.map (fun x=>Ar.ev N x) _=F.a 34 _ _;rw[hF.a34];simp only[aI,aK,Ar.ev,q71,q72,q73,q74,q75,q76,q77,q78,q79,q80,q81,q82,q83,q84,q85,q86,t7];refine (list16 l6).trans ?_;rw[t6];rfl
def ctrL (c:List Int)(n:Int):List Int:=c.take 8++[n,0,0,0,0,0,0,0]
def blk (key c:List Int)(n:Int):List Int:=coreL (matL key (ctrL c n) sigmaL)
def strB (inp c key:List Int)(i:Nat):Int:=iop .xor .u8 (inp.getD i 0) ((blk key c ((i/64:Nat):Int)).getD (i%64) 0)
def streamL (inp c key:List Int):List Int:=(List.range inp.length).map (strB inp c key)
def P29 (is:List Int)(ls:List (List Int)):Prop :=
 match is,ls with
 | [n],[c]=>(0≤n∧n<256)∧c.drop 8=[0,0,0,0,0,0,0,0]
 | _,_=>False
def I29 (is:List Int)(ls:List (List Int))(j:Nat):Int :=
 match is,ls with
 | [n],[c]=>(ctrL c n).getD j 0
 | _,_=>0
theorem shape_ai {k k':IntKind}{m:Nat}:∀ {is:List Int} {ls:List (List Int)},Shape [.agg k m,.int k'] is ls→∃n c,is=[n]∧ls=[c]∧c.length=m
 | [n],[c],h=>⟨n,c,rfl,rfl,h.1⟩
 | _,[],h=>h.elim
 | [],[_],h=>h.2.elim
 | [],_::_::_,h=>h.2.elim
 | [_],_::_::_,h=>h.2.elim
 | _::_::_,[_],h=>h.2.elim
 | _::_::_,_::_::_,h=>h.2.elim
theorem spec29 {F:Fns}(hp:F.p 29=P29)(hi:F.i 290=I29):CSpec Tryz.prog F 47 ct29:=by
 refine fG (eU (tab:=[]) trivial) Tryz.func47 (by kernel_rfl) (by kernel_rfl) (by kernel_rfl) run29 (by kernel_rfl) fun is ls N hs hp' hag hf hd=> ?_
 obtain ⟨n,c,rfl,rfl,hlc⟩:=shape_ai hs;have hp:P29 [n] [c]:=by rw[←hp];exact hp'
 obtain ⟨hn,hz⟩:=hp
 match c,hlc with
 | [c0,c1,c2,c3,c4,c5,c6,c7,c8,c9,c10,c11,c12,c13,c14,c15],_ =>
 simp only[List.drop_succ_cons,bW,List.cons.injEq] at hz;obtain ⟨z8,z9,z10,z11,z12,z13,z14,z15,-⟩:=hz;have e:∀x,x<17→N.i x=[c0,c1,c2,c3,c4,c5,c6,c7,c8,c9,c10,c11,c12,c13,c14,c15,n].getD x 0:=fun x hx=>hag.i x hx
 have e16:N.i 16=n:=e 16 (by decide);have e0:N.i 0=c0:=e 0 (by decide);have e1:N.i 1=c1:=e 1 (by decide);have e2:N.i 2=c2:=e 2 (by decide);have e3:N.i 3=c3:=e 3 (by decide);have e4:N.i 4=c4:=e 4 (by decide);have e5:N.i 5=c5:=e 5 (by decide);have e6:N.i 6=c6:=e 6 (by decide);have e7:N.i 7=c7:=e 7 (by decide);have e8:N.i 8=c8:=e 8 (by decide);have e9:N.i 9=c9:=e 9 (by decide);have e10:N.i 10=c10:=e 10 (by decide);have e11:N.i 11=c11:=e 11 (by decide)
 have e12:N.i 12=c12:=e 12 (by decide);have e13:N.i 13=c13:=e 13 (by decide);have e14:N.i 14=c14:=e 14 (by decide);have e15:N.i 15=c15:=e 15 (by decide);clear e hag;simp only[aC,Df.sat,Nd.ev,Ar.ev,e8,e9,e10,e11,e12,e13,e14,e15,e16,z8,z9,z10,z11,z12,z13,z14,z15] at hd;obtain ⟨q48,q47,q46,q45,q44,q43,q42,q41,q40,q39,q38,q37,q36,q35,q34,q33,q32,q31,q30,q29,q28,q27,q26,q25,q24,q23,q22,q21,q20,q19,q18,q17,-⟩:=hd
 have a0:IntKind.i64.wrap 0=0:=by decide
 have ad:iop .add .i64 0 0=0:=by decide
 have sh:iop .shr .i64 0 8=0:=by decide
 have b0:IntKind.u8.wrap 0=0:=by decide
 have h17:N.i 17=0:=by rw[q17,a0]
 have h18:N.i 18=n:=by rw[q18,h17];simp only[iop,dJ];exact wrap_i64 hn.1 (by omega)
 have h19:N.i 19=n:=by rw[q19,h18,IntKind.wrap_u8];omega
 have h20:N.i 20=0:=by rw[q20,h18,show (8:Int)=((8:Nat):Int) from rfl,shr_kst (k:= .i64) (c:=8) (by decide)];show n/256=0;omega
 have h21:N.i 21=0:=by rw[q21,a0]
 have h22:N.i 22=0:=by rw[q22,h20,h21,ad]
 have h23:N.i 23=0:=by rw[q23,h22,b0]
 have h24:N.i 24=0:=by rw[q24,h22,sh]
 have h25:N.i 25=0:=by rw[q25,a0]
 have h26:N.i 26=0:=by rw[q26,h24,h25,ad]
 have h27:N.i 27=0:=by rw[q27,h26,b0]
 have h28:N.i 28=0:=by rw[q28,h26,sh]
 have h29:N.i 29=0:=by rw[q29,a0]
 have h30:N.i 30=0:=by rw[q30,h28,h29,ad]
 have h31:N.i 31=0:=by rw[q31,h30,b0]
 have h32:N.i 32=0:=by rw[q32,h30,sh]
 have h33:N.i 33=0:=by rw[q33,a0]
 have h34:N.i 34=0:=by rw[q34,h32,h33,ad]
 have h35:N.i 35=0:=by rw[q35,h34,b0]
 have h36:N.i 36=0:=by rw[q36,h34,sh]
 have h37:N.i 37=0:=by rw[q37,a0]
 have h38:N.i 38=0:=by rw[q38,h36,h37,ad]
 have h39:N.i 39=0:=by rw[q39,h38,b0]
 have h40:N.i 40=0:=by rw[q40,h38,sh]
 have h41:N.i 41=0:=by rw[q41,a0]
 have h42:N.i 42=0:=by rw[q42,h40,h41,ad]
 have h43:N.i 43=0:=by rw[q43,h42,b0]
 have h44:N.i 44=0:=by rw[q44,h42,sh]
 have h45:N.i 45=0:=by rw[q45,a0]
 have h46:N.i 46=0:=by rw[q46,h44,h45,ad]
 have h47:N.i 47=0:=by rw[q47,h46,b0]
 have h48:N.i 48=0:=by rw[q48,h46,sh]
 refine ⟨nofun,⟨?_,trivial,trivial⟩,nofun⟩;show ∀p∈_,_=F.i 290 _ _ _;rw[hi];simp only[aC,Ar.ev,I29,ctrL];exact ⟨e0,e1,e2,e3,e4,e5,e6,e7,h19,h23,h27,h31,h35,h39,h43,h47,nofun⟩
theorem map_getD {L:List Int}{n:Nat}(h:L.length=n):(List.range n).map (fun i=>L.getD i 0)=L:=by
 subst h;refine dA fun j=> ?_
 rw[bP];by_cases hj:j<L.length
 ·rw [cL hj,aU hj];simp[hj]
 ·rw [bI (by simp;omega),bI (by omega)];rfl
theorem list64 {L:List Int}(h:L.length=64):[L.getD 0 0,L.getD 1 0,L.getD 2 0,L.getD 3 0,L.getD 4 0,L.getD 5 0,L.getD 6 0,L.getD 7 0,L.getD 8 0,L.getD 9 0,L.getD 10 0,L.getD 11 0,L.getD 12 0,L.getD 13 0,L.getD 14 0,L.getD 15 0,L.getD 16 0,L.getD 17 0,L.getD 18 0,L.getD 19 0,L.getD 20 0,L.getD 21 0,L.getD 22 0,L.getD 23 0,L.getD 24 0,L.getD 25 0,L.getD 26 0,L.getD 27 0,L.getD 28 0,L.getD 29 0,L.getD 30 0,L.getD 31 0,L.getD 32 0,L.getD 33 0,L.getD 34 0,L.getD 35 0,L.getD 36 0,L.getD 37 0,L.getD 38 0,L.getD 39 0,L.getD 40 0,L.getD 41 0,L.getD 42 0,L.getD 43 0,L.getD 44 0,L.getD 45 0,L.getD 46 0,L.getD 47 0,L.getD 48 0,L.getD 49 0,L.getD 50 0,L.getD 51 0,L.getD 52 0,L.getD 53 0,L.getD 54 0,L.getD 55 0,L.getD 56 0,L.getD 57 0,L.getD 58 0,L.getD 59 0,L.getD 60 0,L.getD 61 0,L.getD 62 0,L.getD 63 0]=L:=by
 rw[←map_getD h];rfl
theorem congr16a {f:Nat→Int}{L:List Int}(h:∀x,x<16→f (1+x)=L.getD x 0)(hl:L.length=16):[f 1,f 2,f 3,f 4,f 5,f 6,f 7,f 8,f 9,f 10,f 11,f 12,f 13,f 14,f 15,f 16]=L:=by
 refine dF ?_ (list16 hl);rw[←h 0 (by decide),←h 1 (by decide),←h 2 (by decide),←h 3 (by decide),←h 4 (by decide),←h 5 (by decide),←h 6 (by decide),←h 7 (by decide),←h 8 (by decide),←h 9 (by decide),←h 10 (by decide),←h 11 (by decide),←h 12 (by decide),←h 13 (by decide),←h 14 (by decide),←h 15 (by decide)]
theorem congr32a {f:Nat→Int}{L:List Int}(h:∀x,x<32→f (17+x)=L.getD x 0)(hl:L.length=32):[f 17,f 18,f 19,f 20,f 21,f 22,f 23,f 24,f 25,f 26,f 27,f 28,f 29,f 30,f 31,f 32,f 33,f 34,f 35,f 36,f 37,f 38,f 39,f 40,f 41,f 42,f 43,f 44,f 45,f 46,f 47,f 48]=L:=(congr32 h).trans (list32 hl)
theorem congr64a {f:Nat→Int}{L:List Int}(h:∀x,x<64→f (51+x)=L.getD x 0)(hl:L.length=64):[f 51,f 52,f 53,f 54,f 55,f 56,f 57,f 58,f 59,f 60,f 61,f 62,f 63,f 64,f 65,f 66,f 67,f 68,f 69,f 70,f 71,f 72,f 73,f 74,f 75,f 76,f 77,f 78,f 79,f 80,f 81,f 82,f 83,f 84,f 85,f 86,f 87,f 88,f 89,f 90,f 91,f 92,f 93,f 94,f 95,f 96,f 97,f 98,f 99,f 100,f 101,f 102,f 103,f 104,f 105,f 106,f 107,f 108,f 109,f 110,f 111,f 112,f 113,f 114]=L:=by
 refine dF ?_ (list64 hl);rw[←h 0 (by decide),←h 1 (by decide),←h 2 (by decide),←h 3 (by decide),←h 4 (by decide),←h 5 (by decide),←h 6 (by decide),←h 7 (by decide),←h 8 (by decide),←h 9 (by decide),←h 10 (by decide),←h 11 (by decide),←h 12 (by decide),←h 13 (by decide),←h 14 (by decide),←h 15 (by decide),←h 16 (by decide),←h 17 (by decide),←h 18 (by decide),←h 19 (by decide),←h 20 (by decide),←h 21 (by decide),←h 22 (by decide),←h 23 (by decide),←h 24 (by decide),←h 25 (by decide),←h 26 (by decide),←h 27 (by decide),←h 28 (by decide),←h 29 (by decide),←h 30 (by decide),←h 31 (by decide),←h 32 (by decide),←h 33 (by decide),←h 34 (by decide),←h 35 (by decide),←h 36 (by decide),←h 37 (by decide),←h 38 (by decide),←h 39 (by decide),←h 40 (by decide),←h 41 (by decide),←h 42 (by decide),←h 43 (by decide),←h 44 (by decide),←h 45 (by decide),←h 46 (by decide),←h 47 (by decide),←h 48 (by decide),←h 49 (by decide),←h 50 (by decide),←h 51 (by decide),←h 52 (by decide),←h 53 (by decide),←h 54 (by decide),←h 55 (by decide),←h 56 (by decide),←h 57 (by decide),←h 58 (by decide),←h 59 (by decide),←h 60 (by decide),←h 61 (by decide),←h 62 (by decide),←h 63 (by decide)]
def eRng (is:List Ar)(x y n:Nat):Bool:=(List.range n).all fun j=>eAr (is.getD (x+j) (.kst 0)) (.var (y+j))
theorem fV {is:List Ar}{ls:List (Option Nat)}{N:Num}{x y n:Nat}(h:eRng is x y n=true):∀j,j<n→(pn is ls N).i (x+j)=N.i (y+j):=fun j hj=>by
 unfold eRng at h;rw[bT] at h;have:=fF (h j (cE.2 hj));show Ar.ev N (is.getD (x+j) (.kst 0))=_;rw[this];rfl
theorem ctrL_length {c:List Int}(h:c.length=16)(n:Int):(ctrL c n).length=16:=by unfold ctrL;simp only[aO,bE,bU,dV];omega
theorem blk_length (key c:List Int)(n:Int):(blk key c n).length=64:=coreL_length _
theorem gY (inp c key:List Int):(streamL inp c key).length=inp.length:=by unfold streamL;rw[bF,cV]
theorem streamL_succ {inp c key:List Int}{i:Nat}(h:i<inp.length):(streamL inp c key).take (i+1)=(streamL inp c key).take i++[strB inp c key i]:=by
 rw[List.take_add_one];congr 1;unfold streamL;rw[bP,cL h];rfl
def P17 (_:List Int)(ls:List (List Int)):Prop :=
 match ls with
 | [inp,c,_]=>0<inp.length∧inp.length≤8192∧c.drop 8=[0,0,0,0,0,0,0,0]
 | _=>False
def A17 (_:List Int)(ls:List (List Int)):List Int :=
 match ls with
 | [inp,c,key]=>streamL inp c key
 | _=>[]
structure Fsal (F:Fns):Prop where
 p25:∀is ls,F.p 25 is ls
 i25:F.i 25=I25
 p28:∀is ls,F.p 28 is ls
 i28:F.i 28=I28
 p29:F.p 29=P29
 i29:F.i 290=I29
 p17:F.p 17=P17
 a17:F.a 17=A17
theorem tab17_ok {F:Fns}(h:Fsal F):TabOk F tab17 :=
 ⟨⟨by kernel_rfl,fun c hc=>by simp only[aX] at hc;subst hc;exact spec25 h.i25⟩,
  ⟨by kernel_rfl,fun c hc=>by simp only[aX] at hc;subst hc;exact spec28 h.i28⟩,
  ⟨by kernel_rfl,fun c hc=>by simp only[aX] at hc;subst hc;exact spec29 h.p29 h.i29⟩,trivial⟩
structure A17b (N:Num) (inp c key:List Int) (i:Nat):Prop where
 hi:1≤i∧i≤inp.length
 hn:N.i 0=((inp.length:Nat):Int)
 i50:N.i 50=((i:Nat):Int)
 i49:N.i 49=((i:Nat):Int)
 hinp:N.a 0=inp
 hout:N.a 1=(streamL inp c key).take i
 hc:∀j,j<16→N.i (1+j)=c.getD j 0
 hkey:∀j,j<32→N.i (17+j)=key.getD j 0
 hb:∀j,j<64→N.i (51+j)=(blk key c (((i-1)/64:Nat):Int)).getD j 0
theorem A17b.agr {N N':Num}{inp c key:List Int}{i:Nat}(h:Agr s17b.nx s17b.na N N')(hA:A17b N inp c key i):A17b N' inp c key i:=by
 have e:∀x,x<115→N'.i x=N.i x:=h.i;have ea:∀x,x<2→N'.a x=N.a x:=h.a;exact ⟨hA.hi,(e 0 (by decide)).trans hA.hn,(e 50 (by decide)).trans hA.i50,(e 49 (by decide)).trans hA.i49,(ea 0 (by decide)).trans hA.hinp,(ea 1 (by decide)).trans hA.hout,
  fun j hj=>(e _ (by omega)).trans (hA.hc j hj),fun j hj=>(e _ (by omega)).trans (hA.hkey j hj),fun j hj=>(e _ (by omega)).trans (hA.hb j hj)⟩
theorem remK (i:Nat)(k:Nat)(_hk:0<k):iop .rem .i64 (i:Int) (k:Int)=((i%k:Nat):Int):=by
 simp only[iop];rw[Int.tmod_eq_emod_of_nonneg (by omega)];rfl
theorem quo64 (i:Nat)(hi:i<9223372036854775808):iop .quo .i64 (i:Int) 64=((i/64:Nat):Int):=by
 simp only[iop];rw[Int.tdiv_eq_ediv_of_nonneg (by omega),wrap_i64 (by omega) (by omega)];omega
theorem inc64 (i:Nat)(h:i<9223372036854775807):iop .add .i64 (i:Int) 1=((i+1:Nat):Int):=by
 simp only[iop];rw[wrap_i64 (by omega) (by omega)];rfl
set_option maxRecDepth 8000 in
set_option maxHeartbeats 4000000 in
theorem spec17 {F:Fns}(hF:Fsal F):CSpec Tryz.prog F 31 ct17:=by
 refine gA (args:=argsOf ct17) (σe:=stOf ct17) rfl Tryz.func31 (fM (by kernel_rfl)) (by kernel_rfl) (by kernel_rfl) fun is ls ws we Ee a hs hp hent hat=> ?_
 obtain rfl:=eV rfl hs
 match ls,hs with
 | [inp,c,key],hs =>
 obtain ⟨hlc,hlk,-⟩:=hs;have hp:P17 [] [inp,c,key]:=by rw[←hF.p17];exact hp
 obtain ⟨h0,hbig,hcz⟩:=hp;refine to_head hm (eU (tab17_ok hF)) h17 (by kernel_rfl) rfl rfl hat hent.inv fun N hag hf _=> ?_
 have en:∀x,x<49→N.i x=((inp.length:Int)::(c++key)).getD x 0:=fun x hx=>by rw[hag.i x hx];show (numsL ct17.ps [] [inp,c,key]).getD x 0=_;simp only[ct17,numsL,bJ]
 have ea:N.a 0=inp:=hag.a 0 (by decide);have e0:N.i 0=inp.length:=en 0 (by decide);have ec:∀j,j<16→N.i (1+j)=c.getD j 0:=fun j hj=>by rw[en _ (by omega),Nat.add_comm,List.getD_cons_succ,aE,bQ (by omega),aE]
 have ek:∀j,j<32→N.i (17+j)=key.getD j 0:=fun j hj=>by rw[en _ (by omega),show 17+j=(16+j)+1 by omega,List.getD_cons_succ,aE,aP (by omega),hlc,bR,aE]
 refine ⟨by simp only[aC,Ob.holds,Ar.ev,e0];exact ⟨by omega,nofun⟩,fun a1 w1 hat1=> ?_⟩
 let Ne:=num0 F ct17.ps [] [inp,c,key]
 refine gQ (fun k a w=>(k=inp.length∧∃N:Num,(N.i 0=((inp.length:Nat):Int)∧N.a 0=inp∧(∀ j,j<16→N.i (1+j)=c.getD j 0)∧(∀ j,j<32→N.i (17+j)=key.getD j 0))∧At F Tryz.f31.ntmps Ne Ee (stOf ct17) we T17a s17a N a w) ∨
  (∃ N i,A17b N inp c key i∧k=inp.length-i∧At F Tryz.f31.ntmps Ne Ee (stOf ct17) we T17b s17b N a w)) (k:=inp.length) (.inl ⟨rfl,_,?_,hat1⟩) ?_
 ·exact ⟨e0,ea,fun j hj=>(fV (by kernel_rfl) j hj).trans (ec j hj),fun j hj=>(fV (by kernel_rfl) j hj).trans (ek j hj)⟩
 ·clear hat hat1 hag en ea e0 ec ek hf;intro k a w hJ;rcases hJ with ⟨hk,N,⟨e0,ea,ec,ek⟩,hat⟩ | ⟨N,i,hA,hk,hat⟩
  ·
   refine gI hm (eU (tab17_ok hF)) r17a (by kernel_rfl) rfl rfl hat hent.inv fun M hag hf hd=> ?_
   have en:∀x,x<49→M.i x=N.i x:=hag.i;have ea:M.a 0=inp:=(hag.a 0 (by decide)).trans ea;have e0:M.i 0=inp.length:=(en 0 (by decide)).trans e0;have ec:∀j,j<16→M.i (1+j)=c.getD j 0:=fun j hj=>(en _ (by omega)).trans (ec j hj)
   have ek:∀j,j<32→M.i (17+j)=key.getD j 0:=fun j hj=>(en _ (by omega)).trans (ek j hj)
   clear en hag;simp only[aC,Df.sat,Nd.ev,Ad.ev,Ar.ev,aI,aK,hf,hF.i25,hF.i28,hF.i29] at hd;obtain ⟨w5,q195,q194,q193,q192,q191,q190,q189,q188,q187,q186,q185,q184,q183,q182,q181,q180,q179,q178,q177,q176,q175,q174,q173,q172,q171,q170,q169,q168,q167,q166,q165,q164,q163,q162,q161,q160,q159,q158,q157,q156,q155,q154,q153,q152,q151,q150,q149,q148,q147,q146,q145,q144,q143,q142,q141,q140,q139,q138,q137,q136,q135,q134,q133,q132,q131,w4,q130,q129,q128,q127,q126,q125,q124,q123,q122,q121,q120,q119,q118,q117,q116,q115,q114,q113,q112,q111,q110,q109,q108,q107,q106,q105,q104,q103,q102,q101,q100,q99,q98,q97,q96,q95,q94,q93,q92,q91,q90,q89,q88,q87,q86,q85,q84,q83,q82,q81,q80,q79,q78,q77,q76,q75,q74,q73,q72,q71,q70,q69,q68,q67,w3,w2,q66,q65,q64,q63,q62,q61,q60,q59,q58,q57,q56,q55,q54,q53,q52,q51,w1,q50,q49,-⟩:=hd
   have t1:M.a 1=c:=w1.trans (congr16a ec hlc);have t2:M.a 2=key:=w2.trans (congr32a ek hlk);have t3:M.a 3=ctrL c 0:=by rw[w3,q51,q52,q53,q54,q55,q56,q57,q58,q59,q60,q61,q62,q63,q64,q65,q66,t1];exact list16 (ctrL_length hlc 0)
   have t4:M.a 4=matL key (ctrL c 0) sigmaL:=by rw[w4,q67,q68,q69,q70,q71,q72,q73,q74,q75,q76,q77,q78,q79,q80,q81,q82,q83,q84,q85,q86,q87,q88,q89,q90,q91,q92,q93,q94,q95,q96,q97,q98,q99,q100,q101,q102,q103,q104,q105,q106,q107,q108,q109,q110,q111,q112,q113,q114,q115,q116,q117,q118,q119,q120,q121,q122,q123,q124,q125,q126,q127,q128,q129,q130,t2,t3];exact list64 (matL_length hlk (ctrL_length hlc 0) rfl)
   have h50:M.i 50=inp.getD 0 0:=by rw[q50,ea];rfl
   have hb:∀j,j<64→M.i (131+j)=(blk key c 0).getD j 0:=by
    intro j hj;have hh:∀j,j<64→M.i (131+j)=I28 [] [M.a 4] j:=by
     intro j hj
     match j,hj with
     | 0,_=>exact q131
     | 1,_=>exact q132
     | 2,_=>exact q133
     | 3,_=>exact q134
     | 4,_=>exact q135
     | 5,_=>exact q136
     | 6,_=>exact q137
     | 7,_=>exact q138
     | 8,_=>exact q139
     | 9,_=>exact q140
     | 10,_=>exact q141
     | 11,_=>exact q142
     | 12,_=>exact q143
     | 13,_=>exact q144
     | 14,_=>exact q145
     | 15,_=>exact q146
     | 16,_=>exact q147
     | 17,_=>exact q148
     | 18,_=>exact q149
     | 19,_=>exact q150
     | 20,_=>exact q151
     | 21,_=>exact q152
     | 22,_=>exact q153
     | 23,_=>exact q154
     | 24,_=>exact q155
     | 25,_=>exact q156
     | 26,_=>exact q157
     | 27,_=>exact q158
     | 28,_=>exact q159
     | 29,_=>exact q160
     | 30,_=>exact q161
     | 31,_=>exact q162
     | 32,_=>exact q163
     | 33,_=>exact q164
     | 34,_=>exact q165
     | 35,_=>exact q166
     | 36,_=>exact q167
     | 37,_=>exact q168
     | 38,_=>exact q169
     | 39,_=>exact q170
     | 40,_=>exact q171
     | 41,_=>exact q172
     | 42,_=>exact q173
     | 43,_=>exact q174
     | 44,_=>exact q175
     | 45,_=>exact q176
     | 46,_=>exact q177
     | 47,_=>exact q178
     | 48,_=>exact q179
     | 49,_=>exact q180
     | 50,_=>exact q181
     | 51,_=>exact q182
     | 52,_=>exact q183
     | 53,_=>exact q184
     | 54,_=>exact q185
     | 55,_=>exact q186
     | 56,_=>exact q187
     | 57,_=>exact q188
     | 58,_=>exact q189
     | 59,_=>exact q190
     | 60,_=>exact q191
     | 61,_=>exact q192
     | 62,_=>exact q193
     | 63,_=>exact q194
     | j+64,h=>exact absurd h (by omega)
    rw[hh j hj,t4];rfl
   refine ⟨?_,fun x2 y2 hat2=>⟨inp.length-1,by omega,.inr ⟨_,1,?_,rfl,hat2⟩⟩⟩
   ·simp only[aC,Ob.holds,Ar.ev,aI,aK,hf,hF.p29,t1,ea,e0];exact ⟨hF.p28 _ _,hF.p25 _ _,⟨by decide,hcz⟩,⟨by decide,by omega⟩,by omega,by rw[q49,e0];exact fL (bS (by omega)),nofun⟩
   ·refine ⟨⟨aS _,h0⟩,e0,rfl,rfl,ea,?_,fun j hj=>(fV (by kernel_rfl) j hj).trans (ec j hj),fun j hj=>(fV (by kernel_rfl) j hj).trans (ek j hj),fun j hj=>(fV (by kernel_rfl) j hj).trans (hb j hj)⟩;show M.a 5=_;rw[w5,q195,h50,show M.i 131=_ from hb 0 (by decide),streamL_succ h0];rfl
  ·
   have hi:=hA.hi;have hA0:=hA;rcases bL i inp.length with hlt | hge
   ·by_cases h64:i%64=0
    ·refine gI hm (eU (tab17_ok hF)) r17b (by kernel_rfl) rfl rfl hat hent.inv fun M hag hf hd=> ?_
     obtain ⟨-,e0,e50,e49,ea,eo,ec,ek,eb⟩:=hA.agr hag;clear hag;simp only[aC,Df.sat,Nd.ev,Ad.ev,Ar.ev,aI,aK,hf,hF.i25,hF.i28,hF.i29] at hd;obtain ⟨q270,w7,q269,w6,q268,q267,q266,q265,q264,q263,q262,q261,q260,q259,q258,q257,q256,q255,q254,q253,q252,q251,q250,q249,q248,q247,q246,q245,q244,q243,q242,q241,q240,q239,q238,q237,q236,q235,q234,q233,q232,q231,q230,q229,q228,q227,q226,q225,q224,q223,q222,q221,q220,q219,q218,q217,q216,q215,q214,q213,q212,q211,q210,q209,q208,q207,q206,q205,q204,q203,q202,q201,w5,q200,q199,q198,q197,q196,q195,q194,q193,q192,q191,q190,q189,q188,q187,q186,q185,q184,q183,q182,q181,q180,q179,q178,q177,q176,q175,q174,q173,q172,q171,q170,q169,q168,q167,q166,q165,q164,q163,q162,q161,q160,q159,q158,q157,q156,q155,q154,q153,q152,q151,q150,q149,q148,q147,q146,q145,q144,q143,q142,q141,q140,q139,q138,q137,w4,w3,q136,q135,q134,q133,q132,q131,q130,q129,q128,q127,q126,q125,q124,q123,q122,q121,w2,q120,q119,q118,q117,q116,q115,-⟩:=hd
     have h116:M.i 116=(i:Int):=by rw[q116,e50];omega
     have h117:M.i 117=inp.getD i 0:=by rw[q117,h116,ea,bD]
     have h118:M.i 118=0:=by rw[q118,e50,show (64:Int)=((64:Nat):Int) from rfl,remK i 64 (by decide),h64];rfl
     have h120:M.i 120=((i/64:Nat):Int):=by rw[q120,e50];exact quo64 i (by omega)
     have t2:M.a 2=c:=w2.trans (congr16a ec hlc);have t3:M.a 3=key:=w3.trans (congr32a ek hlk);have t4:M.a 4=ctrL c ((i/64:Nat):Int):=by rw[w4,q121,q122,q123,q124,q125,q126,q127,q128,q129,q130,q131,q132,q133,q134,q135,q136,t2,h120];exact list16 (ctrL_length hlc _)
     have t5:M.a 5=matL key (ctrL c ((i/64:Nat):Int)) sigmaL:=by
      rw[w5,q137,q138,q139,q140,q141,q142,q143,q144,q145,q146,q147,q148,q149,q150,q151,q152,q153,q154,q155,q156,q157,q158,q159,q160,q161,q162,q163,q164,q165,q166,q167,q168,q169,q170,q171,q172,q173,q174,q175,q176,q177,q178,q179,q180,q181,q182,q183,q184,q185,q186,q187,q188,q189,q190,q191,q192,q193,q194,q195,q196,q197,q198,q199,q200,t3,t4];exact list64 (matL_length hlk (ctrL_length hlc _) rfl)
     have hb:∀j,j<64→M.i (201+j)=(blk key c ((i/64:Nat):Int)).getD j 0:=by
      intro j hj;have hh:∀j,j<64→M.i (201+j)=I28 [] [M.a 5] j:=by
       intro j hj
       match j,hj with
       | 0,_=>exact q201
       | 1,_=>exact q202
       | 2,_=>exact q203
       | 3,_=>exact q204
       | 4,_=>exact q205
       | 5,_=>exact q206
       | 6,_=>exact q207
       | 7,_=>exact q208
       | 8,_=>exact q209
       | 9,_=>exact q210
       | 10,_=>exact q211
       | 11,_=>exact q212
       | 12,_=>exact q213
       | 13,_=>exact q214
       | 14,_=>exact q215
       | 15,_=>exact q216
       | 16,_=>exact q217
       | 17,_=>exact q218
       | 18,_=>exact q219
       | 19,_=>exact q220
       | 20,_=>exact q221
       | 21,_=>exact q222
       | 22,_=>exact q223
       | 23,_=>exact q224
       | 24,_=>exact q225
       | 25,_=>exact q226
       | 26,_=>exact q227
       | 27,_=>exact q228
       | 28,_=>exact q229
       | 29,_=>exact q230
       | 30,_=>exact q231
       | 31,_=>exact q232
       | 32,_=>exact q233
       | 33,_=>exact q234
       | 34,_=>exact q235
       | 35,_=>exact q236
       | 36,_=>exact q237
       | 37,_=>exact q238
       | 38,_=>exact q239
       | 39,_=>exact q240
       | 40,_=>exact q241
       | 41,_=>exact q242
       | 42,_=>exact q243
       | 43,_=>exact q244
       | 44,_=>exact q245
       | 45,_=>exact q246
       | 46,_=>exact q247
       | 47,_=>exact q248
       | 48,_=>exact q249
       | 49,_=>exact q250
       | 50,_=>exact q251
       | 51,_=>exact q252
       | 52,_=>exact q253
       | 53,_=>exact q254
       | 54,_=>exact q255
       | 55,_=>exact q256
       | 56,_=>exact q257
       | 57,_=>exact q258
       | 58,_=>exact q259
       | 59,_=>exact q260
       | 60,_=>exact q261
       | 61,_=>exact q262
       | 62,_=>exact q263
       | 63,_=>exact q264
       | j+64,h=>exact absurd h (by omega)
      rw[hh j hj,t5];rfl
     have h265:M.i 265=0:=by rw[q265,e50,show (64:Int)=((64:Nat):Int) from rfl,remK i 64 (by decide),h64];rfl
     have h266:M.i 266=0:=by rw[q266,h265];rfl
     have h267:M.i 267=(blk key c ((i/64:Nat):Int)).getD 0 0:=by rw[q267,h266];exact hb 0 (by decide)
     have h269:M.i 269=((i+1:Nat):Int):=by rw[q269,e49];omega
     have h270:M.i 270=((i+1:Nat):Int):=by rw[q270,e50];exact inc64 i (by omega)
     have l1:(M.a 1).length=i:=by rw[eo,bE,gY];omega
     refine ⟨?_,fun x2 y2 hat2=>⟨k-1,by omega,.inr ⟨_,i+1,?_,by omega,hat2⟩⟩⟩
     ·simp only[aC,Ob.holds,Ar.ev,aI,aK,hf,hF.p29,t2,ea,e0,e49,e50,h269,h266,h265,h120,h116,l1];exact ⟨by omega,trivial,by decide,by decide,by decide,by decide,hF.p28 _ _,hF.p25 _ _,⟨⟨by omega,by omega⟩,hcz⟩,by rw[q119,h118];rfl,⟨by omega,by omega⟩,by omega,by omega,by rw[q115,e50,e0];exact fL (bS (by omega)),nofun⟩
     ·refine ⟨⟨by omega,by omega⟩,e0,h270,h269,ea,?_,fun j hj=>(fV (by kernel_rfl) j hj).trans (ec j hj),fun j hj=>(fV (by kernel_rfl) j hj).trans (ek j hj),fun j hj=>(fV (by kernel_rfl) j hj).trans (by rw[hb j hj];rfl)⟩;show M.a 7=_;rw[w7,eo,w6,q268,h117,h267,streamL_succ hlt];congr 2;unfold strB;rw[h64]
    ·refine gI hm (eU (tab17_ok hF)) r17c (by kernel_rfl) rfl rfl hat hent.inv fun M hag hf hd=> ?_
     obtain ⟨-,e0,e50,e49,ea,eo,ec,ek,eb⟩:=hA.agr hag;clear hag;simp only[aC,Df.sat,Nd.ev,Ad.ev,Ar.ev,aI,aK] at hd;obtain ⟨q125,w3,q124,w2,q123,q122,q121,q120,q119,q118,q117,q116,q115,-⟩:=hd;have h116:M.i 116=(i:Int):=by rw[q116,e50];omega
     have h117:M.i 117=inp.getD i 0:=by rw[q117,h116,ea,bD]
     have h118:M.i 118=((i%64:Nat):Int):=by rw[q118,e50];exact remK i 64 (by decide)
     have h120:M.i 120=((i%64:Nat):Int):=by rw[q120,e50];exact remK i 64 (by decide)
     have h121:M.i 121=((i%64:Nat):Int):=by rw[q121,h120];omega
     have hdiv:(i-1)/64=i/64:=by omega
     rw[hdiv] at eb;have h122:M.i 122=(blk key c ((i/64:Nat):Int)).getD (i%64) 0:=by rw[q122,h121,bD];exact congrArg (fun l:List Int=>l.getD (i%64) 0) (congr64a eb (blk_length _ _ _))
     have h124:M.i 124=((i+1:Nat):Int):=by rw[q124,e49];omega
     have h125:M.i 125=((i+1:Nat):Int):=by rw[q125,e50];exact inc64 i (by omega)
     have l1:(M.a 1).length=i:=by rw[eo,bE,gY];omega
     have hm64:i%64<64:=Nat.mod_lt _ (by decide);refine ⟨?_,fun x2 y2 hat2=>⟨k-1,by omega,.inr ⟨_,i+1,?_,by omega,hat2⟩⟩⟩
     ·simp only[aC,Ob.holds,Ar.ev,ea,e0,e49,e50,h124,h121,h120,h116,l1];exact ⟨by omega,trivial,by omega,by omega,by omega,by omega,by rw[q119,h118];exact gR (beq_false_of_ne (by omega)),⟨by omega,by omega⟩,by omega,by omega,by rw[q115,e50,e0];exact fL (bS (by omega)),nofun⟩
     ·refine ⟨⟨by omega,by omega⟩,e0,h125,h124,ea,?_,fun j hj=>(fV (by kernel_rfl) j hj).trans (ec j hj),fun j hj=>(fV (by kernel_rfl) j hj).trans (ek j hj),fun j hj=>(fV (by kernel_rfl) j hj).trans (eb j hj)⟩;show M.a 3=_;rw[w3,eo,w2,q123,h117,h122,streamL_succ hlt];rfl
   ·
    refine gH hm (eU (tab17_ok hF)) o17b (by kernel_rfl) hat hent fun M hag hf hd=> ?_
    obtain ⟨-,e0,e50,e49,ea,eo,-,-,-⟩:=hA.agr hag;simp only[aC,Df.sat,Nd.ev,Ar.ev,e50,e0] at hd;have hil:i=inp.length:=by omega
    refine ⟨?_,⟨nofun,trivial,?_⟩,nofun⟩
    ·simp only[aC,Ob.holds];exact ⟨by rw[hd.1];exact gR (bZ (by omega)),nofun⟩
    ·have hA17:F.a ct17.fs [] [inp,c,key]=streamL inp c key:=by show F.a 17 _ _=_;rw[hF.a17];rfl
     refine ⟨?_,?_,trivial⟩;·rw [hA17,eo,hil,←gY inp c key,cS]
     ·rw [hA17,gY];exact e49.trans (by rw[hil])
end Go.Proofs.YtnfikgagkamioaaGreatDoor.S
