/- poly1305.updateGeneric does as its contract says. -/
import Derived.Test.YtlcljhlijmombaaYf49
import Derived.Test.YtlcljhlijmombaaYa0
import Derived.Test.YtlcljhlijmombaaYpoly
namespace Go.Proofs.Ytlcljhlijmombaa
open Go.Sy
def P49 (_:List Int)(ls:List (List Int)):Prop :=
 match ls with
 | [[h0,h1,h2,r0,r1,_,_],m]=>(0≤h0∧h0<18446744073709551616)∧(0≤h1∧h1<18446744073709551616)∧(0≤h2∧h2≤4)∧(0≤r0∧r0≤1152921487695413247)∧(0≤r1∧r1≤1152921487695413244)∧Bytes m
 | _=>False
def A49 (_:List Int)(ls:List (List Int)):List Int :=
 match ls with
 | [[h0,h1,h2,r0,r1,s0,s1],m] =>
  let H:=updH (r0+r1*18446744073709551616) m.length (h0+h1*18446744073709551616+h2*340282366920938463463374607431768211456) m
  [H%18446744073709551616,H/18446744073709551616%18446744073709551616,H/340282366920938463463374607431768211456,r0,r1,s0,s1]
 | _=>[]
structure F49 (F:Fns):Prop where
 p48:F.p 48=P48
 i48:F.i 48=I48
 p53:F.p 53=P53
 i53:F.i 53=I53
 p54:F.p 54=P54
 i54:F.i 54=I54
 p55:F.p 55=P55
 i55:F.i 55=I55
 p49:F.p 49=P49
 a49:F.a 49=A49
theorem tab49_ok {F:Fns}(h:F49 F):TabOk F tab49 :=
 ⟨⟨by kernel_rfl,fun c hc=>by simp only[List.mem_singleton] at hc;subst hc;exact spec48 h.p48 h.i48⟩,
  ⟨by kernel_rfl,fun c hc=>by simp only[List.mem_singleton] at hc;subst hc;exact spec53 h.p53 h.i53⟩,
  ⟨by kernel_rfl,fun c hc=>by simp only[List.mem_singleton] at hc;subst hc;exact spec54 h.p54 h.i54⟩,
  ⟨by kernel_rfl,fun c hc=>by simp only[List.mem_singleton] at hc;subst hc;exact spec55 h.p55 h.i55⟩,trivial⟩
def LimbsOk (a b c:Int):Prop:=(0≤a∧a<18446744073709551616)∧(0≤b∧b<18446744073709551616)∧(0≤c∧c≤4)
def limbV (a b c:Int):Int:=a+b*18446744073709551616+c*340282366920938463463374607431768211456
structure A49a (N:Num) (s0 s1 s2 s3 s4 s5 s6:Int) (m:List Int) (T:Int) (k:Nat):Prop where
 c:N.i 0=s0∧N.i 1=s1∧N.i 2=s2∧N.i 3=s3∧N.i 4=s4∧N.i 5=s5∧N.i 6=s6
 hm:N.a 0=m
 o:∃o:Nat,N.i 8=o∧o≤m.length∧N.i 9=((m.length-o:Nat):Int)∧k=m.length-o∧updH (s3+s4*18446744073709551616) k (limbV (N.i 10) (N.i 11) (N.i 12)) (m.drop o)=T
 h:LimbsOk (N.i 10) (N.i 11) (N.i 12)
structure A49b (N:Num) (s0 s1 s2 s3 s4 s5 s6:Int) (T:Int):Prop where
 c:N.i 0=s0∧N.i 1=s1∧N.i 2=s2∧N.i 3=s3∧N.i 4=s4∧N.i 5=s5∧N.i 6=s6
 o:limbV (N.i 8) (N.i 9) (N.i 10)=T
 h:LimbsOk (N.i 8) (N.i 9) (N.i 10)
theorem bytes_sub {l:List Int}(h:Bytes l)(o n:Nat):Bytes ((l.drop o).take n):=(h.drop o).take n
theorem leV8 {l:List Int}(h:Bytes l)(hl:l.length=8):0≤leV l∧leV l<18446744073709551616:=by
 have:=leV_bound h
 rw[hl] at this
 exact this
theorem leV_16 {l:List Int}{o:Nat}(ho:o+16≤l.length):leV ((l.drop o).take 8)+leV ((l.drop (o+8)).take 8)*18446744073709551616=leV ((l.drop o).take 16):=by
 have:(l.drop o).take 16=(l.drop o).take 8++(l.drop (o+8)).take 8:=by
  rw[←List.drop_drop,←List.take_add]
 rw[this,leV_append,List.length_take,List.length_drop,Nat.min_eq_left (by omega)]
 simp only[show (256:Int)^8=18446744073709551616 from rfl]
 omega
theorem A49a.agr {N N':Num}{s0 s1 s2 s3 s4 s5 s6:Int}{m:List Int}{T:Int}{k:Nat}(h:Agr s49a.nx s49a.na N N')(hA:A49a N s0 s1 s2 s3 s4 s5 s6 m T k):A49a N' s0 s1 s2 s3 s4 s5 s6 m T k:=by
 have e:∀x,x<13→N'.i x=N.i x:=h.i
 have ea:N'.a 0=N.a 0:=h.a 0 (by decide)
 obtain ⟨c,hm,o,hh⟩:=hA
 refine ⟨?_,by rw[ea];exact hm,?_,?_⟩
 ·simpa only[e 0 (by decide),e 1 (by decide),e 2 (by decide),e 3 (by decide),e 4 (by decide),e 5 (by decide),e 6 (by decide)] using c
 ·simpa only[e 8 (by decide),e 9 (by decide),e 10 (by decide),e 11 (by decide),e 12 (by decide)] using o
 ·simpa only[e 10 (by decide),e 11 (by decide),e 12 (by decide)] using hh
theorem P53.mk {a b:Int}(ha:0≤a∧a<18446744073709551616)(hb:0≤b∧b<18446744073709551616):P53 [a,b] []:=by
 intro x hx
 simp only[List.mem_cons,List.not_mem_nil,or_false] at hx
 rcases hx with rfl | rfl
 ·exact ha
 ·exact hb
theorem P48.mk {a b:List Int}(ha:a=[])(hb:Bytes b):P48 [] [a,b]:=by
 intro x hx
 simp only[List.mem_cons,List.not_mem_nil,or_false] at hx
 rcases hx with rfl | rfl
 ·rw [ha];intro y hy;cases hy
 ·exact hb
theorem g2b {x:Int}(h:0≤x∧x≤6):0≤x∧x<18446744073709551616:=by omega
theorem r0b {x:Int}(h:0≤x∧x≤1152921487695413247):0≤x∧x<18446744073709551616:=by omega
theorem r1b {x:Int}(h:0≤x∧x≤1152921487695413244):0≤x∧x<18446744073709551616:=by omega
theorem up2 {x c:Int}(h:0≤x∧x≤4)(k:0≤c∧c≤1):(x+(c+1)%18446744073709551616)%18446744073709551616=x+c+1:=by omega
theorem up3 {x c:Int}(h:0≤x∧x≤4)(k:0≤c∧c≤1):0≤x+c+1∧x+c+1≤6:=by omega
theorem up0 {x c:Int}(h:0≤x∧x≤4)(k:0≤c∧c≤1):(x+c)%18446744073709551616=x+c:=by omega
theorem up1 {x c:Int}(h:0≤x∧x≤4)(k:0≤c∧c≤1):0≤x+c∧x+c≤6:=by omega
theorem boo_true {t:Bool}(h:t=true):(!((bif t then (1:Int) else 0)==0))=true:=by rw[h];rfl
theorem boo_false {t:Bool}(h:t=false):(!((bif t then (1:Int) else 0)==0))=false:=by rw[h];rfl
theorem set_end {l:List Int}{k:Nat}(hl:l.length=k)(hk:k<16):(l++List.replicate (16-k) 0).set (k:Int).toNat 1=l++1::List.replicate (15-k) 0:=by
 rw[Int.toNat_natCast,List.set_append,if_neg (by omega),hl,Nat.sub_self,show 16-k=(15-k)+1 by omega,List.replicate_succ,List.set_cons_zero]
theorem leV_one (n:Nat):leV (1::List.replicate n 0)=1:=by
 simp only[leV]
 have:∀n,leV (List.replicate n 0)=0:=by
  intro n
  induction n with
  | zero=>rfl
  | succ n ih=>simp only[List.replicate_succ,leV,ih];rfl
 rw[this];rfl
theorem sum_c {x y z p:Int}(h:z+p*1=x+18446744073709551616*y):x+y*18446744073709551616=z+p:=by omega
theorem sum_a {a b c h0 h1 h2 x:Int}(h:a+b*18446744073709551616+(h2+c)*340282366920938463463374607431768211456=h0+h1*18446744073709551616+h2*340282366920938463463374607431768211456+x) :
  a+b*18446744073709551616+(h2+c+1)*340282366920938463463374607431768211456=h0+h1*18446744073709551616+h2*340282366920938463463374607431768211456+(x+340282366920938463463374607431768211456):=by omega
set_option maxHeartbeats 4000000 in
theorem rnd49a {F:Fns}(hF:F49 F){Ne:Num}{Ee:Env}{we:World}(hI:Inv Ee (stOf ct49)){M:Num}{s0 s1 s2 s3 s4 s5 s6:Int}{m:List Int}{T:Int}{k:Nat}{a:Act}{w:World}(hat:At F Try.f49.ntmps Ne Ee (stOf ct49) we T49a s49a M a w)
  (hA:A49a M s0 s1 s2 s3 s4 s5 s6 m T k) (hk:16<k) (hr0:0≤s3∧s3≤1152921487695413247) (hr1:0≤s4∧s4≤1152921487695413244) (hB:Bytes m) {K:Act→World→Prop} {Q:Exit→Act→World→Prop}
  (H:∀N a' w',A49a N s0 s1 s2 s3 s4 s5 s6 m T (k-16)→At F Try.f49.ntmps Ne Ee (stOf ct49) we T49a s49a N a' w'→K a' w') :
  (loopAt 49 2).1.wp Try.prog (Exit.then K (wpK Try.prog (loopAt 49 2).2 Q)) a w:=by
 refine to_round hm (callT_ok (tab49_ok hF)) r49a (by kernel_rfl) rfl rfl hat hI fun N hag hf hd=> ?_
 have hA:=hA.agr hag
 clear hag hat
 obtain ⟨⟨c0,c1,c2,c3,c4,c5,c6⟩,hm0,⟨o,e8,ho,e9,hko,hT⟩,hh0,hh1,hh2⟩:=hA
 have v0:o+16≤m.length:=by omega
 have v1:min 8 (m.length-o)=8:=by omega
 have v2:min 8 (m.length-(o+8))=8:=by omega
 have v3:min 16 (m.length-o)=16:=by omega
 have v4:(m.drop o).length=k:=by rw[List.length_drop];omega
 have v5:0<(m.drop o).length:=by omega
 have u0:0≤N.i 9:=by omega
 have u1:16≤N.i 9:=by omega
 have u2:8≤N.i 9:=by omega
 have u3:8<N.i 9:=by omega
 have u4:(0:Int)<N.i 9:=by omega
 have u5:0≤N.i 8∧0≤(8:Int)∧N.i 8+8≤m.length:=by omega
 have u6:0≤N.i 8+8*1∧0≤(8:Int)∧N.i 8+8*1+8≤m.length:=by omega
 have u7:16<N.i 9:=by omega
 have z8:(N.i 8).toNat=o:=by omega
 have z18:(N.i 8+8*1).toNat=o+8:=by omega
 have z24:N.i 8+16*1=((o+16:Nat):Int):=by omega
 have z25:N.i 9+16*(-1)=((m.length-(o+16):Nat):Int):=by omega
 have zo:o+16≤m.length:=by omega
 have zk:k-16=m.length-(o+16):=by omega
 simp only[List.forall_mem_cons,Df.sat,Nd.ev,Ad.ev,Ar.ev,List.map_cons,List.map_nil,hf,hF.i48,hF.i53,hF.i54,hF.i55,I53] at hd
 obtain ⟨q63,q62,q61,q60,q59,q58,q57,w9,q56,q55,q54,q53,q52,q51,q50,q49,q48,q47,q46,q45,q44,q43,q42,w8,w7,q41,q40,w6,w5,q39,q38,q37,q36,q35,q34,q33,q32,q31,q30,q29,q28,q27,q26,q25,q24,q23,q22,q21,q20,q19,w4,w3,q18,q17,q16,q15,w2,w1,q14,q13,-⟩:=hd
 rw[w5,w6] at q40 q41
 rw[w7,w8] at q42 q43
 rw[w9] at q57 q58
 simp only[I54,I55] at q40 q41 q42 q43 q57 q58
 rw[c3] at q26 q27 q28 q29 q30 q31
 rw[c4] at q32 q33 q34 q35 q36 q37
 have t2:N.a 2=(m.drop o).take 8:=by rw[w2,hm0,z8];rfl
 have t4:N.a 4=(m.drop (o+8)).take 8:=by rw[w4,hm0,q18,z18];rfl
 have l2:(N.a 2).length=8:=by rw[t2,List.length_take,List.length_drop];exact v1
 have l4:(N.a 4).length=8:=by rw[t4,List.length_take,List.length_drop];exact v2
 have y2:Bytes (N.a 2):=by rw[t2];exact bytes_sub hB _ _
 have y4:Bytes (N.a 4):=by rw[t4];exact bytes_sub hB _ _
 have b15:0≤N.i 15∧N.i 15<18446744073709551616:=by rw[q15];exact leV8 y2 l2
 have b19:0≤N.i 19∧N.i 19<18446744073709551616:=by rw[q19];exact leV8 y4 l4
 obtain ⟨d1,d2,d3,d4,d5⟩:=addc hh0 hh1 hh2 b15 b19 q16 q17 q20 q21
 have g2:N.i 23=N.i 12+N.i 21+1:=by rw[q23,q22,u64_add,u64_add];exact up2 hh2 d4
 have bg2:0≤N.i 23∧N.i 23≤6:=by rw[g2];exact up3 hh2 d4
 have hsum:N.i 15+N.i 19*18446744073709551616=leV ((m.drop o).take 16):=by
  rw[q15,q19];show leV (N.a 2)+leV (N.a 4)*_=_
  rw[t2,t4];exact leV_16 v0
 have hG:N.i 16+N.i 20*18446744073709551616+N.i 23*340282366920938463463374607431768211456=limbV (N.i 10) (N.i 11) (N.i 12)+chunkN ((m.drop o).take 16):=by
  rw[g2,chunkN,List.length_take,List.length_drop,v3,←hsum,limbV]
  have:(256:Int)^16=340282366920938463463374607431768211456:=by decide
  rw[this]
  exact sum_a d5
 obtain ⟨⟨f1,f2,f3,f4⟩,r31,r37,pA,pB,b40,b27,b42,b41,b36,b43,b26,b51,b48,b57,b58⟩:=red (g0:=N.i 16) (g1:=N.i 20) (g2:=N.i 23) (r0:=s3) (r1:=s4) d1 d2 bg2 hr0 hr1
  q26 q27 q28 q29 q30 q31 q32 q33 q34 q35 q36 q37 q40 q41 q42 q43 q44 q45 q46 q47 q48 q50 q51 q52 q53 q54 q55 q56 q57 q58 q59 q60 q61 q62 q63
 refine ⟨?_,fun a2 w2 hat2=>H _ a2 w2 ?_ hat2⟩
 ·simp only[List.forall_mem_cons,Ob.holds,Ar.ev,List.map_cons,List.map_nil,hf,hF.p48,hF.p53,hF.p54,hF.p55,hm0]
  refine ⟨b58.2,b58.1,b57.2,b57.1,(by rw[w9];exact ⟨b51,b48⟩),b26.2,b26.1,b43.2,b43.1,b36.2,b36.1,b41.2,b41.1,b42.2,b42.1,b27.2,b27.1,b40.2,b40.1,(by rw[w7,w8];exact pB),(by rw[w5,w6];exact pA),(by rw[q39,r37];rfl),(by rw[q38,r31];rfl),(P53.mk (g2b bg2) (c4▸r1b hr1)),(P53.mk d2 (c4▸r1b hr1)),(P53.mk d1 (c4▸r1b hr1)),(P53.mk (g2b bg2) (c3▸r0b hr0)),(P53.mk d2 (c3▸r0b hr0)),(P53.mk d1 (c3▸r0b hr0)),u7,(Int.le_refl _),u1,b19.2,b19.1,hh1.2,hh1.1,(P48.mk w3 y4),(by rw[q18];exact u6),u3,u1,b15.2,b15.1,hh0.2,hh0.1,(P48.mk w1 y2),u5,u2,(by rw[q14];exact boo_true (decide_eq_true u1)),u0,(by rw[q13];exact boo_true (decide_eq_true u4)),u0,nofun⟩
 ·refine ⟨⟨c0,c1,c2,c3,c4,c5,c6⟩,hm0,⟨o+16,?_,zo,?_,zk,?_⟩,f2,f3,f4⟩
  ·show N.i 24=_
   rw[q24];exact z24
  ·show N.i 25=_
   rw[q25];exact z25
  ·show updH _ _ (N.i 59+N.i 61*18446744073709551616+N.i 63*340282366920938463463374607431768211456) _=T
   rw[f1,hG,←hT]
   have:=updH_step (R:=s3+s4*18446744073709551616) (H:=limbV (N.i 10) (N.i 11) (N.i 12)) (m:=m.drop o) v5
   rw[v4,List.drop_drop] at this
   rw[this]
set_option maxHeartbeats 4000000 in
theorem rnd49b {F:Fns}(hF:F49 F){Ne:Num}{Ee:Env}{we:World}(hI:Inv Ee (stOf ct49)){M:Num}{s0 s1 s2 s3 s4 s5 s6:Int}{m:List Int}{T:Int}{k:Nat}{a:Act}{w:World}(hat:At F Try.f49.ntmps Ne Ee (stOf ct49) we T49a s49a M a w)
  (hA:A49a M s0 s1 s2 s3 s4 s5 s6 m T k) (hk:k=16) (hr0:0≤s3∧s3≤1152921487695413247) (hr1:0≤s4∧s4≤1152921487695413244) (hB:Bytes m) {K:Act→World→Prop} {Q:Exit→Act→World→Prop}
  (H:∀N a' w',A49b N s0 s1 s2 s3 s4 s5 s6 T→At F Try.f49.ntmps Ne Ee (stOf ct49) we T49b s49b N a' w'→K a' w') :
  (loopAt 49 2).1.wp Try.prog (Exit.then K (wpK Try.prog (loopAt 49 2).2 Q)) a w:=by
 refine to_round hm (callT_ok (tab49_ok hF)) r49b (by kernel_rfl) rfl rfl hat hI fun N hag hf hd=> ?_
 have hA:=hA.agr hag
 clear hag hat
 obtain ⟨⟨c0,c1,c2,c3,c4,c5,c6⟩,hm0,⟨o,e8,ho,e9,hko,hT⟩,hh0,hh1,hh2⟩:=hA
 have v0:o+16≤m.length:=by omega
 have v1:min 8 (m.length-o)=8:=by omega
 have v2:min 8 (m.length-(o+8))=8:=by omega
 have v3:min 16 (m.length-o)=16:=by omega
 have v4:(m.drop o).length=k:=by rw[List.length_drop];omega
 have v5:0<(m.drop o).length:=by omega
 have u0:0≤N.i 9:=by omega
 have u1:16≤N.i 9:=by omega
 have u2:8≤N.i 9:=by omega
 have u3:8<N.i 9:=by omega
 have u4:(0:Int)<N.i 9:=by omega
 have u5:0≤N.i 8∧0≤(8:Int)∧N.i 8+8≤m.length:=by omega
 have u6:0≤N.i 8+8*1∧0≤(8:Int)∧N.i 8+8*1+8≤m.length:=by omega
 have u7:16=N.i 9:=by omega
 have z8:(N.i 8).toNat=o:=by omega
 have z18:(N.i 8+8*1).toNat=o+8:=by omega
 have zl:(m.drop o).length≤16:=by omega
 simp only[List.forall_mem_cons,Df.sat,Nd.ev,Ad.ev,Ar.ev,List.map_cons,List.map_nil,hf,hF.i48,hF.i53,hF.i54,hF.i55,I53] at hd
 obtain ⟨q61,q60,q59,q58,q57,q56,q55,w9,q54,q53,q52,q51,q50,q49,q48,q47,q46,q45,q44,q43,q42,q41,q40,w8,w7,q39,q38,w6,w5,q37,q36,q35,q34,q33,q32,q31,q30,q29,q28,q27,q26,q25,q24,q23,q22,q21,q20,q19,w4,w3,q18,q17,q16,q15,w2,w1,q14,q13,-⟩:=hd
 rw[w5,w6] at q38 q39
 rw[w7,w8] at q40 q41
 rw[w9] at q55 q56
 simp only[I54,I55] at q38 q39 q40 q41 q55 q56
 rw[c3] at q24 q25 q26 q27 q28 q29
 rw[c4] at q30 q31 q32 q33 q34 q35
 have t2:N.a 2=(m.drop o).take 8:=by rw[w2,hm0,z8];rfl
 have t4:N.a 4=(m.drop (o+8)).take 8:=by rw[w4,hm0,q18,z18];rfl
 have l2:(N.a 2).length=8:=by rw[t2,List.length_take,List.length_drop];exact v1
 have l4:(N.a 4).length=8:=by rw[t4,List.length_take,List.length_drop];exact v2
 have y2:Bytes (N.a 2):=by rw[t2];exact bytes_sub hB _ _
 have y4:Bytes (N.a 4):=by rw[t4];exact bytes_sub hB _ _
 have b15:0≤N.i 15∧N.i 15<18446744073709551616:=by rw[q15];exact leV8 y2 l2
 have b19:0≤N.i 19∧N.i 19<18446744073709551616:=by rw[q19];exact leV8 y4 l4
 obtain ⟨d1,d2,d3,d4,d5⟩:=addc hh0 hh1 hh2 b15 b19 q16 q17 q20 q21
 have g2:N.i 23=N.i 12+N.i 21+1:=by rw[q23,q22,u64_add,u64_add];exact up2 hh2 d4
 have bg2:0≤N.i 23∧N.i 23≤6:=by rw[g2];exact up3 hh2 d4
 have hsum:N.i 15+N.i 19*18446744073709551616=leV ((m.drop o).take 16):=by
  rw[q15,q19];show leV (N.a 2)+leV (N.a 4)*_=_
  rw[t2,t4];exact leV_16 v0
 have hG:N.i 16+N.i 20*18446744073709551616+N.i 23*340282366920938463463374607431768211456=limbV (N.i 10) (N.i 11) (N.i 12)+chunkN ((m.drop o).take 16):=by
  rw[g2,chunkN,List.length_take,List.length_drop,v3,←hsum,limbV]
  have:(256:Int)^16=340282366920938463463374607431768211456:=by decide
  rw[this]
  exact sum_a d5
 obtain ⟨⟨f1,f2,f3,f4⟩,r31,r37,pA,pB,b40,b27,b42,b41,b36,b43,b26,b51,b48,b57,b58⟩:=red (g0:=N.i 16) (g1:=N.i 20) (g2:=N.i 23) (r0:=s3) (r1:=s4) d1 d2 bg2 hr0 hr1
  q24 q25 q26 q27 q28 q29 q30 q31 q32 q33 q34 q35 q38 q39 q40 q41 q42 q43 q44 q45 q46 q48 q49 q50 q51 q52 q53 q54 q55 q56 q57 q58 q59 q60 q61
 refine ⟨?_,fun a2 w2 hat2=>H _ a2 w2 ?_ hat2⟩
 ·simp only[List.forall_mem_cons,Ob.holds,Ar.ev,List.map_cons,List.map_nil,hf,hF.p48,hF.p53,hF.p54,hF.p55,hm0]
  refine ⟨b58.2,b58.1,b57.2,b57.1,(by rw[w9];exact ⟨b51,b48⟩),b26.2,b26.1,b43.2,b43.1,b36.2,b36.1,b41.2,b41.1,b42.2,b42.1,b27.2,b27.1,b40.2,b40.1,(by rw[w7,w8];exact pB),(by rw[w5,w6];exact pA),(by rw[q37,r37];rfl),(by rw[q36,r31];rfl),(P53.mk (g2b bg2) (c4▸r1b hr1)),(P53.mk d2 (c4▸r1b hr1)),(P53.mk d1 (c4▸r1b hr1)),(P53.mk (g2b bg2) (c3▸r0b hr0)),(P53.mk d2 (c3▸r0b hr0)),(P53.mk d1 (c3▸r0b hr0)),u7,(Int.le_refl _),u1,b19.2,b19.1,hh1.2,hh1.1,(P48.mk w3 y4),(by rw[q18];exact u6),u3,u1,b15.2,b15.1,hh0.2,hh0.1,(P48.mk w1 y2),u5,u2,(by rw[q14];exact boo_true (decide_eq_true u1)),u0,(by rw[q13];exact boo_true (decide_eq_true u4)),u0,nofun⟩
 ·refine ⟨⟨c0,c1,c2,c3,c4,c5,c6⟩,?_,f2,f3,f4⟩
  show N.i 57+N.i 59*18446744073709551616+N.i 61*340282366920938463463374607431768211456=T
  rw[f1,hG,←hT]
  have:=updH_step (R:=s3+s4*18446744073709551616) (H:=limbV (N.i 10) (N.i 11) (N.i 12)) (m:=m.drop o) v5
  rw[v4,List.drop_of_length_le zl,updH_nil] at this
  rw[this]
set_option maxHeartbeats 4000000 in
theorem rnd49c {F:Fns}(hF:F49 F){Ne:Num}{Ee:Env}{we:World}(hI:Inv Ee (stOf ct49)){M:Num}{s0 s1 s2 s3 s4 s5 s6:Int}{m:List Int}{T:Int}{k:Nat}{a:Act}{w:World}(hat:At F Try.f49.ntmps Ne Ee (stOf ct49) we T49a s49a M a w)
  (hA:A49a M s0 s1 s2 s3 s4 s5 s6 m T k) (hk:0<k∧k<16) (hr0:0≤s3∧s3≤1152921487695413247) (hr1:0≤s4∧s4≤1152921487695413244) (hB:Bytes m) {K:Act→World→Prop} {Q:Exit→Act→World→Prop}
  (H:∀N a' w',A49b N s0 s1 s2 s3 s4 s5 s6 T→At F Try.f49.ntmps Ne Ee (stOf ct49) we T49c s49c N a' w'→K a' w') :
  (loopAt 49 2).1.wp Try.prog (Exit.then K (wpK Try.prog (loopAt 49 2).2 Q)) a w:=by
 refine to_round hm (callT_ok (tab49_ok hF)) r49c (by kernel_rfl) rfl rfl hat hI fun N hag hf hd=> ?_
 have hA:=hA.agr hag
 clear hag hat
 obtain ⟨⟨c0,c1,c2,c3,c4,c5,c6⟩,hm0,⟨o,e8,ho,e9,hko,hT⟩,hh0,hh1,hh2⟩:=hA
 have b9:N.i 9=(k:Int):=by omega
 have v4:(m.drop o).length=k:=by rw[List.length_drop];omega
 have v5:0<(m.drop o).length:=by omega
 have v6:(m.drop o).length≤16:=by omega
 have v7:(m.drop o).length≤k:=by omega
 have v8:k+(16-k)=16:=by omega
 have v9:k+(15-k+1)=16:=by omega
 have v10:¬((16:Int)<N.i 9):=by omega
 have v11:(0:Int)+(k:Int)*1=k:=by omega
 have hk2:k<16:=by omega
 have u0:0≤N.i 9:=by omega
 have u4:(0:Int)<N.i 9:=by omega
 have u8:¬(16≤N.i 9):=by omega
 have u9:N.i 9<16:=by omega
 have z8:(N.i 8).toNat=o:=by omega
 have u10:0≤N.i 8∧0≤(k:Int)∧N.i 8+(k:Int)≤m.length:=by omega
 have u11:(0:Int)≤0∧0≤(k:Int)∧0+(k:Int)≤16:=by omega
 have u12:0≤(k:Int)∧(k:Int)<16:=by omega
 have zl:(m.drop o).length≤16:=by omega
 simp only[List.forall_mem_cons,Df.sat,Nd.ev,Ad.ev,Ar.ev,List.map_cons,List.map_nil,hf,hF.i48,hF.i53,hF.i54,hF.i55,I53] at hd
 obtain ⟨q61,q60,q59,q58,q57,q56,q55,w13,q54,q53,q52,q51,q50,q49,q48,q47,q46,q45,q44,q43,q42,q41,q40,w12,w11,q39,q38,w10,w9,q37,q36,q35,q34,q33,q32,q31,q30,q29,q28,q27,q26,q25,q24,q23,q22,q21,q20,w8,w7,q19,q18,q17,w6,w5,w4,q16,w3,w2,w1,q15,q14,q13,-⟩:=hd
 rw[w9,w10] at q38 q39
 rw[w11,w12] at q40 q41
 rw[w13] at q55 q56
 simp only[I54,I55] at q38 q39 q40 q41 q55 q56
 rw[c3] at q24 q25 q26 q27 q28 q29
 rw[c4] at q30 q31 q32 q33 q34 q35
 have q15':N.i 15=(k:Int):=(q15.trans (if_neg v10)).trans b9
 have t1:N.a 1=m.drop o:=by
  rw[w1,hm0,q15',z8,Int.toNat_natCast,List.take_of_length_le v7]
 have l1:(m.drop o).length=k:=v4
 have q16':N.i 16=(k:Int):=by rw[q16,b9];exact v11
 have t3:N.a 3=m.drop o++List.replicate (16-k) 0:=by
  rw[w3,w2,t1]
  show List.take 0 _++m.drop o++List.drop (0+(m.drop o).length) (List.replicate 16 (0:Int))=_
  rw[l1,List.take_zero,List.nil_append,Nat.zero_add,List.drop_replicate]
 have t4:N.a 4=m.drop o++1::List.replicate (15-k) 0:=by
  rw[w4,t3,q16']
  exact set_end l1 hk2
 have y4:Bytes (N.a 4):=by
  rw[t4];intro x hx
  rcases List.mem_append.1 hx with h | h
  ·exact hB.drop o x h
  ·rcases List.mem_cons.1 h with h | h
   ·rw [h];decide
   ·rw [(List.mem_replicate.1 h).2];decide
 have l4:(N.a 4).length=16:=by rw[t4];simp only[List.length_append,List.length_cons,List.length_replicate,l1];exact v9
 have l3:(N.a 3).length=16:=by rw[t3];simp only[List.length_append,List.length_replicate,l1];exact v8
 have t6:N.a 6=(N.a 4).take 8:=by rw[w6];rfl
 have t8:N.a 8=(N.a 4).drop 8:=by
  rw[w8];show ((N.a 4).drop 8).take 8=_
  rw[List.take_of_length_le (by rw[List.length_drop,l4];decide)]
 have l6:(N.a 6).length=8:=by rw[t6,List.length_take,l4];decide
 have l8:(N.a 8).length=8:=by rw[t8,List.length_drop,l4]
 have y6:Bytes (N.a 6):=by rw[t6];exact y4.take 8
 have y8:Bytes (N.a 8):=by rw[t8];exact y4.drop 8
 have b17:0≤N.i 17∧N.i 17<18446744073709551616:=by rw[q17];exact leV8 y6 l6
 have b20:0≤N.i 20∧N.i 20<18446744073709551616:=by rw[q20];exact leV8 y8 l8
 obtain ⟨d1,d2,d3,d4,d5⟩:=addc hh0 hh1 hh2 b17 b20 q18 q19 q21 q22
 have g2:N.i 23=N.i 12+N.i 22:=by rw[q23,u64_add];exact up0 hh2 d4
 have bg2:0≤N.i 23∧N.i 23≤6:=by rw[g2];exact up1 hh2 d4
 have hsum:N.i 17+N.i 20*18446744073709551616=chunkN ((m.drop o).take 16):=by
  rw[q17,q20];show leV (N.a 6)+leV (N.a 8)*_=_
  have e1:=leV_append (N.a 6) (N.a 8)
  have e0:N.a 6++N.a 8=N.a 4:=by rw[t6,t8,List.take_append_drop]
  rw[e0,l6,t4,leV_append,l1] at e1
  rw[chunkN,List.take_of_length_le v6,l1]
  rw[leV_one] at e1
  have:(256:Int)^8=18446744073709551616:=by decide
  rw[this] at e1
  exact sum_c e1
 have hG:N.i 18+N.i 21*18446744073709551616+N.i 23*340282366920938463463374607431768211456=limbV (N.i 10) (N.i 11) (N.i 12)+chunkN ((m.drop o).take 16):=by
  rw[g2,limbV,←hsum];exact d5
 obtain ⟨⟨f1,f2,f3,f4⟩,r31,r37,pA,pB,b40,b27,b42,b41,b36,b43,b26,b51,b48,b57,b58⟩:=red (g0:=N.i 18) (g1:=N.i 21) (g2:=N.i 23) (r0:=s3) (r1:=s4) d1 d2 bg2 hr0 hr1
  q24 q25 q26 q27 q28 q29 q30 q31 q32 q33 q34 q35 q38 q39 q40 q41 q42 q43 q44 q45 q46 q48 q49 q50 q51 q52 q53 q54 q55 q56 q57 q58 q59 q60 q61
 refine ⟨?_,fun a2 w2 hat2=>H _ a2 w2 ?_ hat2⟩
 ·simp only[List.forall_mem_cons,Ob.holds,Ar.ev,List.map_cons,List.map_nil,hf,hF.p48,hF.p53,hF.p54,hF.p55,hm0]
  refine ⟨b58.2,b58.1,b57.2,b57.1,(by rw[w13];exact ⟨b51,b48⟩),b26.2,b26.1,b43.2,b43.1,b36.2,b36.1,b41.2,b41.1,b42.2,b42.1,b27.2,b27.1,b40.2,b40.1,(by rw[w11,w12];exact pB),(by rw[w9,w10];exact pA),(by rw[q37,r37];rfl),(by rw[q36,r31];rfl),(P53.mk (g2b bg2) (c4▸r1b hr1)),(P53.mk d2 (c4▸r1b hr1)),(P53.mk d1 (c4▸r1b hr1)),(P53.mk (g2b bg2) (c3▸r0b hr0)),(P53.mk d2 (c3▸r0b hr0)),(P53.mk d1 (c3▸r0b hr0)),b20.2,b20.1,hh1.2,hh1.1,(P48.mk w7 y8),(by rw[l4];decide),b17.2,b17.1,hh0.2,hh0.1,(P48.mk w5 y6),(by rw[l4];decide),(by rw[q16',l3];exact u12),u9,u0,u0,(by rw[q15',w2];exact u11),(by rw[q15'];exact u12.1),(by rw[q15'];exact u10),(by rw[q14];exact boo_false (decide_eq_false u8)),u0,(by rw[q13];exact boo_true (decide_eq_true u4)),u0,nofun⟩
 ·refine ⟨⟨c0,c1,c2,c3,c4,c5,c6⟩,?_,f2,f3,f4⟩
  show N.i 57+N.i 59*18446744073709551616+N.i 61*340282366920938463463374607431768211456=T
  rw[f1,hG,←hT]
  have:=updH_step (R:=s3+s4*18446744073709551616) (H:=limbV (N.i 10) (N.i 11) (N.i 12)) (m:=m.drop o) v5
  rw[v4,List.drop_of_length_le zl,updH_nil] at this
  rw[this]
theorem out49 {H h0 h1 h2:Int}(hl:LimbsOk h0 h1 h2)(hH:limbV h0 h1 h2=H):h0=H%18446744073709551616∧h1=H/18446744073709551616%18446744073709551616∧h2=H/340282366920938463463374607431768211456:=by
 obtain ⟨a,b,c⟩:=hl
 unfold limbV at hH
 omega
set_option maxHeartbeats 1000000 in
theorem spec49 {F:Fns}(hF:F49 F):CSpec Try.prog F 49 ct49:=by
 refine cspec_of (args:=argsOf ct49) (σe:=stOf ct49) rfl Try.func49 (body_some (by kernel_rfl)) (by kernel_rfl) (by kernel_rfl) fun is ls ws we Ee a hs hp hent hat=> ?_
 obtain rfl:=Shape.noInt rfl hs
 match ls,hs with
 | [S,m],hs =>
 obtain ⟨hl,-⟩:=hs
 match S,hl with
 | [s0,s1,s2,s3,s4,s5,s6],_ =>
 have hp:P49 [] [[s0,s1,s2,s3,s4,s5,s6],m]:=by rw[←hF.p49];exact hp
 obtain ⟨b0,b1,b2,br0,br1,hB⟩:=hp
 refine to_head hm (callT_ok (tab49_ok hF)) h49 (by kernel_rfl) rfl rfl hat hent.inv fun N hag hf _=>⟨nofun,fun a1 w1 hat1=> ?_⟩
 have e:∀x,x<8→N.i x=(num0 F ct49.ps [] [[s0,s1,s2,s3,s4,s5,s6],m]).i x:=hag.i
 have ea:N.a 0=m:=hag.a 0 (by decide)
 generalize hT:updH (s3+s4*18446744073709551616) m.length (s0+s1*18446744073709551616+s2*340282366920938463463374607431768211456) m=T
 have fin:∀ {N:Num} {x y z:Nat} ,LimbsOk (N.i x) (N.i y) (N.i z)→limbV (N.i x) (N.i y) (N.i z)=T→N.i 3=s3→N.i 4=s4→N.i 5=s5→N.i 6=s6 →
   [Ar.var x,Ar.var y,Ar.var z,Ar.var 3,Ar.var 4,Ar.var 5,Ar.var 6].map (·.ev N)=F.a 49 [] [[s0,s1,s2,s3,s4,s5,s6],m]:=fun {N x y z} hl hv c3 c4 c5 c6=>by
  rw[hF.a49]
  obtain ⟨g1,g2,g3⟩:=out49 hl hv
  simp only[List.map_cons,List.map_nil,Ar.ev,A49,hT,c3,c4,c5,c6,g1.symm,g2.symm,g3.symm]
 have hlen:∀L,rwArg ct49.ps [] [[s0,s1,s2,s3,s4,s5,s6],m]=some L→(F.a ct49.fw [] [[s0,s1,s2,s3,s4,s5,s6],m]).length=L.length:=fun L h=>by
  have:L=[s0,s1,s2,s3,s4,s5,s6]:=by
   simp only[ct49,rwArg,Option.some.injEq] at h;exact h.symm
  subst this
  show (F.a 49 [] _).length=_
  rw[hF.a49];rfl
 let Ne:=num0 F ct49.ps [] [[s0,s1,s2,s3,s4,s5,s6],m]
 refine loop_law (fun k a w=>(∃ N,A49a N s0 s1 s2 s3 s4 s5 s6 m T k∧At F Try.f49.ntmps Ne Ee (stOf ct49) we T49a s49a N a w)∨(∃ N,A49b N s0 s1 s2 s3 s4 s5 s6 T∧At F Try.f49.ntmps Ne Ee (stOf ct49) we T49b s49b N a w) ∨
  (∃ N,A49b N s0 s1 s2 s3 s4 s5 s6 T∧At F Try.f49.ntmps Ne Ee (stOf ct49) we T49c s49c N a w)) (k:=m.length) (.inl ⟨_,?_,hat1⟩) ?_
 ·refine ⟨⟨e 0 (by decide),e 1 (by decide),e 2 (by decide),e 3 (by decide),e 4 (by decide),e 5 (by decide),e 6 (by decide)⟩,ea,⟨0,rfl,Nat.zero_le _,e 7 (by decide),rfl,?_⟩,?_⟩
  all_goals have h0:N.i 0=s0:=e 0 (by decide)
  all_goals have h1:N.i 1=s1:=e 1 (by decide)
  all_goals have h2:N.i 2=s2:=e 2 (by decide)
  ·show updH _ _ (N.i 0+N.i 1*_+N.i 2*_) (m.drop 0)=T
   rw[h0,h1,h2];exact hT
  ·show LimbsOk (N.i 0) (N.i 1) (N.i 2)
   rw[h0,h1,h2]
   exact ⟨b0,b1,b2⟩
 ·clear hat hat1 e ea hag hf
  intro k a w hJ
  rcases hJ with ⟨N,hA,hat⟩ | ⟨N,hA,hat⟩ | ⟨N,hA,hat⟩
  ·rcases Nat.eq_zero_or_pos k with h0 | h0
   ·
    refine to_out hm (callT_ok (tab49_ok hF)) o49a (by kernel_rfl) hat hent fun N' hag hf hd=> ?_
    have hA:=hA.agr hag
    obtain ⟨⟨c0,c1,c2,c3,c4,c5,c6⟩,hm0,⟨o,e8,ho,e9,hko,hT'⟩,hh⟩:=hA
    simp only[List.forall_mem_cons,Df.sat,Nd.ev,Ar.ev] at hd
    have h9:N'.i 9=0:=by omega
    refine ⟨?_,⟨nofun,fin hh (by rw[h0] at hT';exact hT') c3 c4 c5 c6,trivial⟩,hlen⟩
    simp only[List.forall_mem_cons,Ob.holds,Ar.ev]
    refine ⟨by rw[hd.1];exact boo_false (decide_eq_false (by rw[h9];decide)),by rw[h9];decide,nofun⟩
   ·rcases Nat.lt_trichotomy k 16 with h | h | h
    ·exact rnd49c hF hent.inv hat hA ⟨h0,h⟩ br0 br1 hB fun N' a' w' h1 h2=>⟨0,h0,.inr (.inr ⟨N',h1,h2⟩)⟩
    ·exact rnd49b hF hent.inv hat hA h br0 br1 hB fun N' a' w' h1 h2=>⟨0,h0,.inr (.inl ⟨N',h1,h2⟩)⟩
    ·exact rnd49a hF hent.inv hat hA h br0 br1 hB fun N' a' w' h1 h2=>⟨k-16,by omega,.inl ⟨N',h1,h2⟩⟩
  ·refine to_out hm (callT_ok (tab49_ok hF)) o49b (by kernel_rfl) hat hent fun N' hag hf hd=> ?_
   have e:∀x,x<11→N'.i x=N.i x:=hag.i
   obtain ⟨⟨c0,c1,c2,c3,c4,c5,c6⟩,hv,hh⟩:=hA
   rw[←e 8 (by decide),←e 9 (by decide),←e 10 (by decide)] at hv hh
   rw[←e 3 (by decide)] at c3
   rw[←e 4 (by decide)] at c4
   rw[←e 5 (by decide)] at c5
   rw[←e 6 (by decide)] at c6
   exact ⟨nofun,⟨nofun,fin hh hv c3 c4 c5 c6,trivial⟩,hlen⟩
  ·refine to_out hm (callT_ok (tab49_ok hF)) o49c (by kernel_rfl) hat hent fun N' hag hf hd=> ?_
   have e:∀x,x<11→N'.i x=N.i x:=hag.i
   obtain ⟨⟨c0,c1,c2,c3,c4,c5,c6⟩,hv,hh⟩:=hA
   rw[←e 8 (by decide),←e 9 (by decide),←e 10 (by decide)] at hv hh
   rw[←e 3 (by decide)] at c3
   rw[←e 4 (by decide)] at c4
   rw[←e 5 (by decide)] at c5
   rw[←e 6 (by decide)] at c6
   exact ⟨nofun,⟨nofun,fin hh hv c3 c4 c5 c6,trivial⟩,hlen⟩
end Go.Proofs.Ytlcljhlijmombaa
