/- Facts of runs: spec.digits, spec.settled, spec.lowered. -/
import Derived.Test.YtnfikgagkamioaaGreatDoorS12m
namespace Go.Proofs.YtnfikgagkamioaaGreatDoor.S
open Go.Sy
section
variable {F:Fns} {N:Num} {s:Nat} {box nonce key:List Int}
theorem nums12 {pre:List Int}(hp:pre.length=s)(h:∀x,x<57+s→N.i x=(pre++(box.length:Int)::(nonce++key)).getD x 0)(ln:nonce.length=24)(_lk:key.length=32) :
 N.i s=box.length∧(∀ j,j<24→N.i (1+s+j)=nonce.getD j 0)∧∀j,j<32→N.i (1+s+24+j)=key.getD j 0:=by
 refine ⟨?_,fun j hj=> ?_,fun j hj=> ?_⟩;·rw [h s (by omega)];exact getD_at (j:=0) hp
 ·rw [h _ (by omega),show 1+s+j=s+(j+1) by omega,getD_at hp];exact getD_lo (by omega)
 ·rw [h _ (by omega),show 1+s+24+j=s+(24+j+1) by omega,getD_at hp];exact getD_at (j:=j) ln
end
theorem spec12e {F:Fns}(hF:F12 F):CSpec Tryz.prog F 36 ct12e :=
 fG (gP (tab2:=[]) (gM hF) trivial) Tryz.func36 (by kernel_rfl) (by kernel_rfl) (by kernel_rfl) run12e (by kernel_rfl) fun is ls N hs hp hag hf hd=>by
  obtain rfl:=eV rfl hs
  match ls,hs with
  | [_,_,_],_=>exact ⟨nofun,⟨nofun,trivial,trivial⟩,nofun⟩
theorem spec12f {F:Fns}(hF:F12 F):CSpec Tryz.prog F 36 ct12f:=by
 refine gA (args:=argsOf ct12f) (σe:=stOf ct12f) rfl Tryz.func36 (fM (by kernel_rfl)) (by kernel_rfl) (by kernel_rfl) fun is ls ws we Ee a hs hp hent hat=> ?_
 obtain rfl:=eV rfl hs
 match ls,hs with
 | [box,nonce,key],hs =>
 obtain ⟨ln,lk,-⟩:=hs;have hp:P120 [] [box,nonce,key]:=by rw[←hF.p120];exact hp
 obtain ⟨hB,h8,hno⟩:=hp;have hnum:∀ {N:Num},Agr (stOf ct12f).nx (stOf ct12f).na (num0 F ct12f.ps [] [box,nonce,key]) N→(∀ x,x<57+0→N.i x=([]++(box.length:Int)::(nonce++key)).getD x 0)∧N.a 0=box:=fun {N} hag=>by refine ⟨fun x hx=> ?_,hag.a 0 (by decide)⟩;rw[hag.i x hx];show (numsL ct12f.ps [] [box,nonce,key]).getD x 0=_;simp only[ct12f,numsL,bJ,cC]
 rcases bL box.length 16 with h | h
 ·refine to_end hm (gP (tab2:=[]) (gM hF) trivial) run12fa (by kernel_rfl) hat hent fun N hag hf hd=> ?_
  obtain ⟨h1,h2⟩:=hnum hag;obtain ⟨hl,-,-⟩:=nums12 (s:=0) (pre:=[]) rfl h1 ln lk;simp only[aC,Df.sat,Nd.ev,Ar.ev,hl] at hd;refine ⟨?_,⟨nofun,trivial,trivial⟩,nofun⟩;simp only[aC,Ob.holds,Ar.ev,hl,hd.1,icmp];exact ⟨fL (bS (by omega)),by omega,nofun⟩
 have hne:tagOf box nonce key≠box.take 16:=fun e=>hno ⟨h,e⟩
 rcases Nat.eq_or_lt_of_le h with h16 | h16
 ·refine to_end hm (gP (tab2:=[]) (gM hF) trivial) run12fb (by kernel_rfl) hat hent fun N hag hf hd=> ?_
  obtain ⟨h1,hb⟩:=hnum hag;obtain ⟨hl,hn,hk⟩:=nums12 (s:=0) (pre:=[]) rfl h1 ln lk;obtain ⟨o1,q⟩:=pre0_law hF hf hd hl hb h16.symm hB hn hk ln lk;rw[bC hne] at q;refine ⟨aC.2 ⟨?_,o1⟩,⟨nofun,trivial,trivial⟩,nofun⟩;show (!(N.i 155==0))=false;rw[show N.i 155=0 from q];rfl
 ·refine to_end hm (gP (tab2:=[]) (gM hF) trivial) run12fc (by kernel_rfl) hat hent fun N hag hf hd=> ?_
  obtain ⟨h1,hb⟩:=hnum hag;obtain ⟨hl,hn,hk⟩:=nums12 (s:=0) (pre:=[]) rfl h1 ln lk;obtain ⟨o1,q,-,-⟩:=pre12_law hF hf hd hl hb h16 hB h8 hn hk ln lk;rw[bC hne] at q;refine ⟨aC.2 ⟨?_,o1⟩,⟨nofun,trivial,trivial⟩,nofun⟩;show (!(N.i 156==0))=false;rw[show N.i 156=0 from q];rfl
theorem spec12n0 {F:Fns}(hF:F12 F):CSpec Tryz.prog F 36 ct12n0:=by
 refine fG (gP (tab2:=[]) (tab12z_ok hF) trivial) Tryz.func36 (by kernel_rfl) (by kernel_rfl) (by kernel_rfl) run12n0 (by kernel_rfl) fun is ls N hs hp hag hf hd=> ?_
 obtain rfl:=eV rfl hs
 match ls,hs with
 | [box,nonce,key],hs =>
 obtain ⟨ln,lk,-⟩:=hs;have hp:P122 [] [box,nonce,key]:=by rw[←hF.p122];exact hp
 obtain ⟨⟨hB,h8,hok⟩,h16⟩:=hp;have hb:N.a 0=box:=hag.a 0 (by decide);have hnum:∀x,x<57+0→N.i x=([]++(box.length:Int)::(nonce++key)).getD x 0:=fun x hx=>by rw[hag.i x hx];show (numsL ct12n0.ps [] [box,nonce,key]).getD x 0=_;simp only[ct12n0,ct12n0,numsL,bJ,cC]
 obtain ⟨hl,hn,hk⟩:=nums12 (s:=0) (pre:=[]) rfl hnum ln lk;rw[cB] at hd;obtain ⟨hd1,hd2⟩:=hd;obtain ⟨o1,q⟩:=pre0_law hF hf hd2 hl hb h16 hB hn hk ln lk;rw[bG hok] at q;simp only[aC] at hd1;have qs:N.i 156=iop .sub .i64 (N.i 0) 16:=hd1.1;rw[hl,sub64 (by omega) h8,h16] at qs;have o3:(Ob.boo 155 true).holds N:=by show (!(N.i 155==0))=true;rw[show N.i 155=1 from q];rfl
 have o4:∀o∈[Ob.eq (.kst 16) (.var 0),.le (.var 0) (.var 0),.le (.kst 16) (.var 0),.le (.kst 0) (.var 0)],o.holds N:=by simp only[aC,Ob.holds,Ar.ev,hl];exact ⟨by omega,by omega,by omega,by omega,nofun⟩
 simp only[aC] at o4;obtain ⟨o41,o42,o43,o44,-⟩:=o4;have o5:(Ob.prd 240 [.var 156] []).holds N:=by show N.f.p 240 [N.i 156] [];rw[hf,hF.p24z,qs];rfl
 refine ⟨?_,⟨nofun,trivial,trivial⟩,nofun⟩;simp only[cB,aC];exact ⟨⟨⟨o41,o42,o43,o5,nofun⟩,o44,o3,nofun⟩,o1⟩
theorem spec12g0 {F:Fns}(hF:F12 F):CSpec Tryz.prog F 36 ct12g0:=by
 refine fG (gP (tab2:=[]) (tab12z_ok hF) trivial) Tryz.func36 (by kernel_rfl) (by kernel_rfl) (by kernel_rfl) run12g0 (by kernel_rfl) fun is ls N hs hp hag hf hd=> ?_
 obtain rfl:=eV rfl hs
 match ls,hs with
 | [out,box,nonce,key],hs =>
 obtain ⟨ln,lk,-⟩:=hs;have hp:P122 [] [out,box,nonce,key]:=by rw[←hF.p122];exact hp
 obtain ⟨ho8,⟨hB,h8,hok⟩,h16⟩:=hp;have hb:N.a 1=box:=hag.a 1 (by decide);have hnum:∀x,x<57+1→N.i x=([(out.length:Int)]++(box.length:Int)::(nonce++key)).getD x 0:=fun x hx=>by rw[hag.i x hx];show (numsL ct12g0.ps [] [out,box,nonce,key]).getD x 0=_;simp only[ct12g0,ct12n0,numsL,bJ,cC,cT]
 obtain ⟨hl,hn,hk⟩:=nums12 (s:=1) (pre:=[(out.length:Int)]) rfl hnum ln lk;rw[cB] at hd;obtain ⟨hd1,hd2⟩:=hd;obtain ⟨o1,q⟩:=pre0_law hF hf hd2 hl hb h16 hB hn hk ln lk;rw[bG hok] at q;simp only[aC] at hd1;have qs:N.i 157=iop .sub .i64 (N.i 1) 16:=hd1.2.2.1;rw[hl,sub64 (by omega) h8,h16] at qs;have o3:(Ob.boo 156 true).holds N:=by show (!(N.i 156==0))=true;rw[show N.i 156=1 from q];rfl
 have o4:∀o∈[Ob.eq (.kst 16) (.var 1),.le (.var 1) (.var 1),.le (.kst 16) (.var 1),.le (.kst 0) (.var 1)],o.holds N:=by simp only[aC,Ob.holds,Ar.ev,hl];exact ⟨by omega,by omega,by omega,by omega,nofun⟩
 simp only[aC] at o4;obtain ⟨o41,o42,o43,o44,-⟩:=o4;have hout:N.a 0=out:=hag.a 0 (by decide);have o5:(Ob.prd 240 [.var 157] [0]).holds N:=by show N.f.p 240 [N.i 157] [N.a 0];rw[hf,hF.p24z,hout,qs];exact ⟨rfl,by omega⟩
 have o6:(Ob.lenA (.var 0) 0).holds N:=by show N.i 0=((N.a 0).length:Nat);rw[hout,hnum 0 (by decide)];rfl
 have hmsg:msgL box nonce key=[]:=cI.1 (by rw[msgL_length];omega);have hA:F.a 12 [] [out,box,nonce,key]=out:=by rw[hF.a12];show out++msgL box nonce key=out;rw[hmsg,bJ]
 have w17:N.a 17=out:=by have:N.a 17=N.f.a 24 [N.i 157] [N.a 0]:=hd1.2.1;rw[this,hf,hF.a24,hout,qs];exact bJ out
 have q158:N.i 158=((N.a 17).length:Nat):=hd1.1;refine ⟨?_,⟨nofun,trivial,?_⟩,nofun⟩
 ·simp only[cB,aC];exact ⟨⟨⟨o41,o42,o43,o5,nofun⟩,o6,o44,o3,nofun⟩,o1⟩
 ·exact ⟨w17.trans hA.symm,by show N.i 158=((F.a 12 [] [out,box,nonce,key]).length:Nat);rw[q158,w17,hA],trivial⟩
set_option maxHeartbeats 1000000 in
theorem spec12n {F:Fns}(hF:F12 F):CSpec Tryz.prog F 36 ct12n:=by
 refine gA (args:=argsOf ct12n) (σe:=stOf ct12n) rfl Tryz.func36 (fM (by kernel_rfl)) (by kernel_rfl) (by kernel_rfl) fun is ls ws we Ee a hs hp hent hat=> ?_
 obtain rfl:=eV rfl hs
 match ls,hs with
 | [box,nonce,key],hs =>
 obtain ⟨ln,lk,-⟩:=hs;have hp:P121 [] [box,nonce,key]:=by rw[←hF.p121];exact hp
 obtain ⟨⟨hB,h8,hok⟩,h16⟩:=hp;have hA12:F.a 12 [] [box,nonce,key]=[]++msgL box nonce key:=by rw[hF.a12];rfl
 have fin:∀ {N:Num} {x A:Nat},N.a A=[]++msgL box nonce key→N.i x=(([]++msgL box nonce key).length:Nat)→(⟨[],none,some (.var x,A)⟩:Sum1).ok N F ct12n [] [box,nonce,key]:=fun {N x A} h1 h2 =>
  ⟨nofun,trivial,h1.trans hA12.symm,by show N.i x=((F.a 12 [] [box,nonce,key]).length:Nat);rw[h2,hA12],trivial⟩
 have enter:∀ {N:Num},Agr (stOf ct12n).nx (stOf ct12n).na (num0 F ct12n.ps [] [box,nonce,key]) N→N.f=F→(∀ d∈mid12 0 []++pre12 0,d.sat N) →
  I12 (pn (is12 0) (as12 0 16) N) 0 [] box nonce key 0∧∀t,t=decide (32<box.length-16)→∀x∈mob12 0 [] [] t++obs12 0,x.holds N:=fun {N} hag hf hd=>by
  have hb:N.a 0=box:=hag.a 0 (by decide);have hnum:∀x,x<57+0→N.i x=([]++(box.length:Int)::(nonce++key)).getD x 0:=fun x hx=>by rw[hag.i x hx];show (numsL ct12n.ps [] [box,nonce,key]).getD x 0=_;simp only[ct12n,ct12n,numsL,bJ,cC]
  obtain ⟨hl,hn,hk⟩:=nums12 (s:=0) (pre:=[]) rfl hnum ln lk;rw[cB] at hd;obtain ⟨o1,q,g2,g3⟩:=pre12_law hF hf hd.2 hl hb h16 hB h8 hn hk ln lk;rw[bG hok] at q;obtain ⟨hI,hob⟩:=mid12_law (out:=[]) hF hf (.inl rfl) hd.1 hl hb h16 h8 (by simp) (.inl ⟨rfl,rfl⟩) hn ln g2 g3 q;refine ⟨hI,fun t ht=> ?_⟩;rw[cB];exact ⟨hob _ (fun x hx=>by cases hx) t ht,o1⟩
 let Ne:=num0 F ct12n.ps [] [box,nonce,key]
 rcases bL 32 (box.length-16) with hn | hn
 ·refine to_head hm (gP (tab2:=[]) (gM hF) trivial) h12na (by kernel_rfl) rfl rfl hat hent.inv fun N hag hf hd=> ?_
  obtain ⟨hI,hob⟩:=enter hag hf hd;refine ⟨hob true (bS hn).symm,fun a1 w1 hat1=> ?_⟩;refine gQ (fun k a w=>∃N i,I12 N 0 [] box nonce key i∧k=32-i∧At F Tryz.f36.ntmps Ne Ee (stOf ct12n) we T12na s12na N a w) (k:=32) ⟨_,0,hI,rfl,hat1⟩ ?_;clear hat hat1 hag hd hob hI hf;intro k a w hJ;obtain ⟨N,i,hI,hk,hat⟩:=hJ;have hi:=hI.hi;rcases bL i 32 with h1 | h1
  ·refine gI hm (gP (tab2:=[]) (gM hF) trivial) r12na (by kernel_rfl) rfl rfl hat hent.inv fun M hag hf hd=> ?_
   obtain ⟨o1,hI'⟩:=rnd12_law (.inl rfl) (hI.agr hag rfl rfl) hd (show (32:Int)=_ by omega) (by omega) h16 h8;exact ⟨o1,fun a2 w2 hat2=>⟨32-(i+1),by omega,_,i+1,hI',rfl,hat2⟩⟩
  ·have:i=32:=by omega
   subst this;refine gH hm (gP (tab2:=[]) (gM hF) trivial) o12na (by kernel_rfl) hat hent fun M hag hf hd=> ?_
   obtain ⟨o1,o2,o3⟩:=end12a hF hf (hI.agr hag rfl rfl) hd hn h8 ln;exact ⟨o1,fin o2 o3,nofun⟩
 ·refine to_head hm (gP (tab2:=[]) (gM hF) trivial) h12nb (by kernel_rfl) rfl rfl hat hent.inv fun N hag hf hd=> ?_
  obtain ⟨hI,hob⟩:=enter hag hf hd;refine ⟨hob false (bZ (by omega)).symm,fun a1 w1 hat1=> ?_⟩;refine gQ (fun k a w=>∃N i,I12 N 0 [] box nonce key i∧k=box.length-16-i∧At F Tryz.f36.ntmps Ne Ee (stOf ct12n) we T12nb s12nb N a w) (k:=box.length-16) ⟨_,0,hI,rfl,hat1⟩ ?_;clear hat hat1 hag hd hob hI hf;intro k a w hJ;obtain ⟨N,i,hI,hk,hat⟩:=hJ;have hi:=hI.hi;rcases bL i (box.length-16) with h1 | h1
  ·refine gI hm (gP (tab2:=[]) (gM hF) trivial) r12nb (by kernel_rfl) rfl rfl hat hent.inv fun M hag hf hd=> ?_
   have hI1:=hI.agr hag rfl rfl;obtain ⟨o1,hI'⟩:=rnd12_law (.inl rfl) hI1 hd (show M.i (59+0)=_ by rw[hI1.i59];omega) (by omega) h16 h8;exact ⟨o1,fun a2 w2 hat2=>⟨box.length-16-(i+1),by omega,_,i+1,hI',rfl,hat2⟩⟩
  ·have:i=box.length-16:=by omega
   subst this;refine gH hm (gP (tab2:=[]) (gM hF) trivial) o12nb (by kernel_rfl) hat hent fun M hag hf hd=> ?_
   obtain ⟨o1,o2,o3⟩:=end12b (hI.agr hag rfl rfl) (hd _ (dI (i:=0) rfl)) hn;exact ⟨o1,fin o2 o3,nofun⟩
set_option maxHeartbeats 1000000 in
theorem spec12g {F:Fns}(hF:F12 F):CSpec Tryz.prog F 36 ct12g:=by
 refine gA (args:=argsOf ct12g) (σe:=stOf ct12g) rfl Tryz.func36 (fM (by kernel_rfl)) (by kernel_rfl) (by kernel_rfl) fun is ls ws we Ee a hs hp hent hat=> ?_
 obtain rfl:=eV rfl hs
 match ls,hs with
 | [out,box,nonce,key],hs =>
 obtain ⟨ln,lk,-⟩:=hs;have hp:P121 [] [out,box,nonce,key]:=by rw[←hF.p121];exact hp
 obtain ⟨ho8,⟨hB,h8,hok⟩,h16⟩:=hp;have hA12:F.a 12 [] [out,box,nonce,key]=out++msgL box nonce key:=by rw[hF.a12];rfl
 have fin:∀ {N:Num} {x A:Nat},N.a A=out++msgL box nonce key→N.i x=((out++msgL box nonce key).length:Nat)→(⟨[],none,some (.var x,A)⟩:Sum1).ok N F ct12g [] [out,box,nonce,key]:=fun {N x A} h1 h2 =>
  ⟨nofun,trivial,h1.trans hA12.symm,by show N.i x=((F.a 12 [] [out,box,nonce,key]).length:Nat);rw[h2,hA12],trivial⟩
 have enter:∀ {N:Num},Agr (stOf ct12g).nx (stOf ct12g).na (num0 F ct12g.ps [] [out,box,nonce,key]) N→N.f=F→(∀ d∈mid12 1 [0]++pre12 1,d.sat N) →
  I12 (pn (is12 1) (as12 1 16) N) 1 out box nonce key 0∧∀t,t=decide (32<box.length-16)→∀x∈mob12 1 [0] [.lenA (.var 0) 0] t++obs12 1,x.holds N:=fun {N} hag hf hd=>by
  have hb:N.a 1=box:=hag.a 1 (by decide);have hnum:∀x,x<57+1→N.i x=([(out.length:Int)]++(box.length:Int)::(nonce++key)).getD x 0:=fun x hx=>by rw[hag.i x hx];show (numsL ct12g.ps [] [out,box,nonce,key]).getD x 0=_;simp only[ct12g,ct12n,numsL,bJ,cC,cT]
  obtain ⟨hl,hn,hk⟩:=nums12 (s:=1) (pre:=[(out.length:Int)]) rfl hnum ln lk;rw[cB] at hd;obtain ⟨o1,q,g2,g3⟩:=pre12_law hF hf hd.2 hl hb h16 hB h8 hn hk ln lk;rw[bG hok] at q;obtain ⟨hI,hob⟩:=mid12_law (out:=out) hF hf (.inr rfl) hd.1 hl hb h16 h8 ho8 (.inr (by show [N.a 0]=[out];rw[show N.a 0=out from hag.a 0 (by decide)])) hn ln g2 g3 q;refine ⟨hI,fun t ht=> ?_⟩;rw[cB];exact ⟨hob _ (fun x hx=>by simp only[aX] at hx;subst hx;show N.i 0=((N.a 0).length:Nat);rw[show N.a 0=out from hag.a 0 (by decide),hnum 0 (by decide)];rfl) t ht,o1⟩
 let Ne:=num0 F ct12g.ps [] [out,box,nonce,key]
 rcases bL 32 (box.length-16) with hn | hn
 ·refine to_head hm (gP (tab2:=[]) (gM hF) trivial) h12ga (by kernel_rfl) rfl rfl hat hent.inv fun N hag hf hd=> ?_
  obtain ⟨hI,hob⟩:=enter hag hf hd;refine ⟨hob true (bS hn).symm,fun a1 w1 hat1=> ?_⟩;refine gQ (fun k a w=>∃N i,I12 N 1 out box nonce key i∧k=32-i∧At F Tryz.f36.ntmps Ne Ee (stOf ct12g) we T12ga s12ga N a w) (k:=32) ⟨_,0,hI,rfl,hat1⟩ ?_;clear hat hat1 hag hd hob hI hf;intro k a w hJ;obtain ⟨N,i,hI,hk,hat⟩:=hJ;have hi:=hI.hi;rcases bL i 32 with h1 | h1
  ·refine gI hm (gP (tab2:=[]) (gM hF) trivial) r12ga (by kernel_rfl) rfl rfl hat hent.inv fun M hag hf hd=> ?_
   obtain ⟨o1,hI'⟩:=rnd12_law (.inr rfl) (hI.agr hag rfl rfl) hd (show (32:Int)=_ by omega) (by omega) h16 h8;exact ⟨o1,fun a2 w2 hat2=>⟨32-(i+1),by omega,_,i+1,hI',rfl,hat2⟩⟩
  ·have:i=32:=by omega
   subst this;refine gH hm (gP (tab2:=[]) (gM hF) trivial) o12ga (by kernel_rfl) hat hent fun M hag hf hd=> ?_
   obtain ⟨o1,o2,o3⟩:=end12a hF hf (hI.agr hag rfl rfl) hd hn h8 ln;exact ⟨o1,fin o2 o3,nofun⟩
 ·refine to_head hm (gP (tab2:=[]) (gM hF) trivial) h12gb (by kernel_rfl) rfl rfl hat hent.inv fun N hag hf hd=> ?_
  obtain ⟨hI,hob⟩:=enter hag hf hd;refine ⟨hob false (bZ (by omega)).symm,fun a1 w1 hat1=> ?_⟩;refine gQ (fun k a w=>∃N i,I12 N 1 out box nonce key i∧k=box.length-16-i∧At F Tryz.f36.ntmps Ne Ee (stOf ct12g) we T12gb s12gb N a w) (k:=box.length-16) ⟨_,0,hI,rfl,hat1⟩ ?_;clear hat hat1 hag hd hob hI hf;intro k a w hJ;obtain ⟨N,i,hI,hk,hat⟩:=hJ;have hi:=hI.hi;rcases bL i (box.length-16) with h1 | h1
  ·refine gI hm (gP (tab2:=[]) (gM hF) trivial) r12gb (by kernel_rfl) rfl rfl hat hent.inv fun M hag hf hd=> ?_
   have hI1:=hI.agr hag rfl rfl;obtain ⟨o1,hI'⟩:=rnd12_law (.inr rfl) hI1 hd (show M.i (59+1)=_ by rw[hI1.i59];omega) (by omega) h16 h8;exact ⟨o1,fun a2 w2 hat2=>⟨box.length-16-(i+1),by omega,_,i+1,hI',rfl,hat2⟩⟩
  ·have:i=box.length-16:=by omega
   subst this;refine gH hm (gP (tab2:=[]) (gM hF) trivial) o12gb (by kernel_rfl) hat hent fun M hag hf hd=> ?_
   obtain ⟨o1,o2,o3⟩:=end12b (hI.agr hag rfl rfl) (hd _ (dI (i:=0) rfl)) hn;exact ⟨o1,fin o2 o3,nofun⟩
end Go.Proofs.YtnfikgagkamioaaGreatDoor.S
namespace Go.Sy
def valD:List Int→Int
 | []=>0
 | d::l=>d+65536*valD l
def digs:Nat→Int→List Int
 | 0,_=>[]
 | n+1,V=>V%65536::digs n (V/65536)
theorem gX:∀(n:Nat) (V:Int),(digs n V).length=n
 | 0,_=>rfl
 | n+1,V=>by simp[digs,gX n]
theorem digs_val:∀ {l:List Int},(∀ d∈l,0≤d∧d<65536)→digs l.length (valD l)=l
 | [],_=>rfl
 | d::l,h=>by
  have h1:=h d aN;have h2:=digs_val (l:=l) (fun x hx=>h x (aJ _ hx));simp only[bU,digs,valD];have e1:(d+65536*valD l)%65536=d:=by omega
  have e2:(d+65536*valD l)/65536=valD l:=by omega
  rw[e1,e2,h2]
theorem val_digs:∀(n:Nat) {V:Int},0≤V→V<65536^n→valD (digs n V)=V
 | 0,V,h0,h1=>by simp only[Int.pow_zero] at h1;simp only[digs,valD];omega
 | n+1,V,h0,h1=>by simp only[digs,valD];have e:(65536:Int)^(n+1)=65536^n*65536:=Int.pow_succ _ _;rw[e] at h1;rw[val_digs n (V:=V/65536) (by omega) (by omega)];omega
theorem digs_bound:∀(n:Nat) (V:Int),∀d∈digs n V,0≤d∧d<65536
 | 0,_,_,h=>by cases h
 | n+1,V,d,h=>by
  rcases cD.1 h with rfl | h
  ·omega
  ·exact digs_bound n _ d h
theorem u64_rem {x:Int}{k:Nat}(h:0≤x):iop .rem .u64 x (k:Int)=x%k:=by
 simp only[iop];rw[Int.tmod_eq_emod_of_nonneg h]
theorem u64_quo {x:Int}{k:Nat}(h:0≤x)(h1:x<18446744073709551616)(hk:0<k):iop .quo .u64 x (k:Int)=x/k:=by
 simp only[iop];rw[Int.tdiv_eq_ediv_of_nonneg h,IntKind.wrap_u64,bN (Int.ediv_nonneg h (by omega)) (cG (Int.ediv_le_self _ h) h1)]
theorem stp {c l s d e:Int}(hc:0≤c∧c<281474976710656)(hl:0≤l∧l<4611686018427387904)(qs:s=iop .add .u64 c l)(qd:d=iop .rem .u64 s 65536)(qe:e=iop .quo .u64 s 65536) :
 (0≤d∧d<65536)∧(0≤e∧e<281474976710656)∧c+l=d+65536*e:=by
 rw[u64_add,bN (by omega) (by omega)] at qs;rw[show (65536:Int)=((65536:Nat):Int) from rfl,u64_rem (by omega)] at qd;rw[show (65536:Int)=((65536:Nat):Int) from rfl,u64_quo (by omega) (by omega) (by decide)] at qe;omega
theorem stp4 {c l s d e:Int}(hc:0≤c∧c<281474976710656)(hl:0≤l∧l<1152921504606846976)(qs:s=iop .add .u64 c l)(qd:d=iop .rem .u64 s 4)(qe:e=iop .quo .u64 s 4) :
 (0≤d∧d<4)∧(0≤e∧e<288371113640067072)∧c+l=d+4*e:=by
 rw[u64_add,bN (by omega) (by omega)] at qs;rw[show (4:Int)=((4:Nat):Int) from rfl,u64_rem (by omega)] at qd;rw[show (4:Int)=((4:Nat):Int) from rfl,u64_quo (by omega) (by omega) (by decide)] at qe;omega
theorem stp5 {d e m s:Int}(hd:0≤d∧d<65536)(he:0≤e∧e<288371113640067072)(qm:m=iop .mul .u64 5 e)(qs:s=iop .add .u64 d m):s=d+5*e:=by
 rw[u64_mul,bN (by omega) (by omega)] at qm;rw[u64_add,bN (by omega) (by omega)] at qs;omega
def Wide (l:List Int):Prop :=
 match l with
 | [a,b,c,d,e,f,g,h,i]=>(0≤a∧a<4611686018427387904)∧(0≤b∧b<4611686018427387904)∧(0≤c∧c<4611686018427387904)∧(0≤d∧d<4611686018427387904)∧(0≤e∧e<4611686018427387904)∧(0≤f∧f<4611686018427387904)∧(0≤g∧g<4611686018427387904)∧(0≤h∧h<4611686018427387904)∧(0≤i∧i<1152921504606846976)
 | _=>False
theorem mod_sub_mul (V c:Int):(V-c*pP)%pP=V%pP:=by
 rw[Int.sub_eq_add_neg,←Int.neg_mul,Int.add_mul_emod_self_right]
end Go.Sy
namespace Go.Proofs.YtnfikgagkamioaaGreatDoor.S
open Go.Sy
def T19a:Tr SV:=mkT [(2,.one (.sc (.ptr 0 (.kst 0)))),(4,.one (.sc (.ptr 1 (.kst 0)))),(6,.one (.sc (.num .u64 9)))] .nil
def s19a:St:={ni:=0,nx:=19,na:=0,nb:=2,nv:=0,defs:=[],obs:=[],orc:=[],gl:= .nil,bks:=mkT [(0,{n:=9,rw:=true,cells:=mkT [(0,.num .u64 0),(1,.num .u64 1),(2,.num .u64 2),(3,.num .u64 3),(4,.num .u64 4),(5,.num .u64 5),(6,.num .u64 6),(7,.num .u64 7),(8,.num .u64 8)] .nil,arr:=none}),(1,{n:=9,rw:=true,cells:=mkT [(0,.num .u64 10),(1,.num .u64 11),(2,.num .u64 12),(3,.num .u64 13),(4,.num .u64 14),(5,.num .u64 15),(6,.num .u64 16),(7,.num .u64 17),(8,.num .u64 18)] .nil,arr:=none})] .nil}
theorem h19:headOf ct19 Tryz.f33 (callT []) [2] [] T19a s19a=some ((.loop (loopAt 33 2).1,(loopAt 33 2).2),([.var 0,.var 1,.var 2,.var 3,.var 4,.var 5,.var 6,.var 7,.var 8,.kst 1,.kst 0,.kst 0,.kst 0,.kst 0,.kst 0,.kst 0,.kst 0,.kst 0,.kst 0],
 [],
 [],
 [])):=by kernel_rfl
theorem r19a:rndOf ct19 Tryz.f33 (callT []) [2] (loopAt 33 2) T19a s19a [true] T19a s19a=some ([.var 48,.var 24,.var 27,.var 30,.var 33,.var 36,.var 39,.var 42,.var 45,.var 46,.var 10,.var 11,.var 12,.var 13,.var 14,.var 15,.var 16,.var 17,.var 18],
 [],
 [.n 48 (.bin .add .u64 (.var 21) (.var 47)),
 .n 47 (.bin .mul .u64 (.kst 5) (.var 46)),
 .n 46 (.bin .quo .u64 (.var 44) (.kst 4)),
 .n 45 (.bin .rem .u64 (.var 44) (.kst 4)),
 .n 44 (.bin .add .u64 (.var 43) (.var 8)),
 .n 43 (.bin .quo .u64 (.var 41) (.kst 65536)),
 .n 42 (.bin .rem .u64 (.var 41) (.kst 65536)),
 .n 41 (.bin .add .u64 (.var 40) (.var 7)),
 .n 40 (.bin .quo .u64 (.var 38) (.kst 65536)),
 .n 39 (.bin .rem .u64 (.var 38) (.kst 65536)),
 .n 38 (.bin .add .u64 (.var 37) (.var 6)),
 .n 37 (.bin .quo .u64 (.var 35) (.kst 65536)),
 .n 36 (.bin .rem .u64 (.var 35) (.kst 65536)),
 .n 35 (.bin .add .u64 (.var 34) (.var 5)),
 .n 34 (.bin .quo .u64 (.var 32) (.kst 65536)),
 .n 33 (.bin .rem .u64 (.var 32) (.kst 65536)),
 .n 32 (.bin .add .u64 (.var 31) (.var 4)),
 .n 31 (.bin .quo .u64 (.var 29) (.kst 65536)),
 .n 30 (.bin .rem .u64 (.var 29) (.kst 65536)),
 .n 29 (.bin .add .u64 (.var 28) (.var 3)),
 .n 28 (.bin .quo .u64 (.var 26) (.kst 65536)),
 .n 27 (.bin .rem .u64 (.var 26) (.kst 65536)),
 .n 26 (.bin .add .u64 (.var 25) (.var 2)),
 .n 25 (.bin .quo .u64 (.var 23) (.kst 65536)),
 .n 24 (.bin .rem .u64 (.var 23) (.kst 65536)),
 .n 23 (.bin .add .u64 (.var 22) (.var 1)),
 .n 22 (.bin .quo .u64 (.var 20) (.kst 65536)),
 .n 21 (.bin .rem .u64 (.var 20) (.kst 65536)),
 .n 20 (.bin .add .u64 (.kst 0) (.var 0)),
 .n 19 (.cmp .gtr (.var 9) (.kst 0))],
 [.boo 19 true]):=by kernel_rfl
theorem o19_8:outOf ct19 Tryz.f33 (callT []) [2] (loopAt 33 2) T19a s19a [false,true]=some (⟨[(.var 0,0),(.var 1,1),(.var 2,2),(.var 3,3),(.var 4,4),(.var 5,5),(.var 6,6),(.var 7,7),(.var 8,8)],none,none⟩,
 [.n 20 (.cmp .lss (.var 8) (.kst 3)),
 .n 19 (.cmp .gtr (.var 9) (.kst 0))],
 [.boo 20 true,
 .boo 19 false]):=by kernel_rfl
theorem o19_7:outOf ct19 Tryz.f33 (callT []) [2] (loopAt 33 2) T19a s19a [false,false,false,true]=some (⟨[(.var 0,0),(.var 1,1),(.var 2,2),(.var 3,3),(.var 4,4),(.var 5,5),(.var 6,6),(.var 7,7),(.var 8,8)],none,none⟩,
 [.n 22 (.cmp .lss (.var 7) (.kst 65535)),
 .n 21 (.cmp .gtr (.var 8) (.kst 3)),
 .n 20 (.cmp .lss (.var 8) (.kst 3)),
 .n 19 (.cmp .gtr (.var 9) (.kst 0))],
 [.boo 22 true,
 .boo 21 false,
 .boo 20 false,
 .boo 19 false]):=by kernel_rfl
theorem o19_6:outOf ct19 Tryz.f33 (callT []) [2] (loopAt 33 2) T19a s19a [false,false,false,false,false,true]=some (⟨[(.var 0,0),(.var 1,1),(.var 2,2),(.var 3,3),(.var 4,4),(.var 5,5),(.var 6,6),(.var 7,7),(.var 8,8)],none,none⟩,
 [.n 24 (.cmp .lss (.var 6) (.kst 65535)),
 .n 23 (.cmp .gtr (.var 7) (.kst 65535)),
 .n 22 (.cmp .lss (.var 7) (.kst 65535)),
 .n 21 (.cmp .gtr (.var 8) (.kst 3)),
 .n 20 (.cmp .lss (.var 8) (.kst 3)),
 .n 19 (.cmp .gtr (.var 9) (.kst 0))],
 [.boo 24 true,
 .boo 23 false,
 .boo 22 false,
 .boo 21 false,
 .boo 20 false,
 .boo 19 false]):=by kernel_rfl
theorem o19_5:outOf ct19 Tryz.f33 (callT []) [2] (loopAt 33 2) T19a s19a [false,false,false,false,false,false,false,true]=some (⟨[(.var 0,0),(.var 1,1),(.var 2,2),(.var 3,3),(.var 4,4),(.var 5,5),(.var 6,6),(.var 7,7),(.var 8,8)],none,none⟩,
 [.n 26 (.cmp .lss (.var 5) (.kst 65535)),
 .n 25 (.cmp .gtr (.var 6) (.kst 65535)),
 .n 24 (.cmp .lss (.var 6) (.kst 65535)),
 .n 23 (.cmp .gtr (.var 7) (.kst 65535)),
 .n 22 (.cmp .lss (.var 7) (.kst 65535)),
 .n 21 (.cmp .gtr (.var 8) (.kst 3)),
 .n 20 (.cmp .lss (.var 8) (.kst 3)),
 .n 19 (.cmp .gtr (.var 9) (.kst 0))],
 [.boo 26 true,
 .boo 25 false,
 .boo 24 false,
 .boo 23 false,
 .boo 22 false,
 .boo 21 false,
 .boo 20 false,
 .boo 19 false]):=by kernel_rfl
theorem o19_4:outOf ct19 Tryz.f33 (callT []) [2] (loopAt 33 2) T19a s19a [false,false,false,false,false,false,false,false,false,true]=some (⟨[(.var 0,0),(.var 1,1),(.var 2,2),(.var 3,3),(.var 4,4),(.var 5,5),(.var 6,6),(.var 7,7),(.var 8,8)],none,none⟩,
 [.n 28 (.cmp .lss (.var 4) (.kst 65535)),
 .n 27 (.cmp .gtr (.var 5) (.kst 65535)),
 .n 26 (.cmp .lss (.var 5) (.kst 65535)),
 .n 25 (.cmp .gtr (.var 6) (.kst 65535)),
 .n 24 (.cmp .lss (.var 6) (.kst 65535)),
 .n 23 (.cmp .gtr (.var 7) (.kst 65535)),
 .n 22 (.cmp .lss (.var 7) (.kst 65535)),
 .n 21 (.cmp .gtr (.var 8) (.kst 3)),
 .n 20 (.cmp .lss (.var 8) (.kst 3)),
 .n 19 (.cmp .gtr (.var 9) (.kst 0))],
 [.boo 28 true,
 .boo 27 false,
 .boo 26 false,
 .boo 25 false,
 .boo 24 false,
 .boo 23 false,
 .boo 22 false,
 .boo 21 false,
 .boo 20 false,
 .boo 19 false]):=by kernel_rfl
theorem o19_3:outOf ct19 Tryz.f33 (callT []) [2] (loopAt 33 2) T19a s19a [false,false,false,false,false,false,false,false,false,false,false,true]=some (⟨[(.var 0,0),(.var 1,1),(.var 2,2),(.var 3,3),(.var 4,4),(.var 5,5),(.var 6,6),(.var 7,7),(.var 8,8)],none,none⟩,
 [.n 30 (.cmp .lss (.var 3) (.kst 65535)),
 .n 29 (.cmp .gtr (.var 4) (.kst 65535)),
 .n 28 (.cmp .lss (.var 4) (.kst 65535)),
 .n 27 (.cmp .gtr (.var 5) (.kst 65535)),
 .n 26 (.cmp .lss (.var 5) (.kst 65535)),
 .n 25 (.cmp .gtr (.var 6) (.kst 65535)),
 .n 24 (.cmp .lss (.var 6) (.kst 65535)),
 .n 23 (.cmp .gtr (.var 7) (.kst 65535)),
 .n 22 (.cmp .lss (.var 7) (.kst 65535)),
 .n 21 (.cmp .gtr (.var 8) (.kst 3)),
 .n 20 (.cmp .lss (.var 8) (.kst 3)),
 .n 19 (.cmp .gtr (.var 9) (.kst 0))],
 [.boo 30 true,
 .boo 29 false,
 .boo 28 false,
 .boo 27 false,
 .boo 26 false,
 .boo 25 false,
 .boo 24 false,
 .boo 23 false,
 .boo 22 false,
 .boo 21 false,
 .boo 20 false,
 .boo 19 false]):=by kernel_rfl
theorem o19_2:outOf ct19 Tryz.f33 (callT []) [2] (loopAt 33 2) T19a s19a [false,false,false,false,false,false,false,false,false,false,false,false,false,true]=some (⟨[(.var 0,0),(.var 1,1),(.var 2,2),(.var 3,3),(.var 4,4),(.var 5,5),(.var 6,6),(.var 7,7),(.var 8,8)],none,none⟩,
 [.n 32 (.cmp .lss (.var 2) (.kst 65535)),
 .n 31 (.cmp .gtr (.var 3) (.kst 65535)),
 .n 30 (.cmp .lss (.var 3) (.kst 65535)),
 .n 29 (.cmp .gtr (.var 4) (.kst 65535)),
 .n 28 (.cmp .lss (.var 4) (.kst 65535)),
 .n 27 (.cmp .gtr (.var 5) (.kst 65535)),
 .n 26 (.cmp .lss (.var 5) (.kst 65535)),
 .n 25 (.cmp .gtr (.var 6) (.kst 65535)),
 .n 24 (.cmp .lss (.var 6) (.kst 65535)),
 .n 23 (.cmp .gtr (.var 7) (.kst 65535)),
 .n 22 (.cmp .lss (.var 7) (.kst 65535)),
 .n 21 (.cmp .gtr (.var 8) (.kst 3)),
 .n 20 (.cmp .lss (.var 8) (.kst 3)),
 .n 19 (.cmp .gtr (.var 9) (.kst 0))],
 [.boo 32 true,
 .boo 31 false,
 .boo 30 false,
 .boo 29 false,
 .boo 28 false,
 .boo 27 false,
 .boo 26 false,
 .boo 25 false,
 .boo 24 false,
 .boo 23 false,
 .boo 22 false,
 .boo 21 false,
 .boo 20 false,
 .boo 19 false]):=by kernel_rfl
theorem o19_1:outOf ct19 Tryz.f33 (callT []) [2] (loopAt 33 2) T19a s19a [false,false,false,false,false,false,false,false,false,false,false,false,false,false,false,true]=some (⟨[(.var 0,0),(.var 1,1),(.var 2,2),(.var 3,3),(.var 4,4),(.var 5,5),(.var 6,6),(.var 7,7),(.var 8,8)],none,none⟩,
 [.n 34 (.cmp .lss (.var 1) (.kst 65535)),
 .n 33 (.cmp .gtr (.var 2) (.kst 65535)),
 .n 32 (.cmp .lss (.var 2) (.kst 65535)),
 .n 31 (.cmp .gtr (.var 3) (.kst 65535)),
 .n 30 (.cmp .lss (.var 3) (.kst 65535)),
 .n 29 (.cmp .gtr (.var 4) (.kst 65535)),
 .n 28 (.cmp .lss (.var 4) (.kst 65535)),
 .n 27 (.cmp .gtr (.var 5) (.kst 65535)),
 .n 26 (.cmp .lss (.var 5) (.kst 65535)),
 .n 25 (.cmp .gtr (.var 6) (.kst 65535)),
 .n 24 (.cmp .lss (.var 6) (.kst 65535)),
 .n 23 (.cmp .gtr (.var 7) (.kst 65535)),
 .n 22 (.cmp .lss (.var 7) (.kst 65535)),
 .n 21 (.cmp .gtr (.var 8) (.kst 3)),
 .n 20 (.cmp .lss (.var 8) (.kst 3)),
 .n 19 (.cmp .gtr (.var 9) (.kst 0))],
 [.boo 34 true,
 .boo 33 false,
 .boo 32 false,
 .boo 31 false,
 .boo 30 false,
 .boo 29 false,
 .boo 28 false,
 .boo 27 false,
 .boo 26 false,
 .boo 25 false,
 .boo 24 false,
 .boo 23 false,
 .boo 22 false,
 .boo 21 false,
 .boo 20 false,
 .boo 19 false]):=by kernel_rfl
theorem o19_0:outOf ct19 Tryz.f33 (callT []) [2] (loopAt 33 2) T19a s19a [false,false,false,false,false,false,false,false,false,false,false,false,false,false,false,false,false,true]=some (⟨[(.var 0,0),(.var 1,1),(.var 2,2),(.var 3,3),(.var 4,4),(.var 5,5),(.var 6,6),(.var 7,7),(.var 8,8)],none,none⟩,
 [.n 36 (.cmp .lss (.var 0) (.kst 65531)),
 .n 35 (.cmp .gtr (.var 1) (.kst 65535)),
 .n 34 (.cmp .lss (.var 1) (.kst 65535)),
 .n 33 (.cmp .gtr (.var 2) (.kst 65535)),
 .n 32 (.cmp .lss (.var 2) (.kst 65535)),
 .n 31 (.cmp .gtr (.var 3) (.kst 65535)),
 .n 30 (.cmp .lss (.var 3) (.kst 65535)),
 .n 29 (.cmp .gtr (.var 4) (.kst 65535)),
 .n 28 (.cmp .lss (.var 4) (.kst 65535)),
 .n 27 (.cmp .gtr (.var 5) (.kst 65535)),
 .n 26 (.cmp .lss (.var 5) (.kst 65535)),
 .n 25 (.cmp .gtr (.var 6) (.kst 65535)),
 .n 24 (.cmp .lss (.var 6) (.kst 65535)),
 .n 23 (.cmp .gtr (.var 7) (.kst 65535)),
 .n 22 (.cmp .lss (.var 7) (.kst 65535)),
 .n 21 (.cmp .gtr (.var 8) (.kst 3)),
 .n 20 (.cmp .lss (.var 8) (.kst 3)),
 .n 19 (.cmp .gtr (.var 9) (.kst 0))],
 [.boo 36 true,
 .boo 35 false,
 .boo 34 false,
 .boo 33 false,
 .boo 32 false,
 .boo 31 false,
 .boo 30 false,
 .boo 29 false,
 .boo 28 false,
 .boo 27 false,
 .boo 26 false,
 .boo 25 false,
 .boo 24 false,
 .boo 23 false,
 .boo 22 false,
 .boo 21 false,
 .boo 20 false,
 .boo 19 false]):=by kernel_rfl
theorem o19_b:outOf ct19 Tryz.f33 (callT []) [2] (loopAt 33 2) T19a s19a [false,false,false,false,false,false,false,false,false,false,false,false,false,false,false,false,false,false,true]=some (⟨[(.var 41,0),(.var 47,1),(.var 53,2),(.var 59,3),(.var 65,4),(.var 71,5),(.var 77,6),(.var 83,7),(.var 89,8)],none,none⟩,
 [.n 91 (.bin .sub .u64 (.kst 1) (.var 90)),
 .n 90 (.bin .quo .u64 (.var 88) (.kst 65536)),
 .n 89 (.bin .rem .u64 (.var 88) (.kst 65536)),
 .n 88 (.bin .sub .u64 (.var 87) (.var 85)),
 .n 87 (.bin .sub .u64 (.var 86) (.kst 3)),
 .n 86 (.bin .add .u64 (.var 8) (.kst 65536)),
 .n 85 (.bin .sub .u64 (.kst 1) (.var 84)),
 .n 84 (.bin .quo .u64 (.var 82) (.kst 65536)),
 .n 83 (.bin .rem .u64 (.var 82) (.kst 65536)),
 .n 82 (.bin .sub .u64 (.var 81) (.var 79)),
 .n 81 (.bin .sub .u64 (.var 80) (.kst 65535)),
 .n 80 (.bin .add .u64 (.var 7) (.kst 65536)),
 .n 79 (.bin .sub .u64 (.kst 1) (.var 78)),
 .n 78 (.bin .quo .u64 (.var 76) (.kst 65536)),
 .n 77 (.bin .rem .u64 (.var 76) (.kst 65536)),
 .n 76 (.bin .sub .u64 (.var 75) (.var 73)),
 .n 75 (.bin .sub .u64 (.var 74) (.kst 65535)),
 .n 74 (.bin .add .u64 (.var 6) (.kst 65536)),
 .n 73 (.bin .sub .u64 (.kst 1) (.var 72)),
 .n 72 (.bin .quo .u64 (.var 70) (.kst 65536)),
 .n 71 (.bin .rem .u64 (.var 70) (.kst 65536)),
 .n 70 (.bin .sub .u64 (.var 69) (.var 67)),
 .n 69 (.bin .sub .u64 (.var 68) (.kst 65535)),
 .n 68 (.bin .add .u64 (.var 5) (.kst 65536)),
 .n 67 (.bin .sub .u64 (.kst 1) (.var 66)),
 .n 66 (.bin .quo .u64 (.var 64) (.kst 65536)),
 .n 65 (.bin .rem .u64 (.var 64) (.kst 65536)),
 .n 64 (.bin .sub .u64 (.var 63) (.var 61)),
 .n 63 (.bin .sub .u64 (.var 62) (.kst 65535)),
 .n 62 (.bin .add .u64 (.var 4) (.kst 65536)),
 .n 61 (.bin .sub .u64 (.kst 1) (.var 60)),
 .n 60 (.bin .quo .u64 (.var 58) (.kst 65536)),
 .n 59 (.bin .rem .u64 (.var 58) (.kst 65536)),
 .n 58 (.bin .sub .u64 (.var 57) (.var 55)),
 .n 57 (.bin .sub .u64 (.var 56) (.kst 65535)),
 .n 56 (.bin .add .u64 (.var 3) (.kst 65536)),
 .n 55 (.bin .sub .u64 (.kst 1) (.var 54)),
 .n 54 (.bin .quo .u64 (.var 52) (.kst 65536)),
 .n 53 (.bin .rem .u64 (.var 52) (.kst 65536)),
 .n 52 (.bin .sub .u64 (.var 51) (.var 49)),
 .n 51 (.bin .sub .u64 (.var 50) (.kst 65535)),
 .n 50 (.bin .add .u64 (.var 2) (.kst 65536)),
 .n 49 (.bin .sub .u64 (.kst 1) (.var 48)),
 .n 48 (.bin .quo .u64 (.var 46) (.kst 65536)),
 .n 47 (.bin .rem .u64 (.var 46) (.kst 65536)),
 .n 46 (.bin .sub .u64 (.var 45) (.var 43)),
 .n 45 (.bin .sub .u64 (.var 44) (.kst 65535)),
 .n 44 (.bin .add .u64 (.var 1) (.kst 65536)),
 .n 43 (.bin .sub .u64 (.kst 1) (.var 42)),
 .n 42 (.bin .quo .u64 (.var 40) (.kst 65536)),
 .n 41 (.bin .rem .u64 (.var 40) (.kst 65536)),
 .n 40 (.bin .sub .u64 (.var 39) (.kst 0)),
 .n 39 (.bin .sub .u64 (.var 38) (.kst 65531)),
 .n 38 (.bin .add .u64 (.var 0) (.kst 65536)),
 .n 37 (.cmp .gtr (.var 0) (.kst 65531)),
 .n 36 (.cmp .lss (.var 0) (.kst 65531)),
 .n 35 (.cmp .gtr (.var 1) (.kst 65535)),
 .n 34 (.cmp .lss (.var 1) (.kst 65535)),
 .n 33 (.cmp .gtr (.var 2) (.kst 65535)),
 .n 32 (.cmp .lss (.var 2) (.kst 65535)),
 .n 31 (.cmp .gtr (.var 3) (.kst 65535)),
 .n 30 (.cmp .lss (.var 3) (.kst 65535)),
 .n 29 (.cmp .gtr (.var 4) (.kst 65535)),
 .n 28 (.cmp .lss (.var 4) (.kst 65535)),
 .n 27 (.cmp .gtr (.var 5) (.kst 65535)),
 .n 26 (.cmp .lss (.var 5) (.kst 65535)),
 .n 25 (.cmp .gtr (.var 6) (.kst 65535)),
 .n 24 (.cmp .lss (.var 6) (.kst 65535)),
 .n 23 (.cmp .gtr (.var 7) (.kst 65535)),
 .n 22 (.cmp .lss (.var 7) (.kst 65535)),
 .n 21 (.cmp .gtr (.var 8) (.kst 3)),
 .n 20 (.cmp .lss (.var 8) (.kst 3)),
 .n 19 (.cmp .gtr (.var 9) (.kst 0))],
 [.boo 37 true,
 .boo 36 false,
 .boo 35 false,
 .boo 34 false,
 .boo 33 false,
 .boo 32 false,
 .boo 31 false,
 .boo 30 false,
 .boo 29 false,
 .boo 28 false,
 .boo 27 false,
 .boo 26 false,
 .boo 25 false,
 .boo 24 false,
 .boo 23 false,
 .boo 22 false,
 .boo 21 false,
 .boo 20 false,
 .boo 19 false]):=by kernel_rfl
theorem o19_e:outOf ct19 Tryz.f33 (callT []) [2] (loopAt 33 2) T19a s19a [false,false,false,false,false,false,false,false,false,false,false,false,false,false,false,false,false,false,false]=some (⟨[(.var 41,0),(.var 47,1),(.var 53,2),(.var 59,3),(.var 65,4),(.var 71,5),(.var 77,6),(.var 83,7),(.var 89,8)],none,none⟩,
 [.n 91 (.bin .sub .u64 (.kst 1) (.var 90)),
 .n 90 (.bin .quo .u64 (.var 88) (.kst 65536)),
 .n 89 (.bin .rem .u64 (.var 88) (.kst 65536)),
 .n 88 (.bin .sub .u64 (.var 87) (.var 85)),
 .n 87 (.bin .sub .u64 (.var 86) (.kst 3)),
 .n 86 (.bin .add .u64 (.var 8) (.kst 65536)),
 .n 85 (.bin .sub .u64 (.kst 1) (.var 84)),
 .n 84 (.bin .quo .u64 (.var 82) (.kst 65536)),
 .n 83 (.bin .rem .u64 (.var 82) (.kst 65536)),
 .n 82 (.bin .sub .u64 (.var 81) (.var 79)),
 .n 81 (.bin .sub .u64 (.var 80) (.kst 65535)),
 .n 80 (.bin .add .u64 (.var 7) (.kst 65536)),
 .n 79 (.bin .sub .u64 (.kst 1) (.var 78)),
 .n 78 (.bin .quo .u64 (.var 76) (.kst 65536)),
 .n 77 (.bin .rem .u64 (.var 76) (.kst 65536)),
 .n 76 (.bin .sub .u64 (.var 75) (.var 73)),
 .n 75 (.bin .sub .u64 (.var 74) (.kst 65535)),
 .n 74 (.bin .add .u64 (.var 6) (.kst 65536)),
 .n 73 (.bin .sub .u64 (.kst 1) (.var 72)),
 .n 72 (.bin .quo .u64 (.var 70) (.kst 65536)),
 .n 71 (.bin .rem .u64 (.var 70) (.kst 65536)),
 .n 70 (.bin .sub .u64 (.var 69) (.var 67)),
 .n 69 (.bin .sub .u64 (.var 68) (.kst 65535)),
 .n 68 (.bin .add .u64 (.var 5) (.kst 65536)),
 .n 67 (.bin .sub .u64 (.kst 1) (.var 66)),
 .n 66 (.bin .quo .u64 (.var 64) (.kst 65536)),
 .n 65 (.bin .rem .u64 (.var 64) (.kst 65536)),
 .n 64 (.bin .sub .u64 (.var 63) (.var 61)),
 .n 63 (.bin .sub .u64 (.var 62) (.kst 65535)),
 .n 62 (.bin .add .u64 (.var 4) (.kst 65536)),
 .n 61 (.bin .sub .u64 (.kst 1) (.var 60)),
 .n 60 (.bin .quo .u64 (.var 58) (.kst 65536)),
 .n 59 (.bin .rem .u64 (.var 58) (.kst 65536)),
 .n 58 (.bin .sub .u64 (.var 57) (.var 55)),
 .n 57 (.bin .sub .u64 (.var 56) (.kst 65535)),
 .n 56 (.bin .add .u64 (.var 3) (.kst 65536)),
 .n 55 (.bin .sub .u64 (.kst 1) (.var 54)),
 .n 54 (.bin .quo .u64 (.var 52) (.kst 65536)),
 .n 53 (.bin .rem .u64 (.var 52) (.kst 65536)),
 .n 52 (.bin .sub .u64 (.var 51) (.var 49)),
 .n 51 (.bin .sub .u64 (.var 50) (.kst 65535)),
 .n 50 (.bin .add .u64 (.var 2) (.kst 65536)),
 .n 49 (.bin .sub .u64 (.kst 1) (.var 48)),
 .n 48 (.bin .quo .u64 (.var 46) (.kst 65536)),
 .n 47 (.bin .rem .u64 (.var 46) (.kst 65536)),
 .n 46 (.bin .sub .u64 (.var 45) (.var 43)),
 .n 45 (.bin .sub .u64 (.var 44) (.kst 65535)),
 .n 44 (.bin .add .u64 (.var 1) (.kst 65536)),
 .n 43 (.bin .sub .u64 (.kst 1) (.var 42)),
 .n 42 (.bin .quo .u64 (.var 40) (.kst 65536)),
 .n 41 (.bin .rem .u64 (.var 40) (.kst 65536)),
 .n 40 (.bin .sub .u64 (.var 39) (.kst 0)),
 .n 39 (.bin .sub .u64 (.var 38) (.kst 65531)),
 .n 38 (.bin .add .u64 (.var 0) (.kst 65536)),
 .n 37 (.cmp .gtr (.var 0) (.kst 65531)),
 .n 36 (.cmp .lss (.var 0) (.kst 65531)),
 .n 35 (.cmp .gtr (.var 1) (.kst 65535)),
 .n 34 (.cmp .lss (.var 1) (.kst 65535)),
 .n 33 (.cmp .gtr (.var 2) (.kst 65535)),
 .n 32 (.cmp .lss (.var 2) (.kst 65535)),
 .n 31 (.cmp .gtr (.var 3) (.kst 65535)),
 .n 30 (.cmp .lss (.var 3) (.kst 65535)),
 .n 29 (.cmp .gtr (.var 4) (.kst 65535)),
 .n 28 (.cmp .lss (.var 4) (.kst 65535)),
 .n 27 (.cmp .gtr (.var 5) (.kst 65535)),
 .n 26 (.cmp .lss (.var 5) (.kst 65535)),
 .n 25 (.cmp .gtr (.var 6) (.kst 65535)),
 .n 24 (.cmp .lss (.var 6) (.kst 65535)),
 .n 23 (.cmp .gtr (.var 7) (.kst 65535)),
 .n 22 (.cmp .lss (.var 7) (.kst 65535)),
 .n 21 (.cmp .gtr (.var 8) (.kst 3)),
 .n 20 (.cmp .lss (.var 8) (.kst 3)),
 .n 19 (.cmp .gtr (.var 9) (.kst 0))],
 [.boo 37 false,
 .boo 36 false,
 .boo 35 false,
 .boo 34 false,
 .boo 33 false,
 .boo 32 false,
 .boo 31 false,
 .boo 30 false,
 .boo 29 false,
 .boo 28 false,
 .boo 27 false,
 .boo 26 false,
 .boo 25 false,
 .boo 24 false,
 .boo 23 false,
 .boo 22 false,
 .boo 21 false,
 .boo 20 false,
 .boo 19 false]):=by kernel_rfl
theorem run20:runE ct20 Tryz.f34 (callT tab20) []=some (⟨[(.var 127,0),(.var 128,1),(.var 129,2),(.var 130,3),(.var 131,4),(.var 132,5),(.var 133,6),(.var 134,7),(.var 135,8)],none,none⟩,
 [.n 135 (.fn 19 [] [0] 8),
 .n 134 (.fn 19 [] [0] 7),
 .n 133 (.fn 19 [] [0] 6),
 .n 132 (.fn 19 [] [0] 5),
 .n 131 (.fn 19 [] [0] 4),
 .n 130 (.fn 19 [] [0] 3),
 .n 129 (.fn 19 [] [0] 2),
 .n 128 (.fn 19 [] [0] 1),
 .n 127 (.fn 19 [] [0] 0),
 .a 0 (.lit [.var 110,.var 112,.var 114,.var 116,.var 118,.var 120,.var 122,.var 124,.var 126]),
 .n 126 (.bin .add .u64 (.var 72) (.var 125)),
 .n 125 (.bin .mul .u64 (.kst 5) (.var 108)),
 .n 124 (.bin .add .u64 (.var 40) (.var 123)),
 .n 123 (.bin .mul .u64 (.kst 5) (.var 104)),
 .n 122 (.bin .add .u64 (.var 37) (.var 121)),
 .n 121 (.bin .mul .u64 (.kst 5) (.var 100)),
 .n 120 (.bin .add .u64 (.var 34) (.var 119)),
 .n 119 (.bin .mul .u64 (.kst 5) (.var 96)),
 .n 118 (.bin .add .u64 (.var 31) (.var 117)),
 .n 117 (.bin .mul .u64 (.kst 5) (.var 92)),
 .n 116 (.bin .add .u64 (.var 28) (.var 115)),
 .n 115 (.bin .mul .u64 (.kst 5) (.var 88)),
 .n 114 (.bin .add .u64 (.var 25) (.var 113)),
 .n 113 (.bin .mul .u64 (.kst 5) (.var 84)),
 .n 112 (.bin .add .u64 (.var 22) (.var 111)),
 .n 111 (.bin .mul .u64 (.kst 5) (.var 80)),
 .n 110 (.bin .add .u64 (.var 19) (.var 109)),
 .n 109 (.bin .mul .u64 (.kst 5) (.var 76)),
 .n 108 (.bin .add .u64 (.var 105) (.var 107)),
 .n 107 (.bin .mul .u64 (.var 106) (.kst 16384)),
 .n 106 (.bin .rem .u64 (.var 70) (.kst 4)),
 .n 105 (.bin .quo .u64 (.var 67) (.kst 4)),
 .n 104 (.bin .add .u64 (.var 101) (.var 103)),
 .n 103 (.bin .mul .u64 (.var 102) (.kst 16384)),
 .n 102 (.bin .rem .u64 (.var 67) (.kst 4)),
 .n 101 (.bin .quo .u64 (.var 64) (.kst 4)),
 .n 100 (.bin .add .u64 (.var 97) (.var 99)),
 .n 99 (.bin .mul .u64 (.var 98) (.kst 16384)),
 .n 98 (.bin .rem .u64 (.var 64) (.kst 4)),
 .n 97 (.bin .quo .u64 (.var 61) (.kst 4)),
 .n 96 (.bin .add .u64 (.var 93) (.var 95)),
 .n 95 (.bin .mul .u64 (.var 94) (.kst 16384)),
 .n 94 (.bin .rem .u64 (.var 61) (.kst 4)),
 .n 93 (.bin .quo .u64 (.var 58) (.kst 4)),
 .n 92 (.bin .add .u64 (.var 89) (.var 91)),
 .n 91 (.bin .mul .u64 (.var 90) (.kst 16384)),
 .n 90 (.bin .rem .u64 (.var 58) (.kst 4)),
 .n 89 (.bin .quo .u64 (.var 55) (.kst 4)),
 .n 88 (.bin .add .u64 (.var 85) (.var 87)),
 .n 87 (.bin .mul .u64 (.var 86) (.kst 16384)),
 .n 86 (.bin .rem .u64 (.var 55) (.kst 4)),
 .n 85 (.bin .quo .u64 (.var 52) (.kst 4)),
 .n 84 (.bin .add .u64 (.var 81) (.var 83)),
 .n 83 (.bin .mul .u64 (.var 82) (.kst 16384)),
 .n 82 (.bin .rem .u64 (.var 52) (.kst 4)),
 .n 81 (.bin .quo .u64 (.var 49) (.kst 4)),
 .n 80 (.bin .add .u64 (.var 77) (.var 79)),
 .n 79 (.bin .mul .u64 (.var 78) (.kst 16384)),
 .n 78 (.bin .rem .u64 (.var 49) (.kst 4)),
 .n 77 (.bin .quo .u64 (.var 46) (.kst 4)),
 .n 76 (.bin .add .u64 (.var 73) (.var 75)),
 .n 75 (.bin .mul .u64 (.var 74) (.kst 16384)),
 .n 74 (.bin .rem .u64 (.var 46) (.kst 4)),
 .n 73 (.bin .quo .u64 (.var 43) (.kst 4)),
 .n 72 (.bin .rem .u64 (.var 43) (.kst 4)),
 .n 71 (.bin .quo .u64 (.var 69) (.kst 65536)),
 .n 70 (.bin .rem .u64 (.var 69) (.kst 65536)),
 .n 69 (.bin .add .u64 (.var 68) (.var 17)),
 .n 68 (.bin .quo .u64 (.var 66) (.kst 65536)),
 .n 67 (.bin .rem .u64 (.var 66) (.kst 65536)),
 .n 66 (.bin .add .u64 (.var 65) (.var 16)),
 .n 65 (.bin .quo .u64 (.var 63) (.kst 65536)),
 .n 64 (.bin .rem .u64 (.var 63) (.kst 65536)),
 .n 63 (.bin .add .u64 (.var 62) (.var 15)),
 .n 62 (.bin .quo .u64 (.var 60) (.kst 65536)),
 .n 61 (.bin .rem .u64 (.var 60) (.kst 65536)),
 .n 60 (.bin .add .u64 (.var 59) (.var 14)),
 .n 59 (.bin .quo .u64 (.var 57) (.kst 65536)),
 .n 58 (.bin .rem .u64 (.var 57) (.kst 65536)),
 .n 57 (.bin .add .u64 (.var 56) (.var 13)),
 .n 56 (.bin .quo .u64 (.var 54) (.kst 65536)),
 .n 55 (.bin .rem .u64 (.var 54) (.kst 65536)),
 .n 54 (.bin .add .u64 (.var 53) (.var 12)),
 .n 53 (.bin .quo .u64 (.var 51) (.kst 65536)),
 .n 52 (.bin .rem .u64 (.var 51) (.kst 65536)),
 .n 51 (.bin .add .u64 (.var 50) (.var 11)),
 .n 50 (.bin .quo .u64 (.var 48) (.kst 65536)),
 .n 49 (.bin .rem .u64 (.var 48) (.kst 65536)),
 .n 48 (.bin .add .u64 (.var 47) (.var 10)),
 .n 47 (.bin .quo .u64 (.var 45) (.kst 65536)),
 .n 46 (.bin .rem .u64 (.var 45) (.kst 65536)),
 .n 45 (.bin .add .u64 (.var 44) (.var 9)),
 .n 44 (.bin .quo .u64 (.var 42) (.kst 65536)),
 .n 43 (.bin .rem .u64 (.var 42) (.kst 65536)),
 .n 42 (.bin .add .u64 (.var 41) (.var 8)),
 .n 41 (.bin .quo .u64 (.var 39) (.kst 65536)),
 .n 40 (.bin .rem .u64 (.var 39) (.kst 65536)),
 .n 39 (.bin .add .u64 (.var 38) (.var 7)),
 .n 38 (.bin .quo .u64 (.var 36) (.kst 65536)),
 .n 37 (.bin .rem .u64 (.var 36) (.kst 65536)),
 .n 36 (.bin .add .u64 (.var 35) (.var 6)),
 .n 35 (.bin .quo .u64 (.var 33) (.kst 65536)),
 .n 34 (.bin .rem .u64 (.var 33) (.kst 65536)),
 .n 33 (.bin .add .u64 (.var 32) (.var 5)),
 .n 32 (.bin .quo .u64 (.var 30) (.kst 65536)),
 .n 31 (.bin .rem .u64 (.var 30) (.kst 65536)),
 .n 30 (.bin .add .u64 (.var 29) (.var 4)),
 .n 29 (.bin .quo .u64 (.var 27) (.kst 65536)),
 .n 28 (.bin .rem .u64 (.var 27) (.kst 65536)),
 .n 27 (.bin .add .u64 (.var 26) (.var 3)),
 .n 26 (.bin .quo .u64 (.var 24) (.kst 65536)),
 .n 25 (.bin .rem .u64 (.var 24) (.kst 65536)),
 .n 24 (.bin .add .u64 (.var 23) (.var 2)),
 .n 23 (.bin .quo .u64 (.var 21) (.kst 65536)),
 .n 22 (.bin .rem .u64 (.var 21) (.kst 65536)),
 .n 21 (.bin .add .u64 (.var 20) (.var 1)),
 .n 20 (.bin .quo .u64 (.var 18) (.kst 65536)),
 .n 19 (.bin .rem .u64 (.var 18) (.kst 65536)),
 .n 18 (.bin .add .u64 (.kst 0) (.var 0))],
 [.prd 19 [] [0]]):=by kernel_rfl
end Go.Proofs.YtnfikgagkamioaaGreatDoor.S
