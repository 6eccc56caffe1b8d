/- secretbox.Open: its loop over the first bytes. secretbox.Open does as its contracts say. -/
import Derived.Test.YtlcljhlijmombaaY12l
import Derived.Test.YtlcljhlijmombaaYa33
namespace Go.Proofs.Ytlcljhlijmombaa
open Go.Sy
structure I12 (N:Num) (s:Nat) (out box nonce key:List Int) (i:Nat):Prop where
 hi:i≤min (box.length-16) 32
 i57:N.i (57+s)=(out.length:Nat)
 i58:N.i (58+s)=((box.length-16:Nat):Int)
 i59:N.i (59+s)=((box.length-16:Nat):Int)
 i60:N.i (60+s)=((out.length+(box.length-16):Nat):Int)
 i61:N.i (61+s)=(i:Nat)
 hsub:∀j,j<32→N.i (62+s+j)=(subK nonce key).getD j 0
 hctr:∀j,j<16→N.i (94+s+j)=(ctrN nonce).getD j 0
 hfb:∀j,j<64→N.i (110+s+j)=(fbL nonce key).getD j 0
 hbox:N.a s=box
 hout:N.a (1+s)=out++((headL box nonce key).take i++List.replicate (box.length-16-i) 0)
section
variable {F:Fns} {N M:Num} {s i:Nat} {out box nonce key:List Int}
theorem I12.agr {nx na:Nat}(h:Agr nx na N M)(hx:nx=174+s)(ha:na=2+s)(hI:I12 N s out box nonce key i):I12 M s out box nonce key i:=by
 subst hx ha
 exact ⟨hI.hi,(h.i _ (by omega)).trans hI.i57,(h.i _ (by omega)).trans hI.i58,(h.i _ (by omega)).trans hI.i59,(h.i _ (by omega)).trans hI.i60,(h.i _ (by omega)).trans hI.i61,
  fun j hj=>(h.i _ (by omega)).trans (hI.hsub j hj),fun j hj=>(h.i _ (by omega)).trans (hI.hctr j hj),fun j hj=>(h.i _ (by omega)).trans (hI.hfb j hj),(h.a _ (by omega)).trans hI.hbox,(h.a _ (by omega)).trans hI.hout⟩
theorem headL_get (h:i<min (box.length-16) 32):(headL box nonce key)[i]? =some (iop .xor .u8 ((fbL nonce key).getD (32+i) 0) (box.getD (16+i) 0)):=by
 unfold headL;rw[List.getElem?_map,List.getElem?_range h];rfl
theorem sub64 {a:Nat}(h:16≤a)(h8:a≤8192):iop .sub .i64 (a:Int) 16=((a-16:Nat):Int):=by
 simp only[iop];rw[IntKind.wrap_i64];omega
theorem mid12_law (hF:F12 F)(hf:N.f=F){ls:List Nat}(hs:s=0∨s=1)(hd:∀d∈mid12 s ls,d.sat N)(hl:N.i s=box.length)(hb:N.a s=box)(h16:16<box.length)(h8:box.length≤8192)(ho8:out.length≤8192)
  (hls:(ls.map N.a=[]∧out=[])∨ls.map N.a=[out]) (hn:∀j,j<24→N.i (1+s+j)=nonce.getD j 0) (ln:nonce.length=24)
  (h2:∀j,j<32→N.i (58+s+j)=(subK nonce key).getD j 0) (h3:∀j,j<64→N.i (90+s+j)=(fbL nonce key).getD j 0) (h156:N.i (156+s)=1) :
  I12 (pn (is12 s) (as12 s 16) N) s out box nonce key 0∧∀o,(∀ x∈o,x.holds N)→∀t,t=decide (32<box.length-16)→∀x∈mob12 s ls o t,x.holds N:=by
 simp only[mid12,List.forall_mem_cons] at hd
 obtain ⟨q162,q161,q160,q159,q158,w16,q157,-⟩:=hd
 simp only[Df.sat,Nd.ev,Ar.ev,hl] at q157 q161 q162
 rw[sub64 (by omega) h8] at q157
 have hq:N.i (161+s)=((box.length-16:Nat):Int):=by rw[q161];omega
 rw[hq] at q162
 have cA:N.a (16+s)=out++List.replicate (box.length-16) 0:=by
  have:N.a (16+s)=N.f.a 24 [N.i (157+s)] (ls.map N.a):=w16
  rw[this,hf,hF.a24,q157]
  rcases hls with ⟨e1,e2⟩ | e1 <;> rw[e1]
  ·rw [e2];rfl
  ·rfl
 have c0:N.i (159+s)=(out.length:Nat):=by
  have:N.i (159+s)=N.f.i 24 [N.i (157+s)] (ls.map N.a) 0:=q159
  rw[this,hf,hF.i24,q157]
  rcases hls with ⟨e1,e2⟩ | e1 <;> rw[e1]
  ·rw [e2];rfl
  ·rfl
 have c1:N.i (160+s)=((box.length-16:Nat):Int):=by
  have:N.i (160+s)=N.f.i 24 [N.i (157+s)] (ls.map N.a) 1:=q160
  rw[this,hf,hF.i24,q157]
  rcases hls with ⟨e1,e2⟩ | e1 <;> rw[e1] <;> rfl
 have cP:N.f.p 24 [N.i (157+s)] (ls.map N.a):=by
  rw[hf,hF.p24,q157]
  rcases hls with ⟨e1,e2⟩ | e1 <;> rw[e1]
  ·show 0<_∧_≤_;omega
  ·show 0<_∧_≤_;omega
 have c2:N.i (158+s)=((out.length+(box.length-16):Nat):Int):=by
  have:N.i (158+s)=((N.a (16+s)).length:Nat):=q158
  rw[this,cA,List.length_append,List.length_replicate]
 refine ⟨⟨Nat.zero_le _,?_,?_,?_,?_,?_,?_,?_,?_,?_,?_⟩,fun o ho t ht x hx=> ?_⟩
 ·rcases hs with rfl | rfl <;> exact c0
 ·rcases hs with rfl | rfl <;> exact c1
 ·rcases hs with rfl | rfl <;> exact hq
 ·rcases hs with rfl | rfl <;> exact c2
 ·rcases hs with rfl | rfl <;> rfl
 ·rcases hs with rfl | rfl
  ·exact fun j hj=>(pn_rng (x:=62) (y:=58) (n:=32) (by kernel_rfl) j hj).trans (h2 j hj)
  ·exact fun j hj=>(pn_rng (x:=63) (y:=59) (n:=32) (by kernel_rfl) j hj).trans (h2 j hj)
 ·have hlo:∀j,j<8→N.i (17+s+j)=(ctrN nonce).getD j 0:=fun j hj=>by
   have:=hn (16+j) (by omega)
   rw[show 1+s+(16+j)=17+s+j by omega] at this
   unfold ctrN
   rw[this,getD_lo (by rw[List.length_drop];omega),getD_dropK]
  have hhi:∀j,(ctrN nonce).getD (8+j) 0=0:=fun j=>by
   unfold ctrN
   rw[getD_at (by rw[List.length_drop];omega),List.getD_eq_getElem?_getD,List.getElem?_replicate]
   split <;> rfl
  intro j hj
  rcases Nat.lt_or_ge j 8 with h | h
  ·rcases hs with rfl | rfl
   ·exact (pn_rng (x:=94) (y:=17) (n:=8) (by kernel_rfl) j h).trans (hlo j h)
   ·exact (pn_rng (x:=95) (y:=18) (n:=8) (by kernel_rfl) j h).trans (hlo j h)
  ·obtain ⟨k,rfl⟩:∃k,j=8+k:=⟨j-8,by omega⟩
   rw[hhi k]
   have:k<8:=by omega
   rcases hs with rfl | rfl
   ·match k,this with
    | 0,_=>rfl
    | 1,_=>rfl
    | 2,_=>rfl
    | 3,_=>rfl
    | 4,_=>rfl
    | 5,_=>rfl
    | 6,_=>rfl
    | 7,_=>rfl
    | k+8,h=>exact absurd h (by omega)
   ·match k,this with
    | 0,_=>rfl
    | 1,_=>rfl
    | 2,_=>rfl
    | 3,_=>rfl
    | 4,_=>rfl
    | 5,_=>rfl
    | 6,_=>rfl
    | 7,_=>rfl
    | k+8,h=>exact absurd h (by omega)
 ·rcases hs with rfl | rfl
  ·exact fun j hj=>(pn_rng (x:=110) (y:=90) (n:=64) (by kernel_rfl) j hj).trans (h3 j hj)
  ·exact fun j hj=>(pn_rng (x:=111) (y:=91) (n:=64) (by kernel_rfl) j hj).trans (h3 j hj)
 ·rcases hs with rfl | rfl <;> exact hb
 ·have:(pn (is12 s) (as12 s 16) N).a (1+s)=N.a (16+s):=by rcases hs with rfl | rfl <;> rfl
  rw[this,cA,List.take_zero,List.nil_append,Nat.sub_zero]
 ·simp only[mob12,List.mem_append] at hx
  rcases hx with hx | hx | hx
  ·have h7:∀x∈[Ob.le (.kst (bif t then 32 else 0)) (.var (161+s)),.boo (162+s) t,.le (.kst 0) (.var (161+s)),.lt (.kst 16) (.var s),.le (.var s) (.var s),.le (.kst 16) (.var s),.prd 24 [.var (157+s)] ls],x.holds N:=by
    simp only[List.forall_mem_cons,Ob.holds,Ar.ev,hl,hq,q162,icmp]
    refine ⟨?_,?_,by omega,by omega,by omega,by omega,cP,nofun⟩
    ·cases t with
     | true=>have:=of_decide_eq_true ht.symm;simp only[cond_true];omega
     | false=>simp only[cond_false];omega
    ·subst ht
     by_cases h:32<box.length-16
     ·rw [decide_eq_true (by omega:((box.length-16:Nat):Int)>32),decide_eq_true h];rfl
     ·rw [decide_eq_false (by omega:¬((box.length-16:Nat):Int)>32),decide_eq_false h];rfl
   exact h7 x hx
  ·exact ho x hx
  ·simp only[List.mem_cons,List.not_mem_nil,or_false] at hx
   rcases hx with rfl | rfl
   ·simp only[Ob.holds,Ar.ev,hl];omega
   ·simp only[Ob.holds,h156];rfl
theorem rnd12_law {b:Ar}(hs:s=0∨s=1)(hI:I12 M s out box nonce key i)(hd:∀d∈rnd12 s b,d.sat M)(hb:b.ev M=((min (box.length-16) 32:Nat):Int))(hlt:i<min (box.length-16) 32)(h16:16<box.length)(h8:box.length≤8192) :
  (∀ x∈rob12 s b,x.holds M)∧I12 (pn (js12 s) (as12 s 2) M) s out box nonce key (i+1):=by
 simp only[rnd12,List.forall_mem_cons] at hd
 obtain ⟨q182,w2,q181,q180,q179,q178,q177,q176,q175,q174,-⟩:=hd
 simp only[Df.sat,Nd.ev,Ad.ev,Ar.ev,hI.i57,hI.i61,hI.hbox] at q182 w2 q181 q180 q178 q177 q176 q175
 have q174:M.i (174+s)=bif icmp .lss (M.i (61+s)) (b.ev M) then 1 else 0:=q174
 rw[hI.i61,hb] at q174
 rw[add64 (by omega) (by omega) (by omega)] at q182 q177
 rw[q177] at q178
 have h178:M.i (178+s)=((32+i:Nat):Int):=by rw[q178];omega
 have h175:M.i (175+s)=((16+i:Nat):Int):=by rw[q175];omega
 have h181:M.i (181+s)=((out.length+i:Nat):Int):=by rw[q181];omega
 have h182:M.i (182+s)=((i+1:Nat):Int):=by rw[q182];omega
 have h176:M.i (176+s)=box.getD (16+i) 0:=by rw[q176,h175,Int.toNat_natCast]
 have h179:M.i (179+s)=(fbL nonce key).getD (32+i) 0:=by
  have:M.i (179+s)=((vs (110+s) 64).map (·.ev M)).getD (M.i (178+s)).toNat 0:=q179
  rw[this,vs_map hI.hfb (fbL_length _ _),h178,Int.toNat_natCast]
 have hl1:(M.a (1+s)).length=out.length+(box.length-16):=by
  rw[hI.hout,List.length_append,List.length_append,List.length_take,headL_length,List.length_replicate];omega
 have hlb:(M.a s).length=box.length:=by rw[hI.hbox]
 have cA:M.a (2+s)=out++((headL box nonce key).take (i+1)++List.replicate (box.length-16-(i+1)) 0):=by
  have e:box.length-16-i=(box.length-16-(i+1))+1:=by omega
  have ht:((headL box nonce key).take i).length=i:=by rw[List.length_take,headL_length];omega
  rw[w2,h181,Int.toNat_natCast,hI.hout,List.set_append,if_neg (by omega),Nat.add_sub_cancel_left,List.set_append,if_neg (by omega),ht,Nat.sub_self,e,List.replicate_succ,List.set_cons_zero,
   List.take_add_one,headL_get hlt,q180,h179,h176]
  simp
 refine ⟨?_,hlt,?_,?_,?_,?_,?_,?_,?_,?_,?_,?_⟩
 ·have h7:M.i (177+s)=32+(i:Nat):=q177
  simp only[rob12,List.forall_mem_cons,Ob.holds,Ar.ev,hI.i58,hI.i61,h181,h178,h7,h175,hl1,hlb,q174,icmp]
  refine ⟨by omega,by omega,by omega,by omega,by omega,by omega,by omega,by omega,?_,by omega,?_,nofun⟩
  ·have:b.ev M=((min (box.length-16) 32:Nat):Int):=hb
   show _<b.ev M
   rw[this];omega
  ·exact boo_true (decide_eq_true (by omega))
 ·rcases hs with rfl | rfl <;> exact hI.i57
 ·rcases hs with rfl | rfl <;> exact hI.i58
 ·rcases hs with rfl | rfl <;> exact hI.i59
 ·rcases hs with rfl | rfl <;> exact hI.i60
 ·rcases hs with rfl | rfl <;> exact h182
 ·rcases hs with rfl | rfl
  ·exact fun j hj=>(pn_rng (x:=62) (y:=62) (n:=32) (by kernel_rfl) j hj).trans (hI.hsub j hj)
  ·exact fun j hj=>(pn_rng (x:=63) (y:=63) (n:=32) (by kernel_rfl) j hj).trans (hI.hsub j hj)
 ·rcases hs with rfl | rfl
  ·exact fun j hj=>(pn_rng (x:=94) (y:=94) (n:=16) (by kernel_rfl) j hj).trans (hI.hctr j hj)
  ·exact fun j hj=>(pn_rng (x:=95) (y:=95) (n:=16) (by kernel_rfl) j hj).trans (hI.hctr j hj)
 ·rcases hs with rfl | rfl
  ·exact fun j hj=>(pn_rng (x:=110) (y:=110) (n:=64) (by kernel_rfl) j hj).trans (hI.hfb j hj)
  ·exact fun j hj=>(pn_rng (x:=111) (y:=111) (n:=64) (by kernel_rfl) j hj).trans (hI.hfb j hj)
 ·rcases hs with rfl | rfl <;> exact hI.hbox
 ·have:(pn (js12 s) (as12 s 2) M).a (1+s)=M.a (2+s):=by rcases hs with rfl | rfl <;> rfl
  rw[this,cA]
theorem msg_short (h:box.length-16≤32):(headL box nonce key).take (box.length-16)=msgL box nonce key:=by
 have hr:restL box nonce key=[]:=List.length_eq_zero_iff.1 (by rw[restL_length];omega)
 unfold msgL
 rw[hr,List.append_nil,List.take_of_length_le (by rw[headL_length];omega)]
theorem end12b (hI:I12 M s out box nonce key (box.length-16))(h174:M.i (174+s)=bif icmp .lss (M.i (61+s)) (M.i (59+s)) then 1 else 0)(h:box.length-16≤32) :
  (∀ x∈pob12 s,x.holds M)∧M.a (1+s)=out++msgL box nonce key∧M.i (60+s)=((out++msgL box nonce key).length:Nat):=by
 rw[hI.i61,hI.i59] at h174
 refine ⟨?_,?_,?_⟩
 ·simp only[pob12,List.forall_mem_cons,Ob.holds,Ar.ev,hI.i58,hI.i59,h174,icmp]
  exact ⟨trivial,by omega,by omega,by omega,by omega,trivial,by omega,by omega,by omega,by omega,boo_false (decide_eq_false (by omega)),nofun⟩
 ·rw [hI.hout,msg_short h,Nat.sub_self];simp
 ·rw [hI.i60,List.length_append,msgL_length]
theorem end12a (hF:F12 F)(hf:M.f=F)(hI:I12 M s out box nonce key 32)(hd:∀d∈out12 s,d.sat M)(h:32<box.length-16)(h8:box.length≤8192)(ln:nonce.length=24) :
  (∀ x∈oob12 s,x.holds M)∧M.a (7+s)=out++msgL box nonce key∧M.i (60+s)=((out++msgL box nonce key).length:Nat):=by
 simp only[out12,List.forall_mem_cons] at hd
 obtain ⟨w7,w6,w5,w4,w3,w2,q177,q176,q175,q174,-⟩:=hd
 simp only[Df.sat,Nd.ev,Ad.ev,Ar.ev,hI.i57,hI.i58,hI.i59,hI.i61,hI.hbox] at w7 w3 w2 q177 q176 q175 q174
 have h177:M.i (177+s)=((box.length-48:Nat):Int):=by rw[q177];omega
 have h176:M.i (176+s)=((out.length+32:Nat):Int):=by rw[q176];omega
 have h175:M.i (175+s)=((box.length-48:Nat):Int):=by rw[q175];omega
 have hh:(headL box nonce key).take 32=headL box nonce key:=List.take_of_length_le (by rw[headL_length];omega)
 have hhl:(headL box nonce key).length=32:=by rw[headL_length];omega
 have hout:=hI.hout
 rw[hh,show box.length-16-32=box.length-48 by omega] at hout
 have hol:(out++headL box nonce key).length=out.length+32:=by rw[List.length_append,hhl]
 rw[←List.append_assoc] at hout
 have hl1:(M.a (1+s)).length=out.length+32+(box.length-48):=by rw[hout,List.length_append,hol,List.length_replicate]
 have t2:M.a (2+s)=List.replicate (box.length-48) 0:=by
  rw[w2,h176,h177,Int.toNat_natCast,Int.toNat_natCast,hout,←hol,List.drop_left,List.take_of_length_le (by rw[List.length_replicate];exact Nat.le_refl _)]
 have t3:M.a (3+s)=box.drop 48:=by
  rw[w3,h175,Int.toNat_natCast]
  show (box.drop 48).take _=_
  rw[List.take_of_length_le (by rw[List.length_drop];exact Nat.le_refl _)]
 have t5:M.a (5+s)=subK nonce key:=Eq.trans w5 (vs_map hI.hsub (subK_length _ _))
 have t4:M.a (4+s)=(ctrN nonce).set 8 1:=by
  have hcl:=ctrN_length ln
  refine Eq.trans w4 (vs_split (A:=(ctrN nonce).take 8) (B:=1::(ctrN nonce).drop 9) (vs_map (fun j hj=>by rw[hI.hctr j (by omega),getD_takeK hj]) (by rw[List.length_take];omega)) ?_ ?_)
  ·rw [List.map_cons]
   congr 1
   refine vs_map (fun j hj=> ?_) (by rw[List.length_drop];omega)
   have:=hI.hctr (9+j) (by omega)
   rw[show 94+s+(9+j)=103+s+j by omega] at this
   rw[this,getD_dropK]
  ·exact List.set_eq_take_append_cons_drop.trans (if_pos (by omega))
 have t6:M.a (6+s)=restL box nonce key:=by
  have:M.a (6+s)=M.f.a 33 [] [M.a (2+s),M.a (3+s),M.a (4+s),M.a (5+s)]:=w6
  rw[this,hf,hF.a33,t3,t4,t5];rfl
 have hP:M.f.p 33 [] [M.a (2+s),M.a (3+s),M.a (4+s),M.a (5+s)]:=by
  rw[hf,hF.p33,t2,t3,t4,t5]
  have:=ctrN_one ln
  exact ⟨by rw[List.length_replicate,List.length_drop],by rw[List.length_drop];omega,this.1,by rw[this.2];decide,by rw[this.2];decide⟩
 have hrl:=restL_length box nonce key
 refine ⟨?_,?_,?_⟩
 ·simp only[oob12,List.forall_mem_cons,Ob.holds,Ar.ev,hI.i58,hI.i59,hI.hbox,h175,h176,h177,q174,hl1,icmp]
  exact ⟨by omega,hP,by omega,by omega,by omega,by omega,by omega,by omega,by omega,by omega,by rfl,nofun⟩
 ·rw [w7,h176,Int.toNat_natCast,t6,hout,←hol,List.take_left,List.drop_of_length_le (by rw[List.length_append,List.length_replicate];omega),List.append_nil,msgL,List.append_assoc]
 ·rw [hI.i60,List.length_append,msgL_length]
end
open Go.Sy
section
variable {F:Fns} {N:Num} {s:Nat} {box nonce key:List Int}
theorem nums12 {pre:List Int}(hp:pre.length=s)(h:∀x,x<57+s→N.i x=(pre++(box.length:Int)::(nonce++key)).getD x 0)(ln:nonce.length=24)(_lk:key.length=32) :
  N.i s=box.length∧(∀ j,j<24→N.i (1+s+j)=nonce.getD j 0)∧∀j,j<32→N.i (1+s+24+j)=key.getD j 0:=by
 refine ⟨?_,fun j hj=> ?_,fun j hj=> ?_⟩
 ·rw [h s (by omega)];exact getD_at (j:=0) hp
 ·rw [h _ (by omega),show 1+s+j=s+(j+1) by omega,getD_at hp]
  exact getD_lo (by omega)
 ·rw [h _ (by omega),show 1+s+24+j=s+(24+j+1) by omega,getD_at hp]
  exact getD_at (j:=j) ln
end
theorem spec12e {F:Fns}(hF:F12 F):CSpec Try.prog F 12 ct12e :=
 straight (callF_ok (tab2:=[]) (tab12_ok hF) trivial) Try.func12 (by kernel_rfl) (by kernel_rfl) (by kernel_rfl) run12e (by kernel_rfl) fun is ls N hs hp hag hf hd=>by
  obtain rfl:=Shape.noInt rfl hs
  match ls,hs with
  | [_,_,_],_=>exact ⟨nofun,⟨nofun,trivial,trivial⟩,nofun⟩
theorem spec12f {F:Fns}(hF:F12 F):CSpec Try.prog F 12 ct12f:=by
 refine cspec_of (args:=argsOf ct12f) (σe:=stOf ct12f) rfl Try.func12 (body_some (by kernel_rfl)) (by kernel_rfl) (by kernel_rfl) fun is ls ws we Ee a hs hp hent hat=> ?_
 obtain rfl:=Shape.noInt rfl hs
 match ls,hs with
 | [box,nonce,key],hs =>
 obtain ⟨ln,lk,-⟩:=hs
 have hp:P120 [] [box,nonce,key]:=by rw[←hF.p120];exact hp
 obtain ⟨hB,h8,hno⟩:=hp
 have hnum:∀ {N:Num},Agr (stOf ct12f).nx (stOf ct12f).na (num0 F ct12f.ps [] [box,nonce,key]) N→(∀ x,x<57+0→N.i x=([]++(box.length:Int)::(nonce++key)).getD x 0)∧N.a 0=box:=fun {N} hag=>by
  refine ⟨fun x hx=> ?_,hag.a 0 (by decide)⟩
  rw[hag.i x hx]
  show (numsL ct12f.ps [] [box,nonce,key]).getD x 0=_
  simp only[ct12f,numsL,List.append_nil,List.nil_append]
 rcases Nat.lt_or_ge box.length 16 with h | h
 ·refine to_end hm (callF_ok (tab2:=[]) (tab12_ok hF) trivial) run12fa (by kernel_rfl) hat hent fun N hag hf hd=> ?_
  obtain ⟨h1,h2⟩:=hnum hag
  obtain ⟨hl,-,-⟩:=nums12 (s:=0) (pre:=[]) rfl h1 ln lk
  simp only[List.forall_mem_cons,Df.sat,Nd.ev,Ar.ev,hl] at hd
  refine ⟨?_,⟨nofun,trivial,trivial⟩,nofun⟩
  simp only[List.forall_mem_cons,Ob.holds,Ar.ev,hl,hd.1,icmp]
  exact ⟨boo_true (decide_eq_true (by omega)),by omega,nofun⟩
 have hne:tagOf box nonce key≠box.take 16:=fun e=>hno ⟨h,e⟩
 rcases Nat.eq_or_lt_of_le h with h16 | h16
 ·refine to_end hm (callF_ok (tab2:=[]) (tab12_ok hF) trivial) run12fb (by kernel_rfl) hat hent fun N hag hf hd=> ?_
  obtain ⟨h1,hb⟩:=hnum hag
  obtain ⟨hl,hn,hk⟩:=nums12 (s:=0) (pre:=[]) rfl h1 ln lk
  obtain ⟨o1,q⟩:=pre0_law hF hf hd hl hb h16.symm hB hn hk ln lk
  rw[if_neg hne] at q
  refine ⟨List.forall_mem_cons.2 ⟨?_,o1⟩,⟨nofun,trivial,trivial⟩,nofun⟩
  show (!(N.i 155==0))=false
  rw[show N.i 155=0 from q];rfl
 ·refine to_end hm (callF_ok (tab2:=[]) (tab12_ok hF) trivial) run12fc (by kernel_rfl) hat hent fun N hag hf hd=> ?_
  obtain ⟨h1,hb⟩:=hnum hag
  obtain ⟨hl,hn,hk⟩:=nums12 (s:=0) (pre:=[]) rfl h1 ln lk
  obtain ⟨o1,q,-,-⟩:=pre12_law hF hf hd hl hb h16 hB h8 hn hk ln lk
  rw[if_neg hne] at q
  refine ⟨List.forall_mem_cons.2 ⟨?_,o1⟩,⟨nofun,trivial,trivial⟩,nofun⟩
  show (!(N.i 156==0))=false
  rw[show N.i 156=0 from q];rfl
theorem spec12n0 {F:Fns}(hF:F12 F):CSpec Try.prog F 12 ct12n0:=by
 refine straight (callF_ok (tab2:=[]) (tab12z_ok hF) trivial) Try.func12 (by kernel_rfl) (by kernel_rfl) (by kernel_rfl) run12n0 (by kernel_rfl) fun is ls N hs hp hag hf hd=> ?_
 obtain rfl:=Shape.noInt rfl hs
 match ls,hs with
 | [box,nonce,key],hs =>
 obtain ⟨ln,lk,-⟩:=hs
 have hp:P122 [] [box,nonce,key]:=by rw[←hF.p122];exact hp
 obtain ⟨⟨hB,h8,hok⟩,h16⟩:=hp
 have hb:N.a 0=box:=hag.a 0 (by decide)
 have hnum:∀x,x<57+0→N.i x=([]++(box.length:Int)::(nonce++key)).getD x 0:=fun x hx=>by
  rw[hag.i x hx]
  show (numsL ct12n0.ps [] [box,nonce,key]).getD x 0=_
  simp only[ct12n0,ct12n0,numsL,List.append_nil,List.nil_append]
 obtain ⟨hl,hn,hk⟩:=nums12 (s:=0) (pre:=[]) rfl hnum ln lk
 rw[List.forall_mem_append] at hd
 obtain ⟨hd1,hd2⟩:=hd
 obtain ⟨o1,q⟩:=pre0_law hF hf hd2 hl hb h16 hB hn hk ln lk
 rw[if_pos hok] at q
 simp only[List.forall_mem_cons] at hd1
 have qs:N.i 156=iop .sub .i64 (N.i 0) 16:=hd1.1
 rw[hl,sub64 (by omega) h8,h16] at qs
 have o3:(Ob.boo 155 true).holds N:=by show (!(N.i 155==0))=true;rw[show N.i 155=1 from q];rfl
 have o4:∀o∈[Ob.eq (.kst 16) (.var 0),.le (.var 0) (.var 0),.le (.kst 16) (.var 0),.le (.kst 0) (.var 0)],o.holds N:=by
  simp only[List.forall_mem_cons,Ob.holds,Ar.ev,hl]
  exact ⟨by omega,by omega,by omega,by omega,nofun⟩
 simp only[List.forall_mem_cons] at o4
 obtain ⟨o41,o42,o43,o44,-⟩:=o4
 have o5:(Ob.prd 240 [.var 156] []).holds N:=by show N.f.p 240 [N.i 156] [];rw[hf,hF.p24z,qs];rfl
 refine ⟨?_,⟨nofun,trivial,trivial⟩,nofun⟩
 simp only[List.forall_mem_append,List.forall_mem_cons]
 exact ⟨⟨⟨o41,o42,o43,o5,nofun⟩,o44,o3,nofun⟩,o1⟩
theorem spec12g0 {F:Fns}(hF:F12 F):CSpec Try.prog F 12 ct12g0:=by
 refine straight (callF_ok (tab2:=[]) (tab12z_ok hF) trivial) Try.func12 (by kernel_rfl) (by kernel_rfl) (by kernel_rfl) run12g0 (by kernel_rfl) fun is ls N hs hp hag hf hd=> ?_
 obtain rfl:=Shape.noInt rfl hs
 match ls,hs with
 | [out,box,nonce,key],hs =>
 obtain ⟨ln,lk,-⟩:=hs
 have hp:P122 [] [out,box,nonce,key]:=by rw[←hF.p122];exact hp
 obtain ⟨ho8,⟨hB,h8,hok⟩,h16⟩:=hp
 have hb:N.a 1=box:=hag.a 1 (by decide)
 have hnum:∀x,x<57+1→N.i x=([(out.length:Int)]++(box.length:Int)::(nonce++key)).getD x 0:=fun x hx=>by
  rw[hag.i x hx]
  show (numsL ct12g0.ps [] [out,box,nonce,key]).getD x 0=_
  simp only[ct12g0,ct12n0,numsL,List.append_nil,List.nil_append,List.cons_append]
 obtain ⟨hl,hn,hk⟩:=nums12 (s:=1) (pre:=[(out.length:Int)]) rfl hnum ln lk
 rw[List.forall_mem_append] at hd
 obtain ⟨hd1,hd2⟩:=hd
 obtain ⟨o1,q⟩:=pre0_law hF hf hd2 hl hb h16 hB hn hk ln lk
 rw[if_pos hok] at q
 simp only[List.forall_mem_cons] at hd1
 have qs:N.i 157=iop .sub .i64 (N.i 1) 16:=hd1.2.2.1
 rw[hl,sub64 (by omega) h8,h16] at qs
 have o3:(Ob.boo 156 true).holds N:=by show (!(N.i 156==0))=true;rw[show N.i 156=1 from q];rfl
 have o4:∀o∈[Ob.eq (.kst 16) (.var 1),.le (.var 1) (.var 1),.le (.kst 16) (.var 1),.le (.kst 0) (.var 1)],o.holds N:=by
  simp only[List.forall_mem_cons,Ob.holds,Ar.ev,hl]
  exact ⟨by omega,by omega,by omega,by omega,nofun⟩
 simp only[List.forall_mem_cons] at o4
 obtain ⟨o41,o42,o43,o44,-⟩:=o4
 have hout:N.a 0=out:=hag.a 0 (by decide)
 have o5:(Ob.prd 240 [.var 157] [0]).holds N:=by show N.f.p 240 [N.i 157] [N.a 0];rw[hf,hF.p24z,hout,qs];exact ⟨rfl,by omega⟩
 have o6:(Ob.lenA (.var 0) 0).holds N:=by
  show N.i 0=((N.a 0).length:Nat)
  rw[hout,hnum 0 (by decide)];rfl
 have hmsg:msgL box nonce key=[]:=List.length_eq_zero_iff.1 (by rw[msgL_length];omega)
 have hA:F.a 12 [] [out,box,nonce,key]=out:=by rw[hF.a12];show out++msgL box nonce key=out;rw[hmsg,List.append_nil]
 have w17:N.a 17=out:=by
  have:N.a 17=N.f.a 24 [N.i 157] [N.a 0]:=hd1.2.1
  rw[this,hf,hF.a24,hout,qs];exact List.append_nil out
 have q158:N.i 158=((N.a 17).length:Nat):=hd1.1
 refine ⟨?_,⟨nofun,trivial,?_⟩,nofun⟩
 ·simp only[List.forall_mem_append,List.forall_mem_cons]
  exact ⟨⟨⟨o41,o42,o43,o5,nofun⟩,o6,o44,o3,nofun⟩,o1⟩
 ·exact ⟨w17.trans hA.symm,by show N.i 158=((F.a 12 [] [out,box,nonce,key]).length:Nat);rw[q158,w17,hA],trivial⟩
set_option maxHeartbeats 1000000 in
theorem spec12n {F:Fns}(hF:F12 F):CSpec Try.prog F 12 ct12n:=by
 refine cspec_of (args:=argsOf ct12n) (σe:=stOf ct12n) rfl Try.func12 (body_some (by kernel_rfl)) (by kernel_rfl) (by kernel_rfl) fun is ls ws we Ee a hs hp hent hat=> ?_
 obtain rfl:=Shape.noInt rfl hs
 match ls,hs with
 | [box,nonce,key],hs =>
 obtain ⟨ln,lk,-⟩:=hs
 have hp:P121 [] [box,nonce,key]:=by rw[←hF.p121];exact hp
 obtain ⟨⟨hB,h8,hok⟩,h16⟩:=hp
 have hA12:F.a 12 [] [box,nonce,key]=[]++msgL box nonce key:=by rw[hF.a12];rfl
 have fin:∀ {N:Num} {x A:Nat},N.a A=[]++msgL box nonce key→N.i x=(([]++msgL box nonce key).length:Nat)→(⟨[],none,some (.var x,A)⟩:Sum1).ok N F ct12n [] [box,nonce,key]:=fun {N x A} h1 h2 =>
  ⟨nofun,trivial,h1.trans hA12.symm,by show N.i x=((F.a 12 [] [box,nonce,key]).length:Nat);rw[h2,hA12],trivial⟩
 have enter:∀ {N:Num},Agr (stOf ct12n).nx (stOf ct12n).na (num0 F ct12n.ps [] [box,nonce,key]) N→N.f=F→(∀ d∈mid12 0 []++pre12 0,d.sat N) →
   I12 (pn (is12 0) (as12 0 16) N) 0 [] box nonce key 0∧∀t,t=decide (32<box.length-16)→∀x∈mob12 0 [] [] t++obs12 0,x.holds N:=fun {N} hag hf hd=>by
  have hb:N.a 0=box:=hag.a 0 (by decide)
  have hnum:∀x,x<57+0→N.i x=([]++(box.length:Int)::(nonce++key)).getD x 0:=fun x hx=>by
   rw[hag.i x hx]
   show (numsL ct12n.ps [] [box,nonce,key]).getD x 0=_
   simp only[ct12n,ct12n,numsL,List.append_nil,List.nil_append]
  obtain ⟨hl,hn,hk⟩:=nums12 (s:=0) (pre:=[]) rfl hnum ln lk
  rw[List.forall_mem_append] at hd
  obtain ⟨o1,q,g2,g3⟩:=pre12_law hF hf hd.2 hl hb h16 hB h8 hn hk ln lk
  rw[if_pos hok] at q
  obtain ⟨hI,hob⟩:=mid12_law (out:=[]) hF hf (.inl rfl) hd.1 hl hb h16 h8 (by simp) (.inl ⟨rfl,rfl⟩) hn ln g2 g3 q
  refine ⟨hI,fun t ht=> ?_⟩
  rw[List.forall_mem_append]
  exact ⟨hob _ (fun x hx=>by cases hx) t ht,o1⟩
 let Ne:=num0 F ct12n.ps [] [box,nonce,key]
 rcases Nat.lt_or_ge 32 (box.length-16) with hn | hn
 ·refine to_head hm (callF_ok (tab2:=[]) (tab12_ok hF) trivial) h12na (by kernel_rfl) rfl rfl hat hent.inv fun N hag hf hd=> ?_
  obtain ⟨hI,hob⟩:=enter hag hf hd
  refine ⟨hob true (decide_eq_true hn).symm,fun a1 w1 hat1=> ?_⟩
  refine loop_law (fun k a w=>∃N i,I12 N 0 [] box nonce key i∧k=32-i∧At F Try.f12.ntmps Ne Ee (stOf ct12n) we T12na s12na N a w) (k:=32) ⟨_,0,hI,rfl,hat1⟩ ?_
  clear hat hat1 hag hd hob hI hf
  intro k a w hJ
  obtain ⟨N,i,hI,hk,hat⟩:=hJ
  have hi:=hI.hi
  rcases Nat.lt_or_ge i 32 with h1 | h1
  ·refine to_round hm (callF_ok (tab2:=[]) (tab12_ok hF) trivial) r12na (by kernel_rfl) rfl rfl hat hent.inv fun M hag hf hd=> ?_
   obtain ⟨o1,hI'⟩:=rnd12_law (.inl rfl) (hI.agr hag rfl rfl) hd (show (32:Int)=_ by omega) (by omega) h16 h8
   exact ⟨o1,fun a2 w2 hat2=>⟨32-(i+1),by omega,_,i+1,hI',rfl,hat2⟩⟩
  ·have:i=32:=by omega
   subst this
   refine to_out hm (callF_ok (tab2:=[]) (tab12_ok hF) trivial) o12na (by kernel_rfl) hat hent fun M hag hf hd=> ?_
   obtain ⟨o1,o2,o3⟩:=end12a hF hf (hI.agr hag rfl rfl) hd hn h8 ln
   exact ⟨o1,fin o2 o3,nofun⟩
 ·refine to_head hm (callF_ok (tab2:=[]) (tab12_ok hF) trivial) h12nb (by kernel_rfl) rfl rfl hat hent.inv fun N hag hf hd=> ?_
  obtain ⟨hI,hob⟩:=enter hag hf hd
  refine ⟨hob false (decide_eq_false (by omega)).symm,fun a1 w1 hat1=> ?_⟩
  refine loop_law (fun k a w=>∃N i,I12 N 0 [] box nonce key i∧k=box.length-16-i∧At F Try.f12.ntmps Ne Ee (stOf ct12n) we T12nb s12nb N a w) (k:=box.length-16) ⟨_,0,hI,rfl,hat1⟩ ?_
  clear hat hat1 hag hd hob hI hf
  intro k a w hJ
  obtain ⟨N,i,hI,hk,hat⟩:=hJ
  have hi:=hI.hi
  rcases Nat.lt_or_ge i (box.length-16) with h1 | h1
  ·refine to_round hm (callF_ok (tab2:=[]) (tab12_ok hF) trivial) r12nb (by kernel_rfl) rfl rfl hat hent.inv fun M hag hf hd=> ?_
   have hI1:=hI.agr hag rfl rfl
   obtain ⟨o1,hI'⟩:=rnd12_law (.inl rfl) hI1 hd (show M.i (59+0)=_ by rw[hI1.i59];omega) (by omega) h16 h8
   exact ⟨o1,fun a2 w2 hat2=>⟨box.length-16-(i+1),by omega,_,i+1,hI',rfl,hat2⟩⟩
  ·have:i=box.length-16:=by omega
   subst this
   refine to_out hm (callF_ok (tab2:=[]) (tab12_ok hF) trivial) o12nb (by kernel_rfl) hat hent fun M hag hf hd=> ?_
   obtain ⟨o1,o2,o3⟩:=end12b (hI.agr hag rfl rfl) (hd _ (List.mem_of_getElem? (i:=0) rfl)) hn
   exact ⟨o1,fin o2 o3,nofun⟩
set_option maxHeartbeats 1000000 in
theorem spec12g {F:Fns}(hF:F12 F):CSpec Try.prog F 12 ct12g:=by
 refine cspec_of (args:=argsOf ct12g) (σe:=stOf ct12g) rfl Try.func12 (body_some (by kernel_rfl)) (by kernel_rfl) (by kernel_rfl) fun is ls ws we Ee a hs hp hent hat=> ?_
 obtain rfl:=Shape.noInt rfl hs
 match ls,hs with
 | [out,box,nonce,key],hs =>
 obtain ⟨ln,lk,-⟩:=hs
 have hp:P121 [] [out,box,nonce,key]:=by rw[←hF.p121];exact hp
 obtain ⟨ho8,⟨hB,h8,hok⟩,h16⟩:=hp
 have hA12:F.a 12 [] [out,box,nonce,key]=out++msgL box nonce key:=by rw[hF.a12];rfl
 have fin:∀ {N:Num} {x A:Nat},N.a A=out++msgL box nonce key→N.i x=((out++msgL box nonce key).length:Nat)→(⟨[],none,some (.var x,A)⟩:Sum1).ok N F ct12g [] [out,box,nonce,key]:=fun {N x A} h1 h2 =>
  ⟨nofun,trivial,h1.trans hA12.symm,by show N.i x=((F.a 12 [] [out,box,nonce,key]).length:Nat);rw[h2,hA12],trivial⟩
 have enter:∀ {N:Num},Agr (stOf ct12g).nx (stOf ct12g).na (num0 F ct12g.ps [] [out,box,nonce,key]) N→N.f=F→(∀ d∈mid12 1 [0]++pre12 1,d.sat N) →
   I12 (pn (is12 1) (as12 1 16) N) 1 out box nonce key 0∧∀t,t=decide (32<box.length-16)→∀x∈mob12 1 [0] [.lenA (.var 0) 0] t++obs12 1,x.holds N:=fun {N} hag hf hd=>by
  have hb:N.a 1=box:=hag.a 1 (by decide)
  have hnum:∀x,x<57+1→N.i x=([(out.length:Int)]++(box.length:Int)::(nonce++key)).getD x 0:=fun x hx=>by
   rw[hag.i x hx]
   show (numsL ct12g.ps [] [out,box,nonce,key]).getD x 0=_
   simp only[ct12g,ct12n,numsL,List.append_nil,List.nil_append,List.cons_append]
  obtain ⟨hl,hn,hk⟩:=nums12 (s:=1) (pre:=[(out.length:Int)]) rfl hnum ln lk
  rw[List.forall_mem_append] at hd
  obtain ⟨o1,q,g2,g3⟩:=pre12_law hF hf hd.2 hl hb h16 hB h8 hn hk ln lk
  rw[if_pos hok] at q
  obtain ⟨hI,hob⟩:=mid12_law (out:=out) hF hf (.inr rfl) hd.1 hl hb h16 h8 ho8 (.inr (by show [N.a 0]=[out];rw[show N.a 0=out from hag.a 0 (by decide)])) hn ln g2 g3 q
  refine ⟨hI,fun t ht=> ?_⟩
  rw[List.forall_mem_append]
  exact ⟨hob _ (fun x hx=>by simp only[List.mem_singleton] at hx;subst hx;show N.i 0=((N.a 0).length:Nat);rw[show N.a 0=out from hag.a 0 (by decide),hnum 0 (by decide)];rfl) t ht,o1⟩
 let Ne:=num0 F ct12g.ps [] [out,box,nonce,key]
 rcases Nat.lt_or_ge 32 (box.length-16) with hn | hn
 ·refine to_head hm (callF_ok (tab2:=[]) (tab12_ok hF) trivial) h12ga (by kernel_rfl) rfl rfl hat hent.inv fun N hag hf hd=> ?_
  obtain ⟨hI,hob⟩:=enter hag hf hd
  refine ⟨hob true (decide_eq_true hn).symm,fun a1 w1 hat1=> ?_⟩
  refine loop_law (fun k a w=>∃N i,I12 N 1 out box nonce key i∧k=32-i∧At F Try.f12.ntmps Ne Ee (stOf ct12g) we T12ga s12ga N a w) (k:=32) ⟨_,0,hI,rfl,hat1⟩ ?_
  clear hat hat1 hag hd hob hI hf
  intro k a w hJ
  obtain ⟨N,i,hI,hk,hat⟩:=hJ
  have hi:=hI.hi
  rcases Nat.lt_or_ge i 32 with h1 | h1
  ·refine to_round hm (callF_ok (tab2:=[]) (tab12_ok hF) trivial) r12ga (by kernel_rfl) rfl rfl hat hent.inv fun M hag hf hd=> ?_
   obtain ⟨o1,hI'⟩:=rnd12_law (.inr rfl) (hI.agr hag rfl rfl) hd (show (32:Int)=_ by omega) (by omega) h16 h8
   exact ⟨o1,fun a2 w2 hat2=>⟨32-(i+1),by omega,_,i+1,hI',rfl,hat2⟩⟩
  ·have:i=32:=by omega
   subst this
   refine to_out hm (callF_ok (tab2:=[]) (tab12_ok hF) trivial) o12ga (by kernel_rfl) hat hent fun M hag hf hd=> ?_
   obtain ⟨o1,o2,o3⟩:=end12a hF hf (hI.agr hag rfl rfl) hd hn h8 ln
   exact ⟨o1,fin o2 o3,nofun⟩
 ·refine to_head hm (callF_ok (tab2:=[]) (tab12_ok hF) trivial) h12gb (by kernel_rfl) rfl rfl hat hent.inv fun N hag hf hd=> ?_
  obtain ⟨hI,hob⟩:=enter hag hf hd
  refine ⟨hob false (decide_eq_false (by omega)).symm,fun a1 w1 hat1=> ?_⟩
  refine loop_law (fun k a w=>∃N i,I12 N 1 out box nonce key i∧k=box.length-16-i∧At F Try.f12.ntmps Ne Ee (stOf ct12g) we T12gb s12gb N a w) (k:=box.length-16) ⟨_,0,hI,rfl,hat1⟩ ?_
  clear hat hat1 hag hd hob hI hf
  intro k a w hJ
  obtain ⟨N,i,hI,hk,hat⟩:=hJ
  have hi:=hI.hi
  rcases Nat.lt_or_ge i (box.length-16) with h1 | h1
  ·refine to_round hm (callF_ok (tab2:=[]) (tab12_ok hF) trivial) r12gb (by kernel_rfl) rfl rfl hat hent.inv fun M hag hf hd=> ?_
   have hI1:=hI.agr hag rfl rfl
   obtain ⟨o1,hI'⟩:=rnd12_law (.inr rfl) hI1 hd (show M.i (59+1)=_ by rw[hI1.i59];omega) (by omega) h16 h8
   exact ⟨o1,fun a2 w2 hat2=>⟨box.length-16-(i+1),by omega,_,i+1,hI',rfl,hat2⟩⟩
  ·have:i=box.length-16:=by omega
   subst this
   refine to_out hm (callF_ok (tab2:=[]) (tab12_ok hF) trivial) o12gb (by kernel_rfl) hat hent fun M hag hf hd=> ?_
   obtain ⟨o1,o2,o3⟩:=end12b (hI.agr hag rfl rfl) (hd _ (List.mem_of_getElem? (i:=0) rfl)) hn
   exact ⟨o1,fin o2 o3,nofun⟩
end Go.Proofs.Ytlcljhlijmombaa
