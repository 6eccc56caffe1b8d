/- secretbox.Open: what it computes. -/
import Derived.Test.YtlcljhlijmombaaY12f
import Derived.Test.YtlcljhlijmombaaYa33
import Derived.Test.YtlcljhlijmombaaYa50
import Derived.Test.YtlcljhlijmombaaYa24
namespace Go.Proofs.Ytlcljhlijmombaa
open Go.Sy
noncomputable def subK (nonce key:List Int):List Int:=hsaL (matL key (nonce.take 16) sigmaL)
def ctrN (nonce:List Int):List Int:=nonce.drop 16++List.replicate 8 0
noncomputable def fbL (nonce key:List Int):List Int:=xorL (List.replicate 64 0) (ctrN nonce) (subK nonce key)
noncomputable def tagOf (box nonce key:List Int):List Int:=tagL ((fbL nonce key).take 32) (box.drop 16)
noncomputable def headL (box nonce key:List Int):List Int:=(List.range (min (box.length-16) 32)).map fun i=>iop .xor .u8 ((fbL nonce key).getD (32+i) 0) (box.getD (16+i) 0)
noncomputable def restL (box nonce key:List Int):List Int:=xorL (box.drop 48) ((ctrN nonce).set 8 1) (subK nonce key)
noncomputable def msgL (box nonce key:List Int):List Int:=headL box nonce key++restL box nonce key
theorem subK_length (nonce key:List Int):(subK nonce key).length=32:=hsaL_length _
theorem ctrN_length {nonce:List Int}(h:nonce.length=24):(ctrN nonce).length=16:=by unfold ctrN;rw[List.length_append,List.length_drop,List.length_replicate];omega
theorem fbL_length (nonce key:List Int):(fbL nonce key).length=64:=by unfold fbL;rw[xorL_length,List.length_replicate]
theorem headL_length (box nonce key:List Int):(headL box nonce key).length=min (box.length-16) 32:=by unfold headL;rw[List.length_map,List.length_range]
theorem restL_length (box nonce key:List Int):(restL box nonce key).length=box.length-48:=by unfold restL;rw[xorL_length,List.length_drop]
theorem msgL_length (box nonce key:List Int):(msgL box nonce key).length=box.length-16:=by unfold msgL;rw[List.length_append,headL_length,restL_length];omega
theorem xorL_bytes (z c k:List Int):Bytes (xorL z c k):=by
 intro y hy
 obtain ⟨i,_,rfl⟩:=List.mem_map.1 hy
 unfold xorB iop
 simp only[IntKind.wrap_u8]
 omega
theorem ctrN_drop {nonce:List Int}(h:nonce.length=24):(ctrN nonce).drop 9=[0,0,0,0,0,0,0]:=by
 unfold ctrN
 have:(nonce.drop 16).length=8:=by rw[List.length_drop];omega
 rw[List.drop_append,List.drop_of_length_le (by omega),this];rfl
theorem ctrN_one {nonce:List Int}(h:nonce.length=24):((ctrN nonce).set 8 1).drop 9=[0,0,0,0,0,0,0]∧((ctrN nonce).set 8 1).getD 8 0=1:=by
 unfold ctrN
 have:(nonce.drop 16).length=8:=by rw[List.length_drop];omega
 rw[List.set_append,if_neg (by omega),this]
 refine ⟨?_,?_⟩
 ·rw [List.drop_append,List.drop_of_length_le (by omega),this];rfl
 ·rw [List.getD_eq_getElem?_getD,List.getElem?_append_right (by omega),this];rfl
def P120 (_:List Int)(ls:List (List Int)):Prop :=
 match ls with
 | [box,nonce,key]=>Bytes box∧box.length≤8192∧¬(16≤box.length∧tagOf box nonce key=box.take 16)
 | _=>False
def okBox (box nonce key:List Int):Prop:=Bytes box∧box.length≤8192∧tagOf box nonce key=box.take 16
def P121 (_:List Int)(ls:List (List Int)):Prop :=
 match ls with
 | [box,nonce,key]=>okBox box nonce key∧16<box.length
 | [out,box,nonce,key]=>out.length≤8192∧okBox box nonce key∧16<box.length
 | _=>False
def P122 (_:List Int)(ls:List (List Int)):Prop :=
 match ls with
 | [box,nonce,key]=>okBox box nonce key∧box.length=16
 | [out,box,nonce,key]=>out.length≤8192∧okBox box nonce key∧box.length=16
 | _=>False
noncomputable def A12 (_:List Int)(ls:List (List Int)):List Int :=
 match ls with
 | [box,nonce,key]=>msgL box nonce key
 | [out,box,nonce,key]=>out++msgL box nonce key
 | _=>[]
structure F12 (F:Fns):Prop extends F23 F,F33 F,F33s F,F24 F where
 p31:∀is ls,F.p 31 is ls
 a31:F.a 31=A31
 p120:F.p 120=P120
 p121:F.p 121=P121
 p122:F.p 122=P122
 a12:F.a 12=A12
theorem tab12_ok {F:Fns}(h:F12 F):TabOk F tab12:=by
 refine ⟨⟨by kernel_rfl,fun c hc=> ?_⟩,⟨by kernel_rfl,fun c hc=> ?_⟩,⟨by kernel_rfl,fun c hc=> ?_⟩,⟨by kernel_rfl,fun c hc=> ?_⟩,trivial⟩ <;> simp only[List.mem_cons,List.not_mem_nil,or_false] at hc
 ·rcases hc with rfl | rfl
  ·exact spec23 h.toF23
  ·exact spec23e h.toF23
 ·rcases hc with rfl | rfl
  ·exact spec24 h.toF24
  ·exact spec24n h.toF24
 ·subst hc;exact spec31 h.a31
 ·rcases hc with rfl | rfl
  ·exact spec33 h.toF33
  ·exact spec33s h.toF33 h.toF33s
theorem tab12z_ok {F:Fns}(h:F12 F):TabOk F tab12z:=by
 obtain ⟨h1,_,h3,h4,h5⟩:=tab12_ok h
 refine ⟨h1,⟨by kernel_rfl,fun c hc=> ?_⟩,h3,h4,h5⟩
 simp only[List.mem_cons,List.not_mem_nil,or_false] at hc
 rcases hc with rfl | rfl
 ·exact spec24z h.toF24
 ·exact spec24nz h.toF24
section
variable {F:Fns} {N:Num} {box nonce key:List Int}
theorem vs_split {a b:List Ar}{L:List Int}{A B:List Int}(h1:a.map (·.ev N)=A)(h2:b.map (·.ev N)=B)(h:L=A++B):(a++b).map (·.ev N)=L:=by rw[List.map_append,h1,h2,h]
theorem zs_map (n:Nat):(zs n).map (·.ev N)=List.replicate n 0:=by unfold zs;rw[List.map_replicate];rfl
theorem getD_dropK (L:List Int)(k j:Nat):(L.drop k).getD j 0=L.getD (k+j) 0:=by rw[List.getD_eq_getElem?_getD,List.getElem?_drop,List.getD_eq_getElem?_getD]
theorem getD_takeK {L:List Int}{k j:Nat}(h:j<k):(L.take k).getD j 0=L.getD j 0:=by rw[List.getD_eq_getElem?_getD,List.getElem?_take,if_pos h,List.getD_eq_getElem?_getD]
theorem blk12_law (hF:F12 F)(hf:N.f=F){e c A:Nat}(hd:∀d∈blk12 e c A,d.sat N)(hn:∀j,j<24→N.i (e+j)=nonce.getD j 0)(hk:∀j,j<32→N.i (e+24+j)=key.getD j 0)(ln:nonce.length=24)(lk:key.length=32) :
  (Ob.prd 330 [] [A+5,A+6,A+7]).holds N∧(∀ j,j<32→N.i (c+j)=(subK nonce key).getD j 0)∧∀j,j<64→N.i (c+32+j)=(fbL nonce key).getD j 0:=by
 simp only[blk12,List.forall_mem_append,List.forall_mem_cons] at hd
 obtain ⟨hfb,⟨w8,w7,w6,w5,-⟩,hsub,w4,w3,w2,w1,w0,-⟩:=hd
 have w5:N.a (A+5)=List.replicate 64 0:=Eq.trans w5 (zs_map 64)
 have w3:N.a (A+3)=sigmaL:=w3
 have w2:N.a (A+2)=key:=Eq.trans w2 (vs_map hk lk)
 have w1:N.a (A+1)=nonce.take 16:=Eq.trans w1 (vs_map (fun j hj=>by rw[hn j (by omega),getD_takeK hj]) (by rw[List.length_take];omega))
 have w4:N.a (A+4)=subK nonce key:=by
  have:N.a (A+4)=N.f.a 31 [] [N.a A,N.a (A+1),N.a (A+2),N.a (A+3)]:=w4
  rw[this,hf,hF.a31,w1,w2,w3];rfl
 have hs:∀j,j<32→N.i (c+j)=(subK nonce key).getD j 0:=fun j hj=>by rw[rds_sat hsub j hj,Nat.zero_add,w4]
 have w7:N.a (A+7)=subK nonce key:=Eq.trans w7 (vs_map hs (subK_length _ _))
 have w6:N.a (A+6)=ctrN nonce:=Eq.trans w6 (vs_split (vs_map (L:=nonce.drop 16) (fun j hj=>by rw[Nat.add_assoc,hn _ (by omega),getD_dropK]) (by rw[List.length_drop];omega)) (zs_map 8) rfl)
 have w8:N.a (A+8)=fbL nonce key:=by
  have:N.a (A+8)=N.f.a 330 [] [N.a (A+5),N.a (A+6),N.a (A+7)]:=w8
  rw[this,hf,hF.a33s,w5,w6,w7];rfl
 refine ⟨?_,hs,fun j hj=>by rw[rds_sat hfb j hj,Nat.zero_add,w8]⟩
 show N.f.p 330 [] [N.a (A+5),N.a (A+6),N.a (A+7)]
 rw[hf,hF.p33s,w5,w6,w7]
 exact ctrN_drop ln
theorem take32 {n:Nat}(h:∀j,j<64→N.i (n+j)=(fbL nonce key).getD j 0):(vs n 32).map (·.ev N)=(fbL nonce key).take 32 :=
 vs_map (fun j hj=>by rw[h j (by omega),getD_takeK hj]) (by rw[List.length_take,fbL_length];rfl)
theorem tag_fits (h:16≤box.length):(box.take 16).length=16:=by rw[List.length_take];omega
theorem pre12_law (hF:F12 F)(hf:N.f=F){s:Nat}(hd:∀d∈pre12 s,d.sat N)(hl:N.i s=box.length)(hb:N.a s=box)(h16:16<box.length)(hB:Bytes box)(h8:box.length≤8192)
  (hn:∀j,j<24→N.i (1+s+j)=nonce.getD j 0) (hk:∀j,j<32→N.i (1+s+24+j)=key.getD j 0) (ln:nonce.length=24) (lk:key.length=32) :
  (∀ o∈obs12 s,o.holds N)∧N.i (156+s)=(if tagOf box nonce key=box.take 16 then 1 else 0)∧(∀ j,j<32→N.i (58+s+j)=(subK nonce key).getD j 0)∧∀j,j<64→N.i (90+s+j)=(fbL nonce key).getD j 0:=by
 unfold pre12 at hd
 rw[List.forall_mem_append,List.forall_mem_append] at hd
 obtain ⟨hd1,hd2,hd3⟩:=hd
 obtain ⟨g1,g2,g3⟩:=blk12_law hF hf hd2 hn hk ln lk
 have g3:∀j,j<64→N.i (90+s+j)=(fbL nonce key).getD j 0:=fun j hj=>by
  have:=g3 j hj
  rwa [show 58+s+32=90+s by omega] at this
 simp only[List.forall_mem_cons] at hd1 hd3
 obtain ⟨q156,w15,w14,w13,q155,w12,w11,w10,q154,-⟩:=hd1
 have w15:N.a (15+s)=(fbL nonce key).take 32:=Eq.trans w15 (take32 g3)
 simp only[Df.sat,Nd.ev,Ad.ev,Ar.ev,hl,hb] at q154 q155 w10 w12 w13 w14
 have q154:N.i (154+s)=16:=by rw[q154];rw[if_pos (by omega)]
 rw[q154] at w10
 have w10:N.a (10+s)=box.take 16:=w10
 have l10:=tag_fits (show 16≤box.length by omega)
 have w11:N.a (11+s)=List.replicate 16 0:=Eq.trans w11 (zs_map 16)
 have w12:N.a (12+s)=box.take 16:=by
  rw[w12,w10,w11,l10];simp
 have w13:N.a (13+s)=box.take 16:=by
  rw[w13,w12]
  show ((box.take 16).drop 0).take 16=_
  rw[List.drop_zero,List.take_of_length_le (by omega)]
 have w14:N.a (14+s)=box.drop 16:=by
  rw[w14,q155]
  show (box.drop 16).take _=_
  rw[List.take_of_length_le (by rw[List.length_drop];omega)]
 have q57:N.i (57+s)=0:=by
  have:N.i (57+s)=bif icmp .lss (N.i s) 16 then 1 else 0:=hd3.1
  rw[this,hl]
  simp only[icmp];rw[decide_eq_false (by omega)];rfl
 refine ⟨?_,?_,g2,g3⟩
 ·simp only[obs12,List.forall_mem_cons]
  refine ⟨?_,?_,?_,?_,?_,?_,?_,?_,?_,?_,?_,?_,?_,nofun⟩
  ·show N.f.p 23 [] [N.a (13+s),N.a (14+s),N.a (15+s)]
   rw[hf,hF.p23,w13,w14,w15]
   refine ⟨hB.take 16,hB.drop 16,?_,by rw[List.length_drop];omega⟩
   exact Bytes.take (xorL_bytes _ _ _) 32
  ·simp only[Ob.holds,Ar.ev,q155,hb];omega
  ·simp only[Ob.holds,Ar.ev,w12,l10];omega
  ·simp only[Ob.holds,Ar.ev,hl];omega
  ·simp only[Ob.holds,Ar.ev,hl];omega
  ·simp only[Ob.holds,Ar.ev,hl];omega
  ·simp only[Ob.holds,Ar.ev,q154,w11,List.length_replicate];omega
  ·simp only[Ob.holds,Ar.ev,q154];omega
  ·simp only[Ob.holds,Ar.ev,q154,hb];omega
  ·have:=g1
   rwa [show 1+s+5=6+s by omega,show 1+s+6=7+s by omega,show 1+s+7=8+s by omega] at this
  ·show N.f.p 31 [] _
   rw[hf];exact hF.p31 _ _
  ·simp only[Ob.holds,q57];rfl
  ·simp only[Ob.holds,Ar.ev,hl];omega
 ·have:N.i (156+s)=N.f.i 23 [] [N.a (13+s),N.a (14+s),N.a (15+s)] 0:=q156
  rw[this,hf,hF.i23,w13,w14,w15];rfl
theorem pre0_law (hF:F12 F)(hf:N.f=F){s:Nat}(hd:∀d∈pre0 s,d.sat N)(hl:N.i s=box.length)(hb:N.a s=box)(h16:box.length=16)(hB:Bytes box)
  (hn:∀j,j<24→N.i (1+s+j)=nonce.getD j 0) (hk:∀j,j<32→N.i (1+s+24+j)=key.getD j 0) (ln:nonce.length=24) (lk:key.length=32) :
  (∀ o∈obs0 s,o.holds N)∧N.i (155+s)=if tagOf box nonce key=box.take 16 then 1 else 0:=by
 unfold pre0 at hd
 rw[List.forall_mem_append,List.forall_mem_append] at hd
 obtain ⟨hd1,hd2,hd3⟩:=hd
 obtain ⟨g1,g2,g3⟩:=blk12_law hF hf hd2 hn hk ln lk
 have g3:∀j,j<64→N.i (90+s+j)=(fbL nonce key).getD j 0:=fun j hj=>by
  have:=g3 j hj
  rwa [show 58+s+32=90+s by omega] at this
 simp only[List.forall_mem_cons] at hd1 hd3
 obtain ⟨q155,w15,w14,w13,w12,w11,w10,q154,-⟩:=hd1
 have w15:N.a (15+s)=(fbL nonce key).take 32:=Eq.trans w15 (take32 g3)
 have w14:N.a (14+s)=[]:=w14
 have w11:N.a (11+s)=List.replicate 16 0:=Eq.trans w11 (zs_map 16)
 simp only[Df.sat,Nd.ev,Ad.ev,Ar.ev,hl,hb] at q154 w10 w12 w13 hd3
 have q154:N.i (154+s)=16:=by rw[q154];split <;> omega
 have w10:N.a (10+s)=box:=by
  rw[w10,q154]
  show box.take 16=_
  rw[List.take_of_length_le (by omega)]
 have w12:N.a (12+s)=box:=by rw[w12,w10,w11,h16];simp
 have w13:N.a (13+s)=box:=by
  rw[w13,w12]
  show box.take 16=_
  rw[List.take_of_length_le (by omega)]
 have e:box.drop 16=[]:=List.drop_of_length_le (by omega)
 have e2:box.take 16=box:=List.take_of_length_le (by omega)
 refine ⟨?_,?_⟩
 ·have o1:(Ob.prd 23 [] [13+s,14+s,15+s]).holds N:=by
   show N.f.p 23 [] [N.a (13+s),N.a (14+s),N.a (15+s)]
   rw[hf,hF.p23,w13,w14,w15]
   exact ⟨hB,nofun,Bytes.take (xorL_bytes _ _ _) 32,Nat.zero_le _⟩
  have o2:(Ob.prd 31 [] [1+s,2+s,3+s,4+s]).holds N:=by show N.f.p 31 [] _;rw[hf];exact hF.p31 _ _
  rw[show 1+s+5=6+s by omega,show 1+s+6=7+s by omega,show 1+s+7=8+s by omega] at g1
  simp only[obs0,List.forall_mem_cons]
  refine ⟨o1,?_,?_,?_,?_,?_,?_,?_,g1,o2,?_,?_,nofun⟩
  all_goals simp only[Ob.holds,Ar.ev,q154,hl,hb,w12,w11,List.length_replicate,hd3.1,icmp]
  all_goals first | omega | exact boo_false (decide_eq_false (by omega))
 ·have:N.i (155+s)=N.f.i 23 [] [N.a (13+s),N.a (14+s),N.a (15+s)] 0:=q155
  rw[this,hf,hF.i23,w13,w14,w15]
  unfold tagOf
  rw[e,e2];rfl
end
end Go.Proofs.Ytlcljhlijmombaa
