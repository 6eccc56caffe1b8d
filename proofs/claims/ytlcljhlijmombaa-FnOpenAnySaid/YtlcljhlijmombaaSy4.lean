/- The symbolic executor's operations are sound: append, copy, make. The symbolic executor's operations are sound: append, copy, make, joined. The symbolic executor's operations are sound: append. -/
import Derived.Test.YtlcljhlijmombaaSy3
import Derived.Deep.AppendSrc
import Derived.Laws.AppendOwn
namespace Go.Sy
section
variable {P:Program} {F:Fns} {N:Num} {E:Env} {σ σ':St} {n:Nat} {T:Tr SV} {a:Act} {v:Option SV} {dst:Option Tmp} {type:TypeId} {pos:String} {after:Array Edge} {guard:Option (Nat×Bool)}
theorem Pur.mkA (σ:St)(ad:Ad):Pur σ (σ.mkA ad):=⟨Ext.mkA σ ad,rfl,rfl,rfl⟩
theorem elemK_spec {e:TypeId}{k:IntKind}(h:elemK P e=some k):P.underlying e=some (.int k)∧∃i,P.info? e=some i∧i.size=1∧i.bytes≤8∧i.zero=some (.int k 0):=by
 unfold elemK at h
 split at h
 ·rename_i k0 i hu hi
  cases hc:(Nat.beq i.size 1&&Nat.ble i.bytes 8&&zeroIs i k0) with
  | false=>rw[hc] at h;cases h
  | true =>
   rw[hc] at h
   simp only[cond_true,Option.some.injEq] at h
   subst h
   simp only[Bool.and_eq_true] at hc
   obtain ⟨⟨h1,h2⟩,h3⟩:=hc
   refine ⟨hu,i,hi,Nat.eq_of_beq_eq_true h1,Nat.le_of_ble_eq_true h2,?_⟩
   unfold zeroIs at h3
   split at h3
   ·rename_i k' m hz
    simp only[Bool.and_eq_true] at h3
    rw[hz,kindB_eq h3.1,of_decide_eq_true h3.2]
   ·cases h3
 ·cases h
theorem elemK_size {e:TypeId}{k:IntKind}(h:elemK P e=some k):sizeB P e=some 1:=by
 obtain ⟨_,i,hi,hs,_⟩:=elemK_spec h
 simp[sizeB,hi,hs]
theorem rng_pur {k:IntKind}{b:Nat}{off m:Ar}{X:Nat}(h:σ.rng k b off m=some (X,σ')):Pur σ σ':=by
 unfold St.rng at h
 split at h
 ·split at h
  ·rename_i k' A g _
   cases hk:kindB k k' with
   | false=>rw[hk] at h;cases h
   | true=>rw[hk] at h;simp only[cond_true,Option.some.injEq,Prod.mk.injEq] at h;rw[←h.2];exact (Pur.ob _ _).trans (Pur.mkA _ _)
  ·split at h
   ·split at h
    ·simp only[Option.some.injEq,Prod.mk.injEq] at h;rw[←h.2];exact Pur.mkA _ _
    ·cases h
   ·split at h
    ·simp only[Option.some.injEq,Prod.mk.injEq] at h;rw[←h.2];exact ((Pur.mkA _ _).trans (Pur.ob _ _)).trans (Pur.mkA _ _)
    ·split at h
     ·split at h
      ·simp only[Option.some.injEq,Prod.mk.injEq] at h;rw[←h.2];exact ((Pur.mkA _ _).trans (Pur.ob _ _)).trans (Pur.mkA _ _)
      ·cases h
     ·cases h
 ·cases h
theorem sub_get {l:List Int}{o m j:Nat}{v:Int}(h:((l.drop o).take m)[j]? =some v):j<m∧l[o+j]? =some v:=by
 rw[List.getElem?_take] at h
 by_cases hj:j<m
 ·rw [if_pos hj,List.getElem?_drop] at h;exact ⟨hj,h⟩
 ·rw [if_neg hj] at h;cases h
theorem lit_cells {B:Bk}{k:IntKind}{o m s c:Nat}{l:List Ar}{arr:Array Value}(hg:B.arr=none)(hl:arsN B.cells k o m=some l)(hc:B.cont N E s c arr) :
  l.length=m∧∀j v,(l.map (·.ev N))[j]? =some v→arr[s+(o+j)]? =some (.int k v):=by
 obtain ⟨l1,l2⟩:=arsN_get hl
 refine ⟨l1,fun j v hj=> ?_⟩
 rw[List.getElem?_map,Option.map_eq_some_iff] at hj
 obtain ⟨y,hy,rfl⟩:=hj
 have hlt:j<m:=by
  rcases Nat.lt_or_ge j m with h | h
  ·exact h
  ·rw [List.getElem?_eq_none (by omega)] at hy;cases hy
 obtain ⟨sc,a',m1,m2,m3⟩:=l2 j hlt
 unfold Bk.cont at hc
 rw[hg] at hc
 obtain ⟨_,u,m4,m5⟩:=hc _ sc m1
 rw[hy] at m3
 simp only[Option.some.injEq] at m3
 subst m3
 rw[m4,ar_den m2 m5]
theorem rng_at {k:IntKind}{b:Nat}{off m:Ar}{X:Nat}{w:World}(h:σ.rng k b off m=some (X,σ'))(hH:Hold F N σ')(hw:BW N E σ.bks w) :
  ∃q s c,E.blk b=some (q,s,c)∧0≤off.ev N∧0≤m.ev N∧(N.a X).length=(m.ev N).toNat∧∀j v,(N.a X)[j]? =some v→w.cell? ⟨q,s+(off.ev N).toNat+j,none⟩=some (.int k v):=by
 unfold St.rng at h
 split at h
 ·rename_i B hB
  obtain ⟨q,s,c,arr,el,fz,g1,g2,g3,g4,g5⟩:=hw.at' b B hB
  have cell:∀o u,arr[s+o]? =some u→w.cell? ⟨q,s+o,none⟩=some u:=fun o u hu=>by simp[World.cell?,g2,hu]
  refine ⟨q,s,c,g1,?_⟩
  split at h
  ·rename_i k' A g hg
   cases hk:kindB k k' with
   | false=>rw[hk] at h;cases h
   | true =>
    have:=kindB_eq hk;subst this
    rw[hk] at h
    simp only[cond_true,Option.some.injEq,Prod.mk.injEq] at h
    obtain ⟨rfl,rfl⟩:=h
    have hX:N.a σ.na=_:=hH.mkA
    simp only[Ad.ev] at hX
    have hf:0≤off.ev N∧0≤m.ev N∧off.ev N+m.ev N≤(N.a A).length:=(Hold.of_ext (Ext.mkA _ _) hH).ob
    unfold Bk.cont at g5
    rw[hg] at g5
    refine ⟨hf.1,hf.2.1,?_,fun j v hj=> ?_⟩
    ·rw [hX,List.length_take,List.length_drop];omega
    ·rw [hX] at hj
     obtain ⟨_,hj⟩:=sub_get hj
     rw[Nat.add_assoc]
     exact cell _ _ (g5.1 _ _ hj)
  ·rename_i hg
   split at h
   ·rename_i o m'
    split at h
    ·rename_i l hl
     simp only[Option.some.injEq,Prod.mk.injEq] at h
     obtain ⟨rfl,rfl⟩:=h
     have hX:N.a σ.na=_:=hH.mkA
     simp only[Ad.ev] at hX
     obtain ⟨h1,h2⟩:=lit_cells hg hl g5
     refine ⟨Int.natCast_nonneg _,Int.natCast_nonneg _,?_,fun j v hj=> ?_⟩
     ·rw [hX,List.length_map,h1];rfl
     ·rw [hX] at hj
      rw[Nat.add_assoc]
      exact cell _ _ (h2 j v hj)
    ·cases h
   ·split at h
    ·rename_i l hl
     simp only[Option.some.injEq,Prod.mk.injEq] at h
     obtain ⟨rfl,rfl⟩:=h
     have hH1:=Hold.of_ext (Ext.mkA _ _) hH
     have hX:N.a (σ.na+1)=_:=hH.mkA
     have hY:N.a σ.na=_:=(Hold.of_ext (Ext.ob _ _) hH1).mkA
     simp only[Ad.ev] at hX hY
     have hf:0≤off.ev N∧0≤m.ev N∧off.ev N+m.ev N≤(N.a σ.na).length:=hH1.ob
     obtain ⟨h1,h2⟩:=lit_cells hg hl g5
     refine ⟨hf.1,hf.2.1,?_,fun j v hj=> ?_⟩
     ·rw [hX,List.length_take,List.length_drop];omega
     ·rw [hX] at hj
      obtain ⟨_,hj⟩:=sub_get hj
      rw[hY] at hj
      rw[Nat.add_assoc]
      have:=h2 _ v hj
      rw[Nat.zero_add] at this
      exact cell _ _ this
    ·split at h
     ·rename_i o
      split at h
      ·rename_i l hl
       simp only[Option.some.injEq,Prod.mk.injEq] at h
       obtain ⟨rfl,rfl⟩:=h
       have hH1:=Hold.of_ext (Ext.mkA _ _) hH
       have hX:N.a (σ.na+1)=_:=hH.mkA
       have hY:N.a σ.na=_:=(Hold.of_ext (Ext.ob _ _) hH1).mkA
       simp only[Ad.ev] at hX hY
       have hf:0≤(Ar.kst 0).ev N∧0≤m.ev N∧(Ar.kst 0).ev N+m.ev N≤(N.a σ.na).length:=hH1.ob
       have e0:(Ar.kst 0).ev N=0:=rfl
       rw[e0] at hf hX
       obtain ⟨h1,h2⟩:=lit_cells hg hl g5
       refine ⟨Int.natCast_nonneg _,hf.2.1,?_,fun j v hj=> ?_⟩
       ·rw [hX,List.length_take,List.length_drop];simp only[Int.toNat_zero];omega
       ·rw [hX] at hj
        obtain ⟨_,hj⟩:=sub_get hj
        rw[hY] at hj
        rw[Nat.add_assoc]
        simp only[Int.toNat_zero,Nat.zero_add] at hj
        exact cell _ _ (h2 _ v hj)
      ·cases h
     ·cases h
 ·cases h
theorem src_pur {k:IntKind}{tx:TypeId}{x:SV}{m:Ar}{X:Nat}(h:σ.src P k tx x=some (m,X,σ')):Pur σ σ':=by
 unfold St.src at h
 split at h
 ·split at h
  ·rename_i hr
   simp only[Option.some.injEq,Prod.mk.injEq] at h;rw[←h.2.2];exact rng_pur hr
  ·cases h
 ·simp only[Option.some.injEq,Prod.mk.injEq] at h;rw[←h.2.2];exact Pur.mkA _ _
 ·simp only[Option.some.injEq,Prod.mk.injEq] at h;rw[←h.2.2];exact Pur.mkA _ _
 ·cases hk:kindB k .u8 with
  | false=>rw[hk] at h;cases h
  | true=>rw[hk] at h;simp only[cond_true,Option.some.injEq,Prod.mk.injEq] at h;rw[←h.2.2];exact Pur.mkA _ _
 ·cases h
def intsV (k:IntKind)(l:List Int):List Value:=l.map (.int k ·)
theorem intsV_get {k:IntKind}{l:List Int}{j:Nat}{u:Value}(h:(intsV k l)[j]? =some u):∃v,l[j]? =some v∧u= .int k v:=by
 unfold intsV at h
 rw[List.getElem?_map,Option.map_eq_some_iff] at h
 obtain ⟨v,h1,h2⟩:=h
 exact ⟨v,h1,h2.symm⟩
theorem intsV_one {k:IntKind}{l:List Int}:∀u∈intsV k l,u.oneCell'=true:=by
 intro u hu
 unfold intsV at hu
 obtain ⟨_,_,rfl⟩:=List.mem_map.1 hu
 rfl
theorem intsV_ok {k:IntKind}{l:List Int}:∀u∈intsV k l,cellOk u=true:=by
 intro u hu
 unfold intsV at hu
 obtain ⟨_,_,rfl⟩:=List.mem_map.1 hu
 rfl
theorem src_at {k:IntKind}{tx:TypeId}{x:SV}{m:Ar}{X:Nat}{u:Value}{w:World}(h:σ.src P k tx x=some (m,X,σ'))(hx:x.den N E=some u)(hH:Hold F N σ')(hw:BW N E σ.bks w) :
  0≤m.ev N∧(N.a X).length=(m.ev N).toNat∧Src P 1 tx u (m.ev N).toNat (intsV k (N.a X)) w:=by
 unfold St.src at h
 split at h
 ·rename_i b off len cap e hu
  split at h
  ·rename_i X' σ1 hr
   simp only[Option.some.injEq,Prod.mk.injEq] at h
   obtain ⟨rfl,rfl,rfl⟩:=h
   obtain ⟨q,s,c,h1,h2,h3,h4,h5⟩:=rng_at hr hH hw
   obtain ⟨q',s',c',mm,g1,g2,g3,_⟩:=sl_den hx
   rw[h1] at g1
   simp only[Option.some.injEq,Prod.mk.injEq] at g1
   obtain ⟨rfl,rfl,rfl⟩:=g1
   subst g3
   refine ⟨h3,h4,Src.ofSlice w hu _ _ _ _ (by simp[intsV,h4]) (fun j u hj=> ?_) intsV_one⟩
   obtain ⟨v,hv,rfl⟩:=intsV_get hj
   rw[Addr.add_lit]
   exact h5 j v hv
  ·cases h
 ·rename_i c0 e hu
  simp only[Option.some.injEq,Prod.mk.injEq] at h
  obtain ⟨rfl,rfl,rfl⟩:=h
  have hX:N.a σ.na=_:=hH.mkA
  simp only[Ad.ev,List.map_nil] at hX
  have:=kst_den hx
  subst this
  rw[hX]
  exact ⟨Int.le_refl _,rfl,Src.ofNil w hu _⟩
 ·rename_i j e hu
  simp only[Option.some.injEq,Prod.mk.injEq] at h
  obtain ⟨rfl,rfl,rfl⟩:=h
  have hX:N.a σ.na=_:=hH.mkA
  simp only[Ad.ev,List.map_nil] at hX
  simp only[SV.den,V1.den,Sc.den] at hx
  split at hx
  ·rename_i aa cc hj
   simp only[Option.some.injEq] at hx
   subst hx
   rw[hX]
   refine ⟨Int.le_refl _,rfl,?_⟩
   cases aa with
   | none=>exact Src.ofNil w hu _
   | some ad=>exact Src.ofSlice w hu ad 0 _ [] rfl (fun j u hj=>by simp at hj) (fun _ h=>by cases h)
  ·cases hx
 ·rename_i s hu
  cases hk:kindB k .u8 with
  | false=>rw[hk] at h;cases h
  | true =>
   have:=kindB_eq hk;subst this
   rw[hk] at h
   simp only[cond_true,Option.some.injEq,Prod.mk.injEq] at h
   obtain ⟨rfl,rfl,rfl⟩:=h
   have hX:N.a σ.na=_:=hH.mkA
   simp only[Ad.ev] at hX
   have:=kst_den hx
   subst this
   have e:intsV .u8 (N.a σ.na)=byteCells s:=by
    rw[hX];simp[intsV,bytesL,byteCells,Ar.ev]
   rw[e]
   refine ⟨Int.natCast_nonneg _,?_,Src.ofString w hu s⟩
   rw[hX]
   simp only[bytesL,List.length_map,Array.length_toList,ev_kst,Int.toNat_natCast]
   rfl
 ·cases h
theorem wrtN_ext {b X:Nat}{k:IntKind}:∀ {m o j:Nat} {σ σ':St},St.wrtN b k X o j m σ=some σ'→Ext σ σ'
 | 0,o,j,σ,σ',h=>by simp only[St.wrtN,Option.some.injEq] at h;subst h;exact Ext.refl _
 | m+1,o,j,σ,σ',h=>by
  simp only[St.wrtN] at h
  split at h
  ·rename_i hs
   exact ((Ext.mk1 _ _).trans (store1_ext hs)).trans (wrtN_ext h)
  ·cases h
theorem drop_cons {l:List Int}{j:Nat}{x:Int}(h:l[j]? =some x):l.drop j=x::l.drop (j+1):=by
 obtain ⟨hlt,rfl⟩:=List.getElem?_eq_some_iff.1 h
 exact List.drop_eq_getElem_cons hlt
theorem wrtN_sound {b X q s c base i0:Nat}{k:IntKind}(hb:E.blk b=some (q,s,c)):∀ {m o j:Nat} {σ σ':St} {w:World},St.wrtN b k X o j m σ=some σ'→Hold F N σ'→BW N E σ.bks w→Inv E σ→o=base+j→(N.a X).length=j+m →
  ∃w',(storeCells ⟨q,s+base,none⟩ (intsV k ((N.a X).drop j)) j).run P w= .ok () w'∧Post N E σ w N E σ' w'
 | 0,o,j,σ,σ',w,h,hH,hw,hI,ho,hl=>by
  simp only[St.wrtN,Option.some.injEq] at h;subst h
  rw[List.drop_eq_nil_of_le (by omega)]
  exact ⟨w,rfl,Post.refl hI hw⟩
 | m+1,o,j,σ,σ',w,h,hH,hw,hI,ho,hl=>by
  simp only[St.wrtN] at h
  split at h
  ·rename_i σ1 hs
   have hH1:=Hold.of_ext (wrtN_ext h) hH
   have hp0:Post N E σ w N E (σ.mk1 (.rd X (.kst (.ofNat j)))) w:=Post.of_pur (Pur.mk1 _ _) hI hw
   have hn:N.i σ.nx=(N.a X).getD j 0:=(Hold.of_ext (store1_ext hs) hH1).mk1
   have hlt:j<(N.a X).length:=by omega
   have hx:(N.a X)[j]? =some (N.i σ.nx):=by rw[hn,List.getD_eq_getElem?_getD,List.getElem?_eq_getElem hlt];rfl
   obtain ⟨w1,h1,h2⟩:=store1_sound (P:=P) (u:= .int k (N.i σ.nx)) hs hH1 hb rfl hp0.bw hp0.inv
   obtain ⟨w2,h3,h4⟩:=wrtN_sound (base:=base) (i0:=i0) hb h hH h2.bw h2.inv (by omega) (by omega)
   refine ⟨w2,?_,(hp0.trans h2).trans h4⟩
   rw[drop_cons hx]
   simp only[intsV,List.map_cons,storeCells,Sem.run_bind]
   have e0:((Ar.kst (Int.ofNat o)).ev N).toNat=o:=rfl
   rw[e0] at h1
   rw[Addr.add_lit,show s+base+j=s+o by omega,h1]
   exact h3
  ·cases h
theorem wrtA_ext {b X:Nat}{off m:Ar}{k:IntKind}(h:σ.wrtA b off k X m=some σ'):Ext σ σ':=by
 unfold St.wrtA at h
 split at h
 ·rename_i B hB
  cases hrw:B.rw with
  | false=>rw[hrw] at h;cases h
  | true =>
   rw[hrw] at h
   simp only[cond_true] at h
   split at h
   ·rename_i k' A σ1 hA
    split at h
    ·split at h
     ·cases hk:kindB k k' with
      | false=>rw[hk] at h;cases h
      | true =>
       rw[hk] at h
       simp only[cond_true,Option.some.injEq] at h
       rw[←h]
       exact (toArr_ext hA).1.trans ⟨fun _ m=>List.mem_cons_of_mem _ m,fun _ m=>List.mem_cons_of_mem _ m,rfl,rfl,Nat.le_refl _⟩
     ·cases h
    ·cases h
   ·cases h
 ·cases h
theorem cpy_get {l x:List Int}{o j:Nat}{v:Int}(ho:o+x.length≤l.length)(h:(l.take o++x++l.drop (o+x.length))[j]? =some v) :
  (o≤j∧j<o+x.length∧x[j-o]? =some v)∨((j<o∨o+x.length≤j)∧l[j]? =some v):=by
 have ht:(l.take o).length=o:=by rw[List.length_take];omega
 rw[List.append_assoc,List.getElem?_append,ht] at h
 by_cases h1:j<o
 ·rw [if_pos h1,List.getElem?_take,if_pos h1] at h
  exact .inr ⟨.inl h1,h⟩
 ·rw [if_neg h1,List.getElem?_append] at h
  by_cases h2:j-o<x.length
  ·rw [if_pos h2] at h;exact .inl ⟨by omega,by omega,h⟩
  ·rw [if_neg h2,List.getElem?_drop,show o+x.length+(j-o-x.length)=j by omega] at h
   exact .inr ⟨.inr (by omega),h⟩
theorem wrtA_sound {b X q s c:Nat}{off m:Ar}{k:IntKind}{w:World}(h:σ.wrtA b off k X m=some σ')(hb:E.blk b=some (q,s,c))(hH:Hold F N σ')(hw:BW N E σ.bks w)(hI:Inv E σ)(hl:(N.a X).length=(m.ev N).toNat) :
  ∃w',(storeCells ⟨q,s+(off.ev N).toNat,none⟩ (intsV k (N.a X)) 0).run P w= .ok () w'∧Post N E σ w N E σ' w':=by
 unfold St.wrtA at h
 split at h
 ·rename_i B hB
  cases hrw:B.rw with
  | false=>rw[hrw] at h;cases h
  | true =>
   rw[hrw] at h
   simp only[cond_true] at h
   split at h
   ·rename_i k' A σ1 hA
    split at h
    ·rename_i B1 hB1
     split at h
     ·rename_i k2 A2 g hg
      cases hk:kindB k k' with
      | false=>rw[hk] at h;cases h
      | true =>
       rw[hk] at h
       have:=kindB_eq hk;subst this
       simp only[cond_true,Option.some.injEq] at h
       subst h
       have hH2:Hold F N σ1:=⟨hH.fns,fun d m=>hH.defs d (List.mem_cons_of_mem _ m),fun o m=>hH.obs o (List.mem_cons_of_mem _ m),hH.ins⟩
       obtain ⟨hp,B2,g',m1,m2,m3,_⟩:=toArr_sound hA hH2 hw hI hB hrw
       rw[hB1] at m1
       simp only[Option.some.injEq] at m1
       subst m1
       rw[hg] at m2
       simp only[Option.some.injEq,Prod.mk.injEq] at m2
       obtain ⟨rfl,rfl,rfl⟩:=m2
       have hin:0≤off.ev N∧0≤m.ev N∧off.ev N+m.ev N≤(N.a A2).length:=hH.obs (.fits off m A2) List.mem_cons_self
       have hset:N.a σ1.na=(N.a A2).take (off.ev N).toNat++N.a X++(N.a A2).drop ((off.ev N).toNat+(N.a X).length):=hH.defs (.a σ1.na (.cpy A2 off X)) List.mem_cons_self
       have hlen:(N.a σ1.na).length=(N.a A2).length:=by
        rw[hset];simp only[List.length_append,List.length_take,List.length_drop];omega
       obtain ⟨q',s',c',arr,el,fz,g1,g2,g3,g4,g5⟩:=hp.bw.at' b B1 hB1
       rw[hb] at g1
       simp only[Option.some.injEq,Prod.mk.injEq] at g1
       obtain ⟨rfl,rfl,rfl⟩:=g1
       have:=g3 m3
       subst this
       have hwl:(N.a A2).length≤B1.wid N c:=by
        simp only[Bk.wid,hg]
        cases g with
        | true=>exact Nat.le_max_right _ _
        | false=>exact Nat.le_refl _
       obtain ⟨w',arr',h1,h2,h3,h4,h5⟩:=run_storeCells_in (P:=P) (o:=s+(off.ev N).toNat) (i:=0) (vs:=intsV k2 (N.a X)) g2 (by simp only[intsV,List.length_map];omega) intsV_ok
       simp only[intsV,List.length_map,Nat.add_zero] at h4 h5
       refine ⟨w',h1,hp.trans (upd_post (B':={B1 with arr:=some (k2,σ1.na+1-1,g)}) hp.bw hp.inv hB1 m3 hb g2 h2 h3 (fun j hj=>h4 j (by omega)) m3 ?_ ?_ rfl rfl rfl rfl)⟩
       ·simp only[Bk.wid,hg,Nat.add_sub_cancel,hlen]
       ·unfold Bk.cont at g5 ⊢
        rw[hg] at g5
        simp only[Nat.add_sub_cancel,hlen] at g5 ⊢
        refine ⟨fun j y hj=> ?_,fun hg' j j1 j2=>by rw[h4 (s+j) (by omega)];exact g5.2 hg' j j1 j2⟩
        rw[hset] at hj
        rcases cpy_get (by omega) hj with ⟨j1,j2,j3⟩ | ⟨j1,j2⟩
        ·have:=h5 (j-(off.ev N).toNat) (.int k2 y) (by rw[List.getElem?_map,j3];rfl)
         rw[show s+(off.ev N).toNat+(j-(off.ev N).toNat)=s+j by omega] at this
         exact this
        ·rw [h4 (s+j) (by omega)]
         exact g5.1 j y j2
     ·cases h
    ·cases h
   ·cases h
 ·cases h
theorem wrtM_ext {B:Bk}{b X:Nat}{off m:Ar}{k:IntKind}(h:σ.wrtM B b off k X m=some σ'):Ext σ σ':=by
 unfold St.wrtM at h
 split at h
 ·split at h
  ·exact (((Ext.mkA _ _).trans (Ext.ob _ _)).trans (Ext.mkA _ _)).trans (wrtN_ext h)
  ·cases h
 ·cases h
theorem wrt_ext {b X:Nat}{off m:Ar}{k:IntKind}(h:σ.wrt b off k X m=some σ'):Ext σ σ':=by
 unfold St.wrt at h
 split at h
 ·split at h
  ·exact wrtN_ext h
  ·split at h
   ·rename_i h1
    simp only[Option.some.injEq] at h
    rw[←h];exact wrtA_ext h1
   ·exact wrtM_ext h
 ·cases h
theorem setCell_same {w:World}{q o:Nat}{arr:Array Value}{el:TypeId}{u:Value}(h:w.heap[q]? =some (.cells arr el (0,0)))(hu:arr[o]? =some u):w.setCell ⟨q,o,none⟩ u=w:=by
 have h1:(w.setCell ⟨q,o,none⟩ u).heap=w.heap:=by
  apply Array.ext_getElem?
  intro i
  have k:=Upd.setCell (w:=w) (off:=o) (u:=u) h
  by_cases hi:i=q
  ·subst hi
   rw[k.here,h]
   congr 2
   apply Array.ext_getElem?
   intro j
   rw[Array.getElem?_setIfInBounds]
   by_cases hj:o=j
   ·subst hj
    rw[if_pos rfl]
    split
    ·exact hu.symm
    ·rename_i hlt
     rw[Array.getElem?_eq_none (by omega)]
   ·rw [if_neg hj]
  ·exact k.oth i hi
 have h2:w.setCell ⟨q,o,none⟩ u={w with heap:=(w.setCell ⟨q,o,none⟩ u).heap}:=rfl
 rw[h2,h1]
theorem run_storeCells_same {q o:Nat}{el:TypeId}{w:World}{arr:Array Value}(h:w.heap[q]? =some (.cells arr el (0,0))):∀ {vs:List Value} {i:Nat},(∀ v∈vs,cellOk v=true)→(∀ j v,vs[j]? =some v→arr[o+i+j]? =some v) →
  (storeCells ⟨q,o,none⟩ vs i).run P w= .ok () w
 | [],i,_,_=>rfl
 | u::vs,i,hc,hv=>by
  have h0:arr[o+i]? =some u:=hv 0 u rfl
  have hlt:o+i<arr.size:=by
   rcases Nat.lt_or_ge (o+i) arr.size with h | h
   ·exact h
   ·rw [Array.getElem?_eq_none h] at h0;cases h0
  have hr:=run_store_in (P:=P) (u:=u) (o:=o+i) h hlt (hc u List.mem_cons_self)
  rw[setCell_same h h0] at hr
  simp only[storeCells,Sem.run_bind]
  rw[Addr.add_lit,hr]
  exact run_storeCells_same h (fun v hm=>hc v (List.mem_cons_of_mem _ hm)) (fun j v hj=>by
   rw[show o+(i+1)+j=o+i+(j+1) by omega];exact hv (j+1) v (by simpa using hj))
theorem run_storeCells_append {q o:Nat}:∀ {vs us:List Value} {i:Nat} {w w1:World},(storeCells ⟨q,o,none⟩ vs i).run P w= .ok () w1 →
  (storeCells ⟨q,o,none⟩ (vs++us) i).run P w=(storeCells ⟨q,o,none⟩ us (i+vs.length)).run P w1
 | [],us,i,w,w1,h=>by
  simp only[storeCells] at h
  injection h with _ h
  subst h
  rfl
 | v::vs,us,i,w,w1,h=>by
  simp only[storeCells,Sem.run_bind,List.cons_append] at h ⊢
  cases hs:(store ((⟨q,o,none⟩:Addr).add i) v).run P w with
  | ok x w2 =>
   rw[hs] at h
   simp only[Result.andThen] at h ⊢
   rw[run_storeCells_append h,List.length_cons,show i+1+vs.length=i+(vs.length+1) by omega]
  | _=>rw[hs] at h;simp only[Result.andThen,reduceCtorEq] at h
theorem wrtM_sound {B:Bk}{b X q s c:Nat}{off m:Ar}{k:IntKind}{w:World}(h:σ.wrtM B b off k X m=some σ')(hB:σ.bks.get b=some B)(hb:E.blk b=some (q,s,c))(hH:Hold F N σ')(hw:BW N E σ.bks w)(hI:Inv E σ)(hl:(N.a X).length=(m.ev N).toNat) :
  ∃w',(storeCells ⟨q,s+(off.ev N).toNat,none⟩ (intsV k (N.a X)) 0).run P w= .ok () w'∧Post N E σ w N E σ' w':=by
 unfold St.wrtM at h
 split at h
 ·rename_i o ho
  have hrw:B.rw=true:=by
   cases hr:B.rw with
   | true=>rfl
   | false=>rw[hr] at ho;cases ho
  rw[hrw] at ho
  obtain ⟨hg,rfl⟩:=cellAt_some ho
  have e0:((Ar.kst (Int.ofNat o)).ev N).toNat=o:=rfl
  rw[e0]
  split at h
  ·rename_i l hl2
   obtain ⟨q',s',c',arr,el,fz,g1,g2,g3,g4,g5⟩:=hw.at' b B hB
   rw[hb] at g1
   simp only[Option.some.injEq,Prod.mk.injEq] at g1
   obtain ⟨rfl,rfl,rfl⟩:=g1
   have hHs:=Hold.of_ext (wrtN_ext h) hH
   have hX:N.a (σ.na+1)=_:=hHs.mkA
   have hH1:=Hold.of_ext (Ext.mkA _ _) hHs
   have hY:N.a σ.na=_:=(Hold.of_ext (Ext.ob _ _) hH1).mkA
   have hf:0≤(Ar.kst 0).ev N∧0≤m.ev N∧(Ar.kst 0).ev N+m.ev N≤(N.a σ.na).length:=hH1.ob
   have e1:(Ar.kst 0).ev N=0:=rfl
   simp only[Ad.ev] at hX hY
   rw[e1] at hf hX
   obtain ⟨h1,h2⟩:=lit_cells hg hl2 g5
   simp only[Int.toNat_zero,List.take_zero,List.nil_append,Nat.zero_add] at hX
   have hlen:(N.a (σ.na+1)).length=l.length:=by
    rw[hX,List.length_append,List.length_drop,hY,List.length_map]
    rw[hY,List.length_map] at hf;omega
   have hp:Pur σ (((σ.mkA (.lit l)).ob (.fits (.kst 0) m σ.na)).mkA (.cpy σ.na (.kst 0) X)):=((Pur.mkA _ _).trans (Pur.ob _ _)).trans (Pur.mkA _ _)
   obtain ⟨w2,r1,r2⟩:=wrtN_sound (P:=P) (base:=o) (i0:=0) (j:=0) (by exact hb) h hH (by rw[hp.bks];exact hw) (hI.pur hp) rfl (by rw[hlen];omega)
   refine ⟨w2,?_,(Post.of_pur hp hI hw).trans r2⟩
   rw[List.drop_zero,hX] at r1
   have hsplit:intsV k (N.a X++(N.a σ.na).drop (N.a X).length)=intsV k (N.a X)++intsV k ((N.a σ.na).drop (N.a X).length):=by simp[intsV]
   rw[hsplit] at r1
   have:=g3 hrw
   subst this
   have hXl:(N.a X).length≤l.length:=by
    rw[hY,List.length_map] at hf;omega
   have hbnd:(N.a X).length=0∨s+o+(N.a X).length≤arr.size:=by
    rcases Nat.eq_zero_or_pos (N.a X).length with h0 | h0
    ·exact .inl h0
    ·right
     have hj:l.length-1<(l.map (·.ev N)).length:=by rw[List.length_map];omega
     have:=h2 (l.length-1) _ (List.getElem?_eq_getElem hj)
     have:s+(o+(l.length-1))<arr.size:=by
      rcases Nat.lt_or_ge (s+(o+(l.length-1))) arr.size with h | h
      ·exact h
      ·rw [Array.getElem?_eq_none h] at this;cases this
     omega
   rcases hbnd with h0 | hbnd
   ·have hx0:N.a X=[]:=List.length_eq_zero_iff.1 h0
    rw[hx0] at r1 ⊢
    have hsame:=run_storeCells_same (P:=P) (o:=s+o) g2 (vs:=intsV k ((N.a σ.na).drop ([]:List Int).length)) (i:=0) intsV_ok (fun j v hj=>by
     obtain ⟨y,hy,rfl⟩:=intsV_get hj
     simp only[List.length_nil,List.drop_zero] at hy
     rw[hY] at hy
     have:=h2 _ _ hy
     rw[show s+o+0+j=s+(o+j) by omega];exact this)
    have hnil:intsV k ([]:List Int)=[]:=rfl
    rw[hnil,List.nil_append,hsame] at r1
    injection r1 with _ r1
    subst r1
    rfl
   obtain ⟨w1,arr1,q1,q2,q3,q4,q5⟩:=run_storeCells_in (P:=P) (o:=s+o) (i:=0) (vs:=intsV k (N.a X)) g2 (by simp only[intsV,List.length_map];omega) intsV_ok
   simp only[intsV,List.length_map,Nat.add_zero] at q4 q5
   rw[run_storeCells_append q1] at r1
   have hsame:=run_storeCells_same (P:=P) (o:=s+o) q2.here (vs:=intsV k ((N.a σ.na).drop (N.a X).length)) (i:=(N.a X).length) intsV_ok (fun j v hj=>by
    obtain ⟨y,hy,rfl⟩:=intsV_get hj
    rw[List.getElem?_drop] at hy
    rw[q4 _ (by omega)]
    rw[hY] at hy
    have:=h2 _ _ hy
    rw[show s+o+(N.a X).length+j=s+(o+((N.a X).length+j)) by omega];exact this)
   rw[show 0+(intsV k (N.a X)).length=(N.a X).length by simp[intsV],hsame] at r1
   injection r1 with _ r1
   subst r1
   exact q1
  ·cases h
 ·cases h
theorem wrt_sound {b X q s c:Nat}{off m:Ar}{k:IntKind}{w:World}(h:σ.wrt b off k X m=some σ')(hb:E.blk b=some (q,s,c))(hH:Hold F N σ')(hw:BW N E σ.bks w)(hI:Inv E σ)(hl:(N.a X).length=(m.ev N).toNat) :
  ∃w',(storeCells ⟨q,s+(off.ev N).toNat,none⟩ (intsV k (N.a X)) 0).run P w= .ok () w'∧Post N E σ w N E σ' w':=by
 unfold St.wrt at h
 split at h
 ·rename_i B hB
  split at h
  ·rename_i o m' ho
   obtain ⟨_,rfl⟩:=cellAt_some ho
   have e0:((Ar.kst (Int.ofNat o)).ev N).toNat=o:=rfl
   rw[e0]
   have:=wrtN_sound (P:=P) (base:=o) (i0:=0) (j:=0) hb h hH hw hI rfl (by rw[hl];simp[Ar.ev])
   simpa using this
  ·split at h
   ·rename_i h1
    simp only[Option.some.injEq] at h
    subst h
    exact wrtA_sound h1 hb hH hw hI hl
   ·exact wrtM_sound h hB hb hH hw hI hl
 ·cases h
end
theorem Tr.get_erase {α:Type}:∀(t:Tr α) (k j:Nat),(t.erase k).get j=if j=k then none else t.get j
 | .nil,k,j=>by simp[Tr.erase,Tr.get]
 | .node v l r,k,j=>by
  unfold Tr.erase
  by_cases hk:k=0
  ·subst hk
   rw[nbeq_tt rfl]
   simp only[cond_true,Tr.get]
   by_cases hj:j=0
   ·subst hj;simp
   ·rw [nbeq_ff hj,if_neg hj];rfl
  ·rw [nbeq_ff hk]
   simp only[cond_false]
   by_cases ho:k%2=1
   ·rw [nbeq_tt ho]
    simp only[cond_true,Tr.get,Tr.get_erase l]
    by_cases hj:j=0
    ·subst hj;rw[if_neg (show ¬0=k by omega)];rfl
    ·rw [nbeq_ff hj]
     simp only[cond_false]
     by_cases hjo:j%2=1
     ·rw [nbeq_tt hjo]
      simp only[cond_true]
      by_cases e:j/2=k/2
      ·rw [if_pos e,if_pos (by omega)]
      ·rw [if_neg e,if_neg (by omega)]
     ·rw [nbeq_ff hjo,if_neg (show ¬j=k by intro e;subst e;exact hjo ho)];rfl
   ·rw [nbeq_ff ho]
    simp only[cond_false,Tr.get,Tr.get_erase r]
    by_cases hj:j=0
    ·subst hj;rw[if_neg (show ¬0=k by omega)];rfl
    ·rw [nbeq_ff hj]
     simp only[cond_false]
     by_cases hjo:j%2=1
     ·rw [nbeq_tt hjo,if_neg (show ¬j=k by intro e;subst e;exact ho hjo)];rfl
     ·rw [nbeq_ff hjo]
      simp only[cond_false]
      by_cases e:j/2-1=k/2-1
      ·rw [if_pos e,if_pos (by omega)]
      ·rw [if_neg e,if_neg (by omega)]
section
variable {P:Program} {F:Fns} {N:Num} {E:Env} {σ σ':St} {n:Nat} {T:Tr SV} {a:Act} {v:Option SV} {dst:Option Tmp} {type:TypeId} {pos:String} {after:Array Edge} {guard:Option (Nat×Bool)}
theorem BW.of_get {bks bks':Tr Bk}{w:World}(h:∀i B,bks'.get i=some B→bks.get i=some B)(k:BW N E bks w):BW N E bks' w :=
 ⟨fun i B e=>k.at' i B (h i B e),fun i i' B B' q s s' c c' h1 h2=>k.apart i i' B B' q s s' c c' (h i B h1) (h i' B' h2)⟩
theorem forget_post {w:World}(hI:Inv E σ)(hw:BW N E σ.bks w)(h:∀i B,σ'.bks.get i=some B→σ.bks.get i=some B)(hnb:σ'.nb=σ.nb)(hnv:σ'.nv=σ.nv)(hgl:σ'.gl=σ.gl):Post N E σ w N E σ' w :=
 ⟨⟨fun b hb=>hI.freshB b (by rw[←hnb];exact hb),fun j hj=>hI.freshV j (by rw[←hnv];exact hj),fun t sv e=>hI.glob t sv (by rw[←hgl];exact e)⟩,E.le_refl,hw.of_get h,Kept.refl _ _ _,
  fun i B' q s c h1 h2 h3 _=>⟨i,B',s,c,h i B' h1,h2,h3,Nat.le_refl _,Nat.le_refl _⟩⟩
theorem rename_post {w:World}{b q s c:Nat}{B:Bk}(hI:Inv E σ)(hw:BW N E σ.bks w)(hB:σ.bks.get b=some B)(hb:E.blk b=some (q,s,c))
  (h:∀i B',σ'.bks.get i=some B'→(i=σ.nb∧B'=B)∨(i≠σ.nb∧i≠b∧σ.bks.get i=some B')) (hnb:σ'.nb=σ.nb+1) (hnv:σ'.nv=σ.nv) (hgl:σ'.gl=σ.gl):Post N E σ w N (E.addB σ.nb (q,s,c)) σ' w:=by
 have hle:E.le (E.addB σ.nb (q,s,c)):=by
  refine ⟨fun b q h=> ?_,fun _ _ h=>h⟩
  have:b≠σ.nb:=fun e=>by rw[e,hI.freshB σ.nb (Nat.le_refl _)] at h;cases h
  simp only[Env.addB,nbeq_ff this,cond_false]
  exact h
 have hoth:∀i,i≠σ.nb→(E.addB σ.nb (q,s,c)).blk i=E.blk i:=fun i h=>by simp only[Env.addB,nbeq_ff h,cond_false]
 refine ⟨⟨fun i hi=> ?_,fun j hj=>hI.freshV j (by rw[←hnv];exact hj),fun t sv e=> ?_⟩,hle,⟨fun i B' e=> ?_,fun i i' B1 B2 q1 s1 s2 c1 c2 e1 e2 e3 e4 e5 e6=> ?_⟩,Kept.refl _ _ _,fun i B' q1 s1 c1 e1 e2 e3 _=> ?_⟩
 ·rw [hnb] at hi
  rw[hoth i (by omega)]
  exact hI.freshB i (by omega)
 ·obtain ⟨h1,b',c',h2,h3⟩:=hI.glob t sv (by rw[←hgl];exact e)
  exact ⟨h1,b',c',h2,hle.blk _ _ h3⟩
 ·rcases h i B' e with ⟨rfl,rfl⟩ | ⟨h1,_,h2⟩
  ·obtain ⟨q',s',c',arr,el,fz,g1,g2,g3,g4,g5⟩:=hw.at' b B' hB
   rw[hb] at g1
   simp only[Option.some.injEq,Prod.mk.injEq] at g1
   obtain ⟨rfl,rfl,rfl⟩:=g1
   exact ⟨_,_,_,arr,el,fz,Env.addB_self,g2,g3,g4,Bk.cont_mono hle g5⟩
  ·obtain ⟨q',s',c',arr,el,fz,g1,g2,g3,g4,g5⟩:=hw.at' i B' h2
   exact ⟨q',s',c',arr,el,fz,hle.blk _ _ g1,g2,g3,g4,Bk.cont_mono hle g5⟩
 ·rcases h i B1 e1 with ⟨rfl,rfl⟩ | ⟨h1,h1b,h2⟩ <;> rcases h i' B2 e2 with ⟨rfl,rfl⟩ | ⟨h3,h3b,h4⟩
  ·exact absurd rfl e3
  ·rw [Env.addB_self] at e4
   simp only[Option.some.injEq,Prod.mk.injEq] at e4
   obtain ⟨rfl,rfl,rfl⟩:=e4
   rw[hoth i' h3] at e5
   exact hw.apart b i' B1 B2 _ _ _ _ _ hB h4 (Ne.symm h3b) hb e5 e6
  ·rw [Env.addB_self] at e5
   simp only[Option.some.injEq,Prod.mk.injEq] at e5
   obtain ⟨rfl,rfl,rfl⟩:=e5
   rw[hoth i h1] at e4
   exact hw.apart i b B1 B2 _ _ _ _ _ h2 hB h1b e4 hb e6
  ·rw [hoth i h1] at e4
   rw[hoth i' h3] at e5
   exact hw.apart i i' B1 B2 _ _ _ _ _ h2 h4 e3 e4 e5 e6
 ·rcases h i B' e1 with ⟨rfl,rfl⟩ | ⟨h1,_,h2⟩
  ·rw [Env.addB_self] at e3
   simp only[Option.some.injEq,Prod.mk.injEq] at e3
   obtain ⟨rfl,rfl,rfl⟩:=e3
   exact ⟨b,B',_,_,hB,e2,hb,Nat.le_refl _,Nat.le_refl _⟩
  ·rw [hoth i h1] at e3
   exact ⟨i,B',s1,c1,h2,e2,e3,Nat.le_refl _,Nat.le_refl _⟩
theorem growBy_le {need:Nat}:∀(r c:Nat),c≤need+(need+768)/4→Builtin.growBy need r c≤need+(need+768)/4
 | 0,c,h=>h
 | r+1,c,h=>by
  unfold Builtin.growBy
  by_cases hc:c≥need
  ·rw [if_pos hc];exact h
  ·rw [if_neg hc];exact growBy_le r _ (by omega)
theorem nsc_le {need old:Nat}(h:old<need)(hn:need≤1099511627776):Builtin.nextslicecap need old≤4398046511104:=by
 unfold Builtin.nextslicecap
 split
 ·omega
 ·split
  ·omega
  ·have:=growBy_le (need:=need) 4 old (by omega)
   omega
theorem append_room {t tx ty e:TypeId}{i:TypeInfo}(ht:P.underlying t=some (.slice e))(hi:P.info? e=some i){ad:Addr}{sLen sCap m:Nat}{x:Value}{news:List Value}{w w':World}(hs:Src P i.size tx x m news w)
  (hroom:sLen+m≤sCap) (hst:(storeCells (ad.add (sLen*i.size)) news 0).run P w= .ok () w') :
  (Builtin.append_ #[t,tx] ty #[.slice (some ad) sLen sCap,x]).run P w= .ok (.slice (some ad) (sLen+m) sCap) w':=by
 rcases hs.kind with ⟨e',hk⟩ | hk <;> simp[Builtin.append_,run_underlying ht,run_underlying hk,sizeOf,typeInfo,hi,hs.len,hroom,hs.cells,hst]
theorem append_nothing {t tx ty e:TypeId}{i:TypeInfo}(ht:P.underlying t=some (.slice e))(hi:P.info? e=some i){base:Option Addr}{sLen sCap:Nat}{x:Value}{w:World}(hle:sLen≤sCap)(hs:Src P i.size tx x 0 [] w) :
  (Builtin.append_ #[t,tx] ty #[.slice base sLen sCap,x]).run P w= .ok (.slice base sLen sCap) w:=by
 rcases hs.kind with ⟨e',hk⟩ | hk <;> cases base <;> simp[Builtin.append_,run_underlying ht,run_underlying hk,sizeOf,typeInfo,hi,hs.len,hle,hs.cells,storeCells]
theorem zeroCells_get {k:IntKind}{m j:Nat}(h:j<m):(Builtin.zeroCells #[.int k 0] m)[j]? =some (.int k 0):=by
 simp[Builtin.zeroCells,h,Nat.mod_one]
theorem grow_sound {t tx ty e:TypeId}{k:IntKind}(ht:P.underlying t=some (.slice e))(he:elemK P e=some k){base:Option Addr}{sLen sCap m A:Nat}{x:Value}{news olds:List Value}{w:World}
  (hs:Src P 1 tx x m news w) (hold:(Builtin.firstCells 1 sLen (.slice base sLen sCap)).run P w.drew= .ok olds.toArray w.drew) (hg:sCap<sLen+m) (hn:sLen+m≤1099511627776)
  (hA:intsV k (N.a A)=olds++news) (hAl:(N.a A).length=sLen+m) (hI:Inv E σ) (hw:BW N E σ.bks w) :
  ∃c w',(Builtin.append_ #[t,tx] ty #[.slice base sLen sCap,x]).run P w= .ok (.slice (some ⟨w.heap.size,0,none⟩) (sLen+m) c) w'∧sLen+m≤c∧Post N E σ w N (E.addB σ.nb (w.heap.size,0,c)) (σ.newA k A true) w':=by
 obtain ⟨_,i,hi,hsz,hby,hz⟩:=elemK_spec he
 have hfit:Builtin.nextslicecap (sLen+m) sCap*i.bytes≤281474976710656:=by
  have h1:=nsc_le hg hn
  have h2:Builtin.nextslicecap (sLen+m) sCap*i.bytes≤4398046511104*8:=Nat.mul_le_mul h1 hby
  omega
 have hrun:=run_append_grow_src (P:=P) w t tx ty e i (.int k 0) ht hi hz base sLen sCap olds (by rw[hsz];exact hold) x m news (by rw[hsz];exact hs) hg (by omega) hfit
 have hge:=grownCap_ge w (sLen+m) sCap e
 refine ⟨_,_,hrun,hge,?_⟩
 generalize grownCap w (sLen+m) sCap e=c at hge ⊢
 have hsize:(olds++news).length=sLen+m:=by rw[←hA];simp[intsV,hAl]
 have hzc:(Value.int k 0).cells= #[.int k 0]:=rfl
 refine newBk_sound (B:={n:=0,rw:=true,cells:= .nil,arr:=some (k,A,true)}) (arr0:=(olds++news).toArray++Builtin.zeroCells #[.int k 0] (c-(sLen+m))) (t:=e) hw hI rfl rfl rfl rfl ?_ ?_ rfl rfl rfl rfl
 ·simp only[Bk.wid,cond_true,hAl,Array.size_append,List.size_toArray,hsize,size_zeroCells]
  have:Nat.max c (sLen+m)=c:=Nat.max_eq_left hge
  rw[this]
  simp
  omega
 ·simp only[Bk.cont]
  refine ⟨fun j y hj=> ?_,fun _ j h1 h2=> ?_⟩
  ·have hlt:j<sLen+m:=by
    rcases Nat.lt_or_ge j (sLen+m) with h | h
    ·exact h
    ·rw [List.getElem?_eq_none (by omega)] at hj;cases hj
   rw[Nat.zero_add,Array.getElem?_append]
   simp only[List.size_toArray,hsize,hlt,if_true]
   rw[←hA]
   simp[intsV,hj]
  ·rw [Nat.zero_add,Array.getElem?_append]
   rw[hAl] at h1
   simp only[List.size_toArray,hsize]
   rw[if_neg (by omega)]
   exact zeroCells_get (by omega)
theorem decide_pur {x y:Ar}{t:Bool}(h:σ.decide x y=some (t,σ')):Pur σ σ':=by
 unfold St.decide at h
 split at h
 ·simp only[Option.some.injEq,Prod.mk.injEq] at h;rw[←h.2];exact Pur.refl _
 ·exact ask_pur h
theorem Ext.newA (σ:St)(k:IntKind)(A:Nat)(g:Bool):Ext σ (σ.newA k A g):=⟨fun _ m=>m,fun _ m=>m,rfl,rfl,Nat.le_refl _⟩
theorem appendS_ext {k:IntKind}{tx:TypeId}{s x sv:SV}(h:appendS P k tx s x σ=some (sv,σ')):Ext σ σ':=by
 unfold appendS at h
 split at h
 ·split at h
  ·rename_i hsrc
   split at h
   ·rename_i hd
    split at h
    ·rename_i he
     simp only[Option.some.injEq,Prod.mk.injEq] at h
     rw[←h.2];exact (((src_pur hsrc).trans (decide_pur hd)).trans (eq_pur he)).ext
    ·cases h
   ·rename_i hd
    split at h
    ·rename_i σ3 he
     simp only[Option.some.injEq,Prod.mk.injEq] at h
     simp only[Option.bind_eq_some_iff] at he
     obtain ⟨σ2,h1,h2⟩:=he
     rw[←h.2];exact ((((src_pur hsrc).trans (decide_pur hd)).trans (lt_pur h1)).trans (le_pur h2)).ext.trans (Ext.newA _ _ _ _)
    ·cases h
   ·cases h
  ·cases h
 ·split at h
  ·rename_i hsrc
   split at h
   ·rename_i hd
    split at h
    ·rename_i he
     simp only[Option.some.injEq,Prod.mk.injEq] at h
     rw[←h.2];exact (((src_pur hsrc).trans (decide_pur hd)).trans (eq_pur he)).ext
    ·cases h
   ·rename_i hd
    split at h
    ·rename_i σ3 he
     simp only[Option.some.injEq,Prod.mk.injEq] at h
     simp only[Option.bind_eq_some_iff] at he
     obtain ⟨σ2,h1,h2⟩:=he
     rw[←h.2];exact ((((src_pur hsrc).trans (decide_pur hd)).trans (lt_pur h1)).trans (le_pur h2)).ext.trans (Ext.newA _ _ _ _)
    ·cases h
   ·cases h
  ·cases h
 ·split at h
  ·rename_i hsrc
   split at h
   ·rename_i σ2 hle
    simp only[Option.bind_eq_some_iff] at hle
    obtain ⟨σa,h1,h2⟩:=hle
    have p0:=((src_pur hsrc).trans (le_pur h1)).trans (le_pur h2)
    split at h
    ·rename_i hd
     split at h
     ·rename_i σ3 hwr
      simp only[Option.some.injEq,Prod.mk.injEq] at h
      simp only[Option.bind_eq_some_iff] at hwr
      obtain ⟨σ4,h3,h4⟩:=hwr
      rw[←h.2];exact ((((p0.trans lin_pur).trans (decide_pur hd)).trans (le_pur h3)).trans lin_pur).ext.trans (wrt_ext h4)
     ·cases h
    ·rename_i hd
     split at h
     ·rename_i σ3 hwr
      simp only[Option.bind_eq_some_iff] at hwr
      obtain ⟨σ4,h3,h4⟩:=hwr
      split at h
      ·rename_i O σ5 hr
       simp only[Option.some.injEq,Prod.mk.injEq] at h
       rw[←h.2];exact ((((((p0.trans lin_pur).trans (decide_pur hd)).trans (lt_pur h3)).trans (le_pur h4)).trans (rng_pur hr)).trans (Pur.mkA _ _)).ext.trans (Ext.newA _ _ _ _)
      ·cases h
     ·cases h
    ·cases h
   ·cases h
  ·cases h
 ·split at h
  ·rename_i m X σ1 hsrc
   split at h
   ·rename_i B hB
    split at h
    ·rename_i k' A hg
     generalize (kindB k k'&&B.rw)=bb at h
     cases bb with
     | false=>cases h
     | true =>
      simp only[cond_true] at h
      split at h
      ·rename_i σ2 hle
       simp only[Option.some.injEq,Prod.mk.injEq] at h
       rw[←h.2]
       have p1:=(((src_pur hsrc).trans (Pur.ob _ _)).trans lin_pur).trans (le_pur hle)
       exact p1.ext.trans ⟨fun _ m=>List.mem_cons_of_mem _ m,fun _ m=>m,rfl,rfl,Nat.le_refl _⟩
      ·cases h
    ·cases h
   ·cases h
  ·cases h
 ·cases h
end
section
variable {P:Program} {F:Fns} {N:Num} {E:Env} {σ σ':St} {n:Nat} {T:Tr SV} {a:Act} {v:Option SV} {dst:Option Tmp} {type:TypeId} {pos:String} {after:Array Edge} {guard:Option (Nat×Bool)}
theorem intsV_append {k:IntKind}{l m:List Int}:intsV k (l++m)=intsV k l++intsV k m:=by simp[intsV]
theorem intsV_nil {k:IntKind}:intsV k []=[]:=rfl
theorem newA_den {b q c:Nat}{len:Ar}(hl:(len.ev N).toNat≤c):(one (.sl b (.kst 0) len none)).den N (E.addB b (q,0,c))=some (.slice (some ⟨q,0,none⟩) (len.ev N).toNat c):=by
 have:=sl_mk (N:=N) (E:=E.addB b (q,0,c)) (b:=b) (off:= .kst 0) (len:=len) (cap:=none) Env.addB_self (Int.le_refl _) (fun _=>by rw[ev_kst];simpa using hl)
 simp only[one,SV.den,V1.den,this,capOf,ev_kst]
 simp
set_option maxHeartbeats 2000000 in
theorem appendS_sound {k:IntKind}{t tx ty e:TypeId}{s x sv:SV}{us ux:Value}{w:World}(h:appendS P k tx s x σ=some (sv,σ'))(ht:P.underlying t=some (.slice e))(he:elemK P e=some k)
  (hs:s.den N E=some us) (hx:x.den N E=some ux) (hH:Hold F N σ') (hI:Inv E σ) (hw:BW N E σ.bks w) :
  ∃E' w' u,(Builtin.append_ #[t,tx] ty #[us,ux]).run P w= .ok u w'∧Post N E σ w N E' σ' w'∧sv.den N E'=some u:=by
 obtain ⟨_,i,hi,hsz,hby,hz⟩:=elemK_spec he
 unfold appendS at h
 split at h
 ·
  have:=kst_den hs
  subst this
  split at h
  ·rename_i m X σ1 hsrc
   split at h
   ·rename_i σ2 hd
    split at h
    ·rename_i σ3 hq
     simp only[Option.some.injEq,Prod.mk.injEq] at h
     obtain ⟨rfl,rfl⟩:=h
     have hH2:=Hold.of_ext (eq_pur hq).ext hH
     have hH1:=Hold.of_ext (decide_pur hd).ext hH2
     obtain ⟨h1,h2,h3⟩:=src_at hsrc hx hH1 hw
     have h0:=eq_holds hq hH
     rw[ev_kst] at h0
     rw[h0] at h2 h3
     have hnil:N.a X=[]:=List.length_eq_zero_iff.1 h2
     rw[hnil] at h3
     refine ⟨E,w,_,append_nothing ht hi (Nat.le_refl _) (by rw[hsz];exact h3),Post.of_pur (((src_pur hsrc).trans (decide_pur hd)).trans (eq_pur hq)) hI hw,rfl⟩
    ·cases h
   ·rename_i σ2 hd
    split at h
    ·rename_i σ3 hq
     simp only[Option.some.injEq,Prod.mk.injEq] at h
     obtain ⟨rfl,rfl⟩:=h
     simp only[Option.bind_eq_some_iff] at hq
     obtain ⟨σ4,hq1,hq2⟩:=hq
     have hH3:Hold F N σ3:=⟨hH.fns,hH.defs,hH.obs,hH.ins⟩
     have hH4:=Hold.of_ext (le_pur hq2).ext hH3
     have hH2:=Hold.of_ext (lt_pur hq1).ext hH4
     have hH1:=Hold.of_ext (decide_pur hd).ext hH2
     obtain ⟨h1,h2,h3⟩:=src_at hsrc hx hH1 hw
     have g1:=lt_holds hq1 hH4
     have g2:=le_holds hq2 hH3
     rw[ev_kst] at g1 g2
     have hp:Post N E σ w N E σ3 w:=Post.of_pur ((((src_pur hsrc).trans (decide_pur hd)).trans (lt_pur hq1)).trans (le_pur hq2)) hI hw
     unfold most at g2
     obtain ⟨c,w',r1,r2,r3⟩:=grow_sound (σ:=σ3) (k:=k) (ty:=ty) (base:=none) (sLen:=0) (sCap:=0) (olds:=[]) (A:=X) ht he h3 (run_firstCells_none w.drew 1 0 0 0) (by omega) (by omega) rfl (by rw[h2];omega) hp.inv hp.bw
     refine ⟨_,w',_,r1,hp.trans r3,?_⟩
     rw[Nat.zero_add] at r2 ⊢
     exact newA_den r2
    ·cases h
   ·cases h
  ·cases h
 ·
  rename_i b off
  have hs':(Sc.sl b off (.kst (.ofNat 0)) (some (.kst (.ofNat 0)))).den N E=some us:=hs
  obtain ⟨q,s0,c,mm,hb,h0,rfl,hmm,_⟩:=sl_den hs'
  have e00:((Ar.kst (Int.ofNat 0)).ev N).toNat=0:=rfl
  simp only[capOf,e00] at hmm
  subst hmm
  rw[e00] at hs hs' ⊢
  split at h
  ·rename_i m X σ1 hsrc
   split at h
   ·rename_i σ2 hd
    split at h
    ·rename_i σ3 hq
     simp only[Option.some.injEq,Prod.mk.injEq] at h
     obtain ⟨rfl,rfl⟩:=h
     have hH2:=Hold.of_ext (eq_pur hq).ext hH
     have hH1:=Hold.of_ext (decide_pur hd).ext hH2
     obtain ⟨h1,h2,h3⟩:=src_at hsrc hx hH1 hw
     have h0:=eq_holds hq hH
     rw[ev_kst] at h0
     rw[h0] at h2 h3
     have hnil:N.a X=[]:=List.length_eq_zero_iff.1 h2
     rw[hnil] at h3
     refine ⟨E,w,_,append_nothing ht hi (Nat.le_refl _) (by rw[hsz];exact h3),Post.of_pur (((src_pur hsrc).trans (decide_pur hd)).trans (eq_pur hq)) hI hw,hs⟩
    ·cases h
   ·rename_i σ2 hd
    split at h
    ·rename_i σ3 hq
     simp only[Option.some.injEq,Prod.mk.injEq] at h
     obtain ⟨rfl,rfl⟩:=h
     simp only[Option.bind_eq_some_iff] at hq
     obtain ⟨σ4,hq1,hq2⟩:=hq
     have hH3:Hold F N σ3:=⟨hH.fns,hH.defs,hH.obs,hH.ins⟩
     have hH4:=Hold.of_ext (le_pur hq2).ext hH3
     have hH2:=Hold.of_ext (lt_pur hq1).ext hH4
     have hH1:=Hold.of_ext (decide_pur hd).ext hH2
     obtain ⟨h1,h2,h3⟩:=src_at hsrc hx hH1 hw
     have g1:=lt_holds hq1 hH4
     have g2:=le_holds hq2 hH3
     rw[ev_kst] at g1 g2
     have hp:Post N E σ w N E σ3 w:=Post.of_pur ((((src_pur hsrc).trans (decide_pur hd)).trans (lt_pur hq1)).trans (le_pur hq2)) hI hw
     unfold most at g2
     obtain ⟨c,w',r1,r2,r3⟩:=grow_sound (σ:=σ3) (k:=k) (ty:=ty) (base:=some ⟨q,s0+(off.ev N).toNat,none⟩) (sLen:=0) (sCap:=0) (olds:=[]) (A:=X) ht he h3 (run_firstCells_some w.drew 1 0 _ 0 0 [] rfl (fun j u hj=>by simp at hj)) (by omega) (by omega) rfl (by rw[h2];omega) hp.inv hp.bw
     refine ⟨_,w',_,r1,hp.trans r3,?_⟩
     rw[Nat.zero_add] at r2 ⊢
     exact newA_den r2
    ·cases h
   ·cases h
  ·cases h
 ·
  rename_i b off len cap _
  have hs':(Sc.sl b off len (some cap)).den N E=some us:=hs
  obtain ⟨q,s0,c,mm,hb,h0,rfl,hmm,_⟩:=sl_den hs'
  simp only[capOf] at hmm
  subst hmm
  split at h
  ·rename_i m X σ1 hsrc
   split at h
   ·rename_i σ2 hle
    simp only[Option.bind_eq_some_iff] at hle
    obtain ⟨σa,hl1,hl2⟩:=hle
    have p0:=((src_pur hsrc).trans (le_pur hl1)).trans (le_pur hl2)
    have facts:Hold F N σ2→0≤len.ev N∧len.ev N≤cap.ev N∧0≤m.ev N∧(N.a X).length=(m.ev N).toNat∧Src P 1 tx ux (m.ev N).toNat (intsV k (N.a X)) w:=fun hH2=>by
     have hHa:=Hold.of_ext (le_pur hl2).ext hH2
     have hH1:=Hold.of_ext (le_pur hl1).ext hHa
     obtain ⟨h1,h2,h3⟩:=src_at hsrc hx hH1 hw
     have g1:=le_holds hl1 hHa
     rw[ev_kst] at g1
     exact ⟨g1,le_holds hl2 hH2,h1,h2,h3⟩
    split at h
    ·rename_i σ3 hd
     split at h
     ·rename_i σ5 hwr
      simp only[Option.some.injEq,Prod.mk.injEq] at h
      obtain ⟨rfl,rfl⟩:=h
      simp only[Option.bind_eq_some_iff] at hwr
      obtain ⟨σ4,hq,hwr⟩:=hwr
      have hHl:=Hold.of_ext (wrt_ext hwr) hH
      have hH4:=Hold.of_ext lin_pur.ext hHl
      have hH3:=Hold.of_ext (le_pur hq).ext hH4
      have hHn:=Hold.of_ext (decide_pur hd).ext hH3
      have hH2:=Hold.of_ext lin_pur.ext hHn
      obtain ⟨g1,g2,g3,g4,g5⟩:=facts hH2
      have en:(lin len m 1 σ2).1.ev N=len.ev N+m.ev N*1:=lin_ev hHn
      have eo:(lin off len 1 σ4).1.ev N=off.ev N+len.ev N*1:=lin_ev hHl
      have gq:=le_holds hq hH4
      rw[en] at gq
      have p1:=(((p0.trans lin_pur).trans (decide_pur hd)).trans (le_pur hq)).trans (lin_pur (a:=off) (b:=len) (c:=1))
      have hp:Post N E σ w N E _ w:=Post.of_pur p1 hI hw
      obtain ⟨w',r1,r2⟩:=wrt_sound (P:=P) hwr hb hH hp.bw hp.inv g4
      refine ⟨E,w',_,append_room (sLen:=(len.ev N).toNat) (m:=(m.ev N).toNat) ht hi (by rw[hsz];exact g5) (by omega) (w':=w') ?_,hp.trans r2,?_⟩
      ·rw [hsz,Addr.add_lit,Nat.mul_one]
       rw[eo,show (off.ev N+len.ev N*1).toNat=(off.ev N).toNat+(len.ev N).toNat by omega,←Nat.add_assoc] at r1
       exact r1
      ·have:=sl_mk (N:=N) (E:=E) (b:=b) (off:=off) (len:=(lin len m 1 σ2).1) (cap:=some cap) hb h0 (fun e=>by cases e)
       simp only[one,SV.den,V1.den,this,capOf,en]
       rw[show (len.ev N+m.ev N*1).toNat=(len.ev N).toNat+(m.ev N).toNat by omega]
     ·cases h
    ·rename_i σ3 hd
     split at h
     ·rename_i σ5 hwr
      simp only[Option.bind_eq_some_iff] at hwr
      obtain ⟨σ4,hq1,hq2⟩:=hwr
      split at h
      ·rename_i O σ6 hr
       simp only[Option.some.injEq,Prod.mk.injEq] at h
       obtain ⟨rfl,rfl⟩:=h
       have hHc:Hold F N (σ6.mkA (.cat O X)):=⟨hH.fns,hH.defs,hH.obs,hH.ins⟩
       have hH6:=Hold.of_ext (Ext.mkA _ _) hHc
       have hH5:=Hold.of_ext (rng_pur hr).ext hH6
       have hH4:=Hold.of_ext (le_pur hq2).ext hH5
       have hH3:=Hold.of_ext (lt_pur hq1).ext hH4
       have hHn:=Hold.of_ext (decide_pur hd).ext hH3
       have hH2:=Hold.of_ext lin_pur.ext hHn
       obtain ⟨g1,g2,g3,g4,g5⟩:=facts hH2
       have en:(lin len m 1 σ2).1.ev N=len.ev N+m.ev N*1:=lin_ev hHn
       have gq1:=lt_holds hq1 hH4
       have gq2:=le_holds hq2 hH5
       rw[en] at gq1 gq2
       rw[ev_kst] at gq2
       unfold most at gq2
       have hcat:N.a σ6.na=N.a O++N.a X:=hHc.mkA
       have p5:=((((p0.trans lin_pur).trans (decide_pur hd)).trans (lt_pur hq1)).trans (le_pur hq2))
       have p1:=(p5.trans (rng_pur hr)).trans (Pur.mkA _ (.cat O X))
       have hp5:Post N E σ w N E σ5 w:=Post.of_pur p5 hI hw
       have hp:Post N E σ w N E (σ6.mkA (.cat O X)) w:=Post.of_pur p1 hI hw
       obtain ⟨q',s',c',k1,k2,k3,k4,k5⟩:=rng_at hr hH6 hp5.bw
       rw[hb] at k1
       simp only[Option.some.injEq,Prod.mk.injEq] at k1
       obtain ⟨rfl,rfl,rfl⟩:=k1
       obtain ⟨c2,w',r1,r2,r3⟩:=grow_sound (σ:=σ6.mkA (.cat O X)) (k:=k) (ty:=ty) (base:=some ⟨q,s0+(off.ev N).toNat,none⟩) (sLen:=(len.ev N).toNat) (sCap:=(cap.ev N).toNat) (olds:=intsV k (N.a O)) (A:=σ6.na) ht he g5
        (run_firstCells_some w.drew 1 _ _ _ _ _ (by simp[intsV,k4]) (fun j u hj=>by
         obtain ⟨y,hy,rfl⟩:=intsV_get hj
         rw[Addr.add_lit]
         simpa using k5 j y hy)) (by omega) (by omega) (by rw[hcat,intsV_append]) (by rw[hcat,List.length_append,k4,g4]) hp.inv hp.bw
       refine ⟨_,w',_,r1,hp.trans r3,?_⟩
       have e2:((lin len m 1 σ2).1.ev N).toNat=(len.ev N).toNat+(m.ev N).toNat:=by rw[en];omega
       have:=newA_den (N:=N) (E:=E) (b:=σ6.nb) (q:=w.heap.size) (c:=c2) (len:=(lin len m 1 σ2).1) (by rw[e2];exact r2)
       rw[e2] at this
       exact this
      ·cases h
     ·cases h
    ·cases h
   ·cases h
  ·cases h
 ·
  rename_i b len
  have hs':(Sc.sl b (.kst (.ofNat 0)) len none).den N E=some us:=hs
  obtain ⟨q,s0,c,mm,hb,h0,rfl,hmm,hc0⟩:=sl_den hs'
  have hc0:=hc0 rfl
  have e00:((Ar.kst (Int.ofNat 0)).ev N).toNat=0:=rfl
  rw[e00] at hc0
  have hmm:c=mm:=by rw[hmm];simp[capOf,ev_kst]
  subst hmm
  split at h
  ·rename_i m X σ1 hsrc
   split at h
   ·rename_i B hB
    split at h
    ·rename_i k' A hg
     cases hbb:(kindB k k'&&B.rw) with
     | false=>rw[hbb] at h;cases h
     | true =>
      rw[hbb] at h
      simp only[Bool.and_eq_true] at hbb
      have:=kindB_eq hbb.1;subst this
      have hrw:=hbb.2
      simp only[cond_true] at h
      split at h
      ·rename_i σ2 hle
       simp only[Option.some.injEq,Prod.mk.injEq] at h
       obtain ⟨rfl,rfl⟩:=h
       have p1:=(((src_pur hsrc).trans (Pur.ob _ (.lenA len A))).trans (lin_pur (a:=len) (b:=m) (c:=1))).trans (le_pur hle)
       have hH2:Hold F N σ2:=⟨hH.fns,fun d m=>hH.defs d (List.mem_cons_of_mem _ m),hH.obs,hH.ins⟩
       have hHn:=Hold.of_ext (le_pur hle).ext hH2
       have hHo:=Hold.of_ext lin_pur.ext hHn
       have hH1:=Hold.of_ext (Ext.ob _ _) hHo
       obtain ⟨g3,g4,g5⟩:=src_at hsrc hx hH1 hw
       have glen:len.ev N=(N.a A).length:=hHo.ob
       have en:(lin len m 1 (σ1.ob (.lenA len A))).1.ev N=len.ev N+m.ev N*1:=lin_ev hHn
       have gq:=le_holds hle hH2
       rw[en,ev_kst] at gq
       unfold most at gq
       have hcat:N.a σ2.na=N.a A++N.a X:=hH.defs (.a σ2.na (.cat A X)) List.mem_cons_self
       have hp:Post N E σ w N E σ2 w:=Post.of_pur p1 hI hw
       have hB2:σ2.bks.get b=some B:=by
        have e1:σ2.bks=σ.bks:=p1.bks
        have e2:σ1.bks=σ.bks:=(src_pur hsrc).bks
        rw[e1,←e2];exact hB
       obtain ⟨q',s',c',arr,el,fz,k1,k2,k3,k4,k5⟩:=hp.bw.at' b B hB2
       rw[hb] at k1
       simp only[Option.some.injEq,Prod.mk.injEq] at k1
       obtain ⟨e1,e2,e3⟩:=k1
       subst e1 e2 e3
       have:=k3 hrw
       subst this
       have elen:(len.ev N).toNat=(N.a A).length:=by omega
       have e2:((lin len m 1 (σ1.ob (.lenA len A))).1.ev N).toNat=(len.ev N).toNat+(m.ev N).toNat:=by rw[en];omega
       have hbn:b≠σ2.nb:=fun e=>by
        have:=hp.inv.freshB b (by omega)
        rw[hb] at this;cases this
       have getf:∀i B',((σ2.bks.erase b).set σ2.nb {n:=0,rw:=true,cells:= .nil,arr:=some (k,σ2.na,true)}).get i=some B'→(i=σ2.nb∧B'={n:=0,rw:=true,cells:= .nil,arr:=some (k,σ2.na,true)})∨(i≠σ2.nb∧i≠b∧σ2.bks.get i=some B'):=fun i B' e=>by
        rw[Tr.get_set] at e
        by_cases hi:i=σ2.nb
        ·rw [if_pos hi] at e;simp only[Option.some.injEq] at e;exact .inl ⟨hi,e.symm⟩
        ·rw [if_neg hi,Tr.get_erase] at e
         by_cases hib:i=b
         ·rw [if_pos hib] at e;cases e
         ·rw [if_neg hib] at e;exact .inr ⟨hi,hib,e⟩
       by_cases hroom:(len.ev N).toNat+(m.ev N).toNat≤c
       ·
        have hwid:B.wid N c=c:=by
         simp only[Bk.wid,hg,cond_true]
         exact Nat.max_eq_left (by omega)
        rw[hwid] at k4
        obtain ⟨w',arr',r1,r2,r3,r4,r5⟩:=run_storeCells_in (P:=P) (o:=s0+(len.ev N).toNat) (i:=0) (vs:=intsV k (N.a X)) k2 (by simp only[intsV,List.length_map,g4];omega) intsV_ok
        simp only[intsV,List.length_map,g4,Nat.add_zero] at r4 r5
        have hu:Post N E σ2 w N E {σ2 with bks:=σ2.bks.set b {n:=0,rw:=true,cells:= .nil,arr:=some (k,σ2.na,true)}} w':=by
         refine upd_post hp.bw hp.inv hB2 hrw hb k2 r2 r3 (fun j hj=>r4 j (by rw[hwid] at hj;omega)) rfl ?_ ?_ rfl rfl rfl rfl
         ·rw [hwid]
          simp only[Bk.wid,cond_true,hcat,List.length_append]
          exact Nat.max_eq_left (by omega)
         ·unfold Bk.cont at k5 ⊢
          rw[hg] at k5
          simp only[hcat,List.length_append]
          refine ⟨fun j y hj=> ?_,fun _ j j1 j2=>by rw[r4 (s0+j) (by omega)];exact k5.2 rfl j (by omega) j2⟩
          rw[List.getElem?_append] at hj
          by_cases hjl:j<(N.a A).length
          ·rw [if_pos hjl] at hj
           rw[r4 (s0+j) (by omega)]
           exact k5.1 j y hj
          ·rw [if_neg hjl] at hj
           have:=r5 (j-(N.a A).length) (.int k y) (by rw[List.getElem?_map,hj];rfl)
           rw[show s0+(len.ev N).toNat+(j-(N.a A).length)=s0+j by omega] at this
           exact this
        have hn:Post N E {σ2 with bks:=σ2.bks.set b {n:=0,rw:=true,cells:= .nil,arr:=some (k,σ2.na,true)}} w' N (E.addB σ2.nb (q,s0,c)) (({σ2 with bks:=σ2.bks.erase b}.mkA (.cat A X)).newA k σ2.na true) w' :=
         rename_post (b:=b) (B:={n:=0,rw:=true,cells:= .nil,arr:=some (k,σ2.na,true)}) hu.inv hu.bw (by simp[Tr.get_set]) hb (fun i B' e=>by
          rcases getf i B' e with h | ⟨h1,h2,h3⟩
          ·exact .inl h
          ·exact .inr ⟨h1,h2,by simp only[Tr.get_set];rw[if_neg h2];exact h3⟩) rfl rfl rfl
        refine ⟨_,w',_,append_room (sLen:=(len.ev N).toNat) (m:=(m.ev N).toNat) ht hi (by rw[hsz];exact g5) hroom (w':=w') ?_,(hp.trans hu).trans hn,?_⟩
        ·rw [hsz,Addr.add_lit,Nat.mul_one,e00,Nat.add_zero]
         exact r1
        ·have:=sl_mk (N:=N) (E:=E.addB σ2.nb (q,s0,c)) (b:=σ2.nb) (off:= .kst 0) (len:=(lin len m 1 (σ1.ob (.lenA len A))).1) (cap:=none) Env.addB_self (Int.le_refl _) (fun _=>by rw[e2,ev_kst];simpa using hroom)
         simp only[one,SV.den,V1.den,this,capOf,e2,ev_kst]
         simp
       ·
        have hf:Post N E σ2 w N E ({σ2 with bks:=σ2.bks.erase b}.mkA (.cat A X)) w:=forget_post hp.inv hp.bw (fun i B' e=>by
         simp only[St.mkA,Tr.get_erase] at e
         by_cases hib:i=b
         ·rw [if_pos hib] at e;cases e
         ·rw [if_neg hib] at e;exact e) rfl rfl rfl
        have hcell:∀j u,(intsV k (N.a A))[j]? =some u→w.drew.cell? ((⟨q,s0+0,none⟩:Addr).add j)=some u:=fun j u hj=>by
         obtain ⟨y,hy,rfl⟩:=intsV_get hj
         rw[Addr.add_lit,Nat.add_zero]
         unfold Bk.cont at k5
         rw[hg] at k5
         have:=k5.1 j y hy
         show w.cell? ⟨q,s0+j,none⟩=_
         simp[World.cell?,k2,this]
        obtain ⟨c2,w',r1,r2,r3⟩:=grow_sound (σ:={σ2 with bks:=σ2.bks.erase b}.mkA (.cat A X)) (k:=k) (ty:=ty) (base:=some ⟨q,s0+0,none⟩) (sLen:=(len.ev N).toNat) (sCap:=c) (olds:=intsV k (N.a A)) (A:=σ2.na) ht he g5
         (run_firstCells_some w.drew 1 _ _ _ _ _ (by simp[intsV];omega) hcell) (by omega) (by omega) (by rw[hcat,intsV_append]) (by rw[hcat,List.length_append];omega) hf.inv hf.bw
        refine ⟨_,w',_,r1,(hp.trans hf).trans r3,?_⟩
        have:=newA_den (N:=N) (E:=E) (b:=σ2.nb) (q:=w.heap.size) (c:=c2) (len:=(lin len m 1 (σ1.ob (.lenA len A))).1) (by rw[e2];exact r2)
        rw[e2] at this
        exact this
      ·cases h
    ·cases h
   ·cases h
  ·cases h
 ·cases h
end
end Go.Sy
