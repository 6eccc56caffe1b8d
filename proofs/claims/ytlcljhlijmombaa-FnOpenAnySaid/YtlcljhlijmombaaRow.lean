/- The row. -/
import Derived.Test.YtlcljhlijmombaaRows
import Derived.ProofKit
import Derived.OpenShut
import Derived.ChangeOld
import Derived.Below
import Derived.Test.YtlcljhlijmombaaY3
namespace Go.Proofs.Ytlcljhlijmombaa
open Go.Sy Go.ChangeShapes Go.WideShapes Go.ChangeAt Go.RowKit
theorem own:ownKnob Try.prog.godebug=none:=by kernel_rfl
theorem laidOut:laidOutB Try.prog=true:=by kernel_rfl
theorem cells5:Try.prog.cellsOf 5=1:=by kernel_rfl
theorem cells23:Try.prog.cellsOf 23=24:=by kernel_rfl
theorem cells24:Try.prog.cellsOf 24=32:=by kernel_rfl
theorem rowAt_le {P:Program}{fits:TypeId→Bool}{d:Nat}{e:TypeId}{count off n:Nat}(h:rowAt P fits d e count off n=true):off≤count*P.cellsOf e:=by
 cases d with
 | zero=>cases h
 | succ d =>
  unfold rowAt at h
  by_cases hs:P.cellsOf e=0
  ·simp only[hs,if_true] at h;cases h
  ·simp only[hs,if_false,Bool.or_eq_true,Bool.and_eq_true,beq_iff_eq,decide_eq_true_eq] at h
   have hd:=Nat.div_add_mod off (P.cellsOf e)
   rcases h with h | h
   ·obtain ⟨⟨h1,h2⟩,_⟩:=h
    have:P.cellsOf e*(off/P.cellsOf e)≤P.cellsOf e*count:=Nat.mul_le_mul_left _ (by omega)
    rw[Nat.mul_comm count];omega
   ·have h1:=h.1
    have:P.cellsOf e*(off/P.cellsOf e+1)≤P.cellsOf e*count:=Nat.mul_le_mul_left _ h1
    rw[Nat.mul_add,Nat.mul_one] at this
    have:=Nat.mod_lt off (Nat.pos_of_ne_zero hs)
    rw[Nat.mul_comm count];omega
theorem liesAt_le {P:Program}{e:TypeId}{count off:Nat}:∀ {d:Nat} {u:TypeId} {n:Nat},liesAt P d e count off u n=true→off≤count*P.cellsOf e
 | 0,_,_,h=>by cases h
 | d+1,u,n,h=>by
  unfold liesAt at h
  rw[Bool.or_eq_true] at h
  rcases h with h | h
  ·exact rowAt_le h
  ·split at h
   ·exact liesAt_le h
   ·cases h
theorem has_row {P:Program}{w:World}{r:Reach}{base:Nat}{a:Addr}{e:TypeId}{n:Nat}(h:World.has P w r base a e n):a.spot=none∧∃arr el fz,w.heap[a.block]? =some (.cells arr el fz)∧a.off≤arr.size:=by
 obtain ⟨-,hs,row,cells,h1,h2⟩:=h
 refine ⟨hs,?_⟩
 have h3:=liesAt_le h2
 have h4:=Nat.div_mul_le_self cells (P.cellsOf row)
 unfold World.shape? at h1
 split at h1
 ·rename_i arr el fz hq
  simp only[Option.some.injEq,Prod.mk.injEq] at h1
  exact ⟨arr,el,fz,hq,by omega⟩
 ·cases h1
def Came (w:World)(v:Value):Prop:=v=nilV∨∃q s c L,v= .slice (some ⟨q,s,none⟩) L.length c∧L.length≤c∧Bytes L∧Mem w q s .u8 L false
theorem came {H:Type}{enc:TypeId×Value→H}{P:Program}{W:World}{r:Reach}{base b0:Nat}{spare:Nat→Bool}{held:Bool}{t e:TypeId}{v:Value}{d:DataW H}{p:List MemPlace}(ht:P.underlying t=some (.slice e))(he:P.underlying e=some (.int .u8))(hc:P.cellsOf e=1)
  (hv:Value.okWide P W r b0 t v) (h:DataW.Trod enc P W base spare held t v d p):Came W v:=by
 obtain ⟨a,len,cap,rfl⟩:=okWide_slice ht hv
 obtain ⟨fuel,hf⟩:=h
 rcases open_ints ht he hc hf with ⟨hcs,_⟩ | ⟨x,l,c,zs,hcs,_,hl,hm,hz,_,hcell,hwz⟩
 ·simp [Value.cells] at hcs
  obtain ⟨rfl,rfl,rfl⟩:=hcs
  exact Or.inl rfl
 ·simp [Value.cells] at hcs
  obtain ⟨rfl,rfl,rfl⟩:=hcs
  have hv1:len≤cap∧(cap:Int)≤IntKind.i64.max∧World.has P W r b0 x e cap:=by
   simp only[Value.okWide,Cell.okWide,Cell.ok,ht] at hv
   exact hv
  obtain ⟨hs,arr,el,fz,hq,ho⟩:=has_row hv1.2.2
  obtain ⟨q,s,sp⟩:=x
  simp only at hs hq ho
  subst hs
  have hlz:len≤zs.length:=by rw[hz];split <;> omega
  have hlen:(zs.take len).length=len:=by rw[List.length_take];omega
  have hat:∀i,i<zs.length→arr[s+i]? =some (.int .u8 (zs.getD i 0)):=fun i hi=>by
   have:=hcell i hi
   rw[show (⟨q,s,none⟩:Addr).add i=⟨q,s+i,none⟩ by unfold Addr.add;split <;> simp_all,World.cell?] at this
   simp only[hq] at this
   exact this
  refine Or.inr ⟨q,s,cap,zs.take len,by rw[hlen],by rw[hlen];exact hl,fun n hn=> ?_,arr,el,fz,hq,nofun,?_,fun j v hj=> ?_⟩
  ·have:=bounds_u8 (hwz n (List.mem_of_mem_take hn))
   omega
  ·rw [hlen]
   rcases Nat.eq_zero_or_pos len with h0 | h0
   ·omega
   ·have:=hat (len-1) (by omega)
    have:=(Array.getElem?_eq_some_iff.1 this).1
    omega
  ·have hj2:j<len:=by
    have:=(List.getElem?_eq_some_iff.1 hj).1
    omega
   rw[List.getElem?_take_of_lt hj2] at hj
   rw[hat j (by omega),List.getD_eq_getElem?_getD,hj]
   rfl
theorem arrCame {H:Type}{enc:TypeId×Value→H}{P:Program}{W:World}{r:Reach}{base b0 n:Nat}{spare:Nat→Bool}{held:Bool}{t e:TypeId}{v:Value}{d:DataW H}{p:List MemPlace}(ht:P.underlying t=some (.array n e))(he:P.underlying e=some (.int .u8))(hc:P.cellsOf e=1)(hn:P.cellsOf t=n)
  (hv:Value.okWide P W r b0 t v) (h:DataW.Trod enc P W base spare held t v d p):∃L,v= .agg (intsV .u8 L).toArray∧L.length=n:=by
 simp only[Value.okWide,ht] at hv
 obtain ⟨cs,rfl,hsz,_⟩:=hv
 obtain ⟨fuel,hf⟩:=h
 obtain ⟨xs,m,-,-,hlen,hx,hall⟩:=DataW.trod_array ht hf
 have hcell:∀i,i<n→∃a,cs[i]? =some (.int .u8 a):=fun i hi=>by
  have h1:=hall i hi
  obtain ⟨y,hy⟩:∃y,xs[i]? =some y:=⟨_,List.getElem?_eq_getElem (by omega)⟩
  rw[hy,hc,Nat.mul_one] at h1
  obtain ⟨a,ea,-,-⟩:=DataW.trod_int he h1
  refine ⟨a,?_⟩
  have:((Value.cells (.agg cs)).toList.drop i).take 1=[.int .u8 a]:=ea
  have h2:(((Value.cells (.agg cs)).toList.drop i).take 1)[0]? =some (.int .u8 a):=by rw[this];rfl
  rw[List.getElem?_take_of_lt (by decide),List.getElem?_drop] at h2
  simpa [Value.cells] using h2
 refine ⟨cs.toList.map (fun v=>match v with | .int _ a=>a | _=>0),?_,by rw[List.length_map,Array.length_toList,hsz,hn]⟩
 have hl:intsV .u8 (cs.toList.map (fun v=>match v with | .int _ a=>a | _=>0))=cs.toList:=by
  apply List.ext_getElem?
  intro i
  simp only[intsV,List.map_map,List.getElem?_map,Array.getElem?_toList]
  by_cases hi:i<n
  ·obtain ⟨a,ha⟩:=hcell i hi
   rw[ha];rfl
  ·rw [Array.getElem?_eq_none (by omega)];rfl
 rw[hl]
theorem growBelow {w w':World}(h:Grow none w w'):RowKit.Below w.heap.size w w':=⟨h.os,h.tape,h.output,h.size,fun q hq=>h.old q hq nofun⟩
theorem said {a b:Pa}{w:World}{v0 v1:Value}{ls:List (List Int)}{ws:List (Option Win)}{nonce key:List Int}(hS:CSpec Try.prog FA 3 (ct3 a b))(hA:Args w (ct3 a b).ps [v0,v1,.agg (intsV .u8 nonce).toArray,.agg (intsV .u8 key).toArray] [] ls ws)(hW:ApartW ws)(hp:FA.p 3 [] ls)(hr:rwW (ct3 a b).ps ws=none)(hg:grW (ct3 a b).ps ws=none) :
  Calls Try.prog 3 #[v0,v1,.agg (intsV .u8 nonce).toArray,.agg (intsV .u8 key).toArray] w fun e w'=>e= .returned (.bool true)∧RowKit.Below w.heap.size w w':=by
 refine (hS _ _ _ _ _ hA hW hp).mono fun e w' ⟨u,he,w1,vs,sl,hu,h1,h2,h3,h4⟩=> ?_
 rw[hr] at h1
 rw[hg] at h2
 simp only at h1
 subst h1
 match vs,h4 with
 | [v],h4 =>
  obtain ⟨rfl,-⟩:=h4
  subst hu
  exact ⟨he,growBelow h2⟩
theorem walk {w:World}{v0 v1:Value}{nonce key:List Int}(h0:Came w v0)(h1:Came w v1)(ln:nonce.length=24)(lk:key.length=32) :
  Calls Try.prog 3 #[v0,v1,.agg (intsV .u8 nonce).toArray,.agg (intsV .u8 key).toArray] w fun e w'=>e= .returned (.bool true)∧RowKit.Below w.heap.size w w':=by
 have tail:Args w [.agg .u8 24,.agg .u8 32] [.agg (intsV .u8 nonce).toArray,.agg (intsV .u8 key).toArray] [] [nonce,key] [none,none]:= .agg ln (.agg lk .nil)
 rcases h0 with rfl | ⟨q,s,c,A,rfl,hc,hB,hm⟩ <;> rcases h1 with rfl | ⟨q1,s1,c1,B,rfl,hc1,hB1,hm1⟩
 ·exact said (spec3nn f8) (.kst rfl (.kst rfl tail)) trivial trivial rfl rfl
 ·exact said (spec3ns f8) (.kst rfl (.sl hm1 hc1 nofun tail)) ⟨fun y hy=>by simp at hy,trivial⟩ hB1 rfl rfl
 ·exact said (spec3sn f8) (.sl hm hc nofun (.kst rfl tail)) ⟨fun y hy=>by simp at hy,trivial⟩ hB rfl rfl
 ·refine said (spec3ss f8) (.sl hm hc nofun (.sl hm1 hc1 nofun tail)) ⟨fun y hy _ h=> ?_,fun y hy=>by simp at hy,trivial⟩ ⟨hB,hB1⟩ rfl rfl
  simp at hy
  subst hy
  rcases h with h | h <;> cases h
set_option maxRecDepth 100000 in
theorem lifted (os:Os)(started:os.Started)(H:Type)(enc:TypeId×Value→H) :
  ReturnsInHanded {} Try.checked os 3 .any (Rows.fnOpenAnySpec.pre6 enc Try.prog Try.f3 Rows.fnOpenAnyRow.domain false) (Rows.fnOpenAnySpec.post enc Try.prog Try.f3 false true false false):=by
 refine returnsInHanded_of_change (C:=Try.checked) own started (by kernel_rfl) Try.func3
  (ChangeSpec.witness6 (enc:=enc) (C:=Try.checked) false ⟨#[],#[.slice none 0 0,.slice none 0 0,.agg (Array.replicate 24 (.int .u8 0)),.agg (Array.replicate 32 (.int .u8 0))],[]⟩ 8 (by kernel_rfl) (by kernel_rfl) (by kernel_rfl) (by kernel_rfl)) ?_
 intro W base args ds gs before hval0 hW hcnd _
 have hval:∀(j:Nat) t v,Try.f3.params[j]? =some t→args[j]? =some v→Value.okWide Try.prog W .any base t v:=hval0
 have hW':=hW
 obtain ⟨p,q,hA0,hV,rfl,hfz,hnd⟩:=hW
 have hA:DataW.TrodAll enc Try.prog W 0 (fun _=>true) true Try.f3.params.toList args.toList ds p:=hA0
 rw[Try.params3] at hA hval
 obtain ⟨v0,vs0,d0,ds0,p0,q0,hargs,rfl,rfl,k0,r0⟩:=trodAll_cons hA
 obtain ⟨v1,vs1,d1,ds1,p1,q1,rfl,rfl,rfl,k1,r1⟩:=trodAll_cons r0
 obtain ⟨v2,vs2,d2,ds2,p2,q2,rfl,rfl,rfl,k2,r2⟩:=trodAll_cons r1
 obtain ⟨v3,vs3,d3,ds3,p3,q3,rfl,rfl,rfl,k3,r3⟩:=trodAll_cons r2
 obtain ⟨rfl,rfl,rfl⟩:=trodAll_nil r3
 obtain rfl:args= #[v0,v1,v2,v3]:=by cases args;simp_all
 obtain ⟨rfl,rfl⟩:=trodVars_none hV
 have c0:=came Try.underlying22 Try.underlying5 cells5 (hval 0 22 v0 rfl rfl) k0
 have c1:=came Try.underlying22 Try.underlying5 cells5 (hval 1 22 v1 rfl rfl) k1
 obtain ⟨nonce,rfl,ln⟩:=arrCame Try.underlying23 Try.underlying5 cells5 cells23 (hval 2 23 v2 rfl rfl) k2
 obtain ⟨key,rfl,lk⟩:=arrCame Try.underlying24 Try.underlying5 cells5 cells24 (hval 3 24 v3 rfl rfl) k3
 have lt0:∀x∈p0,x.block<W.heap.size:=by obtain ⟨m,hm⟩:=k0;exact DataW.trod_lt m _ _ _ hm
 have lt1:∀x∈p1,x.block<W.heap.size:=by obtain ⟨m,hm⟩:=k1;exact DataW.trod_lt m _ _ _ hm
 have lt2:∀x∈p2,x.block<W.heap.size:=by obtain ⟨m,hm⟩:=k2;exact DataW.trod_lt m _ _ _ hm
 have lt3:∀x∈p3,x.block<W.heap.size:=by obtain ⟨m,hm⟩:=k3;exact DataW.trod_lt m _ _ _ hm
 clear hA0 hval0
 refine (walk c0 c1 ln lk).mono fun e W' ⟨he,bel⟩=> ?_
 subst he
 exact ⟨_,rfl,_,_,_,[],_,[],hW',trodAll_mk1 (shut_bool Try.underlying4 _),
  (trodAll_cons_mk (Below.trod laidOut (by kernel_rfl) (of_decide_eq_true (by kernel_rfl)) k0 bel lt0) (trodAll_cons_mk (Below.trod laidOut (by kernel_rfl) (of_decide_eq_true (by kernel_rfl)) k1 bel lt1)
   (trodAll_cons_mk (Below.trod laidOut (by kernel_rfl) (of_decide_eq_true (by kernel_rfl)) k2 bel lt2) (trodAll_cons_mk (Below.trod laidOut (by kernel_rfl) (of_decide_eq_true (by kernel_rfl)) k3 bel lt3) trodAll_mk0)))),rfl,bel.frame _,fun h=>by cases h⟩
theorem over:Rows.fnOpenAnyRow.holds Try.pinned (OpenSpec.ofChange Rows.fnOpenAnySpec) :=
 OpenClaim.holds_of_wide 3 Try.f3 rfl rfl rfl rfl rfl rfl rfl ⟨rfl,rfl,rfl,rfl,rfl⟩ rfl rfl rfl rfl rfl (by kernel_rfl) Try.func3 (by kernel_rfl)
  (of_decide_eq_true (by kernel_rfl)) (by unfold Func.isWrapper;first | (rw [if_pos (by decide +kernel)];kernel_rfl) | (rw [if_neg (by decide +kernel)];exact ⟨rfl,rfl⟩))
  (fun os started H enc _=>lifted os started H enc)
theorem fnOpenAny_holds:Rows.FnOpenAnySaid:=over
#print axioms fnOpenAny_holds
end Go.Proofs.Ytlcljhlijmombaa
