/- A symbolic executor for Go code in the model, second make: numbers and lists of numbers by name, obligations (definitions alone). -/
import Derived.WalkKit
namespace Go
theorem aA.{u} :type_of% @Option.some.injEq.{u}:=@Option.some.injEq
theorem aC.{u_1} :type_of% @List.forall_mem_cons.{u_1}:=@List.forall_mem_cons
theorem aD.{u,v} :type_of% @Prod.mk.injEq.{u,v}:=@Prod.mk.injEq
theorem aE.{u_1} :type_of% @List.getD_eq_getElem?_getD.{u_1}:=@List.getD_eq_getElem?_getD
theorem aF:type_of% @Nat.eq_of_beq_eq_true:=@Nat.eq_of_beq_eq_true
theorem aG:type_of% @Bool.and_eq_true:=@Bool.and_eq_true
theorem aH.{u} {α:Sort u}(a b:α):cond true a b=a:=rfl
theorem aI.{u,v} :type_of% @List.map_cons.{u,v}:=@List.map_cons
theorem aJ.{u_1} :type_of% @List.mem_cons_of_mem.{u_1}:=@List.mem_cons_of_mem
theorem aK.{u,v} :type_of% @List.map_nil.{u,v}:=@List.map_nil
theorem aL.{u_1,u_2} :type_of% @Option.bind_eq_some_iff.{u_1,u_2}:=@Option.bind_eq_some_iff
theorem aM:type_of% @Nat.le_of_ble_eq_true:=@Nat.le_of_ble_eq_true
theorem aN.{u_1} :type_of% @List.mem_cons_self.{u_1}:=@List.mem_cons_self
theorem aO.{u} :type_of% @List.length_append.{u}:=@List.length_append
theorem aP.{u_1} :type_of% @List.getElem?_append_right.{u_1}:=@List.getElem?_append_right
theorem aQ.{u} {α:Sort u}(a b:α):cond false a b=b:=rfl
theorem aS:type_of% @Nat.le_refl:=@Nat.le_refl
theorem aT.{u_1} :type_of% @List.length_drop.{u_1}:=@List.length_drop
theorem aU.{u_1} :type_of% @List.getElem?_eq_getElem.{u_1}:=@List.getElem?_eq_getElem
theorem aV.{u_1,u_2} :type_of% @Option.map_eq_some_iff.{u_1,u_2}:=@Option.map_eq_some_iff
theorem aW.{u} :type_of% @List.length_replicate.{u}:=@List.length_replicate
theorem aX.{u_1} :type_of% @List.mem_singleton.{u_1}:=@List.mem_singleton
theorem aY{α β:Type}(a:α)(w:World)(f:α→World→Result β):(Result.ok a w).andThen f=f a w:=rfl
theorem aZ:type_of% @Int.eq_ofNat_of_zero_le:=@Int.eq_ofNat_of_zero_le
theorem bC.{u} :type_of% @if_neg.{u}:=@if_neg
theorem bD(n:Nat):Int.toNat (n:Int)=n:=rfl
theorem bE.{u_1} :type_of% @List.length_take.{u_1}:=@List.length_take
theorem bF.{u_1,u_2} :type_of% @List.length_map.{u_1,u_2}:=@List.length_map
theorem bG.{u} :type_of% @if_pos.{u}:=@if_pos
theorem bH:type_of% @Sem.run_bind:=@Sem.run_bind
theorem bI.{u_1} :type_of% @List.getElem?_eq_none.{u_1}:=@List.getElem?_eq_none
theorem bJ.{u} :type_of% @List.append_nil.{u}:=@List.append_nil
theorem bK:type_of% @Int.le_refl:=@Int.le_refl
theorem bL:type_of% @Nat.lt_or_ge:=@Nat.lt_or_ge
theorem bM:type_of% @Nat.zero_add:=@Nat.zero_add
theorem bN:type_of% @Int.emod_eq_of_lt:=@Int.emod_eq_of_lt
theorem bO.{u_1} :type_of% @List.take_of_length_le.{u_1}:=@List.take_of_length_le
theorem bP.{u_1,u_2} :type_of% @List.getElem?_map.{u_1,u_2}:=@List.getElem?_map
theorem bQ.{u_1} :type_of% @List.getElem?_append_left.{u_1}:=@List.getElem?_append_left
theorem bR:type_of% @Nat.add_sub_cancel_left:=@Nat.add_sub_cancel_left
theorem bS:type_of% @decide_eq_true:=@decide_eq_true
theorem bT.{u_1} :type_of% @List.all_eq_true.{u_1}:=@List.all_eq_true
theorem bU.{u} {α:Type u}{a:α}{l:List α}:(a::l).length=l.length+1:=rfl
theorem bV:type_of% @Bool.false_eq_true:=@Bool.false_eq_true
theorem bW.{u} :type_of% @List.drop_zero.{u}:=@List.drop_zero
theorem bX:type_of% @Nat.blt_eq:=@Nat.blt_eq
theorem bY{α:Type}(P:Program)(w:World)(a:α):Sem.run P (pure a) w=.ok a w:=rfl
theorem bZ:type_of% @decide_eq_false:=@decide_eq_false
theorem cB.{u_1} :type_of% @List.forall_mem_append.{u_1}:=@List.forall_mem_append
theorem cC.{u} {α:Type u}(l:List α):[]++l=l:=rfl
theorem cD.{u_1} :type_of% @List.mem_cons.{u_1}:=@List.mem_cons
theorem cE:type_of% @List.mem_range:=@List.mem_range
theorem cF.{u_1} :type_of% @List.drop_of_length_le.{u_1}:=@List.drop_of_length_le
theorem cG:type_of% @Int.lt_of_le_of_lt:=@Int.lt_of_le_of_lt
theorem cH.{u_1} :type_of% @List.getElem?_drop.{u_1}:=@List.getElem?_drop
theorem cI.{u_1} :type_of% @List.length_eq_zero_iff.{u_1}:=@List.length_eq_zero_iff
theorem cJ(n:Nat):n+0=n:=rfl
theorem cL:type_of% @List.getElem?_range:=@List.getElem?_range
theorem cM:type_of% @of_decide_eq_true:=@of_decide_eq_true
theorem cQ.{u_1} :type_of% @Array.getElem?_eq_none.{u_1}:=@Array.getElem?_eq_none
theorem cR:type_of% @Int.natCast_nonneg:=@Int.natCast_nonneg
theorem cS.{u_1} :type_of% @List.take_length.{u_1}:=@List.take_length
theorem cT.{u} {α:Type u}{a:α}{l m:List α}:a::l++m=a::(l++m):=rfl
theorem cU.{u_1} :type_of% @Array.getElem?_setIfInBounds_ne.{u_1}:=@Array.getElem?_setIfInBounds_ne
theorem cV:type_of% @List.length_range:=@List.length_range
theorem cW.{u_1,u_2} :type_of% @List.map_congr_left.{u_1,u_2}:=@List.map_congr_left
theorem cX.{u_1} :type_of% @List.mem_append.{u_1}:=@List.mem_append
theorem cY.{u_1} :type_of% @List.getElem?_take_of_lt.{u_1}:=@List.getElem?_take_of_lt
theorem cZ.{u_1,u_2,u_3} :type_of% @List.map_map.{u_1,u_2,u_3}:=@List.map_map
theorem dA.{u_1} :type_of% @List.ext_getElem?.{u_1}:=@List.ext_getElem?
theorem dC.{u_1,u_2} :type_of% @List.mem_map.{u_1,u_2}:=@List.mem_map
theorem dD:type_of% @Nat.add_assoc:=@Nat.add_assoc
theorem dF.{u} :type_of% @Eq.trans.{u}:=@Eq.trans
theorem dG.{u_1,u_2} :type_of% @List.mem_map_of_mem.{u_1,u_2}:=@List.mem_map_of_mem
theorem dH:type_of% @Int.lt_trans:=@Int.lt_trans
theorem dI.{u_1} :type_of% @List.mem_of_getElem?.{u_1}:=@List.mem_of_getElem?
theorem dJ:type_of% @Int.add_zero:=@Int.add_zero
theorem dK:type_of% @Nat.zero_le:=@Nat.zero_le
theorem dL:type_of% @decide_eq_true_eq:=@decide_eq_true_eq
theorem dM.{u_1} :type_of% @List.getElem?_take.{u_1}:=@List.getElem?_take
theorem dN:type_of% @Nat.lt_of_lt_of_le:=@Nat.lt_of_lt_of_le
theorem dO.{u_1} :type_of% @List.take_left'.{u_1}:=@List.take_left'
theorem dP.{u} :type_of% @Option.some.inj.{u}:=@Option.some.inj
theorem dQ.{u_1} :type_of% @List.mem_of_mem_take.{u_1}:=@List.mem_of_mem_take
theorem dS.{u_1} :type_of% @List.drop_eq_getElem_cons.{u_1}:=@List.drop_eq_getElem_cons
theorem dT:type_of% @Int.mul_comm:=@Int.mul_comm
theorem dU:type_of% @Nat.eq_zero_or_pos:=@Nat.eq_zero_or_pos
theorem dV.{u} {α:Type u}:([]:List α).length=0:=rfl
theorem dW:type_of% @Int.mul_assoc:=@Int.mul_assoc
theorem dX.{u_1} :type_of% @List.not_mem_nil.{u_1}:=@List.not_mem_nil
theorem dY.{u,v} {α:Type u}{β:Type v}(a:α)(f:α→Option β):(some a).bind f=f a:=rfl
theorem dZ.{u} {α:Type u}{a b:α}:(some a).getD b=a:=rfl
theorem eF.{u} :type_of% @List.mem_append_right.{u}:=@List.mem_append_right
theorem eG.{u} {α:Type u}{a:α}{l:List α}:(a::l)[0]? =some a:=rfl
theorem eH.{u_1} :type_of% @List.getElem?_replicate.{u_1}:=@List.getElem?_replicate
theorem eI:type_of% @Int.emod_lt_of_pos:=@Int.emod_lt_of_pos
theorem eJ.{u} :type_of% @List.mem_append_left.{u}:=@List.mem_append_left
theorem eM:type_of% @Bool.or_eq_true:=@Bool.or_eq_true
theorem eP.{u_1} :type_of% @List.mem_reverse.{u_1}:=@List.mem_reverse
end Go
