/- The symbolic executor's operations are sound: those that leave memory alone, joined; what they do to the state. The symbolic executor's operations are sound: those that write, those that make memory. The symbolic executor's operations are sound, all together. -/
import Derived.Test.YtlcljhlijmombaaSy2
namespace Go.Sy
section
variable {P:Program} {F:Fns} {N:Num}
variable {E:Env} {σ σ':St} {n:Nat} {T:Tr SV} {a:Act} {v:Option SV} {dst:Option Tmp} {type:TypeId} {pos:String} {after:Array Edge} {guard:Option (Nat×Bool)}
theorem q_len {args:Array Operand}{argTypes:Array TypeId}(h:op1 P T σ (.call {callee:= .builtin .len,args,argTypes})=some (v,σ'))(hA:RA N E n T a)(hI:Inv E σ)(hH:Hold F N σ') :
  QuietC P N E σ ⟨dst,.call {callee:= .builtin .len,args,argTypes},type,pos,after,guard⟩ a v σ' (fun _=>True):=by
 simp only[op1] at h
 split at h
 ·rename_i x t hx ht
  obtain ⟨args⟩:=args
  obtain ⟨argTypes⟩:=argTypes
  simp only at hx ht
  subst hx;subst ht
  have run:∀w,(execOp a.eval ⟨dst,.call {callee:= .builtin .len,args:=⟨[x]⟩,argTypes:=⟨[t]⟩},type,pos,after,guard⟩).run P w =
    ((Builtin.len_ #[t] type #[a.eval x]).run P w).andThen fun u w=> .ok (.value u) w:=fun w=>by
   simp[execOp,resolve,invoke,builtin]
  split at h
  ·rename_i b off len cap el hx ht
   obtain ⟨q,s,c,m,hb,h0,e,_⟩:=sl_den (evalO_den hA hx)
   have fin:∀ {σ1:St},σ.le (.kst 0) len=some σ1→Hold F N σ1→∀w,(execOp a.eval ⟨dst,.call {callee:= .builtin .len,args:=⟨[x]⟩,argTypes:=⟨[t]⟩},type,pos,after,guard⟩).run P w= .ok (.value (.int .i64 (len.ev N))) w:=fun {σ1} h1 hH1 w=>by
    have:=le_holds h1 hH1
    rw[ev_kst] at this
    rw[run]
    simp[Builtin.len_,e,run_underlying ht,goInt,Int.toNat_of_nonneg this]
   split at h
   ·rename_i m'
    split at h
    ·rename_i σ1 h1
     simp only[Option.some.injEq,Prod.mk.injEq] at h
     obtain ⟨rfl,rfl⟩:=h
     exact quiet_pur hI (le_pur h1) rfl fun w _=>fin h1 hH w
    ·cases h
   ·rename_i y
    split at h
    ·rename_i σ1 h1
     simp only[Option.some.injEq,Prod.mk.injEq] at h
     obtain ⟨rfl,rfl⟩:=h
     exact quiet_pur hI (le_pur h1) rfl fun w _=>fin h1 hH w
    ·cases h
  ·rename_i j el hx ht
   have hd:=evalO_den hA hx
   simp only[SV.den,V1.den,Sc.den] at hd
   split at hd
   ·rename_i aa cc hj
    simp only[Option.some.injEq] at hd
    exact quiet_same hI h (u:= .int .i64 0) rfl fun w _=>by rw[run];simp[Builtin.len_,←hd,run_underlying ht,goInt]
   ·cases hd
  ·rename_i m cc el hx ht
   have e:=kst_den (evalO_den hA hx)
   exact quiet_same hI h (u:= .int .i64 m) rfl fun w _=>by rw[run];simp[Builtin.len_,e,run_underlying ht,goInt]
  ·rename_i m el hx ht
   exact quiet_same hI h (u:= .int .i64 m) rfl fun w _=>by rw[run];simp[Builtin.len_,run_underlying ht,goInt]
  ·rename_i s hx ht
   have e:=kst_den (evalO_den hA hx)
   exact quiet_same hI h (u:= .int .i64 s.size) rfl fun w _=>by rw[run];simp[Builtin.len_,e,run_underlying ht,goInt]
  ·rename_i p hx ht
   split at h
   ·rename_i m el ht'
    exact quiet_same hI h (u:= .int .i64 m) rfl fun w _=>by rw[run];simp[Builtin.len_,run_underlying ht,run_underlying ht',goInt]
   ·cases h
  ·cases h
 ·cases h
theorem q_min {args:Array Operand}{argTypes:Array TypeId}(h:op1 P T σ (.call {callee:= .builtin .min,args,argTypes})=some (v,σ'))(hA:RA N E n T a)(hI:Inv E σ)(hH:Hold F N σ') :
  QuietC P N E σ ⟨dst,.call {callee:= .builtin .min,args,argTypes},type,pos,after,guard⟩ a v σ' (fun _=>True):=by
 simp only[op1] at h
 split at h
 ·rename_i x y hx
  obtain ⟨args⟩:=args
  simp only at hx
  subst hx
  have run:∀w,(execOp a.eval ⟨dst,.call {callee:= .builtin .min,args:=⟨[x,y]⟩,argTypes:=argTypes},type,pos,after,guard⟩).run P w =
    ((Builtin.min2 (a.eval x) (a.eval y)).run P w).andThen fun u w=> .ok (.value u) w:=fun w=>by
   simp[execOp,resolve,invoke,builtin,Builtin.min_]
  split at h
  ·rename_i x' y' hx hy
   split at h
   ·rename_i k a' k' b' hxa hya
    have e1:=ar_den hxa (evalO_den hA hx)
    have e2:=ar_den hya (evalO_den hA hy)
    cases hk:kindB k k' with
    | false=>rw[hk] at h;cases h
    | true =>
     rw[hk] at h
     have:=kindB_eq hk;subst this
     simp only[cond_true] at h
     split at h
     ·exact quiet_same hI h rfl fun w _=>by rw[run,e1,e2];rfl
     ·simp only[Option.some.injEq,Prod.mk.injEq] at h
      obtain ⟨rfl,rfl⟩:=h
      have hn:N.i σ.nx=_:=hH.mk1
      refine quiet_pur hI (Pur.mk1 _ _) (u:= .int k (N.i σ.nx)) rfl fun w _=> ?_
      rw[run,e1,e2,hn]
      rfl
   ·cases h
  ·cases h
 ·cases h
theorem op1_pure {o:Oper}(h:op1 P T σ o.op=some (v,σ'))(hq:pureOp o.op=true)(hA:RA N E n T a)(hI:Inv E σ)(hH:Hold F N σ'):QuietC P N E σ o a v σ' (fun _=>True):=by
 obtain ⟨dst,op,type,pos,after,guard⟩:=o
 simp only at h hq
 cases op <;> simp only[pureOp,quietOp,Bool.false_eq_true] at hq
 case move=>exact q_move h hA hI
 case assign=>exact q_assign h hA hI
 case pick=>exact q_pick h hA hI
 case build=>exact q_build h hA hI
 case nilCheck=>exact q_nilCheck h hA hI
 case binOp=>exact q_binOp h hA hI hH
 case unOp=>exact q_unOp h hA hI hH
 case convert=>exact q_convert h hA hI hH
 case sliceToArrayPointer=>exact q_arrayPtr h hA hI hH
 case slice=>exact q_slice h hA hI hH
 case fieldAddr=>exact q_fieldAddr h hA hI hH
 case field=>exact q_field h hA hI
 case indexAddr=>exact q_indexAddr h hA hI hH
 case index=>exact q_index h hA hI hH
 case extract=>exact q_extract h hA hI
 case call c =>
  obtain ⟨callee,args,argTypes⟩:=c
  cases callee with
  | builtin b=>cases b <;> first | exact q_len h hA hI hH | exact q_min h hA hI hH | (simp only[Bool.false_eq_true] at hq)
  | value f=>simp only[Bool.false_eq_true] at hq
  | invoke r m=>simp only[Bool.false_eq_true] at hq
theorem op1_quiet {o:Oper}(h:op1 P T σ o.op=some (v,σ'))(hq:quietOp o.op=true)(hA:RA N E n T a)(hI:Inv E σ)(hH:Hold F N σ'){w0:World}(hw0:BW N E σ.bks w0):Quiet P N E σ o a v σ':=by
 cases hp:pureOp o.op with
 | true=>exact (op1_pure h hp hA hI hH).quiet
 | false =>
  obtain ⟨dst,op,type,pos,after,guard⟩:=o
  cases op <;> simp only[pureOp,hq,reduceCtorEq] at hp
  exact q_load h hA hI hH hw0
theorem qx_same {x:Option SV}(h:some (x,σ)=some (v,σ')):QX σ σ':=by
 simp only[Option.some.injEq,Prod.mk.injEq] at h;rw[←h.2];exact (Pur.refl _).qx
theorem qx_pur {x:Option SV}{σ1:St}(h:some (x,σ1)=some (v,σ'))(p:Pur σ σ1):QX σ σ':=by
 simp only[Option.some.injEq,Prod.mk.injEq] at h;rw[←h.2];exact p.qx
theorem qx_qx {x:Option SV}{σ1:St}(h:some (x,σ1)=some (v,σ'))(p:QX σ σ1):QX σ σ':=by
 simp only[Option.some.injEq,Prod.mk.injEq] at h;rw[←h.2];exact p
theorem lelt_pur {σ1:St}{a b c:Ar}(h:(σ.le a b).bind (·.lt b c)=some σ1):Pur σ σ1:=by
 simp only[Option.bind_eq_some_iff] at h
 obtain ⟨σ2,h1,h2⟩:=h
 exact (le_pur h1).trans (lt_pur h2)
theorem op1_qx {o:Op}(h:op1 P T σ o=some (v,σ'))(hq:quietOp o=true):QX σ σ':=by
 cases o <;> simp only[quietOp,Bool.false_eq_true] at hq
 case fieldAddr =>
  simp only[op1] at h
  split at h
  ·split at h
   ·split at h
    ·rename_i m _
     cases hz:Nat.beq m 0 with
     | true=>rw[hz] at h;cases h
     | false=>rw[hz] at h;exact qx_pur h lin_pur
    ·cases h
   ·cases h
  ·cases h
 case index =>
  simp only[op1] at h
  split at h
  ·split at h
   ·rename_i m _ _ _ _ _ _ _ _ j _ _ _
    generalize Nat.blt j _=bb at h
    cases bb with
    | false=>cases h
    | true =>
     simp only[cond_true] at h
     split at h
     ·exact qx_same h
     ·cases h
   ·split at h
    ·split at h
     ·generalize Nat.beq _ _=bb at h
      cases bb with
      | false=>cases h
      | true =>
       simp only[cond_true] at h
       split at h
       ·exact qx_pur h ((lelt_pur (by assumption)).trans (Pur.mk1 _ _))
       ·cases h
     ·cases h
    ·cases h
   ·cases h
  ·split at h
   ·split at h
    ·exact qx_same h
    ·cases h
   ·cases h
  ·cases h
 case call c =>
  obtain ⟨callee,args,argTypes⟩:=c
  cases callee with
  | builtin b =>
   cases b <;> simp only[Bool.false_eq_true] at hq
   case len =>
    simp only[op1] at h
    split at h
    ·split at h
     ·split at h
      ·split at h
       ·exact qx_pur h (le_pur (by assumption))
       ·cases h
      ·split at h
       ·exact qx_pur h (le_pur (by assumption))
       ·cases h
     ·exact qx_same h
     ·exact qx_same h
     ·exact qx_same h
     ·exact qx_same h
     ·split at h
      ·exact qx_same h
      ·cases h
     ·cases h
    ·cases h
   case min =>
    simp only[op1] at h
    split at h
    ·split at h
     ·split at h
      ·generalize kindB _ _=bb at h
       cases bb with
       | false=>cases h
       | true =>
        simp only[cond_true] at h
        split at h
        ·exact qx_same h
        ·exact qx_pur h (Pur.mk1 _ _)
      ·cases h
     ·cases h
    ·cases h
  | value f=>simp only[Bool.false_eq_true] at hq
  | invoke r m=>simp only[Bool.false_eq_true] at hq
 case indexAddr =>
  simp only[op1] at h
  split at h
  ·split at h
   ·split at h
    ·exact qx_pur h ((lelt_pur (by assumption)).trans lin_pur)
    ·cases h
   ·cases h
  ·split at h
   ·split at h
    ·exact qx_pur h ((lelt_pur (by assumption)).trans lin_pur)
    ·cases h
   ·cases h
  ·cases h
 case slice =>
  simp only[op1] at h
  split at h
  ·split at h
   ·split at h
    ·exact qx_qx h (doSlice_qx (by assumption))
    ·cases h
   ·cases h
  ·split at h
   ·split at h
    ·exact qx_qx h (doSlice_qx (by assumption))
    ·cases h
   ·cases h
  ·split at h
   ·exact qx_same h
   ·cases h
  ·split at h
   ·split at h
    ·rename_i hr
     simp only[Option.bind_eq_some_iff] at hr
     obtain ⟨σa,r1,σb,r2,r3⟩:=hr
     exact qx_pur h (((le_pur r1).trans (le_pur r2)).trans (le_pur r3))
    ·cases h
   ·cases h
  ·split at h
   ·rename_i l h' _ _ _ _ _ _ _
    generalize (isZ _&&isZ _)=bb at h
    cases bb with
    | true=>exact qx_same h
    | false=>cases h
   ·cases h
  ·cases h
 all_goals
  simp only[op1] at h
  repeat' split at h
  all_goals first
   | cases h;done
   | exact qx_same h
   | exact qx_pur h (loadN_pur (by assumption))
   | exact qx_pur h (load1_pur (by assumption))
   | exact qx_pur h (doBin_pur (by assumption))
   | exact qx_pur h (doUn_pur (by assumption))
   | exact qx_pur h (doConv_pur (by assumption))
   | exact qx_pur h (le_pur (by assumption))
end
section
variable {P:Program} {F:Fns} {N:Num} {E:Env} {σ σ':St} {n:Nat} {T:Tr SV} {a:Act} {v:Option SV} {dst:Option Tmp} {type:TypeId} {pos:String} {after:Array Edge} {guard:Option (Nat×Bool)}
structure Upd (w w':World) (q:Nat) (arr':Array Value) (el:TypeId):Prop where
 here:w'.heap[q]? =some (.cells arr' el (0,0))
 oth:∀q',q'≠q→w'.heap[q']? =w.heap[q']?
 size:w'.heap.size=w.heap.size
 os:w'.os=w.os
 tape:w'.tape=w.tape
 output:w'.output=w.output
theorem Upd.same {w:World}{q:Nat}{arr:Array Value}{el:TypeId}(h:w.heap[q]? =some (.cells arr el (0,0))):Upd w w q arr el:=⟨h,fun _ _=>rfl,rfl,rfl,rfl,rfl⟩
theorem Upd.trans {w w1 w2:World}{q:Nat}{a1 a2:Array Value}{el:TypeId}(h:Upd w w1 q a1 el)(k:Upd w1 w2 q a2 el):Upd w w2 q a2 el :=
 ⟨k.here,fun q' hq=>(k.oth q' hq).trans (h.oth q' hq),k.size.trans h.size,k.os.trans h.os,k.tape.trans h.tape,k.output.trans h.output⟩
theorem Upd.setCell {w:World}{q off:Nat}{arr:Array Value}{el:TypeId}{u:Value}(h:w.heap[q]? =some (.cells arr el (0,0))) :
  Upd w (w.setCell ⟨q,off,none⟩ u) q (arr.setIfInBounds off u) el:=by
 refine ⟨by simp[World.setCell,Array.getElem?_modify,h],fun q' hq=> ?_,by simp[World.setCell],rfl,rfl,rfl⟩
 simp only[World.setCell,Array.getElem?_modify]
 rw[if_neg (Ne.symm hq)]
theorem one_of_cellOk {u:Value}(h:cellOk u=true):u.oneCell'=true:=by cases u <;> first | rfl | cases h
theorem run_store_in {w:World}{q o:Nat}{arr:Array Value}{el:TypeId}{u:Value}(h:w.heap[q]? =some (.cells arr el (0,0)))(ho:o<arr.size)(hu:cellOk u=true) :
  (store ⟨q,o,none⟩ u).run P w= .ok () (w.setCell ⟨q,o,none⟩ u):=by
 have hold:w.cell? ⟨q,o,none⟩=some arr[o]:=by simp[World.cell?,h,Array.getElem?_eq_getElem ho]
 have hfr:w.frozen? ⟨q,o,none⟩=false:=by simp[World.frozen?,h]
 rw[run_store P w _ _ _ (one_of_cellOk hu)]
 simp[hold,hfr]
theorem run_storeCells_in {q o:Nat}{el:TypeId}:∀ {vs:List Value} {i:Nat} {w:World} {arr:Array Value},w.heap[q]? =some (.cells arr el (0,0))→o+i+vs.length≤arr.size→(∀ v∈vs,cellOk v=true) →
  ∃w' arr',(storeCells ⟨q,o,none⟩ vs i).run P w= .ok () w'∧Upd w w' q arr' el∧arr'.size=arr.size∧(∀ k,(k<o+i∨o+i+vs.length≤k)→arr'[k]? =arr[k]?)∧(∀ j v,vs[j]? =some v→arr'[o+i+j]? =some v)
 | [],i,w,arr,h,hn,hc=>⟨w,arr,rfl,Upd.same h,rfl,fun _ _=>rfl,fun j v hj=>by simp at hj⟩
 | u::vs,i,w,arr,h,hn,hc=>by
  simp only[List.length_cons] at hn
  have hr:=run_store_in (P:=P) (u:=u) (o:=o+i) h (by omega) (hc u List.mem_cons_self)
  have hu:Upd w (w.setCell ⟨q,o+i,none⟩ u) q (arr.setIfInBounds (o+i) u) el:=Upd.setCell h
  obtain ⟨w',arr',h1,h2,h3,h4,h5⟩:=run_storeCells_in (o:=o) (i:=i+1) hu.here (by simp only[Array.size_setIfInBounds];omega) (fun v hv=>hc v (List.mem_cons_of_mem _ hv))
  refine ⟨w',arr',?_,hu.trans h2,by simpa using h3,fun k hk=> ?_,fun j v hj=> ?_⟩
  ·simp only[storeCells,Sem.run_bind]
   rw[Addr.add_lit,hr]
   exact h1
  ·simp only[List.length_cons] at hk
   rw[h4 k (by omega),Array.getElem?_setIfInBounds_ne (by omega)]
  ·cases j with
   | zero =>
    simp only[List.getElem?_cons_zero,Option.some.injEq] at hj
    subst hj
    rw[h4 (o+i+0) (by omega)]
    simp[show o+i<arr.size by omega]
   | succ j =>
    rw[show o+i+(j+1)=o+(i+1)+j by omega]
    exact h5 j v (by simpa using hj)
theorem cont_wid {B:Bk}{s c:Nat}{arr arr':Array Value}(h:B.cont N E s c arr)(he:∀k,s≤k→k<s+B.wid N c→arr'[k]? =arr[k]?):B.cont N E s c arr':=by
 unfold Bk.cont at *
 unfold Bk.wid at he
 cases hB:B.arr with
 | none =>
  rw[hB] at h he
  intro j sc hj
  obtain ⟨h1,u,h2,h3⟩:=h j sc hj
  refine ⟨h1,u,?_,h3⟩
  rw[he (s+j) (by omega) (by simp only;omega)]
  exact h2
 | some x =>
  obtain ⟨k,A,g⟩:=x
  rw[hB] at h he
  refine ⟨fun j v hj=> ?_,fun hg j h1 h2=> ?_⟩
  ·have hlt:j<(N.a A).length:=by
    rcases Nat.lt_or_ge j (N.a A).length with h | h
    ·exact h
    ·rw [List.getElem?_eq_none h] at hj;cases hj
   rw[he (s+j) (by omega) ?_]
   ·exact h.1 j v hj
   ·cases g with
    | true=>simp only[cond_true];have:(N.a A).length≤Nat.max c (N.a A).length:=Nat.le_max_right _ _;omega
    | false=>simp only[cond_false];omega
  ·subst hg
   rw[he (s+j) (by omega) (by simp only[cond_true];have:c≤Nat.max c (N.a A).length:=Nat.le_max_left _ _;omega)]
   exact h.2 rfl j h1 h2
theorem upd_post {b q s c:Nat}{B B':Bk}{w w':World}{arr arr':Array Value}{el:TypeId}(hw:BW N E σ.bks w)(hI:Inv E σ)(hB:σ.bks.get b=some B)(hrw:B.rw=true)
  (hb:E.blk b=some (q,s,c)) (hq:w.heap[q]? =some (.cells arr el (0,0))) (hu:Upd w w' q arr' el) (hsz:arr'.size=arr.size)
  (hout:∀k,(k<s∨s+B.wid N c≤k)→arr'[k]? =arr[k]?) (hrw':B'.rw=true) (hwid:B'.wid N c=B.wid N c) (hcont:B'.cont N E s c arr')
  (hs:σ'.bks=σ.bks.set b B') (hnb:σ'.nb=σ.nb) (hnv:σ'.nv=σ.nv) (hgl:σ'.gl=σ.gl):Post N E σ w N E σ' w':=by
 obtain ⟨q0,s0,c0,arr0,el0,fz0,g1,g2,g3,g4,g5⟩:=hw.at' b B hB
 rw[hb] at g1
 simp only[Option.some.injEq,Prod.mk.injEq] at g1
 obtain ⟨rfl,rfl,rfl⟩:=g1
 rw[hq] at g2
 simp only[Option.some.injEq,Obj.cells.injEq] at g2
 obtain ⟨rfl,rfl,rfl⟩:=g2
 have back:∀i B1,σ'.bks.get i=some B1→∃B0,σ.bks.get i=some B0∧B0.rw=B1.rw∧(∀ q' s' c',E.blk i=some (q',s',c')→B0.wid N c'=B1.wid N c'):=fun i B1 h=>by
  rw[hs,Tr.get_set] at h
  by_cases hi:i=b
  ·subst hi
   rw[if_pos rfl] at h
   simp only[Option.some.injEq] at h
   subst h
   exact ⟨B,hB,by rw[hrw,hrw'],fun q' s' c' e=>by rw[hb] at e;simp only[Option.some.injEq,Prod.mk.injEq] at e;obtain ⟨_,_,rfl⟩:=e;exact hwid.symm⟩
  ·rw [if_neg hi] at h
   exact ⟨B1,h,rfl,fun _ _ _ _=>rfl⟩
 refine ⟨⟨fun i hi=>hI.freshB i (by rw[←hnb];exact hi),fun j hj=>hI.freshV j (by rw[←hnv];exact hj),fun t sv e=>hI.glob t sv (by rw[←hgl];exact e)⟩,E.le_refl,⟨?_,?_⟩,⟨hu.os,hu.tape,hu.output,Nat.le_of_eq hu.size.symm,?_,?_⟩,?_⟩
 ·intro i B1 hB1
  by_cases hi:i=b
  ·subst hi
   rw[hs,Tr.get_set,if_pos rfl] at hB1
   simp only[Option.some.injEq] at hB1
   subst hB1
   exact ⟨q,s,c,arr',el,(0,0),hb,hu.here,fun _=>rfl,by rw[hwid,hsz];exact g4,hcont⟩
  ·rw [hs,Tr.get_set,if_neg hi] at hB1
   obtain ⟨q',s',c',arr1,el',fz',k1,k2,k3,k4,k5⟩:=hw.at' i B1 hB1
   by_cases hqq:q'=q
   ·subst hqq
    rw[hq] at k2
    simp only[Option.some.injEq,Obj.cells.injEq] at k2
    obtain ⟨rfl,rfl,rfl⟩:=k2
    refine ⟨q',s',c',arr',el,(0,0),k1,hu.here,fun _=>rfl,by rw[hsz];exact k4,cont_wid (c:=c') k5 fun k hk1 hk2=>hout k ?_⟩
    have:=hw.apart i b B1 B q' s' s c' c hB1 hB hi k1 hb (.inr hrw)
    omega
   ·exact ⟨q',s',c',arr1,el',fz',k1,by rw[hu.oth q' hqq];exact k2,k3,k4,k5⟩
 ·intro i i' B1 B2 q1 s1 s2 c1 c2 h1 h2 h3 h4 h5 h6
  obtain ⟨B1',a1,a2,a3⟩:=back i B1 h1
  obtain ⟨B2',b1,b2,b3⟩:=back i' B2 h2
  rw[←a3 _ _ _ h4,←b3 _ _ _ h5]
  exact hw.apart i i' B1' B2' q1 s1 s2 c1 c2 a1 b1 h3 h4 h5 (by rw[a2,b2];exact h6)
 ·intro q' hq' hno
  by_cases hqq:q'=q
  ·subst hqq;exact (hno b B s c hB hrw hb).elim
  ·exact hu.oth q' hqq
 ·intro q' arr1 el' fz' hq'
  by_cases hqq:q'=q
  ·subst hqq
   rw[hq] at hq'
   simp only[Option.some.injEq,Obj.cells.injEq] at hq'
   obtain ⟨rfl,rfl,rfl⟩:=hq'
   exact ⟨arr',hu.here,hsz,fun k hk=>hout k (hk b B s c hB hrw hb)⟩
  ·exact ⟨arr1,by rw[hu.oth q' hqq];exact hq',rfl,fun _ _=>rfl⟩
 ·intro i B1 q' s' c' h1 h2 h3 _
  obtain ⟨B0,a1,a2,a3⟩:=back i B1 h1
  exact ⟨i,B0,s',c',a1,a2.trans h2,h3,Nat.le_refl _,by rw[a3 _ _ _ h3];exact Nat.le_refl _⟩
theorem toArr_ext {b A:Nat}{k:IntKind}{σ1:St}(h:σ.toArr b=some (k,A,σ1)):Ext σ σ1∧σ1.nb=σ.nb∧σ1.nv=σ.nv:=by
 unfold St.toArr at h
 split at h
 ·split at h
  ·simp only[Option.some.injEq,Prod.mk.injEq] at h
   obtain ⟨_,_,rfl⟩:=h
   exact ⟨Ext.refl _,rfl,rfl⟩
  ·split at h
   ·split at h
    ·simp only[Option.some.injEq,Prod.mk.injEq] at h
     obtain ⟨_,_,rfl⟩:=h
     exact ⟨⟨fun _ m=>List.mem_cons_of_mem _ m,fun _ m=>m,rfl,rfl,Nat.le_refl _⟩,rfl,rfl⟩
    ·cases h
   ·cases h
 ·cases h
theorem toArr_sound {b A:Nat}{k:IntKind}{σ1:St}{w:World}{B:Bk}(h:σ.toArr b=some (k,A,σ1))(hH:Hold F N σ1)(hw:BW N E σ.bks w)(hI:Inv E σ)(hB:σ.bks.get b=some B)(hrw:B.rw=true) :
  Post N E σ w N E σ1 w∧∃B1 g,σ1.bks.get b=some B1∧B1.arr=some (k,A,g)∧B1.rw=true∧B1.n=B.n:=by
 unfold St.toArr at h
 rw[hB] at h
 simp only at h
 split at h
 ·rename_i k' A' g hg
  simp only[Option.some.injEq,Prod.mk.injEq] at h
  obtain ⟨rfl,rfl,rfl⟩:=h
  exact ⟨Post.refl hI hw,B,g,hB,hg,hrw,rfl⟩
 ·rename_i hg
  split at h
  ·rename_i k' hk'
   split at h
   ·rename_i l hl
    simp only[Option.some.injEq,Prod.mk.injEq] at h
    obtain ⟨rfl,rfl,rfl⟩:=h
    obtain ⟨q,s,c,arr,el,fz,g1,g2,g3,g4,g5⟩:=hw.at' b B hB
    have:=g3 hrw
    subst this
    have hA:N.a σ.na=l.map (·.ev N):=hH.defs (.a σ.na (.lit l)) List.mem_cons_self
    obtain ⟨l1,l2⟩:=arsN_get hl
    refine ⟨upd_post (B':={B with arr:=some (k',σ.na,false)}) hw hI hB hrw g1 g2 (Upd.same g2) rfl (fun _ _=>rfl) hrw ?_ ?_ rfl rfl rfl rfl,{B with arr:=some (k',σ.na,false)},false,by simp[Tr.get_set],rfl,hrw,rfl⟩
    ·simp only[Bk.wid,hg,cond_false,hA,List.length_map,l1]
    ·unfold Bk.cont at g5
     rw[hg] at g5
     simp only at g5
     simp only[Bk.cont]
     refine ⟨fun j x hj=> ?_,fun e=>by cases e⟩
     rw[hA,List.getElem?_map,Option.map_eq_some_iff] at hj
     obtain ⟨y,hy,rfl⟩:=hj
     have hlt:j<B.n:=by
      rcases Nat.lt_or_ge j B.n with h | h
      ·exact h
      ·rw [List.getElem?_eq_none (by omega)] at hy;cases hy
     obtain ⟨sc,a',m1,m2,m3⟩:=l2 j hlt
     rw[Nat.zero_add] at m1
     obtain ⟨_,u,m4,m5⟩:=g5 j sc m1
     rw[hy] at m3
     simp only[Option.some.injEq] at m3
     subst m3
     rw[m4,ar_den m2 m5]
   ·cases h
  ·cases h
theorem cellAt_some {B:Bk}{off:Ar}{o:Nat}(h:B.cellAt off=some o):B.arr=none∧off= .kst (.ofNat o):=by
 unfold Bk.cellAt at h
 split at h
 ·rename_i hg
  simp only[Option.some.injEq] at h
  subst h
  exact ⟨hg,rfl⟩
 ·cases h
theorem store1_ext {σ1:St}{b:Nat}{off:Ar}{x:Sc}(h:σ.store1 b off x=some σ1):Ext σ σ1:=by
 unfold St.store1 at h
 split at h
 ·rename_i B hB
  cases hc:B.rw with
  | false=>rw[hc] at h;cases h
  | true =>
   rw[hc] at h
   simp only[cond_true] at h
   split at h
   ·rename_i o _
    cases ho:Nat.blt o B.n with
    | false=>rw[ho] at h;cases h
    | true=>rw[ho] at h;simp only[cond_true,Option.some.injEq] at h;rw[←h];exact ⟨fun _ m=>m,fun _ m=>m,rfl,rfl,Nat.le_refl _⟩
   ·split at h
    ·rename_i k A σ2 k' v' hA hv
     split at h
     ·split at h
      ·cases hk:kindB k k' with
       | false=>rw[hk] at h;cases h
       | true =>
        rw[hk] at h
        simp only[cond_true,Option.some.injEq] at h
        rw[←h]
        obtain ⟨h1,_,h3⟩:=toArr_ext hA
        exact h1.trans ⟨fun _ m=>List.mem_cons_of_mem _ m,fun _ m=>List.mem_cons_of_mem _ m,rfl,rfl,Nat.le_refl _⟩
      ·cases h
     ·cases h
    ·cases h
 ·cases h
theorem store1_sound {σ1:St}{b q s c:Nat}{off:Ar}{x:Sc}{u:Value}{w:World}(h:σ.store1 b off x=some σ1)(hH:Hold F N σ1)(hb:E.blk b=some (q,s,c))(hu:x.den N E=some u)(hw:BW N E σ.bks w)(hI:Inv E σ) :
  ∃w',(store ⟨q,s+(off.ev N).toNat,none⟩ u).run P w= .ok () w'∧Post N E σ w N E σ1 w':=by
 unfold St.store1 at h
 split at h
 ·rename_i B hB
  cases hc:B.rw with
  | false=>rw[hc] at h;cases h
  | true =>
   rw[hc] at h
   simp only[cond_true] at h
   have hrw:=hc
   split at h
   ·rename_i o hg0
    obtain ⟨hg,rfl⟩:=cellAt_some hg0
    cases ho:Nat.blt o B.n with
    | false=>rw[ho] at h;cases h
    | true =>
     rw[ho] at h
     simp only[cond_true,Option.some.injEq] at h
     subst h
     have hlt:o<B.n:=Nat.blt_eq.mp ho
     obtain ⟨q',s',c',arr,el,fz,g1,g2,g3,g4,g5⟩:=hw.at' b B hB
     rw[hb] at g1
     simp only[Option.some.injEq,Prod.mk.injEq] at g1
     obtain ⟨rfl,rfl,rfl⟩:=g1
     have:=g3 hrw
     subst this
     have hwid:B.wid N c=B.n:=by simp only[Bk.wid,hg]
     rw[hwid] at g4
     have e0:((Ar.kst (Int.ofNat o)).ev N).toNat=o:=rfl
     rw[e0]
     refine ⟨_,run_store_in g2 (by omega) (Sc.den_cellOk hu),upd_post (B':={B with rw:=true,cells:=B.cells.set o x}) hw hI hB hrw hb g2 (Upd.setCell g2) (by simp) (fun k hk=> ?_) rfl ?_ ?_ rfl rfl rfl rfl⟩
     ·rw [hwid] at hk
      rw[Array.getElem?_setIfInBounds_ne (by omega)]
     ·simp only[Bk.wid,hg]
     ·unfold Bk.cont at g5 ⊢
      rw[hg] at g5
      simp only[hg]
      intro j sc hj
      rw[Tr.get_set] at hj
      by_cases hjo:j=o
      ·subst hjo
       rw[if_pos rfl] at hj
       simp only[Option.some.injEq] at hj
       subst hj
       exact ⟨hlt,u,by simp[show s+j<arr.size by omega],hu⟩
      ·rw [if_neg hjo] at hj
       obtain ⟨k1,u',k2,k3⟩:=g5 j sc hj
       exact ⟨k1,u',by rw[Array.getElem?_setIfInBounds_ne (by omega)];exact k2,k3⟩
   ·split at h
    ·rename_i k A σ2 k' v' hA hv
     split at h
     ·rename_i B1 hB1
      split at h
      ·rename_i k2 A2 g hg
       cases hk:kindB k k' with
       | false=>rw[hk] at h;cases h
       | true =>
        rw[hk] at h
        have:=kindB_eq hk;subst this
        simp only[cond_true,Option.some.injEq] at h
        subst h
        have hH2:Hold F N σ2:=⟨hH.fns,fun d m=>hH.defs d (List.mem_cons_of_mem _ m),fun o m=>hH.obs o (List.mem_cons_of_mem _ m),hH.ins⟩
        obtain ⟨hp,B2,g',m1,m2,m3,_⟩:=toArr_sound hA hH2 hw hI hB hrw
        rw[hB1] at m1
        simp only[Option.some.injEq] at m1
        subst m1
        rw[hg] at m2
        simp only[Option.some.injEq,Prod.mk.injEq] at m2
        obtain ⟨rfl,rfl,rfl⟩:=m2
        have hin:0≤off.ev N∧off.ev N<(N.a A2).length:=hH.obs (.inA off A2) List.mem_cons_self
        have hset:N.a σ2.na=(N.a A2).set (off.ev N).toNat (v'.ev N):=hH.defs (.a σ2.na (.set A2 off v')) List.mem_cons_self
        obtain ⟨q',s',c',arr,el,fz,g1,g2,g3,g4,g5⟩:=hp.bw.at' b B1 hB1
        rw[hb] at g1
        simp only[Option.some.injEq,Prod.mk.injEq] at g1
        obtain ⟨rfl,rfl,rfl⟩:=g1
        have:=g3 m3
        subst this
        have hlen:(N.a A2).length≤B1.wid N c:=by
         simp only[Bk.wid,hg]
         cases g with
         | true=>exact Nat.le_max_right _ _
         | false=>exact Nat.le_refl _
        have e:=ar_den hv hu
        subst e
        refine ⟨_,run_store_in g2 (by omega) rfl,hp.trans (upd_post (B':={B1 with arr:=some (k2,σ2.na+1-1,g)}) hp.bw hp.inv hB1 m3 hb g2 (Upd.setCell g2) (by simp) (fun k hk=> ?_) m3 ?_ ?_ rfl rfl rfl rfl)⟩
        ·rw [Array.getElem?_setIfInBounds_ne (by omega)]
        ·simp only[Bk.wid,hg,Nat.add_sub_cancel,hset,List.length_set]
        ·unfold Bk.cont at g5 ⊢
         rw[hg] at g5
         simp only[Nat.add_sub_cancel,hset,List.length_set] at g5 ⊢
         refine ⟨fun j y hj=> ?_,fun hg j h1 h2=>by rw[Array.getElem?_setIfInBounds_ne (by omega)];exact g5.2 hg j h1 h2⟩
         by_cases hjo:j=(off.ev N).toNat
         ·subst hjo
          rw[List.getElem?_set_self (by omega)] at hj
          simp only[Option.some.injEq] at hj
          subst hj
          simp[show s+(off.ev N).toNat<arr.size by omega]
         ·rw [List.getElem?_set_ne (by omega)] at hj
          rw[Array.getElem?_setIfInBounds_ne (by omega)]
          exact g5.1 j y hj
      ·cases h
     ·cases h
    ·cases h
 ·cases h
theorem storeL_ext {b:Nat}:∀ {l:List Sc} {off:Nat} {σ σ1:St},St.storeL b off l σ=some σ1→Ext σ σ1
 | [],off,σ,σ1,h=>by simp only[St.storeL,Option.some.injEq] at h;subst h;exact Ext.refl _
 | x::l,off,σ,σ1,h=>by
  simp only[St.storeL] at h
  split at h
  ·rename_i σ2 hσ2
   exact (store1_ext hσ2).trans (storeL_ext h)
  ·cases h
theorem storeL_sound {b q s c base:Nat}(hb:E.blk b=some (q,s,c)):∀ {l:List Sc} {vs:List Value} {i off:Nat} {σ σ1:St} {w:World},St.storeL b off l σ=some σ1→Hold F N σ1→denL N E l=some vs→off=base+i→BW N E σ.bks w→Inv E σ →
  ∃w1,(storeCells ⟨q,s+base,none⟩ vs i).run P w= .ok () w1∧Post N E σ w N E σ1 w1
 | [],vs,i,off,σ,σ1,w,h,hH,hd,ho,hw,hI=>by
  simp only[St.storeL,Option.some.injEq] at h;subst h
  simp only[denL,Option.some.injEq] at hd;subst hd
  exact ⟨w,rfl,Post.refl hI hw⟩
 | x::l,vs,i,off,σ,σ1,w,h,hH,hd,ho,hw,hI=>by
  obtain ⟨u,r,hu,hr,rfl⟩:=denL_cons.1 hd
  simp only[St.storeL] at h
  split at h
  ·rename_i σ2 hσ2
   obtain ⟨w2,h1,h2⟩:=store1_sound (P:=P) hσ2 (Hold.of_ext (storeL_ext h) hH) hb hu hw hI
   obtain ⟨w1,h3,h4⟩:=storeL_sound (base:=base) hb (i:=i+1) (off:=off+1) h hH hr (by omega) h2.bw h2.inv
   refine ⟨w1,?_,h2.trans h4⟩
   have e0:((Ar.kst (Int.ofNat off)).ev N).toNat=off:=rfl
   rw[e0] at h1
   simp only[storeCells,Sem.run_bind]
   rw[Addr.add_lit,show s+base+i=s+off by omega,h1]
   exact h3
  ·cases h
theorem trOf_get:∀(l:List Sc) (k:Nat) (t:Tr Sc) (j:Nat),(trOf k l t).get j=if k≤j∧j<k+l.length then l[j-k]? else t.get j
 | [],k,t,j=>by simp only[trOf,List.length_nil];rw[if_neg (by omega)]
 | x::l,k,t,j=>by
  simp only[trOf,trOf_get l,List.length_cons,Tr.get_set]
  by_cases h:j=k
  ·subst h;rw[if_neg (by omega),if_pos rfl,if_pos (by omega)];simp
  ·by_cases h2:k≤j∧j<k+(l.length+1)
   ·rw [if_pos h2,if_pos (by omega)]
    rw[show j-k=(j-(k+1))+1 by omega];rfl
   ·rw [if_neg h2,if_neg (by omega),if_neg h]
theorem denL_get {E:Env}:∀ {l:List Sc} {vs:List Value} {k:Nat} {x:Sc},denL N E l=some vs→l[k]? =some x→∃v,vs[k]? =some v∧x.den N E=some v
 | [],_,_,_,_,h=>by simp at h
 | y::l,vs,0,x,hd,h=>by
  obtain ⟨v,r,hv,hr,rfl⟩:=denL_cons.1 hd
  simp only[List.getElem?_cons_zero,Option.some.injEq] at h
  subst h
  exact ⟨v,rfl,hv⟩
 | y::l,vs,k+1,x,hd,h=>by
  obtain ⟨v,r,hv,hr,rfl⟩:=denL_cons.1 hd
  obtain ⟨u,h1,h2⟩:=denL_get hr (by simpa using h)
  exact ⟨u,by simpa using h1,h2⟩
theorem denL_cellOk {E:Env}:∀ {l:List Sc} {vs:List Value},denL N E l=some vs→∀v∈vs,cellOk v=true
 | [],vs,hd=>by simp only[denL,Option.some.injEq] at hd;subst hd;intro v hv;cases hv
 | x::l,vs,hd=>by
  obtain ⟨v,r,hv,hr,rfl⟩:=denL_cons.1 hd
  intro u hu
  cases hu with
  | head=>exact Sc.den_cellOk hv
  | tail _ hu=>exact denL_cellOk hr u hu
theorem storeAll_ext {b:Nat}{l:List Sc}{σ1:St}(h:St.storeAll b l σ=some σ1):Ext σ σ1:=by
 unfold St.storeAll at h
 split at h
 ·rename_i B hB
  generalize (B.rw&&Nat.beq l.length B.n&&B.noGrow)=bb at h
  cases bb with
  | false=>cases h
  | true =>
   simp only[cond_true] at h
   split at h
   ·simp only[Option.some.injEq] at h;rw[←h];exact ⟨fun _ m=>m,fun _ m=>m,rfl,rfl,Nat.le_refl _⟩
   ·simp only[Option.some.injEq] at h;rw[←h];exact ⟨fun _ m=>m,fun _ m=>List.mem_cons_of_mem _ m,rfl,rfl,Nat.le_refl _⟩
 ·cases h
theorem storeAll_sound {b q s c:Nat}{l:List Sc}{vs:List Value}{σ1:St}{w:World}(h:St.storeAll b l σ=some σ1)(hH:Hold F N σ1)(hb:E.blk b=some (q,s,c))(hd:denL N E l=some vs)(hw:BW N E σ.bks w)(hI:Inv E σ) :
  ∃w1,(storeCells ⟨q,s,none⟩ vs 0).run P w= .ok () w1∧Post N E σ w N E σ1 w1:=by
 unfold St.storeAll at h
 split at h
 ·rename_i B hB
  cases hc:(B.rw&&Nat.beq l.length B.n&&B.noGrow) with
  | false=>rw[hc] at h;cases h
  | true =>
   rw[hc] at h
   simp only[cond_true] at h
   simp only[Bool.and_eq_true] at hc
   obtain ⟨⟨hrw,hln⟩,hg0⟩:=hc
   have hln:l.length=B.n:=Nat.eq_of_beq_eq_true hln
   have hvl:=denL_length hd
   have hwid:B.wid N c=B.n∧∃B':Bk,B'={B with cells:=trOf 0 l .nil,arr:=none}∧σ1.bks=σ.bks.set b B'∧σ1.nb=σ.nb∧σ1.nv=σ.nv∧σ1.gl=σ.gl:=by
    split at h
    ·rename_i hg
     simp only[Option.some.injEq] at h
     subst h
     exact ⟨by simp only[Bk.wid,hg],_,rfl,by simp only[St.setB,hg],rfl,rfl,rfl⟩
    ·rename_i k A g hg
     simp only[Option.some.injEq] at h
     subst h
     have hg0:g=false:=by simpa [Bk.noGrow,hg] using hg0
     subst hg0
     have:(Ar.kst (B.n:Int)).ev N=(N.a A).length:=hH.obs (.lenA (.kst B.n) A) List.mem_cons_self
     rw[ev_kst] at this
     exact ⟨by simp only[Bk.wid,hg,cond_false];omega,_,rfl,rfl,rfl,rfl,rfl⟩
   obtain ⟨hwid,B',rfl,hs,hnb,hnv,hgl⟩:=hwid
   obtain ⟨q',s',c',arr,el,fz,g1,g2,g3,g4,g5⟩:=hw.at' b B hB
   rw[hb] at g1
   simp only[Option.some.injEq,Prod.mk.injEq] at g1
   obtain ⟨rfl,rfl,rfl⟩:=g1
   have:=g3 hrw
   subst this
   rw[hwid] at g4
   obtain ⟨w',arr',h1,h2,h3,h4,h5⟩:=run_storeCells_in (P:=P) (o:=s) (i:=0) (vs:=vs) g2 (by omega) (denL_cellOk hd)
   refine ⟨w',h1,upd_post (B':={B with cells:=trOf 0 l .nil,arr:=none}) hw hI hB hrw hb g2 h2 h3 (fun k hk=>h4 k (by omega)) hrw ?_ ?_ hs hnb hnv hgl⟩
   ·simp only[Bk.wid];exact hwid.symm
   ·simp only[Bk.cont]
    intro j sc hj
    rw[trOf_get] at hj
    by_cases hjl:0≤j∧j<0+l.length
    ·rw [if_pos hjl] at hj
     obtain ⟨u,k1,k2⟩:=denL_get hd (by simpa using hj)
     exact ⟨by omega,u,by simpa using h5 j u k1,k2⟩
    ·rw [if_neg hjl] at hj;cases hj
 ·cases h
end
section
variable {P:Program} {F:Fns} {N:Num} {E:Env} {σ σ':St} {n:Nat} {T:Tr SV} {a:Act} {v:Option SV} {dst:Option Tmp} {type:TypeId} {pos:String} {after:Array Edge} {guard:Option (Nat×Bool)}
theorem s_store {t:TypeId}{x y:Operand}(h:op1 P T σ (.store t x y)=some (v,σ'))(hA:RA N E n T a)(hI:Inv E σ)(hH:Hold F N σ'){w:World}(hw:BW N E σ.bks w) :
  v=none∧∃w',(execOp a.eval ⟨dst,.store t x y,type,pos,after,guard⟩).run P w= .ok .skip w'∧Post N E σ w N E σ' w':=by
 simp only[op1] at h
 split at h
 ·rename_i b off y' m hx hy hm
  obtain ⟨q,s,c,hb,h0,e⟩:=ptr_den (evalO_den hA hx)
  have e0:((Ar.kst (Int.ofNat off)).ev N).toNat=off:=rfl
  rw[e0] at e
  have hd:=V1.den_cells (evalO_den hA hy)
  cases hl:Nat.beq y'.cells.length m with
  | false=>rw[hl] at h;cases h
  | true =>
   rw[hl] at h
   simp only[cond_true] at h
   have hlen:(a.eval y).cells.size=m:=by
    have:=denL_length hd
    simp only[Array.length_toList] at this
    rw[this];exact Nat.eq_of_beq_eq_true hl
   have fin:∀ {σ1:St} {w1:World},some ((none:Option SV),σ1)=some (v,σ')→(storeCells ⟨q,s+off,none⟩ (a.eval y).cells.toList 0).run P w= .ok () w1→Post N E σ w N E σ1 w1 →
     v=none∧∃w',(execOp a.eval ⟨dst,.store t x y,type,pos,after,guard⟩).run P w= .ok .skip w'∧Post N E σ w N E σ' w':=fun {σ1 w1} h h1 h2=>by
    simp only[Option.some.injEq,Prod.mk.injEq] at h
    obtain ⟨rfl,rfl⟩:=h
    refine ⟨rfl,w1,?_,h2⟩
    simp only[execOp,Instr.storeAt,e,Instr.sureAddr,Sem.run_bind,Sem.run_pure,Result.andThen_ok,storeVar,run_sizeOf hm]
    rw[if_neg (by simpa using hlen)]
    rw[h1]
    rfl
   have viaL:∀ {σ1:St},St.storeL b off y'.cells σ=some σ1→some ((none:Option SV),σ1)=some (v,σ') →
     v=none∧∃w',(execOp a.eval ⟨dst,.store t x y,type,pos,after,guard⟩).run P w= .ok .skip w'∧Post N E σ w N E σ' w':=fun {σ1} hσ1 h=>by
    have hH1:Hold F N σ1:=by simp only[Option.some.injEq,Prod.mk.injEq] at h;rw[h.2];exact hH
    obtain ⟨w1,h1,h2⟩:=storeL_sound (P:=P) (base:=off) (i:=0) hb hσ1 hH1 hd rfl hw hI
    exact fin h h1 h2
   cases y' with
   | sc y'' =>
    simp only at h
    split at h
    ·rename_i σ1 hσ1
     exact viaL hσ1 h
    ·cases h
   | agg l =>
    simp only at h
    split at h
    ·rename_i σ1 hσ1
     cases hz:Nat.beq off 0 with
     | false=>rw[hz] at hσ1;cases hσ1
     | true =>
      rw[hz] at hσ1
      simp only[cond_true] at hσ1
      have hz':=Nat.eq_of_beq_eq_true hz
      subst hz'
      have hH1:Hold F N σ1:=by simp only[Option.some.injEq,Prod.mk.injEq] at h;rw[h.2];exact hH
      obtain ⟨w1,h1,h2⟩:=storeAll_sound (P:=P) hσ1 hH1 hb hd hw hI
      exact fin h h1 h2
    ·split at h
     ·rename_i σ1 hσ1
      exact viaL hσ1 h
     ·cases h
 ·rename_i b off y' hne hx hy hm
  obtain ⟨q,s,c,hb,h0,e⟩:=ptr_den (evalO_den hA hx)
  have hd:=evalO_den hA hy
  split at h
  ·rename_i σ1 hσ1
   simp only[Option.some.injEq,Prod.mk.injEq] at h
   obtain ⟨rfl,rfl⟩:=h
   obtain ⟨w1,h1,h2⟩:=store1_sound (P:=P) hσ1 hH hb hd hw hI
   have hc:=cells_of_cellOk (Sc.den_cellOk hd)
   refine ⟨rfl,w1,?_,h2⟩
   simp only[execOp,Instr.storeAt,e,Instr.sureAddr,Sem.run_bind,Sem.run_pure,Result.andThen_ok,storeVar,run_sizeOf hm,hc]
   rw[if_neg (by simp)]
   simp only[storeCells,Sem.run_bind,Addr.add_lit,Nat.add_zero,h1,Result.andThen_ok,Sem.run_pure]
  ·cases h
 ·cases h
def Env.addB (E:Env)(b:Nat)(q:Nat×Nat×Nat):Env:={E with blk:=fun j=>bif Nat.beq j b then some q else E.blk j}
theorem Env.addB_self {b:Nat}{q:Nat×Nat×Nat}:(E.addB b q).blk b=some q:=by simp only[Env.addB,nbeq_tt rfl,cond_true]
theorem newBk_gen {B:Bk}{arr0:Array Value}{fz:Nat×Nat}{w w':World}{t:TypeId}{q0 s0 c:Nat}(hw:BW N E σ.bks w)(hI:Inv E σ)(hos:w'.os=w.os)(ht:w'.tape=w.tape)(ho:w'.output=w.output)
  (hsz:w.heap.size≤w'.heap.size) (hkeep:∀q,q<w.heap.size→w'.heap[q]? =w.heap[q]?) (hq0:w.heap.size≤q0) (hh:w'.heap[q0]? =some (.cells arr0 t fz)) (hrw:B.rw=true→fz=(0,0))
  (hwid:s0+B.wid N c≤arr0.size) (hcont:B.cont N (E.addB σ.nb (q0,s0,c)) s0 c arr0)
  (hs:σ'.bks=σ.bks.set σ.nb B) (hnb:σ'.nb=σ.nb+1) (hnv:σ'.nv=σ.nv) (hgl:σ'.gl=σ.gl) :
  Post N E σ w N (E.addB σ.nb (q0,s0,c)) σ' w':=by
 have hle:E.le (E.addB σ.nb (q0,s0,c)):=by
  refine ⟨fun b q h=> ?_,fun _ _ h=>h⟩
  have:b≠σ.nb:=fun e=>by rw[e,hI.freshB σ.nb (Nat.le_refl _)] at h;cases h
  simp only[Env.addB,nbeq_ff this,cond_false]
  exact h
 have hself:(E.addB σ.nb (q0,s0,c)).blk σ.nb=some (q0,s0,c):=Env.addB_self
 have hoth:∀i,i≠σ.nb→(E.addB σ.nb (q0,s0,c)).blk i=E.blk i:=fun i h=>by simp only[Env.addB,nbeq_ff h,cond_false]
 have hlt:∀i B q s c,σ.bks.get i=some B→E.blk i=some (q,s,c)→q<w.heap.size:=fun i B q s c hB hq=>by
  obtain ⟨q',s',c',arr,el,fz,g1,g2,_⟩:=hw.at' i B hB
  rw[hq] at g1
  simp only[Option.some.injEq,Prod.mk.injEq] at g1
  rw[←g1.1] at g2
  rcases Nat.lt_or_ge q w.heap.size with h | h
  ·exact h
  ·rw [Array.getElem?_eq_none h] at g2;cases g2
 refine ⟨⟨fun b hb=> ?_,fun j hj=>hI.freshV j (by rw[←hnv];exact hj),fun t sv e=> ?_⟩,hle,⟨?_,?_⟩,⟨hos,ht,ho,hsz,?_,?_⟩,?_⟩
 ·rw [hnb] at hb
  rw[hoth b (by omega)]
  exact hI.freshB b (by omega)
 ·obtain ⟨h1,b,c,h2,h3⟩:=hI.glob t sv (by rw[←hgl];exact e)
  exact ⟨h1,b,c,h2,hle.blk _ _ h3⟩
 ·intro i B1 hB
  rw[hs,Tr.get_set] at hB
  by_cases hi:i=σ.nb
  ·rw [if_pos hi] at hB
   simp only[Option.some.injEq] at hB
   subst hB
   subst hi
   exact ⟨_,_,_,arr0,t,fz,hself,hh,hrw,hwid,hcont⟩
  ·rw [if_neg hi] at hB
   obtain ⟨q,s,c1,arr,el,fz,g1,g2,g3,g4,g5⟩:=hw.at' i B1 hB
   exact ⟨q,s,c1,arr,el,fz,hle.blk _ _ g1,by rw[hkeep q (hlt i B1 q s c1 hB g1)];exact g2,g3,g4,Bk.cont_mono hle g5⟩
 ·intro i i' B1 B2 q s s' c1 c2 h1 h2 h3 h4 h5 h6
  rw[hs,Tr.get_set] at h1 h2
  by_cases hi:i=σ.nb
  ·by_cases hi':i'=σ.nb
   ·exact absurd (hi.trans hi'.symm) h3
   ·rw [if_neg hi'] at h2
    rw[hi,hself] at h4
    rw[hoth i' hi'] at h5
    simp only[Option.some.injEq,Prod.mk.injEq] at h4
    have:=hlt i' B2 q s' c2 h2 h5
    omega
  ·rw [if_neg hi] at h1
   rw[hoth i hi] at h4
   by_cases hi':i'=σ.nb
   ·rw [hi',hself] at h5
    simp only[Option.some.injEq,Prod.mk.injEq] at h5
    have:=hlt i B1 q s c1 h1 h4
    omega
   ·rw [if_neg hi'] at h2
    rw[hoth i' hi'] at h5
    exact hw.apart i i' B1 B2 q s s' c1 c2 h1 h2 h3 h4 h5 h6
 ·intro q hq _
  exact hkeep q hq
 ·intro q arr el fz hq
  have:q<w.heap.size:=by
   rcases Nat.lt_or_ge q w.heap.size with h | h
   ·exact h
   ·rw [Array.getElem?_eq_none h] at hq;cases hq
  exact ⟨arr,by rw[hkeep q this];exact hq,rfl,fun _ _=>rfl⟩
 ·intro i B1 q s c1 h1 h2 h3 h4
  rw[hs,Tr.get_set] at h1
  by_cases hi:i=σ.nb
  ·rw [hi,hself] at h3
   simp only[Option.some.injEq,Prod.mk.injEq] at h3
   omega
  ·rw [if_neg hi] at h1
   rw[hoth i hi] at h3
   exact ⟨i,B1,s,c1,h1,h2,h3,Nat.le_refl _,Nat.le_refl _⟩
theorem newBk_sound {B:Bk}{arr0:Array Value}{w w':World}{t:TypeId}{c:Nat}(hw:BW N E σ.bks w)(hI:Inv E σ)
  (hh:w'.heap=w.heap.push (.cells arr0 t)) (hos:w'.os=w.os) (ht:w'.tape=w.tape) (ho:w'.output=w.output) (hwid:B.wid N c≤arr0.size) (hcont:B.cont N (E.addB σ.nb (w.heap.size,0,c)) 0 c arr0)
  (hs:σ'.bks=σ.bks.set σ.nb B) (hnb:σ'.nb=σ.nb+1) (hnv:σ'.nv=σ.nv) (hgl:σ'.gl=σ.gl) :
  Post N E σ w N (E.addB σ.nb (w.heap.size,0,c)) σ' w' :=
 newBk_gen hw hI hos ht ho (by rw[hh];simp) (fun q hq=>by rw[hh,Array.getElem?_push,if_neg (by omega)]) (Nat.le_refl _) (t:=t) (by rw[hh];simp) (fun _=>rfl) (by omega) hcont hs hnb hnv hgl
theorem newB_sound {l:List Sc}{vs:List Value}{w:World}{t:TypeId}(hd:denL N E l=some vs)(hw:BW N E σ.bks w)(hI:Inv E σ) :
  Post N E σ w N (E.addB σ.nb (w.heap.size,0,l.length)) (σ.newB l) {w with heap:=w.heap.push (.cells vs.toArray t)}:=by
 have hle:E.le (E.addB σ.nb (w.heap.size,0,l.length)):=by
  refine ⟨fun b q h=> ?_,fun _ _ h=>h⟩
  have:b≠σ.nb:=fun e=>by rw[e,hI.freshB σ.nb (Nat.le_refl _)] at h;cases h
  simp only[Env.addB,nbeq_ff this,cond_false]
  exact h
 refine newBk_sound hw hI rfl rfl rfl rfl ?_ ?_ rfl rfl rfl rfl
 ·simp only[Bk.wid];simp[denL_length hd]
 ·simp only[Bk.cont]
  intro j sc hj
  rw[trOf_get] at hj
  by_cases hjl:0≤j∧j<0+l.length
  ·rw [if_pos hjl] at hj
   obtain ⟨u,h1,h2⟩:=denL_get hd (by simpa using hj)
   exact ⟨by simpa using hjl.2,u,by simpa using h1,Sc.den_mono hle h2⟩
  ·rw [if_neg hjl] at hj;cases hj
theorem Ext.newB (l:List Sc):Ext σ (σ.newB l):=⟨fun _ m=>m,fun _ m=>m,rfl,rfl,Nat.le_refl _⟩
theorem s_alloc {t:TypeId}(h:op1 P T σ (.alloc t)=some (v,σ'))(hI:Inv E σ){w:World}(hw:BW N E σ.bks w) :
  ∃sv u w' E',v=some sv∧(execOp a.eval ⟨dst,.alloc t,type,pos,after,guard⟩).run P w= .ok (.value u) w'∧Post N E σ w N E' σ' w'∧sv.den N E'=some u:=by
 simp only[op1] at h
 split at h
 ·rename_i l hl
  obtain ⟨z,hzr,hzd⟩:=zeroB_run (N:=N) hl
  simp only[Option.some.injEq,Prod.mk.injEq] at h
  obtain ⟨rfl,rfl⟩:=h
  refine ⟨_,.pointer (some ⟨w.heap.size,0,none⟩),_,_,rfl,?_,newB_sound (t:=t) (hzd E) hw hI,?_⟩
  ·simp [execOp,Instr.alloc,hzr,newVar,newRow]
  ·simp only[one,SV.den,V1.den]
   rw[ptr_mk Env.addB_self (by simp[Ar.ev])]
   rfl
 ·cases h
theorem s_box {t:TypeId}{x:Operand}(h:op1 P T σ (.box t x)=some (v,σ'))(hA:RA N E n T a)(hI:Inv E σ){w:World}(hw:BW N E σ.bks w) :
  ∃sv u w' E',v=some sv∧(execOp a.eval ⟨dst,.box t x,type,pos,after,guard⟩).run P w= .ok (.value u) w'∧Post N E σ w N E' σ' w'∧sv.den N E'=some u:=by
 simp only[op1] at h
 split at h
 ·rename_i y hy
  simp only[Option.some.injEq,Prod.mk.injEq] at h
  obtain ⟨rfl,rfl⟩:=h
  refine ⟨_,.pointer (some ⟨w.heap.size,0,none⟩),_,_,rfl,?_,newB_sound (t:=t) (V1.den_cells (evalO_den hA hy)) hw hI,?_⟩
  ·simp [execOp,Instr.box,newVar,newRow]
  ·simp only[one,SV.den,V1.den]
   rw[ptr_mk Env.addB_self (by simp[Ar.ev])]
   rfl
 ·cases h
theorem Post.of_qx {E':Env}{w:World}(h:QX σ σ')(hI:Inv E' σ')(hle:E.le E')(hb:E'.blk=E.blk)(hw:BW N E σ.bks w):Post N E σ w N E' σ' w:=by
 refine ⟨hI,hle,by rw[h.bks];exact BW.mono hle hw,Kept.refl _ _ _,fun i B' q s c h1 h2 h3 _=> ?_⟩
 rw[h.bks] at h1
 rw[hb] at h3
 exact ⟨i,B',s,c,h1,h2,h3,Nat.le_refl _,Nat.le_refl _⟩
theorem Post.of_pur {w:World}(h:Pur σ σ')(hI:Inv E σ)(hw:BW N E σ.bks w):Post N E σ w N E σ' w:=Post.of_qx h.qx (hI.pur h) E.le_refl rfl hw
theorem op1_ext {o:Op}(h:op1 P T σ o=some (v,σ')):Ext σ σ':=by
 by_cases hq:quietOp o=true
 ·exact (op1_qx h hq).ext
 ·cases o <;> simp only[quietOp,not_true_eq_false] at hq
  case alloc =>
   simp only[op1] at h
   split at h
   ·simp only[Option.some.injEq,Prod.mk.injEq] at h;rw[←h.2];exact Ext.newB _
   ·cases h
  case box =>
   simp only[op1] at h
   split at h
   ·simp only[Option.some.injEq,Prod.mk.injEq] at h;rw[←h.2];exact Ext.newB _
   ·cases h
  case store =>
   simp only[op1] at h
   split at h
   ·generalize Nat.beq _ _=bb at h
    cases bb with
    | false=>cases h
    | true =>
     simp only[cond_true] at h
     split at h
     ·rename_i σ1 hσ1
      simp only[Option.some.injEq,Prod.mk.injEq] at h;rw[←h.2]
      split at hσ1
      ·generalize Nat.beq _ _=bb at hσ1
       cases bb with
       | false=>cases hσ1
       | true=>exact storeAll_ext hσ1
      ·cases hσ1
     ·split at h
      ·simp only[Option.some.injEq,Prod.mk.injEq] at h;rw[←h.2];exact storeL_ext (by assumption)
      ·cases h
   ·split at h
    ·simp only[Option.some.injEq,Prod.mk.injEq] at h;rw[←h.2];exact store1_ext (by assumption)
    ·cases h
   ·cases h
  case call c =>
   obtain ⟨callee,args,argTypes⟩:=c
   cases callee with
   | builtin b=>cases b <;> first | (simp only[op1,reduceCtorEq] at h;done) | (simp only[not_true_eq_false] at hq)
   | value f=>simp only[op1,reduceCtorEq] at h
   | invoke r m=>simp only[op1,reduceCtorEq] at h
  all_goals (simp only[op1,reduceCtorEq] at h)
theorem op1_sound {o:Oper}(h:op1 P T σ o.op=some (v,σ'))(hA:RA N E n T a)(hI:Inv E σ)(hH:Hold F N σ'){w:World}(hw:BW N E σ.bks w) :
  ∃E' w',Post N E σ w N E' σ' w'∧((v=none∧(execOp a.eval o).run P w= .ok .skip w')∨∃sv u,v=some sv∧sv.den N E'=some u∧(execOp a.eval o).run P w= .ok (.value u) w'):=by
 by_cases hq:quietOp o.op=true
 ·obtain ⟨E',sv,u,h1,h2,h3,h4,h5,h6⟩:=op1_quiet h hq hA hI hH hw
  exact ⟨E',w,Post.of_qx (op1_qx h hq) h2 h3 h4 hw,.inr ⟨sv,u,h1,h5,h6 w hw⟩⟩
 ·obtain ⟨dst,op,type,pos,after,guard⟩:=o
  simp only at h hq
  cases op <;> simp only[quietOp,not_true_eq_false] at hq
  case alloc =>
   obtain ⟨sv,u,w',E',h1,h2,h3,h4⟩:=s_alloc h hI hw
   exact ⟨E',w',h3,.inr ⟨sv,u,h1,h4,h2⟩⟩
  case box =>
   obtain ⟨sv,u,w',E',h1,h2,h3,h4⟩:=s_box h hA hI hw
   exact ⟨E',w',h3,.inr ⟨sv,u,h1,h4,h2⟩⟩
  case store =>
   obtain ⟨h1,w',h2,h3⟩:=s_store h hA hI hH hw
   exact ⟨E,w',h3,.inl ⟨h1,h2⟩⟩
  case call c =>
   obtain ⟨callee,args,argTypes⟩:=c
   cases callee with
   | builtin b=>cases b <;> first | (simp only[op1,reduceCtorEq] at h;done) | (simp only[not_true_eq_false] at hq)
   | value f=>simp only[op1,reduceCtorEq] at h
   | invoke r m=>simp only[op1,reduceCtorEq] at h
  all_goals (simp only[op1,reduceCtorEq] at h)
end
end Go.Sy
