/- A region that draws its order: its first operations leave memory alone but for what belongs to a class of worlds, the others stand in a row. (After the library's two theorems on the first kind alone, and on the second kind over one world.) The symbolic executor is sound: runs of operations, code. -/
import Derived.Test.YtlcljhlijmombaaSy5
namespace Go.Sy
section
variable {P:Program} {ops:Array Oper} {md:Region.Mode} {C:World→Prop}
def wpAnyH (P:Program)(md:Region.Mode)(ops:Array Oper)(C:World→Prop)(n:Nat)(L:Array Bool→Act→Prop):Nat→Array Bool→Act→Prop
 | 0,listed,a=>L listed a
 | f+1,listed,a =>
  Region.ready md ops listed≠[]∧∀i∈Region.ready md ops listed,i<n∧qOp P ops C i (wpAnyH P md ops C n L f (listed.setIfInBounds i true)) a
theorem wpAny_of_headQ {n g:Nat}{L:Array Bool→Act→Prop}{Q':Exit→Act→World→Prop}(hL:∀listed a w,C w→L listed a→wpAny P md ops Q' g listed a w) :
  ∀(f:Nat) (listed:Array Bool) (a:Act) (w:World),C w→wpAnyH P md ops C n L f listed a→wpAny P md ops Q' (f+g) listed a w
 | 0,listed,a,w,hw,h=>by rw[Nat.zero_add];exact hL _ _ _ hw h
 | f+1,listed,a,w,hw,h=>by
  rw[show f+1+g=(f+g)+1 by omega]
  exact ⟨fun h0=>absurd h0 h.1,fun i hi=>wpOp_of_qOp hw (fun a' w' hw' h'=>wpAny_of_headQ hL f _ a' w' hw' h') (h.2 i hi).2⟩
theorem wpAnyH_first {n i:Nat}{oi:Oper}{v:Value}{L:Array Bool→Act→Prop}(hi:ops[i]? =some oi)(hsel:∀(j:Nat) (o:Oper) cs b,ops[j]? =some o→o.op≠ .select cs b)
  (hs:Region.sinkB md ops n=true) (hc:Region.chainB md ops n=true) (hn:n<ops.size) (hin:i<n)
  (hdone:∀listed a,L listed a→∀j∈Region.ready md ops listed,n≤j) :
  ∀(f:Nat) (listed:Array Bool) (a:Act),HeadInv md ops n listed →
   (∀ j oj,ops[j]? =some oj→j≠i→listed.getD j true=false→(∀ e∈oj.after,Region.binds md e=true→e.on≠i)→oi.apart ops oj=true) →
   i∈Region.ready md ops listed→YieldsIn P ops C oi v a →
   wpAnyH P md ops C n L f (listed.setIfInBounds i true) (a.put oi.dst v)→wpAnyH P md ops C n L (f+1) listed a:=by
 intro f
 induction f with
 | zero =>
  intro listed a inv _ hr hy H
  have hun:=(mem_ready.1 hr).1
  refine ⟨fun h=>(by rw[h] at hr;cases hr),fun j hj=> ?_⟩
  have hjn:j<n:=by
   rcases Nat.lt_or_ge j n with h | h
   ·exact h
   ·exact absurd hj (tail_waits hs hc hn inv _ i rfl hin hun j h)
  refine ⟨hjn,?_⟩
  by_cases hji:j=i
  ·subst hji;exact hy.qOp hi H
  ·have:=hdone _ _ H j (ready_mono hj hji)
   omega
 | succ f ih =>
  intro listed a inv hfree hr hy H
  have hun:=(mem_ready.1 hr).1
  refine ⟨fun h=>(by rw[h] at hr;cases hr),fun j hj=> ?_⟩
  have hjn:j<n:=by
   rcases Nat.lt_or_ge j n with h | h
   ·exact h
   ·exact absurd hj (tail_waits hs hc hn inv _ i rfl hin hun j h)
  refine ⟨hjn,?_⟩
  by_cases hji:j=i
  ·subst hji;exact hy.qOp hi H
  ·have h1:=(H.2 j (ready_mono hj hji)).2
   obtain ⟨hjun,oj,hoj,hall⟩:=mem_ready.1 hj
   have hnot:∀e∈oj.after,Region.binds md e=true→e.on≠i:=fun e he hb heq=>by
    have h1:=hall e he hb
    rw[heq,getD_both hun] at h1
    cases h1
   have h2:=qOp_put hoj (hfree j oj hoj hji hjun hnot) (fun cs b=>hsel i oi cs b hi) (fun cs b=>hsel j oj cs b hoj) hy h1
   have hfree':∀k ok,ops[k]? =some ok→k≠i→(listed.setIfInBounds j true).getD k true=false →
     (∀ e∈ok.after,Region.binds md e=true→e.on≠i)→oi.apart ops ok=true:=fun k ok hk hki hun hno=>by
    refine hfree k ok hk hki ?_ hno
    by_cases hjk:j=k
    ·subst hjk;exact hjun
    ·rw [getD_set_ne true hjk] at hun;exact hun
   refine qOp_mono (fun a' h3=>ih (listed.setIfInBounds j true) a' (inv.set hj hjn) hfree' (ready_mono hr (Ne.symm hji)) h3.1 ?_) h2
   rw[Array.setIfInBounds_comm _ _ hji]
   exact h3.2
theorem wpAnyH_lex {n g:Nat}{Lq:Act→Prop}(hsel:Region.noSelect ops=true)(hs:Region.sinkB md ops n=true)(hc:Region.chainB md ops n=true)(hn:n<ops.size) :
  ∀(l:List Oper) (k:Nat) (listed:Array Bool) (a:Act),(∀ j,j<l.length→l[j]? =ops[k+j]?)→k+l.length=n→HeadInv md ops n listed →
  Region.lexHead md ops g l.length k listed=true→wpQuiet P ops C Lq l a →
  wpAnyH P md ops C n (fun listed' a'=>Region.seqB md ops g n listed'=true∧Lq a') l.length listed a
 | [],k,listed,a,_,hk,_,hB,h=>by
  have:k=n:=by simpa using hk
  subst this
  exact ⟨by simpa [Region.lexHead] using hB,h⟩
 | o::l,k,listed,a,hl,hk,inv,hB,h=>by
  have h0:ops[k]? =some o:=by simpa using (hl 0 (by simp)).symm
  simp only[List.length_cons,Region.lexHead,Bool.and_eq_true] at hB
  obtain ⟨⟨hr,hf⟩,hB'⟩:=hB
  have hkn:k<n:=by simp only[List.length_cons] at hk;omega
  have hr':k∈Region.ready md ops listed:=by simpa using hr
  have hst:qOp P ops C k (wpQuiet P ops C Lq l) a:=by unfold qOp;simp only[h0];exact h
  obtain ⟨v,hy,hK⟩:=yieldsIn_of_qOp h0 hst
  exact wpAnyH_first h0 (Region.noSelect_spec hsel) hs hc hn hkn (fun listed' a' hL=>seqB_ready hL.1) l.length listed a inv (Region.free_spec h0 hf) hr' hy
   (wpAnyH_lex hsel hs hc hn l (k+1) _ _ (fun j hj=>by have:=hl (j+1) (by simp;omega);simpa [Nat.add_assoc,Nat.add_comm 1 j] using this) (by simp only[List.length_cons] at hk;omega) (inv.set hr' hkn) hB' hK)
theorem wp_region_quiet_tail {id:Nat}{Q:Exit→Act→World→Prop}{a:Act}{w:World}{l:List Oper}(n:Nat)(hm:P.follows .mixedOrders=true)(hB:Region.lexTailB .any l.toArray n=true)
  (hC:C {w with drawn:=w.drawn+1})
  (h:wpQuiet P l.toArray C (fun a'=>∀w',C w'→wpList P l.toArray Q (l.drop n) a' w') (l.take n) a):(Code.region id l.toArray true).wp P Q a w:=by
 simp only[Region.lexTailB,Bool.and_eq_true,decide_eq_true_eq] at hB
 obtain ⟨⟨⟨⟨hsel,hn⟩,hs⟩,hc⟩,hlex⟩:=hB
 have hn':n<l.length:=by simpa using hn
 have htl:(l.take n).length=n:=by simp;omega
 have hdl:(l.drop n).length=l.toArray.size-n:=by simp
 have inv0:HeadInv .any l.toArray n (Array.replicate l.toArray.size false) :=
  ⟨by simp,fun j oj _ hl=>(by rw[getD_replicate_false] at hl;cases hl),fun t _ ht=>getD_in (by simpa using ht) (getD_replicate_false _ _)⟩
 have H:=wpAnyH_lex (md:= .any) (g:=l.toArray.size-n) hsel hs hc hn (l.take n) 0 _ a (fun j hj=>by
  have hj':j<n:=by rw[htl] at hj;exact hj
  simp[hj']) (by simpa using htl) inv0 (by rw[htl];exact hlex) h
 refine wp_region_any hm ?_
 have:=wpAny_of_headQ (Q':=Q) (g:=l.toArray.size-n) (fun listed a' w' hw' hL=>by
  have:=wpAny_of_seq (md:= .any) (Q':=Q) (l.drop n) n listed a' w' (fun j=>by simp[List.getElem?_drop]) (by rw[hdl];exact hL.1) (hL.2 w' hw')
  rwa [hdl] at this) _ _ _ _ hC H
 rw[htl,show n+(l.toArray.size-n)=l.toArray.size by omega] at this
 exact this
end
section
variable {P:Program}
def CallOk (F:Fns)(P:Program)(call:FuncId→List SV→St→Option (SV×St)):Prop :=
 ∀f args σ sv σ',call f args σ=some (sv,σ')→Ext σ σ'∧∀N E us w,Hold F N σ'→Inv E σ→BW N E σ.bks w→denLV N E args=some us →
  (∃ E' u,(callFunc f us.toArray).run P w= .ok (.value u) w∧Post N E σ w N E' σ' w∧sv.den N E'=some u) ∨
  ((callFunc f us.toArray).run P w= .ok (.enter f us.toArray) w ∧
   Calls P f us.toArray w fun e w'=>∃E' u,e= .returned u∧Post N E σ w N E' σ' w'∧sv.den N E'=some u)
variable {F:Fns} {call:FuncId→List SV→St→Option (SV×St)} {N:Num} {n:Nat}
theorem argsS_den {E:Env}{T:Tr SV}{a:Act}(r:RA N E n T a):∀ {l:List Operand} {vs:List SV},argsS T l=some vs→denLV N E vs=some (l.map a.eval)
 | [],vs,h=>by simp only[argsS,Option.some.injEq] at h;subst h;rfl
 | x::l,vs,h=>by
  simp only[argsS] at h
  split at h
  ·rename_i v hv
   simp only[Option.map_eq_some_iff] at h
   obtain ⟨r',hr,rfl⟩:=h
   exact denLV_cons.2 ⟨a.eval x,l.map a.eval,evalO_den r hv,argsS_den r hr,rfl⟩
  ·cases h
theorem run_callOp {o:Oper}{a:Act}{f:FuncId}{args:List Operand}(h:callOf o.op=some (f,args))(w:World):(execOp a.eval o).run P w=(callFunc f (args.map a.eval).toArray).run P w:=by
 obtain ⟨dst,op,type,pos,after,guard⟩:=o
 unfold callOf at h
 split at h
 ·rename_i f' args' at' hop
  simp only[Option.some.injEq,Prod.mk.injEq] at h
  obtain ⟨rfl,rfl⟩:=h
  simp only at hop
  subst hop
  simp[execOp,resolve,Deferred.ofValue,invoke,Act.eval,←List.map_toArray]
 ·cases h
theorem wanted_none {o:Oper}(h:o.guard=none)(y:Nat→Option Bool):Region.wanted o y=true:=by simp[Region.wanted,h]
theorem runL_ext (hcall:CallOk F P call):∀ {l:List Oper} {T T':Tr SV} {σ σ':St},run.runL P call n l T σ=some (T',σ')→Ext σ σ'
 | [],T,T',σ,σ',h=>by
  simp only[run.runL,Option.some.injEq,Prod.mk.injEq] at h
  rw[←h.2];exact Ext.refl _
 | o::l,T,T',σ,σ',h=>by
  simp only[run.runL] at h
  split at h
  ·cases h
  ·split at h
   ·split at h
    ·split at h
     ·rename_i hc
      split at h
      ·exact (hcall _ _ _ _ _ hc).1.trans (runL_ext hcall h)
      ·cases h
     ·cases h
    ·cases h
   ·split at h
    ·rename_i hop
     split at h
     ·exact (opX_ext hop).trans (runL_ext hcall h)
     ·cases h
    ·cases h
theorem runL_sound (hcall:CallOk F P call){ops:Array Oper}{Q:Exit→Act→World→Prop}:∀ {l:List Oper} {T T':Tr SV} {σ σ':St} {E:Env} {a:Act} {w:World},
  run.runL P call n l T σ=some (T',σ')→Hold F N σ'→RA N E n T a→Inv E σ→BW N E σ.bks w →
  (∀ E' a' w',RA N E' n T' a'→Post N E σ w N E' σ' w'→Q .normal a' w')→wpList P ops Q l a w
 | [],T,T',σ,σ',E,a,w,h,hH,hA,hI,hw,hQ=>by
  simp only[run.runL,Option.some.injEq,Prod.mk.injEq] at h
  obtain ⟨rfl,rfl⟩:=h
  exact hQ E a w hA (Post.refl hI hw)
 | o::l,T,T',σ,σ',E,a,w,h,hH,hA,hI,hw,hQ=>by
  simp only[run.runL] at h
  split at h
  ·cases h
  ·rename_i hg
   unfold wpList
   rw[if_pos (wanted_none hg _)]
   refine .inl ?_
   split at h
   ·rename_i f args hco
    split at h
    ·rename_i vs hvs
     split at h
     ·rename_i sv σ1 hc
      split at h
      ·rename_i T1 hT1
       have hden:=argsS_den hA hvs
       have next:∀E1 u w1,Post N E σ w N E1 σ1 w1→sv.den N E1=some u→wpList P ops Q l (a.put o.dst u) w1:=fun E1 u w1 hp hu =>
        runL_sound hcall h hH (RA.put (RA.mono hp.le hA) hT1 (fun sv' e=>by simp only[Option.some.injEq] at e;subst e;exact hu)) hp.inv hp.bw
         (fun E' a' w' h1 h2=>hQ E' a' w' h1 (hp.trans h2))
       unfold Oper.wp
       rw[run_callOp hco]
       rcases (hcall _ _ _ _ _ hc).2 N E _ w (Hold.of_ext (runL_ext hcall h) hH) hI hw hden with ⟨E1,u,h1,h2,h3⟩ | ⟨h1,h2⟩
       ·rw [h1];exact next E1 u w h2 h3
       ·rw [h1,Oper.upon_enter]
        refine h2.mono ?_
        rintro e w1 ⟨E1,u,rfl,h3,h4⟩
        exact next E1 u w1 h3 h4
      ·cases h
     ·cases h
    ·cases h
   ·split at h
    ·rename_i v σ1 hop
     split at h
     ·rename_i T1 hT1
      obtain ⟨E1,w1,hp,hr⟩:=opX_sound hop hA hI (Hold.of_ext (runL_ext hcall h) hH) hw
      have next:∀u,(∀ sv,v=some sv→sv.den N E1=some u)→wpList P ops Q l (a.put o.dst u) w1:=fun u hu =>
       runL_sound hcall h hH (RA.put (RA.mono hp.le hA) hT1 hu) hp.inv hp.bw (fun E' a' w' h1 h2=>hQ E' a' w' h1 (hp.trans h2))
      unfold Oper.wp
      rcases hr with ⟨rfl,hr⟩ | ⟨sv,u,rfl,hu,hr⟩
      ·rw [hr];exact next undef (fun sv e=>by cases e)
      ·rw [hr];exact next u (fun sv' e=>by simp only[Option.some.injEq] at e;subst e;exact hu)
     ·cases h
    ·cases h
theorem Tr.ro_get:∀(t:Tr Bk) (k:Nat) (B:Bk),t.ro.get k=some B→∃B0,t.get k=some B0∧B={B0 with rw:=false}
 | .nil,k,B,h=>by cases h
 | .node v l r,k,B,h=>by
  simp only[Tr.ro,Tr.get] at h ⊢
  cases h0:Nat.beq k 0 with
  | true =>
   rw[h0] at h
   simp only[cond_true] at h ⊢
   cases v with
   | none=>cases h
   | some B0=>simp only[Option.some.injEq] at h;exact ⟨B0,rfl,h.symm⟩
  | false =>
   rw[h0] at h
   simp only[cond_false] at h ⊢
   cases h1:Nat.beq (k%2) 1 with
   | true=>rw[h1] at h;exact Tr.ro_get l _ _ h
   | false=>rw[h1] at h;exact Tr.ro_get r _ _ h
theorem BW.ro {E:Env}{bks:Tr Bk}{w:World}(h:BW N E bks w):BW N E bks.ro w:=by
 refine ⟨fun i B hB=> ?_,fun i i' B B' q s s' c c' h1 h2 h3 h4 h5 h6=> ?_⟩
 ·obtain ⟨B0,h1,rfl⟩:=Tr.ro_get _ _ _ hB
  obtain ⟨q,s,c,arr,el,fz,g1,g2,g3,g4,g5⟩:=h.at' i B0 h1
  exact ⟨q,s,c,arr,el,fz,g1,g2,fun e=>(by cases e),g4,g5⟩
 ·obtain ⟨B0,_,rfl⟩:=Tr.ro_get _ _ _ h1
  obtain ⟨B1,_,rfl⟩:=Tr.ro_get _ _ _ h2
  rcases h6 with h6 | h6 <;> cases h6
theorem Kept.ro {E:Env}{bks:Tr Bk}{w w':World}(h:Kept N E bks.ro w w'):∀q,q<w.heap.size→w'.heap[q]? =w.heap[q]? :=fun q hq =>
 h.block q hq fun i B s c h1 h2 _=>by
  obtain ⟨B0,_,rfl⟩:=Tr.ro_get _ _ _ h1
  cases h2
def Cls (N:Num)(E0:Env)(bks0:Tr Bk)(w0 w:World):Prop:=BW N E0 bks0 w∧Kept N E0 bks0 w0 w
theorem lt_of_heap {w:World}{q:Nat}{o:Obj}(h:w.heap[q]? =some o):q<w.heap.size:=by
 rcases Nat.lt_or_ge q w.heap.size with h' | h'
 ·exact h'
 ·rw [Array.getElem?_eq_none h'] at h;cases h
theorem Cls.after {E0 E:Env}{bks bks1:Tr Bk}{w0 w w':World}(hC:Cls N E0 bks w0 w)(hk:Kept N E bks1.ro w w'):Cls N E0 bks w0 w':=by
 have hs:=hk.ro
 refine ⟨⟨fun i B hB=> ?_,hC.1.apart⟩,hk.os.trans hC.2.os,hk.tape.trans hC.2.tape,hk.output.trans hC.2.output,Nat.le_trans hC.2.size hk.size,fun q hq hno=> ?_,fun q arr el fz hq=> ?_⟩
 ·obtain ⟨q,s,c,arr,el,fz,g1,g2,g3⟩:=hC.1.at' i B hB
  exact ⟨q,s,c,arr,el,fz,g1,by rw[hs q (lt_of_heap g2)];exact g2,g3⟩
 ·rw [hs q (Nat.lt_of_lt_of_le hq hC.2.size),hC.2.block q hq hno]
 ·obtain ⟨arr1,h1,h2,h3⟩:=hC.2.part q arr el fz hq
  exact ⟨arr1,by rw[hs q (lt_of_heap h1)];exact h1,h2,h3⟩
theorem plain1_den {E E':Env}{x:Sc}(hx:plain1 x=true):x.den N E=x.den N E':=by
 cases x with
 | kst v=>rfl
 | num k x=>rfl
 | boo x=>rfl
 | str A=>rfl
 | opq j=>cases hx
 | ptr b off=>cases hx
 | sl b off len cap=>cases hx
 | emp j=>cases hx
theorem plainL_den {E E':Env}:∀ {l:List Sc},l.all plain1=true→denL N E l=denL N E' l
 | [],_=>rfl
 | x::l,hl=>by
  simp only[List.all_cons,Bool.and_eq_true] at hl
  simp only[denL,plain1_den (E:=E) (E':=E') hl.1,plainL_den (E:=E) (E':=E') hl.2]
theorem plainV_den {E E':Env}{x:V1}(hx:plainV x=true):x.den N E=x.den N E':=by
 cases x with
 | sc x=>exact plain1_den hx
 | agg l=>simp only[V1.den,plainL_den (E:=E) (E':=E') hx]
theorem plainL1_den {E E':Env}:∀ {l:List V1},l.all plainV=true→denL1 N E l=denL1 N E' l
 | [],_=>rfl
 | x::l,hl=>by
  simp only[List.all_cons,Bool.and_eq_true] at hl
  simp only[denL1,plainV_den (E:=E) (E':=E') hl.1,plainL1_den (E:=E) (E':=E') hl.2]
theorem plainSV_den {E E':Env}{x:SV}(hx:plainSV x=true):x.den N E=x.den N E':=by
 cases x with
 | one x=>exact plainV_den hx
 | tup l=>simp only[SV.den,plainL1_den (E:=E) (E':=E') hx]
theorem isFn_quiet {o:Oper}(h':isFnCall o.op=true)(hco:callOf o.op=none):False:=by
 unfold isFnCall at h'
 split at h'
 ·rename_i f args at' hop
  rw[hop] at hco
  simp only[callOf,reduceCtorEq] at hco
 ·cases h'
theorem runQ_qx (hcall:CallOk F P call):∀ {l:List Oper} {T T':Tr SV} {σ σ':St},(∀ o∈l,(quietOp o.op||isFnCall o.op)=true)→run.runQ P call n l T σ=some (T',σ')→QX σ σ'
 | [],T,T',σ,σ',_,h=>by
  simp only[run.runQ,Option.some.injEq,Prod.mk.injEq] at h
  rw[←h.2];exact (Pur.refl _).qx
 | o::l,T,T',σ,σ',hq,h=>by
  have hql:∀o∈l,(quietOp o.op||isFnCall o.op)=true:=fun o' ho'=>hq o' (List.mem_cons_of_mem _ ho')
  simp only[run.runQ] at h
  split at h
  ·cases h
  ·split at h
   ·split at h
    ·split at h
     ·rename_i sv σ1 hc
      cases hpl:plainSV sv with
      | false=>rw[hpl] at h;cases h
      | true =>
       rw[hpl] at h
       simp only[cond_true] at h
       split at h
       ·have he:=(hcall _ _ _ _ _ hc).1
        have h1:QX σ {σ1 with bks:=σ.bks,nb:=σ.nb,nv:=σ.nv}:=⟨⟨he.defs,he.obs,he.ni,he.gl,Nat.le_refl _⟩,rfl,rfl⟩
        exact h1.trans (runQ_qx hcall hql h)
       ·cases h
     ·cases h
    ·cases h
   ·rename_i hco
    have hqo:quietOp o.op=true:=by
     have:=hq o List.mem_cons_self
     simp only[Bool.or_eq_true] at this
     rcases this with h' | h'
     ·exact h'
     ·exact (isFn_quiet h' hco).elim
    split at h
    ·rename_i hop
     split at h
     ·exact (op1_qx hop hqo).trans (runQ_qx hcall hql h)
     ·cases h
    ·cases h
theorem runQ_sound (hcall:CallOk F P call){ops:Array Oper}{E0:Env}{bks0:Tr Bk}{w0:World}{K:Act→Prop} :
  ∀ {l:List Oper} {T T':Tr SV} {σ σ':St} {E:Env} {a:Act},(∀ o∈l,(quietOp o.op||isFnCall o.op)=true) →
  run.runQ P call n l T σ=some (T',σ')→Hold F N σ'→RA N E n T a→Inv E σ→σ.bks=bks0→E0.le E→Cls N E0 bks0 w0 w0 →
  (∀ E' a',RA N E' n T' a'→Inv E' σ'→E.le E'→E'.blk=E.blk→K a')→wpQuiet P ops (Cls N E0 bks0 w0) K l a
 | [],T,T',σ,σ',E,a,_,h,hH,hA,hI,hb,hle,hw0,hK=>by
  simp only[run.runQ,Option.some.injEq,Prod.mk.injEq] at h
  obtain ⟨rfl,rfl⟩:=h
  exact hK E a hA hI E.le_refl rfl
 | o::l,T,T',σ,σ',E,a,hq,h,hH,hA,hI,hb,hle,hw0,hK=>by
  simp only[run.runQ] at h
  split at h
  ·cases h
  ·rename_i hg
   unfold wpQuiet
   rw[if_pos (wanted_none hg _)]
   have hql:∀o∈l,(quietOp o.op||isFnCall o.op)=true:=fun o' ho'=>hq o' (List.mem_cons_of_mem _ ho')
   split at h
   ·rename_i f args hco
    split at h
    ·rename_i vs hvs
     split at h
     ·rename_i sv σ1 hc
      cases hpl:plainSV sv with
      | false=>rw[hpl] at h;cases h
      | true =>
       rw[hpl] at h
       simp only[cond_true] at h
       split at h
       ·rename_i T1 hT1
        have hden:=argsS_den hA hvs
        have hH2:=Hold.of_ext (runQ_qx hcall hql h).ext hH
        have hH1:Hold F N σ1:=⟨hH2.fns,hH2.defs,hH2.obs,hH2.ins⟩
        have hext:=(hcall _ _ _ _ _ hc).1
        have hc':=(hcall _ _ _ _ _ hc).2 N E (args.map a.eval)
        have hIro:Inv E {σ with bks:=σ.bks.ro}:=⟨hI.freshB,hI.freshV,hI.glob⟩
        have hBW:∀w,Cls N E0 bks0 w0 w→BW N E σ.bks.ro w:=fun w hw=>by rw[hb];exact BW.ro (BW.mono hle hw.1)
        have hval:∃u,∀E2,sv.den N E2=some u:=by
         rcases hc' w0 hH1 hIro (hBW w0 hw0) hden with ⟨E1,u,_,h2,h3⟩ | ⟨_,h2⟩
         ·exact ⟨u,fun E2=>by rw[plainSV_den (E':=E1) hpl];exact h3⟩
         ·obtain ⟨e,w1,fr,⟨E1,u,_,h3,h4⟩,_⟩:=h2 []
          exact ⟨u,fun E2=>by rw[plainSV_den (E':=E1) hpl];exact h4⟩
        obtain ⟨u,hu⟩:=hval
        refine ⟨u,fun w hw=> ?_,?_⟩
        ·unfold Oper.quietAt
         rw[run_callOp hco]
         rcases hc' w hH1 hIro (hBW w hw) hden with ⟨E2,u2,h1,h2,h3⟩ | ⟨h1,h2⟩
         ·rw [h1]
          rw[hu E2] at h3
          simp only[Option.some.injEq] at h3
          exact ⟨rfl,h3.symm⟩
         ·rw [h1]
          refine ⟨rfl,h2.mono ?_⟩
          rintro e w2 ⟨E2,u2,rfl,h3,h4⟩
          rw[hu E2] at h4
          simp only[Option.some.injEq] at h4
          subst h4
          exact ⟨rfl,Cls.after hw h3.kept⟩
        ·have hI2:Inv E {σ1 with bks:=σ.bks,nb:=σ.nb,nv:=σ.nv}:=⟨hI.freshB,hI.freshV,fun t sv e=>hI.glob t sv (by have:=hext.gl;simp only at this e;rw[←this];exact e)⟩
         exact runQ_sound hcall hql h hH (RA.put hA hT1 (fun sv' e=>by simp only[Option.some.injEq] at e;subst e;exact hu E)) hI2 hb hle hw0 hK
       ·cases h
     ·cases h
    ·cases h
   ·rename_i hco
    have hqo:quietOp o.op=true:=by
     have:=hq o List.mem_cons_self
     simp only[Bool.or_eq_true] at this
     rcases this with h' | h'
     ·exact h'
     ·exact (isFn_quiet h' hco).elim
    split at h
    ·rename_i v σ1 hop
     split at h
     ·rename_i T1 hT1
      have hqx:=op1_qx hop hqo
      obtain ⟨E1,sv,u,rfl,hI1,hle1,hblk,hu,hrun⟩:=op1_quiet hop hqo hA hI (Hold.of_ext (runQ_qx hcall hql h).ext hH) (w0:=w0) (by rw[hb];exact BW.mono hle hw0.1)
      refine ⟨u,fun w hw=> ?_,?_⟩
      ·unfold Oper.quietAt
       rw[hrun w (by rw[hb];exact BW.mono hle hw.1)]
       exact ⟨rfl,rfl⟩
      ·exact runQ_sound hcall hql h hH (RA.put (RA.mono hle1 hA) hT1 (fun sv' e=>by simp only[Option.some.injEq] at e;subst e;exact hu)) hI1 (hqx.bks.trans hb) (hle.trans hle1) hw0
        (fun E' a' k1 k2 k3 k4=>hK E' a' k1 k2 (hle1.trans k3) (k4.trans hblk))
     ·cases h
    ·cases h
theorem quietPrefix_take {p:Op→Bool}:∀(l:List Oper),∀o∈l.take (quietPrefix p l),(quietOp o.op||p o.op)=true
 | [],o,h=>by simp[quietPrefix] at h
 | x::l,o,h=>by
  simp only[quietPrefix] at h
  cases hx:(quietOp x.op||p x.op) with
  | false=>rw[hx] at h;simp at h
  | true =>
   rw[hx] at h
   simp only[cond_true,List.take_succ_cons,List.mem_cons] at h
   rcases h with rfl | h
   ·exact hx
   ·exact quietPrefix_take l o h
def Ex.den:Ex→Exit
 | .normal=> .normal
 | .exit id=> .exit id
 | .ret=> .ret
theorem BW.drawn {E:Env}{bks:Tr Bk}{w:World}{n:Nat}(h:BW N E bks w):BW N E bks {w with drawn:=n}:=⟨h.at',h.apart⟩
theorem Kept.drawn {E:Env}{bks:Tr Bk}{w:World}{n:Nat}:Kept N E bks w {w with drawn:=n} :=
 ⟨rfl,rfl,rfl,Nat.le_refl _,fun _ _ _=>rfl,fun _ arr _ _ h=>⟨arr,h,rfl,fun _ _=>rfl⟩⟩
theorem Kept.after_drawn {E:Env}{bks:Tr Bk}{w w1:World}{n:Nat}(h:Kept N E bks {w with drawn:=n} w1):Kept N E bks w w1 :=
 ⟨h.os,h.tape,h.output,h.size,h.block,h.part⟩
theorem Post.of_cls {E E1:Env}{σ σ1:St}{w w1:World}(hI:Inv E1 σ1)(hle:E.le E1)(hbk:E1.blk=E.blk)(hb:σ1.bks=σ.bks)(hC:BW N E σ.bks w1)(hk:Kept N E σ.bks w w1) :
  Post N E σ w N E1 σ1 w1:=by
 refine ⟨hI,hle,by rw[hb];exact BW.mono hle hC,hk,fun i B' q s c h1 h2 h3 _=> ?_⟩
 rw[hb] at h1
 rw[hbk] at h3
 exact ⟨i,B',s,c,h1,h2,h3,Nat.le_refl _,Nat.le_refl _⟩
theorem test_pur {σ σ':St}{x:Sc}{t:Bool}(h:σ.test x=some (t,σ')):Pur σ σ':=by
 unfold St.test at h
 split at h
 ·simp only[Option.some.injEq,Prod.mk.injEq] at h;rw[←h.2];exact Pur.refl _
 ·split at h
  ·rename_i ha
   simp only[Option.some.injEq,Prod.mk.injEq] at h;rw[←h.2];exact (ask_pur ha).trans (Pur.ob _ _)
  ·cases h
 ·cases h
theorem test_holds {σ σ':St}{x:Sc}{t:Bool}{E:Env}{u:Value}(h:σ.test x=some (t,σ'))(hH:Hold F N σ')(hu:x.den N E=some u):u= .bool t:=by
 unfold St.test at h
 split at h
 ·simp only[Option.some.injEq,Prod.mk.injEq] at h
  rw[←h.1]
  simp only[Sc.den] at hu
  exact (kst_cell hu).1
 ·split at h
  ·simp only[Option.some.injEq,Prod.mk.injEq] at h
   obtain ⟨rfl,rfl⟩:=h
   have:=hH.ob
   simp only[Ob.holds] at this
   simp only[Sc.den,Option.some.injEq] at hu
   rw[←hu,this]
  ·cases h
 ·cases h
theorem quietPrefix_fn (l:List Oper):∀o∈l.take (quietPrefix (fun _=>false) l),(quietOp o.op||isFnCall o.op)=true:=fun o ho=>by
 have:=quietPrefix_take (p:=fun _=>false) l o ho
 simp only[Bool.or_false] at this
 simp only[this,Bool.true_or]
theorem runR_ext (hcall:CallOk F P call){l:List Oper}{m:Nat}{T T':Tr SV}{σ σ':St}(hqp:∀o∈l.take m,(quietOp o.op||isFnCall o.op)=true)(h:run.runR P call n l.toArray m T σ=some (T',σ')):Ext σ σ':=by
 unfold run.runR at h
 simp only at h
 generalize (bif Nat.beq m l.length then Region.lexB .any l.toArray else Region.lexTailB .any l.toArray m)=bb at h
 cases bb with
 | false=>cases h
 | true =>
  simp only[cond_true] at h
  split at h
  ·rename_i h1
   exact (runQ_qx hcall hqp h1).ext.trans (runL_ext hcall h)
  ·cases h
theorem runR_sound (hm:P.follows .mixedOrders=true)(hcall:CallOk F P call){id:Nat}{l:List Oper}{m:Nat}{T T':Tr SV}{σ σ':St}{E:Env}{a:Act}{w:World}{Q:Exit→Act→World→Prop}(hqp:∀o∈l.take m,(quietOp o.op||isFnCall o.op)=true)
  (h:run.runR P call n l.toArray m T σ=some (T',σ')) (hH:Hold F N σ') (hA:RA N E n T a) (hI:Inv E σ) (hw:BW N E σ.bks w) (hQ:∀E' a' w',RA N E' n T' a'→Post N E σ w N E' σ' w'→Q .normal a' w') :
  (Code.region id l.toArray true).wp P Q a w:=by
 unfold run.runR at h
 simp only at h
 cases hB:(bif Nat.beq m l.length then Region.lexB .any l.toArray else Region.lexTailB .any l.toArray m) with
 | false=>rw[hB] at h;cases h
 | true =>
  rw[hB] at h
  simp only[cond_true] at h
  split at h
  ·rename_i T1 σ1 h1
   have hC0:Cls N E σ.bks {w with drawn:=w.drawn+1} {w with drawn:=w.drawn+1}:=⟨BW.drawn hw,Kept.refl _ _ _⟩
   have hqx:=runQ_qx hcall hqp h1
   have H:wpQuiet P l.toArray (Cls N E σ.bks {w with drawn:=w.drawn+1}) (fun a'=>∀w',Cls N E σ.bks {w with drawn:=w.drawn+1} w'→wpList P l.toArray Q (l.drop m) a' w') (l.take m) a :=
    runQ_sound hcall hqp h1 (Hold.of_ext (runL_ext hcall h) hH) hA hI rfl E.le_refl hC0 fun E1 a1 hA1 hI1 hle1 hbk1 w1 hC1 =>
     have hp1:Post N E σ w N E1 σ1 w1:=Post.of_cls hI1 hle1 hbk1 hqx.bks hC1.1 (Kept.after_drawn hC1.2)
     runL_sound hcall h hH hA1 hI1 hp1.bw fun E2 a2 w2 hA2 hp2=>hQ E2 a2 w2 hA2 (hp1.trans hp2)
   cases hn:Nat.beq m l.length with
   | true =>
    rw[hn] at hB
    have e:=Nat.eq_of_beq_eq_true hn
    subst e
    rw[List.take_length,List.drop_length] at H
    exact wp_region_quiet hm hB hC0 H
   | false =>
    rw[hn] at hB
    exact wp_region_quiet_tail m hm hB hC0 H
  ·cases h
def NoPan (Q:Exit→Act→World→Prop):Exit→Act→World→Prop
 | .panic _,_,_=>False
 | e,a,w=>Q e a w
theorem NoPan.imp {Q:Exit→Act→World→Prop}:∀(e:Exit) (a:Act) (w:World),NoPan Q e a w→Q e a w:=fun e a w h=>by
 cases e <;> first | exact h | exact (h:False).elim
theorem opL_sound (hcall:CallOk F P call){Q:Exit→Act→World→Prop}{K:Act→World→Prop}{o:Oper}{T T':Tr SV}{σ σ':St}{E:Env}{a:Act}{w:World}
  (h:run.runL P call n [o] T σ=some (T',σ')) (hH:Hold F N σ') (hA:RA N E n T a) (hI:Inv E σ) (hw:BW N E σ.bks w)
  (hQ:∀E' a' w',RA N E' n T' a'→Post N E σ w N E' σ' w'→K a' w'):o.guard=none∧o.wp P a w K Q:=by
 simp only[run.runL] at h
 split at h
 ·cases h
 ·rename_i hg
  refine ⟨hg,?_⟩
  split at h
  ·rename_i f args hco
   split at h
   ·rename_i vs hvs
    split at h
    ·rename_i sv σ1 hc
     split at h
     ·rename_i T1 hT1
      simp only[Option.some.injEq,Prod.mk.injEq] at h
      obtain ⟨rfl,rfl⟩:=h
      have hden:=argsS_den hA hvs
      have next:∀E1 u w1,Post N E σ w N E1 σ1 w1→sv.den N E1=some u→K (a.put o.dst u) w1:=fun E1 u w1 hp hu =>
       hQ E1 _ w1 (RA.put (RA.mono hp.le hA) hT1 (fun sv' e=>by simp only[Option.some.injEq] at e;subst e;exact hu)) hp
      unfold Oper.wp
      rw[run_callOp hco]
      rcases (hcall _ _ _ _ _ hc).2 N E _ w hH hI hw hden with ⟨E1,u,h1,h2,h3⟩ | ⟨h1,h2⟩
      ·rw [h1];exact next E1 u w h2 h3
      ·rw [h1,Oper.upon_enter]
       refine h2.mono ?_
       rintro e w1 ⟨E1,u,rfl,h3,h4⟩
       exact next E1 u w1 h3 h4
     ·cases h
    ·cases h
   ·cases h
  ·split at h
   ·rename_i v σ1 hop
    split at h
    ·rename_i T1 hT1
     simp only[Option.some.injEq,Prod.mk.injEq] at h
     obtain ⟨rfl,rfl⟩:=h
     obtain ⟨E1,w1,hp,hr⟩:=opX_sound hop hA hI hH hw
     have next:∀u,(∀ sv,v=some sv→sv.den N E1=some u)→K (a.put o.dst u) w1:=fun u hu=>hQ E1 _ w1 (RA.put (RA.mono hp.le hA) hT1 hu) hp
     unfold Oper.wp
     rcases hr with ⟨rfl,hr⟩ | ⟨sv,u,rfl,hu,hr⟩
     ·rw [hr];exact next undef (fun sv e=>by cases e)
     ·rw [hr];exact next u (fun sv' e=>by simp only[Option.some.injEq] at e;subst e;exact hu)
    ·cases h
   ·cases h
theorem eAr_eq:∀ {a b:Ar},eAr a b=true→a=b
 | .var x,.var y,h=>by simp only[eAr] at h;rw[Nat.eq_of_beq_eq_true h]
 | .kst n,.kst m,h=>by simp only[eAr,decide_eq_true_eq] at h;rw[h]
 | .var _,.kst _,h=>by cases h
 | .kst _,.var _,h=>by cases h
theorem eL_eq {α:Type}{f:α→α→Bool}(hf:∀x y,f x y=true→x=y):∀ {l m:List α},eL f l m=true→l=m
 | [],[],_=>rfl
 | x::l,y::m,h=>by
  simp only[eL,Bool.and_eq_true] at h
  rw[hf _ _ h.1,eL_eq hf h.2]
 | [],_::_,h=>by cases h
 | _::_,[],h=>by cases h
theorem eO_eq {α:Type}{f:α→α→Bool}(hf:∀x y,f x y=true→x=y):∀ {l m:Option α},eO f l m=true→l=m
 | none,none,_=>rfl
 | some x,some y,h=>by rw[hf x y h]
 | none,some _,h=>by cases h
 | some _,none,h=>by cases h
theorem eOp_eq {a b:BinOp}(h:eOp a b=true):a=b:=of_decide_eq_true h
theorem nb_eq:∀x y:Nat,Nat.beq x y=true→x=y:=fun _ _ h=>Nat.eq_of_beq_eq_true h
theorem eArs_eq {l m:List Ar}(h:eL eAr l m=true):l=m:=eL_eq (fun _ _=>eAr_eq) h
theorem eNats_eq {l m:List Nat}(h:eL Nat.beq l m=true):l=m:=eL_eq nb_eq h
theorem eNd_eq {a b:Nd}(h:eNd a b=true):a=b:=by
 unfold eNd at h
 split at h <;> try simp only[Bool.and_eq_true,Bool.false_eq_true,decide_eq_true_eq] at h
 ·obtain ⟨⟨⟨h1,h2⟩,h3⟩,h4⟩:=h;rw[eOp_eq h1,kindB_eq h2,eAr_eq h3,eAr_eq h4]
 ·rw [kindB_eq h.1,eAr_eq h.2]
 ·rw [eOp_eq h.1.1,eAr_eq h.1.2,eAr_eq h.2]
 ·rw [eAr_eq h.1.1,eAr_eq h.1.2,eAr_eq h.2]
 ·rw [eAr_eq h.1.1,eAr_eq h.1.2,eAr_eq h.2]
 ·rw [eAr_eq h.1.1,eAr_eq h.1.2,eAr_eq h.2]
 ·rw [eAr_eq h.1.1,eAr_eq h.1.2,eAr_eq h.2]
 ·rw [eAr_eq h.1.1,eAr_eq h.1.2,h.2]
 ·rw [eAr_eq h.1,eAr_eq h.2]
 ·rw [nb_eq _ _ h.1,eAr_eq h.2]
 ·rw [eArs_eq h.1,eAr_eq h.2]
 ·rw [nb_eq _ _ h]
 ·rw [nb_eq _ _ h.1.1.1,eArs_eq h.1.1.2,eNats_eq h.1.2,nb_eq _ _ h.2]
 ·rw [nb_eq _ _ h.1,nb_eq _ _ h.2]
theorem eAd_eq {a b:Ad}(h:eAd a b=true):a=b:=by
 unfold eAd at h
 split at h <;> try simp only[Bool.and_eq_true,Bool.false_eq_true] at h
 ·rw [eArs_eq h]
 ·rw [nb_eq _ _ h.1.1,eAr_eq h.1.2,eAr_eq h.2]
 ·rw [nb_eq _ _ h.1.1,eAr_eq h.1.2,eAr_eq h.2]
 ·rw [nb_eq _ _ h.1,nb_eq _ _ h.2]
 ·rw [eAr_eq h.1,eAr_eq h.2]
 ·rw [nb_eq _ _ h.1.1,eAr_eq h.1.2,nb_eq _ _ h.2]
 ·rw [nb_eq _ _ h.1.1,eArs_eq h.1.2,eNats_eq h.2]
theorem eDf_eq {a b:Df}(h:eDf a b=true):a=b:=by
 unfold eDf at h
 split at h <;> try simp only[Bool.and_eq_true,Bool.false_eq_true] at h
 ·rw [nb_eq _ _ h.1,eNd_eq h.2]
 ·rw [nb_eq _ _ h.1,eAd_eq h.2]
theorem eOb_eq {a b:Ob}(h:eOb a b=true):a=b:=by
 unfold eOb at h
 split at h <;> try simp only[Bool.and_eq_true,Bool.false_eq_true,beq_iff_eq] at h
 ·rw [eAr_eq h.1,eAr_eq h.2]
 ·rw [eAr_eq h.1,eAr_eq h.2]
 ·rw [eAr_eq h.1,eAr_eq h.2]
 ·rw [eAr_eq h.1,nb_eq _ _ h.2]
 ·rw [eAr_eq h.1,nb_eq _ _ h.2]
 ·rw [eAr_eq h.1.1,eAr_eq h.1.2,nb_eq _ _ h.2]
 ·rw [nb_eq _ _ h.1,h.2]
 ·rw [nb_eq _ _ h.1.1,eArs_eq h.1.2,eNats_eq h.2]
theorem eVal_eq {a b:Value}(h:eVal a b=true):a=b:=by
 unfold eVal at h
 split at h
 ·simp only[Bool.and_eq_true,decide_eq_true_eq] at h;rw[kindB_eq h.1,h.2]
 ·rw [eq_of_beq h]
 ·rfl
 ·simp only[Bool.and_eq_true] at h;rw[nb_eq _ _ h.1,nb_eq _ _ h.2]
 ·simp only[Bool.and_eq_true] at h;rw[nb_eq _ _ h.1,nb_eq _ _ h.2]
 ·rename_i s s'
  have h2:s.data.toList=s'.data.toList:=List.map_inj_right (fun x y=>UInt8.toNat_inj.1) |>.1 (eNats_eq h)
  have h3:s.data=s'.data:=Array.toList_inj.1 h2
  cases s;cases s';simp only at h3;rw[h3]
 ·rfl
 ·rfl
 ·cases h
theorem eSc_eq {a b:Sc}(h:eSc a b=true):a=b:=by
 unfold eSc at h
 split at h <;> try simp only[Bool.and_eq_true,Bool.false_eq_true] at h
 ·rw [eVal_eq h]
 ·rw [kindB_eq h.1,nb_eq _ _ h.2]
 ·rw [nb_eq _ _ h]
 ·rw [nb_eq _ _ h]
 ·rw [nb_eq _ _ h.1,eAr_eq h.2]
 ·rw [nb_eq _ _ h.1.1.1,eAr_eq h.1.1.2,eAr_eq h.1.2,eO_eq (fun _ _=>eAr_eq) h.2]
 ·rw [nb_eq _ _ h]
 ·rw [nb_eq _ _ h]
theorem eV1_eq {a b:V1}(h:eV1 a b=true):a=b:=by
 unfold eV1 at h
 split at h
 ·rw [eSc_eq h]
 ·rw [eL_eq (fun _ _=>eSc_eq) h]
 ·cases h
theorem eSV_eq {a b:SV}(h:eSV a b=true):a=b:=by
 unfold eSV at h
 split at h
 ·rw [eV1_eq h]
 ·rw [eL_eq (fun _ _=>eV1_eq) h]
 ·cases h
theorem eTr_eq {α:Type}{f:α→α→Bool}(hf:∀x y,f x y=true→x=y):∀ {l m:Tr α},eTr f l m=true→l=m
 | .nil,.nil,_=>rfl
 | .node v l r,.node v' l' r',h=>by
  simp only[eTr,Bool.and_eq_true] at h
  rw[eO_eq hf h.1.1,eTr_eq hf h.1.2,eTr_eq hf h.2]
 | .nil,.node _ _ _,h=>by cases h
 | .node _ _ _,.nil,h=>by cases h
theorem eBk_eq {a b:Bk}(h:eBk a b=true):a=b:=by
 obtain ⟨n,rw',c,ar⟩:=a
 obtain ⟨n',rw2,c',ar'⟩:=b
 simp only[eBk,Bool.and_eq_true,beq_iff_eq] at h
 obtain ⟨⟨⟨h1,h2⟩,h3⟩,h4⟩:=h
 have e4:ar=ar':=eO_eq (fun x y hxy=>by
  obtain ⟨k,A,g⟩:=x
  obtain ⟨k',A',g'⟩:=y
  simp only[eAB,Bool.and_eq_true,beq_iff_eq] at hxy
  rw[kindB_eq hxy.1.1,nb_eq _ _ hxy.1.2,hxy.2]) h4
 rw[nb_eq _ _ h1,h2,eTr_eq (fun _ _=>eSc_eq) h3,e4]
theorem eSt_eq {a b:St}(h:eSt a b=true):a=b:=by
 obtain ⟨a1,a2,a3,a4,a5,a6,a7,a8,a9,a10⟩:=a
 obtain ⟨b1,b2,b3,b4,b5,b6,b7,b8,b9,b10⟩:=b
 simp only[eSt,Bool.and_eq_true] at h
 obtain ⟨⟨⟨⟨⟨⟨⟨⟨⟨h1,h2⟩,h3⟩,h4⟩,h5⟩,h6⟩,h7⟩,h8⟩,h9⟩,h10⟩:=h
 rw[nb_eq _ _ h1,nb_eq _ _ h2,nb_eq _ _ h3,nb_eq _ _ h4,nb_eq _ _ h5,eL_eq (fun _ _=>eDf_eq) h6,eL_eq (fun _ _=>eOb_eq) h7,eL_eq (fun _ _ k=>eq_of_beq k) h8,eTr_eq (fun _ _=>eSV_eq) h9,eTr_eq (fun _ _=>eBk_eq) h10]
theorem eR_eq {a b:Tr SV×St}(h:eR a b=true):a=b:=by
 obtain ⟨T,σ⟩:=a
 obtain ⟨T',σ'⟩:=b
 simp only[eR,Bool.and_eq_true] at h
 rw[eTr_eq (fun _ _=>eSV_eq) h.1,eSt_eq h.2]
theorem subB_mem {α:Type}{f:α→α→Bool}(hf:∀x y,f x y=true→x=y){k:Nat}{l m:List α}(h:subB f k l m=true):∀x∈m,x∈l:=fun x hx=>by
 simp only[subB,Bool.and_eq_true,List.all_eq_true,List.any_eq_true] at h
 rw[←List.take_append_drop k m] at hx
 rcases List.mem_append.1 hx with hx | hx
 ·obtain ⟨y,hy,e⟩:=h.1 x hx
  rw[hf _ _ e];exact List.mem_of_mem_take hy
 ·rw [←eL_eq hf h.2] at hx;exact List.mem_of_mem_drop hx
theorem eQ_spec {k k':Nat}{T T':Tr SV}{σ σ':St}(h:eQ k k' (T,σ) (T',σ')=true):T=T'∧(Hold F N σ→Hold F N σ')∧∀ {N0:Num} {E0:Env} {σ0:St} {w0 w:World} {E:Env},Post N0 E0 σ0 w0 N E σ' w→Post N0 E0 σ0 w0 N E σ w:=by
 simp only[eQ,Bool.and_eq_true] at h
 obtain ⟨⟨⟨⟨⟨⟨⟨h1,h2⟩,h3⟩,h4⟩,h5⟩,h6⟩,h7⟩,h8⟩:=h
 have h2:=nb_eq _ _ h2
 have h3:=nb_eq _ _ h3
 have h4:=nb_eq _ _ h4
 have h5:=eTr_eq (fun _ _=>eSV_eq) h5
 have h6:=eTr_eq (fun _ _=>eBk_eq) h6
 refine ⟨eTr_eq (fun _ _=>eSV_eq) h1,fun hH=>⟨hH.fns,fun d hd=>hH.defs d (subB_mem (fun _ _=>eDf_eq) h7 d hd),fun o ho=>hH.obs o (subB_mem (fun _ _=>eOb_eq) h8 o ho),by rw[←h2];exact hH.ins⟩,fun hp=> ?_⟩
 exact ⟨⟨fun b hb=>hp.inv.freshB b (by rw[←h3];exact hb),fun j hj=>hp.inv.freshV j (by rw[←h4];exact hj),fun t sv e=>hp.inv.glob t sv (by rw[←h5];exact e)⟩,hp.le,by rw[h6];exact hp.bw,hp.kept,by rw[h6];exact hp.win⟩
theorem runP_ext (hcall:CallOk F P call){ops:Array Oper}:∀(f:Nat) {listed:Array Bool} {T T':Tr SV} {σ σ':St},run.runP P call n ops f listed T σ=some (T',σ')→Ext σ σ'
 | 0,listed,T,T',σ,σ',h=>by
  simp only[run.runP] at h
  split at h
  ·simp only[Option.some.injEq,Prod.mk.injEq] at h;rw[←h.2];exact Ext.refl _
  ·cases h
 | f+1,listed,T,T',σ,σ',h=>by
  simp only[run.runP] at h
  split at h
  ·split at h
   ·split at h
    ·rename_i hop
     split at h
     ·exact (op1_ext hop).trans (runP_ext hcall f h)
     ·cases h
    ·cases h
   ·cases h
  ·split at h
   ·simp only[Option.some.injEq,Prod.mk.injEq] at h;rw[←h.2];exact Ext.refl _
   ·split at h
    ·split at h
     ·rename_i hl
      exact (runL_ext hcall hl).trans (runP_ext hcall f h)
     ·cases h
    ·cases h
   ·split at h
    ·rename_i r o h1 h2
     have e:some r=some (T',σ'):=by
      split at h
      ·revert h
       cases eRo r _ with
       | true=>exact fun h=>h
       | false =>
        intro h
        simp only[cond_false] at h
        split at h
        ·split at h
         ·revert h
          cases eQ _ _ r _ with
          | true=>exact fun h=>h
          | false=>intro h;cases h
         ·cases h
        ·cases h
      ·cases h
     simp only[Option.some.injEq] at e
     subst e
     split at h1
     ·split at h1
      ·rename_i hl
       exact (runL_ext hcall hl).trans (runP_ext hcall f h1)
      ·cases h1
     ·cases h1
    ·cases h
   ·cases h
theorem runP_sound (hcall:CallOk F P call){ops:Array Oper}(hsel:Region.noSelect ops=true){Q:Exit→Act→World→Prop}:∀(f:Nat) {listed:Array Bool} {T T':Tr SV} {σ σ':St} {E:Env} {a:Act} {w:World},
  run.runP P call n ops f listed T σ=some (T',σ')→Hold F N σ'→RA N E n T a→Inv E σ→BW N E σ.bks w→(∀ E' a' w',RA N E' n T' a'→Post N E σ w N E' σ' w'→Q .normal a' w') →
  wpAny P .any ops (NoPan Q) f listed a w
 | 0,listed,T,T',σ,σ',E,a,w,h,hH,hA,hI,hw,hQ=>by
  simp only[run.runP] at h
  split at h
  ·rename_i hr
   simp only[Option.some.injEq,Prod.mk.injEq] at h
   obtain ⟨rfl,rfl⟩:=h
   exact ⟨hr,hQ E a w hA (Post.refl hI hw)⟩
  ·cases h
 | f+1,listed,T,T',σ,σ',E,a,w,h,hH,hA,hI,hw,hQ=>by
  simp only[run.runP] at h
  split at h
  ·rename_i i hfind
   have hmem:=List.mem_of_find?_eq_some hfind
   have hprop:=List.find?_some hfind
   split at h
   ·rename_i o ho
    simp only[ho,Bool.and_eq_true] at hprop
    obtain ⟨⟨⟨hp,hg⟩,hf⟩,_⟩:=hprop
    split at h
    ·rename_i v σ1 hop
     split at h
     ·rename_i T1 hT1
      have hH1:=Hold.of_ext (runP_ext hcall f h) hH
      obtain ⟨E1,sv,u,rfl,hI1,hle,hblk,hu,hrun⟩:=op1_pure hop hp hA hI hH1
      have hqx:QX σ σ1:=op1_qx hop (by
       unfold pureOp at hp
       split at hp
       ·cases hp
       ·exact hp)
      have hp1:Post N E σ w N E1 σ1 w:=Post.of_qx hqx hI1 hle hblk hw
      have hy:Yields P ops o u a:= .inl ⟨wanted_none (Option.isNone_iff_eq_none.1 hg) _,fun w=>hrun w trivial⟩
      refine wpAny_take ho hsel hf (by simpa using hmem) (fun c a w h=>h) hy ?_
      exact runP_sound hcall hsel f h hH (RA.put (RA.mono hle hA) hT1 (fun sv' e=>by simp only[Option.some.injEq] at e;subst e;exact hu)) hp1.inv hp1.bw (fun E2 a2 w2 h1 h2=>hQ E2 a2 w2 h1 (hp1.trans h2))
     ·cases h
    ·cases h
   ·cases h
  ·split at h
   ·rename_i hr
    simp only[Option.some.injEq,Prod.mk.injEq] at h
    obtain ⟨rfl,rfl⟩:=h
    exact wpAny_done (Q:=NoPan Q) hr (hQ E a w hA (Post.refl hI hw)) _
   ·rename_i i hr
    split at h
    ·rename_i o ho
     split at h
     ·rename_i T1 σ1 hl
      refine wpAny_all hr (by simp) fun j hj=> ?_
      have:j=i:=by simpa using hj
      subst this
      have hst:=opL_sound (Q:=NoPan Q) (K:=wpAny P .any ops (NoPan Q) f (listed.setIfInBounds j true)) hcall hl (Hold.of_ext (runP_ext hcall f h) hH) hA hI hw fun E1 a1 w1 hA1 hp1 =>
       runP_sound hcall hsel f h hH hA1 hp1.inv hp1.bw (fun E2 a2 w2 h1 h2=>hQ E2 a2 w2 h1 (hp1.trans h2))
      unfold wpOp
      simp only[ho]
      rw[if_pos (wanted_none hst.1 _)]
      exact .inl hst.2
     ·cases h
    ·cases h
   ·rename_i i1 i2 hr
    have one:∀ {j:Nat} {o:Oper} {T1:Tr SV} {σ0 σ1 σ2:St} {T2:Tr SV},ops[j]? =some o→run.runL P call n [o] T σ0=some (T1,σ1)→σ0.bks=σ.bks→Inv E σ0→Hold F N σ1 →
      (∀ E1 a1 w1,RA N E1 n T1 a1→Post N E σ0 w N E1 σ1 w1→wpAny P .any ops (NoPan Q) f (listed.setIfInBounds j true) a1 w1) →
      wpOp P ops (NoPan Q) j (wpAny P .any ops (NoPan Q) f (listed.setIfInBounds j true)) a w:=fun {j o T1 σ0 σ1 σ2 T2} ho hl hb hI0 hH1 K=>by
     have hst:=opL_sound (Q:=NoPan Q) (K:=wpAny P .any ops (NoPan Q) f (listed.setIfInBounds j true)) hcall hl hH1 hA hI0 (by rw[hb];exact hw) K
     unfold wpOp
     simp only[ho]
     rw[if_pos (wanted_none hst.1 _)]
     exact .inl hst.2
    have fst:∀ {j:Nat},(match ops[j]? with
      | some o=>match run.runL P call n [o] T σ with
       | some (T,σ)=>run.runP P call n ops f (listed.setIfInBounds j true) T σ
       | none=>none
      | none=>none)=some (T',σ')→wpOp P ops (NoPan Q) j (wpAny P .any ops (NoPan Q) f (listed.setIfInBounds j true)) a w:=fun {j} hj=>by
     split at hj
     ·rename_i o ho
      split at hj
      ·rename_i T1 σ1 hl
       exact one (σ2:=σ1) (T2:=T1) ho hl rfl hI (Hold.of_ext (runP_ext hcall f hj) hH) fun E1 a1 w1 hA1 hp1 =>
        runP_sound hcall hsel f hj hH hA1 hp1.inv hp1.bw (fun E2 a2 w2 h1 h2=>hQ E2 a2 w2 h1 (hp1.trans h2))
      ·cases hj
     ·cases hj
    split at h
    ·rename_i r o h1 h2
     split at h
     ·rename_i Tj σj hlj
      have fin:r=(T',σ')→wpOp P ops (NoPan Q) i2 (wpAny P .any ops (NoPan Q) f (listed.setIfInBounds i2 true)) a w→wpAny P .any ops (NoPan Q) (f+1) listed a w:=fun e h3=>by
       subst e
       refine wpAny_all hr (by simp) fun j hj=> ?_
       simp only[List.mem_cons,List.not_mem_nil,or_false] at hj
       rcases hj with rfl | rfl
       ·exact fst h1
       ·exact h3
      cases he:eRo r (run.runP P call n ops f (listed.setIfInBounds i2 true) Tj σj) with
      | true =>
       rw[he] at h
       simp only[cond_true,Option.some.injEq] at h
       refine fin h (fst (j:=i2) ?_)
       rw[h2]
       simp only[hlj]
       cases hr':run.runP P call n ops f (listed.setIfInBounds i2 true) Tj σj with
       | some r'=>rw[hr'] at he;rw[←eR_eq he,h]
       | none=>rw[hr'] at he;cases he
      | false =>
       rw[he] at h
       simp only[cond_false] at h
       split at h
       ·rename_i Tk σk hlk
        split at h
        ·rename_i r' hr'
         cases hq:eQ (r.2.defs.length-σ.defs.length) (r.2.obs.length-σ.obs.length) r r' with
         | false=>rw[hq] at h;cases h
         | true =>
          rw[hq] at h
          simp only[cond_true,Option.some.injEq] at h
          refine fin h ?_
          subst h
          obtain ⟨T2,σ2⟩:=r'
          obtain ⟨rfl,hq1,hq2⟩:=eQ_spec (F:=F) (N:=N) hq
          have hH2:=hq1 hH
          have hHk:Hold F N {σk with nx:=σ.nx,na:=σ.na}:=Hold.of_ext (runP_ext hcall f hr') hH2
          exact one (σ2:=σk) (T2:=Tk) h2 hlk rfl ⟨hI.freshB,hI.freshV,hI.glob⟩ ⟨hHk.fns,hHk.defs,hHk.obs,hHk.ins⟩ fun E1 a1 w1 hA1 hp1 =>
           runP_sound hcall hsel f hr' hH2 hA1 ⟨hp1.inv.freshB,hp1.inv.freshV,hp1.inv.glob⟩ hp1.bw (fun E2 a2 w2 h1 h2 =>
            hQ E2 a2 w2 h1 (Post.trans (σ:=σ) (σ1:={σk with nx:=σ.nx,na:=σ.na}) ⟨⟨hp1.inv.freshB,hp1.inv.freshV,hp1.inv.glob⟩,hp1.le,hp1.bw,hp1.kept,hp1.win⟩ (hq2 h2)))
        ·cases h
       ·cases h
     ·cases h
    ·cases h
   ·cases h
theorem gask_spec {T T':Tr SV}{σ σ':St}{d:Option Tmp}{t:Bool}(h:gask T σ d=some (t,T',σ')):Pur σ σ'∧(Hold F N σ'→∀ {E:Env} {a:Act},RA N E n T a→RA N E n T' a∧gval T' d=some t):=by
 unfold gask at h
 split at h
 ·rename_i t' ht
  simp only[Option.some.injEq,Prod.mk.injEq] at h
  obtain ⟨rfl,rfl,rfl⟩:=h
  exact ⟨Pur.refl _,fun _ _ _ hA=>⟨hA,ht⟩⟩
 ·split at h
  ·rename_i d hn
   split at h
   ·rename_i x hT
    split at h
    ·rename_i t' σ1 ha
     simp only[Option.some.injEq,Prod.mk.injEq] at h
     obtain ⟨rfl,rfl,rfl⟩:=h
     have hp:Pur σ σ1:=by
      unfold St.ask at ha
      split at ha
      ·simp only[Option.some.injEq,Prod.mk.injEq] at ha
       rw[←ha.2]
       exact ⟨⟨fun _ m=>m,fun _ m=>m,rfl,rfl,Nat.le_refl _⟩,rfl,rfl,rfl⟩
      ·cases ha
     refine ⟨hp.trans (Pur.ob _ _),fun hH E a hA=>⟨⟨hA.size,hA.defers,fun j sv e=> ?_,fun g sv e=>hA.gl g sv (by rw[Tr.get_set,if_neg (by omega)] at e;exact e)⟩,by simp only[gval,Tr.get_set,if_true,one]⟩⟩
     rw[Tr.get_set] at e
     by_cases hj:2*j=2*d
     ·rw [if_pos hj] at e
      simp only[Option.some.injEq] at e
      subst e
      have hj:j=d:=by omega
      subst hj
      obtain ⟨h1,u,h2,h3⟩:=hA.at' j _ hT
      refine ⟨h1,u,h2,?_⟩
      have hb:(!(N.i x==0))=t':=hH.ob
      simp only[SV.den,V1.den,Sc.den,hb,Option.some.injEq] at h3
      subst h3
      rfl
     ·rw [if_neg hj] at e
      exact hA.at' j sv e
    ·cases h
   ·cases h
  ·cases h
theorem runG_ext (hcall:CallOk F P call){ops:Array Oper}:∀ {l:List Oper} {T T':Tr SV} {σ σ':St},run.runG P call n ops l T σ=some (T',σ')→Ext σ σ'
 | [],T,T',σ,σ',h=>by
  simp only[run.runG,Option.some.injEq,Prod.mk.injEq] at h
  rw[←h.2];exact Ext.refl _
 | o::l,T,T',σ,σ',h=>by
  simp only[run.runG] at h
  split at h
  ·split at h
   ·rename_i h1
    exact (runL_ext hcall h1).trans (runG_ext hcall h)
   ·cases h
  ·rename_i j b hg
   split at h
   ·rename_i t T1 σ1 ht
    have h0:=(gask_spec (F:=F) (N:=⟨fun _=>0,fun _=>[],F⟩) (n:=0) ht).1.ext
    cases hb:(t==b) with
    | true =>
     rw[hb] at h
     simp only[cond_true] at h
     split at h
     ·rename_i h1
      exact (h0.trans (runL_ext hcall h1)).trans (runG_ext hcall h)
     ·cases h
    | false =>
     rw[hb] at h
     exact h0.trans (runG_ext hcall h)
   ·cases h
theorem RA.unput {E:Env}{T:Tr SV}{a:Act}(r:RA N E n T a)(dst:Option Tmp):RA N E n (Sy.unput T dst) (a.put dst undef):=by
 cases dst with
 | none=>exact r
 | some d =>
  refine ⟨by simp[Act.put,r.size],r.defers,fun t sv e=> ?_,fun g sv e=>r.gl g sv (by simp only[Sy.unput] at e;rw[Tr.get_erase,if_neg (by omega)] at e;exact e)⟩
  simp only[Sy.unput] at e
  rw[Tr.get_erase] at e
  by_cases ht:t=d
  ·rw [if_pos (by omega)] at e;cases e
  ·rw [if_neg (by omega)] at e
   obtain ⟨h1,u,h2,h3⟩:=r.at' t sv e
   exact ⟨h1,u,by simp only[Act.put];rw[Array.getElem?_setIfInBounds_ne (Ne.symm ht)];exact h2,h3⟩
theorem gval_yielded {E:Env}{T:Tr SV}{a:Act}(r:RA N E n T a){ops:Array Oper}{j:Nat}{t:Bool}(h:gval T ((ops[j]?).bind (·.dst))=some t):yielded ops a.tmps j=some t:=by
 unfold gval at h
 split at h
 ·rename_i d hd
  split at h
  ·rename_i t' hT
   simp only[Option.some.injEq] at h
   subst h
   obtain ⟨_,u,h2,h3⟩:=r.at' d _ hT
   simp only[SV.den,V1.den,Sc.den,cellOk,cond_true,Option.some.injEq] at h3
   subst h3
   unfold yielded
   rw[hd]
   simp only[Option.bind_some,h2]
  ·cases h
 ·cases h
theorem runG_sound (hcall:CallOk F P call){ops:Array Oper}{Q:Exit→Act→World→Prop}:∀ {l:List Oper} {T T':Tr SV} {σ σ':St} {E:Env} {a:Act} {w:World},
  run.runG P call n ops l T σ=some (T',σ')→Hold F N σ'→RA N E n T a→Inv E σ→BW N E σ.bks w →
  (∀ E' a' w',RA N E' n T' a'→Post N E σ w N E' σ' w'→Q .normal a' w')→wpList P ops Q l a w
 | [],T,T',σ,σ',E,a,w,h,hH,hA,hI,hw,hQ=>by
  simp only[run.runG,Option.some.injEq,Prod.mk.injEq] at h
  obtain ⟨rfl,rfl⟩:=h
  exact hQ E a w hA (Post.refl hI hw)
 | o::l,T,T',σ,σ',E,a,w,h,hH,hA,hI,hw,hQ=>by
  simp only[run.runG] at h
  split at h
  ·rename_i hg
   split at h
   ·rename_i T1 σ1 h1
    unfold wpList
    rw[if_pos (wanted_none hg _)]
    refine .inl (opL_sound (Q:=Q) hcall h1 (Hold.of_ext (runG_ext hcall h) hH) hA hI hw fun E1 a1 w1 hA1 hp1=> ?_).2
    exact runG_sound hcall h hH hA1 hp1.inv hp1.bw (fun E2 a2 w2 g1 g2=>hQ E2 a2 w2 g1 (hp1.trans g2))
   ·cases h
  ·rename_i j b hg
   split at h
   ·rename_i t T0 σ0 ht
    obtain ⟨hp0,hA0⟩:=gask_spec (F:=F) (N:=N) (n:=n) ht
    have hP0:Post N E σ w N E σ0 w:=Post.of_pur hp0 hI hw
    have hH0:Hold F N σ0:=by
     cases hb:(t==b) with
     | true =>
      rw[hb] at h
      simp only[cond_true] at h
      split at h
      ·rename_i h1
       exact Hold.of_ext ((runL_ext hcall h1).trans (runG_ext hcall h)) hH
      ·cases h
     | false=>rw[hb] at h;exact Hold.of_ext (runG_ext hcall h) hH
    obtain ⟨hA,ht⟩:=hA0 hH0 hA
    have hy:=gval_yielded hA ht
    cases hb:(t==b) with
    | true =>
     rw[hb] at h
     simp only[cond_true] at h
     split at h
     ·rename_i T1 σ1 h1
      unfold wpList
      rw[if_pos (by simp only[Region.wanted,hg,hy];simpa using hb)]
      refine .inl ?_
      have:=(opL_sound (Q:=Q) (K:=wpList P ops Q l) hcall h1 (Hold.of_ext (runG_ext hcall h) hH) hA hP0.inv hP0.bw fun E1 a1 w1 hA1 hp1 =>
       runG_sound hcall h hH hA1 hp1.inv hp1.bw (fun E2 a2 w2 g1 g2=>hQ E2 a2 w2 g1 ((hP0.trans hp1).trans g2))).2
      exact this
     ·cases h
    | false =>
     rw[hb] at h
     simp only[cond_false] at h
     unfold wpList
     rw[if_neg (by simp only[Region.wanted,hg,hy];simpa using hb)]
     exact runG_sound hcall h hH (hA.unput o.dst) hP0.inv hP0.bw (fun E2 a2 w2 g1 g2=>hQ E2 a2 w2 g1 (hP0.trans g2))
   ·cases h
theorem run_ext (hcall:CallOk F P call):∀(fuel:Nat) {c:Code} {T T':Tr SV} {σ σ':St} {e:Ex},run P fuel call n c T σ=some (e,T',σ')→Ext σ σ'
 | 0,c,T,T',σ,σ',e,h=>by simp[run] at h
 | fuel+1,c,T,T',σ,σ',e,h=>by
  have ih:= @run_ext hcall fuel
  cases c with
  | skip=>simp only[run,Option.some.injEq,Prod.mk.injEq] at h;rw[←h.2.2];exact Ext.refl _
  | seq x y =>
   simp only[run] at h
   split at h
   ·rename_i h1;exact (ih h1).trans (ih h)
   ·exact ih h
  | cond x t f =>
   simp only[run] at h
   split at h
   ·split at h
    ·rename_i h1;exact (test_pur h1).ext.trans (ih h)
    ·cases h
   ·cases h
  | block id b =>
   simp only[run] at h
   split at h
   ·rename_i j T1 σ1 h1
    cases hj:Nat.beq j id with
    | true=>rw[hj] at h;simp only[cond_true,Option.some.injEq,Prod.mk.injEq] at h;rw[←h.2.2];exact ih h1
    | false=>rw[hj] at h;simp only[cond_false,Option.some.injEq,Prod.mk.injEq] at h;rw[←h.2.2];exact ih h1
   ·exact ih h
  | loop b =>
   simp only[run] at h
   split at h
   ·rename_i h1;exact (ih h1).trans (ih h)
   ·exact ih h
  | exit id=>simp only[run,Option.some.injEq,Prod.mk.injEq] at h;rw[←h.2.2];exact Ext.refl _
  | ret=>simp only[run,Option.some.injEq,Prod.mk.injEq] at h;rw[←h.2.2];exact Ext.refl _
  | region id ops draw =>
   simp only[run] at h
   cases draw with
   | false =>
    simp only[cond_false] at h
    split at h
    ·rename_i h1
     simp only[Option.some.injEq,Prod.mk.injEq] at h
     rw[←h.2.2];exact runL_ext hcall h1
    ·split at h
     ·rename_i h1
      simp only[Option.some.injEq,Prod.mk.injEq] at h
      rw[←h.2.2];exact runG_ext hcall h1
     ·cases h
   | true =>
    simp only[cond_true] at h
    obtain ⟨l⟩:=ops
    split at h
    ·rename_i h1
     simp only[Option.some.injEq,Prod.mk.injEq] at h
     rw[←h.2.2];exact runR_ext hcall (quietPrefix_take (p:=isFnCall) l) h1
    ·split at h
     ·rename_i h1
      simp only[Option.some.injEq,Prod.mk.injEq] at h
      rw[←h.2.2];exact runR_ext hcall (quietPrefix_fn l) h1
     ·split at h
      ·rename_i h1
       simp only[Option.some.injEq,Prod.mk.injEq] at h
       cases hs:Region.noSelect l.toArray with
       | false=>rw[hs] at h1;cases h1
       | true=>rw[hs] at h1;rw[←h.2.2];exact runP_ext hcall _ h1
      ·cases h
  | rangeFunc f ps as b=>simp[run] at h
  | scope b=>simp[run] at h
  | label l=>simp[run] at h
  | goto l=>simp[run] at h
  | refuse s=>simp[run] at h
theorem run_sound (hm:P.follows .mixedOrders=true)(hcall:CallOk F P call):∀(fuel:Nat),
  (∀ {c:Code} {T T':Tr SV} {σ σ':St} {e:Ex} {E:Env} {a:Act} {w:World} {Q:Exit→Act→World→Prop},
   run P fuel call n c T σ=some (e,T',σ')→Hold F N σ'→RA N E n T a→Inv E σ→BW N E σ.bks w →
   (∀ E' a' w',RA N E' n T' a'→Post N E σ w N E' σ' w'→Q e.den a' w')→c.wp P Q a w) ∧
  (∀ {b:Code} {T T':Tr SV} {σ σ':St} {e:Ex} {E:Env} {a:Act} {w:World} {Q:Exit→Act→World→Prop},
   run P fuel call n (.loop b) T σ=some (e,T',σ')→Hold F N σ'→RA N E n T a→Inv E σ→BW N E σ.bks w →
   (∀ E' a' w',RA N E' n T' a'→Post N E σ w N E' σ' w'→Q e.den a' w')→Code.rounds P b Q fuel a w)
 | 0=>⟨fun h=>by simp[run] at h,fun h=>by simp[run] at h⟩
 | fuel+1=>by
  have ih:=run_sound hm hcall fuel
  have rounds:∀ {b:Code} {T T':Tr SV} {σ σ':St} {e:Ex} {E:Env} {a:Act} {w:World} {Q:Exit→Act→World→Prop},
   run P (fuel+1) call n (.loop b) T σ=some (e,T',σ')→Hold F N σ'→RA N E n T a→Inv E σ→BW N E σ.bks w →
   (∀ E' a' w',RA N E' n T' a'→Post N E σ w N E' σ' w'→Q e.den a' w')→Code.rounds P b Q (fuel+1) a w:=by
   intro b T T' σ σ' e E a w Q h hH hA hI hw hQ
   rw[rounds_succ]
   simp only[run] at h
   split at h
   ·rename_i T1 σ1 h1
    refine ih.1 h1 (Hold.of_ext (run_ext hcall _ h) hH) hA hI hw fun E1 a1 w1 hA1 hp1=> ?_
    exact ih.2 h hH hA1 hp1.inv hp1.bw fun E2 a2 w2 hA2 hp2=>hQ E2 a2 w2 hA2 (hp1.trans hp2)
   ·rename_i hne
    refine ih.1 h hH hA hI hw fun E1 a1 w1 hA1 hp1=> ?_
    have:=hQ E1 a1 w1 hA1 hp1
    cases e with
    | normal=>exact absurd h (hne _ _)
    | exit id=>exact this
    | ret=>exact this
  refine ⟨?_,rounds⟩
  intro c T T' σ σ' e E a w Q h hH hA hI hw hQ
  cases c with
  | skip =>
   simp only[run,Option.some.injEq,Prod.mk.injEq] at h
   obtain ⟨rfl,rfl,rfl⟩:=h
   exact wp_skip (hQ E a w hA (Post.refl hI hw))
  | seq x y =>
   simp only[run] at h
   apply wp_seq
   split at h
   ·rename_i T1 σ1 h1
    refine ih.1 h1 (Hold.of_ext (run_ext hcall _ h) hH) hA hI hw fun E1 a1 w1 hA1 hp1=> ?_
    exact ih.1 h hH hA1 hp1.inv hp1.bw fun E2 a2 w2 hA2 hp2=>hQ E2 a2 w2 hA2 (hp1.trans hp2)
   ·rename_i hne
    refine ih.1 h hH hA hI hw fun E1 a1 w1 hA1 hp1=> ?_
    have:=hQ E1 a1 w1 hA1 hp1
    cases e with
    | normal=>exact absurd h (hne _ _)
    | exit id=>exact this
    | ret=>exact this
  | cond x t f =>
   simp only[run] at h
   split at h
   ·rename_i y hy
    split at h
    ·rename_i b σ1 h1
     have hH1:=Hold.of_ext (run_ext hcall _ h) hH
     refine wp_cond (test_holds (E:=E) h1 hH1 (evalO_den hA hy)) ?_
     have:(if b=true then t else f)=(bif b then t else f):=by cases b <;> rfl
     rw[this]
     have hp:Post N E σ w N E σ1 w:=Post.of_pur (test_pur h1) hI hw
     exact ih.1 h hH hA hp.inv hp.bw fun E1 a1 w1 hA1 hp1=>hQ E1 a1 w1 hA1 (hp.trans hp1)
    ·cases h
   ·cases h
  | block id b =>
   simp only[run] at h
   apply wp_block
   split at h
   ·rename_i j T1 σ1 h1
    cases hj:Nat.beq j id with
    | true =>
     rw[hj] at h
     simp only[cond_true,Option.some.injEq,Prod.mk.injEq] at h
     obtain ⟨rfl,rfl,rfl⟩:=h
     refine ih.1 h1 hH hA hI hw fun E1 a1 w1 hA1 hp1=> ?_
     simp only[Ex.den,Exit.inBlock]
     rw[if_pos (Nat.eq_of_beq_eq_true hj)]
     exact hQ E1 a1 w1 hA1 hp1
    | false =>
     rw[hj] at h
     simp only[cond_false,Option.some.injEq,Prod.mk.injEq] at h
     obtain ⟨rfl,rfl,rfl⟩:=h
     refine ih.1 h1 hH hA hI hw fun E1 a1 w1 hA1 hp1=> ?_
     simp only[Ex.den,Exit.inBlock]
     rw[if_neg (fun e=>by rw[nbeq_tt e] at hj;cases hj)]
     exact hQ E1 a1 w1 hA1 hp1
   ·rename_i hne
    refine ih.1 h hH hA hI hw fun E1 a1 w1 hA1 hp1=> ?_
    have:=hQ E1 a1 w1 hA1 hp1
    cases e with
    | normal=>exact this
    | exit id=>exact absurd h (hne _ _ _)
    | ret=>exact this
  | loop b=>exact wp_loop_rounds (fuel+1) (rounds h hH hA hI hw hQ)
  | exit id =>
   simp only[run,Option.some.injEq,Prod.mk.injEq] at h
   obtain ⟨rfl,rfl,rfl⟩:=h
   exact wp_exit (hQ E a w hA (Post.refl hI hw))
  | ret =>
   simp only[run,Option.some.injEq,Prod.mk.injEq] at h
   obtain ⟨rfl,rfl,rfl⟩:=h
   exact wp_ret (hQ E a w hA (Post.refl hI hw))
  | region id ops draw =>
   simp only[run] at h
   cases draw with
   | false =>
    simp only[cond_false] at h
    split at h
    ·rename_i T1 σ1 h1
     simp only[Option.some.injEq,Prod.mk.injEq] at h
     obtain ⟨rfl,rfl,rfl⟩:=h
     exact wp_region_list (runL_sound hcall h1 hH hA hI hw hQ)
    ·split at h
     ·rename_i T1 σ1 h1
      simp only[Option.some.injEq,Prod.mk.injEq] at h
      obtain ⟨rfl,rfl,rfl⟩:=h
      exact wp_region_list (runG_sound hcall h1 hH hA hI hw hQ)
     ·cases h
   | true =>
    simp only[cond_true] at h
    obtain ⟨l⟩:=ops
    split at h
    ·rename_i h1
     simp only[Option.some.injEq,Prod.mk.injEq] at h
     obtain ⟨rfl,rfl,rfl⟩:=h
     exact runR_sound hm hcall (quietPrefix_take (p:=isFnCall) l) h1 hH hA hI hw hQ
    ·split at h
     ·rename_i h1
      simp only[Option.some.injEq,Prod.mk.injEq] at h
      obtain ⟨rfl,rfl,rfl⟩:=h
      exact runR_sound hm hcall (quietPrefix_fn l) h1 hH hA hI hw hQ
     ·split at h
      ·rename_i h1
       simp only[Option.some.injEq,Prod.mk.injEq] at h
       obtain ⟨rfl,rfl,rfl⟩:=h
       cases hs:Region.noSelect l.toArray with
       | false=>rw[hs] at h1;cases h1
       | true =>
        rw[hs] at h1
        refine wp_mono ?_ NoPan.imp
        refine wp_region_any hm ?_
        exact runP_sound hcall hs _ h1 hH hA hI (BW.drawn hw) (fun E' a' w' h1 h2=>hQ E' a' w' h1 ⟨h2.inv,h2.le,h2.bw,Kept.after_drawn h2.kept,h2.win⟩)
      ·cases h
  | rangeFunc f ps as b=>simp[run] at h
  | scope b=>simp[run] at h
  | label l=>simp[run] at h
  | goto l=>simp[run] at h
  | refuse s=>simp[run] at h
end
end Go.Sy
