/- The symbolic executor is sound: runs of operations, code. -/
import Derived.Test.YtnfikgagkamioaaGreatDoorSy10
namespace Go.Sy
section
variable {P:Program}
def CallOk (F:Fns)(P:Program)(call:FuncId→List SV→St→Option (SV×St)):Prop :=
 ∀f args σ sv σ',call f args σ=some (sv,σ')→Ext σ σ'∧∀N E us w,Hold F N σ'→Inv E σ→BW N E σ.bks w→denLV N E args=some us →
  (∃ E' u,(callFunc f us.toArray).run P w= .ok (.value u) w∧Post N E σ w N E' σ' w∧sv.den N E'=some u) ∨
  ((callFunc f us.toArray).run P w= .ok (.enter f us.toArray) w ∧
   Calls P f us.toArray w fun e w'=>∃E' u,e= .returned u∧Post N E σ w N E' σ' w'∧sv.den N E'=some u)
variable {F:Fns} {call:FuncId→List SV→St→Option (SV×St)} {N:Num} {n:Nat}
theorem argsS_den {E:Env}{T:Tr SV}{a:Act}(r:RA N E n T a):∀ {l:List Operand} {vs:List SV},argsS T l=some vs→denLV N E vs=some (l.map a.eval)
 | [],vs,h=>by simp only[argsS,aA] at h;subst h;rfl
 | x::l,vs,h=>by
  simp only[argsS] at h;split at h
  ·rename_i v hv;simp only[aV] at h;obtain ⟨r',hr,rfl⟩:=h;exact denLV_cons.2 ⟨a.eval x,l.map a.eval,eW r hv,argsS_den r hr,rfl⟩
  ·cases h
theorem run_callOp {o:Oper}{a:Act}{f:FuncId}{args:List Operand}(h:callOf o.op=some (f,args))(w:World):(execOp a.eval o).run P w=(callFunc f (args.map a.eval).toArray).run P w:=by
 obtain ⟨dst,op,type,pos,after,guard⟩:=o;unfold callOf at h;split at h
 ·rename_i f' args' at' hop;simp only[aA,aD] at h;obtain ⟨rfl,rfl⟩:=h;simp only at hop;subst hop;simp[execOp,resolve,Deferred.ofValue,invoke,Act.eval,←List.map_toArray]
 ·cases h
theorem ptrs_den {N:Num}{E:Env}:∀ {l:List (Nat×Ar)} {vs:List Value},denP N E l=some vs→denLV N E (l.map fun p=> .one (.sc (.ptr p.1 p.2)))=some vs
 | [],vs,h=>h
 | (b,off)::l,vs,h=>by
  simp only[denP,aL] at h;obtain ⟨q,hq,h⟩:=h;by_cases h0:0≤off.ev N
  ·rw [bG h0] at h;simp only[aV] at h;obtain ⟨r,hr,rfl⟩:=h;obtain ⟨q,s,c⟩:=q;exact denLV_cons.2 ⟨_,r,ptr_mk hq h0,ptrs_den hr,rfl⟩
  ·rw [bC h0] at h;cases h
theorem denLV_app {N:Num}{E:Env}:∀ {l m:List SV} {us vs:List Value},denLV N E l=some us→denLV N E m=some vs→denLV N E (l++m)=some (us++vs)
 | [],m,us,vs,h,k=>by simp only[denLV,aA] at h;subst h;exact k
 | x::l,m,us,vs,h,k=>by obtain ⟨v,r,h1,h2,rfl⟩:=denLV_cons.1 h;exact denLV_cons.2 ⟨v,r++vs,h1,denLV_app h2 k,rfl⟩
theorem run_method {t:TypeId}{name:String}{f:FuncId}(h:methB P t name=some f){n:Nat}(hn:n≠0)(v:Value)(w:World):(method n t v name).run P w= .ok (f,v) w:=by
 obtain ⟨n,rfl⟩:=Nat.exists_eq_succ_of_ne_zero hn;unfold methB at h;split at h
 ·rename_i e i hu hi;split at h
  ·rename_i m hm;split at h
   ·rename_i f' hp hf;simp only[aA] at h;subst h;have hpe:m.path.toList=[]:=hp;simp only[method,bH,run_typeInfo hi,aY,hm,hpe,follow,bY,hf,receiverAt,run_underlying hu,Place.get]
   ·cases h
  ·cases h
 ·cases h
theorem run_callS {E:Env}{o:Oper}{T:Tr SV}{a:Act}{f:FuncId}{vs:List SV}(hA:RA N E n T a)(h:callS P T o.op=some (f,vs))(w:World) :
 ∃us,denLV N E vs=some us∧(execOp a.eval o).run P w=(callFunc f us.toArray).run P w:=by
 unfold callS at h;split at h
 ·rename_i f' args hco;split at h
  ·rename_i vs' hvs;simp only[aA,aD] at h;obtain ⟨rfl,rfl⟩:=h;exact ⟨_,argsS_den hA hvs,run_callOp hco w⟩
  ·cases h
 ·obtain ⟨dst,op,type,pos,after,guard⟩:=o;simp only at h;split at h
  ·rename_i x args at';have ea:∀l:Array Operand,l.map a.eval=(l.toList.map a.eval).toArray:=fun l=>by simp[←List.map_toArray]
   split at h
   ·rename_i f' l vs' hx hvs;simp only[aA,aD] at h;obtain ⟨rfl,rfl⟩:=h;have hd:=eW hA hx;simp only[SV.den,V1.den,Sc.den,aV] at hd;obtain ⟨ps,hps,hv⟩:=hd;refine ⟨_,denLV_app (argsS_den hA hvs) (ptrs_den hps),?_⟩;simp[execOp,resolve,Deferred.ofValue,invoke,←hv,ea]
   ·rename_i f' first caps vs' hx hvs
    split at h
    ·rename_i hf hc;simp only[aA,aD] at h;obtain ⟨rfl,rfl⟩:=h;have hd:=eW hA hx;simp only[SV.den,V1.den,Sc.den,cellOk,aH,aA] at hd;have h1:first= #[]:=by cases first;simp_all
     have h2:caps= #[]:=by cases caps;simp_all
     subst h1;subst h2;refine ⟨_,argsS_den hA hvs,?_⟩;simp[execOp,resolve,Deferred.ofValue,invoke,←hd,←List.map_toArray]
    ·cases h
   ·cases h
  ·rename_i x name args at';split at h
   ·rename_i t b off vs' hx hvs;split at h
    ·rename_i f' hm;simp only[aA,aD] at h;obtain ⟨rfl,rfl⟩:=h;have hd:=eW hA hx;simp only[SV.den,V1.den,Sc.den,aL] at hd;obtain ⟨⟨q,s,c⟩,hq,hv⟩:=hd;split at hv
     ·rename_i h0;simp only[aA] at hv;refine ⟨_,denLV_cons.2 ⟨_,_,ptr_mk hq h0,argsS_den hA hvs,rfl⟩,?_⟩;have ea:∀l:Array Operand,l.map a.eval=(l.toList.map a.eval).toArray:=fun l=>by simp[←List.map_toArray]
      have e0:∀(v:Value) (l:List Value),(#[v]++l.toArray:Array Value)=(v::l).toArray:=fun v l=>by simp
      have e1:∀(v:Value) (l:List Value),(v::l).toArray.extract 1 (v::l).toArray.size=l.toArray:=fun v l=>by simp
      simp only[execOp,resolve,invoke,callMethod,←hv,ea,bH,bY,aY,e0];simp only[e1,List.getElem?_toArray,eG,bH,aY,run_program,run_method hm (n:=P.types.size+Made.depth) (by unfold Made.depth;omega)]
     ·cases hv
    ·cases h
   ·cases h
  ·cases h
theorem wanted_none {o:Oper}(h:o.guard=none)(y:Nat→Option Bool):Region.wanted o y=true:=by simp[Region.wanted,h]
theorem runL_ext (hcall:CallOk F P call):∀ {l:List Oper} {T T':Tr SV} {σ σ':St},run.runL P call n l T σ=some (T',σ')→Ext σ σ'
 | [],T,T',σ,σ',h=>by simp only[run.runL,aA,aD] at h;rw[←h.2];exact Ext.refl _
 | o::l,T,T',σ,σ',h=>by
  simp only[run.runL] at h;split at h;·cases h
  ·split at h
   ·split at h
    ·rename_i hc;split at h;·exact (hcall _ _ _ _ _ hc).1.trans (runL_ext hcall h)
     ·cases h
    ·cases h
   ·split at h
    ·rename_i hop;split at h;·exact (opX_ext hop).trans (runL_ext hcall h)
     ·cases h
    ·cases h
theorem runL_sound (hcall:CallOk F P call){ops:Array Oper}{Q:Exit→Act→World→Prop}:∀ {l:List Oper} {T T':Tr SV} {σ σ':St} {E:Env} {a:Act} {w:World},
 run.runL P call n l T σ=some (T',σ')→Hold F N σ'→RA N E n T a→Inv E σ→BW N E σ.bks w →
 (∀ E' a' w',RA N E' n T' a'→Post N E σ w N E' σ' w'→Q .normal a' w')→wpList P ops Q l a w
 | [],T,T',σ,σ',E,a,w,h,hH,hA,hI,hw,hQ=>by simp only[run.runL,aA,aD] at h;obtain ⟨rfl,rfl⟩:=h;exact hQ E a w hA (Post.refl hI hw)
 | o::l,T,T',σ,σ',E,a,w,h,hH,hA,hI,hw,hQ=>by
  simp only[run.runL] at h;split at h;·cases h
  ·rename_i hg;unfold wpList;rw[bG (wanted_none hg _)];refine .inl ?_;split at h
   ·rename_i f vs hco;obtain ⟨us,hden,hrun⟩:=run_callS (P:=P) hA hco w;split at h
    ·rename_i sv σ1 hc
     ·split at h
      ·rename_i T1 hT1;have next:∀E1 u w1,Post N E σ w N E1 σ1 w1→sv.den N E1=some u→wpList P ops Q l (a.put o.dst u) w1:=fun E1 u w1 hp hu =>
        runL_sound hcall h hH (RA.put (RA.mono hp.le hA) hT1 (fun sv' e=>by simp only[aA] at e;subst e;exact hu)) hp.inv hp.bw
         (fun E' a' w' h1 h2=>hQ E' a' w' h1 (hp.trans h2))
       unfold Oper.wp;rw[hrun];rcases (hcall _ _ _ _ _ hc).2 N E _ w (eT (runL_ext hcall h) hH) hI hw hden with ⟨E1,u,h1,h2,h3⟩ | ⟨h1,h2⟩
       ·rw [h1];exact next E1 u w h2 h3
       ·rw [h1,Oper.upon_enter];refine h2.mono ?_;rintro e w1 ⟨E1,u,rfl,h3,h4⟩;exact next E1 u w1 h3 h4
      ·cases h
    ·cases h
   ·split at h
    ·rename_i v σ1 hop;split at h
     ·rename_i T1 hT1;obtain ⟨E1,w1,hp,hr⟩:=opX_sound hop hA hI (eT (runL_ext hcall h) hH) hw;have next:∀u,(∀ sv,v=some sv→sv.den N E1=some u)→wpList P ops Q l (a.put o.dst u) w1:=fun u hu =>
       runL_sound hcall h hH (RA.put (RA.mono hp.le hA) hT1 hu) hp.inv hp.bw (fun E' a' w' h1 h2=>hQ E' a' w' h1 (hp.trans h2))
      unfold Oper.wp;rcases hr with ⟨rfl,hr⟩ | ⟨sv,u,rfl,hu,hr⟩
      ·rw [hr];exact next undef (fun sv e=>by cases e)
      ·rw [hr];exact next u (fun sv' e=>by simp only[aA] at e;subst e;exact hu)
     ·cases h
    ·cases h
theorem Tr.ro_get:∀(t:Tr Bk) (k:Nat) (B:Bk),t.ro.get k=some B→∃B0,t.get k=some B0∧B={B0 with rw:=false}
 | .nil,k,B,h=>by cases h
 | .node v l r,k,B,h=>by
  simp only[Tr.ro,Tr.get] at h ⊢;cases h0:Nat.beq k 0 with
  | true =>
   rw[h0] at h;simp only[aH] at h ⊢;cases v with
   | none=>cases h
   | some B0=>simp only[aA] at h;exact ⟨B0,rfl,h.symm⟩
  | false =>
   rw[h0] at h;simp only[aQ] at h ⊢;cases h1:Nat.beq (k%2) 1 with
   | true=>rw[h1] at h;exact Tr.ro_get l _ _ h
   | false=>rw[h1] at h;exact Tr.ro_get r _ _ h
theorem BW.ro {E:Env}{bks:Tr Bk}{w:World}(h:BW N E bks w):BW N E bks.ro w:=by
 refine ⟨fun i B hB=> ?_,fun i i' B B' q s s' c c' h1 h2 h3 h4 h5 h6=> ?_⟩
 ·obtain ⟨B0,h1,rfl⟩:=Tr.ro_get _ _ _ hB;obtain ⟨q,s,c,arr,el,fz,g1,g2,g3,g4,g5⟩:=h.at' i B0 h1;exact ⟨q,s,c,arr,el,fz,g1,g2,fun e=>(by cases e),g4,g5⟩
 ·obtain ⟨B0,_,rfl⟩:=Tr.ro_get _ _ _ h1;obtain ⟨B1,_,rfl⟩:=Tr.ro_get _ _ _ h2;rcases h6 with h6 | h6 <;> cases h6
theorem Kept.ro {E:Env}{bks:Tr Bk}{w w':World}(h:Kept N E bks.ro w w'):∀q,q<w.heap.size→w'.heap[q]? =w.heap[q]? :=fun q hq =>
 h.block q hq fun i B s c h1 h2 _=>by obtain ⟨B0,_,rfl⟩:=Tr.ro_get _ _ _ h1;cases h2
def Cls (N:Num)(E0:Env)(bks0:Tr Bk)(w0 w:World):Prop:=BW N E0 bks0 w∧Kept N E0 bks0 w0 w
theorem lt_of_heap {w:World}{q:Nat}{o:Obj}(h:w.heap[q]? =some o):q<w.heap.size:=by
 rcases bL q w.heap.size with h' | h'
 ·exact h'
 ·rw [cQ h'] at h;cases h
structure Grw (w w':World):Prop where
 os:w'.os=w.os
 tape:w'.tape=w.tape
 output:w'.output=w.output
 size:w.heap.size≤w'.heap.size
 keep:∀q,q<w.heap.size→w'.heap[q]? =w.heap[q]?
theorem Cls.after {E0:Env}{bks:Tr Bk}{w0 w w':World}(hC:Cls N E0 bks w0 w)(g:Grw w w'):Cls N E0 bks w0 w':=by
 have hs:=g.keep;refine ⟨⟨fun i B hB=> ?_,hC.1.apart⟩,g.os.trans hC.2.os,g.tape.trans hC.2.tape,g.output.trans hC.2.output,Nat.le_trans hC.2.size g.size,fun q hq hno=> ?_,fun q arr el fz hq=> ?_⟩
 ·obtain ⟨q,s,c,arr,el,fz,g1,g2,g3⟩:=hC.1.at' i B hB;exact ⟨q,s,c,arr,el,fz,g1,by rw[hs q (lt_of_heap g2)];exact g2,g3⟩
 ·rw [hs q (dN hq hC.2.size),hC.2.block q hq hno]
 ·obtain ⟨arr1,h1,h2,h3⟩:=hC.2.part q arr el fz hq;exact ⟨arr1,by rw[hs q (lt_of_heap h1)];exact h1,h2,h3⟩
def Cld (N:Num)(E0:Env)(bks0:Tr Bk)(C:World→Prop):Prop:=∀w,C w→BW N E0 bks0 w∧∀w',Grw w w'→C w'
theorem Cld.cls {E0:Env}{bks0:Tr Bk}{w0:World}:Cld N E0 bks0 (Cls N E0 bks0 w0):=fun _ h=>⟨h.1,fun _ g=>h.after g⟩
theorem plain1_den {E E':Env}{x:Sc}(hx:plain1 x=true):x.den N E=x.den N E':=by
 cases x with
 | kst v=>rfl
 | num k x=>rfl
 | boo x=>rfl
 | str A=>rfl
 | opq j=>cases hx
 | ptr b off=>cases hx
 | sl b off len cap=>cases hx
 | emp j=>cases hx
 | nni j=>cases hx
 | ifp t b off=>cases hx
 | clo f l=>cases hx
theorem plainL_den {E E':Env}:∀ {l:List Sc},l.all plain1=true→denL N E l=denL N E' l
 | [],_=>rfl
 | x::l,hl=>by simp only[List.all_cons,aG] at hl;simp only[denL,plain1_den (E:=E) (E':=E') hl.1,plainL_den (E:=E) (E':=E') hl.2]
theorem plainV_den {E E':Env}{x:V1}(hx:plainV x=true):x.den N E=x.den N E':=by
 cases x with
 | sc x=>exact plain1_den hx
 | agg l=>simp only[V1.den,plainL_den (E:=E) (E':=E') hx]
theorem plainL1_den {E E':Env}:∀ {l:List V1},l.all plainV=true→denL1 N E l=denL1 N E' l
 | [],_=>rfl
 | x::l,hl=>by simp only[List.all_cons,aG] at hl;simp only[denL1,plainV_den (E:=E) (E':=E') hl.1,plainL1_den (E:=E) (E':=E') hl.2]
theorem plainSV_den {E E':Env}{x:SV}(hx:plainSV x=true):x.den N E=x.den N E':=by
 cases x with
 | one x=>exact plainV_den hx
 | tup l=>simp only[SV.den,plainL1_den (E:=E) (E':=E') hx]
theorem isFn_quiet {o:Oper}(h':isFnCall o.op=true)(hco:callOf o.op=none):False:=by
 unfold isFnCall at h';split at h'
 ·rename_i f args at' hop;rw[hop] at hco;simp only[callOf,reduceCtorEq] at hco
 ·cases h'
theorem runQ_qx (hcall:CallOk F P call):∀ {l:List Oper} {T T':Tr SV} {σ σ':St},(∀ o∈l,(quietOp o.op||isFnCall o.op)=true)→run.runQ P call n l T σ=some (T',σ')→QX σ σ'
 | [],T,T',σ,σ',_,h=>by simp only[run.runQ,aA,aD] at h;rw[←h.2];exact (Pur.refl _).qx
 | o::l,T,T',σ,σ',hq,h=>by
  have hql:∀o∈l,(quietOp o.op||isFnCall o.op)=true:=fun o' ho'=>hq o' (aJ _ ho')
  simp only[run.runQ] at h;split at h;·cases h
  ·split at h
   ·split at h
    ·split at h
     ·rename_i sv σ1 hc;cases hpl:plainSV sv with
      | false=>rw[hpl] at h;cases h
      | true =>
       rw[hpl] at h;simp only[aH] at h;split at h
       ·have he:=(hcall _ _ _ _ _ hc).1;have h1:QX σ {σ1 with bks:=σ.bks,nb:=σ.nb,nv:=σ.nv}:=⟨⟨he.defs,he.obs,he.ni,he.gl,aS _⟩,rfl,rfl⟩
        exact h1.trans (runQ_qx hcall hql h)
       ·cases h
     ·cases h
    ·cases h
   ·rename_i hco;have hqo:quietOp o.op=true:=by
     have:=hq o aN;simp only[eM] at this;rcases this with h' | h'
     ·exact h'
     ·exact (isFn_quiet h' hco).elim
    split at h
    ·rename_i hop;split at h;·exact (op1_qx hop hqo).trans (runQ_qx hcall hql h)
     ·cases h
    ·cases h
theorem runQ_sound (hcall:CallOk F P call){ops:Array Oper}{E0:Env}{bks0:Tr Bk}{w0:World}{m r:Nat}{Lq:(Nat→Nat)→Act→Prop}{pos:Nat→Nat}(hw0:BW N E0 bks0 w0) :
 ∀ {l:List Oper} {T T':Tr SV} {σ σ':St} {E:Env} {a:Act} {k:Nat},(∀ o∈l,(quietOp o.op||isFnCall o.op)=true)→(∀ j,j<l.length→ops[k+j]? =l[j]?)→k+l.length≤m →
 run.runQ P call n l T σ=some (T',σ')→Hold F N σ'→RA N E n T a→Inv E σ→σ.bks=bks0→E0.le E →
 (∀ E' a',RA N E' n T' a'→Inv E' σ'→E.le E'→E'.blk=E.blk→wpLex P ops (Cld N E0 bks0) m Lq r (k+l.length) pos a')→wpLex P ops (Cld N E0 bks0) m Lq (l.length+r) k pos a
 | [],T,T',σ,σ',E,a,k,_,_,_,h,hH,hA,hI,hb,hle,hK=>by simp only[run.runQ,aA,aD] at h;obtain ⟨rfl,rfl⟩:=h;rw[dV,bM];exact hK E a hA hI E.le_refl rfl
 | o::l,T,T',σ,σ',E,a,k,hq,hl,hkm,h,hH,hA,hI,hb,hle,hK=>by
  simp only[bU] at hkm;have h0:ops[k]? =some o:=by simpa using hl 0 (by simp)
  have hl':∀j,j<l.length→ops[k+1+j]? =l[j]? :=fun j hj=>by have:=hl (j+1) (by simp;omega);rw[dD,Nat.add_comm 1 j];simpa using this
  have hkl:k+1+l.length=k+(o::l).length:=by simp only[bU];omega
  rw[show (o::l).length+r=(l.length+r)+1 by simp only[bU];omega];rw[←hkl] at hK;simp only[run.runQ] at h;split at h;·cases h
  ·rename_i hg;have hql:∀o∈l,(quietOp o.op||isFnCall o.op)=true:=fun o' ho'=>hq o' (aJ _ ho')
   split at h
   ·rename_i f args hco;split at h
    ·rename_i vs hvs;split at h
     ·rename_i sv σ1 hc;cases hpl:plainSV sv with
      | false=>rw[hpl] at h;cases h
      | true =>
       rw[hpl] at h;simp only[aH] at h;split at h
       ·rename_i T1 hT1;have hden:=argsS_den hA hvs;have hH2:=eT (runQ_qx hcall hql h).ext hH;have hH1:Hold F N σ1:=⟨hH2.fns,hH2.defs,hH2.obs,hH2.ins⟩
        have hext:=(hcall _ _ _ _ _ hc).1;have hc':=(hcall _ _ _ _ _ hc).2 N E (args.map a.eval);have hIro:Inv E {σ with bks:=σ.bks.ro}:=⟨hI.freshB,hI.freshV,hI.glob⟩
        have hBW:∀w,BW N E0 bks0 w→BW N E σ.bks.ro w:=fun w hw=>by rw[hb];exact BW.ro (BW.mono hle hw)
        have hval:∃u,∀E2,sv.den N E2=some u:=by
         rcases hc' w0 hH1 hIro (hBW w0 hw0) hden with ⟨E1,u,_,h2,h3⟩ | ⟨_,h2⟩
         ·exact ⟨u,fun E2=>by rw[plainSV_den (E':=E1) hpl];exact h3⟩
         ·obtain ⟨e,w1,fr,⟨E1,u,_,h3,h4⟩,_⟩:=h2 [];exact ⟨u,fun E2=>by rw[plainSV_den (E':=E1) hpl];exact h4⟩
        obtain ⟨u,hu⟩:=hval;refine ⟨o,h0,.inl ⟨by omega,u,.inl ⟨wanted_none hg _,fun C hC w hw=> ?_⟩,?_⟩⟩
        ·unfold Oper.quietAt;rw[run_callOp hco];rcases hc' w hH1 hIro (hBW w (hC w hw).1) hden with ⟨E2,u2,h1,h2,h3⟩ | ⟨h1,h2⟩
         ·rw [h1];rw[hu E2] at h3;simp only[aA] at h3;exact ⟨rfl,h3.symm⟩
         ·rw [h1];refine ⟨rfl,h2.mono ?_⟩;rintro e w2 ⟨E2,u2,rfl,h3,h4⟩;rw[hu E2] at h4;simp only[aA] at h4;subst h4;exact ⟨rfl,(hC w hw).2 w2 ⟨h3.kept.os,h3.kept.tape,h3.kept.output,h3.kept.size,h3.kept.ro⟩⟩
        ·have hI2:Inv E {σ1 with bks:=σ.bks,nb:=σ.nb,nv:=σ.nv}:=⟨hI.freshB,hI.freshV,fun t sv e=>hI.glob t sv (by have:=hext.gl;simp only at this e;rw[←this];exact e)⟩
         exact runQ_sound hcall hw0 hql hl' (by omega) h hH (RA.put hA hT1 (fun sv' e=>by simp only[aA] at e;subst e;exact hu E)) hI2 hb hle hK
       ·cases h
     ·cases h
    ·cases h
   ·rename_i hco;have hqo:quietOp o.op=true:=by
     have:=hq o aN;simp only[eM] at this;rcases this with h' | h'
     ·exact h'
     ·exact (isFn_quiet h' hco).elim
    split at h
    ·rename_i v σ1 hop;split at h
     ·rename_i T1 hT1;have hqx:=op1_qx hop hqo;obtain ⟨E1,sv,u,rfl,hI1,hle1,hblk,hu,hrun⟩:=op1_quiet hop hqo hA hI (eT (runQ_qx hcall hql h).ext hH) (w0:=w0) (by rw[hb];exact BW.mono hle hw0);refine ⟨o,h0,.inl ⟨by omega,u,.inl ⟨wanted_none hg _,fun C hC w hw=> ?_⟩,?_⟩⟩
      ·unfold Oper.quietAt;rw[hrun w (by rw[hb];exact BW.mono hle (hC w hw).1)];exact ⟨rfl,rfl⟩
      ·exact runQ_sound hcall hw0 hql hl' (by omega) h hH (RA.put (RA.mono hle1 hA) hT1 (fun sv' e=>by simp only[aA] at e;subst e;exact hu)) hI1 (hqx.bks.trans hb) (hle.trans hle1)
        (fun E' a' k1 k2 k3 k4=>hK E' a' k1 k2 (hle1.trans k3) (k4.trans hblk))
     ·cases h
    ·cases h
structure FA (N:Num) (P:Program) (ops:Array Oper) (z0:Nat) (S:Nat→Prop) (pos:Nat→Nat) (w:World):Prop where
 row:∀j,S j→z0≤pos j∧∃o t l c,ops[j]? =some o∧o.op= .alloc t∧zeroB P t=some l∧(∀ E,denL N E l=some c)∧w.heap[pos j]? =some (.cells c.toArray t)
 inj:∀i j,S i→S j→i≠j→pos i≠pos j
theorem FA.of {ops:Array Oper}{z0:Nat}{S S':Nat→Prop}{pos pos':Nat→Nat}{w w':World}(h:FA N P ops z0 S pos w)(hs:∀j,S' j→S j∧pos' j=pos j)(hk:∀q,q<w.heap.size→w'.heap[q]? =w.heap[q]?) :
 FA N P ops z0 S' pos' w':=by
 refine ⟨fun j hj=> ?_,fun i j hi hj hne=> ?_⟩
 ·obtain ⟨h1,h2⟩:=hs j hj;obtain ⟨g1,o,t,l,c,g2,g3,g4,g5,g6⟩:=h.row j h1;rw[h2];exact ⟨g1,o,t,l,c,g2,g3,g4,g5,by rw[hk _ (lt_of_heap g6)];exact g6⟩
 ·rw [(hs i hi).2,(hs j hj).2];exact h.inj i j (hs i hi).1 (hs j hj).1 hne
theorem runL_alloc {o:Oper}{l:List Oper}{T:Tr SV}{σ:St}{r:Tr SV×St}(ho:isAlloc o=true)(h:run.runL P call n (o::l) T σ=some r) :
 ∃t z T1,o.op= .alloc t∧zeroB P t=some z∧put n T o.dst (some (one (.ptr σ.nb (.kst 0))))=some T1∧run.runL P call n l T1 (σ.newB z)=some r:=by
 obtain ⟨dst,op,type,pos,after,guard⟩:=o;unfold isAlloc at ho;split at ho
 ·rename_i t hop hg;simp only at hop hg;subst hop;subst hg;simp only[run.runL,callS,callOf,opX,op2,op1] at h;cases hz:zeroB P t with
  | none=>rw[hz] at h;simp only[op3] at h;cases h
  | some z =>
   rw[hz] at h;simp only at h;split at h
   ·rename_i T1 hT1;exact ⟨t,z,T1,rfl,hz,hT1,h⟩
   ·cases h
 ·cases ho
theorem runL_allocs:∀ {l tl:List Oper} {T:Tr SV} {σ:St} {r:Tr SV×St},(∀ o∈l,isAlloc o=true)→run.runL P call n (l++tl) T σ=some r→∀o∈l,∃t z,o.op= .alloc t∧zeroB P t=some z
 | [],_,_,_,_,_,_,o,ho=>by cases ho
 | x::l,tl,T,σ,r,hl,h,o,ho=>by
  obtain ⟨t,z,T1,h1,h2,_,h3⟩:=runL_alloc (hl x aN) h;rcases cD.1 ho with rfl | ho
  ·exact ⟨t,z,h1,h2⟩
  ·exact runL_allocs (fun o ho=>hl o (aJ _ ho)) h3 o ho
theorem allocs_sound (hcall:CallOk F P call){ops:Array Oper}{CC:(World→Prop)→Prop}{C:World→Prop}{E0:Env}{σ0:St}{w0:World}{z0 m n':Nat}{tl:List Oper}{Q:Exit→Act→World→Prop}{T':Tr SV}{σ':St}
 (hz0:w0.heap.size=z0) (hH:Hold F N σ') (hQ:∀E' a' w',RA N E' n T' a'→Post N E0 σ0 w0 N E' σ' w'→Q .normal a' w') :
 ∀ {l:List Oper} {T:Tr SV} {σ:St} {E:Env} {a:Act} {k:Nat} {pos:Nat→Nat},(∀ o∈l,isAlloc o=true)→(∀ j,j<l.length→ops[k+j]? =l[j]?)→m≤k→k+l.length=n' →
 run.runL P call n (l++tl) T σ=some (T',σ')→RA N E n T a→Inv E σ →
 (∀ w',C w'→FA N P ops z0 (fun j=>m≤j∧j<k) pos w'→Post N E0 σ0 w0 N E σ w') →
 (∀ i B q s c,σ.bks.get i=some B→E.blk i=some (q,s,c)→q<z0∨∃j,m≤j∧j<k∧q=pos j) →
 wpLex P ops CC m (fun pos a'=>∀w',C w'→FA N P ops z0 (fun j=>m≤j∧j<n') pos w'→wpList P ops Q tl a' w') l.length k pos a
 | [],T,σ,E,a,k,pos,_,_,_,hkn,h,hA,hI,hP,hb=>by simp only[dV,cJ] at hkn;subst hkn;intro w' hC hF;have hp:=hP w' hC hF;exact runL_sound hcall h hH hA hp.inv hp.bw fun E2 a2 w2 hA2 hp2=>hQ E2 a2 w2 hA2 (hp.trans hp2)
 | o::l,T,σ,E,a,k,pos,hl,hidx,hmk,hkn,h,hA,hI,hP,hb=>by
  have h0:ops[k]? =some o:=by simpa using hidx 0 (by simp)
  obtain ⟨t,z,T1,ho,hz,hT1,h1⟩:=runL_alloc (hl o aN) h;refine ⟨o,h0,.inr ⟨hmk,hl o aN,fun q=> ?_⟩⟩;have hself:(E.addB σ.nb (q,0,z.length)).blk σ.nb=some (q,0,z.length):=fK;have hupd:∀j,m≤j∧j<k→upd pos k q j=pos j:=fun j hj=>by simp only[upd,bC (show j≠k by omega)]
  have hne:∀i B' s' c',σ.bks.get i=some B'→E.blk i=some (q,s',c')→∀w',FA N P ops z0 (fun j=>m≤j∧j<k+1) (upd pos k q) w'→False:=fun i B' s' c' g1 g2 w' hF=>by
   have hk:=hF.row k ⟨hmk,by omega⟩;have hqk:upd pos k q k=q:=by simp only[upd,if_true]
   rw[hqk] at hk;rcases hb i B' q s' c' g1 g2 with g3 | ⟨j,g3,g4,g5⟩
   ·omega
   ·have:=hF.inj k j ⟨hmk,by omega⟩ ⟨g3,by omega⟩ (by omega);rw[hqk,hupd j ⟨g3,g4⟩] at this;exact this g5
  refine allocs_sound hcall hz0 hH hQ (l:=l) (E:=E.addB σ.nb (q,0,z.length)) (fun o ho=>hl o (aJ _ ho)) (fun j hj=> ?_) (by omega) (by simp only[bU] at hkn;omega) h1 (RA.put (RA.mono (addB_le hI) hA) hT1 fun sv e=> ?_) (addB_inv hI rfl rfl rfl)
   (fun w' hC hF=> ?_) (fun i B q' s c g1 g2=> ?_)
  ·have:=hidx (j+1) (by simp;omega);rw[dD,Nat.add_comm 1 j];simpa using this
  ·simp only[aA] at e;subst e;simp only[one,SV.den,V1.den];rw[ptr_mk hself (by simp[Ar.ev])];rfl
  ·have hp:=hP w' hC (hF.of (fun j hj=>⟨⟨hj.1,by omega⟩,(hupd j hj).symm⟩) (fun _ _=>rfl));obtain ⟨g1,o',t',l',c,g2,g3,g4,g5,g6⟩:=hF.row k ⟨hmk,by omega⟩;have:o'=o:=dP (g2.symm.trans h0);subst this;have:t'=t:=by rw[ho] at g3;simpa using g3.symm
   subst this;have:l'=z:=dP (g4.symm.trans hz);subst this;have hqk:upd pos k q k=q:=by simp only[upd,if_true]
   rw[hqk] at g1 g6;obtain ⟨k1,k2,k3,k4⟩:=addBlk0 (σ':=σ.newB l') (B:={n:=l'.length,rw:=true,cells:=trOf 0 l' .nil,arr:=none}) (s:=0) (c:=l'.length) hI hp.bw g6 (fun _=>rfl) (by simp only[Bk.wid];simp[denL_length (g5 E)]) (newB_cont (g5 E) (addB_le hI))
    (fun i B' s' c' e1 e2 _=>(hne i B' s' c' e1 e2 w' hF).elim) rfl rfl rfl rfl
   refine ⟨k2,hp.le.trans k1,k3,hp.kept,fun i B' q' s c e1 e2 e3 e4=> ?_⟩;simp only[St.newB] at e1;rw[fA] at e1;by_cases hi:i=σ.nb
   ·rw [hi,k4] at e3;simp only[aA,aD] at e3;omega
   ·rw [bC hi] at e1;simp only[Env.addB,fH hi,aQ] at e3;exact hp.win i B' q' s c e1 e2 e3 e4
  ·simp only[St.newB] at g1;rw[fA] at g1;by_cases hi:i=σ.nb
   ·rw [hi,hself] at g2;simp only[aA,aD] at g2;exact .inr ⟨k,hmk,by omega,by simp only[upd,if_true];exact g2.1.symm⟩
   ·rw [bC hi] at g1;simp only[Env.addB,fH hi,aQ] at g2;rcases hb i B q' s c g1 g2 with g3 | ⟨j,g3,g4,g5⟩
    ·exact .inl g3
    ·exact .inr ⟨j,g3,by omega,by rw[hupd j ⟨g3,g4⟩];exact g5⟩
theorem quietPrefix_take {p:Op→Bool}:∀(l:List Oper),∀o∈l.take (quietPrefix p l),(quietOp o.op||p o.op)=true
 | [],o,h=>by simp[quietPrefix] at h
 | x::l,o,h=>by
  simp only[quietPrefix] at h;cases hx:(quietOp x.op||p x.op) with
  | false=>rw[hx] at h;simp at h
  | true =>
   rw[hx] at h;simp only[aH,List.take_succ_cons,cD] at h;rcases h with rfl | h
   ·exact hx
   ·exact quietPrefix_take l o h
def Ex.den:Ex→Exit
 | .normal=> .normal
 | .exit id=> .exit id
 | .ret=> .ret
theorem BW.drawn {E:Env}{bks:Tr Bk}{w:World}{n:Nat}(h:BW N E bks w):BW N E bks {w with drawn:=n}:=⟨h.at',h.apart⟩
theorem Kept.drawn {E:Env}{bks:Tr Bk}{w:World}{n:Nat}:Kept N E bks w {w with drawn:=n} :=
 ⟨rfl,rfl,rfl,aS _,fun _ _ _=>rfl,fun _ arr _ _ h=>⟨arr,h,rfl,fun _ _=>rfl⟩⟩
theorem Kept.after_drawn {E:Env}{bks:Tr Bk}{w w1:World}{n:Nat}(h:Kept N E bks {w with drawn:=n} w1):Kept N E bks w w1 :=
 ⟨h.os,h.tape,h.output,h.size,h.block,h.part⟩
theorem Post.of_cls {E E1:Env}{σ σ1:St}{w w1:World}(hI:Inv E1 σ1)(hle:E.le E1)(hbk:E1.blk=E.blk)(hb:σ1.bks=σ.bks)(hC:BW N E σ.bks w1)(hk:Kept N E σ.bks w w1) :
 Post N E σ w N E1 σ1 w1:=by
 refine ⟨hI,hle,by rw[hb];exact BW.mono hle hC,hk,fun i B' q s c h1 h2 h3 _=> ?_⟩;rw[hb] at h1;rw[hbk] at h3;exact ⟨i,B',s,c,h1,h2,h3,aS _,aS _⟩
theorem test_pur {σ σ':St}{x:Sc}{t:Bool}(h:σ.test x=some (t,σ')):Pur σ σ':=by
 unfold St.test at h;split at h;·simp only[aA,aD] at h;rw[←h.2];exact Pur.refl _
 ·split at h
  ·rename_i ha;simp only[aA,aD] at h;rw[←h.2];exact (ask_pur ha).trans (Pur.ob _ _)
  ·cases h
 ·cases h
theorem test_holds {σ σ':St}{x:Sc}{t:Bool}{E:Env}{u:Value}(h:σ.test x=some (t,σ'))(hH:Hold F N σ')(hu:x.den N E=some u):u= .bool t:=by
 unfold St.test at h;split at h
 ·simp only[aA,aD] at h;rw[←h.1];simp only[Sc.den] at hu;exact (kst_cell hu).1
 ·split at h
  ·simp only[aA,aD] at h;obtain ⟨rfl,rfl⟩:=h;have:=hH.ob;simp only[Ob.holds] at this;simp only[Sc.den,aA] at hu;rw[←hu,this]
  ·cases h
 ·cases h
theorem quietPrefix_fn (l:List Oper):∀o∈l.take (quietPrefix (fun _=>false) l),(quietOp o.op||isFnCall o.op)=true:=fun o ho=>by
 have:=quietPrefix_take (p:=fun _=>false) l o ho;simp only[Bool.or_false] at this;simp only[this,Bool.true_or]
theorem runR_ext (hcall:CallOk F P call){l:List Oper}{m k:Nat}{T T':Tr SV}{σ σ':St}(hqp:∀o∈l.take m,(quietOp o.op||isFnCall o.op)=true)(h:run.runR P call n l.toArray m k T σ=some (T',σ')):Ext σ σ':=by
 unfold run.runR at h;simp only at h;generalize (bif Nat.beq m l.length then Region.lexB .any l.toArray else Region.lexTailB .any l.toArray (m+k))=bb at h;cases bb with
 | false=>cases h
 | true =>
  simp only[aH] at h;split at h
  ·rename_i h1;exact (runQ_qx hcall hqp h1).ext.trans (runL_ext hcall h)
  ·cases h
theorem allocPrefix_take:∀(l:List Oper),∀o∈l.take (allocPrefix l),isAlloc o=true
 | [],o,h=>by simp[allocPrefix] at h
 | x::l,o,h=>by
  simp only[allocPrefix] at h;cases hx:isAlloc x with
  | false=>rw[hx] at h;simp at h
  | true =>
   rw[hx] at h;simp only[aH,List.take_succ_cons,cD] at h;rcases h with rfl | h
   ·exact hx
   ·exact allocPrefix_take l o h
theorem runR_sound (hm:P.follows .mixedOrders=true)(hcall:CallOk F P call){id:Nat}{l:List Oper}{m k:Nat}{T T':Tr SV}{σ σ':St}{E:Env}{a:Act}{w:World}{Q:Exit→Act→World→Prop}(hqp:∀o∈l.take m,(quietOp o.op||isFnCall o.op)=true)
 (hal:∀o∈(l.drop m).take k,isAlloc o=true)
 (h:run.runR P call n l.toArray m k T σ=some (T',σ')) (hH:Hold F N σ') (hA:RA N E n T a) (hI:Inv E σ) (hw:BW N E σ.bks w) (hQ:∀E' a' w',RA N E' n T' a'→Post N E σ w N E' σ' w'→Q .normal a' w') :
 (Code.region id l.toArray true).wp P Q a w:=by
 unfold run.runR at h;simp only at h;cases hB:(bif Nat.beq m l.length then Region.lexB .any l.toArray else Region.lexTailB .any l.toArray (m+k)) with
 | false=>rw[hB] at h;cases h
 | true =>
  rw[hB] at h;simp only[aH] at h;split at h
  ·rename_i T1 σ1 h1;have hw1:BW N E σ.bks {w with drawn:=w.drawn+1}:=BW.drawn hw;have hC0:Cls N E σ.bks {w with drawn:=w.drawn+1} {w with drawn:=w.drawn+1}:=⟨hw1,Kept.refl _ _ _⟩
   have hqx:=runQ_qx hcall hqp h1;have hH1:=eT (runL_ext hcall h) hH;cases hn:Nat.beq m l.length with
   | true =>
    rw[hn] at hB;have e:=aF hn;subst e;rw[cS] at h1 hqp;rw[List.drop_length] at h;have H:=runQ_sound (ops:=l.toArray) (k:=0) (m:=l.length) (r:=0) (pos:=fun _=>0) (Lq:=fun _ a'=>∀w',Cls N E σ.bks {w with drawn:=w.drawn+1} w'→wpList P l.toArray Q [] a' w')
     hcall hw1 hqp (fun j _=>by simp) (by omega) h1 hH1 hA hI rfl E.le_refl fun E1 a1 hA1 hI1 hle1 hbk1 w1 hC1 =>
      have hp1:Post N E σ w N E1 σ1 w1:=Post.of_cls hI1 hle1 hbk1 hqx.bks hC1.1 (Kept.after_drawn hC1.2)
      runL_sound hcall h hH hA1 hI1 hp1.bw fun E2 a2 w2 hA2 hp2=>hQ E2 a2 w2 hA2 (hp1.trans hp2)
    exact wp_region_quiet hm hB hC0 (wpQuiet_of_lex Cld.cls (fun j _=>by simp) (by omega) H)
   | false =>
    rw[hn] at hB;simp only[aQ] at hB;have hnl:m+k<l.length:=by simp only[Region.lexTailB,aG,dL] at hB;simpa using hB.1.1.1.2
    have htl:(l.take m).length=m:=by simp;omega
    have hkl:((l.drop m).take k).length=k:=by simp;omega
    have hcat:(l.drop m).take k++l.drop (m+k)=l.drop m:=by rw[←List.drop_drop,List.take_append_drop]
    have hz:=runL_allocs hal (tl:=l.drop (m+k)) (by rw[hcat];exact h);refine wp_region_head (I:=fun pos listed w'=>Cls N E σ.bks {w with drawn:=w.drawn+1} w'∧FA N P l.toArray w.heap.size (fun j=>m≤j∧j<m+k∧listed.getD j false=true) pos w')
     (CC:=Cld N E σ.bks) (pos:=fun _=>0) m (m+k) hm hB ⟨hC0,fun j hj=> ?_,fun i j hi _ _=> ?_⟩ (fun pos listed i hi=> ?_) (fun pos listed i o a' w1 hmi hin hun ho hao hI1=> ?_) ?_
    ·rw [getD_replicate_false] at hj;cases hj.2.2
    ·rw [getD_replicate_false] at hi;cases hi.2.2
    ·refine ⟨fun w1 hw1=>⟨hw1.1.1,fun w2 g=>⟨hw1.1.after g,hw1.2.of (fun j hj=>⟨hj,rfl⟩) g.keep⟩⟩,fun w1 hw1=>⟨hw1.1,hw1.2.of (fun j hj=>⟨⟨hj.1,hj.2.1,?_⟩,rfl⟩) (fun _ _=>rfl)⟩⟩;rw[←getD_set_ne false (show i≠j by omega)];exact hj.2.2
    ·have hmem:o∈(l.drop m).take k:=by
      rw[List.getElem?_toArray] at ho;rw[List.mem_iff_getElem?];refine ⟨i-m,?_⟩;rw[dM,bG (by omega),cH,show m+(i-m)=i by omega];exact ho
     obtain ⟨t,z,hop,hzb⟩:=hz o hmem;obtain ⟨zv,hzr,hzd⟩:=zeroB_run (N:=N) hzb;have g:Grw w1 {w1 with heap:=w1.heap.push (.cells zv.cells t)}:=⟨rfl,rfl,rfl,by simp,fun q hq=>by simp only[Array.getElem?_push];rw[bC (by omega)]⟩
     have hun':listed.getD i false=false:=getD_both hun;refine ⟨w1.heap.size,{w1 with heap:=w1.heap.push (.cells zv.cells t)},?_,hI1.1.after g,fun j hj=> ?_,fun i1 j1 h1 h2 hne=> ?_⟩
     ·obtain ⟨dst,op,type,pos,after,guard⟩:=o;simp only at hop;subst hop;simp[execOp,Instr.alloc,hzr,newVar,newRow,ptrV]
     ·by_cases hji:j=i
      ·subst hji;simp only[upd,if_true];exact ⟨hI1.1.2.size,o,t,z,zv.cells.toList,ho,hop,hzb,hzd,by simp⟩
      ·rw [getD_set_ne false (Ne.symm hji)] at hj;obtain ⟨r1,o',t',l',c,r2,r3,r4,r5,r6⟩:=hI1.2.row j hj;simp only[upd,bC hji];exact ⟨r1,o',t',l',c,r2,r3,r4,r5,by rw[g.keep _ (lt_of_heap r6)];exact r6⟩
     ·have hlt:∀j,(m≤j∧j<m+k∧(listed.setIfInBounds i true).getD j false=true)→j≠i→pos j<w1.heap.size:=fun j hj hji=>by
       rw[getD_set_ne false (Ne.symm hji)] at hj;obtain ⟨_,_,_,_,_,_,_,_,_,r6⟩:=hI1.2.row j hj;exact lt_of_heap r6
      simp only[upd];by_cases hi1:i1=i
      ·by_cases hj1:j1=i;·exact absurd (hi1.trans hj1.symm) hne
       ·rw [bG hi1,bC hj1];have:=hlt j1 h2 hj1;omega
      ·by_cases hj1:j1=i;·rw [bC hi1,bG hj1];have:=hlt i1 h1 hi1;omega
       ·rw [bC hi1,bC hj1];rw[getD_set_ne false (Ne.symm hi1)] at h1;rw[getD_set_ne false (Ne.symm hj1)] at h2;exact hI1.2.inj i1 j1 h1 h2 hne
    ·have H:=runQ_sound (ops:=l.toArray) (l:=l.take m) (k:=0) (m:=m) (r:=k) (pos:=fun _=>0)
      (Lq:=fun pos a'=>∀w',Cls N E σ.bks {w with drawn:=w.drawn+1} w'→FA N P l.toArray w.heap.size (fun j=>m≤j∧j<m+k) pos w'→wpList P l.toArray Q (l.drop (m+k)) a' w')
      hcall hw1 hqp (fun j hj=>by rw[htl] at hj;simp[hj]) (by omega) h1 hH1 hA hI rfl E.le_refl fun E1 a1 hA1 hI1 hle1 hbk1=>by
       rw[htl,bM];have:=allocs_sound (ops:=l.toArray) (CC:=Cld N E σ.bks) (C:=Cls N E σ.bks {w with drawn:=w.drawn+1}) (E0:=E) (σ0:=σ) (w0:=w) (z0:=w.heap.size) (m:=m) (n':=m+k) (tl:=l.drop (m+k)) (Q:=Q) hcall rfl hH hQ
        (l:=(l.drop m).take k) (k:=m) (pos:=fun _=>0) hal (fun j hj=>by rw[hkl] at hj;simp[hj]) (aS _) (by rw[hkl]) (by rw[hcat];exact h) hA1 hI1
        (fun w' hC _=>Post.of_cls hI1 hle1 hbk1 hqx.bks hC.1 (Kept.after_drawn hC.2))
        (fun i B q s c e1 e2=> .inl (by rw[hqx.bks] at e1;rw[hbk1] at e2;obtain ⟨q',s',c',arr,el,fz,r1,r2,_⟩:=hw.at' i B e1;rw[e2] at r1;simp only[aA,aD] at r1;rw[r1.1];exact lt_of_heap r2))
       rw[hkl] at this;exact this
     rw[htl] at H;exact wpLex_mono (fun pos a' h listed w' hd hI'=>h w' hI'.1 (hI'.2.of (fun j hj=>⟨⟨hj.1,hj.2,hd j hj.2⟩,rfl⟩) (fun _ _=>rfl))) H
  ·cases h
def NoPan (Q:Exit→Act→World→Prop):Exit→Act→World→Prop
 | .panic _,_,_=>False
 | e,a,w=>Q e a w
theorem NoPan.imp {Q:Exit→Act→World→Prop}:∀(e:Exit) (a:Act) (w:World),NoPan Q e a w→Q e a w:=fun e a w h=>by
 cases e <;> first | exact h | exact (h:False).elim
theorem opL_sound (hcall:CallOk F P call){Q:Exit→Act→World→Prop}{K:Act→World→Prop}{o:Oper}{T T':Tr SV}{σ σ':St}{E:Env}{a:Act}{w:World}
 (h:run.runL P call n [o] T σ=some (T',σ')) (hH:Hold F N σ') (hA:RA N E n T a) (hI:Inv E σ) (hw:BW N E σ.bks w)
 (hQ:∀E' a' w',RA N E' n T' a'→Post N E σ w N E' σ' w'→K a' w'):o.guard=none∧o.wp P a w K Q:=by
 simp only[run.runL] at h;split at h;·cases h
 ·rename_i hg;refine ⟨hg,?_⟩;split at h
  ·rename_i f vs hco;obtain ⟨us,hden,hrun⟩:=run_callS (P:=P) hA hco w;split at h
   ·rename_i sv σ1 hc
    ·split at h
     ·rename_i T1 hT1;simp only[aA,aD] at h;obtain ⟨rfl,rfl⟩:=h;have next:∀E1 u w1,Post N E σ w N E1 σ1 w1→sv.den N E1=some u→K (a.put o.dst u) w1:=fun E1 u w1 hp hu =>
       hQ E1 _ w1 (RA.put (RA.mono hp.le hA) hT1 (fun sv' e=>by simp only[aA] at e;subst e;exact hu)) hp
      unfold Oper.wp;rw[hrun];rcases (hcall _ _ _ _ _ hc).2 N E _ w hH hI hw hden with ⟨E1,u,h1,h2,h3⟩ | ⟨h1,h2⟩
      ·rw [h1];exact next E1 u w h2 h3
      ·rw [h1,Oper.upon_enter];refine h2.mono ?_;rintro e w1 ⟨E1,u,rfl,h3,h4⟩;exact next E1 u w1 h3 h4
     ·cases h
   ·cases h
  ·split at h
   ·rename_i v σ1 hop;split at h
    ·rename_i T1 hT1;simp only[aA,aD] at h;obtain ⟨rfl,rfl⟩:=h;obtain ⟨E1,w1,hp,hr⟩:=opX_sound hop hA hI hH hw;have next:∀u,(∀ sv,v=some sv→sv.den N E1=some u)→K (a.put o.dst u) w1:=fun u hu=>hQ E1 _ w1 (RA.put (RA.mono hp.le hA) hT1 hu) hp
     unfold Oper.wp;rcases hr with ⟨rfl,hr⟩ | ⟨sv,u,rfl,hu,hr⟩
     ·rw [hr];exact next undef (fun sv e=>by cases e)
     ·rw [hr];exact next u (fun sv' e=>by simp only[aA] at e;subst e;exact hu)
    ·cases h
   ·cases h
theorem fF:∀ {a b:Ar},eAr a b=true→a=b
 | .var x,.var y,h=>by simp only[eAr] at h;rw[aF h]
 | .kst n,.kst m,h=>by simp only[eAr,dL] at h;rw[h]
 | .var _,.kst _,h=>by cases h
 | .kst _,.var _,h=>by cases h
theorem eL_eq {α:Type}{f:α→α→Bool}(hf:∀x y,f x y=true→x=y):∀ {l m:List α},eL f l m=true→l=m
 | [],[],_=>rfl
 | x::l,y::m,h=>by simp only[eL,aG] at h;rw[hf _ _ h.1,eL_eq hf h.2]
 | [],_::_,h=>by cases h
 | _::_,[],h=>by cases h
theorem eO_eq {α:Type}{f:α→α→Bool}(hf:∀x y,f x y=true→x=y):∀ {l m:Option α},eO f l m=true→l=m
 | none,none,_=>rfl
 | some x,some y,h=>by rw[hf x y h]
 | none,some _,h=>by cases h
 | some _,none,h=>by cases h
theorem eOp_eq {a b:BinOp}(h:eOp a b=true):a=b:=cM h
theorem fW:∀x y:Nat,Nat.beq x y=true→x=y:=fun _ _ h=>aF h
theorem eArs_eq {l m:List Ar}(h:eL eAr l m=true):l=m:=eL_eq (fun _ _=>fF) h
theorem eNats_eq {l m:List Nat}(h:eL Nat.beq l m=true):l=m:=eL_eq fW h
theorem eNd_eq {a b:Nd}(h:eNd a b=true):a=b:=by
 unfold eNd at h;split at h <;> try simp only[aG,bV,dL] at h
 ·obtain ⟨⟨⟨h1,h2⟩,h3⟩,h4⟩:=h;rw[eOp_eq h1,fT h2,fF h3,fF h4]
 ·rw [fT h.1,fF h.2]
 ·rw [eOp_eq h.1.1,fF h.1.2,fF h.2]
 ·rw [fF h.1.1,fF h.1.2,fF h.2]
 ·rw [fF h.1.1,fF h.1.2,fF h.2]
 ·rw [fF h.1.1,fF h.1.2,fF h.2]
 ·rw [fF h.1.1,fF h.1.2,fF h.2]
 ·rw [fF h.1.1,fF h.1.2,h.2]
 ·rw [fF h.1,fF h.2]
 ·rw [fW _ _ h.1,fF h.2]
 ·rw [eArs_eq h.1,fF h.2]
 ·rw [fW _ _ h]
 ·rw [fW _ _ h.1.1.1,eArs_eq h.1.1.2,eNats_eq h.1.2,fW _ _ h.2]
 ·rw [fW _ _ h.1,fW _ _ h.2]
 ·rw [fW _ _ h.1,fW _ _ h.2]
theorem eAd_eq {a b:Ad}(h:eAd a b=true):a=b:=by
 unfold eAd at h;split at h <;> try simp only[aG,bV] at h
 ·rw [eArs_eq h]
 ·rw [fW _ _ h.1.1,fF h.1.2,fF h.2]
 ·rw [fW _ _ h.1.1,fF h.1.2,fF h.2]
 ·rw [fW _ _ h.1,fW _ _ h.2]
 ·rw [fF h.1,fF h.2]
 ·rw [fW _ _ h.1.1,fF h.1.2,fW _ _ h.2]
 ·rw [fW _ _ h.1.1,eArs_eq h.1.2,eNats_eq h.2]
theorem eDf_eq {a b:Df}(h:eDf a b=true):a=b:=by
 unfold eDf at h;split at h <;> try simp only[aG,bV] at h
 ·rw [fW _ _ h.1,eNd_eq h.2]
 ·rw [fW _ _ h.1,eAd_eq h.2]
theorem eOb_eq {a b:Ob}(h:eOb a b=true):a=b:=by
 unfold eOb at h;split at h <;> try simp only[aG,bV,beq_iff_eq] at h
 ·rw [fF h.1,fF h.2]
 ·rw [fF h.1,fF h.2]
 ·rw [fF h.1,fF h.2]
 ·rw [fF h.1,fW _ _ h.2]
 ·rw [fF h.1,fW _ _ h.2]
 ·rw [fF h.1.1,fF h.1.2,fW _ _ h.2]
 ·rw [fW _ _ h.1,h.2]
 ·rw [fW _ _ h.1.1,eArs_eq h.1.2,eNats_eq h.2]
theorem eVal_eq {a b:Value}(h:eVal a b=true):a=b:=by
 unfold eVal at h;split at h;·simp only[aG,dL] at h;rw[fT h.1,h.2]
 ·rw [eq_of_beq h]
 ·rfl
 ·simp only[aG] at h;rw[fW _ _ h.1,fW _ _ h.2]
 ·simp only[aG] at h;rw[fW _ _ h.1,fW _ _ h.2]
 ·rename_i s s';have h2:s.data.toList=s'.data.toList:=List.map_inj_right (fun x y=>UInt8.toNat_inj.1) |>.1 (eNats_eq h)
  have h3:s.data=s'.data:=Array.toList_inj.1 h2;cases s;cases s';simp only at h3;rw[h3]
 ·rfl
 ·rfl
 ·rename_i f a b f' a' b';simp only[aG,List.isEmpty_iff,Array.toList_eq_nil_iff] at h;obtain ⟨⟨h1,rfl,rfl⟩,rfl,rfl⟩:=h;rw[fW _ _ h1]
 ·cases h
theorem eSc_eq {a b:Sc}(h:eSc a b=true):a=b:=by
 unfold eSc at h;split at h <;> try simp only[aG,bV] at h
 ·rw [eVal_eq h]
 ·rw [fT h.1,fW _ _ h.2]
 ·rw [fW _ _ h]
 ·rw [fW _ _ h]
 ·rw [fW _ _ h.1,fF h.2]
 ·rw [fW _ _ h.1.1.1,fF h.1.1.2,fF h.1.2,eO_eq (fun _ _=>fF) h.2]
 ·rw [fW _ _ h]
 ·rw [fW _ _ h]
 ·rw [fW _ _ h]
 ·rw [fW _ _ h.1.1,fW _ _ h.1.2,fF h.2]
 ·rw [fW _ _ h.1,eL_eq (fun p q h=>by simp only[aG] at h;exact Prod.ext (fW _ _ h.1) (fF h.2)) h.2]
theorem eV1_eq {a b:V1}(h:eV1 a b=true):a=b:=by
 unfold eV1 at h;split at h;·rw [eSc_eq h]
 ·rw [eL_eq (fun _ _=>eSc_eq) h]
 ·cases h
theorem eSV_eq {a b:SV}(h:eSV a b=true):a=b:=by
 unfold eSV at h;split at h;·rw [eV1_eq h]
 ·rw [eL_eq (fun _ _=>eV1_eq) h]
 ·cases h
theorem eTr_eq {α:Type}{f:α→α→Bool}(hf:∀x y,f x y=true→x=y):∀ {l m:Tr α},eTr f l m=true→l=m
 | .nil,.nil,_=>rfl
 | .node v l r,.node v' l' r',h=>by simp only[eTr,aG] at h;rw[eO_eq hf h.1.1,eTr_eq hf h.1.2,eTr_eq hf h.2]
 | .nil,.node _ _ _,h=>by cases h
 | .node _ _ _,.nil,h=>by cases h
theorem eBk_eq {a b:Bk}(h:eBk a b=true):a=b:=by
 obtain ⟨n,rw',c,ar⟩:=a;obtain ⟨n',rw2,c',ar'⟩:=b;simp only[eBk,aG,beq_iff_eq] at h;obtain ⟨⟨⟨h1,h2⟩,h3⟩,h4⟩:=h;have e4:ar=ar':=eO_eq (fun x y hxy=>by obtain ⟨k,A,g⟩:=x;obtain ⟨k',A',g'⟩:=y;simp only[eAB,aG,beq_iff_eq] at hxy;rw[fT hxy.1.1,fW _ _ hxy.1.2,hxy.2]) h4
 rw[fW _ _ h1,h2,eTr_eq (fun _ _=>eSc_eq) h3,e4]
theorem eSt_eq {a b:St}(h:eSt a b=true):a=b:=by
 obtain ⟨a1,a2,a3,a4,a5,a6,a7,a8,a9,a10⟩:=a;obtain ⟨b1,b2,b3,b4,b5,b6,b7,b8,b9,b10⟩:=b;simp only[eSt,aG] at h;obtain ⟨⟨⟨⟨⟨⟨⟨⟨⟨h1,h2⟩,h3⟩,h4⟩,h5⟩,h6⟩,h7⟩,h8⟩,h9⟩,h10⟩:=h;rw[fW _ _ h1,fW _ _ h2,fW _ _ h3,fW _ _ h4,fW _ _ h5,eL_eq (fun _ _=>eDf_eq) h6,eL_eq (fun _ _=>eOb_eq) h7,eL_eq (fun _ _ k=>eq_of_beq k) h8,eTr_eq (fun _ _=>eSV_eq) h9,eTr_eq (fun _ _=>eBk_eq) h10]
theorem eR_eq {a b:Tr SV×St}(h:eR a b=true):a=b:=by
 obtain ⟨T,σ⟩:=a;obtain ⟨T',σ'⟩:=b;simp only[eR,aG] at h;rw[eTr_eq (fun _ _=>eSV_eq) h.1,eSt_eq h.2]
theorem subB_mem {α:Type}{f:α→α→Bool}(hf:∀x y,f x y=true→x=y){k:Nat}{l m:List α}(h:subB f k l m=true):∀x∈m,x∈l:=fun x hx=>by
 simp only[subB,aG,bT,List.any_eq_true] at h;rw[←List.take_append_drop k m] at hx;rcases cX.1 hx with hx | hx
 ·obtain ⟨y,hy,e⟩:=h.1 x hx;rw[hf _ _ e];exact dQ hy
 ·rw [←eL_eq hf h.2] at hx;exact List.mem_of_mem_drop hx
theorem eQ_spec {k k':Nat}{T T':Tr SV}{σ σ':St}(h:eQ k k' (T,σ) (T',σ')=true):T=T'∧(Hold F N σ→Hold F N σ')∧∀ {N0:Num} {E0:Env} {σ0:St} {w0 w:World} {E:Env},Post N0 E0 σ0 w0 N E σ' w→Post N0 E0 σ0 w0 N E σ w:=by
 simp only[eQ,aG] at h;obtain ⟨⟨⟨⟨⟨⟨⟨h1,h2⟩,h3⟩,h4⟩,h5⟩,h6⟩,h7⟩,h8⟩:=h;have h2:=fW _ _ h2;have h3:=fW _ _ h3;have h4:=fW _ _ h4;have h5:=eTr_eq (fun _ _=>eSV_eq) h5;have h6:=eTr_eq (fun _ _=>eBk_eq) h6;refine ⟨eTr_eq (fun _ _=>eSV_eq) h1,fun hH=>⟨hH.fns,fun d hd=>hH.defs d (subB_mem (fun _ _=>eDf_eq) h7 d hd),fun o ho=>hH.obs o (subB_mem (fun _ _=>eOb_eq) h8 o ho),by rw[←h2];exact hH.ins⟩,fun hp=> ?_⟩;exact ⟨⟨fun b hb=>hp.inv.freshB b (by rw[←h3];exact hb),fun j hj=>hp.inv.freshV j (by rw[←h4];exact hj),fun t sv e=>hp.inv.glob t sv (by rw[←h5];exact e)⟩,hp.le,by rw[h6];exact hp.bw,hp.kept,by rw[h6];exact hp.win⟩
theorem findQ {T:Tr SV}{σ:St}{ro:Tr Bk}{ops:Array Oper}{listed:Array Bool}{i:Nat}{o:Oper}{L:List Nat}
 (h:L.find? (fun i=>match ops[i]? with | some o=>quietOp o.op&&o.guard.isNone&&Region.free .any ops listed i&&(op1 P T {σ with bks:=ro} o.op).isSome | none=>false)=some i) (ho:ops[i]? =some o) :
 quietOp o.op=true∧o.guard=none∧Region.free .any ops listed i=true∧i∈L:=by
 have h1:=List.find?_some h;simp only[ho,aG] at h1;exact ⟨h1.1.1.1,Option.isNone_iff_eq_none.1 h1.1.1.2,h1.1.2,List.mem_of_find?_eq_some h⟩
theorem Tr.onlyRo_get:∀(t:Tr Bk) (k:Nat) (B:Bk),t.onlyRo.get k=some B→t.get k=some B∧B.rw=false
 | .nil,k,B,h=>by cases h
 | .node v l r,k,B,h=>by
  simp only[Tr.onlyRo,Tr.get] at h ⊢;cases h0:Nat.beq k 0 with
  | true =>
   rw[h0] at h;simp only[aH] at h ⊢;cases v with
   | none=>cases h
   | some B0 =>
    cases hr:B0.rw with
    | true=>simp only[hr,aH] at h;cases h
    | false=>simp only[hr,aQ,aA] at h;subst h;exact ⟨rfl,hr⟩
  | false =>
   rw[h0] at h;simp only[aQ] at h ⊢;cases h1:Nat.beq (k%2) 1 with
   | true=>rw[h1] at h;exact Tr.onlyRo_get l _ _ h
   | false=>rw[h1] at h;exact Tr.onlyRo_get r _ _ h
theorem BW.onlyRo {E:Env}{bks:Tr Bk}{w w':World}(h:BW N E bks w)(k:Kept N E bks w w'):BW N E bks.onlyRo w':=by
 refine ⟨fun i B hB=> ?_,fun i i' B B' q s s' c c' h1 h2 _ _ _ h6=> ?_⟩
 ·obtain ⟨h1,h2⟩:=Tr.onlyRo_get _ _ _ hB;obtain ⟨q,s,c,arr,el,fz,g1,g2,g3,g4,g5⟩:=h.at' i B h1;obtain ⟨arr',k1,k2,k3⟩:=k.part q arr el fz g2;refine ⟨q,s,c,arr',el,fz,g1,k1,g3,by rw[k2];exact g4,cont_wid g5 fun x hx1 hx2=>k3 x fun i' B' s' c' e1 e2 e3=> ?_⟩;have hne:i≠i':=fun e=>by subst e;rw[h1] at e1;simp only[aA] at e1;subst e1;rw[h2] at e2;cases e2
  have:=h.apart i i' B B' q s s' c c' h1 e1 hne g1 e3 (.inr e2);omega
 ·have e1:=(Tr.onlyRo_get _ _ _ h1).2;have e2:=(Tr.onlyRo_get _ _ _ h2).2;rw[e1,e2] at h6;rcases h6 with h6 | h6 <;> cases h6
theorem runP_ext (hcall:CallOk F P call){ops:Array Oper}{ro:Tr Bk}:∀(f:Nat) {listed:Array Bool} {T T':Tr SV} {σ σ':St},run.runP P call n ops ro f listed T σ=some (T',σ')→Ext σ σ'
 | 0,listed,T,T',σ,σ',h=>by
  simp only[run.runP] at h;split at h;·simp only[aA,aD] at h;rw[←h.2];exact Ext.refl _
  ·cases h
 | f+1,listed,T,T',σ,σ',h=>by
  simp only[run.runP] at h;split at h
  ·split at h
   ·split at h
    ·rename_i hop;split at h;·exact (op1_ext hop).trans (runP_ext hcall f h)
     ·cases h
    ·cases h
   ·cases h
  ·split at h;·simp only[aA,aD] at h;rw[←h.2];exact Ext.refl _
   ·split at h
    ·split at h
     ·rename_i hl;exact (runL_ext hcall hl).trans (runP_ext hcall f h)
     ·cases h
    ·cases h
   ·split at h
    ·rename_i r o h1 h2;have e:some r=some (T',σ'):=by
      split at h
      ·revert h;cases eRo r _ with
       | true=>exact fun h=>h
       | false =>
        intro h;simp only[aQ] at h;split at h
        ·split at h
         ·revert h;cases eQ _ _ r _ with
          | true=>exact fun h=>h
          | false=>intro h;cases h
         ·cases h
        ·cases h
      ·cases h
     simp only[aA] at e;subst e;split at h1
     ·split at h1
      ·rename_i hl;exact (runL_ext hcall hl).trans (runP_ext hcall f h1)
      ·cases h1
     ·cases h1
    ·cases h
   ·split at h
    ·rename_i i hfind;split at h
     ·rename_i o ho;have hq:=findQ hfind ho;split at h
      ·rename_i v σ1 hop;split at h
       ·have:=(op1_qx hop hq.1).ext;exact (show Ext σ {σ1 with bks:=σ.bks} from ⟨this.defs,this.obs,this.ni,this.gl,this.nv⟩).trans (runP_ext hcall f h)
       ·cases h
      ·cases h
     ·cases h
    ·cases h
theorem runP_sound (hcall:CallOk F P call){ops:Array Oper}{ro:Tr Bk}(hsel:Region.noSelect ops=true){Q:Exit→Act→World→Prop}{E0:Env}{σ0:St}{w0:World}(hro:∀w,Kept N E0 σ0.bks w0 w→BW N E0 ro w) :
 ∀(f:Nat) {listed:Array Bool} {T T':Tr SV} {σ σ':St} {E:Env} {a:Act} {w:World},
 run.runP P call n ops ro f listed T σ=some (T',σ')→Hold F N σ'→RA N E n T a→Post N E0 σ0 w0 N E σ w→(∀ E' a' w',RA N E' n T' a'→Post N E0 σ0 w0 N E' σ' w'→Q .normal a' w') →
 wpAnyH P .any ops (NoPan Q) (Kept N E0 σ0.bks w0) f listed a w
 | 0,listed,T,T',σ,σ',E,a,w,h,hH,hA,hp,hQ=>by
  simp only[run.runP] at h;split at h
  ·rename_i hr;simp only[aA,aD] at h;obtain ⟨rfl,rfl⟩:=h;exact ⟨hr,hQ E a w hA hp⟩
  ·cases h
 | f+1,listed,T,T',σ,σ',E,a,w,h,hH,hA,hp,hQ=>by
  have hI:=hp.inv;have hw:=hp.bw;simp only[run.runP] at h;split at h
  ·rename_i i hfind;have hmem:=List.mem_of_find?_eq_some hfind;have hprop:=List.find?_some hfind;split at h
   ·rename_i o ho;simp only[ho,aG] at hprop;obtain ⟨⟨⟨hpo,hg⟩,hf⟩,_⟩:=hprop;split at h
    ·rename_i v σ1 hop;split at h
     ·rename_i T1 hT1;have hH1:=eT (runP_ext hcall f h) hH;obtain ⟨E1,sv,u,rfl,hI1,hle,hblk,hu,hrun⟩:=op1_pure hop hpo hA hI hH1;have hqx:QX σ σ1:=op1_qx hop (by
       unfold pureOp at hpo;split at hpo;·cases hpo
       ·exact hpo)
      have hp1:Post N E σ w N E1 σ1 w:=Post.of_qx hqx hI1 hle hblk hw;refine wpAnyH_take ho hsel hf (by simpa using hmem) (fun c a w h=>h) (.inl ⟨wanted_none (Option.isNone_iff_eq_none.1 hg) _,fun w _=>hrun w trivial⟩) hp.kept ?_;exact runP_sound hcall hsel hro f h hH (RA.put (RA.mono hle hA) hT1 (fun sv' e=>by simp only[aA] at e;subst e;exact hu)) (hp.trans hp1) hQ
     ·cases h
    ·cases h
   ·cases h
  ·split at h
   ·rename_i hr;simp only[aA,aD] at h;obtain ⟨rfl,rfl⟩:=h;exact wpAnyH_done (Q:=NoPan Q) hr (hQ E a w hA hp) _
   ·rename_i i hr;split at h
    ·rename_i o ho;split at h
     ·rename_i T1 σ1 hl;refine wpAnyH_all hr (by simp) fun j hj=> ?_
      have:j=i:=by simpa using hj
      subst this;have hst:=opL_sound (Q:=NoPan Q) (K:=fun a' w'=>Kept N E0 σ0.bks w0 w'∧wpAnyH P .any ops (NoPan Q) (Kept N E0 σ0.bks w0) f (listed.setIfInBounds j true) a' w') hcall hl (eT (runP_ext hcall f h) hH) hA hI hw fun E1 a1 w1 hA1 hp1 =>
       ⟨(hp.trans hp1).kept,runP_sound hcall hsel hro f h hH hA1 (hp.trans hp1) hQ⟩
      unfold wpOp;simp only[ho];rw[bG (wanted_none hst.1 _)];exact .inl hst.2
     ·cases h
    ·cases h
   ·rename_i i1 i2 hr;have one:∀ {j:Nat} {o:Oper} {T1:Tr SV} {σa σ1:St},ops[j]? =some o→run.runL P call n [o] T σa=some (T1,σ1)→σa.bks=σ.bks→Inv E σa→Hold F N σ1 →
     (∀ E1 a1 w1,RA N E1 n T1 a1→Post N E σa w N E1 σ1 w1→Kept N E0 σ0.bks w0 w1∧wpAnyH P .any ops (NoPan Q) (Kept N E0 σ0.bks w0) f (listed.setIfInBounds j true) a1 w1) →
     wpOp P ops (NoPan Q) j (fun a' w'=>Kept N E0 σ0.bks w0 w'∧wpAnyH P .any ops (NoPan Q) (Kept N E0 σ0.bks w0) f (listed.setIfInBounds j true) a' w') a w:=fun {j o T1 σa σ1} ho hl hb hI0 hH1 K=>by
     have hst:=opL_sound (Q:=NoPan Q) hcall hl hH1 hA hI0 (by rw[hb];exact hw) K;unfold wpOp;simp only[ho];rw[bG (wanted_none hst.1 _)];exact .inl hst.2
    have fst:∀ {j:Nat},(match ops[j]? with
     | some o=>match run.runL P call n [o] T σ with
      | some (T,σ)=>run.runP P call n ops ro f (listed.setIfInBounds j true) T σ
      | none=>none
     | none=>none)=some (T',σ')→wpOp P ops (NoPan Q) j (fun a' w'=>Kept N E0 σ0.bks w0 w'∧wpAnyH P .any ops (NoPan Q) (Kept N E0 σ0.bks w0) f (listed.setIfInBounds j true) a' w') a w:=fun {j} hj=>by
     split at hj
     ·rename_i o ho;split at hj
      ·rename_i T1 σ1 hl;exact one ho hl rfl hI (eT (runP_ext hcall f hj) hH) fun E1 a1 w1 hA1 hp1 =>
        ⟨(hp.trans hp1).kept,runP_sound hcall hsel hro f hj hH hA1 (hp.trans hp1) hQ⟩
      ·cases hj
     ·cases hj
    split at h
    ·rename_i r o h1 h2;split at h
     ·rename_i Tj σj hlj;have fin:r=(T',σ')→wpOp P ops (NoPan Q) i2 (fun a' w'=>Kept N E0 σ0.bks w0 w'∧wpAnyH P .any ops (NoPan Q) (Kept N E0 σ0.bks w0) f (listed.setIfInBounds i2 true) a' w') a w →
       wpAnyH P .any ops (NoPan Q) (Kept N E0 σ0.bks w0) (f+1) listed a w:=fun e h3=>by
       subst e;refine wpAnyH_all hr (by simp) fun j hj=> ?_
       simp only[cD,dX,or_false] at hj;rcases hj with rfl | rfl
       ·exact fst h1
       ·exact h3
      cases he:eRo r (run.runP P call n ops ro f (listed.setIfInBounds i2 true) Tj σj) with
      | true =>
       rw[he] at h;simp only[aH,aA] at h;refine fin h (fst (j:=i2) ?_);rw[h2];simp only[hlj];cases hr':run.runP P call n ops ro f (listed.setIfInBounds i2 true) Tj σj with
       | some r'=>rw[hr'] at he;rw[←eR_eq he,h]
       | none=>rw[hr'] at he;cases he
      | false =>
       rw[he] at h;simp only[aQ] at h;split at h
       ·rename_i Tk σk hlk;split at h
        ·rename_i r' hr';cases hq:eQ (r.2.defs.length-σ.defs.length) (r.2.obs.length-σ.obs.length) r r' with
         | false=>rw[hq] at h;cases h
         | true =>
          rw[hq] at h;simp only[aH,aA] at h;refine fin h ?_;subst h;obtain ⟨T2,σ2⟩:=r';obtain ⟨rfl,hq1,hq2⟩:=eQ_spec (F:=F) (N:=N) hq;have hH2:=hq1 hH;have hHk:Hold F N {σk with nx:=σ.nx,na:=σ.na}:=eT (runP_ext hcall f hr') hH2;exact one h2 hlk rfl ⟨hI.freshB,hI.freshV,hI.glob⟩ ⟨hHk.fns,hHk.defs,hHk.obs,hHk.ins⟩ fun E1 a1 w1 hA1 hp1 =>
           have hp2:Post N E σ w N E1 {σk with nx:=σ.nx,na:=σ.na} w1:=⟨⟨hp1.inv.freshB,hp1.inv.freshV,hp1.inv.glob⟩,hp1.le,hp1.bw,hp1.kept,hp1.win⟩
           ⟨(hp.trans hp2).kept,runP_sound hcall hsel hro f hr' hH2 hA1 (hp.trans hp2) fun E2 a2 w2 h1 h2=>hQ E2 a2 w2 h1 (hq2 h2)⟩
        ·cases h
       ·cases h
     ·cases h
    ·cases h
   ·split at h
    ·rename_i i hfind;split at h
     ·rename_i o ho;obtain ⟨hqo,hg,hf,hmem⟩:=findQ hfind ho;split at h
      ·rename_i v σ1 hop;split at h
       ·rename_i T1 hT1;have hH1:=eT (runP_ext hcall f h) hH;have hqx:=op1_qx hop hqo;obtain ⟨E1,sv,u,rfl,hI1,hle,hblk,hu,hrun⟩:=op1_quiet hop hqo hA ⟨hI.freshB,hI.freshV,hI.glob⟩ ⟨hH1.fns,hH1.defs,hH1.obs,hH1.ins⟩ (w0:=w) (BW.mono hp.le (hro w hp.kept));have hp1:Post N E σ w N E1 {σ1 with bks:=σ.bks} w:=Post.of_qx ⟨⟨hqx.ext.defs,hqx.ext.obs,hqx.ext.ni,hqx.ext.gl,hqx.ext.nv⟩,rfl,hqx.nb⟩ ⟨hI1.freshB,hI1.freshV,hI1.glob⟩ hle hblk hw
        refine wpAnyH_take ho hsel hf (by simpa using hmem) (fun c a w h=>h) (.inl ⟨wanted_none hg _,fun w2 hk=>hrun w2 (BW.mono hp.le (hro w2 hk))⟩) hp.kept ?_;exact runP_sound hcall hsel hro f h hH (RA.put (RA.mono hle hA) hT1 (fun sv' e=>by simp only[aA] at e;subst e;exact hu)) (hp.trans hp1) hQ
       ·cases h
      ·cases h
     ·cases h
    ·cases h
theorem gask_spec {T T':Tr SV}{σ σ':St}{d:Option Tmp}{t:Bool}(h:gask T σ d=some (t,T',σ')):Pur σ σ'∧(Hold F N σ'→∀ {E:Env} {a:Act},RA N E n T a→RA N E n T' a∧gval T' d=some t):=by
 unfold gask at h;split at h
 ·rename_i t' ht;simp only[aA,aD] at h;obtain ⟨rfl,rfl,rfl⟩:=h;exact ⟨Pur.refl _,fun _ _ _ hA=>⟨hA,ht⟩⟩
 ·split at h
  ·rename_i d hn;split at h
   ·rename_i x hT;split at h
    ·rename_i t' σ1 ha;simp only[aA,aD] at h;obtain ⟨rfl,rfl,rfl⟩:=h;have hp:Pur σ σ1:=by
      unfold St.ask at ha;split at ha
      ·simp only[aA,aD] at ha;rw[←ha.2];exact ⟨⟨fun _ m=>m,fun _ m=>m,rfl,rfl,aS _⟩,rfl,rfl,rfl⟩
      ·cases ha
     refine ⟨hp.trans (Pur.ob _ _),fun hH E a hA=>⟨⟨hA.size,hA.defers,fun j sv e=> ?_,fun g sv e=>hA.gl g sv (by rw[fA,bC (by omega)] at e;exact e)⟩,by simp only[gval,fA,if_true,one]⟩⟩;rw[fA] at e;by_cases hj:2*j=2*d
     ·rw [bG hj] at e;simp only[aA] at e;subst e;have hj:j=d:=by omega
      subst hj;obtain ⟨h1,u,h2,h3⟩:=hA.at' j _ hT;refine ⟨h1,u,h2,?_⟩;have hb:(!(N.i x==0))=t':=hH.ob;simp only[SV.den,V1.den,Sc.den,hb,aA] at h3;subst h3;rfl
     ·rw [bC hj] at e;exact hA.at' j sv e
    ·cases h
   ·cases h
  ·cases h
theorem runG_ext (hcall:CallOk F P call){ops:Array Oper}:∀ {l:List Oper} {T T':Tr SV} {σ σ':St},run.runG P call n ops l T σ=some (T',σ')→Ext σ σ'
 | [],T,T',σ,σ',h=>by simp only[run.runG,aA,aD] at h;rw[←h.2];exact Ext.refl _
 | o::l,T,T',σ,σ',h=>by
  simp only[run.runG] at h;split at h
  ·split at h
   ·rename_i h1;exact (runL_ext hcall h1).trans (runG_ext hcall h)
   ·cases h
  ·rename_i j b hg;split at h
   ·rename_i t T1 σ1 ht;have h0:=(gask_spec (F:=F) (N:=⟨fun _=>0,fun _=>[],F⟩) (n:=0) ht).1.ext;cases hb:(t==b) with
    | true =>
     rw[hb] at h;simp only[aH] at h;split at h
     ·rename_i h1;exact (h0.trans (runL_ext hcall h1)).trans (runG_ext hcall h)
     ·cases h
    | false =>rw[hb] at h;exact h0.trans (runG_ext hcall h)
   ·cases h
theorem RA.unput {E:Env}{T:Tr SV}{a:Act}(r:RA N E n T a)(dst:Option Tmp):RA N E n (Sy.unput T dst) (a.put dst undef):=by
 cases dst with
 | none=>exact r
 | some d =>
  refine ⟨by simp[Act.put,r.size],r.defers,fun t sv e=> ?_,fun g sv e=>r.gl g sv (by simp only[Sy.unput] at e;rw[gJ,bC (by omega)] at e;exact e)⟩;simp only[Sy.unput] at e;rw[gJ] at e;by_cases ht:t=d;·rw [bG (by omega)] at e;cases e
  ·rw [bC (by omega)] at e;obtain ⟨h1,u,h2,h3⟩:=r.at' t sv e;exact ⟨h1,u,by simp only[Act.put];rw[cU (Ne.symm ht)];exact h2,h3⟩
theorem gval_yielded {E:Env}{T:Tr SV}{a:Act}(r:RA N E n T a){ops:Array Oper}{j:Nat}{t:Bool}(h:gval T ((ops[j]?).bind (·.dst))=some t):yielded ops a.tmps j=some t:=by
 unfold gval at h;split at h
 ·rename_i d hd;split at h
  ·rename_i t' hT;simp only[aA] at h;subst h;obtain ⟨_,u,h2,h3⟩:=r.at' d _ hT;simp only[SV.den,V1.den,Sc.den,cellOk,aH,aA] at h3;subst h3;unfold yielded;rw[hd];simp only[dY,h2]
  ·cases h
 ·cases h
theorem runG_sound (hcall:CallOk F P call){ops:Array Oper}{Q:Exit→Act→World→Prop}:∀ {l:List Oper} {T T':Tr SV} {σ σ':St} {E:Env} {a:Act} {w:World},
 run.runG P call n ops l T σ=some (T',σ')→Hold F N σ'→RA N E n T a→Inv E σ→BW N E σ.bks w →
 (∀ E' a' w',RA N E' n T' a'→Post N E σ w N E' σ' w'→Q .normal a' w')→wpList P ops Q l a w
 | [],T,T',σ,σ',E,a,w,h,hH,hA,hI,hw,hQ=>by simp only[run.runG,aA,aD] at h;obtain ⟨rfl,rfl⟩:=h;exact hQ E a w hA (Post.refl hI hw)
 | o::l,T,T',σ,σ',E,a,w,h,hH,hA,hI,hw,hQ=>by
  simp only[run.runG] at h;split at h
  ·rename_i hg;split at h
   ·rename_i T1 σ1 h1;unfold wpList;rw[bG (wanted_none hg _)];refine .inl (opL_sound (Q:=Q) hcall h1 (eT (runG_ext hcall h) hH) hA hI hw fun E1 a1 w1 hA1 hp1=> ?_).2;exact runG_sound hcall h hH hA1 hp1.inv hp1.bw (fun E2 a2 w2 g1 g2=>hQ E2 a2 w2 g1 (hp1.trans g2))
   ·cases h
  ·rename_i j b hg;split at h
   ·rename_i t T0 σ0 ht;obtain ⟨hp0,hA0⟩:=gask_spec (F:=F) (N:=N) (n:=n) ht;have hP0:Post N E σ w N E σ0 w:=fD hp0 hI hw;have hH0:Hold F N σ0:=by
     cases hb:(t==b) with
     | true =>
      rw[hb] at h;simp only[aH] at h;split at h
      ·rename_i h1;exact eT ((runL_ext hcall h1).trans (runG_ext hcall h)) hH
      ·cases h
     | false=>rw[hb] at h;exact eT (runG_ext hcall h) hH
    obtain ⟨hA,ht⟩:=hA0 hH0 hA;have hy:=gval_yielded hA ht;cases hb:(t==b) with
    | true =>
     rw[hb] at h;simp only[aH] at h;split at h
     ·rename_i T1 σ1 h1;unfold wpList;rw[bG (by simp only[Region.wanted,hg,hy];simpa using hb)];refine .inl ?_;have:=(opL_sound (Q:=Q) (K:=wpList P ops Q l) hcall h1 (eT (runG_ext hcall h) hH) hA hP0.inv hP0.bw fun E1 a1 w1 hA1 hp1 =>
       runG_sound hcall h hH hA1 hp1.inv hp1.bw (fun E2 a2 w2 g1 g2=>hQ E2 a2 w2 g1 ((hP0.trans hp1).trans g2))).2
      exact this
     ·cases h
    | false =>rw[hb] at h;simp only[aQ] at h;unfold wpList;rw[bC (by simp only[Region.wanted,hg,hy];simpa using hb)];exact runG_sound hcall h hH (hA.unput o.dst) hP0.inv hP0.bw (fun E2 a2 w2 g1 g2=>hQ E2 a2 w2 g1 (hP0.trans g2))
   ·cases h
theorem run_ext (hcall:CallOk F P call):∀(fuel:Nat) {c:Code} {T T':Tr SV} {σ σ':St} {e:Ex},run P fuel call n c T σ=some (e,T',σ')→Ext σ σ'
 | 0,c,T,T',σ,σ',e,h=>by simp[run] at h
 | fuel+1,c,T,T',σ,σ',e,h=>by
  have ih:= @run_ext hcall fuel;cases c with
  | skip=>simp only[run,aA,aD] at h;rw[←h.2.2];exact Ext.refl _
  | seq x y =>
   simp only[run] at h;split at h;·rename_i h1;exact (ih h1).trans (ih h)
   ·exact ih h
  | cond x t f =>
   simp only[run] at h;split at h
   ·split at h;·rename_i h1;exact (test_pur h1).ext.trans (ih h)
    ·cases h
   ·cases h
  | block id b =>
   simp only[run] at h;split at h
   ·rename_i j T1 σ1 h1;cases hj:Nat.beq j id with
    | true=>rw[hj] at h;simp only[aH,aA,aD] at h;rw[←h.2.2];exact ih h1
    | false=>rw[hj] at h;simp only[aQ,aA,aD] at h;rw[←h.2.2];exact ih h1
   ·exact ih h
  | loop b =>
   simp only[run] at h;split at h;·rename_i h1;exact (ih h1).trans (ih h)
   ·exact ih h
  | exit id=>simp only[run,aA,aD] at h;rw[←h.2.2];exact Ext.refl _
  | ret=>simp only[run,aA,aD] at h;rw[←h.2.2];exact Ext.refl _
  | region id ops draw =>
   simp only[run] at h;cases draw with
   | false =>
    simp only[aQ] at h;split at h
    ·rename_i h1;simp only[aA,aD] at h;rw[←h.2.2];exact runL_ext hcall h1
    ·split at h
     ·rename_i h1;simp only[aA,aD] at h;rw[←h.2.2];exact runG_ext hcall h1
     ·cases h
   | true =>
    simp only[aH] at h;obtain ⟨l⟩:=ops;split at h
    ·rename_i h1;simp only[aA,aD] at h;rw[←h.2.2];exact runR_ext hcall (quietPrefix_take (p:=isFnCall) l) h1
    ·split at h
     ·rename_i h1;simp only[aA,aD] at h;rw[←h.2.2];exact runR_ext hcall (quietPrefix_fn l) h1
     ·split at h
      ·rename_i h1;simp only[aA,aD] at h;split at h1;·cases h1
       ·rw [←h.2.2];exact runR_ext hcall (quietPrefix_take (p:=isFnCall) l) h1
      ·split at h
       ·rename_i h1;simp only[aA,aD] at h;cases hs:Region.noSelect l.toArray with
        | false=>rw[hs] at h1;cases h1
        | true=>rw[hs] at h1;rw[←h.2.2];exact runP_ext hcall _ h1
       ·cases h
  | rangeFunc f ps az b=>simp[run] at h
  | scope b=>simp[run] at h
  | label l=>simp[run] at h
  | goto l=>simp[run] at h
  | refuse s=>simp[run] at h
theorem run_sound (hm:P.follows .mixedOrders=true)(hcall:CallOk F P call):∀(fuel:Nat),
 (∀ {c:Code} {T T':Tr SV} {σ σ':St} {e:Ex} {E:Env} {a:Act} {w:World} {Q:Exit→Act→World→Prop},
  run P fuel call n c T σ=some (e,T',σ')→Hold F N σ'→RA N E n T a→Inv E σ→BW N E σ.bks w →
  (∀ E' a' w',RA N E' n T' a'→Post N E σ w N E' σ' w'→Q e.den a' w')→c.wp P Q a w) ∧
 (∀ {b:Code} {T T':Tr SV} {σ σ':St} {e:Ex} {E:Env} {a:Act} {w:World} {Q:Exit→Act→World→Prop},
  run P fuel call n (.loop b) T σ=some (e,T',σ')→Hold F N σ'→RA N E n T a→Inv E σ→BW N E σ.bks w →
  (∀ E' a' w',RA N E' n T' a'→Post N E σ w N E' σ' w'→Q e.den a' w')→Code.rounds P b Q fuel a w)
 | 0=>⟨fun h=>by simp[run] at h,fun h=>by simp[run] at h⟩
 | fuel+1=>by
  have ih:=run_sound hm hcall fuel;have rounds:∀ {b:Code} {T T':Tr SV} {σ σ':St} {e:Ex} {E:Env} {a:Act} {w:World} {Q:Exit→Act→World→Prop},
   run P (fuel+1) call n (.loop b) T σ=some (e,T',σ')→Hold F N σ'→RA N E n T a→Inv E σ→BW N E σ.bks w →
   (∀ E' a' w',RA N E' n T' a'→Post N E σ w N E' σ' w'→Q e.den a' w')→Code.rounds P b Q (fuel+1) a w:=by
   intro b T T' σ σ' e E a w Q h hH hA hI hw hQ;rw[rounds_succ];simp only[run] at h;split at h
   ·rename_i T1 σ1 h1;refine ih.1 h1 (eT (run_ext hcall _ h) hH) hA hI hw fun E1 a1 w1 hA1 hp1=> ?_
    exact ih.2 h hH hA1 hp1.inv hp1.bw fun E2 a2 w2 hA2 hp2=>hQ E2 a2 w2 hA2 (hp1.trans hp2)
   ·rename_i hne;refine ih.1 h hH hA hI hw fun E1 a1 w1 hA1 hp1=> ?_
    have:=hQ E1 a1 w1 hA1 hp1;cases e with
    | normal=>exact absurd h (hne _ _)
    | exit id=>exact this
    | ret=>exact this
  refine ⟨?_,rounds⟩;intro c T T' σ σ' e E a w Q h hH hA hI hw hQ;cases c with
  | skip =>simp only[run,aA,aD] at h;obtain ⟨rfl,rfl,rfl⟩:=h;exact wp_skip (hQ E a w hA (Post.refl hI hw))
  | seq x y =>
   simp only[run] at h;apply wp_seq;split at h
   ·rename_i T1 σ1 h1;refine ih.1 h1 (eT (run_ext hcall _ h) hH) hA hI hw fun E1 a1 w1 hA1 hp1=> ?_
    exact ih.1 h hH hA1 hp1.inv hp1.bw fun E2 a2 w2 hA2 hp2=>hQ E2 a2 w2 hA2 (hp1.trans hp2)
   ·rename_i hne;refine ih.1 h hH hA hI hw fun E1 a1 w1 hA1 hp1=> ?_
    have:=hQ E1 a1 w1 hA1 hp1;cases e with
    | normal=>exact absurd h (hne _ _)
    | exit id=>exact this
    | ret=>exact this
  | cond x t f =>
   simp only[run] at h;split at h
   ·rename_i y hy;split at h
    ·rename_i b σ1 h1;have hH1:=eT (run_ext hcall _ h) hH;refine wp_cond (test_holds (E:=E) h1 hH1 (eW hA hy)) ?_;have:(if b=true then t else f)=(bif b then t else f):=by cases b <;> rfl
     rw[this];have hp:Post N E σ w N E σ1 w:=fD (test_pur h1) hI hw;exact ih.1 h hH hA hp.inv hp.bw fun E1 a1 w1 hA1 hp1=>hQ E1 a1 w1 hA1 (hp.trans hp1)
    ·cases h
   ·cases h
  | block id b =>
   simp only[run] at h;apply wp_block;split at h
   ·rename_i j T1 σ1 h1;cases hj:Nat.beq j id with
    | true =>
     rw[hj] at h;simp only[aH,aA,aD] at h;obtain ⟨rfl,rfl,rfl⟩:=h;refine ih.1 h1 hH hA hI hw fun E1 a1 w1 hA1 hp1=> ?_
     simp only[Ex.den,Exit.inBlock];rw[bG (aF hj)];exact hQ E1 a1 w1 hA1 hp1
    | false =>
     rw[hj] at h;simp only[aQ,aA,aD] at h;obtain ⟨rfl,rfl,rfl⟩:=h;refine ih.1 h1 hH hA hI hw fun E1 a1 w1 hA1 hp1=> ?_
     simp only[Ex.den,Exit.inBlock];rw[bC (fun e=>by rw[fY e] at hj;cases hj)];exact hQ E1 a1 w1 hA1 hp1
   ·rename_i hne;refine ih.1 h hH hA hI hw fun E1 a1 w1 hA1 hp1=> ?_
    have:=hQ E1 a1 w1 hA1 hp1;cases e with
    | normal=>exact this
    | exit id=>exact absurd h (hne _ _ _)
    | ret=>exact this
  | loop b=>exact wp_loop_rounds (fuel+1) (rounds h hH hA hI hw hQ)
  | exit id =>simp only[run,aA,aD] at h;obtain ⟨rfl,rfl,rfl⟩:=h;exact wp_exit (hQ E a w hA (Post.refl hI hw))
  | ret =>simp only[run,aA,aD] at h;obtain ⟨rfl,rfl,rfl⟩:=h;exact wp_ret (hQ E a w hA (Post.refl hI hw))
  | region id ops draw =>
   simp only[run] at h;cases draw with
   | false =>
    simp only[aQ] at h;split at h
    ·rename_i T1 σ1 h1;simp only[aA,aD] at h;obtain ⟨rfl,rfl,rfl⟩:=h;exact wp_region_list (runL_sound hcall h1 hH hA hI hw hQ)
    ·split at h
     ·rename_i T1 σ1 h1;simp only[aA,aD] at h;obtain ⟨rfl,rfl,rfl⟩:=h;exact wp_region_list (runG_sound hcall h1 hH hA hI hw hQ)
     ·cases h
   | true =>
    simp only[aH] at h;obtain ⟨l⟩:=ops;split at h
    ·rename_i h1;simp only[aA,aD] at h;obtain ⟨rfl,rfl,rfl⟩:=h;exact runR_sound hm hcall (quietPrefix_take (p:=isFnCall) l) (fun o ho=>by simp at ho) h1 hH hA hI hw hQ
    ·split at h
     ·rename_i h1;simp only[aA,aD] at h;obtain ⟨rfl,rfl,rfl⟩:=h;exact runR_sound hm hcall (quietPrefix_fn l) (fun o ho=>by simp at ho) h1 hH hA hI hw hQ
     ·split at h
      ·rename_i h1;simp only[aA,aD] at h;obtain ⟨rfl,rfl,rfl⟩:=h;split at h1;·cases h1
       ·rename_i k hk;exact runR_sound hm hcall (quietPrefix_take (p:=isFnCall) l) (by have e:=allocPrefix_take (l.drop (quietPrefix isFnCall l));rw[hk] at e;exact e) h1 hH hA hI hw hQ
      ·split at h
       ·rename_i h1;simp only[aA,aD] at h;obtain ⟨rfl,rfl,rfl⟩:=h;cases hs:Region.noSelect l.toArray with
        | false=>rw[hs] at h1;cases h1
        | true =>rw[hs] at h1;refine wp_mono ?_ NoPan.imp;refine wp_region_any hm ?_;have hw1:BW N E σ.bks {w with drawn:=w.drawn+1}:=BW.drawn hw;exact wpAny_of_held _ _ _ _ (runP_sound hcall hs (fun w2 hk=>hw1.onlyRo hk) _ h1 hH hA (Post.refl hI hw1) (fun E' a' w' h1 h2=>hQ E' a' w' h1 ⟨h2.inv,h2.le,h2.bw,Kept.after_drawn h2.kept,h2.win⟩))
       ·cases h
  | rangeFunc f ps az b=>simp[run] at h
  | scope b=>simp[run] at h
  | label l=>simp[run] at h
  | goto l=>simp[run] at h
  | refuse s=>simp[run] at h
end
end Go.Sy
