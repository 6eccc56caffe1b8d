/- The symbolic executor's operations are sound: copy, make, all of them. The symbolic executor's operations are sound: strings. The symbolic executor's operations are sound: all of them. -/
import Derived.Test.YtlcljhlijmombaaSy4
import Derived.Laws.BytesArg
namespace Go.Sy
section
variable {P:Program} {F:Fns} {N:Num} {E:Env} {σ σ':St} {n:Nat} {T:Tr SV} {a:Act} {v:Option SV} {dst:Option Tmp} {type:TypeId} {pos:String} {after:Array Edge} {guard:Option (Nat×Bool)}
theorem copy_some {t tx ty e:TypeId}(ht:P.underlying t=some (.slice e))(he:sizeB P e=some 1){ad:Addr}{dLen dCap m:Nat}{x:Value}{news:List Value}{w w':World}
  (hlen:(Builtin.lenOf x).run P w= .ok m w) (hcells:(Builtin.firstCells 1 (Nat.min m dLen) x).run P w= .ok news.toArray w) (hst:(storeCells ad news 0).run P w= .ok () w') :
  (Builtin.copy_ #[t,tx] ty #[.slice (some ad) dLen dCap,x]).run P w= .ok (.int .i64 (Nat.min m dLen:Nat)) w':=by
 simp[Builtin.copy_,run_underlying ht,hlen,run_sizeOf he,hcells,hst,goInt]
theorem copy_none {t tx ty e:TypeId}(ht:P.underlying t=some (.slice e))(he:sizeB P e=some 1){dCap m:Nat}{x:Value}{news:List Value}{w:World}
  (hlen:(Builtin.lenOf x).run P w= .ok m w) (hcells:(Builtin.firstCells 1 0 x).run P w= .ok news.toArray w) :
  (Builtin.copy_ #[t,tx] ty #[.slice none 0 dCap,x]).run P w= .ok (.int .i64 0) w:=by
 have e0:Nat.min m 0=0:=Nat.min_zero m
 simp[Builtin.copy_,run_underlying ht,hlen,run_sizeOf he,hcells,goInt]
theorem mnA_pur {x y:Ar}:Pur σ (mnA x y σ).2:=by
 unfold mnA
 split
 ·exact Pur.refl _
 ·generalize mnA.arB' _ _=bb
  cases bb with
  | true=>exact Pur.refl _
  | false=>exact Pur.mk1 _ _
theorem mnA_ev {x y:Ar}(hH:Hold F N (mnA x y σ).2):((mnA x y σ).1.ev N).toNat=Nat.min (x.ev N).toNat (y.ev N).toNat:=by
 have key:∀p q:Int,(if q<p then q else p).toNat=Nat.min p.toNat q.toNat:=fun p q=>by
  have:Nat.min p.toNat q.toNat=if p.toNat≤q.toNat then p.toNat else q.toNat:=by
   by_cases h:p.toNat≤q.toNat
   ·rw [if_pos h];exact Nat.min_eq_left h
   ·rw [if_neg h];exact Nat.min_eq_right (by omega)
  rw[this]
  split <;> split <;> omega
 have gen:∀ {x y:Ar},Hold F N (bif mnA.arB' x y then (x,σ) else (.var σ.nx,σ.mk1 (.mn x y))).2→((bif mnA.arB' x y then (x,σ) else (Ar.var σ.nx,σ.mk1 (.mn x y))).1.ev N).toNat=Nat.min (x.ev N).toNat (y.ev N).toNat:=fun {x y} hH=>by
  cases hb:mnA.arB' x y with
  | true =>
   simp only[cond_true]
   have:x=y:=by
    cases x <;> cases y <;> simp only[mnA.arB',Bool.false_eq_true] at hb
    rw[Nat.eq_of_beq_eq_true hb]
   subst this
   exact (Nat.min_self _).symm
  | false =>
   rw[hb] at hH
   have:N.i σ.nx=_:=hH.mk1
   simp only[cond_false,Ar.ev,this,Nd.ev]
   exact key _ _
 cases x <;> cases y
 case kst.kst p q=>exact key p q
 all_goals exact gen hH
theorem copyS_ext {k:IntKind}{tx:TypeId}{d x sv:SV}(h:copyS P k tx d x σ=some (sv,σ')):Ext σ σ':=by
 unfold copyS at h
 split at h
 ·split at h
  ·rename_i r hr
   simp only[Option.some.injEq] at h
   subst h
   split at hr
   ·split at hr
    ·split at hr
     ·split at hr
      ·split at hr
       ·rename_i hl
        split at hr
        ·rename_i hs
         simp only[Option.some.injEq,Prod.mk.injEq] at hr
         rw[←hr.2];exact (loadN_pur hl).ext.trans (storeL_ext hs)
        ·cases hr
       ·cases hr
      ·cases hr
     ·cases hr
    ·cases hr
   ·cases hr
  ·split at h
   ·split at h
    ·rename_i hr
     split at h
     ·rename_i hw
      simp only[Option.bind_eq_some_iff] at hw
      obtain ⟨σ1,h1,h2⟩:=hw
      simp only[Option.some.injEq,Prod.mk.injEq] at h
      rw[←h.2];exact ((mnA_pur.trans (rng_pur hr)).trans (le_pur h1)).ext.trans (wrt_ext h2)
     ·cases h
    ·cases h
   ·simp only[Option.some.injEq,Prod.mk.injEq] at h;rw[←h.2];exact Ext.refl _
   ·simp only[Option.some.injEq,Prod.mk.injEq] at h;rw[←h.2];exact Ext.refl _
   ·split at h
    ·cases hk:kindB k .u8 with
     | false=>rw[hk] at h;cases h
     | true =>
      rw[hk] at h
      simp only[cond_true] at h
      split at h
      ·rename_i hs
       simp only[Option.some.injEq,Prod.mk.injEq] at h;rw[←h.2];exact storeL_ext hs
      ·cases h
    ·cases h
   ·cases h
 ·split at h
  ·simp only[Option.some.injEq,Prod.mk.injEq] at h;rw[←h.2];exact Ext.refl _
  ·cases h
 ·cases h
theorem strCells_den:∀(l:List UInt8),denL N E (l.map fun b=>Sc.kst (.int .u8 b.toNat))=some (l.map fun b=> .int .u8 b.toNat)
 | []=>rfl
 | b::l=>by
  simp only[List.map_cons]
  exact denL_cons.2 ⟨_,_,rfl,strCells_den l,rfl⟩
theorem arV_den {k:IntKind}{x:Ar}:(one (arV k x)).den N E=some (.int k (x.ev N)):=by
 cases x <;> rfl
set_option maxHeartbeats 2000000 in
theorem copyS_sound {k:IntKind}{t tx ty e:TypeId}{d x sv:SV}{ud ux:Value}{w:World}(h:copyS P k tx d x σ=some (sv,σ'))(ht:P.underlying t=some (.slice e))(he:elemK P e=some k)
  (hd:d.den N E=some ud) (hx:x.den N E=some ux) (hH:Hold F N σ') (hI:Inv E σ) (hw:BW N E σ.bks w) :
  ∃w' u,(Builtin.copy_ #[t,tx] ty #[ud,ux]).run P w= .ok u w'∧Post N E σ w N E σ' w'∧sv.den N E=some u:=by
 have hsz:=elemK_size he
 unfold copyS at h
 split at h
 ·rename_i b off len cap
  have hd':(Sc.sl b off len cap).den N E=some ud:=hd
  obtain ⟨q,s,c,mm,hb,h0,rfl,hmm,hcc⟩:=sl_den hd'
  split at h
  ·rename_i r hr
   simp only[Option.some.injEq] at h
   subst h
   split at hr
   ·rename_i b' o' l' cap' e' o hu
    split at hr
    ·rename_i l
     split at hr
     ·split at hr
      ·split at hr
       ·rename_i vs σ1 hl
        split at hr
        ·rename_i σ2 hs
         simp only[Option.some.injEq,Prod.mk.injEq] at hr
         obtain ⟨rfl,rfl⟩:=hr
         have hx':(Sc.sl b' (.kst (.ofNat o')) (.kst (.ofNat l')) cap').den N E=some ux:=hx
         obtain ⟨q',s',c',mm',hb',_,rfl,_⟩:=sl_den hx'
         have eo:((Ar.kst (Int.ofNat o)).ev N).toNat=o:=rfl
         have eo':((Ar.kst (Int.ofNat o')).ev N).toNat=o':=rfl
         have el:((Ar.kst (Int.ofNat l)).ev N).toNat=l:=rfl
         have el':((Ar.kst (Int.ofNat l')).ev N).toNat=l':=rfl
         rw[eo,el,eo',el']
         have hH1:=Hold.of_ext (storeL_ext hs) hH
         obtain ⟨us,g1,g2,g3⟩:=loadN_at hl hH1 hw hb'
         have hp:Post N E σ w N E σ1 w:=Post.of_pur (loadN_pur hl) hI hw
         obtain ⟨w',r1,r2⟩:=storeL_sound (P:=P) (base:=o) (i:=0) hb hs hH g1 rfl hp.bw hp.inv
         refine ⟨w',_,copy_some ht hsz (m:=l') (news:=us) rfl (run_firstCells_some w 1 _ _ _ _ us (by rw[g2];simp) (fun j u hj=>by rw[Addr.add_lit];exact g3 j u hj)) r1,hp.trans r2,rfl⟩
        ·cases hr
       ·cases hr
      ·cases hr
     ·cases hr
    ·cases hr
   ·cases hr
  ·split at h
   ·rename_i b' off' len' cap' e' hu _
    have hx':(Sc.sl b' off' len' cap').den N E=some ux:=hx
    obtain ⟨q',s',c',mm',hb',h0',rfl,_⟩:=sl_den hx'
    split at h
    ·rename_i X σ1 hr
     split at h
     ·rename_i σ3 hwr
      simp only[Option.bind_eq_some_iff] at hwr
      obtain ⟨σ2,hl,hwr⟩:=hwr
      simp only[Option.some.injEq,Prod.mk.injEq] at h
      obtain ⟨rfl,rfl⟩:=h
      have hH2:=Hold.of_ext (wrt_ext hwr) hH
      have hH1:=Hold.of_ext (le_pur hl).ext hH2
      have hHm:=Hold.of_ext (rng_pur hr).ext hH1
      have em:=mnA_ev hHm
      have hpm:Post N E σ w N E (mnA len' len σ).2 w:=Post.of_pur mnA_pur hI hw
      obtain ⟨q2,s2,c2,k1,k2,k3,k4,k5⟩:=rng_at hr hH1 hpm.bw
      rw[hb'] at k1
      simp only[Option.some.injEq,Prod.mk.injEq] at k1
      obtain ⟨rfl,rfl,rfl⟩:=k1
      have hp:Post N E σ w N E σ2 w:=Post.of_pur ((mnA_pur.trans (rng_pur hr)).trans (le_pur hl)) hI hw
      obtain ⟨w',r1,r2⟩:=wrt_sound (P:=P) hwr hb hH hp.bw hp.inv k4
      refine ⟨w',_,copy_some ht hsz (m:=(len'.ev N).toNat) (news:=intsV k (N.a X)) rfl (run_firstCells_some w 1 _ _ _ _ _ (by simp[intsV,k4,em]) (fun j u hj=>by
       obtain ⟨y,hy,rfl⟩:=intsV_get hj
       rw[Addr.add_lit];exact k5 j y hy)) r1,hp.trans r2,?_⟩
      rw[arV_den,←em,Int.toNat_of_nonneg k3]
     ·cases h
    ·cases h
   ·rename_i c0 e' hu _
    simp only[Option.some.injEq,Prod.mk.injEq] at h
    obtain ⟨rfl,rfl⟩:=h
    have:=kst_den hx
    subst this
    have e0:Nat.min 0 (len.ev N).toNat=0:=Nat.zero_min _
    refine ⟨w,_,copy_some ht hsz (m:=0) (news:=[]) (w':=w) rfl (by rw[e0];exact run_firstCells_none w 1 0 0 c0) rfl,Post.refl hI hw,?_⟩
    rw[e0];rfl
   ·rename_i j e' hu _
    simp only[Option.some.injEq,Prod.mk.injEq] at h
    obtain ⟨rfl,rfl⟩:=h
    have hx':(Sc.emp j).den N E=some ux:=hx
    simp only[Sc.den] at hx'
    have e0:Nat.min 0 (len.ev N).toNat=0:=Nat.zero_min _
    split at hx'
    ·rename_i aa cc _
     simp only[Option.some.injEq] at hx'
     subst hx'
     have hfc:(Builtin.firstCells 1 0 (.slice aa 0 cc)).run P w= .ok #[] w:=by
      cases aa with
      | none=>exact run_firstCells_none w 1 0 0 cc
      | some ad=>exact run_firstCells_some w 1 0 ad 0 cc [] rfl (fun j u hj=>by simp at hj)
     refine ⟨w,_,copy_some ht hsz (m:=0) (news:=[]) (w':=w) rfl (by rw[e0];exact hfc) rfl,Post.refl hI hw,?_⟩
     rw[e0];rfl
    ·cases hx'
   ·rename_i s hu _
    have:=kst_den hx
    subst this
    split at h
    ·rename_i o l _
     cases hk:kindB k .u8 with
     | false=>rw[hk] at h;cases h
     | true =>
      have:=kindB_eq hk;subst this
      rw[hk] at h
      simp only[cond_true] at h
      split at h
      ·rename_i σ1 hs
       simp only[Option.some.injEq,Prod.mk.injEq] at h
       obtain ⟨rfl,rfl⟩:=h
       have eo:((Ar.kst (Int.ofNat o)).ev N).toNat=o:=rfl
       have el:((Ar.kst (Int.ofNat l)).ev N).toNat=l:=rfl
       rw[eo,el]
       obtain ⟨w',r1,r2⟩:=storeL_sound (P:=P) (base:=o) (i:=0) hb hs hH (strCells_den (N:=N) (E:=E) _) rfl hw hI
       refine ⟨w',_,copy_some ht hsz (m:=s.size) rfl ?_ r1,r2,rfl⟩
       simp[Builtin.firstCells]
       apply Array.ext'
       simp
      ·cases h
    ·cases h
   ·cases h
 ·rename_i dc
  have:=kst_den hd
  subst this
  split at h
  ·rename_i b' off' len' cap' e' hu
   simp only[Option.some.injEq,Prod.mk.injEq] at h
   obtain ⟨rfl,rfl⟩:=h
   have hx':(Sc.sl b' off' len' cap').den N E=some ux:=hx
   obtain ⟨q',s',c',mm',hb',h0',rfl,_⟩:=sl_den hx'
   exact ⟨w,_,copy_none ht hsz (news:=[]) rfl (run_firstCells_some w 1 0 _ _ _ [] rfl (fun j u hj=>by simp at hj)),Post.refl hI hw,rfl⟩
  ·cases h
 ·cases h
theorem makeSlice_run {t e:TypeId}{k k1 k2:IntKind}(ht:P.underlying t=some (.slice e))(he:elemK P e=some k){l c:Int}(h0:0≤l)(h1:l≤c)(h2:c≤1099511627776)(w:World) :
  ∃arr0:Array Value,(Instr.makeSlice t (.int k1 l) (.int k2 c)).run P w= .ok (.slice (some ⟨w.heap.size,0,none⟩) l.toNat c.toNat) {w with heap:=w.heap.push (.cells arr0 e)}∧arr0.size=c.toNat∧∀j,j<c.toNat→arr0[j]? =some (.int k 0):=by
 obtain ⟨_,i,hi,hsz,hby,hz⟩:=elemK_spec he
 have hwl:IntKind.i64.wrap l=l:=by simp[IntKind.wrap,IntKind.signed,IntKind.bits];omega
 have hwc:IntKind.i64.wrap c=c:=by simp[IntKind.wrap,IntKind.signed,IntKind.bits];omega
 have hb1:(i.bytes:Int)*c≤8*1099511627776:=Int.mul_le_mul (by omega) h2 (by omega) (by omega)
 have hb2:c.toNat*i.bytes≤1099511627776*8:=Nat.mul_le_mul (by omega) hby
 have hn1:¬(c<0):=by omega
 have hn2:¬(281474976710656<(i.bytes:Int)*c):=by omega
 have hn3:¬(l<0):=by omega
 have hn4:¬(c<l):=by omega
 have hn5:¬(roomBytes<c.toNat*i.bytes):=by
  have:roomBytes=140737488355328:=by decide
  rw[this];omega
 by_cases hc0:c.toNat=0
 ·refine ⟨Array.map (fun _=>default) (Array.range 0),?_,by simp[hc0],fun j hj=>by omega⟩
  simp[Instr.makeSlice,run_underlying ht,typeInfo,hi,asInt,asIntOf,hwl,hwc,hn1,hn2,hn3,hn4,askRoom,sizeOf,hc0,newRow]
 ·refine ⟨(Array.range c.toNat).map fun x=>(#[Value.int k 0])[x%1]!,?_,by simp,fun j hj=>by simp[hj,Nat.mod_one]⟩
  simp[Instr.makeSlice,run_underlying ht,typeInfo,hi,asInt,asIntOf,hwl,hwc,hn1,hn2,hn3,hn4,askRoom,sizeOf,hsz,hc0,newRow,zeroValue,hz,Value.cells]
end
section
variable {P:Program} {F:Fns} {N:Num} {E:Env} {σ σ':St} {n:Nat} {T:Tr SV} {a:Act} {v:Option SV} {dst:Option Tmp} {type:TypeId} {pos:String} {after:Array Edge} {guard:Option (Nat×Bool)}
theorem strA_pur {x:Sc}{A:Nat}(h:strA x σ=some (A,σ')):Pur σ σ':=by
 unfold strA at h
 split at h
 ·simp only[Option.some.injEq,Prod.mk.injEq] at h;rw[←h.2];exact Pur.refl _
 ·simp only[Option.some.injEq,Prod.mk.injEq] at h;rw[←h.2];exact Pur.mkA _ _
 ·cases h
theorem strA_at {x:Sc}{A:Nat}{u:Value}(h:strA x σ=some (A,σ'))(hx:x.den N E=some u)(hH:Hold F N σ'):u= .string ⟨(bytesOf (N.a A)).toArray⟩:=by
 unfold strA at h
 split at h
 ·simp only[Option.some.injEq,Prod.mk.injEq] at h
  obtain ⟨rfl,rfl⟩:=h
  simp only[Sc.den,Option.some.injEq] at hx
  exact hx.symm
 ·rename_i s
  simp only[Option.some.injEq,Prod.mk.injEq] at h
  obtain ⟨rfl,rfl⟩:=h
  have hX:N.a σ.na=_:=hH.mkA
  simp only[Sc.den] at hx
  have:u= .string s:=(kst_cell hx).1
  rw[this,hX]
  congr 1
  simp only[Ad.ev,bytesL,bytesOf,List.map_map]
  have e:(s.data.toList.map ((fun v:Int=>UInt8.ofNat v.toNat)∘(fun x:Ar=>x.ev N)∘fun b:UInt8=>Ar.kst b.toNat))=s.data.toList:=by
   conv=>rhs;rw[←List.map_id s.data.toList]
   apply List.map_congr_left
   intro b _
   simp[Ar.ev]
  rw[e]
 ·cases h
theorem strOp_pur {op:BinOp}{A B:Nat}{x:Sc}(h:strOp op A B σ=some (x,σ')):Pur σ σ':=by
 unfold strOp at h
 split at h
 ·simp only[Option.some.injEq,Prod.mk.injEq] at h;rw[←h.2];exact Pur.mk1 _ _
 ·simp only[Option.some.injEq,Prod.mk.injEq] at h;rw[←h.2];exact (Pur.mk1 _ _).trans (Pur.mk1 _ _)
 ·simp only[Option.some.injEq,Prod.mk.injEq] at h;rw[←h.2]
  exact ((((Pur.mk1 _ _).trans (Pur.mk1 _ _)).trans (Pur.ob _ _)).trans (Pur.ob _ _)).trans (Pur.mkA _ _)
 ·cases h
theorem bytesOf_append {l m:List Int}:bytesOf (l++m)=bytesOf l++bytesOf m:=by simp[bytesOf]
theorem strOp_sound {op:BinOp}{A B:Nat}{x:Sc}{xt:TypeId}(h:strOp op A B σ=some (x,σ'))(hH:Hold F N σ') :
  ∃u,x.den N E=some u∧∀xo yo w,((do eqGuard op xt xo yo (.string ⟨(bytesOf (N.a A)).toArray⟩) (.string ⟨(bytesOf (N.a B)).toArray⟩);binOp op xt (.string ⟨(bytesOf (N.a A)).toArray⟩) (.string ⟨(bytesOf (N.a B)).toArray⟩):Sem Value)).run P w= .ok u w:=by
 unfold strOp at h
 split at h
 ·simp only[Option.some.injEq,Prod.mk.injEq] at h
  obtain ⟨rfl,rfl⟩:=h
  have h1:N.i σ.nx=_:=hH.mk1
  refine ⟨.bool (bytesOf (N.a A)==bytesOf (N.a B)),?_,fun xo yo w=> ?_⟩
  ·simp only[Sc.den,h1,Nd.ev]
   cases bytesOf (N.a A)==bytesOf (N.a B) <;> rfl
  ·rw [eqGuard_at_string]
   simp[binOp,Op.stringOp]
 ·simp only[Option.some.injEq,Prod.mk.injEq] at h
  obtain ⟨rfl,rfl⟩:=h
  have h2:N.i (σ.nx+1)=_:=hH.mk1
  have h1:N.i σ.nx=_:=(Hold.of_ext (Ext.mk1 _ _) hH).mk1
  refine ⟨.bool (!(bytesOf (N.a A)==bytesOf (N.a B))),?_,fun xo yo w=> ?_⟩
  ·simp only[Sc.den,h2,Nd.ev,icmp,Ar.ev,h1]
   cases bytesOf (N.a A)==bytesOf (N.a B) <;> rfl
  ·rw [eqGuard_at_string]
   simp[binOp,Op.stringOp]
 ·simp only[Option.some.injEq,Prod.mk.injEq] at h
  obtain ⟨rfl,rfl⟩:=h
  have h5:N.a σ.na=_:=hH.mkA
  have hH4:=Hold.of_ext (Ext.mkA _ _) hH
  have o2:=hH4.ob
  have hH3:=Hold.of_ext (Ext.ob _ _) hH4
  have o1:=hH3.ob
  have hH2:=Hold.of_ext (Ext.ob _ _) hH3
  have n2:N.i (σ.nx+1)=_:=hH2.mk1
  have n1:N.i σ.nx=_:=(Hold.of_ext (Ext.mk1 _ _) hH2).mk1
  simp only[Ob.holds,Ar.ev,n1,n2,Nd.ev,most] at o1 o2
  refine ⟨_,rfl,fun xo yo w=> ?_⟩
  rw[eqGuard_at_string]
  have hsz:¬(((ByteArray.mk (bytesOf (N.a A)).toArray).size+(ByteArray.mk (bytesOf (N.a B)).toArray).size:Nat):Int)>IntKind.i64.max:=by
   have e1:(ByteArray.mk (bytesOf (N.a A)).toArray).size=(N.a A).length:=by
    show (bytesOf (N.a A)).toArray.size=_
    simp[bytesOf]
   have e2:(ByteArray.mk (bytesOf (N.a B)).toArray).size=(N.a B).length:=by
    show (bytesOf (N.a B)).toArray.size=_
    simp[bytesOf]
   have e3:IntKind.i64.max=9223372036854775807:=by decide
   rw[e1,e2,e3]
   omega
  have happ:(ByteArray.mk (bytesOf (N.a A)).toArray)++(ByteArray.mk (bytesOf (N.a B)).toArray)=⟨(bytesOf (N.a σ.na)).toArray⟩:=by
   rw[h5]
   simp only[Ad.ev,bytesOf_append]
   apply ByteArray.ext
   simp
  simp only[binOp,Op.stringOp,Sem.run_bind,Sem.run_pure,Result.andThen_ok]
  rw[if_neg hsz,happ]
  rfl
 ·cases h
theorem strOfNums_eq (l:List Int):strOfNums l=⟨(bytesOf l).toArray⟩:=by
 simp[strOfNums,bytesOf]
theorem run_to_string {src d e:TypeId}{_k0:IntKind}{q o m cap:Nat}{l:List Int}{w:World}(hs:P.underlying src=some (.slice e))(he:P.underlying e=some (.int .u8))(hd:P.underlying d=some .string)
  (hl:l.length=m) (hc:∀j v,l[j]? =some v→w.cell? ⟨q,o+j,none⟩=some (.int .u8 v)):(convert src d (.slice (some ⟨q,o,none⟩) m cap)).run P w= .ok (.string ⟨(bytesOf l).toArray⟩) w:=by
 rw[←strOfNums_eq]
 refine run_convert_bytes_arg w src e hs he q o m cap l hl (fun i hi=> ?_) d hd
 have:l[i]? =some (l.getD i 0):=by rw[List.getD_eq_getElem?_getD,List.getElem?_eq_getElem (by omega)];rfl
 exact hc i _ this
end
section
variable {P:Program} {F:Fns} {N:Num} {E:Env} {σ σ':St} {n:Nat} {T:Tr SV} {a:Act} {v:Option SV} {dst:Option Tmp} {type:TypeId} {pos:String} {after:Array Edge} {guard:Option (Nat×Bool)}
theorem makeS_ext {k:IntKind}{l c:Ar}{sv:SV}(h:makeS k l c σ=some (sv,σ')):Ext σ σ':=by
 unfold makeS at h
 split at h
 ·rename_i σ1 h1
  simp only[Option.bind_eq_some_iff] at h1
  obtain ⟨σa,g1,σb,g2,g3⟩:=h1
  have p:=((le_pur g1).trans (le_pur g2)).trans (le_pur g3)
  split at h
  ·rename_i c0
   generalize Nat.ble c0 4096=bb at h
   cases bb with
   | true=>simp only[cond_true,Option.some.injEq,Prod.mk.injEq] at h;rw[←h.2];exact p.ext.trans (Ext.newB _)
   | false=>simp only[cond_false,Option.some.injEq,Prod.mk.injEq] at h;rw[←h.2];exact (p.trans (Pur.mkA _ _)).ext.trans (Ext.newA _ _ _ _)
  ·simp only[Option.some.injEq,Prod.mk.injEq] at h;rw[←h.2];exact (p.trans (Pur.mkA _ _)).ext.trans (Ext.newA _ _ _ _)
 ·cases h
theorem denL_rep {k:IntKind}:∀(c:Nat),denL N E (List.replicate c (.kst (.int k 0)))=some (List.replicate c (.int k 0))
 | 0=>rfl
 | c+1=>by
  simp only[List.replicate_succ]
  exact denL_cons.2 ⟨_,_,rfl,denL_rep c,rfl⟩
theorem makeS_sound {k k1 k2:IntKind}{t e:TypeId}{l c:Ar}{sv:SV}{w:World}(h:makeS k l c σ=some (sv,σ'))(ht:P.underlying t=some (.slice e))(he:elemK P e=some k)(hH:Hold F N σ')(hI:Inv E σ)(hw:BW N E σ.bks w) :
  ∃E' w' u,(Instr.makeSlice t (.int k1 (l.ev N)) (.int k2 (c.ev N))).run P w= .ok u w'∧Post N E σ w N E' σ' w'∧sv.den N E'=some u:=by
 unfold makeS at h
 split at h
 ·rename_i σ1 h1
  simp only[Option.bind_eq_some_iff] at h1
  obtain ⟨σa,g1,σb,g2,g3⟩:=h1
  have p:=((le_pur g1).trans (le_pur g2)).trans (le_pur g3)
  have hp:Post N E σ w N E σ1 w:=Post.of_pur p hI hw
  have facts:Hold F N σ1→0≤l.ev N∧l.ev N≤c.ev N∧c.ev N≤1099511627776:=fun hH1=>by
   have hHb:=Hold.of_ext (le_pur g3).ext hH1
   have hHa:=Hold.of_ext (le_pur g2).ext hHb
   have e1:=le_holds g1 hHa
   have e3:=le_holds g3 hH1
   rw[ev_kst] at e1 e3
   exact ⟨e1,le_holds g2 hHb,e3⟩
  have den:∀ {q:Nat},(one (.sl σ1.nb (.kst 0) l (some c))).den N (E.addB σ1.nb (q,0,(c.ev N).toNat))=some (.slice (some ⟨q,0,none⟩) (l.ev N).toNat (c.ev N).toNat):=fun {q}=>by
   have:=sl_mk (N:=N) (E:=E.addB σ1.nb (q,0,(c.ev N).toNat)) (b:=σ1.nb) (off:= .kst 0) (len:=l) (cap:=some c) Env.addB_self (Int.le_refl _) (fun e=>by cases e)
   simp only[one,SV.den,V1.den,this,capOf,ev_kst]
   simp
  have viaA:some ((one (.sl σ1.nb (.kst 0) l (some c))),(σ1.mkA (.rep c (.kst 0))).newA k σ1.na false)=some (sv,σ') →
    ∃E' w' u,(Instr.makeSlice t (.int k1 (l.ev N)) (.int k2 (c.ev N))).run P w= .ok u w'∧Post N E σ w N E' σ' w'∧sv.den N E'=some u:=fun h=>by
   simp only[Option.some.injEq,Prod.mk.injEq] at h
   obtain ⟨rfl,rfl⟩:=h
   have hHa:Hold F N (σ1.mkA (.rep c (.kst 0))):=⟨hH.fns,hH.defs,hH.obs,hH.ins⟩
   obtain ⟨f1,f2,f3⟩:=facts (Hold.of_ext (Ext.mkA _ _) hHa)
   have hA:N.a σ1.na=List.replicate (c.ev N).toNat 0:=hHa.mkA
   obtain ⟨arr0,r1,r2,r3⟩:=makeSlice_run (k1:=k1) (k2:=k2) ht he f1 f2 f3 w
   have hp2:Post N E σ w N E (σ1.mkA (.rep c (.kst 0))) w:=Post.of_pur (p.trans (Pur.mkA _ _)) hI hw
   refine ⟨E.addB σ1.nb (w.heap.size,0,(c.ev N).toNat),_,_,r1,hp2.trans (newBk_sound (B:={n:=0,rw:=true,cells:= .nil,arr:=some (k,σ1.na,false)}) (arr0:=arr0) (t:=e) hp2.bw hp2.inv rfl rfl rfl rfl ?_ ?_ rfl rfl rfl rfl),den⟩
   ·simp only[Bk.wid,cond_false,hA,List.length_replicate,r2]
    exact Nat.le_refl _
   ·simp only[Bk.cont,hA]
    refine ⟨fun j y hj=> ?_,fun e=>by cases e⟩
    rw[List.getElem?_replicate] at hj
    split at hj
    ·rename_i hlt
     simp only[Option.some.injEq] at hj
     subst hj
     rw[Nat.zero_add]
     exact r3 j hlt
    ·cases hj
  split at h
  ·rename_i c0
   cases hb:Nat.ble c0 4096 with
   | false=>rw[hb] at h;exact viaA h
   | true =>
    rw[hb] at h
    simp only[cond_true,Option.some.injEq,Prod.mk.injEq] at h
    obtain ⟨rfl,rfl⟩:=h
    have hH1:Hold F N σ1:=⟨hH.fns,hH.defs,hH.obs,hH.ins⟩
    obtain ⟨f1,f2,f3⟩:=facts hH1
    obtain ⟨arr0,r1,r2,r3⟩:=makeSlice_run (k1:=k1) (k2:=k2) ht he f1 f2 f3 w
    have ec:((Ar.kst (Int.ofNat c0)).ev N).toNat=c0:=rfl
    have ea:arr0=(List.replicate c0 (Value.int k 0)).toArray:=by
     rw[ec] at r2 r3
     apply Array.ext
     ·simp [r2]
     ·intro j h1 h2
      have:=r3 j (by omega)
      rw[Array.getElem?_eq_getElem h1] at this
      simp only[Option.some.injEq] at this
      rw[this]
      simp
    subst ea
    have hnew:=newB_sound (t:=e) (denL_rep (N:=N) (E:=E) (k:=k) c0) hp.bw hp.inv
    rw[List.length_replicate] at hnew
    exact ⟨_,_,_,r1,hp.trans hnew,by rw[←ec];exact den⟩
  ·exact viaA h
 ·cases h
theorem buildSlice_run {t e:TypeId}{len:Nat}{z:Sc}{ps:List (Nat×List Sc)}{l:List Sc}{vs:List (Nat×Value)}(ht:P.underlying t=some (.slice e))(hs:sizeB P e=some 1)(hz:zeroB P e=some [z])(hlen:len≤65536)
  (hf:fillS (fun i=>some (i,1)) (List.replicate len z) ps=some l) (hl:ps.length=vs.length) (hps:∀(k:Nat) (p:Nat×List Sc) (q:Nat×Value),ps[k]? =some p→vs[k]? =some q→p.1=q.1∧denL N E p.2=some q.2.cells.toList) (w:World) :
  ∃cs:Array Value,(Instr.buildSlice t len vs.toArray).run P w= .ok (.slice (some ⟨w.heap.size,0,none⟩) len len) {w with heap:=w.heap.push (.cells cs e)}∧denL N E l=some cs.toList:=by
 obtain ⟨zv,hzr,hzd⟩:=zeroB_run (N:=N) hz
 have hzd:=hzd E
 obtain ⟨u,r,hu,hr,hzc⟩:=denL_cons.1 hzd
 simp only[denL,Option.some.injEq] at hr
 subst hr
 have hzc':zv.cells= #[u]:=by
  apply Array.ext'
  rw[hzc]
 have hrep:∀m,denL N E (List.replicate m z)=some (List.replicate m u):=fun m=>by
  induction m with
  | zero=>rfl
  | succ m ih=>rw[List.replicate_succ,List.replicate_succ];exact denL_cons.2 ⟨_,_,hu,ih,rfl⟩
 have hn:¬(2^24<len):=by omega
 by_cases h0:len=0
 ·subst h0
  obtain ⟨cs,h1,h2⟩:=fillS_run (E:=E) (vs:=vs) (cs:= #[]) hf rfl hl hps
  refine ⟨cs,?_,h2⟩
  have h1':Instr.fill (fun i=>some (i*1,1)) #[] vs=some cs:=by simpa using h1
  simp only[Nat.mul_one] at h1'
  have hz0:∀f:Nat→Value,Array.map f (Array.range 0)= #[]:=fun f=>by simp
  simp only[Instr.buildSlice,Sem.run_bind,run_underlying ht,Result.andThen_ok,run_sizeOf hs,Nat.mul_one,if_true]
  rw[if_neg (by omega)]
  simp only[Sem.run_bind,Sem.run_pure,Result.andThen_ok,hz0]
  rw[h1']
  simp[newRow]
 ·obtain ⟨cs,h1,h2⟩:=fillS_run (E:=E) (vs:=vs) (cs:=(List.replicate len u).toArray) hf (hrep len) hl hps
  refine ⟨cs,?_,h2⟩
  have e1:(Array.range (len*1)).map (fun x=>zv.cells[x%zv.cells.size]!)=(List.replicate len u).toArray:=by
   rw[hzc']
   apply Array.ext
   ·simp
   ·intro j h1 h2
    simp[Nat.mod_one]
  have h1':Instr.fill (fun i=>some (i*1,1)) (List.replicate len u).toArray vs=some cs:=by simpa using h1
  simp only[Instr.buildSlice,Sem.run_bind,run_underlying ht,Result.andThen_ok,run_sizeOf hs,hzr,Nat.mul_one,if_neg h0,if_neg hn,Sem.run_pure]
  simp only[Nat.mul_one] at e1 h1'
  rw[e1,h1']
  simp[newRow]
theorem op2_ext {o:Op}(h:op2 P T σ o=some (v,σ')):Ext σ σ':=by
 unfold op2 at h
 split at h
 ·split at h
  ·split at h
   ·split at h
    ·split at h
     ·rename_i hr
      simp only[Option.some.injEq,Prod.mk.injEq] at h;rw[←h.2];exact (rng_pur hr).ext
     ·cases h
    ·simp only[Option.some.injEq,Prod.mk.injEq] at h;rw[←h.2];exact Ext.refl _
    ·simp only[Option.some.injEq,Prod.mk.injEq] at h;rw[←h.2];exact Ext.refl _
    ·cases h
   ·cases h
  ·cases h
 ·split at h
  ·split at h
   ·rename_i h1
    split at h
    ·rename_i h2
     split at h
     ·rename_i h3
      simp only[Option.some.injEq,Prod.mk.injEq] at h;rw[←h.2];exact (((strA_pur h1).trans (strA_pur h2)).trans (strOp_pur h3)).ext
     ·cases h
    ·cases h
   ·cases h
  ·split at h
   ·simp only[Option.some.injEq,Prod.mk.injEq] at h;rw[←h.2];exact Ext.refl _
   ·simp only[Option.some.injEq,Prod.mk.injEq] at h;rw[←h.2];exact Ext.refl _
   ·cases h
  ·cases h
 ·split at h
  ·split at h
   ·generalize Nat.ble _ 65536=bb at h
    cases bb with
    | false=>cases h
    | true =>
     simp only[cond_true] at h
     split at h
     ·simp only[Option.some.injEq,Prod.mk.injEq] at h;rw[←h.2];exact Ext.newB _
     ·cases h
   ·cases h
  ·cases h
 ·split at h
  ·split at h
   ·split at h
    ·split at h
     ·rename_i hm
      simp only[Option.some.injEq,Prod.mk.injEq] at h;rw[←h.2];exact makeS_ext hm
     ·cases h
    ·cases h
   ·cases h
  ·cases h
 ·split at h
  ·split at h
   ·split at h
    ·split at h
     ·rename_i hm
      simp only[Option.some.injEq,Prod.mk.injEq] at h;rw[←h.2];exact appendS_ext hm
     ·cases h
    ·cases h
   ·cases h
  ·cases h
 ·split at h
  ·split at h
   ·split at h
    ·split at h
     ·rename_i hm
      simp only[Option.some.injEq,Prod.mk.injEq] at h;rw[←h.2];exact copyS_ext hm
     ·cases h
    ·cases h
   ·cases h
  ·cases h
 ·split at h
  ·split at h
   ·split at h
    ·rename_i hm
     simp only[Option.some.injEq,Prod.mk.injEq] at h;rw[←h.2];exact (le_pur hm).ext
    ·cases h
   ·simp only[Option.some.injEq,Prod.mk.injEq] at h;rw[←h.2];exact Ext.refl _
   ·cases h
  ·cases h
 ·cases h
theorem op2_sound {o:Oper}(h:op2 P T σ o.op=some (v,σ'))(hA:RA N E n T a)(hI:Inv E σ)(hH:Hold F N σ'){w:World}(hw:BW N E σ.bks w) :
  ∃E' w' sv u,Post N E σ w N E' σ' w'∧v=some sv∧sv.den N E'=some u∧(execOp a.eval o).run P w= .ok (.value u) w':=by
 obtain ⟨dst,op,type,pos,after,guard⟩:=o
 simp only at h
 unfold op2 at h
 split at h
 ·rename_i s d x
  split at h
  ·rename_i e x' hs hd hx
   have hden:x'.den N E=some (a.eval x):=evalO_den hA hx
   split at h
   ·rename_i he
    split at h
    ·rename_i b off len cap
     split at h
     ·rename_i X σ1 hr
      simp only[Option.some.injEq,Prod.mk.injEq] at h
      obtain ⟨rfl,rfl⟩:=h
      obtain ⟨q,s0,c,h1,h2,h3,h4,h5⟩:=rng_at hr hH hw
      obtain ⟨q',s',c',mm,g1,g2,g3,_⟩:=sl_den hden
      rw[h1] at g1
      simp only[Option.some.injEq,Prod.mk.injEq] at g1
      obtain ⟨rfl,rfl,rfl⟩:=g1
      refine ⟨E,w,_,_,Post.of_pur (rng_pur hr) hI hw,rfl,rfl,?_⟩
      simp[execOp,g3,run_to_string (_k0:= .u8) hs he hd h4 h5]
     ·cases h
    ·simp only[Option.some.injEq,Prod.mk.injEq] at h
     obtain ⟨rfl,rfl⟩:=h
     simp only[Sc.den] at hden
     have e1:=(kst_cell hden).1
     refine ⟨E,w,_,_,Post.refl hI hw,rfl,rfl,?_⟩
     simp[execOp,e1,run_convert_bytes_nil w s e hs he _ _ d hd]
    ·rename_i j
     simp only[Option.some.injEq,Prod.mk.injEq] at h
     obtain ⟨rfl,rfl⟩:=h
     simp only[Sc.den] at hden
     split at hden
     ·rename_i aa cc _
      simp only[Option.some.injEq] at hden
      refine ⟨E,w,_,_,Post.refl hI hw,rfl,rfl,?_⟩
      have:(convert s d (.slice aa 0 cc)).run P w= .ok (.string ByteArray.empty) w:=by
       cases aa with
       | none=>exact run_convert_bytes_nil w s e hs he _ _ d hd
       | some ad =>
        rw[run_convert_bytes_string w s d e _ 0 cc hs he hd]
        simp[Conv.bytesToString,loadCells,loadCellsFrom]
      simp[execOp,←hden,this]
     ·cases hden
    ·cases h
   ·cases h
  ·cases h
 ·rename_i op xt x y yt
  split at h
  ·rename_i x' y' hx hy ht
   split at h
   ·rename_i A σ1 h1
    split at h
    ·rename_i B σ2 h2
     split at h
     ·rename_i r σ3 h3
      simp only[Option.some.injEq,Prod.mk.injEq] at h
      obtain ⟨rfl,rfl⟩:=h
      have hH2:=Hold.of_ext (strOp_pur h3).ext hH
      have hH1:=Hold.of_ext (strA_pur h2).ext hH2
      have e1:=strA_at h1 (evalO_den hA hx) hH1
      have e2:=strA_at h2 (evalO_den hA hy) hH2
      obtain ⟨u,g1,g2⟩:=strOp_sound (P:=P) (E:=E) (xt:=xt) h3 hH
      refine ⟨E,w,_,u,Post.of_pur (((strA_pur h1).trans (strA_pur h2)).trans (strOp_pur h3)) hI hw,rfl,g1,?_⟩
      have:=g2 x y w
      rw[←e1,←e2] at this
      simp only[Sem.run_bind] at this
      simp only[execOp,Sem.run_bind,this,Result.andThen_ok,Sem.run_pure]
     ·cases h
    ·cases h
   ·cases h
  ·rename_i x' y' e hx hy ht
   have nil_spec:∀ {z:Sc} {b:Bool} {u:Value},isNilS z=some b→z.den N E=some u→∃ad l c,u= .slice ad l c∧ad.isNone=b:=fun {z b u} hz hu=>by
    unfold isNilS at hz
    split at hz
    ·simp only[Option.some.injEq] at hz
     simp only[Sc.den] at hu
     exact ⟨_,_,_,(kst_cell hu).1,hz⟩
    ·simp only[Option.some.injEq] at hz
     obtain ⟨q,s,c,m,_,_,e1,_⟩:=sl_den hu
     exact ⟨_,_,_,e1,hz⟩
    ·cases hz
   have eqIn:∀(dd:Nat) (ad:Option Addr) (l c l' c':Nat) w,(Op.equalIn (dd+1) xt (.slice ad l c) (.slice none l' c')).run P w= .ok ad.isNone w:=fun dd ad l c l' c' w=>by
    cases ad <;> simp[Op.equalIn,run_underlying ht]
   have eqrun:∀ {ad bd:Option Addr} {l c l' c':Nat},bd.isNone=true→∀w,(Op.equal xt (.slice ad l c) (.slice bd l' c')).run P w= .ok ad.isNone w:=fun {ad bd l c l' c'} hb w=>by
    cases bd with
    | some _=>cases hb
    | none=>exact eqIn 9999 ad l c l' c' w
   split at h
   ·rename_i b ha hb
    simp only[Option.some.injEq,Prod.mk.injEq] at h
    obtain ⟨rfl,rfl⟩:=h
    obtain ⟨ad,l,c,e1,e2⟩:=nil_spec ha (evalO_den hA hx)
    obtain ⟨bd,l',c',e3,e4⟩:=nil_spec hb (evalO_den hA hy)
    refine ⟨E,w,_,_,Post.refl hI hw,rfl,rfl,?_⟩
    simp only[execOp,e1,e3,eqGuard_at_slice,Sem.run_bind,Sem.run_pure,Result.andThen_ok,binOp,eqrun e4,e2]
   ·rename_i b ha hb
    simp only[Option.some.injEq,Prod.mk.injEq] at h
    obtain ⟨rfl,rfl⟩:=h
    obtain ⟨ad,l,c,e1,e2⟩:=nil_spec ha (evalO_den hA hx)
    obtain ⟨bd,l',c',e3,e4⟩:=nil_spec hb (evalO_den hA hy)
    refine ⟨E,w,_,_,Post.refl hI hw,rfl,rfl,?_⟩
    simp only[execOp,e1,e3,eqGuard_at_slice,Sem.run_bind,Sem.run_pure,Result.andThen_ok,binOp,eqrun e4,e2]
   ·cases h
  ·cases h
 ·rename_i t len parts
  split at h
  ·rename_i e ht
   split at h
   ·rename_i z ps hs hz hps
    cases hb:Nat.ble len 65536 with
    | false=>rw[hb] at h;cases h
    | true =>
     rw[hb] at h
     simp only[cond_true] at h
     split at h
     ·rename_i l hf
      simp only[Option.some.injEq,Prod.mk.injEq] at h
      obtain ⟨rfl,rfl⟩:=h
      obtain ⟨hl1,hl2⟩:=partsS_den hA hps
      obtain ⟨cs,r1,r2⟩:=buildSlice_run (N:=N) (E:=E) (vs:=parts.toList.map fun (i,x)=>(i,a.eval x)) ht hs hz (Nat.le_of_ble_eq_true hb) hf (by simpa using hl1) hl2 w
      have hcl:l.length=len:=by
       have h1:=denL_length r2
       clear r1 r2 hl1 hl2 hps h1
       have key:∀ {ps:List (Nat×List Sc)} {l0 l:List Sc},fillS (fun i=>some (i,1)) l0 ps=some l→l.length=l0.length:=by
        intro ps
        induction ps with
        | nil=>intro l0 l h;simp only[fillS,Option.some.injEq] at h;rw[h]
        | cons p ps ih =>
         obtain ⟨i,v⟩:=p
         intro l0 l h
         simp only[fillS] at h
         generalize (Nat.beq v.length 1&&Nat.ble (i+v.length) l0.length)=bb at h
         cases bb with
         | false=>cases h
         | true =>
          rw[ih h]
          have l1:∀(l:List Sc) (k:Nat) (x:Sc),(lset l k x).length=l.length:=by
           intro l
           induction l with
           | nil=>intro k x;cases k <;> rfl
           | cons y l ih=>intro k x;cases k with | zero=>rfl | succ k=>simp[lset,ih]
          have l2:∀(r l:List Sc) (k:Nat),(lsetL l k r).length=l.length:=by
           intro r
           induction r with
           | nil=>intro l k;rfl
           | cons x r ih=>intro l k;simp[lsetL,ih,l1]
          exact l2 _ _ _
       rw[key hf,List.length_replicate]
      have hnew:=newB_sound (t:=e) r2 hw hI
      refine ⟨_,_,_,.slice (some ⟨w.heap.size,0,none⟩) len len,hnew,rfl,?_,?_⟩
      ·have:=sl_mk (N:=N) (E:=E.addB σ.nb (w.heap.size,0,l.length)) (b:=σ.nb) (off:= .kst 0) (len:= .kst len) (cap:=some (.kst len)) Env.addB_self (Int.le_refl _) (fun e=>by cases e)
       simp only[one,SV.den,V1.den,this,capOf,ev_kst]
       simp
      ·have r1':(Instr.buildSlice t len (parts.map fun x=>(x.1,a.eval x.2))).run P w= .ok (.slice (some ⟨w.heap.size,0,none⟩) len len) {w with heap:=w.heap.push (.cells cs.toList.toArray e)}:=by
        have e1:(parts.toList.map fun (i,x)=>(i,a.eval x)).toArray=parts.map fun x=>(x.1,a.eval x.2):=by
         apply Array.ext'
         simp
        rw[←e1]
        simpa using r1
       simp[execOp,r1']
     ·cases h
   ·cases h
  ·cases h
 ·rename_i t l c
  split at h
  ·rename_i e ht
   split at h
   ·rename_i k l' c' he hl hc
    split at h
    ·rename_i k1 la k2 ca hla hca
     split at h
     ·rename_i sv σ1 hm
      simp only[Option.some.injEq,Prod.mk.injEq] at h
      obtain ⟨rfl,rfl⟩:=h
      obtain ⟨E',w',u,r1,r2,r3⟩:=makeS_sound (P:=P) (k1:=k1) (k2:=k2) hm ht he hH hI hw
      refine ⟨E',w',sv,u,r2,rfl,r3,?_⟩
      have e1:=ar_den hla (evalO_den hA hl)
      have e2:=ar_den hca (evalO_den hA hc)
      simp[execOp,e1,e2,r1]
     ·cases h
    ·cases h
   ·cases h
  ·cases h
 ·rename_i args argTypes
  split at h
  ·rename_i s x t tx hargs htys
   obtain ⟨args⟩:=args
   obtain ⟨argTypes⟩:=argTypes
   simp only at hargs htys
   subst hargs;subst htys
   split at h
   ·rename_i e ht
    split at h
    ·rename_i k sv0 xv0 he hs hx
     split at h
     ·rename_i sv σ1 hm
      simp only[Option.some.injEq,Prod.mk.injEq] at h
      obtain ⟨rfl,rfl⟩:=h
      obtain ⟨E',w',u,r1,r2,r3⟩:=appendS_sound (P:=P) (ty:=type) hm ht he (evalO_den hA hs) (evalO_den hA hx) hH hI hw
      refine ⟨E',w',sv,u,r2,rfl,r3,?_⟩
      simp[execOp,resolve,invoke,builtin,r1]
     ·cases h
    ·cases h
   ·cases h
  ·cases h
 ·rename_i args argTypes
  split at h
  ·rename_i d x t tx hargs htys
   obtain ⟨args⟩:=args
   obtain ⟨argTypes⟩:=argTypes
   simp only at hargs htys
   subst hargs;subst htys
   split at h
   ·rename_i e ht
    split at h
    ·rename_i k sv0 xv0 he hs hx
     split at h
     ·rename_i sv σ1 hm
      simp only[Option.some.injEq,Prod.mk.injEq] at h
      obtain ⟨rfl,rfl⟩:=h
      obtain ⟨w',u,r1,r2,r3⟩:=copyS_sound (P:=P) (ty:=type) hm ht he (evalO_den hA hs) (evalO_den hA hx) hH hI hw
      refine ⟨E,w',sv,u,r2,rfl,r3,?_⟩
      simp[execOp,resolve,invoke,builtin,r1]
     ·cases h
    ·cases h
   ·cases h
  ·cases h
 ·rename_i args argTypes
  split at h
  ·rename_i x t hargs htys
   obtain ⟨args⟩:=args
   obtain ⟨argTypes⟩:=argTypes
   simp only at hargs htys
   subst hargs;subst htys
   have run:∀w,(execOp a.eval ⟨dst,.call {callee:= .builtin .cap,args:=⟨[x]⟩,argTypes:=⟨[t]⟩},type,pos,after,guard⟩).run P w =
     ((Builtin.cap_ #[t] type #[a.eval x]).run P w).andThen fun u w=> .ok (.value u) w:=fun w=>by
    simp[execOp,resolve,invoke,builtin]
   split at h
   ·rename_i b off len c e hx ht
    have hd':(Sc.sl b off len (some c)).den N E=some (a.eval x):=evalO_den hA hx
    obtain ⟨q,s,cc,m,hb,h0,ex,hmm,_⟩:=sl_den hd'
    split at h
    ·rename_i σ1 hle
     simp only[Option.some.injEq,Prod.mk.injEq] at h
     obtain ⟨rfl,rfl⟩:=h
     have:=le_holds hle hH
     rw[ev_kst] at this
     simp only[capOf] at hmm
     refine ⟨E,w,_,_,Post.of_pur (le_pur hle) hI hw,rfl,arV_den,?_⟩
     rw[run]
     simp[Builtin.cap_,ex,run_underlying ht,goInt,hmm,Int.toNat_of_nonneg this]
    ·cases h
   ·rename_i m c e hx ht
    simp only[Option.some.injEq,Prod.mk.injEq] at h
    obtain ⟨rfl,rfl⟩:=h
    have ex:=kst_den (evalO_den hA hx)
    refine ⟨E,w,_,_,Post.refl hI hw,rfl,rfl,?_⟩
    rw[run]
    simp[Builtin.cap_,ex,run_underlying ht,goInt]
   ·cases h
  ·cases h
 ·cases h
theorem opX_ext {o:Op}(h:opX P T σ o=some (v,σ')):Ext σ σ':=by
 unfold opX at h
 split at h
 ·rename_i hr
  simp only[Option.some.injEq] at h
  subst h
  exact op2_ext hr
 ·exact op1_ext h
theorem opX_sound {o:Oper}(h:opX P T σ o.op=some (v,σ'))(hA:RA N E n T a)(hI:Inv E σ)(hH:Hold F N σ'){w:World}(hw:BW N E σ.bks w) :
  ∃E' w',Post N E σ w N E' σ' w'∧((v=none∧(execOp a.eval o).run P w= .ok .skip w')∨∃sv u,v=some sv∧sv.den N E'=some u∧(execOp a.eval o).run P w= .ok (.value u) w'):=by
 unfold opX at h
 split at h
 ·rename_i r hr
  simp only[Option.some.injEq] at h
  subst h
  obtain ⟨E',w',sv,u,h1,h2,h3,h4⟩:=op2_sound hr hA hI hH hw
  exact ⟨E',w',h1,.inr ⟨sv,u,h2,h3,h4⟩⟩
 ·exact op1_sound h hA hI hH hw
end
end Go.Sy
