/- A region that draws its order: its first operations leave memory alone (but for what is new), then some make room for variables, the others stand in a row. -/
import Derived.OrdersHeld
import Derived.Test.YtnfikgagkamioaaGreatDoorSyD2
namespace Go.Sy
section
variable {P:Program} {F:Fns} {N:Num} {E:Env} {σ σ':St} {n:Nat} {T:Tr SV} {a:Act} {v:Option SV} {dst:Option Tmp} {type:TypeId} {pos:String} {after:Array Edge} {guard:Option (Nat×Bool)}
theorem makeS_ext {k:IntKind}{l c:Ar}{sv:SV}(h:makeS k l c σ=some (sv,σ')):Ext σ σ':=by
 unfold makeS at h;split at h
 ·rename_i σ1 h1;simp only[aL] at h1;obtain ⟨σa,g1,σb,g2,g3⟩:=h1;have p:=((fC g1).trans (fC g2)).trans (fC g3);split at h
  ·rename_i c0;generalize Nat.ble c0 4096=bb at h;cases bb with
   | true=>simp only[aH,aA,aD] at h;rw[←h.2];exact p.ext.trans (Ext.newB _)
   | false=>simp only[aQ,aA,aD] at h;rw[←h.2];exact (p.trans (Pur.mkA _ _)).ext.trans (Ext.newA _ _ _ _)
  ·simp only[aA,aD] at h;rw[←h.2];exact (p.trans (Pur.mkA _ _)).ext.trans (Ext.newA _ _ _ _)
 ·cases h
theorem denL_rep {k:IntKind}:∀(c:Nat),denL N E (List.replicate c (.kst (.int k 0)))=some (List.replicate c (.int k 0))
 | 0=>rfl
 | c+1=>by simp only[List.replicate_succ];exact denL_cons.2 ⟨_,_,rfl,denL_rep c,rfl⟩
theorem makeS_sound {k k1 k2:IntKind}{t e:TypeId}{l c:Ar}{sv:SV}{w:World}(h:makeS k l c σ=some (sv,σ'))(ht:P.underlying t=some (.slice e))(he:elemK P e=some k)(hH:Hold F N σ')(hI:Inv E σ)(hw:BW N E σ.bks w) :
 ∃E' w' u,(Instr.makeSlice t (.int k1 (l.ev N)) (.int k2 (c.ev N))).run P w= .ok u w'∧Post N E σ w N E' σ' w'∧sv.den N E'=some u:=by
 unfold makeS at h;split at h
 ·rename_i σ1 h1;simp only[aL] at h1;obtain ⟨σa,g1,σb,g2,g3⟩:=h1;have p:=((fC g1).trans (fC g2)).trans (fC g3);have hp:Post N E σ w N E σ1 w:=fD p hI hw;have facts:Hold F N σ1→0≤l.ev N∧l.ev N≤c.ev N∧c.ev N≤1099511627776:=fun hH1=>by
   have hHb:=eT (fC g3).ext hH1;have hHa:=eT (fC g2).ext hHb;have e1:=fO g1 hHa;have e3:=fO g3 hH1;rw[gE] at e1 e3;exact ⟨e1,fO g2 hHb,e3⟩
  have den:∀ {q:Nat},(one (.sl σ1.nb (.kst 0) l (some c))).den N (E.addB σ1.nb (q,0,(c.ev N).toNat))=some (.slice (some ⟨q,0,none⟩) (l.ev N).toNat (c.ev N).toNat):=fun {q}=>by have:=sl_mk (N:=N) (E:=E.addB σ1.nb (q,0,(c.ev N).toNat)) (b:=σ1.nb) (off:= .kst 0) (len:=l) (cap:=some c) fK (bK _) (fun e=>by cases e);simp only[one,SV.den,V1.den,this,capOf,gE];simp
  have viaA:some ((one (.sl σ1.nb (.kst 0) l (some c))),(σ1.mkA (.rep c (.kst 0))).newA k σ1.na false)=some (sv,σ') →
   ∃E' w' u,(Instr.makeSlice t (.int k1 (l.ev N)) (.int k2 (c.ev N))).run P w= .ok u w'∧Post N E σ w N E' σ' w'∧sv.den N E'=some u:=fun h=>by
   simp only[aA,aD] at h;obtain ⟨rfl,rfl⟩:=h;have hHa:Hold F N (σ1.mkA (.rep c (.kst 0))):=⟨hH.fns,hH.defs,hH.obs,hH.ins⟩
   obtain ⟨f1,f2,f3⟩:=facts (eT (Ext.mkA _ _) hHa);have hA:N.a σ1.na=List.replicate (c.ev N).toNat 0:=hHa.mkA;obtain ⟨arr0,r1,r2,r3⟩:=makeSlice_run (k1:=k1) (k2:=k2) ht he f1 f2 f3 w;have hp2:Post N E σ w N E (σ1.mkA (.rep c (.kst 0))) w:=fD (p.trans (Pur.mkA _ _)) hI hw;refine ⟨E.addB σ1.nb (w.heap.size,0,(c.ev N).toNat),_,_,r1,hp2.trans (newBk_sound (B:={n:=0,rw:=true,cells:= .nil,arr:=some (k,σ1.na,false)}) (arr0:=arr0) (t:=e) hp2.bw hp2.inv rfl rfl rfl rfl ?_ ?_ rfl rfl rfl rfl),den⟩
   ·simp only[Bk.wid,aQ,hA,aW,r2];exact aS _
   ·simp only[Bk.cont,hA];refine ⟨fun j y hj=> ?_,fun e=>by cases e⟩;rw[eH] at hj;split at hj
    ·rename_i hlt;simp only[aA] at hj;subst hj;rw[bM];exact r3 j hlt
    ·cases hj
  split at h
  ·rename_i c0;cases hb:Nat.ble c0 4096 with
   | false=>rw[hb] at h;exact viaA h
   | true =>
    rw[hb] at h;simp only[aH,aA,aD] at h;obtain ⟨rfl,rfl⟩:=h;have hH1:Hold F N σ1:=⟨hH.fns,hH.defs,hH.obs,hH.ins⟩
    obtain ⟨f1,f2,f3⟩:=facts hH1;obtain ⟨arr0,r1,r2,r3⟩:=makeSlice_run (k1:=k1) (k2:=k2) ht he f1 f2 f3 w;have ec:((Ar.kst (Int.ofNat c0)).ev N).toNat=c0:=rfl;have ea:arr0=(List.replicate c0 (Value.int k 0)).toArray:=by
     rw[ec] at r2 r3;apply Array.ext;·simp [r2]
     ·intro j h1 h2;have:=r3 j (by omega);rw[Array.getElem?_eq_getElem h1] at this;simp only[aA] at this;rw[this];simp
    subst ea;have hnew:=newB_sound (t:=e) (denL_rep (N:=N) (E:=E) (k:=k) c0) hp.bw hp.inv;rw[aW] at hnew;exact ⟨_,_,_,r1,hp.trans hnew,by rw[←ec];exact den⟩
  ·exact viaA h
 ·cases h
theorem buildSlice_run {t e:TypeId}{len:Nat}{z:Sc}{ps:List (Nat×List Sc)}{l:List Sc}{vs:List (Nat×Value)}(ht:P.underlying t=some (.slice e))(hs:sizeB P e=some 1)(hz:zeroB P e=some [z])(hlen:len≤65536)
 (hf:fillS (fun i=>some (i,1)) (List.replicate len z) ps=some l) (hl:ps.length=vs.length) (hps:∀(k:Nat) (p:Nat×List Sc) (q:Nat×Value),ps[k]? =some p→vs[k]? =some q→p.1=q.1∧denL N E p.2=some q.2.cells.toList) (w:World) :
 ∃cs:Array Value,(Instr.buildSlice t len vs.toArray).run P w= .ok (.slice (some ⟨w.heap.size,0,none⟩) len len) {w with heap:=w.heap.push (.cells cs e)}∧denL N E l=some cs.toList:=by
 obtain ⟨zv,hzr,hzd⟩:=zeroB_run (N:=N) hz;have hzd:=hzd E;obtain ⟨u,r,hu,hr,hzc⟩:=denL_cons.1 hzd;simp only[denL,aA] at hr;subst hr;have hzc':zv.cells= #[u]:=by apply Array.ext';rw[hzc]
 have hrep:∀m,denL N E (List.replicate m z)=some (List.replicate m u):=fun m=>by
  induction m with
  | zero=>rfl
  | succ m ih=>rw[List.replicate_succ,List.replicate_succ];exact denL_cons.2 ⟨_,_,hu,ih,rfl⟩
 have hn:¬(2^24<len):=by omega
 by_cases h0:len=0
 ·subst h0;obtain ⟨cs,h1,h2⟩:=fillS_run (E:=E) (vs:=vs) (cs:= #[]) hf rfl hl hps;refine ⟨cs,?_,h2⟩;have h1':Instr.fill (fun i=>some (i*1,1)) #[] vs=some cs:=by simpa using h1
  simp only[Nat.mul_one] at h1';have hz0:∀f:Nat→Value,Array.map f (Array.range 0)= #[]:=fun f=>by simp
  simp only[Instr.buildSlice,bH,run_underlying ht,aY,fQ hs,Nat.mul_one,if_true];rw[bC (by omega)];simp only[bH,bY,aY,hz0];rw[h1'];simp[newRow]
 ·obtain ⟨cs,h1,h2⟩:=fillS_run (E:=E) (vs:=vs) (cs:=(List.replicate len u).toArray) hf (hrep len) hl hps;refine ⟨cs,?_,h2⟩;have e1:(Array.range (len*1)).map (fun x=>zv.cells[x%zv.cells.size]!)=(List.replicate len u).toArray:=by
   rw[hzc'];apply Array.ext;·simp
   ·intro j h1 h2;simp[Nat.mod_one]
  have h1':Instr.fill (fun i=>some (i*1,1)) (List.replicate len u).toArray vs=some cs:=by simpa using h1
  simp only[Instr.buildSlice,bH,run_underlying ht,aY,fQ hs,hzr,Nat.mul_one,bC h0,bC hn,bY];simp only[Nat.mul_one] at e1 h1';rw[e1,h1'];simp[newRow]
theorem op2_ext {o:Op}(h:op2 P T σ o=some (v,σ')):Ext σ σ':=by
 unfold op2 at h;split at h
 ·split at h
  ·split at h
   ·split at h
    ·split at h
     ·rename_i hr;simp only[aA,aD] at h;rw[←h.2];exact (rng_pur hr).ext
     ·cases h
    ·simp only[aA,aD] at h;rw[←h.2];exact Ext.refl _
    ·simp only[aA,aD] at h;rw[←h.2];exact Ext.refl _
    ·cases h
   ·cases h
  ·cases h
 ·split at h
  ·split at h
   ·rename_i h1;split at h
    ·rename_i h2;split at h
     ·rename_i h3;simp only[aA,aD] at h;rw[←h.2];exact (((strA_pur h1).trans (strA_pur h2)).trans (strOp_pur h3)).ext
     ·cases h
    ·cases h
   ·cases h
  ·split at h;·simp only[aA,aD] at h;rw[←h.2];exact Ext.refl _
   ·simp only[aA,aD] at h;rw[←h.2];exact Ext.refl _
   ·cases h
  ·cases h
 ·split at h
  ·split at h
   ·generalize Nat.ble _ 65536=bb at h;cases bb with
    | false=>cases h
    | true =>
     simp only[aH] at h;split at h;·simp only[aA,aD] at h;rw[←h.2];exact Ext.newB _
     ·cases h
   ·cases h
  ·cases h
 ·split at h
  ·split at h
   ·split at h
    ·split at h
     ·rename_i hm;simp only[aA,aD] at h;rw[←h.2];exact makeS_ext hm
     ·cases h
    ·cases h
   ·cases h
  ·cases h
 ·split at h
  ·split at h
   ·split at h
    ·split at h
     ·rename_i hm;simp only[aA,aD] at h;rw[←h.2];exact appendS_ext hm
     ·cases h
    ·cases h
   ·cases h
  ·cases h
 ·split at h
  ·split at h
   ·split at h
    ·split at h
     ·rename_i hm;simp only[aA,aD] at h;rw[←h.2];exact copyS_ext hm
     ·cases h
    ·cases h
   ·cases h
  ·cases h
 ·split at h
  ·split at h
   ·split at h
    ·rename_i hm;simp only[aA,aD] at h;rw[←h.2];exact (fC hm).ext
    ·cases h
   ·simp only[aA,aD] at h;rw[←h.2];exact Ext.refl _
   ·cases h
  ·cases h
 ·cases h
theorem op2_sound {o:Oper}(h:op2 P T σ o.op=some (v,σ'))(hA:RA N E n T a)(hI:Inv E σ)(hH:Hold F N σ'){w:World}(hw:BW N E σ.bks w) :
 ∃E' w' sv u,Post N E σ w N E' σ' w'∧v=some sv∧sv.den N E'=some u∧(execOp a.eval o).run P w= .ok (.value u) w':=by
 obtain ⟨dst,op,type,pos,after,guard⟩:=o;simp only at h;unfold op2 at h;split at h
 ·rename_i s d x;split at h
  ·rename_i e x' hs hd hx;have hden:x'.den N E=some (a.eval x):=eW hA hx;split at h
   ·rename_i he;split at h
    ·rename_i b off len cap;split at h
     ·rename_i X σ1 hr;simp only[aA,aD] at h;obtain ⟨rfl,rfl⟩:=h;obtain ⟨q,s0,c,h1,h2,h3,h4,h5⟩:=rng_at hr hH hw;obtain ⟨q',s',c',mm,g1,g2,g3,_⟩:=gC hden;rw[h1] at g1;simp only[aA,aD] at g1;obtain ⟨rfl,rfl,rfl⟩:=g1;refine ⟨E,w,_,_,fD (rng_pur hr) hI hw,rfl,rfl,?_⟩;simp[execOp,g3,run_to_string (_k0:= .u8) hs he hd h4 h5]
     ·cases h
    ·simp only[aA,aD] at h;obtain ⟨rfl,rfl⟩:=h;simp only[Sc.den] at hden;have e1:=(kst_cell hden).1;refine ⟨E,w,_,_,Post.refl hI hw,rfl,rfl,?_⟩;simp[execOp,e1,run_convert_bytes_nil w s e hs he _ _ d hd]
    ·rename_i j;simp only[aA,aD] at h;obtain ⟨rfl,rfl⟩:=h;simp only[Sc.den] at hden;split at hden
     ·rename_i aa cc _;simp only[aA] at hden;refine ⟨E,w,_,_,Post.refl hI hw,rfl,rfl,?_⟩;have:(convert s d (.slice aa 0 cc)).run P w= .ok (.string ByteArray.empty) w:=by
       cases aa with
       | none=>exact run_convert_bytes_nil w s e hs he _ _ d hd
       | some ad =>rw[run_convert_bytes_string w s d e _ 0 cc hs he hd];simp[Conv.bytesToString,loadCells,loadCellsFrom]
      simp[execOp,←hden,this]
     ·cases hden
    ·cases h
   ·cases h
  ·cases h
 ·rename_i op xt x y yt;split at h
  ·rename_i x' y' hx hy ht;split at h
   ·rename_i A σ1 h1;split at h
    ·rename_i B σ2 h2;split at h
     ·rename_i r σ3 h3;simp only[aA,aD] at h;obtain ⟨rfl,rfl⟩:=h;have hH2:=eT (strOp_pur h3).ext hH;have hH1:=eT (strA_pur h2).ext hH2;have e1:=strA_at h1 (eW hA hx) hH1;have e2:=strA_at h2 (eW hA hy) hH2;obtain ⟨u,g1,g2⟩:=strOp_sound (P:=P) (E:=E) (xt:=xt) h3 hH;refine ⟨E,w,_,u,fD (((strA_pur h1).trans (strA_pur h2)).trans (strOp_pur h3)) hI hw,rfl,g1,?_⟩;have:=g2 x y w;rw[←e1,←e2] at this;simp only[bH] at this;simp only[execOp,bH,this,aY,bY]
     ·cases h
    ·cases h
   ·cases h
  ·rename_i x' y' e hx hy ht;have nil_spec:∀ {z:Sc} {b:Bool} {u:Value},isNilS z=some b→z.den N E=some u→∃ad l c,u= .slice ad l c∧ad.isNone=b:=fun {z b u} hz hu=>by
    unfold isNilS at hz;split at hz
    ·simp only[aA] at hz;simp only[Sc.den] at hu;exact ⟨_,_,_,(kst_cell hu).1,hz⟩
    ·simp only[aA] at hz;obtain ⟨q,s,c,m,_,_,e1,_⟩:=gC hu;exact ⟨_,_,_,e1,hz⟩
    ·cases hz
   have eqIn:∀(dd:Nat) (ad:Option Addr) (l c l' c':Nat) w,(Op.equalIn (dd+1) xt (.slice ad l c) (.slice none l' c')).run P w= .ok ad.isNone w:=fun dd ad l c l' c' w=>by cases ad <;> simp[Op.equalIn,run_underlying ht]
   have eqrun:∀ {ad bd:Option Addr} {l c l' c':Nat},bd.isNone=true→∀w,(Op.equal xt (.slice ad l c) (.slice bd l' c')).run P w= .ok ad.isNone w:=fun {ad bd l c l' c'} hb w=>by
    cases bd with
    | some _=>cases hb
    | none=>exact eqIn 9999 ad l c l' c' w
   split at h
   ·rename_i b ha hb;simp only[aA,aD] at h;obtain ⟨rfl,rfl⟩:=h;obtain ⟨ad,l,c,e1,e2⟩:=nil_spec ha (eW hA hx);obtain ⟨bd,l',c',e3,e4⟩:=nil_spec hb (eW hA hy);refine ⟨E,w,_,_,Post.refl hI hw,rfl,rfl,?_⟩;simp only[execOp,e1,e3,eqGuard_at_slice,bH,bY,aY,binOp,eqrun e4,e2]
   ·rename_i b ha hb;simp only[aA,aD] at h;obtain ⟨rfl,rfl⟩:=h;obtain ⟨ad,l,c,e1,e2⟩:=nil_spec ha (eW hA hx);obtain ⟨bd,l',c',e3,e4⟩:=nil_spec hb (eW hA hy);refine ⟨E,w,_,_,Post.refl hI hw,rfl,rfl,?_⟩;simp only[execOp,e1,e3,eqGuard_at_slice,bH,bY,aY,binOp,eqrun e4,e2]
   ·cases h
  ·cases h
 ·rename_i t len parts;split at h
  ·rename_i e ht;split at h
   ·rename_i z ps hs hz hps;cases hb:Nat.ble len 65536 with
    | false=>rw[hb] at h;cases h
    | true =>
     rw[hb] at h;simp only[aH] at h;split at h
     ·rename_i l hf;simp only[aA,aD] at h;obtain ⟨rfl,rfl⟩:=h;obtain ⟨hl1,hl2⟩:=partsS_den hA hps;obtain ⟨cs,r1,r2⟩:=buildSlice_run (N:=N) (E:=E) (vs:=parts.toList.map fun (i,x)=>(i,a.eval x)) ht hs hz (aM hb) hf (by simpa using hl1) hl2 w;have hcl:l.length=len:=by
       have h1:=denL_length r2;clear r1 r2 hl1 hl2 hps h1;have key:∀ {ps:List (Nat×List Sc)} {l0 l:List Sc},fillS (fun i=>some (i,1)) l0 ps=some l→l.length=l0.length:=by
        intro ps
        induction ps with
        | nil=>intro l0 l h;simp only[fillS,aA] at h;rw[h]
        | cons p ps ih =>
         obtain ⟨i,v⟩:=p;intro l0 l h;simp only[fillS] at h;generalize (Nat.beq v.length 1&&Nat.ble (i+v.length) l0.length)=bb at h;cases bb with
         | false=>cases h
         | true =>
          rw[ih h];have l1:∀(l:List Sc) (k:Nat) (x:Sc),(lset l k x).length=l.length:=by
           intro l
           induction l with
           | nil=>intro k x;cases k <;> rfl
           | cons y l ih=>intro k x;cases k with | zero=>rfl | succ k=>simp[lset,ih]
          have l2:∀(r l:List Sc) (k:Nat),(lsetL l k r).length=l.length:=by
           intro r
           induction r with
           | nil=>intro l k;rfl
           | cons x r ih=>intro l k;simp[lsetL,ih,l1]
          exact l2 _ _ _
       rw[key hf,aW]
      have hnew:=newB_sound (t:=e) r2 hw hI;refine ⟨_,_,_,.slice (some ⟨w.heap.size,0,none⟩) len len,hnew,rfl,?_,?_⟩
      ·have:=sl_mk (N:=N) (E:=E.addB σ.nb (w.heap.size,0,l.length)) (b:=σ.nb) (off:= .kst 0) (len:= .kst len) (cap:=some (.kst len)) fK (bK _) (fun e=>by cases e);simp only[one,SV.den,V1.den,this,capOf,gE];simp
      ·have r1':(Instr.buildSlice t len (parts.map fun x=>(x.1,a.eval x.2))).run P w= .ok (.slice (some ⟨w.heap.size,0,none⟩) len len) {w with heap:=w.heap.push (.cells cs.toList.toArray e)}:=by
        have e1:(parts.toList.map fun (i,x)=>(i,a.eval x)).toArray=parts.map fun x=>(x.1,a.eval x.2):=by apply Array.ext';simp
        rw[←e1];simpa using r1
       simp[execOp,r1']
     ·cases h
   ·cases h
  ·cases h
 ·rename_i t l c;split at h
  ·rename_i e ht;split at h
   ·rename_i k l' c' he hl hc;split at h
    ·rename_i k1 la k2 ca hla hca;split at h
     ·rename_i sv σ1 hm;simp only[aA,aD] at h;obtain ⟨rfl,rfl⟩:=h;obtain ⟨E',w',u,r1,r2,r3⟩:=makeS_sound (P:=P) (k1:=k1) (k2:=k2) hm ht he hH hI hw;refine ⟨E',w',sv,u,r2,rfl,r3,?_⟩;have e1:=gV hla (eW hA hl);have e2:=gV hca (eW hA hc);simp[execOp,e1,e2,r1]
     ·cases h
    ·cases h
   ·cases h
  ·cases h
 ·rename_i args argTypes;split at h
  ·rename_i s x t tx hargs htys;obtain ⟨args⟩:=args;obtain ⟨argTypes⟩:=argTypes;simp only at hargs htys;subst hargs;subst htys;split at h
   ·rename_i e ht;split at h
    ·rename_i k sv0 xv0 he hs hx;split at h
     ·rename_i sv σ1 hm;simp only[aA,aD] at h;obtain ⟨rfl,rfl⟩:=h;obtain ⟨E',w',u,r1,r2,r3⟩:=appendS_sound (P:=P) (ty:=type) hm ht he (eW hA hs) (eW hA hx) hH hI hw;refine ⟨E',w',sv,u,r2,rfl,r3,?_⟩;simp[execOp,resolve,invoke,builtin,r1]
     ·cases h
    ·cases h
   ·cases h
  ·cases h
 ·rename_i args argTypes;split at h
  ·rename_i d x t tx hargs htys;obtain ⟨args⟩:=args;obtain ⟨argTypes⟩:=argTypes;simp only at hargs htys;subst hargs;subst htys;split at h
   ·rename_i e ht;split at h
    ·rename_i k sv0 xv0 he hs hx;split at h
     ·rename_i sv σ1 hm;simp only[aA,aD] at h;obtain ⟨rfl,rfl⟩:=h;obtain ⟨w',u,r1,r2,r3⟩:=copyS_sound (P:=P) (ty:=type) hm ht he (eW hA hs) (eW hA hx) hH hI hw;refine ⟨E,w',sv,u,r2,rfl,r3,?_⟩;simp[execOp,resolve,invoke,builtin,r1]
     ·cases h
    ·cases h
   ·cases h
  ·cases h
 ·rename_i args argTypes;split at h
  ·rename_i x t hargs htys;obtain ⟨args⟩:=args;obtain ⟨argTypes⟩:=argTypes;simp only at hargs htys;subst hargs;subst htys;have run:∀w,(execOp a.eval ⟨dst,.call {callee:= .builtin .cap,args:=⟨[x]⟩,argTypes:=⟨[t]⟩},type,pos,after,guard⟩).run P w =
    ((Builtin.cap_ #[t] type #[a.eval x]).run P w).andThen fun u w=> .ok (.value u) w:=fun w=>by
    simp[execOp,resolve,invoke,builtin]
   split at h
   ·rename_i b off len c e hx ht;have hd':(Sc.sl b off len (some c)).den N E=some (a.eval x):=eW hA hx;obtain ⟨q,s,cc,m,hb,h0,ex,hmm,_⟩:=gC hd';split at h
    ·rename_i σ1 hle;simp only[aA,aD] at h;obtain ⟨rfl,rfl⟩:=h;have:=fO hle hH;rw[gE] at this;simp only[capOf] at hmm;refine ⟨E,w,_,_,fD (fC hle) hI hw,rfl,arV_den,?_⟩;rw[run];simp[Builtin.cap_,ex,run_underlying ht,goInt,hmm,Int.toNat_of_nonneg this]
    ·cases h
   ·rename_i m c e hx ht;simp only[aA,aD] at h;obtain ⟨rfl,rfl⟩:=h;have ex:=kst_den (eW hA hx);refine ⟨E,w,_,_,Post.refl hI hw,rfl,rfl,?_⟩;rw[run];simp[Builtin.cap_,ex,run_underlying ht,goInt]
   ·cases h
  ·cases h
 ·cases h
theorem ptrsS_den:∀ {l:List Operand} {r:List (Nat×Ar)},ptrsS T l=some r→RA N E n T a→denP N E r=some (l.map a.eval)
 | [],r,h,_=>by simp only[ptrsS,aA] at h;subst h;rfl
 | x::l,r,h,hA=>by
  simp only[ptrsS] at h;split at h
  ·rename_i b off hx;simp only[aV] at h;obtain ⟨r',hr,rfl⟩:=h;obtain ⟨q,s,c,h1,h2,h3⟩:=ptr_den (eW hA hx);simp only[denP,h1,dY,ptrsS_den hr hA,Option.map_some,aI,h3];rw[bG h2]
  ·cases h
theorem op3_ext {o:Op}(h:op3 P T σ o=some (v,σ')):σ'=σ:=by
 unfold op3 at h;split at h
 ·split at h;·simp only[aA,aD] at h;exact h.2.symm
  ·cases h
 ·split at h;·simp only[aA,aD] at h;exact h.2.symm
  ·cases h
 ·cases h
theorem op3_sound {o:Oper}(h:op3 P T σ o.op=some (v,σ'))(hA:RA N E n T a)(w:World):∃sv u,v=some sv∧sv.den N E=some u∧(execOp a.eval o).run P w= .ok (.value u) w:=by
 obtain ⟨dst,op,type,pos,after,guard⟩:=o;unfold op3 at h;simp only at h;split at h
 ·rename_i t x;split at h
  ·rename_i b off e hx hu;simp only[aA,aD] at h;obtain ⟨rfl,rfl⟩:=h;obtain ⟨q,s,c,h1,h2,h3⟩:=ptr_den (eW hA hx);refine ⟨_,.iface t (a.eval x),rfl,?_,?_⟩
   ·simp only[one,SV.den,V1.den,Sc.den,h1,dY,h3];rw[bG h2]
   ·simp [execOp,Instr.makeInterface,run_underlying hu]
  ·cases h
 ·rename_i f first captured
  split at h
  ·rename_i l hf hl;simp only[aA,aD] at h;obtain ⟨rfl,rfl⟩:=h;have h1:first= #[]:=by cases first;simp_all
   subst h1;refine ⟨_,.func (.func f) #[] (captured.map a.eval),rfl,?_,?_⟩
   ·simp only[one,SV.den,V1.den,Sc.den,ptrsS_den hl hA,Option.map_some];have e:(captured.toList.map a.eval).toArray=captured.map a.eval:=by simp[←List.map_toArray]
    rw[e]
   ·simp [execOp,Instr.makeFunc]
  ·cases h
 ·cases h
theorem opX_ext {o:Op}(h:opX P T σ o=some (v,σ')):Ext σ σ':=by
 unfold opX at h;split at h
 ·rename_i hr;simp only[aA] at h;subst h;exact op2_ext hr
 ·split at h
  ·rename_i hr;simp only[aA] at h;subst h;exact op1_ext hr
  ·rw [op3_ext h];exact Ext.refl _
theorem opX_sound {o:Oper}(h:opX P T σ o.op=some (v,σ'))(hA:RA N E n T a)(hI:Inv E σ)(hH:Hold F N σ'){w:World}(hw:BW N E σ.bks w) :
 ∃E' w',Post N E σ w N E' σ' w'∧((v=none∧(execOp a.eval o).run P w= .ok .skip w')∨∃sv u,v=some sv∧sv.den N E'=some u∧(execOp a.eval o).run P w= .ok (.value u) w'):=by
 unfold opX at h;split at h
 ·rename_i r hr;simp only[aA] at h;subst h;obtain ⟨E',w',sv,u,h1,h2,h3,h4⟩:=op2_sound hr hA hI hH hw;exact ⟨E',w',h1,.inr ⟨sv,u,h2,h3,h4⟩⟩
 ·split at h
  ·rename_i r hr;simp only[aA] at h;subst h;exact op1_sound hr hA hI hH hw
  ·obtain ⟨sv,u,h2,h3,h4⟩:=op3_sound h hA w;have:=op3_ext h;subst this;exact ⟨E,w,Post.refl hI hw,.inr ⟨sv,u,h2,h3,h4⟩⟩
end
section
variable {P:Program} {ops:Array Oper} {md:Region.Mode} {CC:(World→Prop)→Prop}
def YieldsU (P:Program)(ops:Array Oper)(CC:(World→Prop)→Prop)(o:Oper)(v:Value)(a:Act):Prop :=
 (Region.wanted o (yielded ops a.tmps)=true∧∀C,CC C→∀w,C w→o.quietAt P a C w v)∨(Region.wanted o (yielded ops a.tmps)=false∧v=undef)
theorem YieldsU.of_same {o:Oper}{v:Value}{a a':Act}(hy:YieldsU P ops CC o v a)(he:execOp a'.eval o=execOp a.eval o)
 (hw:Region.wanted o (yielded ops a'.tmps)=Region.wanted o (yielded ops a.tmps)):YieldsU P ops CC o v a':=by
 unfold YieldsU Oper.quietAt at *;rw[he,hw];exact hy
def upd (pos:Nat→Nat)(i q:Nat):Nat→Nat:=fun j=>if j=i then q else pos j
theorem upd_comm {pos:Nat→Nat}{i j q r:Nat}(h:i≠j):upd (upd pos i q) j r=upd (upd pos j r) i q:=by
 funext x
 unfold upd;by_cases h1:x=j
 ·by_cases h2:x=i;·exact absurd (h2.symm.trans h1) h
  ·simp only[h1,if_true,bC (Ne.symm h)]
 ·simp only[bC h1]
def ptrV (q:Nat):Value:= .pointer (some ⟨q,0,none⟩)
def xOp (P:Program)(ops:Array Oper)(CC:(World→Prop)→Prop)(m i:Nat)(K:(Nat→Nat)→Act→Prop)(pos:Nat→Nat)(a:Act):Prop :=
 ∃o,ops[i]? =some o∧((i<m∧∃v,YieldsU P ops CC o v a∧K pos (a.put o.dst v))∨(m≤i∧isAlloc o=true∧∀q,K (upd pos i q) (a.put o.dst (ptrV q))))
theorem xOp_mono {m i:Nat}{K K':(Nat→Nat)→Act→Prop}{pos:Nat→Nat}{a:Act}(h:∀p a,K p a→K' p a)(hh:xOp P ops CC m i K pos a):xOp P ops CC m i K' pos a:=by
 obtain ⟨o,ho,h1 | h1⟩:=hh;·obtain ⟨h1,v,h2,h3⟩:=h1;exact ⟨o,ho,.inl ⟨h1,v,h2,h _ _ h3⟩⟩
 ·obtain ⟨h1,h2,h3⟩:=h1;exact ⟨o,ho,.inr ⟨h1,h2,fun q=>h _ _ (h3 q)⟩⟩
theorem xOp_some {m i:Nat}{K:(Nat→Nat)→Act→Prop}{pos:Nat→Nat}{a:Act}(hh:xOp P ops CC m i K pos a):∃p a,K p a:=by
 obtain ⟨o,ho,h1 | h1⟩:=hh;·obtain ⟨h1,v,h2,h3⟩:=h1;exact ⟨_,_,h3⟩
 ·obtain ⟨h1,h2,h3⟩:=h1;exact ⟨_,_,h3 0⟩
theorem xOp_comm {m i j:Nat}{oi oj:Oper}(hi:ops[i]? =some oi)(hj:ops[j]? =some oj)(hne:i≠j)(hjm:j<m→i<m)(hap:oi.apart ops oj=true)
 (hsel:∀(j:Nat) (o:Oper) cs b,ops[j]? =some o→o.op≠ .select cs b) {K:(Nat→Nat)→Act→Prop} {pos:Nat→Nat} {a:Act}
 (h:xOp P ops CC m i (xOp P ops CC m j K) pos a):xOp P ops CC m j (xOp P ops CC m i K) pos a:=by
 obtain ⟨h1,h2,h3⟩:=Oper.apart_spec hap;have ki:∀ {v u},YieldsU P ops CC oi v a→YieldsU P ops CC oi v (a.put oj.dst u):=fun {v u} hy =>
  hy.of_same (execOp_put oi (fun cs b=>hsel i oi cs b hi) a oj.dst u h3) (wanted_put oi a oj.dst u h3)
 have kj:∀ {v u},YieldsU P ops CC oj v (a.put oi.dst u)→YieldsU P ops CC oj v a:=fun {v u} hy =>
  hy.of_same (execOp_put oj (fun cs b=>hsel j oj cs b hj) a oi.dst u h1).symm (wanted_put oj a oi.dst u h1).symm
 obtain ⟨o,ho,h⟩:=h;have:o=oi:=dP (ho.symm.trans hi);subst this;refine ⟨oj,hj,?_⟩;rcases h with ⟨him,v,hy,o',ho',h⟩ | ⟨him,hal,h⟩
 ·have:o'=oj:=dP (ho'.symm.trans hj);subst this;rcases h with ⟨hjm,u,hu,hK⟩ | ⟨hjm,hal,hK⟩
  ·exact .inl ⟨hjm,u,kj hu,o,hi,.inl ⟨him,v,ki hy,by rw[←Act.put_comm a v u h2];exact hK⟩⟩
  ·exact .inr ⟨hjm,hal,fun q=>⟨o,hi,.inl ⟨him,v,ki hy,by rw[←Act.put_comm a v _ h2];exact hK q⟩⟩⟩
 ·have hjm':m≤j:=by
   rcases bL j m with h' | h'
   ·have:=hjm h';omega
   ·exact h'
  obtain ⟨o',ho',h'⟩:=h 0;have:o'=oj:=dP (ho'.symm.trans hj);subst this;have hal':isAlloc o'=true:=by
   rcases h' with ⟨h',_⟩ | ⟨_,h',_⟩
   ·omega
   ·exact h'
  refine .inr ⟨hjm',hal',fun r=>⟨o,hi,.inr ⟨him,hal,fun q=> ?_⟩⟩⟩;obtain ⟨o2,ho2,h2'⟩:=h q;have:o2=o':=dP (ho2.symm.trans hj);subst this;rcases h2' with ⟨h',_⟩ | ⟨_,_,h'⟩
  ·omega
  ·rw [←Act.put_comm a _ _ h2,←upd_comm hne];exact h' r
def wpAnyA (P:Program)(md:Region.Mode)(ops:Array Oper)(CC:(World→Prop)→Prop)(m n:Nat)(L:(Nat→Nat)→Array Bool→Act→Prop):Nat→(Nat→Nat)→Array Bool→Act→Prop
 | 0,pos,listed,a=>L pos listed a
 | f+1,pos,listed,a =>
  Region.ready md ops listed≠[]∧∀i∈Region.ready md ops listed,i<n∧xOp P ops CC m i (fun p a=>wpAnyA P md ops CC m n L f p (listed.setIfInBounds i true) a) pos a
theorem wpAny_of_headA {m n g:Nat}{L:(Nat→Nat)→Array Bool→Act→Prop}{Q':Exit→Act→World→Prop}{I:(Nat→Nat)→Array Bool→World→Prop}
 (hL:∀pos listed a w,I pos listed w→L pos listed a→wpAny P md ops Q' g listed a w)
 (hq:∀pos listed i,i<m→CC (I pos (listed.setIfInBounds i true))∧∀w,I pos listed w→I pos (listed.setIfInBounds i true) w)
 (ha:∀pos listed i o (a:Act) w,m≤i→i<n→listed.getD i true=false→ops[i]? =some o→isAlloc o=true→I pos listed w →
  ∃q w',(execOp a.eval o).run P w= .ok (.value (ptrV q)) w'∧I (upd pos i q) (listed.setIfInBounds i true) w') :
 ∀(f:Nat) (pos:Nat→Nat) (listed:Array Bool) (a:Act) (w:World),I pos listed w→wpAnyA P md ops CC m n L f pos listed a→wpAny P md ops Q' (f+g) listed a w
 | 0,pos,listed,a,w,hw,h=>by rw[bM];exact hL _ _ _ _ hw h
 | f+1,pos,listed,a,w,hw,h=>by
  rw[show f+1+g=(f+g)+1 by omega];refine ⟨fun h0=>absurd h0 h.1,fun i hi=> ?_⟩;obtain ⟨hin,o,ho,hx⟩:=h.2 i hi;have ih:=wpAny_of_headA hL hq ha f;unfold wpOp;simp only[ho];rcases hx with ⟨him,v,hy,hK⟩ | ⟨him,hal,hK⟩
  ·obtain ⟨hC,hI⟩:=hq pos listed i him;rcases hy with ⟨hwt,hv⟩ | ⟨hwt,rfl⟩
   ·simp only[hwt,if_true];exact .inl (Oper.wp_of_quiet (C:=I pos (listed.setIfInBounds i true)) (K:=fun a'=>a'=a.put o.dst v) (hI w hw) (fun a' w' hw' e=>by subst e;exact ih pos _ _ w' hw' hK) ⟨v,hv _ hC,rfl⟩)
   ·simp only[hwt,bV,if_false];exact ih pos _ _ w (hI w hw) hK
  ·have hg:o.guard=none:=by
    unfold isAlloc at hal;split at hal;·assumption
    ·cases hal
   obtain ⟨q,w',hr,hI⟩:=ha pos listed i o a w him hin (mem_ready.1 hi).1 ho hal hw;rw[bG (by simp[Region.wanted,hg])];refine .inl ?_;unfold Oper.wp;rw[hr];exact ih _ _ _ w' hI (hK q)
theorem wpAnyA_first {m n i:Nat}{oi:Oper}{L:(Nat→Nat)→Array Bool→Act→Prop}(hi:ops[i]? =some oi)(hsel:∀(j:Nat) (o:Oper) cs b,ops[j]? =some o→o.op≠ .select cs b)
 (hs:Region.sinkB md ops n=true) (hc:Region.chainB md ops n=true) (hn:n<ops.size) (hin:i<n)
 (hdone:∀pos listed a,L pos listed a→∀j∈Region.ready md ops listed,n≤j) :
 ∀(f:Nat) (pos:Nat→Nat) (listed:Array Bool) (a:Act),HeadInv md ops n listed →
  (∀ j oj,ops[j]? =some oj→j≠i→listed.getD j true=false→(∀ e∈oj.after,Region.binds md e=true→e.on≠i)→oi.apart ops oj=true) →
  (m≤i→∀j,j<m→listed.getD j false=true) →
  i∈Region.ready md ops listed →
  xOp P ops CC m i (fun p a=>wpAnyA P md ops CC m n L f p (listed.setIfInBounds i true) a) pos a→wpAnyA P md ops CC m n L (f+1) pos listed a:=by
 intro f
 induction f with
 | zero =>
  intro pos listed a inv _ _ hr H;have hun:=(mem_ready.1 hr).1;refine ⟨fun h=>(by rw[h] at hr;cases hr),fun j hj=> ?_⟩;have hjn:j<n:=by
   rcases bL j n with h | h
   ·exact h
   ·exact absurd hj (tail_waits hs hc hn inv _ i rfl hin hun j h)
  refine ⟨hjn,?_⟩;by_cases hji:j=i;·subst hji;exact H
  ·obtain ⟨p',a',h'⟩:=xOp_some H;have:=hdone _ _ _ h' j (ready_mono hj hji);omega
 | succ f ih =>
  intro pos listed a inv hfree hal hr H;have hun:=(mem_ready.1 hr).1;refine ⟨fun h=>(by rw[h] at hr;cases hr),fun j hj=> ?_⟩;have hjn:j<n:=by
   rcases bL j n with h | h
   ·exact h
   ·exact absurd hj (tail_waits hs hc hn inv _ i rfl hin hun j h)
  refine ⟨hjn,?_⟩;by_cases hji:j=i;·subst hji;exact H
  ·obtain ⟨hjun,oj,hoj,hall⟩:=mem_ready.1 hj;have hnot:∀e∈oj.after,Region.binds md e=true→e.on≠i:=fun e he hb heq=>by
    have h1:=hall e he hb;rw[heq,getD_both hun] at h1;cases h1
   have hap:=hfree j oj hoj hji hjun hnot;have hjm:j<m→i<m:=fun h=>by
    rcases bL i m with h' | h'
    ·exact h'
    ·have:=hal h' j h;rw[getD_both hjun] at this;cases this
   have H1:xOp P ops CC m i (xOp P ops CC m j (fun p a=>wpAnyA P md ops CC m n L f p ((listed.setIfInBounds i true).setIfInBounds j true) a)) pos a :=
    xOp_mono (fun p a' h=>(h.2 j (ready_mono hj hji)).2) H
   have hfree':∀k ok,ops[k]? =some ok→k≠i→(listed.setIfInBounds j true).getD k true=false →
    (∀ e∈ok.after,Region.binds md e=true→e.on≠i)→oi.apart ops ok=true:=fun k ok hk hki hun hno=>by
    refine hfree k ok hk hki ?_ hno;by_cases hjk:j=k;·subst hjk;exact hjun
    ·rw [getD_set_ne true hjk] at hun;exact hun
   refine xOp_mono (fun p a' h3=>ih p (listed.setIfInBounds j true) a' (inv.set hj hjn) hfree' (fun h k hk=>getD_set_true (hal h k hk)) (ready_mono hr (Ne.symm hji)) ?_) (xOp_comm hi hoj (Ne.symm hji) hjm hap hsel H1);rw[Array.setIfInBounds_comm _ _ hji];exact h3
def wpLex (P:Program)(ops:Array Oper)(CC:(World→Prop)→Prop)(m:Nat)(Lq:(Nat→Nat)→Act→Prop):Nat→Nat→(Nat→Nat)→Act→Prop
 | 0,_,pos,a=>Lq pos a
 | l+1,k,pos,a=>xOp P ops CC m k (wpLex P ops CC m Lq l (k+1)) pos a
theorem wpLex_mono {m:Nat}{Lq Lq':(Nat→Nat)→Act→Prop}(h:∀p a,Lq p a→Lq' p a):∀ {l k:Nat} {pos:Nat→Nat} {a:Act},wpLex P ops CC m Lq l k pos a→wpLex P ops CC m Lq' l k pos a
 | 0,_,_,_,hh=>h _ _ hh
 | _+1,_,_,_,hh=>xOp_mono (fun _ _ h'=>wpLex_mono h h') hh
theorem wpQuiet_of_lex {C:World→Prop}{m:Nat}{Lq:(Nat→Nat)→Act→Prop}{pos:Nat→Nat}(hC:CC C):∀ {l:List Oper} {k:Nat} {a:Act},(∀ j,j<l.length→ops[k+j]? =l[j]?)→k+l.length≤m →
 wpLex P ops CC m Lq l.length k pos a→wpQuiet P ops C (Lq pos) l a
 | [],_,_,_,_,h=>h
 | o::l,k,a,hl,hk,h=>by
  simp only[bU] at hk;have h0:ops[k]? =some o:=by simpa using hl 0 (by simp)
  obtain ⟨o',ho,h⟩:=h;have:o'=o:=dP (ho.symm.trans h0);subst this;rcases h with ⟨_,v,hy,hK⟩ | ⟨hm,_⟩
  ·have ih:=wpQuiet_of_lex (l:=l) hC (fun j hj=>by
    have:=hl (j+1) (by simp;omega);rw[dD,Nat.add_comm 1 j];simpa using this) (by omega) hK
   unfold wpQuiet;rcases hy with ⟨hw,hv⟩ | ⟨hw,rfl⟩
   ·rw [bG hw];exact ⟨v,hv C hC,ih⟩
   ·rw [bC (by simp[hw])];exact ih
  ·omega
theorem wpAnyA_lex {m n g:Nat}{Lq:(Nat→Nat)→Act→Prop}(hsel:Region.noSelect ops=true)(hs:Region.sinkB md ops n=true)(hc:Region.chainB md ops n=true)(hn:n<ops.size) :
 ∀(l k:Nat) (pos:Nat→Nat) (listed:Array Bool) (a:Act),k+l=n→HeadInv md ops n listed→(∀ j,j<k→listed.getD j false=true) →
 Region.lexHead md ops g l k listed=true→wpLex P ops CC m Lq l k pos a →
 wpAnyA P md ops CC m n (fun pos' listed' a'=>Region.seqB md ops g n listed'=true∧(∀ j,j<n→listed'.getD j false=true)∧Lq pos' a') l pos listed a
 | 0,k,pos,listed,a,hk,_,hd,hB,h=>by
  have:k=n:=by simpa using hk
  subst this;exact ⟨by simpa [Region.lexHead] using hB,hd,h⟩
 | l+1,k,pos,listed,a,hk,inv,hd,hB,h=>by
  simp only[Region.lexHead,aG] at hB;obtain ⟨⟨hr,hf⟩,hB'⟩:=hB;have hkn:k<n:=by omega
  have hr':k∈Region.ready md ops listed:=by simpa using hr
  have h0:ops[k]? =some (ops[k]'(by omega)):=Array.getElem?_eq_getElem (by omega);have hset:∀j,j<k+1→(listed.setIfInBounds k true).getD j false=true:=fun j hj=>by
   by_cases hjk:k=j
   ·subst hjk;rw[Array.getD_eq_getD_getElem?,Array.getElem?_setIfInBounds,bG rfl,bG (by rw[inv.size];omega)];rfl
   ·exact getD_set_true (hd j (by omega))
  refine wpAnyA_first h0 (Region.noSelect_spec hsel) hs hc hn hkn (fun pos listed' a' hL=>seqB_ready hL.1) l pos listed a inv (Region.free_spec h0 hf) (fun h j hj=>hd j (by omega)) hr' ?_;exact xOp_mono (fun p a' h'=>wpAnyA_lex hsel hs hc hn l (k+1) p _ a' (by omega) (inv.set hr' hkn) hset hB' h') h
theorem wp_region_head {id:Nat}{Q:Exit→Act→World→Prop}{a:Act}{w:World}{l:List Oper}{I:(Nat→Nat)→Array Bool→World→Prop}{pos:Nat→Nat}(m n:Nat)
 (hm:P.follows .mixedOrders=true) (hB:Region.lexTailB .any l.toArray n=true)
 (hI:I pos (Array.replicate l.toArray.size false) {w with drawn:=w.drawn+1})
 (hq:∀pos listed i,i<m→CC (I pos (listed.setIfInBounds i true))∧∀w,I pos listed w→I pos (listed.setIfInBounds i true) w)
 (ha:∀pos listed i o (a:Act) w,m≤i→i<n→listed.getD i true=false→l.toArray[i]? =some o→isAlloc o=true→I pos listed w →
  ∃q w',(execOp a.eval o).run P w= .ok (.value (ptrV q)) w'∧I (upd pos i q) (listed.setIfInBounds i true) w')
 (h:wpLex P l.toArray CC m (fun pos a'=>∀listed w',(∀ j,j<n→listed.getD j false=true)→I pos listed w'→wpList P l.toArray Q (l.drop n) a' w') n 0 pos a) :
 (Code.region id l.toArray true).wp P Q a w:=by
 simp only[Region.lexTailB,aG,dL] at hB;obtain ⟨⟨⟨⟨hsel,hn⟩,hs⟩,hc⟩,hlex⟩:=hB;have hn':n<l.length:=by simpa using hn
 have hdl:(l.drop n).length=l.toArray.size-n:=by simp
 have inv0:HeadInv .any l.toArray n (Array.replicate l.toArray.size false) :=
  ⟨by simp,fun j oj _ hl=>(by rw[getD_replicate_false] at hl;cases hl),fun t _ ht=>getD_in (by simpa using ht) (getD_replicate_false _ _)⟩
 have H:=wpAnyA_lex (P:=P) (CC:=CC) (md:= .any) (g:=l.toArray.size-n) hsel hs hc hn n 0 pos _ a (by omega) inv0 (fun j hj=>by omega) hlex h;refine wp_region_any hm ?_;have:=wpAny_of_headA (Q':=Q) (I:=I) (g:=l.toArray.size-n) (fun pos listed a' w' hw' hL=>by
  have:=wpAny_of_seq (md:= .any) (Q':=Q) (l.drop n) n listed a' w' (fun j=>by simp) (by rw[hdl];exact hL.1) (hL.2.2 listed w' hL.2.1 hw')
  rwa [hdl] at this) hq ha _ _ _ _ _ hI H
 rw[show n+(l.toArray.size-n)=l.toArray.size by omega] at this;exact this
end
end Go.Sy
