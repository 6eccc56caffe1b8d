/- The row and its card. -/
import Derived.Test.YtnfikgagkamioaaGreatDoorRows
import Derived.Test.YtnfikgagkamioaaGreatDoorTie
import Derived.Test.YtnfikgagkamioaaGreatDoorCards
import Derived.ProofKit
import Derived.OpenShut
import Derived.ChangeOld
import Derived.ChangeVars
import Derived.LaidMore
import Derived.Below
import Derived.Test.YtnfikgagkamioaaGreatDoorXF
namespace Go.Proofs.YtnfikgagkamioaaGreatDoor
open Go.Sy Go.ChangeShapes Go.WideShapes Go.ChangeAt Go.RowKit
theorem ownK:ownKnob Tryz.prog.godebug=none:=by kernel_rfl
theorem laidOut:laidOutB Tryz.prog=true:=by kernel_rfl
theorem cells5:Tryz.prog.cellsOf 5=1:=by kernel_rfl
theorem cells23:Tryz.prog.cellsOf 23=24:=by kernel_rfl
theorem cells24:Tryz.prog.cellsOf 24=32:=by kernel_rfl
theorem cells52:Tryz.prog.cellsOf 52=1:=by kernel_rfl
theorem cells107:Tryz.prog.cellsOf 107=5:=by kernel_rfl
theorem glob0 : Tryz.prog.globalNamed "loop.example/pub-g03085/pub/field.feOne" = some 0 := by kernel_rfl
theorem gtyp0:(Tryz.prog.globals[0]?).map (·.type)=some 108:=by kernel_rfl
noncomputable abbrev laidL : List (String × DataW Unit) := [("loop.example/pub-g03085/pub/field.feOne", Rows.laid_loop_example_pub_g03085_pub_field_feOne)]
theorem rowAt_le {P:Program}{fits:TypeId→Bool}{d:Nat}{e:TypeId}{count off n:Nat}(h:rowAt P fits d e count off n=true):off≤count*P.cellsOf e:=by
 cases d with
 | zero=>cases h
 | succ d =>
  unfold rowAt at h;by_cases hs:P.cellsOf e=0;·simp only[hs,if_true] at h;cases h
  ·simp only[hs,if_false,eM,aG,beq_iff_eq,dL] at h;have hd:=Nat.div_add_mod off (P.cellsOf e);rcases h with h | h
   ·obtain ⟨⟨h1,h2⟩,_⟩:=h;have:P.cellsOf e*(off/P.cellsOf e)≤P.cellsOf e*count:=Nat.mul_le_mul_left _ (by omega);rw[Nat.mul_comm count];omega
   ·have h1:=h.1;have:P.cellsOf e*(off/P.cellsOf e+1)≤P.cellsOf e*count:=Nat.mul_le_mul_left _ h1;rw[Nat.mul_add,Nat.mul_one] at this;have:=Nat.mod_lt off (Nat.pos_of_ne_zero hs);rw[Nat.mul_comm count];omega
theorem liesAt_le {P:Program}{e:TypeId}{count off:Nat}:∀ {d:Nat} {u:TypeId} {n:Nat},liesAt P d e count off u n=true→off≤count*P.cellsOf e
 | 0,_,_,h=>by cases h
 | d+1,u,n,h=>by
  unfold liesAt at h;rw[eM] at h;rcases h with h | h
  ·exact rowAt_le h
  ·split at h;·exact liesAt_le h
   ·cases h
theorem has_row {P:Program}{w:World}{r:Reach}{base:Nat}{a:Addr}{e:TypeId}{n:Nat}(h:World.has P w r base a e n):a.spot=none∧∃arr el fz,w.heap[a.block]? =some (.cells arr el fz)∧a.off≤arr.size:=by
 obtain ⟨-,hs,row,cells,h1,h2⟩:=h;refine ⟨hs,?_⟩;have h3:=liesAt_le h2;have h4:=Nat.div_mul_le_self cells (P.cellsOf row);unfold World.shape? at h1;split at h1
 ·rename_i arr el fz hq;simp only[aA,aD] at h1;exact ⟨arr,el,fz,hq,by omega⟩
 ·cases h1
def Came (w:World)(v:Value):Prop:=v=S.nilV∨∃q s c L,v= .slice (some ⟨q,s,none⟩) L.length c∧L.length≤c∧Bytes L∧Mem w q s .u8 L false
theorem came {H:Type}{enc:TypeId×Value→H}{P:Program}{W:World}{r:Reach}{base b0:Nat}{spare:Nat→Bool}{held:Bool}{t e:TypeId}{v:Value}{d:DataW H}{p:List MemPlace}(ht:P.underlying t=some (.slice e))(he:P.underlying e=some (.int .u8))(hc:P.cellsOf e=1)
 (hv:Value.okWide P W r b0 t v) (h:DataW.Trod enc P W base spare held t v d p):Came W v:=by
 obtain ⟨a,len,cap,rfl⟩:=okWide_slice ht hv;obtain ⟨fuel,hf⟩:=h;rcases open_ints ht he hc hf with ⟨hcs,_⟩ | ⟨x,l,c,zs,hcs,_,hl,hm,hz,_,hcell,hwz⟩
 ·simp [Value.cells] at hcs;obtain ⟨rfl,rfl,rfl⟩:=hcs;exact Or.inl rfl
 ·simp [Value.cells] at hcs;obtain ⟨rfl,rfl,rfl⟩:=hcs;have hv1:len≤cap∧(cap:Int)≤IntKind.i64.max∧World.has P W r b0 x e cap:=by
   simp only[Value.okWide,Cell.okWide,Cell.ok,ht] at hv;exact hv
  obtain ⟨hs,arr,el,fz,hq,ho⟩:=has_row hv1.2.2;obtain ⟨q,s,sp⟩:=x;simp only at hs hq ho;subst hs;have hlz:len≤zs.length:=by rw[hz];split <;> omega
  have hlen:(zs.take len).length=len:=by rw[bE];omega
  have hat:∀i,i<zs.length→arr[s+i]? =some (.int .u8 (zs.getD i 0)):=fun i hi=>by have:=hcell i hi;rw[show (⟨q,s,none⟩:Addr).add i=⟨q,s+i,none⟩ by unfold Addr.add;split <;> simp_all,World.cell?] at this;simp only[hq] at this;exact this
  refine Or.inr ⟨q,s,cap,zs.take len,by rw[hlen],by rw[hlen];exact hl,fun n hn=> ?_,arr,el,fz,hq,nofun,?_,fun j v hj=> ?_⟩
  ·have:=bounds_u8 (hwz n (dQ hn));omega
  ·rw [hlen];rcases dU len with h0 | h0
   ·omega
   ·have:=hat (len-1) (by omega);have:=(Array.getElem?_eq_some_iff.1 this).1;omega
  ·have hj2:j<len:=by
    have:=(List.getElem?_eq_some_iff.1 hj).1;omega
   rw[cY hj2] at hj;rw[hat j (by omega),aE,hj];rfl
theorem arrCame {H:Type}{enc:TypeId×Value→H}{P:Program}{W:World}{r:Reach}{base b0 n:Nat}{spare:Nat→Bool}{held:Bool}{t e:TypeId}{v:Value}{d:DataW H}{p:List MemPlace}(ht:P.underlying t=some (.array n e))(he:P.underlying e=some (.int .u8))(hc:P.cellsOf e=1)(hn:P.cellsOf t=n)
 (hv:Value.okWide P W r b0 t v) (h:DataW.Trod enc P W base spare held t v d p):∃L,v= .agg (intsV .u8 L).toArray∧L.length=n∧Bytes L:=by
 simp only[Value.okWide,ht] at hv;obtain ⟨cs,rfl,hsz,_⟩:=hv;obtain ⟨fuel,hf⟩:=h;obtain ⟨xs,m,-,-,hlen,hx,hall⟩:=DataW.trod_array ht hf;have hcell:∀i,i<n→∃a,cs[i]? =some (.int .u8 a)∧0≤a∧a<256:=fun i hi=>by
  have h1:=hall i hi;obtain ⟨y,hy⟩:∃y,xs[i]? =some y:=⟨_,aU (by omega)⟩
  rw[hy,hc,Nat.mul_one] at h1;obtain ⟨a,ea,-,wf⟩:=DataW.trod_int he h1;refine ⟨a,?_,by have:=bounds_u8 wf;omega⟩;have:((Value.cells (.agg cs)).toList.drop i).take 1=[.int .u8 a]:=ea;have h2:(((Value.cells (.agg cs)).toList.drop i).take 1)[0]? =some (.int .u8 a):=by rw[this];rfl
  rw[cY (by decide),cH] at h2;simpa [Value.cells] using h2
 refine ⟨cs.toList.map (fun v=>match v with | .int _ a=>a | _=>0),?_,by rw[bF,Array.length_toList,hsz,hn],?_⟩
 ·have hl:intsV .u8 (cs.toList.map (fun v=>match v with | .int _ a=>a | _=>0))=cs.toList:=by
   apply dA;intro i;simp only[intsV,cZ,bP,Array.getElem?_toList];by_cases hi:i<n
   ·obtain ⟨a,ha,-⟩:=hcell i hi;rw[ha];rfl
   ·rw [cQ (by omega)];rfl
  rw[hl]
 ·intro d hd;obtain ⟨u,hu,rfl⟩:=dC.1 hd;obtain ⟨i,hi,e⟩:=List.getElem_of_mem hu;obtain ⟨a,ha,h0,h1⟩:=hcell i (by rw[Array.length_toList,hsz,hn] at hi;exact hi);rw[←Array.getElem?_toList,aU hi,e] at ha;simp only[aA] at ha;subst ha;exact ⟨h0,h1⟩
def One (W:World)(q s:Nat):Prop:=(∃ arr el fz,W.heap[0]? =some (.cells arr el fz)∧arr[0]? =some (.pointer (some ⟨q,s,none⟩)))∧Mem W q s .u64 [1,0,0,0,0] false
theorem trod_u64 {H:Type}{enc:TypeId×Value→H}{W:World}{base fuel:Nat}{spare:Nat→Bool}{held:Bool}{cs:List Value}{d:DataW H}{p:List MemPlace}(h:DataW.trod enc Tryz.prog W base spare held fuel 52 cs=some (d,p)):∃n,cs=[.int .u64 n]∧d= .lit (.int .u64 n):=by
 obtain ⟨n,h1,h2,-⟩:=DataW.trod_int Tryz.underlying52 h;simp only[aD] at h2;exact ⟨n,h1,h2.1⟩
theorem of_laid {W:World}(h:laidMetH Tryz.prog laidL W):∃q s,One W q s:=by
 rw[MakeChecks.laidMetH_plain _ _ _ (by kernel_rfl)] at h;obtain ⟨ps,⟨g0,t0,cs0,f0,p0,q0,hg0,ht0,hv0,hd0,-,-⟩,-,-⟩:=h;obtain rfl:=dP (glob0.symm.trans hg0);obtain rfl:=dP (gtyp0.symm.trans ht0);rcases DataW.trod_pointer Tryz.underlying108 hd0 with ⟨_,hx⟩ | ⟨a,cs,y,n,-,hcs,hx,hc,hy⟩
 ·simp only[aD] at hx;exact absurd hx.1 (by unfold Rows.laid_loop_example_pub_g03085_pub_field_feOne;intro e;cases e)
 rw[cells107] at hc;obtain ⟨xs,m,-,hy2,hl,hxl,hall⟩:=DataW.trod_struct Tryz.underlying107 hy;rw[cells107] at hl;simp only[aD] at hx;have hxs:xs.map (·.1)=[.lit (.int .u64 1),.lit (.int .u64 0),.lit (.int .u64 0),.lit (.int .u64 0),.lit (.int .u64 0)]:=by
  have e1:DataW.ptr y.1=Rows.laid_loop_example_pub_g03085_pub_field_feOne (H:=Unit):=hx.1.symm;unfold Rows.laid_loop_example_pub_g03085_pub_field_feOne at e1;rw[hy2] at e1;injection e1 with e1
  injection e1
 have at5:∀i,i<5→cs[i]? =some (.int .u64 ([1,0,0,0,0].getD i 0)):=fun i hi=>by
  have key : ∀ (f : Field), f.type = 52 → f.offset = i → (#[{ name := "l0", type := 52, offset := 0, embedded := false, tag := "", pkgPath := "loop.example/pub-g03085/pub/field", byteOffset := 0 }, { name := "l1", type := 52, offset := 1, embedded := false, tag := "", pkgPath := "loop.example/pub-g03085/pub/field", byteOffset := 8 },
   { name := "l2", type := 52, offset := 2, embedded := false, tag := "", pkgPath := "loop.example/pub-g03085/pub/field", byteOffset := 16 }, { name := "l3", type := 52, offset := 3, embedded := false, tag := "", pkgPath := "loop.example/pub-g03085/pub/field", byteOffset := 24 }, { name := "l4", type := 52, offset := 4, embedded := false, tag := "", pkgPath := "loop.example/pub-g03085/pub/field", byteOffset := 32 }] : Array Field)[i]? = some f → cs[i]? = some (.int .u64 ([1, 0, 0, 0, 0].getD i 0)) := fun f h1 h2 h3 => by
   have h4:=hall i f h3;rw[h1,h2,cells52] at h4;have hxi:i<xs.length:=by rw[hxl];exact hi
   rw[aU hxi] at h4;obtain ⟨v,e1,e2⟩:=trod_u64 (d:=xs[i].1) (p:=xs[i].2) h4;have e3:(xs.map (·.1))[i]? =some (.lit (.int .u64 v)):=by rw[bP,aU hxi,Option.map_some,e2]
   rw[hxs] at e3;have e4:((cs.drop i).take 1)[0]? =some (.int .u64 v):=by rw[e1];rfl
   rw[cY (by decide),cH,cJ] at e4;rw[e4]
   match i,hi,e3 with
   | 0,_,e3=>cases e3;rfl
   | 1,_,e3=>cases e3;rfl
   | 2,_,e3=>cases e3;rfl
   | 3,_,e3=>cases e3;rfl
   | 4,_,e3=>cases e3;rfl
  match i,hi with
  | 0,_=>exact key _ rfl rfl rfl
  | 1,_=>exact key _ rfl rfl rfl
  | 2,_=>exact key _ rfl rfl rfl
  | 3,_=>exact key _ rfl rfl rfl
  | 4,_=>exact key _ rfl rfl rfl
 obtain ⟨-,-,hcell⟩:=World.cells?_some hc;have c0:W.cell? a=some (.int .u64 1):=by have:=hcell 0 (by decide);rw[show a.add 0=a from rfl,at5 0 (by decide)] at this;exact this
 have hs:=World.cell?_spot c0;obtain ⟨q,s,sp⟩:=a;simp only at hs;subst hs;refine ⟨q,s,?_,?_⟩
 ·simp only[World.var?,glob0,dY] at hv0;split at hv0
  ·rename_i c t fr hb;simp only[aA] at hv0;subst hv0;exact ⟨_,_,_,hb,by rw[←Array.getElem?_toList,hcs];rfl⟩
  ·cases hv0
 ·have hat:∀i,i<5→W.cell? ⟨q,s+i,none⟩=some (.int .u64 ([1,0,0,0,0].getD i 0)):=fun i hi=>by
   have:=hcell i hi;rw[at5 i hi,show (⟨q,s,none⟩:Addr).add i=⟨q,s+i,none⟩ by unfold Addr.add;split <;> simp_all] at this;exact this
  have h0:=hat 0 (by decide);simp only[World.cell?] at h0;split at h0
  ·rename_i c t fr hb;have hc5:∀i,i<5→c[s+i]? =some (.int .u64 ([1,0,0,0,0].getD i 0)):=fun i hi=>by
    have:=hat i hi;simp only[World.cell?,hb] at this;exact this
   refine ⟨c,t,fr,hb,nofun,?_,fun j v hj=> ?_⟩
   ·have:=(Array.getElem?_eq_some_iff.1 (hc5 4 (by decide))).1;show s+5≤c.size;omega
   ·have hj5:j<5:=(List.getElem?_eq_some_iff.1 hj).1;rw[hc5 j hj5,aE,hj];rfl
  ·cases h0
theorem growBelow {w w':World}(h:Grow none w w'):RowKit.Below w.heap.size w w':=⟨h.os,h.tape,h.output,h.size,fun q hq=>h.old q hq nofun⟩
theorem said {a b:Bool}{w:World}{q s:Nat}{v0 v1:Value}{ls:List (List Int)}{ws:List (Option Win)}{nonce pb pv:List Int}(h1:One w q s)
 (hA:Args w (ct3c a b).ps [.pointer (some ⟨q,s,none⟩),v0,v1,.agg (intsV .u8 nonce).toArray,.agg (intsV .u8 pb).toArray,.agg (intsV .u8 pv).toArray] [] ls ws) (hW:ApartW ws) (hn:∀y,some y∈ws→y.rw=false) (hp:P300 [] ls) (hr:rwW (ct3c a b).ps ws=none) (hg:grW (ct3c a b).ps ws=none) :
 Calls Tryz.prog 3 #[v0,v1,.agg (intsV .u8 nonce).toArray,.agg (intsV .u8 pb).toArray,.agg (intsV .u8 pv).toArray] w fun e w'=>e= .returned (.bool true)∧RowKit.Below w.heap.size w w':=by
 have hG:GlobOk (ct3c a b).glp w [.pointer (some ⟨q,s,none⟩),v0,v1,.agg (intsV .u8 nonce).toArray,.agg (intsV .u8 pb).toArray,.agg (intsV .u8 pv).toArray] ws:=by obtain ⟨⟨arr,el,fz,e1,e2⟩,-⟩:=h1;exact ⟨arr,el,fz,_,e1,e2,fun v hv=>by simp only[List.head?_cons,aA] at hv;exact hv.symm,fun y hy hrw=>by rw[hn y hy] at hrw;cases hrw⟩
 refine (spec3 f3 a b _ _ _ _ _ hA hW hG hp).mono fun e w' ⟨u,he,w1,vs,sl,hu,h1,h2,h3,h4⟩=> ?_
 rw[hr] at h1;rw[hg] at h2;simp only at h1;subst h1
 match vs,h4 with
 | [v],h4 =>obtain ⟨rfl,-⟩:=h4;subst hu;exact ⟨he,growBelow h2⟩
theorem walk {w:World}{q s:Nat}{v0 v1:Value}{nonce pb pv:List Int}(h1:One w q s)(c0:Came w v0)(c1:Came w v1)(ln:nonce.length=24)(lp:pb.length=32)(lv:pv.length=32)(bn:Bytes nonce)(bp:Bytes pb)(bv:Bytes pv) :
 Calls Tryz.prog 3 #[v0,v1,.agg (intsV .u8 nonce).toArray,.agg (intsV .u8 pb).toArray,.agg (intsV .u8 pv).toArray] w fun e w'=>e= .returned (.bool true)∧RowKit.Below w.heap.size w w':=by
 have tail:Args w [.agg .u8 24,.agg .u8 32,.agg .u8 32] [.agg (intsV .u8 nonce).toArray,.agg (intsV .u8 pb).toArray,.agg (intsV .u8 pv).toArray] [] [nonce,pb,pv] [none,none,none]:= .agg ln (.agg lp (.agg lv .nil));have bt:∀l∈[nonce,pb,pv],Bytes l:=by simp only[aC];exact ⟨bn,bp,bv,nofun⟩
 have pt:∀ {ps us is ls ws},Args w ps us is ls ws→Args w (fe false::ps) (.pointer (some ⟨q,s,none⟩)::us) is ([1,0,0,0,0]::ls) (some ⟨q,s,5,false⟩::ws):=fun h=> .ptr h1.2 rfl h
 rcases c0 with rfl | ⟨q0,s0,k0,A,rfl,hc0,hB0,hm0⟩ <;> rcases c1 with rfl | ⟨q1,s1,k1,B,rfl,hc1,hB1,hm1⟩
 ·refine said (a:=false) (b:=false) h1 (pt (.kst rfl (.kst rfl tail))) ?_ ?_ ⟨rfl,bt⟩ rfl rfl;·simp [ApartW]
  ·intro y hy;simp at hy;subst hy;rfl
 ·refine said (a:=false) (b:=true) h1 (pt (.kst rfl (.sl hm1 hc1 nofun tail))) ?_ ?_ ⟨rfl,by simp only[aC];exact ⟨hB1,bn,bp,bv,nofun⟩⟩ rfl rfl;·simp [ApartW]
  ·intro y hy;simp at hy;rcases hy with rfl | rfl <;> rfl
 ·refine said (a:=true) (b:=false) h1 (pt (.sl hm0 hc0 nofun (.kst rfl tail))) ?_ ?_ ⟨rfl,by simp only[aC];exact ⟨hB0,bn,bp,bv,nofun⟩⟩ rfl rfl;·simp [ApartW]
  ·intro y hy;simp at hy;rcases hy with rfl | rfl <;> rfl
 ·refine said (a:=true) (b:=true) h1 (pt (.sl hm0 hc0 nofun (.sl hm1 hc1 nofun tail))) ?_ ?_ ⟨rfl,by simp only[aC];exact ⟨hB0,hB1,bn,bp,bv,nofun⟩⟩ rfl rfl;·simp [ApartW]
  ·intro y hy;simp at hy;rcases hy with rfl | rfl | rfl <;> rfl
theorem door_met (os:Os)(args:Array Value):laidMetH Tryz.prog laidL ((World.doorLaid Tryz.prog 15 os).forCall (fun _ _=>0) ⟨#[],args,[]⟩).memory :=
 laidMetH_of_parts3 (fuel:=8) (laidMet_of_run' 8 (by kernel_rfl) (by kernel_rfl)) (by kernel_rfl) (by kernel_rfl)
set_option maxRecDepth 100000 in
theorem lifted (os:Os)(started:os.Started)(H:Type)(enc:TypeId×Value→H) :
 ReturnsInHanded {} Tryz.checked os 3 .any (fun w args=>(Rows.fnBoxOpenAnySpec.pre enc Tryz.prog Tryz.f3 [] false w args∧laidMetH Tryz.prog laidL w)∧sizedMet enc Tryz.prog Tryz.f3 (OpenSpec.ofChange Rows.fnBoxOpenAnySpec) false w args)
  (Rows.fnBoxOpenAnySpec.post enc Tryz.prog Tryz.f3 false true false false):=by
 refine returnsInHanded_of_change_and (C:=Tryz.checked) (X:=fun w _=>laidMetH Tryz.prog laidL w) (fun _ _ _ hh h=>h.of_heap hh) ownK started (by kernel_rfl) Tryz.func3
  (ChangeSpec.witness_shaped (enc:=enc) (C:=Tryz.checked) (os:=os) (X:=fun w _=>laidMetH Tryz.prog laidL w) false (World.doorLaid Tryz.prog 15 os) #[.slice none 0 0,.slice none 0 0,.agg (Array.replicate 24 (.int .u8 0)),.agg (Array.replicate 32 (.int .u8 0)),.agg (Array.replicate 32 (.int .u8 0))] 8 rfl (World.shaped_of_RefB (by kernel_rfl) (by kernel_rfl)) (by kernel_rfl) (by kernel_rfl) (by kernel_rfl) (door_met os _)) ?_
 intro W base args ds gs before hval0 hW _ _ hL _;have hval:∀(j:Nat) t v,Tryz.f3.params[j]? =some t→args[j]? =some v→Value.okWide Tryz.prog W .any base t v:=hval0;have hW':=hW;obtain ⟨p,q,hA0,hV,rfl,hfz,hnd⟩:=hW;have hA:DataW.TrodAll enc Tryz.prog W 0 (fun _=>true) true Tryz.f3.params.toList args.toList ds p:=hA0;rw[Tryz.params3] at hA hval;obtain ⟨v0,vs0,d0,ds0,p0,q0,hargs,rfl,rfl,k0,r0⟩:=trodAll_cons hA;obtain ⟨v1,vs1,d1,ds1,p1,q1,rfl,rfl,rfl,k1,r1⟩:=trodAll_cons r0
 obtain ⟨v2,vs2,d2,ds2,p2,q2,rfl,rfl,rfl,k2,r2⟩:=trodAll_cons r1;obtain ⟨v3,vs3,d3,ds3,p3,q3,rfl,rfl,rfl,k3,r3⟩:=trodAll_cons r2;obtain ⟨v4,vs4,d4,ds4,p4,q4,rfl,rfl,rfl,k4,r4⟩:=trodAll_cons r3;obtain ⟨rfl,rfl,rfl⟩:=trodAll_nil r4;obtain rfl:args= #[v0,v1,v2,v3,v4]:=by cases args;simp_all
 obtain ⟨g,t,cs,fuel,dv,pv,rfl,hg,ht,hvar,htrod,rfl⟩:=trodVars_one hV;obtain rfl:=dP (glob0.symm.trans hg);obtain rfl:=dP (gtyp0.symm.trans ht);obtain ⟨oq,os',h1⟩:=of_laid hL;have c0:=came Tryz.underlying22 Tryz.underlying5 cells5 (hval 0 22 v0 rfl rfl) k0;have c1:=came Tryz.underlying22 Tryz.underlying5 cells5 (hval 1 22 v1 rfl rfl) k1;obtain ⟨nonce,rfl,ln,bn⟩:=arrCame Tryz.underlying23 Tryz.underlying5 cells5 cells23 (hval 2 23 v2 rfl rfl) k2
 obtain ⟨kp,rfl,lp,bp⟩:=arrCame Tryz.underlying24 Tryz.underlying5 cells5 cells24 (hval 3 24 v3 rfl rfl) k3;obtain ⟨kv,rfl,lv,bv⟩:=arrCame Tryz.underlying24 Tryz.underlying5 cells5 cells24 (hval 4 24 v4 rfl rfl) k4;have lt0:∀x∈p0,x.block<W.heap.size:=by obtain ⟨m,hm⟩:=k0;exact DataW.trod_lt m _ _ _ hm
 have lt1:∀x∈p1,x.block<W.heap.size:=by obtain ⟨m,hm⟩:=k1;exact DataW.trod_lt m _ _ _ hm
 have lt2:∀x∈p2,x.block<W.heap.size:=by obtain ⟨m,hm⟩:=k2;exact DataW.trod_lt m _ _ _ hm
 have lt3:∀x∈p3,x.block<W.heap.size:=by obtain ⟨m,hm⟩:=k3;exact DataW.trod_lt m _ _ _ hm
 have lt4:∀x∈p4,x.block<W.heap.size:=by obtain ⟨m,hm⟩:=k4;exact DataW.trod_lt m _ _ _ hm
 have ltv:∀x∈pv,x.block<W.heap.size:=DataW.trod_lt fuel _ _ _ htrod;have hcs:∃u,cs= #[u]∧u.cells= #[u]:=by
  rcases DataW.trod_pointer Tryz.underlying108 htrod with ⟨e,_⟩ | ⟨a,_,_,_,-,e,-⟩
  ·exact ⟨.pointer none,by rw[←Array.toList_inj,e],rfl⟩
  ·exact ⟨.pointer (some a),by rw[←Array.toList_inj,e],rfl⟩
 obtain ⟨u,rfl,hu⟩:=hcs;have kv':DataW.Trod enc Tryz.prog W 0 (fun _=>true) true 108 u dv pv:=⟨fuel,by rw[hu];exact htrod⟩
 have lt0':0<W.heap.size:=by
  obtain ⟨⟨_,_,_,e,_⟩,_⟩:=h1;rcases dU W.heap.size with h | h
  ·rw [cQ (by omega)] at e;cases e
  ·exact h
 clear hA0 hval0;refine (walk h1 c0 c1 ln lp lv bn bp bv).mono fun e W' ⟨he,bel⟩=> ?_
 subst he;obtain ⟨fuel',hv'⟩:=Below.trod laidOut (by kernel_rfl) (cM (by kernel_rfl)) kv' bel ltv;have hvar' : W'.var? Tryz.prog "loop.example/pub-g03085/pub/field.feOne" = some #[u] := by simp only[World.var?,glob0,dY] at hvar ⊢;rw[bel.block 0 lt0'];exact hvar
 exact ⟨_,rfl,_,_,_,[],_,_,hW',trodAll_mk1 (shut_bool Tryz.underlying4 _),
  (trodAll_cons_mk (Below.trod laidOut (by kernel_rfl) (cM (by kernel_rfl)) k0 bel lt0) (trodAll_cons_mk (Below.trod laidOut (by kernel_rfl) (cM (by kernel_rfl)) k1 bel lt1)
   (trodAll_cons_mk (Below.trod laidOut (by kernel_rfl) (cM (by kernel_rfl)) k2 bel lt2) (trodAll_cons_mk (Below.trod laidOut (by kernel_rfl) (cM (by kernel_rfl)) k3 bel lt3)
    (trodAll_cons_mk (Below.trod laidOut (by kernel_rfl) (cM (by kernel_rfl)) k4 bel lt4) trodAll_mk0))))),trodVars_mk1 glob0 gtyp0 hvar' (by rw[hu] at hv';exact hv'),bel.frame _,fun h=>by cases h⟩
theorem over:Rows.FnBoxOpenAnySaid :=
 OpenClaim.holds_of_wide 3 Tryz.f3 rfl rfl rfl rfl rfl rfl rfl ⟨rfl,rfl,rfl,rfl,rfl⟩ rfl rfl rfl rfl rfl (by kernel_rfl) Tryz.func3 (by kernel_rfl)
  (cM (by kernel_rfl)) (by unfold Func.isWrapper;first | (rw [bG (by decide +kernel)];kernel_rfl) | (rw [bC (by decide +kernel)];exact ⟨rfl,rfl⟩))
  (fun os started H enc _=>lifted os started H enc)
end Go.Proofs.YtnfikgagkamioaaGreatDoor
