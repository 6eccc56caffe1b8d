/- spec.Neg, spec.Sub do as their contracts say. -/
import Derived.Test.YtnfikgagkamioaaGreatDoorX58
namespace Go.Proofs.YtnfikgagkamioaaGreatDoor
open Go.Sy
abbrev pN:Nat:=57896044618658097711785492504343953926634992332820282019728792003956564819949
abbrev pI:Int:=57896044618658097711785492504343953926634992332820282019728792003956564819949
def dgp (v:Int):List Int:=digW w16 16 (v%pI)
theorem dgp_length (v:Int):(dgp v).length=16:=gW
theorem dgp_val (v:Int):V16 (dgp v)=v%pI:=digW_val (by decide) (Int.emod_nonneg _ (by decide)) (dH (eI _ (by decide)) (by decide))
theorem dgp_dig (v:Int):Dig w16 (dgp v):=digW_dig (by decide)
def P42 (_:List Int)(ls:List (List Int)):Prop :=
 match ls with
 | [l]=>∀d∈l,0≤d∧d≤1152921504606846975
 | _=>False
def I42 (_:List Int)(ls:List (List Int))(j:Nat):Int :=
 match ls with
 | [l]=>(dgp (V16 l)).getD j 0
 | _=>0
def pD:List Int:=[65517,65535,65535,65535,65535,65535,65535,65535,65535,65535,65535,65535,65535,65535,65535,32767]
noncomputable abbrev H42:=headOf ct42 Tryz.f42 (callT tab42) [2,12] [] T42a s42a
noncomputable abbrev R42a:=rndOf ct42 Tryz.f42 (callT tab42) [2,12] (loopAt 42 2) T42a s42a [true] T42a s42a
noncomputable abbrev N42:=nxtOf ct42 Tryz.f42 (callT tab42) [2,12] (loopAt 42 2) T42a s42a [false] T42b s42b
noncomputable abbrev R42b:=rndOf ct42 Tryz.f42 (callT tab42) [2,12] (loopAt 42 12) T42b s42b [false] T42b s42b
noncomputable abbrev O42:=outOf ct42 Tryz.f42 (callT tab42) [2,12] (loopAt 42 12) T42b s42b [true]
theorem H42_c:H42.map (·.1)=some (.loop (loopAt 42 2).1,(loopAt 42 2).2):=by kernel_rfl
theorem N42_c:N42.map (·.1)=some (.loop (loopAt 42 12).1,(loopAt 42 12).2):=by kernel_rfl
theorem R42a_s:R42a=some (iR R42a,aR R42a,dR R42a,oR R42a):=someR (by kernel_rfl)
theorem R42b_s:R42b=some (iR R42b,aR R42b,dR R42b,oR R42b):=someR (by kernel_rfl)
theorem O42_s:O42=some (⟨zipJ ((List.range' 16 16).map .var) 0,none,none⟩,dE O42,oE O42):=someE (by kernel_rfl)
section
variable {N:Num}
theorem R42a_ok:okB cx0 [(17,16,1152921504606846975)] (dR R42a) (oR R42a) [.cmp .gtr (.var 16) (.kst 0) true]
 [.law w16 (slA (iR R42a) 17 16) (padd (rowP w16 17 16) (pscale (-115792089237316195423570985008687907853269984665640564039457584007913129639898) (px 97))) 0,
  .bnd [.var 51] 65536,.bnd (slA (iR R42a) 18 15) 65536,.bnd (slA (iR R42a) 17 16) 1152921504606846976,.bnd [.var 97] 1152921504606846976]=true:=by kernel_rfl
theorem R42a_16:(pn (iR R42a) (aR R42a) N).i 16=N.i 97:=pn_at (a:= .var 97) (by kernel_rfl)
theorem R42a_17 (hd:∀d∈dR R42a,d.sat N):(pn (iR R42a) (aR R42a) N).i 17=iop .add .u64 (N.i 51) (iop .mul .u64 38 (N.i 97)):=by
 rw[pn_at (a:= .var 99) (by kernel_rfl)];show N.i 99=_;rw[fB hd (x:=99) (nd:= .bin .add .u64 (.var 51) (.var 98)) (by kernel_rfl)];simp only[Nd.ev,Ar.ev];rw[fB hd (x:=98) (nd:= .bin .mul .u64 (.kst 38) (.var 97)) (by kernel_rfl)];rfl
theorem N42_q:obsP (xt N (dR (hR N42))) (dR (hR N42)) (oR (hR N42))=(N.i 16≤(0:Int)):=by kernel_rfl
theorem N42_l:∀j,j<16→(pn (iR (hR N42)) (aR (hR N42)) N).i (16+j)=N.i (17+j):=fam_v (by kernel_rfl)
theorem R42b_ok:okB cx0 [(16,16,65535)] (dR R42b) (oR R42b) [.ob (.boo 48 false),.ob (.prd 58 [] [0,1])]
 [.law w16 (slA (iR R42b) 16 16) (padd (rowP w16 16 16) (pscale (-57896044618658097711785492504343953926634992332820282019728792003956564819949) (pk 1))) 115792089237316195423570985008687907853269984665640564039457584007913129639936,.bnd (slA (iR R42b) 16 16) 65536]=true:=by kernel_rfl
theorem R42b_a0 (hd:∀d∈dR R42b,d.sat N):N.a 0=rowI N 16 16:=a_of hd 0 (by kernel_rfl)
theorem R42b_a1 (hd:∀d∈dR R42b,d.sat N):N.a 1=pD:=a_of hd 1 (by kernel_rfl)
theorem R42b_48 (hd:∀d∈dR R42b,d.sat N):N.i 48=N.f.i 58 [] [N.a 0,N.a 1] 0:=fB hd (nd:= .fn 58 [] [0,1] 0) (by kernel_rfl)
theorem O42_o:oE O42=[.boo 48 true,.prd 58 [] [0,1]]:=by kernel_rfl
theorem O42_a0 (hd:∀d∈dE O42,d.sat N):N.a 0=rowI N 16 16:=a_of hd 0 (by kernel_rfl)
theorem O42_a1 (hd:∀d∈dE O42,d.sat N):N.a 1=pD:=a_of hd 1 (by kernel_rfl)
theorem O42_48 (hd:∀d∈dE O42,d.sat N):N.i 48=N.f.i 58 [] [N.a 0,N.a 1] 0:=fB hd (nd:= .fn 58 [] [0,1] 0) (by kernel_rfl)
end
structure A42a (N:Num) (V:Int):Prop where
 c:0≤N.i 16
 dig:∀v∈rowI N 17 16,0≤v∧v≤1152921504606846975
 val:pI ∣ V16 (rowI N 17 16)-V
 low:N.i 16=0→Dig w16 (rowI N 17 16)
structure A42b (N:Num) (V:Int):Prop where
 dig:Dig w16 (rowI N 16 16)
 val:pI ∣ V16 (rowI N 16 16)-V
theorem A42a.agr {N N':Num}{V:Int}(h:Agr s42a.nx s42a.na N N')(hA:A42a N V):A42a N' V:=by
 have e:∀x,x<49→N'.i x=N.i x:=h.i;have er:rowI N' 17 16=rowI N 17 16:=fI fun j hj=>e _ (by omega)
 exact ⟨by rw[e 16 (by decide)];exact hA.c,by rw[er];exact hA.dig,by rw[er];exact hA.val,by rw[er,e 16 (by decide)];exact hA.low⟩
theorem A42b.agr {N N':Num}{V:Int}(h:Agr s42b.nx s42b.na N N')(hA:A42b N V):A42b N' V:=by
 have e:∀x,x<48→N'.i x=N.i x:=h.i;have er:rowI N' 16 16=rowI N 16 16:=fI fun j hj=>e _ (by omega)
 exact ⟨by rw[er];exact hA.dig,by rw[er];exact hA.val⟩
theorem one16 {n:Nat}{k:IntKind}{is:List Int}{ls:List (List Int)}(h:Shape [.agg k n] is ls):∃a,is=[]∧ls=[a]∧a.length=n:=by
 obtain rfl:=eV rfl h
 match ls,h with
 | [a],h=>exact ⟨a,rfl,rfl,h.1⟩
structure F42 (F:Fns):Prop where
 p58:F.p 58=P58
 i58:F.i 58=I58
 p42:F.p 42=P42
 i42:F.i 42=I42
theorem tab42_ok {F:Fns}(h:F42 F):TabOk F tab42 :=
 ⟨⟨by kernel_rfl,fun c hc=>by simp only[aX] at hc;subst hc;exact spec58 h.p58 h.i58⟩,trivial⟩
theorem low_dig {l:List Int}(h0:0≤l.getD 0 0∧l.getD 0 0<65536)(h:∀v∈l.drop 1,0≤v∧v<65536):Dig w16 l:=fun d hd=>by
 cases l with
 | nil=>cases hd
 | cons x l =>
  rcases cD.1 hd with e | e
  ·subst e;exact h0
  ·exact h d e
set_option maxHeartbeats 1000000 in
theorem spec42 {F:Fns}(hF:F42 F):CSpec Tryz.prog F 42 ct42:=by
 refine gA (args:=argsOf ct42) (σe:=stOf ct42) rfl Tryz.func42 (fM (by kernel_rfl)) (by kernel_rfl) (by kernel_rfl) fun is ls ws we Ee ac hs hp' hent hat=> ?_
 obtain ⟨l,rfl,rfl,hl⟩:=one16 hs;have hP0:P42 [] [l]:=by rw[←hF.p42];exact hp'
 have hP:∀d∈l,0≤d∧d≤1152921504606846975:=hP0;have hres:∀j,F.i 42 [] [l] j=(dgp (V16 l)).getD j 0:=fun j=>by rw[hF.i42];rfl
 refine to_head hm (eU (tab42_ok hF)) (headR H42_c) (by kernel_rfl) rfl rfl hat hent.inv fun N hag hf hd=>⟨obs_of (R:=True) hd (by kernel_rfl) trivial,fun a1 w1 hat1=> ?_⟩
 have en:rowI (pn (iR (hR H42)) (aR (hR H42)) N) 17 16=l:=fP hl fun j hj=>by rw[(fam_v (is:=iR (hR H42)) (al:=aR (hR H42)) (N:=N) (x:=17) (y:=0) (n:=16) (by kernel_rfl)) j hj,bM,hag.i j (by show j<16;omega)];show (numsL ct42.ps [] [l]).getD j 0=_;simp only[ct42,n16,numsL,bJ]
 have h0:A42a (pn (iR (hR H42)) (aR (hR H42)) N) (V16 l):=by have e16:(pn (iR (hR H42)) (aR (hR H42)) N).i 16=1:=pn_at (a:= .kst 1) (by kernel_rfl);exact ⟨by rw[e16];decide,by rw[en];exact hP,by rw[en,Int.sub_self];exact ⟨0,by omega⟩,by rw[e16];intro h;exact absurd h (by decide)⟩
 clear en hd hf hag hat;have second:∀ {N:Num} {a w},A42b N (V16 l)→At F Tryz.f42.ntmps (num0 F ct42.ps [] [l]) Ee (stOf ct42) we T42b s42b N a w→(Code.loop (loopAt 42 12).1).wp Tryz.prog (wpK Tryz.prog (loopAt 42 12).2 (Qend Tryz.prog F Tryz.f42 ct42 [] [l] ws we)) a w:=by
  intro N a w hB hat;refine gQ (fun k a w=>∃N,A42b N (V16 l)∧k=(V16 (rowI N 16 16)).toNat∧At F Tryz.f42.ntmps (num0 F ct42.ps [] [l]) Ee (stOf ct42) we T42b s42b N a w) (k:=(V16 (rowI N 16 16)).toNat) ⟨N,hB,rfl,hat⟩ ?_;intro k a w hJ;obtain ⟨N,hB,hk,hat⟩:=hJ;have hpD:Dig w16 pD:=by unfold Dig pD;decide
  have vpD:V16 pD=pI:=by decide
  have rng:∀ {N:Num},A42b N (V16 l)→0≤V16 (rowI N 16 16)∧V16 (rowI N 16 16)<115792089237316195423570985008687907853269984665640564039457584007913129639936:=fun {N} h=>by have:=valW_rng (w:=w16) (by decide) h.dig;rw[rowI_length] at this;exact this
  by_cases hlt:V16 (rowI N 16 16)<pI
  ·refine gH hm (eU (tab42_ok hF)) O42_s (by kernel_rfl) hat hent fun M hag hf hd=> ?_
   have hC:=hB.agr hag;have er:rowI M 16 16=rowI N 16 16:=fI fun j hj=>hag.i _ (by show 16+j<48;omega)
   refine ⟨?_,⟨?_,trivial,trivial⟩,nofun⟩
   ·rw [O42_o];simp only[aC,Ob.holds,aK,aI];rw[O42_48 hd,hf,hF.i58,hF.p58,O42_a0 hd,O42_a1 hd];refine ⟨?_,⟨hC.dig,hpD⟩,nofun⟩;show (!((if V16 (rowI M 16 16)<V16 pD then (1:Int) else 0)==0))=true;rw[vpD,er,bG hlt];rfl
   ·refine zip_row (L:=dgp (V16 l)) ?_ hres;rw[er];have:=rng hB;refine (dig_of_val (by decide) (rowI_length _ _ _) hB.dig).trans ?_;show digW w16 16 (V16 (rowI N 16 16))=digW w16 16 (V16 l%pI);congr 1;obtain ⟨z,hz⟩:=hB.val;rw[show V16 l=V16 (rowI N 16 16)+pI*(-z) by rw[Int.mul_neg];omega,Int.add_mul_emod_self_left,bN this.1 hlt]
  ·refine gI hm (eU (tab42_ok hF)) R42b_s (by kernel_rfl) rfl rfl hat hent.inv fun M hag hf hd=> ?_
   have hC:=hB.agr hag;have er:rowI M 16 16=rowI N 16 16:=fI fun j hj=>hag.i _ (by show 16+j<48;omega)
   obtain ⟨k1,k2⟩:=okB_ok R42b_ok (N:=M) cx0_ok il0 (gB (fun v hv=>by have:0≤v∧v<65536:=hC.dig v hv;omega) ent_nil) hd;have l1:=k2 _ aN;have l2:=k2 _ (aJ _ aN);simp only[Tst.holds] at l1 l2;rw[←gF (al:=aR R42b),fS,fN,pk_ev,rowP_row] at l1;rw[←gF (al:=aR R42b)] at l2;have r0:=rng hC;have hdig:Dig w16 (rowI (pn (iR R42b) (aR R42b) M) 16 16):=l2;have r1:=valW_rng (w:=w16) (by decide) hdig;rw[rowI_length] at r1;have hge:pI≤V16 (rowI M 16 16):=by rw[er];omega
   have hv:V16 (rowI (pn (iR R42b) (aR R42b) M) 16 16)=V16 (rowI M 16 16)-pI:=by
    obtain ⟨z,hz⟩:=l1;have r1:0≤V16 (rowI (pn (iR R42b) (aR R42b) M) 16 16)∧V16 (rowI (pn (iR R42b) (aR R42b) M) 16 16)<115792089237316195423570985008687907853269984665640564039457584007913129639936:=r1;have hz:V16 (rowI (pn (iR R42b) (aR R42b) M) 16 16)-(V16 (rowI M 16 16)+ -57896044618658097711785492504343953926634992332820282019728792003956564819949*1)=115792089237316195423570985008687907853269984665640564039457584007913129639936*z:=hz
    show _=_-(57896044618658097711785492504343953926634992332820282019728792003956564819949:Int);have hge:(57896044618658097711785492504343953926634992332820282019728792003956564819949:Int)≤V16 (rowI M 16 16):=hge;omega
   refine ⟨k1 ?_,fun a2 w2 hat2=>⟨_,?_,_,⟨hdig,?_⟩,rfl,hat2⟩⟩
   ·simp only[aC,Rs.holds,Ob.holds,aK,aI];rw[R42b_48 hd,hf,hF.i58,hF.p58,R42b_a0 hd,R42b_a1 hd];refine ⟨?_,⟨hC.dig,hpD⟩,nofun⟩;show (!((if V16 (rowI M 16 16)<V16 pD then (1:Int) else 0)==0))=false;rw[vpD,er,bC hlt];rfl
   ·rw [hk,hv,er];have hge:(57896044618658097711785492504343953926634992332820282019728792003956564819949:Int)≤V16 (rowI N 16 16):=by rw[←er];exact hge
    show (_-(57896044618658097711785492504343953926634992332820282019728792003956564819949:Int)).toNat<_;omega
   ·obtain ⟨z,hz⟩:=hC.val;exact ⟨z-1,by rw[hv,Int.mul_sub];omega⟩
 refine gQ (fun k a w=>∃N,A42a N (V16 l)∧k=2*(V16 (rowI N 17 16)).toNat+(if N.i 16=0 then 0 else 1)∧At F Tryz.f42.ntmps (num0 F ct42.ps [] [l]) Ee (stOf ct42) we T42a s42a N a w) ⟨_,h0,rfl,hat1⟩ ?_;clear h0 hat1;intro k a w hJ;obtain ⟨N,hA,hk,hat⟩:=hJ;by_cases hc:N.i 16=0
 ·refine to_next hm (eU (tab42_ok hF)) (headR N42_c) (by kernel_rfl) rfl rfl hat hent.inv fun M hag hf hd=> ?_
  have hC:=hA.agr hag;have e16:M.i 16=0:=by rw[hag.i 16 (by decide)];exact hc
  have e:rowI (pn (iR (hR N42)) (aR (hR N42)) M) 16 16=rowI M 17 16:=fI fun j hj=>N42_l j hj
  exact ⟨obs_of hd N42_q (by omega),fun a2 w2 hat2=>second (N:=pn (iR (hR N42)) (aR (hR N42)) M) ⟨by rw[e];exact hC.low e16,by rw[e];exact hC.val⟩ hat2⟩
 ·refine gI hm (eU (tab42_ok hF)) R42a_s (by kernel_rfl) rfl rfl hat hent.inv fun M hag hf hd=> ?_
  have hC:=hA.agr hag;have e16:M.i 16=N.i 16:=hag.i 16 (by decide);have er:rowI M 17 16=rowI N 17 16:=fI fun j hj=>hag.i _ (by show 17+j<49;omega)
  obtain ⟨k1,k2⟩:=okB_ok R42a_ok (N:=M) cx0_ok il0 (gB hC.dig ent_nil) hd;simp only[aC,Tst.holds] at k2;obtain ⟨l1,b51,brest,ball,b97,-⟩:=k2;rw[←gF (al:=aR R42a),fS,fN,px_ev,rowP_row] at l1;rw[←gF (al:=aR R42a)] at ball brest;have b51:=b51 (M.i 51) aN;have b97:=b97 (M.i 97) aN;have p0:∀ {L:List Int},(∀ v∈L,0≤v)→0≤V16 L:=fun {L}=>by
   induction L with
   | nil=>intro _;exact bK _
   | cons x L ih =>
    intro h;have h1:=h x aN;have h2:=ih fun v hv=>h v (aJ _ hv)
    show 0≤x+65536*valW 65536 L;have h2:0≤valW 65536 L:=h2;omega
  have v0:=p0 (L:=rowI M 17 16) fun v hv=>(hC.dig v hv).1
  have v1:=p0 (L:=rowI (pn (iR R42a) (aR R42a) M) 17 16) fun v hv=>(ball v hv).1
  have hv:V16 (rowI (pn (iR R42a) (aR R42a) M) 17 16)=V16 (rowI M 17 16)-115792089237316195423570985008687907853269984665640564039457584007913129639898*M.i 97:=by obtain ⟨z,hz⟩:=l1;have hz:V16 (rowI (pn (iR R42a) (aR R42a) M) 17 16)-(V16 (rowI M 17 16)+ -115792089237316195423570985008687907853269984665640564039457584007913129639898*M.i 97)=0*z:=hz;rw[Int.zero_mul] at hz;omega
  refine ⟨k1 ?_,fun a2 w2 hat2=>⟨_,?_,_,⟨?_,?_,?_,?_⟩,rfl,hat2⟩⟩
  ·simp only[aC,Rs.holds,cmpP,Ar.ev];exact ⟨by have:=hC.c;omega,nofun⟩
  ·rw [hk,R42a_16,bC hc,hv,←er]
   split <;> omega
  ·rw [R42a_16];omega
  ·intro v hv;have:=ball v hv;omega
  ·obtain ⟨z,hz⟩:=hC.val;refine ⟨z-2*M.i 97,?_⟩;rw[hv];show _=(57896044618658097711785492504343953926634992332820282019728792003956564819949:Int)*(z-2*M.i 97);have hz:V16 (rowI M 17 16)-V16 l=(57896044618658097711785492504343953926634992332820282019728792003956564819949:Int)*z:=hz;rw[Int.mul_sub];omega
  ·intro h97;rw[R42a_16] at h97;refine low_dig ?_ ?_
   ·rw [fZ (by decide),show 17+0=17 from rfl,R42a_17 hd,h97];have:iop .mul .u64 38 0=0:=by decide
    rw[this];simp only[iop,dJ];rw[wrap_id (by omega) (by show M.i 51≤18446744073709551615;omega)];exact b51
   ·intro v hv;rw[rowI_succ] at hv;exact brest v hv
theorem dgp_congr {u v:Int}(h:pI ∣ u-v):dgp u=dgp v:=by
 unfold dgp;rw[Int.emod_eq_emod_iff_emod_sub_eq_zero.2 (Int.emod_eq_zero_of_dvd h)]
def bin (g:Int→Int→Int)(_:List Int)(ls:List (List Int))(j:Nat):Int :=
 match ls with
 | [a,b]=>(dgp (g (V16 a) (V16 b))).getD j 0
 | _=>0
def I57 (_:List Int)(ls:List (List Int))(j:Nat):Int :=
 match ls with
 | [a]=>(dgp (-V16 a)).getD j 0
 | _=>0
structure F38 (F:Fns):Prop extends F42 F where
 p38:F.p 38=P58
 i38:F.i 38=bin (· + ·)
 i29:F.i 29=bin (· * ·)
 i39:F.i 39=bin (· - ·)
 i57:F.i 57=I57
theorem tab38_ok {F:Fns}(h:F42 F):TabOk F tab38 :=
 ⟨⟨by kernel_rfl,fun c hc=>by simp only[aX] at hc;subst hc;exact spec42 h⟩,trivial⟩
theorem straightC {F:Fns}{call:FuncId→List SV→St→Option (SV×St)}(hcall:CallOk F Tryz.prog call){ct:Ct}{f:FuncId}{fn:Func}
 (hf:Tryz.prog.funcs[f]? =some fn) (hb:fn.body.isSome=true) (hn:Nat.ble (argsOf ct).length fn.ntmps=true) (hni:(stOf ct).ni=0) (hpat:patB (trArgs 0 (argsOf ct) (stOf ct).gl) (stOf ct)=true)
 (H:∀is ls,Shape ct.ps is ls→F.p ct.p is ls→∃o S ds os,runE ct fn call o=some (S,ds,os)∧∀N',Agr (stOf ct).nx (stOf ct).na (num0 F ct.ps is ls) N'→N'.f=F→(∀ d∈ds,d.sat N') →
  (∀ ob∈os,ob.holds N')∧S.ok N' F ct is ls∧∀L,rwArg ct.ps is ls=some L→(F.a ct.fw is ls).length=L.length) (hgp:glpB ct=true:=by rfl):CSpec Tryz.prog F f ct :=
 gA (args:=argsOf ct) (σe:=stOf ct) rfl hf (fM hb) hn hni (fun is ls _ _ _ _ h1 h2 h3 h4=>by obtain ⟨o,S,ds,os,hrun,h⟩:=H is ls h1 h2;exact to_end hm hcall hrun hpat h4 h3 fun N' k1 k2 k3=>h N' k1 k2 k3) hgp
theorem row_in {N:Num}{L M:List Int}{x n:Nat}(hM:(L.drop x).take n=M)(hl:M.length=n)(h:∀j,j<n→N.i (x+j)=L.getD (x+j) 0):rowI N x n=M:=by
 refine fP hl fun j hj=> ?_
 rw[h j hj,←hM,aE,aE,cY hj,cH]
theorem rows2 {nx na:Nat}{F:Fns}{ps:List Pa}{N:Num}{a b:List Int}(hps:ps=[n16,n16])(hx:32≤nx)(h:Agr nx na (num0 F ps [] [a,b]) N)(ha:a.length=16)(hb:b.length=16):rowI N 0 16=a∧rowI N 16 16=b:=by
 subst hps;have e:∀x,x<32→N.i x=(a++b).getD x 0:=fun x hx'=>by rw[h.i x (by omega)];show (numsL [n16,n16] [] [a,b]).getD x 0=_;simp only[n16,numsL,bJ]
 refine ⟨row_in (L:=a++b) ?_ ha fun j hj=>e _ (by omega),row_in (L:=a++b) ?_ hb fun j hj=>e _ (by omega)⟩;·rw [bW,dO ha]
 ·rw [List.drop_left' ha,←hb,cS]
theorem rows1 {nx na:Nat}{F:Fns}{ps:List Pa}{N:Num}{a:List Int}(hps:ps=[n16])(hx:16≤nx)(h:Agr nx na (num0 F ps [] [a]) N)(ha:a.length=16):rowI N 0 16=a:=by
 subst hps;refine row_in (L:=a) (by rw[bW,←ha,cS]) ha fun j hj=> ?_
 rw[h.i _ (by omega)];show (numsL [n16] [] [a]).getD _ 0=_;simp only[n16,numsL,bJ]
theorem gD {N:Num}{x n:Nat}:(vs x n).map (·.ev N)=rowI N x n:=by
 simp only[vs,rowI,List.range'_eq_map_range,cZ];rfl
theorem dig_ent {N:Num}{l:List Int}{x n:Nat}(h:Dig w16 l)(e:rowI N x n=l):∀v∈rowI N x n,0≤v∧v≤((65535:Nat):Int):=fun v hv=>by
 rw[e] at hv;have:0≤v∧v<65536:=h v hv;omega
theorem fin42 {F:Fns}(hF:F42 F){M:Num}(hf:M.f=F){x f A:Nat}{is:List Int}{ls:List (List Int)}{T:Int}(hx:∀j,j<16→M.i (x+j)=M.f.i 42 [] ([A].map M.a) j)(hA:pI ∣ V16 (M.a A)-T)
 (hI:∀j,F.i f is ls j=(dgp T).getD j 0):∀p∈zipJ ((List.range' x 16).map .var) 0,p.1.ev M=F.i f is ls p.2 :=
 zip_row (L:=dgp T) (fP (dgp_length _) fun j hj=>by rw[hx j hj,hf,hF.i42,←dgp_congr hA];rfl) hI
noncomputable abbrev E38:=runE ct38 Tryz.f38 (callT tab38) []
theorem E38_s:E38=some (⟨zipJ ((List.range' 48 16).map .var) 0,none,none⟩,dE E38,oE E38):=someE (by kernel_rfl)
theorem E38_ok:okB cx0 [(0,16,65535),(16,16,65535)] (dE E38) (oE E38) [.ob (.prd 42 [] [0])] [.law w16 (vs 32 16) (padd (rowP w16 0 16) (rowP w16 16 16)) pN,.bnd (vs 32 16) 1152921504606846976]=true:=by kernel_rfl
section
variable {N:Num}
theorem E38_a (hd:∀d∈dE E38,d.sat N):N.a 0=(vs 32 16).map (·.ev N):=fR hd (ad:= .lit (vs 32 16)) (by kernel_rfl)
theorem E38_f (hd:∀d∈dE E38,d.sat N):∀j,j<16→N.i (48+j)=N.f.i 42 [] ([0].map N.a) j:=fam_f hd (by kernel_rfl)
end
theorem bnd60 {L:List Int}(h:∀v∈L,0≤v∧v<((1152921504606846976:Nat):Int)):∀d∈L,0≤d∧d≤1152921504606846975:=fun d hd=>by have:=h d hd;omega
theorem spec38 {F:Fns}(hF:F38 F):CSpec Tryz.prog F 38 ct38:=by
 refine fG (eU (tab38_ok hF.toF42)) Tryz.func38 (by kernel_rfl) (by kernel_rfl) (by kernel_rfl) E38_s (by kernel_rfl) fun is ls M hs hp hag hf hd=> ?_
 obtain ⟨a,b,rfl,rfl,ha,hb⟩:=two16 hs;obtain ⟨da,db⟩:P58 [] [a,b]:=by rw[←hF.p38];exact hp
 obtain ⟨ra,rb⟩:=rows2 (ps:=ct38.ps) rfl (by decide) hag ha hb;obtain ⟨k1,k2⟩:=okB_ok E38_ok (N:=M) cx0_ok il0 (gB (dig_ent da ra) (gB (dig_ent db rb) ent_nil)) hd;simp only[aC,Tst.holds] at k2;obtain ⟨l1,b1,-⟩:=k2;rw[fS,rowP_row,rowP_row,ra,rb] at l1;rw[←E38_a hd] at l1 b1;refine ⟨k1 ?_,⟨fin42 hF.toF42 hf (E38_f hd) l1 fun j=>by show F.i 38 _ _ j=_;rw[hF.i38];rfl,trivial,trivial⟩,nofun⟩;simp only[aC,Rs.holds,Ob.holds,aK,aI]
 rw[hf,hF.p42];exact ⟨bnd60 b1,nofun⟩
def onlyF (f:Nat):List Df→Bool
 | []=>true
 | .n _ nd::ds=>(match nd with | .fn g _ _ _=>Nat.beq g f | _=>true)&&onlyF f ds
 | .a _ ad::ds=>(match ad with | .fn _ _ _=>false | _=>true)&&onlyF f ds
theorem ar_congr {N N':Num}(hi:N.i=N'.i):∀x:Ar,x.ev N=x.ev N'
 | .var x=>by simp only[Ar.ev,hi]
 | .kst c=>rfl
theorem ars_congr {N N':Num}(hi:N.i=N'.i)(l:List Ar):l.map (·.ev N)=l.map (·.ev N'):=cW fun x _=>ar_congr hi x
theorem nd_congr {N N':Num}{f:Nat}(hi:N.i=N'.i)(ha:N.a=N'.a)(hf:N.f.i f=N'.f.i f){nd:Nd}(h:(match nd with | .fn g _ _ _=>Nat.beq g f | _=>true)=true):nd.ev N=nd.ev N':=by
 cases nd <;> simp only[Nd.ev,ar_congr hi,ha]
 case fn g is ls j=>rw[aF h,hf]
theorem ad_congr {N N':Num}(hi:N.i=N'.i)(ha:N.a=N'.a){ad:Ad}(h:(match ad with | .fn _ _ _=>false | _=>true)=true):ad.ev N=ad.ev N':=by
 cases ad <;> first | (cases h;done) | simp only[Ad.ev,ar_congr hi,ha]
theorem ext_f {f:Nat}{i:Nat→Int}{a:Nat→List Int}{F F':Fns}(hf:F.i f=F'.i f):∀ {ds:List Df},onlyF f ds=true→(ext ⟨i,a,F⟩ ds).i=(ext ⟨i,a,F'⟩ ds).i∧(ext ⟨i,a,F⟩ ds).a=(ext ⟨i,a,F'⟩ ds).a∧(ext ⟨i,a,F⟩ ds).f=F∧(ext ⟨i,a,F'⟩ ds).f=F'
 | [],_=>⟨rfl,rfl,rfl,rfl⟩
 | .n x nd::ds,h=>by
  simp only[onlyF,aG] at h;obtain ⟨h1,h2,h3,h4⟩:=ext_f hf (ds:=ds) h.2;refine ⟨?_,h2,h3,h4⟩
  funext y
  simp only[ext];rw[nd_congr h1 h2 (by rw[h3,h4];exact hf) h.1,h1]
 | .a A ad::ds,h=>by
  simp only[onlyF,aG] at h;obtain ⟨h1,h2,h3,h4⟩:=ext_f hf (ds:=ds) h.2;refine ⟨h1,?_,h3,h4⟩
  funext y
  simp only[ext];rw[ad_congr h1 h2 h.1,h2]
def own (ds:List Df)(outs:List Ar)(F:Fns)(ps:List Pa)(is:List Int)(ls:List (List Int)):List Int:=outs.map (·.ev (ext (num0 F ps is ls) ds))
theorem own_f {F F':Fns}{ds:List Df}{outs:List Ar}{ps:List Pa}{is:List Int}{ls:List (List Int)}{f:Nat}(hf:F.i f=F'.i f)(h:onlyF f ds=true):own ds outs F ps is ls=own ds outs F' ps is ls :=
 ars_congr (ext_f hf h).1 _
theorem own_spec {F F':Fns}{g:Nat}{call:FuncId→List SV→St→Option (SV×St)}(hcall:CallOk F Tryz.prog call){ct:Ct}{f:FuncId}{fn:Func}{ds:List Df}{os:List Ob}{o:List Bool}{outs:List Ar}
 (hf:Tryz.prog.funcs[f]? =some fn) (hb:fn.body.isSome=true) (hn:Nat.ble (argsOf ct).length fn.ntmps=true) (hni:(stOf ct).ni=0) (hrun:runE ct fn call o=some (⟨[],some (.inr outs),none⟩,ds,os)) (hpat:patB (trArgs 0 (argsOf ct) (stOf ct).gl) (stOf ct)=true)
 (hg:F.i g=F'.i g) (ho:onlyF g ds=true)
 (hA:∀is ls,F.p ct.p is ls→F.a ct.fw is ls=own ds outs F' ct.ps is ls)
 (H:∀is ls,Shape ct.ps is ls→F.p ct.p is ls→∀M,Agr (stOf ct).nx (stOf ct).na (num0 F ct.ps is ls) M→M.f=F→(∀ d∈ds,d.sat M)→(∀ ob∈os,ob.holds M)∧∀L,rwArg ct.ps is ls=some L→outs.length=L.length) (hgp:glpB ct=true:=by rfl):CSpec Tryz.prog F f ct :=
 gA (args:=argsOf ct) (σe:=stOf ct) rfl hf (fM hb) hn hni (fun is ls _ _ _ _ h1 h2 h3 h4=>to_endX hm hcall hrun hpat h4 h3 fun k1 k2 k3=>by obtain ⟨g1,g2⟩:=H is ls h1 h2 _ k1 k2 k3;have e:=hA is ls h2;refine ⟨g1,⟨nofun,?_,trivial⟩,fun L hL=>by rw[e,own,bF];exact g2 L hL⟩;show outs.map _=F.a ct.fw is ls;rw[e];exact own_f hg ho) hgp
def F106:Fns:=⟨fun f=>bif Nat.beq f 106 then I106 else fun _ _ _=>0,fun _ _ _=>[],fun _ _ _=>True⟩
def cxM:Cx:={fm:=106,up:=fun p=>Nat.beq p 106}
theorem cxM_ok {F:Fns}(hi:F.i 106=I106)(hp:F.p 106=P106∨F.p 106=fun _ _=>True):CxOk cxM F:=by
 refine ⟨fun a b _ h0 h1 h2 h3=> ?_,fun p h is ls hs=> ?_,fun _ _ h=>(by cases h),fun _ _ h=>(by cases h)⟩
 ·show F.i 106 _ _ 0=_∧F.i 106 _ _ 1=_;rw[hi];exact ⟨rfl,rfl⟩
 ·rw [aF (show Nat.beq p 106=true from h)];rcases hp with hp | hp
  ·rw [hp];exact hs
  ·rw [hp];trivial
theorem ilM {N:Num}:IlB N cxM:=fun _ _ h=>(by cases h)
abbrev w51:Int:=2251799813685248
abbrev V51 (l:List Int):Int:=valW w51 l
def Lim (l:List Int):Prop:=l.length=5∧∀d∈l,0≤d∧d≤4503599627370495
theorem lim_ent {N:Num}{l:List Int}{x:Nat}(h:Lim l)(e:rowI N x 5=l):∀v∈rowI N x 5,0≤v∧v≤((4503599627370495:Nat):Int):=fun v hv=>by
 rw[e] at hv;exact h.2 v hv
def LimO (l:List Int):Prop:=l.length=5∧∀d∈l,0≤d∧d≤2251799822073856
theorem limO_of {l:List Int}(hl:l.length=5)(h:∀v∈l,0≤v∧v<((2251799822073857:Nat):Int)):LimO l:=⟨hl,fun d hd=>by have:=h d hd;omega⟩
theorem LimO.lim {l:List Int}(h:LimO l):Lim l:=⟨h.1,fun d hd=>by have:=h.2 d hd;omega⟩
structure F106' (F:Fns):Prop where
 p106:F.p 106=P106
 i106:F.i 106=I106
theorem tab106_ok {F:Fns}(h:F106' F):TabOk F tab106:=⟨⟨by kernel_rfl,fun c hc=>by simp only[aX] at hc;subst hc;exact spec106 h.p106 h.i106⟩,trivial⟩
theorem rows5 {nx na:Nat}{F:Fns}{ps:List Pa}{N:Num}{is:List Int}{ls:List (List Int)}{L M:List Int}{x n:Nat}(h:Agr nx na (num0 F ps is ls) N)(hL:numsL ps is ls=L)(hx:x+n≤nx)(hM:(L.drop x).take n=M)(hl:M.length=n):rowI N x n=M :=
 row_in hM hl fun j hj=>by rw[h.i _ (by omega),←hL];rfl
def rwS (r:RE3):List Ar:=match (sE r).rw with
 | some (.inr l)=>l
 | _=>[]
def argL (ct:Ct)(is:List Int)(ls:List (List Int))(x:Nat):List Int:=((numsL ct.ps is ls).drop x).take 5
def PM (ct:Ct)(xa xb:Nat)(is:List Int)(ls:List (List Int)):Prop:=Lim (argL ct is ls xa)∧Lim (argL ct is ls xb)
open Classical in
noncomputable def AM (E:RE3)(ct:Ct)(xa xb:Nat)(is:List Int)(ls:List (List Int)):List Int:=if PM ct xa xb is ls then own (dE E) (rwS E) F106 ct.ps is ls else []
structure MulOk (ct:Ct) (E:RE3) (xa xb:Nat):Prop where
 s:E.map (·.1)=some ⟨[],some (.inr (rwS E)),none⟩
 ok:okB cxM [(xa,5,4503599627370495),(xb,5,4503599627370495)] (dE E) (oE E) [] [.law w51 (rwS E) (pmul (rowP w51 xa 5) (rowP w51 xb 5)) pN,.bnd (rwS E) 2251799822073857]=true
 o:onlyF 106 (dE E)=true
 d:(ordOk (stOf ct).nx (stOf ct).na (dE E)).isSome=true
 l:(rwS E).length=5
 x:(Nat.ble (xa+5) (stOf ct).nx&&Nat.ble (xb+5) (stOf ct).nx)=true
section
variable {ct:Ct} {E:RE3} {xa xb:Nat} {is:List Int} {ls:List (List Int)}
theorem MulOk.rows (h:MulOk ct E xa xb)(hp:PM ct xa xb is ls){F:Fns}{M:Num}(hag:Agr (stOf ct).nx (stOf ct).na (num0 F ct.ps is ls) M):rowI M xa 5=argL ct is ls xa∧rowI M xb 5=argL ct is ls xb:=by
 have:=h.x;simp only[aG] at this;exact ⟨rows5 hag rfl (aM this.1) rfl hp.1.1,rows5 hag rfl (aM this.2) rfl hp.2.1⟩
theorem MulOk.law (h:MulOk ct E xa xb)(hp:PM ct xa xb is ls):LimO (AM E ct xa xb is ls)∧pI ∣ V51 (AM E ct xa xb is ls)-V51 (argL ct is ls xa)*V51 (argL ct is ls xb):=by
 obtain ⟨mx,hmx⟩:=Option.isSome_iff_exists.1 h.d;obtain ⟨_,_,hag,hsat,_⟩:=ext_spec (N:=num0 F106 ct.ps is ls) (mx:=mx.1) (ma:=mx.2) hmx;have hf:(ext (num0 F106 ct.ps is ls) (dE E)).f=F106:=hag.f;obtain ⟨ra,rb⟩:=h.rows hp hag;obtain ⟨-,k2⟩:=okB_ok h.ok (N:=ext (num0 F106 ct.ps is ls) (dE E)) (by rw[hf];exact cxM_ok rfl (.inr rfl)) ilM (gB (lim_ent hp.1 ra) (gB (lim_ent hp.2 rb) ent_nil)) hsat;simp only[aC,Tst.holds] at k2
 obtain ⟨l1,b1,-⟩:=k2;rw[pmul_ev,rowP_row,rowP_row,ra,rb] at l1;rw[AM,bG hp];exact ⟨limO_of (by rw[own,bF];exact h.l) b1,l1⟩
theorem MulOk.spec {F:Fns}(h:MulOk ct E xa xb)(hF:F106' F){f:FuncId}{fn:Func}{o:List Bool}(hE:runE ct fn (callT tab106) o=E)
 (hf:Tryz.prog.funcs[f]? =some fn) (hb:fn.body.isSome=true) (hn:Nat.ble (argsOf ct).length fn.ntmps=true) (hni:(stOf ct).ni=0) (hpat:patB (trArgs 0 (argsOf ct) (stOf ct).gl) (stOf ct)=true)
 (hp:F.p ct.p=PM ct xa xb) (ha:F.a ct.fw=AM E ct xa xb) (hl:∀is ls,Shape ct.ps is ls→∀L,rwArg ct.ps is ls=some L→L.length=5) (hgp:glpB ct=true:=by rfl):CSpec Tryz.prog F f ct :=
 own_spec (F':=F106) (g:=106) (eU (tab106_ok hF)) hf hb hn hni (hE.trans (someE h.s)) hpat (by rw[hF.i106];rfl) h.o (fun is ls hP=>by rw[hp] at hP;rw[ha,AM,bG hP])
  (fun is ls hs hP M hag hfM hd=>by rw[hp] at hP;obtain ⟨ra,rb⟩:=h.rows hP hag;obtain ⟨k1,-⟩:=okB_ok h.ok (N:=M) (by rw[hfM];exact cxM_ok hF.i106 (.inl hF.p106)) ilM (gB (lim_ent hP.1 ra) (gB (lim_ent hP.2 rb) ent_nil)) hd;exact ⟨k1 nofun,fun L hL=>by rw[h.l,hl is ls hs L hL]⟩) hgp
end
noncomputable abbrev E100:=runE ct100 Tryz.f100 (callT tab106) []
noncomputable abbrev E100a:=runE ct100a Tryz.f100 (callT tab106) []
noncomputable abbrev E100b:=runE ct100b Tryz.f100 (callT tab106) []
noncomputable abbrev E91:=runE ct91 Tryz.f91 (callT tab106) []
noncomputable abbrev E91a:=runE ct91a Tryz.f91 (callT tab106) []
theorem ok100:MulOk ct100 E100 5 10:=⟨by kernel_rfl,by kernel_rfl,by kernel_rfl,by kernel_rfl,by kernel_rfl,by kernel_rfl⟩
theorem ok100a:MulOk ct100a E100a 0 5:=⟨by kernel_rfl,by kernel_rfl,by kernel_rfl,by kernel_rfl,by kernel_rfl,by kernel_rfl⟩
theorem ok100b:MulOk ct100b E100b 5 0:=⟨by kernel_rfl,by kernel_rfl,by kernel_rfl,by kernel_rfl,by kernel_rfl,by kernel_rfl⟩
theorem ok91:MulOk ct91 E91 5 5:=⟨by kernel_rfl,by kernel_rfl,by kernel_rfl,by kernel_rfl,by kernel_rfl,by kernel_rfl⟩
theorem ok91a:MulOk ct91a E91a 0 0:=⟨by kernel_rfl,by kernel_rfl,by kernel_rfl,by kernel_rfl,by kernel_rfl,by kernel_rfl⟩
structure F91 (F:Fns):Prop extends F106' F where
 p100:F.p 100=PM ct100 5 10
 a100:F.a 100=AM E100 ct100 5 10
 p101:F.p 101=PM ct100a 0 5
 a101:F.a 101=AM E100a ct100a 0 5
 p102:F.p 102=PM ct100b 5 0
 a102:F.a 102=AM E100b ct100b 5 0
 p91:F.p 91=PM ct91 5 5
 a91:F.a 91=AM E91 ct91 5 5
 p92:F.p 92=PM ct91a 0 0
 a92:F.a 92=AM E91a ct91a 0 0
section
variable {F:Fns}
theorem fst5 {k:IntKind}{ps:List Pa}:∀is ls,Shape (.ptr k 5 true::ps) is ls→∀L,rwArg (.ptr k 5 true::ps) is ls=some L→L.length=5:=fun is ls hs L hL=>by
 cases ls with
 | nil=>exact hs.elim
 | cons x ls=>simp only[rwArg,aA] at hL;subst hL;exact hs.1
theorem spec100 (hF:F91 F):∀c∈[ct100,ct100a,ct100b],CSpec Tryz.prog F 100 c:=by
 simp only[aC];exact ⟨ok100.spec hF.toF106' rfl Tryz.func100 (by kernel_rfl) (by kernel_rfl) (by kernel_rfl) (by kernel_rfl) hF.p100 hF.a100 fst5,
  ok100a.spec hF.toF106' rfl Tryz.func100 (by kernel_rfl) (by kernel_rfl) (by kernel_rfl) (by kernel_rfl) hF.p101 hF.a101 fst5,
  ok100b.spec hF.toF106' rfl Tryz.func100 (by kernel_rfl) (by kernel_rfl) (by kernel_rfl) (by kernel_rfl) hF.p102 hF.a102 fst5,nofun⟩
theorem spec91 (hF:F91 F):∀c∈[ct91,ct91a],CSpec Tryz.prog F 91 c:=by
 simp only[aC];exact ⟨ok91.spec hF.toF106' rfl Tryz.func91 (by kernel_rfl) (by kernel_rfl) (by kernel_rfl) (by kernel_rfl) hF.p91 hF.a91 fst5,
  ok91a.spec hF.toF106' rfl Tryz.func91 (by kernel_rfl) (by kernel_rfl) (by kernel_rfl) (by kernel_rfl) hF.p92 hF.a92 fst5,nofun⟩
end
theorem ext_agr {nx na:Nat}{N N':Num}(h:Agr nx na N N'):∀ {ds:List Df} {mx ma:Nat},ordOk nx na ds=some (mx,ma)→Agr mx ma (ext N ds) (ext N' ds)
 | [],mx,ma,ho=>by simp only[ordOk,aA,aD] at ho;obtain ⟨rfl,rfl⟩:=ho;exact h
 | .n x nd::ds,mx,ma,ho=>by
  simp only[ordOk] at ho;split at ho
  ·rename_i lx la hl;cases hb:(Nat.beq x lx&&nd.ok lx la) with
   | false=>rw[hb] at ho;cases ho
   | true =>
    rw[hb] at ho;simp only[aH,aA,aD] at ho;obtain ⟨rfl,rfl⟩:=ho;simp only[aG] at hb;have e:=aF hb.1;subst e;have ih:=ext_agr h hl;refine ⟨ih.f,fun y hy=> ?_,ih.a⟩;simp only[ext];rw[Nd.ev_agr ih hb.2]
    split
    ·rfl
    ·exact ih.i y (by omega)
  ·cases ho
 | .a A ad::ds,mx,ma,ho=>by
  simp only[ordOk] at ho;split at ho
  ·rename_i lx la hl;cases hb:(Nat.beq A la&&ad.ok lx la) with
   | false=>rw[hb] at ho;cases ho
   | true =>
    rw[hb] at ho;simp only[aH,aA,aD] at ho;obtain ⟨rfl,rfl⟩:=ho;simp only[aG] at hb;have e:=aF hb.1;subst e;have ih:=ext_agr h hl;refine ⟨ih.f,ih.i,fun y hy=> ?_⟩;simp only[ext];rw[Ad.ev_agr ih hb.2]
    split
    ·rfl
    ·exact ih.a y (by omega)
  ·cases ho
noncomputable abbrev H107:=headOf ct107 Tryz.f107 (callT tab106) [6] [] T107 s107
noncomputable abbrev R107:=rndOf ct107 Tryz.f107 (callT tab106) [6] (loopAt 107 6) T107 s107 [true] T107 s107
noncomputable abbrev O107:=outOf ct107 Tryz.f107 (callT tab106) [6] (loopAt 107 6) T107 s107 [false]
noncomputable abbrev H107a:=headOf ct107a Tryz.f107 (callT tab106) [6] [] T107 s107
noncomputable abbrev R107a:=rndOf ct107a Tryz.f107 (callT tab106) [6] (loopAt 107 6) T107 s107 [true] T107 s107
noncomputable abbrev O107a:=outOf ct107a Tryz.f107 (callT tab106) [6] (loopAt 107 6) T107 s107 [false]
theorem H107_c:H107.map (·.1)=some (.loop (loopAt 107 6).1,(loopAt 107 6).2):=by kernel_rfl
theorem H107a_c:H107a.map (·.1)=some (.loop (loopAt 107 6).1,(loopAt 107 6).2):=by kernel_rfl
theorem R107_s:R107=some (iR R107,aR R107,dR R107,oR R107):=someR (by kernel_rfl)
theorem R107a_e:R107a=R107:=by kernel_rfl
theorem O107_s:O107=some (⟨[],some (.inr (vs 0 5)),none⟩,dE O107,oE O107):=someE (by kernel_rfl)
theorem O107a_s:O107a=some (⟨[],some (.inr (vs 0 5)),none⟩,dE O107a,oE O107a):=someE (by kernel_rfl)
theorem H107_l:(slA (iR (hR H107)) 0 7)=vs 5 6++[.kst 0]:=by kernel_rfl
theorem H107a_l:(slA (iR (hR H107a)) 0 7)=vs 0 6++[.kst 0]:=by kernel_rfl
def ent107:Ent0:=[(0,5,4503599627370495),(5,1,4611686018427387903),(6,1,4611686018427387903)]
theorem R107_ok:okB cxM ent107 (dR R107) (oR R107) [.cmp .lss (.var 6) (.var 5) true] [.law w51 (slA (iR R107) 0 5) (pmul (rowP w51 0 5) (rowP w51 0 5)) pN,.bnd (slA (iR R107) 0 5) 2251799822073857]=true:=by kernel_rfl
theorem R107_o:onlyF 106 (dR R107)=true:=by kernel_rfl
theorem R107_d:(match ordOk 7 0 (dR R107) with | some (mx,_)=>(slA (iR R107) 0 7).all (Ar.ok mx) | none=>false)=true:=by kernel_rfl
theorem R107_5 {N:Num}:(pn (iR R107) (aR R107) N).i 5=N.i 5:=pn_at (a:= .var 5) (by kernel_rfl)
theorem R107_6 {N:Num}(hd:∀d∈dR R107,d.sat N):(pn (iR R107) (aR R107) N).i 6=iop .add .i64 (N.i 6) 1:=pn_of hd 6 (by kernel_rfl)
theorem O107_q {N:Num}:obsP (xt N (dE O107)) (dE O107) (oE O107)=(N.i 5≤N.i 6):=by kernel_rfl
theorem O107a_q {N:Num}:obsP (xt N (dE O107a)) (dE O107a) (oE O107a)=(N.i 5≤N.i 6):=by kernel_rfl
def numS (S:List Int):Num:=⟨fun x=>S.getD x 0,fun _=>[],F106⟩
noncomputable def rnd (S:List Int):List Int:=rowI (pn (iR R107) (aR R107) (ext (numS S) (dR R107))) 0 7
noncomputable def sqn (S:List Int):Nat→List Int
 | 0=>S
 | k+1=>rnd (sqn S k)
theorem rnd_length {S:List Int}:(rnd S).length=7:=rowI_length _ _ _
theorem sqn_length {S:List Int}(h:S.length=7):∀ {k:Nat},(sqn S k).length=7
 | 0=>h
 | _+1=>rnd_length
theorem rnd_eq {F:Fns}{N:Num}{S:List Int}(hF:F.i 106=I106)(hf:N.f=F)(h:rowI N 0 7=S):rowI (pn (iR R107) (aR R107) (ext N (dR R107))) 0 7=rnd S:=by
 have hd:=R107_d;split at hd
 ·rename_i mx ma ho;obtain ⟨i,a,f⟩:=N;simp only at hf;subst hf;have h1:=ext_f (i:=i) (a:=a) (F:=f) (F':=F106) (by rw[hF];rfl) R107_o;have h2:=ext_agr (N:=⟨i,a,F106⟩) (N':=numS S) (nx:=7) (na:=0) ⟨rfl,fun x hx=>by
   rw[←h];show (rowI _ 0 7).getD x 0=i x;rw[fZ hx,bM],fun A hA=>by omega⟩ ho
  unfold rnd;rw[gF,gF,ars_congr h1.1];exact (cW fun x hx=>Ar.ev_agr h2 (bT.1 hd x hx)).symm
 ·cases hd
structure S107 (S:List Int) (n k:Nat):Prop where
 len:S.length=7
 lim:Lim (S.take 5)
 n:S.getD 5 0=n
 k:S.getD 6 0=k
theorem row_sub' {N:Num}{x n k m:Nat}{L:List Int}(h:rowI N x n=L)(hk:k+m≤n):rowI N (x+k) m=(L.drop k).take m:=by
 subst h;refine fP (by rw[bE,aT,rowI_length];omega) fun j hj=> ?_
 rw[aE,cY hj,cH,rowI_get (by omega),dD];rfl
theorem ent_one {N:Num}{x hi:Nat}{l:Ent0}(h:0≤N.i x∧N.i x≤(hi:Int))(hl:EntOk N l):EntOk N ((x,1,hi)::l):=gB (fun v hv=>by
 have:v=N.i x:=by simpa [rowI,List.range_succ] using hv
 rw[this];exact h) hl
theorem take_row {N:Num}{S:List Int}(h:rowI N 0 7=S):rowI N 0 5=S.take 5:=by
 have:=row_sub' h (k:=0) (m:=5) (by decide)
 rwa [cJ,bW] at this
theorem ent107_ok {N:Num}{S:List Int}{n k:Nat}(h:S107 S n k)(hN:rowI N 0 7=S)(hn:n<4611686018427387904)(hk:k<4611686018427387904):EntOk N ent107:=by
 have e5:N.i 5=n:=by rw[←h.n,←hN,fZ (by decide)]
 have e6:N.i 6=k:=by rw[←h.k,←hN,fZ (by decide)]
 exact gB (lim_ent h.lim (take_row hN)) (ent_one (by rw[e5];omega) (ent_one (by rw[e6];omega) ent_nil))
theorem rnd_law {S:List Int}{n k:Nat}(h:S107 S n k)(hk:k<n)(hn:n<2147483648):S107 (rnd S) n (k+1)∧LimO ((rnd S).take 5)∧pI ∣ V51 ((rnd S).take 5)-V51 (S.take 5)*V51 (S.take 5):=by
 have hd:=R107_d;split at hd
 ·rename_i mx ma ho;obtain ⟨_,_,hag,hsat,_⟩:=ext_spec (N:=numS S) ho;have hrow:rowI (ext (numS S) (dR R107)) 0 7=S:=fP h.len fun j hj=>by rw[hag.i _ (by omega),bM];rfl
  obtain ⟨-,k2⟩:=okB_ok R107_ok (N:=ext (numS S) (dR R107)) (by rw[hag.f];exact cxM_ok rfl (.inr rfl)) ilM (ent107_ok h hrow (by omega) (by omega)) hsat;simp only[aC,Tst.holds] at k2;obtain ⟨l1,b1,-⟩:=k2;rw[pmul_ev,rowP_row,take_row hrow,←gF (al:=aR R107),take_row (S:=rnd S) rfl] at l1;rw[←gF (al:=aR R107),take_row (S:=rnd S) rfl] at b1;have lo:LimO ((rnd S).take 5):=limO_of (by rw[bE,rnd_length];rfl) b1;refine ⟨⟨rnd_length,lo.lim,?_,?_⟩,lo,l1⟩
  ·rw [rnd,fZ (by decide),R107_5,hag.i 5 (by decide)];exact h.n
  ·rw [rnd,fZ (by decide),R107_6 hsat,hag.i 6 (by decide),show (numS S).i 6=k from h.k];simp only[iop];rw[IntKind.wrap_i64];omega
 ·cases hd
theorem sqn_S {S:List Int}{n:Nat}(h:S107 S n 0)(hn:n<2147483648):∀ {k:Nat},k≤n→S107 (sqn S k) n k
 | 0,_=>h
 | k+1,hk=>(rnd_law (sqn_S h hn (by omega)) (by omega) hn).1
theorem start107 {r:RA4}{al:List (Option Nat)}{N:Num}{S:List Int}{b n:Nat}(hl:slA (iR r) 0 7=vs b 6++[.kst 0])(hS:S107 S n 0)(hnum:∀j,j<6→N.i (b+j)=S.getD j 0):rowI (pn (iR r) al N) 0 7=S:=by
 rw[gF,hl,List.map_append,gD];have:rowI N b 6=S.take 6:=fP (by rw[bE,hS.len];rfl) fun j hj=>by rw[hnum j hj,aE,aE,cY hj]
 rw[this];have e6:S.drop 6=[0]:=by rw[dS (l:=S) (i:=6) (by rw[hS.len];decide),cF (by rw[hS.len];decide)];have:=hS.k;rw[aE,aU (by rw[hS.len];decide)] at this;simp only[dZ] at this;rw[this];rfl
 show S.take 6++[0]=S;rw[←e6,List.take_append_drop]
theorem spec107g {F:Fns}(hF:F106' F){ct:Ct}{b:Nat}(hR:rndOf ct Tryz.f107 (callT tab106) [6] (loopAt 107 6) T107 s107 [true] T107 s107=R107)
 (hH:(headOf ct Tryz.f107 (callT tab106) [6] [] T107 s107).map (·.1)=some (.loop (loopAt 107 6).1,(loopAt 107 6).2)) (hHl:slA (iR (Go.Sy.hR (headOf ct Tryz.f107 (callT tab106) [6] [] T107 s107))) 0 7=vs b 6++[.kst 0])
 (hHo:oR (Go.Sy.hR (headOf ct Tryz.f107 (callT tab106) [6] [] T107 s107))=[])
 (hO:outOf ct Tryz.f107 (callT tab106) [6] (loopAt 107 6) T107 s107 [false]=some (⟨[],some (.inr (vs 0 5)),none⟩,dE (outOf ct Tryz.f107 (callT tab106) [6] (loopAt 107 6) T107 s107 [false]),oE (outOf ct Tryz.f107 (callT tab106) [6] (loopAt 107 6) T107 s107 [false])))
 (hOq:∀N,obsP (xt N (dE (outOf ct Tryz.f107 (callT tab106) [6] (loopAt 107 6) T107 s107 [false]))) (dE (outOf ct Tryz.f107 (callT tab106) [6] (loopAt 107 6) T107 s107 [false])) (oE (outOf ct Tryz.f107 (callT tab106) [6] (loopAt 107 6) T107 s107 [false]))=(N.i 5≤N.i 6))
 (hn:Nat.ble (argsOf ct).length Tryz.f107.ntmps=true) (hni:(stOf ct).ni=0) (hpat:patB (trArgs 0 (argsOf ct) (stOf ct).gl) (stOf ct)=true) (hgl:s107.gl=(stOf ct).gl) (hb:b+6≤(stOf ct).nx)
 (hA:∀is ls,Shape ct.ps is ls→F.p ct.p is ls→∃S n,S107 S n 0∧n<2147483648∧(∀ j,j<6→(numsL ct.ps is ls).getD (b+j) 0=S.getD j 0)∧F.a ct.fw is ls=(sqn S n).take 5)
 (hl:∀is ls,Shape ct.ps is ls→∀L,rwArg ct.ps is ls=some L→L.length=5) (hgp:glpB ct=true:=by rfl):CSpec Tryz.prog F 107 ct:=by
 refine gA (args:=argsOf ct) (σe:=stOf ct) rfl Tryz.func107 (fM (by kernel_rfl)) hn hni (fun is ls ws we Ee ac hs hp hent hat=> ?_) hgp;obtain ⟨S,n,hS,hn',hnum,hres⟩:=hA is ls hs hp;have hct:=eU (tab106_ok hF);refine to_headX hm hct (headR hH) hpat hgl rfl hat hent.inv fun hag hf hd=>⟨fun ob hob=>absurd ((congrArg (ob∈ ·) hHo).mp hob) (by simp),fun a1 w1 hat1=> ?_⟩
 refine gQ (fun k ac w=>∃N m,k=n-m∧m≤n∧rowI N 0 7=sqn S m∧At F Tryz.f107.ntmps (num0 F ct.ps is ls) Ee (stOf ct) we T107 s107 N ac w) (k:=n) ⟨_,0,rfl,dK _,?_,hat1⟩ ?_;·exact start107 hHl hS fun j hj=>(hag.i _ (by omega)).trans (hnum j hj)
 ·clear hat hat1 hag hd hf;intro k ac w hJ;obtain ⟨N,m,hk,hmn,hN,hat⟩:=hJ;have hSm:=sqn_S hS hn' hmn;have e5:∀ {M:Num},rowI M 0 7=sqn S m→M.i 5=n∧M.i 6=m:=fun {M} h=>by
   rw[←hSm.n,←hSm.k,←h,fZ (by decide),fZ (by decide)];exact ⟨rfl,rfl⟩
  rcases bL m n with hlt | hge
  ·refine to_roundX hm hct (hR.trans R107_s) (by kernel_rfl) hgl rfl hat hent.inv fun hag hf hd=> ?_
   have hM:rowI (ext N (dR R107)) 0 7=sqn S m:=(fI fun j hj=>hag.i _ (by show 0+j<7;omega)).trans hN;refine ⟨(okB_ok R107_ok (by rw[hf];exact cxM_ok hF.i106 (.inl hF.p106)) ilM (ent107_ok hSm hM (by omega) (by omega)) hd).1 ?_,fun a2 w2 hat2=>⟨n-(m+1),by omega,_,m+1,rfl,hlt,?_,hat2⟩⟩
   ·simp only[aC,Rs.holds,cmpP,Ar.ev];rw[(e5 hM).1,(e5 hM).2];exact ⟨by omega,nofun⟩
   ·exact rnd_eq hF.i106 (hag.f.symm.trans hf) hN
  ·obtain rfl:m=n:=by omega
   refine gH hm hct hO (by kernel_rfl) hat hent fun M hag hf hd=> ?_
   have hM:rowI M 0 7=sqn S m:=(fI fun j hj=>hag.i _ (by show 0+j<7;omega)).trans hN;refine ⟨obs_of hd (hOq M) (by rw[(e5 hM).1,(e5 hM).2];omega),⟨nofun,?_,trivial⟩,fun L hL=> ?_⟩
   ·show (vs 0 5).map _=F.a ct.fw is ls;rw[gD,take_row hM,hres]
   ·rw [hres,bE,sqn_length hS.len,hl is ls hs L hL];rfl
open Classical in
noncomputable def A107 (ok:List Int→List (List Int)→Prop)(st:List Int→List (List Int)→List Int)(is:List Int)(ls:List (List Int)):List Int:=if ok is ls then (sqn (st is ls) (is.getD 0 0).toNat).take 5 else []
def P107 (is:List Int)(ls:List (List Int)):Prop :=
 match is,ls with
 | [n],[_,a]=>Lim a∧0≤n∧n<2147483648
 | _,_=>False
def P107a (is:List Int)(ls:List (List Int)):Prop :=
 match is,ls with
 | [n],[a]=>Lim a∧0≤n∧n<2147483648
 | _,_=>False
def st107 (is:List Int)(ls:List (List Int)):List Int:=ls.getLastD []++[is.getD 0 0,0]
structure F107 (F:Fns):Prop extends F106' F where
 p107:F.p 107=P107
 a107:F.a 107=A107 P107 st107
 p108:F.p 108=P107a
 a108:F.a 108=A107 P107a st107
theorem S107_0 {a:List Int}{n:Int}(ha:Lim a)(h0:0≤n):S107 (a++[n,0]) n.toNat 0:=by
 have hl:=ha.1;refine ⟨by rw[aO,hl];rfl,by rw[dO hl];exact ha,?_,?_⟩
 ·rw [aE,aP (by omega),hl];show n=_;omega
 ·rw [aE,aP (by omega),hl];rfl
theorem spec107 {F:Fns}(hF:F107 F):∀c∈[ct107,ct107a],CSpec Tryz.prog F 107 c:=by
 simp only[aC];refine ⟨spec107g hF.toF106' (b:=5) rfl H107_c H107_l (by kernel_rfl) O107_s (fun N=>O107_q) (by kernel_rfl) (by kernel_rfl) (by kernel_rfl) rfl (by decide) (fun is ls hs hp=> ?_) fst5,
  spec107g hF.toF106' (b:=0) R107a_e H107a_c H107a_l (by kernel_rfl) O107a_s (fun N=>O107a_q) (by kernel_rfl) (by kernel_rfl) (by kernel_rfl) rfl (by decide) (fun is ls hs hp=> ?_) fst5,nofun⟩
 ·have hp:P107 is ls:=by rw[←hF.p107];exact hp
  have hA:F.a 107 is ls=(sqn (st107 is ls) (is.getD 0 0).toNat).take 5:=by rw[hF.a107,A107,bG hp]
  obtain ⟨n,v,a,rfl,rfl,hp⟩:∃n v a,is=[n]∧ls=[v,a]∧Lim a∧0≤n∧n<2147483648:=by
   unfold P107 at hp;split at hp;·exact ⟨_,_,_,rfl,rfl,hp⟩
   ·exact hp.elim
  ·have hv:v.length=5:=hs.1;refine ⟨a++[n,0],n.toNat,S107_0 hp.1 hp.2.1,by omega,fun j hj=> ?_,hA⟩;show (v++(a++[n])).getD (5+j) 0=_;rw[aE,aP (by omega),hv,bR,aE];have hl:=hp.1.1;rcases bL j 5 with h | h
   ·rw [bQ (by omega),bQ (by omega)]
   ·obtain rfl:j=5:=by omega
    rw[aP (by omega),aP (by omega),hl];rfl
 ·have hp:P107a is ls:=by rw[←hF.p108];exact hp
  have hA:F.a 108 is ls=(sqn (st107 is ls) (is.getD 0 0).toNat).take 5:=by rw[hF.a108,A107,bG hp]
  obtain ⟨n,a,rfl,rfl,hp⟩:∃n a,is=[n]∧ls=[a]∧Lim a∧0≤n∧n<2147483648:=by
   unfold P107a at hp;split at hp;·exact ⟨_,_,rfl,rfl,hp⟩
   ·exact hp.elim
  ·refine ⟨a++[n,0],n.toNat,S107_0 hp.1 hp.2.1,by omega,fun j hj=> ?_,hA⟩;show (a++[n]).getD (0+j) 0=_;rw[bM,aE,aE];have hl:=hp.1.1;rcases bL j 5 with h | h
   ·rw [bQ (by omega),bQ (by omega)]
   ·obtain rfl:j=5:=by omega
    rw[aP (by omega),aP (by omega),hl];rfl
def cg (a b:Int):Prop:=pI ∣ a-b
theorem cg.refl (a:Int):cg a a:=⟨0,by rw[Int.sub_self,Int.mul_zero]⟩
theorem cg.of {a b:Int}(h:a=b):cg a b:=h▸cg.refl a
theorem cg.symm {a b:Int}(h:cg a b):cg b a:=by obtain ⟨z,h⟩:=h;exact ⟨-z,by rw[Int.mul_neg,←h];omega⟩
theorem cg.trans {a b c:Int}(h:cg a b)(k:cg b c):cg a c:=by
 obtain ⟨z,h⟩:=h;obtain ⟨y,k⟩:=k;exact ⟨z+y,by rw[Int.mul_add,←h,←k];omega⟩
theorem cg.add {a b c d:Int}(h:cg a b)(k:cg c d):cg (a+c) (b+d):=by
 obtain ⟨z,h⟩:=h;obtain ⟨y,k⟩:=k;exact ⟨z+y,by rw[Int.mul_add,←h,←k];omega⟩
theorem cg.sub {a b c d:Int}(h:cg a b)(k:cg c d):cg (a-c) (b-d):=by
 obtain ⟨z,h⟩:=h;obtain ⟨y,k⟩:=k;exact ⟨z-y,by rw[Int.mul_sub,←h,←k];omega⟩
theorem cg.mul {a b c d:Int}(h:cg a b)(k:cg c d):cg (a*c) (b*d):=by
 obtain ⟨z,h⟩:=h;obtain ⟨y,k⟩:=k;refine ⟨z*c+b*y,?_⟩;rw[Int.mul_add,←dW,←h,Int.mul_left_comm,←k,Int.sub_mul,Int.mul_sub];omega
section
variable {a b v:List Int}
theorem argL3 {k:IntKind}{r1 r2 r3:Bool}{ct:Ct}(hps:ct.ps=[.ptr k 5 r1,.ptr k 5 r2,.ptr k 5 r3])(hv:v.length=5)(ha:a.length=5)(hb:b.length=5):argL ct [] [v,a,b] 0=v∧argL ct [] [v,a,b] 5=a∧argL ct [] [v,a,b] 10=b:=by
 unfold argL;rw[hps];simp only[numsL,bJ];refine ⟨by rw[bW,dO hv],by rw[List.drop_left' hv,dO ha],?_⟩;rw[←List.append_assoc,List.drop_left' (by rw[aO,hv,ha]),←hb,cS]
theorem argL2 {k:IntKind}{r1 r2:Bool}{ct:Ct}(hps:ct.ps=[.ptr k 5 r1,.ptr k 5 r2])(ha:a.length=5)(hb:b.length=5):argL ct [] [a,b] 0=a∧argL ct [] [a,b] 5=b:=by
 unfold argL;rw[hps];simp only[numsL,bJ];refine ⟨by rw[bW,dO ha],?_⟩;rw[List.drop_left' ha,←hb,cS]
theorem argL1 {k:IntKind}{r1:Bool}{ct:Ct}(hps:ct.ps=[.ptr k 5 r1])(ha:a.length=5):argL ct [] [a] 0=a:=by
 unfold argL;rw[hps];simp only[numsL,bJ];rw[bW,←ha,cS]
variable {F:Fns}
theorem law100 (hF:F91 F)(hv:v.length=5)(ha:Lim a)(hb:Lim b):F.p 100 [] [v,a,b]∧LimO (F.a 100 [] [v,a,b])∧cg (V51 (F.a 100 [] [v,a,b])) (V51 a*V51 b):=by
 obtain ⟨-,e1,e2⟩:=argL3 (ct:=ct100) rfl hv ha.1 hb.1;have hp:PM ct100 5 10 [] [v,a,b]:=⟨by rw[e1];exact ha,by rw[e2];exact hb⟩
 rw[hF.p100,hF.a100];refine ⟨hp,?_⟩;have:=ok100.law hp
 rwa [e1,e2] at this
theorem law101 (hF:F91 F)(ha:Lim a)(hb:Lim b):F.p 101 [] [a,b]∧LimO (F.a 101 [] [a,b])∧cg (V51 (F.a 101 [] [a,b])) (V51 a*V51 b):=by
 obtain ⟨e1,e2⟩:=argL2 (ct:=ct100a) rfl ha.1 hb.1;have hp:PM ct100a 0 5 [] [a,b]:=⟨by rw[e1];exact ha,by rw[e2];exact hb⟩
 rw[hF.p101,hF.a101];refine ⟨hp,?_⟩;have:=ok100a.law hp
 rwa [e1,e2] at this
theorem law102 (hF:F91 F)(ha:Lim a)(hb:Lim b):F.p 102 [] [a,b]∧LimO (F.a 102 [] [a,b])∧cg (V51 (F.a 102 [] [a,b])) (V51 b*V51 a):=by
 obtain ⟨e1,e2⟩:=argL2 (ct:=ct100b) rfl ha.1 hb.1;have hp:PM ct100b 5 0 [] [a,b]:=⟨by rw[e2];exact hb,by rw[e1];exact ha⟩
 rw[hF.p102,hF.a102];refine ⟨hp,?_⟩;have:=ok100b.law hp
 rwa [e1,e2] at this
theorem law91 (hF:F91 F)(hv:v.length=5)(ha:Lim a):F.p 91 [] [v,a]∧LimO (F.a 91 [] [v,a])∧cg (V51 (F.a 91 [] [v,a])) (V51 a*V51 a):=by
 obtain ⟨-,e2⟩:=argL2 (ct:=ct91) rfl hv ha.1;have hp:PM ct91 5 5 [] [v,a]:=⟨by rw[e2];exact ha,by rw[e2];exact ha⟩
 rw[hF.p91,hF.a91];refine ⟨hp,?_⟩;have:=ok91.law hp
 rwa [e2] at this
theorem law92 (hF:F91 F)(ha:Lim a):F.p 92 [] [a]∧LimO (F.a 92 [] [a])∧cg (V51 (F.a 92 [] [a])) (V51 a*V51 a):=by
 have e1:=argL1 (ct:=ct91a) rfl ha.1;have hp:PM ct91a 0 0 [] [a]:=⟨by rw[e1];exact ha,by rw[e1];exact ha⟩
 rw[hF.p92,hF.a92];refine ⟨hp,?_⟩;have:=ok91a.law hp
 rwa [e1] at this
end
theorem AM_fl {ct:Ct}{E:RE3}{xa xb:Nat}(h:MulOk ct E xa xb)(is:List Int)(ls:List (List Int))(j:Nat):0≤(AM E ct xa xb is ls).getD j 0∧(AM E ct xa xb is ls).getD j 0≤((2251799822073856:Nat):Int):=by
 by_cases hp:PM ct xa xb is ls
 ·have:=(h.law hp).1;by_cases hj:j<(AM E ct xa xb is ls).length
  ·rw [aE,aU hj];exact this.2 _ (List.getElem_mem hj)
  ·rw [aE,bI (by omega)];exact ⟨bK _,by decide⟩
 ·rw [AM,bC hp];exact ⟨bK _,by show (0:Int)≤_;decide⟩
def cxE:Cx:={fm:=106,up:=fun p=>Nat.beq p 106,fl:=fun f=>bif Nat.beq f 100||(Nat.beq f 101||(Nat.beq f 102||(Nat.beq f 91||Nat.beq f 92))) then 2251799822073857 else 0}
theorem cxE_ok {F:Fns}(hF:F91 F):CxOk cxE F:=by
 have h0:=cxM_ok hF.i106 (.inl hF.p106);refine ⟨h0.mul,h0.up,fun f m hm is ls j=> ?_,fun _ _ h=>(by cases h)⟩;simp only[cxE] at hm;cases hb:(Nat.beq f 100||(Nat.beq f 101||(Nat.beq f 102||(Nat.beq f 91||Nat.beq f 92)))) with
 | false=>rw[hb] at hm;cases hm
 | true =>
  rw[hb] at hm;simp only[aH,Nat.reduceEqDiff] at hm;subst hm;simp only[eM] at hb;rcases hb with h | h | h | h | h <;> rw[aF h]
  ·rw [hF.a100];exact AM_fl ok100 is ls j
  ·rw [hF.a101];exact AM_fl ok100a is ls j
  ·rw [hF.a102];exact AM_fl ok100b is ls j
  ·rw [hF.a91];exact AM_fl ok91 is ls j
  ·rw [hF.a92];exact AM_fl ok91a is ls j
structure Mst where
 A:Nat
 x:Nat
 f:Nat
 args:List (Nat×List Nat)
def mstB (ds:List Df)(m:Mst):Bool :=
 (match lkA ds m.A with | some (.fn g [] cs)=>Nat.beq g m.f&&eL Nat.beq cs (m.args.map (·.1)) | _=>false) &&
 (m.args.all fun p=>match lkA ds p.1 with | some (.lit l)=>eL eAr l (p.2.map .var) | _=>false) &&
 (List.range 5).all fun j=>match lkN ds (m.x+j) with | some (.rd B (.kst (.ofNat i)))=>Nat.beq B m.A&&Nat.beq i j | _=>false
theorem mst_ok {N:Num}{ds:List Df}{m:Mst}(hd:∀d∈ds,d.sat N)(h:mstB ds m=true) :
 N.a m.A=N.f.a m.f [] (m.args.map fun p=>p.2.map N.i)∧(∀ p∈m.args,N.a p.1=p.2.map N.i)∧((N.a m.A).length=5→rowI N m.x 5=N.a m.A):=by
 simp only[mstB,aG,bT] at h;obtain ⟨⟨h1,h2⟩,h3⟩:=h;have ha:∀p∈m.args,N.a p.1=p.2.map N.i:=fun p hp=>by
  have:=h2 p hp;split at this
  ·rename_i l hl;rw[fR hd hl,eArs_eq this];simp only[Ad.ev,cZ];rfl
  ·cases this
 refine ⟨?_,ha,fun hl=>fP hl fun j hj=> ?_⟩
 ·split at h1
  ·rename_i g cs hl;simp only[aG] at h1;rw[fR hd hl,aF h1.1,eNats_eq h1.2];simp only[Ad.ev,aK,cZ];congr 1;exact cW fun p hp=>ha p hp
  ·cases h1
 ·have:=h3 j (cE.2 hj);split at this
  ·rename_i B i hl;simp only[aG] at this;rw[fB hd hl,aF this.1,aF this.2];rfl
  ·cases this
noncomputable abbrev E29:=runE ct29 Tryz.f29 (callT tab38) []
def ls29:List Ar:=[545,547,549,551,553,555,557,559,561,563,565,567,569,571,573,574].map .var
theorem E29_s:E29=some (⟨zipJ ((List.range' 575 16).map .var) 0,none,none⟩,dE E29,oE E29):=someE (by kernel_rfl)
theorem E29_ok:okB cx0 [(0,16,65535),(16,16,65535)] (dE E29) (oE E29) [.ob (.prd 42 [] [0])] [.law w16 ls29 (pmul (rowP w16 0 16) (rowP w16 16 16)) pN,.bnd ls29 1152921504606846976]=true:=by kernel_rfl
section
variable {N:Num}
theorem E29_a (hd:∀d∈dE E29,d.sat N):N.a 0=ls29.map (·.ev N):=fR hd (ad:= .lit ls29) (by kernel_rfl)
theorem E29_f (hd:∀d∈dE E29,d.sat N):∀j,j<16→N.i (575+j)=N.f.i 42 [] ([0].map N.a) j:=fam_f hd (by kernel_rfl)
end
theorem spec29 {F:Fns}(hF:F38 F):CSpec Tryz.prog F 29 ct29:=by
 refine fG (eU (tab38_ok hF.toF42)) Tryz.func29 (by kernel_rfl) (by kernel_rfl) (by kernel_rfl) E29_s (by kernel_rfl) fun is ls M hs hp hag hf hd=> ?_
 obtain ⟨a,b,rfl,rfl,ha,hb⟩:=two16 hs;obtain ⟨da,db⟩:P58 [] [a,b]:=by rw[←hF.p38];exact hp
 obtain ⟨ra,rb⟩:=rows2 (ps:=ct29.ps) rfl (by decide) hag ha hb;obtain ⟨k1,k2⟩:=okB_ok E29_ok (N:=M) cx0_ok il0 (gB (dig_ent da ra) (gB (dig_ent db rb) ent_nil)) hd;simp only[aC,Tst.holds] at k2;obtain ⟨l1,b1,-⟩:=k2;rw[pmul_ev,rowP_row,rowP_row,ra,rb] at l1;rw[←E29_a hd] at l1 b1;refine ⟨k1 ?_,⟨fin42 hF.toF42 hf (E29_f hd) l1 fun j=>by show F.i 29 _ _ j=_;rw[hF.i29];rfl,trivial,trivial⟩,nofun⟩;simp only[aC,Rs.holds,Ob.holds,aK,aI]
 rw[hf,hF.p42];exact ⟨bnd60 b1,nofun⟩
noncomputable abbrev E57t:=runE ct57 Tryz.f57 (callT tab38) [true]
noncomputable abbrev E57f:=runE ct57 Tryz.f57 (callT tab38) [false]
noncomputable abbrev E39:=runE ct39 Tryz.f39 (callT tab39) []
def o57:List Ar:=[35,40,45,50,55,60,65,70,75,80,85,90,95,100,105,110].map .var
theorem E57t_s:E57t=some (⟨zipJ ((List.range' 16 16).map .var) 0,none,none⟩,dE E57t,oE E57t):=someE (by kernel_rfl)
theorem E57f_s:E57f=some (⟨zipJ o57 0,none,none⟩,dE E57f,oE E57f):=someE (by kernel_rfl)
theorem E39_s:E39=some (⟨zipJ ((List.range' 48 16).map .var) 0,none,none⟩,dE E39,oE E39):=someE (by kernel_rfl)
def cx42:Cx:={fi:=fun f=>bif Nat.beq f 42 then 65536 else 0}
theorem cx42_ok {F:Fns}(h:F.i 42=I42):CxOk cx42 F:=⟨fun _ _ h=>absurd h (by decide),fun _ h=>(by cases h),fun _ _ h=>(by cases h),fun f m hm is ls j=>by
 simp only[cx42] at hm;cases hb:Nat.beq f 42 with
 | false=>rw[hb] at hm;cases hm
 | true =>
  rw[hb] at hm;simp only[aH,Nat.reduceEqDiff] at hm;subst hm;rw[aF hb,h];unfold I42
  split
  ·rename_i l;have hd:=dgp_dig (V16 l);by_cases hj:j<(dgp (V16 l)).length
   ·rw [aE,aU hj];have:0≤(dgp (V16 l))[j]∧(dgp (V16 l))[j]<65536:=hd _ (List.getElem_mem hj);show 0≤(dgp (V16 l))[j]∧(dgp (V16 l))[j]≤_;omega
   ·rw [aE,bI (by omega)];exact ⟨bK _,by show (0:Int)≤65535;decide⟩
  ·exact ⟨bK _,by show (0:Int)≤65535;decide⟩⟩
theorem E57f_ok:okB cx42 [(0,16,1152921504606846975)] (dE E57f) (oE E57f) [.ob (.boo 32 false),.ob (.prd 42 [] [0])]
 [.law w16 o57 (padd (pk 57896044618658097711785492504343953926634992332820282019728792003956564819949) (pscale (-1) (rowP w16 16 16))) 115792089237316195423570985008687907853269984665640564039457584007913129639936,.bnd o57 65536]=true:=by kernel_rfl
theorem E57t_o:oE E57t=[.boo 32 true,.prd 42 [] [0]]:=by kernel_rfl
theorem E39_o:oE E39=[.prd 38 [] [1,2],.prd 42 [] [0]]:=by kernel_rfl
section
variable {N:Num}
theorem E57t_f (hd:∀d∈dE E57t,d.sat N):∀j,j<16→N.i (16+j)=N.f.i 42 [] ([0].map N.a) j:=fam_f hd (by kernel_rfl)
theorem E57f_f (hd:∀d∈dE E57f,d.sat N):∀j,j<16→N.i (16+j)=N.f.i 42 [] ([0].map N.a) j:=fam_f hd (by kernel_rfl)
theorem E57t_a (hd:∀d∈dE E57t,d.sat N):N.a 0=(vs 0 16).map (·.ev N)∧N.a 1=(vs 16 16).map (·.ev N)∧N.a 2=(zs 16).map (·.ev N)∧N.i 32=(Nd.leq 1 2).ev N :=
 ⟨fR hd (ad:= .lit (vs 0 16)) (by kernel_rfl),fR hd (ad:= .lit (vs 16 16)) (by kernel_rfl),fR hd (ad:= .lit (zs 16)) (by kernel_rfl),fB hd (by kernel_rfl)⟩
theorem E57f_a (hd:∀d∈dE E57f,d.sat N):N.a 0=(vs 0 16).map (·.ev N)∧N.a 1=(vs 16 16).map (·.ev N)∧N.a 2=(zs 16).map (·.ev N)∧N.i 32=(Nd.leq 1 2).ev N :=
 ⟨fR hd (ad:= .lit (vs 0 16)) (by kernel_rfl),fR hd (ad:= .lit (vs 16 16)) (by kernel_rfl),fR hd (ad:= .lit (zs 16)) (by kernel_rfl),fB hd (by kernel_rfl)⟩
theorem E39_a (hd:∀d∈dE E39,d.sat N):N.a 0=(vs 16 16).map (·.ev N)∧N.a 1=(vs 0 16).map (·.ev N)∧N.a 2=(vs 32 16).map (·.ev N) :=
 ⟨fR hd (ad:= .lit (vs 16 16)) (by kernel_rfl),fR hd (ad:= .lit (vs 0 16)) (by kernel_rfl),fR hd (ad:= .lit (vs 32 16)) (by kernel_rfl)⟩
theorem E39_f (hd:∀d∈dE E39,d.sat N):(∀ j,j<16→N.i (32+j)=N.f.i 57 [] ([0].map N.a) j)∧∀j,j<16→N.i (48+j)=N.f.i 38 [] ([1,2].map N.a) j:=⟨fam_f hd (by kernel_rfl),fam_f hd (by kernel_rfl)⟩
end
theorem zip_map {N:Num}{f:Nat→Int}{l:List Ar}{L:List Int}(hr:l.map (·.ev N)=L)(hf:∀j,f j=L.getD j 0):∀p∈zipJ l 0,p.1.ev N=f p.2:=by
 refine zip_ok fun j a ha=> ?_
 rw[bM,hf,←hr,aE,bP,ha];rfl
theorem dgp0 {v:Int}(h:v%pI=0):dgp v=List.replicate 16 0:=by
 unfold dgp;rw[h];decide
theorem dgp_ne {v:Int}(h:v%pI≠0):dgp v≠List.replicate 16 0:=fun e=>h (by
 rw[←dgp_val,e];decide)
theorem pI_dvd_emod (v:Int):pI ∣ v%pI-v:=⟨-(v/pI),by
 have:=Int.mul_ediv_add_emod v pI;rw[Int.mul_neg];show v%57896044618658097711785492504343953926634992332820282019728792003956564819949-v= -(57896044618658097711785492504343953926634992332820282019728792003956564819949*(v/57896044618658097711785492504343953926634992332820282019728792003956564819949));have:57896044618658097711785492504343953926634992332820282019728792003956564819949*(v/57896044618658097711785492504343953926634992332820282019728792003956564819949)+v%57896044618658097711785492504343953926634992332820282019728792003956564819949=v:=this
 omega⟩
theorem pI_rng (v:Int):0≤v%pI∧v%pI<pI:=⟨Int.emod_nonneg _ (by decide),eI _ (by decide)⟩
theorem zs_ev {N:Num}{n:Nat}:(zs n).map (·.ev N)=List.replicate n 0:=by simp only[zs,List.map_replicate];rfl
theorem spec57 {F:Fns}(hF:F38 F):CSpec Tryz.prog F 57 ct57:=by
 refine straightC (eU (tab38_ok hF.toF42)) Tryz.func57 (by kernel_rfl) (by kernel_rfl) (by kernel_rfl) (by kernel_rfl) fun is ls hs hp=> ?_
 obtain ⟨a,rfl,rfl,ha⟩:=one16 hs;have hP:P42 [] [a]:=by rw[←hF.p42];exact hp
 have hP':∀d∈a,0≤d∧d≤1152921504606846975:=hP;have hres:∀j,F.i 57 [] [a] j=(dgp (-V16 a)).getD j 0:=fun j=>by rw[hF.i57];rfl
 have row:∀ {M:Num},M.f=F→M.a 0=a→(∀ j,j<16→M.i (16+j)=M.f.i 42 [] ([0].map M.a) j)→rowI M 16 16=dgp (V16 a):=fun {M} hf h0 h=>by
  refine fP (dgp_length _) fun j hj=> ?_
  rw[h j hj,hf,hF.i42,aI,aK,h0];rfl
 by_cases hz:V16 a%pI=0
 ·refine ⟨_,_,_,_,E57t_s,fun M hag hf hd=> ?_⟩;have ra:=rows1 (ps:=ct57.ps) rfl (by decide) hag ha;obtain ⟨a0,a1,a2,i32⟩:=E57t_a hd;rw[gD] at a0 a1;rw[ra] at a0;have r:=row hf a0 (E57t_f hd);rw[r] at a1;rw[zs_ev] at a2;refine ⟨?_,⟨zip_row (L:=dgp (-V16 a)) (r.trans (dgp_congr ?_)) hres,trivial,trivial⟩,nofun⟩
  ·rw [E57t_o];simp only[aC,Ob.holds,aK,aI];rw[i32,hf,hF.p42,a0];refine ⟨?_,hP,nofun⟩;simp only[Nd.ev,a1,a2];rw[bS (dgp0 hz)];rfl
  ·obtain ⟨z,hz⟩:=Int.dvd_of_emod_eq_zero hz;exact ⟨2*z,by rw[hz,Int.mul_left_comm];omega⟩
 ·refine ⟨_,_,_,_,E57f_s,fun M hag hf hd=> ?_⟩;have ra:=rows1 (ps:=ct57.ps) rfl (by decide) hag ha;obtain ⟨a0,a1,a2,i32⟩:=E57f_a hd;rw[gD] at a0 a1;rw[ra] at a0;have r:=row hf a0 (E57f_f hd);rw[r] at a1;rw[zs_ev] at a2;obtain ⟨k1,k2⟩:=okB_ok E57f_ok (N:=M) (by rw[hf];exact cx42_ok hF.i42) (fun _ _ h=>(by cases h)) (gB (fun v hv=>by rw[ra] at hv;exact hP' v hv) ent_nil) hd;simp only[aC,Tst.holds] at k2;obtain ⟨l1,b1,-⟩:=k2
  rw[fS,fN,pk_ev,rowP_row,r,show valW w16 (dgp (V16 a))=V16 a%pI from dgp_val _] at l1;have hrng:=pI_rng (V16 a);have hdig:Dig w16 (o57.map (·.ev M)):=b1;have hr2:=valW_rng (w:=w16) (by decide) hdig;have hlen:(o57.map (·.ev M)).length=16:=rfl;rw[hlen] at hr2;have hr2:0≤valW w16 (o57.map (·.ev M))∧valW w16 (o57.map (·.ev M))<115792089237316195423570985008687907853269984665640564039457584007913129639936:=hr2;refine ⟨k1 ?_,⟨zip_map (L:=dgp (-V16 a)) ?_ hres,trivial,trivial⟩,nofun⟩
  ·simp only[aC,Rs.holds,Ob.holds,aK,aI];rw[i32,hf,hF.p42,a0];refine ⟨?_,hP,nofun⟩;simp only[Nd.ev,a1,a2];rw[bZ (dgp_ne hz)];rfl
  ·refine (dig_of_val (by decide) hlen hdig).trans ?_;show digW w16 16 (valW w16 (o57.map (·.ev M)))=digW w16 16 (-V16 a%pI);congr 1;have e:valW w16 (o57.map (·.ev M))=pI-V16 a%pI:=by
    obtain ⟨z,hz'⟩:=l1;have hz':valW w16 (o57.map (·.ev M))-(57896044618658097711785492504343953926634992332820282019728792003956564819949+ -1*(V16 a%pI))=115792089237316195423570985008687907853269984665640564039457584007913129639936*z:=hz';have hrng:0≤V16 a%pI∧V16 a%pI<57896044618658097711785492504343953926634992332820282019728792003956564819949:=hrng;show _=57896044618658097711785492504343953926634992332820282019728792003956564819949-V16 a%pI
    omega
   rw[e];have h1:(pI-V16 a%pI)%pI=pI-V16 a%pI:=bN (by omega) (by omega);rw[←h1];refine Int.emod_eq_emod_iff_emod_sub_eq_zero.2 (Int.emod_eq_zero_of_dvd ?_);obtain ⟨z,hz'⟩:=pI_dvd_emod (V16 a);exact ⟨1-z,by rw[Int.mul_sub];omega⟩
theorem tab39_ok {F:Fns}(h:F38 F):TabOk F tab39 :=
 ⟨⟨by kernel_rfl,fun c hc=>by simp only[aX] at hc;subst hc;exact spec57 h⟩,⟨by kernel_rfl,fun c hc=>by simp only[aX] at hc;subst hc;exact spec38 h⟩,trivial⟩
theorem dig60 {l:List Int}(h:Dig w16 l):∀d∈l,0≤d∧d≤1152921504606846975:=fun d hd=>by
 have:0≤d∧d<65536:=h d hd;omega
theorem spec39 {F:Fns}(hF:F38 F):CSpec Tryz.prog F 39 ct39:=by
 refine fG (eU (tab39_ok hF)) Tryz.func39 (by kernel_rfl) (by kernel_rfl) (by kernel_rfl) E39_s (by kernel_rfl) fun is ls M hs hp hag hf hd=> ?_
 obtain ⟨a,b,rfl,rfl,ha,hb⟩:=two16 hs;obtain ⟨da,db⟩:P58 [] [a,b]:=by rw[←hF.p38];exact hp
 obtain ⟨ra,rb⟩:=rows2 (ps:=ct39.ps) rfl (by decide) hag ha hb;obtain ⟨a0,a1,a2⟩:=E39_a hd;obtain ⟨f1,f2⟩:=E39_f hd;rw[gD] at a0 a1 a2;rw[rb] at a0;rw[ra] at a1;have rn:rowI M 32 16=dgp (-V16 b):=fP (dgp_length _) fun j hj=>by rw[f1 j hj,hf,hF.i57,aI,aK,a0];rfl
 rw[rn] at a2;refine ⟨?_,⟨zip_row (L:=dgp (V16 a-V16 b)) (fP (dgp_length _) fun j hj=> ?_) fun j=>by show F.i 39 _ _ j=_;rw[hF.i39];rfl,trivial,trivial⟩,nofun⟩
 ·rw [E39_o];simp only[aC,Ob.holds,aK,aI];rw[hf,hF.p42,hF.p38,a0,a1,a2];exact ⟨⟨da,dgp_dig _⟩,dig60 db,nofun⟩
 ·rw [f2 j hj,hf,hF.i38,aI,aI,aK,a1,a2];show (dgp (V16 a+V16 (dgp (-V16 b)))).getD j 0=_;rw[dgp_val];refine congrArg (fun l=>List.getD l j 0) (dgp_congr ?_);obtain ⟨z,hz⟩:=pI_dvd_emod (-V16 b);exact ⟨z,by omega⟩
end Go.Proofs.YtnfikgagkamioaaGreatDoor
