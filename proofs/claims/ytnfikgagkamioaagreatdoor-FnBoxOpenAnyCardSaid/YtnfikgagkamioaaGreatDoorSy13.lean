/- Code with stops; new numbers for new definitions. -/
import Derived.Deep.LoopGhost
import Derived.Test.YtnfikgagkamioaaGreatDoorSy11
namespace Go.Sy
section
variable {P:Program} {F:Fns} {N:Num}
theorem next_none {fn : Func} {n : String} (hn : fn.name = n) (ho : fn.origin = "") (h1 : Extern.allNextRows.lookup n = none) : Extern.findNext fn = none := by
 have h2 : Extern.allNextRows.lookup "" = none := by kernel_rfl
 unfold Extern.findNext;simp only[hn,ho,h1,h2,Option.map_none];rfl
theorem find_some {fn:Func}{n:String}{e:Array Value→Sem Value}(hn:fn.name=n)(h1:Extern.allGenericRows.lookup n=none)(h2:Extern.allTypedRows.lookup n=none)(h3:Extern.allRows.lookup n=some e) :
 Extern.find fn=some e:=by
 unfold Extern.find;simp only[hn,h1,h2,h3,Option.map_none];rfl
def sub64Entry:Array Value→Sem Value:=fun args=>do
 let (x, y, b) ← Extern.MathBitsCarry.three "Sub64" args
 pure (Extern.MathBitsCarry.pair ((x+Extern.MathBitsCarry.m64-y-b)%Extern.MathBitsCarry.m64) (if x<y+b then 1 else 0))
def bool8Entry:Array Value→Sem Value:=fun
 | #[.bool b]=>pure (.int .u8 (if b then 1 else 0))
 | _ => stuck "boolToUint8: a bool expected"
theorem run_add64' (x y c:Int)(hc:c=0∨c=1)(w:World) :
 (add64Entry #[.int .u64 x,.int .u64 y,.int .u64 c]).run P w =
  .ok (Extern.MathBitsCarry.pair ((x.toNat+y.toNat+c.toNat)%Extern.MathBitsCarry.m64) ((x.toNat+y.toNat+c.toNat)/Extern.MathBitsCarry.m64)) w:=by
 rcases hc with rfl | rfl <;> rfl
theorem run_sub64' (x y c:Int)(hc:c=0∨c=1)(w:World) :
 (sub64Entry #[.int .u64 x,.int .u64 y,.int .u64 c]).run P w =
  .ok (Extern.MathBitsCarry.pair ((x.toNat+Extern.MathBitsCarry.m64-y.toNat-c.toNat)%Extern.MathBitsCarry.m64) (if x.toNat<y.toNat+c.toNat then 1 else 0)) w:=by
 rcases hc with rfl | rfl <;> rfl
theorem unsigned_wrap {k:IntKind}(h:unsignedB k=true)(n:Int):0≤k.wrap n∧k.wrap n<18446744073709551616:=by
 cases k <;> simp only[unsignedB,bV] at h <;> simp only[IntKind.wrap,IntKind.signed,IntKind.bits] <;> simp <;> omega
theorem inU64_iff {n:Int}(h:inU64 n=true):0≤n∧n<18446744073709551616:=by
 unfold inU64 at h;split at h
 ·have:=bX.mp h;constructor;·exact cR _
  ·simp only[Int.ofNat_eq_natCast];omega
 ·cases h
theorem fdiv_in {x y:Int}(h:0≤x∧x<18446744073709551616)(n:Nat)(_:y=2^n):0≤x.fdiv (2^n)∧x.fdiv (2^n)<18446744073709551616:=by
 have hp:(0:Int)<2^n:=Int.pow_pos (by omega);rw[Int.fdiv_eq_ediv_of_nonneg _ (Int.le_of_lt hp)];refine ⟨Int.ediv_nonneg h.1 (Int.le_of_lt hp),?_⟩;exact cG (Int.ediv_le_self _ h.1) h.2
theorem okU_sound {ni:Nat}(hin:∀x,x<ni→0≤N.i x∧N.i x<18446744073709551616):∀ {ds:List Df} {x:Nat},(∀ d∈ds,d.sat N)→okU ni ds x=true →
 0≤N.i x∧N.i x<18446744073709551616
 | [],x,hs,h=>hin x (bX.mp h)
 | .a _ _::ds,x,hs,h=>okU_sound hin (fun d m=>hs d (aJ _ m)) h
 | .n y nd::ds,x,hs,h=>by
  have hs':∀d∈ds,d.sat N:=fun d m=>hs d (aJ _ m)
  simp only[okU] at h;cases hb:Nat.beq x y with
  | false=>rw[hb] at h;exact okU_sound hin hs' h
  | true =>
   rw[hb] at h;have hxy:=aF hb;subst hxy;have e:N.i x=nd.ev N:=hs (.n x nd) aN;simp only[aH] at h;rw[e];cases nd with
   | bin op k a b =>
    simp only[Nd.ev];cases op <;> simp only[bV] at h <;> simp only[iop]
    case shr =>
     cases a with
     | var z=>exact fdiv_in (okU_sound hin hs' h) _ rfl
     | kst m=>exact fdiv_in (inU64_iff h) _ rfl
    all_goals exact unsigned_wrap h _
   | conv k a=>exact unsigned_wrap h _
   | cmp op a b=>simp only[Nd.ev];cases icmp op (a.ev N) (b.ev N) <;> simp
   | addS a b c=>simp only[Nd.ev];omega
   | addC a b c=>simp only[Nd.ev];split <;> omega
   | subS a b c=>simp only[Nd.ev];omega
   | subC a b c=>simp only[Nd.ev];split <;> omega
   | lin a b c=>cases h
   | mn a b=>cases h
   | rd A y=>cases h
   | sel l y=>cases h
   | len A=>cases h
   | fn f is az j=>cases h
   | seq A B=>cases h
   | leq A B=>cases h
theorem okC_sound:∀ {ds:List Df} {x:Nat},(∀ d∈ds,d.sat N)→okC ds x=true→N.i x=0∨N.i x=1
 | [],x,hs,h=>by cases h
 | .a _ _::ds,x,hs,h=>okC_sound (fun d m=>hs d (aJ _ m)) h
 | .n y nd::ds,x,hs,h=>by
  have hs':∀d∈ds,d.sat N:=fun d m=>hs d (aJ _ m)
  simp only[okC] at h;cases hb:Nat.beq x y with
  | false=>rw[hb] at h;exact okC_sound hs' h
  | true =>
   rw[hb] at h;have hxy:=aF hb;subst hxy;have e:N.i x=nd.ev N:=hs (.n x nd) aN;simp only[aH] at h;rw[e];cases nd with
   | cmp op a b=>simp only[Nd.ev];cases icmp op (a.ev N) (b.ev N) <;> simp
   | addC a b c=>simp only[Nd.ev];split <;> simp
   | subC a b c=>simp only[Nd.ev];split <;> simp
   | _=>cases h
theorem okUA_sound {σ:St}{a:Ar}(hH:Hold F N σ)(h:okUA σ a=true):0≤a.ev N∧a.ev N<18446744073709551616:=by
 cases a with
 | var x=>exact okU_sound hH.ins hH.defs h
 | kst n=>exact inU64_iff h
theorem okCA_sound {σ:St}{a:Ar}(hH:Hold F N σ)(h:okCA σ a=true):a.ev N=0∨a.ev N=1:=by
 cases a with
 | var x=>exact okC_sound hH.defs h
 | kst n =>
  simp only[okCA] at h;split at h
  ·rename_i m;have:=aM h;simp only[Ar.ev];have:m=0∨m=1:=by omega
   rcases this with rfl | rfl <;> simp
  ·cases h
theorem u64_pur {σ σ':St}{a:Ar}(h:σ.u64 a=some σ'):Pur σ σ':=by
 unfold St.u64 at h;cases hb:okUA σ a with
 | true=>rw[hb] at h;simp only[aH,aA] at h;rw[←h];exact Pur.refl _
 | false =>rw[hb] at h;simp only[aQ,aL] at h;obtain ⟨σ1,h1,h2⟩:=h;exact (fC h1).trans (lt_pur h2)
theorem bit_pur {σ σ':St}{a:Ar}(h:σ.bit a=some σ'):Pur σ σ':=by
 unfold St.bit at h;cases hb:okCA σ a with
 | true=>rw[hb] at h;simp only[aH,aA] at h;rw[←h];exact Pur.refl _
 | false =>rw[hb] at h;simp only[aQ,aL] at h;obtain ⟨σ1,h1,h2⟩:=h;exact (fC h1).trans (fC h2)
theorem u64_holds {σ σ':St}{a:Ar}(h:σ.u64 a=some σ')(hH:Hold F N σ'):0≤a.ev N∧a.ev N<18446744073709551616:=by
 have hH0:=eT (u64_pur h).ext hH;unfold St.u64 at h;cases hb:okUA σ a with
 | true=>exact okUA_sound hH0 hb
 | false =>rw[hb] at h;simp only[aQ,aL] at h;obtain ⟨σ1,h1,h2⟩:=h;exact ⟨fO h1 (eT (lt_pur h2).ext hH),lt_holds h2 hH⟩
theorem bit_holds {σ σ':St}{a:Ar}(h:σ.bit a=some σ')(hH:Hold F N σ'):a.ev N=0∨a.ev N=1:=by
 have hH0:=eT (bit_pur h).ext hH;unfold St.bit at h;cases hb:okCA σ a with
 | true=>exact okCA_sound hH0 hb
 | false =>rw[hb] at h;simp only[aQ,aL] at h;obtain ⟨σ1,h1,h2⟩:=h;have e1:=fO h1 (eT (fC h2).ext hH);have e2:=fO h2 hH;rw[gE] at e1 e2;omega
theorem m64_eq:Extern.MathBitsCarry.m64=18446744073709551616:=by decide
theorem denLV3 {E:Env}{x y z:Sc}{us:List Value}(h:denLV N E [.one (.sc x),.one (.sc y),.one (.sc z)]=some us) :
 ∃u1 u2 u3,us=[u1,u2,u3]∧x.den N E=some u1∧y.den N E=some u2∧z.den N E=some u3:=by
 obtain ⟨u1,r1,h1,hr1,rfl⟩:=denLV_cons.1 h;obtain ⟨u2,r2,h2,hr2,rfl⟩:=denLV_cons.1 hr1;obtain ⟨u3,r3,h3,hr3,rfl⟩:=denLV_cons.1 hr2;simp only[denLV,aA] at hr3;subst hr3;exact ⟨u1,u2,u3,rfl,h1,h2,h3⟩
theorem ext1_pur {name:String}{args:List SV}{σ σ':St}{sv:SV}(h:ext1 name args σ=some (sv,σ')):Pur σ σ':=by
 unfold ext1 at h;split at h
 ·split at h
  ·split at h
   ·rename_i a b c _ _ _ _ σ1 h1;simp only[aL] at h1;obtain ⟨σa,ha,σb,hb,hc⟩:=h1;have p:=((u64_pur ha).trans (u64_pur hb)).trans (bit_pur hc);cases hn : (name == "math/bits.Add64") with
    | true =>rw[hn] at h;simp only[aH,aA] at h;have e:_=σ':=congrArg Prod.snd h;rw[←e];exact p.trans ((Pur.mk1 _ _).trans (Pur.mk1 _ _))
    | false =>
     rw[hn] at h;simp only[aQ] at h;cases hn : (name == "math/bits.Sub64") with
     | true =>rw[hn] at h;simp only[aH,aA] at h;have e:_=σ':=congrArg Prod.snd h;rw[←e];exact p.trans ((Pur.mk1 _ _).trans (Pur.mk1 _ _))
     | false=>rw[hn] at h;cases h
   ·cases h
  ·cases h
 ·cases hn : (name == "crypto/internal/constanttime.boolToUint8") with
  | false=>rw[hn] at h;cases h
  | true =>
   rw[hn] at h;simp only[aH] at h;split at h;·simp only[aA,aD] at h;rw[←h.2];exact Pur.refl _
   ·simp only[aA,aD] at h;rw[←h.2];exact Pur.mk1 _ _
   ·cases h
 ·cases h
theorem ext1_sound {fn:Func}{f:FuncId}{args:List SV}{σ σ':St}{sv:SV}(hf:P.funcs[f]? =some fn)(hb:fn.body=none)(ho:extOk fn=true)(h:ext1 fn.name args σ=some (sv,σ')){E:Env}{us:List Value}{w:World}
 (hH:Hold F N σ') (hd:denLV N E args=some us):∃u,(callFunc f us.toArray).run P w= .ok (.value u) w∧sv.den N E=some u:=by
 have ho : fn.origin = "" := eq_of_beq ho;unfold ext1 at h;split at h
 ·rename_i x y z;split at h
  ·rename_i a b c hxa hya hza;obtain ⟨u1,u2,u3,rfl,h1,h2,h3⟩:=denLV3 hd;have e1:=gV hxa h1;have e2:=gV hya h2;have e3:=gV hza h3;subst e1;subst e2;subst e3;split at h
   ·rename_i σ1 hs;simp only[aL] at hs;obtain ⟨σa,ha,σb,hbb,hc⟩:=hs;cases hn : (fn.name == "math/bits.Add64") with
    | true =>
     rw[hn] at h;simp only[aH,aA,extA,aD] at h;obtain ⟨rfl,rfl⟩:=h;have hn:=eq_of_beq hn;have hHm:=eT (Ext.mk1 _ _) hH;have hH1:=eT (Ext.mk1 _ _) hHm;have r3:=bit_holds hc hH1;have hHb:=eT (bit_pur hc).ext hH1;have r2:=u64_holds hbb hHb;have r1:=u64_holds ha (eT (u64_pur hbb).ext hHb);have n1:N.i σ1.nx=_:=hHm.mk1;have n2:N.i (σ1.nx+1)=_:=hH.mk1;refine ⟨Extern.MathBitsCarry.pair (((a.ev N).toNat+(b.ev N).toNat+(c.ev N).toNat)%Extern.MathBitsCarry.m64) (((a.ev N).toNat+(b.ev N).toNat+(c.ev N).toNat)/Extern.MathBitsCarry.m64),?_,?_⟩
     ·rw [show ([Value.int .u64 (a.ev N),Value.int .u64 (b.ev N),Value.int .u64 (c.ev N)]:List Value).toArray= #[.int .u64 (a.ev N),.int .u64 (b.ev N),.int .u64 (c.ev N)] from rfl,
       run_callFunc_extern hf (by rw[hn];kernel_rfl) (by rw[hb];rfl) (next_none hn ho (by kernel_rfl)) (e:=add64Entry) (find_some hn (by kernel_rfl) (by kernel_rfl) (by kernel_rfl)),run_add64' _ _ _ r3]
      rfl
     ·simp only[SV.den,denL1,V1.den,Sc.den,n1,n2,Nd.ev,Option.map_some,dY,Extern.MathBitsCarry.pair,m64_eq];congr 5
      split
      ·rw [show ((a.ev N).toNat+(b.ev N).toNat+(c.ev N).toNat)/18446744073709551616=1 by omega];rfl
      ·rw [show ((a.ev N).toNat+(b.ev N).toNat+(c.ev N).toNat)/18446744073709551616=0 by omega];rfl
    | false =>
     rw[hn] at h;simp only[aQ] at h;cases hn : (fn.name == "math/bits.Sub64") with
     | false=>rw[hn] at h;cases h
     | true =>
      rw[hn] at h;simp only[aH,aA,extS,aD] at h;obtain ⟨rfl,rfl⟩:=h;have hn:=eq_of_beq hn;have hHm:=eT (Ext.mk1 _ _) hH;have hH1:=eT (Ext.mk1 _ _) hHm;have r3:=bit_holds hc hH1;have hHb:=eT (bit_pur hc).ext hH1;have r2:=u64_holds hbb hHb;have r1:=u64_holds ha (eT (u64_pur hbb).ext hHb);have n1:N.i σ1.nx=_:=hHm.mk1;have n2:N.i (σ1.nx+1)=_:=hH.mk1;refine ⟨Extern.MathBitsCarry.pair (((a.ev N).toNat+Extern.MathBitsCarry.m64-(b.ev N).toNat-(c.ev N).toNat)%Extern.MathBitsCarry.m64) (if (a.ev N).toNat<(b.ev N).toNat+(c.ev N).toNat then 1 else 0),?_,?_⟩
      ·rw [show ([Value.int .u64 (a.ev N),Value.int .u64 (b.ev N),Value.int .u64 (c.ev N)]:List Value).toArray= #[.int .u64 (a.ev N),.int .u64 (b.ev N),.int .u64 (c.ev N)] from rfl,
        run_callFunc_extern hf (by rw[hn];kernel_rfl) (by rw[hb];rfl) (next_none hn ho (by kernel_rfl)) (e:=sub64Entry) (find_some hn (by kernel_rfl) (by kernel_rfl) (by kernel_rfl)),run_sub64' _ _ _ r3]
       rfl
      ·simp only[SV.den,denL1,V1.den,Sc.den,n1,n2,Nd.ev,Option.map_some,dY,Extern.MathBitsCarry.pair,m64_eq];congr 5
       split <;> rfl
   ·cases h
  ·cases h
 ·rename_i x;cases hn : (fn.name == "crypto/internal/constanttime.boolToUint8") with
  | false=>rw[hn] at h;cases h
  | true =>
   rw[hn] at h;simp only[aH] at h;have hn:=eq_of_beq hn;obtain ⟨u,r,hu,hr,rfl⟩:=denLV_cons.1 hd;simp only[denLV,aA] at hr;subst hr;have run:∀b:Bool,(callFunc f ([Value.bool b]:List Value).toArray).run P w= .ok (.value (.int .u8 (if b then 1 else 0))) w:=fun b=>by
    rw[show ([Value.bool b]:List Value).toArray= #[.bool b] from rfl,
     run_callFunc_extern hf (by rw[hn];kernel_rfl) (by rw[hb];rfl) (next_none hn ho (by kernel_rfl)) (e:=bool8Entry) (find_some hn (by kernel_rfl) (by kernel_rfl) (by kernel_rfl))]
    rfl
   split at h
   ·rename_i b;simp only[aA,aD] at h;obtain ⟨rfl,rfl⟩:=h;have:=kst_den hu;subst this;exact ⟨_,run b,by cases b <;> rfl⟩
   ·rename_i y;simp only[aA,aD] at h;obtain ⟨rfl,rfl⟩:=h;simp only[SV.den,V1.den,Sc.den,aA] at hu;subst hu;have n1:N.i σ.nx=_:=hH.mk1;refine ⟨_,run _,?_⟩;simp only[one,SV.den,V1.den,Sc.den,n1,Nd.ev,Ar.ev,icmp];cases hz:(N.i y==0) with
    | true=>simp[bne,hz]
    | false=>simp[bne,hz]
   ·cases h
 ·cases h
theorem trArgs_even:∀(l:List SV) (k:Nat) (t:Tr SV) (j:Nat),(trArgs k l t).get (2*j)=if k≤j∧j<k+l.length then l[j-k]? else t.get (2*j)
 | [],k,t,j=>by simp only[trArgs,dV];rw[bC (by omega)]
 | x::l,k,t,j=>by
  simp only[trArgs,trArgs_even l,bU,fA];by_cases h:j=k;·subst h;rw[bC (by omega),bG rfl,bG (by omega)];simp
  ·by_cases h2:k≤j∧j<k+(l.length+1)
   ·rw [bG h2,bG (by omega)];rw[show j-k=(j-(k+1))+1 by omega];rfl
   ·rw [bC h2,bC (by omega),bC (by omega)]
theorem trArgs_odd:∀(l:List SV) (k:Nat) (t:Tr SV) (j:Nat),(trArgs k l t).get (2*j+1)=t.get (2*j+1)
 | [],k,t,j=>rfl
 | x::l,k,t,j=>by simp only[trArgs,trArgs_odd l,fA];rw[bC (by omega)]
theorem denLV_get {E:Env}:∀ {l:List SV} {vs:List Value} {k:Nat} {x:SV},denLV N E l=some vs→l[k]? =some x→∃v,vs[k]? =some v∧x.den N E=some v
 | [],_,_,_,_,h=>by simp at h
 | y::l,vs,0,x,hd,h=>by obtain ⟨v,r,hv,hr,rfl⟩:=denLV_cons.1 hd;simp only[eG,aA] at h;subst h;exact ⟨v,rfl,hv⟩
 | y::l,vs,k+1,x,hd,h=>by obtain ⟨v,r,hv,hr,rfl⟩:=denLV_cons.1 hd;obtain ⟨u,h1,h2⟩:=denLV_get hr (by simpa using h);exact ⟨u,by simpa using h1,h2⟩
theorem denLV_length {E:Env}:∀ {l:List SV} {vs:List Value},denLV N E l=some vs→vs.length=l.length
 | [],_,e=>by simp only[denLV,aA] at e;subst e;rfl
 | x::l,vs,e=>by obtain ⟨v,r,_,hr,rfl⟩:=denLV_cons.1 e;simp[denLV_length hr]
theorem RA.enter {E:Env}{σ:St}{args:List SV}{us:List Value}{n:Nat}(hI:Inv E σ)(hd:denLV N E args=some us)(hn:args.length≤n) :
 RA N E n (trArgs 0 args σ.gl) {tmps:=us.toArray++Array.replicate (n-us.toArray.size) undef,defers:=[]}:=by
 have hl:=denLV_length hd;refine ⟨by simp;omega,rfl,fun t sv h=> ?_,fun g sv h=> ?_⟩
 ·rw [trArgs_even] at h;by_cases ht:0≤t∧t<0+args.length
  ·rw [bG ht] at h;obtain ⟨u,h1,h2⟩:=denLV_get hd (by simpa using h);refine ⟨by omega,u,?_,h2⟩;have:t<us.length:=by omega
   simp only[Array.getElem?_append,List.size_toArray,this,if_true];simpa using h1
  ·rw [bC ht] at h;have:=(hI.glob _ _ h).1;omega
 ·rw [trArgs_odd] at h;obtain ⟨_,b,c,rfl,hb⟩:=hI.glob _ _ h;rw[show (2*g+1)/2=g by omega] at hb;simp only[SV.den,V1.den];rw[ptr_mk hb (by simp[Ar.ev])];simp[Ar.ev]
def resF (tmps:Array Value):ResultVar→Sem Value
 | .tmp t=>pure (tmps.getD t undef)
 | .cell b t=>do loadVar t (←asAddr (tmps.getD b undef))
theorem asAddr_ptr (a:Addr):asAddr (.pointer (some a))=pure a:=rfl
theorem resS_pur {T:Tr SV}:∀ {l:List ResultVar} {vs:List V1} {σ σ':St},resS T P l σ=some (vs,σ')→Pur σ σ'
 | [],vs,σ,σ',h=>by simp only[resS,aA,aD] at h;rw[←h.2];exact Pur.refl _
 | .tmp t::l,vs,σ,σ',h=>by
  simp only[resS] at h;split at h
  ·split at h
   ·rename_i hr;simp only[aA,aD] at h;rw[←h.2];exact resS_pur hr
   ·cases h
  ·cases h
 | .cell b t::l,vs,σ,σ',h=>by
  simp only[resS] at h;split at h
  ·split at h
   ·split at h
    ·rename_i hl;split at h
     ·rename_i hr;simp only[aA,aD] at h;rw[←h.2];exact (loadN_pur hl).trans (resS_pur hr)
     ·cases h
    ·cases h
   ·split at h
    ·rename_i hl;split at h
     ·rename_i hr;simp only[aA,aD] at h;rw[←h.2];exact (load1_pur hl).trans (resS_pur hr)
     ·cases h
    ·cases h
   ·cases h
  ·cases h
theorem resS_run {E:Env}{n:Nat}{T:Tr SV}{a:Act}{w:World}(hA:RA N E n T a):∀ {l:List ResultVar} {vs:List V1} {σ σ':St},resS T P l σ=some (vs,σ')→Hold F N σ'→BW N E σ.bks w →
 ∃us,denL1 N E vs=some us∧(l.mapM (resF a.tmps)).run P w= .ok us w
 | [],vs,σ,σ',h,hH,hw=>by simp only[resS,aA,aD] at h;rw[←h.1];exact ⟨[],rfl,rfl⟩
 | .tmp t::l,vs,σ,σ',h,hH,hw=>by
  simp only[resS] at h;split at h
  ·rename_i v hv;split at h
   ·rename_i r σ1 hr;simp only[aA,aD] at h;obtain ⟨rfl,rfl⟩:=h;obtain ⟨us,h1,h2⟩:=resS_run hA hr hH hw;obtain ⟨_,u,h3,h4⟩:=hA.at' t _ hv;refine ⟨u::us,denL1_cons.2 ⟨u,us,h4,h1,rfl⟩,?_⟩;rw[List.mapM_cons];simp only[resF,bH,bY,aY,h2];simp[h3]
   ·cases h
  ·cases h
 | .cell b t::l,vs,σ,σ',h,hH,hw=>by
  simp only[resS] at h;split at h
  ·rename_i bl off hv;obtain ⟨_,u,h3,h4⟩:=hA.at' b _ hv;obtain ⟨q,s,c,hb,h0,rfl⟩:=ptr_den h4;have e0:((Ar.kst (Int.ofNat off)).ev N).toNat=off:=rfl;have hg:a.tmps.getD b undef= .pointer (some ⟨q,s+off,none⟩):=by rw[e0] at h3;simp[h3]
   split at h
   ·rename_i m ha hm;split at h
    ·rename_i l' σ1 hl';split at h
     ·rename_i r σ2 hr;simp only[aA,aD] at h;obtain ⟨rfl,rfl⟩:=h;obtain ⟨us,h1,h2⟩:=resS_run hA hr hH (by rw[(loadN_pur hl').bks];exact hw);obtain ⟨ws,k1,k2,k3⟩:=loadN_at hl' (eT (resS_pur hr).ext hH) hw hb;refine ⟨.agg ws.toArray::us,denL1_cons.2 ⟨_,us,by simp[V1.den,k1],h1,rfl⟩,?_⟩;rw[List.mapM_cons];simp only[resF,bH,hg,asAddr_ptr,bY,aY,run_loadVar_agg k3 ha hm k2,h2]
     ·cases h
    ·cases h
   ·rename_i ha;split at h
    ·rename_i x σ1 hx;split at h
     ·rename_i r σ2 hr;simp only[aA,aD] at h;obtain ⟨rfl,rfl⟩:=h;obtain ⟨us,h1,h2⟩:=resS_run hA hr hH (by rw[(load1_pur hx).bks];exact hw);obtain ⟨q',s',c',y,k1,hy,k3⟩:=load1_at hx (eT (resS_pur hr).ext hH) hw;rw[hb] at k1;simp only[aA,aD] at k1;obtain ⟨rfl,rfl,rfl⟩:=k1;rw[e0] at k3;refine ⟨y::us,denL1_cons.2 ⟨_,us,hy,h1,rfl⟩,?_⟩;rw[List.mapM_cons];simp only[resF,bH,hg,asAddr_ptr,bY,aY,run_loadVar_one ha k3,h2]
     ·cases h
    ·cases h
   ·cases h
  ·cases h
theorem resV_run {E:Env}{n:Nat}{T:Tr SV}{a:Act}{σ σ':St}{w:World}{fn:Func}{vs:List V1}(hA:RA N E n T a)(hw:BW N E σ.bks w)(h:resS T P fn.results.toList σ=some (vs,σ'))(hH:Hold F N σ') :
 ∃u,(resV vs).den N E=some u∧(results fn a.tmps).run P w= .ok u w:=by
 obtain ⟨us,h1,h2⟩:=resS_run hA h hH hw;have hl:us.length=vs.length:=by
  clear h h2
  induction vs generalizing us with
  | nil=>simp only[denL1,aA] at h1;subst h1;rfl
  | cons x l ih=>obtain ⟨v,r,_,hr,rfl⟩:=denL1_cons.1 h1;simp[ih _ hr]
 have hrun:(results fn a.tmps).run P w= .ok (if h:us.toArray.size=1 then us.toArray[0] else .tuple us.toArray) w:=by
  have e:results fn a.tmps=(do let vs ←fn.results.mapM (resF a.tmps);pure (if h:vs.size=1 then vs[0] else .tuple vs)):=by unfold results;congr 2
  rw[e,Array.mapM_eq_mapM_toList];simp only[bH,Sem.run_map];rw[h2];rfl
 rw[hrun];cases vs with
 | nil =>simp only[denL1,aA] at h1;subst h1;exact ⟨_,rfl,rfl⟩
 | cons x l =>
  cases l with
  | nil =>obtain ⟨v,r,hv,hr,rfl⟩:=denL1_cons.1 h1;simp only[denL1,aA] at hr;subst hr;exact ⟨v,hv,rfl⟩
  | cons y l =>refine ⟨.tuple us.toArray,by simp only[resV,SV.den,h1,Option.map_some],?_⟩;rw[dif_neg (by simp[hl])]
theorem call1_sound (hm:P.follows .mixedOrders=true){U:FuncId→Option (List SV→St→Option (SV×St))}(hU:CallOk F P (fun f args σ=>(U f).bind fun c=>c args σ)):∀(d fuel:Nat),CallOk F P (call1 P U d fuel)
 | 0,fuel=>fun f args σ sv σ' h=>by simp[call1] at h
 | d+1,fuel=>fun f args σ sv σ' h=>by
  simp only[call1] at h;split at h
  ·rename_i c hc;exact hU f args σ sv σ' (by simp only[hc,dY];exact h)
  split at h;·cases h
  ·rename_i fn hf;split at h
   ·rename_i hb;cases ho:extOk fn with
    | false=>rw[ho] at h;cases h
    | true =>rw[ho] at h;refine ⟨(ext1_pur h).ext,fun N E us w hH hI hw hd=> ?_⟩;obtain ⟨u,h1,h2⟩:=ext1_sound hf hb ho h hH hd;exact .inl ⟨E,u,h1,fD (ext1_pur h) hI hw,h2⟩
   ·rename_i body hb;cases hle : (Nat.ble args.length fn.ntmps && !(fn.name == "runtime.NumGoroutine")) with
    | false=>rw[hle] at h;cases h
    | true =>
     rw[hle] at h;simp only[aH] at h;simp only[aG,Bool.not_eq_true'] at hle;obtain ⟨hle,hnm⟩:=hle;split at h;·cases h
     ·rename_i ex T1 σ1 hne hrun;split at h
      ·rename_i vs σ2 hvs;simp only[aA,aD] at h;obtain ⟨rfl,rfl⟩:=h;refine ⟨(run_ext (call1_sound hm hU d fuel) fuel hrun).trans (resS_pur hvs).ext,fun N E us w hH hI hw hd=> .inr ⟨?_,?_⟩⟩
       ·have h1 : fn.name ≠ "runtime.NumGoroutine" := by simpa using hnm
        simp[callFunc,hf,h1,hb]
       ·refine calls_of_wp hf hb ?_;have:=RA.enter hI hd (aM hle);refine (run_sound (n:=fn.ntmps) hm (call1_sound hm hU d fuel) fuel).1 hrun (eT (resS_pur hvs).ext hH) this hI hw fun E1 a1 w1 hA1 hp1=> ?_
        obtain ⟨u,hu,hres⟩:=resV_run hA1 hp1.bw hvs hH;have hp2:Post N E σ w N E1 σ2 w1:=hp1.trans (fD (resS_pur hvs) hp1.inv hp1.bw);cases ex with
        | normal=>exact ⟨hA1.defers,u,hres,E1,u,rfl,hp2,hu⟩
        | ret=>exact ⟨hA1.defers,u,hres,E1,u,rfl,hp2,hu⟩
        | exit id=>exact (hne _ rfl).elim
      ·cases h
     ·cases h
end
section
variable {P:Program} {F:Fns} {call:FuncId→List SV→St→Option (SV×St)} {N:Num} {n:Nat}
def wpK (P:Program):List Kt→(Exit→Act→World→Prop)→Exit→Act→World→Prop
 | [],Q,e,a,w=>Q e a w
 | .seq c::ks,Q,e,a,w=>Exit.then (c.wp P (wpK P ks Q)) (wpK P ks Q) e a w
 | .block id::ks,Q,e,a,w=>Exit.inBlock id (wpK P ks Q) e a w
def outK (P:Program)(Q:Exit→Act→World→Prop):Out→Act→World→Prop
 | .done e,a,w=>Q e.den a w
 | .at b ks,a,w=>b.wp P (wpK P ks Q) a w
theorem unw_done {Q:Exit→Act→World→Prop}{a:Act}{w:World}:∀ {ks:List Kt} {e e':Ex},unw ks e= .inl e'→Q e'.den a w→wpK P ks Q e.den a w
 | [],e,e',h,hq=>by simp only[unw,Sum.inl.injEq] at h;subst h;exact hq
 | .seq c::ks,e,e',h,hq=>by
  cases e with
  | normal=>simp only[unw,reduceCtorEq] at h
  | exit id=>simp only[unw] at h;exact unw_done (ks:=ks) (e:= .exit id) h hq
  | ret=>simp only[unw] at h;exact unw_done (ks:=ks) (e:= .ret) h hq
 | .block id::ks,e,e',h,hq=>by
  cases e with
  | normal=>simp only[unw] at h;exact unw_done (ks:=ks) (e:= .normal) h hq
  | ret=>simp only[unw] at h;exact unw_done (ks:=ks) (e:= .ret) h hq
  | exit j =>
   simp only[unw] at h;cases hj:Nat.beq j id with
   | true =>rw[hj] at h;simp only[wpK,Ex.den,Exit.inBlock];rw[bG (aF hj)];exact unw_done (ks:=ks) (e:= .normal) h hq
   | false =>rw[hj] at h;simp only[wpK,Ex.den,Exit.inBlock];rw[bC (fun e=>by rw[fY e] at hj;cases hj)];exact unw_done (ks:=ks) (e:= .exit j) h hq
theorem unw_more {Q:Exit→Act→World→Prop}{a:Act}{w:World}:∀ {ks ks':List Kt} {e:Ex} {c:Code},unw ks e= .inr (c,ks')→c.wp P (wpK P ks' Q) a w→wpK P ks Q e.den a w
 | [],ks',e,c,h,hq=>by simp only[unw,reduceCtorEq] at h
 | .seq c'::ks,ks',e,c,h,hq=>by
  cases e with
  | normal=>simp only[unw,Sum.inr.injEq,aD] at h;obtain ⟨rfl,rfl⟩:=h;exact hq
  | exit id=>simp only[unw] at h;exact unw_more (ks:=ks) (e:= .exit id) h hq
  | ret=>simp only[unw] at h;exact unw_more (ks:=ks) (e:= .ret) h hq
 | .block id::ks,ks',e,c,h,hq=>by
  cases e with
  | normal=>simp only[unw] at h;exact unw_more (ks:=ks) (e:= .normal) h hq
  | ret=>simp only[unw] at h;exact unw_more (ks:=ks) (e:= .ret) h hq
  | exit j =>
   simp only[unw] at h;cases hj:Nat.beq j id with
   | true =>rw[hj] at h;simp only[wpK,Ex.den,Exit.inBlock];rw[bG (aF hj)];exact unw_more (ks:=ks) (e:= .normal) h hq
   | false =>rw[hj] at h;simp only[wpK,Ex.den,Exit.inBlock];rw[bC (fun e=>by rw[fY e] at hj;cases hj)];exact unw_more (ks:=ks) (e:= .exit j) h hq
theorem runK_ext (hcall:CallOk F P call){stops:List Nat}{fuel:Nat}:∀(f:Nat) {c:Code} {ks:List Kt} {T T':Tr SV} {σ σ':St} {out:Out},runK P call stops n f fuel c ks T σ=some (out,T',σ')→Ext σ σ'
 | 0,c,ks,T,T',σ,σ',out,h=>by simp[runK] at h
 | f+1,c,ks,T,T',σ,σ',out,h=>by
  have ih:= @runK_ext hcall stops fuel f;have base:(match run P fuel call n c T σ with
   | some (e,T,σ)=>match unw ks e with
    | .inl e=>some (Out.done e,T,σ)
    | .inr (c,ks)=>runK P call stops n f fuel c ks T σ
   | none=>none)=some (out,T',σ')→Ext σ σ':=fun h=>by
   split at h
   ·rename_i hr;split at h
    ·simp only[aA,aD] at h;rw[←h.2.2];exact run_ext hcall _ hr
    ·exact (run_ext hcall _ hr).trans (ih h)
   ·cases h
  cases c with
  | seq a b=>exact ih h
  | block id b=>exact ih h
  | cond x a b =>
   simp only[runK] at h;split at h
   ·split at h;·rename_i h1;exact (test_pur h1).ext.trans (ih h)
    ·cases h
   ·cases h
  | loop b =>
   simp only[runK] at h;cases hs:isStop stops b with
   | true =>rw[hs] at h;simp only[aH,aA,aD] at h;rw[←h.2.2];exact Ext.refl _
   | false=>rw[hs] at h;exact base h
  | skip=>exact base h
  | region id ops d=>exact base h
  | exit id=>exact base h
  | ret=>exact base h
  | rangeFunc f ps az b=>exact base h
  | scope b=>exact base h
  | label l=>exact base h
  | goto l=>exact base h
  | refuse s=>exact base h
theorem gL (hm:P.follows .mixedOrders=true)(hcall:CallOk F P call){stops:List Nat}{fuel:Nat}{Q:Exit→Act→World→Prop}:∀(f:Nat) {c:Code} {ks:List Kt} {T T':Tr SV} {σ σ':St} {out:Out} {E:Env} {a:Act} {w:World},
 runK P call stops n f fuel c ks T σ=some (out,T',σ')→Hold F N σ'→RA N E n T a→Inv E σ→BW N E σ.bks w →
 (∀ E' a' w',RA N E' n T' a'→Post N E σ w N E' σ' w'→outK P Q out a' w')→c.wp P (wpK P ks Q) a w
 | 0,c,ks,T,T',σ,σ',out,E,a,w,h,_,_,_,_,_=>by simp[runK] at h
 | f+1,c,ks,T,T',σ,σ',out,E,a,w,h,hH,hA,hI,hw,hQ=>by
  have base:(match run P fuel call n c T σ with
   | some (e,T,σ)=>match unw ks e with
    | .inl e=>some (Out.done e,T,σ)
    | .inr (c,ks)=>runK P call stops n f fuel c ks T σ
   | none=>none)=some (out,T',σ')→c.wp P (wpK P ks Q) a w:=fun h=>by
   split at h
   ·rename_i e T1 σ1 hr;split at h
    ·rename_i e' hu;simp only[aA,aD] at h;obtain ⟨rfl,rfl,rfl⟩:=h;exact (run_sound hm hcall fuel).1 hr hH hA hI hw fun E1 a1 w1 hA1 hp1=>unw_done hu (hQ E1 a1 w1 hA1 hp1)
    ·rename_i c' ks' hu;refine (run_sound hm hcall fuel).1 hr (eT (runK_ext hcall f h) hH) hA hI hw fun E1 a1 w1 hA1 hp1=>unw_more hu ?_
     exact gL hm hcall f h hH hA1 hp1.inv hp1.bw fun E2 a2 w2 hA2 hp2=>hQ E2 a2 w2 hA2 (hp1.trans hp2)
   ·cases h
  cases c with
  | seq x y =>apply wp_seq;exact gL hm hcall f (ks:= .seq y::ks) h hH hA hI hw hQ
  | block id b =>apply wp_block;exact gL hm hcall f (ks:= .block id::ks) h hH hA hI hw hQ
  | cond x t e =>
   simp only[runK] at h;split at h
   ·rename_i y hy;split at h
    ·rename_i b σ1 h1;have hH1:=eT (runK_ext hcall f h) hH;refine wp_cond (test_holds (E:=E) h1 hH1 (eW hA hy)) ?_;have:(if b=true then t else e)=(bif b then t else e):=by cases b <;> rfl
     rw[this];have hp:Post N E σ w N E σ1 w:=fD (test_pur h1) hI hw;exact gL hm hcall f h hH hA hp.inv hp.bw fun E1 a1 w1 hA1 hp1=>hQ E1 a1 w1 hA1 (hp.trans hp1)
    ·cases h
   ·cases h
  | loop b =>
   simp only[runK] at h;cases hs:isStop stops b with
   | true =>rw[hs] at h;simp only[aH,aA,aD] at h;obtain ⟨rfl,rfl,rfl⟩:=h;exact hQ E a w hA (Post.refl hI hw)
   | false=>rw[hs] at h;exact base h
  | skip=>exact base h
  | region id ops d=>exact base h
  | exit id=>exact base h
  | ret=>exact base h
  | rangeFunc f ps az b=>exact base h
  | scope b=>exact base h
  | label l=>exact base h
  | goto l=>exact base h
  | refuse s=>exact base h
end
structure Agr (nx na:Nat) (N N':Num):Prop where
 f:N'.f=N.f
 i:∀x,x<nx→N'.i x=N.i x
 a:∀A,A<na→N'.a A=N.a A
theorem Agr.refl (nx na:Nat)(N:Num):Agr nx na N N:=⟨rfl,fun _ _=>rfl,fun _ _=>rfl⟩
theorem Agr.trans {nx na:Nat}{N N1 N2:Num}(h:Agr nx na N N1)(k:Agr nx na N1 N2):Agr nx na N N2 :=
 ⟨k.f.trans h.f,fun x hx=>(k.i x hx).trans (h.i x hx),fun A hA=>(k.a A hA).trans (h.a A hA)⟩
theorem Agr.mono {nx na nx' na':Nat}{N N':Num}(h:Agr nx na N N')(h1:nx'≤nx)(h2:na'≤na):Agr nx' na' N N' :=
 ⟨h.f,fun x hx=>h.i x (dN hx h1),fun A hA=>h.a A (dN hA h2)⟩
def Ar.ok (nx:Nat):Ar→Bool
 | .var x=>Nat.blt x nx
 | .kst _=>true
def Ar.okO (nx:Nat):Option Ar→Bool
 | none=>true
 | some a=>a.ok nx
def Sc.ok (nx:Nat):Sc→Bool
 | .num _ x | .boo x=>Nat.blt x nx
 | .ptr _ off=>off.ok nx
 | .ifp _ _ off=>off.ok nx
 | .clo _ _=>false
 | .sl _ off len cap=>off.ok nx&&len.ok nx&&Ar.okO nx cap
 | .str _=>false
 | _=>true
def V1.ok (nx:Nat):V1→Bool
 | .sc x=>x.ok nx
 | .agg l=>l.all (·.ok nx)
def SV.ok (nx:Nat):SV→Bool
 | .one x=>x.ok nx
 | .tup l=>l.all (·.ok nx)
def Tr.allB {α:Type}(p:α→Bool):Tr α→Bool
 | .nil=>true
 | .node v l r=>(match v with | some x=>p x | none=>true)&&l.allB p&&r.allB p
theorem Tr.allB_get {α:Type}{p:α→Bool}:∀ {t:Tr α} {k:Nat} {x:α},t.allB p=true→t.get k=some x→p x=true
 | .nil,k,x,_,h=>by cases h
 | .node v l r,k,x,ha,h=>by
  simp only[Tr.allB,aG] at ha;obtain ⟨⟨h1,h2⟩,h3⟩:=ha;simp only[Tr.get] at h;cases h0:Nat.beq k 0 with
  | true =>rw[h0] at h;simp only[aH] at h;subst h;exact h1
  | false =>
   rw[h0] at h;simp only[aQ] at h;cases h1':Nat.beq (k%2) 1 with
   | true=>rw[h1'] at h;exact Tr.allB_get h2 h
   | false=>rw[h1'] at h;exact Tr.allB_get h3 h
def Bk.ok (nx na:Nat)(B:Bk):Bool :=
 match B.arr with
 | none=>B.cells.allB (·.ok nx)
 | some (_,A,_)=>Nat.blt A na
section
variable {nx na:Nat} {N N':Num} {E:Env}
theorem Ar.ev_agr (h:Agr nx na N N'){a:Ar}(ha:a.ok nx=true):a.ev N'=a.ev N:=by
 cases a with
 | var x=>exact h.i x (bX.mp ha)
 | kst n=>rfl
theorem Sc.den_agr (h:Agr nx na N N'){x:Sc}(hx:x.ok nx=true):x.den N' E=x.den N E:=by
 cases x with
 | kst v=>rfl
 | num k x=>simp only[Sc.den,h.i x (bX.mp hx)]
 | boo x=>simp only[Sc.den,h.i x (bX.mp hx)]
 | opq j=>rfl
 | str A=>cases hx
 | ptr b off=>simp only[Sc.den,Ar.ev_agr h hx]
 | ifp t b off=>simp only[Sc.den,Ar.ev_agr h hx]
 | clo f l=>cases hx
 | sl b off len cap =>
  simp only[Sc.ok,aG] at hx;simp only[Sc.den,Ar.ev_agr h hx.1.1,Ar.ev_agr h hx.1.2];cases cap with
  | none=>rfl
  | some c=>simp only[Ar.ev_agr h (show c.ok nx=true from hx.2)]
 | emp j=>rfl
 | nni j=>rfl
theorem denL_agr (h:Agr nx na N N'):∀ {l:List Sc},l.all (·.ok nx)=true→denL N' E l=denL N E l
 | [],_=>rfl
 | x::l,hl=>by simp only[List.all_cons,aG] at hl;simp only[denL,Sc.den_agr h hl.1,denL_agr h hl.2]
theorem V1.den_agr (h:Agr nx na N N'){x:V1}(hx:x.ok nx=true):x.den N' E=x.den N E:=by
 cases x with
 | sc x=>exact Sc.den_agr h hx
 | agg l=>simp only[V1.den,denL_agr h (show l.all (·.ok nx)=true from hx)]
theorem denL1_agr (h:Agr nx na N N'):∀ {l:List V1},l.all (·.ok nx)=true→denL1 N' E l=denL1 N E l
 | [],_=>rfl
 | x::l,hl=>by simp only[List.all_cons,aG] at hl;simp only[denL1,V1.den_agr h hl.1,denL1_agr h hl.2]
theorem SV.den_agr (h:Agr nx na N N'){x:SV}(hx:x.ok nx=true):x.den N' E=x.den N E:=by
 cases x with
 | one x=>exact V1.den_agr h hx
 | tup l=>simp only[SV.den,denL1_agr h (show l.all (·.ok nx)=true from hx)]
theorem RA.agr (h:Agr nx na N N'){n:Nat}{T:Tr SV}{a:Act}(hT:T.allB (·.ok nx)=true)(r:RA N E n T a):RA N' E n T a:=by
 refine ⟨r.size,r.defers,fun t sv e=> ?_,fun g sv e=> ?_⟩
 ·obtain ⟨h1,u,h2,h3⟩:=r.at' t sv e;exact ⟨h1,u,h2,by rw[SV.den_agr h (Tr.allB_get (p:=(·.ok nx)) hT e)];exact h3⟩
 ·rw [SV.den_agr h (Tr.allB_get (p:=(·.ok nx)) hT e)];exact r.gl g sv e
theorem Bk.wid_agr (h:Agr nx na N N'){B:Bk}(hB:B.ok nx na=true)(c:Nat):B.wid N' c=B.wid N c:=by
 unfold Bk.ok at hB;unfold Bk.wid;split at hB;·rename_i hg;simp only[hg]
 ·rename_i k A g hg;simp only[hg,h.a A (bX.mp hB)]
theorem Bk.cont_agr (h:Agr nx na N N'){B:Bk}(hB:B.ok nx na=true){s c:Nat}{arr:Array Value}(hc:B.cont N E s c arr):B.cont N' E s c arr:=by
 unfold Bk.ok at hB;unfold Bk.cont at hc ⊢;split at hB
 ·rename_i hg;simp only[hg] at hc ⊢;intro j sc e;obtain ⟨h1,u,h2,h3⟩:=hc j sc e;exact ⟨h1,u,h2,by rw[Sc.den_agr h (Tr.allB_get (p:=(·.ok nx)) hB e)];exact h3⟩
 ·rename_i k A g hg;simp only[hg,h.a A (bX.mp hB)] at hc ⊢;exact hc
theorem BW.agr (h:Agr nx na N N'){bks:Tr Bk}(hB:bks.allB (·.ok nx na)=true){w:World}(k:BW N E bks w):BW N' E bks w:=by
 refine ⟨fun i B e=> ?_,fun i i' B B' q s s' c c' h1 h2 h3 h4 h5 h6=> ?_⟩
 ·obtain ⟨q,s,c,arr,el,fz,g1,g2,g3,g4,g5⟩:=k.at' i B e;have hb:=Tr.allB_get (p:=(·.ok nx na)) hB e;exact ⟨q,s,c,arr,el,fz,g1,g2,g3,by rw[Bk.wid_agr h hb];exact g4,Bk.cont_agr h hb g5⟩
 ·rw [Bk.wid_agr h (Tr.allB_get (p:=(·.ok nx na)) hB h1),Bk.wid_agr h (Tr.allB_get (p:=(·.ok nx na)) hB h2)];exact k.apart i i' B B' q s s' c c' h1 h2 h3 h4 h5 h6
end
def Nd.ok (nx na:Nat):Nd→Bool
 | .bin _ _ a b=>a.ok nx&&b.ok nx
 | .conv _ a=>a.ok nx
 | .cmp _ a b=>a.ok nx&&b.ok nx
 | .addS a b c | .addC a b c | .subS a b c | .subC a b c=>a.ok nx&&b.ok nx&&c.ok nx
 | .lin a b _=>a.ok nx&&b.ok nx
 | .mn a b=>a.ok nx&&b.ok nx
 | .rd A x=>Nat.blt A na&&x.ok nx
 | .sel l x=>l.all (·.ok nx)&&x.ok nx
 | .len A=>Nat.blt A na
 | .fn _ is az _=>is.all (·.ok nx)&&az.all (Nat.blt · na)
 | .seq A B=>Nat.blt A na&&Nat.blt B na
 | .leq A B=>Nat.blt A na&&Nat.blt B na
def Ad.ok (nx na:Nat):Ad→Bool
 | .lit l=>l.all (·.ok nx)
 | .set A x v=>Nat.blt A na&&x.ok nx&&v.ok nx
 | .sub A off n=>Nat.blt A na&&off.ok nx&&n.ok nx
 | .cat A B=>Nat.blt A na&&Nat.blt B na
 | .rep n v=>n.ok nx&&v.ok nx
 | .cpy A off B=>Nat.blt A na&&off.ok nx&&Nat.blt B na
 | .fn _ is az=>is.all (·.ok nx)&&az.all (Nat.blt · na)
section
variable {nx na:Nat} {N N':Num}
theorem mapEv_agr (h:Agr nx na N N'):∀ {l:List Ar},l.all (·.ok nx)=true→l.map (·.ev N')=l.map (·.ev N)
 | [],_=>rfl
 | x::l,hl=>by simp only[List.all_cons,aG] at hl;simp only[aI,Ar.ev_agr h hl.1,mapEv_agr h hl.2]
theorem mapA_agr (h:Agr nx na N N'):∀ {l:List Nat},l.all (Nat.blt · na)=true→l.map N'.a=l.map N.a
 | [],_=>rfl
 | x::l,hl=>by simp only[List.all_cons,aG] at hl;simp only[aI,h.a x (bX.mp hl.1),mapA_agr h hl.2]
theorem Nd.ev_agr (h:Agr nx na N N'){d:Nd}(hd:d.ok nx na=true):d.ev N'=d.ev N:=by
 cases d <;> simp only[Nd.ok,aG] at hd <;> simp only[Nd.ev]
 case bin=>rw[Ar.ev_agr h hd.1,Ar.ev_agr h hd.2]
 case conv=>rw[Ar.ev_agr h hd]
 case cmp=>rw[Ar.ev_agr h hd.1,Ar.ev_agr h hd.2]
 case addS=>rw[Ar.ev_agr h hd.1.1,Ar.ev_agr h hd.1.2,Ar.ev_agr h hd.2]
 case addC=>rw[Ar.ev_agr h hd.1.1,Ar.ev_agr h hd.1.2,Ar.ev_agr h hd.2]
 case subS=>rw[Ar.ev_agr h hd.1.1,Ar.ev_agr h hd.1.2,Ar.ev_agr h hd.2]
 case subC=>rw[Ar.ev_agr h hd.1.1,Ar.ev_agr h hd.1.2,Ar.ev_agr h hd.2]
 case lin=>rw[Ar.ev_agr h hd.1,Ar.ev_agr h hd.2]
 case mn=>rw[Ar.ev_agr h hd.1,Ar.ev_agr h hd.2]
 case rd A x=>rw[h.a A (bX.mp hd.1),Ar.ev_agr h hd.2]
 case sel=>rw[mapEv_agr h hd.1,Ar.ev_agr h hd.2]
 case len A=>rw[h.a A (bX.mp hd)]
 case fn=>rw[h.f,mapEv_agr h hd.1,mapA_agr h hd.2]
 case seq A B=>rw[h.a A (bX.mp hd.1),h.a B (bX.mp hd.2)]
 case leq A B=>rw[h.a A (bX.mp hd.1),h.a B (bX.mp hd.2)]
theorem Ad.ev_agr (h:Agr nx na N N'){d:Ad}(hd:d.ok nx na=true):d.ev N'=d.ev N:=by
 cases d <;> simp only[Ad.ok,aG] at hd <;> simp only[Ad.ev]
 case lit=>rw[mapEv_agr h hd]
 case set A x v=>rw[h.a A (bX.mp hd.1.1),Ar.ev_agr h hd.1.2,Ar.ev_agr h hd.2]
 case sub A x v=>rw[h.a A (bX.mp hd.1.1),Ar.ev_agr h hd.1.2,Ar.ev_agr h hd.2]
 case cat A B=>rw[h.a A (bX.mp hd.1),h.a B (bX.mp hd.2)]
 case rep=>rw[Ar.ev_agr h hd.1,Ar.ev_agr h hd.2]
 case cpy A off B=>rw[h.a A (bX.mp hd.1.1),Ar.ev_agr h hd.1.2,h.a B (bX.mp hd.2)]
 case fn=>rw[h.f,mapEv_agr h hd.1,mapA_agr h hd.2]
end
def ordOk (nx na:Nat):List Df→Option (Nat×Nat)
 | []=>some (nx,na)
 | .n x nd::ds=>match ordOk nx na ds with
  | some (mx,ma)=>bif Nat.beq x mx&&nd.ok mx ma then some (mx+1,ma) else none
  | none=>none
 | .a A ad::ds=>match ordOk nx na ds with
  | some (mx,ma)=>bif Nat.beq A ma&&ad.ok mx ma then some (mx,ma+1) else none
  | none=>none
def ext (N:Num):List Df→Num
 | []=>N
 | .n x nd::ds=>{ext N ds with i:=fun y=>if y=x then nd.ev (ext N ds) else (ext N ds).i y}
 | .a A ad::ds=>{ext N ds with a:=fun y=>if y=A then ad.ev (ext N ds) else (ext N ds).a y}
theorem Df.sat_agr {nx na:Nat}{N N':Num}(h:Agr nx na N N'):∀ {d:Df},d.sat N→(match d with | .n x nd=>x<nx∧nd.ok nx na=true | .a A ad=>A<na∧ad.ok nx na=true)→d.sat N'
 | .n x nd,hs,hd=>by simp only[Df.sat] at hs ⊢;rw[h.i x hd.1,Nd.ev_agr h hd.2];exact hs
 | .a A ad,hs,hd=>by simp only[Df.sat] at hs ⊢;rw[h.a A hd.1,Ad.ev_agr h hd.2];exact hs
theorem Ar.ok_mono {nx nx':Nat}(h:nx≤nx'){a:Ar}(ha:a.ok nx=true):a.ok nx'=true:=by
 cases a with
 | var x=>exact bX.mpr (dN (bX.mp ha) h)
 | kst n=>rfl
theorem blt_mono {a n m:Nat}(h:n≤m)(ha:Nat.blt a n=true):Nat.blt a m=true:=bX.mpr (dN (bX.mp ha) h)
theorem allAr_mono {nx nx':Nat}(h:nx≤nx'){l:List Ar}(hl:l.all (·.ok nx)=true):l.all (·.ok nx')=true:=by
 simp only[bT] at hl ⊢;exact fun x hx=>Ar.ok_mono h (hl x hx)
theorem allA_mono {na na':Nat}(h:na≤na'){l:List Nat}(hl:l.all (Nat.blt · na)=true):l.all (Nat.blt · na')=true:=by
 simp only[bT] at hl ⊢;exact fun x hx=>blt_mono h (hl x hx)
theorem Nd.ok_mono {nx na nx' na':Nat}(h:nx≤nx')(k:na≤na'){d:Nd}(hd:d.ok nx na=true):d.ok nx' na'=true:=by
 cases d <;> simp only[Nd.ok,aG] at hd ⊢
 case bin=>exact ⟨Ar.ok_mono h hd.1,Ar.ok_mono h hd.2⟩
 case conv=>exact Ar.ok_mono h hd
 case cmp=>exact ⟨Ar.ok_mono h hd.1,Ar.ok_mono h hd.2⟩
 case addS=>exact ⟨⟨Ar.ok_mono h hd.1.1,Ar.ok_mono h hd.1.2⟩,Ar.ok_mono h hd.2⟩
 case addC=>exact ⟨⟨Ar.ok_mono h hd.1.1,Ar.ok_mono h hd.1.2⟩,Ar.ok_mono h hd.2⟩
 case subS=>exact ⟨⟨Ar.ok_mono h hd.1.1,Ar.ok_mono h hd.1.2⟩,Ar.ok_mono h hd.2⟩
 case subC=>exact ⟨⟨Ar.ok_mono h hd.1.1,Ar.ok_mono h hd.1.2⟩,Ar.ok_mono h hd.2⟩
 case lin=>exact ⟨Ar.ok_mono h hd.1,Ar.ok_mono h hd.2⟩
 case mn=>exact ⟨Ar.ok_mono h hd.1,Ar.ok_mono h hd.2⟩
 case rd=>exact ⟨blt_mono k hd.1,Ar.ok_mono h hd.2⟩
 case sel=>exact ⟨allAr_mono h hd.1,Ar.ok_mono h hd.2⟩
 case len=>exact blt_mono k hd
 case fn=>exact ⟨allAr_mono h hd.1,allA_mono k hd.2⟩
 case seq=>exact ⟨blt_mono k hd.1,blt_mono k hd.2⟩
 case leq=>exact ⟨blt_mono k hd.1,blt_mono k hd.2⟩
theorem Ad.ok_mono {nx na nx' na':Nat}(h:nx≤nx')(k:na≤na'){d:Ad}(hd:d.ok nx na=true):d.ok nx' na'=true:=by
 cases d <;> simp only[Ad.ok,aG] at hd ⊢
 case lit=>exact allAr_mono h hd
 case set=>exact ⟨⟨blt_mono k hd.1.1,Ar.ok_mono h hd.1.2⟩,Ar.ok_mono h hd.2⟩
 case sub=>exact ⟨⟨blt_mono k hd.1.1,Ar.ok_mono h hd.1.2⟩,Ar.ok_mono h hd.2⟩
 case cat=>exact ⟨blt_mono k hd.1,blt_mono k hd.2⟩
 case rep=>exact ⟨Ar.ok_mono h hd.1,Ar.ok_mono h hd.2⟩
 case cpy=>exact ⟨⟨blt_mono k hd.1.1,Ar.ok_mono h hd.1.2⟩,blt_mono k hd.2⟩
 case fn=>exact ⟨allAr_mono h hd.1,allA_mono k hd.2⟩
theorem ext_spec {N:Num}{nx na:Nat}:∀ {ds:List Df} {mx ma:Nat},ordOk nx na ds=some (mx,ma) →
 nx≤mx∧na≤ma∧Agr nx na N (ext N ds)∧(∀ d∈ds,d.sat (ext N ds))∧∀d∈ds,(match d with | .n x nd=>x<mx∧nd.ok mx ma=true | .a A ad=>A<ma∧ad.ok mx ma=true)
 | [],mx,ma,h=>by simp only[ordOk,aA,aD] at h;obtain ⟨rfl,rfl⟩:=h;exact ⟨aS _,aS _,Agr.refl _ _ _,fun d hd=>(by cases hd),fun d hd=>(by cases hd)⟩
 | .n x nd::ds,mx,ma,h=>by
  simp only[ordOk] at h;split at h
  ·rename_i lx la hl;cases hb:(Nat.beq x lx&&nd.ok lx la) with
   | false=>rw[hb] at h;cases h
   | true =>
    rw[hb] at h;simp only[aH,aA,aD] at h;obtain ⟨rfl,rfl⟩:=h;simp only[aG] at hb;have hx:=aF hb.1;subst hx;obtain ⟨h1,h2,h3,h4,h5⟩:=ext_spec (N:=N) hl;have ha:Agr x la (ext N ds) (ext N (.n x nd::ds)):=⟨rfl,fun y hy=>by simp only[ext];rw[bC (by omega)],fun _ _=>rfl⟩
    refine ⟨by omega,h2,h3.trans (ha.mono h1 h2),fun d hd=> ?_,fun d hd=> ?_⟩
    ·cases hd with
     | head =>simp only[Df.sat];rw[Nd.ev_agr ha hb.2];simp only[ext,if_true]
     | tail _ hd=>exact Df.sat_agr ha (h4 d hd) (h5 d hd)
    ·cases hd with
     | head=>exact ⟨Nat.lt_succ_self _,Nd.ok_mono (Nat.le_succ _) (aS _) hb.2⟩
     | tail _ hd =>
      have:=h5 d hd;cases d with
      | n y nd'=>exact ⟨Nat.lt_succ_of_lt this.1,Nd.ok_mono (Nat.le_succ _) (aS _) this.2⟩
      | a A ad=>exact ⟨this.1,Ad.ok_mono (Nat.le_succ _) (aS _) this.2⟩
  ·cases h
 | .a A ad::ds,mx,ma,h=>by
  simp only[ordOk] at h;split at h
  ·rename_i lx la hl;cases hb:(Nat.beq A la&&ad.ok lx la) with
   | false=>rw[hb] at h;cases h
   | true =>
    rw[hb] at h;simp only[aH,aA,aD] at h;obtain ⟨rfl,rfl⟩:=h;simp only[aG] at hb;have hx:=aF hb.1;subst hx;obtain ⟨h1,h2,h3,h4,h5⟩:=ext_spec (N:=N) hl;have ha:Agr lx A (ext N ds) (ext N (.a A ad::ds)):=⟨rfl,fun _ _=>rfl,fun y hy=>by simp only[ext];rw[bC (by omega)]⟩
    refine ⟨h1,by omega,h3.trans (ha.mono h1 h2),fun d hd=> ?_,fun d hd=> ?_⟩
    ·cases hd with
     | head =>simp only[Df.sat];rw[Ad.ev_agr ha hb.2];simp only[ext,if_true]
     | tail _ hd=>exact Df.sat_agr ha (h4 d hd) (h5 d hd)
    ·cases hd with
     | head=>exact ⟨Nat.lt_succ_self _,Ad.ok_mono (aS _) (Nat.le_succ _) hb.2⟩
     | tail _ hd =>
      have:=h5 d hd;cases d with
      | n y nd'=>exact ⟨this.1,Nd.ok_mono (aS _) (Nat.le_succ _) this.2⟩
      | a A' ad'=>exact ⟨Nat.lt_succ_of_lt this.1,Ad.ok_mono (aS _) (Nat.le_succ _) this.2⟩
  ·cases h
end Go.Sy
