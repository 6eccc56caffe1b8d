/- The contracts of the functions. Numbers: what the operations on unsigned words come to. The program's functions by number, what is common. The contracts of secretbox.Open and of what is above it. Rows of definitions, written short. Products of 64 bits. Facts of runs: small functions of Poly1305. Small functions of Poly1305: eight bytes as a word, sums and shifts of 128 bits. -/
import Derived.Test.YtlcljhlijmombaaSy11
import Derived.Test.YtlcljhlijmombaaProg
import Derived.KernelRfl
namespace Go.Proofs.Ytlcljhlijmombaa
open Go.Sy
def ct53:Ct:={ps:=[.int .u64,.int .u64],res:=[.agg .u64 2],p:=53,fi:=53,fw:=0,fs:=0}
def ct49:Ct:={ps:=[.ptr .u64 7 true,.sl .u8 false none],res:=[],p:=49,fi:=0,fw:=49,fs:=0}
def ct48:Ct:={ps:=[.agg .u8 0,.sl .u8 false (some 8)],res:=[.int .u64],p:=48,fi:=48,fw:=0,fs:=0}
def ct54:Ct:={ps:=[.agg .u64 2,.agg .u64 2],res:=[.agg .u64 2],p:=54,fi:=54,fw:=0,fs:=0}
def ct55:Ct:={ps:=[.agg .u64 2],res:=[.agg .u64 2],p:=55,fi:=55,fw:=0,fs:=0}
def tab49:List (FuncId×List Ct):=[(48,[ct48]),(53,[ct53]),(54,[ct54]),(55,[ct55])]
def ct34:Ct:={ps:=[.ptr .u8 16 true,.sl .u8 false none,.ptr .u8 32 false],res:=[],p:=34,fi:=0,fw:=34,fs:=0}
def ct34e:Ct:={ps:=[.ptr .u8 16 true,.emp,.ptr .u8 32 false],res:=[],p:=34,fi:=0,fw:=34,fs:=0}
def ct44:Ct:={ps:=[.ptr .u8 32 false,.ptr .u64 7 true],res:=[],p:=44,fi:=0,fw:=44,fs:=0}
def ct50:Ct:={ps:=[.ptr .u8 16 true,.ptr .u64 3 false,.ptr .u64 2 false],res:=[],p:=50,fi:=0,fw:=50,fs:=0}
def tab44:List (FuncId×List Ct):=[(48,[ct48])]
def tab34:List (FuncId×List Ct):=[(44,[ct44]),(49,[ct49]),(50,[ct50])]
def ct38:Ct:={ps:=[.ptr .u8 64 true,.ptr .u8 16 false,.ptr .u8 32 false,.ptr .u8 16 false],res:=[],p:=38,fi:=0,fw:=38,fs:=0}
def ct31:Ct:={ps:=[.ptr .u8 32 true,.ptr .u8 16 false,.ptr .u8 32 false,.ptr .u8 16 false],res:=[],p:=31,fi:=0,fw:=31,fs:=0}
def ct28:Ct:={ps:=[.agg .u8 64,.kst (.int .i64 10)],res:=[.agg .u8 64],p:=28,fi:=28,fw:=0,fs:=0}
def sigmaV:Value:= .string ⟨#[101,120,112,97,110,100,32,51,50,45,98,121,116,101,32,107]⟩
def ct25:Ct:={ps:=[.agg .u8 32,.agg .u8 16,.kst sigmaV],res:=[.agg .u8 64],p:=25,fi:=25,fw:=0,fs:=0}
def ct16:Ct:={ps:=[.agg .u8 16,.agg .u8 32,.kst sigmaV],res:=[.agg .u8 32],p:=16,fi:=16,fw:=0,fs:=0}
def ct29:Ct:={ps:=[.agg .u8 16,.int .i64],res:=[.agg .u8 16],p:=29,fi:=29,fw:=0,fs:=0}
def tab16:List (FuncId×List Ct):=[(25,[ct25])]
def ct17:Ct:={ps:=[.sl .u8 false none,.agg .u8 16,.agg .u8 32],res:=[.sl .u8 none],p:=17,fi:=0,fw:=0,fs:=17}
def tab17:List (FuncId×List Ct):=[(25,[ct25]),(28,[ct28]),(29,[ct29])]
def ct33:Ct:={ps:=[.sl .u8 true none,.sl .u8 false none,.ptr .u8 16 false,.ptr .u8 32 false],res:=[],p:=33,fi:=0,fw:=33,fs:=0}
def tab33:List (FuncId×List Ct):=[(38,[ct38])]
def ct18n (n:Nat):Ct:={ps:=[.sl .u8 false (some n)],res:=[.agg .u64 9],p:=18,fi:=18,fw:=0,fs:=0}
def ct18:Ct:={ps:=[.sl .u8 false none],res:=[.agg .u64 9],p:=18,fi:=18,fw:=0,fs:=0}
def ct19:Ct:={ps:=[.agg .u64 9],res:=[.agg .u64 9],p:=19,fi:=19,fw:=0,fs:=0}
def ct20:Ct:={ps:=[.agg .u64 18],res:=[.agg .u64 9],p:=20,fi:=20,fw:=0,fs:=0}
def tab20:List (FuncId×List Ct):=[(19,[ct19])]
def ct11:Ct:={ps:=[.sl .u8 false (some 32),.sl .u8 false none],res:=[.sl .u8 (some 16)],p:=11,fi:=0,fw:=0,fs:=11}
def ct11e:Ct:={ps:=[.sl .u8 false (some 32),.emp],res:=[.sl .u8 (some 16)],p:=11,fi:=0,fw:=0,fs:=11}
def tab11:List (FuncId×List Ct):=[(18,[ct18]),(19,[ct19]),(20,[ct20])]
end Go.Proofs.Ytlcljhlijmombaa
namespace Go.Sy
theorem u64_add (a b:Int):iop .add .u64 a b=(a+b)%18446744073709551616:=by simp only[iop,IntKind.wrap_u64]
theorem u64_sub (a b:Int):iop .sub .u64 a b=(a-b)%18446744073709551616:=by simp only[iop,IntKind.wrap_u64]
theorem u64_mul (a b:Int):iop .mul .u64 a b=(a*b)%18446744073709551616:=by simp only[iop,IntKind.wrap_u64]
theorem u32_add (a b:Int):iop .add .u32 a b=(a+b)%4294967296:=by simp only[iop,IntKind.wrap_u32]
theorem shr_kst {k:IntKind}{a:Int}{c:Nat}(h:c≤k.bits):iop .shr k a (c:Int)=a/(2:Int)^c:=by
 simp only[iop,Int.toNat_natCast]
 rw[Nat.min_eq_left h]
 exact Int.fdiv_eq_ediv_of_nonneg _ (Int.le_of_lt (Int.pow_pos (by decide)))
theorem shl_kst {k:IntKind}{a:Int}{c:Nat}(h:c≤k.bits):iop .shl k a (c:Int)=k.wrap (a*(2:Int)^c):=by
 simp only[iop,Int.toNat_natCast]
 rw[Nat.min_eq_left h]
theorem wrap_nat {k:IntKind}(hk:unsignedB k=true){x:Nat}(hx:x<2^k.bits):k.wrap (x:Int)=x:=by
 cases k <;> simp only[unsignedB,Bool.false_eq_true] at hk <;> simp only[IntKind.bits] at hx <;>
  simp only[IntKind.wrap_u8,IntKind.wrap_u16,IntKind.wrap_u32,IntKind.wrap_u64] <;> omega
theorem ofInt_toNat {n x:Nat}(hx:x<2^n):(BitVec.ofInt n (x:Int)).toNat=x:=by
 rw[BitVec.ofInt_natCast,BitVec.toNat_ofNat,Nat.mod_eq_of_lt hx]
theorem iop_and {k:IntKind}(hk:unsignedB k=true){x y:Nat}(hx:x<2^k.bits)(hy:y<2^k.bits):iop .and k x y=((x&&&y:Nat):Int):=by
 simp only[iop,BitVec.toNat_and,ofInt_toNat hx,ofInt_toNat hy]
 exact wrap_nat hk (Nat.lt_of_le_of_lt Nat.and_le_left hx)
theorem iop_or {k:IntKind}(hk:unsignedB k=true){x y:Nat}(hx:x<2^k.bits)(hy:y<2^k.bits):iop .or k x y=((x|||y:Nat):Int):=by
 simp only[iop,BitVec.toNat_or,ofInt_toNat hx,ofInt_toNat hy]
 exact wrap_nat hk (Nat.or_lt_two_pow hx hy)
theorem iop_xor {k:IntKind}(hk:unsignedB k=true){x y:Nat}(hx:x<2^k.bits)(hy:y<2^k.bits):iop .xor k x y=((x^^^y:Nat):Int):=by
 simp only[iop,BitVec.toNat_xor,ofInt_toNat hx,ofInt_toNat hy]
 exact wrap_nat hk (Nat.xor_lt_two_pow hx hy)
theorem and_mask {k:IntKind}(hk:unsignedB k=true){a:Int}{c:Nat}(h0:0≤a)(h1:a<(2:Int)^k.bits)(hc:c≤k.bits):iop .and k a ((2^c-1:Nat):Int)=a%(2:Int)^c:=by
 obtain ⟨x,rfl⟩:=Int.eq_ofNat_of_zero_le h0
 have hx:x<2^k.bits:=by
  have:((2:Int)^k.bits)=((2^k.bits:Nat):Int):=by simp
  rw[this] at h1;exact Int.ofNat_lt.1 h1
 have hm:2^c-1<2^k.bits:=by
  have h1:2^c≤2^k.bits:=Nat.pow_le_pow_right (by decide) hc
  have h2:0<2^c:=Nat.pow_pos (by decide)
  omega
 rw[iop_and hk hx hm,Nat.and_two_pow_sub_one_eq_mod]
 simp
theorem or_add {x y c:Nat}(hx:x<2^c):x|||(y*2^c)=x+y*2^c:=by
 rw[Nat.or_comm,Nat.mul_comm,←Nat.two_pow_add_eq_or_of_lt hx,Nat.add_comm]
theorem or_shl {k:IntKind}(hk:unsignedB k=true){x y:Int}{c:Nat}(hx0:0≤x)(hx:x<(2:Int)^c)(hy:0≤y)(hxb:x<(2:Int)^k.bits)(hb:y*(2:Int)^c<(2:Int)^k.bits) :
  iop .or k x (y*(2:Int)^c)=x+y*(2:Int)^c:=by
 obtain ⟨x,rfl⟩:=Int.eq_ofNat_of_zero_le hx0
 obtain ⟨y,rfl⟩:=Int.eq_ofNat_of_zero_le hy
 have e1:((2:Int)^c)=((2^c:Nat):Int):=by simp
 have e2:((2:Int)^k.bits)=((2^k.bits:Nat):Int):=by simp
 rw[e1] at hx hb ⊢
 rw[e2] at hxb hb
 have h1:x<2^c:=Int.ofNat_lt.1 hx
 have h2:x<2^k.bits:=Int.ofNat_lt.1 hxb
 have h3:y*2^c<2^k.bits:=by
  have:((y*2^c:Nat):Int)<((2^k.bits:Nat):Int):=by rw[Int.natCast_mul];exact hb
  exact Int.ofNat_lt.1 this
 have h4:((y:Int)*((2^c:Nat):Int))=((y*2^c:Nat):Int):=by rw[Int.natCast_mul]
 rw[h4,iop_or hk h2 h3,or_add h1]
 simp
def leV:List Int→Int
 | []=>0
 | b::l=>b+256*leV l
def Bytes (l:List Int):Prop:=∀x∈l,0≤x∧x<256
end Go.Sy
namespace Go.Proofs.Ytlcljhlijmombaa
open Go.Sy
theorem hm:Try.prog.follows .mixedOrders=true:=by kernel_rfl
def bodyC (fn:Func):Code:=match fn.body with | some b=>b | none=> .skip
theorem body_some {fn:Func}(h:fn.body.isSome=true):fn.body=some (bodyC fn):=by
 unfold bodyC
 cases hb:fn.body with
 | some b=>rfl
 | none=>rw[hb] at h;cases h
def argsOf (ct:Ct):List SV:=(patL ct.ps σ00).1
def stOf (ct:Ct):St:=(patL ct.ps σ00).2
def noU (_:FuncId):Option (List SV→St→Option (SV×St)):=none
theorem noU_ok {F:Fns}:CallOk F Try.prog (fun f args σ=>(noU f).bind fun c=>c args σ):=fun f args σ sv σ' h=>by cases h
noncomputable def runE (ct:Ct)(fn:Func)(call:FuncId→List SV→St→Option (SV×St))(o:List Bool):Option (Sum1×List Df×List Ob) :=
 endD Try.prog ct (stOf ct) fn (stOf ct) (runK Try.prog call [] fn.ntmps 1000 2000 (bodyC fn) [] (trArgs 0 (argsOf ct) (stOf ct).gl) ((stOf ct).ask' o))
theorem straight {F:Fns}{call:FuncId→List SV→St→Option (SV×St)}(hcall:CallOk F Try.prog call){ct:Ct}{f:FuncId}{fn:Func}{S:Sum1}{ds:List Df}{os:List Ob}{o:List Bool}
  (hf:Try.prog.funcs[f]? =some fn) (hb:fn.body.isSome=true) (hn:Nat.ble (argsOf ct).length fn.ntmps=true) (hni:(stOf ct).ni=0) (hrun:runE ct fn call o=some (S,ds,os)) (hpat:patB (trArgs 0 (argsOf ct) (stOf ct).gl) (stOf ct)=true)
  (H:∀is ls N',Shape ct.ps is ls→F.p ct.p is ls→Agr (stOf ct).nx (stOf ct).na (num0 F ct.ps is ls) N'→N'.f=F→(∀ d∈ds,d.sat N') →
   (∀ ob∈os,ob.holds N')∧S.ok N' F ct is ls∧∀L,rwArg ct.ps is ls=some L→(F.a ct.fw is ls).length=L.length) (hdup:ct.dup=false:=by rfl):CSpec Try.prog F f ct :=
 cspec_of (args:=argsOf ct) (σe:=stOf ct) rfl hf (body_some hb) hn hni (fun is ls _ _ _ _ h1 h2 h3 h4=>to_end hm hcall hrun hpat h4 h3 fun N' k1 k2 k3=>H is ls N' h1 h2 k1 k2 k3) hdup
def noIntB:List Pa→Bool
 | []=>true
 | .int _::_=>false
 | _::ps=>noIntB ps
theorem Shape.noInt:∀ {ps:List Pa} {is:List Int} {ls:List (List Int)},noIntB ps=true→Shape ps is ls→is=[]
 | [],[],[],_,_=>rfl
 | [],_::_,_,_,h=>h.elim
 | [],[],_::_,_,h=>h.elim
 | .int _::_,_,_,hb,_=>by cases hb
 | .agg _ _::ps,is,_::ls,hb,h=>Shape.noInt (ps:=ps) hb h.2
 | .ptr _ _ _::ps,is,_::ls,hb,h=>Shape.noInt (ps:=ps) hb h.2
 | .sl _ _ none::ps,is,_::ls,hb,h=>Shape.noInt (ps:=ps) (is:=is) (ls:=ls) hb h
 | .sl _ _ (some _)::ps,is,_::ls,hb,h=>Shape.noInt (ps:=ps) hb h.2
 | .emp::ps,is,_::ls,hb,h=>Shape.noInt (ps:=ps) hb h.2
 | .zc::ps,is,_::ls,hb,h=>Shape.noInt (ps:=ps) hb h.2
 | .kst _::ps,is,ls,hb,h=>Shape.noInt (ps:=ps) (is:=is) (ls:=ls) hb h
 | .ign::ps,is,ls,hb,h=>Shape.noInt (ps:=ps) (is:=is) (ls:=ls) hb h
 | .gr _::ps,is,_::ls,hb,h=>Shape.noInt (ps:=ps) (is:=is) (ls:=ls) hb h
 | .gr _::_,_,[],_,h=>h.elim
 | .agg _ _::_,_,[],_,h=>h.elim
 | .ptr _ _ _::_,_,[],_,h=>h.elim
 | .sl _ _ none::_,_,[],_,h=>h.elim
 | .sl _ _ (some _)::_,_,[],_,h=>h.elim
 | .emp::_,_,[],_,h=>h.elim
 | .zc::_,_,[],_,h=>h.elim
noncomputable def callT (tab:List (FuncId×List Ct)):FuncId→List SV→St→Option (SV×St):=call1 Try.prog (tabU tab noCall) 8 2000
def TabOk (F:Fns):List (FuncId×List Ct)→Prop
 | []=>True
 | (f,cs)::l=>(hasBody Try.prog f=true∧∀c∈cs,CSpec Try.prog F f c)∧TabOk F l
theorem TabOk.get {F:Fns}{f:FuncId}{cs:List Ct}:∀ {tab:List (FuncId×List Ct)},TabOk F tab→lkT tab f=some cs→hasBody Try.prog f=true∧∀c∈cs,CSpec Try.prog F f c
 | [],_,h=>by cases h
 | (g,ds)::l,ht,h=>by
  simp only[lkT] at h
  cases hb:Nat.beq f g with
  | true =>
   rw[hb] at h
   simp only[cond_true,Option.some.injEq] at h
   subst h
   rw[Nat.eq_of_beq_eq_true hb]
   exact ht.1
  | false=>rw[hb] at h;exact TabOk.get ht.2 h
theorem callT_ok {F:Fns}{tab:List (FuncId×List Ct)}(h:TabOk F tab):CallOk F Try.prog (callT tab):=call1_sound hm (tabU_ok noCall_ok fun _ _ hl=>h.get hl) 8 2000
noncomputable def headOf (ct:Ct)(fn:Func)(call:FuncId→List SV→St→Option (SV×St))(stops:List Nat)(o:List Bool)(T0:Tr SV)(σ0:St):Option ((Code×List Kt)×List Ar×List (Option Nat)×List Df×List Ob) :=
 headD (stOf ct) T0 σ0 (stOf ct) (runK Try.prog call stops fn.ntmps 1000 2000 (bodyC fn) [] (trArgs 0 (argsOf ct) (stOf ct).gl) ((stOf ct).ask' o))
noncomputable def rndOf (ct:Ct)(fn:Func)(call:FuncId→List SV→St→Option (SV×St))(stops:List Nat)(lp:Code×List Kt)(T:Tr SV)(σ:St)(o:List Bool)(T0:Tr SV)(σ0:St):Option (List Ar×List (Option Nat)×List Df×List Ob) :=
 roundD (stOf ct) T0 σ0 σ (runB Try.prog call stops fn.ntmps 1000 2000 lp.1 lp.2 T (σ.ask' o))
noncomputable def outOf (ct:Ct)(fn:Func)(call:FuncId→List SV→St→Option (SV×St))(stops:List Nat)(lp:Code×List Kt)(T:Tr SV)(σ:St)(o:List Bool):Option (Sum1×List Df×List Ob) :=
 endD Try.prog ct (stOf ct) fn σ (outD (runB Try.prog call stops fn.ntmps 1000 2000 lp.1 lp.2 T (σ.ask' o)))
noncomputable def nxtOf (ct:Ct)(fn:Func)(call:FuncId→List SV→St→Option (SV×St))(stops:List Nat)(lp:Code×List Kt)(T:Tr SV)(σ:St)(o:List Bool)(T0:Tr SV)(σ0:St):Option ((Code×List Kt)×List Ar×List (Option Nat)×List Df×List Ob) :=
 headD (stOf ct) T0 σ0 σ (outD (runB Try.prog call stops fn.ntmps 1000 2000 lp.1 lp.2 T (σ.ask' o)))
noncomputable def doneOf (ct:Ct)(fn:Func)(call:FuncId→List SV→St→Option (SV×St))(stops:List Nat)(lp:Code×List Kt)(T:Tr SV)(σ:St)(o:List Bool)(T0:Tr SV)(σ0:St):Option (List Ar×List (Option Nat)×List Df×List Ob) :=
 doneD (stOf ct) T0 σ0 σ (outD (runB Try.prog call stops fn.ntmps 1000 2000 lp.1 lp.2 T (σ.ask' o)))
noncomputable def inOf (ct:Ct)(fn:Func)(call:FuncId→List SV→St→Option (SV×St))(stops:List Nat)(lp:Code×List Kt)(T:Tr SV)(σ:St)(o:List Bool)(T0:Tr SV)(σ0:St):Option ((Code×List Kt)×List Ar×List (Option Nat)×List Df×List Ob) :=
 headD (stOf ct) T0 σ0 σ (runK Try.prog call stops fn.ntmps 1000 2000 lp.1 [] T (σ.ask' o))
noncomputable def loopIn (f id id':Nat):Code×List Kt:=(findLoop id' (loopOf Try.prog f id).1 []).getD (.skip,[])
noncomputable def loopAt (f id:Nat):Code×List Kt:=loopOf Try.prog f id
open Go.Sy
def nilV:Value:= .slice none 0 0
def ct24:Ct:={ps:=[.gr .u8,.int .i64],res:=[.sl .u8 none,.tl],p:=24,fi:=24,fw:=0,fs:=24}
def ct24z:Ct:={ps:=[.gr .u8,.int .i64],res:=[.sl .u8 none,.emp],p:=240,fi:=24,fw:=0,fs:=24}
def ct24n:Ct:={ct24 with ps:=[.kst nilV,.int .i64]}
def ct24nz:Ct:={ct24z with ps:=[.kst nilV,.int .i64],res:=[.emp,.emp]}
def ct33s:Ct:={ps:=[.sl .u8 true (some 64),.ptr .u8 16 false,.ptr .u8 32 false],res:=[],p:=330,fi:=0,fw:=330,fs:=0,dup:=true}
def ct23:Ct:={ps:=[.ptr .u8 16 false,.sl .u8 false none,.ptr .u8 32 false],res:=[.bool],p:=23,fi:=23,fw:=0,fs:=0}
def ct23e:Ct:={ps:=[.ptr .u8 16 false,.emp,.ptr .u8 32 false],res:=[.bool],p:=23,fi:=23,fw:=0,fs:=0}
def tab23:List (FuncId×List Ct):=[(34,[ct34,ct34e])]
def ct12f:Ct:={ps:=[.ign,.sl .u8 false none,.ptr .u8 24 false,.ptr .u8 32 false],res:=[.kst nilV,.kst (.bool false)],p:=120,fi:=0,fw:=0,fs:=0}
def ct12n:Ct:={ps:=[.kst nilV,.sl .u8 false none,.ptr .u8 24 false,.ptr .u8 32 false],res:=[.sl .u8 none,.kst (.bool true)],p:=121,fi:=0,fw:=0,fs:=12}
def ct12g:Ct:={ct12n with ps:=[.gr .u8,.sl .u8 false none,.ptr .u8 24 false,.ptr .u8 32 false]}
def ct12n0:Ct:={ps:=[.kst nilV,.sl .u8 false none,.ptr .u8 24 false,.ptr .u8 32 false],res:=[.emp,.kst (.bool true)],p:=122,fi:=0,fw:=0,fs:=12}
def ct12g0:Ct:={ct12n0 with ps:=[.gr .u8,.sl .u8 false none,.ptr .u8 24 false,.ptr .u8 32 false],res:=[.sl .u8 none,.kst (.bool true)]}
def ct12e:Ct:={ct12f with ps:=[.ign,.emp,.ptr .u8 24 false,.ptr .u8 32 false],p:=123}
def tab12:List (FuncId×List Ct):=[(23,[ct23,ct23e]),(24,[ct24,ct24n]),(31,[ct31]),(33,[ct33,ct33s])]
def tab12z:List (FuncId×List Ct):=[(23,[ct23,ct23e]),(24,[ct24z,ct24nz]),(31,[ct31]),(33,[ct33,ct33s])]
def ct5:Ct:={ps:=[.sl .u8 false none,.agg .u8 24,.agg .u8 32],res:=[.sl .u8 none,.bool],p:=5,fi:=5,fw:=0,fs:=5}
def ct5z:Ct:={ct5 with res:=[.emp,.bool],p:=51}
def ct5s:Ct:={ct5 with res:=[.kst nilV,.kst (.bool false)],p:=52}
def ct5e:Ct:={ct5s with ps:=[.emp,.agg .u8 24,.agg .u8 32],p:=123}
def tab5:List (FuncId×List Ct):=[(11,[ct11,ct11e]),(16,[ct16]),(17,[ct17])]
def ct8f:Ct:={ps:=[.ign,.kst (.bool false),.ign,.ign,.kst (.bool false)],res:=[.kst (.bool true)],p:=123,fi:=0,fw:=0,fs:=0}
def ct8 (a b c:Pa):Ct:={ps:=[a,.kst (.bool true),b,c,.kst (.bool true)],res:=[.bool],p:=8,fi:=8,fw:=0,fs:=0}
def sl8:Pa:= .sl .u8 false none
def ct9:Ct:={ps:=[],res:=[.bool],p:=123,fi:=9,fw:=0,fs:=0}
def tab9:List (FuncId×List Ct):=[(11,[ct11,ct11e]),(12,[ct12n]),(16,[ct16]),(17,[ct17])]
def ct3 (a b:Pa):Ct:={ps:=[a,b,.agg .u8 24,.agg .u8 32],res:=[.kst (.bool true)],p:=3,fi:=0,fw:=0,fs:=0}
def tab3 (c5 c12:List Ct):List (FuncId×List Ct):=[(5,c5),(8,[ct8f,ct8 sl8 sl8 sl8,ct8 sl8 (.kst nilV) sl8,ct8 sl8 sl8 .emp,ct8 .emp (.kst nilV) .emp]),(9,[ct9]),(12,c12)]
open Go.Sy
def vs (x n:Nat):List Ar:=(List.range' x n).map .var
def zs (n:Nat):List Ar:=List.replicate n (.kst 0)
def rds (x A k n:Nat):List Df:=(List.range n).reverse.map fun j=> .n (x+j) (.rd A (.kst ((k+j:Nat):Int)))
def fns (x f:Nat)(is:List Ar)(ls:List Nat)(k n:Nat):List Df:=(List.range n).reverse.map fun j=> .n (x+j) (.fn f is ls (k+j))
def inAs (A k n:Nat):List Ob:=(List.range n).reverse.map fun j=> .inA (.kst ((k+j:Nat):Int)) A
theorem inAs_holds {N:Num}{A k n:Nat}(h:k+n≤(N.a A).length):∀o∈inAs A k n,o.holds N:=fun o ho=>by
 obtain ⟨j,hj,rfl⟩:=List.mem_map.1 ho
 have hj:=List.mem_range.1 (List.mem_reverse.1 hj)
 simp only[Ob.holds,Ar.ev]
 omega
theorem rds_sat {N:Num}{x A k n:Nat}(h:∀d∈rds x A k n,d.sat N):∀j,j<n→N.i (x+j)=(N.a A).getD (k+j) 0:=fun j hj=>by
 have:N.i (x+j)=(N.a A).getD ((k+j:Nat):Int).toNat 0:=h (.n (x+j) (.rd A (.kst ((k+j:Nat):Int)))) (List.mem_map.2 ⟨j,List.mem_reverse.2 (List.mem_range.2 hj),rfl⟩)
 rw[this,Int.toNat_natCast]
theorem fns_sat {N:Num}{x f k n:Nat}{is:List Ar}{ls:List Nat}(h:∀d∈fns x f is ls k n,d.sat N):∀j,j<n→N.i (x+j)=N.f.i f (is.map (·.ev N)) (ls.map N.a) (k+j):=fun j hj =>
 h (.n (x+j) (.fn f is ls (k+j))) (List.mem_map.2 ⟨j,List.mem_reverse.2 (List.mem_range.2 hj),rfl⟩)
theorem map_getD' {L:List Int}{n:Nat}(hl:L.length=n):(List.range n).map (fun j=>L.getD j 0)=L:=by
 subst hl
 apply List.ext_getElem?
 intro i
 rw[List.getElem?_map]
 by_cases h:i<L.length
 ·rw [List.getElem?_range h,Option.map_some,List.getD_eq_getElem?_getD,List.getElem?_eq_getElem h];rfl
 ·rw [List.getElem?_eq_none (by rw[List.length_range];omega),List.getElem?_eq_none (by omega)];rfl
theorem vs_map {N:Num}{L:List Int}{x n:Nat}(h:∀j,j<n→N.i (x+j)=L.getD j 0)(hl:L.length=n):(vs x n).map (·.ev N)=L:=by
 refine Eq.trans ?_ (map_getD' hl)
 simp only[vs,List.range'_eq_map_range,List.map_map]
 exact List.map_congr_left fun j hj=>h j (List.mem_range.1 hj)
theorem vs_rds {N:Num}{x A n:Nat}(h:∀d∈rds x A 0 n,d.sat N)(hl:(N.a A).length=n):(vs x n).map (·.ev N)=N.a A :=
 vs_map (fun j hj=>by rw[rds_sat h j hj,Nat.zero_add]) hl
theorem xor_zero_iff {p q:Nat}:p^^^q=0↔p=q:=by
 refine ⟨fun h=> ?_,fun h=>by rw[h,Nat.xor_self]⟩
 have:p^^^q^^^q=p:=by rw[Nat.xor_assoc,Nat.xor_self,Nat.xor_zero]
 rw[←this,h,Nat.zero_xor]
def cmpD (x a b:Nat):List Df :=
 [.n (x+35) (.cmp .eql (.var (x+34)) (.kst 1)),.n (x+34) (.conv .i64 (.var (x+33))),.n (x+33) (.cmp .neq (.var (x+32)) (.kst 0)),.n (x+32) (.cmp .eql (.var (x+31)) (.kst 0))] ++
 (List.range 16).reverse.flatMap fun j=>[.n (x+(2*j+1)) (.bin .or .u8 (bif Nat.beq j 0 then .kst 0 else .var (x+(2*j-1))) (.var (x+2*j))),.n (x+2*j) (.bin .xor .u8 (.var (b+j)) (.var (a+j)))]
theorem cmpD_sat {N:Num}{x a b:Nat}{A B:List Int}(h:∀d∈cmpD x a b,d.sat N)(hA:∀j,j<16→N.i (a+j)=A.getD j 0)(hB:∀j,j<16→N.i (b+j)=B.getD j 0)(bA:Bytes A)(bB:Bytes B)(lA:A.length=16)(lB:B.length=16) :
  N.i (x+35)=if B=A then 1 else 0:=by
 have byte:∀ {L:List Int} {j:Nat},Bytes L→L.length=16→j<16→∃y:Nat,L.getD j 0=(y:Int)∧y<2^IntKind.u8.bits:=fun {L j} hL hl hj=>by
  have hj':j<L.length:=by omega
  have e:L.getD j 0=L[j]:=by rw[List.getD_eq_getElem?_getD,List.getElem?_eq_getElem hj'];rfl
  obtain ⟨h0,h1⟩:=hL _ (List.getElem_mem hj')
  obtain ⟨y,hy⟩:=Int.eq_ofNat_of_zero_le h0
  exact ⟨y,by rw[e,hy],by rw[hy] at h1;simp only[IntKind.bits];omega⟩
 have acc:∀m,m<16→∃z:Nat,N.i (x+(2*m+1))=(z:Int)∧z<2^IntKind.u8.bits∧(z=0↔∀j,j≤m→B.getD j 0=A.getD j 0):=by
  intro m
  induction m with
  | zero =>
   intro hm
   obtain ⟨p,p1,p2⟩:=byte bB lB hm
   obtain ⟨q,q1,q2⟩:=byte bA lA hm
   have m1:(0:Nat)∈(List.range 16).reverse:=List.mem_reverse.2 (List.mem_range.2 hm)
   have g1:N.i (x+(2*0+1))=iop .or .u8 0 (N.i (x+2*0)):=h (.n (x+(2*0+1)) (.bin .or .u8 (.kst 0) (.var (x+2*0)))) (List.mem_append_right _ (List.mem_flatMap.2 ⟨0,m1,by simp⟩))
   have g2:N.i (x+2*0)=iop .xor .u8 (N.i (b+0)) (N.i (a+0)):=h (.n (x+2*0) (.bin .xor .u8 (.var (b+0)) (.var (a+0)))) (List.mem_append_right _ (List.mem_flatMap.2 ⟨0,m1,by simp⟩))
   rw[hA 0 hm,hB 0 hm,p1,q1,iop_xor rfl p2 q2] at g2
   rw[g2,show (0:Int)=((0:Nat):Int) from rfl,iop_or rfl (by decide) (Nat.xor_lt_two_pow p2 q2),Nat.zero_or] at g1
   refine ⟨p^^^q,g1,Nat.xor_lt_two_pow p2 q2,?_⟩
   rw[xor_zero_iff]
   refine ⟨fun e j hj=> ?_,fun e=> ?_⟩
   ·have:j=0:=by omega
    subst this
    rw[p1,q1,e]
   ·have:=e 0 (Nat.le_refl _)
    rw[p1,q1] at this
    omega
  | succ m ih =>
   intro hm
   obtain ⟨z,z1,z2,z3⟩:=ih (by omega)
   obtain ⟨p,p1,p2⟩:=byte bB lB hm
   obtain ⟨q,q1,q2⟩:=byte bA lA hm
   have m1:m+1∈(List.range 16).reverse:=List.mem_reverse.2 (List.mem_range.2 hm)
   have g1:N.i (x+(2*(m+1)+1))=iop .or .u8 (N.i (x+(2*(m+1)-1))) (N.i (x+2*(m+1))):=h (.n (x+(2*(m+1)+1)) (.bin .or .u8 (.var (x+(2*(m+1)-1))) (.var (x+2*(m+1))))) (List.mem_append_right _ (List.mem_flatMap.2 ⟨m+1,m1,by simp[Nat.beq]⟩))
   have g2:N.i (x+2*(m+1))=iop .xor .u8 (N.i (b+(m+1))) (N.i (a+(m+1))):=h (.n (x+2*(m+1)) (.bin .xor .u8 (.var (b+(m+1))) (.var (a+(m+1))))) (List.mem_append_right _ (List.mem_flatMap.2 ⟨m+1,m1,by simp⟩))
   rw[hA _ hm,hB _ hm,p1,q1,iop_xor rfl p2 q2] at g2
   rw[g2,show 2*(m+1)-1=2*m+1 by omega,z1,iop_or rfl z2 (Nat.xor_lt_two_pow p2 q2)] at g1
   refine ⟨z|||(p^^^q),g1,Nat.or_lt_two_pow z2 (Nat.xor_lt_two_pow p2 q2),?_⟩
   rw[Nat.or_eq_zero_iff,z3,xor_zero_iff]
   refine ⟨fun ⟨e1,e2⟩ j hj=> ?_,fun e=>⟨fun j hj=>e j (by omega),?_⟩⟩
   ·by_cases hj':j≤m
    ·exact e1 j hj'
    ·have:j=m+1:=by omega
     subst this
     rw[p1,q1,e2]
   ·have:=e (m+1) (Nat.le_refl _)
    rw[p1,q1] at this
    omega
 obtain ⟨z,z1,_,z3⟩:=acc 15 (by decide)
 have heq:z=0↔B=A:=by
  rw[z3]
  refine ⟨fun e=>List.ext_getElem (by omega) fun j h1 h2=> ?_,fun e j _=>by rw[e]⟩
  have:=e j (by omega)
  rw[List.getD_eq_getElem?_getD,List.getD_eq_getElem?_getD,List.getElem?_eq_getElem h1,List.getElem?_eq_getElem h2] at this
  exact this
 have t1:N.i (x+32)=bif icmp .eql (N.i (x+31)) 0 then 1 else 0:=h (.n (x+32) (.cmp .eql (.var (x+31)) (.kst 0))) (List.mem_append_left _ (by simp))
 have t2:N.i (x+33)=bif icmp .neq (N.i (x+32)) 0 then 1 else 0:=h (.n (x+33) (.cmp .neq (.var (x+32)) (.kst 0))) (List.mem_append_left _ (by simp))
 have t3:N.i (x+34)=IntKind.i64.wrap (N.i (x+33)):=h (.n (x+34) (.conv .i64 (.var (x+33)))) (List.mem_append_left _ (by simp))
 have t4:N.i (x+35)=bif icmp .eql (N.i (x+34)) 1 then 1 else 0:=h (.n (x+35) (.cmp .eql (.var (x+34)) (.kst 1))) (List.mem_append_left _ (by simp))
 have z1:N.i (x+31)=z:=z1
 by_cases hz:z=0
 ·rw [if_pos (heq.1 hz)]
  subst hz
  rw[z1] at t1
  rw[show N.i (x+32)=1 from t1] at t2
  rw[show N.i (x+33)=1 from t2] at t3
  rw[show N.i (x+34)=1 from t3] at t4
  exact t4
 ·rw [if_neg (fun e=>hz (heq.2 e))]
  have t1:N.i (x+32)=0:=by
   rw[t1,z1]
   simp only[icmp]
   have:((z:Int)==0)=false:=by
    rw[beq_eq_false_iff_ne];omega
   rw[this];rfl
  rw[t1] at t2
  rw[show N.i (x+33)=0 from t2] at t3
  rw[show N.i (x+34)=0 from t3] at t4
  exact t4
def empFst:List SV→Bool
 | .one (.sc (.emp _))::_=>true
 | _=>false
noncomputable def callE (tab:List (FuncId×List Ct))(f:FuncId)(args:List SV)(σ:St):Option (SV×St):=bif empFst args then callT tab f args σ else none
noncomputable def callF (tab tab2:List (FuncId×List Ct)):FuncId→List SV→St→Option (SV×St):=call1 Try.prog (tabU tab (callE tab2)) 8 2000
theorem callE_ok {F:Fns}{tab:List (FuncId×List Ct)}(h:TabOk F tab):CallOk F Try.prog (callE tab):=fun f args σ sv σ' e=>by
 unfold callE at e
 cases hb:empFst args with
 | false=>rw[hb] at e;cases e
 | true=>rw[hb] at e;exact callT_ok h f args σ sv σ' e
theorem callF_ok {F:Fns}{tab tab2:List (FuncId×List Ct)}(h:TabOk F tab)(h2:TabOk F tab2):CallOk F Try.prog (callF tab tab2):=call1_sound hm (tabU_ok (callE_ok h2) fun _ _ hl=>h.get hl) 8 2000
open Go.Sy
def P53 (is:List Int)(_:List (List Int)):Prop:=∀x∈is,0≤x∧x<18446744073709551616
def I53 (is:List Int)(_:List (List Int))(j:Nat):Int :=
 match is,j with
 | [a,b],0=>a*b%18446744073709551616
 | [a,b],1=>a*b/18446744073709551616
 | _,_=>0
theorem run53:runE ct53 Try.f53 (callT []) []=some (⟨[(.var 18,0),(.var 17,1)],none,none⟩,
  [.n 18 (.bin .mul .u64 (.var 0) (.var 1)),
  .n 17 (.bin .add .u64 (.var 15) (.var 16)),
  .n 16 (.bin .shr .u64 (.var 13) (.kst 32)),
  .n 15 (.bin .add .u64 (.var 14) (.var 11)),
  .n 14 (.bin .mul .u64 (.var 3) (.var 5)),
  .n 13 (.bin .add .u64 (.var 10) (.var 12)),
  .n 12 (.bin .mul .u64 (.var 2) (.var 5)),
  .n 11 (.bin .shr .u64 (.var 9) (.kst 32)),
  .n 10 (.bin .and .u64 (.var 9) (.kst 4294967295)),
  .n 9 (.bin .add .u64 (.var 7) (.var 8)),
  .n 8 (.bin .shr .u64 (.var 6) (.kst 32)),
  .n 7 (.bin .mul .u64 (.var 3) (.var 4)),
  .n 6 (.bin .mul .u64 (.var 2) (.var 4)),
  .n 5 (.bin .shr .u64 (.var 1) (.kst 32)),
  .n 4 (.bin .and .u64 (.var 1) (.kst 4294967295)),
  .n 3 (.bin .shr .u64 (.var 0) (.kst 32)),
  .n 2 (.bin .and .u64 (.var 0) (.kst 4294967295))],
  []):=by kernel_rfl
theorem mul_bd {x y:Int}(hx:0≤x∧x≤4294967295)(hy:0≤y∧y≤4294967295):0≤x*y∧x*y≤18446744065119617025 :=
 ⟨Int.mul_nonneg hx.1 hy.1,Int.le_trans (Int.mul_le_mul hx.2 hy.2 hy.1 (by decide)) (by decide)⟩
theorem mul_hi {a b:Int}(ha:0≤a∧a<18446744073709551616)(hb:0≤b∧b<18446744073709551616) :
  a*b=(a/4294967296)*(b/4294967296)*18446744073709551616+((a/4294967296)*(b%4294967296)+(a%4294967296)*(b/4294967296))*4294967296+(a%4294967296)*(b%4294967296):=by
 have h1:a=(a/4294967296)*4294967296+a%4294967296:=by omega
 have h2:b=(b/4294967296)*4294967296+b%4294967296:=by omega
 generalize a/4294967296=x1 at h1 ⊢
 generalize a%4294967296=x0 at h1 ⊢
 generalize b/4294967296=y1 at h2 ⊢
 generalize b%4294967296=y0 at h2 ⊢
 subst h1 h2
 grind
theorem spec53 {F:Fns}(hp:F.p 53=P53)(hi:F.i 53=I53):CSpec Try.prog F 53 ct53:=by
 refine straight (callT_ok (tab:=[]) trivial) Try.func53 (by kernel_rfl) (by kernel_rfl) (by kernel_rfl) run53 (by kernel_rfl) fun is ls N h1 h2 h3 h4 h5=> ?_
 match is,ls,h1 with
 | [a,b],[],_ =>
  have h2:P53 [a,b] []:=by rw[←hp];exact h2
  have e0:N.i 0=a:=h3.i 0 (by decide)
  have e1:N.i 1=b:=h3.i 1 (by decide)
  have hb:=h2
  simp only[P53,List.forall_mem_cons] at hb
  obtain ⟨ha,hb,-⟩:=hb
  simp only[List.forall_mem_cons,Df.sat,Nd.ev,Ar.ev,e0,e1] at h5
  obtain ⟨q18,q17,q16,q15,q14,q13,q12,q11,q10,q9,q8,q7,q6,q5,q4,q3,q2,-⟩:=h5
  have m32:∀ {x:Int},0≤x→x<18446744073709551616→iop .and .u64 x 4294967295=x%4294967296:=fun h0 h1=>and_mask (k:= .u64) (c:=32) rfl h0 h1 (by decide)
  have s32:∀x:Int,iop .shr .u64 x 32=x/4294967296:=fun x=>shr_kst (k:= .u64) (c:=32) (by decide)
  rw[m32 ha.1 ha.2] at q2
  rw[s32] at q3 q5 q8 q11 q16
  rw[m32 hb.1 hb.2] at q4
  rw[u64_mul] at q6 q7 q12 q14 q18
  rw[u64_add] at q9 q13 q15 q17
  have key:=mul_hi ha hb
  rw[←q2,←q3,←q4,←q5] at key
  have b2:0≤N.i 2∧N.i 2≤4294967295:=by omega
  have b3:0≤N.i 3∧N.i 3≤4294967295:=by omega
  have b4:0≤N.i 4∧N.i 4≤4294967295:=by omega
  have b5:0≤N.i 5∧N.i 5≤4294967295:=by omega
  have p24:=mul_bd b2 b4
  have p34:=mul_bd b3 b4
  have p25:=mul_bd b2 b5
  have p35:=mul_bd b3 b5
  rw[Int.emod_eq_of_lt p24.1 (by omega)] at q6
  rw[Int.emod_eq_of_lt p34.1 (by omega)] at q7
  rw[Int.emod_eq_of_lt p25.1 (by omega)] at q12
  rw[Int.emod_eq_of_lt p35.1 (by omega)] at q14
  rw[←q6] at p24 key;rw[←q7] at p34 key;rw[←q12] at p25 key;rw[←q14] at p35 key
  rw[m32 (by omega) (by omega)] at q10
  refine ⟨List.forall_mem_nil _,⟨?_,trivial,trivial⟩,nofun⟩
  simp only[List.forall_mem_cons,Ar.ev]
  refine ⟨?_,?_,List.forall_mem_nil _⟩
  ·show N.i 18=F.i 53 [a,b] [] 0
   rw[hi,q18];rfl
  ·show N.i 17=F.i 53 [a,b] [] 1
   rw[hi];simp only[I53]
   generalize a*b=ab at key
   omega
open Go.Sy
theorem run48:runE ct48 Try.f48 (callT []) []=some (⟨[(.var 30,0)],none,none⟩,
  [.n 30 (.bin .or .u64 (.var 26) (.var 29)),
  .n 29 (.bin .shl .u64 (.var 28) (.kst 56)),
  .n 28 (.conv .u64 (.var 27)),
  .n 27 (.rd 0 (.kst 7)),
  .n 26 (.bin .or .u64 (.var 22) (.var 25)),
  .n 25 (.bin .shl .u64 (.var 24) (.kst 48)),
  .n 24 (.conv .u64 (.var 23)),
  .n 23 (.rd 0 (.kst 6)),
  .n 22 (.bin .or .u64 (.var 18) (.var 21)),
  .n 21 (.bin .shl .u64 (.var 20) (.kst 40)),
  .n 20 (.conv .u64 (.var 19)),
  .n 19 (.rd 0 (.kst 5)),
  .n 18 (.bin .or .u64 (.var 14) (.var 17)),
  .n 17 (.bin .shl .u64 (.var 16) (.kst 32)),
  .n 16 (.conv .u64 (.var 15)),
  .n 15 (.rd 0 (.kst 4)),
  .n 14 (.bin .or .u64 (.var 10) (.var 13)),
  .n 13 (.bin .shl .u64 (.var 12) (.kst 24)),
  .n 12 (.conv .u64 (.var 11)),
  .n 11 (.rd 0 (.kst 3)),
  .n 10 (.bin .or .u64 (.var 6) (.var 9)),
  .n 9 (.bin .shl .u64 (.var 8) (.kst 16)),
  .n 8 (.conv .u64 (.var 7)),
  .n 7 (.rd 0 (.kst 2)),
  .n 6 (.bin .or .u64 (.var 2) (.var 5)),
  .n 5 (.bin .shl .u64 (.var 4) (.kst 8)),
  .n 4 (.conv .u64 (.var 3)),
  .n 3 (.rd 0 (.kst 1)),
  .n 2 (.conv .u64 (.var 1)),
  .n 1 (.rd 0 (.kst 0)),
  .n 0 (.rd 0 (.kst 7))],
  [.inA (.kst 7) 0,
  .inA (.kst 6) 0,
  .inA (.kst 5) 0,
  .inA (.kst 4) 0,
  .inA (.kst 3) 0,
  .inA (.kst 2) 0,
  .inA (.kst 1) 0,
  .inA (.kst 0) 0,
  .inA (.kst 7) 0]):=by kernel_rfl
theorem run54:runE ct54 Try.f54 (callT []) [false]=some (⟨[(.var 4,0),(.var 6,1)],none,none⟩,
  [.n 8 (.cmp .neq (.var 7) (.kst 0)),
  .n 7 (.addC (.var 1) (.var 3) (.var 5)),
  .n 6 (.addS (.var 1) (.var 3) (.var 5)),
  .n 5 (.addC (.var 0) (.var 2) (.kst 0)),
  .n 4 (.addS (.var 0) (.var 2) (.kst 0))],
  [.boo 8 false,
  .lt (.var 3) (.kst 18446744073709551616),
  .le (.kst 0) (.var 3),
  .lt (.var 1) (.kst 18446744073709551616),
  .le (.kst 0) (.var 1),
  .lt (.var 2) (.kst 18446744073709551616),
  .le (.kst 0) (.var 2),
  .lt (.var 0) (.kst 18446744073709551616),
  .le (.kst 0) (.var 0)]):=by kernel_rfl
theorem run55:runE ct55 Try.f55 (callT []) []=some (⟨[(.var 5,0),(.var 6,1)],none,none⟩,
  [.n 6 (.bin .shr .u64 (.var 1) (.kst 2)),
  .n 5 (.bin .or .u64 (.var 2) (.var 4)),
  .n 4 (.bin .shl .u64 (.var 3) (.kst 62)),
  .n 3 (.bin .and .u64 (.var 1) (.kst 3)),
  .n 2 (.bin .shr .u64 (.var 0) (.kst 2))],
  []):=by kernel_rfl
open Go.Sy
def P48 (_:List Int)(ls:List (List Int)):Prop:=∀b∈ls,Bytes b
def I48 (_:List Int)(ls:List (List Int))(_:Nat):Int :=
 match ls with
 | [_,b]=>leV b
 | _=>0
def P54 (_:List Int)(ls:List (List Int)):Prop :=
 match ls with
 | [[a0,a1],[b0,b1]]=>(0≤a0∧a0<18446744073709551616)∧(0≤a1∧a1<18446744073709551616)∧(0≤b0∧b0<18446744073709551616)∧(0≤b1∧b1<18446744073709551616)∧(a0+b0)/18446744073709551616+a1+b1<18446744073709551616
 | _=>False
def I54 (_:List Int)(ls:List (List Int))(j:Nat):Int :=
 match ls,j with
 | [[a0,_],[b0,_]],0=>(a0+b0)%18446744073709551616
 | [[a0,a1],[b0,b1]],1=>(a0+b0)/18446744073709551616+a1+b1
 | _,_=>0
def P55 (_:List Int)(ls:List (List Int)):Prop :=
 match ls with
 | [[a0,a1]]=>(0≤a0∧a0<18446744073709551616)∧(0≤a1∧a1<18446744073709551616)
 | _=>False
def I55 (_:List Int)(ls:List (List Int))(j:Nat):Int :=
 match ls,j with
 | [[a0,a1]],0=>a0/4+a1%4*4611686018427387904
 | [[_,a1]],1=>a1/4
 | _,_=>0
theorem spec48 {F:Fns}(hp:F.p 48=P48)(hi:F.i 48=I48):CSpec Try.prog F 48 ct48:=by
 refine straight (callT_ok (tab:=[]) trivial) Try.func48 (by kernel_rfl) (by kernel_rfl) (by kernel_rfl) run48 (by kernel_rfl) fun is ls N h1 h2 h3 h4 h5=> ?_
 obtain rfl:=Shape.noInt rfl h1
 match ls,h1 with
 | [z,b],h1 =>
  obtain ⟨_,hl,_⟩:=h1
  have h2:P48 [] [z,b]:=by rw[←hp];exact h2
  have ea:N.a 0=b:=h3.a 0 (by decide)
  have hB:Bytes b:=h2 b (by simp)
  match b,hl with
  | [b0,b1,b2,b3,b4,b5,b6,b7],_ =>
   simp only[Bytes,List.forall_mem_cons] at hB
   obtain ⟨g0,g1,g2,g3,g4,g5,g6,g7,-⟩:=hB
   simp only[List.forall_mem_cons,Df.sat,Nd.ev,Ar.ev,ea] at h5
   obtain ⟨q30,q29,q28,q27,q26,q25,q24,q23,q22,q21,q20,q19,q18,q17,q16,q15,q14,q13,q12,q11,q10,q9,q8,q7,q6,q5,q4,q3,q2,q1,q0,-⟩:=h5
   have r1:N.i 1=b0:=q1
   have r3:N.i 3=b1:=q3
   have r7:N.i 7=b2:=q7
   have r11:N.i 11=b3:=q11
   have r15:N.i 15=b4:=q15
   have r19:N.i 19=b5:=q19
   have r23:N.i 23=b6:=q23
   have r27:N.i 27=b7:=q27
   rw[r1,IntKind.wrap_u64] at q2
   rw[r3,IntKind.wrap_u64] at q4
   rw[r7,IntKind.wrap_u64] at q8
   rw[r11,IntKind.wrap_u64] at q12
   rw[r15,IntKind.wrap_u64] at q16
   rw[r19,IntKind.wrap_u64] at q20
   rw[r23,IntKind.wrap_u64] at q24
   rw[r27,IntKind.wrap_u64] at q28
   have hs:∀(x:Int) (c:Nat) (ci:Int),ci=c→c≤64→0≤x*2^c→x*2^c<18446744073709551616→iop .shl .u64 x ci=x*2^c:=fun x c ci e hc h0 h1=>by
    rw[e,shl_kst (k:= .u64) (c:=c) hc,IntKind.wrap_u64,Int.emod_eq_of_lt h0 h1]
   have ho:∀(x y:Int) (c:Nat),0≤x→x<2^c→0≤y→x<18446744073709551616→y*2^c<18446744073709551616→iop .or .u64 x (y*2^c)=x+y*2^c:=fun x y c h0 h1 h2 h3 h4 =>
    or_shl (k:= .u64) rfl h0 h1 h2 (by simpa [IntKind.bits] using h3) (by simpa [IntKind.bits] using h4)
   rw[show N.i 2=b0 by omega] at q6
   rw[show N.i 4=b1 by omega,hs b1 8 8 rfl (by decide) (by omega) (by omega)] at q5
   rw[q5,ho b0 b1 8 (by omega) (by omega) (by omega) (by omega) (by omega)] at q6
   rw[show N.i 8=b2 by omega,hs b2 16 16 rfl (by decide) (by omega) (by omega)] at q9
   rw[q9,ho _ b2 16 (by omega) (by omega) (by omega) (by omega) (by omega)] at q10
   rw[show N.i 12=b3 by omega,hs b3 24 24 rfl (by decide) (by omega) (by omega)] at q13
   rw[q13,ho _ b3 24 (by omega) (by omega) (by omega) (by omega) (by omega)] at q14
   rw[show N.i 16=b4 by omega,hs b4 32 32 rfl (by decide) (by omega) (by omega)] at q17
   rw[q17,ho _ b4 32 (by omega) (by omega) (by omega) (by omega) (by omega)] at q18
   rw[show N.i 20=b5 by omega,hs b5 40 40 rfl (by decide) (by omega) (by omega)] at q21
   rw[q21,ho _ b5 40 (by omega) (by omega) (by omega) (by omega) (by omega)] at q22
   rw[show N.i 24=b6 by omega,hs b6 48 48 rfl (by decide) (by omega) (by omega)] at q25
   rw[q25,ho _ b6 48 (by omega) (by omega) (by omega) (by omega) (by omega)] at q26
   rw[show N.i 28=b7 by omega,hs b7 56 56 rfl (by decide) (by omega) (by omega)] at q29
   rw[q29,ho _ b7 56 (by omega) (by omega) (by omega) (by omega) (by omega)] at q30
   refine ⟨?_,⟨?_,trivial,trivial⟩,nofun⟩
   ·simp only[List.forall_mem_cons,Ob.holds,Ar.ev,ea,List.length_cons,List.length_nil]
    exact ⟨by decide,by decide,by decide,by decide,by decide,by decide,by decide,by decide,by decide,nofun⟩
   ·simp only[List.forall_mem_cons,Ar.ev]
    refine ⟨?_,nofun⟩
    show N.i 30=F.i 48 [] [z,[b0,b1,b2,b3,b4,b5,b6,b7]] 0
    rw[hi]
    simp only[I48,leV]
    omega
theorem spec54 {F:Fns}(hp:F.p 54=P54)(hi:F.i 54=I54):CSpec Try.prog F 54 ct54:=by
 refine straight (callT_ok (tab:=[]) trivial) Try.func54 (by kernel_rfl) (by kernel_rfl) (by kernel_rfl) run54 (by kernel_rfl) fun is ls N h1 h2 h3 h4 h5=> ?_
 obtain rfl:=Shape.noInt rfl h1
 match ls,h1 with
 | [a,b],h1 =>
  obtain ⟨hl1,hl2,_⟩:=h1
  match a,b,hl1,hl2 with
  | [a0,a1],[b0,b1],_,_ =>
   have h2:P54 [] [[a0,a1],[b0,b1]]:=by rw[←hp];exact h2
   obtain ⟨g1,g2,g3,g4,g5⟩:=h2
   have e0:N.i 0=a0:=h3.i 0 (by decide)
   have e1:N.i 1=a1:=h3.i 1 (by decide)
   have e2:N.i 2=b0:=h3.i 2 (by decide)
   have e3:N.i 3=b1:=h3.i 3 (by decide)
   simp only[List.forall_mem_cons,Df.sat,Nd.ev,Ar.ev,e0,e1,e2,e3] at h5
   obtain ⟨q8,q7,q6,q5,q4,-⟩:=h5
   have r5:N.i 5=(a0+b0)/18446744073709551616:=by
    rw[q5];split <;> omega
   have r7:N.i 7=0:=by
    rw[q7,if_neg];omega
   refine ⟨?_,⟨?_,trivial,trivial⟩,nofun⟩
   ·simp only[List.forall_mem_cons,Ob.holds,Ar.ev,e0,e1,e2,e3,q8,r7]
    refine ⟨by decide,by omega,by omega,by omega,by omega,by omega,by omega,by omega,by omega,nofun⟩
   ·simp only[List.forall_mem_cons,Ar.ev]
    refine ⟨?_,?_,nofun⟩
    ·show N.i 4=F.i 54 _ _ 0
     rw[hi,q4];simp only[I54];omega
    ·show N.i 6=F.i 54 _ _ 1
     rw[hi,q6];simp only[I54];omega
theorem spec55 {F:Fns}(hp:F.p 55=P55)(hi:F.i 55=I55):CSpec Try.prog F 55 ct55:=by
 refine straight (callT_ok (tab:=[]) trivial) Try.func55 (by kernel_rfl) (by kernel_rfl) (by kernel_rfl) run55 (by kernel_rfl) fun is ls N h1 h2 h3 h4 h5=> ?_
 obtain rfl:=Shape.noInt rfl h1
 match ls,h1 with
 | [a],h1 =>
  obtain ⟨hl1,_⟩:=h1
  match a,hl1 with
  | [a0,a1],_ =>
   have h2:P55 [] [[a0,a1]]:=by rw[←hp];exact h2
   obtain ⟨g1,g2⟩:=h2
   have e0:N.i 0=a0:=h3.i 0 (by decide)
   have e1:N.i 1=a1:=h3.i 1 (by decide)
   simp only[List.forall_mem_cons,Df.sat,Nd.ev,Ar.ev,e0,e1] at h5
   obtain ⟨q6,q5,q4,q3,q2,-⟩:=h5
   rw[show (2:Int)=((2:Nat):Int) from rfl,shr_kst (k:= .u64) (c:=2) (by decide)] at q6 q2
   rw[show (3:Int)=((2^2-1:Nat):Int) from rfl,and_mask (k:= .u64) (c:=2) rfl g2.1 (by simpa [IntKind.bits] using g2.2) (by decide)] at q3
   rw[show (62:Int)=((62:Nat):Int) from rfl,shl_kst (k:= .u64) (c:=62) (by decide),IntKind.wrap_u64,Int.emod_eq_of_lt (by omega) (by omega)] at q4
   rw[q4,or_shl (k:= .u64) (c:=62) rfl (by omega) (by omega) (by omega) (by simp only[IntKind.bits];omega) (by simp only[IntKind.bits];omega)] at q5
   refine ⟨nofun,⟨?_,trivial,trivial⟩,nofun⟩
   simp only[List.forall_mem_cons,Ar.ev]
   refine ⟨?_,?_,nofun⟩
   ·show N.i 5=F.i 55 _ _ 0
    rw[hi];simp only[I55];omega
   ·show N.i 6=F.i 55 _ _ 1
    rw[hi];simp only[I55];omega
end Go.Proofs.Ytlcljhlijmombaa
