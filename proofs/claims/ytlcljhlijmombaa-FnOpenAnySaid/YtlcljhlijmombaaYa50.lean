/- poly1305's beginning and end. poly1305.Sum does as its contract says. poly1305.Verify does as its contracts say. -/
import Derived.Test.YtlcljhlijmombaaYf34
import Derived.Test.YtlcljhlijmombaaYa49
import Derived.Test.YtlcljhlijmombaaYa0
namespace Go.Proofs.Ytlcljhlijmombaa
open Go.Sy
def A44 (_:List Int)(ls:List (List Int)):List Int :=
 match ls with
 | [key,[m0,m1,m2,_,_,_,_]]=>[m0,m1,m2,iop .and .u64 (leV (key.take 8)) 1152921487695413247,iop .and .u64 (leV ((key.drop 8).take 8)) 1152921487695413244,leV ((key.drop 16).take 8),leV ((key.drop 24).take 8)]
 | _=>[]
def P44 (_:List Int)(ls:List (List Int)):Prop :=
 match ls with
 | [key,_]=>Bytes key
 | _=>False
def P50 (_:List Int)(ls:List (List Int)):Prop :=
 match ls with
 | [_,[h0,h1,h2],[s0,s1]]=>LimbsOk h0 h1 h2∧(0≤s0∧s0<18446744073709551616)∧(0≤s1∧s1<18446744073709551616)
 | _=>False
def A50 (_:List Int)(ls:List (List Int)):List Int :=
 match ls with
 | [_,[h0,h1,h2],[s0,s1]]=>outB (limbV h0 h1 h2) (s0+s1*18446744073709551616)
 | _=>[]
theorem map_nums {N:Num}:∀ {L:List Int} {_x:Nat} {l:List Ar},l.length=L.length→(∀ j,j<L.length→(l[j]?.map (·.ev N))=L[j]?)→l.map (·.ev N)=L
 | [],_,[],_,_=>rfl
 | v::L,x,a::l,h,k=>by
  have h0:=k 0 (by simp)
  simp only[List.getElem?_cons_zero,Option.map_some,Option.some.injEq] at h0
  simp only[List.map_cons,h0]
  rw[map_nums (_x:=x) (by simpa using h) (fun j hj=>by simpa using k (j+1) (by simpa using hj))]
 | [],_,_::_,h,_=>by simp at h
 | _::_,_,[],h,_=>by simp at h
theorem list8 {l:List Int}(h:8≤l.length):l.take 8=[l.getD 0 0,l.getD 1 0,l.getD 2 0,l.getD 3 0,l.getD 4 0,l.getD 5 0,l.getD 6 0,l.getD 7 0]:=by
 match l,h with
 | a::b::c::d::e::f::g::i::l,_=>rfl
theorem getD_drop' (l:List Int)(o j:Nat):(l.drop o).getD j 0=l.getD (o+j) 0:=by
 rw[List.getD_eq_getElem?_getD,List.getElem?_drop,List.getD_eq_getElem?_getD]
theorem spec44 {F:Fns}(hF:F49 F)(hp:F.p 44=P44)(ha:F.a 44=A44):CSpec Try.prog F 44 ct44:=by
 refine straight (callT_ok (tab:=tab44) ⟨⟨by kernel_rfl,fun c hc=>by simp only[List.mem_singleton] at hc;subst hc;exact spec48 hF.p48 hF.i48⟩,trivial⟩) Try.func44 (by kernel_rfl) (by kernel_rfl) (by kernel_rfl) run44 (by kernel_rfl) fun is ls N h1 h2 h3 h4 h5=> ?_
 obtain rfl:=Shape.noInt rfl h1
 match ls,h1 with
 | [key,m],h1 =>
  obtain ⟨hl1,hl2,_⟩:=h1
  match m,hl2 with
  | [m0,m1,m2,m3,m4,m5,m6],_ =>
  have hB:P44 [] [key,[m0,m1,m2,m3,m4,m5,m6]]:=by rw[←hp];exact h2
  have hB:Bytes key:=hB
  have e:∀x,x<39→N.i x=(key++[m0,m1,m2,m3,m4,m5,m6]).getD x 0:=fun x hx=>by
   have:=h3.i x hx
   rw[this]
   show (numsL ct44.ps [] [key,[m0,m1,m2,m3,m4,m5,m6]]).getD x 0=_
   simp only[ct44,numsL,List.append_nil]
  have ek:∀x,x<32→N.i x=key.getD x 0:=fun x hx=>by
   rw[e x (by omega),List.getD_eq_getElem?_getD,List.getElem?_append_left (by omega),List.getD_eq_getElem?_getD]
  have em:∀x,x<7→N.i (32+x)=[m0,m1,m2,m3,m4,m5,m6].getD x 0:=fun x hx=>by
   rw[e (32+x) (by omega),List.getD_eq_getElem?_getD,List.getElem?_append_right (by omega),List.getD_eq_getElem?_getD,hl1,Nat.add_sub_cancel_left]
  have w8:∀o,o+8≤32→[N.i o,N.i (o+1),N.i (o+2),N.i (o+3),N.i (o+4),N.i (o+5),N.i (o+6),N.i (o+7)]=(key.drop o).take 8:=fun o ho=>by
   rw[list8 (by rw[List.length_drop];omega)]
   simp only[getD_drop',Nat.add_zero]
   rw[ek _ (by omega),ek _ (by omega),ek _ (by omega),ek _ (by omega),ek _ (by omega),ek _ (by omega),ek _ (by omega),ek _ (by omega)]
  simp only[List.forall_mem_cons,Df.sat,Nd.ev,Ad.ev,Ar.ev,List.map_cons,List.map_nil,h4,hF.i48] at h5
  obtain ⟨q44,w7,w6,q43,w5,w4,q42,q41,w3,w2,q40,q39,w1,w0,-⟩:=h5
  have t7:N.a 7=(key.drop 24).take 8:=w7.trans (w8 24 (by decide))
  have t5:N.a 5=(key.drop 16).take 8:=w5.trans (w8 16 (by decide))
  have t3:N.a 3=(key.drop 8).take 8:=w3.trans (w8 8 (by decide))
  have t1:N.a 1=(key.drop 0).take 8:=w1.trans (w8 0 (by decide))
  refine ⟨?_,⟨nofun,?_,trivial⟩,fun L h=> ?_⟩
  ·simp only[List.forall_mem_cons,Ob.holds,List.map_cons,List.map_nil,h4,hF.p48]
   exact ⟨P48.mk w6 (by rw[t7];exact bytes_sub hB _ _),P48.mk w4 (by rw[t5];exact bytes_sub hB _ _),P48.mk w2 (by rw[t3];exact bytes_sub hB _ _),P48.mk w0 (by rw[t1];exact bytes_sub hB _ _),nofun⟩
  ·show List.map (fun x=>Ar.ev N x) _=F.a 44 _ _
   rw[ha]
   simp only[List.map_cons,List.map_nil,Ar.ev,A44,q44,q43,q42,q41,q40,q39,I48,t7,t5,t3,t1,List.drop_zero]
   rw[show N.i 32=m0 from em 0 (by decide),show N.i 33=m1 from em 1 (by decide),show N.i 34=m2 from em 2 (by decide)]
  ·have:L=[m0,m1,m2,m3,m4,m5,m6]:=by
    simp only[ct44,rwArg,Option.some.injEq] at h;exact h.symm
   subst this
   show (F.a 44 [] _).length=_
   rw[ha];rfl
set_option maxHeartbeats 2000000 in
theorem spec50 {F:Fns}(hp:F.p 50=P50)(ha:F.a 50=A50):CSpec Try.prog F 50 ct50:=by
 refine straight (callT_ok (tab:=[]) trivial) Try.func50 (by kernel_rfl) (by kernel_rfl) (by kernel_rfl) run50 (by kernel_rfl) fun is ls N h1 h2 h3 h4 h5=> ?_
 obtain rfl:=Shape.noInt rfl h1
 match ls,h1 with
 | [out,h,s],h1 =>
  obtain ⟨hl1,hl2,hl3,_⟩:=h1
  match h,s,hl2,hl3 with
  | [h0,h1,h2'],[s0,s1],_,_ =>
  have h2:P50 [] [out,[h0,h1,h2'],[s0,s1]]:=by rw[←hp];exact h2
  obtain ⟨⟨g0,g1,g2⟩,k0,k1⟩:=h2
  have e:∀x,x<5→N.i (16+x)=[h0,h1,h2',s0,s1].getD x 0:=fun x hx=>by
   have:=h3.i (16+x) (by show 16+x<21;omega)
   rw[this]
   show (numsL ct50.ps [] [out,[h0,h1,h2'],[s0,s1]]).getD (16+x) 0=_
   simp only[ct50,numsL]
   rw[List.getD_eq_getElem?_getD,List.getElem?_append_right (by omega),List.getD_eq_getElem?_getD,hl1,Nat.add_sub_cancel_left];rfl
  have e16:N.i 16=h0:=e 0 (by decide)
  have e17:N.i 17=h1:=e 1 (by decide)
  have e18:N.i 18=h2':=e 2 (by decide)
  have e19:N.i 19=s0:=e 3 (by decide)
  have e20:N.i 20=s1:=e 4 (by decide)
  clear e h3
  simp only[List.forall_mem_cons,Df.sat,Nd.ev,Ar.ev,e16,e17,e18,e19,e20] at h5
  obtain ⟨q72,q71,q70,q69,q68,q67,q66,q65,q64,q63,q62,q61,q60,q59,q58,q57,q56,q55,q54,q53,q52,q51,q50,q49,q48,q47,q46,q45,q44,q43,q42,q41,q40,q39,q38,q37,q36,q35,q34,q33,q32,q31,q30,q29,q28,q27,q26,q25,q24,q23,q22,q21,-⟩:=h5
  rw[sbS g0 (by decide) (by decide),Int.sub_zero] at q21
  rw[sbC g0.1 (by decide) (by decide),Int.add_zero] at q22
  have c22:0≤N.i 22∧N.i 22≤1:=by rw[q22];split <;> decide
  rw[sbS g1 (by decide) c22] at q23
  rw[sbC g1.1 (by decide) c22.1] at q24
  have c24:0≤N.i 24∧N.i 24≤1:=by rw[q24];split <;> decide
  rw[sbC g2.1 (by decide) c24.1] at q26
  have c26:N.i 26=0∨N.i 26=1:=by rw[q26];split <;> simp
  have b21:0≤N.i 21∧N.i 21<18446744073709551616:=by rw[q21];exact modB _
  have b23:0≤N.i 23∧N.i 23<18446744073709551616:=by rw[q23];exact modB _
  have s32:=q32.trans (sel64 c26 g0 b21 q27 q28 q29 (by rw[q31,q30]))
  have s38:=q38.trans (sel64 c26 g1 b23 q33 q34 q35 (by rw[q37,q36]))
  have b32:0≤N.i 32∧N.i 32<18446744073709551616:=by rw[s32];split;exact g0;exact b21
  have b38:0≤N.i 38∧N.i 38<18446744073709551616:=by rw[s38];split;exact g1;exact b23
  rw[adS b32.1 k0.1 (Int.le_refl _),Int.add_zero] at q39
  rw[adC b32 k0 (by decide),Int.add_zero] at q40
  have c40:0≤N.i 40∧N.i 40≤1:=by
   rw[q40,←Int.add_zero (N.i 32+s0)];exact carB b32 k0 (by decide)
  rw[adS b38.1 k1.1 c40.1] at q41
  have b39:0≤N.i 39∧N.i 39<18446744073709551616:=by rw[q39];exact modB _
  have main:=fin50 g0 g1 g2 k0 k1 q21 q22 q23 q24 q26 s32 s38 q39 q40 q41
  have hs:∀(x:Int) (c:Nat) (ci:Int),ci=c→c≤64→iop .shr .u64 x ci=x/(2:Int)^c:=fun x c ci e hc=>by rw[e];exact shr_kst (k:= .u64) hc
  refine ⟨?_,⟨nofun,?_,trivial⟩,fun L h=> ?_⟩
  ·simp only[List.forall_mem_cons,Ob.holds,Ar.ev,e16,e17,e18,e19,e20]
   exact ⟨k1.2,k1.1,k0.2,k0.1,Int.lt_of_le_of_lt g2.2 (by decide),g2.1,g1.2,g1.1,g0.2,g0.1,nofun⟩
  ·show List.map (fun x=>Ar.ev N x) _=F.a 50 _ _
   rw[ha]
   show _=outB (limbV h0 h1 h2') (s0+s1*18446744073709551616)
   unfold limbV
   rw[outB_of (a:=N.i 39) (b:=N.i 41) b39 main,leB8,leB8]
   simp only[List.map_cons,List.map_nil,Ar.ev,IntKind.wrap_u8,List.cons_append,List.nil_append,q72,q71,q70,q69,q68,q67,q66,q65,q64,q63,q62,q61,q60,q59,q58,q57,q56,q55,q54,q53,q52,q51,q50,q49,q48,q47,q46,q45,q44,q43,
    hs _ 8 8 rfl (by decide),hs _ 16 16 rfl (by decide),hs _ 24 24 rfl (by decide),hs _ 32 32 rfl (by decide),hs _ 40 40 rfl (by decide),hs _ 48 48 rfl (by decide),hs _ 56 56 rfl (by decide)]
   rfl
  ·have:L=out:=by
    simp only[ct50,rwArg,Option.some.injEq] at h;exact h.symm
   subst this
   show (F.a 50 [] _).length=_
   rw[ha,hl1];exact leB_length 16 _
open Go.Sy
def P34 (_:List Int)(ls:List (List Int)):Prop :=
 match ls with
 | [_,m,key]=>Bytes m∧Bytes key∧m.length≤1099511627776
 | _=>False
def A34 (_:List Int)(ls:List (List Int)):List Int :=
 match ls with
 | [_,m,key]=>tagL key m
 | _=>[]
structure F34 (F:Fns):Prop extends F49 F where
 p44:F.p 44=P44
 a44:F.a 44=A44
 p50:F.p 50=P50
 a50:F.a 50=A50
 p34:F.p 34=P34
 a34:F.a 34=A34
theorem tab34_ok {F:Fns}(h:F34 F):TabOk F tab34 :=
 ⟨⟨by kernel_rfl,fun c hc=>by simp only[List.mem_singleton] at hc;subst hc;exact spec44 h.toF49 h.p44 h.a44⟩,
  ⟨by kernel_rfl,fun c hc=>by simp only[List.mem_singleton] at hc;subst hc;exact spec49 h.toF49⟩,
  ⟨by kernel_rfl,fun c hc=>by simp only[List.mem_singleton] at hc;subst hc;exact spec50 h.p50 h.a50⟩,trivial⟩
theorem list7 {L:List Int}(h:L.length=7):[L.getD 0 0,L.getD 1 0,L.getD 2 0,L.getD 3 0,L.getD 4 0,L.getD 5 0,L.getD 6 0]=L:=by
 match L,h with
 | [_,_,_,_,_,_,_],_=>rfl
theorem list16 {L:List Int}(h:L.length=16):[L.getD 0 0,L.getD 1 0,L.getD 2 0,L.getD 3 0,L.getD 4 0,L.getD 5 0,L.getD 6 0,L.getD 7 0,L.getD 8 0,L.getD 9 0,L.getD 10 0,L.getD 11 0,L.getD 12 0,L.getD 13 0,L.getD 14 0,L.getD 15 0]=L:=by
 match L,h with
 | [_,_,_,_,_,_,_,_,_,_,_,_,_,_,_,_],_=>rfl
theorem list32 {L:List Int}(h:L.length=32):[L.getD 0 0,L.getD 1 0,L.getD 2 0,L.getD 3 0,L.getD 4 0,L.getD 5 0,L.getD 6 0,L.getD 7 0,L.getD 8 0,L.getD 9 0,L.getD 10 0,L.getD 11 0,L.getD 12 0,L.getD 13 0,L.getD 14 0,L.getD 15 0,
  L.getD 16 0,L.getD 17 0,L.getD 18 0,L.getD 19 0,L.getD 20 0,L.getD 21 0,L.getD 22 0,L.getD 23 0,L.getD 24 0,L.getD 25 0,L.getD 26 0,L.getD 27 0,L.getD 28 0,L.getD 29 0,L.getD 30 0,L.getD 31 0]=L:=by
 match L,h with
 | [_,_,_,_,_,_,_,_,_,_,_,_,_,_,_,_,_,_,_,_,_,_,_,_,_,_,_,_,_,_,_,_],_=>rfl
def st7 (H:Int)(key:List Int):List Int:=[H%18446744073709551616,H/18446744073709551616%18446744073709551616,H/340282366920938463463374607431768211456,r0K key,r1K key,s0K key,s1K key]
def RK (key:List Int):Int:=r0K key+r1K key*18446744073709551616
theorem limb_eq (H:Int):H%18446744073709551616+H/18446744073709551616%18446744073709551616*18446744073709551616+H/340282366920938463463374607431768211456*340282366920938463463374607431768211456=H:=by omega
theorem A49_st (H:Int)(key M:List Int):A49 [] [st7 H key,M]=st7 (updH (RK key) M.length H M) key:=by
 simp only[A49,st7,limb_eq];rfl
theorem limbs_ok {H:Int}(h0:0≤H)(h1:H<1701411834604692317316873037158841057280):LimbsOk (H%18446744073709551616) (H/18446744073709551616%18446744073709551616) (H/340282366920938463463374607431768211456):=by
 unfold LimbsOk;omega
theorem r_bd {key:List Int}(hB:Bytes key)(hl:key.length=32):(0≤r0K key∧r0K key≤1152921487695413247)∧(0≤r1K key∧r1K key≤1152921487695413244) :=
 ⟨and_le (k:=1152921487695413247) (leV8 (hB.take 8) (by rw[List.length_take];omega)) (by decide),and_le (k:=1152921487695413244) (leV8 (bytes_sub hB 8 8) (by rw[List.length_take,List.length_drop];omega)) (by decide)⟩
theorem RK_bd {key:List Int}(hB:Bytes key)(hl:key.length=32):0≤RK key∧RK key<21267647932558653966460912964485513216:=by
 have:=r_bd hB hl
 unfold RK;omega
theorem s_bd {key:List Int}(hB:Bytes key)(hl:key.length=32):(0≤s0K key∧s0K key<18446744073709551616)∧(0≤s1K key∧s1K key<18446744073709551616) :=
 ⟨leV8 (bytes_sub hB 16 8) (by rw[List.length_take,List.length_drop];omega),leV8 (bytes_sub hB 24 8) (by rw[List.length_take,List.length_drop];omega)⟩
theorem P49_st {H:Int}{key M:List Int}(h0:0≤H)(h1:H<1701411834604692317316873037158841057280)(hB:Bytes key)(hl:key.length=32)(hM:Bytes M):P49 [] [st7 H key,M]:=by
 obtain ⟨a,b,c⟩:=limbs_ok h0 h1
 exact ⟨a,b,c,(r_bd hB hl).1,(r_bd hB hl).2,hM⟩
theorem P50_st {H:Int}{key z:List Int}(h0:0≤H)(h1:H<1701411834604692317316873037158841057280)(hB:Bytes key)(hl:key.length=32) :
  P50 [] [z,[H%18446744073709551616,H/18446744073709551616%18446744073709551616,H/340282366920938463463374607431768211456],[s0K key,s1K key]]:=⟨limbs_ok h0 h1,(s_bd hB hl).1,(s_bd hB hl).2⟩
theorem A50_st (H:Int)(key z:List Int):A50 [] [z,[H%18446744073709551616,H/18446744073709551616%18446744073709551616,H/340282366920938463463374607431768211456],[s0K key,s1K key]]=outB H (s0K key+s1K key*18446744073709551616):=by
 simp only[A50,limbV,limb_eq]
theorem outB_length (H s:Int):(outB H s).length=16:=leB_length 16 _
theorem rem16 (L:Nat):iop .rem .i64 (L:Int) 16=((L%16:Nat):Int):=by
 simp only[iop]
 rw[Int.tmod_eq_emod_of_nonneg (by omega)];rfl
theorem wrap_i64 {x:Int}(h0:0≤x)(h1:x<9223372036854775808):IntKind.i64.wrap x=x:=by rw[IntKind.wrap_i64];omega
theorem sub16 {L:Nat}(h:L≤1099511627776):iop .sub .i64 (L:Int) ((L%16:Nat):Int)=((L-L%16:Nat):Int):=by
 simp only[iop];rw[wrap_i64 (by omega) (by omega)];omega
theorem add0 {r:Nat}(h:r<16):iop .add .i64 0 (r:Int)=(r:Int):=by
 simp only[iop];rw[wrap_i64 (by omega) (by omega)];omega
theorem gt0 {x:Int}(h:0<x):(!((bif icmp .gtr x 0 then (1:Int) else 0)==0))=true:=boo_true (decide_eq_true h)
theorem ngt0 {x:Int}(h:¬0<x):(!((bif icmp .gtr x 0 then (1:Int) else 0)==0))=false:=boo_false (decide_eq_false h)
theorem congr32 {f:Nat→Int}{L:List Int}(h:∀x,x<32→f (17+x)=L.getD x 0):[f 17,f 18,f 19,f 20,f 21,f 22,f 23,f 24,f 25,f 26,f 27,f 28,f 29,f 30,f 31,f 32,f 33,f 34,f 35,f 36,f 37,f 38,f 39,f 40,f 41,f 42,f 43,f 44,f 45,f 46,f 47,f 48] =
  [L.getD 0 0,L.getD 1 0,L.getD 2 0,L.getD 3 0,L.getD 4 0,L.getD 5 0,L.getD 6 0,L.getD 7 0,L.getD 8 0,L.getD 9 0,L.getD 10 0,L.getD 11 0,L.getD 12 0,L.getD 13 0,L.getD 14 0,L.getD 15 0,
  L.getD 16 0,L.getD 17 0,L.getD 18 0,L.getD 19 0,L.getD 20 0,L.getD 21 0,L.getD 22 0,L.getD 23 0,L.getD 24 0,L.getD 25 0,L.getD 26 0,L.getD 27 0,L.getD 28 0,L.getD 29 0,L.getD 30 0,L.getD 31 0]:=by
 rw[←h 0 (by decide),←h 1 (by decide),←h 2 (by decide),←h 3 (by decide),←h 4 (by decide),←h 5 (by decide),←h 6 (by decide),←h 7 (by decide),←h 8 (by decide),←h 9 (by decide),←h 10 (by decide),←h 11 (by decide),←h 12 (by decide),←h 13 (by decide),←h 14 (by decide),←h 15 (by decide),←h 16 (by decide),←h 17 (by decide),←h 18 (by decide),←h 19 (by decide),←h 20 (by decide),←h 21 (by decide),←h 22 (by decide),←h 23 (by decide),←h 24 (by decide),←h 25 (by decide),←h 26 (by decide),←h 27 (by decide),←h 28 (by decide),←h 29 (by decide),←h 30 (by decide),←h 31 (by decide)]
set_option maxHeartbeats 4000000 in
theorem spec34 {F:Fns}(hF:F34 F):CSpec Try.prog F 34 ct34:=by
 refine cspec_of (args:=argsOf ct34) (σe:=stOf ct34) rfl Try.func34 (body_some (by kernel_rfl)) (by kernel_rfl) (by kernel_rfl) fun is ls ws we Ee a hs hp hent hat=> ?_
 obtain rfl:=Shape.noInt rfl hs
 match ls,hs with
 | [out,m,key],hs =>
 obtain ⟨hlo,hlk,-⟩:=hs
 have hp:P34 [] [out,m,key]:=by rw[←hF.p34];exact hp
 obtain ⟨hB,hBk,hbig⟩:=hp
 have hlen:∀L,rwArg ct34.ps [] [out,m,key]=some L→(F.a ct34.fw [] [out,m,key]).length=L.length:=fun L h=>by
  have:L=out:=by simp only[ct34,rwArg,Option.some.injEq] at h;exact h.symm
  subst this
  show (F.a 34 [] _).length=_
  rw[hF.a34,hlo];exact outB_length _ _
 have hnum:∀x,x<49→(num0 F ct34.ps [] [out,m,key]).i x=(out++(m.length:Int)::key).getD x 0:=fun x _=>by
  show (numsL ct34.ps [] [out,m,key]).getD x 0=_
  simp only[ct34,numsL,List.append_nil]
 have hnum16:(out++(m.length:Int)::key).getD 16 0=(m.length:Int):=by
  rw[List.getD_eq_getElem?_getD,List.getElem?_append_right (by omega),hlo];rfl
 have hkey:∀x,x<32→(num0 F ct34.ps [] [out,m,key]).i (17+x)=key.getD x 0:=fun x hx=>by
  rw[hnum _ (by omega),List.getD_eq_getElem?_getD,List.getElem?_append_right (by omega),hlo,show 17+x-16=x+1 by omega,List.getElem?_cons_succ,List.getD_eq_getElem?_getD]
 have hz:(0:Int)<1701411834604692317316873037158841057280:=by decide
 have hR:=RK_bd hBk hlk
 have hP44:∀z,P44 [] [key,z]:=fun z=>hBk
 rcases Nat.eq_zero_or_pos (m.length-m.length%16) with hq | hq <;> rcases Nat.eq_zero_or_pos (m.length%16) with hr | hr
 ·
  have hm0:m=[]:=List.length_eq_zero_iff.1 (by omega)
  refine to_end hm (callT_ok (tab34_ok hF)) run34d (by kernel_rfl) hat hent fun N hag hf hd=> ?_
  have e:∀x,x<49→N.i x=(num0 F ct34.ps [] [out,m,key]).i x:=hag.i
  have ea:N.a 0=m:=hag.a 0 (by decide)
  have e16:N.i 16=(m.length:Int):=by rw[e 16 (by decide),hnum 16 (by decide)];exact hnum16
  have ek:∀x,x<32→N.i (17+x)=key.getD x 0:=fun x hx=>by rw[e _ (by omega)];exact hkey x hx
  clear e hag hat
  simp only[List.forall_mem_cons,Df.sat,Nd.ev,Ad.ev,Ar.ev,List.map_cons,List.map_nil,hf,hF.a44,hF.a50] at hd
  obtain ⟨q91,q90,q89,q88,q87,q86,q85,q84,q83,q82,q81,q80,q79,q78,q77,q76,w8,q75,q74,q73,q72,q71,q70,q69,q68,q67,q66,q65,q64,q63,q62,q61,q60,w7,w6,w5,w4,q59,q58,q57,q56,q55,q54,q53,q52,q51,q50,q49,w3,w2,w1,-⟩:=hd
  have t1:N.a 1=key:=by
   rw[w1]
   exact (congr32 ek).trans (list32 hlk)
  have t3:N.a 3=st7 0 key:=by rw[w3,t1,w2];rfl
  have t6:N.a 6=[s0K key,s1K key]:=by rw[w6,q54,q55,t3];rfl
  have t5:N.a 5=[(0:Int)%18446744073709551616,(0:Int)/18446744073709551616%18446744073709551616,(0:Int)/340282366920938463463374607431768211456]:=by rw[w5,q49,q50,q51,t3];rfl
  have t7:N.a 7=outB ((0:Int)) (s0K key+s1K key*18446744073709551616):=by rw[w7,t5,t6];exact A50_st _ _ _
  have l7:(N.a 7).length=16:=by rw[t7];exact outB_length _ _
  have t8:N.a 8=N.a 7:=by rw[w8,q60,q61,q62,q63,q64,q65,q66,q67,q68,q69,q70,q71,q72,q73,q74,q75];exact list16 l7
  have h57:N.i 57=0:=by rw[q57,q56,e16,rem16,sub16 hbig,hq];rfl
  have h16:N.i 16=0:=by rw[e16,hm0];rfl
  refine ⟨?_,⟨nofun,?_,trivial⟩,hlen⟩
  ·simp only[List.forall_mem_cons,Ob.holds,Ar.ev,List.map_cons,List.map_nil,hf,hF.p44,hF.p50,t1,t5,t6,q59,q58,h57,h16]
   exact ⟨P50_st (Int.le_refl _) hz hBk hlk,rfl,by decide,rfl,by decide,by decide,by decide,hP44 _,nofun⟩
  ·show List.map (fun x=>Ar.ev N x) _=F.a 34 _ _
   rw[hF.a34]
   simp only[List.map_cons,List.map_nil,Ar.ev,q76,q77,q78,q79,q80,q81,q82,q83,q84,q85,q86,q87,q88,q89,q90,q91,t8]
   refine (list16 l7).trans ?_
   rw[t7]
   subst hm0;rfl
 ·
  have hmr:m.length=m.length%16:=by omega
  refine to_end hm (callT_ok (tab34_ok hF)) run34c (by kernel_rfl) hat hent fun N hag hf hd=> ?_
  have e:∀x,x<49→N.i x=(num0 F ct34.ps [] [out,m,key]).i x:=hag.i
  have ea:N.a 0=m:=hag.a 0 (by decide)
  have e16:N.i 16=(m.length:Int):=by rw[e 16 (by decide),hnum 16 (by decide)];exact hnum16
  have ek:∀x,x<32→N.i (17+x)=key.getD x 0:=fun x hx=>by rw[e _ (by omega)];exact hkey x hx
  clear e hag hat
  simp only[List.forall_mem_cons,Df.sat,Nd.ev,Ad.ev,Ar.ev,List.map_cons,List.map_nil,hf,hF.a44,hF.a49,hF.a50] at hd
  obtain ⟨q117,q116,q115,q114,q113,q112,q111,q110,q109,q108,q107,q106,q105,q104,q103,q102,w15,q101,q100,q99,q98,q97,q96,q95,q94,q93,q92,q91,q90,q89,q88,q87,q86,w14,w13,w12,w11,q85,q84,q83,q82,q81,q80,q79,w10,w9,w8,w7,q78,q77,q76,q75,q74,q73,q72,q71,q70,q69,q68,q67,q66,q65,q64,q63,q62,q61,w6,w5,w4,q60,q59,q58,q57,q56,q55,q54,q53,q52,q51,q50,q49,w3,w2,w1,-⟩:=hd
  have t1:N.a 1=key:=by
   rw[w1]
   exact (congr32 ek).trans (list32 hlk)
  have t3:N.a 3=st7 0 key:=by rw[w3,t1,w2];rfl
  have h57:N.i 57=0:=by rw[q57,q56,e16,rem16,sub16 hbig,hq];rfl
  have h60:N.i 60=(m.length:Int):=(q60.trans (if_neg (by rw[e16];omega))).trans e16
  have h77:N.i 77=(m.length:Int):=by rw[q77,h60];exact add0 (by omega)
  have t4:N.a 4=m:=by
   rw[w4,ea,h60]
   show (m.drop 0).take (m.length:Int).toNat=m
   rw[Int.toNat_natCast,List.drop_zero,List.take_length]
  have t6:N.a 6=m++List.replicate (16-m.length) 0:=by
   rw[w6,w5,t4]
   show List.take 0 _++m++List.drop (0+m.length) (List.replicate 16 (0:Int))=_
   rw[List.take_zero,List.nil_append,Nat.zero_add,List.drop_replicate]
  have l6:(N.a 6).length=16:=by rw[t6,List.length_append,List.length_replicate];omega
  have t8:N.a 8=N.a 6:=by rw[w8,q61,q62,q63,q64,q65,q66,q67,q68,q69,q70,q71,q72,q73,q74,q75,q76];exact list16 l6
  have t9:N.a 9=m:=by
   rw[w9,t8,h77,t6]
   show ((m++List.replicate (16-m.length) 0).drop 0).take (m.length:Int).toNat=m
   rw[Int.toNat_natCast,List.drop_zero,List.take_left]
  have t7:N.a 7=st7 0 key:=by rw[w7,q49,q50,q51,q52,q53,q54,q55,t3];rfl
  have t10:N.a 10=st7 (updH (RK key) m.length 0 m) key:=by rw[w10,t7,t9];exact A49_st _ _ _
  have hH:=updH_bound hR.1 hR.2 m.length hB (Int.le_refl 0) hz
  have t13:N.a 13=[s0K key,s1K key]:=by rw[w13,q84,q85,t10];rfl
  have t12:N.a 12=[updH (RK key) m.length 0 m%18446744073709551616,updH (RK key) m.length 0 m/18446744073709551616%18446744073709551616,updH (RK key) m.length 0 m/340282366920938463463374607431768211456]:=by rw[w12,q79,q80,q81,t10];rfl
  have t14:N.a 14=outB (updH (RK key) m.length 0 m) (s0K key+s1K key*18446744073709551616):=by rw[w14,t12,t13];exact A50_st _ _ _
  have l14:(N.a 14).length=16:=by rw[t14];exact outB_length _ _
  have t15:N.a 15=N.a 14:=by rw[w15,q86,q87,q88,q89,q90,q91,q92,q93,q94,q95,q96,q97,q98,q99,q100,q101];exact list16 l14
  refine ⟨?_,⟨nofun,?_,trivial⟩,hlen⟩
  ·simp only[List.forall_mem_cons,Ob.holds,Ar.ev,List.map_cons,List.map_nil,hf,hF.p44,hF.p49,hF.p50,t1,t12,t13,t7,t9,q78,q59,q58,h57,h60,h77,e16,t8,l6,ea]
   refine ⟨P50_st hH.1 hH.2 hBk hlk,P49_st (Int.le_refl _) hz hBk hlk hB,⟨by decide,by omega,by omega⟩,by omega,by omega,by omega,gt0 (by omega),⟨by decide,by omega,?_⟩,by omega,⟨by decide,by omega,by omega⟩,gt0 (by omega),by omega,rfl,by omega,by omega,by omega,hP44 _,nofun⟩
   rw[w5];show (0:Int)+(m.length:Int)≤((List.replicate 16 (0:Int)).length:Int)
   rw[List.length_replicate];omega
  ·show List.map (fun x=>Ar.ev N x) _=F.a 34 _ _
   rw[hF.a34]
   simp only[List.map_cons,List.map_nil,Ar.ev,q102,q103,q104,q105,q106,q107,q108,q109,q110,q111,q112,q113,q114,q115,q116,q117,t15]
   refine (list16 l14).trans ?_
   rw[t14]
   rfl
 ·
  have hmq:m.length-m.length%16=m.length:=by omega
  refine to_end hm (callT_ok (tab34_ok hF)) run34b (by kernel_rfl) hat hent fun N hag hf hd=> ?_
  have e:∀x,x<49→N.i x=(num0 F ct34.ps [] [out,m,key]).i x:=hag.i
  have ea:N.a 0=m:=hag.a 0 (by decide)
  have e16:N.i 16=(m.length:Int):=by rw[e 16 (by decide),hnum 16 (by decide)];exact hnum16
  have ek:∀x,x<32→N.i (17+x)=key.getD x 0:=fun x hx=>by rw[e _ (by omega)];exact hkey x hx
  clear e hag hat
  simp only[List.forall_mem_cons,Df.sat,Nd.ev,Ad.ev,Ar.ev,List.map_cons,List.map_nil,hf,hF.a44,hF.a49,hF.a50] at hd
  obtain ⟨q97,q96,q95,q94,q93,q92,q91,q90,q89,q88,q87,q86,q85,q84,q83,q82,w11,q81,q80,q79,q78,q77,q76,q75,q74,q73,q72,q71,q70,q69,q68,q67,q66,w10,w9,w8,w7,q65,q64,q63,q62,q61,q60,q59,w6,w5,w4,q58,q57,q56,q55,q54,q53,q52,q51,q50,q49,w3,w2,w1,-⟩:=hd
  have t1:N.a 1=key:=by
   rw[w1]
   exact (congr32 ek).trans (list32 hlk)
  have t3:N.a 3=st7 0 key:=by rw[w3,t1,w2];rfl
  have h57:N.i 57=(m.length:Int):=by rw[q57,q56,e16,rem16,sub16 hbig,hmq]
  have t5:N.a 5=m:=by
   rw[w5,ea,h57]
   show (m.drop 0).take (m.length:Int).toNat=m
   rw[Int.toNat_natCast,List.drop_zero,List.take_length]
  have t4:N.a 4=st7 0 key:=by rw[w4,q49,q50,q51,q52,q53,q54,q55,t3];rfl
  have t6:N.a 6=st7 (updH (RK key) m.length 0 m) key:=by rw[w6,t4,t5];exact A49_st _ _ _
  have hH:=updH_bound hR.1 hR.2 m.length hB (Int.le_refl 0) hz
  have t9:N.a 9=[s0K key,s1K key]:=by rw[w9,q64,q65,t6];rfl
  have t8:N.a 8=[updH (RK key) m.length 0 m%18446744073709551616,updH (RK key) m.length 0 m/18446744073709551616%18446744073709551616,updH (RK key) m.length 0 m/340282366920938463463374607431768211456]:=by rw[w8,q59,q60,q61,t6];rfl
  have t10:N.a 10=outB (updH (RK key) m.length 0 m) (s0K key+s1K key*18446744073709551616):=by rw[w10,t8,t9];exact A50_st _ _ _
  have l10:(N.a 10).length=16:=by rw[t10];exact outB_length _ _
  have t11:N.a 11=N.a 10:=by rw[w11,q66,q67,q68,q69,q70,q71,q72,q73,q74,q75,q76,q77,q78,q79,q80,q81];exact list16 l10
  refine ⟨?_,⟨nofun,?_,trivial⟩,hlen⟩
  ·simp only[List.forall_mem_cons,Ob.holds,Ar.ev,List.map_cons,List.map_nil,hf,hF.p44,hF.p49,hF.p50,t1,t8,t9,t4,t5,q58,h57,e16,ea]
   exact ⟨P50_st hH.1 hH.2 hBk hlk,trivial,Int.le_refl _,Int.le_refl _,by omega,P49_st (Int.le_refl _) hz hBk hlk hB,⟨by decide,by omega,by omega⟩,Int.le_refl _,by omega,gt0 (by omega),by omega,by omega,by omega,hP44 _,nofun⟩
  ·show List.map (fun x=>Ar.ev N x) _=F.a 34 _ _
   rw[hF.a34]
   simp only[List.map_cons,List.map_nil,Ar.ev,q82,q83,q84,q85,q86,q87,q88,q89,q90,q91,q92,q93,q94,q95,q96,q97,t11]
   refine (list16 l10).trans ?_
   rw[t10]
   rfl
 ·
  have hr16:m.length%16<16:=Nat.mod_lt _ (by decide)
  have hs1:(m.take (m.length-m.length%16)).length=m.length-m.length%16:=by rw[List.length_take];omega
  have hs2:(m.drop (m.length-m.length%16)).length=m.length%16:=by rw[List.length_drop];omega
  have hk16:(m.take (m.length-m.length%16)).length=16*(m.length/16):=by omega
  have hsp:m.take (m.length-m.length%16)++m.drop (m.length-m.length%16)=m:=List.take_append_drop _ _
  refine to_end hm (callT_ok (tab34_ok hF)) run34a (by kernel_rfl) hat hent fun N hag hf hd=> ?_
  have e:∀x,x<49→N.i x=(num0 F ct34.ps [] [out,m,key]).i x:=hag.i
  have ea:N.a 0=m:=hag.a 0 (by decide)
  have e16:N.i 16=(m.length:Int):=by rw[e 16 (by decide),hnum 16 (by decide)];exact hnum16
  have ek:∀x,x<32→N.i (17+x)=key.getD x 0:=fun x hx=>by rw[e _ (by omega)];exact hkey x hx
  clear e hag hat
  simp only[List.forall_mem_cons,Df.sat,Nd.ev,Ad.ev,Ar.ev,List.map_cons,List.map_nil,hf,hF.a44,hF.a49,hF.a50] at hd
  obtain ⟨q126,q125,q124,q123,q122,q121,q120,q119,q118,q117,q116,q115,q114,q113,q112,q111,w18,q110,q109,q108,q107,q106,q105,q104,q103,q102,q101,q100,q99,q98,q97,q96,q95,w17,w16,w15,w14,q94,q93,q92,q91,q90,q89,q88,w13,w12,w11,w10,q87,q86,q85,q84,q83,q82,q81,q80,q79,q78,q77,q76,q75,q74,q73,q72,q71,q70,w9,w8,w7,q69,q68,q67,q66,q65,q64,q63,q62,q61,q60,q59,w6,w5,w4,q58,q57,q56,q55,q54,q53,q52,q51,q50,q49,w3,w2,w1,-⟩:=hd
  have t1:N.a 1=key:=by
   rw[w1]
   exact (congr32 ek).trans (list32 hlk)
  have t3:N.a 3=st7 0 key:=by rw[w3,t1,w2];rfl
  have h57:N.i 57=((m.length-m.length%16:Nat):Int):=by rw[q57,q56,e16,rem16,sub16 hbig]
  generalize hn:m.length-m.length%16=n at *
  generalize hrr:m.length%16=r at *
  have hnr:n+r=m.length:=by omega
  have h67:N.i 67=(r:Int):=by rw[q67,h57,e16];omega
  have h66:N.i 66=(n:Int):=by rw[q66,h57];omega
  have h69:N.i 69=(r:Int):=(q69.trans (if_neg (by rw[h67];omega))).trans h67
  have h86:N.i 86=(r:Int):=by rw[q86,h69];exact add0 (by omega)
  have t5:N.a 5=m.take n:=by
   rw[w5,ea,h57]
   show (m.drop 0).take (n:Int).toNat=_
   rw[Int.toNat_natCast,List.drop_zero]
  have t4:N.a 4=st7 0 key:=by rw[w4,q49,q50,q51,q52,q53,q54,q55,t3];rfl
  have t6:N.a 6=st7 (updH (RK key) n 0 (m.take n)) key:=by rw[w6,t4,t5];exact (A49_st _ _ _).trans (by rw[hs1])
  have hH1:=updH_bound hR.1 hR.2 n (hB.take n) (Int.le_refl 0) hz
  have t7:N.a 7=m.drop n:=by
   rw[w7,ea,h66,h69,Int.toNat_natCast,Int.toNat_natCast,List.take_of_length_le (by omega)]
  have t9:N.a 9=m.drop n++List.replicate (16-r) 0:=by
   rw[w9,w8,t7]
   show List.take 0 _++m.drop n++List.drop (0+(m.drop n).length) (List.replicate 16 (0:Int))=_
   rw[hs2,List.take_zero,List.nil_append,Nat.zero_add,List.drop_replicate]
  have l9:(N.a 9).length=16:=by rw[t9,List.length_append,List.length_replicate,hs2];omega
  have t11:N.a 11=N.a 9:=by rw[w11,q70,q71,q72,q73,q74,q75,q76,q77,q78,q79,q80,q81,q82,q83,q84,q85];exact list16 l9
  have t12:N.a 12=m.drop n:=by
   rw[w12,t11,h86,t9]
   show ((m.drop n++List.replicate (16-r) 0).drop 0).take (r:Int).toNat=_
   rw[Int.toNat_natCast,List.drop_zero,List.take_append_of_le_length (by omega),List.take_of_length_le (by omega)]
  have t10:N.a 10=st7 (updH (RK key) n 0 (m.take n)) key:=by rw[w10,q59,q60,q61,q62,q63,q64,q65,t6];rfl
  have happ:=updH_append (R:=RK key) (M2:=m.drop n) (m.length/16) (H:=0) (M1:=m.take n) hk16
  rw[hsp,hs1,hs2] at happ
  have t13:N.a 13=st7 (updH (RK key) m.length 0 m) key:=by rw[w13,t10,t12,happ];exact (A49_st _ _ _).trans (by rw[hs2])
  have hH:=updH_bound hR.1 hR.2 m.length hB (Int.le_refl 0) hz
  have t16:N.a 16=[s0K key,s1K key]:=by rw[w16,q93,q94,t13];rfl
  have t15:N.a 15=[updH (RK key) m.length 0 m%18446744073709551616,updH (RK key) m.length 0 m/18446744073709551616%18446744073709551616,updH (RK key) m.length 0 m/340282366920938463463374607431768211456]:=by rw[w15,q88,q89,q90,t13];rfl
  have t17:N.a 17=outB (updH (RK key) m.length 0 m) (s0K key+s1K key*18446744073709551616):=by rw[w17,t15,t16];exact A50_st _ _ _
  have l17:(N.a 17).length=16:=by rw[t17];exact outB_length _ _
  have t18:N.a 18=N.a 17:=by rw[w18,q95,q96,q97,q98,q99,q100,q101,q102,q103,q104,q105,q106,q107,q108,q109,q110];exact list16 l17
  refine ⟨?_,⟨nofun,?_,trivial⟩,hlen⟩
  ·simp only[List.forall_mem_cons,Ob.holds,Ar.ev,List.map_cons,List.map_nil,hf,hF.p44,hF.p49,hF.p50,t1,t15,t16,t4,t5,t10,t12,q58,q68,q87,h57,h66,h67,h69,h86,e16,ea,t11,l9]
   refine ⟨P50_st hH.1 hH.2 hBk hlk,P49_st hH1.1 hH1.2 hBk hlk (hB.drop n),⟨by decide,by omega,by omega⟩,by omega,by omega,by omega,gt0 (by omega),⟨by decide,by omega,?_⟩,by omega,⟨by omega,by omega,by omega⟩,gt0 (by omega),by omega,by omega,Int.le_refl _,by omega,by omega,P49_st (Int.le_refl _) hz hBk hlk (hB.take n),⟨by decide,by omega,by omega⟩,by omega,by omega,gt0 (by omega),by omega,by omega,by omega,hP44 _,nofun⟩
   rw[w8];show (0:Int)+(r:Int)≤((List.replicate 16 (0:Int)).length:Int)
   rw[List.length_replicate];omega
  ·show List.map (fun x=>Ar.ev N x) _=F.a 34 _ _
   rw[hF.a34]
   simp only[List.map_cons,List.map_nil,Ar.ev,q111,q112,q113,q114,q115,q116,q117,q118,q119,q120,q121,q122,q123,q124,q125,q126,t18]
   refine (list16 l17).trans ?_
   rw[t17]
   rfl
theorem congr32' {f:Nat→Int}{L:List Int}(h:∀x,x<32→f (16+x)=L.getD x 0):[f 16,f 17,f 18,f 19,f 20,f 21,f 22,f 23,f 24,f 25,f 26,f 27,f 28,f 29,f 30,f 31,f 32,f 33,f 34,f 35,f 36,f 37,f 38,f 39,f 40,f 41,f 42,f 43,f 44,f 45,f 46,f 47] =
  [L.getD 0 0,L.getD 1 0,L.getD 2 0,L.getD 3 0,L.getD 4 0,L.getD 5 0,L.getD 6 0,L.getD 7 0,L.getD 8 0,L.getD 9 0,L.getD 10 0,L.getD 11 0,L.getD 12 0,L.getD 13 0,L.getD 14 0,L.getD 15 0,
  L.getD 16 0,L.getD 17 0,L.getD 18 0,L.getD 19 0,L.getD 20 0,L.getD 21 0,L.getD 22 0,L.getD 23 0,L.getD 24 0,L.getD 25 0,L.getD 26 0,L.getD 27 0,L.getD 28 0,L.getD 29 0,L.getD 30 0,L.getD 31 0]:=by
 rw[←h 0 (by decide),←h 1 (by decide),←h 2 (by decide),←h 3 (by decide),←h 4 (by decide),←h 5 (by decide),←h 6 (by decide),←h 7 (by decide),←h 8 (by decide),←h 9 (by decide),←h 10 (by decide),←h 11 (by decide),←h 12 (by decide),←h 13 (by decide),←h 14 (by decide),←h 15 (by decide),←h 16 (by decide),←h 17 (by decide),←h 18 (by decide),←h 19 (by decide),←h 20 (by decide),←h 21 (by decide),←h 22 (by decide),←h 23 (by decide),←h 24 (by decide),←h 25 (by decide),←h 26 (by decide),←h 27 (by decide),←h 28 (by decide),←h 29 (by decide),←h 30 (by decide),←h 31 (by decide)]
set_option maxHeartbeats 1000000 in
theorem spec34e {F:Fns}(hF:F34 F):CSpec Try.prog F 34 ct34e:=by
 refine straight (callT_ok (tab34_ok hF)) Try.func34 (by kernel_rfl) (by kernel_rfl) (by kernel_rfl) run34e (by kernel_rfl) fun is ls N hs hp hag hf hd=> ?_
 obtain rfl:=Shape.noInt rfl hs
 match ls,hs with
 | [out,m,key],hs =>
 obtain ⟨hlo,rfl,hlk,-⟩:=hs
 have hp:P34 [] [out,[],key]:=by rw[←hF.p34];exact hp
 obtain ⟨-,hBk,-⟩:=hp
 have hlen:∀L,rwArg ct34e.ps [] [out,[],key]=some L→(F.a ct34e.fw [] [out,[],key]).length=L.length:=fun L h=>by
  have:L=out:=by simp only[ct34e,rwArg,Option.some.injEq] at h;exact h.symm
  subst this
  show (F.a 34 [] _).length=_
  rw[hF.a34,hlo];exact outB_length _ _
 have ek:∀x,x<32→N.i (16+x)=key.getD x 0:=fun x hx=>by
  rw[hag.i (16+x) (by show 16+x<48;omega)]
  show (numsL ct34e.ps [] [out,[],key]).getD (16+x) 0=_
  simp only[ct34e,numsL,List.append_nil]
  rw[List.getD_eq_getElem?_getD,List.getElem?_append_right (by omega),hlo,Nat.add_sub_cancel_left,List.getD_eq_getElem?_getD]
 have hz:(0:Int)<1701411834604692317316873037158841057280:=by decide
 clear hag
 simp only[List.forall_mem_cons,Df.sat,Nd.ev,Ad.ev,Ar.ev,List.map_cons,List.map_nil,hf,hF.a44,hF.a50] at hd
 obtain ⟨q86,q85,q84,q83,q82,q81,q80,q79,q78,q77,q76,q75,q74,q73,q72,q71,w7,q70,q69,q68,q67,q66,q65,q64,q63,q62,q61,q60,q59,q58,q57,q56,q55,w6,w5,w4,w3,q54,q53,q52,q51,q50,q49,q48,w2,w1,w0,-⟩:=hd
 have t0:N.a 0=key:=by
  rw[w0]
  exact (congr32' ek).trans (list32 hlk)
 have t2:N.a 2=st7 0 key:=by rw[w2,t0,w1];rfl
 have t5:N.a 5=[s0K key,s1K key]:=by rw[w5,q53,q54,t2];rfl
 have t4:N.a 4=[(0:Int)%18446744073709551616,(0:Int)/18446744073709551616%18446744073709551616,(0:Int)/340282366920938463463374607431768211456]:=by rw[w4,q48,q49,q50,t2];rfl
 have t6:N.a 6=outB 0 (s0K key+s1K key*18446744073709551616):=by rw[w6,t4,t5];exact A50_st _ _ _
 have l6:(N.a 6).length=16:=by rw[t6];exact outB_length _ _
 have t7:N.a 7=N.a 6:=by rw[w7,q55,q56,q57,q58,q59,q60,q61,q62,q63,q64,q65,q66,q67,q68,q69,q70];exact list16 l6
 refine ⟨?_,⟨nofun,?_,trivial⟩,hlen⟩
 ·simp only[List.forall_mem_cons,Ob.holds,Ar.ev,List.map_cons,List.map_nil,hf,hF.p44,hF.p50,t0,t4,t5]
  exact ⟨P50_st (Int.le_refl _) hz hBk hlk,hBk,nofun⟩
 ·show List.map (fun x=>Ar.ev N x) _=F.a 34 _ _
  rw[hF.a34]
  simp only[List.map_cons,List.map_nil,Ar.ev,q71,q72,q73,q74,q75,q76,q77,q78,q79,q80,q81,q82,q83,q84,q85,q86,t7]
  refine (list16 l6).trans ?_
  rw[t6];rfl
open Go.Sy
theorem run23:runE ct23 Try.f23 (callT tab23) []=some (⟨[(.var 100,0)],none,none⟩,
  cmpD 65 0 49++(rds 49 4 0 16++[.a 4 (.fn 34 [] [1,2,3]),.a 3 (.lit (vs 17 32)),.a 2 (.sub 0 (.kst 0) (.var 16)),.a 1 (.lit (zs 16))]),
  [.prd 34 [] [1,2,3],.fits (.kst 0) (.var 16) 0]):=by kernel_rfl
theorem run23e:runE ct23e Try.f23 (callT tab23) []=some (⟨[(.var 99,0)],none,none⟩,
  cmpD 64 0 48++(rds 48 3 0 16++[.a 3 (.fn 34 [] [0,1,2]),.a 2 (.lit (vs 16 32)),.a 1 (.lit []),.a 0 (.lit (zs 16))]),
  [.prd 34 [] [0,1,2]]):=by kernel_rfl
def P23 (_:List Int)(ls:List (List Int)):Prop :=
 match ls with
 | [mac,m,key]=>Bytes mac∧Bytes m∧Bytes key∧m.length≤1099511627776
 | _=>False
noncomputable def I23 (_:List Int)(ls:List (List Int))(_:Nat):Int :=
 match ls with
 | [mac,m,key]=>if tagL key m=mac then 1 else 0
 | _=>0
structure F23 (F:Fns):Prop extends F34 F where
 p23:F.p 23=P23
 i23:F.i 23=I23
theorem tab23_ok {F:Fns}(h:F23 F):TabOk F tab23 :=
 ⟨⟨by kernel_rfl,fun c hc=>by
  simp only[List.mem_cons,List.not_mem_nil,or_false] at hc
  rcases hc with rfl | rfl
  ·exact spec34 h.toF34
  ·exact spec34e h.toF34⟩,trivial⟩
theorem leB_bytes:∀(n:Nat) (x:Int),Bytes (leB n x)
 | 0,_=>nofun
 | n+1,x=>by
  intro y hy
  rcases List.mem_cons.1 hy with rfl | h
  ·exact ⟨Int.emod_nonneg _ (by decide),Int.emod_lt_of_pos _ (by decide)⟩
  ·exact leB_bytes n _ y h
theorem tagL_bytes (key m:List Int):Bytes (tagL key m):=leB_bytes 16 _
theorem tagL_length (key m:List Int):(tagL key m).length=16:=leB_length 16 _
theorem getD_at {A B:List Int}{n j:Nat}(h:A.length=n):(A++B).getD (n+j) 0=B.getD j 0:=by
 rw[List.getD_eq_getElem?_getD,List.getElem?_append_right (by omega),h,Nat.add_sub_cancel_left,List.getD_eq_getElem?_getD]
theorem getD_lo {A B:List Int}{j:Nat}(h:j<A.length):(A++B).getD j 0=A.getD j 0:=by
 rw[List.getD_eq_getElem?_getD,List.getElem?_append_left h,List.getD_eq_getElem?_getD]
theorem spec23 {F:Fns}(hF:F23 F):CSpec Try.prog F 23 ct23:=by
 refine straight (callT_ok (tab23_ok hF)) Try.func23 (by kernel_rfl) (by kernel_rfl) (by kernel_rfl) run23 (by kernel_rfl) fun is ls N hs hp hag hf hd=> ?_
 obtain rfl:=Shape.noInt rfl hs
 match ls,hs with
 | [mac,m,key],hs =>
  obtain ⟨hml,hkl,-⟩:=hs
  have hP:P23 [] [mac,m,key]:=by rw[←hF.p23];exact hp
  obtain ⟨hB1,hB2,hB3,hB4⟩:=hP
  have hnum:∀x,x<49→N.i x=(mac++(m.length:Int)::key).getD x 0:=fun x hx=>by
   rw[hag.i x hx]
   show (numsL ct23.ps [] [mac,m,key]).getD x 0=_
   simp only[ct23,numsL,List.append_nil]
  have e0:N.a 0=m:=hag.a 0 (by decide)
  have hmac:∀j,j<16→N.i (0+j)=mac.getD j 0:=fun j hj=>by rw[Nat.zero_add,hnum j (by omega),getD_lo (by omega)]
  have e16:N.i 16=m.length:=by rw[hnum 16 (by decide)];exact getD_at (j:=0) hml
  have hkey:∀j,j<32→N.i (17+j)=key.getD j 0:=fun j hj=>by
   rw[hnum _ (by omega),show 17+j=16+(j+1) by omega,getD_at hml];rfl
  simp only[List.forall_mem_append,List.forall_mem_cons] at hd
  obtain ⟨h1,h2,w4,w3,w2,w1,-⟩:=hd
  have w3:N.a 3=key:=Eq.trans w3 (vs_map hkey hkl)
  simp only[Df.sat,Ad.ev,Ar.ev,List.map_cons,List.map_nil,hf,hF.a34,e0,e16] at w2 w4
  have t2:N.a 2=m:=by rw[w2];simp
  have t4:N.a 4=tagL key m:=by rw[w4,w3,t2];rfl
  have hr:=rds_sat h2
  rw[t4] at hr
  have:=cmpD_sat h1 hmac (fun j hj=>by rw[hr j hj,Nat.zero_add]) hB1 (tagL_bytes key m) hml (tagL_length _ _)
  refine ⟨?_,⟨fun p hp=> ?_,trivial,trivial⟩,fun L hL=>by cases hL⟩
  ·simp only[List.forall_mem_cons,Ob.holds,Ar.ev,List.map_cons,List.map_nil,hf,hF.p34,t2,w3,e0,e16]
   exact ⟨⟨hB2,hB3,hB4⟩,⟨by omega,by omega,by omega⟩,nofun⟩
  ·simp only[List.mem_singleton] at hp
   subst hp
   show N.i 100=F.i 23 _ _ 0
   rw[hF.i23];exact this
theorem spec23e {F:Fns}(hF:F23 F):CSpec Try.prog F 23 ct23e:=by
 refine straight (callT_ok (tab23_ok hF)) Try.func23 (by kernel_rfl) (by kernel_rfl) (by kernel_rfl) run23e (by kernel_rfl) fun is ls N hs hp hag hf hd=> ?_
 obtain rfl:=Shape.noInt rfl hs
 match ls,hs with
 | [mac,m,key],hs =>
  obtain ⟨hml,rfl,hkl,-⟩:=hs
  have hP:P23 [] [mac,[],key]:=by rw[←hF.p23];exact hp
  obtain ⟨hB1,hB2,hB3,hB4⟩:=hP
  have hnum:∀x,x<48→N.i x=(mac++key).getD x 0:=fun x hx=>by
   rw[hag.i x hx]
   show (numsL ct23e.ps [] [mac,[],key]).getD x 0=_
   simp only[ct23e,numsL,List.append_nil]
  have hmac:∀j,j<16→N.i (0+j)=mac.getD j 0:=fun j hj=>by rw[Nat.zero_add,hnum j (by omega),getD_lo (by omega)]
  have hkey:∀j,j<32→N.i (16+j)=key.getD j 0:=fun j hj=>by rw[hnum _ (by omega),getD_at hml]
  simp only[List.forall_mem_append,List.forall_mem_cons] at hd
  obtain ⟨h1,h2,w3,w2,w1,w0,-⟩:=hd
  have w2:N.a 2=key:=Eq.trans w2 (vs_map hkey hkl)
  simp only[Df.sat,Ad.ev,List.map_cons,List.map_nil,hf,hF.a34] at w1 w3
  have t4:N.a 3=tagL key []:=by rw[w3,w2,w1];rfl
  have hr:=rds_sat h2
  rw[t4] at hr
  have:=cmpD_sat h1 hmac (fun j hj=>by rw[hr j hj,Nat.zero_add]) hB1 (tagL_bytes key []) hml (tagL_length _ _)
  refine ⟨?_,⟨fun p hp=> ?_,trivial,trivial⟩,fun L hL=>by cases hL⟩
  ·simp only[List.forall_mem_cons,Ob.holds,Ar.ev,List.map_cons,List.map_nil,hf,hF.p34,w1,w2]
   exact ⟨⟨hB2,hB3,hB4⟩,nofun⟩
  ·simp only[List.mem_singleton] at hp
   subst hp
   show N.i 99=F.i 23 _ _ 0
   rw[hF.i23];exact this
end Go.Proofs.Ytlcljhlijmombaa
