/- A round of x25519ScalarMult: what it makes, modulo the prime. -/
import Derived.Test.YtnfikgagkamioaaGreatDoorX57
namespace Go.Proofs.YtnfikgagkamioaaGreatDoor
open Go.Sy
def opL (g:Int→Int→Int)(a b:List Int):List Int:=dgp (g (V16 a) (V16 b))
abbrev adL:=opL (· + ·)
abbrev suL:=opL (· - ·)
abbrev muL:=opL (· * ·)
inductive Src where
 | row (x:Nat)
 | kst (l:List Int)
def Src.lit:Src→List Ar
 | .row x=>vs x 16
 | .kst l=>l.map .kst
def Src.val (N:Num):Src→List Int
 | .row x=>rowI N x 16
 | .kst l=>l
theorem Src.lit_ev {N:Num}:∀ {s:Src},s.lit.map (·.ev N)=s.val N
 | .row x=>gD
 | .kst l=>by simp only[Src.lit,Src.val,cZ];exact (cW fun _ _=>rfl).trans (List.map_id _)
structure Stp where
 x:Nat
 f:Nat
 A:Nat
 s1:Src
 B:Nat
 s2:Src
def litB (ds:List Df)(A:Nat)(s:Src):Bool:=match lkA ds A with
 | some (.lit l)=>eL eAr l s.lit
 | _=>false
def circB (ds:List Df)(C:List Stp):Bool:=C.all fun s=>litB ds s.A s.s1&&(litB ds s.B s.s2&&famF ds s.x s.f [s.A,s.B] 16)
theorem lit_ok {N:Num}{ds:List Df}{A:Nat}{s:Src}(hd:∀d∈ds,d.sat N)(h:litB ds A s=true):N.a A=s.val N:=by
 unfold litB at h;split at h
 ·rename_i l hl;rw[fR hd hl,eArs_eq h];exact Src.lit_ev
 ·cases h
theorem circ_ok {F:Fns}{N:Num}{ds:List Df}{C:List Stp}(hf:N.f=F)(hd:∀d∈ds,d.sat N)(h:circB ds C=true) :
 ∀s∈C,N.a s.A=s.s1.val N∧N.a s.B=s.s2.val N∧∀g,F.i s.f=bin g→rowI N s.x 16=opL g (s.s1.val N) (s.s2.val N):=fun s hs=>by
 unfold circB at h;rw[bT] at h;have:=h s hs;simp only[aG] at this;obtain ⟨h1,h2,h3⟩:=this;have e1:=lit_ok hd h1;have e2:=lit_ok hd h2;refine ⟨e1,e2,fun g hg=>fP (dgp_length _) fun j hj=> ?_⟩;rw[fam_f hd h3 j hj,hf,hg,aI,aI,aK,e1,e2];rfl
def C27 (r1 r2 r3 r4:Nat):List Stp:=[
 ⟨82,38,0,.row r1,1,.row r2⟩,⟨98,39,2,.row r1,3,.row r2⟩,⟨114,29,4,.row 82,5,.row 82⟩,⟨130,29,6,.row 98,7,.row 98⟩,⟨146,39,8,.row 114,9,.row 130⟩,
 ⟨162,39,10,.row r3,11,.row r4⟩,⟨178,29,12,.row 162,13,.row 82⟩,⟨194,38,14,.row r3,15,.row r4⟩,⟨210,29,16,.row 194,17,.row 98⟩,⟨226,38,18,.row 178,19,.row 210⟩,⟨242,39,20,.row 178,21,.row 210⟩,
 ⟨274,29,23,.row 114,24,.row 130⟩,⟨290,29,25,.kst [56129,1,0,0,0,0,0,0,0,0,0,0,0,0,0,0],26,.row 146⟩,⟨306,38,27,.row 114,28,.row 290⟩,⟨322,29,29,.row 146,30,.row 306⟩,
 ⟨338,29,31,.row 226,32,.row 226⟩,⟨354,29,33,.row 242,34,.row 242⟩,⟨370,29,35,.row 0,36,.row 354⟩]
def kL:List Int:=[56129,1,0,0,0,0,0,0,0,0,0,0,0,0,0,0]
def stL (u a b c d:List Int):List Int :=
 (fun s t=>(fun aa bb da cb=>(fun e=>dgp (V16 u)++(muL aa bb++(muL e (adL aa (muL kL e))++(muL (adL da cb) (adL da cb)++muL u (muL (suL da cb) (suL da cb)))))) (suL aa bb))
  (muL s s) (muL t t) (muL (suL c d) s) (muL (adL c d) t)) (adL a b) (suL a b)
def five (l:List Int)(k:Nat):List Int:=(l.drop (16*k)).take 16
def step (l:List Int)(b:Int):List Int:=if b=1 then stL (five l 0) (five l 3) (five l 4) (five l 1) (five l 2) else stL (five l 0) (five l 1) (five l 2) (five l 3) (five l 4)
def P27 (_:List Int)(ls:List (List Int)):Prop :=
 match ls with
 | [l]=>Dig w16 l
 | _=>False
def I27 (is:List Int)(ls:List (List Int))(j:Nat):Int :=
 match is,ls with
 | [b],[l]=>(step l b).getD j 0
 | _,_=>0
structure F27 (F:Fns):Prop extends F38 F where
 p27:F.p 27=P27
 i27:F.i 27=I27
noncomputable abbrev E27t:=runE ct27 Tryz.f27 (callT tab27) [true]
noncomputable abbrev E27f:=runE ct27 Tryz.f27 (callT tab27) [false]
def S27:Sum1:=⟨zipJ (vs 258 16++(vs 274 16++(vs 322 16++(vs 338 16++vs 370 16)))) 0,none,none⟩
def o27 (t:Bool):List Ob:=[.prd 38 [] [35,36],.prd 38 [] [33,34],.prd 38 [] [31,32],.prd 38 [] [29,30],.prd 38 [] [27,28],.prd 38 [] [25,26],.prd 38 [] [23,24],.prd 42 [] [22],.prd 38 [] [20,21],.prd 38 [] [18,19],.prd 38 [] [16,17],
 .prd 38 [] [14,15],.prd 38 [] [12,13],.prd 38 [] [10,11],.prd 38 [] [8,9],.prd 38 [] [6,7],.prd 38 [] [4,5],.prd 38 [] [2,3],.prd 38 [] [0,1],.boo 81 t]
theorem E27t_s:E27t=some (S27,dE E27t,oE E27t):=someE (by kernel_rfl)
theorem E27f_s:E27f=some (S27,dE E27f,oE E27f):=someE (by kernel_rfl)
theorem E27t_o:oE E27t=o27 true:=by kernel_rfl
theorem E27f_o:oE E27f=o27 false:=by kernel_rfl
def f27B (ds:List Df)(C:List Stp):Bool:=circB ds C&&(litB ds 22 (.row 0)&&(famF ds 258 42 [22] 16&&(match lkN ds 81 with | some (.cmp .eql (.var 80) (.kst 1))=>true | _=>false)))
theorem E27t_b:f27B (dE E27t) (C27 48 64 16 32)=true:=by kernel_rfl
theorem E27f_b:f27B (dE E27f) (C27 16 32 48 64)=true:=by kernel_rfl
theorem opL_dig {g:Int→Int→Int}{a b:List Int}:Dig w16 (opL g a b):=dgp_dig _
theorem gS {g:Int→Int→Int}{a b:List Int}:(opL g a b).length=16:=dgp_length _
theorem run27 {F:Fns}(hF:F27 F){M:Num}{ds:List Df}{r1 r2 r3 r4:Nat}{t:Bool}(hf:M.f=F)(hd:∀d∈ds,d.sat M)(h:f27B ds (C27 r1 r2 r3 r4)=true)
 (hu:Dig w16 (rowI M 0 16)) (ha:Dig w16 (rowI M r1 16)) (hb:Dig w16 (rowI M r2 16)) (hc:Dig w16 (rowI M r3 16)) (hdd:Dig w16 (rowI M r4 16)) (ht:(M.i 80=1)=(t=true)) :
 (∀ o∈o27 t,o.holds M)∧(vs 258 16++(vs 274 16++(vs 322 16++(vs 338 16++vs 370 16)))).map (·.ev M)=stL (rowI M 0 16) (rowI M r1 16) (rowI M r2 16) (rowI M r3 16) (rowI M r4 16):=by
 simp only[f27B,aG] at h;obtain ⟨h1,h2,h3,h4⟩:=h;have hc':=circ_ok hf hd h1;have a22:=lit_ok hd h2;have r258:rowI M 258 16=dgp (V16 (rowI M 0 16)):=fP (dgp_length _) fun j hj=>by rw[fam_f hd h3 j hj,hf,hF.i42,aI,aK,a22];rfl
 have i81:M.i 81=bif M.i 80==1 then 1 else 0:=by
  split at h4
  ·rename_i hl;rw[fB hd hl];rfl
  ·cases h4
 simp only[C27,aC,Src.val] at hc';obtain ⟨⟨a0,b0,c0⟩,⟨a1,b1,c1⟩,⟨a2,b2,c2⟩,⟨a3,b3,c3⟩,⟨a4,b4,c4⟩,⟨a5,b5,c5⟩,⟨a6,b6,c6⟩,⟨a7,b7,c7⟩,⟨a8,b8,c8⟩,⟨a9,b9,c9⟩,⟨a10,b10,c10⟩,⟨a11,b11,c11⟩,⟨a12,b12,c12⟩,⟨a13,b13,c13⟩,⟨a14,b14,c14⟩,⟨a15,b15,c15⟩,⟨a16,b16,c16⟩,⟨a17,b17,c17⟩,-⟩:=hc'
 replace c0:=c0 _ hF.i38;replace c1:=c1 _ hF.i39;replace c2:=c2 _ hF.i29;replace c3:=c3 _ hF.i29;replace c4:=c4 _ hF.i39;replace c5:=c5 _ hF.i39
 replace c6:=c6 _ hF.i29;replace c7:=c7 _ hF.i38;replace c8:=c8 _ hF.i29;replace c9:=c9 _ hF.i38;replace c10:=c10 _ hF.i39;replace c11:=c11 _ hF.i29
 replace c12:=c12 _ hF.i29;replace c13:=c13 _ hF.i38;replace c14:=c14 _ hF.i29;replace c15:=c15 _ hF.i29;replace c16:=c16 _ hF.i29;replace c17:=c17 _ hF.i29
 have dg:∀ {x:Nat} {g:Int→Int→Int} {p q:List Int},rowI M x 16=opL g p q→Dig w16 (rowI M x 16):=fun e=>by rw[e];exact opL_dig
 have hk:Dig w16 [56129,1,0,0,0,0,0,0,0,0,0,0,0,0,0,0]:=by unfold Dig;decide
 refine ⟨?_,?_⟩
 ·simp only[o27,aC,Ob.holds,aK,aI];rw[hf,hF.p38,hF.p42,i81,a22,a0,b0,a1,b1,a2,b2,a3,b3,a4,b4,a5,b5,a6,b6,a7,b7,a8,b8,a9,b9,a10,b10,a11,b11,a12,b12,a13,b13,a14,b14,a15,b15,a16,b16,a17,b17];refine ⟨⟨hu,dg c16⟩,⟨dg c10,dg c10⟩,⟨dg c9,dg c9⟩,⟨dg c4,dg c13⟩,⟨dg c2,dg c12⟩,⟨hk,dg c4⟩,⟨dg c2,dg c3⟩,dig60 hu,⟨dg c6,dg c8⟩,⟨dg c6,dg c8⟩,⟨dg c7,dg c1⟩,⟨hc,hdd⟩,⟨dg c5,dg c0⟩,⟨hc,hdd⟩,⟨dg c2,dg c3⟩,⟨dg c1,dg c1⟩,⟨dg c0,dg c0⟩,⟨ha,hb⟩,⟨ha,hb⟩,?_,nofun⟩
  cases t with
  | true=>rw[ht.mpr rfl];rfl
  | false =>
   have:M.i 80≠1:=fun e=>by have:=ht.mp e;cases this
   rw[show (M.i 80==1)=false by rw[beq_eq_false_iff_ne];exact this];rfl
 ·simp only[List.map_append,gD];rw[r258,c11,c14,c15,c17,c16,c13,c12,c10,c9,c8,c7,c6,c5,c4,c3,c2,c1,c0];rfl
theorem five_dig {l:List Int}{k:Nat}(h:Dig w16 l):Dig w16 (five l k):=fun d hd=>h d (List.mem_of_mem_drop (dQ hd))
theorem tab27_ok {F:Fns}(h:F38 F):TabOk F tab27 :=
 ⟨⟨by kernel_rfl,fun c hc=>by simp only[aX] at hc;subst hc;exact spec29 h⟩,⟨by kernel_rfl,fun c hc=>by simp only[aX] at hc;subst hc;exact spec38 h⟩,
  ⟨by kernel_rfl,fun c hc=>by simp only[aX] at hc;subst hc;exact spec39 h⟩,⟨by kernel_rfl,fun c hc=>by simp only[aX] at hc;subst hc;exact spec42 h.toF42⟩,trivial⟩
theorem spec27 {F:Fns}(hF:F27 F):CSpec Tryz.prog F 27 ct27:=by
 refine straightC (eU (tab27_ok hF.toF38)) Tryz.func27 (by kernel_rfl) (by kernel_rfl) (by kernel_rfl) (by kernel_rfl) fun is ls hs hp=> ?_
 obtain ⟨b,l,rfl,rfl,hl⟩:∃b l,is=[b]∧ls=[l]∧l.length=80:=by
  rcases ls with _ | ⟨l,ls⟩
  ·exact hs.elim
  obtain ⟨h1,h2⟩:=hs;rcases is with _ | ⟨b,is⟩
  ·exact h2.elim
  rcases is with _ | ⟨_,_⟩ <;> rcases ls with _ | ⟨_,_⟩ <;> first | exact ⟨b,l,rfl,rfl,h1⟩ | exact h2.elim | exact h2.2.elim
 have hP:P27 [b] [l]:=by rw[←hF.p27];exact hp
 have hP:Dig w16 l:=hP;have rows:∀ {M:Num},Agr (stOf ct27).nx (stOf ct27).na (num0 F ct27.ps [b] [l]) M→M.i 80=b∧∀k,k<5→rowI M (16*k) 16=five l k:=fun {M} h=>by
  have e:∀x,x<81→M.i x=(l++[b]).getD x 0:=fun x hx=>by rw[h.i x (by show x<81;exact hx)];show (numsL ct27.ps [b] [l]).getD x 0=_;simp only[ct27,numsL]
  refine ⟨?_,fun k hk=>row_in (L:=l) rfl (by unfold five;rw[bE,aT];omega) fun j hj=> ?_⟩;·rw [e 80 (by decide),aE,aP (by omega),hl];rfl
  ·rw [e _ (by omega),aE,bQ (by omega),aE]
 have hres:∀j,F.i 27 [b] [l] j=(step l b).getD j 0:=fun j=>by rw[hF.i27];rfl
 have d5:=fun k=>five_dig (k:=k) hP
 by_cases hb:b=1
 ·refine ⟨_,_,_,_,E27t_s,fun M hag hf hd=> ?_⟩;obtain ⟨ib,r⟩:=rows hag;have r0:=r 0 (by decide);have r1:=r 1 (by decide);have r2:=r 2 (by decide);have r3:=r 3 (by decide);have r4:=r 4 (by decide)
  obtain ⟨k1,k2⟩:=run27 (t:=true) hF hf hd E27t_b (by rw[r0];exact d5 _) (by rw[r3];exact d5 _) (by rw[r4];exact d5 _) (by rw[r1];exact d5 _) (by rw[r2];exact d5 _) (by rw[ib];simp[hb]);refine ⟨by rw[E27t_o];exact k1,⟨zip_map k2 fun j=> ?_,trivial,trivial⟩,nofun⟩;rw[r0,r1,r2,r3,r4];show F.i 27 _ _ j=_;rw[hres,step,bG hb]
 ·refine ⟨_,_,_,_,E27f_s,fun M hag hf hd=> ?_⟩;obtain ⟨ib,r⟩:=rows hag;have r0:=r 0 (by decide);have r1:=r 1 (by decide);have r2:=r 2 (by decide);have r3:=r 3 (by decide);have r4:=r 4 (by decide)
  obtain ⟨k1,k2⟩:=run27 (t:=false) hF hf hd E27f_b (by rw[r0];exact d5 _) (by rw[r1];exact d5 _) (by rw[r2];exact d5 _) (by rw[r3];exact d5 _) (by rw[r4];exact d5 _) (by rw[ib];simp[hb]);refine ⟨by rw[E27f_o];exact k1,⟨zip_map k2 fun j=> ?_,trivial,trivial⟩,nofun⟩;rw[r0,r1,r2,r3,r4];show F.i 27 _ _ j=_;rw[hres,step,bC hb]
def bitL (l:List Int)(i:Nat):Int:=iop .and .u64 (iop .shr .u64 (l.getD (i/16) 0) ((i%16:Nat):Int)) 1
theorem bit_at {v:Int}{i:Nat}{l:List Int}(hv:v=i):iop .and .u64 (iop .shr .u64 (l.getD (0+iop .quo .i64 v 16*1).toNat 0) (iop .rem .i64 v 16)) 1=iop .and .u64 (iop .shr .u64 (l.getD (0+iop .quo .i64 (i:Int) 16*1).toNat 0) (iop .rem .i64 (i:Int) 16)) 1:=by rw[hv]
theorem bit_eq {i:Nat}{l:List Int}(hi:i<256):iop .and .u64 (iop .shr .u64 (l.getD (0+iop .quo .i64 (i:Int) 16*1).toNat 0) (iop .rem .i64 (i:Int) 16)) 1=bitL l i:=by
 have e1:iop .quo .i64 (i:Int) 16=((i/16:Nat):Int):=by rw[show (16:Int)=Int.ofNat 16 from rfl,iop_quo_nat (by omega) (by simp only[kMax];omega)];rfl
 have e2:iop .rem .i64 (i:Int) 16=((i%16:Nat):Int):=rfl;rw[e1,e2,show (0+((i/16:Nat):Int)*1).toNat=i/16 by omega];rfl
def oneL:List Int:=[1,0,0,0,0,0,0,0,0,0,0,0,0,0,0,0]
def pwN (a e:List Int):Nat→List Int
 | 0=>oneL
 | n+1=>(fun o=>if bitL e (255-n)=1 then muL o a else o) (muL (pwN a e n) (pwN a e n))
def I43 (_:List Int)(ls:List (List Int))(j:Nat):Int :=
 match ls with
 | [a,e]=>(pwN a e 256).getD j 0
 | _=>0
theorem oneL_dig:Dig w16 oneL:=by unfold Dig oneL;decide
theorem pwN_dig {a e:List Int}:∀ {n:Nat},Dig w16 (pwN a e n)
 | 0=>oneL_dig
 | n+1=>by
  simp only[pwN]
  split <;> exact opL_dig
structure F43 (F:Fns):Prop extends F38 F where
 i43:F.i 43=I43
theorem tab43_ok {F:Fns}(h:F38 F):TabOk F tab43:=⟨⟨by kernel_rfl,fun c hc=>by simp only[aX] at hc;subst hc;exact spec29 h⟩,trivial⟩
noncomputable abbrev H43:=headOf ct43 Tryz.f43 (callT tab43) [3] [] T43a s43a
noncomputable abbrev R43t:=rndOf ct43 Tryz.f43 (callT tab43) [3] (loopAt 43 3) T43a s43a [true,true] T43a s43a
noncomputable abbrev R43f:=rndOf ct43 Tryz.f43 (callT tab43) [3] (loopAt 43 3) T43a s43a [true,false] T43a s43a
noncomputable abbrev O43:=outOf ct43 Tryz.f43 (callT tab43) [3] (loopAt 43 3) T43a s43a [false]
theorem H43_c:H43.map (·.1)=some (.loop (loopAt 43 3).1,(loopAt 43 3).2):=by kernel_rfl
theorem R43t_s:R43t=some (iR R43t,aR R43t,dR R43t,oR R43t):=someR (by kernel_rfl)
theorem R43f_s:R43f=some (iR R43f,aR R43f,dR R43f,oR R43f):=someR (by kernel_rfl)
theorem O43_s:O43=some (⟨zipJ ((List.range' 32 16).map .var) 0,none,none⟩,dE O43,oE O43):=someE (by kernel_rfl)
section
variable {N:Num}
theorem H43_v:∀j,j<32→(pn (iR (hR H43)) (aR (hR H43)) N).i (0+j)=N.i (0+j):=fam_v (by kernel_rfl)
theorem H43_o:slA (iR (hR H43)) 32 16=oneL.map .kst:=by kernel_rfl
theorem H43_48:(pn (iR (hR H43)) (aR (hR H43)) N).i 48=255:=pn_at (a:= .kst 255) (by kernel_rfl)
theorem R43t_ok:okB cx0 [(48,1,255)] (dR R43t) (oR R43t) [.ob (.prd 38 [] [2,3]),.cmp .eql (.var 71) (.kst 1) true,.ob (.prd 38 [] [0,1])] []=true:=by kernel_rfl
theorem R43f_ok:okB cx0 [(48,1,255)] (dR R43f) (oR R43f) [.cmp .eql (.var 71) (.kst 1) false,.ob (.prd 38 [] [0,1])] []=true:=by kernel_rfl
theorem R43t_c:circB (dR R43t) [⟨50,29,0,.row 32,1,.row 32⟩,⟨73,29,2,.row 50,3,.row 0⟩]=true:=by kernel_rfl
theorem R43f_c:circB (dR R43f) [⟨50,29,0,.row 32,1,.row 32⟩]=true:=by kernel_rfl
theorem R43t_71 (hd:∀d∈dR R43t,d.sat N):N.i 71=iop .and .u64 (iop .shr .u64 ((rowI N 16 16).getD (0+iop .quo .i64 (N.i 48) 16*1).toNat 0) (iop .rem .i64 (N.i 48) 16)) 1:=i_of hd 71 (by kernel_rfl)
theorem R43f_71 (hd:∀d∈dR R43f,d.sat N):N.i 71=iop .and .u64 (iop .shr .u64 ((rowI N 16 16).getD (0+iop .quo .i64 (N.i 48) 16*1).toNat 0) (iop .rem .i64 (N.i 48) 16)) 1:=i_of hd 71 (by kernel_rfl)
theorem R43t_v:∀j,j<32→(pn (iR R43t) (aR R43t) N).i (0+j)=N.i (0+j):=fam_v (by kernel_rfl)
theorem R43f_v:∀j,j<32→(pn (iR R43f) (aR R43f) N).i (0+j)=N.i (0+j):=fam_v (by kernel_rfl)
theorem R43t_o:∀j,j<16→(pn (iR R43t) (aR R43t) N).i (32+j)=N.i (73+j):=fam_v (by kernel_rfl)
theorem R43f_o:∀j,j<16→(pn (iR R43f) (aR R43f) N).i (32+j)=N.i (50+j):=fam_v (by kernel_rfl)
theorem R43t_48 (hd:∀d∈dR R43t,d.sat N):(pn (iR R43t) (aR R43t) N).i 48=iop .sub .i64 (N.i 48) 1:=pn_of hd 48 (by kernel_rfl)
theorem R43f_48 (hd:∀d∈dR R43f,d.sat N):(pn (iR R43f) (aR R43f) N).i 48=iop .sub .i64 (N.i 48) 1:=pn_of hd 48 (by kernel_rfl)
theorem O43_q:obsP (xt N (dE O43)) (dE O43) (oE O43)=(N.i 48<(0:Int)):=by kernel_rfl
end
structure A43 (N:Num) (a e:List Int) (n:Nat):Prop where
 hn:n≤256
 i:N.i 48=255-(n:Int)
 ha:rowI N 0 16=a
 he:rowI N 16 16=e
 ho:rowI N 32 16=pwN a e n
theorem A43.agr {N N':Num}{a e:List Int}{n:Nat}(h:Agr s43a.nx s43a.na N N')(hA:A43 N a e n):A43 N' a e n:=by
 have q:∀x,x<49→N'.i x=N.i x:=h.i;exact ⟨hA.hn,(q 48 (by decide)).trans hA.i,(fI fun j hj=>q _ (by omega)).trans hA.ha,(fI fun j hj=>q _ (by omega)).trans hA.he,(fI fun j hj=>q _ (by omega)).trans hA.ho⟩
theorem spec43 {F:Fns}(hF:F43 F):CSpec Tryz.prog F 43 ct43:=by
 refine gA (args:=argsOf ct43) (σe:=stOf ct43) rfl Tryz.func43 (fM (by kernel_rfl)) (by kernel_rfl) (by kernel_rfl) fun is ls ws we Ee ac hs hp' hent hat=> ?_
 obtain ⟨a,e,rfl,rfl,ha,he⟩:=two16 hs;obtain ⟨da,de⟩:P58 [] [a,e]:=by rw[←hF.p38];exact hp'
 have hct:=eU (tab43_ok hF.toF38);refine to_head hm hct (headR H43_c) (by kernel_rfl) rfl rfl hat hent.inv fun N hag hf hd=>⟨obs_of (R:=True) hd (by kernel_rfl) trivial,fun a1 w1 hat1=> ?_⟩
 have h0:A43 (pn (iR (hR H43)) (aR (hR H43)) N) a e 0:=by
  obtain ⟨ra,re⟩:=rows2 (ps:=ct43.ps) rfl (by decide) hag ha he;refine ⟨by omega,by rw[H43_48];rfl,(fI fun j hj=>H43_v j (by omega)).trans ra,(fI fun j hj=> ?_).trans re,?_⟩
  ·have:=H43_v (N:=N) (16+j) (by omega);rw[bM] at this;exact this
  ·rw [gF,H43_o];rfl
 refine gQ (fun k ac w=>∃N n,k=256-n∧A43 N a e n∧At F Tryz.f43.ntmps (num0 F ct43.ps [] [a,e]) Ee (stOf ct43) we T43a s43a N ac w) (k:=256) ⟨_,0,rfl,h0,hat1⟩ ?_;clear hat hat1 hag hd h0 hf;intro k ac w hJ;obtain ⟨N,n,hk,hA,hat⟩:=hJ;have hn:=hA.hn;rcases bL n 256 with hlt | hge
 ·have hi:∀ {M:Num},A43 M a e n→M.i 48=((255-n:Nat):Int):=fun {M} h=>by rw[h.i];omega
  have hent':∀ {M:Num},A43 M a e n→EntOk M [(48,1,255)]:=fun {M} h=>gB (fun v hv=>by
   have:v=M.i 48:=by simpa [rowI,List.range_succ] using hv
   have:=hi h;omega) ent_nil
  by_cases hb:bitL e (255-n)=1
  ·refine gI hm hct R43t_s (by kernel_rfl) rfl rfl hat hent.inv fun M hag hf hd=> ?_
   have hB:=hA.agr hag;have hc:=circ_ok hf hd R43t_c;simp only[aC,Src.val] at hc;obtain ⟨⟨a0,b0,c0⟩,⟨a1,b1,c1⟩,-⟩:=hc
   replace c0:=c0 _ hF.i29
   replace c1:=c1 _ hF.i29
   have h71:=R43t_71 hd;rw[bit_at (hi hB),bit_eq (by omega),hB.he] at h71;refine ⟨(okB_ok R43t_ok (N:=M) cx0_ok il0 (hent' hB) hd).1 ?_,fun a2 w2 hat2=>⟨255-n,by omega,_,n+1,by omega,⟨by omega,?_,?_,?_,?_⟩,hat2⟩⟩
   ·simp only[aC,Rs.holds,Ob.holds,cmpP,Ar.ev,aK,aI];rw[h71,hf,hF.p38,a0,b0,a1,b1,c0,hB.ha,hB.ho];exact ⟨⟨opL_dig,da⟩,hb,⟨pwN_dig,pwN_dig⟩,nofun⟩
   ·rw [R43t_48 hd,hB.i];simp only[iop];rw[IntKind.wrap_i64];omega
   ·exact (fI fun j hj=>R43t_v j (by omega)).trans hB.ha
   ·refine (fI fun j hj=> ?_).trans hB.he;have:=R43t_v (N:=M) (16+j) (by omega);rw[bM] at this;exact this
   ·rw [fI (M:=M) (y:=73) fun j hj=>R43t_o j hj,c1,c0,hB.ha,hB.ho];simp only[pwN];rw[bG hb]
  ·refine gI hm hct R43f_s (by kernel_rfl) rfl rfl hat hent.inv fun M hag hf hd=> ?_
   have hB:=hA.agr hag;have hc:=circ_ok hf hd R43f_c;simp only[aC,Src.val] at hc;obtain ⟨⟨a0,b0,c0⟩,-⟩:=hc
   replace c0:=c0 _ hF.i29
   have h71:=R43f_71 hd;rw[bit_at (hi hB),bit_eq (by omega),hB.he] at h71;refine ⟨(okB_ok R43f_ok (N:=M) cx0_ok il0 (hent' hB) hd).1 ?_,fun a2 w2 hat2=>⟨255-n,by omega,_,n+1,by omega,⟨by omega,?_,?_,?_,?_⟩,hat2⟩⟩
   ·simp only[aC,Rs.holds,Ob.holds,cmpP,Ar.ev,aK,aI];rw[h71,hf,hF.p38,a0,b0,hB.ho];exact ⟨hb,⟨pwN_dig,pwN_dig⟩,nofun⟩
   ·rw [R43f_48 hd,hB.i];simp only[iop];rw[IntKind.wrap_i64];omega
   ·exact (fI fun j hj=>R43f_v j (by omega)).trans hB.ha
   ·refine (fI fun j hj=> ?_).trans hB.he;have:=R43f_v (N:=M) (16+j) (by omega);rw[bM] at this;exact this
   ·rw [fI (M:=M) (y:=50) fun j hj=>R43f_o j hj,c0,hB.ho];simp only[pwN];rw[bC hb]
 ·obtain rfl:n=256:=by omega
  refine gH hm hct O43_s (by kernel_rfl) hat hent fun M hag hf hd=> ?_
  have hB:=hA.agr hag;refine ⟨obs_of hd O43_q (by rw[hB.i];decide),⟨zip_row hB.ho fun j=> ?_,trivial,trivial⟩,nofun⟩;show F.i 43 _ _ j=_;rw[hF.i43];rfl
def cl (s:List Int):List Int:=iop .andNot .u8 (s.getD 0 0) 7::((s.drop 1).take 30++[iop .or .u8 (iop .and .u8 (s.getD 31 0) 127) 64])
def um (u:List Int):List Int:=u.take 31++[iop .and .u8 (u.getD 31 0) 127]
def ofB (b:List Int):List Int:=digW w16 16 (valW 256 b)
def zeroL:List Int:=[0,0,0,0,0,0,0,0,0,0,0,0,0,0,0,0]
def lad (k w0:List Int):Nat→List Int×Int
 | 0=>(w0,0)
 | n+1=>(step (lad k w0 n).1 (iop .xor .u64 (bitL k (254-n)) (lad k w0 n).2),bitL k (254-n))
def bytesL (l:List Int):List Int:=(List.range 32).map fun j=>IntKind.u8.wrap (iop .shr .u64 (l.getD (j/2) 0) ((8*(j%2):Nat):Int))
def pm2:List Int:=[65515,65535,65535,65535,65535,65535,65535,65535,65535,65535,65535,65535,65535,65535,65535,32767]
def quoL (x z:List Int):List Int:=bytesL (muL x (pwN z pm2 256))
def start (u:List Int):List Int:=u++(oneL++(zeroL++(u++oneL)))
def xfn (s u:List Int):List Int:=(fun r=>if r.2=1 then quoL (five r.1 3) (five r.1 4) else quoL (five r.1 1) (five r.1 2)) (lad (ofB (cl s)) (start (ofB (um u))) 255)
def P12 (_:List Int)(ls:List (List Int)):Prop :=
 match ls with
 | [s,u]=>Bytes s∧Bytes u
 | _=>False
def I12 (_:List Int)(ls:List (List Int))(j:Nat):Int :=
 match ls with
 | [s,u]=>(xfn s u).getD j 0
 | _=>0
structure F12 (F:Fns):Prop extends F27 F where
 i43:F.i 43=I43
 p12:F.p 12=P12
 i12:F.i 12=I12
theorem gM {F:Fns}(h:F12 F):TabOk F tab12' :=
 ⟨⟨by kernel_rfl,fun c hc=>by simp only[aX] at hc;subst hc;exact spec27 h.toF27⟩,⟨by kernel_rfl,fun c hc=>by simp only[aX] at hc;subst hc;exact spec29 h.toF38⟩,
  ⟨by kernel_rfl,fun c hc=>by simp only[aX] at hc;subst hc;exact spec43 ⟨h.toF38,h.i43⟩⟩,trivial⟩
def famG (ds:List Df)(x f:Nat)(is:List Ar)(bs:List Nat)(n:Nat):Bool:=(List.range n).all fun j=>match lkN ds (x+j) with
 | some (.fn g js cs m)=>Nat.beq g f&&(Nat.beq m j&&(eL Nat.beq cs bs&&eL eAr js is))
 | _=>false
theorem fam_g {N:Num}{ds:List Df}(hd:∀d∈ds,d.sat N){x f n:Nat}{is:List Ar}{bs:List Nat}(h:famG ds x f is bs n=true):∀j,j<n→N.i (x+j)=N.f.i f (is.map (·.ev N)) (bs.map N.a) j:=fun j hj=>by
 unfold famG at h;rw[bT] at h;have:=h j (cE.2 hj);split at this
 ·rename_i g js cs m hl;simp only[aG] at this;rw[fB hd hl,eNats_eq this.2.2.1,eArs_eq this.2.2.2,aF this.1,aF this.2.1];rfl
 ·cases this
def famB (ds:List Df)(x y:Nat):Bool:=(List.range 32).all fun j=>match lkN ds (x+2*j+1) with
 | some (.conv .u8 (.var z))=>Nat.beq z (x+2*j)&&(match lkN ds (x+2*j) with
  | some (.bin .shr .u64 (.var v) (.kst (.ofNat s)))=>Nat.beq v (y+j/2)&&Nat.beq s (8*(j%2))
  | _=>false)
 | _=>false
def outB (x:Nat):List Ar:=(List.range 32).map fun j=> .var (x+2*j+1)
theorem fam_b {N:Num}{ds:List Df}(hd:∀d∈ds,d.sat N){x y:Nat}(h:famB ds x y=true):(outB x).map (·.ev N)=bytesL (rowI N y 16):=by
 unfold famB at h;rw[bT] at h;simp only[outB,bytesL,cZ];refine cW fun j hj=> ?_
 have:=h j hj;have hj:=cE.1 hj;split at this
 ·rename_i z hl;simp only[aG] at this;obtain ⟨h1,h2⟩:=this;split at h2
  ·rename_i v s hl2;simp only[aG] at h2;show N.i (x+2*j+1)=_;rw[fB hd hl,fZ (by omega)];simp only[Nd.ev,Ar.ev];rw[aF h1,fB hd hl2];simp only[Nd.ev,Ar.ev];rw[aF h2.1,aF h2.2];rfl
  ·cases h2
 ·cases this
def rowPL (w:Int):List Nat→Pol
 | []=>[]
 | x::l=>padd (px x) (pscale w (rowPL w l))
theorem fU {N:Num}{w:Int}:∀ {l:List Nat},(rowPL w l).ev N=valW w (l.map N.i)
 | []=>rfl
 | x::l=>by simp only[rowPL,fS,px_ev,fN,fU (l:=l),aI,valW]
noncomputable abbrev H12:=headOf ct12 Tryz.f12 (callT tab12') [7] [] T12a s12a
noncomputable abbrev R12:=rndOf ct12 Tryz.f12 (callT tab12') [7] (loopAt 12 7) T12a s12a [true] T12a s12a
noncomputable abbrev O12t:=outOf ct12 Tryz.f12 (callT tab12') [7] (loopAt 12 7) T12a s12a [false,true]
noncomputable abbrev O12f:=outOf ct12 Tryz.f12 (callT tab12') [7] (loopAt 12 7) T12a s12a [false,false]
theorem H12_c:H12.map (·.1)=some (.loop (loopAt 12 7).1,(loopAt 12 7).2):=by kernel_rfl
theorem R12_s:R12=some (iR R12,aR R12,dR R12,oR R12):=someR (by kernel_rfl)
theorem O12t_s:O12t=some (⟨zipJ (outB 132) 0,none,none⟩,dE O12t,oE O12t):=someE (by kernel_rfl)
theorem O12f_s:O12f=some (⟨zipJ (outB 132) 0,none,none⟩,dE O12f,oE O12f):=someE (by kernel_rfl)
def kN:List Nat:=64::(List.range' 1 30++[66])
def uN:List Nat:=List.range' 32 31++[163]
theorem H12_ok:okB cx0 [(0,32,255),(32,32,255),(64,1,255),(66,1,255),(163,1,255)] (dR (hR H12)) (oR (hR H12)) []
 [.law w16 (slA (iR (hR H12)) 0 16) (rowPL 256 kN) 0,.bnd (slA (iR (hR H12)) 0 16) 65536,.law w16 (slA (iR (hR H12)) 16 16) (rowPL 256 uN) 0,.bnd (slA (iR (hR H12)) 16 16) 65536]=true:=by kernel_rfl
def c12 (is:List Ar):Bool:=eL eAr (slA is 32 16) (oneL.map .kst)&&(eL eAr (slA is 48 16) (zeroL.map .kst)&&(eL eAr (slA is 64 16) (slA is 16 16)&&(eL eAr (slA is 80 16) (oneL.map .kst)&&(eAr (is.getD 96 (.kst 0)) (.kst 0)&&eAr (is.getD 97 (.kst 0)) (.kst 254)))))
theorem H12_k:c12 (iR (hR H12))=true:=by kernel_rfl
section
variable {N:Num}
theorem H12_64 (hd:∀d∈dR (hR H12),d.sat N):N.i 64=iop .andNot .u8 (N.i 0) 7:=i_of hd 64 (by kernel_rfl)
theorem H12_66 (hd:∀d∈dR (hR H12),d.sat N):N.i 66=iop .or .u8 (iop .and .u8 (N.i 31) 127) 64:=i_of hd 66 (by kernel_rfl)
theorem H12_163 (hd:∀d∈dR (hR H12),d.sat N):N.i 163=iop .and .u8 (N.i 63) 127:=i_of hd 163 (by kernel_rfl)
theorem R12_ok:okB cx0 [(97,1,254)] (dR R12) (oR R12) [.ob (.prd 27 [.var 105] [0])] []=true:=by kernel_rfl
theorem R12_104 (hd:∀d∈dR R12,d.sat N):N.i 104=iop .and .u64 (iop .shr .u64 ((rowI N 0 16).getD (0+iop .quo .i64 (N.i 97) 16*1).toNat 0) (iop .rem .i64 (N.i 97) 16)) 1:=i_of hd 104 (by kernel_rfl)
theorem R12_105 (hd:∀d∈dR R12,d.sat N):N.i 105=iop .xor .u64 (N.i 104) (N.i 96):=fB hd (x:=105) (nd:= .bin .xor .u64 (.var 104) (.var 96)) (by kernel_rfl)
theorem R12_a (hd:∀d∈dR R12,d.sat N):N.a 0=(vs 16 80).map (·.ev N):=fR hd (ad:= .lit (vs 16 80)) (by kernel_rfl)
theorem R12_f (hd:∀d∈dR R12,d.sat N):∀j,j<80→N.i (106+j)=N.f.i 27 ([Ar.var 105].map (·.ev N)) ([0].map N.a) j:=fam_g hd (by kernel_rfl)
theorem R12_v:∀j,j<16→(pn (iR R12) (aR R12) N).i (0+j)=N.i (0+j):=fam_v (by kernel_rfl)
theorem R12_w:∀j,j<80→(pn (iR R12) (aR R12) N).i (16+j)=N.i (106+j):=fam_v (by kernel_rfl)
theorem R12_96:(pn (iR R12) (aR R12) N).i 96=N.i 104:=pn_at (a:= .var 104) (by kernel_rfl)
theorem R12_97 (hd:∀d∈dR R12,d.sat N):(pn (iR R12) (aR R12) N).i 97=iop .sub .i64 (N.i 97) 1:=pn_of hd 97 (by kernel_rfl)
theorem O12t_q:oE O12t=[.prd 38 [] [2,3],.prd 38 [] [0,1],.boo 99 true,.boo 98 false]:=by kernel_rfl
theorem O12f_q:oE O12f=[.prd 38 [] [2,3],.prd 38 [] [0,1],.boo 99 false,.boo 98 false]:=by kernel_rfl
def o12B (ds:List Df)(x z:Nat):Bool:=litB ds 0 (.row z)&&(litB ds 1 (.kst pm2)&&(litB ds 2 (.row x)&&(litB ds 3 (.row 100)&&(famF ds 100 43 [0,1] 16&&(famF ds 116 29 [2,3] 16&&(famB ds 132 116 &&
 (match lkN ds 98,lkN ds 99 with | some (.cmp .geq (.var 97) (.kst 0)),some (.cmp .eql (.var 96) (.kst 1))=>true | _,_=>false)))))))
theorem O12t_b:o12B (dE O12t) 64 80=true:=by kernel_rfl
theorem O12f_b:o12B (dE O12f) 32 48=true:=by kernel_rfl
end
theorem pwN_length {a e:List Int}:∀ {n:Nat},(pwN a e n).length=16
 | 0=>rfl
 | n+1=>by simp only[pwN];split <;> exact gS
theorem pm2_dig:Dig w16 pm2:=by unfold Dig pm2;decide
theorem end12 {F:Fns}(hF:F12 F){M:Num}{ds:List Df}{x z:Nat}{t:Bool}(hf:M.f=F)(hd:∀d∈ds,d.sat M)(h:o12B ds x z=true)(dx:Dig w16 (rowI M x 16))(dz:Dig w16 (rowI M z 16))
 (h97:M.i 97<0) (h96:(M.i 96=1)=(t=true)):(∀ o∈[Ob.prd 38 [] [2,3],.prd 38 [] [0,1],.boo 99 t,.boo 98 false],o.holds M)∧(outB 132).map (·.ev M)=quoL (rowI M x 16) (rowI M z 16):=by
 simp only[o12B,aG] at h;obtain ⟨h0,h1,h2,h3,h4,h5,h6,h7⟩:=h;have a0:=lit_ok hd h0;have a1:=lit_ok hd h1;have a2:=lit_ok hd h2;have a3:=lit_ok hd h3;simp only[Src.val] at a0 a1 a2 a3;have r100:rowI M 100 16=pwN (rowI M z 16) pm2 256:=fP pwN_length fun j hj=>by rw[fam_f hd h4 j hj,hf,hF.i43,aI,aI,aK,a0,a1];rfl
 have r116:rowI M 116 16=muL (rowI M x 16) (pwN (rowI M z 16) pm2 256):=fP (gS) fun j hj=>by rw[fam_f hd h5 j hj,hf,hF.i29,aI,aI,aK,a2,a3,r100];rfl
 have i98:M.i 98=bif decide (M.i 97≥0) then 1 else 0:=by
  split at h7;·rename_i hl _;rw[fB hd hl];rfl
  ·cases h7
 have i99:M.i 99=bif M.i 96==1 then 1 else 0:=by
  split at h7;·rename_i _ hl;rw[fB hd hl];rfl
  ·cases h7
 refine ⟨?_,by rw[fam_b hd h6,r116];rfl⟩;simp only[aC,Ob.holds,aK,aI];rw[hf,hF.p38,a0,a1,a2,a3,r100,i98,i99];refine ⟨⟨dx,pwN_dig⟩,⟨dz,pm2_dig⟩,?_,?_,nofun⟩
 ·cases t with
  | true=>rw[h96.mpr rfl];rfl
  | false =>
   have:M.i 96≠1:=fun e=>by have:=h96.mp e;cases this
   rw[show (M.i 96==1)=false by rw[beq_eq_false_iff_ne];exact this];rfl
 ·rw [bZ (by omega)];rfl
structure A12 (N:Num) (k w0:List Int) (n:Nat):Prop where
 hn:n≤255
 i:N.i 97=254-(n:Int)
 hk:rowI N 0 16=k
 hw:rowI N 16 80=(lad k w0 n).1
 hl:N.i 96=(lad k w0 n).2
theorem A12.agr {N N':Num}{k w0:List Int}{n:Nat}(h:Agr s12a.nx s12a.na N N')(hA:A12 N k w0 n):A12 N' k w0 n:=by
 have q:∀x,x<98→N'.i x=N.i x:=h.i;exact ⟨hA.hn,(q 97 (by decide)).trans hA.i,(fI fun j hj=>q _ (by omega)).trans hA.hk,(fI fun j hj=>q _ (by omega)).trans hA.hw,(q 96 (by decide)).trans hA.hl⟩
theorem stL_dig {u a b c d:List Int}:Dig w16 (stL u a b c d):=by
 intro v hv;simp only[stL,cX] at hv;rcases hv with h | h | h | h | h
 ·exact dgp_dig _ v h
 all_goals exact opL_dig v h
theorem stL_length {u a b c d:List Int}:(stL u a b c d).length=80:=by
 simp only[stL,aO,gS,dgp_length]
theorem step_dig {l:List Int}{b:Int}:Dig w16 (step l b):=by unfold step;split <;> exact stL_dig
theorem step_length {l:List Int}{b:Int}:(step l b).length=80:=by unfold step;split <;> exact stL_length
theorem lad_dig {k w0:List Int}(h:Dig w16 w0):∀ {n:Nat},Dig w16 (lad k w0 n).1
 | 0=>h
 | _+1=>step_dig
theorem lad_length {k w0:List Int}(h:w0.length=80):∀ {n:Nat},(lad k w0 n).1.length=80
 | 0=>h
 | _+1=>step_length
theorem dig_app {w:Int}{l m:List Int}(h:Dig w l)(h':Dig w m):Dig w (l++m):=fun v hv=>by
 rcases cX.1 hv with e | e
 ·exact h v e
 ·exact h' v e
theorem zeroL_dig:Dig w16 zeroL:=by unfold Dig zeroL;decide
theorem ofB_dig {b:List Int}:Dig w16 (ofB b):=digW_dig (by decide)
theorem start_dig {u:List Int}(h:Dig w16 u):Dig w16 (start u):=dig_app h (dig_app oneL_dig (dig_app zeroL_dig (dig_app h oneL_dig)))
theorem u8_rng {x:Int}:0≤IntKind.u8.wrap x∧IntKind.u8.wrap x≤255:=by rw[IntKind.wrap_u8];omega
theorem row_sub {N:Num}{x n k m:Nat}{L:List Int}(h:rowI N x n=L)(hk:k+m≤n):rowI N (x+k) m=(L.drop k).take m:=by
 subst h;refine fP (by rw[bE,aT,rowI_length];omega) fun j hj=> ?_
 rw[aE,cY hj,cH,rowI_get (by omega),dD];rfl
theorem ent1 {N:Num}{x hi:Nat}{l:Ent0}(h:0≤N.i x∧N.i x≤(hi:Int))(hl:EntOk N l):EntOk N ((x,1,hi)::l):=gB (fun v hv=>by
 have:v=N.i x:=by simpa [rowI,List.range_succ] using hv
 rw[this];exact h) hl
theorem spec12 {F:Fns}(hF:F12 F):CSpec Tryz.prog F 12 ct12:=by
 refine gA (args:=argsOf ct12) (σe:=stOf ct12) rfl Tryz.func12 (fM (by kernel_rfl)) (by kernel_rfl) (by kernel_rfl) fun is ls ws we Ee ac hs hp' hent hat=> ?_
 obtain ⟨s,u,rfl,rfl,hsl,hul⟩:=two16 hs;obtain ⟨bs,bu⟩:P12 [] [s,u]:=by rw[←hF.p12];exact hp'
 have hct:=eU (gM hF);have hres:∀j,F.i 12 [] [s,u] j=(xfn s u).getD j 0:=fun j=>by rw[hF.i12];rfl
 have hdu:=ofB_dig (b:=um u);have hdw:=start_dig hdu;have hlw:(start (ofB (um u))).length=80:=by simp only[start,aO];rw[show (ofB (um u)).length=16 from gW];rfl
 refine to_head hm hct (headR H12_c) (by kernel_rfl) rfl rfl hat hent.inv fun N hag hf hd=>⟨obs_of (R:=True) hd (by kernel_rfl) trivial,fun a1 w1 hat1=> ?_⟩
 have h0:A12 (pn (iR (hR H12)) (aR (hR H12)) N) (ofB (cl s)) (start (ofB (um u))) 0:=by
  have en:∀x,x<64→N.i x=(s++u).getD x 0:=fun x hx=>by rw[hag.i x hx];show (numsL ct12.ps [] [s,u]).getD x 0=_;simp only[ct12,numsL,bJ]
  have rs:rowI N 0 32=s:=row_in (L:=s++u) (by rw[bW,dO hsl]) hsl fun j hj=>en _ (by omega)
  have ru:rowI N 32 32=u:=row_in (L:=s++u) (by rw[List.drop_left' hsl,←hul,cS]) hul fun j hj=>en _ (by omega)
  have at_s:∀j,j<32→N.i j=s.getD j 0:=fun j hj=>by rw[←rs,fZ hj,bM]
  have at_u:∀j,j<32→N.i (32+j)=u.getD j 0:=fun j hj=>by rw[←ru,fZ hj]
  have e64:=H12_64 hd;have e66:=H12_66 hd;have e163:=H12_163 hd;rw[at_s 0 (by decide)] at e64;rw[at_s 31 (by decide)] at e66;rw[show (63:Nat)=32+31 from rfl,at_u 31 (by decide)] at e163;have hkN:kN.map N.i=cl s:=by simp only[kN,cl,aI,List.map_append,aK,e64,e66];rw[vs_rowI,show (1:Nat)=0+1 from rfl,row_sub rs (by decide)]
  have huN:uN.map N.i=um u:=by simp only[uN,um,aI,List.map_append,aK,e163];rw[vs_rowI];have:=row_sub (k:=0) (m:=31) ru (by decide);rw[cJ,bW] at this;rw[this]
  have byt:∀ {l:List Int},Bytes l→∀v∈l,0≤v∧v≤((255:Nat):Int):=fun h v hv=>by have:=h v hv;omega
  obtain ⟨-,k2⟩:=okB_ok H12_ok (N:=N) cx0_ok il0 (gB (by rw[rs];exact byt bs) (gB (by rw[ru];exact byt bu) (ent1 (by rw[e64];exact u8_rng) (ent1 (by rw[e66];exact u8_rng) (ent1 (by rw[e163];exact u8_rng) ent_nil))))) hd;simp only[aC,Tst.holds] at k2;obtain ⟨l1,b1,l2,b2,-⟩:=k2;rw[←gF (al:=aR (hR H12)),fU,hkN] at l1;rw[←gF (al:=aR (hR H12)),fU,huN] at l2;rw[←gF (al:=aR (hR H12))] at b1 b2;have val:∀ {x:Nat} {b:List Int},((0:Nat):Int) ∣ valW w16 (rowI (pn (iR (hR H12)) (aR (hR H12)) N) x 16)-valW 256 b→(∀ v∈rowI (pn (iR (hR H12)) (aR (hR H12)) N) x 16,0≤v∧v<((65536:Nat):Int))→rowI (pn (iR (hR H12)) (aR (hR H12)) N) x 16=ofB b:=fun {x b} hl hb=>by
   have e:valW w16 (rowI (pn (iR (hR H12)) (aR (hR H12)) N) x 16)=valW 256 b:=by obtain ⟨z,hz⟩:=hl;have hz:valW w16 (rowI (pn (iR (hR H12)) (aR (hR H12)) N) x 16)-valW 256 b=0*z:=hz;rw[Int.zero_mul] at hz;omega
   rw[ofB,←e];exact dig_of_val (by decide) (rowI_length _ _ _) hb
  have r0:=val l1 b1;have r1:=val l2 b2;have hk:=H12_k;simp only[c12,aG] at hk;obtain ⟨q1,q2,q3,q4,q5,q6⟩:=hk;refine ⟨by omega,by rw[pn_at (fF q6)];rfl,r0,?_,by rw[pn_at (fF q5)];rfl⟩;have split:∀(M:Num),rowI M 16 80=rowI M 16 16++(rowI M 32 16++(rowI M 48 16++(rowI M 64 16++rowI M 80 16))):=fun M=>rfl
  rw[split,r1,gF,gF,gF,gF,eArs_eq q1,eArs_eq q2,eArs_eq q3,eArs_eq q4,←gF (al:=aR (hR H12)),r1];rfl
 refine gQ (fun k ac w=>∃N n,k=255-n∧A12 N (ofB (cl s)) (start (ofB (um u))) n∧At F Tryz.f12.ntmps (num0 F ct12.ps [] [s,u]) Ee (stOf ct12) we T12a s12a N ac w) (k:=255) ⟨_,0,rfl,h0,hat1⟩ ?_;clear hat hat1 hag hd h0 hf;intro k ac w hJ;obtain ⟨N,n,hk,hA,hat⟩:=hJ;have hn:=hA.hn;rcases bL n 255 with hlt | hge
 ·have hi:∀ {M:Num},A12 M (ofB (cl s)) (start (ofB (um u))) n→M.i 97=((254-n:Nat):Int):=fun {M} h=>by rw[h.i];omega
  refine gI hm hct R12_s (by kernel_rfl) rfl rfl hat hent.inv fun M hag hf hd=> ?_
  have hB:=hA.agr hag;have h104:=R12_104 hd;rw[bit_at (hi hB),bit_eq (by omega),hB.hk] at h104;have h105:=R12_105 hd;rw[h104,hB.hl] at h105;have a0:=R12_a hd;rw[show (vs 16 80).map (·.ev M)=rowI M 16 80 from gD,hB.hw] at a0;refine ⟨(okB_ok R12_ok (N:=M) cx0_ok il0 (ent1 (by rw[hi hB];omega) ent_nil) hd).1 ?_,fun a2 w2 hat2=>⟨254-n,by omega,_,n+1,by omega,⟨by omega,?_,?_,?_,?_⟩,hat2⟩⟩
  ·simp only[aC,Rs.holds,Ob.holds,aK,aI];rw[hf,hF.p27,a0];exact ⟨lad_dig hdw,nofun⟩
  ·rw [R12_97 hd,hB.i];simp only[iop];rw[IntKind.wrap_i64];omega
  ·exact (fI fun j hj=>R12_v j hj).trans hB.hk
  ·refine fP (by rw[lad_length hlw]) fun j hj=> ?_
   rw[R12_w j hj,R12_f hd j hj,hf,hF.i27,aI,aK,aI,aK,a0];show (step (lad (ofB (cl s)) (start (ofB (um u))) n).1 (M.i 105)).getD j 0=_;rw[h105];rfl
  ·rw [R12_96,h104];rfl
 ·obtain rfl:n=255:=by omega
  have fin:∀ {M:Num},A12 M (ofB (cl s)) (start (ofB (um u))) 255→(∀ k,k<5→rowI M (16+16*k) 16=five (lad (ofB (cl s)) (start (ofB (um u))) 255).1 k)∧M.i 97<0:=fun {M} h =>
   ⟨fun k hk=>row_sub h.hw (by omega),by rw[h.i];decide⟩
  have dg:∀k,Dig w16 (five (lad (ofB (cl s)) (start (ofB (um u))) 255).1 k):=fun k=>five_dig (lad_dig hdw)
  by_cases hl:(lad (ofB (cl s)) (start (ofB (um u))) 255).2=1
  ·refine gH hm hct O12t_s (by kernel_rfl) hat hent fun M hag hf hd=> ?_
   have hB:=hA.agr hag;obtain ⟨f1,f2⟩:=fin hB;have r3:rowI M 64 16=_:=f1 3 (by decide);have r4:rowI M 80 16=_:=f1 4 (by decide);obtain ⟨k1,k2⟩:=end12 hF (t:=true) hf hd O12t_b (by rw[r3];exact dg _) (by rw[r4];exact dg _) f2 (by rw[hB.hl];simp[hl]);refine ⟨by rw[O12t_q];exact k1,⟨zip_map k2 fun j=> ?_,trivial,trivial⟩,nofun⟩;show F.i 12 _ _ j=_;rw[hres,r3,r4,xfn];simp only[bG hl]
  ·refine gH hm hct O12f_s (by kernel_rfl) hat hent fun M hag hf hd=> ?_
   have hB:=hA.agr hag;obtain ⟨f1,f2⟩:=fin hB;have r3:rowI M 32 16=_:=f1 1 (by decide);have r4:rowI M 48 16=_:=f1 2 (by decide);obtain ⟨k1,k2⟩:=end12 hF (t:=false) hf hd O12f_b (by rw[r3];exact dg _) (by rw[r4];exact dg _) f2 (by rw[hB.hl];simp[hl]);refine ⟨by rw[O12f_q];exact k1,⟨zip_map k2 fun j=> ?_,trivial,trivial⟩,nofun⟩;show F.i 12 _ _ j=_;rw[hres,r3,r4,xfn];simp only[bC hl]
structure Pw (z:Int) (k:Nat) (x:Int):Prop where
 h:cg x (z^k)
theorem Pw.mul {z x y:Int}{j k n:Nat}(a:Pw z j x)(b:Pw z k y)(h:Nat.beq (j+k) n=true):Pw z n (x*y) :=
 ⟨by rw[←aF h,Int.pow_add];exact a.h.mul b.h⟩
theorem Pw.cg {z x y:Int}{k:Nat}(a:Pw z k x)(h:cg y x):Pw z k y:=⟨h.trans a.h⟩
theorem Pw.one {z:Int}:Pw z 1 z:=⟨by rw[Int.pow_succ,Int.pow_zero,Int.one_mul];exact cg.refl z⟩
theorem Pw.zero {z:Int}:Pw z 0 1:=⟨by rw[Int.pow_zero];exact cg.refl 1⟩
theorem sqn_pw {S:List Int}{n:Nat}(h:S107 S n 0)(hn:n<2147483648){z:Int}{e:Nat}(hz:Pw z e (V51 (S.take 5))):∀ {k:Nat},k≤n→Pw z (e*2^k) (V51 ((sqn S k).take 5))∧(0<k→LimO ((sqn S k).take 5))
 | 0,_=>⟨by rw[Nat.pow_zero,Nat.mul_one];exact hz,fun h=>absurd h (by decide)⟩
 | k+1,hk=>by have ih:=(sqn_pw h hn hz (k:=k) (by omega)).1;obtain ⟨-,h1,h2⟩:=rnd_law (sqn_S h hn (k:=k) (by omega)) (by omega) hn;refine ⟨Pw.cg (ih.mul ih ?_) h2,fun _=>h1⟩;rw[Nat.beq_eq,Nat.pow_succ,←Nat.mul_assoc];omega
theorem lawS {F:Fns}(hF:F107 F){v a:List Int}{n:Nat}(ha:Lim a)(h0:0<n)(hn:n<2147483648){z:Int}{e k:Nat}(hz:Pw z e (V51 a))(hk:Nat.beq (e*2^n) k=true) :
 (F.p 107 [(n:Int)] [v,a]∧LimO (F.a 107 [(n:Int)] [v,a])∧Pw z k (V51 (F.a 107 [(n:Int)] [v,a])))∧(F.p 108 [(n:Int)] [a]∧LimO (F.a 108 [(n:Int)] [a])∧Pw z k (V51 (F.a 108 [(n:Int)] [a]))):=by
 have hS:=S107_0 (n:=(n:Int)) ha (by omega);have ht:((a++[(n:Int),0]).take 5)=a:=dO ha.1;obtain ⟨k1,k2⟩:=sqn_pw hS (by omega) (z:=z) (e:=e) (by rw[ht];exact hz) (k:=n) (by omega);rw[aF hk] at k1;have p1:P107 [(n:Int)] [v,a]:=⟨ha,by omega,by omega⟩
 have p2:P107a [(n:Int)] [a]:=⟨ha,by omega,by omega⟩
 have e1:F.a 107 [(n:Int)] [v,a]=(sqn (a++[(n:Int),0]) n).take 5:=by rw[hF.a107,A107,bG p1];rfl
 have e2:F.a 108 [(n:Int)] [a]=(sqn (a++[(n:Int),0]) n).take 5:=by rw[hF.a108,A107,bG p2];rfl
 rw[e1,e2,hF.p107,hF.p108];exact ⟨⟨p1,k2 h0,k1⟩,p2,k2 h0,k1⟩
def ex (e:List Int):Nat→Nat
 | 0=>0
 | n+1=>2*ex e n+(if bitL e (255-n)=1 then 1 else 0)
theorem pwN_pw {a e:List Int}:∀ {n:Nat},Pw (V16 a) (ex e n) (V16 (pwN a e n))
 | 0=>⟨by rw[ex,Int.pow_zero];exact cg.of (by unfold pwN;decide)⟩
 | n+1=>by
  have ih:=pwN_pw (a:=a) (e:=e) (n:=n);have sq:Pw (V16 a) (2*ex e n) (V16 (muL (pwN a e n) (pwN a e n))):=Pw.cg (ih.mul ih (by rw[Nat.beq_eq];omega)) (by unfold muL opL;rw[dgp_val];exact pI_dvd_emod _);simp only[pwN,ex]
  split
  ·exact Pw.cg (sq.mul Pw.one (by rw[Nat.beq_eq])) (by unfold muL opL;rw[dgp_val];exact pI_dvd_emod _)
  ·exact sq
theorem ex_pm2:ex pm2 256=57896044618658097711785492504343953926634992332820282019728792003956564819947:=by kernel_rfl
def pairs:List Int→List Int
 | x::y::l=>(x+256*y)::pairs l
 | _=>[]
theorem pairs_val:∀ {n:Nat} {b:List Int},b.length=2*n→valW w16 (pairs b)=valW 256 b∧(pairs b).length=n
 | 0,b,h=>by have:b=[]:=cI.1 (by omega);subst this;exact ⟨rfl,rfl⟩
 | n+1,[],h=>by simp at h
 | n+1,[x],h=>by simp at h;omega
 | n+1,x::y::l,h=>by simp only[bU] at h;obtain ⟨h1,h2⟩:=pairs_val (n:=n) (b:=l) (by omega);refine ⟨?_,by simp only[pairs,bU,h2]⟩;simp only[pairs,valW,h1];show x+256*y+65536*valW 256 l=x+256*(y+256*valW 256 l);omega
theorem pairs_dig:∀ {b:List Int},Bytes b→Dig w16 (pairs b)
 | [],_=>fun d h=>by cases h
 | [x],_=>fun d h=>by cases h
 | x::y::l,h=>fun d hd=>by
  have hx:=h x aN;have hy:=h y (aJ _ aN);simp only[pairs] at hd;rcases cD.1 hd with e | e
  ·subst e;show 0≤x+256*y∧x+256*y<65536;omega
  ·exact pairs_dig (fun z hz=>h z (aJ _ (aJ _ hz))) d e
theorem ofB_pairs {b:List Int}(hb:Bytes b)(hl:b.length=32):ofB b=pairs b:=by
 obtain ⟨h1,h2⟩:=pairs_val (n:=16) hl;rw[ofB,←h1];exact (dig_of_val (by decide) h2 (pairs_dig hb)).symm
theorem pairs_getD:∀ {b:List Int} {k n:Nat},b.length=2*n→k<n→(pairs b).getD k 0=b.getD (2*k) 0+256*b.getD (2*k+1) 0
 | [],k,n,h,hk=>by simp at h;omega
 | [x],k,n,h,hk=>by simp at h;omega
 | x::y::l,0,n,_,_=>rfl
 | x::y::l,k+1,0,_,hk=>by omega
 | x::y::l,k+1,n+1,h,hk=>by simp only[bU] at h;have:=pairs_getD (b:=l) (k:=k) (n:=n) (by omega) (by omega);simp only[pairs,List.getD_cons_succ,show 2*(k+1)=(2*k+1)+1 by omega];exact this
theorem and_one {k:IntKind}(hk:unsignedB k=true){v:Int}(h0:0≤v)(h1:v<(2:Int)^k.bits)(hb:1≤k.bits):iop .and k v 1=v%2:=by
 have:=and_mask (k:=k) (a:=v) (c:=1) hk h0 h1 hb;simpa using this
theorem dbit {x y:Nat}(hx:x<256)(s:Nat)(hs:s<8):(x+256*y)/2^s%2=x/2^s%2∧(x+256*y)/2^(s+8)%2=y/2^s%2:=by
 match s,hs with
 | 0,_=>simp only[Nat.reducePow,bM];omega
 | 1,_=>simp only[Nat.reducePow,Nat.reduceAdd];omega
 | 2,_=>simp only[Nat.reducePow,Nat.reduceAdd];omega
 | 3,_=>simp only[Nat.reducePow,Nat.reduceAdd];omega
 | 4,_=>simp only[Nat.reducePow,Nat.reduceAdd];omega
 | 5,_=>simp only[Nat.reducePow,Nat.reduceAdd];omega
 | 6,_=>simp only[Nat.reducePow,Nat.reduceAdd];omega
 | 7,_=>simp only[Nat.reducePow,Nat.reduceAdd];omega
theorem byte_at {b:List Int}(hb:Bytes b)(i:Nat):∃x:Nat,b.getD i 0=x∧x<256:=by
 by_cases h:i<b.length
 ·have:=hb _ (List.getElem_mem h);rw[aE,aU h];obtain ⟨x,hx⟩:=aZ this.1;exact ⟨x,by simpa using hx,by omega⟩
 ·rw [aE,bI (by omega)];exact ⟨0,rfl,by decide⟩
theorem bit_byte {b:List Int}(hb:Bytes b)(hl:b.length=32){i:Nat}(hi:i<256):bitL (ofB b) i=iop .and .u8 (iop .shr .u8 (b.getD (i/8) 0) ((i%8:Nat):Int)) 1:=by
 obtain ⟨x,hx,bx⟩:=byte_at hb (2*(i/16));obtain ⟨y,hy,byy⟩:=byte_at hb (2*(i/16)+1);have hd:(ofB b).getD (i/16) 0=((x+256*y:Nat):Int):=by rw[ofB_pairs hb hl,pairs_getD (n:=16) hl (by omega),hx,hy];omega
 have lhs:bitL (ofB b) i=(((x+256*y)/2^(i%16)%2:Nat):Int):=by
  unfold bitL;rw[hd];have e:iop .shr .u64 ((x+256*y:Nat):Int) ((i%16:Nat):Int)=(((x+256*y)/2^(i%16):Nat):Int):=by rw[show ((i%16:Nat):Int)=Int.ofNat (i%16) from rfl,iop_shr_nat (by show i%16≤64;omega)];rfl
  rw[e,and_one (k:= .u64) rfl (cR _) (Int.ofNat_lt.2 (Nat.lt_of_le_of_lt (Nat.div_le_self (x+256*y) (2^(i%16))) (show x+256*y<18446744073709551616 by omega))) (by decide)];rfl
 have rhs:∀ {z:Nat},z<256→b.getD (i/8) 0=(z:Int)→iop .and .u8 (iop .shr .u8 (b.getD (i/8) 0) ((i%8:Nat):Int)) 1=((z/2^(i%8)%2:Nat):Int):=fun {z} hz e0=>by
  rw[e0];have e:iop .shr .u8 (z:Int) ((i%8:Nat):Int)=((z/2^(i%8):Nat):Int):=by rw[show ((i%8:Nat):Int)=Int.ofNat (i%8) from rfl,iop_shr_nat (by show i%8≤8;omega)];rfl
  rw[e,and_one (k:= .u8) rfl (cR _) (Int.ofNat_lt.2 (Nat.lt_of_le_of_lt (Nat.div_le_self z (2^(i%8))) hz)) (by decide)];rfl
 rw[lhs];rcases bL (i%16) 8 with h | h
 ·rw [rhs bx (by rw[show i/8=2*(i/16) by omega];exact hx),show i%16=i%8 by omega,(dbit bx (i%8) (by omega)).1]
 ·rw [rhs byy (by rw[show i/8=2*(i/16)+1 by omega];exact hy),show i%16=i%8+8 by omega,(dbit bx (i%8) (by omega)).2]
theorem digW_get {w:Int}(hw:0≤w):∀ {n j:Nat} {v:Int},j<n→(digW w n v).getD j 0=v/w^j%w
 | 0,_,_,h=>by omega
 | n+1,0,v,_=>by rw[Int.pow_zero,Int.ediv_one];rfl
 | n+1,j+1,v,h=>by show (digW w n (v/w)).getD j 0=_;rw[digW_get hw (by omega),Int.ediv_ediv_of_nonneg hw,Int.pow_succ,dT w]
theorem valW_take {w:Int}(hw:1≤w){l:List Int}{k:Nat}(hl:Dig w l)(hk:k≤l.length):valW w (l.take k)=valW w l%w^k∧valW w (l.drop k)=valW w l/w^k:=by
 have e:valW w l=valW w (l.take k)+w^k*valW w (l.drop k):=by
  conv=>lhs;rw[←List.take_append_drop k l]
  rw[valW_append,bE,Nat.min_eq_left hk]
 have r:=valW_rng hw (l:=l.take k) fun d hd=>hl d (dQ hd)
 rw[bE,Nat.min_eq_left hk] at r;have p:(0:Int)<w^k:=by omega
 rw[e,Int.add_mul_emod_self_left,bN r.1 r.2,Int.add_mul_ediv_left _ _ (by omega),Int.ediv_eq_zero_of_lt r.1 r.2,Int.zero_add];exact ⟨rfl,rfl⟩
theorem bytes_dig {b:List Int}(h:Bytes b):Dig 256 b:=fun d hd=>h d hd
theorem window {b:List Int}{k:Nat}(hb:Bytes b)(hk:k+8≤b.length):valW 256 ((b.drop k).take 8)=valW 256 b/256^k%18446744073709551616:=by
 have d1:=(valW_take (w:=256) (by decide) (bytes_dig hb) (show k≤b.length by omega)).2;have d2:=(valW_take (w:=256) (l:=b.drop k) (k:=8) (by decide) (fun d hd=>bytes_dig hb d (List.mem_of_mem_drop hd)) (by rw[aT];omega)).1;rw[d2,d1];rfl
theorem limb_eq {W:Int}{s:Nat}(h0:0≤W)(h1:W<18446744073709551616)(hs:s≤64):iop .and .u64 (iop .shr .u64 W (s:Int)) 2251799813685247=W/2^s%2251799813685248:=by
 rw[shr_kst (k:= .u64) hs];have p:(0:Int)<2^s:=Int.pow_pos (by decide);have a:W/2^s≤W:=Int.ediv_le_self _ h0;exact and_mask (k:= .u64) (c:=51) rfl (Int.ediv_nonneg h0 (Int.le_of_lt p)) (by show _<(18446744073709551616:Int);omega) (by decide)
theorem um_val {u:List Int}(hu:Bytes u)(hl:u.length=32):valW 256 (um u)=valW 256 u%57896044618658097711785492504343953926634992332820282019728792003956564819968∧Bytes (um u)∧(um u).length=32:=by
 obtain ⟨x,hx,bx⟩:=byte_at hu 31;have e:iop .and .u8 (u.getD 31 0) 127=(x:Int)%128:=by rw[hx];exact and_mask (k:= .u8) (c:=7) rfl (by omega) (by show _<(256:Int);omega) (by decide)
 have ht:(u.take 31).length=31:=by rw[bE];omega
 obtain ⟨t1,t2⟩:=valW_take (w:=256) (k:=31) (by decide) (bytes_dig hu) (by omega);have hd:u.drop 31=[(x:Int)]:=by rw[dS (by omega),cF (by omega),←hx,aE,aU (by omega)];rfl
 rw[hd] at t2;refine ⟨?_,?_,by rw[um,aO,ht];rfl⟩
 ·rw [um,valW_append,ht,e,t1];simp only[valW,Int.mul_zero,dJ] at t2 ⊢;rw[t2] at *;have r:=valW_rng (w:=256) (by decide) (bytes_dig hu);rw[hl] at r;have p31:(256:Int)^31=452312848583266388373324160190187140051835877600158453279131187530910662656:=by decide
  rw[p31] at *;omega
 ·intro d hd;rw[um] at hd;rcases cX.1 hd with h | h
  ·exact hu d (dQ h)
  ·simp only[aX] at h;rw[h,e];omega
theorem bytesL_dig {v:Int}(_h:0≤v):bytesL (digW w16 16 v)=digW 256 32 v:=by
 refine dA fun i=> ?_
 by_cases hi:i<32
 ·have e2:(digW 256 32 v)[i]? =some ((digW 256 32 v).getD i 0):=by
   rw[aE,aU (by rw[gW];exact hi)];rfl
  rw[e2,digW_get (by decide) hi,bytesL,bP,cL hi,Option.map_some];congr 1;rw[digW_get (by decide) (by omega),shr_kst (k:= .u64) (by show 8*(i%2)≤64;omega),IntKind.wrap_u8];have hq:∃q,v/w16^(i/2)=q:=⟨_,rfl⟩
  obtain ⟨q,hq⟩:=hq;rw[hq];have hw:w16=65536:=rfl;rcases Nat.mod_two_eq_zero_or_one i with h2 | h2
  ·have:(256:Int)^i=w16^(i/2):=by
    conv=>lhs;rw[show i=2*(i/2) by omega,Int.pow_mul]
    rfl
   rw[this,hq,h2,hw,Nat.mul_zero,Int.pow_zero,Int.ediv_one];omega
  ·have:(256:Int)^i=w16^(i/2)*256:=by
    conv=>lhs;rw[show i=2*(i/2)+1 by omega,Int.pow_succ,Int.pow_mul]
    rfl
   have p:(0:Int)<w16^(i/2):=Int.pow_pos (by decide);rw[this,←Int.ediv_ediv_of_nonneg (by omega),hq,h2,hw];show q%65536/256%256=q/256%256;omega
 ·rw [bI (by rw[bytesL,bF,cV];omega),bI (by rw[gW];omega)]
def cry (w:Int)(c:Int):List Int→Int
 | []=>c
 | a::l=>cry w ((a+c)/w) l
def dgc (w:Int)(c:Int):List Int→List Int
 | []=>[]
 | a::l=>(a+c)%w::dgc w ((a+c)/w) l
theorem cry_val {w:Int}(hw:0<w):∀ {l:List Int} {c:Int},cry w c l=(c+valW w l)/w^l.length
 | [],c=>by simp only[cry,valW,dV,Int.pow_zero,Int.ediv_one,dJ]
 | a::l,c=>by simp only[cry,valW,bU];rw[cry_val hw,Int.pow_succ,dT _ w,←Int.ediv_ediv_of_nonneg (Int.le_of_lt hw)];congr 1;rw[show c+(a+w*valW w l)=(a+c)+w*valW w l by omega,Int.add_mul_ediv_left _ _ (by omega)]
theorem dgc_val {w:Int}(hw:0<w):∀ {l:List Int} {c:Int},dgc w c l=digW w l.length (c+valW w l)
 | [],c=>rfl
 | a::l,c=>by simp only[dgc,valW,bU,digW];rw[show c+(a+w*valW w l)=(a+c)+w*valW w l by omega,Int.add_mul_emod_self_left,Int.add_mul_ediv_left _ _ (by omega),dgc_val hw]
def s64g:St:={s64 with gl:=(stOf ct64).gl}
def nx2:List Nat:=[74,78,82,86,90]
def nx3:List Nat:=[75,79,83,87,91]
def nz2:List Nat:=[97,101,105,109,113]
def nz3:List Nat:=[98,102,106,110,114]
def nA:List Nat:=[185,197,194,191,188]
def nB:List Nat:=[161,173,170,167,164]
def nC:List Nat:=[209,221,218,215,212]
def nD:List Nat:=[132,144,141,138,135]
def nX:List Nat:=[253,265,262,259,256]
def nY:List Nat:=[282,294,291,288,285]
def nE:List Nat:=[316,328,325,322,319]
def nM:List Nat:=[365,366,367,368,369]
def nN:List Nat:=[386,398,395,392,389]
abbrev r5 (x:Nat):List Nat:=List.range' x 5
def vl (l:List Nat):List Ar:=l.map .var
def rP (l:List Nat):Pol:=rowPL w51 l
def subP (a b:Pol):Pol:=padd a (pscale (-1) b)
noncomputable abbrev R64:=rndOf ct64 Tryz.f64 (callT tabE) [12] (loopAt 64 12) T64 s64g [true] T64 s64g
theorem R64_s:R64=some (iR R64,aR R64,dR R64,oR R64):=someR (by kernel_rfl)
def ent64:Ent0:=(32,5,2251799822073856)::(58,1,254)::(nx2++nx3++nz2++nz3).map fun x=>(x,1,2251799822073856)
def rest64:List Rs:=[.ob (.prd 100 [] [26,27,28]),.ob (.prd 100 [] [22,23,24]),.ob (.prd 92 [] [20]),.ob (.prd 92 [] [18]),.ob (.prd 100 [] [14,15,16]),.ob (.prd 91 [] [11,12]),.ob (.prd 91 [] [8,9]),.ob (.prd 101 [] [5,6]),.ob (.prd 100 [] [1,2,3]),.ob (.le (.kst 0) (.var 64))]
def lw (l:List Nat)(t:Pol):List Tst:=[.law w51 (vl l) t pN,.bnd (vl l) 2251799822073857]
def t64:List Tst:=lw nA (padd (rP nx2) (rP nz2))++(lw nB (subP (rP nx2) (rP nz2))++(lw nC (padd (rP nx3) (rP nz3))++(lw nD (subP (rP nx3) (rP nz3))++(lw nX (padd (rP (r5 222)) (rP (r5 227)))++(lw nY (subP (rP (r5 222)) (rP (r5 227))) ++
 (lw nE (subP (rP (r5 237)) (rP (r5 232)))++(lw nM (pscale 121666 (subP (rP (r5 237)) (rP (r5 232))))++lw nN (padd (rP (r5 232)) (pscale 121666 (subP (rP (r5 237)) (rP (r5 232))))))))))))
theorem R64_ok:okB cxE ent64 (dR R64) (oR R64) rest64 t64=true:=by kernel_rfl
def m64:List Mst:=[⟨4,222,100,[(1,nz3),(2,nD),(3,nA)]⟩,⟨7,227,101,[(5,nC),(6,nB)]⟩,⟨10,232,91,[(8,nD),(9,nB)]⟩,⟨13,237,91,[(11,nB),(12,nA)]⟩,⟨17,295,100,[(14,nA),(15,r5 237),(16,r5 232)]⟩,
 ⟨19,329,92,[(18,nY)]⟩,⟨21,370,92,[(20,nX)]⟩,⟨25,399,100,[(22,nM),(23,r5 32),(24,r5 329)]⟩,⟨29,404,100,[(26,r5 329),(27,nE),(28,nN)]⟩]
theorem R64_m:m64.all (mstB (dR R64))=true:=by kernel_rfl
theorem vl_ev {N:Num}{l:List Nat}:(vl l).map (·.ev N)=l.map N.i:=by simp only[vl,cZ];rfl
theorem r5_row {N:Num}{x:Nat}:(r5 x).map N.i=rowI N x 5:=vs_rowI
theorem lw_holds {N:Num}{l:List Nat}{t:Pol}{v:Int}(hl:l.length=5)(h:∀x∈lw l t,x.holds N)(ht:t.ev N=v):LimO (l.map N.i)∧cg (V51 (l.map N.i)) v:=by
 simp only[lw,aC,Tst.holds,vl_ev] at h;obtain ⟨h1,h2,-⟩:=h;exact ⟨limO_of (by rw[bF,hl]) h2,by rw[←ht];exact h1⟩
section
variable {F:Fns} {N:Num} {ds:List Df} {A x i j k:Nat} {nv na nb:List Nat}
theorem st100 (hF:F91 F)(hf:N.f=F)(hd:∀d∈ds,d.sat N)(h:mstB ds ⟨A,x,100,[(i,nv),(j,na),(k,nb)]⟩=true)(hv:nv.length=5)(ha:Lim (na.map N.i))(hb:Lim (nb.map N.i)) :
 N.f.p 100 [] [N.a i,N.a j,N.a k]∧LimO (rowI N x 5)∧cg (V51 (rowI N x 5)) (V51 (na.map N.i)*V51 (nb.map N.i)):=by
 obtain ⟨q,a,r⟩:=mst_ok hd h;simp only[aC,aI,aK] at q a r;obtain ⟨p,L,e⟩:=law100 hF (v:=nv.map N.i) (by rw[bF,hv]) ha hb;rw[←hf,←q] at L e
 replace r:=r L.1
 rw[←r] at L e;rw[a.1,a.2.1,a.2.2.1,hf];exact ⟨p,L,e⟩
theorem st101 (hF:F91 F)(hf:N.f=F)(hd:∀d∈ds,d.sat N)(h:mstB ds ⟨A,x,101,[(i,na),(j,nb)]⟩=true)(ha:Lim (na.map N.i))(hb:Lim (nb.map N.i)) :
 N.f.p 101 [] [N.a i,N.a j]∧LimO (rowI N x 5)∧cg (V51 (rowI N x 5)) (V51 (na.map N.i)*V51 (nb.map N.i)):=by
 obtain ⟨q,a,r⟩:=mst_ok hd h;simp only[aC,aI,aK] at q a r;obtain ⟨p,L,e⟩:=law101 hF ha hb;rw[←hf,←q] at L e
 replace r:=r L.1
 rw[←r] at L e;rw[a.1,a.2.1,hf];exact ⟨p,L,e⟩
theorem st91 (hF:F91 F)(hf:N.f=F)(hd:∀d∈ds,d.sat N)(h:mstB ds ⟨A,x,91,[(i,nv),(j,na)]⟩=true)(hv:nv.length=5)(ha:Lim (na.map N.i)) :
 N.f.p 91 [] [N.a i,N.a j]∧LimO (rowI N x 5)∧cg (V51 (rowI N x 5)) (V51 (na.map N.i)*V51 (na.map N.i)):=by
 obtain ⟨q,a,r⟩:=mst_ok hd h;simp only[aC,aI,aK] at q a r;obtain ⟨p,L,e⟩:=law91 hF (v:=nv.map N.i) (by rw[bF,hv]) ha;rw[←hf,←q] at L e
 replace r:=r L.1
 rw[←r] at L e;rw[a.1,a.2.1,hf];exact ⟨p,L,e⟩
theorem st92 (hF:F91 F)(hf:N.f=F)(hd:∀d∈ds,d.sat N)(h:mstB ds ⟨A,x,92,[(i,na)]⟩=true)(ha:Lim (na.map N.i)) :
 N.f.p 92 [] [N.a i]∧LimO (rowI N x 5)∧cg (V51 (rowI N x 5)) (V51 (na.map N.i)*V51 (na.map N.i)):=by
 obtain ⟨q,a,r⟩:=mst_ok hd h;simp only[aC,aI,aK] at q a r;obtain ⟨p,L,e⟩:=law92 hF ha;rw[←hf,←q] at L e
 replace r:=r L.1
 rw[←r] at L e;rw[a.1,hf];exact ⟨p,L,e⟩
end
def fX2 (a b:Int):Int:=(a+b)*(a+b)*((a-b)*(a-b))
def fE (a b:Int):Int:=(a+b)*(a+b)-(a-b)*(a-b)
def fZ2 (a b:Int):Int:=fE a b*((a-b)*(a-b)+121666*fE a b)
def fX3 (a b c d:Int):Int:=((c-d)*(a+b)+(c+d)*(a-b))*((c-d)*(a+b)+(c+d)*(a-b))
def fZ3 (u a b c d:Int):Int:=u*(((c-d)*(a+b)-(c+d)*(a-b))*((c-d)*(a+b)-(c+d)*(a-b)))
theorem round64 {F:Fns}(hF:F91 F){N:Num}{a b c d u:Int}(hf:N.f=F)(hd:∀x∈dR R64,x.sat N)(h64:0≤N.i 64)(hpos:0≤N.i 58∧N.i 58≤254)
 (hu:LimO (rowI N 32 5)) (l1:LimO (nx2.map N.i)) (l2:LimO (nz2.map N.i)) (l3:LimO (nx3.map N.i)) (l4:LimO (nz3.map N.i))
 (eu:cg (V51 (rowI N 32 5)) u) (ea:cg (V51 (nx2.map N.i)) a) (eb:cg (V51 (nz2.map N.i)) b) (ec:cg (V51 (nx3.map N.i)) c) (ed:cg (V51 (nz3.map N.i)) d) :
 (∀ o∈oR R64,o.holds N)∧(LimO (rowI N 295 5)∧cg (V51 (rowI N 295 5)) (fX2 a b))∧(LimO (rowI N 404 5)∧cg (V51 (rowI N 404 5)) (fZ2 a b))∧(LimO (rowI N 370 5)∧cg (V51 (rowI N 370 5)) (fX3 a b c d))∧(LimO (rowI N 399 5)∧cg (V51 (rowI N 399 5)) (fZ3 u a b c d)):=by
 have hent:EntOk N ent64:=by
  refine gB (fun v hv=>hu.2 v hv) (ent1 hpos ?_);intro x n hi hm j hj;obtain ⟨y,hy,e⟩:=dC.1 hm;simp only[aD] at e;obtain ⟨rfl,rfl,rfl⟩:=e;obtain rfl:j=0:=by omega
  rw[cJ];rcases cX.1 hy with hy | hy
  ·rcases cX.1 hy with hy | hy
   ·rcases cX.1 hy with hy | hy
    ·exact l1.2 _ (dG hy)
    ·exact l3.2 _ (dG hy)
   ·exact l2.2 _ (dG hy)
  ·exact l4.2 _ (dG hy)
 obtain ⟨k1,k2⟩:=okB_ok R64_ok (N:=N) (by rw[hf];exact cxE_ok hF) (fun _ _ h=>by cases h) hent hd;simp only[t64,cB] at k2;obtain ⟨tA,tB,tC,tD,tX,tY,tE,tM,tN⟩:=k2;have hm:=R64_m;simp only[m64,List.all_cons,List.all_nil,aG] at hm;obtain ⟨m1,m2,m3,m4,m5,m6,m7,m8,m9,-⟩:=hm;obtain ⟨LA,eA⟩:=lw_holds rfl tA (by rw[fS,rP,rP,fU,fU]);obtain ⟨LB,eB⟩:=lw_holds rfl tB (by rw[subP,fS,fN,rP,rP,fU,fU]);obtain ⟨LC,eC⟩:=lw_holds rfl tC (by rw[fS,rP,rP,fU,fU])
 obtain ⟨LD,eD⟩:=lw_holds rfl tD (by rw[subP,fS,fN,rP,rP,fU,fU]);have neg:∀ {x y x' y':Int},cg x x'→cg y y'→cg (x+ -1*y) (x'-y'):=fun {x y x' y'} h h'=>by rw[show x+ -1*y=x-y by omega];exact h.sub h'
 have eA:=eA.trans (ea.add eb);have eB:=eB.trans (neg ea eb);have eC:=eC.trans (ec.add ed);have eD:=eD.trans (neg ec ed);obtain ⟨p1,L1,e1⟩:=st100 hF hf hd m1 rfl LD.lim LA.lim;obtain ⟨p2,L2,e2⟩:=st101 hF hf hd m2 LC.lim LB.lim;obtain ⟨p3,L3,e3⟩:=st91 hF hf hd m3 rfl LB.lim;obtain ⟨p4,L4,e4⟩:=st91 hF hf hd m4 rfl LA.lim;have e1:=e1.trans (eD.mul eA);have e2:=e2.trans (eC.mul eB);have e3:=e3.trans (eB.mul eB);have e4:=e4.trans (eA.mul eA)
 obtain ⟨LX,eX⟩:=lw_holds rfl tX (by rw[fS,rP,rP,fU,fU,r5_row,r5_row]);obtain ⟨LY,eY⟩:=lw_holds rfl tY (by rw[subP,fS,fN,rP,rP,fU,fU,r5_row,r5_row]);obtain ⟨LE,eE⟩:=lw_holds rfl tE (by rw[subP,fS,fN,rP,rP,fU,fU,r5_row,r5_row]);obtain ⟨LM,-⟩:=lw_holds rfl tM rfl;obtain ⟨LN,eN⟩:=lw_holds rfl tN (by rw[subP,fS,fN,fS,fN,rP,rP,fU,fU,r5_row,r5_row]);have eX:=eX.trans (e1.add e2);have eY:=eY.trans (neg e1 e2);have eE:=eE.trans (neg e4 e3)
 have eN:=eN.trans (e3.add ((cg.refl 121666).mul (neg e4 e3)));obtain ⟨p5,L5,e5⟩:=st100 hF hf hd m5 rfl (by rw[r5_row];exact L4.lim) (by rw[r5_row];exact L3.lim);obtain ⟨p6,L6,e6⟩:=st92 hF hf hd m6 LY.lim;obtain ⟨p7,L7,e7⟩:=st92 hF hf hd m7 LX.lim;obtain ⟨p8,L8,e8⟩:=st100 hF hf hd m8 rfl (by rw[r5_row];exact hu.lim) (by rw[r5_row];exact L6.lim);obtain ⟨p9,L9,e9⟩:=st100 hF hf hd m9 rfl LE.lim LN.lim;rw[r5_row,r5_row] at e5 e8
 refine ⟨k1 ?_,⟨L5,e5.trans (e4.mul e3)⟩,⟨L9,e9.trans (eE.mul eN)⟩,⟨L7,e7.trans (eX.mul eX)⟩,⟨L8,e8.trans (eu.mul (e6.trans (eY.mul eY)))⟩⟩;simp only[rest64,aC,Rs.holds,Ob.holds,aK,aI,Ar.ev];exact ⟨p9,p8,p7,p6,p5,p4,p3,p2,p1,h64,nofun⟩
end Go.Proofs.YtnfikgagkamioaaGreatDoor
