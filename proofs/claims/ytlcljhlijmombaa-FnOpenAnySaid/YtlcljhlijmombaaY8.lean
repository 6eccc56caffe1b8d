/- laws.told does as its contracts say. laws.opens: a box that was sealed is opened. -/
import Derived.Test.YtlcljhlijmombaaY5
namespace Go.Proofs.Ytlcljhlijmombaa
open Go.Sy
theorem run8a:runE (ct8 sl8 sl8 sl8) Try.f8 (callT []) []=some (⟨[(.var 5,0)],none,none⟩,[.n 5 (.seq 3 6),.a 6 (.cat 4 5),.n 4 (.len 5),.n 3 (.len 4),.a 5 (.sub 2 (.kst 0) (.var 2)),.a 4 (.sub 1 (.kst 0) (.var 1)),.a 3 (.sub 0 (.kst 0) (.var 0))],
  [.le (.var 4) (.kst 1099511627776),.le (.var 3) (.kst 1099511627776),.fits (.kst 0) (.var 2) 2,.fits (.kst 0) (.var 1) 1,.fits (.kst 0) (.var 0) 0]):=by kernel_rfl
theorem run8b:runE (ct8 sl8 (.kst nilV) sl8) Try.f8 (callT []) []=some (⟨[(.var 4,0)],none,none⟩,[.n 4 (.seq 2 5),.a 5 (.cat 4 3),.n 3 (.len 3),.n 2 (.len 4),.a 4 (.lit []),.a 3 (.sub 1 (.kst 0) (.var 1)),.a 2 (.sub 0 (.kst 0) (.var 0))],
  [.le (.var 3) (.kst 1099511627776),.le (.var 2) (.kst 1099511627776),.fits (.kst 0) (.var 1) 1,.fits (.kst 0) (.var 0) 0]):=by kernel_rfl
theorem run8c:runE (ct8 sl8 sl8 .emp) Try.f8 (callT []) []=some (⟨[(.var 4,0)],none,none⟩,[.n 4 (.seq 2 5),.a 5 (.cat 3 4),.n 3 (.len 4),.n 2 (.len 3),.a 4 (.lit []),.a 3 (.sub 1 (.kst 0) (.var 1)),.a 2 (.sub 0 (.kst 0) (.var 0))],
  [.le (.var 3) (.kst 1099511627776),.le (.var 2) (.kst 1099511627776),.fits (.kst 0) (.var 1) 1,.fits (.kst 0) (.var 0) 0]):=by kernel_rfl
theorem run8d:runE (ct8 .emp (.kst nilV) .emp) Try.f8 (callT []) []=some (⟨[(.var 2,0)],none,none⟩,[.n 2 (.seq 3 2),.a 3 (.lit []),.a 2 (.cat 0 1),.n 1 (.len 1),.n 0 (.len 0),.a 1 (.lit []),.a 0 (.lit [])],
  [.le (.var 1) (.kst 1099511627776),.le (.var 0) (.kst 1099511627776)]):=by kernel_rfl
theorem run8f:runE ct8f Try.f8 (callT []) []=some (⟨[],none,none⟩,[],[]):=by kernel_rfl
def P8 (_:List Int)(ls:List (List Int)):Prop:=∀l∈ls,Bytes l∧l.length≤1099511627776
def I8 (_:List Int)(ls:List (List Int))(_:Nat):Int :=
 match ls with
 | [got,want]=>if got=want then 1 else 0
 | [got,ahead,want]=>if got=ahead++want then 1 else 0
 | _=>0
structure F8 (F:Fns):Prop extends F5 F where
 p8:F.p 8=P8
 i8:F.i 8=I8
 i9:F.i 9=fun _ _ _=>1
 p3:F.p 3=fun _ ls=>match ls with
  | [box,_,_]=>Bytes box
  | [ahead,box,_,_]=>Bytes ahead∧Bytes box
  | [_,_]=>True
  | _=>False
section
variable {F:Fns}
theorem spec8f (_hF:F8 F):CSpec Try.prog F 8 ct8f :=
 straight (callT_ok (tab:=[]) trivial) Try.func8 (by kernel_rfl) (by kernel_rfl) (by kernel_rfl) run8f (by kernel_rfl) fun is ls N hs hp hag hf hd=>by
  obtain rfl:=Shape.noInt rfl hs
  match ls,hs with
  | [],_=>exact ⟨nofun,⟨nofun,trivial,trivial⟩,nofun⟩
theorem dec8 {A B:List Int}(hA:Bytes A)(hB:Bytes B):(bif bytesOf A==bytesOf B then (1:Int) else 0)=if A=B then 1 else 0:=by
 rw[bytesOf_eq hA hB]
 by_cases h:A=B
 ·rw [if_pos h,decide_eq_true h];rfl
 ·rw [if_neg h,decide_eq_false h];rfl
theorem sub8 {L:List Int}{x:Int}(h:x=(L.length:Nat)):(L.drop (Int.toNat 0)).take x.toNat=L:=by
 rw[h,Int.toNat_natCast];exact List.take_length
theorem spec8a (hF:F8 F):CSpec Try.prog F 8 (ct8 sl8 sl8 sl8):=by
 refine straight (callT_ok (tab:=[]) trivial) Try.func8 (by kernel_rfl) (by kernel_rfl) (by kernel_rfl) run8a (by kernel_rfl) fun is ls N hs hp hag hf hd=> ?_
 obtain rfl:=Shape.noInt rfl hs
 match ls,hs with
 | [got,ahead,want],_ =>
 have hp:P8 [] [got,ahead,want]:=by rw[←hF.p8];exact hp
 simp only[P8,List.forall_mem_cons] at hp
 obtain ⟨⟨b1,c1⟩,⟨b2,c2⟩,⟨b3,c3⟩,-⟩:=hp
 have e0:N.i 0=(got.length:Nat):=hag.i 0 (by decide)
 have e1:N.i 1=(ahead.length:Nat):=hag.i 1 (by decide)
 have e2:N.i 2=(want.length:Nat):=hag.i 2 (by decide)
 have a0:N.a 0=got:=hag.a 0 (by decide)
 have a1:N.a 1=ahead:=hag.a 1 (by decide)
 have a2:N.a 2=want:=hag.a 2 (by decide)
 simp only[List.forall_mem_cons,Df.sat,Nd.ev,Ad.ev,Ar.ev,a0,a1,a2] at hd
 obtain ⟨q5,w6,q4,q3,w5,w4,w3,-⟩:=hd
 rw[sub8 e0] at w3
 rw[sub8 e1] at w4
 rw[sub8 e2] at w5
 rw[w4,w5] at w6
 rw[w5] at q4
 rw[w4] at q3
 have bb:Bytes (ahead++want):=fun x hx=>by
  rcases List.mem_append.1 hx with h | h
  ·exact b2 x h
  ·exact b3 x h
 rw[w3,w6,dec8 b1 bb] at q5
 refine ⟨?_,⟨fun p hp=> ?_,trivial,trivial⟩,nofun⟩
 ·simp only[List.forall_mem_cons,Ob.holds,Ar.ev,a0,a1,a2,e0,e1,e2,q3,q4]
  exact ⟨by omega,by omega,by omega,by omega,by omega,nofun⟩
 ·simp only[List.mem_singleton] at hp
  subst hp
  show N.i 5=F.i 8 _ _ 0
  rw[hF.i8,q5];rfl
theorem spec8b (hF:F8 F):CSpec Try.prog F 8 (ct8 sl8 (.kst nilV) sl8):=by
 refine straight (callT_ok (tab:=[]) trivial) Try.func8 (by kernel_rfl) (by kernel_rfl) (by kernel_rfl) run8b (by kernel_rfl) fun is ls N hs hp hag hf hd=> ?_
 obtain rfl:=Shape.noInt rfl hs
 match ls,hs with
 | [got,want],_ =>
 have hp:P8 [] [got,want]:=by rw[←hF.p8];exact hp
 simp only[P8,List.forall_mem_cons] at hp
 obtain ⟨⟨b1,c1⟩,⟨b3,c3⟩,-⟩:=hp
 have e0:N.i 0=(got.length:Nat):=hag.i 0 (by decide)
 have e1:N.i 1=(want.length:Nat):=hag.i 1 (by decide)
 have a0:N.a 0=got:=hag.a 0 (by decide)
 have a1:N.a 1=want:=hag.a 1 (by decide)
 simp only[List.forall_mem_cons,Df.sat,Nd.ev,Ad.ev,Ar.ev,List.map_nil,a0,a1] at hd
 obtain ⟨q4,w5,q3,q2,w4,w3,w2,-⟩:=hd
 rw[sub8 e0] at w2
 rw[sub8 e1] at w3
 rw[w4,w3,List.nil_append] at w5
 rw[w3] at q3
 rw[w4] at q2
 rw[w2,w5,dec8 b1 b3] at q4
 refine ⟨?_,⟨fun p hp=> ?_,trivial,trivial⟩,nofun⟩
 ·simp only[List.forall_mem_cons,Ob.holds,Ar.ev,a0,a1,e0,e1,q3,q2]
  exact ⟨by omega,by decide,by omega,by omega,nofun⟩
 ·simp only[List.mem_singleton] at hp
  subst hp
  show N.i 4=F.i 8 _ _ 0
  rw[hF.i8,q4];rfl
theorem spec8c (hF:F8 F):CSpec Try.prog F 8 (ct8 sl8 sl8 .emp):=by
 refine straight (callT_ok (tab:=[]) trivial) Try.func8 (by kernel_rfl) (by kernel_rfl) (by kernel_rfl) run8c (by kernel_rfl) fun is ls N hs hp hag hf hd=> ?_
 obtain rfl:=Shape.noInt rfl hs
 match ls,hs with
 | [got,ahead,want],hs =>
 obtain ⟨rfl,-⟩:=hs
 have hp:P8 [] [got,ahead,[]]:=by rw[←hF.p8];exact hp
 simp only[P8,List.forall_mem_cons] at hp
 obtain ⟨⟨b1,c1⟩,⟨b2,c2⟩,-⟩:=hp
 have e0:N.i 0=(got.length:Nat):=hag.i 0 (by decide)
 have e1:N.i 1=(ahead.length:Nat):=hag.i 1 (by decide)
 have a0:N.a 0=got:=hag.a 0 (by decide)
 have a1:N.a 1=ahead:=hag.a 1 (by decide)
 simp only[List.forall_mem_cons,Df.sat,Nd.ev,Ad.ev,Ar.ev,List.map_nil,a0,a1] at hd
 obtain ⟨q4,w5,q3,q2,w4,w3,w2,-⟩:=hd
 rw[sub8 e0] at w2
 rw[sub8 e1] at w3
 rw[w4,w3,List.append_nil] at w5
 rw[w4] at q3
 rw[w3] at q2
 rw[w2,w5,dec8 b1 b2] at q4
 refine ⟨?_,⟨fun p hp=> ?_,trivial,trivial⟩,nofun⟩
 ·simp only[List.forall_mem_cons,Ob.holds,Ar.ev,a0,a1,e0,e1,q3,q2]
  exact ⟨by decide,by omega,by omega,by omega,nofun⟩
 ·simp only[List.mem_singleton] at hp
  subst hp
  show N.i 4=F.i 8 _ [got,ahead,[]] 0
  rw[hF.i8,q4]
  show _=if got=ahead++[] then (1:Int) else 0
  rw[List.append_nil]
theorem spec8d (hF:F8 F):CSpec Try.prog F 8 (ct8 .emp (.kst nilV) .emp):=by
 refine straight (callT_ok (tab:=[]) trivial) Try.func8 (by kernel_rfl) (by kernel_rfl) (by kernel_rfl) run8d (by kernel_rfl) fun is ls N hs hp hag hf hd=> ?_
 obtain rfl:=Shape.noInt rfl hs
 match ls,hs with
 | [got,want],hs =>
 obtain ⟨rfl,rfl,-⟩:=hs
 simp only[List.forall_mem_cons,Df.sat,Nd.ev,Ad.ev,Ar.ev,List.map_nil] at hd
 obtain ⟨q2,w3,w2,q1,q0,w1,w0,-⟩:=hd
 rw[w0] at q0
 rw[w1] at q1
 rw[w3,w2,w0,w1] at q2
 refine ⟨?_,⟨fun p hp=> ?_,trivial,trivial⟩,nofun⟩
 ·simp only[List.forall_mem_cons,Ob.holds,Ar.ev,q0,q1]
  exact ⟨by decide,by decide,nofun⟩
 ·simp only[List.mem_singleton] at hp
  subst hp
  show N.i 2=F.i 8 _ [[],[]] 0
  rw[hF.i8,q2];rfl
end
open Go.Sy
noncomputable def hd9:Code:=match bodyC Try.f9 with | .seq r _=>r | _=> .skip
noncomputable def ops9:Array Oper:=match bodyC Try.f9 with | .seq _ (.seq (.region _ ops _) _)=>ops | _=> #[]
noncomputable def tl9:Code:=match bodyC Try.f9 with | .seq _ (.seq _ t)=>t | _=> .skip
theorem body9:bodyC Try.f9= .seq hd9 (.seq (.region 1 ops9 false) tl9):=by kernel_rfl
def noOper : Oper := ⟨none, .move (.const (.bool true)), 0, "", #[], none⟩
noncomputable def o90:Oper:=ops9.toList.headD noOper
noncomputable def o91:Oper:=(ops9.toList.drop 1).headD noOper
noncomputable def l9:List Oper:=ops9.toList.drop 2
theorem ops9_l:ops9.toList=o90::o91::l9:=by kernel_rfl
theorem o91_is:o91.dst=some 5∧o91.guard=none∧o91.op= .convert 22 22 (.tmp 4):=⟨by kernel_rfl,by kernel_rfl,by kernel_rfl⟩
noncomputable def e22:TypeId:=match Try.prog.underlying 22 with | some (.slice e)=>e | _=>0
def v9:SV:= .one (.sc (.sl 0 (.kst 0) (.kst 1) (some (.kst 1))))
def T90:Tr SV:=mkT [(0,.one (.sc (.kst (.bool false))))] .nil
def T91:Tr SV:=T90.set 8 v9
def T92:Tr SV:=T91.set 10 v9
def b9 (rw:Bool):Bk:={n:=1,rw:=rw,cells:=trOf 0 [.kst (.int .u8 97)] .nil,arr:=none}
def s9 (rw:Bool):St:={stOf ct9 with nb:=1,bks:=Tr.nil.set 0 (b9 rw)}
theorem r90:run Try.prog 1000 (callT tab9) Try.f9.ntmps hd9 (trArgs 0 (argsOf ct9) (stOf ct9).gl) (stOf ct9)=some (.normal,T90,stOf ct9):=by kernel_rfl
theorem r91:run.runL Try.prog (callT tab9) Try.f9.ntmps [o90] T90 (stOf ct9)=some (T91,s9 true):=by kernel_rfl
theorem r92:put Try.f9.ntmps T91 (some 5) (some v9)=some T92:=by kernel_rfl
def ds9:List Df :=
 [.n 37 (.seq 19 20),.a 20 (.lit [.kst 97]),.a 19 (.sub 18 (.kst 0) (.var 36)),.n 36 (.len 18),.a 18 (.fn 12 [] [15,16,17]),.a 17 (.lit (zs 32)),.a 16 (.lit (zs 24)),.a 15 (.sub 14 (.kst 0) (.var 35)),.a 14 (.sub 13 (.kst 0) (.var 35)),.a 13 (.cat 11 12),.n 35 (.lin (.kst 16) (.var 34) 1),
   .a 12 (.sub 8 (.kst 32) (.var 34)),.a 11 (.fn 11 [] [9,10]),.a 10 (.sub 8 (.kst 32) (.var 33)),.a 9 (.sub 8 (.kst 0) (.kst 32)),.n 34 (.lin (.var 32) (.kst 32) (-1)),.n 33 (.lin (.var 32) (.kst 32) (-1)),.n 32 (.len 8),.a 8 (.fn 17 [] [5,6,7]),.a 7 (.lit (vs 0 32)),.a 6 (.lit (zs 16)),.a 5 (.sub 2 (.kst 0) (.kst 33))] ++
  (fns 0 16 [] [3,4] 0 32++[.a 4 (.lit (zs 32)),.a 3 (.lit (zs 16)),.a 2 (.cat 1 0),.a 1 (.lit (zs 32)),.a 0 (.lit [.kst 97])])
def os9:List Ob :=
 [.fits (.kst 0) (.var 36) 18,.prd 121 [] [15,16,17],.fits (.kst 0) (.var 35) 14,.le (.var 35) (.kst 1099511627776),.lt (.kst 0) (.var 35),.fits (.kst 0) (.var 35) 13,.le (.var 35) (.kst 1099511627776),.lenA (.kst 16) 11,.fits (.kst 32) (.var 34) 8,.prd 11 [] [9,10],.fits (.kst 32) (.var 33) 8,.fits (.kst 0) (.kst 32) 8,
  .lt (.kst 32) (.var 32),.le (.var 32) (.var 32),.le (.kst 32) (.var 32),.lt (.kst 32) (.var 32),.le (.var 32) (.var 32),.le (.kst 32) (.var 32),.le (.kst 32) (.var 32),.prd 17 [] [5,6,7],.fits (.kst 0) (.kst 33) 2,.prd 16 [] [3,4]]
noncomputable def run9 (o:List Bool):Option (Sum1×List Df×List Ob) :=
 match run.runL Try.prog (callT tab9) Try.f9.ntmps l9 T92 ((s9 false).ask' o) with
 | some (T,σ)=>endD Try.prog ct9 (stOf ct9) Try.f9 (s9 false) (runK Try.prog (callT tab9) [] Try.f9.ntmps 1000 2000 tl9 [] T σ)
 | none=>none
theorem r93:run9 [true,true,false]=some (⟨[(.var 37,0)],none,none⟩,ds9,os9):=by kernel_rfl
section
variable {F:Fns}
theorem tab9_ok (h:F8 F):TabOk F tab9:=by
 obtain ⟨h1,h2,h3,-⟩:=tab5_ok h.toF5
 exact ⟨h1,⟨by kernel_rfl,fun c hc=>by simp only[List.mem_singleton] at hc;subst hc;exact spec12n h.toF12⟩,h2,h3,trivial⟩
theorem conv9 {P:Program}{t e:TypeId}{w:World}{q s l c:Nat}{arr:Array Value}{el:TypeId}{fz:Nat×Nat}(ht:P.underlying t=some (.slice e))(he:P.underlying e=some (.int .u8))(hq:w.heap[q]? =some (.cells arr el fz)) :
  ∃w',(convert t t (.slice (some ⟨q,s,none⟩) l c)).run P w= .ok (.slice (some ⟨q,s,none⟩) l c) w'∧w'.os=w.os∧w'.tape=w.tape∧w'.output=w.output∧w'.heap.size=w.heap.size∧(∀ j,j≠q→w'.heap[j]? =w.heap[j]?)∧∃fz',w'.heap[q]? =some (.cells arr el fz'):=by
 have hsh:w.shape? q=some (el,arr.size):=by simp[World.shape?,hq]
 refine ⟨w.freeze ⟨q,arr.size,none⟩ 1,?_,?_,?_,?_,?_,?_,?_⟩
 ·simp [convert,run_underlying ht,run_underlying he,markStringish,hsh,Result.andThen]
 ·simp [World.freeze]
 ·simp [World.freeze]
 ·simp [World.freeze]
 ·simp [World.freeze]
 ·intro j hj
  simp[World.freeze,Array.getElem?_modify,Ne.symm hj]
 ·simp [World.freeze,Array.getElem?_modify,hq]
theorem law9 (hF:F8 F){N:Num}(hf:N.f=F)(hd:∀d∈ds9,d.sat N):(∀ o∈os9,o.holds N)∧N.i 37=1:=by
 simp only[ds9,List.forall_mem_append,List.forall_mem_cons] at hd
 obtain ⟨⟨q37,w20,w19,q36,w18,w17,w16,w15,w14,w13,q35,w12,w11,w10,w9,q34,q33,q32,w8,w7,w6,w5,-⟩,hfn,w4,w3,w2,w1,w0,-⟩:=hd
 have ln:(List.replicate 24 (0:Int)).length=24:=List.length_replicate ..
 have w0:N.a 0=[97]:=w0
 have w1:N.a 1=List.replicate 32 0:=Eq.trans w1 (zs_map 32)
 have w2:N.a 2=List.replicate 32 0++[97]:=by
  have:N.a 2=N.a 1++N.a 0:=w2
  rw[this,w1,w0]
 have w3:N.a 3=(List.replicate 24 (0:Int)).take 16:=Eq.trans w3 (zs_map 16)
 have w4:N.a 4=List.replicate 32 0:=Eq.trans w4 (zs_map 32)
 have hsub:=sub5_law hF.toF5 hf hfn w3 w4
 generalize hk:List.replicate 32 (0:Int)=key at *
 have lk:key.length=32:=by rw[←hk];exact List.length_replicate ..
 generalize hn:List.replicate 24 (0:Int)=nonce at *
 have w7:N.a 7=subK nonce key:=Eq.trans w7 (vs_map (fun j hj=>by have:=hsub j hj;rwa [Nat.zero_add] at this ⊢) (subK_length _ _))
 have w6:N.a 6=ctrN nonce:=Eq.trans w6 ((zs_map 16).trans (by rw[←hn];rfl))
 have l2:(N.a 2).length=33:=by rw[w2,List.length_append,lk];rfl
 have w5:N.a 5=key++[97]:=by
  have:N.a 5=((N.a 2).drop 0).take 33:=w5
  rw[this,List.drop_zero,List.take_of_length_le (by omega),w2]
 have w8:N.a 8=streamL (key++[97]) (ctrN nonce) (subK nonce key):=by
  have:N.a 8=N.f.a 17 [] [N.a 5,N.a 6,N.a 7]:=w8
  rw[this,hf,hF.a17,w5,w6,w7];rfl
 have l8:(N.a 8).length=33:=by rw[w8,streamL_length,List.length_append,lk];rfl
 have q32:N.i 32=33:=by
  have:N.i 32=((N.a 8).length:Nat):=q32
  rw[this,l8];rfl
 simp only[Df.sat,Nd.ev,Ar.ev,q32] at q33 q34
 have q33:N.i 33=1:=by rw[q33];rfl
 have q34:N.i 34=1:=by rw[q34];rfl
 have q35:N.i 35=17:=by
  have:N.i 35=16+N.i 34*1:=q35
  rw[this,q34];rfl
 have w9:N.a 9=(fbL nonce key).take 32:=by
  have:N.a 9=((N.a 8).drop 0).take 32:=w9
  rw[this,List.drop_zero,w8,←hk,str_first ln,hk]
 have ld:((N.a 8).drop 32).length=1:=by rw[List.length_drop,l8]
 have w10:N.a 10=(N.a 8).drop 32:=by
  have:N.a 10=((N.a 8).drop 32).take (N.i 33).toNat:=w10
  rw[this,q33,List.take_of_length_le (by rw[ld];decide)]
 have w12:N.a 12=(N.a 8).drop 32:=by
  have:N.a 12=((N.a 8).drop 32).take (N.i 34).toNat:=w12
  rw[this,q34,List.take_of_length_le (by rw[ld];decide)]
 have w11:N.a 11=tagL ((fbL nonce key).take 32) ((N.a 8).drop 32):=by
  have:N.a 11=N.f.a 11 [] [N.a 9,N.a 10]:=w11
  rw[this,hf,hF.a11,w9,w10];rfl
 have l11:(N.a 11).length=16:=by rw[w11];exact tagL_length _ _
 have w13:N.a 13=N.a 11++(N.a 8).drop 32:=by
  have:N.a 13=N.a 11++N.a 12:=w13
  rw[this,w12]
 have l13:(N.a 13).length=17:=by rw[w13,List.length_append,l11,ld]
 have w14:N.a 14=N.a 13:=by
  have:N.a 14=((N.a 13).drop 0).take (N.i 35).toNat:=w14
  rw[this,q35,List.drop_zero,List.take_of_length_le (by rw[l13];decide)]
 have w15:N.a 15=N.a 13:=by
  have:N.a 15=((N.a 14).drop 0).take (N.i 35).toNat:=w15
  rw[this,q35,w14,List.drop_zero,List.take_of_length_le (by rw[l13];decide)]
 have w16:N.a 16=nonce:=Eq.trans w16 ((zs_map 24).trans hn)
 have w17:N.a 17=key:=Eq.trans w17 ((zs_map 32).trans hk)
 have hB8:Bytes ((N.a 8).drop 32):=by
  refine Bytes.drop (fun y hy=> ?_) 32
  rw[w8] at hy
  obtain ⟨i,_,rfl⟩:=List.mem_map.1 hy
  unfold strB iop
  simp only[IntKind.wrap_u8]
  omega
 have hB:Bytes (N.a 13):=by
  rw[w13]
  intro x hx
  rcases List.mem_append.1 hx with h | h
  ·rw [w11] at h;exact tagL_bytes _ _ x h
  ·exact hB8 x h
 have e1:(N.a 13).drop 16=(N.a 8).drop 32:=by rw[w13,←l11,List.drop_left]
 have e2:(N.a 13).take 16=N.a 11:=by rw[w13,←l11,List.take_left]
 have hok:okBox (N.a 13) nonce key:=⟨hB,by rw[l13];decide,by unfold tagOf;rw[e1,e2,w11]⟩
 have hmsg:msgL (N.a 13) nonce key=[97]:=by
  rw[w13,w8,←hk]
  rw[hk]
  have:=msg_sealed (nonce:=nonce) (key:=key) (M:=[97]) (T:=N.a 11) ln l11 (by intro x hx;simp only[List.mem_singleton] at hx;subst hx;decide)
  rwa [hk] at this
 have w18:N.a 18=[97]:=by
  have:N.a 18=N.f.a 12 [] [N.a 15,N.a 16,N.a 17]:=w18
  rw[this,hf,hF.a12,w15,w16,w17];exact hmsg
 have q36:N.i 36=1:=by
  have:N.i 36=((N.a 18).length:Nat):=q36
  rw[this,w18];rfl
 have w19:N.a 19=[97]:=by
  have:N.a 19=((N.a 18).drop 0).take (N.i 36).toNat:=w19
  rw[this,q36,w18];rfl
 have w20:N.a 20=[97]:=w20
 have o1:(Ob.prd 121 [] [15,16,17]).holds N:=by
  show N.f.p 121 [] [N.a 15,N.a 16,N.a 17]
  rw[hf,hF.p121,w15,w16,w17]
  exact ⟨hok,by rw[l13];decide⟩
 have o2:(Ob.prd 11 [] [9,10]).holds N:=by
  show N.f.p 11 [] [N.a 9,N.a 10]
  rw[hf,hF.p11,w9,w10]
  exact ⟨hB8,Bytes.take (xorL_bytes _ _ _) 32,by rw[ld];decide⟩
 have o3:(Ob.prd 17 [] [5,6,7]).holds N:=by
  show N.f.p 17 [] [N.a 5,N.a 6,N.a 7]
  rw[hf,hF.p17,w5,w6,w7]
  exact ⟨by rw[List.length_append,lk];decide,by rw[List.length_append,lk];decide,ctrN_drop8 (by rw[←hn];exact List.length_replicate ..)⟩
 have o4:(Ob.prd 16 [] [3,4]).holds N:=by show N.f.p 16 [] _;rw[hf];exact hF.p16 _ _
 refine ⟨?_,?_⟩
 ·simp only[os9,List.forall_mem_cons]
  refine ⟨?_,o1,?_,?_,?_,?_,?_,?_,?_,o2,?_,?_,?_,?_,?_,?_,?_,?_,?_,o3,?_,o4,nofun⟩
  all_goals simp only[Ob.holds,Ar.ev,q32,q33,q34,q35,q36,w18,w14,l13,l11,l8,l2,List.length_cons,List.length_nil]
  all_goals omega
 ·have:N.i 37=bif bytesOf (N.a 19)==bytesOf (N.a 20) then 1 else 0:=q37
  rw[this,w19,w20];rfl
theorem wpL_cons {P:Program}{ops:Array Oper}{Q:Exit→Act→World→Prop}{a:Act}{w:World}{rest:List Oper}{o:Oper}(hg:o.guard=none)(h:o.wp P a w (wpList P ops Q rest) Q):wpList P ops Q (o::rest) a w:=by
 unfold wpList
 rw[if_pos (wanted_none hg _)]
 exact .inl h
set_option maxRecDepth 20000 in
theorem spec9 (hF:F8 F):CSpec Try.prog F 9 ct9:=by
 refine cspec_of (args:=argsOf ct9) (σe:=stOf ct9) rfl Try.func9 (body_some (by kernel_rfl)) (by kernel_rfl) (by kernel_rfl) fun is ls ws we Ee a hs hp hent hat=> ?_
 match is,ls,hs with
 | [],[],_ =>
 have hcall:=callT_ok (tab9_ok hF)
 obtain ⟨hF0,hins,E,hA,hp0⟩:=hat
 have hH:∀ {σ:St},σ.defs=[]→σ.obs=[]→σ.ni=0→Hold F (num0 F ct9.ps [] []) σ:=fun {σ} h1 h2 h3=>⟨rfl,(fun d hd=>by rw[h1] at hd;cases hd),(fun o ho=>by rw[h2] at ho;cases ho),(fun x hx=>by rw[h3] at hx;cases hx)⟩
 rw[body9]
 refine wp_seq ((run_sound hm hcall 1000).1 r90 (hH rfl rfl rfl) hA hp0.inv hp0.bw fun E1 a1 w1 hA1 hp1=> ?_)
 refine wp_seq (wp_region_list ?_)
 rw[ops9_l]
 have h0:=opL_sound (Q:=Exit.then (tl9.wp Try.prog (wpK Try.prog [] (Qend Try.prog F Try.f9 ct9 [] [] ws we))) (wpK Try.prog [] (Qend Try.prog F Try.f9 ct9 [] [] ws we)))
  (K:=wpList Try.prog ops9 (Exit.then (tl9.wp Try.prog (wpK Try.prog [] (Qend Try.prog F Try.f9 ct9 [] [] ws we))) (wpK Try.prog [] (Qend Try.prog F Try.f9 ct9 [] [] ws we))) (o91::l9)) hcall r91 (hH rfl rfl rfl) hA1 hp1.inv hp1.bw fun E2 a2 w2 hA2 hp2=> ?_
 ·exact wpL_cons h0.1 h0.2
 ·have p02:=(hp0.trans hp1).trans hp2
  obtain ⟨hdst,hgu,hop⟩:=o91_is
  refine wpL_cons hgu ?_
  obtain ⟨_,u,hu1,hu2⟩:=hA2.at' 4 v9 (by kernel_rfl)
  obtain ⟨q,s,c,arr,el,fz,g1,g2,g3,g4,g5⟩:=p02.bw.at' 0 (b9 true) rfl
  have hu3:(Sc.sl 0 (.kst 0) (.kst 1) (some (.kst 1))).den (num0 F ct9.ps [] []) E2=some u:=hu2
  obtain ⟨q',s',c',m,k1,_,rfl,k3,_⟩:=sl_den hu3
  rw[g1] at k1
  simp only[Option.some.injEq,Prod.mk.injEq] at k1
  obtain ⟨rfl,rfl,rfl⟩:=k1
  obtain ⟨w3,c1,c2,c3,c4,c5,c6,fz',c7⟩:=conv9 (P:=Try.prog) (t:=22) (e:=e22) (w:=w2) (q:=q) (s:=s+((Ar.kst 0).ev (num0 F ct9.ps [] [])).toNat) (l:=((Ar.kst 1).ev (num0 F ct9.ps [] [])).toNat) (c:=m) (by kernel_rfl) (by kernel_rfl) g2
  have hev:a2.eval (.tmp 4)= .slice (some ⟨q,s+((Ar.kst 0).ev (num0 F ct9.ps [] [])).toNat,none⟩) ((Ar.kst 1).ev (num0 F ct9.ps [] [])).toNat m:=by
   have h:v9.den (num0 F ct9.ps [] []) E2=some (a2.eval (.tmp 4)):=evalO_den hA2 (show evalO T91 (.tmp 4)=some v9 by kernel_rfl)
   rw[hu2] at h
   simp only[Option.some.injEq] at h
   exact h.symm
  have hr:(execOp a2.eval o91).run Try.prog w2= .ok (.value (a2.eval (.tmp 4))) w3:=by
   have:∀o:Oper,o.op= .convert 22 22 (.tmp 4)→(execOp a2.eval o).run Try.prog w2= .ok (.value (a2.eval (.tmp 4))) w3:=fun o ho=>by
    obtain ⟨_,op,_,_,_,_⟩:=o
    simp only at ho
    subst ho
    simp only[execOp,Sem.run_bind,hev,c1,Result.andThen_ok,Sem.run_pure]
   exact this _ hop
  unfold Oper.wp
  rw[hr]
  show wpList Try.prog ops9 _ l9 (a2.put o91.dst (a2.eval (.tmp 4))) w3
  rw[hdst]
  have hA3:RA (num0 F ct9.ps [] []) E2 Try.f9.ntmps T92 (a2.put (some 5) (a2.eval (.tmp 4))):=RA.put hA2 r92 fun sv e=>by
   simp only[Option.some.injEq] at e
   subst e
   rw[hev];exact hu2
  have nob:∀i,(stOf ct9).bks.get i=none:=fun i=>rfl
  have only:∀rw i B,(s9 rw).bks.get i=some B→i=0∧B=b9 rw:=fun rw i B e=>by
   have hs:(s9 rw).bks=Tr.nil.set 0 (b9 rw):=rfl
   rw[hs,Tr.get_set] at e
   by_cases hi:i=0
   ·rw [if_pos hi] at e;simp only[Option.some.injEq] at e;exact ⟨hi,e.symm⟩
   ·rw [if_neg hi] at e;cases e
  have hq:we.heap.size≤q:=by
   rcases Nat.lt_or_ge q we.heap.size with hlt | hge
   ·obtain ⟨i0,B0,s0,c0,k1,_⟩:=p02.win 0 (b9 true) q s c rfl rfl g1 hlt
    rw[nob] at k1;cases k1
   ·exact hge
  have p03:Post (num0 F ct9.ps [] []) Ee (stOf ct9) we (num0 F ct9.ps [] []) E2 (s9 false) w3:=by
   refine ⟨⟨p02.inv.freshB,p02.inv.freshV,p02.inv.glob⟩,p02.le,⟨fun i B e=> ?_,fun i i' B B' q1 s1 s2 c1 c2 e1 e2 hne=> ?_⟩,⟨c2.trans p02.kept.os,c3.trans p02.kept.tape,c4.trans p02.kept.output,by rw[c5];exact p02.kept.size,fun j hj hno=> ?_,fun j arr' el' fz1 hj=> ?_⟩,fun i B q1 s1 c1 e1 e2=> ?_⟩
   ·obtain ⟨rfl,rfl⟩:=only false i B e
    exact ⟨q,s,c,arr,el,fz',g1,c7,fun e=>(by cases e),g4,g5⟩
   ·obtain ⟨rfl,_⟩:=only false i B e1
    obtain ⟨rfl,_⟩:=only false i' B' e2
    exact (hne rfl).elim
   ·rw [c6 j (by omega)];exact p02.kept.block j hj hno
   ·obtain ⟨arr2,k1,k2,k3⟩:=p02.kept.part j arr' el' fz1 hj
    have:=lt_of_heap hj
    exact ⟨arr2,by rw[c6 j (by omega)];exact k1,k2,k3⟩
   ·obtain ⟨_,rfl⟩:=only false i B e1
    cases e2
  have h9:=r93
  unfold run9 at h9
  split at h9
  ·rename_i T3 σ3 hl
   obtain ⟨e,T4,σ4,vs,σ5,mx,k1,k2,k3,k4,k5,k6,k7,k8⟩:=endD_inv h9
   have hx:=runL_ext hcall hl
   have hx1:=runK_ext hcall 1000 k1
   have hx2:=(resS_pur k4).ext
   obtain ⟨N',m1,m2,m3,m4⟩:=ext_at (o:=[true,true,false]) (T:=T92) (σ:=s9 false) (by kernel_rfl) k6 ((hx2.ni.trans hx1.ni).trans hx.ni) ⟨rfl,hins,E2,hA3,p03⟩
   rw[←k7] at m3
   obtain ⟨o1,q37⟩:=law9 hF m2 m3
   obtain ⟨hHe,E3,hA4,hp4⟩:=m4 (by rw[←k8];exact o1)
   have hok:Sum1.ok ⟨[(.var 37,0)],none,none⟩ N' F ct9 [] []:=⟨fun p hp=>by
    simp only[List.mem_singleton] at hp
    subst hp
    show N'.i 37=F.i 9 [] [] 0
    rw[hF.i9,q37],trivial,trivial⟩
   refine runL_sound hcall hl (Hold.of_ext (hx1.trans hx2) hHe) hA4 hp4.inv hp4.bw fun E5 a5 w5 hA5 hp5=> ?_
   exact runK_sound hm hcall 1000 k1 (Hold.of_ext hx2 hHe) hA5 hp5.inv hp5.bw fun E6 a6 w6 hA6 hp6=>end_ok k2 k3 k4 k5 hHe hA6 ((hp4.trans hp5).trans hp6) hent hok nofun
  ·cases h9
end
end Go.Proofs.Ytlcljhlijmombaa
