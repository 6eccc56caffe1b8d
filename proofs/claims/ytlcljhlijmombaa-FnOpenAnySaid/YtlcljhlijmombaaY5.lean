/- The reference's stream and the package's: the same bytes. spec.Open does as its contracts say. -/
import Derived.Test.YtlcljhlijmombaaY12l
import Derived.Test.YtlcljhlijmombaaY12m
import Derived.Test.YtlcljhlijmombaaYa11
namespace Go.Proofs.Ytlcljhlijmombaa
open Go.Sy
theorem xor_eq (a b:Int):iop .xor .u8 a b=((BitVec.ofInt 8 a^^^BitVec.ofInt 8 b).toNat:Int):=by
 have h:(BitVec.ofInt 8 a^^^BitVec.ofInt 8 b).toNat<2^IntKind.u8.bits:=(BitVec.ofInt 8 a^^^BitVec.ofInt 8 b).isLt
 show IntKind.u8.wrap _=_
 exact wrap_nat rfl h
theorem ofInt_toNat8 (v:BitVec 8):BitVec.ofInt 8 (v.toNat:Int)=v:=by
 rw[BitVec.ofInt_natCast,BitVec.ofNat_toNat,BitVec.setWidth_eq]
theorem xor_zero (b:Int):iop .xor .u8 0 b=((BitVec.ofInt 8 b).toNat:Int):=by
 rw[xor_eq];simp
theorem xor_turn (a b:Int):iop .xor .u8 (iop .xor .u8 0 b) a=iop .xor .u8 a b:=by
 rw[xor_zero,xor_eq,xor_eq,ofInt_toNat8,BitVec.xor_comm]
theorem xor_back {a:Int}(b:Int)(h:0≤a∧a<256):iop .xor .u8 (iop .xor .u8 0 b) (iop .xor .u8 a b)=a:=by
 obtain ⟨x,rfl⟩:=Int.eq_ofNat_of_zero_le h.1
 rw[xor_zero,xor_eq,xor_eq,ofInt_toNat8,ofInt_toNat8,BitVec.xor_comm (BitVec.ofInt 8 (x:Int)),←BitVec.xor_assoc,BitVec.xor_self,BitVec.zero_xor,BitVec.ofInt_natCast,BitVec.toNat_ofNat]
 omega
theorem xor_back2 {a:Int}(b:Int)(h:0≤a∧a<256):iop .xor .u8 (iop .xor .u8 a b) b=a:=by
 obtain ⟨x,rfl⟩:=Int.eq_ofNat_of_zero_le h.1
 rw[xor_eq,xor_eq,ofInt_toNat8,BitVec.xor_assoc,BitVec.xor_self,BitVec.xor_zero,BitVec.ofInt_natCast,BitVec.toNat_ofNat]
 omega
section
variable {nonce key M:List Int}
theorem str_get {inp c k:List Int}{i:Nat}(h:i<inp.length):(streamL inp c k)[i]? =some (strB inp c k i):=by
 unfold streamL;rw[List.getElem?_map,List.getElem?_range h];rfl
theorem ctrN_8 (ln:nonce.length=24):(ctrN nonce).getD 8 0=0:=by
 unfold ctrN
 rw[show (8:Nat)=8+0 from rfl,getD_at (by rw[List.length_drop];omega)];rfl
theorem fb_get (ln:nonce.length=24){i:Nat}(h:i<64):(fbL nonce key).getD i 0=iop .xor .u8 0 ((blk (subK nonce key) (ctrN nonce) 0).getD i 0):=by
 have:(fbL nonce key)[i]? =_:=xorL_get (by rw[List.length_replicate];exact h)
 rw[List.getD_eq_getElem?_getD,this]
 have e1:i/64=0:=by omega
 have e2:i%64=i:=by omega
 show xorB _ _ _ i=_
 simp only[xorB,e1,e2,ctrN_8 ln,Int.natCast_zero,Int.add_zero,List.getD_eq_getElem?_getD,List.getElem?_replicate,if_pos h,Option.getD_some]
theorem str_first (ln:nonce.length=24):(streamL (List.replicate 32 0++M) (ctrN nonce) (subK nonce key)).take 32=(fbL nonce key).take 32:=by
 apply List.ext_getElem?
 intro i
 by_cases h:i<32
 ·rw [List.getElem?_take,List.getElem?_take,if_pos h,if_pos h,str_get (by rw[List.length_append,List.length_replicate];omega)]
  have:=fb_get (key:=key) ln (show i<64 by omega)
  rw[List.getD_eq_getElem?_getD] at this
  have hl:i<(fbL nonce key).length:=by rw[fbL_length];omega
  rw[List.getElem?_eq_getElem hl] at this ⊢
  simp only[Option.getD_some] at this
  rw[this]
  have e1:i/64=0:=by omega
  have e2:i%64=i:=by omega
  simp only[strB,e1,e2,Int.natCast_zero]
  rw[getD_lo (by rw[List.length_replicate];exact h),List.getD_eq_getElem?_getD,List.getElem?_replicate,if_pos h];rfl
 ·rw [List.getElem?_take,List.getElem?_take,if_neg h,if_neg h]
theorem ctrL_set (n:Int)(_hl:(ctrN nonce).length=16):ctrL ((ctrN nonce).set 8 1) n=ctrL (ctrN nonce) n:=by
 unfold ctrL
 congr 1
 apply List.ext_getElem?
 intro i
 rw[List.getElem?_take,List.getElem?_take]
 split
 ·rw [List.getElem?_set_ne (by omega)]
 ·rfl
noncomputable def strK (nonce key:List Int)(i:Nat):Int:=(blk (subK nonce key) (ctrN nonce) (((32+i)/64:Nat):Int)).getD ((32+i)%64) 0
theorem str_rest:((streamL (List.replicate 32 0++M) (ctrN nonce) (subK nonce key)).drop 32)=(List.range M.length).map fun i=>iop .xor .u8 (M.getD i 0) (strK nonce key i):=by
 apply List.ext_getElem?
 intro i
 rw[List.getElem?_drop,List.getElem?_map]
 by_cases h:i<M.length
 ·rw [str_get (by rw[List.length_append,List.length_replicate];omega),List.getElem?_range h,Option.map_some]
  simp only[strB,strK]
  rw[getD_at (List.length_replicate ..)]
 ·rw [List.getElem?_eq_none (by rw[streamL_length,List.length_append,List.length_replicate];omega),List.getElem?_eq_none (by rw[List.length_range];omega)];rfl
theorem msg_eq {box:List Int}(ln:nonce.length=24):msgL box nonce key=(List.range (box.length-16)).map fun i=>iop .xor .u8 (box.getD (16+i) 0) (strK nonce key i):=by
 have hcl:=ctrN_length ln
 apply List.ext_getElem?
 intro i
 rw[List.getElem?_map]
 unfold msgL
 rw[List.getElem?_append,headL_length]
 by_cases h:i<box.length-16
 ·rw [List.getElem?_range h,Option.map_some]
  by_cases h2:i<32
  ·rw [if_pos (by omega)]
   unfold headL
   rw[List.getElem?_map,List.getElem?_range (by omega),Option.map_some,fb_get ln (by omega),xor_turn]
   simp only[strK]
   rw[show (32+i)/64=0 by omega,show (32+i)%64=32+i by omega];rfl
  ·rw [if_neg (by omega),show min (box.length-16) 32=32 by omega]
   unfold restL
   rw[xorL_get (by rw[List.length_drop];omega)]
   have h9:=(ctrN_one ln).2
   simp only[xorB,strK,h9,blk,ctrL_set _ hcl]
   rw[getD_dropK,show 48+(i-32)=16+i by omega,show (32+i)/64=1+(i-32)/64 by omega,show (32+i)%64=(i-32)%64 by omega,Int.natCast_add];rfl
 ·rw [List.getElem?_eq_none (l:=List.range _) (by rw[List.length_range];omega)]
  split
  ·omega
  ·rw [List.getElem?_eq_none (by rw[restL_length];omega)];rfl
theorem str_msg {box:List Int}(ln:nonce.length=24):(streamL (List.replicate 32 0++box.drop 16) (ctrN nonce) (subK nonce key)).drop 32=msgL box nonce key:=by
 rw[str_rest,msg_eq ln,List.length_drop]
 exact List.map_congr_left fun i _=>by rw[getD_dropK]
theorem msg_sealed {T:List Int}(ln:nonce.length=24)(hT:T.length=16)(hM:Bytes M):msgL (T++(streamL (List.replicate 32 0++M) (ctrN nonce) (subK nonce key)).drop 32) nonce key=M:=by
 have hl:((streamL (List.replicate 32 0++M) (ctrN nonce) (subK nonce key)).drop 32).length=M.length:=by rw[str_rest,List.length_map,List.length_range]
 rw[msg_eq ln,List.length_append,hT,hl,Nat.add_sub_cancel_left]
 refine (List.map_congr_left fun i hi=> ?_).trans (map_getD' rfl)
 have hi:=List.mem_range.1 hi
 rw[getD_at hT,str_rest,List.getD_eq_getElem?_getD,List.getElem?_map,List.getElem?_range hi]
 refine xor_back2 _ ?_
 rw[List.getD_eq_getElem?_getD,List.getElem?_eq_getElem hi]
 exact hM _ (List.getElem_mem hi)
end
open Go.Sy
theorem run5z:runE ct5z Try.f5 (callT tab5) [false,false,false,false]=some (⟨[(.var 91,0)],none,none⟩,
  [.n 91 (.seq 11 12),.a 12 (.sub 0 (.kst 0) (.kst 16)),.a 11 (.sub 10 (.kst 0) (.kst 16)),.a 10 (.fn 11 [] [8,9]),.a 9 (.lit []),.a 8 (.sub 7 (.kst 0) (.kst 32)),.n 90 (.len 7),.a 7 (.fn 17 [] [4,5,6]),.a 6 (.lit (vs 58 32)),.a 5 (.lit (vs 17 8++zs 8)),.a 4 (.lit (zs 32))] ++
   (fns 58 16 [] [2,3] 0 32++[.a 3 (.lit (vs 25 32)),.a 2 (.lit (vs 1 16)),.a 1 (.lit []),.n 57 (.cmp .lss (.var 0) (.kst 16))]),
  [.fits (.kst 0) (.kst 16) 0,.fits (.kst 0) (.kst 16) 10,.prd 11 [] [8,9],.fits (.kst 0) (.kst 32) 7,.le (.kst 16) (.var 0),.eq (.kst 16) (.var 0),.le (.var 0) (.var 0),.le (.kst 16) (.var 0),.le (.kst 32) (.var 90),.eq (.kst 32) (.var 90),.le (.var 90) (.var 90),.le (.kst 32) (.var 90),
   .prd 17 [] [4,5,6],.prd 16 [] [2,3],.eq (.kst 16) (.var 0),.le (.var 0) (.var 0),.le (.kst 16) (.var 0),.boo 57 false,.le (.kst 0) (.var 0)]):=by kernel_rfl
def ds5:List Df :=
 [.n 95 (.seq 13 14),.a 14 (.sub 0 (.kst 0) (.kst 16)),.a 13 (.sub 12 (.kst 0) (.kst 16)),.a 12 (.fn 11 [] [10,11]),.a 11 (.sub 0 (.kst 16) (.var 94)),.a 10 (.sub 9 (.kst 0) (.kst 32)),.n 94 (.lin (.var 0) (.kst 16) (-1)),.n 93 (.lin (.var 92) (.kst 32) (-1)),.n 92 (.len 9),
   .a 9 (.fn 17 [] [6,7,8]),.a 8 (.lit (vs 60 32)),.a 7 (.lit (vs 17 8++zs 8)),.a 6 (.sub 3 (.kst 0) (.var 59))] ++
  (fns 60 16 [] [4,5] 0 32++[.a 5 (.lit (vs 25 32)),.a 4 (.lit (vs 1 16)),.a 3 (.cat 2 1),.a 2 (.lit (zs 32)),.n 59 (.lin (.kst 32) (.var 58) 1),.a 1 (.sub 0 (.kst 16) (.var 58)),.n 58 (.lin (.var 0) (.kst 16) (-1)),.n 57 (.cmp .lss (.var 0) (.kst 16))])
def os5:List Ob :=
 [.fits (.kst 0) (.kst 16) 0,.fits (.kst 0) (.kst 16) 12,.prd 11 [] [10,11],.fits (.kst 16) (.var 94) 0,.fits (.kst 0) (.kst 32) 9,.le (.kst 16) (.var 0),.lt (.kst 16) (.var 0),.le (.var 0) (.var 0),.le (.kst 16) (.var 0),.le (.kst 32) (.var 92),.lt (.kst 32) (.var 92),.le (.var 92) (.var 92),.le (.kst 32) (.var 92),
  .prd 17 [] [6,7,8],.fits (.kst 0) (.var 59) 3,.prd 16 [] [4,5],.le (.var 59) (.kst 1099511627776),.lt (.kst 32) (.var 59),.fits (.kst 16) (.var 58) 0,.lt (.kst 16) (.var 0),.le (.var 0) (.var 0),.le (.kst 16) (.var 0),.boo 57 false,.le (.kst 0) (.var 0)]
def b5:Bk:={n:=0,rw:=true,cells:= .nil,arr:=some (.u8,9,true)}
theorem run5:(rawOf ct5 Try.f5 (callT tab5) [false,true,false,true,true]).map (fun r=>(r.1,r.2.bks.get 7,r.2.defs,r.2.obs))=some ([.sc (.sl 7 (.kst 32) (.var 93) none),.sc (.boo 95)],some b5,ds5,os5):=by kernel_rfl
theorem run5s:runE ct5s Try.f5 (callT tab5) [true]=some (⟨[],none,none⟩,[.n 57 (.cmp .lss (.var 0) (.kst 16))],[.boo 57 true,.le (.kst 0) (.var 0)]):=by kernel_rfl
theorem run5e:runE ct5e Try.f5 (callT tab5) []=some (⟨[],none,none⟩,[],[]):=by kernel_rfl
def P5 (_:List Int)(ls:List (List Int)):Prop :=
 match ls with
 | [box,_,_]=>Bytes box∧16<box.length∧box.length≤4096
 | _=>False
def P51 (_:List Int)(ls:List (List Int)):Prop :=
 match ls with
 | [box,_,_]=>Bytes box∧box.length=16
 | _=>False
def P52 (_:List Int)(ls:List (List Int)):Prop :=
 match ls with
 | [box,_,_]=>box.length<16
 | _=>False
noncomputable def I5 (_:List Int)(ls:List (List Int))(_:Nat):Int :=
 match ls with
 | [box,nonce,key]=>if tagOf box nonce key=box.take 16 then 1 else 0
 | _=>0
noncomputable def A5 (_:List Int)(ls:List (List Int)):List Int :=
 match ls with
 | [box,nonce,key]=>msgL box nonce key
 | _=>[]
structure F5 (F:Fns):Prop extends F12 F,Fsal F,F11 F where
 p16:∀is ls,F.p 16 is ls
 i16:F.i 16=I16
 p5:F.p 5=P5
 p51:F.p 51=P51
 p52:F.p 52=P52
 p123:∀is ls,F.p 123 is ls
 i5:F.i 5=I5
 a5:F.a 5=A5
theorem tab5_ok {F:Fns}(h:F5 F):TabOk F tab5:=by
 refine ⟨⟨by kernel_rfl,fun c hc=> ?_⟩,⟨by kernel_rfl,fun c hc=> ?_⟩,⟨by kernel_rfl,fun c hc=> ?_⟩,trivial⟩ <;> simp only[List.mem_cons,List.not_mem_nil,or_false] at hc
 ·rcases hc with rfl | rfl
  ·exact spec11 h.toF11
  ·exact spec11e h.toF11
 ·subst hc;exact spec16 h.i16 h.i25 h.p25
 ·subst hc;exact spec17 h.toFsal
theorem bytesOf_eq {A B:List Int}(hA:Bytes A)(hB:Bytes B):(bytesOf A==bytesOf B)=decide (A=B):=by
 have key:∀ {l m:List Int},Bytes l→Bytes m→bytesOf l=bytesOf m→l=m:=by
  intro l
  induction l with
  | nil=>intro m _ _ h;cases m with | nil=>rfl | cons _ _=>simp[bytesOf] at h
  | cons x l ih =>
   intro m hl hm h
   cases m with
   | nil=>simp[bytesOf] at h
   | cons y m =>
    simp only[bytesOf,List.map_cons,List.cons.injEq] at h
    have hx:=hl x List.mem_cons_self
    have hy:=hm y List.mem_cons_self
    have h1:x=y:=by
     have:=congrArg UInt8.toNat h.1
     simp only[UInt8.toNat_ofNat'] at this
     omega
    rw[h1,ih (fun z hz=>hl z (List.mem_cons_of_mem _ hz)) (fun z hz=>hm z (List.mem_cons_of_mem _ hz)) h.2]
 by_cases h:A=B
 ·rw [h];simp
 ·rw [decide_eq_false h]
  exact beq_eq_false_iff_ne.2 fun e=>h (key hA hB e)
section
variable {F:Fns} {N:Num} {box nonce key:List Int}
theorem sub5_law (hF:F5 F)(hf:N.f=F){x A B:Nat}(h:∀d∈fns x 16 [] [A,B] 0 32,d.sat N)(hA:N.a A=nonce.take 16)(hB:N.a B=key):∀j,j<32→N.i (x+j)=(subK nonce key).getD j 0:=fun j hj=>by
 rw[fns_sat h j hj,hf,hF.i16]
 simp only[List.map_cons,List.map_nil,hA,hB,Nat.zero_add];rfl
theorem ctr5 (h:∀j,j<24→N.i (1+j)=nonce.getD j 0)(ln:nonce.length=24):(vs 17 8++zs 8).map (·.ev N)=ctrN nonce :=
 vs_split (vs_map (L:=nonce.drop 16) (fun j hj=>by rw[show 17+j=1+(16+j) by omega,h _ (by omega),getD_dropK]) (by rw[List.length_drop];omega)) (zs_map 8) rfl
theorem nonce5 (h:∀j,j<24→N.i (1+j)=nonce.getD j 0)(ln:nonce.length=24):(vs 1 16).map (·.ev N)=nonce.take 16 :=
 vs_map (fun j hj=>by rw[h j (by omega),getD_takeK hj]) (by rw[List.length_take];omega)
theorem ctrN_drop8 (ln:nonce.length=24):(ctrN nonce).drop 8=[0,0,0,0,0,0,0,0]:=by
 unfold ctrN
 have:(nonce.drop 16).length=8:=by rw[List.length_drop];omega
 rw[List.drop_append,List.drop_of_length_le (by omega),this];rfl
theorem nums5 {ps:List Pa}(hps:numsL ps [] [box,nonce,key]=(box.length:Int)::(nonce++key)){nx na:Nat}(hag:Agr nx na (num0 F ps [] [box,nonce,key]) N)(hx:57≤nx)(ln:nonce.length=24)(lk:key.length=32) :
  N.i 0=box.length∧(∀ j,j<24→N.i (1+j)=nonce.getD j 0)∧∀j,j<32→N.i (25+j)=key.getD j 0 :=
 nums12 (s:=0) (pre:=[]) rfl (fun x hx'=>by
  rw[hag.i x (by omega)]
  show (numsL ps [] [box,nonce,key]).getD x 0=_
  rw[hps];rfl) ln lk
end
theorem spec5s {F:Fns}(hF:F5 F):CSpec Try.prog F 5 ct5s:=by
 refine straight (callT_ok (tab5_ok hF)) Try.func5 (by kernel_rfl) (by kernel_rfl) (by kernel_rfl) run5s (by kernel_rfl) fun is ls N hs hp hag hf hd=> ?_
 obtain rfl:=Shape.noInt rfl hs
 match ls,hs with
 | [box,nonce,key],hs =>
 obtain ⟨ln,lk,-⟩:=hs
 have hp:box.length<16:=by
   have:P52 [] [box,nonce,key]:=by rw[←hF.p52];exact hp
   exact this
 obtain ⟨hl,-,-⟩:=nums5 (by simp only[ct5s,ct5,numsL,List.append_nil]) hag (by decide) ln lk
 simp only[List.forall_mem_cons,Df.sat,Nd.ev,Ar.ev,hl] at hd
 refine ⟨?_,⟨nofun,trivial,trivial⟩,nofun⟩
 simp only[List.forall_mem_cons,Ob.holds,Ar.ev,hl,hd.1,icmp]
 exact ⟨boo_true (decide_eq_true (by omega)),by omega,nofun⟩
theorem spec5e {F:Fns}(hF:F5 F):CSpec Try.prog F 5 ct5e :=
 straight (callT_ok (tab5_ok hF)) Try.func5 (by kernel_rfl) (by kernel_rfl) (by kernel_rfl) run5e (by kernel_rfl) fun is ls N hs hp hag hf hd=>by
  obtain rfl:=Shape.noInt rfl hs
  match ls,hs with
  | [_,_,_],_=>exact ⟨nofun,⟨nofun,trivial,trivial⟩,nofun⟩
theorem spec5z {F:Fns}(hF:F5 F):CSpec Try.prog F 5 ct5z:=by
 refine straight (callT_ok (tab5_ok hF)) Try.func5 (by kernel_rfl) (by kernel_rfl) (by kernel_rfl) run5z (by kernel_rfl) fun is ls N hs hp hag hf hd=> ?_
 obtain rfl:=Shape.noInt rfl hs
 match ls,hs with
 | [box,nonce,key],hs =>
 obtain ⟨ln,lk,-⟩:=hs
 have hp:Bytes box∧box.length=16:=by
   have:P51 [] [box,nonce,key]:=by rw[←hF.p51];exact hp
   exact this
 obtain ⟨hB,h16⟩:=hp
 obtain ⟨hl,hn,hk⟩:=nums5 (by simp only[ct5z,ct5,numsL,List.append_nil]) hag (by decide) ln lk
 have hb:N.a 0=box:=hag.a 0 (by decide)
 simp only[List.forall_mem_append,List.forall_mem_cons] at hd
 obtain ⟨⟨q91,w12,w11,w10,w9,w8,q90,w7,w6,w5,w4,-⟩,hfn,w3,w2,w1,q57,-⟩:=hd
 have w3:N.a 3=key:=Eq.trans w3 (vs_map hk lk)
 have w2:N.a 2=nonce.take 16:=Eq.trans w2 (nonce5 hn ln)
 have hsub:=sub5_law hF hf hfn w2 w3
 have w6:N.a 6=subK nonce key:=Eq.trans w6 (vs_map hsub (subK_length _ _))
 have w5:N.a 5=ctrN nonce:=Eq.trans w5 (ctr5 hn ln)
 have w4:N.a 4=List.replicate 32 0:=Eq.trans w4 (zs_map 32)
 have w9:N.a 9=[]:=w9
 have w7:N.a 7=streamL (List.replicate 32 0++[]) (ctrN nonce) (subK nonce key):=by
  have:N.a 7=N.f.a 17 [] [N.a 4,N.a 5,N.a 6]:=w7
  rw[this,hf,hF.a17,w4,w5,w6];rfl
 have l7:(N.a 7).length=32:=by rw[w7,streamL_length];rfl
 have w8:N.a 8=(fbL nonce key).take 32:=by
  have:N.a 8=((N.a 7).drop 0).take 32:=w8
  rw[this,List.drop_zero,w7,str_first ln]
 have e0:box.drop 16=[]:=List.drop_of_length_le (by omega)
 have w10:N.a 10=tagOf box nonce key:=by
  have:N.a 10=N.f.a 11 [] [N.a 8,N.a 9]:=w10
  rw[this,hf,hF.a11,w8,w9,←e0];rfl
 have hT:tagOf box nonce key=tagL ((fbL nonce key).take 32) (box.drop 16):=rfl
 have l10:(N.a 10).length=16:=by rw[w10];exact tagL_length _ _
 have w11:N.a 11=tagOf box nonce key:=by
  have:N.a 11=((N.a 10).drop 0).take 16:=w11
  rw[this,List.drop_zero,List.take_of_length_le (by omega),w10]
 have w12:N.a 12=box.take 16:=by
  have:N.a 12=((N.a 0).drop 0).take 16:=w12
  rw[this,List.drop_zero,hb]
 have q91:N.i 91=if tagOf box nonce key=box.take 16 then 1 else 0:=by
  have:N.i 91=bif bytesOf (N.a 11)==bytesOf (N.a 12) then 1 else 0:=q91
  rw[this,w11,w12,bytesOf_eq (show Bytes (tagOf box nonce key) from tagL_bytes _ _) (hB.take 16)]
  by_cases h:tagOf box nonce key=box.take 16
  ·rw [if_pos h,decide_eq_true h];rfl
  ·rw [if_neg h,decide_eq_false h];rfl
 have q90:N.i 90=32:=by
  have:N.i 90=((N.a 7).length:Nat):=q90
  rw[this,l7];rfl
 have q57:N.i 57=bif icmp .lss (N.i 0) 16 then 1 else 0:=q57
 rw[hl] at q57
 have o1:(Ob.prd 11 [] [8,9]).holds N:=by
  show N.f.p 11 [] [N.a 8,N.a 9]
  rw[hf,hF.p11,w8,w9]
  exact ⟨nofun,Bytes.take (xorL_bytes _ _ _) 32,Nat.zero_le _⟩
 have o2:(Ob.prd 17 [] [4,5,6]).holds N:=by
  show N.f.p 17 [] [N.a 4,N.a 5,N.a 6]
  rw[hf,hF.p17,w4,w5,w6]
  exact ⟨by rw[List.length_replicate];decide,by rw[List.length_replicate];decide,ctrN_drop8 ln⟩
 have o3:(Ob.prd 16 [] [2,3]).holds N:=by show N.f.p 16 [] _;rw[hf];exact hF.p16 _ _
 refine ⟨?_,⟨fun p hp=> ?_,trivial,trivial⟩,nofun⟩
 ·simp only[List.forall_mem_cons]
  refine ⟨?_,?_,o1,?_,?_,?_,?_,?_,?_,?_,?_,?_,o2,o3,?_,?_,?_,?_,?_,nofun⟩
  all_goals simp only[Ob.holds,Ar.ev,hl,hb,l7,l10,q90,q57,icmp]
  all_goals first | omega | exact boo_false (decide_eq_false (by omega))
 ·simp only[List.mem_singleton] at hp
  subst hp
  show N.i 91=F.i 5 _ _ 0
  rw[hF.i5,q91];rfl
theorem spec5 {F:Fns}(hF:F5 F):CSpec Try.prog F 5 ct5:=by
 refine cspec_of (args:=argsOf ct5) (σe:=stOf ct5) rfl Try.func5 (body_some (by kernel_rfl)) (by kernel_rfl) (by kernel_rfl) fun is ls ws we Ee a hs hp hent hat=> ?_
 obtain rfl:=Shape.noInt rfl hs
 match ls,hs with
 | [box,nonce,key],hs =>
 obtain ⟨ln,lk,-⟩:=hs
 have hp:Bytes box∧16<box.length∧box.length≤4096:=by
   have:P5 [] [box,nonce,key]:=by rw[←hF.p5];exact hp
   exact this
 obtain ⟨hB,h16,h4⟩:=hp
 have hws:rwW ct5.ps ws=none∧grW ct5.ps ws=none:=by
  refine ⟨?_,grW_none rfl⟩
  obtain ⟨us,hA⟩:=hent.args
  cases hA with
  | sl _ _ _ h1=>cases h1 with
   | agg _ h2=>cases h2 with
    | agg _ h3=>cases h3;rfl
 obtain ⟨⟨vs0,σ2⟩,hraw,hproj⟩:=Option.map_eq_some_iff.1 run5
 simp only[Prod.mk.injEq] at hproj
 obtain ⟨rfl,hb7,hds,hos⟩:=hproj
 refine to_raw (callT_ok (tab5_ok hF)) hraw (by kernel_rfl) hat fun N hag hf hd=> ?_
 rw[hds] at hd
 rw[hos]
 obtain ⟨hl,hn,hk⟩:=nums5 (by simp only[ct5,numsL,List.append_nil]) hag (by decide) ln lk
 have hb:N.a 0=box:=hag.a 0 (by decide)
 simp only[ds5,List.forall_mem_append,List.forall_mem_cons] at hd
 obtain ⟨⟨q95,w14,w13,w12,w11,w10,q94,q93,q92,w9,w8,w7,w6,-⟩,hfn,w5,w4,w3,w2,q59,w1,q58,q57,-⟩:=hd
 have w5:N.a 5=key:=Eq.trans w5 (vs_map hk lk)
 have w4:N.a 4=nonce.take 16:=Eq.trans w4 (nonce5 hn ln)
 have hsub:=sub5_law hF hf hfn w4 w5
 have w8:N.a 8=subK nonce key:=Eq.trans w8 (vs_map hsub (subK_length _ _))
 have w7:N.a 7=ctrN nonce:=Eq.trans w7 (ctr5 hn ln)
 have w2:N.a 2=List.replicate 32 0:=Eq.trans w2 (zs_map 32)
 simp only[Df.sat,Nd.ev,Ad.ev,Ar.ev,hl,hb] at q57 q58 q59 q93 q94 w1 w11 w14
 have q58:N.i 58=((box.length-16:Nat):Int):=by rw[q58];omega
 have q59:N.i 59=((32+(box.length-16):Nat):Int):=by rw[q59,q58];omega
 have q94:N.i 94=((box.length-16:Nat):Int):=by rw[q94];omega
 have ld:(box.drop 16).length=box.length-16:=List.length_drop
 have w1:N.a 1=box.drop 16:=by
  rw[w1,q58,Int.toNat_natCast]
  show (box.drop 16).take _=_
  rw[List.take_of_length_le (by omega)]
 have w3:N.a 3=List.replicate 32 0++box.drop 16:=by
  have:N.a 3=N.a 2++N.a 1:=w3
  rw[this,w2,w1]
 have l3:(N.a 3).length=32+(box.length-16):=by rw[w3,List.length_append,List.length_replicate,ld]
 have w6:N.a 6=List.replicate 32 0++box.drop 16:=by
  have:N.a 6=((N.a 3).drop 0).take (N.i 59).toNat:=w6
  rw[this,q59,Int.toNat_natCast,List.drop_zero,List.take_of_length_le (by omega),w3]
 have w9:N.a 9=streamL (List.replicate 32 0++box.drop 16) (ctrN nonce) (subK nonce key):=by
  have:N.a 9=N.f.a 17 [] [N.a 6,N.a 7,N.a 8]:=w9
  rw[this,hf,hF.a17,w6,w7,w8];rfl
 have l9:(N.a 9).length=32+(box.length-16):=by rw[w9,streamL_length,List.length_append,List.length_replicate,ld]
 have w10:N.a 10=(fbL nonce key).take 32:=by
  have:N.a 10=((N.a 9).drop 0).take 32:=w10
  rw[this,List.drop_zero,w9,str_first ln]
 have w11:N.a 11=box.drop 16:=by
  rw[w11,q94,Int.toNat_natCast]
  show (box.drop 16).take _=_
  rw[List.take_of_length_le (by omega)]
 have w12:N.a 12=tagOf box nonce key:=by
  have:N.a 12=N.f.a 11 [] [N.a 10,N.a 11]:=w12
  rw[this,hf,hF.a11,w10,w11];rfl
 have l12:(N.a 12).length=16:=by rw[w12];exact tagL_length _ _
 have w13:N.a 13=tagOf box nonce key:=by
  have:N.a 13=((N.a 12).drop 0).take 16:=w13
  rw[this,List.drop_zero,List.take_of_length_le (by omega),w12]
 have w14:N.a 14=box.take 16:=w14
 have q95:N.i 95=if tagOf box nonce key=box.take 16 then 1 else 0:=by
  have:N.i 95=bif bytesOf (N.a 13)==bytesOf (N.a 14) then 1 else 0:=q95
  rw[this,w13,w14,bytesOf_eq (show Bytes (tagOf box nonce key) from tagL_bytes _ _) (hB.take 16)]
  by_cases h:tagOf box nonce key=box.take 16
  ·rw [if_pos h,decide_eq_true h];rfl
  ·rw [if_neg h,decide_eq_false h];rfl
 have q92:N.i 92=((32+(box.length-16):Nat):Int):=by
  have:N.i 92=((N.a 9).length:Nat):=q92
  rw[this,l9]
 rw[q92] at q93
 have q93:N.i 93=((box.length-16:Nat):Int):=by rw[q93];omega
 have o1:(Ob.prd 11 [] [10,11]).holds N:=by
  show N.f.p 11 [] [N.a 10,N.a 11]
  rw[hf,hF.p11,w10,w11]
  exact ⟨hB.drop 16,Bytes.take (xorL_bytes _ _ _) 32,by omega⟩
 have o2:(Ob.prd 17 [] [6,7,8]).holds N:=by
  show N.f.p 17 [] [N.a 6,N.a 7,N.a 8]
  rw[hf,hF.p17,w6,w7,w8]
  exact ⟨by rw[List.length_append,List.length_replicate];omega,by rw[List.length_append,List.length_replicate,ld];omega,ctrN_drop8 ln⟩
 have o3:(Ob.prd 16 [] [4,5]).holds N:=by show N.f.p 16 [] _;rw[hf];exact hF.p16 _ _
 refine ⟨?_,fun E' w' u hu hp=> ?_⟩
 ·simp only[os5,List.forall_mem_cons]
  refine ⟨?_,?_,o1,?_,?_,?_,?_,?_,?_,?_,?_,?_,?_,o2,?_,o3,?_,?_,?_,?_,?_,?_,?_,?_,nofun⟩
  all_goals simp only[Ob.holds,Ar.ev,hl,hb,l3,l9,l12,q58,q59,q92,q94,q57,icmp]
  all_goals first | omega | exact boo_false (decide_eq_false (by omega))
 ·obtain ⟨us,hd,rfl⟩:=resV_den_inv hu
  obtain ⟨u1,r1,d1,hd1,rfl⟩:=denL1_cons.1 hd
  obtain ⟨u2,r2,d2,hd2,rfl⟩:=denL1_cons.1 hd1
  simp only[denL1,Option.some.injEq] at hd2
  subst hd2
  have d2:some (Value.bool (!(N.i 95==0)))=some u2:=d2
  simp only[Option.some.injEq] at d2
  obtain ⟨q',s',c',arr,el,fz,f1,f2,f3,f4,f5⟩:=hp.bw.at' 7 b5 hb7
  have:=f3 rfl;subst this
  obtain ⟨_,_,_,m1,g1,_,rfl,g2,g3⟩:=sl_den (v1sc d1)
  rw[f1] at g1;simp only[Option.some.injEq,Prod.mk.injEq] at g1;obtain ⟨rfl,rfl,rfl⟩:=g1
  have g3:=g3 rfl
  simp only[capOf,Ar.ev,q93,Int.toNat_natCast] at g2 g3 ⊢
  have e32:(32:Int).toNat=32:=rfl
  rw[e32] at g2 g3 ⊢
  subst g2
  have hmax:Nat.max c' (32+(box.length-16))=c':=Nat.max_eq_left g3
  simp only[b5,Bk.wid,Bk.cont,cond_true,l9,hmax] at f4 f5
  obtain ⟨f5,f6⟩:=f5
  have nob:∀i B,(stOf ct5).bks.get i=some B→B.rw=true→False:=fun i B e1 e2=>by
   have hs:(stOf ct5).bks=Tr.nil.set 0 {n:=0,rw:=false,cells:= .nil,arr:=some (.u8,0,false)}:=rfl
   rw[hs,Tr.get_set] at e1
   split at e1
   ·simp only[Option.some.injEq] at e1;subst e1;cases e2
   ·cases e1
  have hqs:we.heap.size≤q':=by
   rcases Nat.lt_or_ge q' we.heap.size with hlt | hge
   ·obtain ⟨i0,B0,s0,c0,k1,k2,_⟩:=hp.win 7 b5 q' s' c' hb7 rfl f1 hlt
    exact (nob i0 B0 k1 k2).elim
   ·exact hge
  have hA5:F.a 5 [] [box,nonce,key]=msgL box nonce key:=by rw[hF.a5];rfl
  have hml:=msgL_length box nonce key
  refine ⟨_,rfl,we,[_,_],_,rfl,by rw[hws.1],?_,⟨?_,fun _ e=>by cases e⟩,⟨rfl,?_,trivial⟩⟩
  ·rw [hws.2]
   exact ⟨hp.kept.os,hp.kept.tape,hp.kept.output,hp.kept.size,fun q hq _=>hp.kept.block q hq (fun i B s c e1 e2 _=>nob i B e1 e2),fun y _ _ _ e=>by cases e⟩
  ·show Fresh _ _ _ _ (F.a 5 [] [box,nonce,key]) _
   rw[hA5]
   refine ⟨q',s'+32,c'-32,arr,el,by rw[hml],by rw[hml];omega,.inl hqs,f2,by omega,fun j v hj=> ?_,fun j h1 h2=> ?_⟩
   ·rw [←str_msg ln,List.getElem?_drop,←w9] at hj
    have:=f5 _ v hj
    rwa [←Nat.add_assoc] at this
   ·rw [hml] at h1
    have:=f6 trivial (32+j) (by omega) (by omega)
    rwa [←Nat.add_assoc] at this
  ·show u2= .bool (!(F.i 5 [] [box,nonce,key] 0==0))
   rw[←d2,q95,hF.i5];rfl
end Go.Proofs.Ytlcljhlijmombaa
