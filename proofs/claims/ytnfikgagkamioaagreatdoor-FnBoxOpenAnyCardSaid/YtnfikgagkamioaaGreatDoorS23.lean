/- poly1305.Verify does as its contracts say. -/
import Derived.Test.YtnfikgagkamioaaGreatDoorSa17
namespace Go.Proofs.YtnfikgagkamioaaGreatDoor.S
open Go.Sy
def xorB (inp ctr key:List Int)(i:Nat):Int:=iop .xor .u8 (inp.getD i 0) ((blk key ctr (ctr.getD 8 0+((i/64:Nat):Int))).getD (i%64) 0)
def xorL (inp ctr key:List Int):List Int:=(List.range inp.length).map (xorB inp ctr key)
theorem xorL_length (inp ctr key:List Int):(xorL inp ctr key).length=inp.length:=by unfold xorL;rw[bF,cV]
theorem xorL_get {inp ctr key:List Int}{i:Nat}(h:i<inp.length):(xorL inp ctr key)[i]? =some (xorB inp ctr key i):=by
 unfold xorL;rw[bP,cL h];rfl
def P33 (_:List Int)(ls:List (List Int)):Prop :=
 match ls with
 | [out,inp,ctr,_]=>out.length=inp.length∧inp.length≤8192∧ctr.drop 9=[0,0,0,0,0,0,0]∧0≤ctr.getD 8 0∧ctr.getD 8 0<64
 | _=>False
def A33 (_:List Int)(ls:List (List Int)):List Int :=
 match ls with
 | [_,inp,ctr,key]=>xorL inp ctr key
 | _=>[]
structure F33 (F:Fns):Prop where
 p38:∀is ls,F.p 380 is ls
 a38:F.a 38=A38
 p33:F.p 33=P33
 a33:F.a 33=A33
theorem tab33_ok {F:Fns}(h:F33 F):TabOk F tab33 :=
 ⟨⟨by kernel_rfl,fun c hc=>by simp only[aX] at hc;subst hc;exact spec38 h.a38⟩,trivial⟩
def mixL (X Y:List Int)(m:Nat):List Int:=X.take m++Y.drop m
theorem mixL_length {X Y:List Int}{m:Nat}(h:X.length=Y.length)(hm:m≤X.length):(mixL X Y m).length=X.length:=by
 unfold mixL;rw[aO,bE,aT];omega
theorem mixL_set {X Y:List Int}{m:Nat}{v:Int}(h:X.length=Y.length)(hm:m<X.length)(hv:X[m]? =some v):(mixL X Y m).set m v=mixL X Y (m+1):=by
 unfold mixL;have h1:(X.take m).length=m:=by rw[bE];omega
 rw[List.set_append,bC (by omega),h1,Nat.sub_self,List.take_add_one,hv,List.append_assoc];congr 1;rw[dS (by omega:m<Y.length)];rfl
theorem mixL_all {X Y:List Int}(h:X.length=Y.length):mixL X Y X.length=X:=by
 unfold mixL;rw[cS,cF (by omega),bJ]
structure A33a (N:Num) (out inp ctr key:List Int) (o:Nat):Prop where
 ho:o≤inp.length∧o%64=0
 i50:N.i 50=((o:Nat):Int)
 i51:N.i 51=((inp.length-o:Nat):Int)
 i52:N.i 52=((o:Nat):Int)
 i53:N.i 53=((inp.length-o:Nat):Int)
 hinp:N.a 1=inp
 hout:N.a 2=mixL (xorL inp ctr key) out o
 hkey:∀j,j<32→N.i (18+j)=key.getD j 0
 hcc:∀j,j<16→N.i (118+j)=(ctrL ctr (ctr.getD 8 0+((o/64:Nat):Int))).getD j 0
structure A33e (N:Num) (out inp ctr key:List Int) (o i:Nat):Prop where
 ho:o+64≤inp.length∧o%64=0∧i≤64
 i50:N.i 50=((o:Nat):Int)
 i51:N.i 51=((inp.length-o:Nat):Int)
 i52:N.i 52=((o:Nat):Int)
 i53:N.i 53=((inp.length-o:Nat):Int)
 i118:N.i 118=((i:Nat):Int)
 hinp:N.a 1=inp
 hout:N.a 2=mixL (xorL inp ctr key) out (o+i)
 hkey:∀j,j<32→N.i (18+j)=key.getD j 0
 hb:∀j,j<64→N.i (54+j)=(blk key ctr (ctr.getD 8 0+((o/64:Nat):Int))).getD j 0
 hcc:∀j,j<16→N.i (119+j)=(ctrL ctr (ctr.getD 8 0+((o/64:Nat):Int))).getD j 0
structure A33d (N:Num) (out inp ctr key:List Int) (o i:Nat):Prop where
 ho:o+i≤inp.length∧o%64=0∧inp.length<o+64
 i50:N.i 50=((o:Nat):Int)
 i51:N.i 51=((inp.length-o:Nat):Int)
 i52:N.i 52=((o:Nat):Int)
 i53:N.i 53=((inp.length-o:Nat):Int)
 i54:N.i 54=((i:Nat):Int)
 hinp:N.a 1=inp
 hout:N.a 2=mixL (xorL inp ctr key) out (o+i)
 hb:∀j,j<64→N.i (55+j)=(blk key ctr (ctr.getD 8 0+((o/64:Nat):Int))).getD j 0
theorem A33a.agr {N N':Num}{out inp ctr key:List Int}{o:Nat}(h:Agr s33a.nx s33a.na N N')(hA:A33a N out inp ctr key o):A33a N' out inp ctr key o:=by
 have e:∀x,x<134→N'.i x=N.i x:=h.i;have ea:∀x,x<3→N'.a x=N.a x:=h.a;exact ⟨hA.ho,(e 50 (by decide)).trans hA.i50,(e 51 (by decide)).trans hA.i51,(e 52 (by decide)).trans hA.i52,(e 53 (by decide)).trans hA.i53,(ea 1 (by decide)).trans hA.hinp,(ea 2 (by decide)).trans hA.hout,
  fun j hj=>(e _ (by omega)).trans (hA.hkey j hj),fun j hj=>(e _ (by omega)).trans (hA.hcc j hj)⟩
theorem A33e.agr {N N':Num}{out inp ctr key:List Int}{o i:Nat}(h:Agr s33e.nx s33e.na N N')(hA:A33e N out inp ctr key o i):A33e N' out inp ctr key o i:=by
 have e:∀x,x<135→N'.i x=N.i x:=h.i;have ea:∀x,x<3→N'.a x=N.a x:=h.a;exact ⟨hA.ho,(e 50 (by decide)).trans hA.i50,(e 51 (by decide)).trans hA.i51,(e 52 (by decide)).trans hA.i52,(e 53 (by decide)).trans hA.i53,(e 118 (by decide)).trans hA.i118,(ea 1 (by decide)).trans hA.hinp,(ea 2 (by decide)).trans hA.hout,
  fun j hj=>(e _ (by omega)).trans (hA.hkey j hj),fun j hj=>(e _ (by omega)).trans (hA.hb j hj),fun j hj=>(e _ (by omega)).trans (hA.hcc j hj)⟩
theorem A33d.agr {N N':Num}{out inp ctr key:List Int}{o i:Nat}(h:Agr s33d.nx s33d.na N N')(hA:A33d N out inp ctr key o i):A33d N' out inp ctr key o i:=by
 have e:∀x,x<119→N'.i x=N.i x:=h.i;have ea:∀x,x<3→N'.a x=N.a x:=h.a;exact ⟨hA.ho,(e 50 (by decide)).trans hA.i50,(e 51 (by decide)).trans hA.i51,(e 52 (by decide)).trans hA.i52,(e 53 (by decide)).trans hA.i53,(e 54 (by decide)).trans hA.i54,(ea 1 (by decide)).trans hA.hinp,(ea 2 (by decide)).trans hA.hout,
  fun j hj=>(e _ (by omega)).trans (hA.hb j hj)⟩
theorem congrN {f:Nat→Int}{L:List Int}{b n:Nat}(h:∀x,x<n→f (b+x)=L.getD x 0)(hl:L.length=n):(List.range n).map (fun j=>f (b+j))=L:=by
 refine dF ?_ (map_getD hl);exact cW fun j hj=>h j (cE.1 hj)
theorem ctr_zero {ctr:List Int}(hl:ctr.length=16)(hz:ctr.drop 9=[0,0,0,0,0,0,0]):ctrL ctr (ctr.getD 8 0)=ctr:=by
 match ctr,hl with
 | [c0,c1,c2,c3,c4,c5,c6,c7,c8,c9,c10,c11,c12,c13,c14,c15],_ =>simp only[List.drop_succ_cons,bW,List.cons.injEq] at hz;obtain ⟨z9,z10,z11,z12,z13,z14,z15,-⟩:=hz;rw[z9,z10,z11,z12,z13,z14,z15];rfl
theorem ctr_next {ctr:List Int}(hl:ctr.length=16){n:Int}(_hn:0≤n∧n<255){f:Nat→Int}(h:∀j,j<16→f (119+j)=(ctrL ctr n).getD j 0):f 127=n∧f 128=0∧f 129=0∧f 130=0∧f 131=0∧f 132=0∧f 133=0∧f 134=0:=by
 match ctr,hl with
 | [c0,c1,c2,c3,c4,c5,c6,c7,c8,c9,c10,c11,c12,c13,c14,c15],_ =>exact ⟨h 8 (by decide),h 9 (by decide),h 10 (by decide),h 11 (by decide),h 12 (by decide),h 13 (by decide),h 14 (by decide),h 15 (by decide)⟩
theorem ctrL_low {ctr:List Int}(hl:ctr.length=16)(n n':Int):∀j,j<8→(ctrL ctr n).getD j 0=(ctrL ctr n').getD j 0:=by
 match ctr,hl with
 | [c0,c1,c2,c3,c4,c5,c6,c7,c8,c9,c10,c11,c12,c13,c14,c15],_ =>
  intro j hj
  match j,hj with
  | 0,_=>rfl
  | 1,_=>rfl
  | 2,_=>rfl
  | 3,_=>rfl
  | 4,_=>rfl
  | 5,_=>rfl
  | 6,_=>rfl
  | 7,_=>rfl
  | j+8,h=>exact absurd h (by omega)
theorem ctrL_high {ctr:List Int}(hl:ctr.length=16)(n:Int):(ctrL ctr n).getD 8 0=n∧∀j,9≤j→j<16→(ctrL ctr n).getD j 0=0:=by
 match ctr,hl with
 | [c0,c1,c2,c3,c4,c5,c6,c7,c8,c9,c10,c11,c12,c13,c14,c15],_ =>
  refine ⟨rfl,fun j h9 hj=> ?_⟩
  match j,h9,hj with
  | 9,_,_=>rfl
  | 10,_,_=>rfl
  | 11,_,_=>rfl
  | 12,_,_=>rfl
  | 13,_,_=>rfl
  | 14,_,_=>rfl
  | 15,_,_=>rfl
  | j+16,_,h=>exact absurd h (by omega)
theorem xorB_at {inp ctr key:List Int}{o i:Nat}(ho:o%64=0)(hi:i<64):xorB inp ctr key (o+i)=iop .xor .u8 (inp.getD (o+i) 0) ((blk key ctr (ctr.getD 8 0+((o/64:Nat):Int))).getD i 0):=by
 unfold xorB;rw[show (o+i)/64=o/64 by omega,show (o+i)%64=i by omega]
section
variable {F:Fns} {Ee:Env} {we:World} {Ne:Num} {out inp ctr key:List Int}
set_option maxRecDepth 8000 in
set_option maxHeartbeats 2000000 in
theorem in33 (hF:F33 F)(hI:Inv Ee (stOf ct33))(hlc:ctr.length=16)(hlk:key.length=32){N:Num}{a:Act}{w:World}{o:Nat}(hat:At F Tryz.f61.ntmps Ne Ee (stOf ct33) we T33a s33a N a w)(hA:A33a N out inp ctr key o)(h64:o+64≤inp.length){Q:Exit→Act→World→Prop}
 (H:∀N a' w',A33e N out inp ctr key o 0→At F Tryz.f61.ntmps Ne Ee (stOf ct33) we T33e s33e N a' w'→(Code.loop (loopIn 61 3 6).1).wp Tryz.prog (wpK Tryz.prog (loopIn 61 3 6).2 Q) a' w') :
 (loopAt 61 3).1.wp Tryz.prog Q a w:=by
 refine to_head (ks:=[]) (Q:=Q) hm (eU (tab33_ok hF)) i33 (by kernel_rfl) rfl rfl hat hI fun M hag hf hd=> ?_
 obtain ⟨ho,e50,e51,e52,e53,einp,eout,hkey,hcc⟩:=hA.agr hag;clear hag hat;simp only[aC,Df.sat,Nd.ev,Ad.ev,Ar.ev,aI,aK,hf,hF.a38] at hd;obtain ⟨q198,q197,q196,q195,q194,q193,q192,q191,q190,q189,q188,q187,q186,q185,q184,q183,q182,q181,q180,q179,q178,q177,q176,q175,q174,q173,q172,q171,q170,q169,q168,q167,q166,q165,q164,q163,q162,q161,q160,q159,q158,q157,q156,q155,q154,q153,q152,q151,q150,q149,q148,q147,q146,q145,q144,q143,q142,q141,q140,q139,q138,q137,q136,q135,w7,w6,w5,w4,w3,q134,-⟩:=hd
 have t4:M.a 4=ctrL ctr (ctr.getD 8 0+((o/64:Nat):Int)):=w4.trans (congrN (b:=118) (n:=16) (f:=M.i) hcc (ctrL_length hlc _));have t5:M.a 5=key:=w5.trans (congrN (b:=18) (n:=32) (f:=M.i) hkey hlk);have t7:M.a 7=blk key ctr (ctr.getD 8 0+((o/64:Nat):Int)):=by rw[w7,t4,t5,w6];rfl
 have hb:∀j,j<64→M.i (135+j)=(blk key ctr (ctr.getD 8 0+((o/64:Nat):Int))).getD j 0:=by
  intro j hj;have hh:∀j,j<64→M.i (135+j)=(M.a 7).getD j 0:=by
   intro j hj
   match j,hj with
   | 0,_=>exact q135
   | 1,_=>exact q136
   | 2,_=>exact q137
   | 3,_=>exact q138
   | 4,_=>exact q139
   | 5,_=>exact q140
   | 6,_=>exact q141
   | 7,_=>exact q142
   | 8,_=>exact q143
   | 9,_=>exact q144
   | 10,_=>exact q145
   | 11,_=>exact q146
   | 12,_=>exact q147
   | 13,_=>exact q148
   | 14,_=>exact q149
   | 15,_=>exact q150
   | 16,_=>exact q151
   | 17,_=>exact q152
   | 18,_=>exact q153
   | 19,_=>exact q154
   | 20,_=>exact q155
   | 21,_=>exact q156
   | 22,_=>exact q157
   | 23,_=>exact q158
   | 24,_=>exact q159
   | 25,_=>exact q160
   | 26,_=>exact q161
   | 27,_=>exact q162
   | 28,_=>exact q163
   | 29,_=>exact q164
   | 30,_=>exact q165
   | 31,_=>exact q166
   | 32,_=>exact q167
   | 33,_=>exact q168
   | 34,_=>exact q169
   | 35,_=>exact q170
   | 36,_=>exact q171
   | 37,_=>exact q172
   | 38,_=>exact q173
   | 39,_=>exact q174
   | 40,_=>exact q175
   | 41,_=>exact q176
   | 42,_=>exact q177
   | 43,_=>exact q178
   | 44,_=>exact q179
   | 45,_=>exact q180
   | 46,_=>exact q181
   | 47,_=>exact q182
   | 48,_=>exact q183
   | 49,_=>exact q184
   | 50,_=>exact q185
   | 51,_=>exact q186
   | 52,_=>exact q187
   | 53,_=>exact q188
   | 54,_=>exact q189
   | 55,_=>exact q190
   | 56,_=>exact q191
   | 57,_=>exact q192
   | 58,_=>exact q193
   | 59,_=>exact q194
   | 60,_=>exact q195
   | 61,_=>exact q196
   | 62,_=>exact q197
   | 63,_=>exact q198
   | j+64,h=>exact absurd h (by omega)
  rw[hh j hj,t7]
 refine ⟨?_,fun x2 y2 hat2=>H _ x2 y2 ?_ hat2⟩
 ·simp only[aC,Ob.holds,aI,aK,Ar.ev,hf,e53];exact ⟨hF.p38 _ _,by rw[q134,e53];exact fL (bS (by omega)),by omega,nofun⟩
 ·exact ⟨⟨h64,ho.2,dK _⟩,e50,e51,e52,e53,rfl,einp,eout,fun j hj=>(fV (by kernel_rfl) j hj).trans (hkey j hj),fun j hj=>(fV (by kernel_rfl) j hj).trans (hb j hj),fun j hj=>(fV (by kernel_rfl) j hj).trans (hcc j hj)⟩
set_option maxRecDepth 8000 in
set_option maxHeartbeats 2000000 in
theorem rnd33e (hF:F33 F)(hI:Inv Ee (stOf ct33))(hlo:out.length=inp.length)(_hbig:inp.length≤8192){N:Num}{a:Act}{w:World}{o i:Nat}(hat:At F Tryz.f61.ntmps Ne Ee (stOf ct33) we T33e s33e N a w)(hA:A33e N out inp ctr key o i)(hi:i<64){K:Act→World→Prop}{Q:Exit→Act→World→Prop}
 (H:∀N a' w',A33e N out inp ctr key o (i+1)→At F Tryz.f61.ntmps Ne Ee (stOf ct33) we T33e s33e N a' w'→K a' w') :
 (loopIn 61 3 6).1.wp Tryz.prog (Exit.then K (wpK Tryz.prog (loopIn 61 3 6).2 Q)) a w:=by
 refine gI hm (eU (tab33_ok hF)) r33e (by kernel_rfl) rfl rfl hat hI fun M hag hf hd=> ?_
 obtain ⟨ho,e50,e51,e52,e53,e118,einp,eout,hkey,hb,hcc⟩:=hA.agr hag;clear hag hat;simp only[aC,Df.sat,Nd.ev,Ad.ev,Ar.ev,aI,aK] at hd;obtain ⟨q141,w3,q140,q139,q138,q137,q136,q135,-⟩:=hd;have h136:M.i 136=(blk key ctr (ctr.getD 8 0+((o/64:Nat):Int))).getD i 0:=by rw[q136,e118,bD];exact congrArg (fun l:List Int=>l.getD i 0) (congrN (b:=54) (n:=64) (f:=M.i) hb (blk_length _ _ _))
 have h137:M.i 137=((o+i:Nat):Int):=by rw[q137,e52,e118];omega
 have h140:M.i 140=((o+i:Nat):Int):=by rw[q140,e50,e118];omega
 have h138:M.i 138=inp.getD (o+i) 0:=by rw[q138,h137,einp,bD]
 have h141:M.i 141=((i+1:Nat):Int):=by rw[q141,e118];exact inc64 i (by omega)
 have hxl:=xorL_length inp ctr key;have l2:(M.a 2).length=inp.length:=by rw[eout,mixL_length (by omega) (by omega),hxl]
 have t3:M.a 3=mixL (xorL inp ctr key) out (o+(i+1)):=by rw[w3,eout,h140,bD];refine mixL_set (by omega) (by omega) ?_;rw[xorL_get (by omega),xorB_at ho.2.1 hi,q139,h138,h136]
 refine ⟨?_,fun x2 y2 hat2=>H _ x2 y2 ?_ hat2⟩
 ·simp only[aC,Ob.holds,Ar.ev,e51,e53,e118,h137,h140,l2,einp];exact ⟨⟨by omega,by omega⟩,by omega,by omega,⟨by omega,by omega⟩,by omega,by omega,by omega,by omega,by rw[q135,e118];exact fL (bS (by omega)),nofun⟩
 ·exact ⟨⟨ho.1,ho.2.1,by omega⟩,e50,e51,e52,e53,h141,einp,t3,fun j hj=>(fV (by kernel_rfl) j hj).trans (hkey j hj),fun j hj=>(fV (by kernel_rfl) j hj).trans (hb j hj),fun j hj=>(fV (by kernel_rfl) j hj).trans (hcc j hj)⟩
set_option maxRecDepth 8000 in
set_option maxHeartbeats 2000000 in
theorem don33a (hF:F33 F)(hI:Inv Ee (stOf ct33))(hlo:out.length=inp.length)(hbig:inp.length≤8192)(hlc:ctr.length=16)(hn8:0≤ctr.getD 8 0∧ctr.getD 8 0<64){N:Num}{a:Act}{w:World}{o:Nat}(hat:At F Tryz.f61.ntmps Ne Ee (stOf ct33) we T33e s33e N a w)(hA:A33e N out inp ctr key o 64)(hmore:o+64<inp.length){K:Act→World→Prop}{Q:Exit→Act→World→Prop}
 (H:∀N a' w',A33a N out inp ctr key (o+64)→At F Tryz.f61.ntmps Ne Ee (stOf ct33) we T33a s33a N a' w'→Q .normal a' w') :
 (loopIn 61 3 6).1.wp Tryz.prog (Exit.then K (wpK Tryz.prog (loopIn 61 3 6).2 Q)) a w:=by
 refine to_done hm (eU (tab33_ok hF)) d33a (by kernel_rfl) rfl rfl hat hI fun M hag hf hd=> ?_
 obtain ⟨ho,e50,e51,e52,e53,e118,einp,eout,hkey,hb,hcc⟩:=hA.agr hag;clear hag hat;simp only[aC,Df.sat,Nd.ev,Ar.ev] at hd;obtain ⟨q171,q170,q169,q168,q167,q166,q165,q164,q163,q162,q161,q160,q159,q158,q157,q156,q155,q154,q153,q152,q151,q150,q149,q148,q147,q146,q145,q144,q143,q142,q141,q140,q139,q138,q137,q136,q135,-⟩:=hd;have n0:0≤ctr.getD 8 0+((o/64:Nat):Int)∧ctr.getD 8 0+((o/64:Nat):Int)<255:=by omega
 obtain ⟨c127,c128,c129,c130,c131,c132,c133,c134⟩:=ctr_next hlc n0 hcc;generalize hn:ctr.getD 8 0+((o/64:Nat):Int)=n at n0 hcc c127;have a0:IntKind.u32.wrap 0=0:=by decide
 have ad:iop .add .u32 0 0=0:=by decide
 have sh:iop .shr .u32 0 8=0:=by decide
 have b0:IntKind.u8.wrap 0=0:=by decide
 have h136:M.i 136=n:=by rw[q136,c127,IntKind.wrap_u32];omega
 have h137:M.i 137=n+1:=by rw[q137,h136,u32_add];omega
 have h138:M.i 138=n+1:=by rw[q138,h137,IntKind.wrap_u8];omega
 have h139:M.i 139=0:=by rw[q139,h137,show (8:Int)=((8:Nat):Int) from rfl,shr_kst (k:= .u32) (c:=8) (by decide)];show (n+1)/256=0;omega
 have h140:M.i 140=0:=by rw[q140,c128,a0]
 have h141:M.i 141=0:=by rw[q141,h139,h140,ad]
 have h142:M.i 142=0:=by rw[q142,h141,b0]
 have h143:M.i 143=0:=by rw[q143,h141,sh]
 have h144:M.i 144=0:=by rw[q144,c129,a0]
 have h145:M.i 145=0:=by rw[q145,h143,h144,ad]
 have h146:M.i 146=0:=by rw[q146,h145,b0]
 have h147:M.i 147=0:=by rw[q147,h145,sh]
 have h148:M.i 148=0:=by rw[q148,c130,a0]
 have h149:M.i 149=0:=by rw[q149,h147,h148,ad]
 have h150:M.i 150=0:=by rw[q150,h149,b0]
 have h151:M.i 151=0:=by rw[q151,h149,sh]
 have h152:M.i 152=0:=by rw[q152,c131,a0]
 have h153:M.i 153=0:=by rw[q153,h151,h152,ad]
 have h154:M.i 154=0:=by rw[q154,h153,b0]
 have h155:M.i 155=0:=by rw[q155,h153,sh]
 have h156:M.i 156=0:=by rw[q156,c132,a0]
 have h157:M.i 157=0:=by rw[q157,h155,h156,ad]
 have h158:M.i 158=0:=by rw[q158,h157,b0]
 have h159:M.i 159=0:=by rw[q159,h157,sh]
 have h160:M.i 160=0:=by rw[q160,c133,a0]
 have h161:M.i 161=0:=by rw[q161,h159,h160,ad]
 have h162:M.i 162=0:=by rw[q162,h161,b0]
 have h163:M.i 163=0:=by rw[q163,h161,sh]
 have h164:M.i 164=0:=by rw[q164,c134,a0]
 have h165:M.i 165=0:=by rw[q165,h163,h164,ad]
 have h166:M.i 166=0:=by rw[q166,h165,b0]
 have h168:M.i 168=((o+64:Nat):Int):=by rw[q168,e52];omega
 have h169:M.i 169=((inp.length-(o+64):Nat):Int):=by rw[q169,e53];omega
 have h170:M.i 170=((o+64:Nat):Int):=by rw[q170,e50];omega
 have h171:M.i 171=((inp.length-(o+64):Nat):Int):=by rw[q171,e51];omega
 refine ⟨?_,fun x2 y2 hat2=>H _ x2 y2 ?_ hat2⟩
 ·simp only[aC,Ob.holds,Ar.ev,e51,e53];exact ⟨by omega,by omega,by omega,by omega,by omega,by omega,by rw[q135,e118];rfl,nofun⟩
 ·refine ⟨⟨by omega,by omega⟩,h170,h171,h168,h169,einp,eout,fun j hj=>(fV (by kernel_rfl) j hj).trans (hkey j hj),fun j hj=> ?_⟩;have hn1:ctr.getD 8 0+(((o+64)/64:Nat):Int)=n+1:=by omega
  rw[hn1];rcases bL j 8 with h8 | h8
  ·rw [ctrL_low hlc (n+1) n j h8,←hcc j hj];exact fV (x:=118) (y:=119) (n:=8) (by kernel_rfl) j h8
  ·rcases Nat.eq_or_lt_of_le h8 with h8 | h8
   ·subst h8;rw[(ctrL_high hlc (n+1)).1];exact h138
   ·rw [(ctrL_high hlc (n+1)).2 j h8 hj]
    match j,h8,hj with
    | 9,_,_=>exact h142
    | 10,_,_=>exact h146
    | 11,_,_=>exact h150
    | 12,_,_=>exact h154
    | 13,_,_=>exact h158
    | 14,_,_=>exact h162
    | 15,_,_=>exact h166
    | j+16,_,h=>exact absurd h (by omega)
set_option maxRecDepth 8000 in
set_option maxHeartbeats 2000000 in
theorem don33c (hF:F33 F)(hI:Inv Ee (stOf ct33))(hlo:out.length=inp.length){N:Num}{a:Act}{w:World}{o:Nat}(hat:At F Tryz.f61.ntmps Ne Ee (stOf ct33) we T33e s33e N a w)(hA:A33e N out inp ctr key o 64)(hend:o+64=inp.length){K:Act→World→Prop}{Q:Exit→Act→World→Prop}
 (H:∀N a' w',N.a 2=xorL inp ctr key→At F Tryz.f61.ntmps Ne Ee (stOf ct33) we T33c s33c N a' w'→Q .normal a' w') :
 (loopIn 61 3 6).1.wp Tryz.prog (Exit.then K (wpK Tryz.prog (loopIn 61 3 6).2 Q)) a w:=by
 refine to_done hm (eU (tab33_ok hF)) d33c (by kernel_rfl) rfl rfl hat hI fun M hag hf hd=> ?_
 obtain ⟨ho,e50,e51,e52,e53,e118,einp,eout,hkey,hb,hcc⟩:=hA.agr hag;clear hag hat;simp only[aC,Df.sat,Nd.ev,Ar.ev] at hd;obtain ⟨q167,q166,q165,q164,q163,q162,q161,q160,q159,q158,q157,q156,q155,q154,q153,q152,q151,q150,q149,q148,q147,q146,q145,q144,q143,q142,q141,q140,q139,q138,q137,q136,q135,-⟩:=hd;have hxl:=xorL_length inp ctr key;refine ⟨?_,fun x2 y2 hat2=>H _ x2 y2 ?_ hat2⟩
 ·simp only[aC,Ob.holds,Ar.ev,e51,e53];exact ⟨by omega,by omega,by omega,by omega,by omega,by omega,by rw[q135,e118];rfl,nofun⟩
 ·show M.a 2=_;rw[eout,hend,←hxl,mixL_all (by omega)]
set_option maxRecDepth 8000 in
set_option maxHeartbeats 2000000 in
theorem nxt33 (hF:F33 F)(hI:Inv Ee (stOf ct33))(hlc:ctr.length=16)(hlk:key.length=32){N:Num}{a:Act}{w:World}{o:Nat}(hat:At F Tryz.f61.ntmps Ne Ee (stOf ct33) we T33a s33a N a w)(hA:A33a N out inp ctr key o)(h64:inp.length<o+64)(hsome:o<inp.length){K:Act→World→Prop}{Q:Exit→Act→World→Prop}
 (H:∀N a' w',A33d N out inp ctr key o 0→At F Tryz.f61.ntmps Ne Ee (stOf ct33) we T33d s33d N a' w'→(Code.loop (loopAt 61 22).1).wp Tryz.prog (wpK Tryz.prog (loopAt 61 22).2 Q) a' w') :
 (loopAt 61 3).1.wp Tryz.prog (Exit.then K (wpK Tryz.prog (loopAt 61 3).2 Q)) a w:=by
 refine to_next hm (eU (tab33_ok hF)) n33 (by kernel_rfl) rfl rfl hat hI fun M hag hf hd=> ?_
 obtain ⟨ho,e50,e51,e52,e53,einp,eout,hkey,hcc⟩:=hA.agr hag;clear hag hat;simp only[aC,Df.sat,Nd.ev,Ad.ev,Ar.ev,aI,aK,hf,hF.a38] at hd;obtain ⟨q199,q198,q197,q196,q195,q194,q193,q192,q191,q190,q189,q188,q187,q186,q185,q184,q183,q182,q181,q180,q179,q178,q177,q176,q175,q174,q173,q172,q171,q170,q169,q168,q167,q166,q165,q164,q163,q162,q161,q160,q159,q158,q157,q156,q155,q154,q153,q152,q151,q150,q149,q148,q147,q146,q145,q144,q143,q142,q141,q140,q139,q138,q137,q136,w7,w6,w5,w4,w3,q135,q134,-⟩:=hd
 have t4:M.a 4=ctrL ctr (ctr.getD 8 0+((o/64:Nat):Int)):=w4.trans (congrN (b:=118) (n:=16) (f:=M.i) hcc (ctrL_length hlc _));have t5:M.a 5=key:=w5.trans (congrN (b:=18) (n:=32) (f:=M.i) hkey hlk);have t7:M.a 7=blk key ctr (ctr.getD 8 0+((o/64:Nat):Int)):=by rw[w7,t4,t5,w6];rfl
 have hb:∀j,j<64→M.i (136+j)=(blk key ctr (ctr.getD 8 0+((o/64:Nat):Int))).getD j 0:=by
  intro j hj;have hh:∀j,j<64→M.i (136+j)=(M.a 7).getD j 0:=by
   intro j hj
   match j,hj with
   | 0,_=>exact q136
   | 1,_=>exact q137
   | 2,_=>exact q138
   | 3,_=>exact q139
   | 4,_=>exact q140
   | 5,_=>exact q141
   | 6,_=>exact q142
   | 7,_=>exact q143
   | 8,_=>exact q144
   | 9,_=>exact q145
   | 10,_=>exact q146
   | 11,_=>exact q147
   | 12,_=>exact q148
   | 13,_=>exact q149
   | 14,_=>exact q150
   | 15,_=>exact q151
   | 16,_=>exact q152
   | 17,_=>exact q153
   | 18,_=>exact q154
   | 19,_=>exact q155
   | 20,_=>exact q156
   | 21,_=>exact q157
   | 22,_=>exact q158
   | 23,_=>exact q159
   | 24,_=>exact q160
   | 25,_=>exact q161
   | 26,_=>exact q162
   | 27,_=>exact q163
   | 28,_=>exact q164
   | 29,_=>exact q165
   | 30,_=>exact q166
   | 31,_=>exact q167
   | 32,_=>exact q168
   | 33,_=>exact q169
   | 34,_=>exact q170
   | 35,_=>exact q171
   | 36,_=>exact q172
   | 37,_=>exact q173
   | 38,_=>exact q174
   | 39,_=>exact q175
   | 40,_=>exact q176
   | 41,_=>exact q177
   | 42,_=>exact q178
   | 43,_=>exact q179
   | 44,_=>exact q180
   | 45,_=>exact q181
   | 46,_=>exact q182
   | 47,_=>exact q183
   | 48,_=>exact q184
   | 49,_=>exact q185
   | 50,_=>exact q186
   | 51,_=>exact q187
   | 52,_=>exact q188
   | 53,_=>exact q189
   | 54,_=>exact q190
   | 55,_=>exact q191
   | 56,_=>exact q192
   | 57,_=>exact q193
   | 58,_=>exact q194
   | 59,_=>exact q195
   | 60,_=>exact q196
   | 61,_=>exact q197
   | 62,_=>exact q198
   | 63,_=>exact q199
   | j+64,h=>exact absurd h (by omega)
  rw[hh j hj,t7]
 refine ⟨?_,fun x2 y2 hat2=>H _ x2 y2 ?_ hat2⟩
 ·simp only[aC,Ob.holds,aI,aK,Ar.ev,hf,e53];exact ⟨by omega,hF.p38 _ _,by rw[q135,e53];exact fL (bS (by omega)),by omega,by rw[q134,e53];exact gR (bZ (by omega)),by omega,nofun⟩
 ·exact ⟨⟨ho.1,ho.2,h64⟩,e50,e51,e52,e53,rfl,einp,eout,fun j hj=>(fV (by kernel_rfl) j hj).trans (hb j hj)⟩
set_option maxRecDepth 8000 in
set_option maxHeartbeats 2000000 in
theorem rnd33d (hF:F33 F)(hI:Inv Ee (stOf ct33))(hlo:out.length=inp.length)(hbig:inp.length≤8192){N:Num}{a:Act}{w:World}{o i:Nat}(hat:At F Tryz.f61.ntmps Ne Ee (stOf ct33) we T33d s33d N a w)(hA:A33d N out inp ctr key o i)(hi:o+i<inp.length){K:Act→World→Prop}{Q:Exit→Act→World→Prop}
 (H:∀N a' w',A33d N out inp ctr key o (i+1)→At F Tryz.f61.ntmps Ne Ee (stOf ct33) we T33d s33d N a' w'→K a' w') :
 (loopAt 61 22).1.wp Tryz.prog (Exit.then K (wpK Tryz.prog (loopAt 61 22).2 Q)) a w:=by
 refine gI hm (eU (tab33_ok hF)) r33d (by kernel_rfl) rfl rfl hat hI fun M hag hf hd=> ?_
 obtain ⟨ho,e50,e51,e52,e53,e54,einp,eout,hb⟩:=hA.agr hag;clear hag hat;simp only[aC,Df.sat,Nd.ev,Ad.ev,Ar.ev,aI,aK] at hd;obtain ⟨q126,w3,q125,q124,q123,q122,q121,q120,q119,-⟩:=hd;have h122:M.i 122=((i:Nat):Int):=by rw[q122,e54];omega
 have h123:M.i 123=(blk key ctr (ctr.getD 8 0+((o/64:Nat):Int))).getD i 0:=by rw[q123,h122,bD];exact congrArg (fun l:List Int=>l.getD i 0) (congrN (b:=55) (n:=64) (f:=M.i) hb (blk_length _ _ _))
 have h120:M.i 120=((o+i:Nat):Int):=by rw[q120,e52,e54];omega
 have h125:M.i 125=((o+i:Nat):Int):=by rw[q125,e50,e54];omega
 have h121:M.i 121=inp.getD (o+i) 0:=by rw[q121,h120,einp,bD]
 have h126:M.i 126=((i+1:Nat):Int):=by rw[q126,e54];exact inc64 i (by omega)
 have hxl:=xorL_length inp ctr key;have l2:(M.a 2).length=inp.length:=by rw[eout,mixL_length (by omega) (by omega),hxl]
 have t3:M.a 3=mixL (xorL inp ctr key) out (o+(i+1)):=by rw[w3,eout,h125,bD];refine mixL_set (by omega) (by omega) ?_;rw[xorL_get (by omega),xorB_at ho.2.1 (by omega),q124,h121,h123]
 refine ⟨?_,fun x2 y2 hat2=>H _ x2 y2 ?_ hat2⟩
 ·simp only[aC,Ob.holds,Ar.ev,e51,e53,e54,h120,h122,h125,l2,einp];exact ⟨⟨by omega,by omega⟩,by omega,by omega,by omega,by omega,by omega,by omega,⟨by omega,by omega⟩,by omega,by omega,by rw[q119,e54,e53];exact fL (bS (by omega)),nofun⟩
 ·exact ⟨⟨by omega,ho.2.1,ho.2.2⟩,e50,e51,e52,e53,h126,einp,t3,fun j hj=>(fV (by kernel_rfl) j hj).trans (hb j hj)⟩
end
set_option maxHeartbeats 2000000 in
theorem spec33 {F:Fns}(hF:F33 F):CSpec Tryz.prog F 61 ct33:=by
 refine gA (args:=argsOf ct33) (σe:=stOf ct33) rfl Tryz.func61 (fM (by kernel_rfl)) (by kernel_rfl) (by kernel_rfl) fun is ls ws we Ee a hs hp hent hat=> ?_
 obtain rfl:=eV rfl hs
 match ls,hs with
 | [out,inp,ctr,key],hs =>
 obtain ⟨hlc,hlk,-⟩:=hs;have hp:P33 [] [out,inp,ctr,key]:=by rw[←hF.p33];exact hp
 obtain ⟨hlo,hbig,hcz,hn8⟩:=hp;have hxl:=xorL_length inp ctr key;have hA33:F.a ct33.fw [] [out,inp,ctr,key]=xorL inp ctr key:=by show F.a 33 _ _=_;rw[hF.a33];rfl
 have hlen:∀L,rwArg ct33.ps [] [out,inp,ctr,key]=some L→(F.a ct33.fw [] [out,inp,ctr,key]).length=L.length:=fun L h=>by
  have:L=out:=by simp only[ct33,rwArg,aA] at h;exact h.symm
  subst this;rw[hA33,hxl,hlo]
 refine to_head hm (eU (tab33_ok hF)) h33 (by kernel_rfl) rfl rfl hat hent.inv fun N hag hf _=> ?_
 have en:∀x,x<50→N.i x=((out.length:Int)::(inp.length:Int)::(ctr++key)).getD x 0:=fun x hx=>by rw[hag.i x hx];show (numsL ct33.ps [] [out,inp,ctr,key]).getD x 0=_;simp only[ct33,numsL,bJ]
 have ea0:N.a 0=out:=hag.a 0 (by decide);have ea1:N.a 1=inp:=hag.a 1 (by decide);have e0:N.i 0=out.length:=en 0 (by decide);have e1:N.i 1=inp.length:=en 1 (by decide);have ec:∀j,j<16→N.i (2+j)=ctr.getD j 0:=fun j hj=>by rw[en _ (by omega),show 2+j=j+1+1 by omega,List.getD_cons_succ,List.getD_cons_succ,aE,bQ (by omega),aE]
 have ek:∀j,j<32→N.i (18+j)=key.getD j 0:=fun j hj=>by rw[en _ (by omega),show 18+j=(16+j)+1+1 by omega,List.getD_cons_succ,List.getD_cons_succ,aE,aP (by omega),hlc,bR,aE]
 refine ⟨nofun,fun a1 w1 hat1=> ?_⟩
 let Ne:=num0 F ct33.ps [] [out,inp,ctr,key]
 refine gQ (fun k a w=>(∃ N o,A33a N out inp ctr key o∧k=inp.length-o+1∧At F Tryz.f61.ntmps Ne Ee (stOf ct33) we T33a s33a N a w)∨(∃ N:Num,N.a 2=xorL inp ctr key∧At F Tryz.f61.ntmps Ne Ee (stOf ct33) we T33c s33c N a w)) (k:=inp.length+1) (.inl ⟨_,0,?_,rfl,hat1⟩) ?_
 ·refine ⟨⟨dK _,rfl⟩,rfl,?_,rfl,e1,ea1,ea0,fun j hj=>(fV (by kernel_rfl) j hj).trans (ek j hj),fun j hj=>(fV (x:=118) (y:=2) (n:=16) (by kernel_rfl) j hj).trans ?_⟩
  ·show N.i 0=_;rw[e0,hlo];rfl
  ·rw [ec j hj,show ctr.getD 8 0+((0/64:Nat):Int)=ctr.getD 8 0 by omega,ctr_zero hlc hcz]
 ·clear hat hat1 hag en ea0 ea1 e0 e1 ec ek hf;intro k a w hJ;rcases hJ with ⟨N,o,hA,hk,hat⟩ | ⟨N,hN,hat⟩
  ·have ho:=hA.ho;rcases bL inp.length (o+64) with h | h
   ·rcases bL o inp.length with h2 | h2
    ·
     refine nxt33 hF hent.inv hlc hlk hat hA h h2 fun M x y hM hat2=> ?_
     refine gQ (fun k a w=>∃N i,A33d N out inp ctr key o i∧k=inp.length-(o+i)∧At F Tryz.f61.ntmps Ne Ee (stOf ct33) we T33d s33d N a w) (k:=inp.length-(o+0)) ⟨M,0,hM,rfl,hat2⟩ ?_;intro k a w hJ;obtain ⟨M,i,hM,hk,hat⟩:=hJ;have hi:=hM.ho;rcases bL (o+i) inp.length with h3 | h3
     ·exact rnd33d hF hent.inv hlo hbig hat hM h3 fun M' a' w' g1 g2=>⟨inp.length-(o+(i+1)),by omega,M',i+1,g1,rfl,g2⟩
     ·refine gH hm (eU (tab33_ok hF)) o33d (by kernel_rfl) hat hent fun M' hag hf hd=> ?_
      obtain ⟨_,e50,e51,e52,e53,e54,einp,eout,hb⟩:=hM.agr hag;simp only[aC,Df.sat,Nd.ev,Ar.ev,e53,e54] at hd;refine ⟨?_,⟨nofun,?_,trivial⟩,hlen⟩
      ·simp only[aC,Ob.holds];exact ⟨by rw[hd.1];exact gR (bZ (by omega)),nofun⟩
      ·show M'.a 2=_;rw[hA33,eout,show o+i=inp.length by omega,←hxl,mixL_all (by omega)]
    ·
     refine gH hm (eU (tab33_ok hF)) o33a (by kernel_rfl) hat hent fun M' hag hf hd=> ?_
     obtain ⟨_,e50,e51,e52,e53,einp,eout,hkey,hcc⟩:=hA.agr hag;simp only[aC,Df.sat,Nd.ev,Ar.ev,e53] at hd;refine ⟨?_,⟨nofun,?_,trivial⟩,hlen⟩
     ·simp only[aC,Ob.holds,Ar.ev,e53];exact ⟨by rw[hd.1];exact gR (bZ (by omega)),by omega,by rw[hd.2.1];exact gR (bZ (by omega)),by omega,nofun⟩
     ·show M'.a 2=_;rw[hA33,eout,show o=inp.length by omega,←hxl,mixL_all (by omega)]
   ·
    refine in33 hF hent.inv hlc hlk hat hA h fun M x y hM hat2=> ?_
    refine gQ (fun k a w=>∃N i,A33e N out inp ctr key o i∧k=64-i∧At F Tryz.f61.ntmps Ne Ee (stOf ct33) we T33e s33e N a w) (k:=64) ⟨M,0,hM,rfl,hat2⟩ ?_;intro k' a w hJ;obtain ⟨M,i,hM,hk',hat⟩:=hJ;have hi:=hM.ho;rcases bL i 64 with h3 | h3
    ·exact rnd33e hF hent.inv hlo hbig hat hM h3 fun M' a' w' g1 g2=>⟨64-(i+1),by omega,M',i+1,g1,rfl,g2⟩
    ·have:i=64:=by omega
     subst this;rcases Nat.eq_or_lt_of_le h with h4 | h4
     ·exact don33c hF hent.inv hlo hat hM h4 fun M' a' w' g1 g2=>⟨0,by omega,.inr ⟨M',g1,g2⟩⟩
     ·exact don33a hF hent.inv hlo hbig hlc hn8 hat hM h4 fun M' a' w' g1 g2=>⟨inp.length-(o+64)+1,by omega,.inl ⟨M',o+64,g1,rfl,g2⟩⟩
  ·refine gH hm (eU (tab33_ok hF)) o33c (by kernel_rfl) hat hent fun M' hag hf hd=> ?_
   refine ⟨nofun,⟨nofun,?_,trivial⟩,hlen⟩;show M'.a 2=_;rw[hA33,hag.a 2 (by decide)];exact hN
def pv33 (m:Nat):Nat:=bif Nat.beq m 0 then 0 else m+5
def pre33:List Df:=rds 48 5 0 64++[.a 5 (.fn 38 [] [1,2,3,4]),.a 4 (.lit (sigmaL.map .kst)),.a 3 (.lit (vs 16 32)),.a 2 (.lit (vs 0 16)),.a 1 (.lit (zs 64))]
def mid33:List Df:=(List.range 64).reverse.flatMap fun m=>[.a (m+6) (.set (pv33 m) (.kst m) (.var (2*m+113))),.n (2*m+113) (.bin .xor .u8 (.var (2*m+112)) (.var (48+m))),.n (2*m+112) (.rd (pv33 m) (.kst m))]
def end33:List Df:=(List.range 8).reverse.flatMap fun m=>[.n (4*m+243) (.bin .shr .u32 (.var (4*m+241)) (.kst 8)),.n (4*m+242) (.conv .u8 (.var (4*m+241))),.n (4*m+241) (.bin .add .u32 (bif Nat.beq m 0 then .kst 1 else .var (4*m+239)) (.var (4*m+240))),.n (4*m+240) (.conv .u32 (.var (m+8)))]
def obs33:List Ob:=((List.range 64).reverse.flatMap fun m=>[.inA (.kst m) (pv33 m),.inA (.kst m) (pv33 m)])++[.prd 380 [] [1,2,3,4]]
noncomputable def runED (ct:Ct)(fn:Func)(call:FuncId→List SV→St→Option (SV×St))(o:List Bool):Option (Sum1×List Df×List Ob) :=
 endD Tryz.prog ct (stOf ct) fn (stOf ct) (runK Tryz.prog call [] fn.ntmps 1000 2000 (bodyC fn) [] (trArgs 0 (argsOf ct) (stOf ct).gl) ((stOf ct).ask' o))
theorem run33s:runED ct33s Tryz.f61 (callT tab33) []=some (⟨[],some (.inl 69),none⟩,end33++(mid33++pre33),obs33):=by kernel_rfl
def P33s (_:List Int)(ls:List (List Int)):Prop :=
 match ls with
 | [_,ctr,_]=>ctr.drop 9=[0,0,0,0,0,0,0]
 | _=>False
def A33s (_:List Int)(ls:List (List Int)):List Int :=
 match ls with
 | [z,ctr,key]=>xorL z ctr key
 | _=>[]
structure F33s (F:Fns):Prop where
 p33s:F.p 330=P33s
 a33s:F.a 330=A33s
theorem mix_at {X Y:List Int}{m:Nat}(h:m<X.length)(hl:X.length=Y.length):(mixL X Y m).getD m 0=Y.getD m 0:=by
 unfold mixL;have h1:(X.take m).length=m:=by rw[bE];omega
 rw[aE,aP (by omega),h1,Nat.sub_self,cH,cJ,aE]
theorem xorL_one {z ctr key:List Int}{m:Nat}(_hz:z.length=64)(hc:ctrL ctr (ctr.getD 8 0)=ctr)(hm:m<64):xorB z ctr key m=iop .xor .u8 (z.getD m 0) ((coreL (matL key ctr sigmaL)).getD m 0):=by
 have e1:m/64=0:=by omega
 have e2:m%64=m:=by omega
 simp only[xorB,e1,e2,Int.natCast_zero,dJ,blk,hc]
theorem spec33s {F:Fns}(hF:F33 F)(h:F33s F):CSpec Tryz.prog F 61 ct33s:=by
 refine gA (args:=argsOf ct33s) (σe:=stOf ct33s) rfl Tryz.func61 (fM (by kernel_rfl)) (by kernel_rfl) (by kernel_rfl) fun is ls ws we Ee a hs hp hent hat=> ?_
 obtain rfl:=eV rfl hs
 match ls,hs with
 | [z,ctr,key],hs =>
  obtain ⟨hzl,hcl,hkl,-⟩:=hs;have hz:ctr.drop 9=[0,0,0,0,0,0,0]:=by
   have:P33s [] [z,ctr,key]:=by rw[←h.p33s];exact hp
   exact this
  have hc:=ctr_zero hcl hz;refine to_end hm (eU (tab33_ok hF)) run33s (by kernel_rfl) hat hent fun N hag hf hd=> ?_
  have hnum:∀x,x<48→N.i x=(ctr++key).getD x 0:=fun x hx=>by rw[hag.i x hx];show (numsL ct33s.ps [] [z,ctr,key]).getD x 0=_;simp only[ct33s,numsL,bJ]
  have hctr:∀j,j<16→N.i (0+j)=ctr.getD j 0:=fun j hj=>by rw[bM,hnum j (by omega),aE,bQ (by omega),aE]
  have hkey:∀j,j<32→N.i (16+j)=key.getD j 0:=fun j hj=>by rw[hnum _ (by omega),aE,aP (by omega),hcl,bR,aE]
  have ez:N.a 0=z:=hag.a 0 (by decide);have hpre:∀d∈pre33,d.sat N:=fun d hm=>hd d (eF _ (eF _ hm))
  have hmid:∀d∈mid33,d.sat N:=fun d hm=>hd d (eF _ (eJ _ hm))
  have a5:N.a 5=N.f.a 38 [] [N.a 1,N.a 2,N.a 3,N.a 4]:=hpre (.a 5 (.fn 38 [] [1,2,3,4])) (dI (i:=64) rfl);have a4:N.a 4=(sigmaL.map Ar.kst).map (·.ev N):=hpre (.a 4 (.lit (sigmaL.map .kst))) (dI (i:=65) rfl);have a3:N.a 3=(vs 16 32).map (·.ev N):=hpre (.a 3 (.lit (vs 16 32))) (dI (i:=66) rfl);have a2:N.a 2=(vs 0 16).map (·.ev N):=hpre (.a 2 (.lit (vs 0 16))) (dI (i:=67) rfl);rw[vs_map hkey hkl] at a3;rw[vs_map hctr hcl] at a2
  rw[cZ] at a4;have a4:N.a 4=sigmaL:=a4;rw[hf,hF.a38,a2,a3,a4] at a5;have a5:N.a 5=coreL (matL key ctr sigmaL):=a5;have hb:∀m,m<64→N.i (48+m)=(coreL (matL key ctr sigmaL)).getD m 0:=fun m hm=>by rw[rds_sat (fun d hd=>hpre d (eJ _ hd)) m hm,bM,a5]
  have hxl:(xorL z ctr key).length=z.length:=xorL_length _ _ _;have step:∀m,m≤64→N.a (pv33 m)=mixL (xorL z ctr key) z m:=by
   intro m
   induction m with
   | zero=>intro _;exact ez
   | succ m ih =>
    intro hm;have ih:=ih (by omega);have m1:m∈(List.range 64).reverse:=eP.2 (cE.2 (by omega));have g1:N.a (m+6)=(N.a (pv33 m)).set ((m:Nat):Int).toNat (N.i (2*m+113)):=hmid (.a (m+6) (.set (pv33 m) (.kst m) (.var (2*m+113)))) (List.mem_flatMap.2 ⟨m,m1,by simp⟩);have g2:N.i (2*m+113)=iop .xor .u8 (N.i (2*m+112)) (N.i (48+m)):=hmid (.n (2*m+113) (.bin .xor .u8 (.var (2*m+112)) (.var (48+m)))) (List.mem_flatMap.2 ⟨m,m1,by simp⟩)
    have g3:N.i (2*m+112)=(N.a (pv33 m)).getD ((m:Nat):Int).toNat 0:=hmid (.n (2*m+112) (.rd (pv33 m) (.kst m))) (List.mem_flatMap.2 ⟨m,m1,by simp⟩);have e:pv33 (m+1)=m+6:=rfl;rw[e,g1,ih,bD];refine mixL_set hxl (by omega) ?_;rw[xorL_get (by omega),xorL_one hzl hc (by omega),g2,g3,ih,bD,hb m (by omega)];rw[mix_at (by omega) (by omega)]
  have hlast:N.a 69=xorL z ctr key:=by have:=step 64 (aS _);rw[show (64:Nat)=(xorL z ctr key).length by omega,mixL_all hxl] at this;rw[show (xorL z ctr key).length=64 by omega] at this;exact this
  have hlenm:∀m,m<64→(N.a (pv33 m)).length=64:=fun m hm=>by rw[step m (by omega),mixL_length hxl (by omega)];omega
  refine ⟨fun ob hob=> ?_,⟨nofun,?_,trivial⟩,fun L hL=> ?_⟩
  ·rcases cX.1 hob with hob | hob
   ·obtain ⟨m,hm1,hm2⟩:=List.mem_flatMap.1 hob;have hm1:=cE.1 (eP.1 hm1);have:=hlenm m hm1;have:(Ob.inA (.kst m) (pv33 m)).holds N:=by
     simp only[Ob.holds,Ar.ev];omega
    simp only[cD,dX,or_false,or_self] at hm2;rw[hm2];exact this
   ·simp only[aX] at hob;subst hob;simp only[Ob.holds,hf];exact hF.p38 _ _
  ·show N.a 69=F.a 330 _ _;rw[hlast,h.a33s];rfl
  ·have:L=z:=by simp only[ct33s,rwArg,aA] at hL;exact hL.symm
   subst this;show (F.a 330 [] _).length=_;rw[h.a33s];exact hxl
theorem run23:runE ct23 Tryz.f54 (callT tab23) []=some (⟨[(.var 100,0)],none,none⟩,
 cmpD 65 0 49++(rds 49 4 0 16++[.a 4 (.fn 34 [] [1,2,3]),.a 3 (.lit (vs 17 32)),.a 2 (.sub 0 (.kst 0) (.var 16)),.a 1 (.lit (zs 16))]),
 [.prd 34 [] [1,2,3],.fits (.kst 0) (.var 16) 0]):=by kernel_rfl
theorem run23e:runE ct23e Tryz.f54 (callT tab23) []=some (⟨[(.var 99,0)],none,none⟩,
 cmpD 64 0 48++(rds 48 3 0 16++[.a 3 (.fn 34 [] [0,1,2]),.a 2 (.lit (vs 16 32)),.a 1 (.lit []),.a 0 (.lit (zs 16))]),
 [.prd 34 [] [0,1,2]]):=by kernel_rfl
def P23 (_:List Int)(ls:List (List Int)):Prop :=
 match ls with
 | [mac,m,key]=>Bytes mac∧Bytes m∧Bytes key∧m.length≤1099511627776
 | _=>False
noncomputable def I23 (_:List Int)(ls:List (List Int))(_:Nat):Int :=
 match ls with
 | [mac,m,key]=>if tagL key m=mac then 1 else 0
 | _=>0
structure F23 (F:Fns):Prop extends F34 F where
 p23:F.p 23=P23
 i23:F.i 23=I23
theorem tab23_ok {F:Fns}(h:F23 F):TabOk F tab23 :=
 ⟨⟨by kernel_rfl,fun c hc=>by
  simp only[cD,dX,or_false] at hc;rcases hc with rfl | rfl
  ·exact spec34 h.toF34
  ·exact spec34e h.toF34⟩,trivial⟩
theorem leB_bytes:∀(n:Nat) (x:Int),Bytes (leB n x)
 | 0,_=>nofun
 | n+1,x=>by
  intro y hy;rcases cD.1 hy with rfl | h
  ·exact ⟨Int.emod_nonneg _ (by decide),eI _ (by decide)⟩
  ·exact leB_bytes n _ y h
theorem tagL_bytes (key m:List Int):Bytes (tagL key m):=leB_bytes 16 _
theorem tagL_length (key m:List Int):(tagL key m).length=16:=leB_length 16 _
theorem getD_at {A B:List Int}{n j:Nat}(h:A.length=n):(A++B).getD (n+j) 0=B.getD j 0:=by
 rw[aE,aP (by omega),h,bR,aE]
theorem getD_lo {A B:List Int}{j:Nat}(h:j<A.length):(A++B).getD j 0=A.getD j 0:=by
 rw[aE,bQ h,aE]
theorem spec23 {F:Fns}(hF:F23 F):CSpec Tryz.prog F 54 ct23:=by
 refine fG (eU (tab23_ok hF)) Tryz.func54 (by kernel_rfl) (by kernel_rfl) (by kernel_rfl) run23 (by kernel_rfl) fun is ls N hs hp hag hf hd=> ?_
 obtain rfl:=eV rfl hs
 match ls,hs with
 | [mac,m,key],hs =>
  obtain ⟨hml,hkl,-⟩:=hs;have hP:P23 [] [mac,m,key]:=by rw[←hF.p23];exact hp
  obtain ⟨hB1,hB2,hB3,hB4⟩:=hP;have hnum:∀x,x<49→N.i x=(mac++(m.length:Int)::key).getD x 0:=fun x hx=>by rw[hag.i x hx];show (numsL ct23.ps [] [mac,m,key]).getD x 0=_;simp only[ct23,numsL,bJ]
  have e0:N.a 0=m:=hag.a 0 (by decide);have hmac:∀j,j<16→N.i (0+j)=mac.getD j 0:=fun j hj=>by rw[bM,hnum j (by omega),getD_lo (by omega)]
  have e16:N.i 16=m.length:=by rw[hnum 16 (by decide)];exact getD_at (j:=0) hml
  have hkey:∀j,j<32→N.i (17+j)=key.getD j 0:=fun j hj=>by rw[hnum _ (by omega),show 17+j=16+(j+1) by omega,getD_at hml];rfl
  simp only[cB,aC] at hd;obtain ⟨h1,h2,w4,w3,w2,w1,-⟩:=hd;have w3:N.a 3=key:=dF w3 (vs_map hkey hkl);simp only[Df.sat,Ad.ev,Ar.ev,aI,aK,hf,hF.a34,e0,e16] at w2 w4;have t2:N.a 2=m:=by rw[w2];simp
  have t4:N.a 4=tagL key m:=by rw[w4,w3,t2];rfl
  have hr:=rds_sat h2;rw[t4] at hr;have:=cmpD_sat h1 hmac (fun j hj=>by rw[hr j hj,bM]) hB1 (tagL_bytes key m) hml (tagL_length _ _);refine ⟨?_,⟨fun p hp=> ?_,trivial,trivial⟩,fun L hL=>by cases hL⟩
  ·simp only[aC,Ob.holds,Ar.ev,aI,aK,hf,hF.p34,t2,w3,e0,e16];exact ⟨⟨hB2,hB3,hB4⟩,⟨by omega,by omega,by omega⟩,nofun⟩
  ·simp only[aX] at hp;subst hp;show N.i 100=F.i 23 _ _ 0;rw[hF.i23];exact this
theorem spec23e {F:Fns}(hF:F23 F):CSpec Tryz.prog F 54 ct23e:=by
 refine fG (eU (tab23_ok hF)) Tryz.func54 (by kernel_rfl) (by kernel_rfl) (by kernel_rfl) run23e (by kernel_rfl) fun is ls N hs hp hag hf hd=> ?_
 obtain rfl:=eV rfl hs
 match ls,hs with
 | [mac,m,key],hs =>
  obtain ⟨hml,rfl,hkl,-⟩:=hs;have hP:P23 [] [mac,[],key]:=by rw[←hF.p23];exact hp
  obtain ⟨hB1,hB2,hB3,hB4⟩:=hP;have hnum:∀x,x<48→N.i x=(mac++key).getD x 0:=fun x hx=>by rw[hag.i x hx];show (numsL ct23e.ps [] [mac,[],key]).getD x 0=_;simp only[ct23e,numsL,bJ]
  have hmac:∀j,j<16→N.i (0+j)=mac.getD j 0:=fun j hj=>by rw[bM,hnum j (by omega),getD_lo (by omega)]
  have hkey:∀j,j<32→N.i (16+j)=key.getD j 0:=fun j hj=>by rw[hnum _ (by omega),getD_at hml]
  simp only[cB,aC] at hd;obtain ⟨h1,h2,w3,w2,w1,w0,-⟩:=hd;have w2:N.a 2=key:=dF w2 (vs_map hkey hkl);simp only[Df.sat,Ad.ev,aI,aK,hf,hF.a34] at w1 w3;have t4:N.a 3=tagL key []:=by rw[w3,w2,w1];rfl
  have hr:=rds_sat h2;rw[t4] at hr;have:=cmpD_sat h1 hmac (fun j hj=>by rw[hr j hj,bM]) hB1 (tagL_bytes key []) hml (tagL_length _ _);refine ⟨?_,⟨fun p hp=> ?_,trivial,trivial⟩,fun L hL=>by cases hL⟩
  ·simp only[aC,Ob.holds,Ar.ev,aI,aK,hf,hF.p34,w1,w2];exact ⟨⟨hB2,hB3,hB4⟩,nofun⟩
  ·simp only[aX] at hp;subst hp;show N.i 99=F.i 23 _ _ 0;rw[hF.i23];exact this
end Go.Proofs.YtnfikgagkamioaaGreatDoor.S
