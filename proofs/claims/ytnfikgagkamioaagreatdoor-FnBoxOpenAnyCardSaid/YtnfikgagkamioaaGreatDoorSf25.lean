/- Facts of runs: the matrix, the counter. -/
import Derived.Test.YtnfikgagkamioaaGreatDoorX64u
namespace Go.Proofs.YtnfikgagkamioaaGreatDoor
open Go.Sy
def ct59n:Ct:={ps:=[fe false,.agg .u8 32,.agg .u8 32],sel:=some [1,2],glp:=some 0,res:=[.agg .u8 32,.kst .nilIface],p:=590,fi:=590,fw:=0,fs:=0}
def ct59z:Ct:={ct59n with res:=[.agg .u8 32,.nn],p:=591}
def ct49n:Ct:={ps:=[fe false,.ptr .u8 32 true,.ptr .u8 32 false,.ptr .u8 32 false],sel:=some [1,2,3],glp:=some 0,res:=[],p:=490,fi:=0,fw:=490,fs:=0}
def ct49z:Ct:={ct49n with p:=491}
def ct49c:Ct:={ct49n with p:=492}
def tab59:List (FuncId×List Ct):=[(64,[ct64])]
def tab49n:List (FuncId×List Ct):=[(59,[ct59n])]
def tab49z:List (FuncId×List Ct):=[(59,[ct59z])]
def z32:List Int:=List.replicate 32 0
def P59 (z:Prop→Prop)(_:List Int)(ls:List (List Int)):Prop :=
 match ls with
 | [g,s,u]=>g=[1,0,0,0,0]∧Bytes s∧Bytes u∧z (xfn s u=z32)
 | _=>False
def I59 (_:List Int)(ls:List (List Int))(j:Nat):Int :=
 match ls with
 | [_,s,u]=>(xfn s u).getD j 0
 | _=>0
def P49 (z:Prop→Prop)(_:List Int)(ls:List (List Int)):Prop :=
 match ls with
 | [g,_,s,u]=>g=[1,0,0,0,0]∧Bytes s∧Bytes u∧z (xfn s u=z32)
 | _=>False
structure F59 (F:Fns):Prop extends F64 F where
 p590:F.p 590=P59 Not
 p591:F.p 591=P59 id
 i590:F.i 590=I59
 p490:F.p 490=P49 Not
 p491:F.p 491=P49 id
 p492:F.p 492=P49 fun _=>True
 a490:F.a 490=W64
noncomputable abbrev E59n:=runE ct59n Tryz.f59 (callT tab59) [false]
noncomputable abbrev E59z:=runE ct59z Tryz.f59 (callT tab59) [true]
noncomputable abbrev E49n:=runE ct49n Tryz.f49 (callT tab49n) []
noncomputable abbrev E49z:=runE ct49z Tryz.f49 (callT tab49z) []
theorem E59n_s:E59n=some (⟨zipJ (vs 69 32) 0,none,none⟩,dE E59n,oE E59n):=someE (by kernel_rfl)
theorem E59z_s:E59z=some (⟨zipJ (zs 32) 0,none,none⟩,dE E59z,oE E59z):=someE (by kernel_rfl)
theorem E49n_s:E49n=some (⟨[],some (.inr (vs 101 32)),none⟩,dE E49n,oE E49n):=someE (by kernel_rfl)
theorem E49z_s:E49z=some (⟨[],some (.inr (zs 32)),none⟩,dE E49z,oE E49z):=someE (by kernel_rfl)
def litV (ds:List Df)(A:Nat)(l:List Ar):Bool:=match lkA ds A with | some (.lit m)=>eL eAr m l | _=>false
theorem gZ {N:Num}{ds:List Df}(hd:∀d∈ds,d.sat N){A:Nat}{l:List Ar}(h:litV ds A l=true):N.a A=l.map (·.ev N):=by
 unfold litV at h;split at h
 ·rename_i m hl;rw[fR hd hl,eArs_eq h];rfl
 ·cases h
def orB (ds:List Df)(x y n:Nat):Bool:=(List.range n).all fun j=>match lkN ds (x+j) with
 | some (.bin .or .u8 a (.var z))=>Nat.beq z (y+j)&&eAr a (bif Nat.beq j 0 then .kst 0 else .var (x+j-1))
 | _=>false
theorem or_ok {N:Num}{ds:List Df}(hd:∀d∈ds,d.sat N){x y n:Nat}(h:orB ds x y n=true)(hb:∀j,j<n→0≤N.i (y+j)∧N.i (y+j)<256):∀j,j<n→(0≤N.i (x+j)∧N.i (x+j)<256)∧(N.i (x+j)=0↔∀i,i≤j→N.i (y+i)=0):=by
 intro j
 induction j with
 | zero =>
  intro hj;have:=bT.1 h 0 (cE.2 hj);split at this
  ·rename_i a z hl;simp only[aG] at this;have e:=fB hd hl;simp only[Nd.ev,Ar.ev] at e;rw[aF this.1,fF this.2] at e;obtain ⟨q,hq⟩:=aZ (hb 0 hj).1;have bq:q<2^IntKind.u8.bits:=by have:=(hb 0 hj).2;rw[hq] at this;simp only[IntKind.bits];omega
   have e:N.i (x+0)=iop .or .u8 0 (N.i (y+0)):=e;rw[hq,show (0:Int)=((0:Nat):Int) from rfl,iop_or rfl (by decide) bq,Nat.zero_or] at e;rw[e,←hq];refine ⟨hb 0 hj,fun h0 i hi=> ?_,fun h0=>h0 0 (aS _)⟩;obtain rfl:i=0:=by omega
   exact h0
  ·cases this
 | succ j ih =>
  intro hj;obtain ⟨i1,i2⟩:=ih (by omega);have:=bT.1 h (j+1) (cE.2 hj);split at this
  ·rename_i a z hl;simp only[aG] at this;have e:=fB hd hl;simp only[Nd.ev,Ar.ev] at e;rw[aF this.1,fF this.2] at e;have e:N.i (x+(j+1))=iop .or .u8 (N.i (x+j)) (N.i (y+(j+1))):=e;obtain ⟨p,hp⟩:=aZ i1.1;obtain ⟨q,hq⟩:=aZ (hb (j+1) hj).1;have bp:p<2^IntKind.u8.bits:=by have:=i1.2;rw[hp] at this;simp only[IntKind.bits];omega
   have bq:q<2^IntKind.u8.bits:=by have:=(hb (j+1) hj).2;rw[hq] at this;simp only[IntKind.bits];omega
   have hlt:=Nat.or_lt_two_pow bp bq;have h8:2^IntKind.u8.bits=256:=rfl;rw[h8] at hlt;rw[hp,hq,iop_or rfl bp bq] at e;rw[e];refine ⟨by omega,?_⟩;have hz:((p|||q:Nat):Int)=0↔p=0∧q=0:=by rw[←Nat.or_eq_zero_iff];omega
   rw[hz];have hp0:p=0↔N.i (x+j)=0:=by rw[hp];omega
   rw[hp0,i2];refine ⟨fun ⟨a1,a2⟩ i hi=> ?_,fun k=>⟨fun i hi=>k i (by omega),?_⟩⟩
   ·by_cases hi':i≤j;·exact a1 i hi'
    ·obtain rfl:i=j+1:=by omega
     rw[hq];omega
   ·have:=k (j+1) (aS _);rw[hq] at this;omega
  ·cases this
theorem bytesL_bytes {l:List Int}:Bytes (bytesL l)∧(bytesL l).length=32:=by
 refine ⟨fun d hd=> ?_,by rw[bytesL,bF,cV]⟩;obtain ⟨j,_,rfl⟩:=dC.1 hd;rw[IntKind.wrap_u8];omega
theorem xfn_bytes (s u:List Int):Bytes (xfn s u)∧(xfn s u).length=32:=by
 unfold xfn;show Bytes (if _ then _ else _:List Int)∧(if _ then _ else _:List Int).length=32
 split <;> exact bytesL_bytes
def e59B (ds:List Df)(os:List Ob)(t:Bool):Bool:=litV ds 0 (vs 0 5)&&(litV ds 2 (vs 5 32)&&(litV ds 3 (vs 37 32)&&(rdB ds 69 4 0 32&&(orB ds 101 69 32 &&
 ((match lkA ds 4 with | some (.fn 64 [] [0,1,2,3])=>true | _=>false)&&((match lkA ds 1 with | some (.lit l)=>Nat.beq l.length 32 | _=>false)&&((match lkN ds 133 with | some (.cmp .eql (.var 132) (.kst 0))=>true | _=>false)&&eL eOb os [.boo 133 t,.prd 64 [] [0,1,2,3]])))))))
theorem E59n_b:e59B (dE E59n) (oE E59n) false=true:=by kernel_rfl
theorem E59z_b:e59B (dE E59z) (oE E59z) true=true:=by kernel_rfl
theorem law59 {F:Fns}(hF:F59 F){N:Num}{ds:List Df}{os:List Ob}{t:Bool}{g s u:List Int}(hf:N.f=F)(hd:∀d∈ds,d.sat N)(h:e59B ds os t=true)(hg:rowI N 0 5=g)(hs:rowI N 5 32=s)(hu:rowI N 37 32=u)(g1:g=[1,0,0,0,0])(bs:Bytes s)(bu:Bytes u)(hz:xfn s u=z32↔t=true) :
 (∀ o∈os,o.holds N)∧rowI N 69 32=xfn s u:=by
 simp only[e59B,aG] at h;obtain ⟨h0,h2,h3,h4,h5,h6,h7,h8,h9⟩:=h;have a0:N.a 0=g:=by rw[gZ hd h0,gD,hg]
 have a2:N.a 2=s:=by rw[gZ hd h2,gD,hs]
 have a3:N.a 3=u:=by rw[gZ hd h3,gD,hu]
 have a4:N.a 4=xfn s u:=by
  split at h6
  ·rename_i hl;rw[fR hd hl];simp only[Ad.ev,aI,aK];rw[a0,a2,a3,hf,hF.a64];rfl
  ·cases h6
 obtain ⟨xb,xl⟩:=xfn_bytes s u;have r69:rowI N 69 32=xfn s u:=fP xl fun j hj=>by rw[rd_ok hd h4 hj,a4,bM]
 have at69:∀j,j<32→N.i (69+j)=(xfn s u).getD j 0:=fun j hj=>by rw[←r69,fZ hj]
 have byt:∀j,j<32→0≤N.i (69+j)∧N.i (69+j)<256:=fun j hj=>xb _ (by rw[←r69];exact dI (rowI_get hj))
 obtain ⟨-,q2⟩:=or_ok hd h5 byt 31 (by decide);have i133:N.i 133=bif N.i 132==0 then 1 else 0:=by
  split at h8;·rename_i hl;rw[fB hd hl];rfl
  ·cases h8
 have q2:N.i 132=0↔∀i,i≤31→N.i (69+i)=0:=q2;have key:N.i 132=0↔xfn s u=z32:=by
  rw[q2];refine ⟨fun k=> ?_,fun k i hi=> ?_⟩;·rw [←r69];exact fP (by rfl) fun j hj=>by rw[k j (by omega),z32,aE,List.getElem?_replicate_of_lt hj];rfl
  ·rw [at69 i (by omega),k,z32,aE,List.getElem?_replicate_of_lt (by omega)];rfl
 refine ⟨?_,r69⟩;rw[eL_eq (fun _ _=>eOb_eq) h9];simp only[aC,Ob.holds,aK,aI];refine ⟨?_,?_,nofun⟩
 ·rw [i133];cases t with
  | true=>rw[key.2 (hz.2 rfl)];rfl
  | false =>
   have:N.i 132≠0:=fun e=>by have:=hz.1 (key.1 e);cases this
   rw[show (N.i 132==0)=false by rw[beq_eq_false_iff_ne];exact this];rfl
 ·rw [hf,hF.p64,a0,a2,a3];split at h7;·exact ⟨g1,bs,bu⟩
  ·cases h7
theorem shape59 {c:Ct}(hc:c.ps=ct59n.ps){is:List Int}{ls:List (List Int)}(h:Shape c.ps is ls):∃g s u,is=[]∧ls=[g,s,u]∧g.length=5∧s.length=32∧u.length=32:=by
 rw[hc] at h;obtain rfl:=eV rfl h
 match ls,h with
 | [g,s,u],h=>exact ⟨g,s,u,rfl,rfl,h.1,h.2.1,h.2.2.1⟩
theorem in59 {F:Fns}{N:Num}{g s u:List Int}(hag:Agr (stOf ct59n).nx (stOf ct59n).na (num0 F ct59n.ps [] [g,s,u]) N)(gl:g.length=5)(sl:s.length=32)(ul:u.length=32):rowI N 0 5=g∧rowI N 5 32=s∧rowI N 37 32=u:=by
 have e:∀x,x<69→N.i x=(g++(s++u)).getD x 0:=fun x hx=>by rw[hag.i x hx];show (numsL ct59n.ps [] [g,s,u]).getD x 0=_;simp only[ct59n,fe,numsL,bJ]
 refine ⟨row_in (L:=g++(s++u)) (by rw[bW,dO gl]) gl fun j hj=>e _ (by omega),row_in (L:=g++(s++u)) (by rw[List.drop_left' gl,dO sl]) sl fun j hj=>e _ (by omega),
  row_in (L:=g++(s++u)) (by rw[←List.append_assoc,List.drop_left' (by rw[aO,gl,sl]),←ul,cS]) ul fun j hj=>e _ (by omega)⟩
theorem shape49 {is:List Int}{ls:List (List Int)}(h:Shape ct49n.ps is ls):∃g d s u,is=[]∧ls=[g,d,s,u]∧g.length=5∧d.length=32∧s.length=32∧u.length=32:=by
 obtain rfl:=eV rfl h
 match ls,h with
 | [g,d,s,u],h=>exact ⟨g,d,s,u,rfl,rfl,h.1,h.2.1,h.2.2.1,h.2.2.2.1⟩
theorem in49 {F:Fns}{N:Num}{g d s u:List Int}(hag:Agr (stOf ct49n).nx (stOf ct49n).na (num0 F ct49n.ps [] [g,d,s,u]) N)(gl:g.length=5)(dl:d.length=32)(sl:s.length=32)(ul:u.length=32):rowI N 0 5=g∧rowI N 37 32=s∧rowI N 69 32=u:=by
 have e:∀x,x<101→N.i x=(g++(d++(s++u))).getD x 0:=fun x hx=>by rw[hag.i x hx];show (numsL ct49n.ps [] [g,d,s,u]).getD x 0=_;simp only[ct49n,fe,numsL,bJ]
 have gd:(g++d).length=37:=by rw[aO,gl,dl]
 refine ⟨row_in (L:=g++(d++(s++u))) (by rw[bW,dO gl]) gl fun j hj=>e _ (by omega),row_in (L:=g++(d++(s++u))) (by rw[←List.append_assoc,List.drop_left' gd,dO sl]) sl fun j hj=>e _ (by omega),
  row_in (L:=g++(d++(s++u))) (by rw[←List.append_assoc,←List.append_assoc,List.drop_left' (by rw[aO,gd,sl]),←ul,cS]) ul fun j hj=>e _ (by omega)⟩
section
variable {F:Fns}
theorem tab59_ok (hF:F59 F):TabOk F tab59:=⟨⟨by kernel_rfl,fun c hc=>by simp only[aX] at hc;subst hc;exact spec64 hF.toF64⟩,trivial⟩
theorem spec59n (hF:F59 F):CSpec Tryz.prog F 59 ct59n:=by
 refine fG (eU (tab59_ok hF)) Tryz.func59 (by kernel_rfl) (by kernel_rfl) (by kernel_rfl) E59n_s (by kernel_rfl) fun is ls N hs hp hag hf hd=> ?_
 obtain ⟨g,s,u,rfl,rfl,gl,sl,ul⟩:=shape59 rfl hs;obtain ⟨g1,bs,bu,hz⟩:P59 Not [] [g,s,u]:=by rw[←hF.p590];exact hp
 obtain ⟨r1,r2,r3⟩:=in59 hag gl sl ul;obtain ⟨k1,k2⟩:=law59 hF hf hd E59n_b r1 r2 r3 g1 bs bu ⟨fun h=>(hz h).elim,fun h=>by cases h⟩;exact ⟨k1,⟨zip_map (by rw[gD,k2]) fun j=>by show F.i 590 _ _ j=_;rw[hF.i590];rfl,trivial,trivial⟩,nofun⟩
theorem spec59z (hF:F59 F):CSpec Tryz.prog F 59 ct59z:=by
 refine fG (eU (tab59_ok hF)) Tryz.func59 (by kernel_rfl) (by kernel_rfl) (by kernel_rfl) E59z_s (by kernel_rfl) fun is ls N hs hp hag hf hd=> ?_
 obtain ⟨g,s,u,rfl,rfl,gl,sl,ul⟩:=shape59 rfl hs;obtain ⟨g1,bs,bu,hz⟩:P59 id [] [g,s,u]:=by rw[←hF.p591];exact hp
 obtain ⟨r1,r2,r3⟩:=in59 hag gl sl ul;obtain ⟨k1,k2⟩:=law59 hF hf hd E59z_b r1 r2 r3 g1 bs bu ⟨fun _=>rfl,fun _=>hz⟩;exact ⟨k1,⟨zip_map (show (zs 32).map (·.ev N)=z32 from rfl) fun j=>by show F.i 590 _ _ j=_;rw[hF.i590,←show xfn s u=z32 from hz];rfl,trivial,trivial⟩,nofun⟩
theorem len49 (hF:F59 F){g d s u:List Int}(dl:d.length=32):∀L,rwArg ct49n.ps [] [g,d,s,u]=some L→(F.a 490 [] [g,d,s,u]).length=L.length:=fun L hL=>by
 have hL:some d=some L:=hL;simp only[aA] at hL;subst hL;rw[hF.a490,dl];exact (xfn_bytes s u).2
theorem spec49n (hF:F59 F):CSpec Tryz.prog F 49 ct49n:=by
 refine fG (eU (tab:=tab49n) ⟨⟨by kernel_rfl,fun c hc=>by simp only[aX] at hc;subst hc;exact spec59n hF⟩,trivial⟩) Tryz.func49 (by kernel_rfl) (by kernel_rfl) (by kernel_rfl) E49n_s (by kernel_rfl) fun is ls N hs hp hag hf hd=> ?_
 obtain ⟨g,d,s,u,rfl,rfl,gl,dl,sl,ul⟩:=shape49 hs;have hp:P49 Not [] [g,d,s,u]:=by rw[←hF.p490];exact hp
 obtain ⟨r1,r2,r3⟩:=in49 hag gl dl sl ul;have a0:N.a 0=g:=by rw[gZ hd (A:=0) (l:=vs 0 5) (by kernel_rfl),gD,r1]
 have a1:N.a 1=s:=by rw[gZ hd (A:=1) (l:=vs 37 32) (by kernel_rfl),gD,r2]
 have a2:N.a 2=u:=by rw[gZ hd (A:=2) (l:=vs 69 32) (by kernel_rfl),gD,r3]
 have hfm:=fam_f hd (x:=101) (f:=590) (bs:=[0,1,2]) (n:=32) (by kernel_rfl);simp only[aI,aK,a0,a1,a2] at hfm;rw[hf,hF.i590] at hfm;refine ⟨?_,⟨nofun,?_,trivial⟩,len49 hF dl⟩
 ·rw [show oE E49n=[.prd 590 [] [0,1,2]] by kernel_rfl];simp only[aC,Ob.holds,aK,aI];rw[a0,a1,a2,hf,hF.p590];exact ⟨hp,nofun⟩
 ·show (vs 101 32).map _=F.a 490 _ _;rw[gD,hF.a490];exact fP (xfn_bytes s u).2 hfm
theorem spec49z (hF:F59 F):CSpec Tryz.prog F 49 ct49z:=by
 refine fG (eU (tab:=tab49z) ⟨⟨by kernel_rfl,fun c hc=>by simp only[aX] at hc;subst hc;exact spec59z hF⟩,trivial⟩) Tryz.func49 (by kernel_rfl) (by kernel_rfl) (by kernel_rfl) E49z_s (by kernel_rfl) fun is ls N hs hp hag hf hd=> ?_
 obtain ⟨g,d,s,u,rfl,rfl,gl,dl,sl,ul⟩:=shape49 hs;have hp:P49 id [] [g,d,s,u]:=by rw[←hF.p491];exact hp
 obtain ⟨r1,r2,r3⟩:=in49 hag gl dl sl ul;have a0:N.a 0=g:=by rw[gZ hd (A:=0) (l:=vs 0 5) (by kernel_rfl),gD,r1]
 have a1:N.a 1=s:=by rw[gZ hd (A:=1) (l:=vs 37 32) (by kernel_rfl),gD,r2]
 have a2:N.a 2=u:=by rw[gZ hd (A:=2) (l:=vs 69 32) (by kernel_rfl),gD,r3]
 refine ⟨?_,⟨nofun,?_,trivial⟩,len49 hF dl⟩
 ·rw [show oE E49z=[.prd 591 [] [0,1,2]] by kernel_rfl];simp only[aC,Ob.holds,aK,aI];rw[a0,a1,a2,hf,hF.p591];exact ⟨hp,nofun⟩
 ·show (zs 32).map _=F.a 490 _ _;rw[hF.a490];exact hp.2.2.2.symm
theorem spec49 (hF:F59 F):CSpec Tryz.prog F 49 ct49c:=by
 intro us is ls w0 w hA hW hG hp;have hsh:Shape ct49n.ps is ls:=hA.shape;obtain ⟨g,d,s,u,rfl,rfl,-⟩:=shape49 hsh;have hp:P49 (fun _=>True) [] [g,d,s,u]:=by rw[←hF.p492];exact hp
 by_cases hz:xfn s u=z32;·exact spec49z hF us [] _ w0 w hA hW hG (by show F.p 491 _ _;rw[hF.p491];exact ⟨hp.1,hp.2.1,hp.2.2.1,hz⟩)
 ·exact spec49n hF us [] _ w0 w hA hW hG (by show F.p 490 _ _;rw[hF.p490];exact ⟨hp.1,hp.2.1,hp.2.2.1,hz⟩)
end
end Go.Proofs.YtnfikgagkamioaaGreatDoor
namespace Go.Proofs.YtnfikgagkamioaaGreatDoor.S
open Go.Sy
def ct53:Ct:={ps:=[.int .u64,.int .u64],res:=[.agg .u64 2],p:=53,fi:=53,fw:=0,fs:=0}
def ct49:Ct:={ps:=[.ptr .u64 7 true,.sl .u8 false none],res:=[],p:=49,fi:=0,fw:=49,fs:=0}
def ct48:Ct:={ps:=[.agg .u8 0,.sl .u8 false (some 8)],res:=[.int .u64],p:=48,fi:=48,fw:=0,fs:=0}
def ct54:Ct:={ps:=[.agg .u64 2,.agg .u64 2],res:=[.agg .u64 2],p:=54,fi:=54,fw:=0,fs:=0}
def ct55:Ct:={ps:=[.agg .u64 2],res:=[.agg .u64 2],p:=55,fi:=55,fw:=0,fs:=0}
def tab49:List (FuncId×List Ct):=[(95,[ct48]),(111,[ct53]),(112,[ct54]),(113,[ct55])]
def ct34:Ct:={ps:=[.ptr .u8 16 true,.sl .u8 false none,.ptr .u8 32 false],res:=[],p:=34,fi:=0,fw:=34,fs:=0}
def ct34e:Ct:={ps:=[.ptr .u8 16 true,.emp,.ptr .u8 32 false],res:=[],p:=34,fi:=0,fw:=34,fs:=0}
def ct44:Ct:={ps:=[.ptr .u8 32 false,.ptr .u64 7 true],res:=[],p:=44,fi:=0,fw:=44,fs:=0}
def ct50:Ct:={ps:=[.ptr .u8 16 true,.ptr .u64 3 false,.ptr .u64 2 false],res:=[],p:=50,fi:=0,fw:=50,fs:=0}
def tab44:List (FuncId×List Ct):=[(95,[ct48])]
def tab34:List (FuncId×List Ct):=[(83,[ct44]),(96,[ct49]),(97,[ct50])]
def ct38:Ct:={ps:=[.ptr .u8 64 true,.ptr .u8 16 false,.ptr .u8 32 false,.ptr .u8 16 false],res:=[],p:=380,fi:=0,fw:=38,fs:=0}
def ct31:Ct:={ps:=[.ptr .u8 32 true,.ptr .u8 16 false,.ptr .u8 32 false,.ptr .u8 16 false],res:=[],p:=31,fi:=0,fw:=31,fs:=0}
def ct28:Ct:={ps:=[.agg .u8 64,.kst (.int .i64 10)],res:=[.agg .u8 64],p:=28,fi:=28,fw:=0,fs:=0}
def sigmaV:Value:= .string ⟨#[101,120,112,97,110,100,32,51,50,45,98,121,116,101,32,107]⟩
def ct25:Ct:={ps:=[.agg .u8 32,.agg .u8 16,.kst sigmaV],res:=[.agg .u8 64],p:=25,fi:=25,fw:=0,fs:=0}
def ct16:Ct:={ps:=[.agg .u8 16,.agg .u8 32,.kst sigmaV],res:=[.agg .u8 32],p:=16,fi:=16,fw:=0,fs:=0}
def ct29:Ct:={ps:=[.agg .u8 16,.int .i64],res:=[.agg .u8 16],p:=29,fi:=290,fw:=0,fs:=0}
def tab16:List (FuncId×List Ct):=[(20,[ct25])]
def ct17:Ct:={ps:=[.sl .u8 false none,.agg .u8 16,.agg .u8 32],res:=[.sl .u8 none],p:=17,fi:=0,fw:=0,fs:=17}
def tab17:List (FuncId×List Ct):=[(20,[ct25]),(46,[ct28]),(47,[ct29])]
def ct33:Ct:={ps:=[.sl .u8 true none,.sl .u8 false none,.ptr .u8 16 false,.ptr .u8 32 false],res:=[],p:=33,fi:=0,fw:=33,fs:=0}
def tab33:List (FuncId×List Ct):=[(67,[ct38])]
def ct18n (n:Nat):Ct:={ps:=[.sl .u8 false (some n)],res:=[.agg .u64 9],p:=18,fi:=18,fw:=0,fs:=0}
def ct18:Ct:={ps:=[.sl .u8 false none],res:=[.agg .u64 9],p:=18,fi:=18,fw:=0,fs:=0}
def ct19:Ct:={ps:=[.agg .u64 9],res:=[.agg .u64 9],p:=19,fi:=19,fw:=0,fs:=0}
def ct20:Ct:={ps:=[.agg .u64 18],res:=[.agg .u64 9],p:=20,fi:=20,fw:=0,fs:=0}
def tab20:List (FuncId×List Ct):=[(33,[ct19])]
def ct11:Ct:={ps:=[.sl .u8 false (some 32),.sl .u8 false none],res:=[.sl .u8 (some 16)],p:=11,fi:=0,fw:=0,fs:=11}
def ct11e:Ct:={ps:=[.sl .u8 false (some 32),.emp],res:=[.sl .u8 (some 16)],p:=11,fi:=0,fw:=0,fs:=11}
def tab11:List (FuncId×List Ct):=[(32,[ct18]),(33,[ct19]),(34,[ct20])]
end Go.Proofs.YtnfikgagkamioaaGreatDoor.S
namespace Go.Sy
def decA (c:Nat):Ar:=bif Nat.beq (c%2) 0 then .var (c/2) else .kst (c/2)
def decK:Nat→IntKind
 | 0=> .u8
 | 1=> .u32
 | 2=> .u64
 | _=> .i64
def decO:Nat→BinOp
 | 0=> .add
 | 1=> .or
 | 2=> .xor
 | 3=> .shl
 | 4=> .shr
 | 5=> .mul
 | _=> .and
def decN (c:Nat):Nd :=
 bif Nat.beq (c%2) 0 then .conv (decK (c/2%4)) (decA (c/8))
 else .bin (decO (c/2%8)) (decK (c/16%4)) (decA (c/64%16384)) (decA (c/1048576))
def perL (k:Nat)(b d:List Nat):List Nat:=(List.range k).flatMap fun r=>List.zipWith (fun x y=>x+r*bif Nat.beq y 0 then 10240 else 167782400) b d
def decL:Nat→List Nat→List Df→List Df
 | _,[],acc=>acc
 | x,c::l,acc=>decL (x+1) l (.n x (decN c)::acc)
def cA:Ar→Nat
 | .var x=>2*x
 | .kst (.ofNat n)=>2*n+1
 | .kst (.negSucc n)=>2*n+1
def cK:IntKind→Nat
 | .u8=>0
 | .u32=>1
 | .u64=>2
 | _=>3
def cO:BinOp→Nat
 | .add=>0
 | .or=>1
 | .xor=>2
 | .shl=>3
 | .shr=>4
 | .mul=>5
 | _=>6
def cN:Nd→Nat
 | .bin op k a b=>1+2*(cO op+8*(cK k+4*(cA a+16384*cA b)))
 | .conv k a=>2*(cK k+4*cA a)
 | _=>0
def commB:BinOp→Bool
 | .add | .or | .xor | .and | .mul=>true
 | _=>false
def isZero:Ar→Bool
 | .kst (.ofNat 0)=>true
 | _=>false
def idNd:Nd→Option Ar
 | .bin .shr _ a b=>bif isZero b then some a else none
 | _=>none
def sortNd:Nd→Nd
 | .bin op k a b=>bif commB op&& !(Nat.ble (cA a) (cA b)) then .bin op k b a else .bin op k a b
 | nd=>nd
def repA (rep:Tr Ar):Ar→Option Ar
 | .var x=>rep.get x
 | .kst n=>some (.kst n)
def repN (rep:Tr Ar):Nd→Option Nd
 | .bin op k a b=>match repA rep a,repA rep b with
  | some a,some b=>some (.bin op k a b)
  | _,_=>none
 | .conv k a=>match repA rep a with
  | some a=>some (.conv k a)
  | none=>none
 | _=>none
structure Cz where
 rep:Tr Ar
 tab:Tr (Nat×Nd)
def czStep (make:Bool)(x:Nat)(nd:Nd)(z:Cz):Option Cz :=
 match repN z.rep nd with
 | none=>none
 | some nd=>match idNd nd with
  | some a=>some {z with rep:=z.rep.set x a}
  | none=>match z.tab.get (cN (sortNd nd)) with
   | some (y,nd')=>bif eNd nd' (sortNd nd) then some {z with rep:=z.rep.set x (.var y)} else none
   | none=>bif make then some {rep:=z.rep.set x (.var x),tab:=z.tab.set (cN (sortNd nd)) (x,sortNd nd)} else none
def czAll (make:Bool):List Df→Cz→Option Cz
 | [],z=>some z
 | .n x nd::ds,z=>match z.rep.get x with
  | some _=>czAll make ds z
  | none=>match czStep make x nd z with
   | some z=>czAll make ds z
   | none=>none
 | .a _ _::ds,z=>czAll make ds z
def idTr:Nat→Nat→Tr Ar→Tr Ar
 | _,0,t=>t
 | x,n+1,t=>idTr (x+1) n (t.set x (.var x))
def setL:List (Nat×Ar)→Tr Ar→Tr Ar
 | [],t=>t
 | (x,a)::l,t=>setL l (t.set x a)
def sameL (r1 r2:Tr Ar):List Ar→List Ar→Bool
 | [],[]=>true
 | a::l,b::m=>(match repA r1 a,repA r2 b with | some a,some b=>eAr a b | _,_=>false)&&sameL r1 r2 l m
 | _,_=>false
def czCheck (n2:Nat)(ds1 ds2:List Df)(ins:List (Nat×Ar))(o1 o2:List Ar):Bool :=
 match czAll true ds2.reverse ⟨idTr 0 n2 .nil,.nil⟩ with
 | none=>false
 | some z=>match czAll false ds1.reverse ⟨setL ins .nil,z.tab⟩ with
  | some z1=>sameL z1.rep z.rep o1 o2
  | none=>false
section
variable {N N1 N2:Num}
theorem repA_ev {rep:Tr Ar}(h:∀x a,rep.get x=some a→N.i x=a.ev N2):∀ {a b:Ar},repA rep a=some b→a.ev N=b.ev N2
 | .var x,b,e=>h x b e
 | .kst n,b,e=>by simp only[repA,aA] at e;subst e;rfl
theorem repN_ev {rep:Tr Ar}(h:∀x a,rep.get x=some a→N.i x=a.ev N2){nd nd':Nd}(e:repN rep nd=some nd'):nd.ev N=nd'.ev N2:=by
 unfold repN at e;split at e
 ·split at e
  ·rename_i h1 h2;simp only[aA] at e;subst e;simp only[Nd.ev,repA_ev h h1,repA_ev h h2]
  ·cases e
 ·split at e
  ·rename_i h1;simp only[aA] at e;subst e;simp only[Nd.ev,repA_ev h h1]
  ·cases e
 ·cases e
theorem iop_comm {op:BinOp}(h:commB op=true)(k:IntKind)(x y:Int):iop op k x y=iop op k y x:=by
 cases op <;> simp only[commB,bV] at h <;> simp only[iop];·rw [Int.add_comm]
 ·rw [dT]
 ·rw [BitVec.and_comm]
 ·rw [BitVec.or_comm]
 ·rw [BitVec.xor_comm]
theorem sortNd_ev {nd:Nd}:(sortNd nd).ev N=nd.ev N:=by
 unfold sortNd
 split
 ·rename_i op k a b;cases hc:(commB op&& !(Nat.ble (cA a) (cA b))) with
  | false=>rfl
  | true =>simp only[aG] at hc;simp only[aH,Nd.ev];exact iop_comm hc.1 _ _ _
 ·rfl
theorem idNd_ev {nd:Nd}{a:Ar}(h:idNd nd=some a):nd.ev N=a.ev N:=by
 unfold idNd at h;split at h
 ·rename_i k a' b;cases hz:isZero b with
  | false=>rw[hz] at h;cases h
  | true =>
   rw[hz] at h;simp only[aH,aA] at h;subst h;unfold isZero at hz;split at hz
   ·simp only[Nd.ev,iop,Ar.ev];simp
   ·cases hz
 ·cases h
structure CzOk (N N2:Num) (z:Cz):Prop where
 rep:∀x a,z.rep.get x=some a→N.i x=a.ev N2
 tab:∀k y nd,z.tab.get k=some (y,nd)→N2.i y=nd.ev N2
theorem czStep_ok {make:Bool}{x:Nat}{nd:Nd}{z z':Cz}(h:czStep make x nd z=some z')(hz:CzOk N N2 z)(hx:N.i x=nd.ev N)(hm:make=true→N=N2):CzOk N N2 z':=by
 unfold czStep at h;split at h;·cases h
 ·rename_i nd' hr;have e1:=repN_ev hz.rep hr;split at h
  ·rename_i a ha;simp only[aA] at h;subst h;refine ⟨fun y b hb=> ?_,hz.tab⟩;simp only at hb;rw[fA] at hb;by_cases hy:y=x
   ·rw [bG hy] at hb;simp only[aA] at hb;subst hb;rw[hy,hx,e1,idNd_ev ha]
   ·rw [bC hy] at hb;exact hz.rep y b hb
  ·split at h
   ·rename_i y nd2 ht;cases he:eNd nd2 (sortNd nd') with
    | false=>rw[he] at h;cases h
    | true =>
     rw[he] at h;simp only[aH,aA] at h;subst h;refine ⟨fun y' b hb=> ?_,hz.tab⟩;simp only at hb;rw[fA] at hb;by_cases hy:y'=x
     ·rw [bG hy] at hb;simp only[aA] at hb;subst hb;have:=hz.tab _ _ _ ht;rw[eNd_eq he,sortNd_ev] at this;rw[hy,hx,e1];exact this.symm
     ·rw [bC hy] at hb;exact hz.rep y' b hb
   ·cases make with
    | false=>cases h
    | true =>
     have:=hm rfl;subst this;simp only[aH,aA] at h;subst h;refine ⟨fun y' b hb=> ?_,fun k y nd3 hk=> ?_⟩
     ·simp only at hb;rw[fA] at hb;by_cases hy:y'=x
      ·rw [bG hy] at hb;simp only[aA] at hb;subst hb;rw[hy];rfl
      ·rw [bC hy] at hb;exact hz.rep y' b hb
     ·simp only at hk;rw[fA] at hk;by_cases hy:k=cN (sortNd nd')
      ·rw [bG hy] at hk;simp only[aA,aD] at hk;obtain ⟨rfl,rfl⟩:=hk;rw[sortNd_ev,hx,e1]
      ·rw [bC hy] at hk;exact hz.tab k y nd3 hk
theorem czAll_ok {make:Bool}:∀ {ds:List Df} {z z':Cz},czAll make ds z=some z'→CzOk N N2 z→(∀ d∈ds,d.sat N)→(make=true→N=N2)→CzOk N N2 z'
 | [],z,z',h,hz,_,_=>by simp only[czAll,aA] at h;rw[←h];exact hz
 | .n x nd::ds,z,z',h,hz,hs,hm=>by
  simp only[czAll] at h;split at h;·exact czAll_ok h hz (fun d hd=>hs d (aJ _ hd)) hm
  ·split at h
   ·rename_i z1 h1;exact czAll_ok h (czStep_ok h1 hz (hs (.n x nd) aN) hm) (fun d hd=>hs d (aJ _ hd)) hm
   ·cases h
 | .a _ _::ds,z,z',h,hz,hs,hm=>by simp only[czAll] at h;exact czAll_ok h hz (fun d hd=>hs d (aJ _ hd)) hm
theorem idTr_get:∀ {n x:Nat} {t:Tr Ar} {y:Nat} {a:Ar},(∀ y a,t.get y=some a→a= .var y)→(idTr x n t).get y=some a→a= .var y
 | 0,x,t,y,a,h,e=>h y a e
 | n+1,x,t,y,a,h,e=>by
  refine idTr_get (n:=n) (x:=x+1) (fun y' a' e'=> ?_) e;rw[fA] at e';by_cases hy:y'=x;·rw [bG hy] at e';simp only[aA] at e';rw[←e',hy]
  ·rw [bC hy] at e';exact h y' a' e'
theorem setL_get:∀ {l:List (Nat×Ar)} {t:Tr Ar},(∀ p∈l,N1.i p.1=p.2.ev N2)→(∀ x a,t.get x=some a→N1.i x=a.ev N2)→∀x a,(setL l t).get x=some a→N1.i x=a.ev N2
 | [],t,_,h,x,a,e=>h x a e
 | (y,b)::l,t,hl,h,x,a,e=>by
  refine setL_get (l:=l) (fun p hp=>hl p (aJ _ hp)) (fun x' a' e'=> ?_) x a e;rw[fA] at e';by_cases hy:x'=y
  ·rw [bG hy] at e';simp only[aA] at e';rw[←e',hy];exact hl (y,b) aN
  ·rw [bC hy] at e';exact h x' a' e'
theorem sameL_ev {r1 r2:Tr Ar}(h1:∀x a,r1.get x=some a→N1.i x=a.ev N2)(h2:∀x a,r2.get x=some a→N2.i x=a.ev N2):∀ {o1 o2:List Ar},sameL r1 r2 o1 o2=true→o1.map (·.ev N1)=o2.map (·.ev N2)
 | [],[],_=>rfl
 | a::l,b::m,h=>by
  simp only[sameL,aG] at h;obtain ⟨hx,hr⟩:=h;split at hx
  ·rename_i a' b' ha hb;simp only[aI];rw[repA_ev h1 ha,repA_ev h2 hb,fF hx,sameL_ev h1 h2 hr]
  ·cases hx
 | [],_::_,h=>by cases h
 | _::_,[],h=>by cases h
theorem czCheck_ok {n2:Nat}{ds1 ds2:List Df}{ins:List (Nat×Ar)}{o1 o2:List Ar}(h:czCheck n2 ds1 ds2 ins o1 o2=true)(hin:∀p∈ins,N1.i p.1=p.2.ev N2)(h1:∀d∈ds1,d.sat N1)(h2:∀d∈ds2,d.sat N2) :
 o1.map (·.ev N1)=o2.map (·.ev N2):=by
 unfold czCheck at h;split at h;·cases h
 ·rename_i z hz;have k2:CzOk N2 N2 z:=czAll_ok hz ⟨fun x a e=>by
   have:=idTr_get (n:=n2) (x:=0) (t:= .nil) (fun y a e=>by cases e) e;subst this;rfl,fun k y nd e=>by cases e⟩ (fun d hd=>h2 d (eP.1 hd)) (fun _=>rfl)
  split at h
  ·rename_i z1 hz1;have k1:CzOk N1 N2 z1:=czAll_ok hz1 ⟨setL_get hin (fun x a e=>by cases e),k2.tab⟩ (fun d hd=>h1 d (eP.1 hd)) (fun e=>by cases e);exact sameL_ev k1.rep k2.rep h
  ·cases h
end
end Go.Sy
namespace Go.Proofs.YtnfikgagkamioaaGreatDoor.S
open Go.Sy
def ds38:List Df:=decL 128 ([1794,1810,17842327,272646163,1826,34619927,278938003,1842,51397527,285229843,1282,1298,17843607,293618963,1314,34621207,299910803,1330,51398807,306202643,1346,1362,17844887,314591763,1378,34622487,320883603,1394,51400087,327175443,1410,1426,17846167,335564563,1442,34623767,341856403,1458,51401367,348148243,1474,1490,17847447,356537363,1506,34625047,362829203,1522,51402647,369121043,1858,1874,17848727,377510163,1890,34626327,383802003,1906,51403927,390093843,1026,1042,17850007,398482963,1058,34627607,404774803,1074,51405207,411066643,1090,1106,17851287,419455763,1122,34628887,425747603,1138,51406487,432039443,1154,1170,17852567,440428563,1186,34630167,446720403,1202,51407767,453012243,1218,1234,17853847,461401363,1250,34631447,467693203,1266,51409047,473985043,1922,1938,17855127,482374163,1954,34632727,488666003,1970,51410327,494957843,1538,1554,17856407,503346963,1570,34634007,509638803,1586,51411607,515930643,1602,1618,17857687,524319763,1634,34635287,530611603,1650,51412887,536903443,1666,1682,17858967,545292563,1698,34636567,551584403,1714,51414167,557876243,1730,1746,17860247,566265363,1762,34637847,572557203,1778,51415447,578849043,1986,2002,17861527,587238163,2018,34639127,593530003,2034,51416727,599821843,538985617,15765527,53514265,608211091,610293909,287347217,19960471,49320601,618697491,620784789,612406417,28349719,40932633,629183891,631275669,622892817,38836119,30447513,639670291,641746069,308305297,15768087,53516825,650156691,652243349,392207377,19963031,49323161,660643091,662734229,654352017,28352279,40935193,671129491,673204629,664838417,38838679,30450073,681615891,683695509,413169297,15770647,53519385,692102291,694192789,497067537,19965591,49325721,702588691,704663189,696297617,28354839,40937753,713075091,715154069,706784017,38841239,30452633,723561491,725644949,518033297,15773207,53521945,734047891,736121749,601927697,19968151,49328281,744534291,746612629,738243217,28357399,40940313,755020691,757103509]++(perL 19 [748729617,38843799,30455193,765507091,767594389,738236817,15775767,53524505,775993491,778084629,643873297,19970711,49330841,786479891,788572309,780188817,28359959,40942873,796966291,799059989,790675217,38846359,30457753,807452691,809539989,612410257,15778327,53527065,817939091,820030229,685818897,19973271,49333401,828425491,830517909,822134417,28362519,40945433,838911891,840995349,832620817,38848919,30460313,849398291,851485589,654355857,15780887,53529625,859884691,861975829,727764497,19975831,49335961,870371091,872453269,864080017,28365079,40947993,880857491,882940949,874566417,38851479,30462873,891343891,893431189,696301457,15783447,53532185,901830291,903911189,769710097,19978391,49338521,912316691,914398869,906025617,28367639,40950553,922803091,924886549] [1,0,0,1,1,1,0,0,1,1,1,0,0,1,1,1,0,0,1,1,1,0,0,1,1,1,0,0,1,1,1,0,0,1,1,1,0,0,1,1,1,0,0,1,1,1,0,0,1,1,1,0,0,1,1,1,0,0,1,1,1,0,0,1,1,1,0,0,1,1,1,0,0,1,1,1,0,0,1,1]++[3936595217,39038359,30649753,3953372691,3955459989,287543697,308513297,329485457,350457617,371431697,392403857,413373457,434345617,455319697,476291857,497264017,518233617,539207697,560179857,581152017,602124177,30208,18067481,30480,34844697,30512,51621913,30544,30224,18067609,30592,34844825,30624,51622041,30656,30240,18067737,30704,34844953,30736,51622169,30768,30256,18067865,30816,34845081,30848,51622297,30880,30272,18067993,30928,34845209,30960,51622425,30992,30288,18068121,31040,34845337,31072,51622553,31104,30304,18068249,31152,34845465,31184,51622681,31216,30320,18068377,31264,34845593,31296,51622809,31328,30336,18068505,31376,34845721,31408,51622937,31440,30352,18068633,31488,34845849,31520,51623065,31552,30368,18068761,31600,34845977,31632,51623193,31664,30384,18068889,31712,34846105,31744,51623321,31776,30400,18069017,31824,34846233,31856,51623449,31888,30416,18069145,31936,34846361,31968,51623577,32000,30432,18069273,32048,34846489,32080,51623705,32112,30448,18069401,32160,34846617,32192,51623833,32224])) []
theorem run38:runE ct38 Tryz.f67 (callT []) []=some (⟨[],some (.inr [.var 1904,.var 1906,.var 1908,.var 1910,.var 1911,.var 1913,.var 1915,.var 1917,.var 1918,.var 1920,.var 1922,.var 1924,.var 1925,.var 1927,.var 1929,.var 1931,.var 1932,.var 1934,.var 1936,.var 1938,.var 1939,.var 1941,.var 1943,.var 1945,.var 1946,.var 1948,.var 1950,.var 1952,.var 1953,.var 1955,.var 1957,.var 1959,.var 1960,.var 1962,.var 1964,.var 1966,.var 1967,.var 1969,.var 1971,.var 1973,.var 1974,.var 1976,.var 1978,.var 1980,.var 1981,.var 1983,.var 1985,.var 1987,.var 1988,.var 1990,.var 1992,.var 1994,.var 1995,.var 1997,.var 1999,.var 2001,.var 2002,.var 2004,.var 2006,.var 2008,.var 2009,.var 2011,.var 2013,.var 2015]),none⟩,ds38,[]):=by kernel_rfl
def ds31:List Df:=decL 96 ([1282,1298,17838231,205533203,1314,34615831,211825043,1330,51393431,218116883,770,786,17839511,226506003,802,34617111,232797843,818,51394711,239089683,834,850,17840791,247478803,866,34618391,253770643,882,51395991,260062483,898,914,17842071,268451603,930,34619671,274743443,946,51397271,281035283,962,978,17843351,289424403,994,34620951,295716243,1010,51398551,302008083,1346,1362,17844631,310397203,1378,34622231,316689043,1394,51399831,322980883,514,530,17845911,331370003,546,34623511,337661843,562,51401111,343953683,578,594,17847191,352342803,610,34624791,358634643,626,51402391,364926483,642,658,17848471,373315603,674,34626071,379607443,690,51403671,385899283,706,722,17849751,394288403,738,34627351,400580243,754,51404951,406872083,1410,1426,17851031,415261203,1442,34628631,421553043,1458,51406231,427844883,1026,1042,17852311,436234003,1058,34629911,442525843,1074,51407511,448817683,1090,1106,17853591,457206803,1122,34631191,463498643,1138,51408791,469790483,1154,1170,17854871,478179603,1186,34632471,484471443,1202,51410071,490763283,1218,1234,17856151,499152403,1250,34633751,505444243,1266,51411351,511736083,1474,1490,17857431,520125203,1506,34635031,526417043,1522,51412631,532708883,471872657,15761431,53510169,541098131,543180949,220234257,19956375,49316505,551584531,553671829,545293457,28345623,40928537,562070931,564162709,555779857,38832023,30443417,572557331,574633109,241192337,15763991,53512729,583043731,585130389,325094417,19958935,49319065,593530131,595621269,587239057,28348183,40931097,604016531,606091669,597725457,38834583,30445977,614502931,616582549,346056337,15766551,53515289,624989331,627079829,429954577,19961495,49321625,635475731,637550229,629184657,28350743,40933657,645962131,648041109,639671057,38837143,30448537,656448531,658531989,450920337,15769111,53517849,666934931,669008789,534814737,19964055,49324185,677421331,679499669,671130257,28353303,40936217,687907731,689990549]++(perL 19 [681616657,38839703,30451097,698394131,700481429,671123857,15771671,53520409,708880531,710971669,576760337,19966615,49326745,719366931,721459349,713075857,28355863,40938777,729853331,731947029,723562257,38842263,30453657,740339731,742427029,545297297,15774231,53522969,750826131,752917269,618705937,19969175,49329305,761312531,763404949,755021457,28358423,40941337,771798931,773882389,765507857,38844823,30456217,782285331,784372629,587242897,15776791,53525529,792771731,794862869,660651537,19971735,49331865,803258131,805340309,796967057,28360983,40943897,813744531,815827989,807453457,38847383,30458777,824230931,826318229,629188497,15779351,53528089,834717331,836798229,702597137,19974295,49334425,845203731,847285909,838912657,28363543,40946457,855690131,857773589] [1,0,0,1,1,1,0,0,1,1,1,0,0,1,1,1,0,0,1,1,1,0,0,1,1,1,0,0,1,1,1,0,0,1,1,1,0,0,1,1,1,0,0,1,1,1,0,0,1,1,1,0,0,1,1,1,0,0,1,1,1,0,0,1,1,1,0,0,1,1,1,0,0,1,1,1,0,0,1,1]++[3869482257,39034263,30645657,3886259731,3888347029,28720,18055577,29712,34832793,29744,51610009,29776,29040,18058137,29824,34835353,29856,51612569,29888,29360,18060697,29936,34837913,29968,51615129,30000,29680,18063257,30048,34840473,30080,51617689,30112,28800,18056217,30160,34833433,30192,51610649,30224,28880,18056857,30272,34834073,30304,51611289,30336,29200,18059417,30384,34836633,30416,51613849,30448,29280,18060057,30496,34837273,30528,51614489,30560])) []
theorem run31:runE ct31 Tryz.f50 (callT []) []=some (⟨[],some (.inr [.var 1856,.var 1858,.var 1860,.var 1862,.var 1863,.var 1865,.var 1867,.var 1869,.var 1870,.var 1872,.var 1874,.var 1876,.var 1877,.var 1879,.var 1881,.var 1883,.var 1884,.var 1886,.var 1888,.var 1890,.var 1891,.var 1893,.var 1895,.var 1897,.var 1898,.var 1900,.var 1902,.var 1904,.var 1905,.var 1907,.var 1909,.var 1911]),none⟩,ds31,[]):=by kernel_rfl
def ds28:List Df:=decL 64 ([2,18,17834135,138420243,34,34611735,144712083,50,51389335,151003923,66,82,17835415,159393043,98,34613015,165684883,114,51390615,171976723,130,146,17836695,180365843,162,34614295,186657683,178,51391895,192949523,194,210,17837975,201338643,226,34615575,207630483,242,51393175,213922323,258,274,17839255,222311443,290,34616855,228603283,306,51394455,234895123,322,338,17840535,243284243,354,34618135,249576083,370,51395735,255867923,386,402,17841815,264257043,418,34619415,270548883,434,51397015,276840723,450,466,17843095,285229843,482,34620695,291521683,498,51398295,297813523,514,530,17844375,306202643,546,34621975,312494483,562,51399575,318786323,578,594,17845655,327175443,610,34623255,333467283,626,51400855,339759123,642,658,17846935,348148243,674,34624535,354440083,690,51402135,360731923,706,722,17848215,369121043,738,34625815,375412883,754,51403415,381704723,770,786,17849495,390093843,802,34627095,396385683,818,51404695,402677523,834,850,17850775,411066643,866,34628375,417358483,882,51405975,423650323,898,914,17852055,432039443,930,34629655,438331283,946,51407255,444623123,962,978,17853335,453012243,994,34630935,459304083,1010,51408535,465595923,404759697,15757335,53506073,473985171,476067989,153121297,19952279,49312409,484471571,486558869,478180497,28341527,40924441,494957971,497049749,488666897,38827927,30439321,505444371,507520149,174079377,15759895,53508633,515930771,518017429,257981457,19954839,49314969,526417171,528508309,520126097,28344087,40927001,536903571,538978709,530612497,38830487,30441881,547389971,549469589,278943377,15762455,53511193,557876371,559966869,362841617,19957399,49317529,568362771,570437269,562071697,28346647,40929561,578849171,580928149,572558097,38833047,30444441,589335571,591419029,383807377,15765015,53513753,599821971,601895829,467701777,19959959,49320089,610308371,612386709,604017297,28349207,40932121,620794771,622877589]++(perL 19 [614503697,38835607,30447001,631281171,633368469,604010897,15767575,53516313,641767571,643858709,509647377,19962519,49322649,652253971,654346389,645962897,28351767,40934681,662740371,664834069,656449297,38838167,30449561,673226771,675314069,478184337,15770135,53518873,683713171,685804309,551592977,19965079,49325209,694199571,696291989,687908497,28354327,40937241,704685971,706769429,698394897,38840727,30452121,715172371,717259669,520129937,15772695,53521433,725658771,727749909,593538577,19967639,49327769,736145171,738227349,729854097,28356887,40939801,746631571,748715029,740340497,38843287,30454681,757117971,759205269,562075537,15775255,53523993,767604371,769685269,635484177,19970199,49330329,778090771,780172949,771799697,28359447,40942361,788577171,790660629] [1,0,0,1,1,1,0,0,1,1,1,0,0,1,1,1,0,0,1,1,1,0,0,1,1,1,0,0,1,1,1,0,0,1,1,1,0,0,1,1,1,0,0,1,1,1,0,0,1,1,1,0,0,1,1,1,0,0,1,1,1,0,0,1,1,1,0,0,1,1,1,0,0,1,1,1,0,0,1,1]++[3802369297,39030167,30641561,3819146771,3821234069,3697288337,1282073,29200,3697288337,18059673,29248,3697288337,34837273,29296,3697288337,51614873,29344,3665832337,1283609,29392,3665832337,18061209,29440,3665832337,34838809,29488,3665832337,51616409,29536,3676319377,1285145,29584,3676319377,18062745,29632,3676319377,34840345,29680,3676319377,51617945,29728,3686806417,1286681,29776,3686806417,18064281,29824,3686806417,34841881,29872,3686806417,51619481,29920,3728750737,1288217,29968,3728750737,18065817,30016,3728750737,34843417,30064,3728750737,51621017,30112,3739237777,1289753,30160,3739237777,18067353,30208,3739237777,34844953,30256,3739237777,51622553,30304,3707781777,1291289,30352,3707781777,18068889,30400,3707781777,34846489,30448,3707781777,51624089,30496,3718268817,1292825,30544,3718268817,18070425,30592,3718268817,34848025,30640,3718268817,51625625,30688,3760213137,1294361,30736,3760213137,18071961,30784,3760213137,34849561,30832,3760213137,51627161,30880,3770700177,1295897,30928,3770700177,18073497,30976,3770700177,34851097,31024,3770700177,51628697,31072,3781187217,1297433,31120,3781187217,18075033,31168,3781187217,34852633,31216,3781187217,51630233,31264,3749731217,1298969,31312,3749731217,18076569,31360,3749731217,34854169,31408,3749731217,51631769,31456,3791675537,1300505,31504,3791675537,18078105,31552,3791675537,34855705,31600,3791675537,51633305,31648,3802162577,1302041,31696,3802162577,18079641,31744,3802162577,34857241,31792,3802162577,51634841,31840,3812649617,1303577,31888,3812649617,18081177,31936,3812649617,34858777,31984,3812649617,51636377,32032,3823136657,1305113,32080,3823136657,18082713,32128,3823136657,34860313,32176,3823136657,51637913,32224])) []
theorem run28:runE ct28 Tryz.f46 (callT []) []=some (⟨[(.var 1826,0),(.var 1829,1),(.var 1832,2),(.var 1835,3),(.var 1838,4),(.var 1841,5),(.var 1844,6),(.var 1847,7),(.var 1850,8),(.var 1853,9),(.var 1856,10),(.var 1859,11),(.var 1862,12),(.var 1865,13),(.var 1868,14),(.var 1871,15),(.var 1874,16),(.var 1877,17),(.var 1880,18),(.var 1883,19),(.var 1886,20),(.var 1889,21),(.var 1892,22),(.var 1895,23),(.var 1898,24),(.var 1901,25),(.var 1904,26),(.var 1907,27),(.var 1910,28),(.var 1913,29),(.var 1916,30),(.var 1919,31),(.var 1922,32),(.var 1925,33),(.var 1928,34),(.var 1931,35),(.var 1934,36),(.var 1937,37),(.var 1940,38),(.var 1943,39),(.var 1946,40),(.var 1949,41),(.var 1952,42),(.var 1955,43),(.var 1958,44),(.var 1961,45),(.var 1964,46),(.var 1967,47),(.var 1970,48),(.var 1973,49),(.var 1976,50),(.var 1979,51),(.var 1982,52),(.var 1985,53),(.var 1988,54),(.var 1991,55),(.var 1994,56),(.var 1997,57),(.var 2000,58),(.var 2003,59),(.var 2006,60),(.var 2009,61),(.var 2012,62),(.var 2015,63)],none,none⟩,ds28,[]):=by kernel_rfl
def pre16:List Df:=(List.range 64).reverse.map (fun j=> .n (48+j) (.fn 25 [] [0,1] j))++[.a 1 (.lit ((List.range 16).map .var)),.a 0 (.lit ((List.range' 16 32).map .var))]
def ds16:List Df:=decL 112 ([770,786,17840279,239089683,802,34617879,245381523,818,51395479,251673363,834,850,17841559,260062483,866,34619159,266354323,882,51396759,272646163,898,914,17842839,281035283,930,34620439,287327123,946,51398039,293618963,962,978,17844119,302008083,994,34621719,308299923,1010,51399319,314591763,1026,1042,17845399,322980883,1058,34622999,329272723,1074,51400599,335564563,1090,1106,17846679,343953683,1122,34624279,350245523,1138,51401879,356537363,1154,1170,17847959,364926483,1186,34625559,371218323,1202,51403159,377510163,1218,1234,17849239,385899283,1250,34626839,392191123,1266,51404439,398482963,1282,1298,17850519,406872083,1314,34628119,413163923,1330,51405719,419455763,1346,1362,17851799,427844883,1378,34629399,434136723,1394,51406999,440428563,1410,1426,17853079,448817683,1442,34630679,455109523,1458,51408279,461401363,1474,1490,17854359,469790483,1506,34631959,476082323,1522,51409559,482374163,1538,1554,17855639,490763283,1570,34633239,497055123,1586,51410839,503346963,1602,1618,17856919,511736083,1634,34634519,518027923,1650,51412119,524319763,1666,1682,17858199,532708883,1698,34635799,539000723,1714,51413399,545292563,1730,1746,17859479,553681683,1762,34637079,559973523,1778,51414679,566265363,505429137,15763479,53512217,574654611,576737429,253790737,19958423,49318553,585141011,587228309,578849937,28347671,40930585,595627411,597719189,589336337,38834071,30445465,606113811,608189589,274748817,15766039,53514777,616600211,618686869,358650897,19960983,49321113,627086611,629177749,620795537,28350231,40933145,637573011,639648149,631281937,38836631,30448025,648059411,650139029,379612817,15768599,53517337,658545811,660636309,463511057,19963543,49323673,669032211,671106709,662741137,28352791,40935705,679518611,681597589,673227537,38839191,30450585,690005011,692088469,484476817,15771159,53519897,700491411,702565269,568371217,19966103,49326233,710977811,713056149,704686737,28355351,40938265,721464211,723547029]++(perL 19 [715173137,38841751,30453145,731950611,734037909,704680337,15773719,53522457,742437011,744528149,610316817,19968663,49328793,752923411,755015829,746632337,28357911,40940825,763409811,765503509,757118737,38844311,30455705,773896211,775983509,578853777,15776279,53525017,784382611,786473749,652262417,19971223,49331353,794869011,796961429,788577937,28360471,40943385,805355411,807438869,799064337,38846871,30458265,815841811,817929109,620799377,15778839,53527577,826328211,828419349,694208017,19973783,49333913,836814611,838896789,830523537,28363031,40945945,847301011,849384469,841009937,38849431,30460825,857787411,859874709,662744977,15781399,53530137,868273811,870354709,736153617,19976343,49336473,878760211,880842389,872469137,28365591,40948505,889246611,891330069] [1,0,0,1,1,1,0,0,1,1,1,0,0,1,1,1,0,0,1,1,1,0,0,1,1,1,0,0,1,1,1,0,0,1,1,1,0,0,1,1,1,0,0,1,1,1,0,0,1,1,1,0,0,1,1,1,0,0,1,1,1,0,0,1,1,1,0,0,1,1,1,0,0,1,1,1,0,0,1,1]++[3903038737,39036311,30647705,3919816211,3921903509,1280409,29952,18057625,29984,34834841,30016,51612057,30048,1282969,30080,18060185,30112,34837401,30144,51614617,30176,1285529,30208,18062745,30240,34839961,30272,51617177,30304,1288089,30336,18065305,30368,34842521,30400,51619737,30432,1281049,30464,18058265,30496,34835481,30528,51612697,30560,1281689,30592,18058905,30624,34836121,30656,51613337,30688,1284249,30720,18061465,30752,34838681,30784,51615897,30816,1284889,30848,18062105,30880,34839321,30912,51616537,30944])) pre16
theorem run16:runE ct16 Tryz.f11 (callT tab16) []=some (⟨[(.var 1873,0),(.var 1875,1),(.var 1877,2),(.var 1879,3),(.var 1881,4),(.var 1883,5),(.var 1885,6),(.var 1887,7),(.var 1889,8),(.var 1891,9),(.var 1893,10),(.var 1895,11),(.var 1897,12),(.var 1899,13),(.var 1901,14),(.var 1903,15),(.var 1905,16),(.var 1907,17),(.var 1909,18),(.var 1911,19),(.var 1913,20),(.var 1915,21),(.var 1917,22),(.var 1919,23),(.var 1921,24),(.var 1923,25),(.var 1925,26),(.var 1927,27),(.var 1929,28),(.var 1931,29),(.var 1933,30),(.var 1935,31)],none,none⟩,ds16,[.prd 25 [] [0,1]]):=by kernel_rfl
theorem run25:runE ct25 Tryz.f20 (callT []) []=some (⟨[(.kst 101,0),(.kst 120,1),(.kst 112,2),(.kst 97,3),(.var 0,4),(.var 1,5),(.var 2,6),(.var 3,7),(.var 4,8),(.var 5,9),(.var 6,10),(.var 7,11),(.var 8,12),(.var 9,13),(.var 10,14),(.var 11,15),(.var 12,16),(.var 13,17),(.var 14,18),(.var 15,19),(.kst 110,20),(.kst 100,21),(.kst 32,22),(.kst 51,23),(.var 32,24),(.var 33,25),(.var 34,26),(.var 35,27),(.var 36,28),(.var 37,29),(.var 38,30),(.var 39,31),(.var 40,32),(.var 41,33),(.var 42,34),(.var 43,35),(.var 44,36),(.var 45,37),(.var 46,38),(.var 47,39),(.kst 50,40),(.kst 45,41),(.kst 98,42),(.kst 121,43),(.var 16,44),(.var 17,45),(.var 18,46),(.var 19,47),(.var 20,48),(.var 21,49),(.var 22,50),(.var 23,51),(.var 24,52),(.var 25,53),(.var 26,54),(.var 27,55),(.var 28,56),(.var 29,57),(.var 30,58),(.var 31,59),(.kst 116,60),(.kst 101,61),(.kst 32,62),(.kst 107,63)],none,none⟩,
 [],
 []):=by kernel_rfl
theorem run29:runE ct29 Tryz.f47 (callT []) []=some (⟨[(.var 0,0),(.var 1,1),(.var 2,2),(.var 3,3),(.var 4,4),(.var 5,5),(.var 6,6),(.var 7,7),(.var 19,8),(.var 23,9),(.var 27,10),(.var 31,11),(.var 35,12),(.var 39,13),(.var 43,14),(.var 47,15)],none,none⟩,
 [.n 48 (.bin .shr .i64 (.var 46) (.kst 8)),
 .n 47 (.conv .u8 (.var 46)),
 .n 46 (.bin .add .i64 (.var 44) (.var 45)),
 .n 45 (.conv .i64 (.var 15)),
 .n 44 (.bin .shr .i64 (.var 42) (.kst 8)),
 .n 43 (.conv .u8 (.var 42)),
 .n 42 (.bin .add .i64 (.var 40) (.var 41)),
 .n 41 (.conv .i64 (.var 14)),
 .n 40 (.bin .shr .i64 (.var 38) (.kst 8)),
 .n 39 (.conv .u8 (.var 38)),
 .n 38 (.bin .add .i64 (.var 36) (.var 37)),
 .n 37 (.conv .i64 (.var 13)),
 .n 36 (.bin .shr .i64 (.var 34) (.kst 8)),
 .n 35 (.conv .u8 (.var 34)),
 .n 34 (.bin .add .i64 (.var 32) (.var 33)),
 .n 33 (.conv .i64 (.var 12)),
 .n 32 (.bin .shr .i64 (.var 30) (.kst 8)),
 .n 31 (.conv .u8 (.var 30)),
 .n 30 (.bin .add .i64 (.var 28) (.var 29)),
 .n 29 (.conv .i64 (.var 11)),
 .n 28 (.bin .shr .i64 (.var 26) (.kst 8)),
 .n 27 (.conv .u8 (.var 26)),
 .n 26 (.bin .add .i64 (.var 24) (.var 25)),
 .n 25 (.conv .i64 (.var 10)),
 .n 24 (.bin .shr .i64 (.var 22) (.kst 8)),
 .n 23 (.conv .u8 (.var 22)),
 .n 22 (.bin .add .i64 (.var 20) (.var 21)),
 .n 21 (.conv .i64 (.var 9)),
 .n 20 (.bin .shr .i64 (.var 18) (.kst 8)),
 .n 19 (.conv .u8 (.var 18)),
 .n 18 (.bin .add .i64 (.var 16) (.var 17)),
 .n 17 (.conv .i64 (.var 8))],
 []):=by kernel_rfl
end Go.Proofs.YtnfikgagkamioaaGreatDoor.S
