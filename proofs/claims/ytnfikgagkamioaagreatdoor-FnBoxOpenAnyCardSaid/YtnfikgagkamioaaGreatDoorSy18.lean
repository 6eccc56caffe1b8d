/- Contracts: calls by a table of contracts. -/
import Derived.Test.YtnfikgagkamioaaGreatDoorSy16
namespace Go.Sy
section
variable {P:Program} {F:Fns} {N:Num} {E:Env} {σ σ':St}
theorem win_bks {τ:St}(h:τ.bks=σ.bks)(b:Nat)(off n:Ar)(rw:Bool):τ.win b off n rw=σ.win b off n rw:=by
 unfold St.win;rw[h]
theorem take1_pur {p:Pa}{x:SV}{i:List Ar}{a:List Nat}(h:p.take1 x σ=some (i,a,σ')):Pur σ σ':=by
 unfold Pa.take1 at h;split at h
 ·split at h
  ·split at h
   ·rename_i k _ y _ k' a' hy;cases hk:kindB k k' with
    | false=>rw[hk] at h;cases h
    | true=>rw[hk] at h;simp only[aH,aA,aD] at h;rw[←h.2.2];exact Pur.refl _
   ·cases h
  ·cases h
 ·split at h
  ·split at h
   ·rename_i k n _ l _ as' hl;cases hk:Nat.beq l.length n with
    | false=>rw[hk] at h;cases h
    | true=>rw[hk] at h;simp only[aH,aA,aD] at h;rw[←h.2.2];exact Pur.mkA _ _
   ·cases h
  ·cases h
 ·split at h
  ·rename_i k n rw _ b off;cases hk:σ.win b off (.kst n) rw with
   | false=>rw[hk] at h;cases h
   | true =>
    rw[hk] at h;simp only[aH] at h;split at h
    ·rename_i hr;simp only[aA,aD] at h;rw[←h.2.2];exact rng_pur hr
    ·cases h
  ·cases h
 ·split at h
  ·rename_i k rw n _ b off len cap;cases hk:(σ.win b off len rw&&lenB n len) with
   | false=>rw[hk] at h;cases h
   | true =>
    rw[hk] at h;simp only[aH] at h;split at h
    ·rename_i σ1 hc;split at h
     ·rename_i hr;simp only[aA,aD] at h;rw[←h.2.2];refine Pur.trans ?_ (rng_pur hr);split at hc;·exact fC hc
      ·simp only[aA] at hc;rw[←hc];exact Pur.refl _
     ·cases h
    ·cases h
  ·cases h
 ·split at h;·simp only[aA,aD] at h;rw[←h.2.2];exact Pur.mkA _ _
  ·simp only[aA,aD] at h;rw[←h.2.2];exact Pur.mkA _ _
  ·cases h
 ·split at h;·simp only[aA,aD] at h;rw[←h.2.2];exact Pur.mkA _ _
  ·cases h
 ·split at h
  ·rename_i k _ b len;split at h
   ·rename_i B hB;split at h
    ·rename_i k' A hg;cases hk:(kindB k k'&&B.rw) with
     | false=>rw[hk] at h;cases h
     | true=>rw[hk] at h;simp only[aH,aA,aD] at h;rw[←h.2.2];exact Pur.ob _ _
    ·cases h
   ·cases h
  ·split at h
   ·rename_i B hB;split at h
    ·cases hk:(B.rw&&Nat.beq B.n 0) with
     | false=>rw[hk] at h;cases h
     | true=>rw[hk] at h;simp only[aH,aA,aD] at h;rw[←h.2.2];exact Pur.mkA _ _
    ·cases h
   ·cases h
  ·cases h
 ·split at h;·simp only[aA,aD] at h;rw[←h.2.2];exact Pur.refl _
  ·cases h
 ·split at h
  ·rename_i v _ v';cases hk:eqV v v' with
   | false=>rw[hk] at h;cases h
   | true=>rw[hk] at h;simp only[aH,aA,aD] at h;rw[←h.2.2];exact Pur.refl _
  ·cases h
theorem takeL_pur:∀ {ps:List Pa} {xs:List SV} {is:List Ar} {az:List Nat} {σ σ':St},takeL ps xs σ=some (is,az,σ')→Pur σ σ'
 | [],[],is,az,σ,σ',h=>by simp only[takeL,aA,aD] at h;rw[←h.2.2];exact Pur.refl _
 | p::ps,x::xs,is,az,σ,σ',h=>by
  simp only[takeL] at h;split at h
  ·rename_i h1;split at h
   ·rename_i h2;simp only[aA,aD] at h;rw[←h.2.2];exact (take1_pur h1).trans (takeL_pur h2)
   ·cases h
  ·cases h
 | [],_::_,_,_,_,_,h=>by cases h
 | _::_,[],_,_,_,_,h=>by cases h
theorem take1_sound {p:Pa}{x:SV}{i:List Ar}{a:List Nat}{u:Value}{w:World}(h:p.take1 x σ=some (i,a,σ'))(hH:Hold F N σ')(hw:BW N E σ.bks w)(hd:x.den N E=some u)
 {ps:List Pa} {us:List Value} {is:List Int} {az:List (List Int)} {ws:List (Option Win)} (hA:Args w ps us is az ws) {bs:List (Option (Nat×Bool))} (hB:WB N E σ.bks ws bs) {xs:List SV}
 (hR:RWok N E (rwOf ps xs) (rwW ps ws)) (hG:GWok N E σ.bks (grOf ps xs) (grW ps ws)) :
 ∃y,Args w (p::ps) (u::us) (i.map (·.ev N)++is) (a.map N.a++az) (y::ws)∧WB N E σ.bks (y::ws) (p.blk x::bs)∧RWok N E (rwOf (p::ps) (x::xs)) (rwW (p::ps) (y::ws))∧GWok N E σ.bks (grOf (p::ps) (x::xs)) (grW (p::ps) (y::ws)):=by
 unfold Pa.take1 at h;split at h
 ·split at h
  ·split at h
   ·rename_i k _ y _ k' a' hy;cases hk:kindB k k' with
    | false=>rw[hk] at h;cases h
    | true =>have:=fT hk;subst this;rw[hk] at h;simp only[aH,aA,aD] at h;obtain ⟨rfl,rfl,rfl⟩:=h;have:=gV hy hd;subst this;exact ⟨none,.int hA,hB,hR,hG⟩
   ·cases h
  ·cases h
 ·split at h
  ·split at h
   ·rename_i k n _ l _ as' hl;cases hk:Nat.beq l.length n with
    | false=>rw[hk] at h;cases h
    | true =>
     rw[hk] at h;simp only[aH,aA,aD] at h;obtain ⟨rfl,rfl,rfl⟩:=h;simp only[SV.den,V1.den,aV] at hd;obtain ⟨vs,hvs,rfl⟩:=hd;have e:=arsL_den hl hvs;have hX:N.a σ.na=_:=hH.mkA;simp only[Ad.ev] at hX;have e2:vs=intsV k (N.a σ.na):=by rw[e,hX];simp[intsV]
     have e3:=denL_length hvs;have e4:=aF hk;subst e2;refine ⟨none,?_,hB,hR,hG⟩;refine .agg ?_ hA;simp only[intsV,bF] at e3;omega
   ·cases h
  ·cases h
 ·split at h
  ·rename_i k n rw _ b off;cases hk:σ.win b off (.kst n) rw with
   | false=>rw[hk] at h;cases h
   | true =>
    rw[hk] at h;simp only[aH] at h;split at h
    ·rename_i X σ1 hr;simp only[aA,aD] at h;obtain ⟨rfl,rfl,rfl⟩:=h;obtain ⟨q,s,c,B,g1,g2,g3,g4,g5,g6,g7,g8⟩:=rng_win hr (fun τ e=>by rw[win_bks e];exact hk) hH hw;obtain ⟨q',s',c',k1,k2,rfl⟩:=ptr_den hd;rw[g1] at k1;simp only[aA,aD] at k1;obtain ⟨rfl,rfl,rfl⟩:=k1;have e0:((Ar.kst (n:Int)).ev N).toNat=n:=by simp[Ar.ev]
     rw[e0] at g6 g7;refine ⟨some ⟨q,s+(off.ev N).toNat,n,rw⟩,.ptr g8 g7 hA,⟨⟨rfl,B,s,c,g2,g3,g1,by simp,by simp only;omega⟩,hB⟩,?_,hG⟩;cases rw with
     | true=>exact ⟨rfl,s,c,g1,rfl,e0.symm⟩
     | false=>exact hR
    ·cases h
  ·cases h
 ·split at h
  ·rename_i k rw n _ b off len cap;cases hk:(σ.win b off len rw&&lenB n len) with
   | false=>rw[hk] at h;cases h
   | true =>
    rw[hk] at h;simp only[aH] at h;simp only[aG] at hk;split at h
    ·rename_i σ1 hc;split at h
     ·rename_i X σ2 hr;simp only[aA,aD] at h;obtain ⟨rfl,rfl,rfl⟩:=h;have hp:Pur σ σ1:=by
       split at hc;·exact fC hc
       ·simp only[aA] at hc;rw[←hc];exact Pur.refl _
      obtain ⟨q,s,c,B,g1,g2,g3,g4,g5,g6,g7,g8⟩:=rng_win (rw:=rw) hr (fun τ e=>by rw[win_bks (e.trans hp.bks)];exact hk.1) hH (by rw[hp.bks];exact hw);obtain ⟨q',s',c',m,k1,k2,rfl,k3,k4⟩:=gC hd;rw[g1] at k1;simp only[aA,aD] at k1;obtain ⟨rfl,rfl,rfl⟩:=k1;rw[hp.bks] at g2;rw[←g7];refine ⟨some ⟨q,s+(off.ev N).toNat,(N.a X).length,rw⟩,.sl g8 ?_ ?_ hA,⟨⟨rfl,B,s,c,g2,g3,g1,by simp,by simp only;omega⟩,hB⟩,?_,hG⟩
      ·rw [g7,k3];unfold capOf;split at hc
       ·rename_i a;have:=fO hc (eT (rng_pur hr).ext hH);simp only;omega
       ·have:=k4 rfl;simp only;omega
      ·intro m' e;subst e;have:=hk.2;unfold lenB at this;simp only at this;split at this
       ·rename_i m2;have:=aF this;subst this;rw[g7];rfl
       ·cases this
      ·cases rw with
       | true=>exact ⟨rfl,s,c,g1,rfl,g7⟩
       | false=>exact hR
     ·cases h
    ·cases h
  ·cases h
 ·split at h
  ·rename_i j;simp only[aA,aD] at h;obtain ⟨rfl,rfl,rfl⟩:=h;have hX:N.a σ.na=_:=hH.mkA;simp only[Ad.ev,aK] at hX;obtain ⟨b,c,rfl⟩:∃b c,u= .slice b 0 c:=by
    simp only[SV.den,V1.den,Sc.den] at hd;split at hd
    ·rename_i b c _;simp only[aA] at hd;exact ⟨b,c,hd.symm⟩
    ·cases hd
   refine ⟨none,?_,hB,hR,hG⟩;simp only[aK,cC,aI,hX,cT];exact .emp hA
  ·rename_i c;simp only[aA,aD] at h;obtain ⟨rfl,rfl,rfl⟩:=h;have hX:N.a σ.na=_:=hH.mkA;simp only[Ad.ev,aK] at hX;have:u= .slice none 0 c:=by
    simp only[SV.den,V1.den,Sc.den,cellOk,aH,aA] at hd;exact hd.symm
   subst this;refine ⟨none,?_,hB,hR,hG⟩;simp only[aK,cC,aI,hX,cT];exact .emp hA
  ·cases h
 ·split at h
  ·rename_i b off;simp only[aA,aD] at h;obtain ⟨rfl,rfl,rfl⟩:=h;have hX:N.a σ.na=_:=hH.mkA;simp only[Ad.ev,aK] at hX;obtain ⟨q',s',c',m,k1,k2,rfl,k3,k4⟩:=gC (show (Sc.sl b off (.kst (Int.ofNat 0)) (some (.kst (Int.ofNat 0)))).den N E=some u from hd);have:m=0:=by rw[k3];rfl
   subst this;have e0:((Ar.kst (Int.ofNat 0)).ev N).toNat=0:=rfl;rw[e0];refine ⟨none,?_,hB,hR,hG⟩;simp only[aK,cC,aI,hX,cT];exact .zc hA
  ·cases h
 ·split at h
  ·rename_i k _ b len;split at h
   ·rename_i B hB0;split at h
    ·rename_i k' A hg;cases hk:(kindB k k'&&B.rw) with
     | false=>rw[hk] at h;cases h
     | true =>
      rw[hk] at h;simp only[aH,aA,aD] at h;obtain ⟨rfl,rfl,rfl⟩:=h;simp only[aG] at hk;have:=fT hk.1;subst this;have hlen:len.ev N=(N.a A).length:=hH.ob;obtain ⟨q,s,c,m,k1,_,rfl,k3,k4⟩:=gC (show (Sc.sl b (.kst (Int.ofNat 0)) len none).den N E=some u from hd);obtain ⟨q',s',c',arr,el,fz,m1,m2,m3,m4,m5⟩:=hw.at' b B hB0;rw[k1] at m1;simp only[aA,aD] at m1;obtain ⟨rfl,rfl,rfl⟩:=m1;have:=m3 hk.2;subst this;have e0:((Ar.kst (Int.ofNat 0)).ev N).toNat=0:=rfl
      have k4:=k4 rfl;rw[e0,hlen] at k4;rw[k3,e0,hlen];simp only[capOf,e0,cJ,Nat.sub_zero,bD,bM] at k4 ⊢;have hwid:B.wid N c=c:=by simp only[Bk.wid,hg,aH];exact Nat.max_eq_left k4
      rw[hwid] at m4;unfold Bk.cont at m5;rw[hg] at m5;exact ⟨some ⟨q,s,c,true⟩,.gr ⟨arr,el,m2,m4,m5.1,m5.2 rfl⟩ k4 hA,⟨⟨rfl,B,s,c,hB0,fun _=>hk.2,k1,aS _,by rw[hwid];exact aS _⟩,hB⟩,hR,B,c,hB0,hk.2,k1,hwid⟩
    ·cases h
   ·cases h
  ·rename_i b;split at h
   ·rename_i B hB0;split at h
    ·rename_i hg;cases hk:(B.rw&&Nat.beq B.n 0) with
     | false=>rw[hk] at h;cases h
     | true =>
      rw[hk] at h;simp only[aH,aA,aD] at h;obtain ⟨rfl,rfl,rfl⟩:=h;simp only[aG] at hk;have hn:=aF hk.2;have hX:N.a σ.na=_:=hH.mkA;simp only[Ad.ev,aK] at hX;obtain ⟨q,s,c,m,k1,_,rfl,k3,_⟩:=gC (show (Sc.sl b (.kst (Int.ofNat 0)) (.kst (Int.ofNat 0)) (some (.kst (Int.ofNat 0)))).den N E=some u from hd);obtain ⟨q',s',c',arr,el,fz,m1,m2,m3,m4,m5⟩:=hw.at' b B hB0;rw[k1] at m1;simp only[aA,aD] at m1;obtain ⟨rfl,rfl,rfl⟩:=m1
      have:=m3 hk.1;subst this;have e0:((Ar.kst (Int.ofNat 0)).ev N).toNat=0:=rfl;simp only[capOf,e0] at k3;subst k3;have hwid:B.wid N c=0:=by simp only[Bk.wid,hg,hn]
      rw[hwid] at m4;rw[e0];simp only[aK,cC,aI,hX,cT,cJ];exact ⟨some ⟨q,s,0,true⟩,.gr (L:=[]) ⟨arr,el,m2,m4,nofun,fun j _ h=>by omega⟩ (aS _) hA,⟨⟨rfl,B,s,c,hB0,fun _=>hk.1,k1,aS _,by rw[hwid];exact aS _⟩,hB⟩,hR,B,c,hB0,hk.1,k1,hwid⟩
    ·cases h
   ·cases h
  ·cases h
 ·split at h
  ·rename_i y;simp only[aA,aD] at h;obtain ⟨rfl,rfl,rfl⟩:=h;exact ⟨none,.ign (Sc.den_cellOk hd) hA,hB,hR,hG⟩
  ·cases h
 ·split at h
  ·rename_i v _ v';cases hk:eqV v v' with
   | false=>rw[hk] at h;cases h
   | true =>rw[hk] at h;simp only[aH,aA,aD] at h;obtain ⟨rfl,rfl,rfl⟩:=h;have:=eqV_eq hk;subst this;obtain ⟨rfl,hc⟩:=kst_cell hd;exact ⟨none,.kst hc hA,hB,hR,hG⟩
  ·cases h
theorem takeL_sound {w:World}:∀ {ps:List Pa} {xs:List SV} {is:List Ar} {az:List Nat} {σ σ':St} {us:List Value},takeL ps xs σ=some (is,az,σ')→Hold F N σ'→BW N E σ.bks w→denLV N E xs=some us →
 ∃ws,Args w ps us (is.map (·.ev N)) (az.map N.a) ws∧WB N E σ.bks ws (blksL ps xs)∧RWok N E (rwOf ps xs) (rwW ps ws)∧GWok N E σ.bks (grOf ps xs) (grW ps ws)
 | [],[],is,az,σ,σ',us,h,hH,hw,hd=>by simp only[takeL,aA,aD] at h;obtain ⟨rfl,rfl,rfl⟩:=h;simp only[denLV,aA] at hd;subst hd;exact ⟨[],.nil,trivial,trivial,trivial⟩
 | p::ps,x::xs,is,az,σ,σ',us,h,hH,hw,hd=>by
  simp only[takeL] at h;split at h
  ·rename_i i a σ1 h1;split at h
   ·rename_i is' as' σ2 h2;simp only[aA,aD] at h;obtain ⟨rfl,rfl,rfl⟩:=h;obtain ⟨u,us',d1,d2,rfl⟩:=denLV_cons.1 hd;have hp:=take1_pur h1;obtain ⟨ws,k1,k2,k3,k4⟩:=takeL_sound h2 hH (by rw[hp.bks];exact hw) d2;rw[hp.bks] at k2 k4;obtain ⟨y,m1,m2,m3⟩:=take1_sound h1 (eT (takeL_pur h2).ext hH) hw d1 k1 k2 k3 k4;exact ⟨y::ws,by simpa using m1,m2,m3⟩
   ·cases h
  ·cases h
 | [],_::_,_,_,_,_,_,h,_,_,_=>by cases h
 | _::_,[],_,_,_,_,_,h,_,_,_=>by cases h
theorem cellsR_pur {k:IntKind}{f:Nat}{is:List Ar}{az:List Nat}:∀(n j:Nat) (σ:St),Pur σ (cellsR k f is az j n σ).2
 | 0,_,σ=>Pur.refl σ
 | n+1,j,σ=>(Pur.mk1 σ _).trans (cellsR_pur n (j+1) _)
theorem cellsR_den {k:IntKind}{f:Nat}{is:List Ar}{az:List Nat}:∀(n j:Nat) (σ:St),Hold F N (cellsR k f is az j n σ).2 →
 denL N E (cellsR k f is az j n σ).1=some (intsV k ((List.range' j n).map (F.i f (is.map (·.ev N)) (az.map N.a))))
 | 0,_,σ,_=>rfl
 | n+1,j,σ,hH=>by have h1:=cellsR_den n (j+1) (σ.mk1 (.fn f is az j)) hH;have hx:=(eT (cellsR_pur n (j+1) (σ.mk1 (.fn f is az j))).ext hH).mk1;simp only[Nd.ev,hH.fns] at hx;simp only[cellsR,List.range'_succ,aI];refine denL_cons.2 ⟨_,_,?_,h1,rfl⟩;simp only[Sc.den,hx]
theorem ask_spec {t:Bool}{σ1:St}(h:σ.ask=some (t,σ1)):Pur σ σ1:=by
 unfold St.ask at h;split at h
 ·simp only[aA,aD] at h;rw[←h.2];exact ⟨⟨fun _ m=>m,fun _ m=>m,rfl,rfl,aS _⟩,rfl,rfl,rfl⟩
 ·cases h
theorem gU {f:Nat}{is:List Ar}{az:List Nat}{sl:Sc}:∀ {r:List Re} {j:Nat} {σ σ':St} {vs:List V1},resL f is az sl r j σ=some (vs,σ')→QX σ σ'
 | [],j,σ,σ',vs,h=>by simp only[resL,aA,aD] at h;rw[←h.2];exact (Pur.refl _).qx
 | .int k::r,j,σ,σ',vs,h=>by
  simp only[resL] at h;split at h
  ·rename_i h1;simp only[aA,aD] at h;rw[←h.2];exact (Pur.mk1 _ _).qx.trans (gU h1)
  ·cases h
 | .bool::r,j,σ,σ',vs,h=>by
  simp only[resL] at h;split at h
  ·rename_i ha;split at h
   ·rename_i h1;simp only[aA,aD] at h;rw[←h.2];exact (((Pur.mk1 _ _).trans (ask_spec ha)).trans (Pur.ob _ _)).qx.trans (gU h1)
   ·cases h
  ·cases h
 | .agg k n::r,j,σ,σ',vs,h=>by
  simp only[resL] at h;split at h
  ·rename_i h1;simp only[aA,aD] at h;rw[←h.2];exact (cellsR_pur _ _ _).qx.trans (gU h1)
  ·cases h
 | .sl _ _::r,j,σ,σ',vs,h=>by
  simp only[resL] at h;split at h
  ·rename_i h1;simp only[aA,aD] at h;rw[←h.2];exact gU h1
  ·cases h
 | .tl::r,j,σ,σ',vs,h=>by
  simp only[resL] at h;split at h
  ·split at h
   ·rename_i h1;simp only[aA,aD] at h;rw[←h.2];exact ((Pur.mk1 _ _).trans (Pur.mk1 _ _)).qx.trans (gU h1)
   ·cases h
  ·cases h
 | .emp::r,j,σ,σ',vs,h=>by
  simp only[resL] at h;split at h
  ·rename_i h1;simp only[aA,aD] at h;rw[←h.2];exact QX.trans (b:={σ with nv:=σ.nv+1}) ⟨⟨fun _ m=>m,fun _ m=>m,rfl,rfl,Nat.le_succ _⟩,rfl,rfl⟩ (gU h1)
  ·cases h
 | .nn::r,j,σ,σ',vs,h=>by
  simp only[resL] at h;split at h
  ·rename_i h1;simp only[aA,aD] at h;rw[←h.2];exact QX.trans (b:={σ with nv:=σ.nv+1}) ⟨⟨fun _ m=>m,fun _ m=>m,rfl,rfl,Nat.le_succ _⟩,rfl,rfl⟩ (gU h1)
  ·cases h
 | .kst v::r,j,σ,σ',vs,h=>by
  simp only[resL] at h;cases hv:cellOk v with
  | false=>rw[hv] at h;cases h
  | true =>
   rw[hv] at h;simp only[aH] at h;split at h
   ·rename_i h1;simp only[aA,aD] at h;rw[←h.2];exact gU h1
   ·cases h
theorem resL_sound {f:Nat}{is:List Ar}{az:List Nat}{sl:Sc}{slv:Value}:∀ {r:List Re} {j:Nat} {σ σ':St} {vs:List V1} {us:List Value} {E:Env},resL f is az sl r j σ=some (vs,σ')→Hold F N σ'→Inv E σ →
 (slOf r≠none→sl.den N E=some slv)→(∀ b len,sl= .sl b (.kst (.ofNat 0)) len none→sl.den N E=some slv)→ResV F f (is.map (·.ev N)) (az.map N.a) slv r j us→∃E',E.le E'∧E'.blk=E.blk∧Inv E' σ'∧denL1 N E' vs=some us
 | [],j,σ,σ',vs,us,E,h,hH,hI,hs,hs2,hR=>by
  simp only[resL,aA,aD] at h;obtain ⟨rfl,rfl⟩:=h;cases us with
  | nil=>exact ⟨E,E.le_refl,rfl,hI,rfl⟩
  | cons _ _=>exact hR.elim
 | .int k::r,j,σ,σ',vs,us,E,h,hH,hI,hs,hs2,hR=>by
  simp only[resL] at h;split at h
  ·rename_i vs' σ1 h1;simp only[aA,aD] at h;obtain ⟨rfl,rfl⟩:=h;cases us with
   | nil=>exact hR.elim
   | cons u us =>obtain ⟨rfl,hR⟩:=hR;obtain ⟨E',e1,e2,e3,e4⟩:=resL_sound h1 hH (hI.pur (Pur.mk1 _ _)) hs hs2 hR;refine ⟨E',e1,e2,e3,denL1_cons.2 ⟨_,_,?_,e4,rfl⟩⟩;have hx:=(eT (gU h1).ext hH).mk1;simp only[Nd.ev,hH.fns] at hx;simp only[V1.den,Sc.den,hx]
  ·cases h
 | .bool::r,j,σ,σ',vs,us,E,h,hH,hI,hs,hs2,hR=>by
  simp only[resL] at h;split at h
  ·rename_i t σ1 ha;split at h
   ·rename_i vs' σ2 h1;simp only[aA,aD] at h;obtain ⟨rfl,rfl⟩:=h;cases us with
    | nil=>exact hR.elim
    | cons u us =>obtain ⟨rfl,hR⟩:=hR;obtain ⟨E',e1,e2,e3,e4⟩:=resL_sound h1 hH (hI.pur (((Pur.mk1 _ _).trans (ask_spec ha)).trans (Pur.ob _ _))) hs hs2 hR;refine ⟨E',e1,e2,e3,denL1_cons.2 ⟨_,_,?_,e4,rfl⟩⟩;have hH1:=eT (gU h1).ext hH;have hb:(!(N.i σ.nx==0))=t:=hH1.ob;have hx:=(eT ((ask_spec ha).trans (Pur.ob _ _)).ext hH1).mk1;simp only[Nd.ev,hH.fns] at hx;simp only[V1.den,Sc.den,cellOk,aH,←hx,hb]
   ·cases h
  ·cases h
 | .agg k n::r,j,σ,σ',vs,us,E,h,hH,hI,hs,hs2,hR=>by
  simp only[resL] at h;split at h
  ·rename_i vs' σ1 h1;simp only[aA,aD] at h;obtain ⟨rfl,rfl⟩:=h;cases us with
   | nil=>exact hR.elim
   | cons u us =>obtain ⟨rfl,hR⟩:=hR;obtain ⟨E',e1,e2,e3,e4⟩:=resL_sound h1 hH (hI.pur (cellsR_pur _ _ _)) hs hs2 hR;refine ⟨E',e1,e2,e3,denL1_cons.2 ⟨_,_,?_,e4,rfl⟩⟩;simp only[V1.den,cellsR_den (E:=E') n j σ (eT (gU h1).ext hH),Option.map_some]
  ·cases h
 | .sl _ _::r,j,σ,σ',vs,us,E,h,hH,hI,hs,hs2,hR=>by
  simp only[resL] at h;split at h
  ·rename_i vs' σ1 h1;simp only[aA,aD] at h;obtain ⟨rfl,rfl⟩:=h;cases us with
   | nil=>exact hR.elim
   | cons u us =>obtain ⟨rfl,hR⟩:=hR;have hs':=hs (by simp[slOf]);obtain ⟨E',e1,e2,e3,e4⟩:=resL_sound h1 hH hI (fun _=>hs') hs2 hR;exact ⟨E',e1,e2,e3,denL1_cons.2 ⟨_,_,Sc.den_mono e1 hs',e4,rfl⟩⟩
  ·cases h
 | .tl::r,j,σ,σ',vs,us,E,h,hH,hI,hs,hs2,hR=>by
  simp only[resL] at h;split at h
  ·rename_i b len;split at h
   ·rename_i vs' σ1 h1;simp only[aA,aD] at h;obtain ⟨rfl,rfl⟩:=h;cases us with
    | nil=>exact hR.elim
    | cons u us =>
     obtain ⟨⟨q,s,n,c,o,m,rfl,ho,hm,hle,rfl⟩,hR⟩:=hR;have hd:=hs2 b len rfl;obtain ⟨E',e1,e2,e3,e4⟩:=resL_sound h1 hH (hI.pur ((Pur.mk1 _ _).trans (Pur.mk1 _ _))) hs hs2 hR;refine ⟨E',e1,e2,e3,denL1_cons.2 ⟨_,_,?_,e4,rfl⟩⟩;have hH1:=eT (gU h1).ext hH;have hx2:=hH1.mk1;have hx:=(eT (Ext.mk1 _ _) hH1).mk1;simp only[Nd.ev,hH.fns,ho] at hx;simp only[Nd.ev,hH.fns,hm] at hx2;obtain ⟨q',s',c',mm,k1,_,k2,k3,k4⟩:=gC hd;have e0:((Ar.kst (Int.ofNat 0)).ev N).toNat=0:=rfl
     simp only[e0,cJ,Value.slice.injEq,aA,Addr.mk.injEq,and_true] at k2;obtain ⟨⟨rfl,rfl⟩,-,rfl⟩:=k2;simp only[capOf,e0,Nat.sub_zero] at k3;subst k3;have h9:=sl_mk (N:=N) (E:=E') (b:=b) (off:= .var σ.nx) (len:= .var (σ.nx+1)) (cap:=none) (by rw[e2];exact k1) (by simp only[Ar.ev,hx];omega) (fun _=>by have hx2':N.i (σ.nx+1)=m:=hx2;simp only[Ar.ev,hx,hx2',bD];exact hle)
     have hx2':N.i (σ.nx+1)=m:=hx2;simp only[V1.den,h9,capOf,Ar.ev,hx,hx2',bD]
   ·cases h
  ·cases h
 | .emp::r,j,σ,σ',vs,us,E,h,hH,hI,hs,hs2,hR=>by
  simp only[resL] at h;split at h
  ·rename_i vs' σ1 h1;simp only[aA,aD] at h;obtain ⟨rfl,rfl⟩:=h;cases us with
   | nil=>exact hR.elim
   | cons u us =>
    obtain ⟨⟨b,c,rfl⟩,hR⟩:=hR;have hle:E.le (E.addV σ.nv (.slice b 0 c)):=⟨fun _ _ h=>h,fun i v h=>by
     have:i≠σ.nv:=fun e=>by rw[e,hI.freshV σ.nv (aS _)] at h;cases h
     simp only[Env.addV,fH this,aQ];exact h⟩
    have hI':Inv (E.addV σ.nv (.slice b 0 c)) {σ with nv:=σ.nv+1}:=⟨hI.freshB,fun i hi=>by
     have hi':σ.nv+1≤i:=hi;have:i≠σ.nv:=by omega
     simp only[Env.addV,fH this,aQ];exact hI.freshV i (by omega),hI.glob⟩
    obtain ⟨E',e1,e2,e3,e4⟩:=resL_sound h1 hH hI' (fun h=>Sc.den_mono hle (hs h)) (fun b len h=>Sc.den_mono hle (hs2 b len h)) hR;refine ⟨E',hle.trans e1,e2,e3,denL1_cons.2 ⟨_,_,?_,e4,rfl⟩⟩;have:(E.addV σ.nv (.slice b 0 c)).val σ.nv=some (.slice b 0 c):=by simp only[Env.addV,fY rfl,aH]
    have:=e1.val _ _ this;simp only[V1.den,Sc.den,this]
  ·cases h
 | .nn::r,j,σ,σ',vs,us,E,h,hH,hI,hs,hs2,hR=>by
  simp only[resL] at h;split at h
  ·rename_i vs' σ1 h1;simp only[aA,aD] at h;obtain ⟨rfl,rfl⟩:=h;cases us with
   | nil=>exact hR.elim
   | cons u us =>
    obtain ⟨⟨b,c,rfl⟩,hR⟩:=hR;have hle:E.le (E.addV σ.nv (.iface b c)):=⟨fun _ _ h=>h,fun i v h=>by
     have:i≠σ.nv:=fun e=>by rw[e,hI.freshV σ.nv (aS _)] at h;cases h
     simp only[Env.addV,fH this,aQ];exact h⟩
    have hI':Inv (E.addV σ.nv (.iface b c)) {σ with nv:=σ.nv+1}:=⟨hI.freshB,fun i hi=>by
     have hi':σ.nv+1≤i:=hi;have:i≠σ.nv:=by omega
     simp only[Env.addV,fH this,aQ];exact hI.freshV i (by omega),hI.glob⟩
    obtain ⟨E',e1,e2,e3,e4⟩:=resL_sound h1 hH hI' (fun h=>Sc.den_mono hle (hs h)) (fun b len h=>Sc.den_mono hle (hs2 b len h)) hR;refine ⟨E',hle.trans e1,e2,e3,denL1_cons.2 ⟨_,_,?_,e4,rfl⟩⟩;have:(E.addV σ.nv (.iface b c)).val σ.nv=some (.iface b c):=by simp only[Env.addV,fY rfl,aH]
    have:=e1.val _ _ this;simp only[V1.den,Sc.den,this]
  ·cases h
 | .kst v::r,j,σ,σ',vs,us,E,h,hH,hI,hs,hs2,hR=>by
  simp only[resL] at h;cases hv:cellOk v with
  | false=>rw[hv] at h;cases h
  | true =>
   rw[hv] at h;simp only[aH] at h;split at h
   ·rename_i vs' σ1 h1;simp only[aA,aD] at h;obtain ⟨rfl,rfl⟩:=h;cases us with
    | nil=>exact hR.elim
    | cons u us =>obtain ⟨rfl,hR⟩:=hR;obtain ⟨E',e1,e2,e3,e4⟩:=resL_sound h1 hH hI hs hs2 hR;exact ⟨E',e1,e2,e3,denL1_cons.2 ⟨_,_,by simp only[V1.den,Sc.den,hv,aH],e4,rfl⟩⟩
   ·cases h
theorem blk_lt {w:World}(hw:BW N E σ.bks w){i:Nat}{B:Bk}{q s c:Nat}(hB:σ.bks.get i=some B)(hq:E.blk i=some (q,s,c)):q<w.heap.size:=by
 obtain ⟨q',s',c',arr,el,fz,g1,g2,_⟩:=hw.at' i B hB;rw[hq] at g1;simp only[aA,aD] at g1;rw[←g1.1] at g2;rcases bL q w.heap.size with h | h
 ·exact h
 ·rw [cQ h] at g2;cases g2
theorem some_lt {α:Type}{l:Array α}{i:Nat}{x:α}(h:l[i]? =some x):i<l.size:=by
 rcases bL i l.size with k | k
 ·exact k
 ·rw [cQ k] at h;cases h
theorem grow_post {w w':World}(hw:BW N E σ.bks w)(hI:Inv E σ)(hg:Grow none w w'):Post N E σ w N E σ w':=by
 have old:∀q,q<w.heap.size→w'.heap[q]? =w.heap[q]? :=fun q hq=>hg.old q hq (fun y e=>by cases e)
 refine ⟨hI,E.le_refl,⟨fun i B hB=> ?_,hw.apart⟩,⟨hg.os,hg.tape,hg.output,hg.size,fun q hq _=>old q hq,fun q arr el fz hq=>⟨arr,by rw[old q (some_lt hq)];exact hq,rfl,fun _ _=>rfl⟩⟩,
  fun i B' q s c h1 h2 h3 _=>⟨i,B',s,c,h1,h2,h3,aS _,aS _⟩⟩
 obtain ⟨q,s,c,arr,el,fz,g1,g2,g3⟩:=hw.at' i B hB;exact ⟨q,s,c,arr,el,fz,g1,by rw[old q (some_lt g2)];exact g2,g3⟩
theorem newBk_grow {x:Option Win}{o:Option Nat}{B:Bk}{arr0:Array Value}{w w':World}{t:TypeId}{q0 s0 c:Nat}(hw:BW N E σ.bks w)(hI:Inv E σ)(hg:Grow x w w')(hG:GWok N E σ.bks o x)
 (hq0:w.heap.size≤q0∨∃y,x=some y∧y.q=q0∧y.s≤s0∧s0+c≤y.s+y.n) (hh:w'.heap[q0]? =some (.cells arr0 t (0,0)))
 (hwc:B.wid N c=c) (hwid:s0+c≤arr0.size) (hcont:B.cont N (E.addB σ.nb (q0,s0,c)) s0 c arr0)
 (hs:σ'.bks=(σ.drop o).bks.set σ.nb B) (hnb:σ'.nb=σ.nb+1) (hnv:σ'.nv=σ.nv) (hgl:σ'.gl=σ.gl) :
 Post N E σ w N (E.addB σ.nb (q0,s0,c)) σ' w':=by
 have hle:E.le (E.addB σ.nb (q0,s0,c)):=by
  refine ⟨fun b q h=> ?_,fun _ _ h=>h⟩;have:b≠σ.nb:=fun e=>by rw[e,hI.freshB σ.nb (aS _)] at h;cases h
  simp only[Env.addB,fH this,aQ];exact h
 have hself:(E.addB σ.nb (q0,s0,c)).blk σ.nb=some (q0,s0,c):=fK;have hoth:∀i,i≠σ.nb→(E.addB σ.nb (q0,s0,c)).blk i=E.blk i:=fun i h=>by simp only[Env.addB,fH h,aQ]
 have hlt:∀i B q s c,σ.bks.get i=some B→E.blk i=some (q,s,c)→q<w.heap.size:=fun i B q s c hB hq=>blk_lt hw hB hq
 have back:∀i B',σ'.bks.get i=some B'→(i=σ.nb∧B'=B)∨(i≠σ.nb∧o≠some i∧σ.bks.get i=some B'):=fun i B' e=>by
  rw[hs,fA] at e;by_cases hi:i=σ.nb;·rw [bG hi] at e;simp only[aA] at e;exact .inl ⟨hi,e.symm⟩
  ·rw [bC hi] at e;cases o with
   | none=>exact .inr ⟨hi,(fun k=>by cases k),e⟩
   | some b =>
    simp only[St.drop,gJ] at e;by_cases hb:i=b;·rw [bG hb] at e;cases e
    ·rw [bC hb] at e;exact .inr ⟨hi,(fun k=>by simp only[aA] at k;exact hb k.symm),e⟩
 have given:∀y,x=some y→∃b B0 c0,o=some b∧σ.bks.get b=some B0∧B0.rw=true∧E.blk b=some (y.q,y.s,c0)∧B0.wid N c0=y.n:=fun y e=>by
  subst e;cases o with
  | none=>exact hG.elim
  | some b=>obtain ⟨B0,c0,g⟩:=hG;exact ⟨b,B0,c0,rfl,g⟩
 have gap:∀y,x=some y→∀i B1 s1 c1,o≠some i→σ.bks.get i=some B1→E.blk i=some (y.q,s1,c1)→s1+B1.wid N c1≤y.s∨y.s+y.n≤s1:=fun y e i B1 s1 c1 hi h1 h2=>by obtain ⟨b,B0,c0,rfl,g1,g2,g3,g4⟩:=given y e;have:=hw.apart i b B1 B0 _ _ _ _ _ h1 g1 (fun k=>hi (by rw[k])) h2 g3 (.inr g2);rw[g4] at this;exact this
 refine ⟨⟨fun b hb=> ?_,fun j hj=>hI.freshV j (by rw[←hnv];exact hj),fun t sv e=> ?_⟩,hle,⟨?_,?_⟩,⟨hg.os,hg.tape,hg.output,hg.size,?_,?_⟩,?_⟩
 ·rw [hnb] at hb;rw[hoth b (by omega)];exact hI.freshB b (by omega)
 ·obtain ⟨h1,b,c,h2,h3⟩:=hI.glob t sv (by rw[←hgl];exact e);exact ⟨h1,b,c,h2,hle.blk _ _ h3⟩
 ·intro i B1 hB;rcases back i B1 hB with ⟨rfl,rfl⟩ | ⟨hi,ho,hB⟩
  ·exact ⟨_,_,_,arr0,t,(0,0),hself,hh,fun _=>rfl,by rw[hwc];exact hwid,hcont⟩
  ·obtain ⟨q,s,c1,arr,el,fz,g1,g2,g3,g4,g5⟩:=hw.at' i B1 hB;by_cases hx:∃y,x=some y∧y.q=q
   ·obtain ⟨y,hy,rfl⟩:=hx;obtain ⟨arr',p1,p2,p3⟩:=hg.part y arr el fz hy g2;have:=gap y hy i B1 s c1 ho hB g1;exact ⟨y.q,s,c1,arr',el,fz,hle.blk _ _ g1,p1,g3,by rw[p2];exact g4,Bk.cont_mono hle (cont_wid (c:=c1) g5 fun k hk1 hk2=>p3 k (by omega))⟩
   ·exact ⟨q,s,c1,arr,el,fz,hle.blk _ _ g1,by rw[hg.old q (hlt i B1 q s c1 hB g1) (fun y hy e=>hx ⟨y,hy,e⟩)];exact g2,g3,g4,Bk.cont_mono hle g5⟩
 ·have key:∀i B1 s1 c1,i≠σ.nb→o≠some i→σ.bks.get i=some B1→E.blk i=some (q0,s1,c1)→s1+B1.wid N c1≤s0∨s0+c≤s1:=fun i B1 s1 c1 hi ho h1 h2=>by
   rcases hq0 with hq0 | ⟨y,hy,rfl,k1,k2⟩
   ·have:=hlt i B1 _ _ _ h1 h2;omega
   ·have:=gap y hy i B1 s1 c1 ho h1 h2;omega
  intro i i' B1 B2 q s s' c1 c2 h1 h2 h3 h4 h5 h6;rcases back i B1 h1 with ⟨rfl,rfl⟩ | ⟨hi,ho,h1⟩
  ·rw [hself] at h4;simp only[aA,aD] at h4;obtain ⟨rfl,rfl,rfl⟩:=h4;rcases back i' B2 h2 with ⟨rfl,rfl⟩ | ⟨hi',ho',h2⟩
   ·exact absurd rfl h3
   ·rw [hoth i' hi'] at h5;rw[hwc];exact (key i' B2 s' c2 hi' ho' h2 h5).symm
  ·rw [hoth i hi] at h4;rcases back i' B2 h2 with ⟨rfl,rfl⟩ | ⟨hi',ho',h2⟩
   ·rw [hself] at h5;simp only[aA,aD] at h5;obtain ⟨rfl,rfl,rfl⟩:=h5;rw[hwc];exact key i B1 s c1 hi ho h1 h4
   ·rw [hoth i' hi'] at h5;exact hw.apart i i' B1 B2 q s s' c1 c2 h1 h2 h3 h4 h5 h6
 ·intro q hq hno;refine hg.old q hq fun y hy e=> ?_
  obtain ⟨b,B0,c0,_,g1,g2,g3,_⟩:=given y hy;exact hno b B0 _ _ g1 g2 (by rw[←e];exact g3)
 ·intro q arr el fz hq;by_cases hx:∃y,x=some y∧y.q=q
  ·obtain ⟨y,hy,rfl⟩:=hx;obtain ⟨arr',p1,p2,p3⟩:=hg.part y arr el fz hy hq;refine ⟨arr',p1,p2,fun k hk=>p3 k ?_⟩;obtain ⟨b,B0,c0,_,g1,g2,g3,g4⟩:=given y hy;have:=hk b B0 _ _ g1 g2 g3;rw[g4] at this;exact this
  ·exact ⟨arr,by rw[hg.old q (some_lt hq) (fun y hy e=>hx ⟨y,hy,e⟩)];exact hq,rfl,fun _ _=>rfl⟩
 ·intro i B1 q s c1 h1 h2 h3 h4;rcases back i B1 h1 with ⟨rfl,rfl⟩ | ⟨hi,ho,h1⟩
  ·rw [hself] at h3;simp only[aA,aD] at h3;obtain ⟨rfl,rfl,rfl⟩:=h3;rcases hq0 with hq0 | ⟨y,hy,rfl,k1,k2⟩
   ·omega
   ·obtain ⟨b,B0,c0,_,g1,g2,g3,g4⟩:=given y hy;exact ⟨b,B0,_,c0,g1,g2,g3,k1,by rw[hwc,g4];exact k2⟩
  ·rw [hoth i hi] at h3;exact ⟨i,B1,s,c1,h1,h2,h3,aS _,aS _⟩
theorem resV_den {vs:List V1}{us:List Value}(h:denL1 N E vs=some us):(resV vs).den N E=some (tupOf us):=by
 match vs,h with
 | [],h=>simp only[denL1,aA] at h;subst h;rfl
 | [v],h =>obtain ⟨u,r,h1,h2,rfl⟩:=denL1_cons.1 h;simp only[denL1,aA] at h2;subst h2;exact h1
 | v::v'::l,h =>obtain ⟨u,r,h1,h2,rfl⟩:=denL1_cons.1 h;obtain ⟨u',r',h3,h4,rfl⟩:=denL1_cons.1 h2;simp only[resV,SV.den,h,Option.map_some,tupOf]
end
section
variable {P:Program} {F:Fns} {N:Num} {E:Env} {σ σ':St}
theorem apply_inv {ct:Ct}{args:List SV}{sv:SV}(h:ct.apply1 args σ=some (sv,σ')) :
 ∃is az σ1 σ2 vs,takeL ct.ps args σ=some (is,az,σ1)∧apartB (blksL ct.ps args)=true∧ct.okG=true ∧
  (match rwOf ct.ps args with
   | some (b,off,k,n)=>((σ1.ob (.prd ct.p is az)).mkA (.fn ct.fw is az)).wrt b off k σ1.na n
   | none=>some ((σ1.ob (.prd ct.p is az)).drop (grOf ct.ps args)))=some σ2 ∧
  (match slOf ct.res with
   | some (k,some n)=>resL ct.fi is az (.sl σ2.nb (.kst 0) (.kst n) none) ct.res 0 ((σ2.mkA (.fn ct.fs is az)).newA k σ2.na true)
   | some (k,none)=>resL ct.fi is az (.sl σ2.nb (.kst 0) (.var σ2.nx) none) ct.res 0 (((σ2.mkA (.fn ct.fs is az)).newA k σ2.na true).mk1 (.len σ2.na))
   | none=>resL ct.fi is az (.kst (.bool true)) ct.res 0 σ2)=some (vs,σ')∧sv=resV vs:=by
 unfold Ct.apply1 at h;split at h;·cases h
 ·rename_i is az σ1 h1;cases hb:(apartB (blksL ct.ps args)&&ct.okG) with
  | false=>rw[hb] at h;cases h
  | true =>
   rw[hb] at h;simp only[aH] at h;simp only[aG] at hb;split at h;·cases h
   ·rename_i σ2 h2;split at h
    ·rename_i vs σ3 h3;simp only[aA,aD] at h;obtain ⟨rfl,rfl⟩:=h;exact ⟨is,az,σ1,σ2,vs,h1,hb.1,hb.2,h2,h3,rfl⟩
    ·cases h
theorem drop_ext (σ:St)(o:Option Nat):Ext σ (σ.drop o):=by
 cases o with
 | none=>exact Ext.refl _
 | some b=>exact ⟨fun _ m=>m,fun _ m=>m,rfl,rfl,aS _⟩
theorem selG_den {l:List SV}{us:List Value}(h:denLV N E l=some us):∀ {s:List Nat},denLV N E (selG s l)=some (selG s us)
 | []=>rfl
 | i::s=>by
  have ih:=selG_den h (s:=s);have hl:∀ {l:List SV} {us:List Value} {i:Nat},denLV N E l=some us→(match lget l i with | some x=>∃v,lget us i=some v∧x.den N E=some v | none=>lget us i=none):=fun {l}=>by
   induction l with
   | nil=>intro us i h;simp only[denLV,aA] at h;subst h;rfl
   | cons x l ih =>
    intro us i h;obtain ⟨v,r,h1,h2,rfl⟩:=denLV_cons.1 h;cases i with
    | zero=>exact ⟨v,rfl,h1⟩
    | succ i=>exact ih h2
  have hi:=hl (i:=i) h;simp only[selG];cases e:lget l i with
  | none=>rw[e] at hi;simp only at hi;rw[hi];exact ih
  | some x =>rw[e] at hi;simp only at hi;obtain ⟨v,h1,h2⟩:=hi;rw[h1];exact denLV_cons.2 ⟨v,_,h2,ih,rfl⟩
theorem findJ_den {i:Nat}{x:SV}:∀ {s:List Nat} {l:List SV} {us:List Value},denLV N E l=some us→findJ s l i=some x→∃v,x.den N E=some v
 | [],_,_,_,h=>by cases h
 | _::_,[],_,_,h=>by cases h
 | j::s,y::l,us,hd,h=>by
  obtain ⟨v,r,h1,h2,rfl⟩:=denLV_cons.1 hd;simp only[findJ] at h;cases hb:Nat.beq j i with
  | true =>rw[hb] at h;simp only[aH,aA] at h;subst h;exact ⟨v,h1⟩
  | false=>rw[hb] at h;exact findJ_den h2 h
theorem unselL_den {s:List Nat}{args:List SV}{us:List Value}{y:Option SV}(hd:denLV N E args=some us)(hy:∀x,y=some x→∃v,x.den N E=some v):∀ {n i:Nat} {ps:List SV},unselL s args y n i=some ps→∃vs,denLV N E ps=some vs
 | 0,_,ps,h=>by simp only[unselL,aA] at h;subst h;exact ⟨[],rfl⟩
 | n+1,i,ps,h=>by
  simp only[unselL] at h;split at h
  ·rename_i x hx;split at h
   ·rename_i r hr;simp only[aA] at h;subst h;obtain ⟨vs,h2⟩:=unselL_den hd hy hr;have:∃v,x.den N E=some v:=by
     split at hx;·simp only[aA] at hx;subst hx;exact hy _ rfl
     ·exact findJ_den hd hx
    obtain ⟨v,h1⟩:=this;exact ⟨v::vs,denLV_cons.2 ⟨v,vs,h1,h2,rfl⟩⟩
   ·cases h
  ·cases h
theorem gptr_den {g:Nat}{y:SV}{w:World}(h:σ.gptr g=some y)(hI:Inv E σ)(hw:BW N E σ.bks w):∃b B c arr el fz p,σ.bks.get b=some B∧B.rw=false∧E.blk b=some (g,0,c)∧1≤B.wid N c∧w.heap[g]? =some (.cells arr el fz)∧arr[0]? =some p∧y.den N E=some p:=by
 unfold St.gptr at h;split at h
 ·rename_i b hg;obtain ⟨-,b',c,e1,e2⟩:=hI.glob _ _ hg;have e1:b=b':=by
   simp only[SV.one.injEq,V1.sc.injEq,Sc.ptr.injEq] at e1;exact e1.1
  subst e1;have eg:(2*g+1)/2=g:=by omega
  rw[eg] at e2;split at h
  ·rename_i B hB;split at h
   ·rename_i ha;split at h
    ·rename_i b2 o hc;cases hn:(Nat.blt 0 B.n&& !B.rw) with
     | false=>rw[hn] at h;cases h
     | true =>rw[hn] at h;simp only[aG,Bool.not_eq_true'] at hn;simp only[aH,aA] at h;subst h;obtain ⟨q,s,c',arr,el,fz,g1,g2,g3,g4,g5⟩:=hw.at' b B hB;rw[e2] at g1;simp only[aA,aD] at g1;obtain ⟨rfl,rfl,rfl⟩:=g1;unfold Bk.cont at g5;rw[ha] at g5;obtain ⟨-,u,u1,u2⟩:=g5 0 _ hc;refine ⟨b,B,c,arr,el,fz,u,hB,hn.2,e2,?_,g2,u1,u2⟩;unfold Bk.wid;rw[ha];exact bX.mp hn.1
    ·cases h
   ·cases h
  ·cases h
 ·cases h
theorem unsel_den {ct:Ct}{args args':List SV}{us:List Value}{w:World}(h:ct.unsel args σ=some args')(hd:denLV N E args=some us)(hI:Inv E σ)(hw:BW N E σ.bks w):∃us',denLV N E args'=some us'∧us=selL ct.sel us' ∧
 (match ct.glp with
  | none=>True
  | some g=>∃b B c arr el fz p,σ.bks.get b=some B∧B.rw=false∧E.blk b=some (g,0,c)∧1≤B.wid N c∧w.heap[g]? =some (.cells arr el fz)∧arr[0]? =some p∧∀v,us'.head? =some v→v=p):=by
 unfold Ct.unsel at h;split at h
 ·rename_i hs;split at h
  ·rename_i hg;simp only[aA] at h;subst h;rw[hs,hg];exact ⟨us,hd,rfl,trivial⟩
  ·cases h
 ·rename_i s hs;rw[hs];split at h
  ·rename_i y hy;split at h
   ·rename_i ps hps;cases he:eL eSV args (selG s ps) with
    | false=>rw[he] at h;cases h
    | true =>
     rw[he] at h;simp only[aH,aA] at h;subst h;have e:=eL_eq (fun _ _=>eSV_eq) he;have hyd:∀x,y=some x→∃v,x.den N E=some v:=fun x hx=>by
      cases hg2:ct.glp with
      | none=>rw[hg2] at hy;simp only[aA] at hy;subst hy;cases hx
      | some g =>rw[hg2] at hy;simp only[aV] at hy;obtain ⟨z,z1,z2⟩:=hy;subst z2;simp only[aA] at hx;subst hx;obtain ⟨b,B,c,arr,el,fz,p,-,-,-,-,-,-,k⟩:=gptr_den z1 hI hw;exact ⟨p,k⟩
     obtain ⟨vs,hv⟩:=unselL_den hd hyd hps;refine ⟨vs,hv,?_,?_⟩
     ·have:=selG_den hv (s:=s);rw[←e,hd] at this;simp only[aA] at this;exact this
     ·cases hg2:ct.glp with
      | none=>trivial
      | some g =>
       rw[hg2] at hy;simp only[aV] at hy;obtain ⟨z,z1,z2⟩:=hy;subst z2;obtain ⟨b,B,c,arr,el,fz,p,k1,k2,k3,k4,k5,k6,k7⟩:=gptr_den z1 hI hw;refine ⟨b,B,c,arr,el,fz,p,k1,k2,k3,k4,k5,k6,fun v hv0=> ?_⟩;cases hp:ct.ps with
       | nil =>rw[hp] at hps;simp only[dV,unselL,aA] at hps;subst hps;simp only[denLV,aA] at hv;subst hv;cases hv0
       | cons p0 pr =>
        rw[hp] at hps;simp only[bU,unselL] at hps;split at hps
        ·rename_i r hr;simp only[aA] at hps;subst hps;obtain ⟨v',r',h1,h2,rfl⟩:=denLV_cons.1 hv;rw[k7] at h1;simp only[aA] at h1;subst h1;simp only[List.head?_cons,aA] at hv0;exact hv0.symm
        ·cases hps
   ·cases h
  ·cases h
theorem apply_ext {ct:Ct}{args:List SV}{sv:SV}(h:ct.apply args σ=some (sv,σ')):Ext σ σ':=by
 unfold Ct.apply at h;split at h
 case h_2=>cases h
 obtain ⟨is,az,σ1,σ2,vs,h1,_,_,h2,h3,_⟩:=apply_inv h;refine ((takeL_pur h1).ext.trans ?_).trans (b:=σ2) ?_
 ·split at h2;·exact ((Ext.ob _ _).trans (Ext.mkA _ _)).trans (wrt_ext h2)
  ·simp only[aA] at h2;rw[←h2];exact (Ext.ob _ _).trans (drop_ext _ _)
 ·split at h3;·exact ((Ext.mkA _ _).trans (Ext.newA _ _ _ _)).trans (gU h3).ext
  ·exact (((Ext.mkA _ _).trans (Ext.newA _ _ _ _)).trans (Ext.mk1 _ _)).trans (gU h3).ext
  ·exact (gU h3).ext
theorem fresh_post {x:Option Win}{o:Option Nat}{k:IntKind}{A:Nat}{w w':World}{L:List Int}{v:Value}(hw:BW N E σ.bks w)(hI:Inv E σ)(hg:Grow x w w')(hG:GWok N E σ.bks o x)(hf:Fresh x w w' k L v)(hA:N.a A=L)
 {n:Ar} (hn:(n.ev N).toNat=L.length) (hs:σ'.bks=(σ.drop o).bks.set σ.nb {n:=0,rw:=true,cells:= .nil,arr:=some (k,A,true)}) (hnb:σ'.nb=σ.nb+1) (hnv:σ'.nv=σ.nv) (hgl:σ'.gl=σ.gl) :
 ∃E',Post N E σ w N E' σ' w'∧(Sc.sl σ.nb (.kst 0) n none).den N E'=some v:=by
 obtain ⟨q,s,c,arr,el,rfl,h1,h2,h3,h4,h5,h6⟩:=hf;refine ⟨E.addB σ.nb (q,s,c),newBk_grow (B:={n:=0,rw:=true,cells:= .nil,arr:=some (k,A,true)}) hw hI hg hG h2 h3 ?_ h4 ?_ hs hnb hnv hgl,?_⟩
 ·simp only[Bk.wid,aH,hA];exact Nat.max_eq_left h1
 ·simp only[Bk.cont,hA];exact ⟨h5,fun _=>h6⟩
 ·have:=sl_mk (N:=N) (E:=E.addB σ.nb (q,s,c)) (b:=σ.nb) (off:= .kst 0) (len:=n) (cap:=none) fK (bK _) (fun _=>by rw[gE,hn];simpa using h1);rw[this,hn];simp[capOf,gE]
theorem rwN_none:∀ {ps:List Pa} {xs:List SV},ownN ps=0→rwOf ps xs=none
 | [],xs,_=>by cases xs <;> rfl
 | .int _::ps,[],_=>rfl
 | .agg _ _::ps,[],_=>rfl
 | .emp::ps,[],_=>rfl
 | .ign::ps,[],_=>rfl
 | .zc::ps,[],_=>rfl
 | .kst _::ps,[],_=>rfl
 | .gr _::ps,_,h=>by cases h
 | .ptr _ _ true::ps,_,h=>by cases h
 | .sl _ true _::ps,_,h=>by cases h
 | .ptr _ _ false::ps,[],_=>rfl
 | .sl _ false _::ps,[],_=>rfl
 | .int _::ps,x::xs,h=>rwN_none (ps:=ps) (xs:=xs) h
 | .agg _ _::ps,x::xs,h=>rwN_none (ps:=ps) (xs:=xs) h
 | .emp::ps,x::xs,h=>rwN_none (ps:=ps) (xs:=xs) h
 | .ign::ps,x::xs,h=>rwN_none (ps:=ps) (xs:=xs) h
 | .zc::ps,x::xs,h=>rwN_none (ps:=ps) (xs:=xs) h
 | .kst _::ps,x::xs,h=>rwN_none (ps:=ps) (xs:=xs) h
 | .ptr _ _ false::ps,x::xs,h=>rwN_none (ps:=ps) (xs:=xs) h
 | .sl _ false _::ps,x::xs,h=>rwN_none (ps:=ps) (xs:=xs) h
theorem grN_rw:∀ {ps:List Pa} {xs:List SV},hasGr ps=true→ownN ps=1→rwOf ps xs=none
 | [],xs,h,_=>by cases h
 | .gr _::ps,[],_,_=>rfl
 | .gr _::ps,x::xs,_,h=>rwN_none (ps:=ps) (xs:=xs) (by simpa [ownN] using h)
 | .ptr _ _ true::ps,xs,h,h1=>(grN_no (ps:=ps) h (by simpa [ownN] using h1)).elim
 | .sl _ true _::ps,xs,h,h1=>(grN_no (ps:=ps) h (by simpa [ownN] using h1)).elim
 | .int _::ps,[],_,_=>rfl
 | .agg _ _::ps,[],_,_=>rfl
 | .emp::ps,[],_,_=>rfl
 | .ign::ps,[],_,_=>rfl
 | .zc::ps,[],_,_=>rfl
 | .kst _::ps,[],_,_=>rfl
 | .ptr _ _ false::ps,[],_,_=>rfl
 | .sl _ false _::ps,[],_,_=>rfl
 | .int _::ps,x::xs,h,h1=>grN_rw (ps:=ps) (xs:=xs) h h1
 | .agg _ _::ps,x::xs,h,h1=>grN_rw (ps:=ps) (xs:=xs) h h1
 | .emp::ps,x::xs,h,h1=>grN_rw (ps:=ps) (xs:=xs) h h1
 | .ign::ps,x::xs,h,h1=>grN_rw (ps:=ps) (xs:=xs) h h1
 | .zc::ps,x::xs,h,h1=>grN_rw (ps:=ps) (xs:=xs) h h1
 | .kst _::ps,x::xs,h,h1=>grN_rw (ps:=ps) (xs:=xs) h h1
 | .ptr _ _ false::ps,x::xs,h,h1=>grN_rw (ps:=ps) (xs:=xs) h h1
 | .sl _ false _::ps,x::xs,h,h1=>grN_rw (ps:=ps) (xs:=xs) h h1
 where
 grN_no:∀ {ps:List Pa},hasGr ps=true→ownN ps=0→False
  | [],h,_=>by cases h
  | .gr _::ps,_,h=>by cases h
  | .ptr _ _ true::ps,_,h=>by cases h
  | .sl _ true _::ps,_,h=>by cases h
  | .int _::ps,h,h1=>grN_no (ps:=ps) h h1
  | .agg _ _::ps,h,h1=>grN_no (ps:=ps) h h1
  | .emp::ps,h,h1=>grN_no (ps:=ps) h h1
  | .ign::ps,h,h1=>grN_no (ps:=ps) h h1
  | .zc::ps,h,h1=>grN_no (ps:=ps) h h1
  | .kst _::ps,h,h1=>grN_no (ps:=ps) h h1
  | .ptr _ _ false::ps,h,h1=>grN_no (ps:=ps) h h1
  | .sl _ false _::ps,h,h1=>grN_no (ps:=ps) h h1
theorem grW_none:∀ {ps:List Pa} {ws:List (Option Win)},hasGr ps=false→grW ps ws=none
 | [],ws,_=>by cases ws <;> rfl
 | .gr _::ps,_,h=>by cases h
 | .int _::ps,[],_=>rfl
 | .agg _ _::ps,[],_=>rfl
 | .emp::ps,[],_=>rfl
 | .ign::ps,[],_=>rfl
 | .zc::ps,[],_=>rfl
 | .kst _::ps,[],_=>rfl
 | .ptr _ _ _::ps,[],_=>rfl
 | .sl _ _ _::ps,[],_=>rfl
 | .int _::ps,x::xs,h=>grW_none (ps:=ps) (ws:=xs) h
 | .agg _ _::ps,x::xs,h=>grW_none (ps:=ps) (ws:=xs) h
 | .emp::ps,x::xs,h=>grW_none (ps:=ps) (ws:=xs) h
 | .ign::ps,x::xs,h=>grW_none (ps:=ps) (ws:=xs) h
 | .zc::ps,x::xs,h=>grW_none (ps:=ps) (ws:=xs) h
 | .kst _::ps,x::xs,h=>grW_none (ps:=ps) (ws:=xs) h
 | .ptr _ _ _::ps,x::xs,h=>grW_none (ps:=ps) (ws:=xs) h
 | .sl _ _ _::ps,x::xs,h=>grW_none (ps:=ps) (ws:=xs) h
theorem apply_sound {ct:Ct}{f:FuncId}(hS:CSpec P F f ct){args:List SV}{sv:SV}(h:ct.apply args σ=some (sv,σ')){us:List Value}{w:World}(hH:Hold F N σ')(hI:Inv E σ)(hw:BW N E σ.bks w)(hd:denLV N E args=some us) :
 Calls P f us.toArray w fun e w'=>∃E' u,e= .returned u∧Post N E σ w N E' σ' w'∧sv.den N E'=some u:=by
 unfold Ct.apply at h;split at h
 case h_2=>cases h
 rename_i args' hun;obtain ⟨us,hd',rfl,hgl⟩:=unsel_den hun hd hI hw;clear hun;obtain ⟨is,az,σ1,σ2,vs,h1,hap,hok,h2,h3,rfl⟩:=apply_inv h;have hq:Ext σ2 σ':=by
  split at h3;·exact ((Ext.mkA _ _).trans (Ext.newA _ _ _ _)).trans (gU h3).ext
  ·exact (((Ext.mkA _ _).trans (Ext.newA _ _ _ _)).trans (Ext.mk1 _ _)).trans (gU h3).ext
  ·exact (gU h3).ext
 have hH2:Hold F N σ2:=eT hq hH;have hp1:=takeL_pur h1;have hHo:Hold F N (σ1.ob (.prd ct.p is az)):=by
  split at h2;·exact eT ((Ext.mkA _ _).trans (wrt_ext h2)) hH2
  ·simp only[aA] at h2;rw[←h2] at hH2;exact eT (drop_ext _ _) hH2
 have hH1:=eT (Ext.ob _ _) hHo;obtain ⟨ws,hA,hWB,hRW,hGW⟩:=takeL_sound h1 hH1 hw hd';have hpr:F.p ct.p (is.map (·.ev N)) (az.map N.a):=by
  have:N.f.p ct.p (is.map (·.ev N)) (az.map N.a):=hHo.ob
  rwa [hH.fns] at this
 have hglo:GlobOk ct.glp w us ws:=by
  cases hg:ct.glp with
  | none=>trivial
  | some g =>
   rw[hg] at hgl;obtain ⟨b,B,c,arr,el,fz,p,k1,k2,k3,k4,k5,k6,k7⟩:=hgl;refine ⟨arr,el,fz,p,k5,k6,k7,fun y hy hr hq=> ?_⟩;obtain ⟨b',B',s0,c',g1,g2,g3,g4,g5,g6⟩:=WB.get hWB hy;have hne:b'≠b:=fun e=>by rw[e,k1] at g2;simp only[aA] at g2;have:=g3 hr;rw[←g2,k2] at this;cases this
   rw[hq] at g4;have:=hw.apart b' b B' B _ _ _ _ _ g2 k1 hne g4 k3 (.inl (g3 hr));omega
 refine (hS us _ _ ws w hA (WB.apart hw hWB hap) hglo hpr).mono ?_;rintro e w' ⟨u,rfl,w1,vs',sl,rfl,hw1,hg,hsl,hres⟩;have hI1:=hI.pur hp1;have hw1':BW N E σ1.bks w:=by rw[hp1.bks];exact hw
 have hgr:∀b,grOf ct.ps args'=some b→hasGr ct.ps=true:=fun b e=>by
  cases hh:hasGr ct.ps with
  | true=>rfl
  | false=>rw[e,grW_none hh] at hGW;exact hGW.elim
 have hok2:hasGr ct.ps=true→rwOf ct.ps args'=none∧slOf ct.res≠none:=fun hh=>by unfold Ct.okG at hok;simp only[hh,Bool.not_true,Bool.false_or,aG] at hok;refine ⟨grN_rw hh (aF hok.1),fun e=> ?_⟩;rw[e] at hok;cases hok.2
 have stepA:∃σb o,σ2=σb.drop o∧Post N E σ w N E σb w1∧GWok N E σb.bks o (grW ct.ps ws)∧(slOf ct.res=none→o=none):=by
  split at h2
  ·rename_i b off k n hro;have hn:hasGr ct.ps=false:=by
    cases hh:hasGr ct.ps with
    | false=>rfl
    | true=>rw[(hok2 hh).1] at hro;cases hro
   rw[hro] at hRW;cases hrw:rwW ct.ps ws with
   | none=>rw[hrw] at hRW;exact hRW.elim
   | some y =>
    obtain ⟨x,k'⟩:=y;rw[hrw] at hRW hw1;obtain ⟨rfl,s0,c,g1,g2,g3⟩:=hRW;obtain ⟨m1,m2⟩:=hw1;have hHw:=eT (wrt_ext h2) hH2;have hX:N.a σ1.na=_:=hHw.mkA;simp only[Ad.ev,hH.fns] at hX;have hp:Pur σ1 ((σ1.ob (.prd ct.p is az)).mkA (.fn ct.fw is az)):=(Pur.ob _ _).trans (Pur.mkA _ _);obtain ⟨w2,r1,r2⟩:=wrt_sound (P:=P) h2 g1 hH2 (by rw[hp.bks];exact hw1') (hI1.pur hp) (by rw[hX,m1,g3]);rw[hX,←g2,m2] at r1;injection r1 with _ r1
    subst r1;exact ⟨σ2,none,rfl,(fD hp1 hI hw).trans ((fD hp hI1 hw1').trans r2),by rw[grW_none hn];trivial,fun _=>rfl⟩
  ·rename_i hro;rw[hro] at hRW;simp only[aA] at h2;cases hrw:rwW ct.ps ws with
   | some y=>rw[hrw] at hRW;exact hRW.elim
   | none =>
    rw[hrw] at hw1;simp only at hw1;subst hw1;refine ⟨σ1.ob (.prd ct.p is az),grOf ct.ps args',h2.symm,(fD hp1 hI hw).trans (fD (Pur.ob _ _) hI1 hw1'),?_,fun e=> ?_⟩
    ·have:(σ1.ob (.prd ct.p is az)).bks=σ.bks:=hp1.bks;rw[this];exact hGW
    ·cases hg:grOf ct.ps args' with
     | none=>rfl
     | some b=>exact ((hok2 (hgr b hg)).2 e).elim
 obtain ⟨σb,o,rfl,stepA,hGb,hno⟩:=stepA;have fin:∀ {σ3:St} {E3:Env} {sc:Sc},Post N E σb w1 N E3 σ3 w'→(slOf ct.res≠none→sc.den N E3=some sl)→(∀ b len,sc= .sl b (.kst (.ofNat 0)) len none→sc.den N E3=some sl)→resL ct.fi is az sc ct.res 0 σ3=some (vs,σ') →
  ∃E' u,Ending.returned (tupOf vs')=Ending.returned u∧Post N E σ w N E' σ' w'∧(resV vs).den N E'=some u:=fun {σ3 E3 sc} hp hsc hsc2 hr=>by
  obtain ⟨E',e1,e2,e3,e4⟩:=resL_sound hr hH hp.inv hsc hsc2 hres;exact ⟨E',_,rfl,(stepA.trans hp).trans (Post.of_qx (gU hr) e3 e1 e2 hp.bw),resV_den e4⟩
 have dr:∀ad,(((σb.drop o).mkA ad).bks=((σb.mkA ad).drop o).bks)∧((σb.drop o).nb=σb.nb)∧((σb.drop o).nv=σb.nv)∧((σb.drop o).gl=σb.gl)∧(σb.drop o).nx=σb.nx∧(σb.drop o).na=σb.na:=fun ad=>by cases o <;> exact ⟨rfl,rfl,rfl,rfl,rfl,rfl⟩
 obtain ⟨d1,d2,d3,d4,d5,d6⟩:=dr (.fn ct.fs is az);have pb:Post N E σb w1 N E (σb.mkA (.fn ct.fs is az)) w1:=fD (Pur.mkA _ _) stepA.inv stepA.bw;have dbks:∀k,(((σb.drop o).mkA (.fn ct.fs is az)).newA k (σb.drop o).na true).bks=((σb.mkA (.fn ct.fs is az)).drop o).bks.set σb.nb {n:=0,rw:=true,cells:= .nil,arr:=some (k,(σb.drop o).na,true)}:=fun k=>by rw[←d1,←d2];rfl
 split at h3
 ·rename_i k n hso;rw[hso] at hsl;have hX:N.a (σb.drop o).na=_:=(eT ((Ext.newA _ _ _ _).trans (gU h3).ext) hH).mkA;simp only[Ad.ev,hH.fns] at hX;obtain ⟨E3,p1,p2⟩:=fresh_post (σ':=((σb.drop o).mkA (.fn ct.fs is az)).newA k (σb.drop o).na true) (A:=(σb.drop o).na) (n:= .kst n) pb.bw pb.inv hg hGb hsl.1 hX (by simp[gE,hsl.2 n rfl]) (dbks k) (by rw[←show (σb.drop o).nb=(σb.mkA (.fn ct.fs is az)).nb from d2];rfl) (by rw[←show (σb.drop o).nv=(σb.mkA (.fn ct.fs is az)).nv from d3];rfl) (by rw[←show (σb.drop o).gl=(σb.mkA (.fn ct.fs is az)).gl from d4];rfl)
  rw[←show (σb.drop o).nb=(σb.mkA (.fn ct.fs is az)).nb from d2] at p2;exact fin (pb.trans p1) (fun _=>p2) (fun _ _ _=>p2) h3
 ·rename_i k hso;rw[hso] at hsl;have hHn:=eT (gU h3).ext hH;have hl:N.i (σb.drop o).nx=_:=hHn.mk1;have hX:N.a (σb.drop o).na=_:=(eT ((Ext.newA _ _ _ _).trans (Ext.mk1 _ _)) hHn).mkA;simp only[Ad.ev,Nd.ev,hH.fns] at hX hl;obtain ⟨E3,p1,p2⟩:=fresh_post (σ':=(((σb.drop o).mkA (.fn ct.fs is az)).newA k (σb.drop o).na true).mk1 (.len (σb.drop o).na)) (A:=(σb.drop o).na) (n:= .var (σb.drop o).nx) pb.bw pb.inv hg hGb hsl.1 hX (by simp[Ar.ev,hl,hX]) (dbks k) (by rw[←show (σb.drop o).nb=(σb.mkA (.fn ct.fs is az)).nb from d2];rfl) (by rw[←show (σb.drop o).nv=(σb.mkA (.fn ct.fs is az)).nv from d3];rfl) (by rw[←show (σb.drop o).gl=(σb.mkA (.fn ct.fs is az)).gl from d4];rfl)
  rw[←show (σb.drop o).nb=(σb.mkA (.fn ct.fs is az)).nb from d2] at p2;exact fin (pb.trans p1) (fun _=>p2) (fun _ _ _=>p2) h3
 ·rename_i hso;have:=hno hso;subst this;have hgn:grW ct.ps ws=none:=by
   cases hh:grW ct.ps ws with
   | none=>rfl
   | some y=>rw[hh] at hGb;exact hGb.elim
  rw[hgn] at hg;exact fin (grow_post stepA.bw stepA.inv hg) (fun k=>(k hso).elim) (fun _ _ e=>by cases e) h3
def tryCts:List Ct→List SV→St→Option (SV×St)
 | [],_,_=>none
 | c::cs,args,σ=>match c.apply args σ with
  | some r=>some r
  | none=>tryCts cs args σ
def lkT:List (FuncId×List Ct)→FuncId→Option (List Ct)
 | [],_=>none
 | (g,cs)::l,f=>bif Nat.beq f g then some cs else lkT l f
def hasBody (P:Program)(f:FuncId):Bool :=
 match P.funcs[f]? with
 | some fn => (match fn.body with | some _ => true | none => false) && !(fn.name == "runtime.NumGoroutine")
 | none=>false
def tabU (tab:List (FuncId×List Ct))(fb:FuncId→List SV→St→Option (SV×St))(f:FuncId):Option (List SV→St→Option (SV×St)) :=
 match lkT tab f with
 | none=>none
 | some cs=>some fun args σ=>match tryCts cs args σ with
  | some r=>some r
  | none=>fb f args σ
def noCall (_:FuncId)(_:List SV)(_:St):Option (SV×St):=none
theorem noCall_ok:CallOk F P noCall:=fun f args σ sv σ' h=>by cases h
theorem callFunc_enter {f:FuncId}(h:hasBody P f=true)(args:Array Value)(w:World):(callFunc f args).run P w= .ok (.enter f args) w:=by
 unfold hasBody at h;split at h
 ·rename_i fn hf;simp only[aG,Bool.not_eq_true'] at h;obtain ⟨hb,hn⟩:=h;split at hb
  ·rename_i body hbo;have h1 : fn.name ≠ "runtime.NumGoroutine" := by simpa using hn
   simp[callFunc,hf,h1,hbo]
  ·cases hb
 ·cases h
theorem tryCts_ok {f:FuncId}(hb:hasBody P f=true):∀ {cs:List Ct},(∀ c∈cs,CSpec P F f c)→∀ {args:List SV} {σ σ':St} {sv:SV},tryCts cs args σ=some (sv,σ') →
 Ext σ σ'∧∀N E us w,Hold F N σ'→Inv E σ→BW N E σ.bks w→denLV N E args=some us →
  Calls P f us.toArray w fun e w'=>∃E' u,e= .returned u∧Post N E σ w N E' σ' w'∧sv.den N E'=some u
 | [],_,args,σ,σ',sv,h=>by cases h
 | c::cs,hc,args,σ,σ',sv,h=>by
  simp only[tryCts] at h;split at h
  ·rename_i r hr;simp only[aA] at h;subst h;exact ⟨apply_ext hr,fun N E us w hH hI hw hd=>apply_sound (hc c aN) hr hH hI hw hd⟩
  ·exact tryCts_ok hb (fun c' h'=>hc c' (aJ _ h')) h
theorem tabU_ok {tab:List (FuncId×List Ct)}{fb:FuncId→List SV→St→Option (SV×St)}(hfb:CallOk F P fb)(ht:∀f cs,lkT tab f=some cs→hasBody P f=true∧∀c∈cs,CSpec P F f c) :
 CallOk F P (fun f args σ=>(tabU tab fb f).bind fun c=>c args σ):=fun f args σ sv σ' h=>by
 simp only[tabU] at h;split at h;·cases h
 ·rename_i cs hl;simp only[dY] at h;obtain ⟨hb,hc⟩:=ht f cs hl;split at h
  ·rename_i r hr;simp only[aA] at h;subst h;obtain ⟨e1,e2⟩:=tryCts_ok hb hc hr;exact ⟨e1,fun N E us w hH hI hw hd=> .inr ⟨callFunc_enter hb _ _,e2 N E us w hH hI hw hd⟩⟩
  ·exact hfb f args σ sv σ' h
end
end Go.Sy
