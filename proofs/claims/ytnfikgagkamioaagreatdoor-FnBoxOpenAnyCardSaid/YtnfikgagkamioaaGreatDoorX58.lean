/- spec.Less does as its contract says. -/
import Derived.Test.YtnfikgagkamioaaGreatDoorZb
namespace Go.Sy
structure CxOk (cx:Cx) (F:Fns):Prop where
 mul:∀a b:Int,0<cx.fm→0≤a→a<18446744073709551616→0≤b→b<18446744073709551616→F.i cx.fm [a,b] [] 0=a*b/18446744073709551616∧F.i cx.fm [a,b] [] 1=a*b%18446744073709551616
 up:∀p,cx.up p=true→∀is az,(∀ n∈is,0≤n∧n<18446744073709551616)→F.p p is az
 fl:∀f m,cx.fl f=m+1→∀is az j,0≤(F.a f is az).getD j 0∧(F.a f is az).getD j 0≤(m:Int)
 fi:∀f m,cx.fi f=m+1→∀is az j,0≤F.i f is az j∧F.i f is az j≤(m:Int)
section
variable {N:Num} {cx:Cx} {F:Fns}
structure PxOk (N:Num) (fm:Nat) (p:Px):Prop where
 qs:∀q x m,(q,x,m)∈p.qs→0<m∧(0≤N.i x→N.i x≤18446744073709551615→N.i q=N.i x/(m:Int))
 ca:∀y a b c,(y,a,b,c)∈p.ca→N.i y=(Nd.addC a b c).ev N
 ma:∀y a b,(y,a,b)∈p.ma→N.i y=N.f.i fm [a.ev N,b.ev N] [] 0
theorem iop_shr_nat {k:IntKind}{x:Int}{n:Nat}(hn:n≤k.bits):iop .shr k x (Int.ofNat n)=x/((2^n:Nat):Int):=by
 rw[show Int.ofNat n=(n:Int) from rfl,shr_kst hn];simp
theorem iop_quo_nat {k:IntKind}{x:Int}{m:Nat}(h0:0≤x)(h:x≤kMax k):iop .quo k x (Int.ofNat m)=x/(m:Int):=by
 simp only[iop];rw[Int.tdiv_eq_ediv_of_nonneg h0,show Int.ofNat m=(m:Int) from rfl];refine wrap_id (Int.ediv_nonneg h0 (by omega)) (Int.le_trans (Int.ediv_le_self _ h0) h)
theorem pre1_ok {fm:Nat}{d:Df}{p:Px}(h0:d.sat N)(h:PxOk N fm p):PxOk N fm (pre1 fm p d):=by
 unfold pre1
 split
 ·rename_i q k x n;cases hb:Nat.ble n k.bits with
  | false=>exact h
  | true =>
   refine ⟨fun q' x' m' hm=> ?_,h.ca,h.ma⟩;rcases cD.1 hm with e | e
   ·simp only[aD] at e;obtain ⟨rfl,rfl,rfl⟩:=e;refine ⟨Nat.pow_pos (by decide),fun _ _=> ?_⟩;have h0:N.i q'=iop .shr k (N.i x') (Int.ofNat n):=h0;rw[h0,iop_shr_nat (aM hb)]
   ·exact h.qs _ _ _ e
 ·rename_i q k x m;cases hb:(Nat.blt 0 m&&kindB k .u64) with
  | false=>exact h
  | true =>
   simp only[aG] at hb;have hk:=fT hb.2;subst hk;refine ⟨fun q' x' m' hm=> ?_,h.ca,h.ma⟩;rcases cD.1 hm with e | e
   ·simp only[aD] at e;obtain ⟨rfl,rfl,rfl⟩:=e;refine ⟨bX.mp hb.1,fun g0 g1=> ?_⟩;have h0:N.i q'=iop .quo .u64 (N.i x') (Int.ofNat m'):=h0;rw[h0,iop_quo_nat (k:= .u64) g0 g1]
   ·exact h.qs _ _ _ e
 ·refine ⟨h.qs,fun y' a' b' c' hm=> ?_,h.ma⟩;rcases cD.1 hm with e | e
  ·simp only[aD] at e;obtain ⟨rfl,rfl,rfl,rfl⟩:=e;exact h0
  ·exact h.ca _ _ _ _ e
 ·rename_i y f a b;cases hb:Nat.beq f fm with
  | false=>exact h
  | true =>
   have:=aF hb;subst this;refine ⟨h.qs,h.ca,fun y' a' b' hm=> ?_⟩;rcases cD.1 hm with e | e
   ·simp only[aD] at e;obtain ⟨rfl,rfl,rfl⟩:=e;exact h0
   ·exact h.ma _ _ _ e
 ·exact h
theorem pre_ok {fm:Nat}:∀ {ds:List Df} {p:Px},(∀ d∈ds,d.sat N)→PxOk N fm p→PxOk N fm (pre fm ds p)
 | [],_,_,h=>h
 | d::r,_,hd,h=>pre_ok (ds:=r) (fun d' hm=>hd d' (aJ _ hm)) (pre1_ok (hd d aN) h)
theorem qGet_mem {x m q:Nat}:∀ {qs:List (Nat×Nat×Nat)},qGet qs x m=some q→(q,x,m)∈qs
 | [],h=>by cases h
 | (q',y,n)::l,h=>by
  simp only[qGet] at h;cases hb:(Nat.beq y x&&Nat.beq n m) with
  | true =>rw[hb] at h;simp only[aG] at hb;simp only[aH,aA] at h;rw[←h,←aF hb.1,←aF hb.2];exact aN
  | false=>rw[hb] at h;exact aJ _ (qGet_mem h)
theorem caGet_mem {a b c:Ar}{y:Nat}:∀ {l:List (Nat×Ar×Ar×Ar)},caGet l a b c=some y→(y,a,b,c)∈l
 | [],h=>by cases h
 | (y',a',b',c')::l,h=>by
  simp only[caGet] at h;cases hb:(eAr a' a&&eAr b' b&&eAr c' c) with
  | true =>rw[hb] at h;simp only[aG] at hb;simp only[aH,aA] at h;rw[←h,←fF hb.1.1,←fF hb.1.2,←fF hb.2];exact aN
  | false=>rw[hb] at h;exact aJ _ (caGet_mem h)
theorem maGet_mem {a b:Ar}{y:Nat}:∀ {l:List (Nat×Ar×Ar)},maGet l a b=some y→(y,a,b)∈l
 | [],h=>by cases h
 | (y',a',b')::l,h=>by
  simp only[maGet] at h;cases hb:(eAr a' a&&eAr b' b) with
  | true =>rw[hb] at h;simp only[aG] at hb;simp only[aH,aA] at h;rw[←h,←fF hb.1,←fF hb.2];exact aN
  | false=>rw[hb] at h;exact aJ _ (maGet_mem h)
structure SxOk (N:Num) (s:Sx):Prop where
 t:∀x A,s.t.get x=some A→A.ok N (N.i x)
 la:∀A ad,s.la.get A=some ad→N.a A=ad.ev N
theorem abAr_ok {t:Tr Ab}(ht:∀x A,t.get x=some A→A.ok N (N.i x)){a:Ar}{A:Ab}(h:abAr t a=some A):A.ok N (a.ev N):=by
 cases a with
 | var x=>exact ht x A h
 | kst n =>
  cases n with
  | ofNat n =>simp only[abAr,aA] at h;subst h;exact ⟨pk_ev.symm,bK _,bK _⟩
  | negSucc n=>cases h
theorem atom_ok {x lo hi:Nat}(h0:(lo:Int)≤N.i x)(h1:N.i x≤hi):(atomA x lo hi).ok N (N.i x):=⟨px_ev.symm,h0,h1⟩
theorem abMod_ok {x m:Nat}{qs:List (Nat×Nat×Nat)}{a:Ar}{A:Ab}(hq:∀q x m,(q,x,m)∈qs→0<m∧(0≤N.i x→N.i x≤18446744073709551615→N.i q=N.i x/(m:Int)))(hA:A.ok N (a.ev N))(hm:0<m)(h64:A.hi≤18446744073709551615)(hx:N.i x=a.ev N%(m:Int)):(abMod x qs a A m).ok N (N.i x):=by
 obtain ⟨e1,e2,e3⟩:=hA;have h0:0≤a.ev N:=by omega
 have r1:=Int.emod_nonneg (a.ev N) (show (m:Int)≠0 by omega);have r2:=eI (a.ev N) (show (0:Int)<(m:Int) by omega);unfold abMod;cases hb:Nat.blt A.hi m with
 | true =>
  have:=bX.mp hb;have e:N.i x=a.ev N:=by rw[hx];exact bN h0 (by omega)
  rw[e];exact ⟨e1,e2,e3⟩
 | false =>
  simp only[aQ]
  split
  ·rename_i q hqv;cases a with
   | kst n=>cases hqv
   | var y =>obtain ⟨-,k⟩:=hq _ _ _ (qGet_mem hqv);have k:=k h0 (by show N.i y≤_;have:N.i y≤(A.hi:Int):=e3;omega);refine ⟨?_,by rw[hx];exact r1,by rw[hx];show Ar.ev N (.var y)%_≤((m-1:Nat):Int);omega⟩;rw[fS,fN,px_ev,←e1,k,hx];show N.i y%(m:Int)=N.i y+ -(m:Int)*(N.i y/(m:Int));have:=Int.mul_ediv_add_emod (N.i y) (m:Int);rw[Int.neg_mul];omega
  ·exact atom_ok (by rw[hx];exact r1) (by rw[hx];omega)
theorem abDiv_ok {x m:Nat}{a:Int}{A:Ab}(hA:A.ok N a)(hm:0<m)(hx:N.i x=a/(m:Int)):(abDiv x A m).ok N (N.i x):=by
 obtain ⟨e1,e2,e3⟩:=hA;have h0:0≤a:=by omega
 unfold abDiv;cases hb:Nat.blt A.hi m with
 | true =>
  have:=bX.mp hb;have e:N.i x=0:=by rw[hx];exact Int.ediv_eq_zero_of_lt h0 (by omega)
  rw[e];exact ⟨rfl,bK _,bK _⟩
 | false =>
  refine atom_ok ?_ ?_;·rw [hx,Int.natCast_ediv];exact Int.ediv_le_ediv (by omega) e2
  ·rw [hx,Int.natCast_ediv];exact Int.ediv_le_ediv (by omega) e3
theorem top_ok {x:Nat}{k:IntKind}{A:Ab}(h:top x k=some A)(hx:unsignedB k=true→0≤N.i x∧N.i x≤kMax k):A.ok N (N.i x):=by
 unfold top at h;cases hk:unsignedB k with
 | false=>rw[hk] at h;cases h
 | true =>rw[hk] at h;simp only[aH,aA] at h;subst h;exact atom_ok (hx hk).1 (hx hk).2
theorem pow2_gt (n:Nat):n<pow2 n∧∃c,pow2 n=2^c:=by
 unfold pow2;cases hb:Nat.beq n 0 with
 | true=>rw[aF hb];exact ⟨by decide,0,rfl⟩
 | false=>exact ⟨Nat.lt_log2_self,_,rfl⟩
theorem or_apart {x y c:Nat}(hy:y<2^c)(hx:2^c ∣ x):x|||y=x+y:=by
 obtain ⟨z,rfl⟩:=hx;rw[Nat.or_comm,Nat.mul_comm,or_add hy,Nat.add_comm]
theorem gK {k:IntKind}(hk:unsignedB k=true)(op:BinOp)(a b:Int)(h:match op with | .add | .sub | .mul | .and | .or | .xor | .andNot | .shl=>True | _=>False):0≤iop op k a b∧iop op k a b≤kMax k:=by
 cases op <;> simp only at h <;> exact wrap_rng hk _
theorem kMax_le (k:IntKind):kMax k≤18446744073709551615:=by cases k <;> decide
theorem mul_bnd {a b:Int}{A B:Ab}(ha:A.ok N a)(hb:B.ok N b):((A.lo*B.lo:Nat):Int)≤a*b∧a*b≤((A.hi*B.hi:Nat):Int):=by
 obtain ⟨_,a1,a2⟩:=ha;obtain ⟨_,b1,b2⟩:=hb;rw[Int.natCast_mul,Int.natCast_mul];exact ⟨Int.mul_le_mul a1 b1 (by omega) (by omega),Int.mul_le_mul a2 b2 (by omega) (by omega)⟩
theorem iop_or_apart {k:IntKind}{a b:Int}{A B:Ab}(hk:unsignedB k=true)(ha:A.ok N a)(hb:B.ok N b)(h1:A.hi≤kMax k)(h2:B.hi≤kMax k)(hd:pdiv (pow2 B.hi) A.p=true):iop .or k a b=a+b:=by
 obtain ⟨e1,a1,a2⟩:=ha;obtain ⟨e2,b1,b2⟩:=hb;obtain ⟨x,rfl⟩:=aZ (show 0≤a by omega);obtain ⟨y,rfl⟩:=aZ (show 0≤b by omega);have hm:=kMax_uns hk;obtain ⟨hp,c,hc⟩:=pow2_gt B.hi;have hdv:((pow2 B.hi:Nat):Int) ∣ ((x:Nat):Int):=by rw[e1];exact pdiv_ev hd
 rw[iop_or hk (by omega) (by omega),or_apart (c:=c) (by omega) (by rw[←hc];exact Int.natCast_dvd_natCast.1 hdv)];rfl
theorem iop_or_comm {k:IntKind}{a b:Int}:iop .or k a b=iop .or k b a:=by
 simp only[iop];rw[BitVec.or_comm]
theorem abBin_ok {x:Nat}{px':Px}(hp:PxOk N cx.fm px'){op:BinOp}{k:IntKind}{a b:Ar}{A B R:Ab}(hA:A.ok N (a.ev N))(hB:B.ok N (b.ev N))(h:abBin x px'.qs op k a b A B=some R)(hx:N.i x=iop op k (a.ev N) (b.ev N)):R.ok N (N.i x):=by
 have ⟨ea,a1,a2⟩:=hA;have ⟨eb,b1,b2⟩:=hB;have h64:=kMax_le k;cases op <;> simp only[abBin,reduceCtorEq] at h
 case add =>
  cases hc:Nat.ble (A.hi+B.hi) (kMax k) with
  | false=>rw[hc] at h;exact top_ok h fun hk=>by rw[hx];exact gK hk _ _ _ trivial
  | true =>
   have:=aM hc;rw[hc] at h;simp only[aH,aA] at h;subst h;have e:N.i x=a.ev N+b.ev N:=by rw[hx];exact wrap_id (by omega) (by omega)
   rw[e];exact ⟨by rw[fS,←ea,←eb],by show ((A.lo+B.lo:Nat):Int)≤_;omega,by show _≤((A.hi+B.hi:Nat):Int);omega⟩
 case sub =>
  cases hc:(Nat.ble B.hi A.lo&&Nat.ble A.hi (kMax k)) with
  | false=>rw[hc] at h;exact top_ok h fun hk=>by rw[hx];exact gK hk _ _ _ trivial
  | true =>
   simp only[aG] at hc;have h1:=aM hc.1;have h2:=aM hc.2;rw[hc.1,hc.2] at h;simp only[Bool.and_self,aH,aA] at h;subst h;have e:N.i x=a.ev N-b.ev N:=by rw[hx];exact wrap_id (by omega) (by omega)
   rw[e];exact ⟨by rw[fS,fN,←ea,←eb];omega,by show ((A.lo-B.hi:Nat):Int)≤_;omega,by show _≤((A.hi-B.lo:Nat):Int);omega⟩
 case mul =>
  cases hc:Nat.ble (A.hi*B.hi) (kMax k) with
  | false=>rw[hc] at h;exact top_ok h fun hk=>by rw[hx];exact gK hk _ _ _ trivial
  | true =>
   have:=aM hc;rw[hc] at h;simp only[aH,aA] at h;subst h;have hm:=mul_bnd hA hB;have e:N.i x=a.ev N*b.ev N:=by rw[hx];exact wrap_id (by omega) (by omega)
   rw[e];exact ⟨by rw[pmul_ev,←ea,←eb],hm.1,hm.2⟩
 case shl =>
  split at h
  ·rename_i n;cases hc:(Nat.ble n k.bits&&unsignedB k&&Nat.ble A.hi (kMax k)) with
   | false=>rw[hc] at h;cases h
   | true =>
    simp only[aG] at hc;have hn:=aM hc.1.1;have hk:=hc.1.2;have hA2:=aM hc.2;rw[hc.1.1,hc.1.2,hc.2] at h;simp only[Bool.and_self,aH] at h;have e0:N.i x=k.wrap (a.ev N*((2^n:Nat):Int)):=by rw[hx,show (Ar.kst (Int.ofNat n)).ev N=(n:Int) from rfl,shl_kst hn];simp
    have hpn:0<2^n:=Nat.pow_pos (by decide);cases hd:Nat.ble (A.hi*2^n) (kMax k) with
    | true =>
     have:=aM hd;rw[hd] at h;simp only[aH,aA] at h;subst h;have hm:=mul_bnd hA (B:=⟨2^n,2^n,pk (2^n)⟩) (b:=((2^n:Nat):Int)) ⟨pk_ev.symm,bK _,bK _⟩;have hm:((A.lo*2^n:Nat):Int)≤_∧_≤((A.hi*2^n:Nat):Int):=hm;have e:N.i x=a.ev N*((2^n:Nat):Int):=by rw[e0];exact wrap_id (by omega) (by omega)
     rw[e];exact ⟨by rw[fN,←ea,dT];rfl,hm.1,hm.2⟩
    | false =>
     rw[hd] at h;simp only[aQ] at h;split at h
     ·rename_i q hq;simp only[aA] at h;subst h;cases a with
      | kst c=>cases hq
      | var y =>
       obtain ⟨hm0,hqe⟩:=hp.qs _ _ _ (qGet_mem hq);have hqe:=hqe (by show 0≤N.i y;have:(A.lo:Int)≤N.i y:=a1;omega) (by have:N.i y≤(A.hi:Int):=a2;omega);refine ⟨?_,by rw[e0];exact (wrap_rng hk _).1,by rw[e0];exact (wrap_rng hk _).2⟩;rw[fS,fN,fN,px_ev,←ea,e0,wrap_uns hk,hqe];show N.i y*_%_=((2^n:Nat):Int)*N.i y+ -((2^k.bits:Nat):Int)*(N.i y/((2^(k.bits-n):Nat):Int));have e2:((2^k.bits:Nat):Int)=((2^n:Nat):Int)*((2^(k.bits-n):Nat):Int):=by
        rw[←Int.natCast_mul,←Nat.pow_add,Nat.add_sub_cancel' hn]
       rw[e2,dT (N.i y),Int.mul_emod_mul_of_pos _ _ (by omega)];have:=Int.mul_ediv_add_emod (N.i y) ((2^(k.bits-n):Nat):Int);rw[Int.neg_mul,dW,←Int.sub_eq_add_neg,←Int.mul_sub];congr 1;omega
     ·exact top_ok h fun hk=>by rw[hx];exact gK hk _ _ _ trivial
  ·exact top_ok h fun hk=>by rw[hx];exact gK hk _ _ _ trivial
 case shr =>
  split at h
  ·rename_i n;cases hc:Nat.ble n k.bits with
   | false=>rw[hc] at h;cases h
   | true =>rw[hc] at h;simp only[aH,aA] at h;subst h;exact abDiv_ok hA (Nat.pow_pos (by decide)) (by rw[hx];exact iop_shr_nat (aM hc))
  ·cases h
 case quo =>
  split at h
  ·rename_i m;cases hc:(Nat.blt 0 m&&Nat.ble A.hi (kMax k)) with
   | false=>rw[hc] at h;cases h
   | true =>simp only[aG] at hc;have h2:=aM hc.2;rw[hc.1,hc.2] at h;simp only[Bool.and_self,aH,aA] at h;subst h;exact abDiv_ok hA (bX.mp hc.1) (by rw[hx];exact iop_quo_nat (by omega) (by omega))
  ·cases h
 case rem =>
  split at h
  ·rename_i m;cases hc:(Nat.blt 0 m&&Nat.ble A.hi (kMax k)) with
   | false=>rw[hc] at h;cases h
   | true =>simp only[aG] at hc;have h2:=aM hc.2;rw[hc.1,hc.2] at h;simp only[Bool.and_self,aH,aA] at h;subst h;refine abMod_ok hp.qs hA (bX.mp hc.1) (by omega) ?_;rw[hx];simp only[iop];rw[Int.tmod_eq_emod_of_nonneg (by omega)];rfl
  ·cases h
 case and =>
  split at h
  ·rename_i m;cases hc:(unsignedB k&&Nat.ble A.hi (kMax k)&&Nat.ble m (kMax k)) with
   | false=>rw[hc] at h;exact top_ok h fun hk=>by rw[hx];exact gK hk _ _ _ trivial
   | true =>
    simp only[aG] at hc;have hk:=hc.1.1;have h2:=aM hc.1.2;have h3:=aM hc.2;rw[hc.1.1,hc.1.2,hc.2] at h;simp only[Bool.and_self,aH] at h;have hm:=kMax_uns hk;obtain ⟨z,hz⟩:=aZ (show 0≤a.ev N by omega);have e0:N.i x=((z&&&m:Nat):Int):=by rw[hx,hz];exact iop_and hk (by omega) (by omega)
    cases hd:Nat.beq (m+1) (2^Nat.log2 (m+1)) with
    | true =>rw[hd] at h;simp only[aH,aA] at h;subst h;refine abMod_ok hp.qs hA (Nat.succ_pos _) (by omega) ?_;have:=aF hd;rw[e0,hz,show m=2^Nat.log2 (m+1)-1 by omega,Nat.and_two_pow_sub_one_eq_mod,Int.natCast_emod];congr 2;omega
    | false =>rw[hd] at h;simp only[aQ,aA] at h;subst h;have:z&&&m≤m:=Nat.and_le_right;exact atom_ok (by rw[e0];omega) (by rw[e0];omega)
  ·exact top_ok h fun hk=>by rw[hx];exact gK hk _ _ _ trivial
 case or =>
  cases hc:(unsignedB k&&Nat.ble A.hi (kMax k)&&Nat.ble B.hi (kMax k)) with
  | false=>rw[hc] at h;exact top_ok h fun hk=>by rw[hx];exact gK hk _ _ _ trivial
  | true =>
   simp only[aG] at hc;have hk:=hc.1.1;have h2:=aM hc.1.2;have h3:=aM hc.2;rw[hc.1.1,hc.1.2,hc.2] at h;simp only[Bool.and_self,aH] at h;have fin:N.i x=a.ev N+b.ev N→(⟨A.lo+B.lo,A.hi+B.hi,padd A.p B.p⟩:Ab).ok N (N.i x):=fun e=>by rw[e];exact ⟨by rw[fS,←ea,←eb],by show ((A.lo+B.lo:Nat):Int)≤_;omega,by show _≤((A.hi+B.hi:Nat):Int);omega⟩
   cases hd:pdiv (pow2 B.hi) A.p with
   | true =>rw[hd] at h;simp only[aH,aA] at h;subst h;exact fin (by rw[hx,iop_or_apart hk hA hB h2 h3 hd])
   | false =>
    rw[hd] at h;simp only[aQ] at h;cases hd2:pdiv (pow2 A.hi) B.p with
    | true =>rw[hd2] at h;simp only[aH,aA] at h;subst h;exact fin (by rw[hx,iop_or_comm,iop_or_apart hk hB hA h3 h2 hd2,Int.add_comm])
    | false =>rw[hd2] at h;exact top_ok h fun hk=>by rw[hx];exact gK hk _ _ _ trivial
 case xor=>exact top_ok h fun hk=>by rw[hx];exact gK hk _ _ _ trivial
 case andNot=>exact top_ok h fun hk=>by rw[hx];exact gK hk _ _ _ trivial
theorem decC_ok {op:BinOp}{a b:Int}{A B:Ab}{t:Bool}(hA:A.ok N a)(hB:B.ok N b)(h:decC op A B=some t):icmp op a b=t:=by
 obtain ⟨_,a1,a2⟩:=hA;obtain ⟨_,b1,b2⟩:=hB;have two:∀ {c d:Bool} {p q:Prop},(bif c then some true else bif d then some false else none)=some t→(c=true→p)→(d=true→q)→(t=true∧p)∨(t=false∧q):=by
  intro c d p q h hc hd;cases c with
  | true=>simp only[aH,aA] at h;exact .inl ⟨h.symm,hc rfl⟩
  | false =>
   cases d with
   | true=>simp only[aQ,aH,aA] at h;exact .inr ⟨h.symm,hd rfl⟩
   | false=>cases h
 have two':∀ {c d:Bool} {p q:Prop},(bif c then some false else bif d then some true else none)=some t→(c=true→p)→(d=true→q)→(t=false∧p)∨(t=true∧q):=by
  intro c d p q h hc hd;cases c with
  | true=>simp only[aH,aA] at h;exact .inl ⟨h.symm,hc rfl⟩
  | false =>
   cases d with
   | true=>simp only[aQ,aH,aA] at h;exact .inr ⟨h.symm,hd rfl⟩
   | false=>cases h
 have lt:∀ {m n:Nat},Nat.blt m n=true→m<n:=fun h=>bX.mp h
 have le:∀ {m n:Nat},Nat.ble m n=true→m≤n:=fun h=>aM h
 have eq3:(Nat.beq A.lo A.hi&&Nat.beq B.lo B.hi&&Nat.beq A.lo B.lo)=true→A.lo=A.hi∧B.lo=B.hi∧A.lo=B.lo:=fun h=>by simp only[aG] at h;exact ⟨aF h.1.1,aF h.1.2,aF h.2⟩
 have ne2:(Nat.blt A.hi B.lo||Nat.blt B.hi A.lo)=true→A.hi<B.lo∨B.hi<A.lo:=fun h=>by simp only[eM] at h;exact h.imp lt lt
 cases op <;> simp only[decC,reduceCtorEq] at h
 case eql=>rcases two h eq3 ne2 with ⟨rfl,k⟩ | ⟨rfl,k⟩ <;> simp only[icmp,beq_iff_eq,beq_eq_false_iff_ne,ne_eq] <;> omega
 case neq=>rcases two' h eq3 ne2 with ⟨rfl,k⟩ | ⟨rfl,k⟩ <;> simp only[icmp,bne_iff_ne,bne_eq_false_iff_eq,ne_eq] <;> omega
 case lss=>rcases two h lt le with ⟨rfl,k⟩ | ⟨rfl,k⟩ <;> simp only[icmp,dL,decide_eq_false_iff_not] <;> omega
 case leq=>rcases two h le lt with ⟨rfl,k⟩ | ⟨rfl,k⟩ <;> simp only[icmp,dL,decide_eq_false_iff_not] <;> omega
 case gtr=>rcases two h lt le with ⟨rfl,k⟩ | ⟨rfl,k⟩ <;> simp only[icmp,dL,decide_eq_false_iff_not] <;> omega
 case geq=>rcases two h le lt with ⟨rfl,k⟩ | ⟨rfl,k⟩ <;> simp only[icmp,dL,decide_eq_false_iff_not] <;> omega
theorem one_ok {x:Nat}{b:Bool}(h:N.i x=bif b then 1 else 0):(atomA x 0 1).ok N (N.i x):=by
 cases b <;> exact atom_ok (by rw[h];decide) (by rw[h];decide)
theorem nz_ok {x n:Nat}{A:Ab}(h:nz x n=some A)(hx:∀m,n=m+1→0≤N.i x∧N.i x≤(m:Int)):A.ok N (N.i x):=by
 cases n with
 | zero=>cases h
 | succ m =>simp only[nz,aA] at h;subst h;exact atom_ok (hx m rfl).1 (hx m rfl).2
theorem maxHi_ok {s:Sx}(hs:SxOk N s):∀ {l:List Ar} {m:Nat},maxHi s.t l=some m→∀j,0≤(l.map (·.ev N)).getD j 0∧(l.map (·.ev N)).getD j 0≤(m:Int)
 | [],m,h,j=>by simp
 | a::l,m,h,j=>by
  simp only[maxHi] at h;split at h
  ·rename_i A n hA hn;simp only[aA] at h;obtain ⟨_,h1,h2⟩:=abAr_ok hs.t hA;have ih:=maxHi_ok hs hn;have e1:=Nat.le_max_left A.hi n;have e2:=Nat.le_max_right A.hi n;have h:max A.hi n=m:=h;cases j with
   | zero=>simp only[aI,List.getD_cons_zero];omega
   | succ j=>simp only[aI,List.getD_cons_succ];have:=ih j;omega
  ·cases h
def IlOk (N:Num)(cx:Cx)(s:Sx):Prop:=∀A m,s.la.get A=none→cx.il A=m+1→∀j,0≤(N.a A).getD j 0∧(N.a A).getD j 0≤(m:Int)
theorem abNd_ok {px':Px}{s:Sx}{x:Nat}{nd:Nd}{R:Ab}(hc:CxOk cx N.f)(hp:PxOk N cx.fm px')(hs:SxOk N s)(hi:IlOk N cx s)(h:abNd cx px' s x nd=some R)(hx:N.i x=nd.ev N):R.ok N (N.i x):=by
 have ab:=fun {a:Ar} {A:Ab} (h:abAr s.t a=some A)=>abAr_ok hs.t h
 cases nd with
 | bin op k a b =>
  simp only[abNd] at h;split at h
  ·rename_i A B hA hB;exact abBin_ok hp (ab hA) (ab hB) h hx
  ·cases h
 | conv k a =>
  simp only[abNd] at h;split at h
  ·rename_i A hA;have hA:=ab hA;have ⟨e,h1,h2⟩:=hA;simp only[Nd.ev] at hx;cases hb:Nat.ble A.hi (kMax k) with
   | true =>have:=aM hb;rw[hb] at h;simp only[aH,aA] at h;subst h;rw[hx,wrap_id (by omega) (by omega)];exact hA
   | false =>
    rw[hb] at h;cases hk:(unsignedB k&&Nat.ble A.hi 18446744073709551615) with
    | false=>rw[hk] at h;cases h
    | true =>rw[hk] at h;simp only[aG] at hk;simp only[aQ,aH,aA] at h;subst h;exact abMod_ok hp.qs hA (Nat.pow_pos (by decide)) (aM hk.2) (by rw[hx,wrap_uns hk.1])
  ·cases h
 | cmp op a b =>
  simp only[abNd] at h;simp only[Nd.ev] at hx;split at h
  ·rename_i A B hA hB;split at h
   ·rename_i hd;simp only[aA] at h;subst h;rw[hx,decC_ok (ab hA) (ab hB) hd];exact ⟨pk_ev.symm,bK _,bK _⟩
   ·rename_i hd;simp only[aA] at h;subst h;rw[hx,decC_ok (ab hA) (ab hB) hd];exact ⟨rfl,bK _,bK _⟩
   ·simp only[aA] at h;subst h;exact one_ok hx
  ·simp only[aA] at h;subst h;exact one_ok hx
 | addS a b c =>
  simp only[abNd] at h;simp only[Nd.ev] at hx;have triv:(atomA x 0 18446744073709551615).ok N (N.i x):=atom_ok (by rw[hx];omega) (by rw[hx];omega);split at h
  ·rename_i A B C hA hB hC;have ⟨ea,a1,a2⟩:=ab hA;have ⟨eb,b1,b2⟩:=ab hB;have ⟨ec,c1,c2⟩:=ab hC;cases hb:Nat.ble (A.hi+B.hi+C.hi) 18446744073709551615 with
   | true =>
    have:=aM hb;rw[hb] at h;simp only[aH,aA] at h;subst h;have e:N.i x=a.ev N+b.ev N+c.ev N:=by rw[hx];omega
    rw[e];refine ⟨by rw[fS,fS,←ea,←eb,←ec];omega,?_,?_⟩;·show ((A.lo+B.lo+C.lo:Nat):Int)≤_;omega
    ·show _≤((A.hi+B.hi+C.hi:Nat):Int);omega
   | false =>
    rw[hb] at h;simp only[aQ] at h;split at h
    ·rename_i y hy;have hy:=hp.ca _ _ _ _ (caGet_mem hy);simp only[Nd.ev] at hy;cases hb2:Nat.ble (A.hi+B.hi+C.hi) 36893488147419103231 with
     | true =>
      have h2:=aM hb2;rw[hb2] at h;simp only[aH,aA] at h;subst h;refine ⟨?_,by rw[hx];show ((0:Nat):Int)≤_;omega,by rw[hx];show _≤((18446744073709551615:Nat):Int);omega⟩;rw[fS,fS,fS,fN,px_ev,←ea,←eb,←ec,hx,hy]
      split <;> omega
     | false =>rw[hb2] at h;simp only[aQ,aA] at h;subst h;exact triv
    ·simp only[aA] at h;subst h;exact triv
  ·simp only[aA] at h;subst h;exact triv
 | addC a b c =>
  simp only[abNd] at h;simp only[Nd.ev] at hx;have triv:(atomA x 0 1).ok N (N.i x):=atom_ok (by rw[hx];split <;> decide) (by rw[hx];split <;> decide);split at h
  ·rename_i A B C hA hB hC;have ⟨ea,a1,a2⟩:=ab hA;have ⟨eb,b1,b2⟩:=ab hB;have ⟨ec,c1,c2⟩:=ab hC;cases hb:Nat.ble (A.hi+B.hi+C.hi) 18446744073709551615 with
   | true =>
    have:=aM hb;rw[hb] at h;simp only[aH,aA] at h;subst h;have e:N.i x=0:=by rw[hx,bC (by omega)]
    rw[e];exact ⟨rfl,bK _,bK _⟩
   | false =>rw[hb] at h;simp only[aQ,aA] at h;subst h;exact triv
  ·simp only[aA] at h;subst h;exact triv
 | subS a b c=>cases h
 | subC a b c=>cases h
 | lin a b c =>
  simp only[abNd] at h;simp only[Nd.ev] at hx;split at h
  ·rename_i A B c hA hB;simp only[aA] at h;subst h;have ⟨ea,a1,a2⟩:=ab hA;have hb:=ab hB;have hm:=mul_bnd hb (B:=⟨c,c,pk c⟩) (b:=(c:Int)) ⟨pk_ev.symm,bK _,bK _⟩;have hm:((B.lo*c:Nat):Int)≤_∧_≤((B.hi*c:Nat):Int):=hm;rw[hx];refine ⟨by rw[fS,fN,←ea,←hb.1,dT],?_,?_⟩;·show ((A.lo+B.lo*c:Nat):Int)≤a.ev N+b.ev N*(c:Int);omega
   ·show a.ev N+b.ev N*(c:Int)≤((A.hi+B.hi*c:Nat):Int);omega
  ·rename_i A B c hA hB;cases hbb:Nat.ble (B.hi*(c+1)) A.lo with
   | false=>rw[hbb] at h;cases h
   | true =>
    have hle:=aM hbb;rw[hbb] at h;simp only[aH,aA] at h;subst h;have ⟨ea,a1,a2⟩:=ab hA;have hb:=ab hB;have hm:=mul_bnd hb (B:=⟨c+1,c+1,pk (c+1)⟩) (b:=((c+1:Nat):Int)) ⟨pk_ev.symm,bK _,bK _⟩;have hm:((B.lo*(c+1):Nat):Int)≤_∧_≤((B.hi*(c+1):Nat):Int):=hm;have hlh:B.lo*(c+1)≤B.hi*(c+1):=by have:=hm.1;have:=hm.2;omega
    have en:b.ev N*Int.negSucc c= -(b.ev N*((c+1:Nat):Int)):=by rw[Int.negSucc_eq,Int.mul_neg];rfl
    rw[hx];refine ⟨by rw[fS,fN,←ea,←hb.1,dT],?_,?_⟩;·show ((A.lo-B.hi*(c+1):Nat):Int)≤a.ev N+b.ev N*Int.negSucc c;rw[en];omega
    ·show a.ev N+b.ev N*Int.negSucc c≤((A.hi-B.lo*(c+1):Nat):Int);rw[en];omega
  ·cases h
 | mn a b=>cases h
 | rd A y =>
  simp only[Nd.ev] at hx;have fnc:∀f is az,s.la.get A=some (.fn f is az)→nz x (cx.fl f)=some R→R.ok N (N.i x):=fun f is az hl h=>nz_ok h fun m hm=>by have:=hs.la _ _ hl;simp only[Ad.ev] at this;rw[hx,this];exact hc.fl f m hm _ _ _
  have ent:s.la.get A=none→nz x (cx.il A)=some R→R.ok N (N.i x):=fun hl h=>nz_ok h fun m hm=>by rw[hx];exact hi A m hl hm _
  unfold abNd at h;split at h <;> rename_i heq <;> simp only[Nd.rd.injEq,reduceCtorEq] at heq
  ·obtain ⟨rfl,rfl⟩:=heq;split at h
   ·rename_i l hl;split at h
    ·rename_i a ha;have e:=hs.la _ _ hl;simp only[Ad.ev] at e;have:N.i x=a.ev N:=by
      rw[hx,e];have:∀(jj:Nat),l[jj]? =some a→(l.map (·.ev N)).getD ((Ar.kst (Int.ofNat jj)).ev N).toNat 0=a.ev N:=fun jj hj=>by rw[show ((Ar.kst (Int.ofNat jj)).ev N).toNat=jj from rfl,aE,bP,hj];rfl
      exact this _ ha
     rw[this];exact ab h
    ·cases h
   ·rename_i hl;exact fnc _ _ _ hl h
   ·cases h
   ·rename_i hl;exact ent hl h
  ·obtain ⟨rfl,rfl⟩:=heq;split at h;·rename_i hl;exact ent hl h
   ·cases h
  ·cases h
 | sel l y =>
  simp only[abNd] at h;simp only[Nd.ev] at hx;split at h
  ·rename_i m hm;simp only[aA] at h;subst h;have:=maxHi_ok hs hm (y.ev N).toNat;exact atom_ok (by rw[hx];exact this.1) (by rw[hx];exact this.2)
  ·cases h
 | len A=>cases h
 | fn f is az j =>
  simp only[abNd] at h;simp only[Nd.ev] at hx;cases hb:(Nat.blt 0 cx.fm&&Nat.beq f cx.fm) with
  | false =>rw[hb] at h;exact nz_ok h fun m hm=>by rw[hx];exact hc.fi f m hm _ _ _
  | true =>
   rw[hb] at h;simp only[aG] at hb;have hf0:=bX.mp hb.1;have hf:=aF hb.2;subst hf;simp only[aH] at h;have facts:∀ {a b:Ar} {A B:Ab},abAr s.t a=some A→abAr s.t b=some B→(Nat.blt A.hi 18446744073709551616&&Nat.blt B.hi 18446744073709551616)=true →
    (N.f.i cx.fm [a.ev N,b.ev N] [] 0=a.ev N*b.ev N/18446744073709551616∧N.f.i cx.fm [a.ev N,b.ev N] [] 1=a.ev N*b.ev N%18446744073709551616)∧((A.lo*B.lo:Nat):Int)≤a.ev N*b.ev N∧a.ev N*b.ev N≤((A.hi*B.hi:Nat):Int):=fun {a b A B} hA hB hl=>by
    simp only[aG] at hl;have h1:=bX.mp hl.1;have h2:=bX.mp hl.2;have ⟨_,a1,a2⟩:=ab hA;have ⟨_,b1,b2⟩:=ab hB;exact ⟨hc.mul _ _ hf0 (by omega) (by omega) (by omega) (by omega),mul_bnd (ab hA) (ab hB)⟩
   split at h
   ·rename_i a b;split at h
    ·rename_i A B hA hB;cases hl:(Nat.blt A.hi 18446744073709551616&&Nat.blt B.hi 18446744073709551616) with
     | false=>rw[hl] at h;cases h
     | true =>
      rw[hl] at h;obtain ⟨⟨m1,m2⟩,m3,m4⟩:=facts hA hB hl;simp only[aI,aK,m1] at hx;cases hs2:Nat.blt (A.hi*B.hi) 18446744073709551616 with
      | true =>
       have:=bX.mp hs2;rw[hs2] at h;simp only[aH,aA] at h;subst h;have e:N.i x=0:=by rw[hx];omega
       rw[e];exact ⟨rfl,bK _,bK _⟩
      | false =>rw[hs2] at h;simp only[aH,aQ,aA] at h;subst h;exact atom_ok (by rw[hx];omega) (by rw[hx];omega)
    ·cases h
   ·rename_i a b;split at h
    ·rename_i A B hA hB;cases hl:(Nat.blt A.hi 18446744073709551616&&Nat.blt B.hi 18446744073709551616) with
     | false=>rw[hl] at h;cases h
     | true =>
      rw[hl] at h;obtain ⟨⟨m1,m2⟩,m3,m4⟩:=facts hA hB hl;simp only[aI,aK,m2] at hx;have ea:=(ab hA).1;have eb:=(ab hB).1;cases hs2:Nat.blt (A.hi*B.hi) 18446744073709551616 with
      | true =>
       have:=bX.mp hs2;rw[hs2] at h;simp only[aH,aA] at h;subst h;have e:N.i x=a.ev N*b.ev N:=by rw[hx];omega
       rw[e];exact ⟨by rw[pmul_ev,←ea,←eb],m3,m4⟩
      | false =>
       rw[hs2] at h;simp only[aH,aQ] at h;split at h
       ·rename_i y hy;simp only[aA] at h;subst h;have hy:=hp.ma _ _ _ (maGet_mem hy);rw[m1] at hy;refine ⟨?_,by rw[hx];show ((0:Nat):Int)≤_;omega,by rw[hx];show _≤((18446744073709551615:Nat):Int);omega⟩;rw[fS,pmul_ev,fN,px_ev,←ea,←eb,hx,hy];omega
       ·cases h
    ·cases h
   ·cases h
 | seq A B =>simp only[abNd,aA] at h;subst h;exact one_ok hx
 | leq A B =>simp only[abNd,aA] at h;subst h;exact one_ok hx
theorem goA_ok {px':Px}(hc:CxOk cx N.f)(hp:PxOk N cx.fm px')(hi:∀A m,cx.il A=m+1→∀j,0≤(N.a A).getD j 0∧(N.a A).getD j 0≤(m:Int)):∀ {ds:List Df} {s:Sx},(∀ d∈ds,d.sat N)→SxOk N s→SxOk N (goA cx px' ds s)
 | [],s,_,hs=>hs
 | .n x nd::r,s,hd,hs=>by
  have hr:∀d∈r,d.sat N:=fun d hm=>hd d (aJ _ hm)
  have h0:N.i x=nd.ev N:=hd (.n x nd) aN;simp only[goA]
  split
  ·rename_i A hA;refine goA_ok hc hp hi hr ⟨fun y B hB=> ?_,hs.la⟩;rw[fA] at hB;by_cases hy:y=x
   ·rw [bG hy] at hB;simp only[aA] at hB;subst hB;subst hy;exact abNd_ok hc hp hs (fun A m _=>hi A m) hA h0
   ·rw [bC hy] at hB;exact hs.t y B hB
  ·exact goA_ok hc hp hi hr hs
 | .a A ad::r,s,hd,hs=>by
  have hr:∀d∈r,d.sat N:=fun d hm=>hd d (aJ _ hm)
  have h0:N.a A=ad.ev N:=hd (.a A ad) aN;simp only[goA];refine goA_ok hc hp hi hr ⟨hs.t,fun B bd hB=> ?_⟩;rw[fA] at hB;by_cases hy:B=A
  ·rw [bG hy] at hB;simp only[aA] at hB;subst hB;subst hy;exact h0
  ·rw [bC hy] at hB;exact hs.la B bd hB
theorem obOk_ok {s:Sx}(hc:CxOk cx N.f)(hs:SxOk N s){o:Ob}(h:obOk cx s o=true):o.holds N:=by
 have ab:=fun {a:Ar} {A:Ab} (h:abAr s.t a=some A)=>abAr_ok hs.t h
 cases o with
 | le a b =>
  simp only[obOk] at h;split at h
  ·rename_i A B hA hB;have ⟨_,a1,a2⟩:=ab hA;have ⟨_,b1,b2⟩:=ab hB;have:=aM h;show a.ev N≤b.ev N;omega
  ·cases h
 | lt a b =>
  simp only[obOk] at h;split at h
  ·rename_i A B hA hB;have ⟨_,a1,a2⟩:=ab hA;have ⟨_,b1,b2⟩:=ab hB;have:=bX.mp h;show a.ev N<b.ev N;omega
  ·cases h
 | eq a b =>
  simp only[obOk] at h;split at h
  ·rename_i A B hA hB;have ⟨_,a1,a2⟩:=ab hA;have ⟨_,b1,b2⟩:=ab hB;simp only[aG] at h;have h1:=aF h.1.1;have h2:=aF h.1.2;have h3:=aF h.2;show a.ev N=b.ev N;omega
  ·cases h
 | boo x t =>
  simp only[obOk] at h;split at h
  ·rename_i A hA;have ⟨_,a1,a2⟩:=hs.t _ _ hA;refine boo_ne ?_;cases t with
   | true=>have:=bX.mp h;simp only;omega
   | false=>have:=aF h;simp only;omega
  ·cases h
 | prd p is az =>
  simp only[obOk,aG,bT] at h;refine hc.up p h.1 _ _ fun n hn=> ?_
  obtain ⟨a,ha,rfl⟩:=dC.1 hn;have:=h.2 a ha;split at this
  ·rename_i A hA;have ⟨_,a1,a2⟩:=ab hA;have:=bX.mp this;omega
  ·cases this
 | inA x A =>
  simp only[obOk] at h;split at h
  ·rename_i X l hX hl;have ⟨_,a1,a2⟩:=ab hX;have e:=hs.la _ _ hl;simp only[Ad.ev] at e;have:=bX.mp h;show 0≤x.ev N∧x.ev N<((N.a A).length:Int);rw[e,bF];omega
  ·cases h
 | lenA x A=>cases h
 | fits a b A=>cases h
theorem polW_ok {s:Sx}(hs:SxOk N s){w:Int}:∀ {l:List Ar} {p:Pol},polW s.t w l=some p→valW w (l.map (·.ev N))=p.ev N
 | [],p,h=>by simp only[polW,aA] at h;subst h;rfl
 | a::l,p,h=>by
  simp only[polW] at h;split at h
  ·rename_i A q hA hq;simp only[aA] at h;subst h;simp only[aI,valW,fS,fN,polW_ok hs hq,(abAr_ok hs.t hA).1]
  ·cases h
theorem bndL_ok {s:Sx}(hs:SxOk N s){hi:Nat}:∀ {l:List Ar},bndL s.t hi l=true→∀v∈l.map (·.ev N),0≤v∧v<(hi:Int)
 | [],_,v,h=>by cases h
 | a::l,h,v,hv=>by
  simp only[bndL,aG] at h;rcases cD.1 hv with e | e
  ·subst e;have h1:=h.1;split at h1
   ·rename_i A hA;have ⟨_,a1,a2⟩:=abAr_ok hs.t hA;have:=bX.mp h1;show 0≤a.ev N∧a.ev N<(hi:Int);omega
   ·cases h1
  ·exact bndL_ok hs h.2 v e
end
def rowP (w:Int)(x:Nat):Nat→Pol
 | 0=>[]
 | n+1=>padd (px x) (pscale w (rowP w (x+1) n))
theorem rowP_ev {N:Num}{w:Int}:∀ {n x:Nat},(rowP w x n).ev N=valW w ((List.range' x n).map N.i)
 | 0,_=>rfl
 | n+1,x=>by simp only[rowP,fS,px_ev,fN,rowP_ev (n:=n),List.range'_succ,aI,valW]
section
variable {P:Program} {F:Fns} {call:FuncId→List SV→St→Option (SV×St)} {n:Nat} {Ne:Num} {Ee:Env} {σe:St} {we:World}
theorem ext_atX {T:Tr SV}{σ σ1:St}{o:List Bool}{mx:Nat×Nat}{N:Num}{a:Act}{w:World}(hpat:patB T σ=true)(hord:ordOk σ.nx σ.na σ1.defs=some mx)(hni1:σ1.ni=σ.ni)(hat:At F n Ne Ee σe we T σ N a w) :
 Agr σ.nx σ.na N (ext N σ1.defs)∧(ext N σ1.defs).f=F∧(∀ d∈σ1.defs,d.sat (ext N σ1.defs))∧((∀ ob∈σ1.obs,ob.holds (ext N σ1.defs))→Hold F (ext N σ1.defs) σ1∧∃E,RA (ext N σ1.defs) E n T a∧Post Ne Ee σe we (ext N σ1.defs) E (σ.ask' o) w):=by
 obtain ⟨hd,hob,hT,hB,hni⟩:=patB_spec hpat;obtain ⟨hF,hins,E,hA,hp⟩:=hat;obtain ⟨mx,ma⟩:=mx;obtain ⟨_,_,hagr,hsat,_⟩:=ext_spec (N:=N) hord;refine ⟨hagr,hagr.f.trans hF,hsat,fun hobs=>⟨⟨hagr.f.trans hF,hsat,hobs,fun x hx=> ?_⟩,E,RA.agr hagr hT hA,?_⟩⟩
 ·rw [hni1] at hx;rw[hagr.i x (by omega)];exact hins x hx
 ·have:=Post.agr hagr hB hp;exact ⟨⟨this.inv.freshB,this.inv.freshV,this.inv.glob⟩,this.le,this.bw,this.kept,this.win⟩
variable {ct:Ct} {fn:Func} {is:List Int} {az:List (List Int)} {ws:List (Option Win)} {stops:List Nat} {f fuel:Nat} {c b:Code} {ks:List Kt} {T T0:Tr SV} {σ σ0:St} {o:List Bool} {S:Sum1} {ds:List Df} {os:List Ob} {N:Num} {a:Act} {w:World} {is':List Ar} {as':List (Option Nat)}
theorem to_endX (hm:P.follows .mixedOrders=true)(hcall:CallOk F P call)(hrun:endD P ct σe fn σ (runK P call stops fn.ntmps f fuel c ks T (σ.ask' o))=some (S,ds,os))(hpat:patB T σ=true)
 (hat:At F fn.ntmps Ne Ee σe we T σ N a w) (hent:Ent F ct is az ws we Ne Ee σe)
 (H:Agr σ.nx σ.na N (ext N ds)→(ext N ds).f=F→(∀ d∈ds,d.sat (ext N ds))→(∀ ob∈os,ob.holds (ext N ds))∧S.ok (ext N ds) F ct is az∧∀L,rwArg ct.ps is az=some L→(F.a ct.fw is az).length=L.length) :
 c.wp P (wpK P ks (Qend P F fn ct is az ws we)) a w:=by
 obtain ⟨e,T1,σ1,vs,σ2,mx,h1,h2,h3,h4,h5,h6,rfl,rfl⟩:=endD_inv hrun;have hx:=runK_ext hcall f h1;have hx2:=(resS_pur h4).ext;obtain ⟨k1,k2,k3,k4⟩:=ext_atX (o:=o) hpat h6 (hx2.ni.trans hx.ni) hat;obtain ⟨g1,g2,g3⟩:=H k1 k2 k3;obtain ⟨hH,E,hA,hp⟩:=k4 g1;exact gL hm hcall f h1 (eT hx2 hH) hA hp.inv hp.bw fun E' a' w' q1 q2=>end_ok h2 h3 h4 h5 hH q1 (hp.trans q2) hent g2 g3
theorem to_headX (hm:P.follows .mixedOrders=true)(hcall:CallOk F P call){c':Code}{ks':List Kt}(hrun:headD σe T0 σ0 σ (runK P call stops n f fuel c ks T (σ.ask' o))=some ((.loop c',ks'),is',as',ds,os))(hpat:patB T σ=true)(hgl:σ0.gl=σe.gl)(hni:σ0.ni=0)
 (hat:At F n Ne Ee σe we T σ N a w) (hI:Inv Ee σe) {Q:Exit→Act→World→Prop}
 (H:Agr σ.nx σ.na N (ext N ds)→(ext N ds).f=F→(∀ d∈ds,d.sat (ext N ds))→(∀ ob∈os,ob.holds (ext N ds))∧∀a' w',At F n Ne Ee σe we T0 σ0 (pn is' as' (ext N ds)) a' w'→(Code.loop c').wp P (wpK P ks' Q) a' w') :
 c.wp P (wpK P ks Q) a w:=by
 unfold headD at hrun;split at hrun
 ·rename_i c2 ks2 T1 σ1 h1;simp only[aV,aD] at hrun;obtain ⟨y,hy,⟨⟨rfl,rfl⟩,rfl⟩⟩:=hrun;obtain ⟨rfl,rfl,mx,h6⟩:=atD_ds hy;have hx:=runK_ext hcall f h1;obtain ⟨k1,k2,k3,k4⟩:=ext_atX (o:=o) hpat h6 hx.ni hat;obtain ⟨g1,g2⟩:=H k1 k2 k3;obtain ⟨hH,E,hA,hp⟩:=k4 g1;exact gL hm hcall f h1 hH hA hp.inv hp.bw fun E' a' w' q1 q2=>g2 a' w' (atD_at hy hI hgl hni ⟨k2,hH.ins,E',q1,hp.trans q2⟩)
 ·cases hrun
theorem to_roundX (hm:P.follows .mixedOrders=true)(hcall:CallOk F P call)(hrun:roundD σe T0 σ0 σ (runB P call stops n f fuel b ks T (σ.ask' o))=some (is',as',ds,os))(hpat:patB T σ=true)(hgl:σ0.gl=σe.gl)(hni:σ0.ni=0)
 (hat:At F n Ne Ee σe we T σ N a w) (hI:Inv Ee σe) {K:Act→World→Prop} {Q:Exit→Act→World→Prop}
 (H:Agr σ.nx σ.na N (ext N ds)→(ext N ds).f=F→(∀ d∈ds,d.sat (ext N ds))→(∀ ob∈os,ob.holds (ext N ds))∧∀a' w',At F n Ne Ee σe we T0 σ0 (pn is' as' (ext N ds)) a' w'→K a' w') :
 b.wp P (Exit.then K (wpK P ks Q)) a w:=by
 unfold roundD at hrun;split at hrun
 ·rename_i out T1 σ1 h1;obtain ⟨rfl,rfl,mx,h6⟩:=atD_ds hrun;have hx:=runB_ext hcall h1;obtain ⟨k1,k2,k3,k4⟩:=ext_atX (o:=o) hpat h6 hx.ni hat;obtain ⟨g1,g2⟩:=H k1 k2 k3;obtain ⟨hH,E,hA,hp⟩:=k4 g1;exact runB_sound hm hcall h1 hH hA hp.inv hp.bw fun E' a' w' q1 q2=>⟨fun _=>g2 a' w' (atD_at hrun hI hgl hni ⟨k2,hH.ins,E',q1,hp.trans q2⟩),fun e=>by cases e⟩
 ·cases hrun
end
inductive Tst where
 | law (w:Int) (l:List Ar) (tgt:Pol) (M:Nat)
 | bnd (l:List Ar) (hi:Nat)
def Tst.b (t:Tr Ab):Tst→Bool
 | .law w l tgt M=>match polW t w l with
  | some p=>pdiv M (padd p (pscale (-1) tgt))
  | none=>false
 | .bnd l hi=>bndL t hi l
def Tst.holds (N:Num):Tst→Prop
 | .law w l tgt M=>(M:Int) ∣ valW w (l.map (·.ev N))-tgt.ev N
 | .bnd l hi=>∀v∈l.map (·.ev N),0≤v∧v<(hi:Int)
inductive Rs where
 | ob (o:Ob)
 | cmp (op:BinOp) (a b:Ar) (t:Bool)
def Rs.holds (N:Num):Rs→Prop
 | .ob o=>o.holds N
 | .cmp op a b t=>cmpP op t (a.ev N) (b.ev N)
def Rs.eqb (ds:List Df):Rs→Ob→Bool
 | .ob o,o'=>eOb o o'
 | .cmp op a b t,.boo x t'=>(t==t')&&(match lkN ds x with
  | some (.cmp op' a' b')=>eOp op op'&&eAr a a'&&eAr b b'
  | _=>false)
 | _,_=>false
abbrev Ent0:=List (Nat×Nat×Nat)
def entR:Ent0→Tr Ab→Tr Ab
 | [],t=>t
 | (x,n,hi)::l,t=>entR l (go x n hi t)
 where
 go (x:Nat):Nat→Nat→Tr Ab→Tr Ab
  | 0,_,t=>t
  | n+1,hi,t=>(go x n hi t).set (x+n) (atomA (x+n) 0 hi)
def chkR (cx:Cx)(ent:Ent0)(ds:List Df):Sx:=goA cx (pre cx.fm ds ⟨[],[],[]⟩) ds.reverse ⟨entR ent .nil,.nil⟩
def EntOk (N:Num)(ent:Ent0):Prop:=∀x n hi,(x,n,hi)∈ent→∀j,j<n→0≤N.i (x+j)∧N.i (x+j)≤(hi:Int)
def IlB (N:Num)(cx:Cx):Prop:=∀A m,cx.il A=m+1→∀j,0≤(N.a A).getD j 0∧(N.a A).getD j 0≤(m:Int)
def eL' {α β:Type}(f:α→β→Bool):List α→List β→Bool
 | [],[]=>true
 | x::l,y::m=>f x y&&eL' f l m
 | _,_=>false
def okB (cx:Cx)(ent:Ent0)(ds:List Df)(os:List Ob)(rest:List Rs)(ts:List Tst):Bool :=
 (fun st:Sx=>eL' (Rs.eqb ds) rest (os.filter fun o=> !(obOk cx st o))&&ts.all (·.b st.t)) (chkR cx ent ds)
section
variable {N:Num} {cx:Cx}
theorem entR_ok:∀ {ent:Ent0} {t:Tr Ab},EntOk N ent→(∀ y A,t.get y=some A→A.ok N (N.i y))→∀y A,(entR ent t).get y=some A→A.ok N (N.i y)
 | [],_,_,ht=>ht
 | (x,n,hi)::l,t,h,ht=>by
  refine entR_ok (ent:=l) (fun x' n' hi' hm=>h x' n' hi' (aJ _ hm)) ?_;have h0:=h x n hi aN;have:∀m,m≤n→∀y A,(entR.go x m hi t).get y=some A→A.ok N (N.i y):=by
   intro m
   induction m with
   | zero=>intro _;exact ht
   | succ m ih =>
    intro hm y A hA;simp only[entR.go] at hA;rw[fA] at hA;by_cases hy:y=x+m
    ·rw [bG hy] at hA;simp only[aA] at hA;subst hA;subst hy;have:=h0 m (by omega);exact atom_ok (by omega) this.2
    ·rw [bC hy] at hA;exact ih (by omega) y A hA
  exact this n (aS _)
theorem chkR_ok {ent:Ent0}{ds:List Df}(hc:CxOk cx N.f)(hi:IlB N cx)(he:EntOk N ent)(hd:∀d∈ds,d.sat N):SxOk N (chkR cx ent ds) :=
 goA_ok hc (pre_ok hd ⟨fun _ _ _ h=>(by cases h),fun _ _ _ _ h=>(by cases h),fun _ _ _ h=>(by cases h)⟩) hi (fun d hm=>hd d (eP.1 hm))
  ⟨entR_ok he (fun y A h=>by cases h),fun A ad h=>by cases h⟩
theorem okB_ok {ent:Ent0}{ds:List Df}{os:List Ob}{rest:List Rs}{ts:List Tst}(h:okB cx ent ds os rest ts=true)(hc:CxOk cx N.f)(hi:IlB N cx)(he:EntOk N ent)(hd:∀d∈ds,d.sat N) :
 ((∀ r∈rest,r.holds N)→∀o∈os,o.holds N)∧∀t∈ts,t.holds N:=by
 have hs:=chkR_ok hc hi he hd;simp only[okB,aG,bT] at h;refine ⟨fun hr o ho=> ?_,fun t ht=> ?_⟩
 ·cases hb:obOk cx (chkR cx ent ds) o with
  | true=>exact obOk_ok hc hs hb
  | false =>
   have hm:o∈os.filter fun o=> !(obOk cx (chkR cx ent ds) o):=List.mem_filter.2 ⟨ho,by rw[hb];rfl⟩
   have key:∀ {l:List Rs} {m:List Ob},eL' (Rs.eqb ds) l m=true→(∀ r∈l,r.holds N)→∀o∈m,o.holds N:=by
    intro l
    induction l with
    | nil=>intro m h _ o ho;cases m with | nil=>cases ho | cons _ _=>cases h
    | cons r l ih =>
     intro m h hr o ho;cases m with
     | nil=>cases h
     | cons o' m =>
      simp only[eL',aG] at h;rcases cD.1 ho with e | e
      ·subst e;have h0:=hr r aN;have hq:=h.1;unfold Rs.eqb at hq;split at hq;·rw [←eOb_eq hq];exact h0
       ·rename_i op a b t x t';simp only[aG,beq_iff_eq] at hq;obtain ⟨rfl,hq⟩:=hq;split at hq
        ·rename_i op' a' b' hl;simp only[aG] at hq;have e1:=eOp_eq hq.1.1;have e2:=fF hq.1.2;have e3:=fF hq.2;subst e1 e2 e3;show (!(N.i x==0))=t;rw[fB hd hl];have h0:cmpP op t (a.ev N) (b.ev N):=h0;simp only[Nd.ev,cmpP_icmp h0];cases t <;> rfl
        ·cases hq
       ·cases hq
      ·exact ih h.2 (fun r hm=>hr r (aJ _ hm)) o e
   exact key h.1 hr o hm
 ·have:=h.2 t ht;cases t with
  | law w l tgt M =>
   simp only[Tst.b] at this;split at this
   ·rename_i p hp;have k:=pdiv_ev (N:=N) this;rw[fS,fN] at k;show (M:Int) ∣ _;rw[polW_ok hs hp,show p.ev N-tgt.ev N=p.ev N+ -1*tgt.ev N by omega];exact k
   ·cases this
  | bnd l hi=>exact bndL_ok hs this
end
abbrev RA4:=Option (List Ar×List (Option Nat)×List Df×List Ob)
def iR (r:RA4):List Ar:=match r with | some x=>x.1 | none=>[]
def aR (r:RA4):List (Option Nat):=match r with | some x=>x.2.1 | none=>[]
def dR (r:RA4):List Df:=match r with | some x=>x.2.2.1 | none=>[]
def oR (r:RA4):List Ob:=match r with | some x=>x.2.2.2 | none=>[]
theorem someR {r:RA4}(h:r.isSome=true):r=some (iR r,aR r,dR r,oR r):=by
 cases r with
 | some x=>rfl
 | none=>cases h
def hR {α:Type}(r:Option (α×List Ar×List (Option Nat)×List Df×List Ob)):RA4:=r.map (·.2)
theorem headR {α:Type}{r:Option (α×List Ar×List (Option Nat)×List Df×List Ob)}{c:α}(h:r.map (·.1)=some c):r=some (c,iR (hR r),aR (hR r),dR (hR r),oR (hR r)):=by
 cases r with
 | some x=>simp only[Option.map_some,aA] at h;subst h;rfl
 | none=>cases h
abbrev RE3:=Option (Sum1×List Df×List Ob)
def sE (r:RE3):Sum1:=match r with | some x=>x.1 | none=>⟨[],none,none⟩
def dE (r:RE3):List Df:=match r with | some x=>x.2.1 | none=>[]
def oE (r:RE3):List Ob:=match r with | some x=>x.2.2 | none=>[]
theorem someE {r:RE3}{S:Sum1}(h:r.map (·.1)=some S):r=some (S,dE r,oE r):=by
 cases r with
 | some x=>simp only[Option.map_some,aA] at h;subst h;rfl
 | none=>cases h
def Dig (w:Int)(l:List Int):Prop:=∀d∈l,0≤d∧d<w
theorem valW_append {w:Int}:∀ {l m:List Int},valW w (l++m)=valW w l+w^l.length*valW w m
 | [],m=>by simp[valW]
 | x::l,m=>by simp only[cT,valW,valW_append (l:=l),bU,Int.pow_succ];rw[Int.mul_add,←dW,dT w (w^l.length)];omega
theorem valW_rng {w:Int}(hw:1≤w):∀ {l:List Int},Dig w l→0≤valW w l∧valW w l<w^l.length
 | [],_=>by simp[valW]
 | x::l,h=>by
  obtain ⟨h1,h2⟩:=h x aN;obtain ⟨i1,i2⟩:=valW_rng hw (l:=l) fun d hd=>h d (aJ _ hd)
  have a:w*valW w l≤w*(w^l.length-1):=Int.mul_le_mul_of_nonneg_left (by omega) (by omega);have b:0≤w*valW w l:=Int.mul_nonneg (by omega) i1;simp only[valW,bU,Int.pow_succ];rw[dT (w^l.length) w];rw[Int.mul_sub] at a;omega
theorem valW_inj {w:Int}(hw:1≤w):∀ {l m:List Int},Dig w l→Dig w m→l.length=m.length→valW w l=valW w m→l=m
 | [],[],_,_,_,_=>rfl
 | [],_::_,_,_,h,_=>by cases h
 | _::_,[],_,_,h,_=>by cases h
 | x::l,y::m,hl,hm,hn,he=>by
  obtain ⟨a1,a2⟩:=hl x aN;obtain ⟨b1,b2⟩:=hm y aN;simp only[valW] at he;have e1:x=(x+w*valW w l)%w:=by rw[Int.add_mul_emod_self_left,bN a1 a2]
  have e2:y=(y+w*valW w m)%w:=by rw[Int.add_mul_emod_self_left,bN b1 b2]
  have e:x=y:=by rw[e1,e2,he]
  subst e;have e3:w*valW w l=w*valW w m:=by omega
  have e4:=Int.eq_of_mul_eq_mul_left (by omega) e3;rw[valW_inj hw (fun d hd=>hl d (aJ _ hd)) (fun d hd=>hm d (aJ _ hd)) (by simpa using hn) e4]
def digW (w:Int):Nat→Int→List Int
 | 0,_=>[]
 | n+1,v=>v%w::digW w n (v/w)
theorem gW {w:Int}:∀ {n:Nat} {v:Int},(digW w n v).length=n
 | 0,_=>rfl
 | n+1,v=>by simp only[digW,bU,gW (n:=n)]
theorem digW_dig {w:Int}(hw:1≤w):∀ {n:Nat} {v:Int},Dig w (digW w n v)
 | 0,_,d,h=>by cases h
 | n+1,v,d,h=>by
  rcases cD.1 h with e | e
  ·subst e;exact ⟨Int.emod_nonneg _ (by omega),eI _ (by omega)⟩
  ·exact digW_dig hw d e
theorem digW_val {w:Int}(hw:1≤w):∀ {n:Nat} {v:Int},0≤v→v<w^n→valW w (digW w n v)=v
 | 0,v,h0,h1=>by simp only[Int.pow_zero] at h1;simp only[digW,valW];omega
 | n+1,v,h0,h1=>by have h2:v/w<w^n:=Int.ediv_lt_of_lt_mul (by omega) (by rw[Int.pow_succ] at h1;exact h1);simp only[digW,valW,digW_val hw (n:=n) (Int.ediv_nonneg h0 (by omega)) h2];have:=Int.mul_ediv_add_emod v w;omega
theorem dig_of_val {w:Int}(hw:1≤w){l:List Int}{n:Nat}(hl:l.length=n)(hd:Dig w l):l=digW w n (valW w l):=by
 have h:=valW_rng hw hd;exact valW_inj hw hd (digW_dig hw) (by rw[gW,hl]) (digW_val hw h.1 (by rw[←hl];exact h.2)).symm
theorem valW_lt {w:Int}(hw:1≤w){l m:List Int}{i:Nat}(hl:Dig w l)(hm:Dig w m)(hi:i<l.length)(hj:i<m.length)(he:l.drop (i+1)=m.drop (i+1))(h:l.getD i 0<m.getD i 0):valW w l<valW w m:=by
 have split:∀ {l:List Int},i<l.length→valW w l=valW w (l.take i)+w^i*(l.getD i 0+w*valW w (l.drop (i+1))):=fun {l} hi=>by
  have e:l=l.take i++l.getD i 0::l.drop (i+1):=by
   conv=>lhs;rw[←List.take_append_drop i l,dS hi]
   rw[aE,aU hi];rfl
  conv=>lhs;rw[e]
  rw[valW_append,bE,Nat.min_eq_left (by omega)];rfl
 have tk:∀ {l:List Int},Dig w l→i<l.length→0≤valW w (l.take i)∧valW w (l.take i)<w^i:=fun {l} hl hi=>by
  have:=valW_rng hw (l:=l.take i) fun d hd=>hl d (dQ hd)
  rwa [bE,Nat.min_eq_left (by omega)] at this
 have a:=tk hl hi;have b:=tk hm hj;have hp:0<w^i:=Int.pow_pos (by omega);rw[split hi,split hj,he];have:w^i*(l.getD i 0+w*valW w (m.drop (i+1))+1)≤w^i*(m.getD i 0+w*valW w (m.drop (i+1))):=Int.mul_le_mul_of_nonneg_left (by omega) (by omega);rw[Int.mul_add,Int.mul_one] at this;omega
def slA (is:List Ar)(x n:Nat):List Ar:=(List.range n).map fun j=>is.getD (x+j) (.kst 0)
theorem gF {N:Num}{is:List Ar}{al:List (Option Nat)}{x n:Nat}:rowI (pn is al N) x n=(slA is x n).map (·.ev N):=by
 simp only[rowI,slA,cZ];rfl
theorem vs_rowI {N:Num}{x n:Nat}:(List.range' x n).map N.i=rowI N x n:=by
 rw[List.range'_eq_map_range,cZ];rfl
theorem rowP_row {N:Num}{w:Int}{x n:Nat}:(rowP w x n).ev N=valW w (rowI N x n):=by rw[rowP_ev,vs_rowI]
theorem zip_ok {N:Num}{f:Nat→Int}:∀ {l:List Ar} {k:Nat},(∀ j a,l[j]? =some a→a.ev N=f (k+j))→∀p∈zipJ l k,p.1.ev N=f p.2
 | [],_,_,p,h=>by cases h
 | a::l,k,h,p,hp=>by
  rcases cD.1 hp with e | e
  ·subst e;exact h 0 a rfl
  ·exact zip_ok (l:=l) (k:=k+1) (fun j b hb=>by rw[show k+1+j=k+(j+1) by omega];exact h (j+1) b hb) p e
theorem zip_row {N:Num}{f:Nat→Int}{x n:Nat}{L:List Int}(hr:rowI N x n=L)(hf:∀j,f j=L.getD j 0):∀p∈zipJ ((List.range' x n).map .var) 0,p.1.ev N=f p.2:=by
 refine zip_ok fun j a ha=> ?_
 rw[bP] at ha;by_cases hj:j<n
 ·rw [List.getElem?_range' hj] at ha;simp only[Option.map_some,aA,Nat.one_mul] at ha;subst ha;rw[bM,hf,←hr,fZ hj];rfl
 ·rw [bI (by rw[List.length_range'];omega)] at ha;cases ha
theorem ent_nil {N:Num}:EntOk N []:=fun _ _ _ h=>by cases h
theorem gB {N:Num}{x n hi:Nat}{l:Ent0}(h:∀v∈rowI N x n,0≤v∧v≤(hi:Int))(hl:EntOk N l):EntOk N ((x,n,hi)::l):=fun x' n' hi' hm j hj=>by
 rcases cD.1 hm with e | e
 ·simp only[aD] at e;obtain ⟨rfl,rfl,rfl⟩:=e;exact h _ (dI (rowI_get hj))
 ·exact hl _ _ _ e j hj
theorem pn_at {N:Num}{is:List Ar}{az:List (Option Nat)}{x:Nat}{a:Ar}(h:is.getD x (.kst 0)=a):(pn is az N).i x=a.ev N:=by rw[←h];rfl
theorem rowI_succ {N:Num}{x n:Nat}:rowI N x (n+1)=N.i x::rowI N (x+1) n:=by
 simp only[rowI,List.range_succ_eq_map,aI,cZ,cJ,List.cons.injEq,true_and];exact cW fun j _=>by show N.i (x+(j+1))=N.i (x+1+j);rw[show x+(j+1)=x+1+j by omega]
end Go.Sy
namespace Go.Proofs.YtnfikgagkamioaaGreatDoor
open Go.Sy
def P106 (is:List Int)(_:List (List Int)):Prop:=∀x∈is,0≤x∧x<18446744073709551616
def I106 (is:List Int)(_:List (List Int))(j:Nat):Int :=
 match is,j with
 | [a,b],0=>a*b/18446744073709551616
 | [a,b],1=>a*b%18446744073709551616
 | _,_=>0
theorem run106:runE ct106 Tryz.f106 (callT []) []=some (⟨[(.var 17,0),(.var 18,1)],none,none⟩,
 [.n 18 (.bin .mul .u64 (.var 0) (.var 1)),
 .n 17 (.bin .add .u64 (.var 15) (.var 16)),
 .n 16 (.bin .shr .u64 (.var 13) (.kst 32)),
 .n 15 (.bin .add .u64 (.var 14) (.var 11)),
 .n 14 (.bin .mul .u64 (.var 3) (.var 5)),
 .n 13 (.bin .add .u64 (.var 10) (.var 12)),
 .n 12 (.bin .mul .u64 (.var 2) (.var 5)),
 .n 11 (.bin .shr .u64 (.var 9) (.kst 32)),
 .n 10 (.bin .and .u64 (.var 9) (.kst 4294967295)),
 .n 9 (.bin .add .u64 (.var 7) (.var 8)),
 .n 8 (.bin .shr .u64 (.var 6) (.kst 32)),
 .n 7 (.bin .mul .u64 (.var 3) (.var 4)),
 .n 6 (.bin .mul .u64 (.var 2) (.var 4)),
 .n 5 (.bin .shr .u64 (.var 1) (.kst 32)),
 .n 4 (.bin .and .u64 (.var 1) (.kst 4294967295)),
 .n 3 (.bin .shr .u64 (.var 0) (.kst 32)),
 .n 2 (.bin .and .u64 (.var 0) (.kst 4294967295))],
 []):=by kernel_rfl
theorem mul_bd {x y:Int}(hx:0≤x∧x≤4294967295)(hy:0≤y∧y≤4294967295):0≤x*y∧x*y≤18446744065119617025 :=
 ⟨Int.mul_nonneg hx.1 hy.1,Int.le_trans (Int.mul_le_mul hx.2 hy.2 hy.1 (by decide)) (by decide)⟩
theorem mul_hi {a b:Int}(ha:0≤a∧a<18446744073709551616)(hb:0≤b∧b<18446744073709551616) :
 a*b=(a/4294967296)*(b/4294967296)*18446744073709551616+((a/4294967296)*(b%4294967296)+(a%4294967296)*(b/4294967296))*4294967296+(a%4294967296)*(b%4294967296):=by
 have h1:a=(a/4294967296)*4294967296+a%4294967296:=by omega
 have h2:b=(b/4294967296)*4294967296+b%4294967296:=by omega
 generalize a/4294967296=x1 at h1 ⊢;generalize a%4294967296=x0 at h1 ⊢;generalize b/4294967296=y1 at h2 ⊢;generalize b%4294967296=y0 at h2 ⊢;subst h1 h2
 grind
theorem spec106 {F:Fns}(hp:F.p 106=P106)(hi:F.i 106=I106):CSpec Tryz.prog F 106 ct106:=by
 refine fG (eU (tab:=[]) trivial) Tryz.func106 (by kernel_rfl) (by kernel_rfl) (by kernel_rfl) run106 (by kernel_rfl) fun is ls N h1 h2 h3 h4 h5=> ?_
 match is,ls,h1 with
 | [a,b],[],_ =>
  have h2:P106 [a,b] []:=by rw[←hp];exact h2
  have e0:N.i 0=a:=h3.i 0 (by decide);have e1:N.i 1=b:=h3.i 1 (by decide);have hb:=h2;simp only[P106,aC] at hb;obtain ⟨ha,hb,-⟩:=hb;simp only[aC,Df.sat,Nd.ev,Ar.ev,e0,e1] at h5;obtain ⟨q18,q17,q16,q15,q14,q13,q12,q11,q10,q9,q8,q7,q6,q5,q4,q3,q2,-⟩:=h5;have m32:∀ {x:Int},0≤x→x<18446744073709551616→iop .and .u64 x 4294967295=x%4294967296:=fun h0 h1=>and_mask (k:= .u64) (c:=32) rfl h0 h1 (by decide)
  have s32:∀x:Int,iop .shr .u64 x 32=x/4294967296:=fun x=>shr_kst (k:= .u64) (c:=32) (by decide)
  rw[m32 ha.1 ha.2] at q2;rw[s32] at q3 q5 q8 q11 q16;rw[m32 hb.1 hb.2] at q4;rw[u64_mul] at q6 q7 q12 q14 q18;rw[u64_add] at q9 q13 q15 q17;have key:=mul_hi ha hb;rw[←q2,←q3,←q4,←q5] at key;have b2:0≤N.i 2∧N.i 2≤4294967295:=by omega
  have b3:0≤N.i 3∧N.i 3≤4294967295:=by omega
  have b4:0≤N.i 4∧N.i 4≤4294967295:=by omega
  have b5:0≤N.i 5∧N.i 5≤4294967295:=by omega
  have p24:=mul_bd b2 b4;have p34:=mul_bd b3 b4;have p25:=mul_bd b2 b5;have p35:=mul_bd b3 b5;rw[bN p24.1 (by omega)] at q6;rw[bN p34.1 (by omega)] at q7;rw[bN p25.1 (by omega)] at q12;rw[bN p35.1 (by omega)] at q14;rw[←q6] at p24 key;rw[←q7] at p34 key;rw[←q12] at p25 key;rw[←q14] at p35 key;rw[m32 (by omega) (by omega)] at q10;refine ⟨List.forall_mem_nil _,⟨?_,trivial,trivial⟩,nofun⟩;simp only[aC,Ar.ev];refine ⟨?_,?_,List.forall_mem_nil _⟩
  ·show N.i 17=F.i 106 [a,b] [] 0;rw[hi];simp only[I106];generalize a*b=ab at key;omega
  ·show N.i 18=F.i 106 [a,b] [] 1;rw[hi,q18];rfl
def T58a:Tr SV:=mkT [(4,.one (.sc (.ptr 0 (.kst 0)))),(6,.one (.sc (.ptr 1 (.kst 0)))),(8,.one (.sc (.kst (.bool false)))),(10,.one (.sc (.num .i64 32)))] .nil
def s58a:St:={ni:=0,nx:=33,na:=0,nb:=2,nv:=0,defs:=[],obs:=[],orc:=[],gl:= .nil,bks:=mkT [(0,{n:=16,rw:=true,cells:=trOf 0 (numsS .u64 0 16) .nil,arr:=none}),(1,{n:=16,rw:=true,cells:=trOf 0 (numsS .u64 16 16) .nil,arr:=none})] .nil}
def T42a:Tr SV:=mkT [(2,.one (.sc (.ptr 0 (.kst 0)))),(4,.one (.sc (.ptr 1 (.kst 0)))),(6,.one (.sc (.num .u64 16)))] .nil
def s42a:St:={ni:=0,nx:=49,na:=0,nb:=2,nv:=0,defs:=[],obs:=[],orc:=[],gl:= .nil,bks:=mkT [(0,{n:=16,rw:=true,cells:=trOf 0 (numsS .u64 17 16) .nil,arr:=none}),(1,{n:=16,rw:=true,cells:=trOf 0 (numsS .u64 33 16) .nil,arr:=none})] .nil}
def T42b:Tr SV:=mkT [(2,.one (.sc (.ptr 0 (.kst 0)))),(4,.one (.sc (.ptr 1 (.kst 0))))] .nil
def s42b:St:={ni:=0,nx:=48,na:=0,nb:=2,nv:=0,defs:=[],obs:=[],orc:=[],gl:= .nil,bks:=mkT [(0,{n:=16,rw:=true,cells:=trOf 0 (numsS .u64 16 16) .nil,arr:=none}),(1,{n:=16,rw:=true,cells:=trOf 0 (numsS .u64 32 16) .nil,arr:=none})] .nil}
def T43a:Tr SV:=mkT [(4,.one (.sc (.ptr 0 (.kst 0)))),(6,.one (.sc (.ptr 1 (.kst 0)))),(8,.one (.sc (.ptr 3 (.kst 0)))),(10,.one (.sc (.ptr 2 (.kst 0)))),(12,.one (.sc (.num .i64 48)))] .nil
def s43a:St:={ni:=0,nx:=49,na:=0,nb:=4,nv:=0,defs:=[],obs:=[],orc:=[],gl:= .nil,bks:=mkT [(0,{n:=16,rw:=true,cells:=trOf 0 (numsS .u64 0 16) .nil,arr:=none}),(1,{n:=16,rw:=true,cells:=trOf 0 (numsS .u64 16 16) .nil,arr:=none}),(2,{n:=16,rw:=true,cells:=trOf 0 (numsS .u64 32 16) .nil,arr:=none}),(3,{n:=16,rw:=true,cells:= .nil,arr:=none})] .nil}
def T12a:Tr SV:=mkT [(8,.one (.sc (.ptr 0 (.kst 0)))),(10,.one (.sc (.ptr 1 (.kst 0)))),(14,.one (.sc (.ptr 2 (.kst 0)))),(16,.one (.sc (.num .u64 96))),(18,.one (.sc (.num .i64 97)))] .nil
def s12a:St:={ni:=0,nx:=98,na:=0,nb:=3,nv:=0,defs:=[],obs:=[],orc:=[],gl:= .nil,bks:=mkT [(0,{n:=32,rw:=true,cells:= .nil,arr:=none}),(1,{n:=16,rw:=true,cells:=trOf 0 (numsS .u64 0 16) .nil,arr:=none}),(2,{n:=80,rw:=true,cells:=trOf 0 (numsS .u64 16 80) .nil,arr:=none})] .nil}
def T107:Tr SV:=mkT [(0,.one (.sc (.ptr 0 (.kst 0)))),(12,.one (.sc (.num .u64 0))),(14,.one (.sc (.num .u64 1))),(16,.one (.sc (.num .u64 2))),(18,.one (.sc (.num .u64 3))),(20,.one (.sc (.num .u64 4))),(92,.one (.sc (.num .i64 5))),(94,.one (.sc (.num .i64 6)))] .nil
def s107:St:={ni:=0,nx:=7,na:=0,nb:=2,nv:=0,defs:=[],obs:=[],orc:=[],gl:= .nil,bks:=mkT [(0,{n:=5,rw:=true,cells:= .nil,arr:=none})] .nil}
def T64:Tr SV:=mkT [(0,.one (.sc (.sl 1 (.kst 0) (.kst 32) none))),(12,.one (.sc (.ptr 5 (.kst 0)))),(14,.one (.sc (.ptr 6 (.kst 0)))),(16,.one (.sc (.ptr 7 (.kst 0)))),(18,.one (.sc (.ptr 8 (.kst 0)))),(20,.one (.sc (.ptr 9 (.kst 0)))),(22,.one (.sc (.ptr 10 (.kst 0)))),(24,.one (.sc (.ptr 11 (.kst 0)))),(26,.one (.sc (.ptr 12 (.kst 0)))),(28,.one (.sc (.num .i64 57))),(30,.one (.sc (.num .i64 58)))] .nil
def s64:St:={ni:=0,nx:=59,na:=1,nb:=13,nv:=0,defs:=[],obs:=[],orc:=[],gl:= .nil,bks:=mkT [(1,{n:=0,rw:=true,cells:= .nil,arr:=some (.u8,0,false)}),(5,{n:=32,rw:=true,cells:=trOf 0 (numsS .u8 0 32) .nil,arr:=none}),(6,{n:=5,rw:=true,cells:=trOf 0 (numsS .u64 32 5) .nil,arr:=none}),(7,{n:=5,rw:=true,cells:=trOf 0 (numsS .u64 37 5) .nil,arr:=none}),(8,{n:=5,rw:=true,cells:=trOf 0 (numsS .u64 42 5) .nil,arr:=none}),(9,{n:=5,rw:=true,cells:=trOf 0 (numsS .u64 47 5) .nil,arr:=none}),(10,{n:=5,rw:=true,cells:=trOf 0 (numsS .u64 52 5) .nil,arr:=none}),(11,{n:=5,rw:=true,cells:= .nil,arr:=none}),(12,{n:=5,rw:=true,cells:= .nil,arr:=none})] .nil}
abbrev w16:Int:=65536
abbrev V16 (l:List Int):Int:=valW w16 l
def P58 (_:List Int)(ls:List (List Int)):Prop :=
 match ls with
 | [a,b]=>Dig w16 a∧Dig w16 b
 | _=>False
def I58 (_:List Int)(ls:List (List Int))(_:Nat):Int :=
 match ls with
 | [a,b]=>if V16 a<V16 b then 1 else 0
 | _=>0
noncomputable abbrev H58:=headOf ct58 Tryz.f58 (callT []) [2] [] T58a s58a
noncomputable abbrev R58:=rndOf ct58 Tryz.f58 (callT []) [2] (loopAt 58 2) T58a s58a [true,false] T58a s58a
noncomputable abbrev O58n:=outOf ct58 Tryz.f58 (callT []) [2] (loopAt 58 2) T58a s58a [false]
noncomputable abbrev O58d:=outOf ct58 Tryz.f58 (callT []) [2] (loopAt 58 2) T58a s58a [true,true]
def cx0:Cx:={}
theorem cx0_ok {F:Fns}:CxOk cx0 F:=⟨fun _ _ h=>absurd h (by decide),fun _ h=>(by cases h),fun _ _ h=>(by cases h),fun _ _ h=>(by cases h)⟩
theorem il0 {N:Num}:IlB N cx0:=fun _ _ h=>(by cases h)
section
variable {N:Num}
theorem R58_ok:okB cx0 [(32,1,15)] (dR R58) (oR R58) [.cmp .neq (.var 35) (.var 37) false] []=true:=by kernel_rfl
theorem R58_35 (hd:∀d∈dR R58,d.sat N):N.i 35=(rowI N 0 16).getD (0+N.i 32*1).toNat 0:=i_of hd 35 (by kernel_rfl)
theorem R58_37 (hd:∀d∈dR R58,d.sat N):N.i 37=(rowI N 16 16).getD (0+N.i 32*1).toNat 0:=i_of hd 37 (by kernel_rfl)
theorem R58_32 (hd:∀d∈dR R58,d.sat N):(pn (iR R58) (aR R58) N).i 32=iop .sub .i64 (N.i 32) 1:=pn_of hd 32 (by kernel_rfl)
theorem R58_0:∀j,j<32→(pn (iR R58) (aR R58) N).i (0+j)=N.i (0+j):=fam_v (by kernel_rfl)
theorem O58d_ok:okB cx0 [(32,1,15)] (dE O58d) (oE O58d) [.cmp .neq (.var 35) (.var 37) true] []=true:=by kernel_rfl
theorem O58d_35 (hd:∀d∈dE O58d,d.sat N):N.i 35=(rowI N 0 16).getD (0+N.i 32*1).toNat 0:=i_of hd 35 (by kernel_rfl)
theorem O58d_37 (hd:∀d∈dE O58d,d.sat N):N.i 37=(rowI N 16 16).getD (0+N.i 32*1).toNat 0:=i_of hd 37 (by kernel_rfl)
theorem O58d_43 (hd:∀d∈dE O58d,d.sat N):N.i 43=bif icmp .lss ((rowI N 0 16).getD (0+N.i 32*1).toNat 0) ((rowI N 16 16).getD (0+N.i 32*1).toNat 0) then 1 else 0:=i_of hd 43 (by kernel_rfl)
theorem O58n_q:obsP (xt N (dE O58n)) (dE O58n) (oE O58n)=(N.i 32<(0:Int)):=by kernel_rfl
end
structure A58 (N:Num) (a b:List Int) (m:Nat):Prop where
 hm:m≤16
 i:N.i 32=(m:Int)-1
 ha:rowI N 0 16=a
 hb:rowI N 16 16=b
 eq:a.drop m=b.drop m
theorem A58.agr {N N':Num}{a b:List Int}{m:Nat}(h:Agr s58a.nx s58a.na N N')(hA:A58 N a b m):A58 N' a b m:=by
 have e:∀x,x<33→N'.i x=N.i x:=h.i;exact ⟨hA.hm,(e 32 (by decide)).trans hA.i,(fI fun j hj=>e _ (by omega)).trans hA.ha,(fI fun j hj=>e _ (by omega)).trans hA.hb,hA.eq⟩
theorem two16 {n m:Nat}{k k':IntKind}{is:List Int}{ls:List (List Int)}(h:Shape [.agg k n,.agg k' m] is ls):∃a b,is=[]∧ls=[a,b]∧a.length=n∧b.length=m:=by
 obtain rfl:=eV rfl h
 match ls,h with
 | [a,b],h=>exact ⟨a,b,rfl,rfl,h.1,h.2.1⟩
theorem O58n_s:O58n=some (⟨[(.kst 0,0)],none,none⟩,dE O58n,oE O58n):=someE (by kernel_rfl)
theorem O58d_s:O58d=some (⟨[(.var 43,0)],none,none⟩,dE O58d,oE O58d):=someE (by kernel_rfl)
theorem R58_s:R58=some (iR R58,aR R58,dR R58,oR R58):=someR (by kernel_rfl)
theorem H58_c:H58.map (·.1)=some (.loop (loopAt 58 2).1,(loopAt 58 2).2):=by kernel_rfl
theorem spec58 {F:Fns}(hp:F.p 58=P58)(hi:F.i 58=I58):CSpec Tryz.prog F 58 ct58:=by
 refine gA (args:=argsOf ct58) (σe:=stOf ct58) rfl Tryz.func58 (fM (by kernel_rfl)) (by kernel_rfl) (by kernel_rfl) fun is ls ws we Ee ac hs hp' hent hat=> ?_
 obtain ⟨a,b,rfl,rfl,ha,hb⟩:=two16 hs;obtain ⟨da,db⟩:P58 [] [a,b]:=by rw[←hp];exact hp'
 refine to_head hm (eU (tab:=[]) trivial) (headR H58_c) (by kernel_rfl) rfl rfl hat hent.inv fun N hag hf hd=>⟨obs_of (R:=True) hd (by kernel_rfl) trivial,fun a1 w1 hat1=> ?_⟩
 have en:∀x,x<32→N.i x=(a++b).getD x 0:=fun x hx=>by rw[hag.i x hx];show (numsL ct58.ps [] [a,b]).getD x 0=_;simp only[ct58,n16,numsL,bJ]
 have h0:A58 (pn (iR (hR H58)) (aR (hR H58)) N) a b 16:=by
  have e:∀j,j<32→(pn (iR (hR H58)) (aR (hR H58)) N).i (0+j)=N.i (0+j):=fam_v (by kernel_rfl);refine ⟨aS _,pn_of hd 32 (by kernel_rfl),fP ha fun j hj=> ?_,fP hb fun j hj=> ?_,by rw[cF (by omega),cF (by omega)]⟩;·rw [e j (by omega),bM,en j (by omega),aE,bQ (by omega),aE]
  ·have:=e (16+j) (by omega);rw[bM] at this;rw[this,en _ (by omega),aE,aP (by omega),ha,bR,aE]
 refine gQ (fun k ac w=>∃N,A58 N a b k∧At F Tryz.f58.ntmps (num0 F ct58.ps [] [a,b]) Ee (stOf ct58) we T58a s58a N ac w) (k:=16) ⟨_,h0,hat1⟩ ?_;clear hat hat1 hag en hd h0 hf;intro m ac w hJ;obtain ⟨N,hA,hat⟩:=hJ;have hm16:=hA.hm;rcases dU m with h0 | h0
 ·subst h0;refine gH hm (eU (tab:=[]) trivial) O58n_s (by kernel_rfl) hat hent fun M hag hf hd=> ?_
  obtain ⟨-,e32,-,-,heq⟩:=hA.agr hag;refine ⟨obs_of hd O58n_q (by omega),⟨?_,trivial,trivial⟩,nofun⟩;simp only[aC];refine ⟨?_,nofun⟩;show (0:Int)=F.i 58 _ _ _;rw[hi];show (0:Int)=if V16 a<V16 b then 1 else 0
  rw[show a=b from heq,bC (by omega)]
 ·obtain ⟨i,rfl⟩:∃i,m=i+1:=⟨m-1,by omega⟩
  have e32:∀ {M:Num},A58 M a b (i+1)→(0+M.i 32*1).toNat=i∧M.i 32=(i:Int):=fun {M} h=>by have:=h.i;omega
  have hent':∀ {M:Num},A58 M a b (i+1)→EntOk M [(32,1,15)]:=fun {M} h=>by
   intro x n hi hx j hj;simp only[aX,aD] at hx;obtain ⟨rfl,rfl,rfl⟩:=hx;have:=(e32 h).2;obtain rfl:j=0:=by omega
   show 0≤M.i 32∧M.i 32≤_;omega
  by_cases hab:a.getD i 0=b.getD i 0
  ·refine gI hm (eU (tab:=[]) trivial) R58_s (by kernel_rfl) rfl rfl hat hent.inv fun M hag hf hd=> ?_
   have hB:=hA.agr hag;have e:=e32 hB;refine ⟨(okB_ok R58_ok (N:=M) cx0_ok il0 (hent' hB) hd).1 ?_,fun a2 w2 hat2=>⟨i,Nat.lt_succ_self _,_,?_,hat2⟩⟩
   ·simp only[aC,Rs.holds,cmpP,Ar.ev,R58_35 hd,R58_37 hd,hB.ha,hB.hb,e.1];exact ⟨hab,nofun⟩
   ·refine ⟨by omega,?_,(fI fun j hj=>R58_0 j (by omega)).trans hB.ha,(fI fun j hj=> ?_).trans hB.hb,?_⟩;·rw [R58_32 hd,e.2];simp only[iop];rw[IntKind.wrap_i64];omega
    ·have:=R58_0 (N:=M) (16+j) (by omega);rw[bM] at this;exact this
    ·rw [dS (l:=a) (i:=i) (by omega),dS (l:=b) (i:=i) (by omega),hB.eq];rw[aE,aE,aU (by omega),aU (by omega)] at hab;simp only[dZ] at hab;rw[hab]
  ·refine gH hm (eU (tab:=[]) trivial) O58d_s (by kernel_rfl) hat hent fun M hag hf hd=> ?_
   have hB:=hA.agr hag;have e:=e32 hB;refine ⟨(okB_ok O58d_ok (N:=M) cx0_ok il0 (hent' hB) hd).1 ?_,⟨?_,trivial,trivial⟩,nofun⟩
   ·simp only[aC,Rs.holds,cmpP,Ar.ev,O58d_35 hd,O58d_37 hd,hB.ha,hB.hb,e.1];exact ⟨hab,nofun⟩
   ·simp only[aC];refine ⟨?_,nofun⟩;show M.i 43=F.i 58 _ _ _;rw[hi,O58d_43 hd,hB.ha,hB.hb,e.1];show _=if V16 a<V16 b then (1:Int) else 0
    rcases Int.lt_or_gt_of_ne hab with h | h
    ·rw [bG (valW_lt (by decide) da db (by omega) (by omega) hB.eq h)];simp only[icmp,bS h,aH]
    ·have:=valW_lt (w:=w16) (by decide) db da (by omega) (by omega) hB.eq.symm h;rw[bC (show ¬V16 a<V16 b by show ¬valW w16 a<valW w16 b;omega)];simp only[icmp,bZ (show ¬a.getD i 0<b.getD i 0 by omega),aQ]
end Go.Proofs.YtnfikgagkamioaaGreatDoor
