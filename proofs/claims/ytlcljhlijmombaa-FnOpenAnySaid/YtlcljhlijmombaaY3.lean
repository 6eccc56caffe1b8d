/- laws.FnOpenAny returns true. All symbols, once. -/
import Derived.Test.YtlcljhlijmombaaY3l
namespace Go.Proofs.Ytlcljhlijmombaa
open Go.Sy
section
variable {F:Fns}
theorem tab3_ok (hF:F8 F){c5 c12:List Ct}(h5:∀c∈c5,CSpec Try.prog F 5 c)(h12:∀c∈c12,CSpec Try.prog F 12 c):TabOk F (tab3 c5 c12):=by
 refine ⟨⟨by kernel_rfl,h5⟩,⟨by kernel_rfl,fun c hc=> ?_⟩,⟨by kernel_rfl,fun c hc=> ?_⟩,⟨by kernel_rfl,h12⟩,trivial⟩ <;> simp only[List.mem_cons,List.not_mem_nil,or_false] at hc
 ·rcases hc with rfl | rfl | rfl | rfl | rfl
  ·exact spec8f hF
  ·exact spec8a hF
  ·exact spec8b hF
  ·exact spec8c hF
  ·exact spec8d hF
 ·subst hc;exact spec9 hF
theorem two {P:Ct→Prop}{a b:Ct}(ha:P a)(hb:P b):∀c∈[a,b],P c:=fun c hc=>by
 simp only[List.mem_cons,List.not_mem_nil,or_false] at hc
 rcases hc with rfl | rfl
 ·exact ha
 ·exact hb
theorem one1 {P:Ct→Prop}{a:Ct}(ha:P a):∀c∈[a],P c:=fun c hc=>by simp only[List.mem_singleton] at hc;subst hc;exact ha
theorem tabS_ok (hF:F8 F):TabOk F tabS:=tab3_ok hF (two (spec5s hF.toF5) (spec5e hF.toF5)) (two (spec12f hF.toF12) (spec12e hF.toF12))
theorem tabV_ok (hF:F8 F):TabOk F tabV:=tab3_ok hF (one1 (spec5z hF.toF5)) (one1 (spec12f hF.toF12))
theorem tabW_ok (hF:F8 F):TabOk F tabW:=tab3_ok hF (one1 (spec5z hF.toF5)) (two (spec12n0 hF.toF12) (spec12g0 hF.toF12))
theorem tabX_ok (hF:F8 F):TabOk F tabX:=tab3_ok hF (one1 (spec5 hF.toF5)) (one1 (spec12f hF.toF12))
theorem tabY_ok (hF:F8 F):TabOk F tabY:=tab3_ok hF (one1 (spec5 hF.toF5)) (two (spec12n hF.toF12) (spec12g hF.toF12))
theorem big_t {n:Nat}{x:Int}{k:Int}(h:x=bif icmp .gtr (n:Int) k then 1 else 0)(hk:k<n):(!(x==0))=true:=by rw[h];exact boo_true (decide_eq_true hk)
theorem big_f {n:Nat}{x:Int}{k:Int}(h:x=bif icmp .gtr (n:Int) k then 1 else 0)(hk:(n:Int)≤k):(!(x==0))=false:=by rw[h];exact boo_false (decide_eq_false (by omega))
def d3nsA:List Df:=[.n 57 (.cmp .gtr (.var 0) (.kst 2147483647))]
def o3nsA:List Ob:=[.boo 57 true,.le (.kst 0) (.var 0)]
theorem run3nsA:runE (ct3 (.kst nilV) sl8) Try.f3 (callT []) [true]=some (⟨[],none,none⟩,d3nsA,o3nsA):=by kernel_rfl
theorem law3nsA {N:Num}{n:Nat}(e0:N.i 0=n)(hd:∀d∈d3nsA,d.sat N)(c0:2147483647<n):∀o∈o3nsA,o.holds N:=by
 simp only[d3nsA,List.forall_mem_cons] at hd
 obtain ⟨g0,-⟩:=hd
 have q57:N.i 57=bif icmp .gtr ((n:Nat):Int) 2147483647 then 1 else 0:=by
  have h:N.i 57=bif icmp .gtr (N.i 0) 2147483647 then 1 else 0:=g0
  rw[h,e0]
 simp only[o3nsA,List.forall_mem_cons]
 exact ⟨big_t q57 (by omega),by show (0:Int)≤N.i 0;rw[e0];omega,nofun⟩
def d3nsB:List Df:=[.n 59 (.cmp .gtr (.var 58) (.kst 2048)),.n 58 (.bin .add .i64 (.kst 0) (.var 0)),.n 57 (.cmp .gtr (.var 0) (.kst 2147483647))]
def o3nsB:List Ob:=[.boo 59 true,.le (.kst 0) (.var 0),.boo 57 false,.le (.kst 0) (.var 0)]
theorem run3nsB:runE (ct3 (.kst nilV) sl8) Try.f3 (callT []) [false,true]=some (⟨[],none,none⟩,d3nsB,o3nsB):=by kernel_rfl
theorem law3nsB {N:Num}{n:Nat}(e0:N.i 0=n)(hd:∀d∈d3nsB,d.sat N)(c0:n≤2147483647)(c1:2048<n):∀o∈o3nsB,o.holds N:=by
 simp only[d3nsB,List.forall_mem_cons] at hd
 obtain ⟨g0,g1,g2,-⟩:=hd
 have q57:N.i 57=bif icmp .gtr ((n:Nat):Int) 2147483647 then 1 else 0:=by
  have h:N.i 57=bif icmp .gtr (N.i 0) 2147483647 then 1 else 0:=g2
  rw[h,e0]
 have q58:N.i 58=((n:Nat):Int):=by
  have h:N.i 58=iop .add .i64 (0) (N.i 0):=g1
  rw[e0,add64 (by omega) (by omega) (by omega)] at h
  rw[h];omega
 have q59:N.i 59=bif icmp .gtr ((n:Nat):Int) 2048 then 1 else 0:=by
  have h:N.i 59=bif icmp .gtr (N.i 58) 2048 then 1 else 0:=g0
  rw[h,q58]
 simp only[o3nsB,List.forall_mem_cons]
 exact ⟨big_t q59 (by omega),by show (0:Int)≤N.i 0;rw[e0];omega,big_f q57 (by omega),by show (0:Int)≤N.i 0;rw[e0];omega,nofun⟩
def d3snA:List Df:=[.n 57 (.cmp .gtr (.var 0) (.kst 2147483647))]
def o3snA:List Ob:=[.boo 57 true,.le (.kst 0) (.var 0)]
theorem run3snA:runE (ct3 sl8 (.kst nilV)) Try.f3 (callT []) [true]=some (⟨[],none,none⟩,d3snA,o3snA):=by kernel_rfl
theorem law3snA {N:Num}{n:Nat}(e0:N.i 0=n)(hd:∀d∈d3snA,d.sat N)(c0:2147483647<n):∀o∈o3snA,o.holds N:=by
 simp only[d3snA,List.forall_mem_cons] at hd
 obtain ⟨g0,-⟩:=hd
 have q57:N.i 57=bif icmp .gtr ((n:Nat):Int) 2147483647 then 1 else 0:=by
  have h:N.i 57=bif icmp .gtr (N.i 0) 2147483647 then 1 else 0:=g0
  rw[h,e0]
 simp only[o3snA,List.forall_mem_cons]
 exact ⟨big_t q57 (by omega),by show (0:Int)≤N.i 0;rw[e0];omega,nofun⟩
def d3snB:List Df:=[.n 59 (.cmp .gtr (.var 58) (.kst 2048)),.n 58 (.bin .add .i64 (.kst 0) (.var 0)),.n 57 (.cmp .gtr (.var 0) (.kst 2147483647))]
def o3snB:List Ob:=[.boo 59 true,.le (.kst 0) (.var 0),.boo 57 false,.le (.kst 0) (.var 0)]
theorem run3snB:runE (ct3 sl8 (.kst nilV)) Try.f3 (callT []) [false,true]=some (⟨[],none,none⟩,d3snB,o3snB):=by kernel_rfl
theorem law3snB {N:Num}{n:Nat}(e0:N.i 0=n)(hd:∀d∈d3snB,d.sat N)(c0:n≤2147483647)(c1:2048<n):∀o∈o3snB,o.holds N:=by
 simp only[d3snB,List.forall_mem_cons] at hd
 obtain ⟨g0,g1,g2,-⟩:=hd
 have q57:N.i 57=bif icmp .gtr ((n:Nat):Int) 2147483647 then 1 else 0:=by
  have h:N.i 57=bif icmp .gtr (N.i 0) 2147483647 then 1 else 0:=g2
  rw[h,e0]
 have q58:N.i 58=((n:Nat):Int):=by
  have h:N.i 58=iop .add .i64 (0) (N.i 0):=g1
  rw[e0,add64 (by omega) (by omega) (by omega)] at h
  rw[h];omega
 have q59:N.i 59=bif icmp .gtr ((n:Nat):Int) 2048 then 1 else 0:=by
  have h:N.i 59=bif icmp .gtr (N.i 58) 2048 then 1 else 0:=g0
  rw[h,q58]
 simp only[o3snB,List.forall_mem_cons]
 exact ⟨big_t q59 (by omega),by show (0:Int)≤N.i 0;rw[e0];omega,big_f q57 (by omega),by show (0:Int)≤N.i 0;rw[e0];omega,nofun⟩
def d3ssA:List Df:=[.n 58 (.cmp .gtr (.var 0) (.kst 2147483647))]
def o3ssA:List Ob:=[.boo 58 true,.le (.kst 0) (.var 0)]
theorem run3ssA:runE (ct3 sl8 sl8) Try.f3 (callT []) [true]=some (⟨[],none,none⟩,d3ssA,o3ssA):=by kernel_rfl
theorem law3ssA {N:Num}{n m:Nat}(e0:N.i 0=n)(_e1:N.i 1=m)(hd:∀d∈d3ssA,d.sat N)(c0:2147483647<n):∀o∈o3ssA,o.holds N:=by
 simp only[d3ssA,List.forall_mem_cons] at hd
 obtain ⟨g0,-⟩:=hd
 have q58:N.i 58=bif icmp .gtr ((n:Nat):Int) 2147483647 then 1 else 0:=by
  have h:N.i 58=bif icmp .gtr (N.i 0) 2147483647 then 1 else 0:=g0
  rw[h,e0]
 simp only[o3ssA,List.forall_mem_cons]
 exact ⟨big_t q58 (by omega),by show (0:Int)≤N.i 0;rw[e0];omega,nofun⟩
def d3ssB:List Df:=[.n 59 (.cmp .gtr (.var 1) (.kst 2147483647)),.n 58 (.cmp .gtr (.var 0) (.kst 2147483647))]
def o3ssB:List Ob:=[.boo 59 true,.le (.kst 0) (.var 1),.boo 58 false,.le (.kst 0) (.var 0)]
theorem run3ssB:runE (ct3 sl8 sl8) Try.f3 (callT []) [false,true]=some (⟨[],none,none⟩,d3ssB,o3ssB):=by kernel_rfl
theorem law3ssB {N:Num}{n m:Nat}(e0:N.i 0=n)(e1:N.i 1=m)(hd:∀d∈d3ssB,d.sat N)(c0:n≤2147483647)(c1:2147483647<m):∀o∈o3ssB,o.holds N:=by
 simp only[d3ssB,List.forall_mem_cons] at hd
 obtain ⟨g0,g1,-⟩:=hd
 have q58:N.i 58=bif icmp .gtr ((n:Nat):Int) 2147483647 then 1 else 0:=by
  have h:N.i 58=bif icmp .gtr (N.i 0) 2147483647 then 1 else 0:=g1
  rw[h,e0]
 have q59:N.i 59=bif icmp .gtr ((m:Nat):Int) 2147483647 then 1 else 0:=by
  have h:N.i 59=bif icmp .gtr (N.i 1) 2147483647 then 1 else 0:=g0
  rw[h,e1]
 simp only[o3ssB,List.forall_mem_cons]
 exact ⟨big_t q59 (by omega),by show (0:Int)≤N.i 1;rw[e1];omega,big_f q58 (by omega),by show (0:Int)≤N.i 0;rw[e0];omega,nofun⟩
def d3ssC:List Df:=[.n 61 (.cmp .gtr (.var 60) (.kst 2048)),.n 60 (.bin .add .i64 (.kst 0) (.var 0)),.n 59 (.cmp .gtr (.var 1) (.kst 2147483647)),.n 58 (.cmp .gtr (.var 0) (.kst 2147483647))]
def o3ssC:List Ob:=[.boo 61 true,.le (.kst 0) (.var 0),.boo 59 false,.le (.kst 0) (.var 1),.boo 58 false,.le (.kst 0) (.var 0)]
theorem run3ssC:runE (ct3 sl8 sl8) Try.f3 (callT []) [false,false,true]=some (⟨[],none,none⟩,d3ssC,o3ssC):=by kernel_rfl
theorem law3ssC {N:Num}{n m:Nat}(e0:N.i 0=n)(e1:N.i 1=m)(hd:∀d∈d3ssC,d.sat N)(c0:n≤2147483647)(c1:m≤2147483647)(c2:2048<n):∀o∈o3ssC,o.holds N:=by
 simp only[d3ssC,List.forall_mem_cons] at hd
 obtain ⟨g0,g1,g2,g3,-⟩:=hd
 have q58:N.i 58=bif icmp .gtr ((n:Nat):Int) 2147483647 then 1 else 0:=by
  have h:N.i 58=bif icmp .gtr (N.i 0) 2147483647 then 1 else 0:=g3
  rw[h,e0]
 have q59:N.i 59=bif icmp .gtr ((m:Nat):Int) 2147483647 then 1 else 0:=by
  have h:N.i 59=bif icmp .gtr (N.i 1) 2147483647 then 1 else 0:=g2
  rw[h,e1]
 have q60:N.i 60=((n:Nat):Int):=by
  have h:N.i 60=iop .add .i64 (0) (N.i 0):=g1
  rw[e0,add64 (by omega) (by omega) (by omega)] at h
  rw[h];omega
 have q61:N.i 61=bif icmp .gtr ((n:Nat):Int) 2048 then 1 else 0:=by
  have h:N.i 61=bif icmp .gtr (N.i 60) 2048 then 1 else 0:=g0
  rw[h,q60]
 simp only[o3ssC,List.forall_mem_cons]
 exact ⟨big_t q61 (by omega),by show (0:Int)≤N.i 0;rw[e0];omega,big_f q59 (by omega),by show (0:Int)≤N.i 1;rw[e1];omega,big_f q58 (by omega),by show (0:Int)≤N.i 0;rw[e0];omega,nofun⟩
def d3ssD:List Df:=[.n 63 (.cmp .gtr (.var 62) (.kst 2048)),.n 62 (.bin .add .i64 (.var 60) (.var 1)),.n 61 (.cmp .gtr (.var 60) (.kst 2048)),.n 60 (.bin .add .i64 (.kst 0) (.var 0)),.n 59 (.cmp .gtr (.var 1) (.kst 2147483647)),.n 58 (.cmp .gtr (.var 0) (.kst 2147483647))]
def o3ssD:List Ob:=[.boo 63 true,.le (.kst 0) (.var 1),.boo 61 false,.le (.kst 0) (.var 0),.boo 59 false,.le (.kst 0) (.var 1),.boo 58 false,.le (.kst 0) (.var 0)]
theorem run3ssD:runE (ct3 sl8 sl8) Try.f3 (callT []) [false,false,false,true]=some (⟨[],none,none⟩,d3ssD,o3ssD):=by kernel_rfl
theorem law3ssD {N:Num}{n m:Nat}(e0:N.i 0=n)(e1:N.i 1=m)(hd:∀d∈d3ssD,d.sat N)(c0:n≤2147483647)(c1:m≤2147483647)(c2:n≤2048)(c3:2048<n+m):∀o∈o3ssD,o.holds N:=by
 simp only[d3ssD,List.forall_mem_cons] at hd
 obtain ⟨g0,g1,g2,g3,g4,g5,-⟩:=hd
 have q58:N.i 58=bif icmp .gtr ((n:Nat):Int) 2147483647 then 1 else 0:=by
  have h:N.i 58=bif icmp .gtr (N.i 0) 2147483647 then 1 else 0:=g5
  rw[h,e0]
 have q59:N.i 59=bif icmp .gtr ((m:Nat):Int) 2147483647 then 1 else 0:=by
  have h:N.i 59=bif icmp .gtr (N.i 1) 2147483647 then 1 else 0:=g4
  rw[h,e1]
 have q60:N.i 60=((n:Nat):Int):=by
  have h:N.i 60=iop .add .i64 (0) (N.i 0):=g3
  rw[e0,add64 (by omega) (by omega) (by omega)] at h
  rw[h];omega
 have q61:N.i 61=bif icmp .gtr ((n:Nat):Int) 2048 then 1 else 0:=by
  have h:N.i 61=bif icmp .gtr (N.i 60) 2048 then 1 else 0:=g2
  rw[h,q60]
 have q62:N.i 62=(((n+m):Nat):Int):=by
  have h:N.i 62=iop .add .i64 (N.i 60) (N.i 1):=g1
  rw[q60,e1,add64 (by omega) (by omega) (by omega)] at h
  rw[h];omega
 have q63:N.i 63=bif icmp .gtr (((n+m):Nat):Int) 2048 then 1 else 0:=by
  have h:N.i 63=bif icmp .gtr (N.i 62) 2048 then 1 else 0:=g0
  rw[h,q62]
 simp only[o3ssD,List.forall_mem_cons]
 exact ⟨big_t q63 (by omega),by show (0:Int)≤N.i 1;rw[e1];omega,big_f q61 (by omega),by show (0:Int)≤N.i 0;rw[e0];omega,big_f q59 (by omega),by show (0:Int)≤N.i 1;rw[e1];omega,big_f q58 (by omega),by show (0:Int)≤N.i 0;rw[e0];omega,nofun⟩
theorem row3 {N:Num}{nx na:Nat}{ps:List Pa}{ls:List (List Int)}{pre nonce key:List Int}{s:Nat}(hag:Agr nx na (num0 F ps [] ls) N)(hx:s+56≤nx)(hps:numsL ps [] ls=pre++(nonce++key))(hp:pre.length=s)(ln:nonce.length=24)(_lk:key.length=32) :
  (∀ j,j<24→N.i (s+j)=nonce.getD j 0)∧(∀ j,j<32→N.i (s+24+j)=key.getD j 0)∧∀j,j<s→N.i j=pre.getD j 0:=by
 have h:∀x,x<s+56→N.i x=(pre++(nonce++key)).getD x 0:=fun x hx'=>by
  rw[hag.i x (by omega)]
  show (numsL ps [] ls).getD x 0=_
  rw[hps]
 refine ⟨fun j hj=> ?_,fun j hj=> ?_,fun j hj=> ?_⟩
 ·rw [h _ (by omega),getD_at hp];exact getD_lo (by omega)
 ·rw [h _ (by omega),show s+24+j=s+(24+j) by omega,getD_at hp];exact getD_at (j:=j) ln
 ·rw [h _ (by omega)];exact getD_lo (by omega)
theorem rowns {N:Num}{nx na:Nat}{x nonce key:List Int}(hag:Agr nx na (num0 F (ct3 (.kst nilV) sl8).ps [] [x,nonce,key]) N)(hx:57≤nx)(ln:nonce.length=24)(lk:key.length=32) :
  (∀ j,j<24→N.i (1+j)=nonce.getD j 0)∧(∀ j,j<32→N.i (1+24+j)=key.getD j 0)∧∀j,j<1→N.i j=[(x.length:Int)].getD j 0 :=
 row3 (s:=1) (pre:=[(x.length:Int)]) (nonce:=nonce) (key:=key) hag hx (by simp only[ct3,sl8,numsL,List.append_nil,List.nil_append,List.cons_append]) rfl ln lk
theorem rowsn {N:Num}{nx na:Nat}{x nonce key:List Int}(hag:Agr nx na (num0 F (ct3 sl8 (.kst nilV)).ps [] [x,nonce,key]) N)(hx:57≤nx)(ln:nonce.length=24)(lk:key.length=32) :
  (∀ j,j<24→N.i (1+j)=nonce.getD j 0)∧(∀ j,j<32→N.i (1+24+j)=key.getD j 0)∧∀j,j<1→N.i j=[(x.length:Int)].getD j 0 :=
 row3 (s:=1) (pre:=[(x.length:Int)]) (nonce:=nonce) (key:=key) hag hx (by simp only[ct3,sl8,numsL,List.append_nil,List.nil_append,List.cons_append]) rfl ln lk
theorem rowss {N:Num}{nx na:Nat}{x y nonce key:List Int}(hag:Agr nx na (num0 F (ct3 sl8 sl8).ps [] [x,y,nonce,key]) N)(hx:58≤nx)(ln:nonce.length=24)(lk:key.length=32) :
  (∀ j,j<24→N.i (2+j)=nonce.getD j 0)∧(∀ j,j<32→N.i (2+24+j)=key.getD j 0)∧∀j,j<2→N.i j=[(x.length:Int),(y.length:Int)].getD j 0 :=
 row3 (s:=2) (pre:=[(x.length:Int),(y.length:Int)]) (nonce:=nonce) (key:=key) hag hx (by simp only[ct3,sl8,numsL,List.append_nil,List.nil_append,List.cons_append]) rfl ln lk
theorem spec3nn (hF:F8 F):CSpec Try.prog F 3 (ct3 (.kst nilV) (.kst nilV)):=by
 refine straight (callT_ok (tabS_ok hF)) Try.func3 (by kernel_rfl) (by kernel_rfl) (by kernel_rfl) run3nns (by kernel_rfl) fun is ls N hs hp hag hf hd=> ?_
 obtain rfl:=Shape.noInt rfl hs
 match ls,hs with
 | [nonce,key],hs =>
  obtain ⟨ln,lk,-⟩:=hs
  obtain ⟨hn,hk,-⟩:=row3 (s:=0) (pre:=[]) (nonce:=nonce) (key:=key) hag (by decide) (by simp only[ct3,numsL,List.append_nil,List.nil_append]) rfl ln lk
  exact ⟨law3nns hF hf hn hk ln lk hd,⟨nofun,trivial,trivial⟩,nofun⟩
set_option maxHeartbeats 1000000 in
theorem spec3ns (hF:F8 F):CSpec Try.prog F 3 (ct3 (.kst nilV) sl8):=by
 refine cspec_of (args:=argsOf (ct3 (.kst nilV) sl8)) (σe:=stOf (ct3 (.kst nilV) sl8)) rfl Try.func3 (body_some (by kernel_rfl)) (by kernel_rfl) (by kernel_rfl) fun is ls ws we Ee a hs hp hent hat=> ?_
 obtain rfl:=Shape.noInt rfl hs
 match ls,hs with
 | [box,nonce,key],hs =>
  obtain ⟨ln,lk,-⟩:=hs
  have hBb:Bytes box:=by
   have hp:F.p 3 [] [box,nonce,key]:=hp
   rw[hF.p3] at hp;exact hp
  by_cases hnsA:2147483647<box.length
  ·exact to_end hm (callT_ok (tab:=[]) trivial) run3nsA (by kernel_rfl) hat hent fun N hag hf hd=>by
    obtain ⟨hn,hk,hp⟩:=rowns hag (by decide) ln lk
    exact ⟨law3nsA (hp 0 (by decide)) hd hnsA,⟨nofun,trivial,trivial⟩,nofun⟩
  by_cases hnsB:2048<box.length
  ·exact to_end hm (callT_ok (tab:=[]) trivial) run3nsB (by kernel_rfl) hat hent fun N hag hf hd=>by
    obtain ⟨hn,hk,hp⟩:=rowns hag (by decide) ln lk
    exact ⟨law3nsB (hp 0 (by decide)) hd (by omega) hnsB,⟨nofun,trivial,trivial⟩,nofun⟩
  have hl:box.length≤2048:=by omega
  rcases Nat.eq_zero_or_pos box.length with h0 | h0
  ·obtain rfl:=List.length_eq_zero_iff.1 h0
   exact to_end hm (callT_ok (tabS_ok hF)) run3nst (by kernel_rfl) hat hent fun N hag hf hd=>by
      obtain ⟨hn,hk,hp⟩:=rowns hag (by decide) ln lk
      exact ⟨law3nst hF hf (hp 0 (by decide)) (hag.a 0 (by decide)) hn hk ln lk hl hd,⟨nofun,trivial,trivial⟩,nofun⟩
  rcases Nat.lt_or_ge box.length 16 with h1 | h1
  ·exact to_end hm (callT_ok (tabS_ok hF)) run3nsu (by kernel_rfl) hat hent fun N hag hf hd=>by
      obtain ⟨hn,hk,hp⟩:=rowns hag (by decide) ln lk
      exact ⟨law3nsu hF hf (hp 0 (by decide)) (hag.a 0 (by decide)) hn hk ln lk hl hBb ⟨h0,h1⟩ hd,⟨nofun,trivial,trivial⟩,nofun⟩
  rcases Nat.eq_or_lt_of_le h1 with h2 | h2
  ·by_cases hok:tagOf box nonce key=box.take 16
   ·exact to_end hm (callT_ok (tabW_ok hF)) run3nsw (by kernel_rfl) hat hent fun N hag hf hd=>by
      obtain ⟨hn,hk,hp⟩:=rowns hag (by decide) ln lk
      exact ⟨law3nsw hF hf (hp 0 (by decide)) (hag.a 0 (by decide)) hn hk ln lk hl hBb h2.symm hok hd,⟨nofun,trivial,trivial⟩,nofun⟩
   ·exact to_end hm (callT_ok (tabV_ok hF)) run3nsv (by kernel_rfl) hat hent fun N hag hf hd=>by
      obtain ⟨hn,hk,hp⟩:=rowns hag (by decide) ln lk
      exact ⟨law3nsv hF hf (hp 0 (by decide)) (hag.a 0 (by decide)) hn hk ln lk hl hBb h2.symm hok hd,⟨nofun,trivial,trivial⟩,nofun⟩
  ·by_cases hok:tagOf box nonce key=box.take 16
   ·exact to_end hm (callT_ok (tabY_ok hF)) run3nsy (by kernel_rfl) hat hent fun N hag hf hd=>by
      obtain ⟨hn,hk,hp⟩:=rowns hag (by decide) ln lk
      exact ⟨law3nsy hF hf (hp 0 (by decide)) (hag.a 0 (by decide)) hn hk ln lk hl hBb h2 hok hd,⟨nofun,trivial,trivial⟩,nofun⟩
   ·exact to_end hm (callT_ok (tabX_ok hF)) run3nsx (by kernel_rfl) hat hent fun N hag hf hd=>by
      obtain ⟨hn,hk,hp⟩:=rowns hag (by decide) ln lk
      exact ⟨law3nsx hF hf (hp 0 (by decide)) (hag.a 0 (by decide)) hn hk ln lk hl hBb h2 hok hd,⟨nofun,trivial,trivial⟩,nofun⟩
set_option maxHeartbeats 1000000 in
theorem spec3ss (hF:F8 F):CSpec Try.prog F 3 (ct3 sl8 sl8):=by
 refine cspec_of (args:=argsOf (ct3 sl8 sl8)) (σe:=stOf (ct3 sl8 sl8)) rfl Try.func3 (body_some (by kernel_rfl)) (by kernel_rfl) (by kernel_rfl) fun is ls ws we Ee a hs hp hent hat=> ?_
 obtain rfl:=Shape.noInt rfl hs
 match ls,hs with
 | [ahead,box,nonce,key],hs =>
  obtain ⟨ln,lk,-⟩:=hs
  have hp:Bytes ahead∧Bytes box:=by
   have hp:F.p 3 [] [ahead,box,nonce,key]:=hp
   rw[hF.p3] at hp;exact hp
  obtain ⟨hBa,hBb⟩:=hp
  by_cases hssA:2147483647<ahead.length
  ·exact to_end hm (callT_ok (tab:=[]) trivial) run3ssA (by kernel_rfl) hat hent fun N hag hf hd=>by
    obtain ⟨hn,hk,hp⟩:=rowss hag (by decide) ln lk
    exact ⟨law3ssA (hp 0 (by decide)) (hp 1 (by decide)) hd hssA,⟨nofun,trivial,trivial⟩,nofun⟩
  by_cases hssB:2147483647<box.length
  ·exact to_end hm (callT_ok (tab:=[]) trivial) run3ssB (by kernel_rfl) hat hent fun N hag hf hd=>by
    obtain ⟨hn,hk,hp⟩:=rowss hag (by decide) ln lk
    exact ⟨law3ssB (hp 0 (by decide)) (hp 1 (by decide)) hd (by omega) hssB,⟨nofun,trivial,trivial⟩,nofun⟩
  by_cases hssC:2048<ahead.length
  ·exact to_end hm (callT_ok (tab:=[]) trivial) run3ssC (by kernel_rfl) hat hent fun N hag hf hd=>by
    obtain ⟨hn,hk,hp⟩:=rowss hag (by decide) ln lk
    exact ⟨law3ssC (hp 0 (by decide)) (hp 1 (by decide)) hd (by omega) (by omega) hssC,⟨nofun,trivial,trivial⟩,nofun⟩
  by_cases hssD:2048<ahead.length+box.length
  ·exact to_end hm (callT_ok (tab:=[]) trivial) run3ssD (by kernel_rfl) hat hent fun N hag hf hd=>by
    obtain ⟨hn,hk,hp⟩:=rowss hag (by decide) ln lk
    exact ⟨law3ssD (hp 0 (by decide)) (hp 1 (by decide)) hd (by omega) (by omega) (by omega) hssD,⟨nofun,trivial,trivial⟩,nofun⟩
  have hl:ahead.length+box.length≤2048:=by omega
  rcases Nat.eq_zero_or_pos ahead.length with ha0 | ha0
  ·obtain rfl:=List.length_eq_zero_iff.1 ha0
   rcases Nat.eq_zero_or_pos box.length with h0 | h0
   ·obtain rfl:=List.length_eq_zero_iff.1 h0
    exact to_end hm (callT_ok (tabS_ok hF)) run3sste (by kernel_rfl) hat hent fun N hag hf hd=>by
      obtain ⟨hn,hk,hp⟩:=rowss hag (by decide) ln lk
      exact ⟨law3sste hF hf (hp 0 (by decide)) (hp 1 (by decide)) (hag.a 0 (by decide)) (hag.a 1 (by decide)) hn hk ln lk hl hd,⟨nofun,trivial,trivial⟩,nofun⟩
   rcases Nat.lt_or_ge box.length 16 with h1 | h1
   ·exact to_end hm (callT_ok (tabS_ok hF)) run3ssue (by kernel_rfl) hat hent fun N hag hf hd=>by
      obtain ⟨hn,hk,hp⟩:=rowss hag (by decide) ln lk
      exact ⟨law3ssue hF hf (hp 0 (by decide)) (hp 1 (by decide)) (hag.a 0 (by decide)) (hag.a 1 (by decide)) hn hk ln lk hl hBb ⟨h0,h1⟩ hd,⟨nofun,trivial,trivial⟩,nofun⟩
   rcases Nat.eq_or_lt_of_le h1 with h2 | h2
   ·by_cases hok:tagOf box nonce key=box.take 16
    ·exact to_end hm (callT_ok (tabW_ok hF)) run3sswe (by kernel_rfl) hat hent fun N hag hf hd=>by
      obtain ⟨hn,hk,hp⟩:=rowss hag (by decide) ln lk
      exact ⟨law3sswe hF hf (hp 0 (by decide)) (hp 1 (by decide)) (hag.a 0 (by decide)) (hag.a 1 (by decide)) hn hk ln lk hl hBb h2.symm hok hd,⟨nofun,trivial,trivial⟩,nofun⟩
    ·exact to_end hm (callT_ok (tabV_ok hF)) run3ssve (by kernel_rfl) hat hent fun N hag hf hd=>by
      obtain ⟨hn,hk,hp⟩:=rowss hag (by decide) ln lk
      exact ⟨law3ssve hF hf (hp 0 (by decide)) (hp 1 (by decide)) (hag.a 0 (by decide)) (hag.a 1 (by decide)) hn hk ln lk hl hBb h2.symm hok hd,⟨nofun,trivial,trivial⟩,nofun⟩
   ·by_cases hok:tagOf box nonce key=box.take 16
    ·exact to_end hm (callT_ok (tabY_ok hF)) run3ssye (by kernel_rfl) hat hent fun N hag hf hd=>by
      obtain ⟨hn,hk,hp⟩:=rowss hag (by decide) ln lk
      exact ⟨law3ssye hF hf (hp 0 (by decide)) (hp 1 (by decide)) (hag.a 0 (by decide)) (hag.a 1 (by decide)) hn hk ln lk hl hBb h2 hok hd,⟨nofun,trivial,trivial⟩,nofun⟩
    ·exact to_end hm (callT_ok (tabX_ok hF)) run3ssxe (by kernel_rfl) hat hent fun N hag hf hd=>by
      obtain ⟨hn,hk,hp⟩:=rowss hag (by decide) ln lk
      exact ⟨law3ssxe hF hf (hp 0 (by decide)) (hp 1 (by decide)) (hag.a 0 (by decide)) (hag.a 1 (by decide)) hn hk ln lk hl hBb h2 hok hd,⟨nofun,trivial,trivial⟩,nofun⟩
  ·skip
   rcases Nat.eq_zero_or_pos box.length with h0 | h0
   ·obtain rfl:=List.length_eq_zero_iff.1 h0
    exact to_end hm (callT_ok (tabS_ok hF)) run3sstf (by kernel_rfl) hat hent fun N hag hf hd=>by
      obtain ⟨hn,hk,hp⟩:=rowss hag (by decide) ln lk
      exact ⟨law3sstf hF hf (hp 0 (by decide)) (hp 1 (by decide)) (hag.a 0 (by decide)) (hag.a 1 (by decide)) hn hk ln lk hl hBa ha0 hd,⟨nofun,trivial,trivial⟩,nofun⟩
   rcases Nat.lt_or_ge box.length 16 with h1 | h1
   ·exact to_end hm (callT_ok (tabS_ok hF)) run3ssuf (by kernel_rfl) hat hent fun N hag hf hd=>by
      obtain ⟨hn,hk,hp⟩:=rowss hag (by decide) ln lk
      exact ⟨law3ssuf hF hf (hp 0 (by decide)) (hp 1 (by decide)) (hag.a 0 (by decide)) (hag.a 1 (by decide)) hn hk ln lk hl hBa ha0 hBb ⟨h0,h1⟩ hd,⟨nofun,trivial,trivial⟩,nofun⟩
   rcases Nat.eq_or_lt_of_le h1 with h2 | h2
   ·by_cases hok:tagOf box nonce key=box.take 16
    ·exact to_end hm (callT_ok (tabW_ok hF)) run3sswf (by kernel_rfl) hat hent fun N hag hf hd=>by
      obtain ⟨hn,hk,hp⟩:=rowss hag (by decide) ln lk
      exact ⟨law3sswf hF hf (hp 0 (by decide)) (hp 1 (by decide)) (hag.a 0 (by decide)) (hag.a 1 (by decide)) hn hk ln lk hl hBa ha0 hBb h2.symm hok hd,⟨nofun,trivial,trivial⟩,nofun⟩
    ·exact to_end hm (callT_ok (tabV_ok hF)) run3ssvf (by kernel_rfl) hat hent fun N hag hf hd=>by
      obtain ⟨hn,hk,hp⟩:=rowss hag (by decide) ln lk
      exact ⟨law3ssvf hF hf (hp 0 (by decide)) (hp 1 (by decide)) (hag.a 0 (by decide)) (hag.a 1 (by decide)) hn hk ln lk hl hBa ha0 hBb h2.symm hok hd,⟨nofun,trivial,trivial⟩,nofun⟩
   ·by_cases hok:tagOf box nonce key=box.take 16
    ·exact to_end hm (callT_ok (tabY_ok hF)) run3ssyf (by kernel_rfl) hat hent fun N hag hf hd=>by
      obtain ⟨hn,hk,hp⟩:=rowss hag (by decide) ln lk
      exact ⟨law3ssyf hF hf (hp 0 (by decide)) (hp 1 (by decide)) (hag.a 0 (by decide)) (hag.a 1 (by decide)) hn hk ln lk hl hBa ha0 hBb h2 hok hd,⟨nofun,trivial,trivial⟩,nofun⟩
    ·exact to_end hm (callT_ok (tabX_ok hF)) run3ssxf (by kernel_rfl) hat hent fun N hag hf hd=>by
      obtain ⟨hn,hk,hp⟩:=rowss hag (by decide) ln lk
      exact ⟨law3ssxf hF hf (hp 0 (by decide)) (hp 1 (by decide)) (hag.a 0 (by decide)) (hag.a 1 (by decide)) hn hk ln lk hl hBa ha0 hBb h2 hok hd,⟨nofun,trivial,trivial⟩,nofun⟩
set_option maxHeartbeats 1000000 in
theorem spec3sn (hF:F8 F):CSpec Try.prog F 3 (ct3 sl8 (.kst nilV)):=by
 refine cspec_of (args:=argsOf (ct3 sl8 (.kst nilV))) (σe:=stOf (ct3 sl8 (.kst nilV))) rfl Try.func3 (body_some (by kernel_rfl)) (by kernel_rfl) (by kernel_rfl) fun is ls ws we Ee a hs hp hent hat=> ?_
 obtain rfl:=Shape.noInt rfl hs
 match ls,hs with
 | [ahead,nonce,key],hs =>
  obtain ⟨ln,lk,-⟩:=hs
  have hBa:Bytes ahead:=by
   have hp:F.p 3 [] [ahead,nonce,key]:=hp
   rw[hF.p3] at hp;exact hp
  by_cases hsnA:2147483647<ahead.length
  ·exact to_end hm (callT_ok (tab:=[]) trivial) run3snA (by kernel_rfl) hat hent fun N hag hf hd=>by
    obtain ⟨hn,hk,hp⟩:=rowsn hag (by decide) ln lk
    exact ⟨law3snA (hp 0 (by decide)) hd hsnA,⟨nofun,trivial,trivial⟩,nofun⟩
  by_cases hsnB:2048<ahead.length
  ·exact to_end hm (callT_ok (tab:=[]) trivial) run3snB (by kernel_rfl) hat hent fun N hag hf hd=>by
    obtain ⟨hn,hk,hp⟩:=rowsn hag (by decide) ln lk
    exact ⟨law3snB (hp 0 (by decide)) hd (by omega) hsnB,⟨nofun,trivial,trivial⟩,nofun⟩
  have hl:ahead.length≤2048:=by omega
  rcases Nat.eq_zero_or_pos ahead.length with ha0 | ha0
  ·obtain rfl:=List.length_eq_zero_iff.1 ha0
   exact to_end hm (callT_ok (tabS_ok hF)) run3snse (by kernel_rfl) hat hent fun N hag hf hd=>by
      obtain ⟨hn,hk,hp⟩:=rowsn hag (by decide) ln lk
      exact ⟨law3snse hF hf (hp 0 (by decide)) (hag.a 0 (by decide)) hn hk ln lk hl hd,⟨nofun,trivial,trivial⟩,nofun⟩
  ·exact to_end hm (callT_ok (tabS_ok hF)) run3snsf (by kernel_rfl) hat hent fun N hag hf hd=>by
      obtain ⟨hn,hk,hp⟩:=rowsn hag (by decide) ln lk
      exact ⟨law3snsf hF hf (hp 0 (by decide)) (hag.a 0 (by decide)) hn hk ln lk hl hBa ha0 hd,⟨nofun,trivial,trivial⟩,nofun⟩
end
open Go.Sy
noncomputable def Fi:Nat→List Int→List (List Int)→Nat→Int
 | 48=>I48 | 53=>I53 | 54=>I54 | 55=>I55 | 23=>I23 | 24=>I24 | 16=>I16 | 25=>I25 | 28=>I28 | 29=>I29 | 18=>I18 | 19=>I19 | 20=>I20 | 5=>I5 | 8=>I8
 | _=>fun _ _ _=>1
noncomputable def Fa:Nat→List Int→List (List Int)→List Int
 | 49=>A49 | 44=>A44 | 50=>A50 | 34=>A34 | 38=>A38 | 31=>A31 | 33=>A33 | 330=>A33s | 24=>A24 | 12=>A12 | 17=>A17 | 11=>A11 | 5=>A5
 | _=>fun _ _=>[]
noncomputable def Fp:Nat→List Int→List (List Int)→Prop
 | 48=>P48 | 53=>P53 | 54=>P54 | 55=>P55 | 49=>P49 | 44=>P44 | 50=>P50 | 34=>P34 | 23=>P23 | 33=>P33 | 330=>P33s | 24=>P24 | 240=>P24z | 120=>P120 | 121=>P121 | 122=>P122
 | 29=>P29 | 17=>P17 | 18=>P18 | 19=>P19 | 20=>P20 | 11=>P11 | 5=>P5 | 51=>P51 | 52=>P52 | 8=>P8
 | 3=>fun _ ls=>match ls with
  | [box,_,_]=>Bytes box
  | [ahead,box,_,_]=>Bytes ahead∧Bytes box
  | [_,_]=>True
  | _=>False
 | _=>fun _ _=>True
noncomputable def FA:Fns:=⟨Fi,Fa,Fp⟩
theorem f49:F49 FA:=⟨rfl,rfl,rfl,rfl,rfl,rfl,rfl,rfl,rfl,rfl⟩
theorem f34:F34 FA:={f49 with p44:=rfl,a44:=rfl,p50:=rfl,a50:=rfl,p34:=rfl,a34:=rfl}
theorem f23:F23 FA:={f34 with p23:=rfl,i23:=rfl}
theorem f33:F33 FA:=⟨fun _ _=>trivial,rfl,rfl,rfl⟩
theorem f33s:F33s FA:=⟨rfl,rfl⟩
theorem f24:F24 FA:=⟨rfl,rfl,rfl,rfl⟩
theorem f12:F12 FA:={f23,f33,f33s,f24 with p31:=fun _ _=>trivial,a31:=rfl,p120:=rfl,p121:=rfl,p122:=rfl,a12:=rfl}
theorem fsal:Fsal FA:=⟨fun _ _=>trivial,rfl,fun _ _=>trivial,rfl,rfl,rfl,rfl,rfl⟩
theorem f11:F11 FA:=⟨rfl,rfl,rfl,rfl,rfl,rfl,rfl,rfl⟩
theorem f5:F5 FA:={f12,fsal,f11 with p16:=fun _ _=>trivial,i16:=rfl,p5:=rfl,p51:=rfl,p52:=rfl,p123:=fun _ _=>trivial,i5:=rfl,a5:=rfl}
theorem f8:F8 FA:={f5 with p8:=rfl,i8:=rfl,i9:=rfl,p3:=rfl}
end Go.Proofs.Ytlcljhlijmombaa
