/- laws.FnOpenAny: what its runs owe. -/
import Derived.Test.YtlcljhlijmombaaY3f
import Derived.Test.YtlcljhlijmombaaY8
namespace Go.Proofs.Ytlcljhlijmombaa
open Go.Sy
section
variable {F:Fns} {N:Num} {ahead box nonce key:List Int}
theorem subV {A B x:Nat}{L:List Int}(hB:N.a B=L)(hx:N.i x=(L.length:Nat))(h:(Df.a A (.sub B (.kst 0) (.var x))).sat N):N.a A=L:=by
 have h:N.a A=((N.a B).drop (Int.toNat 0)).take (N.i x).toNat:=h
 rw[h,hB];exact sub8 hx
theorem msgL_bytes {box:List Int}:Bytes (msgL box nonce key):=by
 intro x hx
 unfold msgL at hx
 rcases List.mem_append.1 hx with h | h
 ·obtain ⟨i,_,rfl⟩:=List.mem_map.1 h
  unfold iop
  simp only[IntKind.wrap_u8]
  omega
 ·exact xorL_bytes _ _ _ x h
abbrev nl:List Int:=[]
abbrev Row8 (N:Num) (s n:Nat) (L:List Int):Prop:=∀j,j<n→N.i (s+j)=L.getD j 0
theorem hC {x y n:Nat}{K:Int}(e:N.i y=(n:Nat))(h:(Df.n x (.cmp .gtr (.var y) (.kst K))).sat N):N.i x=bif icmp .gtr (n:Int) K then 1 else 0:=by
 have h:N.i x=bif icmp .gtr (N.i y) K then 1 else 0:=h
 rw[h,e]
theorem hA0 {x y n:Nat}(e:N.i y=(n:Nat))(b:n≤2048)(h:(Df.n x (.bin .add .i64 (.kst 0) (.var y))).sat N):N.i x=(n:Nat):=by
 have h:N.i x=iop .add .i64 0 (N.i y):=h
 rw[e,add64 (by omega) (by omega) (by omega)] at h
 rw[h];omega
theorem hAz {x y n:Nat}(e:N.i y=(n:Nat))(b:n≤2048)(h:(Df.n x (.bin .add .i64 (.var y) (.kst 0))).sat N):N.i x=(n:Nat):=by
 have h:N.i x=iop .add .i64 (N.i y) 0:=h
 rw[e,add64 (by omega) (by omega) (by omega)] at h
 rw[h];omega
theorem hAA {x y z n m:Nat}(e:N.i y=(n:Nat))(e2:N.i z=(m:Nat))(b:n+m≤2048)(h:(Df.n x (.bin .add .i64 (.var y) (.var z))).sat N):N.i x=((n+m:Nat):Int):=by
 have h:N.i x=iop .add .i64 (N.i y) (N.i z):=h
 rw[e,e2,add64 (by omega) (by omega) (by omega)] at h
 rw[h];omega
theorem hV {A s n:Nat}{L:List Int}(h:(Df.a A (.lit (vs s n))).sat N)(hn:Row8 N s n L)(ln:L.length=n):N.a A=L:=Eq.trans h (vs_map hn ln)
theorem hL {x A:Nat}{L:List Int}(e:N.a A=L)(h:(Df.n x (.len A)).sat N):N.i x=(L.length:Nat):=by
 have h:N.i x=((N.a A).length:Nat):=h
 rw[h,e]
theorem h9 {x:Nat}(hF:F8 F)(hf:N.f=F)(h:(Df.n x (.fn 9 [] [] 0)).sat N):N.i x=1:=by
 have h:N.i x=N.f.i 9 [] [] 0:=h
 rw[h,hf,hF.i9]
theorem oT {x:Nat}(h:N.i x=1):(Ob.boo x true).holds N:=by show (!(N.i x==0))=true;rw[h];rfl
theorem oF {x:Nat}(h:N.i x=0):(Ob.boo x false).holds N:=by show (!(N.i x==0))=false;rw[h];rfl
theorem oG {x n:Nat}{K:Int}(h:N.i x=bif icmp .gtr (n:Int) K then 1 else 0)(hk:(n:Int)≤K):(Ob.boo x false).holds N:=by show (!(N.i x==0))=false;rw[h];exact boo_false (decide_eq_false (by omega))
theorem o123 {L:List Nat}(hF:F8 F)(hf:N.f=F):(Ob.prd 123 [] L).holds N:=by show N.f.p 123 [] _;rw[hf];exact hF.p123 _ _
theorem oP {p:Nat}{P:List Int→List (List Int)→Prop}{B:List Nat}{L:List (List Int)}(hf:N.f=F)(hp:F.p p=P)(e:B.map N.a=L)(h:P [] L):(Ob.prd p [] B).holds N:=by
 show N.f.p p [] (B.map N.a);rw[hf,hp,e];exact h
theorem m2 {A B:Nat}{x y:List Int}(a:N.a A=x)(b:N.a B=y):[A,B].map N.a=[x,y]:=by rw[←a,←b];rfl
theorem m3 {A B C:Nat}{x y z:List Int}(a:N.a A=x)(b:N.a B=y)(c:N.a C=z):[A,B,C].map N.a=[x,y,z]:=by rw[←a,←b,←c];rfl
theorem m4 {A B C D:Nat}{x y z u:List Int}(a:N.a A=x)(b:N.a B=y)(c:N.a C=z)(d:N.a D=u):[A,B,C,D].map N.a=[x,y,z,u]:=by rw[←a,←b,←c,←d];rfl
theorem oS {x A:Nat}{L:List Int}(e:N.i x=(L.length:Nat))(a:N.a A=L):(Ob.fits (.kst 0) (.var x) A).holds N:=by
 show (0:Int)≤0∧0≤N.i x∧0+N.i x≤((N.a A).length:Nat);rw[e,a];omega
theorem o0 {x n:Nat}(e:N.i x=(n:Nat)):(Ob.le (.kst 0) (.var x)).holds N:=by show (0:Int)≤N.i x;rw[e];omega
theorem oK {x n:Nat}{K:Int}(e:N.i x=(n:Nat))(h:(n:Int)≤K):(Ob.le (.var x) (.kst K)).holds N:=by show N.i x≤K;rw[e];exact h
theorem oN {x n:Nat}(e:N.i x=(n:Nat))(h:0<n):(Ob.lt (.kst 0) (.var x)).holds N:=by show (0:Int)<N.i x;rw[e];omega
theorem oZ {x:Nat}(e:N.i x=(nl.length:Nat)):(Ob.eq (.var x) (.kst 0)).holds N:=e
theorem oA {x A:Nat}{L:List Int}(e:N.i x=(L.length:Nat))(a:N.a A=L):(Ob.lenA (.var x) A).holds N:=by show N.i x=((N.a A).length:Nat);rw[e,a]
theorem hM {A f:Nat}{X:List Int→List (List Int)→List Int}{L:List (List Int)}{B:List Nat}(hf:N.f=F)(hx:F.a f=X)(e:B.map N.a=L)(h:(Df.a A (.fn f [] B)).sat N):N.a A=X [] L:=by
 have h:N.a A=N.f.a f [] (B.map N.a):=h
 rw[h,hf,hx,e]
theorem hI {x f j:Nat}{X:List Int→List (List Int)→Nat→Int}{L:List (List Int)}{B:List Nat}(hf:N.f=F)(hx:F.i f=X)(e:B.map N.a=L)(h:(Df.n x (.fn f [] B j)).sat N):N.i x=X [] L j:=by
 have h:N.i x=N.f.i f [] (B.map N.a) j:=h
 rw[h,hf,hx,e]
theorem i2 {x y:List Int}(h:x=y):I8 [] [x,y] 0=1:=if_pos h
theorem i3 {x a y:List Int}(h:x=a++y):I8 [] [x,a,y] 0=1:=if_pos h
def okL (L:List Int):Prop:=Bytes L∧L.length≤1099511627776
theorem okL.app {A B:List Int}(hA:Bytes A)(hB:Bytes B)(h:A.length+B.length≤1099511627776):okL (A++B):=⟨fun x hx=>by
  rcases List.mem_append.1 hx with h | h
  ·exact hA x h
  ·exact hB x h,by rw[List.length_append];exact h⟩
set_option maxHeartbeats 1000000 in
theorem law3nns (hF:F8 F)(hf:N.f=F)(hn:Row8 N 0 24 nonce)(hk:Row8 N 24 32 key)(ln:nonce.length=24)(lk:key.length=32)(hd:∀d∈d3nns,d.sat N):∀o∈o3nns,o.holds N:=by
 simp only[d3nns,List.forall_mem_cons] at hd
 obtain ⟨g0,g1,g2,g3,g4,g5,g6,g7,g8,g9,-⟩:=hd
 have w0:N.a 0=nl:=g9
 have w1:=hV g8 hn ln
 have w2:=hV g7 hk lk
 have w3:N.a 3=nl:=g6
 have w4:=hV g5 hn ln
 have w5:=hV g4 hk lk
 have w6:N.a 6=nl:=g3
 have w7:=hV g2 hn ln
 have w8:=hV g1 hk lk
 have q56:=h9 hF hf g0
 simp only[o3nns,List.forall_mem_cons]
 exact ⟨oT q56,
  o123 hF hf,
  o123 hF hf,
  o123 hF hf,
  o123 hF hf,
  o123 hF hf,
  o123 hF hf,nofun⟩
set_option maxHeartbeats 1000000 in
theorem law3nst (hF:F8 F)(hf:N.f=F)(e0:N.i 0=(nl.length:Nat))(a0:N.a 0=nl)(hn:Row8 N 1 24 nonce)(hk:Row8 N 25 32 key)(ln:nonce.length=24)(lk:key.length=32)(hl:nl.length≤2048)(hd:∀d∈d3nst,d.sat N):∀o∈o3nst,o.holds N:=by
 simp only[d3nst,List.forall_mem_cons] at hd
 obtain ⟨g0,g1,g2,g3,g4,g5,g6,g7,g8,g9,g10,g11,g12,g13,g14,-⟩:=hd
 have q57:=hC e0 g14
 have q58:=hA0 e0 (by omega) g13
 have q59:=hC q58 g12
 have w1:=subV a0 e0 g11
 have w2:=hV g10 hn ln
 have w3:=hV g9 hk lk
 have w4:=subV a0 e0 g8
 have w5:N.a 5=nl:=g7
 have w6:=hV g6 hn ln
 have w7:=hV g5 hk lk
 have w8:=subV a0 e0 g4
 have w9:N.a 9=nl:=g3
 have w10:=hV g2 hn ln
 have w11:=hV g1 hk lk
 have q60:=h9 hF hf g0
 simp only[o3nst,List.forall_mem_cons]
 exact ⟨oT q60,
  o123 hF hf,
  o123 hF hf,
  o123 hF hf,
  oP hf hF.p120 (m3 w9 w10 w11) ⟨nofun,by first | omega | decide,fun h=>absurd h.1 (by first | omega | decide)⟩,
  oZ e0,
  oS e0 a0,
  oP hf hF.p120 (m3 w5 w6 w7) ⟨nofun,by first | omega | decide,fun h=>absurd h.1 (by first | omega | decide)⟩,
  oZ e0,
  oS e0 a0,
  oP hf hF.p52 (m3 w1 w2 w3) (by simp only[P52];first | omega | decide),
  oS e0 a0,
  oG q59 (by omega),
  o0 e0,
  oG q57 (by omega),
  o0 e0,nofun⟩
set_option maxHeartbeats 1000000 in
theorem law3nsu (hF:F8 F)(hf:N.f=F)(e0:N.i 0=(box.length:Nat))(a0:N.a 0=box)(hn:Row8 N 1 24 nonce)(hk:Row8 N 25 32 key)(ln:nonce.length=24)(lk:key.length=32)(hl:box.length≤2048)(hBb:Bytes box)(hs:0<box.length∧box.length<16)(hd:∀d∈d3nsu,d.sat N):∀o∈o3nsu,o.holds N:=by
 simp only[d3nsu,List.forall_mem_cons] at hd
 obtain ⟨g0,g1,g2,g3,g4,g5,g6,g7,g8,g9,g10,g11,g12,g13,g14,-⟩:=hd
 have q57:=hC e0 g14
 have q58:=hA0 e0 (by omega) g13
 have q59:=hC q58 g12
 have w1:=subV a0 e0 g11
 have w2:=hV g10 hn ln
 have w3:=hV g9 hk lk
 have w4:=subV a0 e0 g8
 have w5:=subV w4 e0 g7
 have w6:=hV g6 hn ln
 have w7:=hV g5 hk lk
 have w8:=subV a0 e0 g4
 have w9:=subV w8 e0 g3
 have w10:=hV g2 hn ln
 have w11:=hV g1 hk lk
 have q60:=h9 hF hf g0
 simp only[o3nsu,List.forall_mem_cons]
 exact ⟨oT q60,
  o123 hF hf,
  o123 hF hf,
  o123 hF hf,
  oP hf hF.p120 (m3 w9 w10 w11) ⟨hBb,by first | omega | decide,fun h=>absurd h.1 (by first | omega | decide)⟩,
  oS e0 w8,
  oK e0 (by omega),
  oN e0 (by omega),
  oS e0 a0,
  oP hf hF.p120 (m3 w5 w6 w7) ⟨hBb,by first | omega | decide,fun h=>absurd h.1 (by first | omega | decide)⟩,
  oS e0 w4,
  oK e0 (by omega),
  oN e0 (by omega),
  oS e0 a0,
  oP hf hF.p52 (m3 w1 w2 w3) (by simp only[P52];first | omega | decide),
  oS e0 a0,
  oG q59 (by omega),
  o0 e0,
  oG q57 (by omega),
  o0 e0,nofun⟩
set_option maxHeartbeats 1000000 in
theorem law3nsv (hF:F8 F)(hf:N.f=F)(e0:N.i 0=(box.length:Nat))(a0:N.a 0=box)(hn:Row8 N 1 24 nonce)(hk:Row8 N 25 32 key)(ln:nonce.length=24)(lk:key.length=32)(hl:box.length≤2048)(hBb:Bytes box)(h16:box.length=16)(hno:tagOf box nonce key≠box.take 16)(hd:∀d∈d3nsv,d.sat N):∀o∈o3nsv,o.holds N:=by
 simp only[d3nsv,List.forall_mem_cons] at hd
 obtain ⟨g0,g1,g2,g3,g4,g5,g6,g7,g8,g9,g10,g11,g12,g13,g14,g15,-⟩:=hd
 have q57:=hC e0 g15
 have q58:=hA0 e0 (by omega) g14
 have q59:=hC q58 g13
 have w1:=subV a0 e0 g12
 have w2:=hV g11 hn ln
 have w3:=hV g10 hk lk
 have q60:N.i 60=0:=(hI hf hF.i5 (m3 w1 w2 w3) g9).trans (if_neg hno)
 have w4:=subV a0 e0 g8
 have w5:=subV w4 e0 g7
 have w6:=hV g6 hn ln
 have w7:=hV g5 hk lk
 have w8:=subV a0 e0 g4
 have w9:=subV w8 e0 g3
 have w10:=hV g2 hn ln
 have w11:=hV g1 hk lk
 have q61:=h9 hF hf g0
 simp only[o3nsv,List.forall_mem_cons]
 exact ⟨oT q61,
  o123 hF hf,
  o123 hF hf,
  o123 hF hf,
  oP hf hF.p120 (m3 w9 w10 w11) ⟨hBb,by first | omega | decide,fun h=>hno h.2⟩,
  oS e0 w8,
  oK e0 (by omega),
  oN e0 (by omega),
  oS e0 a0,
  oP hf hF.p120 (m3 w5 w6 w7) ⟨hBb,by first | omega | decide,fun h=>hno h.2⟩,
  oS e0 w4,
  oK e0 (by omega),
  oN e0 (by omega),
  oS e0 a0,
  oF q60,
  oP hf hF.p51 (m3 w1 w2 w3) ⟨hBb,by omega⟩,
  oS e0 a0,
  oG q59 (by omega),
  o0 e0,
  oG q57 (by omega),
  o0 e0,nofun⟩
set_option maxHeartbeats 1000000 in
theorem law3nsw (hF:F8 F)(hf:N.f=F)(e0:N.i 0=(box.length:Nat))(a0:N.a 0=box)(hn:Row8 N 1 24 nonce)(hk:Row8 N 25 32 key)(ln:nonce.length=24)(lk:key.length=32)(hl:box.length≤2048)(hBb:Bytes box)(h16:box.length=16)(hok:tagOf box nonce key=box.take 16)(hd:∀d∈d3nsw,d.sat N):∀o∈o3nsw,o.holds N:=by
 simp only[d3nsw,List.forall_mem_cons] at hd
 obtain ⟨g0,g1,g2,g3,g4,g5,g6,g7,g8,g9,g10,g11,g12,g13,g14,g15,g16,g17,g18,g19,g20,g21,-⟩:=hd
 have lmsg:=msgL_length box nonce key
 have bmsg:Bytes (msgL box nonce key):=msgL_bytes
 have hm0:msgL box nonce key=[]:=List.length_eq_zero_iff.1 (by omega)
 have q57:=hC e0 g21
 have q58:=hA0 e0 (by omega) g20
 have q59:=hC q58 g19
 have w1:=subV a0 e0 g18
 have w2:=hV g17 hn ln
 have w3:=hV g16 hk lk
 have q60:N.i 60=1:=(hI hf hF.i5 (m3 w1 w2 w3) g15).trans (if_pos hok)
 have w4:=subV a0 e0 g14
 have w5:=subV w4 e0 g13
 have w6:=hV g12 hn ln
 have w7:=hV g11 hk lk
 have w8:=subV a0 e0 g10
 have w9:=subV w8 e0 g9
 have w10:=hV g8 hn ln
 have w11:=hV g7 hk lk
 have w12:N.a 12=nl:=g6
 have w13:N.a 13=nl:=g5
 have q61:N.i 61=1:=(hI hf hF.i8 (m2 w12 w13) g4).trans (i2 rfl)
 have w14:N.a 14=nl:=g3
 have w15:N.a 15=nl:=g2
 have q62:N.i 62=1:=(hI hf hF.i8 (m2 w14 w15) g1).trans (i2 rfl)
 have q63:=h9 hF hf g0
 simp only[o3nsw,List.forall_mem_cons]
 exact ⟨oT q63,
  o123 hF hf,
  oT q62,
  oP hf hF.p8 (m2 w14 w15) (by show ∀l∈_,okL l;simp only[List.forall_mem_cons];exact ⟨⟨nofun,Nat.zero_le _⟩,⟨nofun,Nat.zero_le _⟩,nofun⟩),
  oT q61,
  oP hf hF.p8 (m2 w12 w13) (by show ∀l∈_,okL l;simp only[List.forall_mem_cons];exact ⟨⟨nofun,Nat.zero_le _⟩,⟨nofun,Nat.zero_le _⟩,nofun⟩),
  oP hf hF.p122 (m3 w9 w10 w11) ⟨⟨hBb,by omega,hok⟩,by omega⟩,
  oS e0 w8,
  oK e0 (by omega),
  oN e0 (by omega),
  oS e0 a0,
  oP hf hF.p122 (m3 w5 w6 w7) ⟨⟨hBb,by omega,hok⟩,by omega⟩,
  oS e0 w4,
  oK e0 (by omega),
  oN e0 (by omega),
  oS e0 a0,
  oT q60,
  oP hf hF.p51 (m3 w1 w2 w3) ⟨hBb,by omega⟩,
  oS e0 a0,
  oG q59 (by omega),
  o0 e0,
  oG q57 (by omega),
  o0 e0,nofun⟩
set_option maxHeartbeats 1000000 in
theorem law3nsx (hF:F8 F)(hf:N.f=F)(e0:N.i 0=(box.length:Nat))(a0:N.a 0=box)(hn:Row8 N 1 24 nonce)(hk:Row8 N 25 32 key)(ln:nonce.length=24)(lk:key.length=32)(hl:box.length≤2048)(hBb:Bytes box)(h16:16<box.length)(hno:tagOf box nonce key≠box.take 16)(hd:∀d∈d3nsx,d.sat N):∀o∈o3nsx,o.holds N:=by
 simp only[d3nsx,List.forall_mem_cons] at hd
 obtain ⟨g0,g1,g2,g3,g4,g5,g6,g7,g8,g9,g10,g11,g12,g13,g14,g15,g16,g17,-⟩:=hd
 have q57:=hC e0 g17
 have q58:=hA0 e0 (by omega) g16
 have q59:=hC q58 g15
 have w1:=subV a0 e0 g14
 have w2:=hV g13 hn ln
 have w3:=hV g12 hk lk
 have w4:N.a 4=msgL box nonce key:=hM hf hF.a5 (m3 w1 w2 w3) g11
 have q60:=hL w4 g10
 have q61:N.i 61=0:=(hI hf hF.i5 (m3 w1 w2 w3) g9).trans (if_neg hno)
 have w5:=subV a0 e0 g8
 have w6:=subV w5 e0 g7
 have w7:=hV g6 hn ln
 have w8:=hV g5 hk lk
 have w9:=subV a0 e0 g4
 have w10:=subV w9 e0 g3
 have w11:=hV g2 hn ln
 have w12:=hV g1 hk lk
 have q62:=h9 hF hf g0
 simp only[o3nsx,List.forall_mem_cons]
 exact ⟨oT q62,
  o123 hF hf,
  o123 hF hf,
  o123 hF hf,
  oP hf hF.p120 (m3 w10 w11 w12) ⟨hBb,by first | omega | decide,fun h=>hno h.2⟩,
  oS e0 w9,
  oK e0 (by omega),
  oN e0 (by omega),
  oS e0 a0,
  oP hf hF.p120 (m3 w6 w7 w8) ⟨hBb,by first | omega | decide,fun h=>hno h.2⟩,
  oS e0 w5,
  oK e0 (by omega),
  oN e0 (by omega),
  oS e0 a0,
  oF q61,
  oP hf hF.p5 (m3 w1 w2 w3) ⟨hBb,by omega,by omega⟩,
  oS e0 a0,
  oG q59 (by omega),
  o0 e0,
  oG q57 (by omega),
  o0 e0,nofun⟩
set_option maxHeartbeats 1000000 in
theorem law3nsy (hF:F8 F)(hf:N.f=F)(e0:N.i 0=(box.length:Nat))(a0:N.a 0=box)(hn:Row8 N 1 24 nonce)(hk:Row8 N 25 32 key)(ln:nonce.length=24)(lk:key.length=32)(hl:box.length≤2048)(hBb:Bytes box)(h16:16<box.length)(hok:tagOf box nonce key=box.take 16)(hd:∀d∈d3nsy,d.sat N):∀o∈o3nsy,o.holds N:=by
 simp only[d3nsy,List.forall_mem_cons] at hd
 obtain ⟨g0,g1,g2,g3,g4,g5,g6,g7,g8,g9,g10,g11,g12,g13,g14,g15,g16,g17,g18,g19,g20,g21,g22,g23,g24,g25,g26,g27,-⟩:=hd
 have lmsg:=msgL_length box nonce key
 have bmsg:Bytes (msgL box nonce key):=msgL_bytes
 have q57:=hC e0 g27
 have q58:=hA0 e0 (by omega) g26
 have q59:=hC q58 g25
 have w1:=subV a0 e0 g24
 have w2:=hV g23 hn ln
 have w3:=hV g22 hk lk
 have w4:N.a 4=msgL box nonce key:=hM hf hF.a5 (m3 w1 w2 w3) g21
 have q60:=hL w4 g20
 have q61:N.i 61=1:=(hI hf hF.i5 (m3 w1 w2 w3) g19).trans (if_pos hok)
 have w5:=subV a0 e0 g18
 have w6:=subV w5 e0 g17
 have w7:=hV g16 hn ln
 have w8:=hV g15 hk lk
 have w9:N.a 9=msgL box nonce key:=hM hf hF.a12 (m3 w6 w7 w8) g14
 have q62:=hL w9 g13
 have w10:=subV a0 e0 g12
 have w11:=subV w10 e0 g11
 have w12:=hV g10 hn ln
 have w13:=hV g9 hk lk
 have w14:N.a 14=msgL box nonce key:=hM hf hF.a12 (m3 w11 w12 w13) g8
 have q63:=hL w14 g7
 have w15:=subV w9 q62 g6
 have w16:=subV w4 q60 g5
 have q64:N.i 64=1:=(hI hf hF.i8 (m2 w15 w16) g4).trans (i2 rfl)
 have w17:=subV w14 q63 g3
 have w18:=subV w4 q60 g2
 have q65:N.i 65=1:=(hI hf hF.i8 (m2 w17 w18) g1).trans (i2 rfl)
 have q66:=h9 hF hf g0
 simp only[o3nsy,List.forall_mem_cons]
 exact ⟨oT q66,
  o123 hF hf,
  oT q65,
  oP hf hF.p8 (m2 w17 w18) (by show ∀l∈_,okL l;simp only[List.forall_mem_cons];exact ⟨⟨bmsg,by omega⟩,⟨bmsg,by omega⟩,nofun⟩),
  oS q60 w4,
  oS q63 w14,
  oT q64,
  oP hf hF.p8 (m2 w15 w16) (by show ∀l∈_,okL l;simp only[List.forall_mem_cons];exact ⟨⟨bmsg,by omega⟩,⟨bmsg,by omega⟩,nofun⟩),
  oS q60 w4,
  oS q62 w9,
  oP hf hF.p121 (m3 w11 w12 w13) ⟨⟨hBb,by omega,hok⟩,by omega⟩,
  oS e0 w10,
  oK e0 (by omega),
  oN e0 (by omega),
  oS e0 a0,
  oP hf hF.p121 (m3 w6 w7 w8) ⟨⟨hBb,by omega,hok⟩,by omega⟩,
  oS e0 w5,
  oK e0 (by omega),
  oN e0 (by omega),
  oS e0 a0,
  oT q61,
  oP hf hF.p5 (m3 w1 w2 w3) ⟨hBb,by omega,by omega⟩,
  oS e0 a0,
  oG q59 (by omega),
  o0 e0,
  oG q57 (by omega),
  o0 e0,nofun⟩
set_option maxHeartbeats 1000000 in
theorem law3snse (hF:F8 F)(hf:N.f=F)(e0:N.i 0=(nl.length:Nat))(a0:N.a 0=nl)(hn:Row8 N 1 24 nonce)(hk:Row8 N 25 32 key)(ln:nonce.length=24)(lk:key.length=32)(hl:nl.length≤2048)(hd:∀d∈d3snse,d.sat N):∀o∈o3snse,o.holds N:=by
 simp only[d3snse,List.forall_mem_cons] at hd
 obtain ⟨g0,g1,g2,g3,g4,g5,g6,g7,g8,g9,g10,g11,g12,g13,g14,g15,g16,-⟩:=hd
 have q57:=hC e0 g16
 have q58:=hA0 e0 (by omega) g15
 have q59:=hC q58 g14
 have q60:=hAz q58 (by omega) g13
 have q61:=hC q60 g12
 have w1:N.a 1=nl:=g11
 have w2:=hV g10 hn ln
 have w3:=hV g9 hk lk
 have w4:=subV a0 e0 g8
 have w5:N.a 5=nl:=g7
 have w6:=hV g6 hn ln
 have w7:=hV g5 hk lk
 have w8:=subV a0 e0 g4
 have w9:N.a 9=nl:=g3
 have w10:=hV g2 hn ln
 have w11:=hV g1 hk lk
 have q62:=h9 hF hf g0
 simp only[o3snse,List.forall_mem_cons]
 exact ⟨oT q62,
  o123 hF hf,
  o123 hF hf,
  o123 hF hf,
  o123 hF hf,
  oZ e0,
  oS e0 a0,
  o123 hF hf,
  oZ e0,
  oS e0 a0,
  o123 hF hf,
  oG q61 (by omega),
  oG q59 (by omega),
  o0 e0,
  oG q57 (by omega),
  o0 e0,nofun⟩
set_option maxHeartbeats 1000000 in
theorem law3snsf (hF:F8 F)(hf:N.f=F)(e0:N.i 0=(ahead.length:Nat))(a0:N.a 0=ahead)(hn:Row8 N 1 24 nonce)(hk:Row8 N 25 32 key)(ln:nonce.length=24)(lk:key.length=32)(hl:ahead.length≤2048)(_hBa:Bytes ahead)(ha0:0<ahead.length)(hd:∀d∈d3snsf,d.sat N):∀o∈o3snsf,o.holds N:=by
 simp only[d3snsf,List.forall_mem_cons] at hd
 obtain ⟨g0,g1,g2,g3,g4,g5,g6,g7,g8,g9,g10,g11,g12,g13,g14,g15,g16,-⟩:=hd
 have q57:=hC e0 g16
 have q58:=hA0 e0 (by omega) g15
 have q59:=hC q58 g14
 have q60:=hAz q58 (by omega) g13
 have q61:=hC q60 g12
 have w1:N.a 1=nl:=g11
 have w2:=hV g10 hn ln
 have w3:=hV g9 hk lk
 have w4:=subV a0 e0 g8
 have w5:N.a 5=nl:=g7
 have w6:=hV g6 hn ln
 have w7:=hV g5 hk lk
 have w8:=subV a0 e0 g4
 have w9:N.a 9=nl:=g3
 have w10:=hV g2 hn ln
 have w11:=hV g1 hk lk
 have q62:=h9 hF hf g0
 simp only[o3snsf,List.forall_mem_cons]
 exact ⟨oT q62,
  o123 hF hf,
  o123 hF hf,
  o123 hF hf,
  o123 hF hf,
  oK e0 (by omega),
  oN e0 (by omega),
  oS e0 a0,
  o123 hF hf,
  oK e0 (by omega),
  oN e0 (by omega),
  oS e0 a0,
  o123 hF hf,
  oG q61 (by omega),
  oG q59 (by omega),
  o0 e0,
  oG q57 (by omega),
  o0 e0,nofun⟩
set_option maxHeartbeats 1000000 in
theorem law3sste (hF:F8 F)(hf:N.f=F)(e0:N.i 0=(nl.length:Nat))(e1:N.i 1=(nl.length:Nat))(a0:N.a 0=nl)(a1:N.a 1=nl)(hn:Row8 N 2 24 nonce)(hk:Row8 N 26 32 key)(ln:nonce.length=24)(lk:key.length=32)(hl:nl.length+nl.length≤2048)(hd:∀d∈d3sste,d.sat N):∀o∈o3sste,o.holds N:=by
 simp only[d3sste,List.forall_mem_cons] at hd
 obtain ⟨g0,g1,g2,g3,g4,g5,g6,g7,g8,g9,g10,g11,g12,g13,g14,g15,g16,g17,g18,g19,-⟩:=hd
 have q58:=hC e0 g19
 have q59:=hC e1 g18
 have q60:=hA0 e0 (by omega) g17
 have q61:=hC q60 g16
 have q62:=hAA q60 e1 (by omega) g15
 have q63:=hC q62 g14
 have w2:=subV a1 e1 g13
 have w3:=hV g12 hn ln
 have w4:=hV g11 hk lk
 have w5:=subV a0 e0 g10
 have w6:=subV a1 e1 g9
 have w7:N.a 7=nl:=g8
 have w8:=hV g7 hn ln
 have w9:=hV g6 hk lk
 have w10:=subV a0 e0 g5
 have w11:=subV a1 e1 g4
 have w12:N.a 12=nl:=g3
 have w13:=hV g2 hn ln
 have w14:=hV g1 hk lk
 have q64:=h9 hF hf g0
 simp only[o3sste,List.forall_mem_cons]
 exact ⟨oT q64,
  o123 hF hf,
  o123 hF hf,
  o123 hF hf,
  oP hf hF.p120 (m3 w12 w13 w14) ⟨nofun,by first | omega | decide,fun h=>absurd h.1 (by first | omega | decide)⟩,
  oZ e1,
  oS e1 a1,
  oZ e0,
  oS e0 a0,
  oP hf hF.p120 (m3 w7 w8 w9) ⟨nofun,by first | omega | decide,fun h=>absurd h.1 (by first | omega | decide)⟩,
  oZ e1,
  oS e1 a1,
  oZ e0,
  oS e0 a0,
  oP hf hF.p52 (m3 w2 w3 w4) (by simp only[P52];first | omega | decide),
  oS e1 a1,
  oG q63 (by omega),
  o0 e1,
  oG q61 (by omega),
  o0 e0,
  oG q59 (by omega),
  o0 e1,
  oG q58 (by omega),
  o0 e0,nofun⟩
set_option maxHeartbeats 1000000 in
theorem law3ssue (hF:F8 F)(hf:N.f=F)(e0:N.i 0=(nl.length:Nat))(e1:N.i 1=(box.length:Nat))(a0:N.a 0=nl)(a1:N.a 1=box)(hn:Row8 N 2 24 nonce)(hk:Row8 N 26 32 key)(ln:nonce.length=24)(lk:key.length=32)(hl:nl.length+box.length≤2048)(hBb:Bytes box)(hs:0<box.length∧box.length<16)(hd:∀d∈d3ssue,d.sat N):∀o∈o3ssue,o.holds N:=by
 simp only[d3ssue,List.forall_mem_cons] at hd
 obtain ⟨g0,g1,g2,g3,g4,g5,g6,g7,g8,g9,g10,g11,g12,g13,g14,g15,g16,g17,g18,g19,-⟩:=hd
 have q58:=hC e0 g19
 have q59:=hC e1 g18
 have q60:=hA0 e0 (by omega) g17
 have q61:=hC q60 g16
 have q62:=hAA q60 e1 (by omega) g15
 have q63:=hC q62 g14
 have w2:=subV a1 e1 g13
 have w3:=hV g12 hn ln
 have w4:=hV g11 hk lk
 have w5:=subV a0 e0 g10
 have w6:=subV a1 e1 g9
 have w7:=subV w6 e1 g8
 have w8:=hV g7 hn ln
 have w9:=hV g6 hk lk
 have w10:=subV a0 e0 g5
 have w11:=subV a1 e1 g4
 have w12:=subV w11 e1 g3
 have w13:=hV g2 hn ln
 have w14:=hV g1 hk lk
 have q64:=h9 hF hf g0
 simp only[o3ssue,List.forall_mem_cons]
 exact ⟨oT q64,
  o123 hF hf,
  o123 hF hf,
  o123 hF hf,
  oP hf hF.p120 (m3 w12 w13 w14) ⟨hBb,by first | omega | decide,fun h=>absurd h.1 (by first | omega | decide)⟩,
  oS e1 w11,
  oK e1 (by omega),
  oN e1 (by omega),
  oS e1 a1,
  oZ e0,
  oS e0 a0,
  oP hf hF.p120 (m3 w7 w8 w9) ⟨hBb,by first | omega | decide,fun h=>absurd h.1 (by first | omega | decide)⟩,
  oS e1 w6,
  oK e1 (by omega),
  oN e1 (by omega),
  oS e1 a1,
  oZ e0,
  oS e0 a0,
  oP hf hF.p52 (m3 w2 w3 w4) (by simp only[P52];first | omega | decide),
  oS e1 a1,
  oG q63 (by omega),
  o0 e1,
  oG q61 (by omega),
  o0 e0,
  oG q59 (by omega),
  o0 e1,
  oG q58 (by omega),
  o0 e0,nofun⟩
set_option maxHeartbeats 1000000 in
theorem law3ssve (hF:F8 F)(hf:N.f=F)(e0:N.i 0=(nl.length:Nat))(e1:N.i 1=(box.length:Nat))(a0:N.a 0=nl)(a1:N.a 1=box)(hn:Row8 N 2 24 nonce)(hk:Row8 N 26 32 key)(ln:nonce.length=24)(lk:key.length=32)(hl:nl.length+box.length≤2048)(hBb:Bytes box)(h16:box.length=16)(hno:tagOf box nonce key≠box.take 16)(hd:∀d∈d3ssve,d.sat N):∀o∈o3ssve,o.holds N:=by
 simp only[d3ssve,List.forall_mem_cons] at hd
 obtain ⟨g0,g1,g2,g3,g4,g5,g6,g7,g8,g9,g10,g11,g12,g13,g14,g15,g16,g17,g18,g19,g20,-⟩:=hd
 have q58:=hC e0 g20
 have q59:=hC e1 g19
 have q60:=hA0 e0 (by omega) g18
 have q61:=hC q60 g17
 have q62:=hAA q60 e1 (by omega) g16
 have q63:=hC q62 g15
 have w2:=subV a1 e1 g14
 have w3:=hV g13 hn ln
 have w4:=hV g12 hk lk
 have q64:N.i 64=0:=(hI hf hF.i5 (m3 w2 w3 w4) g11).trans (if_neg hno)
 have w5:=subV a0 e0 g10
 have w6:=subV a1 e1 g9
 have w7:=subV w6 e1 g8
 have w8:=hV g7 hn ln
 have w9:=hV g6 hk lk
 have w10:=subV a0 e0 g5
 have w11:=subV a1 e1 g4
 have w12:=subV w11 e1 g3
 have w13:=hV g2 hn ln
 have w14:=hV g1 hk lk
 have q65:=h9 hF hf g0
 simp only[o3ssve,List.forall_mem_cons]
 exact ⟨oT q65,
  o123 hF hf,
  o123 hF hf,
  o123 hF hf,
  oP hf hF.p120 (m3 w12 w13 w14) ⟨hBb,by first | omega | decide,fun h=>hno h.2⟩,
  oS e1 w11,
  oK e1 (by omega),
  oN e1 (by omega),
  oS e1 a1,
  oZ e0,
  oS e0 a0,
  oP hf hF.p120 (m3 w7 w8 w9) ⟨hBb,by first | omega | decide,fun h=>hno h.2⟩,
  oS e1 w6,
  oK e1 (by omega),
  oN e1 (by omega),
  oS e1 a1,
  oZ e0,
  oS e0 a0,
  oF q64,
  oP hf hF.p51 (m3 w2 w3 w4) ⟨hBb,by omega⟩,
  oS e1 a1,
  oG q63 (by omega),
  o0 e1,
  oG q61 (by omega),
  o0 e0,
  oG q59 (by omega),
  o0 e1,
  oG q58 (by omega),
  o0 e0,nofun⟩
set_option maxHeartbeats 1000000 in
theorem law3sswe (hF:F8 F)(hf:N.f=F)(e0:N.i 0=(nl.length:Nat))(e1:N.i 1=(box.length:Nat))(a0:N.a 0=nl)(a1:N.a 1=box)(hn:Row8 N 2 24 nonce)(hk:Row8 N 26 32 key)(ln:nonce.length=24)(lk:key.length=32)(hl:nl.length+box.length≤2048)(hBb:Bytes box)(h16:box.length=16)(hok:tagOf box nonce key=box.take 16)(hd:∀d∈d3sswe,d.sat N):∀o∈o3sswe,o.holds N:=by
 simp only[d3sswe,List.forall_mem_cons] at hd
 obtain ⟨g0,g1,g2,g3,g4,g5,g6,g7,g8,g9,g10,g11,g12,g13,g14,g15,g16,g17,g18,g19,g20,g21,g22,g23,g24,g25,g26,g27,g28,g29,g30,g31,g32,g33,g34,-⟩:=hd
 have lmsg:=msgL_length box nonce key
 have bmsg:Bytes (msgL box nonce key):=msgL_bytes
 have hm0:msgL box nonce key=[]:=List.length_eq_zero_iff.1 (by omega)
 have q58:=hC e0 g34
 have q59:=hC e1 g33
 have q60:=hA0 e0 (by omega) g32
 have q61:=hC q60 g31
 have q62:=hAA q60 e1 (by omega) g30
 have q63:=hC q62 g29
 have w2:=subV a1 e1 g28
 have w3:=hV g27 hn ln
 have w4:=hV g26 hk lk
 have q64:N.i 64=1:=(hI hf hF.i5 (m3 w2 w3 w4) g25).trans (if_pos hok)
 have w5:=subV a0 e0 g24
 have w6:=subV a1 e1 g23
 have w7:N.a 7=nl:=g22
 have w8:=subV w6 e1 g21
 have w9:=hV g20 hn ln
 have w10:=hV g19 hk lk
 have w11:N.a 11=nl++msgL box nonce key:=hM hf hF.a12 (m4 w7 w8 w9 w10) g18
 have q65:=hL w11 g17
 have w12:=subV a0 e0 g16
 have w13:=subV a1 e1 g15
 have w14:N.a 14=nl:=g14
 have w15:=subV w13 e1 g13
 have w16:=hV g12 hn ln
 have w17:=hV g11 hk lk
 have w18:N.a 18=nl++msgL box nonce key:=hM hf hF.a12 (m4 w14 w15 w16 w17) g10
 have q66:=hL w18 g9
 have w19:=subV w11 q65 g8
 have w20:=subV a0 e0 g7
 have w21:N.a 21=nl:=g6
 have q67:N.i 67=1:=(hI hf hF.i8 (m3 w19 w20 w21) g5).trans (i3 (by rw[hm0]))
 have w22:=subV w18 q66 g4
 have w23:=subV a0 e0 g3
 have w24:N.a 24=nl:=g2
 have q68:N.i 68=1:=(hI hf hF.i8 (m3 w22 w23 w24) g1).trans (i3 (by rw[hm0]))
 have q69:=h9 hF hf g0
 simp only[o3sswe,List.forall_mem_cons]
 exact ⟨oT q69,
  o123 hF hf,
  oT q68,
  oP hf hF.p8 (m3 w22 w23 w24) (by show ∀l∈_,okL l;simp only[List.forall_mem_cons];exact ⟨okL.app nofun bmsg (by simp only[List.length_nil];omega),⟨nofun,Nat.zero_le _⟩,⟨nofun,Nat.zero_le _⟩,nofun⟩),
  oS e0 a0,
  oS q66 w18,
  oT q67,
  oP hf hF.p8 (m3 w19 w20 w21) (by show ∀l∈_,okL l;simp only[List.forall_mem_cons];exact ⟨okL.app nofun bmsg (by simp only[List.length_nil];omega),⟨nofun,Nat.zero_le _⟩,⟨nofun,Nat.zero_le _⟩,nofun⟩),
  oS e0 a0,
  oS q65 w11,
  oP hf hF.p122 (m4 w14 w15 w16 w17) ⟨by first | omega | decide,⟨hBb,by omega,hok⟩,by omega⟩,
  oS e1 w13,
  oK e1 (by omega),
  oN e1 (by omega),
  oS e1 a1,
  oZ e0,
  oS e0 a0,
  oP hf hF.p122 (m4 w7 w8 w9 w10) ⟨by first | omega | decide,⟨hBb,by omega,hok⟩,by omega⟩,
  oS e1 w6,
  oK e1 (by omega),
  oN e1 (by omega),
  oS e1 a1,
  oZ e0,
  oS e0 a0,
  oT q64,
  oP hf hF.p51 (m3 w2 w3 w4) ⟨hBb,by omega⟩,
  oS e1 a1,
  oG q63 (by omega),
  o0 e1,
  oG q61 (by omega),
  o0 e0,
  oG q59 (by omega),
  o0 e1,
  oG q58 (by omega),
  o0 e0,nofun⟩
set_option maxHeartbeats 1000000 in
theorem law3ssxe (hF:F8 F)(hf:N.f=F)(e0:N.i 0=(nl.length:Nat))(e1:N.i 1=(box.length:Nat))(a0:N.a 0=nl)(a1:N.a 1=box)(hn:Row8 N 2 24 nonce)(hk:Row8 N 26 32 key)(ln:nonce.length=24)(lk:key.length=32)(hl:nl.length+box.length≤2048)(hBb:Bytes box)(h16:16<box.length)(hno:tagOf box nonce key≠box.take 16)(hd:∀d∈d3ssxe,d.sat N):∀o∈o3ssxe,o.holds N:=by
 simp only[d3ssxe,List.forall_mem_cons] at hd
 obtain ⟨g0,g1,g2,g3,g4,g5,g6,g7,g8,g9,g10,g11,g12,g13,g14,g15,g16,g17,g18,g19,g20,g21,g22,-⟩:=hd
 have q58:=hC e0 g22
 have q59:=hC e1 g21
 have q60:=hA0 e0 (by omega) g20
 have q61:=hC q60 g19
 have q62:=hAA q60 e1 (by omega) g18
 have q63:=hC q62 g17
 have w2:=subV a1 e1 g16
 have w3:=hV g15 hn ln
 have w4:=hV g14 hk lk
 have w5:N.a 5=msgL box nonce key:=hM hf hF.a5 (m3 w2 w3 w4) g13
 have q64:=hL w5 g12
 have q65:N.i 65=0:=(hI hf hF.i5 (m3 w2 w3 w4) g11).trans (if_neg hno)
 have w6:=subV a0 e0 g10
 have w7:=subV a1 e1 g9
 have w8:=subV w7 e1 g8
 have w9:=hV g7 hn ln
 have w10:=hV g6 hk lk
 have w11:=subV a0 e0 g5
 have w12:=subV a1 e1 g4
 have w13:=subV w12 e1 g3
 have w14:=hV g2 hn ln
 have w15:=hV g1 hk lk
 have q66:=h9 hF hf g0
 simp only[o3ssxe,List.forall_mem_cons]
 exact ⟨oT q66,
  o123 hF hf,
  o123 hF hf,
  o123 hF hf,
  oP hf hF.p120 (m3 w13 w14 w15) ⟨hBb,by first | omega | decide,fun h=>hno h.2⟩,
  oS e1 w12,
  oK e1 (by omega),
  oN e1 (by omega),
  oS e1 a1,
  oZ e0,
  oS e0 a0,
  oP hf hF.p120 (m3 w8 w9 w10) ⟨hBb,by first | omega | decide,fun h=>hno h.2⟩,
  oS e1 w7,
  oK e1 (by omega),
  oN e1 (by omega),
  oS e1 a1,
  oZ e0,
  oS e0 a0,
  oF q65,
  oP hf hF.p5 (m3 w2 w3 w4) ⟨hBb,by omega,by omega⟩,
  oS e1 a1,
  oG q63 (by omega),
  o0 e1,
  oG q61 (by omega),
  o0 e0,
  oG q59 (by omega),
  o0 e1,
  oG q58 (by omega),
  o0 e0,nofun⟩
set_option maxHeartbeats 1000000 in
theorem law3ssye (hF:F8 F)(hf:N.f=F)(e0:N.i 0=(nl.length:Nat))(e1:N.i 1=(box.length:Nat))(a0:N.a 0=nl)(a1:N.a 1=box)(hn:Row8 N 2 24 nonce)(hk:Row8 N 26 32 key)(ln:nonce.length=24)(lk:key.length=32)(hl:nl.length+box.length≤2048)(hBb:Bytes box)(h16:16<box.length)(hok:tagOf box nonce key=box.take 16)(hd:∀d∈d3ssye,d.sat N):∀o∈o3ssye,o.holds N:=by
 simp only[d3ssye,List.forall_mem_cons] at hd
 obtain ⟨g0,g1,g2,g3,g4,g5,g6,g7,g8,g9,g10,g11,g12,g13,g14,g15,g16,g17,g18,g19,g20,g21,g22,g23,g24,g25,g26,g27,g28,g29,g30,g31,g32,g33,g34,g35,g36,-⟩:=hd
 have lmsg:=msgL_length box nonce key
 have bmsg:Bytes (msgL box nonce key):=msgL_bytes
 have q58:=hC e0 g36
 have q59:=hC e1 g35
 have q60:=hA0 e0 (by omega) g34
 have q61:=hC q60 g33
 have q62:=hAA q60 e1 (by omega) g32
 have q63:=hC q62 g31
 have w2:=subV a1 e1 g30
 have w3:=hV g29 hn ln
 have w4:=hV g28 hk lk
 have w5:N.a 5=msgL box nonce key:=hM hf hF.a5 (m3 w2 w3 w4) g27
 have q64:=hL w5 g26
 have q65:N.i 65=1:=(hI hf hF.i5 (m3 w2 w3 w4) g25).trans (if_pos hok)
 have w6:=subV a0 e0 g24
 have w7:=subV a1 e1 g23
 have w8:N.a 8=nl:=g22
 have w9:=subV w7 e1 g21
 have w10:=hV g20 hn ln
 have w11:=hV g19 hk lk
 have w12:N.a 12=nl++msgL box nonce key:=hM hf hF.a12 (m4 w8 w9 w10 w11) g18
 have q66:=hL w12 g17
 have w13:=subV a0 e0 g16
 have w14:=subV a1 e1 g15
 have w15:N.a 15=nl:=g14
 have w16:=subV w14 e1 g13
 have w17:=hV g12 hn ln
 have w18:=hV g11 hk lk
 have w19:N.a 19=nl++msgL box nonce key:=hM hf hF.a12 (m4 w15 w16 w17 w18) g10
 have q67:=hL w19 g9
 have w20:=subV w12 q66 g8
 have w21:=subV a0 e0 g7
 have w22:=subV w5 q64 g6
 have q68:N.i 68=1:=(hI hf hF.i8 (m3 w20 w21 w22) g5).trans (i3 rfl)
 have w23:=subV w19 q67 g4
 have w24:=subV a0 e0 g3
 have w25:=subV w5 q64 g2
 have q69:N.i 69=1:=(hI hf hF.i8 (m3 w23 w24 w25) g1).trans (i3 rfl)
 have q70:=h9 hF hf g0
 simp only[o3ssye,List.forall_mem_cons]
 exact ⟨oT q70,
  o123 hF hf,
  oT q69,
  oP hf hF.p8 (m3 w23 w24 w25) (by show ∀l∈_,okL l;simp only[List.forall_mem_cons];exact ⟨okL.app nofun bmsg (by simp only[List.length_nil];omega),⟨nofun,Nat.zero_le _⟩,⟨bmsg,by omega⟩,nofun⟩),
  oS q64 w5,
  oS e0 a0,
  oS q67 w19,
  oT q68,
  oP hf hF.p8 (m3 w20 w21 w22) (by show ∀l∈_,okL l;simp only[List.forall_mem_cons];exact ⟨okL.app nofun bmsg (by simp only[List.length_nil];omega),⟨nofun,Nat.zero_le _⟩,⟨bmsg,by omega⟩,nofun⟩),
  oS q64 w5,
  oS e0 a0,
  oS q66 w12,
  oP hf hF.p121 (m4 w15 w16 w17 w18) ⟨by first | omega | decide,⟨hBb,by omega,hok⟩,by omega⟩,
  oS e1 w14,
  oK e1 (by omega),
  oN e1 (by omega),
  oS e1 a1,
  oZ e0,
  oS e0 a0,
  oP hf hF.p121 (m4 w8 w9 w10 w11) ⟨by first | omega | decide,⟨hBb,by omega,hok⟩,by omega⟩,
  oS e1 w7,
  oK e1 (by omega),
  oN e1 (by omega),
  oS e1 a1,
  oZ e0,
  oS e0 a0,
  oT q65,
  oP hf hF.p5 (m3 w2 w3 w4) ⟨hBb,by omega,by omega⟩,
  oS e1 a1,
  oG q63 (by omega),
  o0 e1,
  oG q61 (by omega),
  o0 e0,
  oG q59 (by omega),
  o0 e1,
  oG q58 (by omega),
  o0 e0,nofun⟩
set_option maxHeartbeats 1000000 in
theorem law3sstf (hF:F8 F)(hf:N.f=F)(e0:N.i 0=(ahead.length:Nat))(e1:N.i 1=(nl.length:Nat))(a0:N.a 0=ahead)(a1:N.a 1=nl)(hn:Row8 N 2 24 nonce)(hk:Row8 N 26 32 key)(ln:nonce.length=24)(lk:key.length=32)(hl:ahead.length+nl.length≤2048)(_hBa:Bytes ahead)(ha0:0<ahead.length)(hd:∀d∈d3sstf,d.sat N):∀o∈o3sstf,o.holds N:=by
 simp only[d3sstf,List.forall_mem_cons] at hd
 obtain ⟨g0,g1,g2,g3,g4,g5,g6,g7,g8,g9,g10,g11,g12,g13,g14,g15,g16,g17,g18,g19,-⟩:=hd
 have q58:=hC e0 g19
 have q59:=hC e1 g18
 have q60:=hA0 e0 (by omega) g17
 have q61:=hC q60 g16
 have q62:=hAA q60 e1 (by omega) g15
 have q63:=hC q62 g14
 have w2:=subV a1 e1 g13
 have w3:=hV g12 hn ln
 have w4:=hV g11 hk lk
 have w5:=subV a0 e0 g10
 have w6:=subV a1 e1 g9
 have w7:N.a 7=nl:=g8
 have w8:=hV g7 hn ln
 have w9:=hV g6 hk lk
 have w10:=subV a0 e0 g5
 have w11:=subV a1 e1 g4
 have w12:N.a 12=nl:=g3
 have w13:=hV g2 hn ln
 have w14:=hV g1 hk lk
 have q64:=h9 hF hf g0
 simp only[o3sstf,List.forall_mem_cons]
 exact ⟨oT q64,
  o123 hF hf,
  o123 hF hf,
  o123 hF hf,
  oP hf hF.p120 (m3 w12 w13 w14) ⟨nofun,by first | omega | decide,fun h=>absurd h.1 (by first | omega | decide)⟩,
  oZ e1,
  oS e1 a1,
  oK e0 (by omega),
  oN e0 (by omega),
  oS e0 a0,
  oP hf hF.p120 (m3 w7 w8 w9) ⟨nofun,by first | omega | decide,fun h=>absurd h.1 (by first | omega | decide)⟩,
  oZ e1,
  oS e1 a1,
  oK e0 (by omega),
  oN e0 (by omega),
  oS e0 a0,
  oP hf hF.p52 (m3 w2 w3 w4) (by simp only[P52];first | omega | decide),
  oS e1 a1,
  oG q63 (by omega),
  o0 e1,
  oG q61 (by omega),
  o0 e0,
  oG q59 (by omega),
  o0 e1,
  oG q58 (by omega),
  o0 e0,nofun⟩
set_option maxHeartbeats 1000000 in
theorem law3ssuf (hF:F8 F)(hf:N.f=F)(e0:N.i 0=(ahead.length:Nat))(e1:N.i 1=(box.length:Nat))(a0:N.a 0=ahead)(a1:N.a 1=box)(hn:Row8 N 2 24 nonce)(hk:Row8 N 26 32 key)(ln:nonce.length=24)(lk:key.length=32)(hl:ahead.length+box.length≤2048)(_hBa:Bytes ahead)(ha0:0<ahead.length)(hBb:Bytes box)(hs:0<box.length∧box.length<16)(hd:∀d∈d3ssuf,d.sat N):∀o∈o3ssuf,o.holds N:=by
 simp only[d3ssuf,List.forall_mem_cons] at hd
 obtain ⟨g0,g1,g2,g3,g4,g5,g6,g7,g8,g9,g10,g11,g12,g13,g14,g15,g16,g17,g18,g19,-⟩:=hd
 have q58:=hC e0 g19
 have q59:=hC e1 g18
 have q60:=hA0 e0 (by omega) g17
 have q61:=hC q60 g16
 have q62:=hAA q60 e1 (by omega) g15
 have q63:=hC q62 g14
 have w2:=subV a1 e1 g13
 have w3:=hV g12 hn ln
 have w4:=hV g11 hk lk
 have w5:=subV a0 e0 g10
 have w6:=subV a1 e1 g9
 have w7:=subV w6 e1 g8
 have w8:=hV g7 hn ln
 have w9:=hV g6 hk lk
 have w10:=subV a0 e0 g5
 have w11:=subV a1 e1 g4
 have w12:=subV w11 e1 g3
 have w13:=hV g2 hn ln
 have w14:=hV g1 hk lk
 have q64:=h9 hF hf g0
 simp only[o3ssuf,List.forall_mem_cons]
 exact ⟨oT q64,
  o123 hF hf,
  o123 hF hf,
  o123 hF hf,
  oP hf hF.p120 (m3 w12 w13 w14) ⟨hBb,by first | omega | decide,fun h=>absurd h.1 (by first | omega | decide)⟩,
  oS e1 w11,
  oK e1 (by omega),
  oN e1 (by omega),
  oS e1 a1,
  oK e0 (by omega),
  oN e0 (by omega),
  oS e0 a0,
  oP hf hF.p120 (m3 w7 w8 w9) ⟨hBb,by first | omega | decide,fun h=>absurd h.1 (by first | omega | decide)⟩,
  oS e1 w6,
  oK e1 (by omega),
  oN e1 (by omega),
  oS e1 a1,
  oK e0 (by omega),
  oN e0 (by omega),
  oS e0 a0,
  oP hf hF.p52 (m3 w2 w3 w4) (by simp only[P52];first | omega | decide),
  oS e1 a1,
  oG q63 (by omega),
  o0 e1,
  oG q61 (by omega),
  o0 e0,
  oG q59 (by omega),
  o0 e1,
  oG q58 (by omega),
  o0 e0,nofun⟩
set_option maxHeartbeats 1000000 in
theorem law3ssvf (hF:F8 F)(hf:N.f=F)(e0:N.i 0=(ahead.length:Nat))(e1:N.i 1=(box.length:Nat))(a0:N.a 0=ahead)(a1:N.a 1=box)(hn:Row8 N 2 24 nonce)(hk:Row8 N 26 32 key)(ln:nonce.length=24)(lk:key.length=32)(hl:ahead.length+box.length≤2048)(_hBa:Bytes ahead)(ha0:0<ahead.length)(hBb:Bytes box)(h16:box.length=16)(hno:tagOf box nonce key≠box.take 16)(hd:∀d∈d3ssvf,d.sat N):∀o∈o3ssvf,o.holds N:=by
 simp only[d3ssvf,List.forall_mem_cons] at hd
 obtain ⟨g0,g1,g2,g3,g4,g5,g6,g7,g8,g9,g10,g11,g12,g13,g14,g15,g16,g17,g18,g19,g20,-⟩:=hd
 have q58:=hC e0 g20
 have q59:=hC e1 g19
 have q60:=hA0 e0 (by omega) g18
 have q61:=hC q60 g17
 have q62:=hAA q60 e1 (by omega) g16
 have q63:=hC q62 g15
 have w2:=subV a1 e1 g14
 have w3:=hV g13 hn ln
 have w4:=hV g12 hk lk
 have q64:N.i 64=0:=(hI hf hF.i5 (m3 w2 w3 w4) g11).trans (if_neg hno)
 have w5:=subV a0 e0 g10
 have w6:=subV a1 e1 g9
 have w7:=subV w6 e1 g8
 have w8:=hV g7 hn ln
 have w9:=hV g6 hk lk
 have w10:=subV a0 e0 g5
 have w11:=subV a1 e1 g4
 have w12:=subV w11 e1 g3
 have w13:=hV g2 hn ln
 have w14:=hV g1 hk lk
 have q65:=h9 hF hf g0
 simp only[o3ssvf,List.forall_mem_cons]
 exact ⟨oT q65,
  o123 hF hf,
  o123 hF hf,
  o123 hF hf,
  oP hf hF.p120 (m3 w12 w13 w14) ⟨hBb,by first | omega | decide,fun h=>hno h.2⟩,
  oS e1 w11,
  oK e1 (by omega),
  oN e1 (by omega),
  oS e1 a1,
  oK e0 (by omega),
  oN e0 (by omega),
  oS e0 a0,
  oP hf hF.p120 (m3 w7 w8 w9) ⟨hBb,by first | omega | decide,fun h=>hno h.2⟩,
  oS e1 w6,
  oK e1 (by omega),
  oN e1 (by omega),
  oS e1 a1,
  oK e0 (by omega),
  oN e0 (by omega),
  oS e0 a0,
  oF q64,
  oP hf hF.p51 (m3 w2 w3 w4) ⟨hBb,by omega⟩,
  oS e1 a1,
  oG q63 (by omega),
  o0 e1,
  oG q61 (by omega),
  o0 e0,
  oG q59 (by omega),
  o0 e1,
  oG q58 (by omega),
  o0 e0,nofun⟩
set_option maxHeartbeats 1000000 in
theorem law3sswf (hF:F8 F)(hf:N.f=F)(e0:N.i 0=(ahead.length:Nat))(e1:N.i 1=(box.length:Nat))(a0:N.a 0=ahead)(a1:N.a 1=box)(hn:Row8 N 2 24 nonce)(hk:Row8 N 26 32 key)(ln:nonce.length=24)(lk:key.length=32)(hl:ahead.length+box.length≤2048)(hBa:Bytes ahead)(ha0:0<ahead.length)(hBb:Bytes box)(h16:box.length=16)(hok:tagOf box nonce key=box.take 16)(hd:∀d∈d3sswf,d.sat N):∀o∈o3sswf,o.holds N:=by
 simp only[d3sswf,List.forall_mem_cons] at hd
 obtain ⟨g0,g1,g2,g3,g4,g5,g6,g7,g8,g9,g10,g11,g12,g13,g14,g15,g16,g17,g18,g19,g20,g21,g22,g23,g24,g25,g26,g27,g28,g29,g30,g31,g32,-⟩:=hd
 have lmsg:=msgL_length box nonce key
 have bmsg:Bytes (msgL box nonce key):=msgL_bytes
 have hm0:msgL box nonce key=[]:=List.length_eq_zero_iff.1 (by omega)
 have q58:=hC e0 g32
 have q59:=hC e1 g31
 have q60:=hA0 e0 (by omega) g30
 have q61:=hC q60 g29
 have q62:=hAA q60 e1 (by omega) g28
 have q63:=hC q62 g27
 have w2:=subV a1 e1 g26
 have w3:=hV g25 hn ln
 have w4:=hV g24 hk lk
 have q64:N.i 64=1:=(hI hf hF.i5 (m3 w2 w3 w4) g23).trans (if_pos hok)
 have w5:=subV a0 e0 g22
 have w6:=subV a1 e1 g21
 have w7:=subV w6 e1 g20
 have w8:=hV g19 hn ln
 have w9:=hV g18 hk lk
 have w10:N.a 10=ahead++msgL box nonce key:=hM hf hF.a12 (m4 w5 w7 w8 w9) g17
 have q65:=hL w10 g16
 have w11:=subV a0 e0 g15
 have w12:=subV a1 e1 g14
 have w13:=subV w12 e1 g13
 have w14:=hV g12 hn ln
 have w15:=hV g11 hk lk
 have w16:N.a 16=ahead++msgL box nonce key:=hM hf hF.a12 (m4 w11 w13 w14 w15) g10
 have q66:=hL w16 g9
 have w17:=subV w10 q65 g8
 have w18:=subV a0 e0 g7
 have w19:N.a 19=nl:=g6
 have q67:N.i 67=1:=(hI hf hF.i8 (m3 w17 w18 w19) g5).trans (i3 (by rw[hm0]))
 have w20:=subV w16 q66 g4
 have w21:=subV a0 e0 g3
 have w22:N.a 22=nl:=g2
 have q68:N.i 68=1:=(hI hf hF.i8 (m3 w20 w21 w22) g1).trans (i3 (by rw[hm0]))
 have q69:=h9 hF hf g0
 simp only[o3sswf,List.forall_mem_cons]
 exact ⟨oT q69,
  o123 hF hf,
  oT q68,
  oP hf hF.p8 (m3 w20 w21 w22) (by show ∀l∈_,okL l;simp only[List.forall_mem_cons];exact ⟨okL.app hBa bmsg (by omega),⟨hBa,by omega⟩,⟨nofun,Nat.zero_le _⟩,nofun⟩),
  oS e0 a0,
  oS q66 w16,
  oT q67,
  oP hf hF.p8 (m3 w17 w18 w19) (by show ∀l∈_,okL l;simp only[List.forall_mem_cons];exact ⟨okL.app hBa bmsg (by omega),⟨hBa,by omega⟩,⟨nofun,Nat.zero_le _⟩,nofun⟩),
  oS e0 a0,
  oS q65 w10,
  oP hf hF.p122 (m4 w11 w13 w14 w15) ⟨by first | omega | decide,⟨hBb,by omega,hok⟩,by omega⟩,
  oS e1 w12,
  oA e0 w11,
  oK e1 (by omega),
  oN e1 (by omega),
  oS e1 a1,
  oK e0 (by omega),
  oN e0 (by omega),
  oS e0 a0,
  oP hf hF.p122 (m4 w5 w7 w8 w9) ⟨by first | omega | decide,⟨hBb,by omega,hok⟩,by omega⟩,
  oS e1 w6,
  oA e0 w5,
  oK e1 (by omega),
  oN e1 (by omega),
  oS e1 a1,
  oK e0 (by omega),
  oN e0 (by omega),
  oS e0 a0,
  oT q64,
  oP hf hF.p51 (m3 w2 w3 w4) ⟨hBb,by omega⟩,
  oS e1 a1,
  oG q63 (by omega),
  o0 e1,
  oG q61 (by omega),
  o0 e0,
  oG q59 (by omega),
  o0 e1,
  oG q58 (by omega),
  o0 e0,nofun⟩
set_option maxHeartbeats 1000000 in
theorem law3ssxf (hF:F8 F)(hf:N.f=F)(e0:N.i 0=(ahead.length:Nat))(e1:N.i 1=(box.length:Nat))(a0:N.a 0=ahead)(a1:N.a 1=box)(hn:Row8 N 2 24 nonce)(hk:Row8 N 26 32 key)(ln:nonce.length=24)(lk:key.length=32)(hl:ahead.length+box.length≤2048)(_hBa:Bytes ahead)(ha0:0<ahead.length)(hBb:Bytes box)(h16:16<box.length)(hno:tagOf box nonce key≠box.take 16)(hd:∀d∈d3ssxf,d.sat N):∀o∈o3ssxf,o.holds N:=by
 simp only[d3ssxf,List.forall_mem_cons] at hd
 obtain ⟨g0,g1,g2,g3,g4,g5,g6,g7,g8,g9,g10,g11,g12,g13,g14,g15,g16,g17,g18,g19,g20,g21,g22,-⟩:=hd
 have q58:=hC e0 g22
 have q59:=hC e1 g21
 have q60:=hA0 e0 (by omega) g20
 have q61:=hC q60 g19
 have q62:=hAA q60 e1 (by omega) g18
 have q63:=hC q62 g17
 have w2:=subV a1 e1 g16
 have w3:=hV g15 hn ln
 have w4:=hV g14 hk lk
 have w5:N.a 5=msgL box nonce key:=hM hf hF.a5 (m3 w2 w3 w4) g13
 have q64:=hL w5 g12
 have q65:N.i 65=0:=(hI hf hF.i5 (m3 w2 w3 w4) g11).trans (if_neg hno)
 have w6:=subV a0 e0 g10
 have w7:=subV a1 e1 g9
 have w8:=subV w7 e1 g8
 have w9:=hV g7 hn ln
 have w10:=hV g6 hk lk
 have w11:=subV a0 e0 g5
 have w12:=subV a1 e1 g4
 have w13:=subV w12 e1 g3
 have w14:=hV g2 hn ln
 have w15:=hV g1 hk lk
 have q66:=h9 hF hf g0
 simp only[o3ssxf,List.forall_mem_cons]
 exact ⟨oT q66,
  o123 hF hf,
  o123 hF hf,
  o123 hF hf,
  oP hf hF.p120 (m3 w13 w14 w15) ⟨hBb,by first | omega | decide,fun h=>hno h.2⟩,
  oS e1 w12,
  oK e1 (by omega),
  oN e1 (by omega),
  oS e1 a1,
  oK e0 (by omega),
  oN e0 (by omega),
  oS e0 a0,
  oP hf hF.p120 (m3 w8 w9 w10) ⟨hBb,by first | omega | decide,fun h=>hno h.2⟩,
  oS e1 w7,
  oK e1 (by omega),
  oN e1 (by omega),
  oS e1 a1,
  oK e0 (by omega),
  oN e0 (by omega),
  oS e0 a0,
  oF q65,
  oP hf hF.p5 (m3 w2 w3 w4) ⟨hBb,by omega,by omega⟩,
  oS e1 a1,
  oG q63 (by omega),
  o0 e1,
  oG q61 (by omega),
  o0 e0,
  oG q59 (by omega),
  o0 e1,
  oG q58 (by omega),
  o0 e0,nofun⟩
set_option maxHeartbeats 1000000 in
theorem law3ssyf (hF:F8 F)(hf:N.f=F)(e0:N.i 0=(ahead.length:Nat))(e1:N.i 1=(box.length:Nat))(a0:N.a 0=ahead)(a1:N.a 1=box)(hn:Row8 N 2 24 nonce)(hk:Row8 N 26 32 key)(ln:nonce.length=24)(lk:key.length=32)(hl:ahead.length+box.length≤2048)(hBa:Bytes ahead)(ha0:0<ahead.length)(hBb:Bytes box)(h16:16<box.length)(hok:tagOf box nonce key=box.take 16)(hd:∀d∈d3ssyf,d.sat N):∀o∈o3ssyf,o.holds N:=by
 simp only[d3ssyf,List.forall_mem_cons] at hd
 obtain ⟨g0,g1,g2,g3,g4,g5,g6,g7,g8,g9,g10,g11,g12,g13,g14,g15,g16,g17,g18,g19,g20,g21,g22,g23,g24,g25,g26,g27,g28,g29,g30,g31,g32,g33,g34,-⟩:=hd
 have lmsg:=msgL_length box nonce key
 have bmsg:Bytes (msgL box nonce key):=msgL_bytes
 have q58:=hC e0 g34
 have q59:=hC e1 g33
 have q60:=hA0 e0 (by omega) g32
 have q61:=hC q60 g31
 have q62:=hAA q60 e1 (by omega) g30
 have q63:=hC q62 g29
 have w2:=subV a1 e1 g28
 have w3:=hV g27 hn ln
 have w4:=hV g26 hk lk
 have w5:N.a 5=msgL box nonce key:=hM hf hF.a5 (m3 w2 w3 w4) g25
 have q64:=hL w5 g24
 have q65:N.i 65=1:=(hI hf hF.i5 (m3 w2 w3 w4) g23).trans (if_pos hok)
 have w6:=subV a0 e0 g22
 have w7:=subV a1 e1 g21
 have w8:=subV w7 e1 g20
 have w9:=hV g19 hn ln
 have w10:=hV g18 hk lk
 have w11:N.a 11=ahead++msgL box nonce key:=hM hf hF.a12 (m4 w6 w8 w9 w10) g17
 have q66:=hL w11 g16
 have w12:=subV a0 e0 g15
 have w13:=subV a1 e1 g14
 have w14:=subV w13 e1 g13
 have w15:=hV g12 hn ln
 have w16:=hV g11 hk lk
 have w17:N.a 17=ahead++msgL box nonce key:=hM hf hF.a12 (m4 w12 w14 w15 w16) g10
 have q67:=hL w17 g9
 have w18:=subV w11 q66 g8
 have w19:=subV a0 e0 g7
 have w20:=subV w5 q64 g6
 have q68:N.i 68=1:=(hI hf hF.i8 (m3 w18 w19 w20) g5).trans (i3 rfl)
 have w21:=subV w17 q67 g4
 have w22:=subV a0 e0 g3
 have w23:=subV w5 q64 g2
 have q69:N.i 69=1:=(hI hf hF.i8 (m3 w21 w22 w23) g1).trans (i3 rfl)
 have q70:=h9 hF hf g0
 simp only[o3ssyf,List.forall_mem_cons]
 exact ⟨oT q70,
  o123 hF hf,
  oT q69,
  oP hf hF.p8 (m3 w21 w22 w23) (by show ∀l∈_,okL l;simp only[List.forall_mem_cons];exact ⟨okL.app hBa bmsg (by omega),⟨hBa,by omega⟩,⟨bmsg,by omega⟩,nofun⟩),
  oS q64 w5,
  oS e0 a0,
  oS q67 w17,
  oT q68,
  oP hf hF.p8 (m3 w18 w19 w20) (by show ∀l∈_,okL l;simp only[List.forall_mem_cons];exact ⟨okL.app hBa bmsg (by omega),⟨hBa,by omega⟩,⟨bmsg,by omega⟩,nofun⟩),
  oS q64 w5,
  oS e0 a0,
  oS q66 w11,
  oP hf hF.p121 (m4 w12 w14 w15 w16) ⟨by first | omega | decide,⟨hBb,by omega,hok⟩,by omega⟩,
  oS e1 w13,
  oA e0 w12,
  oK e1 (by omega),
  oN e1 (by omega),
  oS e1 a1,
  oK e0 (by omega),
  oN e0 (by omega),
  oS e0 a0,
  oP hf hF.p121 (m4 w6 w8 w9 w10) ⟨by first | omega | decide,⟨hBb,by omega,hok⟩,by omega⟩,
  oS e1 w7,
  oA e0 w6,
  oK e1 (by omega),
  oN e1 (by omega),
  oS e1 a1,
  oK e0 (by omega),
  oN e0 (by omega),
  oS e0 a0,
  oT q65,
  oP hf hF.p5 (m3 w2 w3 w4) ⟨hBb,by omega,by omega⟩,
  oS e1 a1,
  oG q63 (by omega),
  o0 e1,
  oG q61 (by omega),
  o0 e0,
  oG q59 (by omega),
  o0 e1,
  oG q58 (by omega),
  o0 e0,nofun⟩
end
end Go.Proofs.Ytlcljhlijmombaa
