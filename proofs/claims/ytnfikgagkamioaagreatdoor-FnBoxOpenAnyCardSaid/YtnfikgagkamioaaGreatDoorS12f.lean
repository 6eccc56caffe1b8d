/- Facts of runs: secretbox.Open. -/
import Derived.Test.YtnfikgagkamioaaGreatDoorSf25
namespace Go.Proofs.YtnfikgagkamioaaGreatDoor.S
open Go.Sy
def F0:Fns:=⟨fun _ _ _ _=>0,fun _ _ _=>[],fun _ _ _=>True⟩
def matL (key inp c:List Int):List Int:=c.take 4++(key.take 16++((c.drop 4).take 4++(inp++((c.drop 8).take 4++(key.drop 16++c.drop 12)))))
def sigmaL:List Int:=[101,120,112,97,110,100,32,51,50,45,98,121,116,101,32,107]
theorem zipJ_of {N:Num}{M:List Int}:∀ {l:List Ar} {j:Nat},l.map (·.ev N)=M→∀p∈zipJ l j,j≤p.2∧p.1.ev N=M.getD (p.2-j) 0:=by
 intro l
 induction l generalizing M with
 | nil=>intro j _ p hp;cases hp
 | cons a l ih =>
  intro j h p hp;subst h;rcases cD.1 hp with rfl | hp
  ·exact ⟨aS _,by simp⟩
  ·obtain ⟨h1,h2⟩:=ih (j:=j+1) rfl p hp;refine ⟨by omega,?_⟩;rw[h2,show p.2-j=(p.2-(j+1))+1 by omega];rfl
def pos38:List Nat:=[24,25,26,27,28,29,30,31,32,33,34,35,36,37,38,39,4,5,6,7,8,9,10,11,12,13,14,15,16,17,18,19,44,45,46,47,48,49,50,51,52,53,54,55,56,57,58,59,0,1,2,3,20,21,22,23,40,41,42,43,60,61,62,63]
def num38 (b:List Int):Num:=⟨fun x=>b.getD (pos38.getD (x-64) 0) 0,fun _=>[],F0⟩
def outs38:List Ar:=[.var 1904,.var 1906,.var 1908,.var 1910,.var 1911,.var 1913,.var 1915,.var 1917,.var 1918,.var 1920,.var 1922,.var 1924,.var 1925,.var 1927,.var 1929,.var 1931,.var 1932,.var 1934,.var 1936,.var 1938,.var 1939,.var 1941,.var 1943,.var 1945,.var 1946,.var 1948,.var 1950,.var 1952,.var 1953,.var 1955,.var 1957,.var 1959,.var 1960,.var 1962,.var 1964,.var 1966,.var 1967,.var 1969,.var 1971,.var 1973,.var 1974,.var 1976,.var 1978,.var 1980,.var 1981,.var 1983,.var 1985,.var 1987,.var 1988,.var 1990,.var 1992,.var 1994,.var 1995,.var 1997,.var 1999,.var 2001,.var 2002,.var 2004,.var 2006,.var 2008,.var 2009,.var 2011,.var 2013,.var 2015]
def coreL (b:List Int):List Int:=outs38.map (·.ev (ext (num38 b) ds38))
theorem ord38:(ordOk 128 0 ds38).isSome=true:=by kernel_rfl
theorem ext38 (b:List Int):(∀ d∈ds38,d.sat (ext (num38 b) ds38))∧∀x,x<128→(ext (num38 b) ds38).i x=b.getD (pos38.getD (x-64) 0) 0:=by
 obtain ⟨⟨mx,ma⟩,h⟩:=Option.isSome_iff_exists.1 ord38;obtain ⟨_,_,h3,h4,_⟩:=ext_spec (N:=num38 b) h;exact ⟨h4,fun x hx=>h3.i x hx⟩
theorem coreL_length (b:List Int):(coreL b).length=64:=by
 unfold coreL;rw[bF];rfl
theorem mat_pos38 {inp k c:List Int}(hi:inp.length=16)(hk:k.length=32)(hc:c.length=16):∀j,j<64→(matL k inp c).getD (pos38.getD j 0) 0=(inp++(k++c)).getD j 0:=by
 match inp,k,c,hi,hk,hc with
 | [i0,i1,i2,i3,i4,i5,i6,i7,i8,i9,i10,i11,i12,i13,i14,i15],[k0,k1,k2,k3,k4,k5,k6,k7,k8,k9,k10,k11,k12,k13,k14,k15,k16,k17,k18,k19,k20,k21,k22,k23,k24,k25,k26,k27,k28,k29,k30,k31],[c0,c1,c2,c3,c4,c5,c6,c7,c8,c9,c10,c11,c12,c13,c14,c15],_,_,_ =>
  intro j hj
  match j,hj with
  | 0,_=>rfl
  | 1,_=>rfl
  | 2,_=>rfl
  | 3,_=>rfl
  | 4,_=>rfl
  | 5,_=>rfl
  | 6,_=>rfl
  | 7,_=>rfl
  | 8,_=>rfl
  | 9,_=>rfl
  | 10,_=>rfl
  | 11,_=>rfl
  | 12,_=>rfl
  | 13,_=>rfl
  | 14,_=>rfl
  | 15,_=>rfl
  | 16,_=>rfl
  | 17,_=>rfl
  | 18,_=>rfl
  | 19,_=>rfl
  | 20,_=>rfl
  | 21,_=>rfl
  | 22,_=>rfl
  | 23,_=>rfl
  | 24,_=>rfl
  | 25,_=>rfl
  | 26,_=>rfl
  | 27,_=>rfl
  | 28,_=>rfl
  | 29,_=>rfl
  | 30,_=>rfl
  | 31,_=>rfl
  | 32,_=>rfl
  | 33,_=>rfl
  | 34,_=>rfl
  | 35,_=>rfl
  | 36,_=>rfl
  | 37,_=>rfl
  | 38,_=>rfl
  | 39,_=>rfl
  | 40,_=>rfl
  | 41,_=>rfl
  | 42,_=>rfl
  | 43,_=>rfl
  | 44,_=>rfl
  | 45,_=>rfl
  | 46,_=>rfl
  | 47,_=>rfl
  | 48,_=>rfl
  | 49,_=>rfl
  | 50,_=>rfl
  | 51,_=>rfl
  | 52,_=>rfl
  | 53,_=>rfl
  | 54,_=>rfl
  | 55,_=>rfl
  | 56,_=>rfl
  | 57,_=>rfl
  | 58,_=>rfl
  | 59,_=>rfl
  | 60,_=>rfl
  | 61,_=>rfl
  | 62,_=>rfl
  | 63,_=>rfl
  | j+64,h=>exact absurd h (by omega)
def ins38:List (Nat×Ar):=(List.range' 64 64).map fun x=>(x,.var x)
theorem cz38:czCheck 128 ds38 ds38 ins38 outs38 outs38=true:=by kernel_rfl
def A38 (_:List Int)(ls:List (List Int)):List Int :=
 match ls with
 | [_,inp,k,c]=>coreL (matL k inp c)
 | _=>[]
theorem spec38 {F:Fns}(ha:F.a 38=A38):CSpec Tryz.prog F 67 ct38:=by
 refine fG (eU (tab:=[]) trivial) Tryz.func67 (by kernel_rfl) (by kernel_rfl) (by kernel_rfl) run38 (by kernel_rfl) fun is ls N hs hp hag hf hd=> ?_
 obtain rfl:=eV rfl hs
 match ls,hs with
 | [out,inp,k,c],hs =>
 obtain ⟨hlo,hli,hlk,hlc,-⟩:=hs;have hlen:∀L,rwArg ct38.ps [] [out,inp,k,c]=some L→(F.a ct38.fw [] [out,inp,k,c]).length=L.length:=fun L h=>by
  have:L=out:=by simp only[ct38,rwArg,aA] at h;exact h.symm
  subst this;show (F.a 38 [] _).length=_;rw[ha,hlo];exact coreL_length _
 have en:∀j,j<64→N.i (64+j)=(inp++(k++c)).getD j 0:=fun j hj=>by rw[hag.i (64+j) (by show 64+j<128;omega)];show (numsL ct38.ps [] [out,inp,k,c]).getD (64+j) 0=_;simp only[ct38,numsL,bJ];rw[aE,aP (by omega),hlo,bR,aE]
 refine ⟨nofun,⟨nofun,?_,trivial⟩,hlen⟩;show List.map (fun x=>Ar.ev N x) outs38=F.a 38 _ _;rw[ha];show _=outs38.map (·.ev (ext (num38 (matL k inp c)) ds38));obtain ⟨g1,g2⟩:=ext38 (matL k inp c);refine (czCheck_ok cz38 (fun p hp=> ?_) g1 hd).symm;simp only[ins38,dC] at hp;obtain ⟨x,hx,rfl⟩:=hp;obtain ⟨j,hj,rfl⟩:=List.mem_range'.1 hx;simp only[Nat.one_mul];rw[g2 _ (by omega)];show _=N.i (64+j);rw[en j (by omega),bR];exact mat_pos38 hli hlk hlc j (by omega)
def pos31:List Nat:=[24,25,26,27,28,29,30,31,32,33,34,35,36,37,38,39,4,5,6,7,8,9,10,11,12,13,14,15,16,17,18,19,44,45,46,47,48,49,50,51,52,53,54,55,56,57,58,59,0,1,2,3,20,21,22,23,40,41,42,43,60,61,62,63]
def num31 (b:List Int):Num:=⟨fun x=>b.getD (pos31.getD (x-32) 0) 0,fun _=>[],F0⟩
def outs31:List Ar:=[.var 1856,.var 1858,.var 1860,.var 1862,.var 1863,.var 1865,.var 1867,.var 1869,.var 1870,.var 1872,.var 1874,.var 1876,.var 1877,.var 1879,.var 1881,.var 1883,.var 1884,.var 1886,.var 1888,.var 1890,.var 1891,.var 1893,.var 1895,.var 1897,.var 1898,.var 1900,.var 1902,.var 1904,.var 1905,.var 1907,.var 1909,.var 1911]
def hsaL (b:List Int):List Int:=outs31.map (·.ev (ext (num31 b) ds31))
theorem ord31:(ordOk 96 0 ds31).isSome=true:=by kernel_rfl
theorem ext31 (b:List Int):(∀ d∈ds31,d.sat (ext (num31 b) ds31))∧∀x,x<96→(ext (num31 b) ds31).i x=b.getD (pos31.getD (x-32) 0) 0:=by
 obtain ⟨⟨mx,ma⟩,h⟩:=Option.isSome_iff_exists.1 ord31;obtain ⟨_,_,h3,h4,_⟩:=ext_spec (N:=num31 b) h;exact ⟨h4,fun x hx=>h3.i x hx⟩
theorem hsaL_length (b:List Int):(hsaL b).length=32:=by
 unfold hsaL;rw[bF];rfl
theorem mat_pos31 {inp k c:List Int}(hi:inp.length=16)(hk:k.length=32)(hc:c.length=16):∀j,j<64→(matL k inp c).getD (pos31.getD j 0) 0=(inp++(k++c)).getD j 0:=by
 match inp,k,c,hi,hk,hc with
 | [i0,i1,i2,i3,i4,i5,i6,i7,i8,i9,i10,i11,i12,i13,i14,i15],[k0,k1,k2,k3,k4,k5,k6,k7,k8,k9,k10,k11,k12,k13,k14,k15,k16,k17,k18,k19,k20,k21,k22,k23,k24,k25,k26,k27,k28,k29,k30,k31],[c0,c1,c2,c3,c4,c5,c6,c7,c8,c9,c10,c11,c12,c13,c14,c15],_,_,_ =>
  intro j hj
  match j,hj with
  | 0,_=>rfl
  | 1,_=>rfl
  | 2,_=>rfl
  | 3,_=>rfl
  | 4,_=>rfl
  | 5,_=>rfl
  | 6,_=>rfl
  | 7,_=>rfl
  | 8,_=>rfl
  | 9,_=>rfl
  | 10,_=>rfl
  | 11,_=>rfl
  | 12,_=>rfl
  | 13,_=>rfl
  | 14,_=>rfl
  | 15,_=>rfl
  | 16,_=>rfl
  | 17,_=>rfl
  | 18,_=>rfl
  | 19,_=>rfl
  | 20,_=>rfl
  | 21,_=>rfl
  | 22,_=>rfl
  | 23,_=>rfl
  | 24,_=>rfl
  | 25,_=>rfl
  | 26,_=>rfl
  | 27,_=>rfl
  | 28,_=>rfl
  | 29,_=>rfl
  | 30,_=>rfl
  | 31,_=>rfl
  | 32,_=>rfl
  | 33,_=>rfl
  | 34,_=>rfl
  | 35,_=>rfl
  | 36,_=>rfl
  | 37,_=>rfl
  | 38,_=>rfl
  | 39,_=>rfl
  | 40,_=>rfl
  | 41,_=>rfl
  | 42,_=>rfl
  | 43,_=>rfl
  | 44,_=>rfl
  | 45,_=>rfl
  | 46,_=>rfl
  | 47,_=>rfl
  | 48,_=>rfl
  | 49,_=>rfl
  | 50,_=>rfl
  | 51,_=>rfl
  | 52,_=>rfl
  | 53,_=>rfl
  | 54,_=>rfl
  | 55,_=>rfl
  | 56,_=>rfl
  | 57,_=>rfl
  | 58,_=>rfl
  | 59,_=>rfl
  | 60,_=>rfl
  | 61,_=>rfl
  | 62,_=>rfl
  | 63,_=>rfl
  | j+64,h=>exact absurd h (by omega)
def ins31:List (Nat×Ar):=(List.range' 32 64).map fun x=>(x,.var x)
theorem cz31:czCheck 96 ds31 ds31 ins31 outs31 outs31=true:=by kernel_rfl
def A31 (_:List Int)(ls:List (List Int)):List Int :=
 match ls with
 | [_,inp,k,c]=>hsaL (matL k inp c)
 | _=>[]
theorem spec31 {F:Fns}(ha:F.a 31=A31):CSpec Tryz.prog F 50 ct31:=by
 refine fG (eU (tab:=[]) trivial) Tryz.func50 (by kernel_rfl) (by kernel_rfl) (by kernel_rfl) run31 (by kernel_rfl) fun is ls N hs hp hag hf hd=> ?_
 obtain rfl:=eV rfl hs
 match ls,hs with
 | [out,inp,k,c],hs =>
 obtain ⟨hlo,hli,hlk,hlc,-⟩:=hs;have hlen:∀L,rwArg ct31.ps [] [out,inp,k,c]=some L→(F.a ct31.fw [] [out,inp,k,c]).length=L.length:=fun L h=>by
  have:L=out:=by simp only[ct31,rwArg,aA] at h;exact h.symm
  subst this;show (F.a 31 [] _).length=_;rw[ha,hlo];exact hsaL_length _
 have en:∀j,j<64→N.i (32+j)=(inp++(k++c)).getD j 0:=fun j hj=>by rw[hag.i (32+j) (by show 32+j<96;omega)];show (numsL ct31.ps [] [out,inp,k,c]).getD (32+j) 0=_;simp only[ct31,numsL,bJ];rw[aE,aP (by omega),hlo,bR,aE]
 refine ⟨nofun,⟨nofun,?_,trivial⟩,hlen⟩;show List.map (fun x=>Ar.ev N x) outs31=F.a 31 _ _;rw[ha];show _=outs31.map (·.ev (ext (num31 (matL k inp c)) ds31));obtain ⟨g1,g2⟩:=ext31 (matL k inp c);refine (czCheck_ok cz31 (fun p hp=> ?_) g1 hd).symm;simp only[ins31,dC] at hp;obtain ⟨x,hx,rfl⟩:=hp;obtain ⟨j,hj,rfl⟩:=List.mem_range'.1 hx;simp only[Nat.one_mul];rw[g2 _ (by omega)];show _=N.i (32+j);rw[en j (by omega),bR];exact mat_pos31 hli hlk hlc j (by omega)
def I28 (_:List Int)(ls:List (List Int))(j:Nat):Int :=
 match ls with
 | [b]=>(coreL b).getD j 0
 | _=>0
def ins28:List (Nat×Ar):=(List.range' 64 64).map fun x=>(x,.var (pos38.getD (x-64) 0))
def outs28:List Ar:=[.var 1826,.var 1829,.var 1832,.var 1835,.var 1838,.var 1841,.var 1844,.var 1847,.var 1850,.var 1853,.var 1856,.var 1859,.var 1862,.var 1865,.var 1868,.var 1871,.var 1874,.var 1877,.var 1880,.var 1883,.var 1886,.var 1889,.var 1892,.var 1895,.var 1898,.var 1901,.var 1904,.var 1907,.var 1910,.var 1913,.var 1916,.var 1919,.var 1922,.var 1925,.var 1928,.var 1931,.var 1934,.var 1937,.var 1940,.var 1943,.var 1946,.var 1949,.var 1952,.var 1955,.var 1958,.var 1961,.var 1964,.var 1967,.var 1970,.var 1973,.var 1976,.var 1979,.var 1982,.var 1985,.var 1988,.var 1991,.var 1994,.var 1997,.var 2000,.var 2003,.var 2006,.var 2009,.var 2012,.var 2015]
theorem cz28:czCheck 64 ds38 ds28 ins28 outs38 outs28=true:=by kernel_rfl
theorem pos38_lt:∀j,j<64→pos38.getD j 0<64:=by decide
theorem spec28 {F:Fns}(hi:F.i 28=I28):CSpec Tryz.prog F 46 ct28:=by
 refine fG (eU (tab:=[]) trivial) Tryz.func46 (by kernel_rfl) (by kernel_rfl) (by kernel_rfl) run28 (by kernel_rfl) fun is ls N hs hp hag hf hd=> ?_
 obtain rfl:=eV rfl hs
 match ls,hs with
 | [b],hs =>
 obtain ⟨hlb,-⟩:=hs;have en:∀j,j<64→N.i j=b.getD j 0:=fun j hj=>by rw[hag.i j (by show j<64;omega)];show (numsL ct28.ps [] [b]).getD j 0=_;simp only[ct28,numsL,bJ]
 refine ⟨nofun,⟨?_,trivial,trivial⟩,nofun⟩;obtain ⟨g1,g2⟩:=ext38 b;have main:=czCheck_ok cz28 (fun p hp=>by simp only[ins28,dC] at hp;obtain ⟨x,hx,rfl⟩:=hp;obtain ⟨j,hj,rfl⟩:=List.mem_range'.1 hx;simp only[Nat.one_mul,bR];rw[g2 _ (by omega),bR];exact (en _ (pos38_lt j (by omega))).symm) g1 hd
 intro p hp;obtain ⟨h1,h2⟩:=zipJ_of (j:=0) main.symm p hp;rw[h2];show _=F.i 28 [] [b] p.2;rw[hi];rfl
def I25 (_:List Int)(ls:List (List Int))(j:Nat):Int :=
 match ls with
 | [key,inp]=>(matL key inp sigmaL).getD j 0
 | _=>0
theorem matL_length {key inp c:List Int}(hk:key.length=32)(hi:inp.length=16)(hc:c.length=16):(matL key inp c).length=64:=by
 unfold matL;simp only[aO,bE,aT];omega
theorem mat25 {f:Nat→Int}{key inp:List Int}(hk:key.length=32)(hi:inp.length=16)(h:∀j,j<48→f j=(key++inp).getD j 0) :
 [101,120,112,97,f 0,f 1,f 2,f 3,f 4,f 5,f 6,f 7,f 8,f 9,f 10,f 11,f 12,f 13,f 14,f 15,110,100,32,51,f 32,f 33,f 34,f 35,f 36,f 37,f 38,f 39,f 40,f 41,f 42,f 43,f 44,f 45,f 46,f 47,50,45,98,121,f 16,f 17,f 18,f 19,f 20,f 21,f 22,f 23,f 24,f 25,f 26,f 27,f 28,f 29,f 30,f 31,116,101,32,107]=matL key inp sigmaL:=by
 match key,inp,hk,hi with
 | [k0,k1,k2,k3,k4,k5,k6,k7,k8,k9,k10,k11,k12,k13,k14,k15,k16,k17,k18,k19,k20,k21,k22,k23,k24,k25,k26,k27,k28,k29,k30,k31],[i0,i1,i2,i3,i4,i5,i6,i7,i8,i9,i10,i11,i12,i13,i14,i15],_,_ =>
  simp only[h 0 (by decide),h 1 (by decide),h 2 (by decide),h 3 (by decide),h 4 (by decide),h 5 (by decide),h 6 (by decide),h 7 (by decide),h 8 (by decide),h 9 (by decide),h 10 (by decide),h 11 (by decide),h 12 (by decide),h 13 (by decide),h 14 (by decide),h 15 (by decide),h 16 (by decide),h 17 (by decide),h 18 (by decide),h 19 (by decide),h 20 (by decide),h 21 (by decide),h 22 (by decide),h 23 (by decide),h 24 (by decide),h 25 (by decide),h 26 (by decide),h 27 (by decide),h 28 (by decide),h 29 (by decide),h 30 (by decide),h 31 (by decide),h 32 (by decide),h 33 (by decide),h 34 (by decide),h 35 (by decide),h 36 (by decide),h 37 (by decide),h 38 (by decide),h 39 (by decide),h 40 (by decide),h 41 (by decide),h 42 (by decide),h 43 (by decide),h 44 (by decide),h 45 (by decide),h 46 (by decide),h 47 (by decide)]
  rfl
def outs25:List Ar:=[.kst 101,.kst 120,.kst 112,.kst 97,.var 0,.var 1,.var 2,.var 3,.var 4,.var 5,.var 6,.var 7,.var 8,.var 9,.var 10,.var 11,.var 12,.var 13,.var 14,.var 15,.kst 110,.kst 100,.kst 32,.kst 51,.var 32,.var 33,.var 34,.var 35,.var 36,.var 37,.var 38,.var 39,.var 40,.var 41,.var 42,.var 43,.var 44,.var 45,.var 46,.var 47,.kst 50,.kst 45,.kst 98,.kst 121,.var 16,.var 17,.var 18,.var 19,.var 20,.var 21,.var 22,.var 23,.var 24,.var 25,.var 26,.var 27,.var 28,.var 29,.var 30,.var 31,.kst 116,.kst 101,.kst 32,.kst 107]
theorem spec25 {F:Fns}(hi:F.i 25=I25):CSpec Tryz.prog F 20 ct25:=by
 refine fG (eU (tab:=[]) trivial) Tryz.func20 (by kernel_rfl) (by kernel_rfl) (by kernel_rfl) run25 (by kernel_rfl) fun is ls N hs hp hag hf hd=> ?_
 obtain rfl:=eV rfl hs
 match ls,hs with
 | [key,inp],hs =>
 obtain ⟨hlk,hli,-⟩:=hs;have en:∀j,j<48→N.i j=(key++inp).getD j 0:=fun j hj=>by rw[hag.i j (by show j<48;omega)];show (numsL ct25.ps [] [key,inp]).getD j 0=_;simp only[ct25,numsL,bJ]
 refine ⟨nofun,⟨?_,trivial,trivial⟩,nofun⟩;intro p hp;obtain ⟨h1,h2⟩:=zipJ_of (j:=0) (l:=outs25) (M:=matL key inp sigmaL) (N:=N) (mat25 hlk hli en) p hp;rw[h2];show _=F.i 25 [] [key,inp] p.2;rw[hi];rfl
def I16 (_:List Int)(ls:List (List Int))(j:Nat):Int :=
 match ls with
 | [inp,key]=>(hsaL (matL key inp sigmaL)).getD j 0
 | _=>0
def ins16:List (Nat×Ar):=(List.range' 32 64).map fun x=>(x,.var (48+pos31.getD (x-32) 0))
def outs16:List Ar:=[.var 1873,.var 1875,.var 1877,.var 1879,.var 1881,.var 1883,.var 1885,.var 1887,.var 1889,.var 1891,.var 1893,.var 1895,.var 1897,.var 1899,.var 1901,.var 1903,.var 1905,.var 1907,.var 1909,.var 1911,.var 1913,.var 1915,.var 1917,.var 1919,.var 1921,.var 1923,.var 1925,.var 1927,.var 1929,.var 1931,.var 1933,.var 1935]
theorem cz16:czCheck 112 ds31 ds16 ins16 outs31 outs16=true:=by kernel_rfl
theorem pos31_lt:∀j,j<64→pos31.getD j 0<64:=by decide
theorem pre16_mem:∀j,j<64→Df.n (48+j) (.fn 25 [] [0,1] j)∈pre16:=fun j hj=>by
 unfold pre16;refine eJ _ (dC.2 ⟨j,?_,rfl⟩);simpa using hj
theorem mem_decL {d:Df}:∀ {l:List Nat} {x:Nat} {acc:List Df},d∈acc→d∈decL x l acc
 | [],_,_,h=>h
 | _::l,_,_,h=>mem_decL (l:=l) (aJ _ h)
theorem spec16 {F:Fns}(hi:F.i 16=I16)(h25:F.i 25=I25)(hp25:∀is ls,F.p 25 is ls):CSpec Tryz.prog F 11 ct16:=by
 refine fG (eU (tab:=tab16) ⟨⟨by kernel_rfl,fun c hc=>by simp only[aX] at hc;subst hc;exact spec25 h25⟩,trivial⟩) Tryz.func11 (by kernel_rfl) (by kernel_rfl) (by kernel_rfl) run16 (by kernel_rfl) fun is ls N hs hp hag hf hd=> ?_
 obtain rfl:=eV rfl hs
 match ls,hs with
 | [inp,key],hs =>
 obtain ⟨hli,hlk,-⟩:=hs;have en:∀j,j<48→N.i j=(inp++key).getD j 0:=fun j hj=>by rw[hag.i j (by show j<48;omega)];show (numsL ct16.ps [] [inp,key]).getD j 0=_;simp only[ct16,numsL,bJ]
 have m0:Df.a 0 (.lit ((List.range' 16 32).map .var))∈ds16:=by unfold ds16;refine mem_decL ?_;unfold pre16;simp
 have m1:Df.a 1 (.lit ((List.range 16).map .var))∈ds16:=by unfold ds16;refine mem_decL ?_;unfold pre16;simp
 have w0:N.a 0=key:=by
  have h:N.a 0=_:=hd _ m0;rw[h];simp only[Ad.ev,cZ];refine dA fun j=> ?_
  rw[bP];by_cases hj:j<32
  ·rw [List.getElem?_range' hj];simp only[Option.map_some,Function.comp,Ar.ev,Nat.one_mul];rw[en _ (by omega),aE,aP (by omega),hli,bR,aU (by omega)];rfl
  ·rw [bI (by simp;omega),bI (by omega)];rfl
 have w1:N.a 1=inp:=by
  have h:N.a 1=_:=hd _ m1;rw[h];simp only[Ad.ev,cZ];refine dA fun j=> ?_
  rw[bP];by_cases hj:j<16
  ·rw [cL hj];simp only[Option.map_some,Function.comp,Ar.ev];rw[en _ (by omega),aE,bQ (by omega),aU (by omega)];rfl
  ·rw [bI (by simp;omega),bI (by omega)];rfl
 have em:∀j,j<64→N.i (48+j)=(matL key inp sigmaL).getD j 0:=fun j hj=>by
  have hm:Df.n (48+j) (.fn 25 [] [0,1] j)∈ds16:=by unfold ds16;exact mem_decL (pre16_mem j hj)
  have h:N.i (48+j)=_:=hd _ hm;rw[h];simp only[Nd.ev,aK,aI,hf,h25,w0,w1];rfl
 refine ⟨?_,⟨?_,trivial,trivial⟩,nofun⟩
 ·simp only[aC,Ob.holds,hf];exact ⟨hp25 _ _,nofun⟩
 ·obtain ⟨g1,g2⟩:=ext31 (matL key inp sigmaL);have main:=czCheck_ok cz16 (fun p hp=>by
   simp only[ins16,dC] at hp;obtain ⟨x,hx,rfl⟩:=hp;obtain ⟨j,hj,rfl⟩:=List.mem_range'.1 hx;simp only[Nat.one_mul,bR];rw[g2 _ (by omega),bR];exact (em _ (pos31_lt j (by omega))).symm) g1 hd
  intro p hp;obtain ⟨h1,h2⟩:=zipJ_of (j:=0) main.symm p hp;rw[h2];show _=F.i 16 [] [inp,key] p.2;rw[hi];rfl
end Go.Proofs.YtnfikgagkamioaaGreatDoor.S
namespace Go.Proofs.YtnfikgagkamioaaGreatDoor
open Go.Sy
def ct31s:Ct:={ps:=[.ptr .u8 32 true,.ptr .u8 16 false,.ptr .u8 16 false],sel:=some [0,1,0,2],res:=[],p:=311,fi:=0,fw:=311,fs:=0}
def ct35:Ct:={ps:=[fe false,.ptr .u8 32 true,.ptr .u8 32 false,.ptr .u8 32 false],sel:=some [1,2,3],glp:=some 0,res:=[],p:=350,fi:=0,fw:=350,fs:=0}
def ct5p:Ct:={ps:=[.agg .u8 32,.agg .u8 32],res:=[.agg .u8 32],p:=500,fi:=500,fw:=0,fs:=0}
def tab35:List (FuncId×List Ct):=[(49,[ct49c]),(50,[S.ct31,ct31s])]
def tab5p:List (FuncId×List Ct):=[(12,[ct12]),(11,[S.ct16])]
def z16:List Int:=List.replicate 16 0
noncomputable def shr (pb pv:List Int):List Int:=S.hsaL (S.matL (xfn pv pb) z16 S.sigmaL)
noncomputable def A311 (_:List Int)(ls:List (List Int)):List Int :=
 match ls with
 | [k,inp,c]=>S.hsaL (S.matL k inp c)
 | _=>[]
noncomputable def A350 (_:List Int)(ls:List (List Int)):List Int :=
 match ls with
 | [_,_,pb,pv]=>shr pb pv
 | _=>[]
def P350 (_:List Int)(ls:List (List Int)):Prop :=
 match ls with
 | [g,_,pb,pv]=>g=[1,0,0,0,0]∧Bytes pb∧Bytes pv
 | _=>False
noncomputable def I500 (_:List Int)(ls:List (List Int))(j:Nat):Int :=
 match ls with
 | [pb,pv]=>(shr pb pv).getD j 0
 | _=>0
structure F35 (F:Fns):Prop extends F59 F,F12 F where
 p31:∀is ls,F.p 31 is ls
 a31:F.a 31=S.A31
 p311:∀is ls,F.p 311 is ls
 a311:F.a 311=A311
 p16:∀is ls,F.p 16 is ls
 i16:F.i 16=S.I16
 p25:∀is ls,F.p 25 is ls
 i25:F.i 25=S.I25
 p350:F.p 350=P350
 a350:F.a 350=A350
 p500:F.p 500=P12
 i500:F.i 500=I500
def ren (x:Nat):Nat:=bif Nat.ble 80 x then x-32 else bif Nat.ble 48 x then x-48 else x
def renA:Ar→Ar
 | .var x=> .var (ren x)
 | .kst n=> .kst n
def renD:Df→Df
 | .n x (.bin op k a b)=> .n (ren x) (.bin op k (renA a) (renA b))
 | .n x (.conv k a)=> .n (ren x) (.conv k (renA a))
 | d=>d
def bcD:Df→Bool
 | .n _ (.bin _ _ _ _)=>true
 | .n _ (.conv _ _)=>true
 | _=>false
def renN (N:Num):Num:=⟨fun x=>N.i (ren x),N.a,N.f⟩
theorem renA_ev {N:Num}(a:Ar):(renA a).ev N=a.ev (renN N):=by cases a <;> rfl
theorem renD_sat {N:Num}{d:Df}(hb:bcD d=true)(h:(renD d).sat N):d.sat (renN N):=by
 unfold bcD at hb;split at hb
 ·simp only[renD,Df.sat,Nd.ev,renA_ev] at h;exact h
 ·simp only[renD,Df.sat,Nd.ev,renA_ev] at h;exact h
 ·cases hb
theorem run31s:runE ct31s Tryz.f50 (callT []) []=some (⟨[],some (.inr (S.outs31.map renA)),none⟩,S.ds31.map renD,[]):=by kernel_rfl
theorem bc31:S.ds31.all bcD=true:=by kernel_rfl
theorem spec31s {F:Fns}(ha:F.a 311=A311):CSpec Tryz.prog F 50 ct31s:=by
 refine fG (eU (tab:=[]) trivial) Tryz.func50 (by kernel_rfl) (by kernel_rfl) (by kernel_rfl) run31s (by kernel_rfl) fun is ls N hs hp hag hf hd=> ?_
 obtain rfl:=eV rfl hs
 match ls,hs with
 | [k,inp,c],hs =>
 obtain ⟨hlk,hli,hlc,-⟩:=hs;have hlen:∀L,rwArg ct31s.ps [] [k,inp,c]=some L→(F.a ct31s.fw [] [k,inp,c]).length=L.length:=fun L h=>by
  have:L=k:=by simp only[ct31s,rwArg,aA] at h;exact h.symm
  subst this;show (F.a 311 [] _).length=_;rw[ha,hlk];exact S.hsaL_length _
 have en:∀j,j<64→N.i j=(k++(inp++c)).getD j 0:=fun j hj=>by rw[hag.i j hj];show (numsL ct31s.ps [] [k,inp,c]).getD j 0=_;simp only[ct31s,numsL,bJ]
 refine ⟨nofun,⟨nofun,?_,trivial⟩,hlen⟩;show List.map (fun x=>Ar.ev N x) (S.outs31.map renA)=F.a 311 _ _;rw[ha,cZ,show (fun x=>Ar.ev N x)∘renA=fun x=>Ar.ev (renN N) x from funext fun a=>renA_ev a];show _=S.outs31.map (·.ev (ext (S.num31 (S.matL k inp c)) S.ds31));obtain ⟨g1,g2⟩:=S.ext31 (S.matL k inp c);have hd':∀d∈S.ds31,d.sat (renN N):=fun d hm=>renD_sat (bT.1 bc31 d hm) (hd _ (dG hm))
 refine (czCheck_ok S.cz31 (fun p hp=> ?_) g1 hd').symm;simp only[S.ins31,dC] at hp;obtain ⟨x,hx,rfl⟩:=hp;obtain ⟨j,hj,rfl⟩:=List.mem_range'.1 hx;simp only[Nat.one_mul];rw[g2 _ (by omega),bR,S.mat_pos31 hli hlk hlc j (by omega)];show _=N.i (ren (32+j));unfold ren;rcases bL j 16 with h | h
 ·rw [show Nat.ble 80 (32+j)=false by rw[←Bool.not_eq_true,Nat.ble_eq];omega,show Nat.ble 48 (32+j)=false by rw[←Bool.not_eq_true,Nat.ble_eq];omega];show _=N.i (32+j);rw[en (32+j) (by omega),aE,aE,bQ (by omega),aP (by omega),hlk,bR,bQ (by omega)]
 rcases bL j 48 with h' | h'
 ·rw [show Nat.ble 80 (32+j)=false by rw[←Bool.not_eq_true,Nat.ble_eq];omega,show Nat.ble 48 (32+j)=true by rw[Nat.ble_eq];omega];show _=N.i (32+j-48);rw[en (32+j-48) (by omega),aE,aE,aP (by omega),hli,bQ (by omega),bQ (by omega)];congr 2;omega
 ·rw [show Nat.ble 80 (32+j)=true by rw[Nat.ble_eq];omega];show _=N.i (32+j-32);rw[en (32+j-32) (by omega),aE,aE,aP (by omega),hli,aP (by omega),hlk,aP (by omega),hlk,aP (by omega),hli];congr 2;omega
noncomputable abbrev E35:=runE ct35 Tryz.f35 (callT tab35) []
theorem E35_s:E35=some (⟨[],some (.inr (vs 133 32)),none⟩,dE E35,oE E35):=someE (by kernel_rfl)
def sigA:List Ar:=S.sigmaL.map .kst
def e35B (ds:List Df)(os:List Ob):Bool:=litV ds 0 (vs 0 5)&&(litV ds 2 (vs 69 32)&&(litV ds 3 (vs 37 32)&&(litV ds 5 (vs 101 32)&&(litV ds 6 (zs 16)&&(litV ds 7 sigA&&(rdB ds 101 4 0 32&&(rdB ds 133 8 0 32 &&
 ((match lkA ds 4 with | some (.fn 490 [] [0,1,2,3])=>true | _=>false)&&((match lkA ds 8 with | some (.fn 311 [] [5,6,7])=>true | _=>false)&&eL eOb os [.prd 311 [] [5,6,7],.prd 492 [] [0,1,2,3]])))))))))
theorem E35_b:e35B (dE E35) (oE E35)=true:=by kernel_rfl
theorem spec35 {F:Fns}(hF:F35 F):CSpec Tryz.prog F 35 ct35:=by
 refine fG (eU (tab:=tab35) ⟨⟨by kernel_rfl,fun c hc=>by simp only[aX] at hc;subst hc;exact spec49 hF.toF59⟩,⟨by kernel_rfl,fun c hc=>by
  simp only[cD,dX,or_false] at hc;rcases hc with rfl | rfl
  ·exact S.spec31 hF.a31
  ·exact spec31s hF.a311⟩,trivial⟩) Tryz.func35 (by kernel_rfl) (by kernel_rfl) (by kernel_rfl) E35_s (by kernel_rfl) fun is ls N hs hp hag hf hd=> ?_
 obtain ⟨g,d,s,u,rfl,rfl,gl,dl,sl,ul⟩:=shape49 (show Shape ct49n.ps is ls from hs);obtain ⟨g1,bs,bu⟩:P350 [] [g,d,s,u]:=by rw[←hF.p350];exact hp
 obtain ⟨r1,r2,r3⟩:=in49 (show Agr (stOf ct49n).nx (stOf ct49n).na (num0 F ct49n.ps [] [g,d,s,u]) N from hag) gl dl sl ul;have hb:=E35_b;simp only[e35B,aG] at hb;obtain ⟨h0,h2,h3,h5,h6,h7,q1,q2,k1,k2,ho⟩:=hb;have a0:N.a 0=g:=by rw[gZ hd h0,gD,r1]
 have a2:N.a 2=u:=by rw[gZ hd h2,gD,r3]
 have a3:N.a 3=s:=by rw[gZ hd h3,gD,r2]
 have a4:N.a 4=xfn u s:=by
  split at k1
  ·rename_i hl;rw[fR hd hl];simp only[Ad.ev,aI,aK];rw[hf,hF.a490,a2,a3];rfl
  ·cases k1
 have a5:N.a 5=xfn u s:=by rw[gZ hd h5,gD];exact fP (xfn_bytes u s).2 fun j hj=>by rw[rd_ok hd q1 hj,a4,bM]
 have a6:N.a 6=z16:=by rw[gZ hd h6];rfl
 have a7:N.a 7=S.sigmaL:=by rw[gZ hd h7];rfl
 have a8:N.a 8=shr s u:=by
  split at k2
  ·rename_i hl;rw[fR hd hl];simp only[Ad.ev,aI,aK];rw[hf,hF.a311,a5,a6,a7];rfl
  ·cases k2
 have sl32:(shr s u).length=32:=S.hsaL_length _;refine ⟨?_,⟨nofun,?_,trivial⟩,fun L hL=> ?_⟩
 ·rw [eL_eq (fun _ _=>eOb_eq) ho];simp only[aC,Ob.holds,aK,aI];refine ⟨by rw[hf];exact hF.p311 _ _,?_,nofun⟩;rw[hf,hF.p492,a0,a2,a3];exact ⟨g1,bu,bs,trivial⟩
 ·show (vs 133 32).map _=F.a 350 _ _;rw[gD,hF.a350];exact fP sl32 fun j hj=>by rw[rd_ok hd q2 hj,a8,bM];rfl
 ·have hL:some d=some L:=hL;simp only[aA] at hL;subst hL;show (F.a 350 [] [g,d,s,u]).length=_;rw[hF.a350,dl];exact sl32
noncomputable abbrev E5p:=runE ct5p Tryz.f5 (callT tab5p) []
theorem E5p_s:E5p=some (⟨zipJ (vs 96 32) 0,none,none⟩,dE E5p,oE E5p):=someE (by kernel_rfl)
def e5pB (ds:List Df)(os:List Ob):Bool:=litV ds 0 (vs 32 32)&&(litV ds 1 (vs 0 32)&&(litV ds 2 (zs 16)&&(litV ds 3 (vs 64 32)&&(famF ds 64 12 [0,1] 32&&(famF ds 96 16 [2,3] 32&&eL eOb os [.prd 16 [] [2,3],.prd 12 [] [0,1]])))))
theorem E5p_b:e5pB (dE E5p) (oE E5p)=true:=by kernel_rfl
theorem spec5p {F:Fns}(hF:F35 F):CSpec Tryz.prog F 5 ct5p:=by
 refine fG (eU (tab:=tab5p) ⟨⟨by kernel_rfl,fun c hc=>by simp only[aX] at hc;subst hc;exact spec12 hF.toF12⟩,⟨by kernel_rfl,fun c hc=>by simp only[aX] at hc;subst hc;exact S.spec16 hF.i16 hF.i25 hF.p25⟩,trivial⟩)
  Tryz.func5 (by kernel_rfl) (by kernel_rfl) (by kernel_rfl) E5p_s (by kernel_rfl) fun is ls N hs hp hag hf hd=> ?_
 obtain ⟨s,u,rfl,rfl,sl,ul⟩:=two16 hs;obtain ⟨bs,bu⟩:P12 [] [s,u]:=by rw[←hF.p500];exact hp
 have e:∀x,x<64→N.i x=(s++u).getD x 0:=fun x hx=>by rw[hag.i x hx];show (numsL ct5p.ps [] [s,u]).getD x 0=_;simp only[ct5p,numsL,bJ]
 have r1:rowI N 0 32=s:=row_in (L:=s++u) (by rw[bW,dO sl]) sl fun j hj=>e _ (by omega)
 have r2:rowI N 32 32=u:=row_in (L:=s++u) (by rw[List.drop_left' sl,←ul,cS]) ul fun j hj=>e _ (by omega)
 have hb:=E5p_b;simp only[e5pB,aG] at hb;obtain ⟨h0,h1,h2,h3,q1,q2,ho⟩:=hb;have a0:N.a 0=u:=by rw[gZ hd h0,gD,r2]
 have a1:N.a 1=s:=by rw[gZ hd h1,gD,r1]
 have a2:N.a 2=z16:=by rw[gZ hd h2];rfl
 have a3:N.a 3=xfn u s:=by rw[gZ hd h3,gD];exact fP (xfn_bytes u s).2 fun j hj=>by rw[fam_f hd q1 j hj,hf,hF.i12,aI,aI,aK,a0,a1];rfl
 have r96:rowI N 96 32=shr s u:=fP (S.hsaL_length _) fun j hj=>by rw[fam_f hd q2 j hj,hf,hF.i16,aI,aI,aK,a2,a3];rfl
 refine ⟨?_,⟨zip_map (by rw[gD,r96]) fun j=>by show F.i 500 _ _ j=_;rw[hF.i500];rfl,trivial,trivial⟩,nofun⟩;rw[eL_eq (fun _ _=>eOb_eq) ho];simp only[aC,Ob.holds,aK,aI];refine ⟨by rw[hf];exact hF.p16 _ _,?_,nofun⟩;rw[hf,hF.p12,a0,a1];exact ⟨bu,bs⟩
end Go.Proofs.YtnfikgagkamioaaGreatDoor
namespace Go.Proofs.YtnfikgagkamioaaGreatDoor.S
open Go.Sy
def nilV:Value:= .slice none 0 0
def ct24:Ct:={ps:=[.gr .u8,.int .i64],res:=[.sl .u8 none,.tl],p:=24,fi:=24,fw:=0,fs:=24}
def ct24z:Ct:={ps:=[.gr .u8,.int .i64],res:=[.sl .u8 none,.emp],p:=240,fi:=24,fw:=0,fs:=24}
def ct24n:Ct:={ct24 with ps:=[.kst nilV,.int .i64]}
def ct24nz:Ct:={ct24z with ps:=[.kst nilV,.int .i64],res:=[.emp,.emp]}
def ct33s:Ct:={ps:=[.sl .u8 true (some 64),.ptr .u8 16 false,.ptr .u8 32 false],res:=[],p:=330,fi:=0,fw:=330,fs:=0,sel:=some [0,0,1,2]}
def ct23:Ct:={ps:=[.ptr .u8 16 false,.sl .u8 false none,.ptr .u8 32 false],res:=[.bool],p:=23,fi:=23,fw:=0,fs:=0}
def ct23e:Ct:={ps:=[.ptr .u8 16 false,.emp,.ptr .u8 32 false],res:=[.bool],p:=23,fi:=23,fw:=0,fs:=0}
def tab23:List (FuncId×List Ct):=[(62,[ct34,ct34e])]
def ct12f:Ct:={ps:=[.ign,.sl .u8 false none,.ptr .u8 24 false,.ptr .u8 32 false],res:=[.kst nilV,.kst (.bool false)],p:=120,fi:=0,fw:=0,fs:=0}
def ct12n:Ct:={ps:=[.kst nilV,.sl .u8 false none,.ptr .u8 24 false,.ptr .u8 32 false],res:=[.sl .u8 none,.kst (.bool true)],p:=121,fi:=0,fw:=0,fs:=12}
def ct12g:Ct:={ct12n with ps:=[.gr .u8,.sl .u8 false none,.ptr .u8 24 false,.ptr .u8 32 false]}
def ct12n0:Ct:={ps:=[.kst nilV,.sl .u8 false none,.ptr .u8 24 false,.ptr .u8 32 false],res:=[.emp,.kst (.bool true)],p:=122,fi:=0,fw:=0,fs:=12}
def ct12g0:Ct:={ct12n0 with ps:=[.gr .u8,.sl .u8 false none,.ptr .u8 24 false,.ptr .u8 32 false],res:=[.sl .u8 none,.kst (.bool true)]}
def ct12e:Ct:={ct12f with ps:=[.ign,.emp,.ptr .u8 24 false,.ptr .u8 32 false],p:=123}
def tab12:List (FuncId×List Ct):=[(54,[ct23,ct23e]),(55,[ct24,ct24n]),(50,[ct31]),(61,[ct33,ct33s])]
def tab12z:List (FuncId×List Ct):=[(54,[ct23,ct23e]),(55,[ct24z,ct24nz]),(50,[ct31]),(61,[ct33,ct33s])]
def ct5:Ct:={ps:=[.sl .u8 false none,.agg .u8 24,.agg .u8 32],res:=[.sl .u8 none,.bool],p:=5,fi:=5,fw:=0,fs:=5}
def ct5z:Ct:={ct5 with res:=[.emp,.bool],p:=51}
def ct5s:Ct:={ct5 with res:=[.kst nilV,.kst (.bool false)],p:=52}
def ct5e:Ct:={ct5s with ps:=[.emp,.agg .u8 24,.agg .u8 32],p:=123}
def tab5:List (FuncId×List Ct):=[(14,[ct11,ct11e]),(11,[ct16]),(31,[ct17])]
def ct8f:Ct:={ps:=[.ign,.kst (.bool false),.ign,.ign,.kst (.bool false)],res:=[.kst (.bool true)],p:=123,fi:=0,fw:=0,fs:=0}
def ct8 (a b c:Pa):Ct:={ps:=[a,.kst (.bool true),b,c,.kst (.bool true)],res:=[.bool],p:=8,fi:=8,fw:=0,fs:=0}
def sl8:Pa:= .sl .u8 false none
def ct9:Ct:={ps:=[],res:=[.bool],p:=123,fi:=9,fw:=0,fs:=0}
def tab9:List (FuncId×List Ct):=[(14,[ct11,ct11e]),(36,[ct12n]),(11,[ct16]),(31,[ct17])]
def ct3 (a b:Pa):Ct:={ps:=[a,b,.agg .u8 24,.agg .u8 32],res:=[.kst (.bool true)],p:=3,fi:=0,fw:=0,fs:=0}
def tab3 (c5 c12:List Ct):List (FuncId×List Ct):=[(5,c5),(9,[ct8f,ct8 sl8 sl8 sl8,ct8 sl8 (.kst nilV) sl8,ct8 sl8 sl8 .emp,ct8 .emp (.kst nilV) .emp]),(10,[ct9]),(12,c12)]
def blk12 (e c A:Nat):List Df :=
 rds (c+32) (A+8) 0 64++([.a (A+8) (.fn 330 [] [A+5,A+6,A+7]),.a (A+7) (.lit (vs c 32)),.a (A+6) (.lit (vs (e+16) 8++zs 8)),.a (A+5) (.lit (zs 64))] ++
  (rds c (A+4) 0 32++[.a (A+4) (.fn 31 [] [A,A+1,A+2,A+3]),.a (A+3) (.lit (sigmaL.map .kst)),.a (A+2) (.lit (vs (e+24) 32)),.a (A+1) (.lit (vs e 16)),.a A (.lit (zs 32))]))
def pre12 (s:Nat):List Df :=
 [.n (156+s) (.fn 23 [] [13+s,14+s,15+s] 0),.a (15+s) (.lit (vs (90+s) 32)),.a (14+s) (.sub s (.kst 16) (.var (155+s))),.a (13+s) (.sub (12+s) (.kst 0) (.kst 16)),.n (155+s) (.lin (.var s) (.kst 16) (-1)),
  .a (12+s) (.cpy (11+s) (.kst 0) (10+s)),.a (11+s) (.lit (zs 16)),.a (10+s) (.sub s (.kst 0) (.var (154+s))),.n (154+s) (.mn (.var s) (.kst 16))]++(blk12 (1+s) (58+s) (1+s)++[.n (57+s) (.cmp .lss (.var s) (.kst 16))])
def pre0 (s:Nat):List Df :=
 [.n (155+s) (.fn 23 [] [13+s,14+s,15+s] 0),.a (15+s) (.lit (vs (90+s) 32)),.a (14+s) (.lit []),.a (13+s) (.sub (12+s) (.kst 0) (.kst 16)),.a (12+s) (.cpy (11+s) (.kst 0) (10+s)),.a (11+s) (.lit (zs 16)),.a (10+s) (.sub s (.kst 0) (.var (154+s))),.n (154+s) (.mn (.var s) (.kst 16))] ++
  (blk12 (1+s) (58+s) (1+s)++[.n (57+s) (.cmp .lss (.var s) (.kst 16))])
def obs0 (s:Nat):List Ob :=
 [.prd 23 [] [13+s,14+s,15+s],.fits (.kst 0) (.kst 16) (12+s),.eq (.kst 16) (.var s),.le (.var s) (.var s),.le (.kst 16) (.var s),.fits (.kst 0) (.var (154+s)) (11+s),.le (.kst 0) (.var (154+s)),.fits (.kst 0) (.var (154+s)) s,
  .prd 330 [] [6+s,7+s,8+s],.prd 31 [] [1+s,2+s,3+s,4+s],.boo (57+s) false,.le (.kst 0) (.var s)]
def obs12 (s:Nat):List Ob :=
 [.prd 23 [] [13+s,14+s,15+s],.fits (.kst 16) (.var (155+s)) s,.fits (.kst 0) (.kst 16) (12+s),.lt (.kst 16) (.var s),.le (.var s) (.var s),.le (.kst 16) (.var s),.fits (.kst 0) (.var (154+s)) (11+s),
  .le (.kst 0) (.var (154+s)),.fits (.kst 0) (.var (154+s)) s,.prd 330 [] [6+s,7+s,8+s],.prd 31 [] [1+s,2+s,3+s,4+s],.boo (57+s) false,.le (.kst 0) (.var s)]
def mid12 (s:Nat)(ls:List Nat):List Df :=
 [.n (162+s) (.cmp .gtr (.var (161+s)) (.kst 32)),.n (161+s) (.lin (.var s) (.kst 16) (-1)),.n (160+s) (.fn 24 [.var (157+s)] ls 1),.n (159+s) (.fn 24 [.var (157+s)] ls 0),.n (158+s) (.len (16+s)),.a (16+s) (.fn 24 [.var (157+s)] ls),.n (157+s) (.bin .sub .i64 (.var s) (.kst 16))]
def mob12 (s:Nat)(ls:List Nat)(o:List Ob)(t:Bool):List Ob :=
 [.le (.kst (bif t then 32 else 0)) (.var (161+s)),.boo (162+s) t,.le (.kst 0) (.var (161+s)),.lt (.kst 16) (.var s),.le (.var s) (.var s),.le (.kst 16) (.var s),.prd 24 [.var (157+s)] ls]++(o++[.le (.kst 0) (.var s),.boo (156+s) true])
def rnd12 (s:Nat)(b:Ar):List Df :=
 [.n (182+s) (.bin .add .i64 (.var (61+s)) (.kst 1)),.a (2+s) (.set (1+s) (.var (181+s)) (.var (180+s))),.n (181+s) (.lin (.var (57+s)) (.var (61+s)) 1),.n (180+s) (.bin .xor .u8 (.var (179+s)) (.var (176+s))),
  .n (179+s) (.sel (vs (110+s) 64) (.var (178+s))),.n (178+s) (.lin (.kst 0) (.var (177+s)) 1),.n (177+s) (.bin .add .i64 (.kst 32) (.var (61+s))),.n (176+s) (.rd s (.var (175+s))),.n (175+s) (.lin (.kst 16) (.var (61+s)) 1),.n (174+s) (.cmp .lss (.var (61+s)) b)]
def rob12 (s:Nat)(b:Ar):List Ob :=
 [.inA (.var (181+s)) (1+s),.lt (.var (61+s)) (.var (58+s)),.le (.kst 0) (.var (61+s)),.lt (.var (178+s)) (.kst 64),.le (.kst 0) (.var (178+s)),.lt (.var (177+s)) (.kst 64),.le (.kst 0) (.var (177+s)),.inA (.var (175+s)) s,.lt (.var (61+s)) b,.le (.kst 0) (.var (61+s)),.boo (174+s) true]
def is12 (s:Nat):List Ar:=zs (57+s)++([.var (159+s),.var (160+s),.var (161+s),.var (158+s),.kst 0]++(vs (58+s) 32++(vs (17+s) 8++(zs 8++vs (90+s) 64))))
def js12 (s:Nat):List Ar:=zs (57+s)++(vs (57+s) 4++(.var (182+s)::vs (62+s) 112))
def as12 (s k:Nat):List (Option Nat):=bif Nat.beq s 0 then [some 0,some k] else [none,some 1,some (k+1)]
def out12 (s:Nat):List Df :=
 [.a (7+s) (.cpy (1+s) (.var (176+s)) (6+s)),.a (6+s) (.fn 33 [] [2+s,3+s,4+s,5+s]),.a (5+s) (.lit (vs (62+s) 32)),.a (4+s) (.lit (vs (94+s) 8++(.kst 1::vs (103+s) 7))),.a (3+s) (.sub s (.kst 48) (.var (175+s))),.a (2+s) (.sub (1+s) (.var (176+s)) (.var (177+s))),
  .n (177+s) (.lin (.var (58+s)) (.kst 32) (-1)),.n (176+s) (.lin (.var (57+s)) (.kst 32) 1),.n (175+s) (.lin (.var (59+s)) (.kst 32) (-1)),.n (174+s) (.cmp .lss (.var (61+s)) (.kst 32))]
def oob12 (s:Nat):List Ob :=
 [.fits (.var (176+s)) (.var (177+s)) (1+s),.prd 33 [] [2+s,3+s,4+s,5+s],.fits (.kst 48) (.var (175+s)) s,.fits (.var (176+s)) (.var (177+s)) (1+s),.lt (.kst 32) (.var (58+s)),.le (.var (58+s)) (.var (58+s)),.le (.kst 32) (.var (58+s)),
  .lt (.kst 32) (.var (59+s)),.le (.var (59+s)) (.var (59+s)),.le (.kst 32) (.var (59+s)),.boo (174+s) false]
def pob12 (s:Nat):List Ob :=
 [.eq (.var (59+s)) (.var (58+s)),.le (.var (58+s)) (.var (58+s)),.le (.var (59+s)) (.var (58+s)),.le (.kst 0) (.var (59+s)),.le (.kst 0) (.var (59+s)),.eq (.var (59+s)) (.var (59+s)),.le (.var (59+s)) (.var (59+s)),.le (.var (59+s)) (.var (59+s)),.le (.kst 0) (.var (59+s)),.le (.kst 0) (.var (59+s)),.boo (174+s) false]
theorem run12fa:runE ct12f Tryz.f36 (callF tab12 []) [true,false]=some (⟨[],none,none⟩,
 [.n 57 (.cmp .lss (.var 0) (.kst 16))],
 [.boo 57 true,
 .le (.kst 0) (.var 0)]):=by kernel_rfl
theorem run12fb:runE ct12f Tryz.f36 (callF tab12 []) [false,false,false]=some (⟨[],none,none⟩,pre0 0,.boo 155 false::obs0 0):=by kernel_rfl
theorem run12fc:runE ct12f Tryz.f36 (callF tab12 []) [false,true,false,false]=some (⟨[],none,none⟩,pre12 0,.boo 156 false::obs12 0):=by kernel_rfl
theorem run12e:runE ct12e Tryz.f36 (callF tab12 []) []=some (⟨[],none,none⟩,[],[]):=by kernel_rfl
theorem run12n0:runE ct12n0 Tryz.f36 (callF tab12z []) [false,false,true,false]=some (⟨[],none,none⟩,[.n 156 (.bin .sub .i64 (.var 0) (.kst 16))]++pre0 0,([.eq (.kst 16) (.var 0),.le (.var 0) (.var 0),.le (.kst 16) (.var 0),.prd 240 [.var 156] []]++[.le (.kst 0) (.var 0),.boo 155 true])++obs0 0):=by kernel_rfl
theorem run12g0:runE ct12g0 Tryz.f36 (callF tab12z []) [false,false,true,false]=some (⟨[],none,some (.var 158,17)⟩,[.n 158 (.len 17),.a 17 (.fn 24 [.var 157] [0]),.n 157 (.bin .sub .i64 (.var 1) (.kst 16))]++pre0 1,([.eq (.kst 16) (.var 1),.le (.var 1) (.var 1),.le (.kst 16) (.var 1),.prd 240 [.var 157] [0]]++[.lenA (.var 0) 0,.le (.kst 0) (.var 1),.boo 156 true])++obs0 1):=by kernel_rfl
def T12na:Tr SV:=mkT [(0,.one (.sc (.sl 3 (.var 57) (.var 58) none))),(2,.one (.sc (.sl 0 (.kst 16) (.var 59) none))),(16,.one (.sc (.kst (.slice none 0 0)))),(18,.one (.sc (.kst (.bool false)))),(20,.one (.sc (.ptr 4 (.kst 0)))),(22,.one (.sc (.ptr 5 (.kst 0)))),(24,.one (.sc (.ptr 6 (.kst 0)))),(30,.one (.sc (.sl 3 (.kst 0) (.var 60) none))),(32,.one (.sc (.sl 0 (.kst 16) (.kst 32) none))),(108,.one (.sc (.sl 0 (.kst 16) (.kst 32) none))),(110,.one (.sc (.kst (.int .i64 32)))),(112,.one (.sc (.num .i64 61)))] .nil
def s12na:St:={ni:=0,nx:=174,na:=2,nb:=7,nv:=0,defs:=[],obs:=[],orc:=[],gl:= .nil,bks:=mkT [(0,{n:=0,rw:=false,cells:= .nil,arr:=some (.u8,0,false)}),(3,{n:=0,rw:=true,cells:= .nil,arr:=some (.u8,1,true)}),(4,{n:=32,rw:=true,cells:=trOf 0 (numsS .u8 62 32) .nil,arr:=none}),(5,{n:=16,rw:=true,cells:=trOf 0 (numsS .u8 94 16) .nil,arr:=none}),(6,{n:=64,rw:=true,cells:=trOf 0 (numsS .u8 110 64) .nil,arr:=none})] .nil}
theorem h12na:headOf ct12n Tryz.f36 (callF tab12 []) [20] [false,true,true,true,true] T12na s12na=some ((.loop (loopAt 36 20).1,(loopAt 36 20).2),(is12 0,as12 0 16,mid12 0 []++pre12 0,mob12 0 [] [] true++obs12 0)):=by kernel_rfl
theorem r12na:rndOf ct12n Tryz.f36 (callF tab12 []) [20] (loopAt 36 20) T12na s12na [true] T12na s12na=some (js12 0,as12 0 2,rnd12 0 (.kst 32),rob12 0 (.kst 32)):=by kernel_rfl
theorem o12na:outOf ct12n Tryz.f36 (callF tab12 []) [20] (loopAt 36 20) T12na s12na [false,true,true]=some (⟨[],none,some (.var 60,7)⟩,out12 0,oob12 0):=by kernel_rfl
def T12nb:Tr SV:=mkT [(0,.one (.sc (.sl 3 (.var 57) (.var 58) none))),(2,.one (.sc (.sl 0 (.kst 16) (.var 59) none))),(16,.one (.sc (.kst (.slice none 0 0)))),(18,.one (.sc (.kst (.bool false)))),(20,.one (.sc (.ptr 4 (.kst 0)))),(22,.one (.sc (.ptr 5 (.kst 0)))),(24,.one (.sc (.ptr 6 (.kst 0)))),(30,.one (.sc (.sl 3 (.kst 0) (.var 60) none))),(32,.one (.sc (.sl 0 (.kst 16) (.var 59) none))),(108,.one (.sc (.sl 0 (.kst 16) (.var 59) none))),(110,.one (.sc (.num .i64 59))),(112,.one (.sc (.num .i64 61)))] .nil
def s12nb:St:={ni:=0,nx:=174,na:=2,nb:=7,nv:=0,defs:=[],obs:=[],orc:=[],gl:= .nil,bks:=mkT [(0,{n:=0,rw:=false,cells:= .nil,arr:=some (.u8,0,false)}),(3,{n:=0,rw:=true,cells:= .nil,arr:=some (.u8,1,true)}),(4,{n:=32,rw:=true,cells:=trOf 0 (numsS .u8 62 32) .nil,arr:=none}),(5,{n:=16,rw:=true,cells:=trOf 0 (numsS .u8 94 16) .nil,arr:=none}),(6,{n:=64,rw:=true,cells:=trOf 0 (numsS .u8 110 64) .nil,arr:=none})] .nil}
theorem h12nb:headOf ct12n Tryz.f36 (callF tab12 []) [20] [false,true,true,true,false] T12nb s12nb=some ((.loop (loopAt 36 20).1,(loopAt 36 20).2),(is12 0,as12 0 16,mid12 0 []++pre12 0,mob12 0 [] [] false++obs12 0)):=by kernel_rfl
theorem r12nb:rndOf ct12n Tryz.f36 (callF tab12 []) [20] (loopAt 36 20) T12nb s12nb [true] T12nb s12nb=some (js12 0,as12 0 2,rnd12 0 (.var 59),rob12 0 (.var 59)):=by kernel_rfl
theorem o12nb:outOf ct12n Tryz.f36 (callF tab12 []) [20] (loopAt 36 20) T12nb s12nb [false,false,false]=some (⟨[],none,some (.var 60,1)⟩,[.n 174 (.cmp .lss (.var 61) (.var 59))],pob12 0):=by kernel_rfl
def T12ga:Tr SV:=mkT [(0,.one (.sc (.sl 4 (.var 58) (.var 59) none))),(2,.one (.sc (.sl 1 (.kst 16) (.var 60) none))),(16,.one (.sc (.kst (.slice none 0 0)))),(18,.one (.sc (.kst (.bool false)))),(20,.one (.sc (.ptr 5 (.kst 0)))),(22,.one (.sc (.ptr 6 (.kst 0)))),(24,.one (.sc (.ptr 7 (.kst 0)))),(30,.one (.sc (.sl 4 (.kst 0) (.var 61) none))),(32,.one (.sc (.sl 1 (.kst 16) (.kst 32) none))),(108,.one (.sc (.sl 1 (.kst 16) (.kst 32) none))),(110,.one (.sc (.kst (.int .i64 32)))),(112,.one (.sc (.num .i64 62)))] .nil
def s12ga:St:={ni:=0,nx:=175,na:=3,nb:=8,nv:=0,defs:=[],obs:=[],orc:=[],gl:= .nil,bks:=mkT [(1,{n:=0,rw:=false,cells:= .nil,arr:=some (.u8,1,false)}),(4,{n:=0,rw:=true,cells:= .nil,arr:=some (.u8,2,true)}),(5,{n:=32,rw:=true,cells:=trOf 0 (numsS .u8 63 32) .nil,arr:=none}),(6,{n:=16,rw:=true,cells:=trOf 0 (numsS .u8 95 16) .nil,arr:=none}),(7,{n:=64,rw:=true,cells:=trOf 0 (numsS .u8 111 64) .nil,arr:=none})] .nil}
theorem h12ga:headOf ct12g Tryz.f36 (callF tab12 []) [20] [false,true,true,true,true] T12ga s12ga=some ((.loop (loopAt 36 20).1,(loopAt 36 20).2),(is12 1,as12 1 16,mid12 1 [0]++pre12 1,mob12 1 [0] [.lenA (.var 0) 0] true++obs12 1)):=by kernel_rfl
theorem r12ga:rndOf ct12g Tryz.f36 (callF tab12 []) [20] (loopAt 36 20) T12ga s12ga [true] T12ga s12ga=some (js12 1,as12 1 2,rnd12 1 (.kst 32),rob12 1 (.kst 32)):=by kernel_rfl
theorem o12ga:outOf ct12g Tryz.f36 (callF tab12 []) [20] (loopAt 36 20) T12ga s12ga [false,true,true]=some (⟨[],none,some (.var 61,8)⟩,out12 1,oob12 1):=by kernel_rfl
def T12gb:Tr SV:=mkT [(0,.one (.sc (.sl 4 (.var 58) (.var 59) none))),(2,.one (.sc (.sl 1 (.kst 16) (.var 60) none))),(16,.one (.sc (.kst (.slice none 0 0)))),(18,.one (.sc (.kst (.bool false)))),(20,.one (.sc (.ptr 5 (.kst 0)))),(22,.one (.sc (.ptr 6 (.kst 0)))),(24,.one (.sc (.ptr 7 (.kst 0)))),(30,.one (.sc (.sl 4 (.kst 0) (.var 61) none))),(32,.one (.sc (.sl 1 (.kst 16) (.var 60) none))),(108,.one (.sc (.sl 1 (.kst 16) (.var 60) none))),(110,.one (.sc (.num .i64 60))),(112,.one (.sc (.num .i64 62)))] .nil
def s12gb:St:={ni:=0,nx:=175,na:=3,nb:=8,nv:=0,defs:=[],obs:=[],orc:=[],gl:= .nil,bks:=mkT [(1,{n:=0,rw:=false,cells:= .nil,arr:=some (.u8,1,false)}),(4,{n:=0,rw:=true,cells:= .nil,arr:=some (.u8,2,true)}),(5,{n:=32,rw:=true,cells:=trOf 0 (numsS .u8 63 32) .nil,arr:=none}),(6,{n:=16,rw:=true,cells:=trOf 0 (numsS .u8 95 16) .nil,arr:=none}),(7,{n:=64,rw:=true,cells:=trOf 0 (numsS .u8 111 64) .nil,arr:=none})] .nil}
theorem h12gb:headOf ct12g Tryz.f36 (callF tab12 []) [20] [false,true,true,true,false] T12gb s12gb=some ((.loop (loopAt 36 20).1,(loopAt 36 20).2),(is12 1,as12 1 16,mid12 1 [0]++pre12 1,mob12 1 [0] [.lenA (.var 0) 0] false++obs12 1)):=by kernel_rfl
theorem r12gb:rndOf ct12g Tryz.f36 (callF tab12 []) [20] (loopAt 36 20) T12gb s12gb [true] T12gb s12gb=some (js12 1,as12 1 2,rnd12 1 (.var 60),rob12 1 (.var 60)):=by kernel_rfl
theorem o12gb:outOf ct12g Tryz.f36 (callF tab12 []) [20] (loopAt 36 20) T12gb s12gb [false,false,false]=some (⟨[],none,some (.var 61,2)⟩,[.n 175 (.cmp .lss (.var 62) (.var 60))],pob12 1):=by kernel_rfl
end Go.Proofs.YtnfikgagkamioaaGreatDoor.S
