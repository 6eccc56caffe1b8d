/- The core of Salsa20 and its keys: what they come to; the code of the package and of the reference come to the same. -/
import Derived.Test.YtlcljhlijmombaaYf38
import Derived.Test.YtlcljhlijmombaaYf31
import Derived.Test.YtlcljhlijmombaaYf28
import Derived.Test.YtlcljhlijmombaaYf16
import Derived.Test.YtlcljhlijmombaaYa0
namespace Go.Proofs.Ytlcljhlijmombaa
open Go.Sy
def F0:Fns:=⟨fun _ _ _ _=>0,fun _ _ _=>[],fun _ _ _=>True⟩
def matL (key inp c:List Int):List Int:=c.take 4++(key.take 16++((c.drop 4).take 4++(inp++((c.drop 8).take 4++(key.drop 16++c.drop 12)))))
def sigmaL:List Int:=[101,120,112,97,110,100,32,51,50,45,98,121,116,101,32,107]
theorem zipJ_of {N:Num}{M:List Int}:∀ {l:List Ar} {j:Nat},l.map (·.ev N)=M→∀p∈zipJ l j,j≤p.2∧p.1.ev N=M.getD (p.2-j) 0:=by
 intro l
 induction l generalizing M with
 | nil=>intro j _ p hp;cases hp
 | cons a l ih =>
  intro j h p hp
  subst h
  rcases List.mem_cons.1 hp with rfl | hp
  ·exact ⟨Nat.le_refl _,by simp⟩
  ·obtain ⟨h1,h2⟩:=ih (j:=j+1) rfl p hp
   refine ⟨by omega,?_⟩
   rw[h2,show p.2-j=(p.2-(j+1))+1 by omega]
   rfl
def pos38:List Nat:=[24,25,26,27,28,29,30,31,32,33,34,35,36,37,38,39,4,5,6,7,8,9,10,11,12,13,14,15,16,17,18,19,44,45,46,47,48,49,50,51,52,53,54,55,56,57,58,59,0,1,2,3,20,21,22,23,40,41,42,43,60,61,62,63]
def num38 (b:List Int):Num:=⟨fun x=>b.getD (pos38.getD (x-64) 0) 0,fun _=>[],F0⟩
def outs38:List Ar:=[.var 1904,.var 1906,.var 1908,.var 1910,.var 1911,.var 1913,.var 1915,.var 1917,.var 1918,.var 1920,.var 1922,.var 1924,.var 1925,.var 1927,.var 1929,.var 1931,.var 1932,.var 1934,.var 1936,.var 1938,.var 1939,.var 1941,.var 1943,.var 1945,.var 1946,.var 1948,.var 1950,.var 1952,.var 1953,.var 1955,.var 1957,.var 1959,.var 1960,.var 1962,.var 1964,.var 1966,.var 1967,.var 1969,.var 1971,.var 1973,.var 1974,.var 1976,.var 1978,.var 1980,.var 1981,.var 1983,.var 1985,.var 1987,.var 1988,.var 1990,.var 1992,.var 1994,.var 1995,.var 1997,.var 1999,.var 2001,.var 2002,.var 2004,.var 2006,.var 2008,.var 2009,.var 2011,.var 2013,.var 2015]
def coreL (b:List Int):List Int:=outs38.map (·.ev (ext (num38 b) ds38))
theorem ord38:(ordOk 128 0 ds38).isSome=true:=by kernel_rfl
theorem ext38 (b:List Int):(∀ d∈ds38,d.sat (ext (num38 b) ds38))∧∀x,x<128→(ext (num38 b) ds38).i x=b.getD (pos38.getD (x-64) 0) 0:=by
 obtain ⟨⟨mx,ma⟩,h⟩:=Option.isSome_iff_exists.1 ord38
 obtain ⟨_,_,h3,h4,_⟩:=ext_spec (N:=num38 b) h
 exact ⟨h4,fun x hx=>h3.i x hx⟩
theorem coreL_length (b:List Int):(coreL b).length=64:=by
 unfold coreL;rw[List.length_map];rfl
theorem mat_pos38 {inp k c:List Int}(hi:inp.length=16)(hk:k.length=32)(hc:c.length=16):∀j,j<64→(matL k inp c).getD (pos38.getD j 0) 0=(inp++(k++c)).getD j 0:=by
 match inp,k,c,hi,hk,hc with
 | [i0,i1,i2,i3,i4,i5,i6,i7,i8,i9,i10,i11,i12,i13,i14,i15],[k0,k1,k2,k3,k4,k5,k6,k7,k8,k9,k10,k11,k12,k13,k14,k15,k16,k17,k18,k19,k20,k21,k22,k23,k24,k25,k26,k27,k28,k29,k30,k31],[c0,c1,c2,c3,c4,c5,c6,c7,c8,c9,c10,c11,c12,c13,c14,c15],_,_,_ =>
  intro j hj
  match j,hj with
  | 0,_=>rfl
  | 1,_=>rfl
  | 2,_=>rfl
  | 3,_=>rfl
  | 4,_=>rfl
  | 5,_=>rfl
  | 6,_=>rfl
  | 7,_=>rfl
  | 8,_=>rfl
  | 9,_=>rfl
  | 10,_=>rfl
  | 11,_=>rfl
  | 12,_=>rfl
  | 13,_=>rfl
  | 14,_=>rfl
  | 15,_=>rfl
  | 16,_=>rfl
  | 17,_=>rfl
  | 18,_=>rfl
  | 19,_=>rfl
  | 20,_=>rfl
  | 21,_=>rfl
  | 22,_=>rfl
  | 23,_=>rfl
  | 24,_=>rfl
  | 25,_=>rfl
  | 26,_=>rfl
  | 27,_=>rfl
  | 28,_=>rfl
  | 29,_=>rfl
  | 30,_=>rfl
  | 31,_=>rfl
  | 32,_=>rfl
  | 33,_=>rfl
  | 34,_=>rfl
  | 35,_=>rfl
  | 36,_=>rfl
  | 37,_=>rfl
  | 38,_=>rfl
  | 39,_=>rfl
  | 40,_=>rfl
  | 41,_=>rfl
  | 42,_=>rfl
  | 43,_=>rfl
  | 44,_=>rfl
  | 45,_=>rfl
  | 46,_=>rfl
  | 47,_=>rfl
  | 48,_=>rfl
  | 49,_=>rfl
  | 50,_=>rfl
  | 51,_=>rfl
  | 52,_=>rfl
  | 53,_=>rfl
  | 54,_=>rfl
  | 55,_=>rfl
  | 56,_=>rfl
  | 57,_=>rfl
  | 58,_=>rfl
  | 59,_=>rfl
  | 60,_=>rfl
  | 61,_=>rfl
  | 62,_=>rfl
  | 63,_=>rfl
  | j+64,h=>exact absurd h (by omega)
def ins38:List (Nat×Ar):=(List.range' 64 64).map fun x=>(x,.var x)
theorem cz38:czCheck 128 ds38 ds38 ins38 outs38 outs38=true:=by kernel_rfl
def A38 (_:List Int)(ls:List (List Int)):List Int :=
 match ls with
 | [_,inp,k,c]=>coreL (matL k inp c)
 | _=>[]
theorem spec38 {F:Fns}(ha:F.a 38=A38):CSpec Try.prog F 38 ct38:=by
 refine straight (callT_ok (tab:=[]) trivial) Try.func38 (by kernel_rfl) (by kernel_rfl) (by kernel_rfl) run38 (by kernel_rfl) fun is ls N hs hp hag hf hd=> ?_
 obtain rfl:=Shape.noInt rfl hs
 match ls,hs with
 | [out,inp,k,c],hs =>
 obtain ⟨hlo,hli,hlk,hlc,-⟩:=hs
 have hlen:∀L,rwArg ct38.ps [] [out,inp,k,c]=some L→(F.a ct38.fw [] [out,inp,k,c]).length=L.length:=fun L h=>by
  have:L=out:=by simp only[ct38,rwArg,Option.some.injEq] at h;exact h.symm
  subst this
  show (F.a 38 [] _).length=_
  rw[ha,hlo];exact coreL_length _
 have en:∀j,j<64→N.i (64+j)=(inp++(k++c)).getD j 0:=fun j hj=>by
  rw[hag.i (64+j) (by show 64+j<128;omega)]
  show (numsL ct38.ps [] [out,inp,k,c]).getD (64+j) 0=_
  simp only[ct38,numsL,List.append_nil]
  rw[List.getD_eq_getElem?_getD,List.getElem?_append_right (by omega),hlo,Nat.add_sub_cancel_left,List.getD_eq_getElem?_getD]
 refine ⟨nofun,⟨nofun,?_,trivial⟩,hlen⟩
 show List.map (fun x=>Ar.ev N x) outs38=F.a 38 _ _
 rw[ha]
 show _=outs38.map (·.ev (ext (num38 (matL k inp c)) ds38))
 obtain ⟨g1,g2⟩:=ext38 (matL k inp c)
 refine (czCheck_ok cz38 (fun p hp=> ?_) g1 hd).symm
 simp only[ins38,List.mem_map] at hp
 obtain ⟨x,hx,rfl⟩:=hp
 obtain ⟨j,hj,rfl⟩:=List.mem_range'.1 hx
 simp only[Nat.one_mul]
 rw[g2 _ (by omega)]
 show _=N.i (64+j)
 rw[en j (by omega),Nat.add_sub_cancel_left]
 exact mat_pos38 hli hlk hlc j (by omega)
def pos31:List Nat:=[24,25,26,27,28,29,30,31,32,33,34,35,36,37,38,39,4,5,6,7,8,9,10,11,12,13,14,15,16,17,18,19,44,45,46,47,48,49,50,51,52,53,54,55,56,57,58,59,0,1,2,3,20,21,22,23,40,41,42,43,60,61,62,63]
def num31 (b:List Int):Num:=⟨fun x=>b.getD (pos31.getD (x-32) 0) 0,fun _=>[],F0⟩
def outs31:List Ar:=[.var 1856,.var 1858,.var 1860,.var 1862,.var 1863,.var 1865,.var 1867,.var 1869,.var 1870,.var 1872,.var 1874,.var 1876,.var 1877,.var 1879,.var 1881,.var 1883,.var 1884,.var 1886,.var 1888,.var 1890,.var 1891,.var 1893,.var 1895,.var 1897,.var 1898,.var 1900,.var 1902,.var 1904,.var 1905,.var 1907,.var 1909,.var 1911]
def hsaL (b:List Int):List Int:=outs31.map (·.ev (ext (num31 b) ds31))
theorem ord31:(ordOk 96 0 ds31).isSome=true:=by kernel_rfl
theorem ext31 (b:List Int):(∀ d∈ds31,d.sat (ext (num31 b) ds31))∧∀x,x<96→(ext (num31 b) ds31).i x=b.getD (pos31.getD (x-32) 0) 0:=by
 obtain ⟨⟨mx,ma⟩,h⟩:=Option.isSome_iff_exists.1 ord31
 obtain ⟨_,_,h3,h4,_⟩:=ext_spec (N:=num31 b) h
 exact ⟨h4,fun x hx=>h3.i x hx⟩
theorem hsaL_length (b:List Int):(hsaL b).length=32:=by
 unfold hsaL;rw[List.length_map];rfl
theorem mat_pos31 {inp k c:List Int}(hi:inp.length=16)(hk:k.length=32)(hc:c.length=16):∀j,j<64→(matL k inp c).getD (pos31.getD j 0) 0=(inp++(k++c)).getD j 0:=by
 match inp,k,c,hi,hk,hc with
 | [i0,i1,i2,i3,i4,i5,i6,i7,i8,i9,i10,i11,i12,i13,i14,i15],[k0,k1,k2,k3,k4,k5,k6,k7,k8,k9,k10,k11,k12,k13,k14,k15,k16,k17,k18,k19,k20,k21,k22,k23,k24,k25,k26,k27,k28,k29,k30,k31],[c0,c1,c2,c3,c4,c5,c6,c7,c8,c9,c10,c11,c12,c13,c14,c15],_,_,_ =>
  intro j hj
  match j,hj with
  | 0,_=>rfl
  | 1,_=>rfl
  | 2,_=>rfl
  | 3,_=>rfl
  | 4,_=>rfl
  | 5,_=>rfl
  | 6,_=>rfl
  | 7,_=>rfl
  | 8,_=>rfl
  | 9,_=>rfl
  | 10,_=>rfl
  | 11,_=>rfl
  | 12,_=>rfl
  | 13,_=>rfl
  | 14,_=>rfl
  | 15,_=>rfl
  | 16,_=>rfl
  | 17,_=>rfl
  | 18,_=>rfl
  | 19,_=>rfl
  | 20,_=>rfl
  | 21,_=>rfl
  | 22,_=>rfl
  | 23,_=>rfl
  | 24,_=>rfl
  | 25,_=>rfl
  | 26,_=>rfl
  | 27,_=>rfl
  | 28,_=>rfl
  | 29,_=>rfl
  | 30,_=>rfl
  | 31,_=>rfl
  | 32,_=>rfl
  | 33,_=>rfl
  | 34,_=>rfl
  | 35,_=>rfl
  | 36,_=>rfl
  | 37,_=>rfl
  | 38,_=>rfl
  | 39,_=>rfl
  | 40,_=>rfl
  | 41,_=>rfl
  | 42,_=>rfl
  | 43,_=>rfl
  | 44,_=>rfl
  | 45,_=>rfl
  | 46,_=>rfl
  | 47,_=>rfl
  | 48,_=>rfl
  | 49,_=>rfl
  | 50,_=>rfl
  | 51,_=>rfl
  | 52,_=>rfl
  | 53,_=>rfl
  | 54,_=>rfl
  | 55,_=>rfl
  | 56,_=>rfl
  | 57,_=>rfl
  | 58,_=>rfl
  | 59,_=>rfl
  | 60,_=>rfl
  | 61,_=>rfl
  | 62,_=>rfl
  | 63,_=>rfl
  | j+64,h=>exact absurd h (by omega)
def ins31:List (Nat×Ar):=(List.range' 32 64).map fun x=>(x,.var x)
theorem cz31:czCheck 96 ds31 ds31 ins31 outs31 outs31=true:=by kernel_rfl
def A31 (_:List Int)(ls:List (List Int)):List Int :=
 match ls with
 | [_,inp,k,c]=>hsaL (matL k inp c)
 | _=>[]
theorem spec31 {F:Fns}(ha:F.a 31=A31):CSpec Try.prog F 31 ct31:=by
 refine straight (callT_ok (tab:=[]) trivial) Try.func31 (by kernel_rfl) (by kernel_rfl) (by kernel_rfl) run31 (by kernel_rfl) fun is ls N hs hp hag hf hd=> ?_
 obtain rfl:=Shape.noInt rfl hs
 match ls,hs with
 | [out,inp,k,c],hs =>
 obtain ⟨hlo,hli,hlk,hlc,-⟩:=hs
 have hlen:∀L,rwArg ct31.ps [] [out,inp,k,c]=some L→(F.a ct31.fw [] [out,inp,k,c]).length=L.length:=fun L h=>by
  have:L=out:=by simp only[ct31,rwArg,Option.some.injEq] at h;exact h.symm
  subst this
  show (F.a 31 [] _).length=_
  rw[ha,hlo];exact hsaL_length _
 have en:∀j,j<64→N.i (32+j)=(inp++(k++c)).getD j 0:=fun j hj=>by
  rw[hag.i (32+j) (by show 32+j<96;omega)]
  show (numsL ct31.ps [] [out,inp,k,c]).getD (32+j) 0=_
  simp only[ct31,numsL,List.append_nil]
  rw[List.getD_eq_getElem?_getD,List.getElem?_append_right (by omega),hlo,Nat.add_sub_cancel_left,List.getD_eq_getElem?_getD]
 refine ⟨nofun,⟨nofun,?_,trivial⟩,hlen⟩
 show List.map (fun x=>Ar.ev N x) outs31=F.a 31 _ _
 rw[ha]
 show _=outs31.map (·.ev (ext (num31 (matL k inp c)) ds31))
 obtain ⟨g1,g2⟩:=ext31 (matL k inp c)
 refine (czCheck_ok cz31 (fun p hp=> ?_) g1 hd).symm
 simp only[ins31,List.mem_map] at hp
 obtain ⟨x,hx,rfl⟩:=hp
 obtain ⟨j,hj,rfl⟩:=List.mem_range'.1 hx
 simp only[Nat.one_mul]
 rw[g2 _ (by omega)]
 show _=N.i (32+j)
 rw[en j (by omega),Nat.add_sub_cancel_left]
 exact mat_pos31 hli hlk hlc j (by omega)
def I28 (_:List Int)(ls:List (List Int))(j:Nat):Int :=
 match ls with
 | [b]=>(coreL b).getD j 0
 | _=>0
def ins28:List (Nat×Ar):=(List.range' 64 64).map fun x=>(x,.var (pos38.getD (x-64) 0))
def outs28:List Ar:=[.var 1826,.var 1829,.var 1832,.var 1835,.var 1838,.var 1841,.var 1844,.var 1847,.var 1850,.var 1853,.var 1856,.var 1859,.var 1862,.var 1865,.var 1868,.var 1871,.var 1874,.var 1877,.var 1880,.var 1883,.var 1886,.var 1889,.var 1892,.var 1895,.var 1898,.var 1901,.var 1904,.var 1907,.var 1910,.var 1913,.var 1916,.var 1919,.var 1922,.var 1925,.var 1928,.var 1931,.var 1934,.var 1937,.var 1940,.var 1943,.var 1946,.var 1949,.var 1952,.var 1955,.var 1958,.var 1961,.var 1964,.var 1967,.var 1970,.var 1973,.var 1976,.var 1979,.var 1982,.var 1985,.var 1988,.var 1991,.var 1994,.var 1997,.var 2000,.var 2003,.var 2006,.var 2009,.var 2012,.var 2015]
theorem cz28:czCheck 64 ds38 ds28 ins28 outs38 outs28=true:=by kernel_rfl
theorem pos38_lt:∀j,j<64→pos38.getD j 0<64:=by decide
theorem spec28 {F:Fns}(hi:F.i 28=I28):CSpec Try.prog F 28 ct28:=by
 refine straight (callT_ok (tab:=[]) trivial) Try.func28 (by kernel_rfl) (by kernel_rfl) (by kernel_rfl) run28 (by kernel_rfl) fun is ls N hs hp hag hf hd=> ?_
 obtain rfl:=Shape.noInt rfl hs
 match ls,hs with
 | [b],hs =>
 obtain ⟨hlb,-⟩:=hs
 have en:∀j,j<64→N.i j=b.getD j 0:=fun j hj=>by
  rw[hag.i j (by show j<64;omega)]
  show (numsL ct28.ps [] [b]).getD j 0=_
  simp only[ct28,numsL,List.append_nil]
 refine ⟨nofun,⟨?_,trivial,trivial⟩,nofun⟩
 obtain ⟨g1,g2⟩:=ext38 b
 have main:=czCheck_ok cz28 (fun p hp=>by
  simp only[ins28,List.mem_map] at hp
  obtain ⟨x,hx,rfl⟩:=hp
  obtain ⟨j,hj,rfl⟩:=List.mem_range'.1 hx
  simp only[Nat.one_mul,Nat.add_sub_cancel_left]
  rw[g2 _ (by omega),Nat.add_sub_cancel_left]
  exact (en _ (pos38_lt j (by omega))).symm) g1 hd
 intro p hp
 obtain ⟨h1,h2⟩:=zipJ_of (j:=0) main.symm p hp
 rw[h2]
 show _=F.i 28 [] [b] p.2
 rw[hi];rfl
def I25 (_:List Int)(ls:List (List Int))(j:Nat):Int :=
 match ls with
 | [key,inp]=>(matL key inp sigmaL).getD j 0
 | _=>0
theorem matL_length {key inp c:List Int}(hk:key.length=32)(hi:inp.length=16)(hc:c.length=16):(matL key inp c).length=64:=by
 unfold matL;simp only[List.length_append,List.length_take,List.length_drop];omega
theorem mat25 {f:Nat→Int}{key inp:List Int}(hk:key.length=32)(hi:inp.length=16)(h:∀j,j<48→f j=(key++inp).getD j 0) :
  [101,120,112,97,f 0,f 1,f 2,f 3,f 4,f 5,f 6,f 7,f 8,f 9,f 10,f 11,f 12,f 13,f 14,f 15,110,100,32,51,f 32,f 33,f 34,f 35,f 36,f 37,f 38,f 39,f 40,f 41,f 42,f 43,f 44,f 45,f 46,f 47,50,45,98,121,f 16,f 17,f 18,f 19,f 20,f 21,f 22,f 23,f 24,f 25,f 26,f 27,f 28,f 29,f 30,f 31,116,101,32,107]=matL key inp sigmaL:=by
 match key,inp,hk,hi with
 | [k0,k1,k2,k3,k4,k5,k6,k7,k8,k9,k10,k11,k12,k13,k14,k15,k16,k17,k18,k19,k20,k21,k22,k23,k24,k25,k26,k27,k28,k29,k30,k31],[i0,i1,i2,i3,i4,i5,i6,i7,i8,i9,i10,i11,i12,i13,i14,i15],_,_ =>
  simp only[h 0 (by decide),h 1 (by decide),h 2 (by decide),h 3 (by decide),h 4 (by decide),h 5 (by decide),h 6 (by decide),h 7 (by decide),h 8 (by decide),h 9 (by decide),h 10 (by decide),h 11 (by decide),h 12 (by decide),h 13 (by decide),h 14 (by decide),h 15 (by decide),h 16 (by decide),h 17 (by decide),h 18 (by decide),h 19 (by decide),h 20 (by decide),h 21 (by decide),h 22 (by decide),h 23 (by decide),h 24 (by decide),h 25 (by decide),h 26 (by decide),h 27 (by decide),h 28 (by decide),h 29 (by decide),h 30 (by decide),h 31 (by decide),h 32 (by decide),h 33 (by decide),h 34 (by decide),h 35 (by decide),h 36 (by decide),h 37 (by decide),h 38 (by decide),h 39 (by decide),h 40 (by decide),h 41 (by decide),h 42 (by decide),h 43 (by decide),h 44 (by decide),h 45 (by decide),h 46 (by decide),h 47 (by decide)]
  rfl
def outs25:List Ar:=[.kst 101,.kst 120,.kst 112,.kst 97,.var 0,.var 1,.var 2,.var 3,.var 4,.var 5,.var 6,.var 7,.var 8,.var 9,.var 10,.var 11,.var 12,.var 13,.var 14,.var 15,.kst 110,.kst 100,.kst 32,.kst 51,.var 32,.var 33,.var 34,.var 35,.var 36,.var 37,.var 38,.var 39,.var 40,.var 41,.var 42,.var 43,.var 44,.var 45,.var 46,.var 47,.kst 50,.kst 45,.kst 98,.kst 121,.var 16,.var 17,.var 18,.var 19,.var 20,.var 21,.var 22,.var 23,.var 24,.var 25,.var 26,.var 27,.var 28,.var 29,.var 30,.var 31,.kst 116,.kst 101,.kst 32,.kst 107]
theorem spec25 {F:Fns}(hi:F.i 25=I25):CSpec Try.prog F 25 ct25:=by
 refine straight (callT_ok (tab:=[]) trivial) Try.func25 (by kernel_rfl) (by kernel_rfl) (by kernel_rfl) run25 (by kernel_rfl) fun is ls N hs hp hag hf hd=> ?_
 obtain rfl:=Shape.noInt rfl hs
 match ls,hs with
 | [key,inp],hs =>
 obtain ⟨hlk,hli,-⟩:=hs
 have en:∀j,j<48→N.i j=(key++inp).getD j 0:=fun j hj=>by
  rw[hag.i j (by show j<48;omega)]
  show (numsL ct25.ps [] [key,inp]).getD j 0=_
  simp only[ct25,numsL,List.append_nil]
 refine ⟨nofun,⟨?_,trivial,trivial⟩,nofun⟩
 intro p hp
 obtain ⟨h1,h2⟩:=zipJ_of (j:=0) (l:=outs25) (M:=matL key inp sigmaL) (N:=N) (mat25 hlk hli en) p hp
 rw[h2]
 show _=F.i 25 [] [key,inp] p.2
 rw[hi];rfl
def I16 (_:List Int)(ls:List (List Int))(j:Nat):Int :=
 match ls with
 | [inp,key]=>(hsaL (matL key inp sigmaL)).getD j 0
 | _=>0
def ins16:List (Nat×Ar):=(List.range' 32 64).map fun x=>(x,.var (48+pos31.getD (x-32) 0))
def outs16:List Ar:=[.var 1873,.var 1875,.var 1877,.var 1879,.var 1881,.var 1883,.var 1885,.var 1887,.var 1889,.var 1891,.var 1893,.var 1895,.var 1897,.var 1899,.var 1901,.var 1903,.var 1905,.var 1907,.var 1909,.var 1911,.var 1913,.var 1915,.var 1917,.var 1919,.var 1921,.var 1923,.var 1925,.var 1927,.var 1929,.var 1931,.var 1933,.var 1935]
theorem cz16:czCheck 112 ds31 ds16 ins16 outs31 outs16=true:=by kernel_rfl
theorem pos31_lt:∀j,j<64→pos31.getD j 0<64:=by decide
theorem pre16_mem:∀j,j<64→Df.n (48+j) (.fn 25 [] [0,1] j)∈pre16:=fun j hj=>by
 unfold pre16
 refine List.mem_append_left _ (List.mem_map.2 ⟨j,?_,rfl⟩)
 simpa using hj
theorem mem_decL {d:Df}:∀ {l:List Nat} {x:Nat} {acc:List Df},d∈acc→d∈decL x l acc
 | [],_,_,h=>h
 | _::l,_,_,h=>mem_decL (l:=l) (List.mem_cons_of_mem _ h)
theorem spec16 {F:Fns}(hi:F.i 16=I16)(h25:F.i 25=I25)(hp25:∀is ls,F.p 25 is ls):CSpec Try.prog F 16 ct16:=by
 refine straight (callT_ok (tab:=tab16) ⟨⟨by kernel_rfl,fun c hc=>by simp only[List.mem_singleton] at hc;subst hc;exact spec25 h25⟩,trivial⟩) Try.func16 (by kernel_rfl) (by kernel_rfl) (by kernel_rfl) run16 (by kernel_rfl) fun is ls N hs hp hag hf hd=> ?_
 obtain rfl:=Shape.noInt rfl hs
 match ls,hs with
 | [inp,key],hs =>
 obtain ⟨hli,hlk,-⟩:=hs
 have en:∀j,j<48→N.i j=(inp++key).getD j 0:=fun j hj=>by
  rw[hag.i j (by show j<48;omega)]
  show (numsL ct16.ps [] [inp,key]).getD j 0=_
  simp only[ct16,numsL,List.append_nil]
 have m0:Df.a 0 (.lit ((List.range' 16 32).map .var))∈ds16:=by
  unfold ds16;refine mem_decL ?_;unfold pre16;simp
 have m1:Df.a 1 (.lit ((List.range 16).map .var))∈ds16:=by
  unfold ds16;refine mem_decL ?_;unfold pre16;simp
 have w0:N.a 0=key:=by
  have h:N.a 0=_:=hd _ m0
  rw[h]
  simp only[Ad.ev,List.map_map]
  refine List.ext_getElem? fun j=> ?_
  rw[List.getElem?_map]
  by_cases hj:j<32
  ·rw [List.getElem?_range' hj]
   simp only[Option.map_some,Function.comp,Ar.ev,Nat.one_mul]
   rw[en _ (by omega),List.getD_eq_getElem?_getD,List.getElem?_append_right (by omega),hli,Nat.add_sub_cancel_left,List.getElem?_eq_getElem (by omega)];rfl
  ·rw [List.getElem?_eq_none (by simp;omega),List.getElem?_eq_none (by omega)];rfl
 have w1:N.a 1=inp:=by
  have h:N.a 1=_:=hd _ m1
  rw[h]
  simp only[Ad.ev,List.map_map]
  refine List.ext_getElem? fun j=> ?_
  rw[List.getElem?_map]
  by_cases hj:j<16
  ·rw [List.getElem?_range hj]
   simp only[Option.map_some,Function.comp,Ar.ev]
   rw[en _ (by omega),List.getD_eq_getElem?_getD,List.getElem?_append_left (by omega),List.getElem?_eq_getElem (by omega)];rfl
  ·rw [List.getElem?_eq_none (by simp;omega),List.getElem?_eq_none (by omega)];rfl
 have em:∀j,j<64→N.i (48+j)=(matL key inp sigmaL).getD j 0:=fun j hj=>by
  have hm:Df.n (48+j) (.fn 25 [] [0,1] j)∈ds16:=by unfold ds16;exact mem_decL (pre16_mem j hj)
  have h:N.i (48+j)=_:=hd _ hm
  rw[h]
  simp only[Nd.ev,List.map_nil,List.map_cons,hf,h25,w0,w1];rfl
 refine ⟨?_,⟨?_,trivial,trivial⟩,nofun⟩
 ·simp only[List.forall_mem_cons,Ob.holds,hf]
  exact ⟨hp25 _ _,nofun⟩
 ·obtain ⟨g1,g2⟩:=ext31 (matL key inp sigmaL)
  have main:=czCheck_ok cz16 (fun p hp=>by
   simp only[ins16,List.mem_map] at hp
   obtain ⟨x,hx,rfl⟩:=hp
   obtain ⟨j,hj,rfl⟩:=List.mem_range'.1 hx
   simp only[Nat.one_mul,Nat.add_sub_cancel_left]
   rw[g2 _ (by omega),Nat.add_sub_cancel_left]
   exact (em _ (pos31_lt j (by omega))).symm) g1 hd
  intro p hp
  obtain ⟨h1,h2⟩:=zipJ_of (j:=0) main.symm p hp
  rw[h2]
  show _=F.i 16 [] [inp,key] p.2
  rw[hi];rfl
end Go.Proofs.Ytlcljhlijmombaa
