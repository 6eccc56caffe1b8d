/- spec.Poly1305 does as its contract says. -/
import Derived.Test.YtlcljhlijmombaaYa20
namespace Go.Proofs.Ytlcljhlijmombaa
open Go.Sy
theorem low11 {M:Num}(hd:∀d∈defs11,d.sat M):(M.i 21=bif icmp .gtr (M.i 2) 0 then 1 else 0)∧(M.i 22=if 16<M.i 2 then 16 else M.i 2)∧M.a 2=((M.a 1).drop (M.i 1).toNat).take (M.i 22).toNat :=
 ⟨hd (.n 21 (.cmp .gtr (.var 2) (.kst 0))) (List.mem_of_getElem? (i:=202) rfl),hd (.n 22 (.mn (.var 2) (.kst 16))) (List.mem_of_getElem? (i:=201) rfl),hd (.a 2 (.sub 1 (.var 1) (.var 22))) (List.mem_of_getElem? (i:=200) rfl)⟩
def dend11a:List Df :=
  [.n 117 (.bin .shr .u64 (.var 113) (.kst 16)),
  .a 16 (.cat 14 15),
  .a 15 (.lit [.var 114,.var 116]),
  .n 116 (.conv .u8 (.var 115)),
  .n 115 (.bin .shr .u64 (.var 113) (.kst 8)),
  .n 114 (.conv .u8 (.var 113)),
  .n 113 (.bin .add .u64 (.var 109) (.var 112)),
  .n 112 (.bin .shl .u64 (.var 111) (.kst 8)),
  .n 111 (.conv .u64 (.var 110)),
  .n 110 (.rd 0 (.kst 31)),
  .n 109 (.bin .add .u64 (.var 106) (.var 108)),
  .n 108 (.conv .u64 (.var 107)),
  .n 107 (.rd 0 (.kst 30)),
  .n 106 (.bin .add .u64 (.var 105) (.var 19)),
  .n 105 (.bin .shr .u64 (.var 101) (.kst 16)),
  .a 14 (.cat 12 13),
  .a 13 (.lit [.var 102,.var 104]),
  .n 104 (.conv .u8 (.var 103)),
  .n 103 (.bin .shr .u64 (.var 101) (.kst 8)),
  .n 102 (.conv .u8 (.var 101)),
  .n 101 (.bin .add .u64 (.var 97) (.var 100)),
  .n 100 (.bin .shl .u64 (.var 99) (.kst 8)),
  .n 99 (.conv .u64 (.var 98)),
  .n 98 (.rd 0 (.kst 29)),
  .n 97 (.bin .add .u64 (.var 94) (.var 96)),
  .n 96 (.conv .u64 (.var 95)),
  .n 95 (.rd 0 (.kst 28)),
  .n 94 (.bin .add .u64 (.var 93) (.var 18)),
  .n 93 (.bin .shr .u64 (.var 89) (.kst 16)),
  .a 12 (.cat 10 11),
  .a 11 (.lit [.var 90,.var 92]),
  .n 92 (.conv .u8 (.var 91)),
  .n 91 (.bin .shr .u64 (.var 89) (.kst 8)),
  .n 90 (.conv .u8 (.var 89)),
  .n 89 (.bin .add .u64 (.var 85) (.var 88)),
  .n 88 (.bin .shl .u64 (.var 87) (.kst 8)),
  .n 87 (.conv .u64 (.var 86)),
  .n 86 (.rd 0 (.kst 27)),
  .n 85 (.bin .add .u64 (.var 82) (.var 84)),
  .n 84 (.conv .u64 (.var 83)),
  .n 83 (.rd 0 (.kst 26)),
  .n 82 (.bin .add .u64 (.var 81) (.var 17)),
  .n 81 (.bin .shr .u64 (.var 77) (.kst 16)),
  .a 10 (.cat 8 9),
  .a 9 (.lit [.var 78,.var 80]),
  .n 80 (.conv .u8 (.var 79)),
  .n 79 (.bin .shr .u64 (.var 77) (.kst 8)),
  .n 78 (.conv .u8 (.var 77)),
  .n 77 (.bin .add .u64 (.var 73) (.var 76)),
  .n 76 (.bin .shl .u64 (.var 75) (.kst 8)),
  .n 75 (.conv .u64 (.var 74)),
  .n 74 (.rd 0 (.kst 25)),
  .n 73 (.bin .add .u64 (.var 70) (.var 72)),
  .n 72 (.conv .u64 (.var 71)),
  .n 71 (.rd 0 (.kst 24)),
  .n 70 (.bin .add .u64 (.var 69) (.var 16)),
  .n 69 (.bin .shr .u64 (.var 65) (.kst 16)),
  .a 8 (.cat 6 7),
  .a 7 (.lit [.var 66,.var 68]),
  .n 68 (.conv .u8 (.var 67)),
  .n 67 (.bin .shr .u64 (.var 65) (.kst 8)),
  .n 66 (.conv .u8 (.var 65)),
  .n 65 (.bin .add .u64 (.var 61) (.var 64)),
  .n 64 (.bin .shl .u64 (.var 63) (.kst 8)),
  .n 63 (.conv .u64 (.var 62)),
  .n 62 (.rd 0 (.kst 23)),
  .n 61 (.bin .add .u64 (.var 58) (.var 60)),
  .n 60 (.conv .u64 (.var 59)),
  .n 59 (.rd 0 (.kst 22)),
  .n 58 (.bin .add .u64 (.var 57) (.var 15)),
  .n 57 (.bin .shr .u64 (.var 53) (.kst 16)),
  .a 6 (.cat 4 5),
  .a 5 (.lit [.var 54,.var 56]),
  .n 56 (.conv .u8 (.var 55)),
  .n 55 (.bin .shr .u64 (.var 53) (.kst 8)),
  .n 54 (.conv .u8 (.var 53)),
  .n 53 (.bin .add .u64 (.var 49) (.var 52)),
  .n 52 (.bin .shl .u64 (.var 51) (.kst 8)),
  .n 51 (.conv .u64 (.var 50)),
  .n 50 (.rd 0 (.kst 21)),
  .n 49 (.bin .add .u64 (.var 46) (.var 48)),
  .n 48 (.conv .u64 (.var 47)),
  .n 47 (.rd 0 (.kst 20)),
  .n 46 (.bin .add .u64 (.var 45) (.var 14)),
  .n 45 (.bin .shr .u64 (.var 41) (.kst 16)),
  .a 4 (.cat 2 3),
  .a 3 (.lit [.var 42,.var 44]),
  .n 44 (.conv .u8 (.var 43)),
  .n 43 (.bin .shr .u64 (.var 41) (.kst 8)),
  .n 42 (.conv .u8 (.var 41)),
  .n 41 (.bin .add .u64 (.var 37) (.var 40)),
  .n 40 (.bin .shl .u64 (.var 39) (.kst 8)),
  .n 39 (.conv .u64 (.var 38)),
  .n 38 (.rd 0 (.kst 19)),
  .n 37 (.bin .add .u64 (.var 34) (.var 36)),
  .n 36 (.conv .u64 (.var 35)),
  .n 35 (.rd 0 (.kst 18)),
  .n 34 (.bin .add .u64 (.var 33) (.var 13)),
  .n 33 (.bin .shr .u64 (.var 29) (.kst 16)),
  .a 2 (.lit [.var 30,.var 32]),
  .n 32 (.conv .u8 (.var 31)),
  .n 31 (.bin .shr .u64 (.var 29) (.kst 8)),
  .n 30 (.conv .u8 (.var 29)),
  .n 29 (.bin .add .u64 (.var 25) (.var 28)),
  .n 28 (.bin .shl .u64 (.var 27) (.kst 8)),
  .n 27 (.conv .u64 (.var 26)),
  .n 26 (.rd 0 (.kst 17)),
  .n 25 (.bin .add .u64 (.var 22) (.var 24)),
  .n 24 (.conv .u64 (.var 23)),
  .n 23 (.rd 0 (.kst 16)),
  .n 22 (.bin .add .u64 (.kst 0) (.var 12)),
  .n 21 (.cmp .gtr (.var 2) (.kst 0))]
set_option maxRecDepth 8000 in
set_option maxHeartbeats 4000000 in
theorem end11a {M:Num}{key:List Int}{H:Int}(hBk:Bytes key)(hlk:key.length=32)(ea0:M.a 0=key)(hdg:∀j,j<9→M.i (12+j)=(digs 9 (H%pP)).getD j 0)(hd:∀d∈dend11a,d.sat M) :
  (M.i 21=bif icmp .gtr (M.i 2) 0 then 1 else 0)∧M.a 16=outB H (s0K key+s1K key*18446744073709551616)∧((M.a 2).length=2∧(M.a 4).length=4∧(M.a 6).length=6∧(M.a 8).length=8∧(M.a 10).length=10∧(M.a 12).length=12∧(M.a 14).length=14):=by
 unfold dend11a at hd
 match key,hlk with
 | [k0,k1,k2,k3,k4,k5,k6,k7,k8,k9,k10,k11,k12,k13,k14,k15,k16,k17,k18,k19,k20,k21,k22,k23,k24,k25,k26,k27,k28,k29,k30,k31],_ =>
 simp only[Bytes,List.forall_mem_cons] at hBk
 obtain ⟨g0,g1,g2,g3,g4,g5,g6,g7,g8,g9,g10,g11,g12,g13,g14,g15,g16,g17,g18,g19,g20,g21,g22,g23,g24,g25,g26,g27,g28,g29,g30,g31,-⟩:=hBk
 simp only[List.forall_mem_cons,Df.sat,Nd.ev,Ad.ev,Ar.ev,List.map_cons,List.map_nil,ea0] at hd
 obtain ⟨q117,w16,w15,q116,q115,q114,q113,q112,q111,q110,q109,q108,q107,q106,q105,w14,w13,q104,q103,q102,q101,q100,q99,q98,q97,q96,q95,q94,q93,w12,w11,q92,q91,q90,q89,q88,q87,q86,q85,q84,q83,q82,q81,w10,w9,q80,q79,q78,q77,q76,q75,q74,q73,q72,q71,q70,q69,w8,w7,q68,q67,q66,q65,q64,q63,q62,q61,q60,q59,q58,q57,w6,w5,q56,q55,q54,q53,q52,q51,q50,q49,q48,q47,q46,q45,w4,w3,q44,q43,q42,q41,q40,q39,q38,q37,q36,q35,q34,q33,w2,q32,q31,q30,q29,q28,q27,q26,q25,q24,q23,q22,q21,-⟩:=hd
 have eA:[M.i 12,M.i 13,M.i 14,M.i 15,M.i 16,M.i 17,M.i 18,M.i 19,M.i 20]=digs 9 (H%pP):=congrN hdg (digs_length 9 _)
 have bA:∀d∈[M.i 12,M.i 13,M.i 14,M.i 15,M.i 16,M.i 17,M.i 18,M.i 19,M.i 20],0≤d∧d<65536:=by rw[eA];exact digs_bound 9 _
 simp only[List.forall_mem_cons] at bA
 obtain ⟨a0,a1,a2,a3,a4,a5,a6,a7,a8,-⟩:=bA
 have E0:=endS (by decide) a0 g16 g17 q22 q23 q24 q25 q26 q27 q28 q29 q30 q31 q32 q33
 have E1:=endS E0.2.2.1 a1 g18 g19 q34 q35 q36 q37 q38 q39 q40 q41 q42 q43 q44 q45
 have E2:=endS E1.2.2.1 a2 g20 g21 q46 q47 q48 q49 q50 q51 q52 q53 q54 q55 q56 q57
 have E3:=endS E2.2.2.1 a3 g22 g23 q58 q59 q60 q61 q62 q63 q64 q65 q66 q67 q68 q69
 have E4:=endS E3.2.2.1 a4 g24 g25 q70 q71 q72 q73 q74 q75 q76 q77 q78 q79 q80 q81
 have E5:=endS E4.2.2.1 a5 g26 g27 q82 q83 q84 q85 q86 q87 q88 q89 q90 q91 q92 q93
 have E6:=endS E5.2.2.1 a6 g28 g29 q94 q95 q96 q97 q98 q99 q100 q101 q102 q103 q104 q105
 have E7:=endS E6.2.2.1 a7 g30 g31 q106 q107 q108 q109 q110 q111 q112 q113 q114 q115 q116 q117
 have v2:M.a 2=[M.i 30,M.i 32]:=w2
 have v4:M.a 4=[M.i 30,M.i 32,M.i 42,M.i 44]:=by rw[w4,v2,w3];rfl
 have v6:M.a 6=[M.i 30,M.i 32,M.i 42,M.i 44,M.i 54,M.i 56]:=by rw[w6,v4,w5];rfl
 have v8:M.a 8=[M.i 30,M.i 32,M.i 42,M.i 44,M.i 54,M.i 56,M.i 66,M.i 68]:=by rw[w8,v6,w7];rfl
 have v10:M.a 10=[M.i 30,M.i 32,M.i 42,M.i 44,M.i 54,M.i 56,M.i 66,M.i 68,M.i 78,M.i 80]:=by rw[w10,v8,w9];rfl
 have v12:M.a 12=[M.i 30,M.i 32,M.i 42,M.i 44,M.i 54,M.i 56,M.i 66,M.i 68,M.i 78,M.i 80,M.i 90,M.i 92]:=by rw[w12,v10,w11];rfl
 have v14:M.a 14=[M.i 30,M.i 32,M.i 42,M.i 44,M.i 54,M.i 56,M.i 66,M.i 68,M.i 78,M.i 80,M.i 90,M.i 92,M.i 102,M.i 104]:=by rw[w14,v12,w13];rfl
 have v16:M.a 16=[M.i 30,M.i 32,M.i 42,M.i 44,M.i 54,M.i 56,M.i 66,M.i 68,M.i 78,M.i 80,M.i 90,M.i 92,M.i 102,M.i 104,M.i 114,M.i 116]:=by rw[w16,v14,w15];rfl
 refine ⟨q21,?_,by rw[v2];rfl,by rw[v4];rfl,by rw[v6];rfl,by rw[v8];rfl,by rw[v10];rfl,by rw[v12];rfl,by rw[v14];rfl⟩
 rw[v16,sK_eq]
 exact end8 (H:=H) rfl eA E0 E1 E2 E3 E4 E5 E6 E7
def dend11b:List Df :=
  [.n 114 (.bin .shr .u64 (.var 110) (.kst 16)),
  .a 16 (.cat 14 15),
  .a 15 (.lit [.var 111,.var 113]),
  .n 113 (.conv .u8 (.var 112)),
  .n 112 (.bin .shr .u64 (.var 110) (.kst 8)),
  .n 111 (.conv .u8 (.var 110)),
  .n 110 (.bin .add .u64 (.var 106) (.var 109)),
  .n 109 (.bin .shl .u64 (.var 108) (.kst 8)),
  .n 108 (.conv .u64 (.var 107)),
  .n 107 (.rd 0 (.kst 31)),
  .n 106 (.bin .add .u64 (.var 103) (.var 105)),
  .n 105 (.conv .u64 (.var 104)),
  .n 104 (.rd 0 (.kst 30)),
  .n 103 (.bin .add .u64 (.var 102) (.var 17)),
  .n 102 (.bin .shr .u64 (.var 98) (.kst 16)),
  .a 14 (.cat 12 13),
  .a 13 (.lit [.var 99,.var 101]),
  .n 101 (.conv .u8 (.var 100)),
  .n 100 (.bin .shr .u64 (.var 98) (.kst 8)),
  .n 99 (.conv .u8 (.var 98)),
  .n 98 (.bin .add .u64 (.var 94) (.var 97)),
  .n 97 (.bin .shl .u64 (.var 96) (.kst 8)),
  .n 96 (.conv .u64 (.var 95)),
  .n 95 (.rd 0 (.kst 29)),
  .n 94 (.bin .add .u64 (.var 91) (.var 93)),
  .n 93 (.conv .u64 (.var 92)),
  .n 92 (.rd 0 (.kst 28)),
  .n 91 (.bin .add .u64 (.var 90) (.var 16)),
  .n 90 (.bin .shr .u64 (.var 86) (.kst 16)),
  .a 12 (.cat 10 11),
  .a 11 (.lit [.var 87,.var 89]),
  .n 89 (.conv .u8 (.var 88)),
  .n 88 (.bin .shr .u64 (.var 86) (.kst 8)),
  .n 87 (.conv .u8 (.var 86)),
  .n 86 (.bin .add .u64 (.var 82) (.var 85)),
  .n 85 (.bin .shl .u64 (.var 84) (.kst 8)),
  .n 84 (.conv .u64 (.var 83)),
  .n 83 (.rd 0 (.kst 27)),
  .n 82 (.bin .add .u64 (.var 79) (.var 81)),
  .n 81 (.conv .u64 (.var 80)),
  .n 80 (.rd 0 (.kst 26)),
  .n 79 (.bin .add .u64 (.var 78) (.var 15)),
  .n 78 (.bin .shr .u64 (.var 74) (.kst 16)),
  .a 10 (.cat 8 9),
  .a 9 (.lit [.var 75,.var 77]),
  .n 77 (.conv .u8 (.var 76)),
  .n 76 (.bin .shr .u64 (.var 74) (.kst 8)),
  .n 75 (.conv .u8 (.var 74)),
  .n 74 (.bin .add .u64 (.var 70) (.var 73)),
  .n 73 (.bin .shl .u64 (.var 72) (.kst 8)),
  .n 72 (.conv .u64 (.var 71)),
  .n 71 (.rd 0 (.kst 25)),
  .n 70 (.bin .add .u64 (.var 67) (.var 69)),
  .n 69 (.conv .u64 (.var 68)),
  .n 68 (.rd 0 (.kst 24)),
  .n 67 (.bin .add .u64 (.var 66) (.var 14)),
  .n 66 (.bin .shr .u64 (.var 62) (.kst 16)),
  .a 8 (.cat 6 7),
  .a 7 (.lit [.var 63,.var 65]),
  .n 65 (.conv .u8 (.var 64)),
  .n 64 (.bin .shr .u64 (.var 62) (.kst 8)),
  .n 63 (.conv .u8 (.var 62)),
  .n 62 (.bin .add .u64 (.var 58) (.var 61)),
  .n 61 (.bin .shl .u64 (.var 60) (.kst 8)),
  .n 60 (.conv .u64 (.var 59)),
  .n 59 (.rd 0 (.kst 23)),
  .n 58 (.bin .add .u64 (.var 55) (.var 57)),
  .n 57 (.conv .u64 (.var 56)),
  .n 56 (.rd 0 (.kst 22)),
  .n 55 (.bin .add .u64 (.var 54) (.var 13)),
  .n 54 (.bin .shr .u64 (.var 50) (.kst 16)),
  .a 6 (.cat 4 5),
  .a 5 (.lit [.var 51,.var 53]),
  .n 53 (.conv .u8 (.var 52)),
  .n 52 (.bin .shr .u64 (.var 50) (.kst 8)),
  .n 51 (.conv .u8 (.var 50)),
  .n 50 (.bin .add .u64 (.var 46) (.var 49)),
  .n 49 (.bin .shl .u64 (.var 48) (.kst 8)),
  .n 48 (.conv .u64 (.var 47)),
  .n 47 (.rd 0 (.kst 21)),
  .n 46 (.bin .add .u64 (.var 43) (.var 45)),
  .n 45 (.conv .u64 (.var 44)),
  .n 44 (.rd 0 (.kst 20)),
  .n 43 (.bin .add .u64 (.var 42) (.var 12)),
  .n 42 (.bin .shr .u64 (.var 38) (.kst 16)),
  .a 4 (.cat 2 3),
  .a 3 (.lit [.var 39,.var 41]),
  .n 41 (.conv .u8 (.var 40)),
  .n 40 (.bin .shr .u64 (.var 38) (.kst 8)),
  .n 39 (.conv .u8 (.var 38)),
  .n 38 (.bin .add .u64 (.var 34) (.var 37)),
  .n 37 (.bin .shl .u64 (.var 36) (.kst 8)),
  .n 36 (.conv .u64 (.var 35)),
  .n 35 (.rd 0 (.kst 19)),
  .n 34 (.bin .add .u64 (.var 31) (.var 33)),
  .n 33 (.conv .u64 (.var 32)),
  .n 32 (.rd 0 (.kst 18)),
  .n 31 (.bin .add .u64 (.var 30) (.var 11)),
  .n 30 (.bin .shr .u64 (.var 26) (.kst 16)),
  .a 2 (.lit [.var 27,.var 29]),
  .n 29 (.conv .u8 (.var 28)),
  .n 28 (.bin .shr .u64 (.var 26) (.kst 8)),
  .n 27 (.conv .u8 (.var 26)),
  .n 26 (.bin .add .u64 (.var 22) (.var 25)),
  .n 25 (.bin .shl .u64 (.var 24) (.kst 8)),
  .n 24 (.conv .u64 (.var 23)),
  .n 23 (.rd 0 (.kst 17)),
  .n 22 (.bin .add .u64 (.var 19) (.var 21)),
  .n 21 (.conv .u64 (.var 20)),
  .n 20 (.rd 0 (.kst 16)),
  .n 19 (.bin .add .u64 (.kst 0) (.var 10))]
set_option maxRecDepth 8000 in
set_option maxHeartbeats 4000000 in
theorem end11b {M:Num}{key:List Int}{H:Int}(hBk:Bytes key)(hlk:key.length=32)(ea0:M.a 0=key)(hdg:∀j,j<9→M.i (10+j)=(digs 9 (H%pP)).getD j 0)(hd:∀d∈dend11b,d.sat M) :
  M.a 16=outB H (s0K key+s1K key*18446744073709551616)∧((M.a 2).length=2∧(M.a 4).length=4∧(M.a 6).length=6∧(M.a 8).length=8∧(M.a 10).length=10∧(M.a 12).length=12∧(M.a 14).length=14):=by
 unfold dend11b at hd
 match key,hlk with
 | [k0,k1,k2,k3,k4,k5,k6,k7,k8,k9,k10,k11,k12,k13,k14,k15,k16,k17,k18,k19,k20,k21,k22,k23,k24,k25,k26,k27,k28,k29,k30,k31],_ =>
 simp only[Bytes,List.forall_mem_cons] at hBk
 obtain ⟨g0,g1,g2,g3,g4,g5,g6,g7,g8,g9,g10,g11,g12,g13,g14,g15,g16,g17,g18,g19,g20,g21,g22,g23,g24,g25,g26,g27,g28,g29,g30,g31,-⟩:=hBk
 simp only[List.forall_mem_cons,Df.sat,Nd.ev,Ad.ev,Ar.ev,List.map_cons,List.map_nil,ea0] at hd
 obtain ⟨q114,w16,w15,q113,q112,q111,q110,q109,q108,q107,q106,q105,q104,q103,q102,w14,w13,q101,q100,q99,q98,q97,q96,q95,q94,q93,q92,q91,q90,w12,w11,q89,q88,q87,q86,q85,q84,q83,q82,q81,q80,q79,q78,w10,w9,q77,q76,q75,q74,q73,q72,q71,q70,q69,q68,q67,q66,w8,w7,q65,q64,q63,q62,q61,q60,q59,q58,q57,q56,q55,q54,w6,w5,q53,q52,q51,q50,q49,q48,q47,q46,q45,q44,q43,q42,w4,w3,q41,q40,q39,q38,q37,q36,q35,q34,q33,q32,q31,q30,w2,q29,q28,q27,q26,q25,q24,q23,q22,q21,q20,q19,-⟩:=hd
 have eA:[M.i 10,M.i 11,M.i 12,M.i 13,M.i 14,M.i 15,M.i 16,M.i 17,M.i 18]=digs 9 (H%pP):=congrN hdg (digs_length 9 _)
 have bA:∀d∈[M.i 10,M.i 11,M.i 12,M.i 13,M.i 14,M.i 15,M.i 16,M.i 17,M.i 18],0≤d∧d<65536:=by rw[eA];exact digs_bound 9 _
 simp only[List.forall_mem_cons] at bA
 obtain ⟨a0,a1,a2,a3,a4,a5,a6,a7,a8,-⟩:=bA
 have E0:=endS (by decide) a0 g16 g17 q19 q20 q21 q22 q23 q24 q25 q26 q27 q28 q29 q30
 have E1:=endS E0.2.2.1 a1 g18 g19 q31 q32 q33 q34 q35 q36 q37 q38 q39 q40 q41 q42
 have E2:=endS E1.2.2.1 a2 g20 g21 q43 q44 q45 q46 q47 q48 q49 q50 q51 q52 q53 q54
 have E3:=endS E2.2.2.1 a3 g22 g23 q55 q56 q57 q58 q59 q60 q61 q62 q63 q64 q65 q66
 have E4:=endS E3.2.2.1 a4 g24 g25 q67 q68 q69 q70 q71 q72 q73 q74 q75 q76 q77 q78
 have E5:=endS E4.2.2.1 a5 g26 g27 q79 q80 q81 q82 q83 q84 q85 q86 q87 q88 q89 q90
 have E6:=endS E5.2.2.1 a6 g28 g29 q91 q92 q93 q94 q95 q96 q97 q98 q99 q100 q101 q102
 have E7:=endS E6.2.2.1 a7 g30 g31 q103 q104 q105 q106 q107 q108 q109 q110 q111 q112 q113 q114
 have v2:M.a 2=[M.i 27,M.i 29]:=w2
 have v4:M.a 4=[M.i 27,M.i 29,M.i 39,M.i 41]:=by rw[w4,v2,w3];rfl
 have v6:M.a 6=[M.i 27,M.i 29,M.i 39,M.i 41,M.i 51,M.i 53]:=by rw[w6,v4,w5];rfl
 have v8:M.a 8=[M.i 27,M.i 29,M.i 39,M.i 41,M.i 51,M.i 53,M.i 63,M.i 65]:=by rw[w8,v6,w7];rfl
 have v10:M.a 10=[M.i 27,M.i 29,M.i 39,M.i 41,M.i 51,M.i 53,M.i 63,M.i 65,M.i 75,M.i 77]:=by rw[w10,v8,w9];rfl
 have v12:M.a 12=[M.i 27,M.i 29,M.i 39,M.i 41,M.i 51,M.i 53,M.i 63,M.i 65,M.i 75,M.i 77,M.i 87,M.i 89]:=by rw[w12,v10,w11];rfl
 have v14:M.a 14=[M.i 27,M.i 29,M.i 39,M.i 41,M.i 51,M.i 53,M.i 63,M.i 65,M.i 75,M.i 77,M.i 87,M.i 89,M.i 99,M.i 101]:=by rw[w14,v12,w13];rfl
 have v16:M.a 16=[M.i 27,M.i 29,M.i 39,M.i 41,M.i 51,M.i 53,M.i 63,M.i 65,M.i 75,M.i 77,M.i 87,M.i 89,M.i 99,M.i 101,M.i 111,M.i 113]:=by rw[w16,v14,w15];rfl
 refine ⟨?_,by rw[v2];rfl,by rw[v4];rfl,by rw[v6];rfl,by rw[v8];rfl,by rw[v10];rfl,by rw[v12];rfl,by rw[v14];rfl⟩
 rw[v16,sK_eq]
 exact end8 (H:=H) rfl eA E0 E1 E2 E3 E4 E5 E6 E7
def dend11e:List Df :=
  [.n 165 (.bin .shr .u64 (.var 161) (.kst 16)),
  .a 15 (.cat 13 14),
  .a 14 (.lit [.var 162,.var 164]),
  .n 164 (.conv .u8 (.var 163)),
  .n 163 (.bin .shr .u64 (.var 161) (.kst 8)),
  .n 162 (.conv .u8 (.var 161)),
  .n 161 (.bin .add .u64 (.var 157) (.var 160)),
  .n 160 (.bin .shl .u64 (.var 159) (.kst 8)),
  .n 159 (.conv .u64 (.var 158)),
  .n 158 (.rd 0 (.kst 31)),
  .n 157 (.bin .add .u64 (.var 154) (.var 156)),
  .n 156 (.conv .u64 (.var 155)),
  .n 155 (.rd 0 (.kst 30)),
  .n 154 (.bin .add .u64 (.var 153) (.kst 0)),
  .n 153 (.bin .shr .u64 (.var 149) (.kst 16)),
  .a 13 (.cat 11 12),
  .a 12 (.lit [.var 150,.var 152]),
  .n 152 (.conv .u8 (.var 151)),
  .n 151 (.bin .shr .u64 (.var 149) (.kst 8)),
  .n 150 (.conv .u8 (.var 149)),
  .n 149 (.bin .add .u64 (.var 145) (.var 148)),
  .n 148 (.bin .shl .u64 (.var 147) (.kst 8)),
  .n 147 (.conv .u64 (.var 146)),
  .n 146 (.rd 0 (.kst 29)),
  .n 145 (.bin .add .u64 (.var 142) (.var 144)),
  .n 144 (.conv .u64 (.var 143)),
  .n 143 (.rd 0 (.kst 28)),
  .n 142 (.bin .add .u64 (.var 141) (.kst 0)),
  .n 141 (.bin .shr .u64 (.var 137) (.kst 16)),
  .a 11 (.cat 9 10),
  .a 10 (.lit [.var 138,.var 140]),
  .n 140 (.conv .u8 (.var 139)),
  .n 139 (.bin .shr .u64 (.var 137) (.kst 8)),
  .n 138 (.conv .u8 (.var 137)),
  .n 137 (.bin .add .u64 (.var 133) (.var 136)),
  .n 136 (.bin .shl .u64 (.var 135) (.kst 8)),
  .n 135 (.conv .u64 (.var 134)),
  .n 134 (.rd 0 (.kst 27)),
  .n 133 (.bin .add .u64 (.var 130) (.var 132)),
  .n 132 (.conv .u64 (.var 131)),
  .n 131 (.rd 0 (.kst 26)),
  .n 130 (.bin .add .u64 (.var 129) (.kst 0)),
  .n 129 (.bin .shr .u64 (.var 125) (.kst 16)),
  .a 9 (.cat 7 8),
  .a 8 (.lit [.var 126,.var 128]),
  .n 128 (.conv .u8 (.var 127)),
  .n 127 (.bin .shr .u64 (.var 125) (.kst 8)),
  .n 126 (.conv .u8 (.var 125)),
  .n 125 (.bin .add .u64 (.var 121) (.var 124)),
  .n 124 (.bin .shl .u64 (.var 123) (.kst 8)),
  .n 123 (.conv .u64 (.var 122)),
  .n 122 (.rd 0 (.kst 25)),
  .n 121 (.bin .add .u64 (.var 118) (.var 120)),
  .n 120 (.conv .u64 (.var 119)),
  .n 119 (.rd 0 (.kst 24)),
  .n 118 (.bin .add .u64 (.var 117) (.kst 0)),
  .n 117 (.bin .shr .u64 (.var 113) (.kst 16)),
  .a 7 (.cat 5 6),
  .a 6 (.lit [.var 114,.var 116]),
  .n 116 (.conv .u8 (.var 115)),
  .n 115 (.bin .shr .u64 (.var 113) (.kst 8)),
  .n 114 (.conv .u8 (.var 113)),
  .n 113 (.bin .add .u64 (.var 109) (.var 112)),
  .n 112 (.bin .shl .u64 (.var 111) (.kst 8)),
  .n 111 (.conv .u64 (.var 110)),
  .n 110 (.rd 0 (.kst 23)),
  .n 109 (.bin .add .u64 (.var 106) (.var 108)),
  .n 108 (.conv .u64 (.var 107)),
  .n 107 (.rd 0 (.kst 22)),
  .n 106 (.bin .add .u64 (.var 105) (.kst 0)),
  .n 105 (.bin .shr .u64 (.var 101) (.kst 16)),
  .a 5 (.cat 3 4),
  .a 4 (.lit [.var 102,.var 104]),
  .n 104 (.conv .u8 (.var 103)),
  .n 103 (.bin .shr .u64 (.var 101) (.kst 8)),
  .n 102 (.conv .u8 (.var 101)),
  .n 101 (.bin .add .u64 (.var 97) (.var 100)),
  .n 100 (.bin .shl .u64 (.var 99) (.kst 8)),
  .n 99 (.conv .u64 (.var 98)),
  .n 98 (.rd 0 (.kst 21)),
  .n 97 (.bin .add .u64 (.var 94) (.var 96)),
  .n 96 (.conv .u64 (.var 95)),
  .n 95 (.rd 0 (.kst 20)),
  .n 94 (.bin .add .u64 (.var 93) (.kst 0)),
  .n 93 (.bin .shr .u64 (.var 89) (.kst 16)),
  .a 3 (.cat 1 2),
  .a 2 (.lit [.var 90,.var 92]),
  .n 92 (.conv .u8 (.var 91)),
  .n 91 (.bin .shr .u64 (.var 89) (.kst 8)),
  .n 90 (.conv .u8 (.var 89)),
  .n 89 (.bin .add .u64 (.var 85) (.var 88)),
  .n 88 (.bin .shl .u64 (.var 87) (.kst 8)),
  .n 87 (.conv .u64 (.var 86)),
  .n 86 (.rd 0 (.kst 19)),
  .n 85 (.bin .add .u64 (.var 82) (.var 84)),
  .n 84 (.conv .u64 (.var 83)),
  .n 83 (.rd 0 (.kst 18)),
  .n 82 (.bin .add .u64 (.var 81) (.kst 0)),
  .n 81 (.bin .shr .u64 (.var 77) (.kst 16)),
  .a 1 (.lit [.var 78,.var 80]),
  .n 80 (.conv .u8 (.var 79)),
  .n 79 (.bin .shr .u64 (.var 77) (.kst 8)),
  .n 78 (.conv .u8 (.var 77)),
  .n 77 (.bin .add .u64 (.var 73) (.var 76)),
  .n 76 (.bin .shl .u64 (.var 75) (.kst 8)),
  .n 75 (.conv .u64 (.var 74)),
  .n 74 (.rd 0 (.kst 17)),
  .n 73 (.bin .add .u64 (.kst 0) (.var 72)),
  .n 72 (.conv .u64 (.var 71)),
  .n 71 (.rd 0 (.kst 16)),
  .n 70 (.bin .add .u64 (.var 65) (.var 69)),
  .n 69 (.bin .shl .u64 (.var 68) (.kst 8)),
  .n 68 (.conv .u64 (.var 67)),
  .n 67 (.bin .and .u8 (.var 66) (.kst 15)),
  .n 66 (.rd 0 (.kst 15)),
  .n 65 (.bin .add .u64 (.kst 0) (.var 64)),
  .n 64 (.bin .shl .u64 (.var 63) (.kst 0)),
  .n 63 (.conv .u64 (.var 62)),
  .n 62 (.rd 0 (.kst 14)),
  .n 61 (.bin .add .u64 (.var 57) (.var 60)),
  .n 60 (.bin .shl .u64 (.var 59) (.kst 8)),
  .n 59 (.conv .u64 (.var 58)),
  .n 58 (.rd 0 (.kst 13)),
  .n 57 (.bin .add .u64 (.kst 0) (.var 56)),
  .n 56 (.bin .shl .u64 (.var 55) (.kst 0)),
  .n 55 (.conv .u64 (.var 54)),
  .n 54 (.bin .and .u8 (.var 53) (.kst 252)),
  .n 53 (.rd 0 (.kst 12)),
  .n 52 (.bin .add .u64 (.var 47) (.var 51)),
  .n 51 (.bin .shl .u64 (.var 50) (.kst 8)),
  .n 50 (.conv .u64 (.var 49)),
  .n 49 (.bin .and .u8 (.var 48) (.kst 15)),
  .n 48 (.rd 0 (.kst 11)),
  .n 47 (.bin .add .u64 (.kst 0) (.var 46)),
  .n 46 (.bin .shl .u64 (.var 45) (.kst 0)),
  .n 45 (.conv .u64 (.var 44)),
  .n 44 (.rd 0 (.kst 10)),
  .n 43 (.bin .add .u64 (.var 39) (.var 42)),
  .n 42 (.bin .shl .u64 (.var 41) (.kst 8)),
  .n 41 (.conv .u64 (.var 40)),
  .n 40 (.rd 0 (.kst 9)),
  .n 39 (.bin .add .u64 (.kst 0) (.var 38)),
  .n 38 (.bin .shl .u64 (.var 37) (.kst 0)),
  .n 37 (.conv .u64 (.var 36)),
  .n 36 (.bin .and .u8 (.var 35) (.kst 252)),
  .n 35 (.rd 0 (.kst 8)),
  .n 34 (.bin .add .u64 (.var 29) (.var 33)),
  .n 33 (.bin .shl .u64 (.var 32) (.kst 8)),
  .n 32 (.conv .u64 (.var 31)),
  .n 31 (.bin .and .u8 (.var 30) (.kst 15)),
  .n 30 (.rd 0 (.kst 7)),
  .n 29 (.bin .add .u64 (.kst 0) (.var 28)),
  .n 28 (.bin .shl .u64 (.var 27) (.kst 0)),
  .n 27 (.conv .u64 (.var 26)),
  .n 26 (.rd 0 (.kst 6)),
  .n 25 (.bin .add .u64 (.var 21) (.var 24)),
  .n 24 (.bin .shl .u64 (.var 23) (.kst 8)),
  .n 23 (.conv .u64 (.var 22)),
  .n 22 (.rd 0 (.kst 5)),
  .n 21 (.bin .add .u64 (.kst 0) (.var 20)),
  .n 20 (.bin .shl .u64 (.var 19) (.kst 0)),
  .n 19 (.conv .u64 (.var 18)),
  .n 18 (.bin .and .u8 (.var 17) (.kst 252)),
  .n 17 (.rd 0 (.kst 4)),
  .n 16 (.bin .add .u64 (.var 11) (.var 15)),
  .n 15 (.bin .shl .u64 (.var 14) (.kst 8)),
  .n 14 (.conv .u64 (.var 13)),
  .n 13 (.bin .and .u8 (.var 12) (.kst 15)),
  .n 12 (.rd 0 (.kst 3)),
  .n 11 (.bin .add .u64 (.kst 0) (.var 10)),
  .n 10 (.bin .shl .u64 (.var 9) (.kst 0)),
  .n 9 (.conv .u64 (.var 8)),
  .n 8 (.rd 0 (.kst 2)),
  .n 7 (.bin .add .u64 (.var 3) (.var 6)),
  .n 6 (.bin .shl .u64 (.var 5) (.kst 8)),
  .n 5 (.conv .u64 (.var 4)),
  .n 4 (.rd 0 (.kst 1)),
  .n 3 (.bin .add .u64 (.kst 0) (.var 2)),
  .n 2 (.bin .shl .u64 (.var 1) (.kst 0)),
  .n 1 (.conv .u64 (.var 0)),
  .n 0 (.rd 0 (.kst 0))]
set_option maxRecDepth 8000 in
set_option maxHeartbeats 4000000 in
theorem end11e {M:Num}{key:List Int}(hBk:Bytes key)(hlk:key.length=32)(ea0:M.a 0=key)(hd:∀d∈dend11e,d.sat M) :
  M.a 15=outB 0 (s0K key+s1K key*18446744073709551616)∧((M.a 1).length=2∧(M.a 3).length=4∧(M.a 5).length=6∧(M.a 7).length=8∧(M.a 9).length=10∧(M.a 11).length=12∧(M.a 13).length=14):=by
 unfold dend11e at hd
 match key,hlk with
 | [k0,k1,k2,k3,k4,k5,k6,k7,k8,k9,k10,k11,k12,k13,k14,k15,k16,k17,k18,k19,k20,k21,k22,k23,k24,k25,k26,k27,k28,k29,k30,k31],_ =>
 simp only[Bytes,List.forall_mem_cons] at hBk
 obtain ⟨g0,g1,g2,g3,g4,g5,g6,g7,g8,g9,g10,g11,g12,g13,g14,g15,g16,g17,g18,g19,g20,g21,g22,g23,g24,g25,g26,g27,g28,g29,g30,g31,-⟩:=hBk
 simp only[List.forall_mem_cons,Df.sat,Nd.ev,Ad.ev,Ar.ev,List.map_cons,List.map_nil,ea0] at hd
 obtain ⟨q165,w15,w14,q164,q163,q162,q161,q160,q159,q158,q157,q156,q155,q154,q153,w13,w12,q152,q151,q150,q149,q148,q147,q146,q145,q144,q143,q142,q141,w11,w10,q140,q139,q138,q137,q136,q135,q134,q133,q132,q131,q130,q129,w9,w8,q128,q127,q126,q125,q124,q123,q122,q121,q120,q119,q118,q117,w7,w6,q116,q115,q114,q113,q112,q111,q110,q109,q108,q107,q106,q105,w5,w4,q104,q103,q102,q101,q100,q99,q98,q97,q96,q95,q94,q93,w3,w2,q92,q91,q90,q89,q88,q87,q86,q85,q84,q83,q82,q81,w1,q80,q79,q78,q77,q76,q75,q74,q73,q72,q71,q70,q69,q68,q67,q66,q65,q64,q63,q62,q61,q60,q59,q58,q57,q56,q55,q54,q53,q52,q51,q50,q49,q48,q47,q46,q45,q44,q43,q42,q41,q40,q39,q38,q37,q36,q35,q34,q33,q32,q31,q30,q29,q28,q27,q26,q25,q24,q23,q22,q21,q20,q19,q18,q17,q16,q15,q14,q13,q12,q11,q10,q9,q8,q7,q6,q5,q4,q3,q2,q1,q0,-⟩:=hd
 have a0:(0:Int)≤0∧(0:Int)<65536:=by decide
 have E0:=endS (c:=0) (a:=0) (t1:=0) (by decide) a0 g16 g17 (by decide) q71 q72 q73 q74 q75 q76 q77 q78 q79 q80 q81
 have E1:=endS E0.2.2.1 a0 g18 g19 q82 q83 q84 q85 q86 q87 q88 q89 q90 q91 q92 q93
 have E2:=endS E1.2.2.1 a0 g20 g21 q94 q95 q96 q97 q98 q99 q100 q101 q102 q103 q104 q105
 have E3:=endS E2.2.2.1 a0 g22 g23 q106 q107 q108 q109 q110 q111 q112 q113 q114 q115 q116 q117
 have E4:=endS E3.2.2.1 a0 g24 g25 q118 q119 q120 q121 q122 q123 q124 q125 q126 q127 q128 q129
 have E5:=endS E4.2.2.1 a0 g26 g27 q130 q131 q132 q133 q134 q135 q136 q137 q138 q139 q140 q141
 have E6:=endS E5.2.2.1 a0 g28 g29 q142 q143 q144 q145 q146 q147 q148 q149 q150 q151 q152 q153
 have E7:=endS E6.2.2.1 a0 g30 g31 q154 q155 q156 q157 q158 q159 q160 q161 q162 q163 q164 q165
 have v1:M.a 1=[M.i 78,M.i 80]:=w1
 have v3:M.a 3=[M.i 78,M.i 80,M.i 90,M.i 92]:=by rw[w3,v1,w2];rfl
 have v5:M.a 5=[M.i 78,M.i 80,M.i 90,M.i 92,M.i 102,M.i 104]:=by rw[w5,v3,w4];rfl
 have v7:M.a 7=[M.i 78,M.i 80,M.i 90,M.i 92,M.i 102,M.i 104,M.i 114,M.i 116]:=by rw[w7,v5,w6];rfl
 have v9:M.a 9=[M.i 78,M.i 80,M.i 90,M.i 92,M.i 102,M.i 104,M.i 114,M.i 116,M.i 126,M.i 128]:=by rw[w9,v7,w8];rfl
 have v11:M.a 11=[M.i 78,M.i 80,M.i 90,M.i 92,M.i 102,M.i 104,M.i 114,M.i 116,M.i 126,M.i 128,M.i 138,M.i 140]:=by rw[w11,v9,w10];rfl
 have v13:M.a 13=[M.i 78,M.i 80,M.i 90,M.i 92,M.i 102,M.i 104,M.i 114,M.i 116,M.i 126,M.i 128,M.i 138,M.i 140,M.i 150,M.i 152]:=by rw[w13,v11,w12];rfl
 have v15:M.a 15=[M.i 78,M.i 80,M.i 90,M.i 92,M.i 102,M.i 104,M.i 114,M.i 116,M.i 126,M.i 128,M.i 138,M.i 140,M.i 150,M.i 152,M.i 162,M.i 164]:=by rw[w15,v13,w14];rfl
 refine ⟨?_,by rw[v1];rfl,by rw[v3];rfl,by rw[v5];rfl,by rw[v7];rfl,by rw[v9];rfl,by rw[v11];rfl,by rw[v13];rfl⟩
 rw[v15,sK_eq]
 exact end8 (H:=0) rfl rfl E0 E1 E2 E3 E4 E5 E6 E7
set_option maxRecDepth 8000 in
set_option maxHeartbeats 4000000 in
theorem spec11 {F:Fns}(hF:F11 F):CSpec Try.prog F 11 ct11:=by
 refine cspec_of (args:=argsOf ct11) (σe:=stOf ct11) rfl Try.func11 (body_some (by kernel_rfl)) (by kernel_rfl) (by kernel_rfl) fun is ls ws we Ee a hs hp hent hat=> ?_
 obtain rfl:=Shape.noInt rfl hs
 match ls,hs with
 | [key,m],hs =>
 obtain ⟨hlk,-⟩:=hs
 have hp:P11 [] [key,m]:=by rw[←hF.p11];exact hp
 obtain ⟨hB,hBk,hbig⟩:=hp
 have hA11:F.a ct11.fs [] [key,m]=outB (updH (RK key) m.length 0 m) (s0K key+s1K key*18446744073709551616):=by show F.a 11 _ _=_;rw[hF.a11];rfl
 have hR:=RK_bd hBk hlk
 generalize hT:updH (RK key) m.length 0 m=T at hA11
 refine to_head hm (callT_ok (tab11_ok hF)) h11 (by kernel_rfl) rfl rfl hat hent.inv fun N hag hf hd=> ?_
 have ea0:N.a 0=key:=hag.a 0 (by decide)
 have ea1:N.a 1=m:=hag.a 1 (by decide)
 have e0:N.i 0=m.length:=hag.i 0 (by decide)
 have hcl:[N.i 8,N.i 17,N.i 26,N.i 35,N.i 44,N.i 53,N.i 62,N.i 71,0]=digs 9 (RK key):=by
  match key,hlk with
  | [k0,k1,k2,k3,k4,k5,k6,k7,k8,k9,k10,k11,k12,k13,k14,k15,k16,k17,k18,k19,k20,k21,k22,k23,k24,k25,k26,k27,k28,k29,k30,k31],_ =>
  simp only[Bytes,List.forall_mem_cons] at hBk
  obtain ⟨g0,g1,g2,g3,g4,g5,g6,g7,g8,g9,g10,g11,g12,g13,g14,g15,g16,g17,g18,g19,g20,g21,g22,g23,g24,g25,g26,g27,g28,g29,g30,g31,-⟩:=hBk
  simp only[List.forall_mem_cons,Df.sat,Nd.ev,Ad.ev,Ar.ev,ea0] at hd
  obtain ⟨q71,q70,q69,q68,q67,q66,q65,q64,q63,q62,q61,q60,q59,q58,q57,q56,q55,q54,q53,q52,q51,q50,q49,q48,q47,q46,q45,q44,q43,q42,q41,q40,q39,q38,q37,q36,q35,q34,q33,q32,q31,q30,q29,q28,q27,q26,q25,q24,q23,q22,q21,q20,q19,q18,q17,q16,q15,q14,q13,q12,q11,q10,q9,q8,q7,q6,q5,q4,q3,q2,q1,-⟩:=hd
  exact clamp11 g0 g1 g2 g3 g4 g5 g6 g7 g8 g9 g10 g11 g12 g13 g14 g15 q1 q2 q3 q4 q5 q6 q7 q8 q9 q10 q11 q12 q13 q14 q15 q16 q17 q18 q19 q20 q21 q22 q23 q24 q25 q26 q27 q28 q29 q30 q31 q32 q33 q34 q35 q36 q37 q38 q39 q40 q41 q42 q43 q44 q45 q46 q47 q48 q49 q50 q51 q52 q53 q54 q55 q56 q57 q58 q59 q60 q61 q62 q63 q64 q65 q66 q67 q68 q69 q70 q71
 refine ⟨?_,fun a1 w1 hat1=> ?_⟩
 ·simp only[List.forall_mem_cons,Ob.holds,Ar.ev,ea0,hlk]
  exact ⟨by decide,by decide,by decide,by decide,by decide,by decide,by decide,by decide,by decide,by decide,by decide,by decide,by decide,by decide,by decide,by decide,nofun⟩
 let Ne:=num0 F ct11.ps [] [key,m]
 refine loop_law (fun k a w=>(∃ N o H,A11a N key m o H T∧k=m.length-o∧At F Try.f11.ntmps Ne Ee (stOf ct11) we T11a s11a N a w)∨(∃ N:Num,k=0∧A11b N key T∧At F Try.f11.ntmps Ne Ee (stOf ct11) we T11b s11b N a w)) (k:=m.length) (.inl ⟨_,0,0,?_,rfl,hat1⟩) ?_
 ·refine ⟨Nat.zero_le _,rfl,e0,ea0,ea1,fun j hj=> ?_,fun j hj=> ?_,hT⟩
  ·rw [←hcl]
   match j,hj with
   | 0,_=>rfl
   | 1,_=>rfl
   | 2,_=>rfl
   | 3,_=>rfl
   | 4,_=>rfl
   | 5,_=>rfl
   | 6,_=>rfl
   | 7,_=>rfl
   | 8,_=>rfl
   | j+9,h=>exact absurd h (by omega)
  ·match j,hj with
   | 0,_=>rfl
   | 1,_=>rfl
   | 2,_=>rfl
   | 3,_=>rfl
   | 4,_=>rfl
   | 5,_=>rfl
   | 6,_=>rfl
   | 7,_=>rfl
   | 8,_=>rfl
   | j+9,h=>exact absurd h (by omega)
 ·clear hat hat1 hag hd ea0 ea1 e0 hcl hf
  intro k a w hJ
  rcases hJ with ⟨N,o,H,hA,hk,hat⟩ | ⟨N,hk,hA,hat⟩
  ·have ho:=hA.ho
   rcases Nat.lt_or_ge o m.length with h1 | h1
   ·have hmn:((m.length-o:Nat):Int)=m.length-o:=by omega
    rcases Nat.lt_or_ge (o+16) m.length with h2 | h2
    ·refine to_round hm (callT_ok (tab11_ok hF)) r11a (by kernel_rfl) rfl rfl hat hent.inv fun M hag hf hd=> ?_
     have hA':=hA.agr hag
     obtain ⟨_,e1,e2,ea0,ea1,hr,hdg,ht⟩:=hA'
     have hd2:=List.forall_mem_cons.1 hd
     have hd3:=List.forall_mem_cons.1 hd2.2
     have q222:M.i 222=M.i 2+M.i 22*(-1):=hd2.1
     have q221:M.i 221=M.i 1+M.i 22*1:=hd3.1
     obtain ⟨q21,q22,w2⟩:=low11 hd3.2
     rw[e2,show (16:Int)=((16:Nat):Int) from rfl,mn_nat,show min 16 (m.length-o)=16 by omega] at q22
     rw[ea1,e1,q22,Int.toNat_natCast,Int.toNat_natCast] at w2
     have hcl:((m.drop o).take 16).length=16:=by rw[List.length_take,List.length_drop];omega
     obtain ⟨k1,k2,k3,k4⟩:=mul11 hF hf hd3.2 hr hdg hR (chunkN_bound ((hB.drop o).take 16) (by omega)) w2
     refine ⟨?_,fun x2 y2 hat2=>⟨m.length-(o+16),by omega,.inl ⟨_,o+16,redN ((H+chunkN ((m.drop o).take 16))*RK key),?_,rfl,hat2⟩⟩⟩
     ·simp only[List.forall_mem_cons,Ob.holds,Ar.ev,List.map_cons,List.map_nil,hf,hF.p18,hF.p19,hF.p20,q22,e1,e2,ea1,k2]
      exact ⟨by omega,by omega,by omega,by omega,k3,k1,⟨by rw[w2];exact (hB.drop o).take 16,by rw[w2,hcl];decide,by rw[w2,hcl];decide⟩,⟨by omega,by omega⟩,by omega,by omega,by omega,by rw[q21,e2];exact boo_true (decide_eq_true (by omega)),by omega,nofun⟩
     ·refine ⟨by omega,?_,?_,ea0,ea1,fun j hj=>(pn_rng (by kernel_rfl) j hj).trans (hr j hj),fun j hj=>(pn_rng (by kernel_rfl) j hj).trans (k4 j hj),?_⟩
      ·show M.i 221=_
       rw[q221,q22,e1];omega
      ·show M.i 222=_
       rw[q222,q22,e2];omega
      ·rw [←ht,updH_step (m:=m.drop o) (by rw[List.length_drop];omega),←List.drop_drop]
       exact updH_fuel (by simp only[List.length_drop];omega) (by simp only[List.length_drop];omega)
    ·refine to_round hm (callT_ok (tab11_ok hF)) r11b (by kernel_rfl) rfl rfl hat hent.inv fun M hag hf hd=> ?_
     have hA':=hA.agr hag
     obtain ⟨_,e1,e2,ea0,ea1,hr,hdg,ht⟩:=hA'
     obtain ⟨q21,q22,w2⟩:=low11 hd
     rw[e2,show (16:Int)=((16:Nat):Int) from rfl,mn_nat,show min 16 (m.length-o)=m.length-o by omega] at q22
     rw[ea1,e1,q22,Int.toNat_natCast,Int.toNat_natCast,List.take_of_length_le (by rw[List.length_drop];exact Nat.le_refl _)] at w2
     have hcl:(m.drop o).length=m.length-o:=List.length_drop
     obtain ⟨k1,k2,k3,k4⟩:=mul11 hF hf hd hr hdg hR (chunkN_bound (hB.drop o) (by omega)) w2
     refine ⟨?_,fun x2 y2 hat2=>⟨0,by omega,.inr ⟨_,rfl,?_,hat2⟩⟩⟩
     ·simp only[List.forall_mem_cons,Ob.holds,Ar.ev,List.map_cons,List.map_nil,hf,hF.p18,hF.p19,hF.p20,q22,e1,e2,ea1,k2]
      exact ⟨trivial,by omega,by omega,by omega,k3,k1,⟨by rw[w2];exact hB.drop o,by rw[w2,hcl];omega,by rw[w2,hcl];omega⟩,⟨by omega,by omega⟩,by omega,by omega,by omega,by rw[q21,e2];exact boo_true (decide_eq_true (by omega)),by omega,nofun⟩
     ·refine ⟨ea0,fun j hj=>(pn_rng (by kernel_rfl) j hj).trans ((k4 j hj).trans ?_)⟩
      have:redN ((H+chunkN (m.drop o))*RK key)=T:=by
       rw[←ht,updH_step (m:=m.drop o) (by omega),List.take_of_length_le (l:=m.drop o) (by omega),List.drop_of_length_le (l:=m.drop o) (i:=16) (by omega),updH_nil]
      rw[this]
   ·
    refine to_out hm (callT_ok (tab11_ok hF)) o11a (by kernel_rfl) hat hent fun M hag hf hd=> ?_
    have hA':=hA.agr hag
    obtain ⟨_,e1,e2,ea0,ea1,-,hdg,ht⟩:=hA'
    rw[List.drop_of_length_le h1,updH_nil] at ht
    subst ht
    have e2':M.i 2=0:=by rw[e2];omega
    obtain ⟨q21,z⟩:=end11a hBk hlk ea0 hdg hd
    refine ⟨?_,⟨nofun,trivial,?_⟩,nofun⟩
    ·have lz:=z.2
     simp only[List.forall_mem_cons,Ob.holds,Ar.ev,e2',ea0,hlk,z.2]
     exact ⟨by decide,by decide,by decide,by decide,by decide,by decide,by decide,by decide,by decide,by decide,by decide,by decide,by decide,by decide,by decide,by decide,by decide,by decide,by decide,by decide,by decide,by decide,by decide,by rw[q21,e2'];rfl,by decide,nofun⟩
    ·refine ⟨?_,?_⟩
     ·rw [hA11];exact z.1
     ·exact ⟨by rw[hA11,outB_length];rfl,by show (F.a ct11.fs [] [key,m]).length=16;rw[hA11,outB_length]⟩
  ·refine to_out hm (callT_ok (tab11_ok hF)) o11b (by kernel_rfl) hat hent fun M hag hf hd=> ?_
   obtain ⟨ea0,hdg⟩:=hA.agr hag
   have z:=end11b hBk hlk ea0 hdg hd
   refine ⟨?_,⟨nofun,trivial,?_⟩,nofun⟩
   ·simp only[List.forall_mem_cons,Ob.holds,Ar.ev,ea0,hlk,z.2]
    exact ⟨by decide,by decide,by decide,by decide,by decide,by decide,by decide,by decide,by decide,by decide,by decide,by decide,by decide,by decide,by decide,by decide,by decide,by decide,by decide,by decide,by decide,by decide,by decide,nofun⟩
   ·refine ⟨?_,?_⟩
    ·rw [hA11];exact z.1
    ·exact ⟨by rw[hA11,outB_length];rfl,by show (F.a ct11.fs [] [key,m]).length=16;rw[hA11,outB_length]⟩
theorem args11e:True:=trivial
set_option maxRecDepth 8000 in
set_option maxHeartbeats 4000000 in
theorem spec11e {F:Fns}(hF:F11 F):CSpec Try.prog F 11 ct11e:=by
 refine straight (callT_ok (tab11_ok hF)) Try.func11 (by kernel_rfl) (by kernel_rfl) (by kernel_rfl) run11e (by kernel_rfl) fun is ls N hs hp hag hf hd=> ?_
 obtain rfl:=Shape.noInt rfl hs
 match ls,hs with
 | [key,m],hs =>
 obtain ⟨hlk,hm0,-⟩:=hs
 subst hm0
 have hBk:Bytes key:=(show P11 [] [key,[]] by rw[←hF.p11];exact hp).2.1
 have hA11:F.a ct11e.fs [] [key,[]]=outB 0 (s0K key+s1K key*18446744073709551616):=by show F.a 11 _ _=_;rw[hF.a11];rfl
 have ea0:N.a 0=key:=hag.a 0 (by decide)
 clear hag
 have z:=end11e hBk hlk ea0 hd
 refine ⟨?_,⟨nofun,trivial,?_⟩,nofun⟩
 ·simp only[List.forall_mem_cons,Ob.holds,Ar.ev,ea0,hlk,z.2]
  exact ⟨by decide,by decide,by decide,by decide,by decide,by decide,by decide,by decide,by decide,by decide,by decide,by decide,by decide,by decide,by decide,by decide,by decide,by decide,by decide,by decide,by decide,by decide,by decide,by decide,by decide,by decide,by decide,by decide,by decide,by decide,by decide,by decide,by decide,by decide,by decide,by decide,by decide,by decide,by decide,nofun⟩
 ·refine ⟨?_,?_⟩
  ·rw [hA11];exact z.1
  ·exact ⟨by rw[hA11,outB_length];rfl,by show (F.a ct11e.fs [] [key,[]]).length=16;rw[hA11,outB_length]⟩
end Go.Proofs.Ytlcljhlijmombaa
