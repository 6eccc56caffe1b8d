/- Facts of runs: secretbox.Open. -/
import Derived.Test.YtlcljhlijmombaaYa0
import Derived.Test.YtlcljhlijmombaaYsal
namespace Go.Proofs.Ytlcljhlijmombaa
open Go.Sy
def blk12 (e c A:Nat):List Df :=
 rds (c+32) (A+8) 0 64++([.a (A+8) (.fn 330 [] [A+5,A+6,A+7]),.a (A+7) (.lit (vs c 32)),.a (A+6) (.lit (vs (e+16) 8++zs 8)),.a (A+5) (.lit (zs 64))] ++
  (rds c (A+4) 0 32++[.a (A+4) (.fn 31 [] [A,A+1,A+2,A+3]),.a (A+3) (.lit (sigmaL.map .kst)),.a (A+2) (.lit (vs (e+24) 32)),.a (A+1) (.lit (vs e 16)),.a A (.lit (zs 32))]))
def pre12 (s:Nat):List Df :=
 [.n (156+s) (.fn 23 [] [13+s,14+s,15+s] 0),.a (15+s) (.lit (vs (90+s) 32)),.a (14+s) (.sub s (.kst 16) (.var (155+s))),.a (13+s) (.sub (12+s) (.kst 0) (.kst 16)),.n (155+s) (.lin (.var s) (.kst 16) (-1)),
  .a (12+s) (.cpy (11+s) (.kst 0) (10+s)),.a (11+s) (.lit (zs 16)),.a (10+s) (.sub s (.kst 0) (.var (154+s))),.n (154+s) (.mn (.var s) (.kst 16))]++(blk12 (1+s) (58+s) (1+s)++[.n (57+s) (.cmp .lss (.var s) (.kst 16))])
def pre0 (s:Nat):List Df :=
 [.n (155+s) (.fn 23 [] [13+s,14+s,15+s] 0),.a (15+s) (.lit (vs (90+s) 32)),.a (14+s) (.lit []),.a (13+s) (.sub (12+s) (.kst 0) (.kst 16)),.a (12+s) (.cpy (11+s) (.kst 0) (10+s)),.a (11+s) (.lit (zs 16)),.a (10+s) (.sub s (.kst 0) (.var (154+s))),.n (154+s) (.mn (.var s) (.kst 16))] ++
  (blk12 (1+s) (58+s) (1+s)++[.n (57+s) (.cmp .lss (.var s) (.kst 16))])
def obs0 (s:Nat):List Ob :=
 [.prd 23 [] [13+s,14+s,15+s],.fits (.kst 0) (.kst 16) (12+s),.eq (.kst 16) (.var s),.le (.var s) (.var s),.le (.kst 16) (.var s),.fits (.kst 0) (.var (154+s)) (11+s),.le (.kst 0) (.var (154+s)),.fits (.kst 0) (.var (154+s)) s,
  .prd 330 [] [6+s,7+s,8+s],.prd 31 [] [1+s,2+s,3+s,4+s],.boo (57+s) false,.le (.kst 0) (.var s)]
def obs12 (s:Nat):List Ob :=
 [.prd 23 [] [13+s,14+s,15+s],.fits (.kst 16) (.var (155+s)) s,.fits (.kst 0) (.kst 16) (12+s),.lt (.kst 16) (.var s),.le (.var s) (.var s),.le (.kst 16) (.var s),.fits (.kst 0) (.var (154+s)) (11+s),
  .le (.kst 0) (.var (154+s)),.fits (.kst 0) (.var (154+s)) s,.prd 330 [] [6+s,7+s,8+s],.prd 31 [] [1+s,2+s,3+s,4+s],.boo (57+s) false,.le (.kst 0) (.var s)]
def mid12 (s:Nat)(ls:List Nat):List Df :=
 [.n (162+s) (.cmp .gtr (.var (161+s)) (.kst 32)),.n (161+s) (.lin (.var s) (.kst 16) (-1)),.n (160+s) (.fn 24 [.var (157+s)] ls 1),.n (159+s) (.fn 24 [.var (157+s)] ls 0),.n (158+s) (.len (16+s)),.a (16+s) (.fn 24 [.var (157+s)] ls),.n (157+s) (.bin .sub .i64 (.var s) (.kst 16))]
def mob12 (s:Nat)(ls:List Nat)(o:List Ob)(t:Bool):List Ob :=
 [.le (.kst (bif t then 32 else 0)) (.var (161+s)),.boo (162+s) t,.le (.kst 0) (.var (161+s)),.lt (.kst 16) (.var s),.le (.var s) (.var s),.le (.kst 16) (.var s),.prd 24 [.var (157+s)] ls]++(o++[.le (.kst 0) (.var s),.boo (156+s) true])
def rnd12 (s:Nat)(b:Ar):List Df :=
 [.n (182+s) (.bin .add .i64 (.var (61+s)) (.kst 1)),.a (2+s) (.set (1+s) (.var (181+s)) (.var (180+s))),.n (181+s) (.lin (.var (57+s)) (.var (61+s)) 1),.n (180+s) (.bin .xor .u8 (.var (179+s)) (.var (176+s))),
  .n (179+s) (.sel (vs (110+s) 64) (.var (178+s))),.n (178+s) (.lin (.kst 0) (.var (177+s)) 1),.n (177+s) (.bin .add .i64 (.kst 32) (.var (61+s))),.n (176+s) (.rd s (.var (175+s))),.n (175+s) (.lin (.kst 16) (.var (61+s)) 1),.n (174+s) (.cmp .lss (.var (61+s)) b)]
def rob12 (s:Nat)(b:Ar):List Ob :=
 [.inA (.var (181+s)) (1+s),.lt (.var (61+s)) (.var (58+s)),.le (.kst 0) (.var (61+s)),.lt (.var (178+s)) (.kst 64),.le (.kst 0) (.var (178+s)),.lt (.var (177+s)) (.kst 64),.le (.kst 0) (.var (177+s)),.inA (.var (175+s)) s,.lt (.var (61+s)) b,.le (.kst 0) (.var (61+s)),.boo (174+s) true]
def is12 (s:Nat):List Ar:=zs (57+s)++([.var (159+s),.var (160+s),.var (161+s),.var (158+s),.kst 0]++(vs (58+s) 32++(vs (17+s) 8++(zs 8++vs (90+s) 64))))
def js12 (s:Nat):List Ar:=zs (57+s)++(vs (57+s) 4++(.var (182+s)::vs (62+s) 112))
def as12 (s k:Nat):List (Option Nat):=bif Nat.beq s 0 then [some 0,some k] else [none,some 1,some (k+1)]
def out12 (s:Nat):List Df :=
 [.a (7+s) (.cpy (1+s) (.var (176+s)) (6+s)),.a (6+s) (.fn 33 [] [2+s,3+s,4+s,5+s]),.a (5+s) (.lit (vs (62+s) 32)),.a (4+s) (.lit (vs (94+s) 8++(.kst 1::vs (103+s) 7))),.a (3+s) (.sub s (.kst 48) (.var (175+s))),.a (2+s) (.sub (1+s) (.var (176+s)) (.var (177+s))),
  .n (177+s) (.lin (.var (58+s)) (.kst 32) (-1)),.n (176+s) (.lin (.var (57+s)) (.kst 32) 1),.n (175+s) (.lin (.var (59+s)) (.kst 32) (-1)),.n (174+s) (.cmp .lss (.var (61+s)) (.kst 32))]
def oob12 (s:Nat):List Ob :=
 [.fits (.var (176+s)) (.var (177+s)) (1+s),.prd 33 [] [2+s,3+s,4+s,5+s],.fits (.kst 48) (.var (175+s)) s,.fits (.var (176+s)) (.var (177+s)) (1+s),.lt (.kst 32) (.var (58+s)),.le (.var (58+s)) (.var (58+s)),.le (.kst 32) (.var (58+s)),
  .lt (.kst 32) (.var (59+s)),.le (.var (59+s)) (.var (59+s)),.le (.kst 32) (.var (59+s)),.boo (174+s) false]
def pob12 (s:Nat):List Ob :=
 [.eq (.var (59+s)) (.var (58+s)),.le (.var (58+s)) (.var (58+s)),.le (.var (59+s)) (.var (58+s)),.le (.kst 0) (.var (59+s)),.le (.kst 0) (.var (59+s)),.eq (.var (59+s)) (.var (59+s)),.le (.var (59+s)) (.var (59+s)),.le (.var (59+s)) (.var (59+s)),.le (.kst 0) (.var (59+s)),.le (.kst 0) (.var (59+s)),.boo (174+s) false]
theorem run12fa:runE ct12f Try.f12 (callF tab12 []) [true,false]=some (⟨[],none,none⟩,
  [.n 57 (.cmp .lss (.var 0) (.kst 16))],
  [.boo 57 true,
  .le (.kst 0) (.var 0)]):=by kernel_rfl
theorem run12fb:runE ct12f Try.f12 (callF tab12 []) [false,false,false]=some (⟨[],none,none⟩,pre0 0,.boo 155 false::obs0 0):=by kernel_rfl
theorem run12fc:runE ct12f Try.f12 (callF tab12 []) [false,true,false,false]=some (⟨[],none,none⟩,pre12 0,.boo 156 false::obs12 0):=by kernel_rfl
theorem run12e:runE ct12e Try.f12 (callF tab12 []) []=some (⟨[],none,none⟩,[],[]):=by kernel_rfl
theorem run12n0:runE ct12n0 Try.f12 (callF tab12z []) [false,false,true,false]=some (⟨[],none,none⟩,[.n 156 (.bin .sub .i64 (.var 0) (.kst 16))]++pre0 0,([.eq (.kst 16) (.var 0),.le (.var 0) (.var 0),.le (.kst 16) (.var 0),.prd 240 [.var 156] []]++[.le (.kst 0) (.var 0),.boo 155 true])++obs0 0):=by kernel_rfl
theorem run12g0:runE ct12g0 Try.f12 (callF tab12z []) [false,false,true,false]=some (⟨[],none,some (.var 158,17)⟩,[.n 158 (.len 17),.a 17 (.fn 24 [.var 157] [0]),.n 157 (.bin .sub .i64 (.var 1) (.kst 16))]++pre0 1,([.eq (.kst 16) (.var 1),.le (.var 1) (.var 1),.le (.kst 16) (.var 1),.prd 240 [.var 157] [0]]++[.lenA (.var 0) 0,.le (.kst 0) (.var 1),.boo 156 true])++obs0 1):=by kernel_rfl
def T12na:Tr SV:=mkT [(0,.one (.sc (.sl 3 (.var 57) (.var 58) none))),(2,.one (.sc (.sl 0 (.kst 16) (.var 59) none))),(16,.one (.sc (.kst (.slice none 0 0)))),(18,.one (.sc (.kst (.bool false)))),(20,.one (.sc (.ptr 4 (.kst 0)))),(22,.one (.sc (.ptr 5 (.kst 0)))),(24,.one (.sc (.ptr 6 (.kst 0)))),(30,.one (.sc (.sl 3 (.kst 0) (.var 60) none))),(32,.one (.sc (.sl 0 (.kst 16) (.kst 32) none))),(108,.one (.sc (.sl 0 (.kst 16) (.kst 32) none))),(110,.one (.sc (.kst (.int .i64 32)))),(112,.one (.sc (.num .i64 61)))] .nil
def s12na:St:={ni:=0,nx:=174,na:=2,nb:=7,nv:=0,defs:=[],obs:=[],orc:=[],gl:= .nil,bks:=mkT [(0,{n:=0,rw:=false,cells:= .nil,arr:=some (.u8,0,false)}),(3,{n:=0,rw:=true,cells:= .nil,arr:=some (.u8,1,true)}),(4,{n:=32,rw:=true,cells:=trOf 0 (numsS .u8 62 32) .nil,arr:=none}),(5,{n:=16,rw:=true,cells:=trOf 0 (numsS .u8 94 16) .nil,arr:=none}),(6,{n:=64,rw:=true,cells:=trOf 0 (numsS .u8 110 64) .nil,arr:=none})] .nil}
theorem h12na:headOf ct12n Try.f12 (callF tab12 []) [20] [false,true,true,true,true] T12na s12na=some ((.loop (loopAt 12 20).1,(loopAt 12 20).2),(is12 0,as12 0 16,mid12 0 []++pre12 0,mob12 0 [] [] true++obs12 0)):=by kernel_rfl
theorem r12na:rndOf ct12n Try.f12 (callF tab12 []) [20] (loopAt 12 20) T12na s12na [true] T12na s12na=some (js12 0,as12 0 2,rnd12 0 (.kst 32),rob12 0 (.kst 32)):=by kernel_rfl
theorem o12na:outOf ct12n Try.f12 (callF tab12 []) [20] (loopAt 12 20) T12na s12na [false,true,true]=some (⟨[],none,some (.var 60,7)⟩,out12 0,oob12 0):=by kernel_rfl
def T12nb:Tr SV:=mkT [(0,.one (.sc (.sl 3 (.var 57) (.var 58) none))),(2,.one (.sc (.sl 0 (.kst 16) (.var 59) none))),(16,.one (.sc (.kst (.slice none 0 0)))),(18,.one (.sc (.kst (.bool false)))),(20,.one (.sc (.ptr 4 (.kst 0)))),(22,.one (.sc (.ptr 5 (.kst 0)))),(24,.one (.sc (.ptr 6 (.kst 0)))),(30,.one (.sc (.sl 3 (.kst 0) (.var 60) none))),(32,.one (.sc (.sl 0 (.kst 16) (.var 59) none))),(108,.one (.sc (.sl 0 (.kst 16) (.var 59) none))),(110,.one (.sc (.num .i64 59))),(112,.one (.sc (.num .i64 61)))] .nil
def s12nb:St:={ni:=0,nx:=174,na:=2,nb:=7,nv:=0,defs:=[],obs:=[],orc:=[],gl:= .nil,bks:=mkT [(0,{n:=0,rw:=false,cells:= .nil,arr:=some (.u8,0,false)}),(3,{n:=0,rw:=true,cells:= .nil,arr:=some (.u8,1,true)}),(4,{n:=32,rw:=true,cells:=trOf 0 (numsS .u8 62 32) .nil,arr:=none}),(5,{n:=16,rw:=true,cells:=trOf 0 (numsS .u8 94 16) .nil,arr:=none}),(6,{n:=64,rw:=true,cells:=trOf 0 (numsS .u8 110 64) .nil,arr:=none})] .nil}
theorem h12nb:headOf ct12n Try.f12 (callF tab12 []) [20] [false,true,true,true,false] T12nb s12nb=some ((.loop (loopAt 12 20).1,(loopAt 12 20).2),(is12 0,as12 0 16,mid12 0 []++pre12 0,mob12 0 [] [] false++obs12 0)):=by kernel_rfl
theorem r12nb:rndOf ct12n Try.f12 (callF tab12 []) [20] (loopAt 12 20) T12nb s12nb [true] T12nb s12nb=some (js12 0,as12 0 2,rnd12 0 (.var 59),rob12 0 (.var 59)):=by kernel_rfl
theorem o12nb:outOf ct12n Try.f12 (callF tab12 []) [20] (loopAt 12 20) T12nb s12nb [false,false,false]=some (⟨[],none,some (.var 60,1)⟩,[.n 174 (.cmp .lss (.var 61) (.var 59))],pob12 0):=by kernel_rfl
def T12ga:Tr SV:=mkT [(0,.one (.sc (.sl 4 (.var 58) (.var 59) none))),(2,.one (.sc (.sl 1 (.kst 16) (.var 60) none))),(16,.one (.sc (.kst (.slice none 0 0)))),(18,.one (.sc (.kst (.bool false)))),(20,.one (.sc (.ptr 5 (.kst 0)))),(22,.one (.sc (.ptr 6 (.kst 0)))),(24,.one (.sc (.ptr 7 (.kst 0)))),(30,.one (.sc (.sl 4 (.kst 0) (.var 61) none))),(32,.one (.sc (.sl 1 (.kst 16) (.kst 32) none))),(108,.one (.sc (.sl 1 (.kst 16) (.kst 32) none))),(110,.one (.sc (.kst (.int .i64 32)))),(112,.one (.sc (.num .i64 62)))] .nil
def s12ga:St:={ni:=0,nx:=175,na:=3,nb:=8,nv:=0,defs:=[],obs:=[],orc:=[],gl:= .nil,bks:=mkT [(1,{n:=0,rw:=false,cells:= .nil,arr:=some (.u8,1,false)}),(4,{n:=0,rw:=true,cells:= .nil,arr:=some (.u8,2,true)}),(5,{n:=32,rw:=true,cells:=trOf 0 (numsS .u8 63 32) .nil,arr:=none}),(6,{n:=16,rw:=true,cells:=trOf 0 (numsS .u8 95 16) .nil,arr:=none}),(7,{n:=64,rw:=true,cells:=trOf 0 (numsS .u8 111 64) .nil,arr:=none})] .nil}
theorem h12ga:headOf ct12g Try.f12 (callF tab12 []) [20] [false,true,true,true,true] T12ga s12ga=some ((.loop (loopAt 12 20).1,(loopAt 12 20).2),(is12 1,as12 1 16,mid12 1 [0]++pre12 1,mob12 1 [0] [.lenA (.var 0) 0] true++obs12 1)):=by kernel_rfl
theorem r12ga:rndOf ct12g Try.f12 (callF tab12 []) [20] (loopAt 12 20) T12ga s12ga [true] T12ga s12ga=some (js12 1,as12 1 2,rnd12 1 (.kst 32),rob12 1 (.kst 32)):=by kernel_rfl
theorem o12ga:outOf ct12g Try.f12 (callF tab12 []) [20] (loopAt 12 20) T12ga s12ga [false,true,true]=some (⟨[],none,some (.var 61,8)⟩,out12 1,oob12 1):=by kernel_rfl
def T12gb:Tr SV:=mkT [(0,.one (.sc (.sl 4 (.var 58) (.var 59) none))),(2,.one (.sc (.sl 1 (.kst 16) (.var 60) none))),(16,.one (.sc (.kst (.slice none 0 0)))),(18,.one (.sc (.kst (.bool false)))),(20,.one (.sc (.ptr 5 (.kst 0)))),(22,.one (.sc (.ptr 6 (.kst 0)))),(24,.one (.sc (.ptr 7 (.kst 0)))),(30,.one (.sc (.sl 4 (.kst 0) (.var 61) none))),(32,.one (.sc (.sl 1 (.kst 16) (.var 60) none))),(108,.one (.sc (.sl 1 (.kst 16) (.var 60) none))),(110,.one (.sc (.num .i64 60))),(112,.one (.sc (.num .i64 62)))] .nil
def s12gb:St:={ni:=0,nx:=175,na:=3,nb:=8,nv:=0,defs:=[],obs:=[],orc:=[],gl:= .nil,bks:=mkT [(1,{n:=0,rw:=false,cells:= .nil,arr:=some (.u8,1,false)}),(4,{n:=0,rw:=true,cells:= .nil,arr:=some (.u8,2,true)}),(5,{n:=32,rw:=true,cells:=trOf 0 (numsS .u8 63 32) .nil,arr:=none}),(6,{n:=16,rw:=true,cells:=trOf 0 (numsS .u8 95 16) .nil,arr:=none}),(7,{n:=64,rw:=true,cells:=trOf 0 (numsS .u8 111 64) .nil,arr:=none})] .nil}
theorem h12gb:headOf ct12g Try.f12 (callF tab12 []) [20] [false,true,true,true,false] T12gb s12gb=some ((.loop (loopAt 12 20).1,(loopAt 12 20).2),(is12 1,as12 1 16,mid12 1 [0]++pre12 1,mob12 1 [0] [.lenA (.var 0) 0] false++obs12 1)):=by kernel_rfl
theorem r12gb:rndOf ct12g Try.f12 (callF tab12 []) [20] (loopAt 12 20) T12gb s12gb [true] T12gb s12gb=some (js12 1,as12 1 2,rnd12 1 (.var 60),rob12 1 (.var 60)):=by kernel_rfl
theorem o12gb:outOf ct12g Try.f12 (callF tab12 []) [20] (loopAt 12 20) T12gb s12gb [false,false,false]=some (⟨[],none,some (.var 61,2)⟩,[.n 175 (.cmp .lss (.var 62) (.var 60))],pob12 1):=by kernel_rfl
end Go.Proofs.Ytlcljhlijmombaa
