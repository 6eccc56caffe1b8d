/- A symbolic executor for Go code in the model, second make: numbers and lists of numbers by name, obligations (definitions alone). -/
import Derived.WalkKit
import Derived.Deep.Quiet
import Derived.StillTail
import Derived.LoopN
import Derived.Test.YtnfikgagkamioaaGreatDoorSy0
namespace Go.Sy
inductive Tr (α:Type) where
 | nil
 | node (v:Option α) (l r:Tr α)
def Tr.get {α:Type}:Tr α→Nat→Option α
 | .nil,_=>none
 | .node v l r,k=>bif Nat.beq k 0 then v else bif Nat.beq (k%2) 1 then l.get (k/2) else r.get (k/2-1)
def Tr.setF {α:Type}:Nat→Tr α→Nat→α→Tr α
 | 0,t,_,_=>t
 | d+1,t,k,x =>
  match t with
  | .nil=>bif Nat.beq k 0 then .node (some x) .nil .nil else bif Nat.beq (k%2) 1 then .node none (Tr.setF d .nil (k/2) x) .nil else .node none .nil (Tr.setF d .nil (k/2-1) x)
  | .node v l r=>bif Nat.beq k 0 then .node (some x) l r else bif Nat.beq (k%2) 1 then .node v (Tr.setF d l (k/2) x) r else .node v l (Tr.setF d r (k/2-1) x)
def Tr.set {α:Type}(t:Tr α)(k:Nat)(x:α):Tr α:=Tr.setF (k+1) t k x
def Tr.erase {α:Type}:Tr α→Nat→Tr α
 | .nil,_=> .nil
 | .node v l r,k=>bif Nat.beq k 0 then .node none l r else bif Nat.beq (k%2) 1 then .node v (l.erase (k/2)) r else .node v l (r.erase (k/2-1))
inductive Ar where
 | var (x:Nat)
 | kst (n:Int)
inductive Nd where
 | bin (op:BinOp) (k:IntKind) (a b:Ar)
 | conv (k:IntKind) (a:Ar)
 | cmp (op:BinOp) (a b:Ar)
 | addS (a b c:Ar)
 | addC (a b c:Ar)
 | subS (a b c:Ar)
 | subC (a b c:Ar)
 | lin (a b:Ar) (c:Int)
 | mn (a b:Ar)
 | rd (A:Nat) (x:Ar)
 | sel (l:List Ar) (x:Ar)
 | len (A:Nat)
 | fn (f:Nat) (is:List Ar) (az:List Nat) (j:Nat)
 | seq (A B:Nat)
 | leq (A B:Nat)
inductive Ad where
 | lit (l:List Ar)
 | set (A:Nat) (x v:Ar)
 | sub (A:Nat) (off n:Ar)
 | cat (A B:Nat)
 | rep (n v:Ar)
 | cpy (A:Nat) (off:Ar) (B:Nat)
 | fn (f:Nat) (is:List Ar) (az:List Nat)
inductive Df where
 | n (x:Nat) (nd:Nd)
 | a (A:Nat) (ad:Ad)
inductive Ob where
 | le (a b:Ar)
 | lt (a b:Ar)
 | eq (a b:Ar)
 | inA (x:Ar) (A:Nat)
 | lenA (x:Ar) (A:Nat)
 | fits (off n:Ar) (A:Nat)
 | boo (x:Nat) (t:Bool)
 | prd (p:Nat) (is:List Ar) (az:List Nat)
inductive Sc where
 | kst (v:Value)
 | num (k:IntKind) (x:Nat)
 | boo (x:Nat)
 | opq (j:Nat)
 | ptr (b:Nat) (off:Ar)
 | sl (b:Nat) (off len:Ar) (cap:Option Ar)
 | emp (j:Nat)
 | str (A:Nat)
 | ifp (t:TypeId) (b:Nat) (off:Ar)
 | clo (f:FuncId) (l:List (Nat×Ar))
 | nni (j:Nat)
inductive V1 where
 | sc (x:Sc)
 | agg (l:List Sc)
inductive SV where
 | one (x:V1)
 | tup (l:List V1)
structure Bk where
 n:Nat
 rw:Bool
 cells:Tr Sc
 arr:Option (IntKind×Nat×Bool)
structure St where
 ni:Nat
 nx:Nat
 na:Nat
 nb:Nat
 nv:Nat
 defs:List Df
 obs:List Ob
 orc:List Bool
 gl:Tr SV
 bks:Tr Bk
def iop (op:BinOp)(k:IntKind)(x y:Int):Int :=
 match op with
 | .add=>k.wrap (x+y)
 | .sub=>k.wrap (x-y)
 | .mul=>k.wrap (x*y)
 | .quo=>k.wrap (x.tdiv y)
 | .rem=>x.tmod y
 | .and=>k.wrap (BitVec.ofInt k.bits x&&&BitVec.ofInt k.bits y).toNat
 | .or=>k.wrap (BitVec.ofInt k.bits x|||BitVec.ofInt k.bits y).toNat
 | .xor=>k.wrap (BitVec.ofInt k.bits x^^^BitVec.ofInt k.bits y).toNat
 | .andNot=>k.wrap (BitVec.ofInt k.bits x&&& ~~~ BitVec.ofInt k.bits y).toNat
 | .shl=>k.wrap (x*2^(min y.toNat k.bits))
 | .shr=>x.fdiv (2^(min y.toNat k.bits))
 | _=>0
def icmp (op:BinOp)(x y:Int):Bool :=
 match op with
 | .eql=>x==y
 | .neq=>x != y
 | .lss=>decide (x<y)
 | .leq=>decide (x≤y)
 | .gtr=>decide (x>y)
 | .geq=>decide (x≥y)
 | _=>false
def symOk (op:BinOp)(b:Ar):Bool :=
 match op with
 | .add | .sub | .mul | .and | .or | .xor | .andNot=>true
 | .quo | .rem=>match b with | .kst n=> !(n==0) | _=>false
 | .shl | .shr=>match b with | .kst n=> !(decide (n<0)) | _=>false
 | _=>false
def cmpOk (op:BinOp):Bool :=
 match op with
 | .eql | .neq | .lss | .leq | .gtr | .geq=>true
 | _=>false
def Sc.ar:Sc→Option (IntKind×Ar)
 | .kst (.int k n)=>some (k,.kst n)
 | .num k x=>some (k,.var x)
 | _=>none
def St.mk1 (σ:St)(nd:Nd):St:={σ with nx:=σ.nx+1,defs:= .n σ.nx nd::σ.defs}
def St.mkA (σ:St)(ad:Ad):St:={σ with na:=σ.na+1,defs:= .a σ.na ad::σ.defs}
def St.ob (σ:St)(o:Ob):St:={σ with obs:=o::σ.obs}
def kindB (a b:IntKind):Bool :=
 match a,b with
 | .i8,.i8 | .i16,.i16 | .i32,.i32 | .i64,.i64 | .u8,.u8 | .u16,.u16 | .u32,.u32 | .u64,.u64=>true
 | _,_=>false
def notShift:BinOp→Bool
 | .shl | .shr=>false
 | _=>true
def St.le (σ:St)(a b:Ar):Option St :=
 match a,b with
 | .kst n,.kst m=>bif decide (n≤m) then some σ else none
 | a,b=>some (σ.ob (.le a b))
def St.lt (σ:St)(a b:Ar):Option St :=
 match a,b with
 | .kst n,.kst m=>bif decide (n<m) then some σ else none
 | a,b=>some (σ.ob (.lt a b))
def St.eq (σ:St)(a b:Ar):Option St :=
 match a,b with
 | .kst n,.kst m=>bif decide (n=m) then some σ else none
 | a,b=>some (σ.ob (.eq a b))
def lin (a b:Ar)(c:Int)(σ:St):Ar×St :=
 match a,b with
 | .kst n,.kst m=>(.kst (n+m*c),σ)
 | a,.kst m=>bif m==0 then (a,σ) else (.var σ.nx,σ.mk1 (.lin a (.kst m) c))
 | a,b=>(.var σ.nx,σ.mk1 (.lin a b c))
def shVar (op:BinOp)(b:Ar):Bool :=
 match op,b with
 | .shl,.var _=>true
 | .shr,.var _=>true
 | _,_=>false
def binI (op:BinOp)(k:IntKind)(a b:Ar)(σ:St):Option (Sc×St) :=
 bif symOk op b then
  match a,b with
  | .kst n,.kst m=>some (.kst (.int k (iop op k n m)),σ)
  | a,b=>some (.num k σ.nx,σ.mk1 (.bin op k a b))
 else bif shVar op b then some (.num k σ.nx,(σ.ob (.le (.kst 0) b)).mk1 (.bin op k a b)) else none
def cmpI (op:BinOp)(a b:Ar)(σ:St):Sc×St :=
 match a,b with
 | .kst n,.kst m=>(.kst (.bool (icmp op n m)),σ)
 | a,b=>(.boo σ.nx,σ.mk1 (.cmp op a b))
def boolI (op:BinOp)(a b:Bool)(σ:St):Option (Sc×St) :=
 match op with
 | .eql=>some (.kst (.bool (a==b)),σ)
 | .neq=>some (.kst (.bool (!(a==b))),σ)
 | _=>none
def doBin (P:Program)(op:BinOp)(xt:TypeId)(x y:Sc)(σ:St):Option (Sc×St) :=
 match x.ar,y.ar with
 | some (k,a),some (k',b) =>
  bif notShift op then
   bif kindB k k' then
    bif cmpOk op then some (cmpI op a b σ) else binI op k a b σ
   else none
  else binI op k a b σ
 | _,_ =>
  match x,y,P.underlying xt with
  | .kst (.bool a),.kst (.bool b),some .bool=>boolI op a b σ
  | _,_,_=>none
def doUn (op:UnOp)(x:Sc)(σ:St):Option (Sc×St) :=
 match op,x with
 | .not,.kst (.bool b)=>some (.kst (.bool !b),σ)
 | .not,.boo x=>some (.boo σ.nx,σ.mk1 (.cmp .eql (.var x) (.kst 0)))
 | .neg,x =>
  match x.ar with
  | some (k,a)=>binI .sub k (.kst 0) a σ
  | none=>none
 | .xor,x =>
  match x.ar with
  | some (k,a)=>binI .xor k (.kst (if k.signed then -1 else k.max)) a σ
  | none=>none
 | _,_=>none
def doConv (k:IntKind)(x:Sc)(σ:St):Option (Sc×St) :=
 match x.ar with
 | some (_,.kst n)=>some (.kst (.int k (k.wrap n)),σ)
 | some (_,.var y)=>some (.num k σ.nx,σ.mk1 (.conv k (.var y)))
 | none=>none
def cellOk:Value→Bool
 | .agg _ | .tuple _=>false
 | _=>true
def ofCells:List Value→Option (List Sc)
 | []=>some []
 | v::l=>bif cellOk v then (ofCells l).map (Sc.kst v:: ·) else none
def ofConst (v:Value):Option SV :=
 match v with
 | .agg cs=>(ofCells cs.toList).map fun l=> .one (.agg l)
 | .tuple _=>none
 | v=>some (.one (.sc (.kst v)))
def evalO (T:Tr SV):Operand→Option SV
 | .tmp t=>T.get (2*t)
 | .const v=>ofConst v
 | .global g=>match T.get (2*g+1) with
  | some v=>some v
  | none=>some (.one (.sc (.kst (.pointer (some ⟨g,0,none⟩)))))
 | .func f=>some (.one (.sc (.kst (.func (.func f) #[] #[]))))
def V1.cells:V1→List Sc
 | .sc x=>[x]
 | .agg l=>l
def arsN (t:Tr Sc)(k:IntKind):Nat→Nat→Option (List Ar)
 | _,0=>some []
 | o,n+1=>match t.get o with
  | some x=>match x.ar with
   | some (k',a)=>bif kindB k k' then
    match arsN t k (o+1) n with
    | some l=>some (a::l)
    | none=>none
    else none
   | none=>none
  | none=>none
def kindAt (t:Tr Sc):Option IntKind :=
 match t.get 0 with
 | some x=>x.ar.map (·.1)
 | none=>none
def St.load1 (σ:St)(b:Nat)(off:Ar):Option (Sc×St) :=
 match σ.bks.get b with
 | some B=>match B.arr with
  | none=>match off with
   | .kst (.ofNat o)=>(B.cells.get o).map fun x=>(x,σ)
   | off=>match kindAt B.cells with
    | some k=>match arsN B.cells k 0 B.n with
     | some l=>match (σ.le (.kst 0) off).bind (·.lt off (.kst B.n)) with
      | some σ=>some (.num k σ.nx,σ.mk1 (.sel l off))
      | none=>none
     | none=>none
    | none=>none
  | some (k,A,_)=>some (.num k σ.nx,(σ.ob (.inA off A)).mk1 (.rd A off))
 | none=>none
def St.loadN (b:Nat):Nat→Nat→St→Option (List Sc×St)
 | _,0,σ=>some ([],σ)
 | off,n+1,σ =>
  match σ.load1 b (.kst (.ofNat off)) with
  | some (x,σ)=>match St.loadN b (off+1) n σ with
   | some (l,σ)=>some (x::l,σ)
   | none=>none
  | none=>none
def St.toArr (σ:St)(b:Nat):Option (IntKind×Nat×St) :=
 match σ.bks.get b with
 | some B=>match B.arr with
  | some (k,A,_)=>some (k,A,σ)
  | none=>match kindAt B.cells with
   | some k=>match arsN B.cells k 0 B.n with
    | some l =>
     let σ1:=σ.mkA (.lit l)
     some (k,σ.na,{σ1 with bks:=σ1.bks.set b {B with arr:=some (k,σ.na,false)}})
    | none=>none
   | none=>none
 | none=>none
def St.setB (σ:St)(b:Nat)(B:Bk):St:={σ with bks:=σ.bks.set b B}
def Bk.cellAt (B:Bk)(off:Ar):Option Nat :=
 match B.arr,off with
 | none,.kst (.ofNat o)=>some o
 | _,_=>none
def Bk.noGrow (B:Bk):Bool :=
 match B.arr with
 | some (_,_,g)=> !g
 | none=>true
def St.store1 (σ:St)(b:Nat)(off:Ar)(x:Sc):Option St :=
 match σ.bks.get b with
 | some B=>bif B.rw then
  match B.cellAt off with
  | some o=>bif Nat.blt o B.n then some (σ.setB b {B with cells:=B.cells.set o x}) else none
  | none=>match σ.toArr b,x.ar with
   | some (k,A,σ),some (k',v)=>match σ.bks.get b with
    | some B=>match B.arr with
     | some (_,_,g)=>bif kindB k k' then
      let σ:=(σ.ob (.inA off A)).mkA (.set A off v)
      some (σ.setB b {B with arr:=some (k,σ.na-1,g)})
      else none
     | none=>none
    | none=>none
   | _,_=>none
  else none
 | none=>none
def St.storeL (b:Nat):Nat→List Sc→St→Option St
 | _,[],σ=>some σ
 | off,x::l,σ =>
  match σ.store1 b (.kst (.ofNat off)) x with
  | some σ=>St.storeL b (off+1) l σ
  | none=>none
def trOf:Nat→List Sc→Tr Sc→Tr Sc
 | _,[],t=>t
 | k,x::l,t=>trOf (k+1) l (t.set k x)
def St.storeAll (b:Nat)(l:List Sc)(σ:St):Option St :=
 match σ.bks.get b with
 | some B=>bif B.rw&&Nat.beq l.length B.n&&B.noGrow then
  match B.arr with
  | none=>some (σ.setB b {B with cells:=trOf 0 l .nil})
  | some (_,A,_)=>some ((σ.ob (.lenA (.kst B.n) A)).setB b {B with cells:=trOf 0 l .nil,arr:=none})
  else none
 | none=>none
def St.newB (σ:St)(l:List Sc):St :=
 {σ with bks:=σ.bks.set σ.nb {n:=l.length,rw:=true,cells:=trOf 0 l .nil,arr:=none},nb:=σ.nb+1}
def lset (l:List Sc)(k:Nat)(x:Sc):List Sc :=
 match l,k with
 | [],_=>[]
 | _::l,0=>x::l
 | y::l,k+1=>y::lset l k x
def lsetL (l:List Sc)(k:Nat):List Sc→List Sc
 | []=>l
 | x::r=>lsetL (lset l k x) (k+1) r
def fillS (place:Nat→Option (Nat×Nat))(cells:List Sc):List (Nat×List Sc)→Option (List Sc)
 | []=>some cells
 | (i,v)::rest =>
  match place i with
  | none=>none
  | some (off,size) =>
   bif Nat.beq v.length size&&Nat.ble (off+v.length) cells.length then fillS place (lsetL cells off v) rest else none
def isAggB (P:Program)(t:TypeId):Option Bool :=
 match P.underlying t with
 | some (.struct _) | some (.array _ _)=>some true
 | some _=>some false
 | none=>none
def sizeB (P:Program)(t:TypeId):Option Nat:=(P.info? t).map (·.size)
def zeroB (P:Program)(t:TypeId):Option (List Sc) :=
 match P.info? t with
 | some i=>match i.zero with
  | some z=>ofCells z.cells.toList
  | none=>none
 | none=>none
def optAr (T:Tr SV):Option Operand→Option (Option Ar)
 | none=>some none
 | some x=>match evalO T x with
  | some (.one (.sc y))=>match y.ar with
   | some (_,a)=>some (some a)
   | none=>none
  | _=>none
def partsS (T:Tr SV):List (Nat×Operand)→Option (List (Nat×List Sc))
 | []=>some []
 | (i,x)::r =>
  match evalO T x with
  | some (.one v)=>(partsS T r).map ((i,v.cells):: ·)
  | _=>none
def placesB (P:Program):List Field→Option (List (Nat×Nat))
 | []=>some []
 | f::r=>match sizeB P f.type with
  | some n=>(placesB P r).map ((f.offset,n):: ·)
  | none=>none
def nget:List (Nat×Nat)→Nat→Option (Nat×Nat)
 | [],_=>none
 | x::_,0=>some x
 | _::l,k+1=>nget l k
def sget:List Sc→Nat→Option Sc
 | [],_=>none
 | x::_,0=>some x
 | _::l,k+1=>sget l k
def vget:List V1→Nat→Option V1
 | [],_=>none
 | x::_,0=>some x
 | _::l,k+1=>vget l k
def ldrop:List Sc→Nat→List Sc
 | l,0=>l
 | [],_=>[]
 | _::l,k+1=>ldrop l k
def ltake:List Sc→Nat→List Sc
 | _,0=>[]
 | [],_=>[]
 | x::l,k+1=>x::ltake l k
def partS (P:Program)(t:TypeId)(l:List Sc)(off:Nat):Option V1 :=
 match isAggB P t,sizeB P t with
 | some true,some n=>some (.agg (ltake (ldrop l off) n))
 | some false,_=>(sget l off).map .sc
 | _,_=>none
def arsL (k:IntKind):List Sc→Option (List Ar)
 | []=>some []
 | x::l=>match x.ar with
  | some (k',a)=>bif kindB k k' then (arsL k l).map (a:: ·) else none
  | none=>none
def aggEq (P:Program)(op:BinOp)(xt:TypeId)(l m:List Sc)(σ:St):Option (Sc×St) :=
 match op,P.underlying xt with
 | .eql,some (.array n e)=>match P.underlying e,sizeB P e with
  | some (.int k),some 1=>match arsL k l,arsL k m with
   | some az,some bs=>bif Nat.beq az.length n&&Nat.beq bs.length n&& !(P.eqGuardType P.depth xt) then
    some (.boo σ.nx,((σ.mkA (.lit az)).mkA (.lit bs)).mk1 (.leq σ.na (σ.na+1)))
    else none
   | _,_=>none
  | _,_=>none
 | _,_=>none
def nilEq (P:Program)(op:BinOp)(xt:TypeId)(x:Sc)(y:Operand):Option Bool :=
 match op,P.underlying xt,x,y with
 | .neq,some (.interface _),.kst .nilIface,.const .nilIface=>some false
 | .neq,some (.interface _),.ifp ..,.const .nilIface=>some true
 | .neq,some (.interface _),.nni _,.const .nilIface=>some true
 | .eql,some (.interface _),.kst .nilIface,.const .nilIface=>some true
 | .eql,some (.interface _),.ifp ..,.const .nilIface=>some false
 | .eql,some (.interface _),.nni _,.const .nilIface=>some false
 | _,_,_,_=>none
def one (x:Sc):SV:= .one (.sc x)
def Tr.ro:Tr Bk→Tr Bk
 | .nil=> .nil
 | .node v l r=> .node (match v with | some B=>some {B with rw:=false} | none=>none) l.ro r.ro
def Tr.onlyRo:Tr Bk→Tr Bk
 | .nil=> .nil
 | .node v l r=> .node (match v with | some B=>bif B.rw then none else some B | none=>none) l.onlyRo r.onlyRo
def St.ask (σ:St):Option (Bool×St) :=
 match σ.orc with
 | t::r=>some (t,{σ with orc:=r})
 | []=>none
def slDone (b:Nat)(off' l h:Ar)(cap:Option Ar)(σ:St):Sc×St :=
 match cap with
 | some c=>(.sl b off' (lin h l (-1) σ).1 (some (lin c l (-1) (lin h l (-1) σ).2).1),(lin c l (-1) (lin h l (-1) σ).2).2)
 | none=>(.sl b off' (lin h l (-1) σ).1 none,(lin h l (-1) σ).2)
def slStrict (l m:Ar)(σ:St):Option (Bool×St) :=
 match l,m with
 | .kst n,.kst m=>some (decide (n<m),σ)
 | _,_=>σ.ask
def isZ:Ar→Bool
 | .kst (.ofNat 0)=>true
 | _=>false
def capSz (cap:Option Ar)(sz:Nat):Bool :=
 match cap with
 | none=>Nat.beq sz 1
 | some _=>true
def doSlice (b:Nat)(off len:Ar)(cap:Option Ar)(lo hi:Option Ar)(sz:Nat)(σ:St):Option (Sc×St) :=
 match (σ.le (.kst 0) (lo.getD (.kst 0))).bind fun σ=>(σ.le (lo.getD (.kst 0)) (hi.getD len)).bind (·.le (hi.getD len) (cap.getD len)) with
 | none=>none
 | some σ =>
  bif isZ (lo.getD (.kst 0)) then some (slDone b off (lo.getD (.kst 0)) (hi.getD len) cap σ) else
   match slStrict (lo.getD (.kst 0)) (cap.getD len) σ with
   | some (true,σ)=>match (bif capSz cap sz then σ.lt (lo.getD (.kst 0)) (cap.getD len) else none) with
    | some σ=>some (slDone b (lin off (lo.getD (.kst 0)) sz σ).1 (lo.getD (.kst 0)) (hi.getD len) cap (lin off (lo.getD (.kst 0)) sz σ).2)
    | none=>none
   | some (false,σ)=>match σ.eq (lo.getD (.kst 0)) (hi.getD len) with
    | some σ=>some (.emp σ.nv,{σ with nv:=σ.nv+1})
    | none=>none
   | none=>none
def strSlice (s:ByteArray)(lo hi:Option Ar):Option ByteArray :=
 match lo.getD (.kst 0),hi.getD (.kst (Int.ofNat s.size)) with
 | .kst (.ofNat l),.kst (.ofNat h)=>bif Nat.ble l h&&Nat.ble h s.size then some (s.extract l h) else none
 | _,_=>none
def op1 (P:Program)(T:Tr SV)(σ:St)(o:Op):Option (Option SV×St) :=
 match o with
 | .move x | .assign x=>match evalO T x with
  | some v=>some (some v,σ)
  | none=>none
 | .pick c a b=>match evalO T c with
  | some (.one (.sc (.kst (.bool t))))=>match evalO T (bif t then a else b) with
   | some v=>some (some v,σ)
   | none=>none
  | _=>none
 | .alloc t=>match zeroB P t with
  | some l=>some (some (one (.ptr σ.nb (.kst 0))),σ.newB l)
  | none=>none
 | .box _ x=>match evalO T x with
  | some (.one v)=>some (some (one (.ptr σ.nb (.kst 0))),σ.newB v.cells)
  | _=>none
 | .build t parts=>match zeroB P t,partsS T parts.toList with
  | some z,some ps=>match P.underlying t with
   | some (.struct fields)=>match placesB P fields.toList with
    | some pl=>match fillS (nget pl) z ps with
     | some l=>some (some (.one (.agg l)),σ)
     | none=>none
    | none=>none
   | some (.array _ e)=>match sizeB P e with
    | some n=>match fillS (fun i=>some (i*n,n)) z ps with
     | some l=>some (some (.one (.agg l)),σ)
     | none=>none
    | none=>none
   | _=>none
  | _,_=>none
 | .load t x=>match evalO T x,isAggB P t with
  | some (.one (.sc (.ptr b (.kst (.ofNat off))))),some true=>match sizeB P t with
   | some n=>match St.loadN b off n σ with
    | some (l,σ)=>some (some (.one (.agg l)),σ)
    | none=>none
   | none=>none
  | some (.one (.sc (.ptr b off))),some false=>match σ.load1 b off with
   | some (v,σ)=>some (some (one v),σ)
   | none=>none
  | some (.one (.sc (.kst (.pointer (some _))))),some true=>match sizeB P t with
   | some 0=>some (some (.one (.agg [])),σ)
   | _=>none
  | _,_=>none
 | .store t x y=>match evalO T x,evalO T y,sizeB P t with
  | some (.one (.sc (.ptr b (.kst (.ofNat off))))),some (.one v),some n=>bif Nat.beq v.cells.length n then
   match (match v with | .agg l=>bif Nat.beq off 0 then St.storeAll b l σ else none | .sc _=>none) with
   | some σ=>some (none,σ)
   | none=>match St.storeL b off v.cells σ with
    | some σ=>some (none,σ)
    | none=>none
   else none
  | some (.one (.sc (.ptr b off))),some (.one (.sc v)),some 1=>match σ.store1 b off v with
   | some σ=>some (none,σ)
   | none=>none
  | _,_,_=>none
 | .nilCheck x=>match evalO T x with
  | some (.one (.sc (.ptr b off)))=>some (some (one (.ptr b off)),σ)
  | some (.one (.sc (.kst (.pointer (some a)))))=>some (some (one (.kst (.pointer (some a)))),σ)
  | some (.one (.sc (.ifp t b off)))=>some (some (one (.ifp t b off)),σ)
  | some (.one (.sc (.clo f l)))=>some (some (one (.clo f l)),σ)
  | some (.one (.sc (.kst (.func (.func f) a b))))=>some (some (one (.kst (.func (.func f) a b))),σ)
  | _=>none
 | .binOp op xt x y _=>match evalO T x,evalO T y with
  | some (.one (.sc x')),some (.one (.sc y'))=>match doBin P op xt x' y' σ with
   | some (v,σ)=>some (some (one v),σ)
   | none=>match nilEq P op xt x' y with
    | some b=>some (some (one (.kst (.bool b))),σ)
    | none=>none
  | some (.one (.agg l)),some (.one (.agg m))=>match aggEq P op xt l m σ with
   | some (v,σ)=>some (some (one v),σ)
   | none=>none
  | _,_=>none
 | .unOp op _ x=>match evalO T x with
  | some (.one (.sc x))=>match doUn op x σ with
   | some (v,σ)=>some (some (one v),σ)
   | none=>none
  | _=>none
 | .convert s d x=>match evalO T x,P.underlying s,P.underlying d with
  | some (.one (.sc x)),some _,some (.int k)=>match doConv k x σ with
   | some (v,σ)=>some (some (one v),σ)
   | none=>none
  | _,_,_=>none
 | .sliceToArrayPointer t x=>match evalO T x,P.underlying t with
  | some (.one (.sc (.sl b off len _))),some (.array n _)=>match σ.le (.kst n) len with
   | some σ=>some (some (one (.ptr b off)),σ)
   | none=>none
  | _,_=>none
 | .slice t x lo hi mx=>match evalO T x,optAr T lo,optAr T hi,mx,P.underlying t with
  | some (.one (.sc (.ptr b off))),some lo,some hi,none,some (.array n e)=>match sizeB P e with
   | some sz=>match doSlice b off (.kst n) (some (.kst n)) lo hi sz σ with
    | some (v,σ)=>some (some (one v),σ)
    | none=>none
   | none=>none
  | some (.one (.sc (.sl b off len cap))),some lo,some hi,none,some (.slice e)=>match sizeB P e with
   | some sz=>match doSlice b off len cap lo hi sz σ with
    | some (v,σ)=>some (some (one v),σ)
    | none=>none
   | none=>none
  | some (.one (.sc (.kst (.string s)))),some lo,some hi,none,some .string=>match strSlice s lo hi with
   | some r=>some (some (one (.kst (.string r))),σ)
   | none=>none
  | some (.one (.sc (.kst (.slice none 0 0)))),some lo,some hi,none,some (.slice e)=>match sizeB P e with
   | some _=>match (σ.le (.kst 0) (lo.getD (.kst 0))).bind fun σ=>(σ.le (lo.getD (.kst 0)) (hi.getD (.kst 0))).bind (·.le (hi.getD (.kst 0)) (.kst 0)) with
    | some σ=>some (some (one (.kst (.slice none 0 0))),σ)
    | none=>none
   | none=>none
  | some (.one (.sc (.emp j))),some lo,some hi,none,some (.slice e)=>match sizeB P e with
   | some _=>bif isZ (lo.getD (.kst 0))&&isZ (hi.getD (.kst 0)) then some (some (one (.emp j)),σ) else none
   | none=>none
  | _,_,_,_,_=>none
 | .fieldAddr s x f=>match evalO T x,P.underlying s with
  | some (.one (.sc (.ptr b off))),some (.struct fields)=>match fields[f]? with
   | some fd=>match sizeB P fd.type with
    | some n=>bif Nat.beq n 0 then none else
     let (a,σ):=lin off (.kst fd.offset) 1 σ
     some (some (one (.ptr b a)),σ)
    | none=>none
   | none=>none
  | _,_=>none
 | .field s x f=>match evalO T x,P.underlying s with
  | some (.one (.agg l)),some (.struct fields)=>match fields[f]? with
   | some fd=>match partS P fd.type l fd.offset with
    | some v=>some (some (.one v),σ)
    | none=>none
   | none=>none
  | _,_=>none
 | .indexAddr t x ix=>match evalO T x,evalO T ix,P.underlying t with
  | some (.one (.sc (.ptr b off))),some (.one (.sc i)),some (.array n e)=>match i.ar,sizeB P e with
   | some (_,i),some sz=>match (σ.le (.kst 0) i).bind (·.lt i (.kst n)) with
    | some σ=>let (a,σ):=lin off i sz σ;some (some (one (.ptr b a)),σ)
    | none=>none
   | _,_=>none
  | some (.one (.sc (.sl b off len _))),some (.one (.sc i)),some (.slice e)=>match i.ar,sizeB P e with
   | some (_,i),some sz=>match (σ.le (.kst 0) i).bind (·.lt i len) with
    | some σ=>let (a,σ):=lin off i sz σ;some (some (one (.ptr b a)),σ)
    | none=>none
   | _,_=>none
  | _,_,_=>none
 | .index t x ix=>match evalO T x,evalO T ix,P.underlying t with
  | some (.one (.agg l)),some (.one (.sc i)),some (.array n e)=>match i.ar,sizeB P e with
   | some (_,.kst (.ofNat i)),some sz=>bif Nat.blt i n then
    match partS P e l (i*sz) with
    | some v=>some (some (.one v),σ)
    | none=>none
    else none
   | some (_,i),some 1=>match isAggB P e,P.underlying e with
    | some false,some (.int k)=>match arsL k l with
     | some az=>bif Nat.beq az.length n then
      match (σ.le (.kst 0) i).bind (·.lt i (.kst n)) with
      | some σ=>some (some (one (.num k σ.nx)),σ.mk1 (.sel az i))
      | none=>none
      else none
     | none=>none
    | _,_=>none
   | _,_=>none
  | some (.one (.sc (.kst (.string s)))),some (.one (.sc i)),some .string=>match i.ar with
   | some (_,.kst (.ofNat i))=>match s.data.toList[i]? with
    | some b=>some (some (one (.kst (.int .u8 b.toNat))),σ)
    | none=>none
   | _=>none
  | _,_,_=>none
 | .extract x i=>match evalO T x with
  | some (.tup l)=>match vget l i with
   | some v=>some (some (.one v),σ)
   | none=>none
  | _=>none
 | .call {callee:= .builtin .len,args,argTypes}=>match args.toList,argTypes.toList with
  | [x],[t]=>match evalO T x,P.underlying t with
   | some (.one (.sc (.sl _ _ len _))),some (.slice _)=>match len with
    | .kst n=>match σ.le (.kst 0) (.kst n) with
     | some σ=>some (some (one (.kst (.int .i64 n))),σ)
     | none=>none
    | .var x=>match σ.le (.kst 0) (.var x) with
     | some σ=>some (some (one (.num .i64 x)),σ)
     | none=>none
   | some (.one (.sc (.emp _))),some (.slice _)=>some (some (one (.kst (.int .i64 0))),σ)
   | some (.one (.sc (.kst (.slice none n _)))),some (.slice _)=>some (some (one (.kst (.int .i64 n))),σ)
   | some _,some (.array n _)=>some (some (one (.kst (.int .i64 n))),σ)
   | some (.one (.sc (.kst (.string s)))),some .string=>some (some (one (.kst (.int .i64 s.size))),σ)
   | some _,some (.pointer p)=>match P.underlying p with
    | some (.array n _)=>some (some (one (.kst (.int .i64 n))),σ)
    | _=>none
   | _,_=>none
  | _,_=>none
 | .call {callee:= .builtin .min,args,..}=>match args.toList with
  | [x,y]=>match evalO T x,evalO T y with
   | some (.one (.sc x)),some (.one (.sc y))=>match x.ar,y.ar with
    | some (k,a),some (k',b)=>bif kindB k k' then
     match a,b with
     | .kst n,.kst m=>some (some (one (.kst (.int k (if m<n then m else n)))),σ)
     | a,b=>some (some (one (.num k σ.nx)),σ.mk1 (.mn a b))
     else none
    | _,_=>none
   | _,_=>none
  | _=>none
 | _=>none
def runLen (t:Tr Sc)(k:IntKind):Nat→Nat→Nat
 | 0,_=>0
 | f+1,o=>match t.get o with
  | some x=>match x.ar with
   | some (k',_)=>bif kindB k k' then runLen t k f (o+1)+1 else 0
   | none=>0
  | none=>0
def St.rng (σ:St)(k:IntKind)(b:Nat)(off n:Ar):Option (Nat×St) :=
 match σ.bks.get b with
 | some B=>match B.arr with
  | some (k',A,_)=>bif kindB k k' then some (σ.na,(σ.ob (.fits off n A)).mkA (.sub A off n)) else none
  | none=>match off,n with
   | .kst (.ofNat o),.kst (.ofNat m)=>match arsN B.cells k o m with
    | some l=>some (σ.na,σ.mkA (.lit l))
    | none=>none
   | _,_=>match arsN B.cells k 0 B.n with
    | some l=>some (σ.na+1,((σ.mkA (.lit l)).ob (.fits off n σ.na)).mkA (.sub σ.na off n))
    | none=>match off with
     | .kst (.ofNat o)=>match arsN B.cells k o (runLen B.cells k (B.n-o) o) with
      | some l=>some (σ.na+1,((σ.mkA (.lit l)).ob (.fits (.kst 0) n σ.na)).mkA (.sub σ.na (.kst 0) n))
      | none=>none
     | _=>none
 | none=>none
def bytesL (s:ByteArray):List Ar:=s.data.toList.map fun b=> .kst b.toNat
def St.src (σ:St)(P:Program)(k:IntKind)(tx:TypeId)(x:SV):Option (Ar×Nat×St) :=
 match x,P.underlying tx with
 | .one (.sc (.sl b off len _)),some (.slice _)=>match σ.rng k b off len with
  | some (X,σ)=>some (len,X,σ)
  | none=>none
 | .one (.sc (.kst (.slice none 0 _))),some (.slice _)=>some (.kst 0,σ.na,σ.mkA (.lit []))
 | .one (.sc (.emp _)),some (.slice _)=>some (.kst 0,σ.na,σ.mkA (.lit []))
 | .one (.sc (.kst (.string s))),some .string=>bif kindB k .u8 then some (.kst s.size,σ.na,σ.mkA (.lit (bytesL s))) else none
 | _,_=>none
def St.wrtN (b:Nat)(k:IntKind)(X:Nat):Nat→Nat→Nat→St→Option St
 | _,_,0,σ=>some σ
 | o,j,m+1,σ =>
  match (σ.mk1 (.rd X (.kst (.ofNat j)))).store1 b (.kst (.ofNat o)) (.num k σ.nx) with
  | some σ=>St.wrtN b k X (o+1) (j+1) m σ
  | none=>none
def St.wrtA (σ:St)(b:Nat)(off:Ar)(k:IntKind)(X:Nat)(n:Ar):Option St :=
 match σ.bks.get b with
 | some B=>bif B.rw then
  match σ.toArr b with
  | some (k',A,σ)=>match σ.bks.get b with
   | some B=>match B.arr with
    | some (_,_,g)=>bif kindB k k' then
     let σ:=(σ.ob (.fits off n A)).mkA (.cpy A off X)
     some (σ.setB b {B with arr:=some (k,σ.na-1,g)})
     else none
    | none=>none
   | none=>none
  | none=>none
  else none
 | none=>none
def St.wrtM (σ:St)(B:Bk)(b:Nat)(off:Ar)(k:IntKind)(X:Nat)(n:Ar):Option St :=
 match (bif B.rw then B.cellAt off else none) with
 | some o=>match arsN B.cells k o (runLen B.cells k (B.n-o) o) with
  | some l=>St.wrtN b k (σ.na+1) o 0 l.length (((σ.mkA (.lit l)).ob (.fits (.kst 0) n σ.na)).mkA (.cpy σ.na (.kst 0) X))
  | none=>none
 | none=>none
def firstK (t:Tr Sc)(k:IntKind):Nat→Nat→Option Nat
 | 0,_=>none
 | f+1,o=>match t.get o with
  | some x=>match x.ar with
   | some (k',_)=>bif kindB k k' then some o else firstK t k f (o+1)
   | none=>firstK t k f (o+1)
  | none=>firstK t k f (o+1)
def St.wrtS (σ:St)(B:Bk)(b:Nat)(off:Ar)(k:IntKind)(X:Nat)(n:Ar):Option St :=
 match B.rw,B.arr,off,firstK B.cells k B.n 0 with
 | true,none,.var x,some o=>match arsN B.cells k o (runLen B.cells k (B.n-o) o) with
  | some l=>St.wrtN b k (σ.na+1) o 0 l.length ((((σ.mk1 (.lin (.var x) (.kst o) (-1))).mkA (.lit l)).ob (.fits (.var σ.nx) n σ.na)).mkA (.cpy σ.na (.var σ.nx) X))
  | none=>none
 | _,_,_,_=>none
def St.wrt (σ:St)(b:Nat)(off:Ar)(k:IntKind)(X:Nat)(n:Ar):Option St :=
 match σ.bks.get b with
 | some B=>match B.cellAt off,n with
  | some o,.kst (.ofNat m)=>St.wrtN b k X o 0 m σ
  | _,_=>match σ.wrtA b off k X n with
   | some σ=>some σ
   | none=>match σ.wrtM B b off k X n with
    | some σ=>some σ
    | none=>σ.wrtS B b off k X n
 | none=>none
def St.newA (σ:St)(k:IntKind)(A:Nat)(g:Bool):St :=
 {σ with bks:=σ.bks.set σ.nb {n:=0,rw:=true,cells:= .nil,arr:=some (k,A,g)},nb:=σ.nb+1}
def zeroIs (i:TypeInfo)(k:IntKind):Bool :=
 match i.zero with
 | some (.int k' n)=>kindB k k'&&Decidable.decide (n=0)
 | _=>false
def elemK (P:Program)(e:TypeId):Option IntKind :=
 match P.underlying e,P.info? e with
 | some (.int k),some i=>bif Nat.beq i.size 1&&Nat.ble i.bytes 8&&zeroIs i k then some k else none
 | _,_=>none
def most:Int:=1099511627776
def St.decide (σ:St)(a b:Ar):Option (Bool×St) :=
 match a,b with
 | .kst n,.kst m=>some (Decidable.decide (n≤m),σ)
 | _,_=>σ.ask
def appendS (P:Program)(k:IntKind)(tx:TypeId)(s x:SV)(σ:St):Option (SV×St) :=
 match s with
 | .one (.sc (.kst (.slice none 0 0)))=>match σ.src P k tx x with
  | some (n,X,σ)=>match σ.decide n (.kst 0) with
   | some (true,σ)=>match σ.eq n (.kst 0) with
    | some σ=>some (one (.kst (.slice none 0 0)),σ)
    | none=>none
   | some (false,σ)=>match (σ.lt (.kst 0) n).bind (·.le n (.kst most)) with
    | some σ=>some (one (.sl σ.nb (.kst 0) n none),σ.newA k X true)
    | none=>none
   | none=>none
  | none=>none
 | .one (.sc (.sl b off (.kst (.ofNat 0)) (some (.kst (.ofNat 0)))))=>match σ.src P k tx x with
  | some (n,X,σ)=>match σ.decide n (.kst 0) with
   | some (true,σ)=>match σ.eq n (.kst 0) with
    | some σ=>some (one (.sl b off (.kst (.ofNat 0)) (some (.kst (.ofNat 0)))),σ)
    | none=>none
   | some (false,σ)=>match (σ.lt (.kst 0) n).bind (·.le n (.kst most)) with
    | some σ=>some (one (.sl σ.nb (.kst 0) n none),σ.newA k X true)
    | none=>none
   | none=>none
  | none=>none
 | .one (.sc (.sl b off len (some cap)))=>match σ.src P k tx x with
  | some (n,X,σ) =>
   match (σ.le (.kst 0) len).bind (·.le len cap) with
   | some σ =>
    match (lin len n 1 σ).2.decide (lin len n 1 σ).1 cap with
    | some (true,σ')=>match (σ'.le (lin len n 1 σ).1 cap).bind fun σ''=>(lin off len 1 σ'').2.wrt b (lin off len 1 σ'').1 k X n with
     | some σ'=>some (one (.sl b off (lin len n 1 σ).1 (some cap)),σ')
     | none=>none
    | some (false,σ')=>match (σ'.lt cap (lin len n 1 σ).1).bind (·.le (lin len n 1 σ).1 (.kst most)) with
     | some σ'=>match σ'.rng k b off len with
      | some (O,σ')=>some (one (.sl σ'.nb (.kst 0) (lin len n 1 σ).1 none),(σ'.mkA (.cat O X)).newA k σ'.na true)
      | none=>none
     | none=>none
    | none=>none
   | none=>none
  | none=>none
 | .one (.sc (.sl b (.kst (.ofNat 0)) (.kst (.ofNat 0)) none))=>match σ.src P k tx x with
  | some (n,X,σ)=>match σ.bks.get b with
   | some B=>match B.arr with
    | some (k',_,true)=>bif kindB k k'&&B.rw then
     match σ.le n (.kst most) with
     | some σ'=>some (one (.sl σ'.nb (.kst 0) n none),{σ' with bks:=σ'.bks.erase b}.newA k X false)
     | none=>none
     else none
    | _=>none
   | none=>none
  | none=>none
 | .one (.sc (.sl b (.kst (.ofNat 0)) len none))=>match σ.src P k tx x with
  | some (n,X,σ)=>match σ.bks.get b with
   | some B=>match B.arr with
    | some (k',A,true)=>bif kindB k k'&&B.rw then
     match (lin len n 1 (σ.ob (.lenA len A))).2.le (lin len n 1 (σ.ob (.lenA len A))).1 (.kst most) with
     | some σ'=>some (one (.sl σ'.nb (.kst 0) (lin len n 1 (σ.ob (.lenA len A))).1 none),({σ' with bks:=σ'.bks.erase b}.mkA (.cat A X)).newA k σ'.na true)
     | none=>none
     else none
    | _=>none
   | none=>none
  | none=>none
 | _=>none
def mnA (a b:Ar)(σ:St):Ar×St :=
 match a,b with
 | .kst n,.kst m=>(.kst (if m<n then m else n),σ)
 | a,b=>bif arB' a b then (a,σ) else (.var σ.nx,σ.mk1 (.mn a b))
 where
 arB':Ar→Ar→Bool
  | .var x,.var y=>Nat.beq x y
  | _,_=>false
def strCells (s:ByteArray)(n:Nat):List Sc:=(s.extract 0 n).data.toList.map fun b=> .kst (.int .u8 b.toNat)
def arV (k:IntKind):Ar→Sc
 | .kst n=> .kst (.int k n)
 | .var x=> .num k x
def copyS (P:Program)(k:IntKind)(tx:TypeId)(d x:SV)(σ:St):Option (SV×St) :=
 match d with
 | .one (.sc (.sl b off len _)) =>
  match (match x,P.underlying tx,off with
   | .one (.sc (.sl b' (.kst (.ofNat o')) (.kst (.ofNat l')) _)),some (.slice _),.kst (.ofNat o)=>match len with
    | .kst (.ofNat l)=>match σ.bks.get b with
     | some B=>match B.cellAt off with
      | some _=>match St.loadN b' o' (Nat.min l' l) σ with
       | some (vs,σ)=>match St.storeL b o vs σ with
        | some σ=>some (one (.kst (.int .i64 (Int.ofNat (Nat.min l' l)))),σ)
        | none=>none
       | none=>none
      | none=>none
     | none=>none
    | _=>none
   | _,_,_=>none) with
  | some r=>some r
  | none =>
   match x,P.underlying tx with
   | .one (.sc (.sl b' off' len' _)),some (.slice _) =>
    match (mnA len' len σ).2.rng k b' off' (mnA len' len σ).1 with
    | some (X,σ')=>match (σ'.le (.kst 0) (mnA len' len σ).1).bind (·.wrt b off k X (mnA len' len σ).1) with
     | some σ'=>some (one (arV .i64 (mnA len' len σ).1),σ')
     | none=>none
    | none=>none
   | .one (.sc (.kst (.slice none 0 _))),some (.slice _)=>some (one (.kst (.int .i64 0)),σ)
   | .one (.sc (.emp _)),some (.slice _)=>some (one (.kst (.int .i64 0)),σ)
   | .one (.sc (.kst (.string s))),some .string=>match off,len with
    | .kst (.ofNat o),.kst (.ofNat l)=>bif kindB k .u8 then
     match St.storeL b o (strCells s (Nat.min s.size l)) σ with
     | some σ=>some (one (.kst (.int .i64 (Int.ofNat (Nat.min s.size l)))),σ)
     | none=>none
     else none
    | _,_=>none
   | _,_=>none
 | .one (.sc (.kst (.slice none 0 _)))=>match x,P.underlying tx with
  | .one (.sc (.sl ..)),some (.slice _)=>some (one (.kst (.int .i64 0)),σ)
  | _,_=>none
 | _=>none
def makeS (k:IntKind)(len cap:Ar)(σ:St):Option (SV×St) :=
 match (σ.le (.kst 0) len).bind fun σ=>(σ.le len cap).bind (·.le cap (.kst most)) with
 | some σ=>match cap with
  | .kst (.ofNat c)=>bif Nat.ble c 4096 then some (one (.sl σ.nb (.kst 0) len (some cap)),σ.newB (List.replicate c (.kst (.int k 0)))) else some (one (.sl σ.nb (.kst 0) len (some cap)),(σ.mkA (.rep cap (.kst 0))).newA k σ.na false)
  | _=>some (one (.sl σ.nb (.kst 0) len (some cap)),(σ.mkA (.rep cap (.kst 0))).newA k σ.na false)
 | none=>none
def strA (x:Sc)(σ:St):Option (Nat×St) :=
 match x with
 | .str A=>some (A,σ)
 | .kst (.string s)=>some (σ.na,σ.mkA (.lit (bytesL s)))
 | _=>none
def strOp (op:BinOp)(A B:Nat)(σ:St):Option (Sc×St) :=
 match op with
 | .eql=>some (.boo σ.nx,σ.mk1 (.seq A B))
 | .neq=>some (.boo (σ.nx+1),(σ.mk1 (.seq A B)).mk1 (.cmp .eql (.var σ.nx) (.kst 0)))
 | .add=>some (.str σ.na,((((σ.mk1 (.len A)).mk1 (.len B)).ob (.le (.var σ.nx) (.kst most))).ob (.le (.var (σ.nx+1)) (.kst most))).mkA (.cat A B))
 | _=>none
def isNilS:Sc→Option Bool
 | .kst (.slice none _ _)=>some true
 | .sl .. =>some false
 | _=>none
def op2 (P:Program)(T:Tr SV)(σ:St)(o:Op):Option (Option SV×St) :=
 match o with
 | .convert s d x=>match P.underlying s,P.underlying d,evalO T x with
  | some (.slice e),some .string,some (.one (.sc x))=>match P.underlying e with
   | some (.int .u8)=>match x with
    | .sl b off len _=>match σ.rng .u8 b off len with
     | some (X,σ)=>some (some (one (.str X)),σ)
     | none=>none
    | .kst (.slice none _ _)=>some (some (one (.kst (.string ByteArray.empty))),σ)
    | .emp _=>some (some (one (.kst (.string ByteArray.empty))),σ)
    | _=>none
   | _=>none
  | _,_,_=>none
 | .binOp op xt x y _=>match evalO T x,evalO T y,P.underlying xt with
  | some (.one (.sc x)),some (.one (.sc y)),some .string=>match strA x σ with
   | some (A,σ)=>match strA y σ with
    | some (B,σ)=>match strOp op A B σ with
     | some (v,σ)=>some (some (one v),σ)
     | none=>none
    | none=>none
   | none=>none
  | some (.one (.sc x)),some (.one (.sc y)),some (.slice _)=>match isNilS x,isNilS y,op with
   | some a,some true,.eql=>some (some (one (.kst (.bool a))),σ)
   | some a,some true,.neq=>some (some (one (.kst (.bool !a))),σ)
   | _,_,_=>none
  | _,_,_=>none
 | .buildSlice t len parts=>match P.underlying t with
  | some (.slice e)=>match sizeB P e,zeroB P e,partsS T parts.toList with
   | some 1,some [z],some ps=>bif Nat.ble len 65536 then
    match fillS (fun i=>some (i,1)) (List.replicate len z) ps with
    | some l=>some (some (one (.sl σ.nb (.kst 0) (.kst len) (some (.kst len)))),σ.newB l)
    | none=>none
    else none
   | _,_,_=>none
  | _=>none
 | .makeSlice t l c=>match P.underlying t with
  | some (.slice e)=>match elemK P e,evalO T l,evalO T c with
   | some k,some (.one (.sc l)),some (.one (.sc c))=>match l.ar,c.ar with
    | some (_,l),some (_,c)=>match makeS k l c σ with
     | some (v,σ)=>some (some v,σ)
     | none=>none
    | _,_=>none
   | _,_,_=>none
  | _=>none
 | .call {callee:= .builtin .append,args,argTypes}=>match args.toList,argTypes.toList with
  | [s,x],[t,tx]=>match P.underlying t with
   | some (.slice e)=>match elemK P e,evalO T s,evalO T x with
    | some k,some s,some x=>match appendS P k tx s x σ with
     | some (v,σ)=>some (some v,σ)
     | none=>none
    | _,_,_=>none
   | _=>none
  | _,_=>none
 | .call {callee:= .builtin .copy,args,argTypes}=>match args.toList,argTypes.toList with
  | [d,x],[t,tx]=>match P.underlying t with
   | some (.slice e)=>match elemK P e,evalO T d,evalO T x with
    | some k,some d,some x=>match copyS P k tx d x σ with
     | some (v,σ)=>some (some v,σ)
     | none=>none
    | _,_,_=>none
   | _=>none
  | _,_=>none
 | .call {callee:= .builtin .cap,args,argTypes}=>match args.toList,argTypes.toList with
  | [x],[t]=>match evalO T x,P.underlying t with
   | some (.one (.sc (.sl _ _ _ (some c)))),some (.slice _)=>match σ.le (.kst 0) c with
    | some σ=>some (some (one (arV .i64 c)),σ)
    | none=>none
   | some (.one (.sc (.kst (.slice none _ c)))),some (.slice _)=>some (some (one (.kst (.int .i64 c))),σ)
   | _,_=>none
  | _,_=>none
 | _=>none
def ptrsS (T:Tr SV):List Operand→Option (List (Nat×Ar))
 | []=>some []
 | x::l=>match evalO T x with
  | some (.one (.sc (.ptr b off)))=>(ptrsS T l).map ((b,off):: ·)
  | _=>none
def op3 (P:Program)(T:Tr SV)(σ:St)(o:Op):Option (Option SV×St) :=
 match o with
 | .makeInterface t x=>match evalO T x,P.underlying t with
  | some (.one (.sc (.ptr b off))),some (.pointer _)=>some (some (one (.ifp t b off)),σ)
  | _,_=>none
 | .makeFunc (.func f) first captured=>match first.toList,ptrsS T captured.toList with
  | [],some l=>some (some (one (.clo f l)),σ)
  | _,_=>none
 | _=>none
def opX (P:Program)(T:Tr SV)(σ:St)(o:Op):Option (Option SV×St) :=
 match op2 P T σ o with
 | some r=>some r
 | none=>match op1 P T σ o with
  | some r=>some r
  | none=>op3 P T σ o
def quietOp:Op→Bool
 | .move _ | .assign _ | .pick .. | .build .. | .load .. | .nilCheck _ | .binOp .. | .unOp .. | .convert .. | .sliceToArrayPointer .. | .slice ..
 | .fieldAddr .. | .field .. | .indexAddr .. | .index .. | .extract .. =>true
 | .call {callee:= .builtin .len,..}=>true
 | .call {callee:= .builtin .min,..}=>true
 | _=>false
def pureOp (o:Op):Bool :=
 match o with
 | .load .. =>false
 | o=>quietOp o
def argsS (T:Tr SV):List Operand→Option (List SV)
 | []=>some []
 | x::l=>match evalO T x with
  | some v=>(argsS T l).map (v:: ·)
  | none=>none
def trArgs:Nat→List SV→Tr SV→Tr SV
 | _,[],t=>t
 | k,x::l,t=>trArgs (k+1) l (t.set (2*k) x)
def plain1:Sc→Bool
 | .kst _ | .num .. | .boo _ | .str _=>true
 | _=>false
def plainV:V1→Bool
 | .sc x=>plain1 x
 | .agg l=>l.all plain1
def plainSV:SV→Bool
 | .one v=>plainV v
 | .tup l=>l.all plainV
inductive Ex where
 | normal
 | exit (id:Nat)
 | ret
def put (N:Nat)(T:Tr SV)(dst:Option Tmp)(v:Option SV):Option (Tr SV) :=
 match dst,v with
 | none,_=>some T
 | some d,some v=>bif Nat.blt d N then some (T.set (2*d) v) else none
 | some _,none=>none
def quietPrefix (isQuietCall:Op→Bool):List Oper→Nat
 | []=>0
 | o::l=>bif quietOp o.op||isQuietCall o.op then quietPrefix isQuietCall l+1 else 0
def isFnCall:Op→Bool
 | .call {callee:= .value (.func _),..}=>true
 | _=>false
def callOf:Op→Option (FuncId×List Operand)
 | .call {callee:= .value (.func f),args,..}=>some (f,args.toList)
 | _=>none
def methB (P:Program)(t:TypeId)(name:String):Option FuncId :=
 match P.underlying t,P.info? t with
 | some (.pointer _),some i=>match i.methods.find? (·.name==name) with
  | some m=>match m.path.toList,m.func with
   | [],some (f,true)=>some f
   | _,_=>none
  | none=>none
 | _,_=>none
def callS (P:Program)(T:Tr SV)(o:Op):Option (FuncId×List SV) :=
 match callOf o with
 | some (f,args)=>match argsS T args with
  | some vs=>some (f,vs)
  | none=>none
 | none=>match o with
  | .call {callee:= .value x,args,..}=>match evalO T x,argsS T args.toList with
   | some (.one (.sc (.clo f l))),some vs=>some (f,vs++l.map fun p=> .one (.sc (.ptr p.1 p.2)))
   | some (.one (.sc (.kst (.func (.func f) first caps)))),some vs=>match first.toList,caps.toList with
    | [],[]=>some (f,vs)
    | _,_=>none
   | _,_=>none
  | .call {callee:= .invoke x name,args,..}=>match evalO T x,argsS T args.toList with
   | some (.one (.sc (.ifp t b off))),some vs=>match methB P t name with
    | some f=>some (f,.one (.sc (.ptr b off))::vs)
    | none=>none
   | _,_=>none
  | _=>none
def resS (T:Tr SV)(P:Program):List ResultVar→St→Option (List V1×St)
 | [],σ=>some ([],σ)
 | .tmp t::l,σ=>match T.get (2*t) with
  | some (.one v)=>match resS T P l σ with
   | some (r,σ)=>some (v::r,σ)
   | none=>none
  | _=>none
 | .cell a t::l,σ=>match T.get (2*a) with
  | some (.one (.sc (.ptr b (.kst (.ofNat off)))))=>match isAggB P t,sizeB P t with
   | some true,some n=>match St.loadN b off n σ with
    | some (vs,σ)=>match resS T P l σ with
     | some (r,σ)=>some (.agg vs::r,σ)
     | none=>none
    | none=>none
   | some false,_=>match σ.load1 b (.kst (.ofNat off)) with
    | some (v,σ)=>match resS T P l σ with
     | some (r,σ)=>some (.sc v::r,σ)
     | none=>none
    | none=>none
   | _,_=>none
  | _=>none
def resV (l:List V1):SV :=
 match l with
 | [v]=> .one v
 | l=> .tup l
def unsignedB:IntKind→Bool
 | .u8 | .u16 | .u32 | .u64=>true
 | _=>false
def inU64 (n:Int):Bool :=
 match n with
 | .ofNat m=>Nat.blt m 18446744073709551616
 | _=>false
def okU (ni:Nat):List Df→Nat→Bool
 | [],x=>Nat.blt x ni
 | .a _ _::ds,x=>okU ni ds x
 | .n y nd::ds,x=>bif Nat.beq x y then
  match nd with
  | .bin op k a _ =>
   match op with
   | .add | .sub | .mul | .and | .or | .xor | .andNot | .shl | .quo=>unsignedB k
   | .shr=>match a with
    | .var z=>okU ni ds z
    | .kst n=>inU64 n
   | _=>false
  | .conv k _=>unsignedB k
  | .cmp .. | .addS .. | .addC .. | .subS .. | .subC .. =>true
  | _=>false
  else okU ni ds x
def okC:List Df→Nat→Bool
 | [],_=>false
 | .a _ _::ds,x=>okC ds x
 | .n y nd::ds,x=>bif Nat.beq x y then
  match nd with
  | .cmp .. | .addC .. | .subC .. =>true
  | _=>false
  else okC ds x
def okUA (σ:St):Ar→Bool
 | .var x=>okU σ.ni σ.defs x
 | .kst n=>inU64 n
def okCA (σ:St):Ar→Bool
 | .var x=>okC σ.defs x
 | .kst n=>match n with
  | .ofNat m=>Nat.ble m 1
  | _=>false
def St.u64 (σ:St)(a:Ar):Option St :=
 bif okUA σ a then some σ else (σ.le (.kst 0) a).bind (·.lt a (.kst 18446744073709551616))
def St.bit (σ:St)(a:Ar):Option St :=
 bif okCA σ a then some σ else (σ.le (.kst 0) a).bind (·.le a (.kst 1))
def extOk (fn : Func) : Bool := fn.origin == ""
def extA (a b c:Ar)(σ:St):SV×St :=
 (.tup [.sc (.num .u64 σ.nx),.sc (.num .u64 (σ.nx+1))],(σ.mk1 (.addS a b c)).mk1 (.addC a b c))
def extS (a b c:Ar)(σ:St):SV×St :=
 (.tup [.sc (.num .u64 σ.nx),.sc (.num .u64 (σ.nx+1))],(σ.mk1 (.subS a b c)).mk1 (.subC a b c))
def ext1 (name:String)(args:List SV)(σ:St):Option (SV×St) :=
 match args with
 | [.one (.sc x),.one (.sc y),.one (.sc z)] =>
  match x.ar,y.ar,z.ar with
  | some (.u64,a),some (.u64,b),some (.u64,c) =>
   match (σ.u64 a).bind fun σ=>(σ.u64 b).bind (·.bit c) with
   | some σ =>
    bif name == "math/bits.Add64" then some (extA a b c σ)
    else bif name == "math/bits.Sub64" then some (extS a b c σ)
    else none
   | none=>none
  | _,_,_=>none
 | [.one (.sc x)] =>
  bif name == "crypto/internal/constanttime.boolToUint8" then
   match x with
   | .kst (.bool b)=>some (one (.kst (.int .u8 (bif b then 1 else 0))),σ)
   | .boo x=>some (one (.num .u8 σ.nx),σ.mk1 (.cmp .neq (.var x) (.kst 0)))
   | _=>none
  else none
 | _=>none
def St.test (σ:St)(x:Sc):Option (Bool×St) :=
 match x with
 | .kst (.bool t)=>some (t,σ)
 | .boo x=>match σ.ask with
  | some (t,σ)=>some (t,σ.ob (.boo x t))
  | none=>none
 | _=>none
def eAr:Ar→Ar→Bool
 | .var x,.var y=>Nat.beq x y
 | .kst n,.kst m=>decide (n=m)
 | _,_=>false
def eL {α:Type}(f:α→α→Bool):List α→List α→Bool
 | [],[]=>true
 | x::l,y::m=>f x y&&eL f l m
 | _,_=>false
def eO {α:Type}(f:α→α→Bool):Option α→Option α→Bool
 | none,none=>true
 | some x,some y=>f x y
 | _,_=>false
def eOp (a b:BinOp):Bool:=decide (a=b)
def eNd:Nd→Nd→Bool
 | .bin op k a b,.bin op' k' a' b'=>eOp op op'&&kindB k k'&&eAr a a'&&eAr b b'
 | .conv k a,.conv k' a'=>kindB k k'&&eAr a a'
 | .cmp op a b,.cmp op' a' b'=>eOp op op'&&eAr a a'&&eAr b b'
 | .addS a b c,.addS a' b' c'=>eAr a a'&&eAr b b'&&eAr c c'
 | .addC a b c,.addC a' b' c'=>eAr a a'&&eAr b b'&&eAr c c'
 | .subS a b c,.subS a' b' c'=>eAr a a'&&eAr b b'&&eAr c c'
 | .subC a b c,.subC a' b' c'=>eAr a a'&&eAr b b'&&eAr c c'
 | .lin a b c,.lin a' b' c'=>eAr a a'&&eAr b b'&&decide (c=c')
 | .mn a b,.mn a' b'=>eAr a a'&&eAr b b'
 | .rd A x,.rd A' x'=>Nat.beq A A'&&eAr x x'
 | .sel l x,.sel l' x'=>eL eAr l l'&&eAr x x'
 | .len A,.len A'=>Nat.beq A A'
 | .fn f is az j,.fn f' is' as' j'=>Nat.beq f f'&&eL eAr is is'&&eL Nat.beq az as'&&Nat.beq j j'
 | .seq A B,.seq A' B'=>Nat.beq A A'&&Nat.beq B B'
 | .leq A B,.leq A' B'=>Nat.beq A A'&&Nat.beq B B'
 | _,_=>false
def eAd:Ad→Ad→Bool
 | .lit l,.lit l'=>eL eAr l l'
 | .set A x v,.set A' x' v'=>Nat.beq A A'&&eAr x x'&&eAr v v'
 | .sub A x v,.sub A' x' v'=>Nat.beq A A'&&eAr x x'&&eAr v v'
 | .cat A B,.cat A' B'=>Nat.beq A A'&&Nat.beq B B'
 | .rep n v,.rep n' v'=>eAr n n'&&eAr v v'
 | .cpy A x B,.cpy A' x' B'=>Nat.beq A A'&&eAr x x'&&Nat.beq B B'
 | .fn f is az,.fn f' is' as'=>Nat.beq f f'&&eL eAr is is'&&eL Nat.beq az as'
 | _,_=>false
def eDf:Df→Df→Bool
 | .n x d,.n x' d'=>Nat.beq x x'&&eNd d d'
 | .a x d,.a x' d'=>Nat.beq x x'&&eAd d d'
 | _,_=>false
def eOb:Ob→Ob→Bool
 | .le a b,.le a' b'=>eAr a a'&&eAr b b'
 | .lt a b,.lt a' b'=>eAr a a'&&eAr b b'
 | .eq a b,.eq a' b'=>eAr a a'&&eAr b b'
 | .inA a A,.inA a' A'=>eAr a a'&&Nat.beq A A'
 | .lenA a A,.lenA a' A'=>eAr a a'&&Nat.beq A A'
 | .fits a b A,.fits a' b' A'=>eAr a a'&&eAr b b'&&Nat.beq A A'
 | .boo x t,.boo x' t'=>Nat.beq x x'&&(t==t')
 | .prd p is az,.prd p' is' as'=>Nat.beq p p'&&eL eAr is is'&&eL Nat.beq az as'
 | _,_=>false
def eVal:Value→Value→Bool
 | .int k n,.int k' n'=>kindB k k'&&decide (n=n')
 | .bool b,.bool b'=>b==b'
 | .pointer none,.pointer none=>true
 | .pointer (some ⟨q,o,none⟩),.pointer (some ⟨q',o',none⟩)=>Nat.beq q q'&&Nat.beq o o'
 | .slice none l c,.slice none l' c'=>Nat.beq l l'&&Nat.beq c c'
 | .string s,.string s'=>eL Nat.beq (s.data.toList.map UInt8.toNat) (s'.data.toList.map UInt8.toNat)
 | .nilIface,.nilIface=>true
 | .nilFunc,.nilFunc=>true
 | .func (.func f) a b,.func (.func f') a' b'=>Nat.beq f f'&&(a.toList.isEmpty&&b.toList.isEmpty)&&(a'.toList.isEmpty&&b'.toList.isEmpty)
 | _,_=>false
def eSc:Sc→Sc→Bool
 | .kst v,.kst v'=>eVal v v'
 | .num k x,.num k' x'=>kindB k k'&&Nat.beq x x'
 | .boo x,.boo x'=>Nat.beq x x'
 | .opq x,.opq x'=>Nat.beq x x'
 | .ptr b o,.ptr b' o'=>Nat.beq b b'&&eAr o o'
 | .sl b o l c,.sl b' o' l' c'=>Nat.beq b b'&&eAr o o'&&eAr l l'&&eO eAr c c'
 | .emp x,.emp x'=>Nat.beq x x'
 | .str x,.str x'=>Nat.beq x x'
 | .nni x,.nni x'=>Nat.beq x x'
 | .ifp t b o,.ifp t' b' o'=>Nat.beq t t'&&Nat.beq b b'&&eAr o o'
 | .clo f l,.clo f' l'=>Nat.beq f f'&&eL (fun p q=>Nat.beq p.1 q.1&&eAr p.2 q.2) l l'
 | _,_=>false
def eV1:V1→V1→Bool
 | .sc x,.sc y=>eSc x y
 | .agg l,.agg m=>eL eSc l m
 | _,_=>false
def eSV:SV→SV→Bool
 | .one x,.one y=>eV1 x y
 | .tup l,.tup m=>eL eV1 l m
 | _,_=>false
def eTr {α:Type}(f:α→α→Bool):Tr α→Tr α→Bool
 | .nil,.nil=>true
 | .node v l r,.node v' l' r'=>eO f v v'&&eTr f l l'&&eTr f r r'
 | _,_=>false
def eAB:IntKind×Nat×Bool→IntKind×Nat×Bool→Bool
 | (k,A,g),(k',A',g')=>kindB k k'&&Nat.beq A A'&&(g==g')
def eBk (B B':Bk):Bool:=Nat.beq B.n B'.n&&(B.rw==B'.rw)&&eTr eSc B.cells B'.cells&&eO eAB B.arr B'.arr
def eSt (a b:St):Bool :=
 Nat.beq a.ni b.ni&&Nat.beq a.nx b.nx&&Nat.beq a.na b.na&&Nat.beq a.nb b.nb&&Nat.beq a.nv b.nv&&eL eDf a.defs b.defs&&eL eOb a.obs b.obs&&eL (· == ·) a.orc b.orc&&eTr eSV a.gl b.gl&&eTr eBk a.bks b.bks
def eR:Tr SV×St→Tr SV×St→Bool
 | (T,σ),(T',σ')=>eTr eSV T T'&&eSt σ σ'
def eRo (r:Tr SV×St):Option (Tr SV×St)→Bool
 | some r'=>eR r r'
 | none=>false
def subB {α:Type}(f:α→α→Bool)(k:Nat)(l m:List α):Bool:=(m.take k).all (fun x=>(l.take k).any (f x))&&eL f (l.drop k) (m.drop k)
def eQ (k k':Nat):Tr SV×St→Tr SV×St→Bool
 | (T,σ),(T',σ')=>eTr eSV T T'&&Nat.beq σ.ni σ'.ni&&Nat.beq σ.nb σ'.nb&&Nat.beq σ.nv σ'.nv&&eTr eSV σ.gl σ'.gl&&eTr eBk σ.bks σ'.bks&&subB eDf k σ.defs σ'.defs&&subB eOb k' σ.obs σ'.obs
def gval (T:Tr SV):Option Tmp→Option Bool
 | some d=>match T.get (2*d) with
  | some (.one (.sc (.kst (.bool t))))=>some t
  | _=>none
 | none=>none
def gask (T:Tr SV)(σ:St)(d:Option Tmp):Option (Bool×Tr SV×St) :=
 match gval T d with
 | some t=>some (t,T,σ)
 | none=>match d with
  | some d=>match T.get (2*d) with
   | some (.one (.sc (.boo x)))=>match σ.ask with
    | some (t,σ)=>some (t,T.set (2*d) (one (.kst (.bool t))),σ.ob (.boo x t))
    | none=>none
   | _=>none
  | none=>none
def unput (T:Tr SV):Option Tmp→Tr SV
 | some d=>T.erase (2*d)
 | none=>T
section
variable (P:Program)
def isAlloc (o:Oper):Bool:=match o.op,o.guard with
 | .alloc _,none=>true
 | _,_=>false
def allocPrefix:List Oper→Nat
 | []=>0
 | o::l=>bif isAlloc o then allocPrefix l+1 else 0
def run:Nat→(FuncId→List SV→St→Option (SV×St))→Nat→Code→Tr SV→St→Option (Ex×Tr SV×St)
 | 0,_,_,_,_,_=>none
 | fuel+1,call,N,c,T,σ =>
  match c with
  | .skip=>some (.normal,T,σ)
  | .seq a b=>match run fuel call N a T σ with
   | some (.normal,T,σ)=>run fuel call N b T σ
   | r=>r
  | .cond x a b=>match evalO T x with
   | some (.one (.sc y))=>match σ.test y with
    | some (t,σ)=>run fuel call N (bif t then a else b) T σ
    | none=>none
   | _=>none
  | .block id b=>match run fuel call N b T σ with
   | some (.exit j,T,σ)=>bif Nat.beq j id then some (.normal,T,σ) else some (.exit j,T,σ)
   | r=>r
  | .loop b=>match run fuel call N b T σ with
   | some (.normal,T,σ)=>run fuel call N (.loop b) T σ
   | r=>r
  | .exit id=>some (.exit id,T,σ)
  | .ret=>some (.ret,T,σ)
  | .region _ ops draw =>
   let l:=ops.toList
   bif draw then
    match runR call N ops (quietPrefix isFnCall l) 0 T σ with
    | some (T,σ)=>some (.normal,T,σ)
    | none=>match runR call N ops (quietPrefix (fun _=>false) l) 0 T σ with
     | some (T,σ)=>some (.normal,T,σ)
     | none=>match (match allocPrefix (l.drop (quietPrefix isFnCall l)) with | 0=>none | k+1=>runR call N ops (quietPrefix isFnCall l) (k+1) T σ) with
      | some (T,σ)=>some (.normal,T,σ)
      | none=>match (bif Region.noSelect ops then runP call N ops σ.bks.onlyRo l.length (Array.replicate l.length false) T σ else none) with
       | some (T,σ)=>some (.normal,T,σ)
       | none=>none
   else match runL call N l T σ with
    | some (T,σ)=>some (.normal,T,σ)
    | none=>match runG call N ops l T σ with
     | some (T,σ)=>some (.normal,T,σ)
     | none=>none
  | _=>none
 where
 runG (call:FuncId→List SV→St→Option (SV×St)) (N:Nat) (ops:Array Oper):List Oper→Tr SV→St→Option (Tr SV×St)
  | [],T,σ=>some (T,σ)
  | o::l,T,σ =>
   match o.guard with
   | none=>match runL call N [o] T σ with
    | some (T,σ)=>runG call N ops l T σ
    | none=>none
   | some (j,b)=>match gask T σ ((ops[j]?).bind (·.dst)) with
    | some (t,T,σ)=>bif t==b then
     match runL call N [{o with guard:=none}] T σ with
     | some (T,σ)=>runG call N ops l T σ
     | none=>none
     else runG call N ops l (unput T o.dst) σ
    | none=>none
 runR (call:FuncId→List SV→St→Option (SV×St)) (N:Nat) (ops:Array Oper) (n k:Nat) (T:Tr SV) (σ:St):Option (Tr SV×St) :=
  bif (bif Nat.beq n ops.toList.length then Region.lexB .any ops else Region.lexTailB .any ops (n+k)) then
   match runQ call N (ops.toList.take n) T σ with
   | some (T,σ)=>runL call N (ops.toList.drop n) T σ
   | none=>none
  else none
 runP (call:FuncId→List SV→St→Option (SV×St)) (N:Nat) (ops:Array Oper) (ro:Tr Bk):Nat→Array Bool→Tr SV→St→Option (Tr SV×St)
  | 0,listed,T,σ=>match Region.ready .any ops listed with
   | []=>some (T,σ)
   | _=>none
  | f+1,listed,T,σ =>
   match (Region.ready .any ops listed).find? (fun i=>match ops[i]? with | some o=>pureOp o.op&&o.guard.isNone&&Region.free .any ops listed i&&(op1 P T σ o.op).isSome | none=>false) with
   | some i=>match ops[i]? with
    | some o=>match op1 P T σ o.op with
     | some (v,σ)=>match put N T o.dst v with
      | some T=>runP call N ops ro f (listed.setIfInBounds i true) T σ
      | none=>none
     | none=>none
    | none=>none
   | none=>match Region.ready .any ops listed with
    | []=>some (T,σ)
    | [i]=>match ops[i]? with
     | some o=>match runL call N [o] T σ with
      | some (T,σ)=>runP call N ops ro f (listed.setIfInBounds i true) T σ
      | none=>none
     | none=>none
    | [i,j]=>match (match ops[i]? with
     | some o=>match runL call N [o] T σ with
      | some (T,σ)=>runP call N ops ro f (listed.setIfInBounds i true) T σ
      | none=>none
     | none=>none),ops[j]? with
     | some r,some o=>match runL call N [o] T σ with
      | some (Tj,σj) =>
       bif eRo r (runP call N ops ro f (listed.setIfInBounds j true) Tj σj) then some r else
        match runL call N [o] T {σ with nx:=r.2.nx-(σj.nx-σ.nx),na:=r.2.na-(σj.na-σ.na)} with
        | some (Tk,σk)=>match runP call N ops ro f (listed.setIfInBounds j true) Tk {σk with nx:=σ.nx,na:=σ.na} with
         | some r'=>bif eQ (r.2.defs.length-σ.defs.length) (r.2.obs.length-σ.obs.length) r r' then some r else none
         | none=>none
        | none=>none
      | none=>none
     | _,_=>none
    | _=>match (Region.ready .any ops listed).find? (fun i=>match ops[i]? with | some o=>quietOp o.op&&o.guard.isNone&&Region.free .any ops listed i&&(op1 P T {σ with bks:=ro} o.op).isSome | none=>false) with
     | some i=>match ops[i]? with
      | some o=>match op1 P T {σ with bks:=ro} o.op with
       | some (v,σ')=>match put N T o.dst v with
        | some T=>runP call N ops ro f (listed.setIfInBounds i true) T {σ' with bks:=σ.bks}
        | none=>none
       | none=>none
      | none=>none
     | none=>none
 runL (call:FuncId→List SV→St→Option (SV×St)) (N:Nat):List Oper→Tr SV→St→Option (Tr SV×St)
  | [],T,σ=>some (T,σ)
  | o::l,T,σ =>
   match o.guard with
   | some _=>none
   | none =>
    match callS P T o.op with
    | some (f,vs)=>match call f vs σ with
     | some (v,σ)=>match put N T o.dst (some v) with
      | some T=>runL call N l T σ
      | none=>none
     | none=>none
    | none=>match opX P T σ o.op with
     | some (v,σ)=>match put N T o.dst v with
      | some T=>runL call N l T σ
      | none=>none
     | none=>none
 runQ (call:FuncId→List SV→St→Option (SV×St)) (N:Nat):List Oper→Tr SV→St→Option (Tr SV×St)
  | [],T,σ=>some (T,σ)
  | o::l,T,σ =>
   match o.guard with
   | some _=>none
   | none =>
    match callOf o.op with
    | some (f,args)=>match argsS T args with
     | some vs=>match call f vs {σ with bks:=σ.bks.ro} with
      | some (v,σ')=>bif plainSV v then
       match put N T o.dst (some v) with
       | some T=>runQ call N l T {σ' with bks:=σ.bks,nb:=σ.nb,nv:=σ.nv}
       | none=>none
       else none
      | none=>none
     | none=>none
    | none=>match op1 P T σ o.op with
     | some (v,σ)=>match put N T o.dst v with
      | some T=>runQ call N l T σ
      | none=>none
     | none=>none
inductive Kt where
 | seq (c:Code)
 | block (id:Nat)
inductive Out where
 | done (e:Ex)
 | at (b:Code) (ks:List Kt)
def firstReg:Code→Option Nat
 | .region id _ _=>some id
 | .seq a b=>match firstReg a with
  | some i=>some i
  | none=>firstReg b
 | .block _ b=>firstReg b
 | .loop b=>firstReg b
 | .cond _ a b=>match firstReg a with
  | some i=>some i
  | none=>firstReg b
 | _=>none
def isStop (stops:List Nat)(c:Code):Bool :=
 match firstReg c with
 | some i=>stops.any (Nat.beq i)
 | none=>false
def unw:List Kt→Ex→Ex ⊕ (Code×List Kt)
 | [],e=> .inl e
 | .seq c::ks,e=>match e with
  | .normal=> .inr (c,ks)
  | e=>unw ks e
 | .block id::ks,e=>match e with
  | .exit j=>bif Nat.beq j id then unw ks .normal else unw ks (.exit j)
  | e=>unw ks e
def runK (call:FuncId→List SV→St→Option (SV×St))(stops:List Nat)(N:Nat):Nat→Nat→Code→List Kt→Tr SV→St→Option (Out×Tr SV×St)
 | 0,_,_,_,_,_=>none
 | f+1,fuel,c,ks,T,σ =>
  match c with
  | .seq a b=>runK call stops N f fuel a (.seq b::ks) T σ
  | .block id b=>runK call stops N f fuel b (.block id::ks) T σ
  | .cond x a b=>match evalO T x with
   | some (.one (.sc y))=>match σ.test y with
    | some (t,σ)=>runK call stops N f fuel (bif t then a else b) ks T σ
    | none=>none
   | _=>none
  | c =>
   bif (match c with | .loop b=>isStop stops b | _=>false) then
    some (.at c ks,T,σ)
   else match run P fuel call N c T σ with
    | some (e,T,σ)=>match unw ks e with
     | .inl e=>some (.done e,T,σ)
     | .inr (c,ks)=>runK call stops N f fuel c ks T σ
    | none=>none
def call1 (U:FuncId→Option (List SV→St→Option (SV×St))):Nat→Nat→FuncId→List SV→St→Option (SV×St)
 | 0,_,_,_,_=>none
 | d+1,fuel,f,args,σ =>
  match U f with
  | some c=>c args σ
  | none =>
  match P.funcs[f]? with
  | none=>none
  | some fn =>
   match fn.body with
   | none=>bif extOk fn then ext1 fn.name args σ else none
   | some body =>
    bif Nat.ble args.length fn.ntmps && !(fn.name == "runtime.NumGoroutine") then
     match run P fuel (call1 U d fuel) fn.ntmps body (trArgs 0 args σ.gl) σ with
     | some (.exit _,_,_)=>none
     | some (_,T,σ)=>match resS T P fn.results.toList σ with
      | some (l,σ)=>some (resV l,σ)
      | none=>none
     | none=>none
    else none
end
end Go.Sy
