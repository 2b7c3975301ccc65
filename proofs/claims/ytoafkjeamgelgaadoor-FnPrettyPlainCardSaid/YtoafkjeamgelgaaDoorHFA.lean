/- FX: a plain machine beside the model's, and that the model comes to what it comes to. -/
import Derived.Calls
import Derived.Orders
import Derived.KernelRfl
import Derived.Laws.FloatArith
import Derived.Laws.Cover4
import Derived.Laws.BytesArg
import Derived.Laws.AppendOwn
import Derived.WalkKit
import Derived.Deep.MidRow
import Derived.ArgAppend
import Derived.Laws.Runes
import Derived.Laws.StructEq
import Derived.Great.BuildSlice
import Derived.Laws.Tables
namespace Go.Proofs.YtoafkjeamgelgaaDoorHF
open Go
abbrev BA:=ByteArray
inductive K where
 | int (k:IntKind) | bool | str | flt (k:FloatKind) | err
 | pair (a b:K)
 | sl (e:TypeId) (k:K)
 deriving DecidableEq
@[reducible] def K.den:K→Type
 | .int _=>Int
 | .bool=>Bool
 | .str=>BA
 | .flt _=>Nat
 | .err=>Bool
 | .pair a b=>a.den×b.den
 | .sl _ k=>List k.den
def K.dflt:(k:K)→k.den
 | .int _=>(0:Int)
 | .bool=>false
 | .str=>(⟨#[]⟩:BA)
 | .flt _=>(0:Nat)
 | .err=>false
 | .pair a b=>(a.dflt,b.dflt)
 | .sl _ _=>[]
def K.size:K→Nat
 | .pair a b=>a.size+b.size
 | _=>1
def K.isPair:K→Bool
 | .pair _ _=>true
 | _=>false
inductive FV:Type where
 | dead
 | dat (k:K) (x:k.den)
 | nsl
 | sl (o:Nat) (w:Option (Int×Int)) (nn:Bool)
 | ptr (o:Nat) (i:Int) (off:Nat)
 | nilp
 | nilif
 | mp (o:Nat)
 | it (o:Nat)
 | tnil
 | tcons (a b:FV)
 | fn (f:FuncId)
 | glob (g:Nat)
 | cp (o:Nat) (off:Nat)
 | zer (k:K)
inductive FObj:Type where
 | row (k:K) (e:TypeId) (rw:Bool) (xs:List k.den)
 | siter (s:BA) (pos:Nat)
 | cell (k:K) (e:TypeId)
 | mapo (a b:K) (es:List (a.den×b.den))
structure FState where
 tmps:Nat→FV
 objs:Nat→Option FObj
def rdK (k:K) (xs:List k.den) (i:Int):k.den:=xs.getD i.toNat k.dflt
def cut {α:Type} (xs:List α) (lo hi:Int):List α:=(xs.drop lo.toNat).take (hi.toNat - lo.toNat)
def idx {β:Type} (i n:Int) (κ:Option β):Option β:=if 0≤i then if i < n then κ else none else none
def bnd {β:Type} (lo hi n:Int) (κ:Option β):Option β:=if 0≤lo then if lo≤hi then if hi≤n then κ else none else none else none
def dS {β:Type} (n:Nat) (κ:Option β):Option β:=if n≤1099511627776 then κ else none
def byteAt (s:BA) (i:Int):Int:=((s.get! i.toNat).toNat:Int)
def dY (s:BA) (lo hi:Int):BA:=s.extract lo.toNat hi.toNat
def fE (x y:BA):Bool:=x.toList==y.toList
def YK (k:IntKind) (a b:Int):Int:=k.wrap ((BitVec.ofInt k.bits a&&& BitVec.ofInt k.bits b).toNat)
def orI (k:IntKind) (a b:Int):Int:=k.wrap ((BitVec.ofInt k.bits a||| BitVec.ofInt k.bits b).toNat)
def XZ (k:IntKind) (a b:Int):Int:=k.wrap ((BitVec.ofInt k.bits a ^^^ BitVec.ofInt k.bits b).toNat)
def CL (k:IntKind) (a b:Int):Int:=k.wrap ((BitVec.ofInt k.bits a&&& ~~~ BitVec.ofInt k.bits b).toNat)
def WR (k:IntKind) (a b:Int):Int:=k.wrap (a * 2 ^ (min b.toNat k.bits))
def WT (k:IntKind) (a b:Int):Int:=a.fdiv (2 ^ (min b.toNat k.bits))
def WX (a b:Int):Int:=if b>a then b else a
def rG (a b:Int):Int:=if b < a then b else a
def fEq (k:FloatKind) (a b:Nat):Bool:=k.format.order a b==some .eq
def fLt (k:FloatKind) (a b:Nat):Bool:=k.format.order a b==some .lt
def fGt (k:FloatKind) (a b:Nat):Bool:=k.format.order a b==some .gt
def UY (neg:Bool) (win:Ordering) (x y:Nat):Nat:=
 let a:=FloatKind.f64.decode x
 let b:=FloatKind.f64.decode y
 if a== .infinity neg||b== .infinity neg then FloatKind.f64.encode (.infinity neg)
 else if a.isNaN||b.isNaN then 0x7FF8000000000001
 else if a.isZero&&b.isZero then (if a.neg==neg then x else y)
 else if a.order b==some win then x else y
def ZD (x y:Nat):Nat:=UY true .lt x y
def YZ (x y:Nat):Nat:=UY false .gt x y
def eF (s:BA):Nat→Nat→List Int
 | 0,_=>[]
 | b+1,i=>if i < s.size then ((Utf8.decode s i).1:Int)::eF s b (i+(Utf8.decode s i).2) else []
def bN (s:BA):List Int:=eF s s.size 0
def aE (z:BA):List Int:=z.data.toList.map fun b=>(b.toNat:Int)
def eM {α:Type} (xs:List α) (off len:Int) (ys:List α):List α:=xs.take off.toNat++ys.take (min len.toNat ys.length)++xs.drop (off.toNat+min len.toNat ys.length)
def LI {β:Type} (n:Int) (κ:Option β):Option β:=if n≤1099511627776 then κ else none
def onS {α β:Type} (x:Option α) (κ:α→Option β):Option β:=match x with | some a=>κ a | none=>none
def wK:(k:K)→(off:Nat)→(k':K)→k.den→Option k'.den
 | .pair a b,off,k',x=>
  if h:off=0∧K.pair a b=k' then some (h.2 ▸ x)
  else bif Nat.blt off a.size then wK a off k' x.1 else wK b (off - a.size) k' x.2
 | k,off,k',x=>if h:off=0∧k=k' then some (h.2 ▸ x) else none
def AQ:(k:K)→(off:Nat)→(k':K)→k'.den→k.den→Option k.den
 | .pair a b,off,k',y,x=>
  if h:off=0∧k'=K.pair a b then some (h.2 ▸ y)
  else bif Nat.blt off a.size then (match AQ a off k' y x.1 with | some z=>some (z,x.2) | none=>none)
   else (match AQ b (off - a.size) k' y x.2 with | some z=>some (x.1,z) | none=>none)
 | k,off,k',y,_=>if h:off=0∧k'=k then some (h.2 ▸ y) else none
inductive AK where
 | dat (k:K)
 | ro (k:K) (e:TypeId)
 | rw (k:K) (e:TypeId)
 | pro (k:K) (e:TypeId)
 | cel (k:K) (e:TypeId)
 | io (k:K) (e:TypeId)
 | mp (a b:K)
 deriving DecidableEq
@[reducible] def AK.den:AK→Type
 | .dat k=>k.den
 | .ro k _=>List k.den
 | .rw k _=>List k.den
 | .pro k _=>k.den
 | .cel k _=>k.den
 | .io k _=>List k.den
 | .mp a b=>List (a.den×b.den)
@[reducible] def DenA:List AK→Type
 | []=>Unit
 | a::l=>a.den×DenA l
inductive RK where
 | dat (k:K)
 | rw (k:K) (e:TypeId)
 | ro (k:K) (e:TypeId)
 | ptr (k:K) (e:TypeId)
 | nsl
 | bcel (k:K) (e:TypeId)
 | bio (k:K) (e:TypeId)
 | bmp (a b:K)
 deriving DecidableEq
@[reducible] def RK.den:RK→Type
 | .dat k=>k.den
 | .rw k _=>List k.den
 | .ro k _=>List k.den
 | .ptr k _=>k.den
 | .nsl=>Unit
 | .bcel k _=>k.den
 | .bio k _=>List k.den
 | .bmp a b=>List (a.den×b.den)
@[reducible] def DenR:List RK→Type
 | []=>Unit
 | a::l=>a.den×DenR l
def K.flat:K→Bool
 | .sl _ _=>false
 | .pair a b=>a.flat&&b.flat
 | _=>true
def K.flat1:K→Bool
 | .sl _ k=>k.flat
 | .pair a b=>a.flat1&&b.flat1
 | _=>true
def RK.flat:RK→Bool
 | .dat k=>k.flat
 | .rw k _=>k.flat
 | .ro _ _=>false
 | .ptr k _=>k.flat
 | .nsl=>true
 | .bcel k _=>k.flat1
 | .bio k _=>k.flat
 | .bmp a b=>a.flat&&b.flat
def RK.isB:RK→Bool
 | .bcel _ _ | .bio _ _ | .bmp _ _=>true
 | _=>false
def AK.isB:AK→Bool
 | .cel _ _ | .io _ _ | .mp _ _=>true
 | _=>false
def aS:List AK→List RK
 | .cel k e::l=> .bcel k e::aS l
 | .io k e::l=> .bio k e::aS l
 | .mp a b::l=> .bmp a b::aS l
 | _::l=>aS l
 | []=>[]
structure bJ where
 args:List AK
 rets:List RK
 backs:List RK
 app:{β:Type}→DenA args→(DenR rets×DenR backs→Option β)→Option β
def lk {α:Type}:List (Nat×α)→Nat→Option α
 | [],_=>none
 | (a,x)::l,n=>bif Nat.beq a n then some x else lk l n
def cV (x:Nat):List Nat→Bool
 | []=>false
 | y::l=>Nat.beq x y||cV x l
def eqD:(k:K)→k.den→k.den→Bool
 | .int _,x,y=>(show Int from x)==y
 | .bool,x,y=>(show Bool from x)==y
 | .str,x,y=>fE x y
 | .pair a b,x,y=>eqD a x.1 y.1&&eqD b x.2 y.2
 | _,_,_=>false
structure Ctx where
 kt:List (Nat×K)
 se:List (Nat×Nat)
 fo:List (Nat×List (Nat×Nat))
 eqs:List Nat
 calls:Nat→Option bJ
 cel:List Nat:=[]
 mps:List (Nat×(Nat×Nat)):=[]
section
variable {β:Type}
def FState.set (s:FState) (d:Nat) (v:FV):FState:={s with tmps:=fun t=>bif Nat.beq t d then v else s.tmps t}
def FState.setO (s:FState) (d:Nat) (v:Option FObj):FState:={s with objs:=fun t=>bif Nat.beq t d then v else s.objs t}
def FV.kill (o:Nat):FV→FV
 | .sl p w nn=>bif Nat.beq p o then .dead else .sl p w nn
 | .ptr p i off=>bif Nat.beq p o then .dead else .ptr p i off
 | .mp p=>bif Nat.beq p o then .dead else .mp p
 | .cp p off=>bif Nat.beq p o then .dead else .cp p off
 | .it p=>bif Nat.beq p o then .dead else .it p
 | .tcons a b=> .tcons (a.kill o) (b.kill o)
 | v=>v
def dK (o t:Nat):Bool:=Nat.beq (t % 1000000) o&&Nat.ble 1000000 t
def FState.kill (s:FState) (o:Nat):FState:={tmps:=fun t=>bif dK o t then .dead else (s.tmps t).kill o,objs:=fun t=>bif Nat.beq t o then none else s.objs t}
def FState.put (s:FState) (d:Option Tmp) (v:FV):FState:=match d with | some d=>s.set d v | none=>s
def vK:Value→FV
 | .bool b=> .dat .bool b
 | .int k n=> .dat (.int k) n
 | .float k b=> .dat (.flt k) b
 | .string s=> .dat .str s
 | .slice none 0 0=> .nsl
 | .pointer none=> .nilp
 | .nilIface=> .nilif
 | .tuple #[]=> .tnil
 | _=> .dead
def ev (s:FState):Operand→FV
 | .tmp t=>bif Nat.blt t 1000000 then s.tmps t else .dead
 | .const v=>vK v
 | .global g=> .glob g
 | .func f=> .fn f
def jK (a b:K) (x:a.den) (κ:b.den→Option β):Option β:=if h:a=b then κ (h ▸ x) else none
def cG (a b:K) (x:List a.den) (κ:List b.den→Option β):Option β:=if h:a=b then κ (h ▸ x) else none
def eS (v:FV) (κ:IntKind→Int→Option β):Option β:=match v with | .dat (.int k) n=>κ k n | _=>none
def asBool (v:FV) (κ:Bool→Option β):Option β:=match v with | .dat .bool b=>κ b | _=>none
def rR (v:FV) (κ:BA→Option β):Option β:=match v with | .dat .str b=>κ b | _=>none
def eG (v:FV) (k:K) (κ:k.den→Option β):Option β:=match v with | .dat k' x=>jK k' k x κ | _=>none
def aO {α:Type _} (x:Option α) (κ:α→Option β):Option β:=match x with | some a=>κ a | none=>none
def win {α:Type} (xs:List α) (w:Option (Int×Int)):List α:=match w with | none=>xs | some (off,l)=>cut xs off (off+l)
def bK {α:Type} (xs:List α) (w:Option (Int×Int)):Int:=match w with | none=>(xs.length:Int) | some (_,l)=>l
def bB (w:Option (Int×Int)) (i:Int):Int:=match w with | none=>i | some (off,_)=>off+i
def eE (s:FState) (v:FV) (κ:(o:Nat)→(k:K)→TypeId→Bool→List k.den→Option (Int×Int)→Option β):Option β:=
 match v with
 | .sl o w _=>match s.objs o with | some (.row k e rw xs)=>κ o k e rw xs w | _=>none
 | _=>none
def dH (s:FState) (v:FV):(k:K)→(k.den→Option β)→Option β
 | .sl e k',κ=>(match v with
  | .nsl=>κ []
  | .sl o w nn=>eE s (.sl o w nn) fun _ k1 e1 _ xs w=>if e1=e then cG k1 k' xs fun xs=>κ (win xs w) else none
  | v=>eG v (.sl e k') κ)
 | k,κ=>eG v k κ
def fJ (s:FState) (o:Nat):Bool:=match s.objs o with | some (.row _ _ rw _)=> !rw | _=>false
def aK:List Nat→FState→FState
 | [],s=>s
 | o::l,s=>aK l (s.kill o)
def frz (s:FState):List FV→List Nat
 | []=>[]
 | .sl o _ _::vs=>bif fJ s o then frz s vs else o::frz s vs
 | _::vs=>frz s vs
def fld (o j:Nat):Nat:=o+(j+1) * 1000000
def FState.setF (s:FState) (o:Nat):Nat→List FV→FState
 | _,[]=>s
 | j,f::fs=>FState.setF (s.set (fld o j) f) o (j+1) fs
def fD:K→List FV
 | .pair a b=>fD a++fD b
 | .sl _ _=>[.nsl]
 | k=>[.dat k k.dflt]
def iG:(k:K)→k.den→List FV
 | .pair a b,x=>iG a x.1++iG b x.2
 | k,x=>[.dat k x]
def pH (s:FState) (o:Nat):Nat→Nat→List FV
 | _,0=>[]
 | j,n+1=>s.tmps (fld o j)::pH s o (j+1) n
def oU (s:FState) (o:Nat):(k:K)→Nat→(k.den→Option β)→Option β
 | .pair a b,j,κ=>oU s o a j fun x=>oU s o b (j+a.size) fun y=>κ (x,y)
 | k,j,κ=>dH s (s.tmps (fld o j)) k κ
def kE (s:FState) (o:Nat):(k:K)→Nat→(k.den→Option β)→Option β
 | .pair a b,j,κ=>kE s o a j fun x=>kE s o b (j+a.size) fun y=>κ (x,y)
 | .sl e k',j,κ=>(match s.tmps (fld o j) with
  | .nsl=>κ []
  | v=>eE s v fun _ k1 e1 rw xs w=>if e1=e∧rw=true then cG k1 k' xs fun xs=>κ (win xs w) else none)
 | k,j,κ=>eG (s.tmps (fld o j)) k κ
def eQ (s:FState) (o:Nat):K→Nat→List Nat
 | .pair a b,j=>eQ s o a j++eQ s o b (j+a.size)
 | .sl _ _,j=>(match s.tmps (fld o j) with | .sl q _ _=>[q] | _=>[])
 | _,_=>[]
def mC (nm:Nat→Nat):(k:K)→Nat→k.den→FState→(List FV→FState→Option β)→Option β
 | .pair a b,j,x,s,κ=>mC nm a j x.1 s fun l s=>mC nm b (j+a.size) x.2 s fun m s=>κ (l++m) s
 | .sl e k',j,xs,s,κ=>(match s.objs (nm j) with
  | none=>κ [.sl (nm j) none false] (s.setO (nm j) (some (.row k' e true xs)))
  | some _=>none)
 | k,_,x,s,κ=>κ [.dat k x] s
def wI:FV→Bool
 | .dat k _=> !k.isPair
 | .nsl=>true
 | .sl _ _ _=>true
 | .nilp=>true
 | _=>false
def FV.isSlB:FV→Bool
 | .sl _ _ _=>true
 | _=>false
def rP (t:Bool) (a b:FV):FV:=
 match a,b with
 | .dat k x,.dat k' y=>if h:k'=k then .dat k (cond t x (h ▸ y)) else .dead
 | _,_=>cond t a b
def rL (op:BinOp) (k:IntKind) (a b:Int) (κ:FV→Option β):Option β:=
 match op with
 | .add=>κ (.dat (.int k) (k.wrap (a+b)))
 | .sub=>κ (.dat (.int k) (k.wrap (a - b)))
 | .mul=>κ (.dat (.int k) (k.wrap (a * b)))
 | .quo=>if b=0 then none else κ (.dat (.int k) (k.wrap (a.tdiv b)))
 | .rem=>if b=0 then none else κ (.dat (.int k) (a.tmod b))
 | .eql=>κ (.dat .bool (a==b))
 | .neq=>κ (.dat .bool (a !=b))
 | .lss=>κ (.dat .bool (decide (a < b)))
 | .leq=>κ (.dat .bool (decide (a≤b)))
 | .gtr=>κ (.dat .bool (decide (a>b)))
 | .geq=>κ (.dat .bool (decide (a≥b)))
 | .and=>κ (.dat (.int k) (YK k a b))
 | .or=>κ (.dat (.int k) (orI k a b))
 | .xor=>κ (.dat (.int k) (XZ k a b))
 | .andNot=>κ (.dat (.int k) (CL k a b))
 | _=>none
def lV:BinOp→Bool
 | .shl=>true
 | .shr=>true
 | _=>false
def kR (op:BinOp) (k:IntKind) (a b:Int) (κ:FV→Option β):Option β:=
 if b < 0 then none else
 match op with
 | .shl=>κ (.dat (.int k) (WR k a b))
 | .shr=>κ (.dat (.int k) (WT k a b))
 | _=>none
def sA (op:BinOp) (k:FloatKind) (a b:Nat) (κ:FV→Option β):Option β:=
 match op with
 | .add=>onS (floatBits .add k a b) fun r=>κ (.dat (.flt k) r)
 | .sub=>onS (floatBits .sub k a b) fun r=>κ (.dat (.flt k) r)
 | .mul=>onS (floatBits .mul k a b) fun r=>κ (.dat (.flt k) r)
 | .quo=>onS (floatBits .quo k a b) fun r=>κ (.dat (.flt k) r)
 | .eql=>κ (.dat .bool (fEq k a b))
 | .neq=>κ (.dat .bool (!fEq k a b))
 | .lss=>κ (.dat .bool (fLt k a b))
 | .leq=>κ (.dat .bool (fLt k a b||fEq k a b))
 | .gtr=>κ (.dat .bool (fGt k a b))
 | .geq=>κ (.dat .bool (fGt k a b||fEq k a b))
 | _=>none
def rX (op:BinOp) (a b:BA) (κ:FV→Option β):Option β:=
 match op with
 | .add=>dS (a.size+b.size) (κ (.dat .str (a++b)))
 | .eql=>κ (.dat .bool (fE a b))
 | .neq=>κ (.dat .bool (!fE a b))
 | _=>none
def fW (Γ:Ctx) (op:BinOp) (t:TypeId) (x y:FV) (κ:FV→Option β):Option β:=
 match x,y with
 | .dat (.int k) a,.dat (.int k') b=>bif lV op then kR op k a b κ else if k=k' then rL op k a b κ else none
 | .dat (.flt k) a,.dat (.flt k') b=>if k=k' then sA op k a b κ else none
 | .dat .str a,.dat .str b=>rX op a b κ
 | .dat (.pair a b) x,.dat k' y=>jK k' (.pair a b) y fun y=>if lk Γ.kt t=some (.pair a b)∧cV t Γ.eqs=true then (match op with
  | .eql=>κ (.dat .bool (eqD (.pair a b) x y))
  | .neq=>κ (.dat .bool (!eqD (.pair a b) x y))
  | _=>none) else none
 | .nsl,.nsl=>(match lk Γ.se t,op with | some _,.eql=>κ (.dat .bool true) | some _,.neq=>κ (.dat .bool false) | _,_=>none)
 | .sl _ _ true,.nsl=>(match lk Γ.se t,op with | some _,.eql=>κ (.dat .bool false) | some _,.neq=>κ (.dat .bool true) | _,_=>none)
 | .dat .bool a,.dat .bool b=>(match lk Γ.kt t,op with | some .bool,.eql=>κ (.dat .bool (a==b)) | some .bool,.neq=>κ (.dat .bool (a !=b)) | _,_=>none)
 | _,_=>none
def unK (op:UnOp) (x:FV) (κ:FV→Option β):Option β:=
 match op,x with
 | .neg,.dat (.int k) n=>κ (.dat (.int k) (k.wrap (0 - n)))
 | .not,.dat .bool b=>κ (.dat .bool (!b))
 | _,_=>none
def hU (Γ:Ctx) (src dst:TypeId) (x:FV) (κ:FV→Option β):Option β:=
 match lk Γ.kt src,lk Γ.kt dst,x with
 | some (.int _),some (.int k),.dat (.int _) n=>κ (.dat (.int k) (k.wrap n))
 | some .str,some .str,.dat .str s=>κ (.dat .str s)
 | some (.int _),some (.flt k),.dat (.int _) n=>κ (.dat (.flt k) (floatOfInt k n))
 | some (.flt _),some (.int k),.dat (.flt k') b=>onS (floatToIntVal k' b k) fun n=>κ (.dat (.int k) n)
 | some (.int _),some .str,.dat (.int _) n=>κ (.dat .str (Utf8.encode n))
 | _,_,_=>none
def newRow (d:Option Tmp) (s:FState) (obj:FObj) (v:Nat→FV) (κ:FState→Option β):Option β:=
 match d with
 | some d=>match s.objs d with | none=>κ ((s.setO d (some obj)).set d (v d)) | some _=>none
 | none=>none
def hJ (Γ:Ctx) (d:Option Tmp) (src dst:TypeId) (v:FV) (s:FState) (κ:FState→Option β):Option β:=
 match v with
 | .dat .str z=>(match lk Γ.se dst with
  | some e=>(match lk Γ.kt src,lk Γ.kt e with
   | some .str,some (.int .i32)=>bif Nat.ble z.size 70368744177664 then newRow d s (.row (.int .i32) e true (bN z)) (fun d=> .sl d none false) κ else none
   | some .str,some (.int .u8)=>bif Nat.ble z.size 70368744177664 then newRow d s (.row (.int .u8) e true (aE z)) (fun d=> .sl d none true) κ else none
   | _,_=>none)
  | none=>hU Γ src dst v fun v=>κ (s.put d v))
 | .nsl=>(match lk Γ.se src,lk Γ.kt dst with
  | some e,some .str=>(match lk Γ.kt e with
   | some (.int .u8)=>κ (s.put d (.dat .str ⟨#[]⟩))
   | some (.int .i32)=>κ (s.put d (.dat .str ⟨#[]⟩))
   | _=>none)
  | _,_=>none)
 | .sl o w nn=>eE s (.sl o w nn) fun o k' _ rw xs w=>(match lk Γ.se src,lk Γ.kt dst with
  | some e,some (.sl _ _)=>if src=dst∧nn=true∧rw=true∧lk Γ.kt e=some (.int .u8) then idx 0 (bK xs w) (κ (s.put d (.sl o w true))) else none
  | some e,some .str=>(match lk Γ.kt e with
   | some (.int .u8)=>cG k' (.int .u8) xs fun xs=>κ (s.put d (.dat .str (strOfNums (win xs w))))
   | some (.int .i32)=>cG k' (.int .i32) xs fun xs=>κ (s.put d (.dat .str (runesBytes (win xs w))))
   | _=>none)
  | _,_=>none)
 | v=>hU Γ src dst v fun v=>κ (s.put d v)
def uB (b:Builtin) (x y:FV) (κ:FV→Option β):Option β:=
 match b,x,y with
 | .max,.dat (.int k) a,.dat (.int k') b=>if k=k' then κ (.dat (.int k) (WX a b)) else none
 | .min,.dat (.int k) a,.dat (.int k') b=>if k=k' then κ (.dat (.int k) (rG a b)) else none
 | _,_,_=>none
def wC (Γ:Ctx) (d:Option Tmp) (t:TypeId) (l c:FV) (s:FState) (κ:FState→Option β):Option β:=
 aO (lk Γ.se t) fun e=>aO (lk Γ.kt e) fun k=>eS l fun _ l=>eS c fun _ c=>bnd 0 l c (LI c (newRow d s (.row k e true (List.replicate l.toNat k.dflt)) (fun d=> .sl d none true) κ))
def xJ (Γ:Ctx) (d:Option Tmp) (t:TypeId) (x y:FV) (s:FState) (κ:FState→Option β):Option β:=
 aO (lk Γ.se t) fun e=>aO (lk Γ.kt e) fun k=>eE s x fun o k1 e1 rw xs w=>if rw=true∧e1=e then cG k1 k xs fun xs=>eE s y fun _ k2 _ _ ys w2=>cG k2 k ys fun ys=>
  κ ((s.setO o (some (.row k e true (eM xs (bB w 0) (bK xs w) (win ys w2))))).put d (.dat (.int .i64) (rG (bK xs w) (bK ys w2)))) else none
def qP (Γ:Ctx) (d:Option Tmp) (t:TypeId) (x:FV) (s:FState) (κ:FState→Option β):Option β:=
 rR x fun z=>if lk Γ.kt t=some .str then newRow d s (.siter z 0) (fun d=> .it d) κ else none
def sN (d:Option Tmp) (x:FV) (s:FState) (κ:FState→Option β):Option β:=
 match x with
 | .it p=>(match s.objs p with
  | some (.siter z pos)=>cond (Nat.blt pos z.size)
   (κ ((s.setO p (some (.siter z (pos+(Utf8.decode z pos).2)))).put d (.tcons (.dat .bool true) (.tcons (.dat (.int .i64) (pos:Int)) (.tcons (.dat (.int .i32) ((Utf8.decode z pos).1:Int)) .tnil)))))
   (κ (s.put d (.tcons (.dat .bool false) .tnil)))
  | _=>none)
 | _=>none
def putD (Γ:Ctx) (d:Option Tmp) (s:FState):(k:K)→k.den→(FState→Option β)→Option β
 | .sl e k',xs,κ=>if lk Γ.kt e=some k' then newRow d s (.row k' e false xs) (fun d=> .sl d none false) κ else none
 | k,y,κ=>κ (s.put d (.dat k y))
def cZ (Γ:Ctx) (t:TypeId) (j:Nat):Option (Nat×Nat):=(lk Γ.fo t).bind fun l=>l[j]?
def gN (Γ:Ctx) (s:FState) (t:TypeId) (k:K):List (Nat×Operand)→k.den→(k.den→Option β)→Option β
 | [],x,κ=>κ x
 | (j,v)::ps,x,κ=>aO (cZ Γ t j) fun (off,ft)=>aO (lk Γ.kt ft) fun k'=>dH s (ev s v) k' fun y=>aO (AQ k off k' y x) fun x=>gN Γ s t k ps x κ
def gZ (s:FState) (k:K):Nat→List (Nat×Operand)→List k.den→(List k.den→Option β)→Option β
 | _,[],acc,κ=>κ acc
 | n,(j,v)::ps,acc,κ=>bif Nat.beq j n then dH s (ev s v) k fun y=>gZ s k (n+1) ps (acc++[y]) κ else none
def aN (s:FState):(ks:List AK)→List FV→(DenA ks→Option β)→Option β
 | [],[],κ=>κ ()
 | .dat k::ks,v::vs,κ=>eG v k fun x=>aN s ks vs fun xs=>κ (x,xs)
 | .ro k e::ks,v::vs,κ=>
  (match v with
  | .nsl=>aN s ks vs fun xs=>κ ([],xs)
  | v=>eE s v fun _ k' e' _ xs w=>if e'=e then cG k' k xs fun xs=>aN s ks vs fun r=>κ (win xs w,r) else none)
 | .rw k e::ks,v::vs,κ=>
  (match v with
  | .nsl=>aN s ks vs fun xs=>κ ([],xs)
  | v=>eE s v fun _ k' e' rw xs w=>if e'=e∧rw=true then cG k' k xs fun xs=>aN s ks vs fun r=>κ (win xs w,r) else none)
 | .pro k e::ks,v::vs,κ=>
  (match v with
  | .ptr o i 0=>match s.objs o with | some (.row k' e' _ xs)=>if e'=e then jK k' k (rdK k' xs i) fun x=>aN s ks vs fun r=>κ (x,r) else none | _=>none
  | _=>none)
 | .cel k e::ks,v::vs,κ=>
  (match v with
  | .cp o 0=>match s.objs o with | some (.cell k' e')=>if o < 1000000∧k'=k∧e'=e then kE s o k 0 fun x=>aN s ks vs fun r=>κ (x,r) else none | _=>none
  | _=>none)
 | .io k e::ks,v::vs,κ=>
  (match v with
  | .sl o none _=>match s.objs o with | some (.row k' e' true xs)=>if e'=e then cG k' k xs fun xs=>aN s ks vs fun r=>κ (xs,r) else none | _=>none
  | _=>none)
 | .mp a b::ks,v::vs,κ=>
  (match v with
  | .mp o=>match s.objs o with | some (.mapo a' b' es)=>if h:a'=a∧b'=b then aN s ks vs fun r=>κ (h.1 ▸ h.2 ▸ es,r) else none | _=>none
  | _=>none)
 | _,_,_=>none
def aV:List AK→List FV→List Nat
 | .ro _ _::ks,.sl o _ _::vs=>o::aV ks vs
 | .pro _ _::ks,.ptr o _ _::vs=>o::aV ks vs
 | _::ks,_::vs=>aV ks vs
 | _,_=>[]
def bT:List AK→List FV→List Nat
 | .rw _ _::ks,.sl o _ _::vs=>o::bT ks vs
 | _::ks,_::vs=>bT ks vs
 | _,_=>[]
def aU (s:FState):List AK→List FV→List Nat
 | .rw _ _::ks,.sl o _ _::vs=>o::aU s ks vs
 | .cel k _::ks,.cp o _::vs=>(o::eQ s o k 0)++aU s ks vs
 | .io _ _::ks,.sl o _ _::vs=>o::aU s ks vs
 | .mp _ _::ks,.mp o::vs=>o::aU s ks vs
 | _::ks,_::vs=>aU s ks vs
 | _,_=>[]
def aM:List AK→List FV→List Nat
 | .cel _ _::ks,.cp o _::vs=>o::aM ks vs
 | .io _ _::ks,.sl o _ _::vs=>o::aM ks vs
 | .mp _ _::ks,.mp o::vs=>o::aM ks vs
 | _::ks,_::vs=>aM ks vs
 | _,_=>[]
def bS:List Nat→Bool
 | []=>true
 | x::l=> !cV x l&&bS l
def aW (d:Nat):(j:Nat)→(rs:List RK)→DenR rs→FState→(FV→FState→Option β)→Option β
 | _,[],_,s,κ=>κ .tnil s
 | j,.dat k::rs,(x,xs),s,κ=>aW d (j+1) rs xs s fun v s=>κ (.tcons (.dat k x) v) s
 | j,.nsl::rs,(_,xs),s,κ=>aW d (j+1) rs xs s fun v s=>κ (.tcons .nsl v) s
 | j,.rw k e::rs,(x,xs),s,κ=>match s.objs (d+j * 1000000) with
  | none=>aW d (j+1) rs xs (s.setO (d+j * 1000000) (some (.row k e true x))) fun v s=>κ (.tcons (.sl (d+j * 1000000) none false) v) s
  | some _=>none
 | j,.ro k e::rs,(x,xs),s,κ=>match s.objs (d+j * 1000000) with
  | none=>aW d (j+1) rs xs (s.setO (d+j * 1000000) (some (.row k e false x))) fun v s=>κ (.tcons (.sl (d+j * 1000000) none false) v) s
  | some _=>none
 | j,.ptr k e::rs,(x,xs),s,κ=>match s.objs (d+j * 1000000) with
  | none=>aW d (j+1) rs xs (s.setO (d+j * 1000000) (some (.row k e true [x]))) fun v s=>κ (.tcons (.ptr (d+j * 1000000) 0 0) v) s
  | some _=>none
 | _,.bcel _ _::_,_,_,_=>none
 | _,.bio _ _::_,_,_,_=>none
 | _,.bmp _ _::_,_,_,_=>none
def cS (d:Nat):(j:Nat)→(rs:List RK)→List Nat→DenR rs→FState→(FState→Option β)→Option β
 | _,[],_,_,s,κ=>κ s
 | j,.bcel k e::rs,o::ios,(x,xs),s,κ=>match s.objs o with
  | none=>mC (fun i=>d+(64+16 * j+i) * 1000000) k 0 x s fun fs s=>match s.objs o with
   | none=>cS d (j+1) rs ios xs ((s.setO o (some (.cell k e))).setF o 0 fs) κ
   | some _=>none
  | some _=>none
 | j,.bio k e::rs,o::ios,(x,xs),s,κ=>match s.objs o with
  | none=>cS d (j+1) rs ios xs (s.setO o (some (.row k e true x))) κ
  | some _=>none
 | j,.bmp a b::rs,o::ios,(x,xs),s,κ=>match s.objs o with
  | none=>cS d (j+1) rs ios xs (s.setO o (some (.mapo a b x))) κ
  | some _=>none
 | _,_::_,_,_,_,_=>none
def fZ:FV→FV
 | .tcons v .tnil=>v
 | v=>v
def FState.down (s:FState) (o:Nat):FState:=match s.objs o with | some (.row k e true xs)=>s.setO o (some (.row k e false xs)) | _=>s
def downAll:List Nat→FState→FState
 | [],s=>s
 | o::l,s=>downAll l (s.down o)
def downFor (S:bJ) (vs:List FV) (s:FState):FState:=bif S.rets.all RK.flat then s else downAll (aV S.args vs) s
def AV (ios:List Nat) (s s2:FState):FState:={s2 with tmps:=fun t=>match s.tmps t with
 | .cp o off=>bif cV o ios&&Nat.blt t 1000000 then .cp o off else s2.tmps t
 | .sl o w nn=>bif cV o ios&&Nat.blt t 1000000 then .sl o w nn else s2.tmps t
 | .mp o=>bif cV o ios&&Nat.blt t 1000000 then .mp o else s2.tmps t
 | _=>s2.tmps t}
def LM (S:bJ) (d:Option Tmp) (vs:List FV) (s:FState) (κ:FState→Option β):Option β:=
 match d with
 | none=>none
 | some d=>
 bif bS (aU s S.args vs)&&(aU s S.args vs).all (fun o=> !cV o (aV S.args vs))&&(S.rets.all RK.flat&&S.backs.all RK.flat||(aV S.args vs).all (fJ s)) then
 aN s S.args vs fun xs=>S.app xs fun r=>aW d 0 S.rets r.1 (aK (aU s S.args vs) s) fun v s1=>cS d 0 S.backs (aM S.args vs) r.2 s1 fun s2=>κ ((AV (aM S.args vs) s s2).set d (fZ v))
 else none
def sL (S:bJ) (d:Option Tmp) (vs:List FV) (s:FState) (κ:FState→Option β):Option β:=
 bif S.args.any AK.isB then LM S d vs s κ else
 match d with
 | none=>none
 | some d=>
 bif bS (bT S.args vs)&&(bT S.args vs).all (fun o=> !cV o (aV S.args vs))&&(S.rets.all RK.flat||(aV S.args vs).all (fJ s)) then
 aN s S.args vs fun xs=>S.app xs fun r=>aW d 0 S.rets r.1 (aK (bT S.args vs) s) fun v s=>κ (s.set d (fZ v))
 else none
def vR (Γ:Ctx) (s:FState) (u e:TypeId) (k:K) (y:FV) (κ:List k.den→Option β):Option β:=
 match y with
 | .nsl=>if lk Γ.se u=some e then κ [] else none
 | .dat .str z=>if lk Γ.kt u=some .str then cG (.int .u8) k (z.data.toList.map fun b=>(b.toNat:Int)) κ else none
 | y=>eE s y fun _ k' _ _ ys w=>if lk Γ.se u=some e then cG k' k ys fun ys=>κ (win ys w) else none
def iW (Γ:Ctx) (d:Option Tmp) (t u:TypeId) (x y:FV) (s:FState) (κ:FState→Option β):Option β:=
 aO (lk Γ.se t) fun e=>aO (lk Γ.kt e) fun k=>
  vR Γ s u e k y fun ys=>match x with
   | .nsl=>dS ys.length (newRow d s (.row k e true ys) (fun d=> .sl d none false) κ)
   | x=>eE s x fun o k' e' rw xs w=>if rw=true∧e'=e then cG k' k xs fun xs=>
     dS ((win xs w).length+ys.length) (κ (((s.kill o).setO o (some (.row k e true (win xs w++ys)))).put d (.sl o none false))) else none
def jR (lo hi:Option FV) (n:Int) (κ:Int→Int→Option β):Option β:=
 match lo,hi with
 | none,none=>κ 0 n
 | some a,none=>eS a fun _ a=>bnd a n n (κ a n)
 | none,some b=>eS b fun _ b=>bnd 0 b n (κ 0 b)
 | some a,some b=>eS a fun _ a=>eS b fun _ b=>bnd a b n (κ a b)
def jX (Γ:Ctx) (d:Option Tmp) (t:TypeId) (x:FV) (lo hi:Option FV) (s:FState) (κ:FState→Option β):Option β:=
 match x with
 | .dat .str z=>if lk Γ.kt t=some .str then jR lo hi z.size fun a b=>κ (s.put d (.dat .str (dY z a b))) else none
 | x=>eE s x fun o k e rw xs w=>if lk Γ.se t=some e then jR lo hi (bK xs w) fun a b=>
   bif rw then κ (s.put d (.sl o (some (bB w a,b - a)) false))
   else newRow d s (.row k e false (cut xs (bB w a) (bB w b))) (fun d=> .sl d none false) κ
  else none
def K.key:K→Bool
 | .int _ | .str | .bool=>true
 | _=>false
def lF {a b:K} (x:a.den):List (a.den×b.den)→Option b.den
 | []=>none
 | e::es=>bif eqD a x e.1 then some e.2 else lF x es
def rC {a b:K} (x:a.den) (y:b.den):List (a.den×b.den)→List (a.den×b.den)
 | []=>[(x,y)]
 | e::es=>bif eqD a x e.1 then (x,y)::es else e::rC x y es
def nA (s:FState) (v:FV) (κ:(o:Nat)→(a b:K)→List (a.den×b.den)→Option β):Option β:=
 match v with
 | .mp o=>(match s.objs o with | some (.mapo a b es)=>κ o a b es | _=>none)
 | _=>none
def qW (Γ:Ctx) (t:TypeId) (κ:K→K→Option β):Option β:=
 aO (lk Γ.mps t) fun p=>aO (lk Γ.kt p.1) fun a=>aO (lk Γ.kt p.2) fun b=>bif a.key&&b.key then κ a b else none
def qU {a b:K} (ok:Bool) (x:a.den) (es:List (a.den×b.den)):FV:=
 bif ok then .tcons (.dat b ((lF x es).getD b.dflt)) (.tcons (.dat .bool (lF x es).isSome) .tnil) else .dat b ((lF x es).getD b.dflt)
def xC (Γ:Ctx) (d:Option Tmp):Bool:=match d with | some d=>cV d Γ.cel | none=>false
def oQ (d:Option Tmp) (s:FState) (k:K) (e:TypeId) (fs:List FV) (κ:FState→Option β):Option β:=
 match d with
 | some d=>(match s.objs d with | none=>bif Nat.blt d 1000000 then κ ((((s.kill d).setO d (some (.cell k e))).setF d 0 fs).set d (.cp d 0)) else none | some _=>none)
 | none=>none
def mU (Γ:Ctx) (d:Option Tmp) (s:FState) (p off:Nat) (k:K) (κ:FState→Option β):Option β:=
 match k with
 | .pair a b=>oU s p (.pair a b) off fun x=>κ ((aK (frz s (pH s p off (K.pair a b).size)) s).put d (.dat (.pair a b) x))
 | k=>(match s.tmps (fld p off) with
  | .dat (.sl e k1) xs=>putD Γ d s (.sl e k1) xs κ
  | v=>κ (s.put d v))
def vV (k:K) (v:FV) (κ:List FV→Option β):Option β:=
 match k with
 | .pair a b=>(match v with
  | .zer k1=>if k1= .pair a b then κ (fD (.pair a b)) else none
  | v=>eG v (.pair a b) fun x=>κ (iG (.pair a b) x))
 | k=>bif wI v then κ [v] else none
def opK (Γ:Ctx) (o:Oper) (s:FState) (κ:FState→Option β):Option β:=
 match o.op with
 | .move x | .assign x=>κ (s.put o.dst (ev s x))
 | .pick c a b=>asBool (ev s c) fun t=>κ (s.put o.dst (rP t (ev s a) (ev s b)))
 | .binOp op t x y _=>fW Γ op t (ev s x) (ev s y) fun v=>κ (s.put o.dst v)
 | .unOp op _ x=>unK op (ev s x) fun v=>κ (s.put o.dst v)
 | .convert src dst x=>hJ Γ o.dst src dst (ev s x) s κ
 | .alloc t=>aO (lk Γ.kt t) fun k=>bif xC Γ o.dst then oQ o.dst s k t (fD k) κ else newRow o.dst s (.row k t true [k.dflt]) (fun d=> .ptr d 0 0) κ
 | .box t x=>aO (lk Γ.kt t) fun k=>dH s (ev s x) k fun y=>newRow o.dst (aK (frz s [ev s x]) s) (.row k t true [y]) (fun d=> .ptr d 0 0) κ
 | .build t ps=>bif xC Γ o.dst&&Nat.beq ps.size 0 then (match lk Γ.kt t,lk Γ.fo t with
  | some (.pair k1 k2),some _=>κ (s.put o.dst (.zer (.pair k1 k2)))
  | _,_=>none) else (match lk Γ.kt t,lk Γ.fo t with
  | some (.pair k1 k2),some _=>gN Γ s t (.pair k1 k2) ps.toList (K.pair k1 k2).dflt fun x=>κ ((aK (frz s (ps.toList.map fun p=>ev s p.2)) s).put o.dst (.dat (.pair k1 k2) x))
  | _,_=>none)
 | .buildSlice t n ps=>aO (lk Γ.se t) fun e=>aO (lk Γ.kt e) fun k=>bif Nat.beq n ps.size&&Nat.ble (ps.size * k.size) 16777216 then gZ s k 0 ps.toList [] fun xs=>newRow o.dst (aK (frz s (ps.toList.map fun p=>ev s p.2)) s) (.row k e true xs) (fun d=> .sl d none true) κ else none
 | .load t a=>(match ev s a with
  | .ptr p i off=>(match s.objs p with
   | some (.row k _ _ xs)=>aO (lk Γ.kt t) fun k'=>aO (wK k off k' (rdK k xs i)) fun y=>putD Γ o.dst s k' y κ
   | _=>none)
  | .cp p off=>(match s.objs p with
   | some (.cell k _)=>aO (lk Γ.kt t) fun k'=>bif Nat.blt p 1000000&&Nat.ble (off+k'.size) k.size then mU Γ o.dst s p off k' κ else none
   | _=>none)
  | _=>none)
 | .store t a x=>(match o.dst,ev s a with
  | none,.ptr p i off=>(match s.objs p with
   | some (.row k e true xs)=>aO (lk Γ.kt t) fun k'=>dH s (ev s x) k' fun y=>aO (AQ k off k' y (rdK k xs i)) fun z=>bif cV p (frz s [ev s x]) then none else κ ((aK (frz s [ev s x]) s).setO p (some (.row k e true (xs.set i.toNat z))))
   | _=>none)
  | none,.cp p off=>(match s.objs p with
   | some (.cell k _)=>aO (lk Γ.kt t) fun k'=>bif Nat.blt p 1000000&&Nat.ble (off+k'.size) k.size then vV k' (ev s x) fun fs=>κ (s.setF p off fs) else none
   | _=>none)
  | _,_=>none)
 | .fieldAddr t x j=>(match ev s x with
  | .ptr p i off=>aO (cZ Γ t j) fun (q,ft)=>aO (lk Γ.kt ft) fun _=>κ (s.put o.dst (.ptr p i (off+q)))
  | .cp p off=>(match s.objs p with
   | some (.cell k _)=>aO (cZ Γ t j) fun (q,ft)=>aO (lk Γ.kt ft) fun _=>bif Nat.blt (off+q) k.size then κ (s.put o.dst (.cp p (off+q))) else none
   | _=>none)
  | _=>none)
 | .field t x j=>(match ev s x with
  | .dat (.pair k1 k2) y=>aO (cZ Γ t j) fun (q,ft)=>aO (lk Γ.kt ft) fun k'=>aO (wK (.pair k1 k2) q k' y) fun z=>putD Γ o.dst s k' z κ
  | _=>none)
 | .indexAddr t x i=>eE s (ev s x) fun p _ e _ xs w=>if lk Γ.se t=some e then eS (ev s i) fun _ i=>idx i (bK xs w) (κ (s.put o.dst (.ptr p (bB w i) 0))) else none
 | .index t x i=>rR (ev s x) fun z=>if lk Γ.kt t=some .str then eS (ev s i) fun _ i=>idx i z.size (κ (s.put o.dst (.dat (.int .u8) (byteAt z i)))) else none
 | .nilCheck x=>(match ev s x with
  | .ptr p i off=>κ (s.put o.dst (.ptr p i off))
  | .cp p off=>κ (s.put o.dst (.cp p off))
  | _=>none)
 | .makeSlice t l c=>wC Γ o.dst t (ev s l) (ev s c) s κ
 | .range t x=>qP Γ o.dst t (ev s x) s κ
 | .makeMap t none=>qW Γ t fun a b=>newRow o.dst s (.mapo a b []) (fun d=> .mp d) κ
 | .lookup t x i ok=>qW Γ t fun a b=>nA s (ev s x) fun _ a' b' es=>if h:a'=a∧b'=b then eG (ev s i) a fun k=>κ (s.put o.dst (qU (a:=a) (b:=b) ok k (h.1 ▸ h.2 ▸ es))) else none
 | .mapUpdate t x i y=>(match o.dst with
  | none=>qW Γ t fun a b=>nA s (ev s x) fun p a' b' es=>if h:a'=a∧b'=b then eG (ev s i) a fun k=>eG (ev s y) b fun z=>κ (s.setO p (some (.mapo a b (rC k z (h.1 ▸ h.2 ▸ es))))) else none
  | some _=>none)
 | .next x true=>sN o.dst (ev s x) s κ
 | .slice t x lo hi none=>jX Γ o.dst t (ev s x) (lo.map (ev s)) (hi.map (ev s)) s κ
 | .extract t j=>(match ev s t,j with
  | .tcons a _,0=>κ (s.put o.dst a)
  | .tcons _ (.tcons a _),1=>κ (s.put o.dst a)
  | .tcons _ (.tcons _ (.tcons a _)),2=>κ (s.put o.dst a)
  | _,_=>none)
 | .call c=>(match c.callee with
  | .builtin .len=>(match c.args.toList,c.argTypes.toList with
   | [x],[t]=>(match ev s x with
    | .dat .str z=>if lk Γ.kt t=some .str then κ (s.put o.dst (.dat (.int .i64) (z.size:Int))) else none
    | .nsl=>aO (lk Γ.se t) fun _=>κ (s.put o.dst (.dat (.int .i64) (0:Int)))
    | v=>eE s v fun _ _ _ _ xs w=>aO (lk Γ.se t) fun _=>κ (s.put o.dst (.dat (.int .i64) (bK xs w))))
   | _,_=>none)
  | .builtin .append=>(match c.args.toList,c.argTypes.toList with
   | [x,y],[t,u]=>iW Γ o.dst t u (ev s x) (ev s y) s κ
   | _,_=>none)
  | .builtin .copy=>(match c.args.toList,c.argTypes.toList with
   | [x,y],[t,_]=>xJ Γ o.dst t (ev s x) (ev s y) s κ
   | _,_=>none)
  | .builtin .max=>(match c.args.toList with
   | [x,y]=>uB .max (ev s x) (ev s y) fun v=>κ (s.put o.dst v)
   | _=>none)
  | .builtin .min=>(match c.args.toList with
   | [x,y]=>uB .min (ev s x) (ev s y) fun v=>κ (s.put o.dst v)
   | _=>none)
  | .value f=>(match ev s f with
   | .fn f=>aO (Γ.calls f) fun S=>sL S o.dst (c.args.toList.map (ev s)) (downFor S (c.args.toList.map (ev s)) s) κ
   | _=>none)
  | _=>none)
 | _=>none
def gK (Γ:Ctx) (all:List Oper) (o:Oper) (s:FState) (κ:Bool→FState→FState→Option β):Option β:=
 match o.guard with
 | none=>opK Γ o s fun s'=>κ true s s'
 | some (j,want)=>
  match (all[j]?).bind (·.dst) with
  | none=>none
  | some d=>
   let go (b:Bool):Option β:=
    (fun s=>bif b==want then opK Γ o s fun s'=>κ true s s' else κ false s (s.put o.dst .tnil)) (s.set d (.dat .bool b))
   match s.tmps d with
   | .dat .bool b=>cond b (go true) (go false)
   | .tnil=>κ false s (s.put o.dst .tnil)
   | _=>none
def RJ (Γ:Ctx) (all:List Oper):List Oper→FState→(FState→Option β)→Option β
 | [],s,κ=>κ s
 | o::os,s,κ=>gK Γ all o s fun _ _ s=>RJ Γ all os s κ
def FV.refs:FV→List Nat
 | .sl o _ _=>[o]
 | .ptr o _ _=>[o]
 | .mp o=>[o]
 | .it o=>[o]
 | .cp o _=>[o]
 | .tcons a b=>a.refs++b.refs
 | _=>[]
def FV.live:FV→Bool
 | .dead=>false
 | .tcons a b=>a.live&&b.live
 | _=>true
def FV.isCp:FV→Bool
 | .cp _ _=>true
 | _=>false
structure dX where
 touch:Bool
 refs:List Nat
 live:Bool
 cel:Bool
def dG (Γ:Ctx) (s:FState) (o:Oper):Bool:=
 match o.op with
 | .store _ _ _=>true
 | .mapUpdate _ _ _ _=>true
 | .next _ _=>true
 | .box _ x=>(ev s x).isSlB
 | .build _ ps=>(ps.toList.map fun p=>ev s p.2).any FV.isSlB
 | .buildSlice _ _ ps=>(ps.toList.map fun p=>ev s p.2).any FV.isSlB
 | .call c=>(match c.callee with
  | .builtin .len=>false
  | .builtin .max=>false
  | .builtin .min=>false
  | .value f=>(match ev s f with
   | .fn f=>(match Γ.calls f with | some S=> !((bT S.args (c.args.toList.map (ev s))).isEmpty&&(S.rets.all RK.flat||(aV S.args (c.args.toList.map (ev s))).isEmpty)) | none=>true)
   | _=>true)
  | _=>true)
 | _=>false
def iO (s:FState) (o:Oper):List Nat:=match o.op with | .load _ a=>(match ev s a with | .cp p off=>(s.tmps (fld p off)).refs | _=>[]) | _=>[]
def eO (Γ:Ctx) (s:FState) (o:Oper):dX:=⟨dG Γ s o,(o.op.operands.toList.map (ev s)).flatMap FV.refs++iO s o,(o.op.operands.toList.map (ev s)).all FV.live,(o.op.operands.toList.map (ev s)).any FV.isCp⟩
def rF:List Oper→List (List Nat)
 | ops=>ops.foldl (fun acc o=>acc++[(o.after.toList.filter (Region.binds .any)).flatMap fun e=>e.on::(acc[e.on]?.getD [])]) []
def BD (all:List Oper) (an:List (List Nat)):Nat→List Oper→Bool
 | _,[]=>true
 | i,o::os=>(an[i]?.getD []).all (fun x=>o.after.toList.any fun e=>Region.binds .any e&&(Nat.beq x e.on||cV x (an[e.on]?.getD [])))&&BD all an (i+1) os
def NY (l m:List Nat):Bool:=l.all fun x=> !cV x m
def sV (d:Option Tmp) (l:List Nat):Bool:=match d with | some d=>l.all fun k=> !Nat.beq (k % 1000000) d | none=>true
def CT (x y:dX):Bool:=(!x.touch&& !y.touch)||(NY x.refs y.refs&&x.live&&y.live&& !x.cel&& !y.cel)
def vC (all:List Oper) (i j:Nat) (ix iy:dX):Bool:=match all[i]?,all[j]? with | some x,some y=>x.apart all.toArray y&&sV x.dst iy.refs&&sV y.dst ix.refs | _,_=>false
def pY (all:List Oper) (an:List (List Nat)):List (Nat×dX)→Bool
 | []=>true
 | (i,x)::l=>l.all (fun p=>cV p.1 (an[i]?.getD [])||(CT p.2 x&&vC all p.1 i p.2 x))&&pY all an l
def iM:Nat→List Oper→Bool
 | _,[]=>true
 | i,o::os=>o.after.toList.all (fun e=> !Region.binds .any e||Nat.blt e.on i)&&(match o.dst with | some d=>Nat.blt d 1000000 | none=>true)&&iM (i+1) os
def fO (Γ:Ctx) (s:FState) (o:Oper):Bool:=
 match o.op with
 | .store _ a _=> !(ev s a).isCp
 | .alloc _=> !xC Γ o.dst
 | .build _ ps=> !(xC Γ o.dst&&Nat.beq ps.size 0)
 | .load t a=>(match ev s a with | .cp p off=>(match lk Γ.kt t,s.tmps (fld p off) with | some (.pair _ _),_=>false | _,.dat (.sl _ _) _=>false | _,.dat _ _=>true | _,.sl _ _ _=>true | _,_=>false) | _=>true)
 | .call c=>(match c.callee with
  | .value f=>(match ev s f with
   | .fn f=>(match Γ.calls f with | some S=> !S.args.any AK.isB | none=>true)
   | _=>true)
  | _=>true)
 | _=>true
def EY (Γ:Ctx) (all:List Oper):Nat→List Oper→FState→List (Nat×dX)→(FState→Option β)→Option β
 | _,[],s,log,κ=>bif BD all (rF all) 0 all&&pY all (rF all) log then κ s else none
 | i,o::os,s,log,κ=>bif fO Γ s o then gK Γ all o s fun wd s0 s=>EY Γ all (i+1) os s ((i,bif wd then eO Γ s0 o else ⟨false,[],true,false⟩)::log) κ else none
inductive NE where
 | keep (t:Nat)
 | row (t:Nat) (k:K) (e:TypeId) (rw:Bool)
 | ptr (t:Nat) (k:K) (e:TypeId) (rw:Bool)
 | it (t:Nat)
 | cell (t:Nat) (k:K) (e:TypeId)
 | mp (t:Nat) (a b:K)
def aQ:List (Nat×FV)→Nat→FV
 | [],_=> .dead
 | (a,v)::l,t=>bif Nat.beq t a then v else aQ l t
def aF:List (Nat×FObj)→Nat→Option FObj
 | [],_=>none
 | (a,v)::l,t=>bif Nat.beq t a then some v else aF l t
def FV.plain:FV→FV
 | .dat k x=> .dat k x
 | .nsl=> .nsl
 | .nilp=> .nilp
 | .nilif=> .nilif
 | .tnil=> .tnil
 | .tcons a b=> .tcons a.plain b.plain
 | .fn f=> .fn f
 | .glob g=> .glob g
 | _=> .dead
def okT (ol:List (Nat×FObj)) (t:Nat):Bool:=Nat.blt t 1000000||(match aF ol (t % 1000000) with | some (.cell _ _)=>true | _=>false)
def nV (t:Nat) (w:Option (Int×Int)):Option Nat:=match w with | none=>some t | some _=>none
def cY (Γ:Ctx) (s:FState):List NE→List (Nat×Option Nat)→List (Nat×FV)→List (Nat×FObj)→(FState→Option β)→Option β
 | [],_,tl,ol,κ=>κ ⟨aQ tl,aF ol⟩
 | .keep t::l,rn,tl,ol,κ=>bif okT ol t then cY Γ s l rn (tl++[(t,(s.tmps t).plain)]) ol κ else none
 | .row t k e rw::l,rn,tl,ol,κ=>bif okT ol t then
  match s.tmps t with
  | .nsl=>if lk Γ.kt e=some k then (match aF ol t with | none=>cY Γ s l rn (tl++[(t,.sl t none false)]) (ol++[(t,.row k e rw [])]) κ | some _=>none) else none
  | .sl o w _=>(match lk rn o with
   | some (some n)=>cY Γ s l rn (tl++[(t,.sl n w false)]) ol κ
   | some none=>none
   | none=>(match s.objs o,aF ol t with
    | some (.row k' e' rw' xs),none=>if e'=e∧(rw'=rw∨rw=false) then cG k' k xs fun xs=>
      cY Γ s l (bif rw' then (o,nV t w)::rn else rn) (tl++[(t,.sl t none false)]) (ol++[(t,.row k e rw (win xs w))]) κ else none
    | _,_=>none))
  | _=>none
  else none
 | .it t::l,rn,tl,ol,κ=>bif Nat.blt t 1000000 then
  match s.tmps t with
  | .it o=>(match lk rn o,s.objs o,aF ol t with
   | none,some (.siter z pos),none=>cY Γ s l ((o,none)::rn) (tl++[(t,.it t)]) (ol++[(t,.siter z pos)]) κ
   | _,_,_=>none)
  | _=>none
  else none
 | .ptr t k e rw::l,rn,tl,ol,κ=>bif Nat.blt t 1000000 then
  match s.tmps t with
  | .ptr o 0 0=>(match lk rn o with
   | some (some n)=>cY Γ s l rn (tl++[(t,.ptr n 0 0)]) ol κ
   | some none=>none
   | none=>(match s.objs o,aF ol t with
    | some (.row k' e' rw' xs),none=>if e'=e∧(rw'=rw∨rw=false) then cG k' k xs fun xs=>
      cY Γ s l (bif rw' then (o,some t)::rn else rn) (tl++[(t,.ptr t 0 0)]) (ol++[(t,.row k e rw xs)]) κ else none
    | _,_=>none))
  | _=>none
  else none
 | .cell t k e::l,rn,tl,ol,κ=>bif Nat.blt t 1000000 then
  match s.tmps t with
  | .cp o 0=>(match lk rn o,s.objs o,aF ol t with
   | none,some (.cell k' e'),none=>if o=t∧k'=k∧e'=e then cY Γ s l ((t,none)::rn) (tl++[(t,.cp t 0)]) (ol++[(t,.cell k e)]) κ else none
   | _,_,_=>none)
  | _=>none
  else none
 | .mp t a b::l,rn,tl,ol,κ=>bif Nat.blt t 1000000 then
  match s.tmps t with
  | .mp o=>(match lk rn o,s.objs o,aF ol t with
   | none,some (.mapo a' b' es),none=>if a'=a∧b'=b then cY Γ s l ((o,none)::rn) (tl++[(t,.mp t)]) (ol++[(t,.mapo a' b' es)]) κ else none
   | _,_,_=>none)
  | _=>none
  else none
def TM (Γ:Ctx) (l:List NE) (s:FState) (κ:FState→Option β):Option β:=cY Γ s l [] [] [] κ
structure Cx (β:Type) where
 nrm:FState→Option β
 ret:FState→Option β
 ex:Nat→FState→Option β
inductive Sk where
 | leaf
 | nd (a b:Sk)
 | fin (ini nrm ret:Option (List NE)) (ex:List (Nat×List NE)) (a:Sk)
def Sk.body:Sk→Sk
 | .fin _ _ _ _ a=>a
 | s=>s
def Sk.ini:Sk→Option (List NE)
 | .fin i _ _ _ _=>i
 | _=>none
def Sk.l (s:Sk):Sk:=match s with | .nd a _=>a | _=> .leaf
def Sk.r (s:Sk):Sk:=match s with | .nd _ b=>b | _=> .leaf
def dL (Γ:Ctx) (l:Option (List NE)) (κ:FState→Option β):FState→Option β:=match l with | some l=>fun s=>TM Γ l s κ | none=>κ
def Sk.wrap (Γ:Ctx) (s:Sk) (cx:Cx β):Cx β:=
 match s with
 | .fin _ n r x _=>{nrm:=dL Γ n cx.nrm,ret:=dL Γ r cx.ret,ex:=fun j=>dL Γ (lk x j) (cx.ex j)}
 | _=>cx
def bD (step:(FState→Option β)→FState→Option β):Nat→FState→Option β
 | 0=>fun _=>none
 | n+1=>step (bD step n)
def FX (Γ:Ctx) (n:Nat):Code→Sk→FState→Cx β→Option β
 | .skip,sk,s,cx=>dL Γ sk.ini (fun s=>(sk.wrap Γ cx).nrm s) s
 | .ret,sk,s,cx=>dL Γ sk.ini (fun s=>(sk.wrap Γ cx).ret s) s
 | .exit id,sk,s,cx=>dL Γ sk.ini (fun s=>(sk.wrap Γ cx).ex id s) s
 | .seq a b,sk,s,cx=>dL Γ sk.ini (fun s=>FX Γ n a sk.body.l s {sk.wrap Γ cx with nrm:=fun s=>FX Γ n b sk.body.r s (sk.wrap Γ cx)}) s
 | .cond c a b,sk,s,cx=>dL Γ sk.ini (fun s=>asBool (ev s c) fun t=>cond t (FX Γ n a sk.body.l s (sk.wrap Γ cx)) (FX Γ n b sk.body.r s (sk.wrap Γ cx))) s
 | .block id a,sk,s,cx=>dL Γ sk.ini (fun s=>FX Γ n a sk.body.l s {sk.wrap Γ cx with ex:=fun j s=>bif Nat.beq j id then (sk.wrap Γ cx).nrm s else (sk.wrap Γ cx).ex j s}) s
 | .loop a,sk,s,cx=>dL Γ sk.ini (fun s=>bD (fun again s=>FX Γ n a sk.body.l s {sk.wrap Γ cx with nrm:=again}) n s) s
 | .region _ ops draw,sk,s,cx=>dL Γ sk.ini (fun s=>bif draw then (bif iM 0 ops.toList then EY Γ ops.toList 0 ops.toList s [] (sk.wrap Γ cx).nrm else none) else RJ Γ ops.toList ops.toList s (sk.wrap Γ cx).nrm) s
 | _,_,_,_=>none
end
end Go.Proofs.YtoafkjeamgelgaaDoorHF

namespace Go.Proofs.YtoafkjeamgelgaaDoorHF
open Go
set_option linter.unusedVariables false
def K.zcells:K→List Value
 | .int k=>[.int k 0]
 | .bool=>[.bool false]
 | .str=>[.string ⟨#[]⟩]
 | .flt k=>[.float k 0]
 | .err=>[.nilIface]
 | .pair a b=>a.zcells++b.zcells
 | .sl _ _=>[.slice none 0 0]
def K.zval (k:K):Value:=match k with
 | .int k=> .int k 0
 | .bool=> .bool false
 | .str=> .string ⟨#[]⟩
 | .flt k=> .float k 0
 | .err=> .nilIface
 | .pair a b=> .agg (a.zcells++b.zcells).toArray
 | .sl _ _=> .slice none 0 0
def RX (P:Program) (t:TypeId):K→Prop
 | .int k=>P.underlying t=some (.int k)
 | .bool=>P.underlying t=some .bool
 | .str=>P.underlying t=some .string
 | .flt k=>P.underlying t=some (.float k)
 | .err=>∃ms,P.underlying t=some (.interface ms)
 | .pair _ _=>∃fs,P.underlying t=some (.struct fs)
 | .sl e _=>P.underlying t=some (.slice e)
structure TyOk (P:Program) (t:TypeId) (k:K):Prop where
 info:(P.info? t).map (fun i=>(i.size,i.zero,Nat.ble i.bytes 128))=some (k.size,some k.zval,true)
 und:RX P t k
def RepD (w:World) (A:Nat→Prop):(k:K)→k.den→List Value→Prop
 | .int k,n,cs=>cs=[.int k n]
 | .bool,b,cs=>cs=[.bool b]
 | .str,s,cs=>cs=[.string s]
 | .flt f,b,cs=>cs=[.float f b]
 | .err,b,cs=>∃v,cs=[v]∧((b=false∧v= .nilIface)∨(b=true∧∃t x,v= .iface t x))
 | .pair a c,x,cs=>∃c1 c2,cs=c1++c2∧RepD w A a x.1 c1∧RepD w A c x.2 c2
 | .sl _ k,xs,cs=>∃a cap,cs=[.slice a xs.length cap]∧xs.length≤cap∧
   (xs=[]∨∃b off,a=some ⟨b,off,none⟩∧¬A b∧∀i x,xs[i]? =some x→∃ds,RepD w A k x ds∧∀j,j < k.size→w.cell? ⟨b,off+i * k.size+j,none⟩=ds[j]?)
theorem K.size_pos:∀k:K,0 < k.size
 | .int _ | .bool | .str | .flt _ | .err | .sl _ _=>Nat.zero_lt_one
 | .pair a b=>Nat.lt_of_lt_of_le a.size_pos (Nat.le_add_right _ _)
theorem RepD.len {w:World} {A:Nat→Prop}:∀{k:K} {x:k.den} {cs:List Value},RepD w A k x cs→cs.length=k.size
 | .int _,_,_,h=>by cases h;rfl
 | .bool,_,_,h=>by cases h;rfl
 | .str,_,_,h=>by cases h;rfl
 | .flt _,_,_,h=>by cases h;rfl
 | .err,_,_,h=>by obtain ⟨v,rfl,_⟩:=h;rfl
 | .pair a b,_,_,h=>by obtain ⟨c1,c2,rfl,h1,h2⟩:=h;rw [List.length_append,h1.len,h2.len];rfl
 | .sl _ _,_,_,h=>by obtain ⟨a,cap,rfl,_⟩:=h;rfl
theorem RepD.one {w:World} {A:Nat→Prop}:∀{k:K} {x:k.den} {cs:List Value},RepD w A k x cs→∀v∈cs,v.oneCell'=true
 | .int _,_,_,h=>by cases h;simp [Value.oneCell']
 | .bool,_,_,h=>by cases h;simp [Value.oneCell']
 | .str,_,_,h=>by cases h;simp [Value.oneCell']
 | .flt _,_,_,h=>by cases h;simp [Value.oneCell']
 | .err,_,_,h=>by obtain ⟨v,rfl,⟨_,rfl⟩ | ⟨_,t,x,rfl⟩⟩:=h <;> simp [Value.oneCell']
 | .pair a b,_,_,h=>by
  obtain ⟨c1,c2,rfl,h1,h2⟩:=h
  intro v hv
  rcases List.mem_append.1 hv with hv | hv
  ·exact h1.one v hv
  ·exact h2.one v hv
 | .sl _ _,_,_,h=>by obtain ⟨a,cap,rfl,_⟩:=h;simp [Value.oneCell']
theorem xL {w w0:World} {A:Nat→Prop} {k:K} {x:k.den} {ds:List Value} {p:Addr} (hd:RepD w A k x ds) (h0:w0.cell? p=ds[0]?):p.block < w0.heap.size:=by
 have hl:=hd.len
 have hp:=k.size_pos
 cases ds with
 | nil=>simp at hl;omega
 | cons v ds=>exact World.block_lt_of_cell? w0 p h0
def Stay (w:World) (A:Nat→Prop) (w':World) (A':Nat→Prop):Prop:=∀b,b < w.heap.size→¬A b→¬A' b∧w'.heap[b]? =w.heap[b]?
theorem RepD.stay {w w':World} {A A':Nat→Prop} (hs:Stay w A w' A'):∀{k:K} {x:k.den} {cs:List Value},RepD w A k x cs→RepD w' A' k x cs
 | .int _,_,_,h=>h
 | .bool,_,_,h=>h
 | .str,_,_,h=>h
 | .flt _,_,_,h=>h
 | .err,_,_,h=>h
 | .pair a b,_,_,h=>by
  obtain ⟨c1,c2,rfl,h1,h2⟩:=h
  exact ⟨c1,c2,rfl,h1.stay hs,h2.stay hs⟩
 | .sl _ k,xs,_,h=>by
  obtain ⟨a,cap,rfl,hc,h⟩:=h
  refine ⟨a,cap,rfl,hc,?_⟩
  rcases h with h | ⟨b,off,rfl,hA,h⟩
  ·exact .inl h
  ·by_cases hx:xs=[]
   ·exact .inl hx
   ·right
    obtain ⟨y,ys,hy⟩:=List.exists_cons_of_ne_nil hx
    obtain ⟨ds,hd,hcell⟩:=h 0 y (by rw [hy];rfl)
    have hlt:b < w.heap.size:=xL hd (hcell 0 k.size_pos)
    obtain ⟨hA',hb⟩:=hs b hlt hA
    refine ⟨b,off,rfl,hA',fun i x hi=>?_⟩
    obtain ⟨ds,hd,hcell⟩:=h i x hi
    exact ⟨ds,hd.stay hs,fun j hj=>(World.cell?_of_block (a:=⟨b,_,none⟩) hb).trans (hcell j hj)⟩
def RowAt (w:World) (A:Nat→Prop) (k:K) (b off:Nat) (xs:List k.den):Prop:=
 ∀i x,xs[i]? =some x→∃ds,RepD w A k x ds∧∀j,j < k.size→w.cell? ⟨b,off+i * k.size+j,none⟩=ds[j]?
theorem RowAt.nil (w:World) (A:Nat→Prop) (k:K) (b off:Nat):RowAt w A k b off []:=fun i x h=>by simp at h
theorem RowAt.lt {w:World} {A:Nat→Prop} {k:K} {b off:Nat} {xs:List k.den} (h:RowAt w A k b off xs) (hx:xs≠[]):b < w.heap.size:=by
 obtain ⟨y,ys,rfl⟩:=List.exists_cons_of_ne_nil hx
 obtain ⟨ds,hd,hcell⟩:=h 0 y rfl
 exact xL hd (hcell 0 k.size_pos)
theorem RowAt.stay {w w':World} {A A':Nat→Prop} {k:K} {b off:Nat} {xs:List k.den} (hs:Stay w A w' A') (hb:w'.heap[b]? =w.heap[b]?) (h:RowAt w A k b off xs):RowAt w' A' k b off xs:=
 fun i x hi=>let ⟨ds,hd,hc⟩:=h i x hi;⟨ds,hd.stay hs,fun j hj=>(World.cell?_of_block (a:=⟨b,_,none⟩) hb).trans (hc j hj)⟩
theorem CN {α:Type} (lo hi:Int):cut ([]:List α) lo hi=[]:=by simp [cut]
theorem gX {α:Type} (xs:List α) (lo hi:Int) (h1:lo≤hi) (h2:hi≤xs.length):(cut xs lo hi).length=hi.toNat - lo.toNat:=by
 unfold cut;rw [List.length_take,List.length_drop];omega
theorem getElem?_cut {α:Type} {xs:List α} {lo hi:Int} {i:Nat} {x:α} (h:(cut xs lo hi)[i]? =some x):xs[lo.toNat+i]? =some x:=by
 unfold cut at h
 rw [List.getElem?_take] at h
 split at h
 ·rwa [List.getElem?_drop] at h
 ·cases h
theorem RowAt.cut {w:World} {A:Nat→Prop} {k:K} {b off:Nat} {xs:List k.den} (h:RowAt w A k b off xs) (lo hi:Int):RowAt w A k b (off+lo.toNat * k.size) (cut xs lo hi):=by
 intro i x hi'
 obtain ⟨ds,hd,hc⟩:=h _ _ (getElem?_cut hi')
 refine ⟨ds,hd,fun j hj=>?_⟩
 rw [←hc j hj]
 congr 2
 rw [Nat.add_mul];omega
def CellsAt (w:World) (b:Nat) (cs:Array Value) (t:TypeId):Prop:=∃fz,w.heap[b]? =some (.cells cs t fz)∧(fz=(0,0)∨cs.size≤fz.1)
theorem CellsAt.mk {w:World} {b:Nat} {cs:Array Value} {t:TypeId} (h:w.heap[b]? =some (.cells cs t (0,0))):CellsAt w b cs t:=⟨_,h,.inl rfl⟩
theorem CellsAt.lt {w:World} {b:Nat} {cs:Array Value} {t:TypeId} (h:CellsAt w b cs t):b < w.heap.size:=let ⟨_,h,_⟩:=h;(Array.getElem?_eq_some_iff.1 h).1
theorem CellsAt.stay {w w':World} {b:Nat} {cs:Array Value} {t:TypeId} (h:CellsAt w b cs t) (hb:w'.heap[b]? =w.heap[b]?):CellsAt w' b cs t:=let ⟨fz,h,hf⟩:=h;⟨fz,hb.trans h,hf⟩
structure Pl where
 b:Nat
 off:Nat
 cap:Nat
def FObj.rwB:FObj→Bool
 | .row _ _ rw _=>rw
 | _=>true
def occ (p:Pl):FObj→Prop
 | .row _ _ rw _=>rw=true∧0 < p.cap
 | .siter _ _=>True
 | .cell _ _=>True
 | .mapo _ _ _=>True
def ValRep (w:World) (A:Nat→Prop) (k:K) (x:k.den) (v:Value):Prop:=∃cs,RepD w A k x cs∧(if k.isPair then v= .agg cs.toArray else cs=[v])
def MapRep (w:World) (A:Nat→Prop) (a b:K):List (a.den×b.den)→List MapEntry→Prop
 | [],ms=>ms=[]
 | x::es,ms=>∃m ms',ms=m::ms'∧ValRep w A a x.1 m.key∧ValRep w A b x.2 m.val∧MapRep w A a b es ms'
abbrev cE:=Nat→Option FObj
def Own (O:cE) (pl:Nat→Pl) (b:Nat):Prop:=∃o obj,O o=some obj∧occ (pl o) obj∧(pl o).b=b
def ObjAt (P:Program) (w:World) (A:Nat→Prop) (p:Pl):FObj→Prop
 | .row k e rw xs=>TyOk P e k∧xs.length≤p.cap∧(rw=true→0 < p.cap→∃cs t,CellsAt w p.b cs t∧p.off+p.cap * k.size≤cs.size∧p.cap≤maxLen)∧
   (rw=false→xs≠[]→¬A p.b)∧RowAt w A k p.b p.off xs
 | .siter s pos=>w.heap[p.b]? =some (.stringIter s pos)
 | .cell k e=>TyOk P e k∧∃cs t,CellsAt w p.b cs t∧p.off+k.size≤cs.size
 | .mapo a b es=>∃ms clock,w.heap[p.b]? =some (.map ms clock)∧MapRep w A a b es ms.toList
def NG:Nat:=0
def G0 (P:Program) (w:World):Prop:=True
def GW (P:Program) (w:World):Prop:=∃w0,G0 P w0∧∀b,b < NG→w.heap[b]? =w0.heap[b]?
structure GOk (P:Program) (w:World) (own:Nat→Prop):Prop where
 size:NG≤w.heap.size
 own:∀b,own b→NG≤b
 tab:GW P w
structure Env where
 P:Program
 w0:World
 own:Nat→Prop
 Z:Nat→Prop
 N:Nat
 dfs:List Deferred
 hN:N≤1000000
 par:List (Nat×Value)
 hG:GOk P w0 own
def Av (E:Env) (O:cE) (pl:Nat→Pl) (b:Nat):Prop:=E.Z b∨Own O pl b
def winOk {α:Type} (xs:List α) (w:Option (Int×Int)) (off len:Nat):Prop:=
 match w with
 | none=>off=0∧len=xs.length
 | some (f,l)=>0≤f∧0≤l∧f+l≤xs.length∧off=f.toNat∧len=l.toNat
def VRep1 (w:World) (A:Nat→Prop) (O:cE) (pl:Nat→Pl):FV→Value→Prop
 | .dead,_=>True
 | .dat k x,v=>∃cs,RepD w A k x cs∧(if k.isPair then v= .agg cs.toArray else cs=[v])
 | .nsl,v=>v= .slice none 0 0
 | .sl o wn nn,v=>∃k e rw xs,O o=some (.row k e rw xs)∧∃a cap off len,winOk xs wn off len∧v= .slice a len cap∧len≤cap∧(rw=true→off+cap=(pl o).cap)∧
   (0 < len∨(rw=true∧0 < cap)→a=some ⟨(pl o).b,(pl o).off+off * k.size,none⟩)∧(nn=true→a≠none)
 | .ptr o i off,v=>∃k e rw xs,O o=some (.row k e rw xs)∧0≤i∧i < xs.length∧v= .pointer (some ⟨(pl o).b,(pl o).off+i.toNat * k.size+off,none⟩)
 | .nilp,v=>v= .pointer none
 | .nilif,v=>v= .nilIface
 | .fn f,v=>v= .func (.func f) #[] #[]
 | .glob g,v=>v= .pointer (some ⟨g,0,none⟩)
 | .it o,v=>∃st pos,O o=some (.siter st pos)∧v= .pointer (some ⟨(pl o).b,0,none⟩)
 | .cp o off,v=>∃k e,O o=some (.cell k e)∧off < k.size∧v= .pointer (some ⟨(pl o).b,(pl o).off+off,none⟩)
 | .zer k,v=>v=k.zval
 | .mp o,v=>∃a b es,O o=some (.mapo a b es)∧v= .map (some (pl o).b)
 | .tnil,_ | .tcons _ _,_=>False
def VRepL (w:World) (A:Nat→Prop) (O:cE) (pl:Nat→Pl):FV→List Value→Prop
 | .tnil,l=>l=[]
 | .tcons a b,l=>∃x l',l=x::l'∧VRep1 w A O pl a x∧VRepL w A O pl b l'
 | _,_=>False
def VRep (w:World) (A:Nat→Prop) (O:cE) (pl:Nat→Pl) (f:FV) (v:Value):Prop:=
 VRep1 w A O pl f v∨∃l,v= .tuple l.toArray∧VRepL w A O pl f l
structure Fr (w0:World) (own:Nat→Prop) (w:World):Prop where
 os:w.os=w0.os
 tape:w.tape=w0.tape
 output:w.output=w0.output
 size:w0.heap.size≤w.heap.size
 block:∀b,b < w0.heap.size→¬own b→w.heap[b]? =w0.heap[b]?
def dU (w:World) (O:cE) (pl:Nat→Pl) (a:Act) (t:Nat):Value:=
 if t < 1000000 then a.tmps.getD t undef else
 match O (t % 1000000) with
 | some (.cell _ _)=>(w.cell? ⟨(pl (t % 1000000)).b,(pl (t % 1000000)).off+(t / 1000000 - 1),none⟩).getD undef
 | _=>undef
structure RelP (E:Env) (pl:Nat→Pl) (w:World) (a:Act) (s:FState):Prop where
 vals:∀t,VRep w (Av E s.objs pl) s.objs pl (s.tmps t) (dU w s.objs pl a t)
 objs:∀o obj,s.objs o=some obj→ObjAt E.P w (Av E s.objs pl) (pl o) obj
 sep:∀o o' obj obj',o≠o'→s.objs o=some obj→s.objs o'=some obj'→occ (pl o) obj→occ (pl o') obj'→(pl o).b≠(pl o').b
 fresh:∀b,Own s.objs pl b→b < w.heap.size∧(E.own b∨E.w0.heap.size≤b)∧¬E.Z b
 frame:Fr E.w0 E.own w
 dfr:a.defers=E.dfs∧∀p∈E.par,a.tmps.getD p.1 undef=p.2
 N:a.tmps.size=E.N
 zlt:∀b,E.Z b→b < w.heap.size
def Rel (E:Env) (w:World) (a:Act) (s:FState):Prop:=∃pl,RelP E pl w a s
theorem cF {a b:Nat} (h:¬a=b):Nat.beq a b=false:=by
 cases hb:Nat.beq a b
 ·rfl
 ·exact absurd (Nat.eq_of_beq_eq_true hb) h
def FObj.like:FObj→FObj→Prop
 | .row k e rw xs,o=>∃ys:List k.den,o= .row k e rw ys∧ys.length=xs.length
 | .siter _ _,o=>∃s pos,o= .siter s pos
 | .cell k e,o=>o= .cell k e
 | .mapo a b _,o=>∃es,o= .mapo a b es
theorem ValRep.stay {w w':World} {A A':Nat→Prop} (hs:Stay w A w' A') {k:K} {x:k.den} {v:Value} (h:ValRep w A k x v):ValRep w' A' k x v:=let ⟨cs,h1,h2⟩:=h;⟨cs,h1.stay hs,h2⟩
theorem MapRep.stay {w w':World} {A A':Nat→Prop} (hs:Stay w A w' A') {a b:K}:∀{es:List (a.den×b.den)} {ms:List MapEntry},MapRep w A a b es ms→MapRep w' A' a b es ms
 | [],_,h=>h
 | x::es,_,h=>let ⟨m,ms',h1,h2,h3,h4⟩:=h;⟨m,ms',h1,h2.stay hs,h3.stay hs,h4.stay hs⟩
theorem FObj.like_refl (o:FObj):o.like o:=by cases o <;> simp [FObj.like]
theorem winOk.len {α:Type} {xs ys:List α} (h:ys.length=xs.length) {w:Option (Int×Int)} {off len:Nat} (hw:winOk xs w off len):winOk ys w off len:=by
 unfold winOk at *;split at hw <;> simp_all
section
variable {w w':World} {A A':Nat→Prop} {O O':cE} {pl pl':Nat→Pl}
theorem VRep1.move (hD:∀k x cs,RepD w A k x cs→RepD w' A' k x cs) (hO:∀o obj,O o=some obj→∃obj',O' o=some obj'∧obj.like obj'∧pl' o=pl o) {f:FV} {v:Value} (h:VRep1 w A O pl f v):VRep1 w' A' O' pl' f v:=by
 cases f <;> simp only [VRep1] at h ⊢ <;> try exact h
 case dat k x=>obtain ⟨cs,hc,hv⟩:=h;exact ⟨cs,hD _ _ _ hc,hv⟩
 case sl o wn nn=>
  obtain ⟨k,e,rw,xs,ho,a,cap,off,len,hw,hv,hl,h1,h2,h3⟩:=h
  obtain ⟨obj',ho',⟨ys,rfl,hy⟩,hp⟩:=hO _ _ ho
  exact ⟨k,e,rw,ys,ho',a,cap,off,len,hw.len hy,hv,hl,by rw [hp];exact h1,by rw [hp];exact h2,h3⟩
 case ptr o i off=>
  obtain ⟨k,e,rw,xs,ho,h0,h1,hv⟩:=h
  obtain ⟨obj',ho',⟨ys,rfl,hy⟩,hp⟩:=hO _ _ ho
  exact ⟨k,e,rw,ys,ho',h0,by rw [hy];exact h1,by rw [hp];exact hv⟩
 case it o=>
  obtain ⟨st,pos,ho,hv⟩:=h
  obtain ⟨obj',ho',⟨st',pos',rfl⟩,hp⟩:=hO _ _ ho
  exact ⟨st',pos',ho',by rw [hp];exact hv⟩
 case cp o off=>
  obtain ⟨k,e,ho,h1,hv⟩:=h
  obtain ⟨obj',ho',rfl,hp⟩:=hO _ _ ho
  exact ⟨k,e,ho',h1,by rw [hp];exact hv⟩
 case mp o=>
  obtain ⟨a,b,es,ho,hv⟩:=h
  obtain ⟨obj',ho',⟨es',rfl⟩,hp⟩:=hO _ _ ho
  exact ⟨a,b,es',ho',by rw [hp];exact hv⟩
theorem VRepL.move (hD:∀k x cs,RepD w A k x cs→RepD w' A' k x cs) (hO:∀o obj,O o=some obj→∃obj',O' o=some obj'∧obj.like obj'∧pl' o=pl o):∀{f:FV} {l:List Value},VRepL w A O pl f l→VRepL w' A' O' pl' f l
 | .tnil,_,h=>h
 | .tcons a b,_,h=>by
  obtain ⟨x,l',rfl,h1,h2⟩:=h
  exact ⟨x,l',rfl,h1.move hD hO,h2.move hD hO⟩
 | .dead,_,h | .dat _ _,_,h | .nsl,_,h | .sl _ _ _,_,h | .ptr _ _ _,_,h | .nilp,_,h | .nilif,_,h | .mp _,_,h | .it _,_,h | .fn _,_,h | .glob _,_,h | .cp _ _,_,h | .zer _,_,h=>h.elim
theorem VRep.move (hD:∀k x cs,RepD w A k x cs→RepD w' A' k x cs) (hO:∀o obj,O o=some obj→∃obj',O' o=some obj'∧obj.like obj'∧pl' o=pl o) {f:FV} {v:Value} (h:VRep w A O pl f v):VRep w' A' O' pl' f v:=
 h.imp (·.move hD hO) fun ⟨l,hv,hl⟩=>⟨l,hv,hl.move hD hO⟩
theorem VRep.dead (v:Value):VRep w A O pl .dead v:= .inl trivial
theorem VRep1.kill (o:Nat) (hD:∀k x cs,RepD w A k x cs→RepD w' A' k x cs) (hO:∀p obj,p≠o→O p=some obj→∃obj',O' p=some obj'∧obj.like obj'∧pl' p=pl p) {f:FV} {v:Value} (h:VRep1 w A O pl f v):VRep1 w' A' O' pl' (f.kill o) v:=by
 cases f <;> simp only [VRep1] at h <;> simp only [FV.kill] <;> try exact h
 case dat k x=>obtain ⟨cs,hc,hv⟩:=h;exact ⟨cs,hD _ _ _ hc,hv⟩
 case sl p wn nn=>
  obtain ⟨k,e,rw,xs,ho,a,cap,off,len,hw,hv,hl,h1,h2,h3⟩:=h
  by_cases hp:p=o
  ·subst hp;simp [Nat.beq_refl,VRep1]
  ·obtain ⟨obj',ho',⟨ys,rfl,hy⟩,hpl⟩:=hO _ _ hp ho
   have:=cF hp
   rw [this]
   exact ⟨k,e,rw,ys,ho',a,cap,off,len,hw.len hy,hv,hl,by rw [hpl];exact h1,by rw [hpl];exact h2,h3⟩
 case ptr p i off=>
  obtain ⟨k,e,rw,xs,ho,h0,h1,hv⟩:=h
  by_cases hp:p=o
  ·subst hp;simp [Nat.beq_refl,VRep1]
  ·obtain ⟨obj',ho',⟨ys,rfl,hy⟩,hpl⟩:=hO _ _ hp ho
   have:=cF hp
   rw [this]
   exact ⟨k,e,rw,ys,ho',h0,by rw [hy];exact h1,by rw [hpl];exact hv⟩
 case it p=>
  obtain ⟨st,pos,ho,hv⟩:=h
  by_cases hp:p=o
  ·subst hp;simp [Nat.beq_refl,VRep1]
  ·obtain ⟨obj',ho',⟨st',pos',rfl⟩,hpl⟩:=hO _ _ hp ho
   have:=cF hp
   rw [this]
   exact ⟨st',pos',ho',by rw [hpl];exact hv⟩
 case cp p off=>
  obtain ⟨k,e,ho,h1,hv⟩:=h
  by_cases hp:p=o
  ·subst hp;simp [Nat.beq_refl,VRep1]
  ·obtain ⟨obj',ho',rfl,hpl⟩:=hO _ _ hp ho
   have:=cF hp
   rw [this]
   exact ⟨k,e,ho',h1,by rw [hpl];exact hv⟩
 case mp p=>
  obtain ⟨a,b,es,ho,hv⟩:=h
  by_cases hp:p=o
  ·subst hp;simp [Nat.beq_refl,VRep1]
  ·obtain ⟨obj',ho',⟨es',rfl⟩,hpl⟩:=hO _ _ hp ho
   have:=cF hp
   rw [this]
   exact ⟨a,b,es',ho',by rw [hpl];exact hv⟩
theorem VRepL.kill (o:Nat) (hD:∀k x cs,RepD w A k x cs→RepD w' A' k x cs) (hO:∀p obj,p≠o→O p=some obj→∃obj',O' p=some obj'∧obj.like obj'∧pl' p=pl p):∀{f:FV} {l:List Value},VRepL w A O pl f l→VRepL w' A' O' pl' (f.kill o) l
 | .tnil,_,h=>h
 | .tcons a b,_,h=>by
  obtain ⟨x,l',rfl,h1,h2⟩:=h
  exact ⟨x,l',rfl,h1.kill o hD hO,h2.kill o hD hO⟩
 | .dead,_,h | .dat _ _,_,h | .nsl,_,h | .sl _ _ _,_,h | .ptr _ _ _,_,h | .nilp,_,h | .nilif,_,h | .mp _,_,h | .it _,_,h | .fn _,_,h | .glob _,_,h | .cp _ _,_,h | .zer _,_,h=>h.elim
theorem VRep.kill (o:Nat) (hD:∀k x cs,RepD w A k x cs→RepD w' A' k x cs) (hO:∀p obj,p≠o→O p=some obj→∃obj',O' p=some obj'∧obj.like obj'∧pl' p=pl p) {f:FV} {v:Value} (h:VRep w A O pl f v):VRep w' A' O' pl' (f.kill o) v:=
 h.imp (·.kill o hD hO) fun ⟨l,hv,hl⟩=>⟨l,hv,hl.kill o hD hO⟩
end
section
variable {w w':World} {A A':Nat→Prop} {O O':cE} {pl pl':Nat→Pl} {a:Act}
theorem cP {t:Nat} (h:t < 1000000):dU w O pl a t=a.tmps.getD t undef:=by unfold dU;rw [if_pos h]
theorem cU {t:Nat} (h1:∀k e,O (t % 1000000)=some (.cell k e)→O' (t % 1000000)=some (.cell k e)∧pl' (t % 1000000)=pl (t % 1000000)∧w'.heap[(pl (t % 1000000)).b]? =w.heap[(pl (t % 1000000)).b]?)
  (h2:∀k e,O' (t % 1000000)=some (.cell k e)→∃k' e',O (t % 1000000)=some (.cell k' e')):dU w' O' pl' a t=dU w O pl a t:=by
 unfold dU
 split
 ·rfl
 ·cases hO:O (t % 1000000) with
  | none=>
   cases hO':O' (t % 1000000) with
   | none=>rfl
   | some x=>
    cases x with
    | cell k e=>obtain ⟨_,_,h⟩:=h2 k e hO';rw [hO] at h;cases h
    | _=>rfl
  | some x=>
   cases x with
   | cell k e=>
    obtain ⟨g1,g2,g3⟩:=h1 k e hO
    rw [g1,g2]
    exact congrArg (Option.getD · undef) (World.cell?_of_block (a:=⟨(pl (t % 1000000)).b,_,none⟩) g3)
   | _=>
    cases hO':O' (t % 1000000) with
    | none=>rfl
    | some x=>
     cases x with
     | cell k e=>obtain ⟨_,_,h⟩:=h2 k e hO';rw [hO] at h;cases h
     | _=>rfl
theorem zC {o t:Nat} (h:t < 1000000):dK o t=false:=by
 unfold dK
 have:Nat.ble 1000000 t=false:=by
  cases hb:Nat.ble 1000000 t
  ·rfl
  ·have:=Nat.le_of_ble_eq_true hb;omega
 rw [this];simp
theorem SB {o t:Nat} (h:dK o t=false) (ht:¬t < 1000000):t % 1000000≠o:=by
 intro e
 subst e
 unfold dK at h
 rw [Nat.beq_refl,Nat.ble_eq_true_of_le (by omega)] at h
 cases h
end
section
variable {E:Env} {pl:Nat→Pl} {w:World} {a:Act} {s:FState}
theorem pC (a:Act) (d:Tmp) (v:Value) (hd:d < a.tmps.size) (t:Nat):(a.put (some d) v).tmps.getD t undef=if t=d then v else a.tmps.getD t undef:=by
 simp only [Act.put,Array.getD_eq_getD_getElem?]
 by_cases h:t=d
 ·subst h;simp [hd]
 ·rw [if_neg h,Array.getElem?_setIfInBounds_ne (fun e=>h e.symm)]
theorem OH (a:Act) (d:Option Tmp) (v:Value):(a.put d v).tmps.size=a.tmps.size:=by cases d <;> simp [Act.put]
theorem RV (a:Act) (d:Option Tmp) (v:Value):(a.put d v).defers=a.defers:=by cases d <;> simp [Act.put]
structure Env.ok (E:Env) (d:Nat):Prop where
 lt:d < E.N
 par:∀p∈E.par,p.1≠d
def bH (E:Env) (d:Option Tmp):Prop:=∀x,d=some x→E.ok x
theorem RelP.put (h:RelP E pl w a s) {d:Option Tmp} (hd:bH E d) {f:FV} {v:Value} (hv:VRep w (Av E s.objs pl) s.objs pl f v):RelP E pl w (a.put d v) (s.put d f):=by
 cases d with
 | none=>exact h
 | some d=>
  have hlt:d < a.tmps.size:=by rw [h.N];exact (hd d rfl).lt
  refine ⟨fun t=>?_,h.objs,h.sep,h.fresh,h.frame,⟨by rw [RV];exact h.dfr.1,fun p hp=>by rw [pC a d v hlt,if_neg ((hd d rfl).par p hp)];exact h.dfr.2 p hp⟩,by rw [OH];exact h.N,h.zlt⟩
  have hd6:d < 1000000:=Nat.lt_of_lt_of_le (hd d rfl).lt E.hN
  simp only [FState.put,FState.set]
  by_cases ht:t=d
  ·subst ht
   have:dU w (s.put (some t) f).objs pl (a.put (some t) v) t=v:=by rw [cP hd6,pC a t v hlt,if_pos rfl]
   simp only [FState.put,FState.set] at this
   rw [this];simpa [Nat.beq_refl] using hv
  ·have:=cF ht
   rw [this]
   have e:dU w s.objs pl (a.put (some d) v) t=dU w s.objs pl a t:=by
    unfold dU
    rw [pC a d v hlt,if_neg ht]
   rw [e];exact h.vals t
theorem RelP.gok (h:RelP E pl w a s) {own:Nat→Prop} (ho:∀b,own b→Own s.objs pl b):GOk E.P w own:=
 ⟨Nat.le_trans E.hG.size h.frame.size,fun b hb=>(h.fresh b (ho b hb)).2.1.elim (E.hG.own b) (fun h=>Nat.le_trans E.hG.size h),by
  obtain ⟨w0,h1,h2⟩:=E.hG.tab
  exact ⟨w0,h1,fun b hb=>(h.frame.block b (Nat.lt_of_lt_of_le hb E.hG.size) (fun ho=>Nat.lt_irrefl _ (Nat.lt_of_lt_of_le hb (E.hG.own b ho)))).trans (h2 b hb)⟩⟩
theorem RelP.world (h:RelP E pl w a s) {w':World} (hh:w'.heap=w.heap) (ho:w'.os=w.os) (ht:w'.tape=w.tape) (hp:w'.output=w.output):RelP E pl w' a s:=by
 have hst:Stay w (Av E s.objs pl) w' (Av E s.objs pl):=fun b _ hA=>⟨hA,by rw [hh]⟩
 refine ⟨fun t=>by
  rw [cU (w:=w) (O:=s.objs) (pl:=pl) (fun k e hk=>⟨hk,rfl,by rw [hh]⟩) (fun k e hk=>⟨k,e,hk⟩)]
  exact (h.vals t).move (fun k x cs hc=>hc.stay hst) (fun o obj hob=>⟨obj,hob,obj.like_refl,rfl⟩),fun o obj hob=>?_,h.sep,fun b hb=>by rw [hh];exact h.fresh b hb,⟨ho.trans h.frame.os,ht.trans h.frame.tape,hp.trans h.frame.output,by rw [hh];exact h.frame.size,fun b hb hn=>by rw [hh];exact h.frame.block b hb hn⟩,h.dfr,h.N,by rw [hh];exact h.zlt⟩
 have:=h.objs o obj hob
 cases obj with
 | row k e rw xs=>
  obtain ⟨h0,h1,h2,h3,h4⟩:=this
  exact ⟨h0,h1,fun a b=>(let ⟨cs,t,q,r⟩:=h2 a b;⟨cs,t,q.stay (by rw [hh]),r⟩),h3,h4.stay hst (by rw [hh])⟩
 | siter st pos=>simpa [ObjAt,hh] using this
 | cell k e=>
  obtain ⟨h0,cs,t,q,r⟩:=this
  exact ⟨h0,cs,t,q.stay (by rw [hh]),r⟩
 | mapo k1 k2 es=>
  obtain ⟨ms,clock,q,r⟩:=this
  exact ⟨ms,clock,by rw [hh];exact q,r.stay hst⟩
theorem RelP.ev (h:RelP E pl w a s) (x:Operand) (f:FV) (hf:ev s x=f):VRep w (Av E s.objs pl) s.objs pl f (a.eval x):=by
 subst hf
 cases x with
 | tmp t=>
  simp only [Go.Proofs.YtoafkjeamgelgaaDoorHF.ev]
  cases hb:Nat.blt t 1000000 with
  | false=>exact .inl trivial
  | true=>
   have hv:=h.vals t
   rw [cP (Nat.le_of_ble_eq_true hb)] at hv
   exact hv
 | const v=>
  show VRep _ _ _ _ (vK v) v
  cases v with
  | slice a l c=>
   cases a with
   | some a=>exact .inl trivial
   | none=>cases l <;> cases c <;> first | exact .inl rfl | exact .inl trivial
  | pointer a=>cases a <;> first | exact .inl rfl | exact .inl trivial
  | tuple l=>
   obtain ⟨l⟩:=l
   cases l with
   | nil=>exact .inr ⟨[],rfl,rfl⟩
   | cons x l=>exact .inl trivial
  | _=>first | exact .inl ⟨_,rfl,rfl⟩ | exact .inl rfl | exact .inl trivial
 | global g=>exact .inl rfl
 | func f=>exact .inl rfl
end
end Go.Proofs.YtoafkjeamgelgaaDoorHF

namespace Go.Proofs.YtoafkjeamgelgaaDoorHF
open Go
set_option linter.unusedVariables false
def RowC (w:World) (A:Nat→Prop) (k:K):List k.den→List Value→Prop
 | [],cs=>cs=[]
 | x::xs,cs=>∃c r,cs=c++r∧RepD w A k x c∧RowC w A k xs r
section
variable {w w':World} {A A':Nat→Prop} {k:K}
theorem RowC.len:∀{xs:List k.den} {cs:List Value},RowC w A k xs cs→cs.length=xs.length * k.size
 | [],_,h=>by cases h;simp
 | x::xs,_,h=>by obtain ⟨c,r,rfl,h1,h2⟩:=h;rw [List.length_append,h1.len,h2.len,List.length_cons,Nat.add_mul];omega
theorem RowC.one:∀{xs:List k.den} {cs:List Value},RowC w A k xs cs→∀v∈cs,v.oneCell'=true
 | [],_,h=>by cases h;simp
 | x::xs,_,h=>by
  obtain ⟨c,r,rfl,h1,h2⟩:=h
  intro v hv
  rcases List.mem_append.1 hv with hv | hv
  ·exact h1.one v hv
  ·exact h2.one v hv
theorem RowC.app:∀{xs ys:List k.den} {cs ds:List Value},RowC w A k xs cs→RowC w A k ys ds→RowC w A k (xs++ys) (cs++ds)
 | [],_,_,_,h,h'=>by cases h;exact h'
 | x::xs,_,_,_,h,h'=>by obtain ⟨c,r,rfl,h1,h2⟩:=h;exact ⟨c,r++_,by simp,h1,h2.app h'⟩
theorem RowC.stay (hs:Stay w A w' A'):∀{xs:List k.den} {cs:List Value},RowC w A k xs cs→RowC w' A' k xs cs
 | [],_,h=>h
 | x::xs,_,h=>by obtain ⟨c,r,rfl,h1,h2⟩:=h;exact ⟨c,r,rfl,h1.stay hs,h2.stay hs⟩
theorem RowC.at_:∀{xs:List k.den} {cs:List Value},RowC w A k xs cs→∀i x,xs[i]? =some x→∃ds,RepD w A k x ds∧∀j,j < k.size→cs[i * k.size+j]? =ds[j]?
 | [],_,h,i,x,hi=>by simp at hi
 | y::xs,_,h,0,x,hi=>by
  obtain ⟨c,r,rfl,h1,h2⟩:=h
  simp at hi
  subst hi
  refine ⟨c,h1,fun j hj=>?_⟩
  rw [List.getElem?_append_left (by rw [h1.len];omega)]
  simp
 | y::xs,_,h,i+1,x,hi=>by
  obtain ⟨c,r,rfl,h1,h2⟩:=h
  simp at hi
  obtain ⟨ds,hd,hc⟩:=h2.at_ i x hi
  refine ⟨ds,hd,fun j hj=>?_⟩
  rw [List.getElem?_append_right (by rw [h1.len,Nat.add_mul];omega),h1.len,←hc j hj]
  congr 1
  rw [Nat.add_mul];omega
theorem RowC.toAt {xs:List k.den} {cs:List Value} (h:RowC w A k xs cs) {b off:Nat} (hr:w.rangeAt b off cs):RowAt w A k b off xs:=by
 intro i x hi
 obtain ⟨ds,hd,hc⟩:=h.at_ i x hi
 refine ⟨ds,hd,fun j hj=>?_⟩
 have hl:j < ds.length:=by rw [hd.len];exact hj
 have:=hc j hj
 rw [List.getElem?_eq_getElem hl] at this ⊢
 rw [←hr _ _ this]
 congr 2;omega
theorem RowAt.toC:∀{xs:List k.den} {b off:Nat},RowAt w A k b off xs→∃cs,RowC w A k xs cs∧w.rangeAt b off cs
 | [],b,off,h=>⟨[],rfl,fun j v hv=>by simp at hv⟩
 | x::xs,b,off,h=>by
  obtain ⟨ds,hd,hc⟩:=h 0 x rfl
  have ht:RowAt w A k b (off+k.size) xs:=fun i y hi=>by
   obtain ⟨es,he,hce⟩:=h (i+1) y (by simpa using hi)
   refine ⟨es,he,fun j hj=>?_⟩
   rw [←hce j hj]
   congr 2
   rw [Nat.add_mul];omega
  obtain ⟨cs,h1,h2⟩:=ht.toC
  refine ⟨ds++cs,⟨ds,cs,rfl,hd,h1⟩,fun j v hv=>?_⟩
  by_cases hj:j < k.size
  ·rw [List.getElem?_append_left (by rw [hd.len];exact hj)] at hv
   rw [←hv,←hc j hj]
   congr 2;omega
  ·rw [List.getElem?_append_right (by rw [hd.len];omega),hd.len] at hv
   rw [←h2 _ _ hv]
   congr 2;omega
end
structure Ext (w w':World):Prop where
 os:w'.os=w.os
 tape:w'.tape=w.tape
 output:w'.output=w.output
 size:w.heap.size≤w'.heap.size
 block:∀b,b < w.heap.size→w'.heap[b]? =w.heap[b]?
theorem Ext.refl (w:World):Ext w w:=⟨rfl,rfl,rfl,Nat.le_refl _,fun _ _=>rfl⟩
theorem Ext.alloc (w:World) (o:Obj):Ext w (w.alloc o):=⟨rfl,rfl,rfl,by simp,fun b hb=>by show (w.heap.push o)[b]? =_;rw [Array.getElem?_push,if_neg (by omega)]⟩
theorem Ext.drewAlloc (w:World) (o:Obj):Ext w (w.drew.alloc o):=⟨rfl,rfl,rfl,by simp,fun b hb=>by show (w.heap.push o)[b]? =_;rw [Array.getElem?_push,if_neg (by omega)]⟩
structure Wr (w w':World) (c:Prop) (g:Nat):Prop where
 os:w'.os=w.os
 tape:w'.tape=w.tape
 output:w'.output=w.output
 size:w.heap.size≤w'.heap.size
 block:∀b,b < w.heap.size→¬(c∧b=g)→w'.heap[b]? =w.heap[b]?
theorem Ext.wr {w w':World} (h:Ext w w') (c:Prop) (g:Nat):Wr w w' c g:=⟨h.os,h.tape,h.output,h.size,fun b hb _=>h.block b hb⟩
theorem Wr.setCell (w:World) (b o:Nat) (v:Value):Wr w (w.setCell ⟨b,o,none⟩ v) True b:=
 ⟨rfl,rfl,rfl,by simp [World.setCell],fun k hk hn=>by
  simp only [World.setCell,Array.getElem?_modify]
  rw [if_neg (fun e=>hn ⟨trivial,e.symm⟩)]⟩
theorem Wr.trans {w w' w'':World} {c:Prop} {g:Nat} (h:Wr w w' c g) (h':Wr w' w'' c g):Wr w w'' c g:=
 ⟨h'.os.trans h.os,h'.tape.trans h.tape,h'.output.trans h.output,Nat.le_trans h.size h'.size,fun b hb hn=>(h'.block b (Nat.lt_of_lt_of_le hb h.size) hn).trans (h.block b hb hn)⟩
theorem Wr.refl (w:World) (c:Prop) (g:Nat):Wr w w c g:=(Ext.refl w).wr c g
theorem Wr.setCells (b:Nat):∀(vs:List Value) (o:Nat) (w:World),Wr w (w.setCells b o vs) True b
 | [],_,w=>Wr.refl w _ _
 | v::r,o,w=>(Wr.setCell w b o v).trans (Wr.setCells b r (o+1) _)
theorem heap_setCell (w:World) (b o:Nat) (v:Value) {cs:Array Value} {t:TypeId} {fz:Nat×Nat} (h:w.heap[b]? =some (.cells cs t fz)):(w.setCell ⟨b,o,none⟩ v).heap[b]? =some (.cells (cs.setIfInBounds o v) t fz):=by
 simp [World.setCell,Array.getElem?_modify,h]
theorem jH (b:Nat):∀(vs:List Value) (o:Nat) (w:World) {cs:Array Value} {t:TypeId} {fz:Nat×Nat},w.heap[b]? =some (.cells cs t fz)→∃cs',(w.setCells b o vs).heap[b]? =some (.cells cs' t fz)∧cs'.size=cs.size
 | [],_,w,cs,_,_,h=>⟨cs,h,rfl⟩
 | v::r,o,w,cs,t,fz,h=>by
  obtain ⟨cs',h',hs⟩:=jH b r (o+1) _ (heap_setCell w b o v h)
  exact ⟨cs',h',by simpa using hs⟩
theorem CellsAt.setCells {w:World} {b:Nat} {cs:Array Value} {t:TypeId} (h:CellsAt w b cs t) (o:Nat) (vs:List Value):∃cs',CellsAt (w.setCells b o vs) b cs' t∧cs'.size=cs.size:=by
 obtain ⟨fz,h,hf⟩:=h
 obtain ⟨cs',h',hs⟩:=jH b vs o w h
 exact ⟨cs',⟨fz,h',by rw [hs];exact hf⟩,hs⟩
theorem bY {w:World} {b o n:Nat} {cs:Array Value} {t:TypeId} (h:CellsAt w b cs t) (hn:o+n≤cs.size):w.there b o n:=fun j hj=>by
 obtain ⟨fz,h,hf⟩:=h
 constructor
 ·rw [cell_of_row _ _ _ _ _ _ h];simp;omega
 ·obtain ⟨lo,hi⟩:=fz
  simp only [World.frozen?,h]
  rcases hf with hf | hf
  ·cases hf;simp
  ·simp only at hf
   simp;omega
def upd (pl:Nat→Pl) (d:Nat) (p:Pl):Nat→Pl:=fun o=>if o=d then p else pl o
theorem aC (pl:Nat→Pl) (d:Nat) (p:Pl):upd pl d p d=p:=by simp [upd]
theorem aG (pl:Nat→Pl) (d:Nat) (p:Pl) {o:Nat} (h:o≠d):upd pl d p o=pl o:=by simp [upd,h]
theorem aB (s:FState) (d:Nat) (v:Option FObj):(s.setO d v).objs d=v:=by simp [FState.setO,Nat.beq_refl]
theorem aD (s:FState) (d:Nat) (v:Option FObj) {o:Nat} (h:o≠d):(s.setO d v).objs o=s.objs o:=by simp [FState.setO,cF h]
theorem oX {p:Pl} {o o':FObj} (h:o.like o'):occ p o'↔occ p o:=by
 cases o with
 | row k e rw xs=>obtain ⟨ys,rfl,_⟩:=h;exact Iff.rfl
 | siter s pos=>obtain ⟨s',pos',rfl⟩:=h;exact Iff.rfl
 | cell k e=>cases h;exact Iff.rfl
 | mapo a b es=>obtain ⟨es',rfl⟩:=h;exact Iff.rfl
theorem ObjAt.stay {P:Program} {w w':World} {A A':Nat→Prop} (hs:Stay w A w' A') {p:Pl} {obj:FObj} (hb:occ p obj→w'.heap[p.b]? =w.heap[p.b]?) (h:ObjAt P w A p obj):ObjAt P w' A' p obj:=by
 cases obj with
 | row k e rw xs=>
  obtain ⟨h0,h1,h2,h3,h4⟩:=h
  by_cases hx:xs=[]
  ·subst hx
   exact ⟨h0,h1,fun hr hc=>(let ⟨cs,t,q,r⟩:=h2 hr hc;⟨cs,t,q.stay (hb ⟨hr,hc⟩),r⟩),fun _ h=>absurd rfl h,RowAt.nil _ _ _ _ _⟩
  ·have hlt:=h4.lt hx
   have hpos:0 < p.cap:=Nat.lt_of_lt_of_le (List.length_pos_iff.2 hx) h1
   cases rw with
   | true=>
    have hb':=hb ⟨rfl,hpos⟩
    exact ⟨h0,h1,fun hr hc=>(let ⟨cs,t,q,r⟩:=h2 hr hc;⟨cs,t,q.stay hb',r⟩),fun h=>(by cases h),h4.stay hs hb'⟩
   | false=>
    obtain ⟨hA,hb'⟩:=hs p.b hlt (h3 rfl hx)
    exact ⟨h0,h1,fun h=>(by cases h),fun _ _=>hA,h4.stay hs hb'⟩
 | siter s pos=>exact (hb trivial).trans h
 | cell k e=>obtain ⟨h0,cs,t,q,r⟩:=h;exact ⟨h0,cs,t,q.stay (hb trivial),r⟩
 | mapo a b es=>obtain ⟨ms,clock,q,r⟩:=h;exact ⟨ms,clock,(hb trivial).trans q,r.stay hs⟩
def FObj.isCell:FObj→Bool
 | .cell _ _=>true
 | _=>false
section
variable {E:Env} {pl:Nat→Pl} {w w':World} {a:Act} {s:FState}
theorem RelP.ne (h:RelP E pl w a s) {b:Nat} (hA:¬Av E s.objs pl b) {o:Nat} {obj:FObj} (ho:s.objs o=some obj) (hc:occ (pl o) obj):b≠(pl o).b:=
 fun e=>hA (.inr ⟨o,obj,ho,hc,e.symm⟩)
theorem Fr.ext {w0:World} {own:Nat→Prop} (h:Fr w0 own w) {c:Prop} {g:Nat} (hw:Wr w w' c g) (hg:c→own g∨w0.heap.size≤g):Fr w0 own w':=
 ⟨hw.os.trans h.os,hw.tape.trans h.tape,hw.output.trans h.output,Nat.le_trans h.size hw.size,fun b hb hn=>(hw.block b (Nat.lt_of_lt_of_le hb h.size) (fun ⟨hc,e⟩=>by
  subst e
  rcases hg hc with h1 | h1
  ·exact hn h1
  ·omega)).trans (h.block b hb hn)⟩
theorem RelP.ext (h:RelP E pl w a s) (hw:Ext w w'):RelP E pl w' a s:=by
 have hst:Stay w (Av E s.objs pl) w' (Av E s.objs pl):=fun b hb hA=>⟨hA,hw.block b hb⟩
 exact ⟨fun t=>by
   rw [cU (w:=w) (O:=s.objs) (pl:=pl) (fun k e hk=>⟨hk,rfl,hw.block _ (h.fresh _ ⟨_,_,hk,trivial,rfl⟩).1⟩) (fun k e hk=>⟨k,e,hk⟩)]
   exact (h.vals t).move (fun k x cs hc=>hc.stay hst) (fun o obj hob=>⟨obj,hob,obj.like_refl,rfl⟩),
  fun o obj hob=>(h.objs o obj hob).stay hst (fun hc=>hw.block _ (h.fresh _ ⟨o,obj,hob,hc,rfl⟩).1),h.sep,
  fun b hb=>⟨Nat.lt_of_lt_of_le (h.fresh b hb).1 hw.size,(h.fresh b hb).2⟩,h.frame.ext (hw.wr False 0) (fun h=>h.elim),h.dfr,h.N,fun b hz=>Nat.lt_of_lt_of_le (h.zlt b hz) hw.size⟩
theorem RelP.new (h:RelP E pl w a s) (hw:Ext w w') {d:Nat} (hd:s.objs d=none) (obj:FObj) (p:Pl) (hp:occ p obj→w.heap.size≤p.b∧p.b < w'.heap.size)
  (hobj:∀A',(∀b,A' b→Av E s.objs pl b∨(occ p obj∧p.b=b))→ObjAt E.P w' A' p obj) (hnc:obj.isCell=false∨∀t,dK d t=true→s.tmps t= .dead:=by exact .inl rfl):RelP E (upd pl d p) w' a (s.setO d (some obj)):=by
 have hne:∀o ob,s.objs o=some ob→o≠d:=fun o ob ho e=>by subst e;rw [hd] at ho;cases ho
 have hAv:∀b,Av E (s.setO d (some obj)).objs (upd pl d p) b→Av E s.objs pl b∨(occ p obj∧p.b=b):=by
  rintro b (hz | ⟨o,ob,ho,hc,hb⟩)
  ·exact .inl (.inl hz)
  ·by_cases e:o=d
   ·subst e
    rw [aB] at ho
    cases ho
    rw [aC] at hc hb
    exact .inr ⟨hc,hb⟩
   ·rw [aD _ _ _ e] at ho
    rw [aG _ _ _ e] at hc hb
    exact .inl (.inr ⟨o,ob,ho,hc,hb⟩)
 have hst:Stay w (Av E s.objs pl) w' (Av E (s.setO d (some obj)).objs (upd pl d p)):=fun b hb hA=>⟨fun hA'=>by
  rcases hAv b hA' with h1 | ⟨h1,h2⟩
  ·exact hA h1
  ·have:=(hp h1).1;omega,hw.block b hb⟩
 have hO:∀o ob,s.objs o=some ob→∃ob',(s.setO d (some obj)).objs o=some ob'∧ob.like ob'∧upd pl d p o=pl o:=fun o ob ho=>
  ⟨ob,by rw [aD _ _ _ (hne o ob ho)];exact ho,ob.like_refl,aG _ _ _ (hne o ob ho)⟩
 refine ⟨fun t=>by
  by_cases hdt:∃k e,obj= .cell k e∧dK d t=true
  ·obtain ⟨k,e,hk,hi⟩:=hdt
   have:(s.setO d (some obj)).tmps t= .dead:=(hnc.resolve_left (by rw [hk];simp [FObj.isCell])) t hi
   rw [this]
   exact VRep.dead _
  ·by_cases ht:t < 1000000
   ·rw [cP ht,←cP (w:=w) (O:=s.objs) (pl:=pl) ht]
    exact (h.vals t).move (fun k x cs hc=>hc.stay hst) hO
   rw [cU (w:=w) (O:=s.objs) (pl:=pl) (fun k e hk=>⟨by rw [aD _ _ _ (hne _ _ hk)];exact hk,aG _ _ _ (hne _ _ hk),hw.block _ (h.fresh _ ⟨_,_,hk,trivial,rfl⟩).1⟩) (fun k e hk=>by
    by_cases e':t % 1000000=d
    ·rw [e',aB] at hk
     cases hk
     exact absurd ⟨k,e,rfl,by unfold dK;rw [e',Nat.beq_refl,Nat.ble_eq_true_of_le (by omega)];rfl⟩ hdt
    ·rw [aD _ _ _ e'] at hk;exact ⟨k,e,hk⟩)]
   exact (h.vals t).move (fun k x cs hc=>hc.stay hst) hO,fun o ob ho=>?_,fun o o' ob ob' hoo ho ho' hc hc'=>?_,fun b hb=>?_,h.frame.ext (hw.wr False 0) (fun h=>h.elim),h.dfr,h.N,fun b hz=>Nat.lt_of_lt_of_le (h.zlt b hz) hw.size⟩
 ·by_cases e:o=d
  ·subst e
   rw [aB] at ho
   cases ho
   rw [aC]
   exact hobj _ hAv
  ·rw [aD _ _ _ e] at ho
   rw [aG _ _ _ e]
   exact (h.objs o ob ho).stay hst (fun hc=>hw.block _ (h.fresh _ ⟨o,ob,ho,hc,rfl⟩).1)
 ·by_cases e:o=d
  ·subst e
   have e':o'≠o:=fun e=>hoo e.symm
   rw [aB] at ho
   cases ho
   rw [aD _ _ _ e'] at ho'
   rw [aC] at hc
   rw [aG _ _ _ e'] at hc'
   rw [aC,aG _ _ _ e']
   have h1:=(h.fresh _ ⟨o',ob',ho',hc',rfl⟩).1
   have h2:=(hp hc).1
   omega
  ·rw [aD _ _ _ e] at ho
   rw [aG _ _ _ e] at hc ⊢
   by_cases e':o'=d
   ·subst e'
    rw [aB] at ho'
    cases ho'
    rw [aC] at hc' ⊢
    have h1:=(h.fresh _ ⟨o,ob,ho,hc,rfl⟩).1
    have h2:=(hp hc').1
    omega
   ·rw [aD _ _ _ e'] at ho'
    rw [aG _ _ _ e'] at hc' ⊢
    exact h.sep o o' ob ob' hoo ho ho' hc hc'
 ·obtain ⟨o,ob,ho,hc,rfl⟩:=hb
  by_cases e:o=d
  ·subst e
   rw [aB] at ho
   cases ho
   rw [aC] at hc ⊢
   have h2:=hp hc
   refine ⟨h2.2,.inr (Nat.le_trans h.frame.size h2.1),fun hz=>?_⟩
   have h3:=h.zlt _ hz
   omega
  ·rw [aD _ _ _ e] at ho
   rw [aG _ _ _ e] at hc ⊢
   have h1:=h.fresh _ ⟨o,ob,ho,hc,rfl⟩
   exact ⟨Nat.lt_of_lt_of_le h1.1 hw.size,h1.2⟩
theorem RelP.write (h:RelP E pl w a s) {o:Nat} {obj obj':FObj} (ho:s.objs o=some obj) (hl:obj.like obj') (hc:occ (pl o) obj) (hw:Wr w w' True (pl o).b)
  (hobj:∀A',(∀b,A' b→Av E s.objs pl b)→Stay w (Av E s.objs pl) w' A'→ObjAt E.P w' A' (pl o) obj') (hnc:obj.isCell=false:=by rfl):RelP E pl w' a (s.setO o (some obj')):=by
 have hO:∀p ob,s.objs p=some ob→∃ob',(s.setO o (some obj')).objs p=some ob'∧ob.like ob'∧pl p=pl p:=fun p ob hp=>by
  by_cases e:p=o
  ·subst e
   rw [ho] at hp
   cases hp
   exact ⟨obj',aB _ _ _,hl,rfl⟩
  ·exact ⟨ob,by rw [aD _ _ _ e];exact hp,ob.like_refl,rfl⟩
 have hback:∀p ob',(s.setO o (some obj')).objs p=some ob'→∃ob,s.objs p=some ob∧ob.like ob':=fun p ob' hp=>by
  by_cases e:p=o
  ·subst e
   rw [aB] at hp
   cases hp
   exact ⟨obj,ho,hl⟩
  ·rw [aD _ _ _ e] at hp
   exact ⟨ob',hp,ob'.like_refl⟩
 have hOwn:∀b,Own (s.setO o (some obj')).objs pl b→Own s.objs pl b:=fun b ⟨p,ob',hp,hcc,hb⟩=>by
  obtain ⟨ob,hp',hl'⟩:=hback p ob' hp
  exact ⟨p,ob,hp',(oX hl').1 hcc,hb⟩
 have hAv:∀b,Av E (s.setO o (some obj')).objs pl b→Av E s.objs pl b:=fun b hb=>hb.imp id (hOwn b)
 have hst:Stay w (Av E s.objs pl) w' (Av E (s.setO o (some obj')).objs pl):=fun b hb hA=>⟨fun hA'=>hA (hAv b hA'),hw.block b hb (fun hh=>h.ne hA ho hc hh.2)⟩
 have hin:=h.fresh _ ⟨o,obj,ho,hc,rfl⟩
 refine ⟨fun t=>by
  rw [cU (w:=w) (O:=s.objs) (pl:=pl) (fun k e hk=>by
   have hpo:t % 1000000≠o:=fun e'=>by rw [e',ho] at hk;cases hk;cases hnc
   exact ⟨by rw [aD _ _ _ hpo];exact hk,rfl,hw.block _ (h.fresh _ ⟨_,_,hk,trivial,rfl⟩).1 (fun hh=>h.sep _ o _ obj hpo hk ho trivial hc hh.2)⟩) (fun k e hk=>by
   obtain ⟨ob,h1,h2⟩:=hback _ _ hk
   cases ob with
   | cell k' e'=>exact ⟨k',e',h1⟩
   | row k' e' rw xs=>obtain ⟨_,h3,_⟩:=h2;cases h3
   | siter z q=>obtain ⟨_,_,h3⟩:=h2;cases h3
   | mapo k1 k2 es=>obtain ⟨_,h3⟩:=h2;cases h3)]
  exact (h.vals t).move (fun k x cs hc=>hc.stay hst) hO,fun p ob' hp=>?_,fun p p' ob ob' hpp hp hp' hc1 hc2=>?_,fun b hb=>?_,h.frame.ext hw (fun _=>hin.2.1),h.dfr,h.N,fun b hz=>Nat.lt_of_lt_of_le (h.zlt b hz) hw.size⟩
 ·by_cases e:p=o
  ·subst e
   rw [aB] at hp
   cases hp
   exact hobj _ hAv hst
  ·rw [aD _ _ _ e] at hp
   exact (h.objs p ob' hp).stay hst (fun hcc=>hw.block _ (h.fresh _ ⟨p,ob',hp,hcc,rfl⟩).1 (fun hh=>h.sep p o ob' obj e hp ho hcc hc hh.2))
 ·obtain ⟨q,hq,hlq⟩:=hback p ob hp
  obtain ⟨q',hq',hlq'⟩:=hback p' ob' hp'
  exact h.sep p p' q q' hpp hq hq' ((oX hlq).1 hc1) ((oX hlq').1 hc2)
 ·have h1:=h.fresh b (hOwn b hb)
  exact ⟨Nat.lt_of_lt_of_le h1.1 hw.size,h1.2⟩
theorem bV (s:FState) (o p:Nat):(s.kill o).objs p=if p=o then none else s.objs p:=by
 by_cases e:p=o
 ·subst e;simp [FState.kill,Nat.beq_refl]
 ·simp [FState.kill,cF e,e]
theorem RelP.vals_kill (h:RelP E pl w a s) (o:Nat) {A':Nat→Prop} {O':cE} {pl':Nat→Pl} (hD:∀k x cs,RepD w (Av E s.objs pl) k x cs→RepD w' A' k x cs) (hO:∀p obj,p≠o→s.objs p=some obj→∃obj',O' p=some obj'∧obj.like obj'∧pl' p=pl p)
  {t:Nat} (h1:∀k e,s.objs (t % 1000000)=some (.cell k e)→t % 1000000≠o→O' (t % 1000000)=some (.cell k e)∧pl' (t % 1000000)=pl (t % 1000000)∧w'.heap[(pl (t % 1000000)).b]? =w.heap[(pl (t % 1000000)).b]?)
  (h2:∀k e,O' (t % 1000000)=some (.cell k e)→∃k' e',s.objs (t % 1000000)=some (.cell k' e')):VRep w' A' O' pl' ((s.kill o).tmps t) (dU w' O' pl' a t):=by
 show VRep w' A' O' pl' (bif dK o t then .dead else (s.tmps t).kill o) _
 cases hb:dK o t with
 | true=>exact VRep.dead _
 | false=>
  simp only [cond_false]
  by_cases ht:t < 1000000
  ·rw [cP ht,←cP (w:=w) (O:=s.objs) (pl:=pl) ht]
   exact (h.vals t).kill o hD hO
  ·rw [cU (w:=w) (O:=s.objs) (pl:=pl) (fun k e hk=>h1 k e hk (SB hb ht)) h2]
   exact (h.vals t).kill o hD hO
theorem RelP.kill (h:RelP E pl w a s) (o:Nat):RelP E pl w a (s.kill o):=by
 have hback:∀p ob,(s.kill o).objs p=some ob→p≠o∧s.objs p=some ob:=fun p ob hp=>by
  rw [bV] at hp
  split at hp
  ·cases hp
  ·exact ⟨by assumption,hp⟩
 have hOwn:∀b,Own (s.kill o).objs pl b→Own s.objs pl b:=fun b ⟨p,ob,hp,hc,hb⟩=>⟨p,ob,(hback p ob hp).2,hc,hb⟩
 have hst:Stay w (Av E s.objs pl) w (Av E (s.kill o).objs pl):=fun b hb hA=>⟨fun hA'=>hA (hA'.imp id (hOwn b)),rfl⟩
 refine ⟨fun t=>h.vals_kill (O':=(s.kill o).objs) (pl':=pl) o (fun k x cs hc=>hc.stay hst) (fun p ob hpo hp=>⟨ob,by rw [bV,if_neg hpo];exact hp,ob.like_refl,rfl⟩) (fun k e hk hto=>⟨by rw [bV,if_neg hto];exact hk,rfl,rfl⟩) (fun k e hk=>(by rw [bV] at hk;split at hk;cases hk;exact ⟨k,e,hk⟩)),fun p ob hp=>?_,fun p p' ob ob' hpp hp hp'=>?_,fun b hb=>h.fresh b (hOwn b hb),h.frame,h.dfr,h.N,h.zlt⟩
 ·exact (h.objs p ob (hback p ob hp).2).stay hst (fun _=>rfl)
 ·exact h.sep p p' ob ob' hpp (hback p ob hp).2 (hback p' ob' hp').2
theorem RelP.repl (h:RelP E pl w a s) {o:Nat} {obj:FObj} (ho:s.objs o=some obj) (hw:Wr w w' (occ (pl o) obj) (pl o).b) (obj':FObj) (p:Pl)
  (hp:occ p obj'→((occ (pl o) obj∧p.b=(pl o).b)∨w.heap.size≤p.b)∧p.b < w'.heap.size)
  (hobj:∀A',(∀b,A' b→Av E s.objs pl b∨(occ p obj'∧p.b=b))→Stay w (Av E s.objs pl) w' A'→ObjAt E.P w' A' p obj') (hnc:obj'.isCell=false:=by rfl):RelP E (upd pl o p) w' a ((s.kill o).setO o (some obj')):=by
 have hback:∀q ob,q≠o→((s.kill o).setO o (some obj')).objs q=some ob→s.objs q=some ob:=fun q ob hq hh=>by
  rw [aD _ _ _ hq,bV,if_neg hq] at hh
  exact hh
 have hAv:∀b,Av E ((s.kill o).setO o (some obj')).objs (upd pl o p) b→Av E s.objs pl b∨(occ p obj'∧p.b=b):=by
  rintro b (hz | ⟨q,ob,hq,hc,hb⟩)
  ·exact .inl (.inl hz)
  ·by_cases e:q=o
   ·subst e
    rw [aB] at hq
    cases hq
    rw [aC] at hc hb
    exact .inr ⟨hc,hb⟩
   ·have hq':=hback q ob e hq
    rw [aG _ _ _ e] at hc hb
    exact .inl (.inr ⟨q,ob,hq',hc,hb⟩)
 have hst:Stay w (Av E s.objs pl) w' (Av E ((s.kill o).setO o (some obj')).objs (upd pl o p)):=fun b hb hA=>⟨fun hA'=>by
  rcases hAv b hA' with h1 | ⟨h1,h2⟩
  ·exact hA h1
  ·rcases (hp h1).1 with ⟨h3,h4⟩ | h3
   ·exact h.ne hA ho h3 (h2.symm.trans h4)
   ·omega,hw.block b hb (fun hh=>h.ne hA ho hh.1 hh.2)⟩
 refine ⟨fun t=>h.vals_kill (O':=((s.kill o).setO o (some obj')).objs) (pl':=upd pl o p) o (fun k x cs hc=>hc.stay hst) (fun q ob hqo hq=>⟨ob,by rw [aD _ _ _ hqo,bV,if_neg hqo];exact hq,ob.like_refl,aG _ _ _ hqo⟩)
   (fun k e hk hto=>⟨by rw [aD _ _ _ hto,bV,if_neg hto];exact hk,aG _ _ _ hto,hw.block _ (h.fresh _ ⟨_,_,hk,trivial,rfl⟩).1 (fun hh=>h.sep _ o _ obj hto hk ho trivial hh.1 hh.2)⟩)
   (fun k e hk=>by
    by_cases e':t % 1000000=o
    ·rw [e',aB] at hk;cases hk;cases hnc
    ·exact ⟨k,e,hback _ _ e' hk⟩),
  fun q ob hq=>?_,fun q q' ob ob' hqq hq hq' hc hc'=>?_,fun b hb=>?_,h.frame.ext hw (fun hc=>(h.fresh _ ⟨o,obj,ho,hc,rfl⟩).2.1),h.dfr,h.N,fun b hz=>Nat.lt_of_lt_of_le (h.zlt b hz) hw.size⟩
 ·by_cases e:q=o
  ·subst e
   rw [aB] at hq
   cases hq
   rw [aC]
   exact hobj _ hAv hst
  ·have hq':=hback q ob e hq
   rw [aG _ _ _ e]
   exact (h.objs q ob hq').stay hst (fun hc=>hw.block _ (h.fresh _ ⟨q,ob,hq',hc,rfl⟩).1 (fun hh=>h.sep q o ob obj e hq' ho hc hh.1 hh.2))
 ·have key:∀q ob,q≠o→s.objs q=some ob→occ (pl q) ob→occ p obj'→(pl q).b≠p.b:=fun q ob hq hqo hcq hcp e=>by
   rcases (hp hcp).1 with ⟨h3,h4⟩ | h3
   ·exact h.sep q o ob obj hq hqo ho hcq h3 (e.trans h4)
   ·have:=(h.fresh _ ⟨q,ob,hqo,hcq,rfl⟩).1;omega
  by_cases e:q=o
  ·subst e
   have e':q'≠q:=fun e=>hqq e.symm
   rw [aB] at hq
   cases hq
   rw [aC] at hc
   rw [aG _ _ _ e'] at hc'
   rw [aC,aG _ _ _ e']
   exact (key q' ob' e' (hback q' ob' e' hq') hc' hc).symm
  ·rw [aG _ _ _ e] at hc ⊢
   by_cases e':q'=o
   ·subst e'
    rw [aB] at hq'
    cases hq'
    rw [aC] at hc' ⊢
    exact key q ob e (hback q ob e hq) hc hc'
   ·rw [aG _ _ _ e'] at hc' ⊢
    exact h.sep q q' ob ob' hqq (hback q ob e hq) (hback q' ob' e' hq') hc hc'
 ·obtain ⟨q,ob,hq,hc,rfl⟩:=hb
  by_cases e:q=o
  ·subst e
   rw [aB] at hq
   cases hq
   rw [aC] at hc ⊢
   have h2:=hp hc
   refine ⟨h2.2,?_,fun hz=>?_⟩
   ·rcases h2.1 with ⟨h3,h4⟩ | h3
    ·rw [h4];exact (h.fresh _ ⟨q,obj,ho,h3,rfl⟩).2.1
    ·exact .inr (Nat.le_trans h.frame.size h3)
   ·rcases h2.1 with ⟨h3,h4⟩ | h3
    ·exact (h.fresh _ ⟨q,obj,ho,h3,rfl⟩).2.2 (h4 ▸ hz)
    ·have h3':=h.zlt _ hz
     omega
  ·have hq':=hback q ob e hq
   rw [aG _ _ _ e] at hc ⊢
   have h1:=h.fresh _ ⟨q,ob,hq',hc,rfl⟩
   exact ⟨Nat.lt_of_lt_of_le h1.1 hw.size,h1.2⟩
end
end Go.Proofs.YtoafkjeamgelgaaDoorHF

namespace Go.Proofs.YtoafkjeamgelgaaDoorHF
open Go
set_option linter.unusedVariables false
set_option linter.unusedSimpArgs false
structure FoOk (P:Program) (t:TypeId) (l:List (Nat×Nat)):Prop where
 und:((P.underlying t).bind fun d=>match d with | .struct fs=>some (fs.toList.map fun f=>(f.offset,f.type)) | _=>none)=some l
 infos:(l.all fun p=>(P.info? p.2).isSome)=true
theorem FoOk.und' {P:Program} {t:TypeId} {l:List (Nat×Nat)} (h:FoOk P t l):∃fs,P.underlying t=some (.struct fs)∧fs.toList.map (fun f=>(f.offset,f.type))=l:=by
 have h:=h.und
 cases hu:P.underlying t with
 | none=>simp [hu] at h
 | some d=>
  cases d <;> simp [hu] at h
  exact ⟨_,rfl,by simpa using h⟩
def EB:K→Bool
 | .int _=>true
 | .bool=>true
 | .str=>true
 | _=>false
def fsB (kt:List (Nat×K)):List Field→K→Nat→Bool
 | [],_,_=>false
 | [f],k,off=> !(f.name== "_")&&Nat.beq f.offset off&&decide (lk kt f.type=some k)&&EB k
 | f::fs,.pair a b,off=> !(f.name== "_")&&Nat.beq f.offset off&&decide (lk kt f.type=some a)&&EB a&&fsB kt fs b (off+a.size)
 | _,_,_=>false
def uI (P:Program) (kt:List (Nat×K)) (t:TypeId):Bool:=
 match P.underlying t,lk kt t with
 | some (.struct fs),some k=>fsB kt fs.toList k 0&& !P.stoodInHeld t&& !P.eqGuardType P.depth t
 | _,_=>false
structure TabOk (P:Program) (Γ:Ctx):Prop where
 kt:∀t k,lk Γ.kt t=some k→TyOk P t k
 se:∀t e,lk Γ.se t=some e→P.underlying t=some (.slice e)
 fos:∀t l,lk Γ.fo t=some l→FoOk P t l
 eqs:∀t,cV t Γ.eqs=true→uI P Γ.kt t=true
 mps:∀t p,lk Γ.mps t=some p→P.underlying t=some (.map p.1 p.2)
theorem TabOk.fo {P:Program} {Γ:Ctx} (h:TabOk P Γ) (t:TypeId) (j q ft:Nat) (hf:cZ Γ t j=some (q,ft)):∃fs f,P.underlying t=some (.struct fs)∧fs[j]? =some f∧f.offset=q∧f.type=ft:=by
 unfold cZ at hf
 obtain ⟨l,hl,hj⟩:=Option.bind_eq_some_iff.1 hf
 obtain ⟨fs,hu,rfl⟩:=(h.fos t l hl).und'
 rw [List.getElem?_map] at hj
 obtain ⟨f,hf',he⟩:=Option.map_eq_some_iff.1 hj
 cases he
 exact ⟨fs,f,hu,by simpa using hf',rfl,rfl⟩
theorem sH (P:Program):∀(fs:List Field),((fs.map fun f=>(f.offset,f.type)).all fun p=>(P.info? p.2).isSome)=true→
  ∃places,fs.mapM (fun f=>(P.info? f.type).map fun i=>(f.offset,i.size))=some places∧∀(j:Nat) (f:Field) (i:TypeInfo),fs[j]? =some f→P.info? f.type=some i→places[j]? =some (f.offset,i.size)
 | [],_=>⟨[],rfl,fun j f i h=>by simp at h⟩
 | f::fs,h=>by
  simp only [List.map_cons,List.all_cons,Bool.and_eq_true] at h
  obtain ⟨places,h1,h2⟩:=sH P fs h.2
  obtain ⟨i,hi⟩:=Option.isSome_iff_exists.1 h.1
  refine ⟨(f.offset,i.size)::places,by simp [List.mapM_cons,hi,h1],fun j f' i' hj hi'=>?_⟩
  cases j with
  | zero=>simp at hj;subst hj;rw [hi] at hi';cases hi';rfl
  | succ j=>exact h2 j f' i' (by simpa using hj) hi'
section
variable {P:Program} {t:TypeId} {k:K} {w:World}
theorem TyOk.info' (h:TyOk P t k):∃i,P.info? t=some i∧i.size=k.size∧i.zero=some k.zval∧i.bytes≤128:=by
 have h:=h.info
 cases hi:P.info? t with
 | none=>simp [hi] at h
 | some i=>simp [hi] at h;exact ⟨i,rfl,h.1,h.2.1,h.2.2⟩
theorem TyOk.sizeOf (h:TyOk P t k):(sizeOf t).run P w= .ok k.size w:=by
 obtain ⟨i,hi,hs,_⟩:=h.info'
 simp [Go.sizeOf,typeInfo,hi,hs]
theorem TyOk.zero (h:TyOk P t k):(zeroValue t).run P w= .ok k.zval w:=by
 obtain ⟨i,hi,_,hz,_⟩:=h.info'
 simp [zeroValue,typeInfo,hi,hz]
theorem TyOk.isAgg (h:TyOk P t k):(isAgg t).run P w= .ok k.isPair w:=by
 have hu:=h.und
 cases k with
 | err=>obtain ⟨ms,hu⟩:=hu;simp [Go.isAgg,run_underlying hu,K.isPair]
 | pair a b=>obtain ⟨fs,hu⟩:=hu;simp [Go.isAgg,run_underlying hu,K.isPair]
 | _=>simp only [RX] at hu;simp [Go.isAgg,run_underlying hu,K.isPair]
theorem TyOk.und' (h:TyOk P t k):∃d,P.underlying t=some d:=by
 have hu:=h.und
 cases k <;> simp only [RX] at hu <;> first | exact ⟨_,hu⟩ | (obtain ⟨_,hu⟩:=hu;exact ⟨_,hu⟩)
theorem K.zcells_len:∀k:K,k.zcells.length=k.size
 | .int _ | .bool | .str | .flt _ | .err | .sl _ _=>rfl
 | .pair a b=>by simp [K.zcells,K.size,a.zcells_len,b.zcells_len]
theorem K.zval_cells (k:K):k.zval.cells=k.zcells.toArray:=by cases k <;> rfl
theorem RepD.zero (w:World) (A:Nat→Prop):∀k:K,RepD w A k k.dflt k.zcells
 | .int _=>rfl
 | .bool=>rfl
 | .str=>rfl
 | .flt _=>rfl
 | .err=>⟨_,rfl,.inl ⟨rfl,rfl⟩⟩
 | .pair a b=>⟨_,_,rfl,RepD.zero w A a,RepD.zero w A b⟩
 | .sl _ _=>⟨none,0,rfl,Nat.le_refl _,.inl rfl⟩
end
theorem XY {a b:Nat} (h:a < b):Nat.blt a b=true:=by
 unfold Nat.blt;exact Nat.ble_eq_true_of_le h
theorem XB {a b:Nat} (h:¬a < b):Nat.blt a b=false:=by
 cases hb:Nat.blt a b
 ·rfl
 ·exact absurd (Nat.le_of_ble_eq_true hb) h
theorem EZ {α:Type} (l1 l2:List α) (off n:Nat) (h:l1.length≤off):((l1++l2).drop off).take n=(l2.drop (off - l1.length)).take n:=by
 rw [List.drop_append_of_le_length' h]
where
 List.drop_append_of_le_length' {α:Type} {l1 l2:List α} {off:Nat} (h:l1.length≤off):(l1++l2).drop off=l2.drop (off - l1.length):=by
  rw [List.drop_append];simp [List.drop_eq_nil_of_le h]
section
variable {w:World} {A:Nat→Prop}
theorem sR {k:K} {off:Nat} {k':K} {x:k.den} {y:k'.den} (h:(if h:off=0∧k=k' then some (h.2 ▸ x) else none:Option k'.den)=some y) {cs:List Value} (hr:RepD w A k x cs):
  RepD w A k' y ((cs.drop off).take k'.size)∧off+k'.size≤k.size:=by
 split at h
 ·rename_i hh
  obtain ⟨rfl,rfl⟩:=hh
  simp at h
  subst h
  have hl:=hr.len
  refine ⟨?_,by omega⟩
  rw [List.drop_zero,List.take_of_length_le (by omega)]
  exact hr
 ·cases h
theorem kP:∀(k:K) (off:Nat) (k':K) (x:k.den) (y:k'.den),wK k off k' x=some y→∀{cs:List Value},RepD w A k x cs→
  RepD w A k' y ((cs.drop off).take k'.size)∧off+k'.size≤k.size
 | .int _,off,k',x,y,h,cs,hr | .bool,off,k',x,y,h,cs,hr | .str,off,k',x,y,h,cs,hr | .flt _,off,k',x,y,h,cs,hr | .err,off,k',x,y,h,cs,hr | .sl _ _,off,k',x,y,h,cs,hr=>sR h hr
 | .pair a b,off,k',x,y,h,cs,hr=>by
  unfold wK at h
  split at h
  ·rename_i hh
   exact sR (k:= .pair a b) (off:=off) (k':=k') (x:=x) (y:=y) (by rw [dif_pos hh];exact h) hr
  ·obtain ⟨c1,c2,rfl,h1,h2⟩:=hr
   have hl1:=h1.len
   have hl2:=h2.len
   by_cases hlt:off < a.size
   ·have:Nat.blt off a.size=true:=XY hlt
    rw [this] at h
    obtain ⟨hy,hs⟩:=kP a off k' x.1 y h h1
    refine ⟨?_,by simp only [K.size];omega⟩
    have:((c1++c2).drop off).take k'.size=(c1.drop off).take k'.size:=by
     rw [List.drop_append,List.take_append_of_le_length (by rw [List.length_drop];omega)]
    rw [this];exact hy
   ·have:Nat.blt off a.size=false:=XB hlt
    rw [this] at h
    obtain ⟨hy,hs⟩:=kP b (off - a.size) k' x.2 y h h2
    refine ⟨?_,by simp only [K.size];omega⟩
    rw [EZ c1 c2 off _ (by omega),hl1];exact hy
def eN (cs:List Value) (off:Nat) (ds:List Value):List Value:=cs.take off++ds++cs.drop (off+ds.length)
theorem rU {k:K} {off:Nat} {k':K} {x z:k.den} {y:k'.den} (h:(if h:off=0∧k'=k then some (h.2 ▸ y) else none:Option k.den)=some z) {cs ds:List Value} (hr:RepD w A k x cs) (hd:RepD w A k' y ds):
  RepD w A k z (eN cs off ds)∧off+k'.size≤k.size:=by
 split at h
 ·rename_i hh
  obtain ⟨rfl,rfl⟩:=hh
  simp at h
  subst h
  have hl:=hr.len
  have hl':=hd.len
  refine ⟨?_,by omega⟩
  unfold eN
  rw [List.take_zero,List.nil_append,List.drop_of_length_le (by omega),List.append_nil]
  exact hd
 ·cases h
theorem lQ:∀(k:K) (off:Nat) (k':K) (y:k'.den) (x z:k.den),AQ k off k' y x=some z→∀{cs ds:List Value},RepD w A k x cs→RepD w A k' y ds→
  RepD w A k z (eN cs off ds)∧off+k'.size≤k.size
 | .int _,off,k',y,x,z,h,cs,ds,hr,hd | .bool,off,k',y,x,z,h,cs,ds,hr,hd | .str,off,k',y,x,z,h,cs,ds,hr,hd | .flt _,off,k',y,x,z,h,cs,ds,hr,hd | .err,off,k',y,x,z,h,cs,ds,hr,hd | .sl _ _,off,k',y,x,z,h,cs,ds,hr,hd=>rU (x:=x) h hr hd
 | .pair a b,off,k',y,x,z,h,cs,ds,hr,hd=>by
  unfold AQ at h
  split at h
  ·rename_i hh
   exact rU (k:= .pair a b) (off:=off) (k':=k') (x:=x) (z:=z) (y:=y) (by rw [dif_pos hh];exact h) hr hd
  ·obtain ⟨c1,c2,rfl,h1,h2⟩:=hr
   have hl1:=h1.len
   have hl2:=h2.len
   have hld:=hd.len
   by_cases hlt:off < a.size
   ·have:Nat.blt off a.size=true:=XY hlt
    rw [this] at h
    simp only [cond_true] at h
    split at h
    ·rename_i z1 hz1
     cases h
     obtain ⟨hy,hs⟩:=lQ a off k' y x.1 z1 hz1 h1 hd
     refine ⟨⟨eN c1 off ds,c2,?_,hy,h2⟩,by simp only [K.size];omega⟩
     unfold eN
     rw [List.take_append_of_le_length (by omega),List.drop_append,List.append_assoc,List.append_assoc,List.append_assoc]
     rw [show off+ds.length - c1.length=0 by omega,List.drop_zero]
    ·cases h
   ·have:Nat.blt off a.size=false:=XB hlt
    rw [this] at h
    simp only [cond_false] at h
    split at h
    ·rename_i z2 hz2
     cases h
     obtain ⟨hy,hs⟩:=lQ b (off - a.size) k' y x.2 z2 hz2 h2 hd
     refine ⟨⟨c1,eN c2 (off - a.size) ds,?_,h1,hy⟩,by simp only [K.size];omega⟩
     unfold eN
     rw [List.take_append,List.take_of_length_le (by omega),List.drop_append,List.drop_of_length_le (by omega),List.nil_append,hl1,List.append_assoc,List.append_assoc,List.append_assoc]
     rw [show off+ds.length - a.size=off - a.size+ds.length by omega]
    ·cases h
end
section
variable {β:Type} {r:β}
theorem bM {v:FV} {κ:IntKind→Int→Option β} (h:eS v κ=some r):∃k n,v= .dat (.int k) n∧κ k n=some r:=by
 unfold eS at h;split at h
 ·exact ⟨_,_,rfl,h⟩
 ·cases h
theorem kC {v:FV} {κ:Bool→Option β} (h:asBool v κ=some r):∃b,v= .dat .bool b∧κ b=some r:=by
 unfold asBool at h;split at h
 ·exact ⟨_,rfl,h⟩
 ·cases h
theorem iY {v:FV} {κ:BA→Option β} (h:rR v κ=some r):∃b,v= .dat .str b∧κ b=some r:=by
 unfold rR at h;split at h
 ·exact ⟨_,rfl,h⟩
 ·cases h
theorem eK {a b:K} {x:a.den} {κ:b.den→Option β} (h:jK a b x κ=some r):∃e:a=b,κ (e ▸ x)=some r:=by
 unfold jK at h;split at h
 ·exact ⟨_,h⟩
 ·cases h
theorem aP {a b:K} {x:List a.den} {κ:List b.den→Option β} (h:cG a b x κ=some r):∃e:a=b,κ (e ▸ x)=some r:=by
 unfold cG at h;split at h
 ·exact ⟨_,h⟩
 ·cases h
theorem bE {v:FV} {k:K} {κ:k.den→Option β} (h:eG v k κ=some r):∃x,v= .dat k x∧κ x=some r:=by
 unfold eG at h;split at h
 ·obtain ⟨e,h⟩:=eK h
  subst e
  exact ⟨_,rfl,h⟩
 ·cases h
theorem aA {α:Type _} {x:Option α} {κ:α→Option β} (h:aO x κ=some r):∃a,x=some a∧κ a=some r:=by
 unfold aO at h;split at h
 ·exact ⟨_,rfl,h⟩
 ·cases h
theorem aI {c:Prop} [Decidable c] {x:Option β} (h:(if c then x else none)=some r):c∧x=some r:=by
 split at h
 ·exact ⟨by assumption,h⟩
 ·cases h
theorem jC {i n:Int} {κ:Option β} (h:idx i n κ=some r):0≤i∧i < n∧κ=some r:=by
 unfold idx at h
 obtain ⟨h1,h⟩:=aI h
 obtain ⟨h2,h⟩:=aI h
 exact ⟨h1,h2,h⟩
theorem fU {lo hi n:Int} {κ:Option β} (h:bnd lo hi n κ=some r):0≤lo∧lo≤hi∧hi≤n∧κ=some r:=by
 unfold bnd at h
 obtain ⟨h1,h⟩:=aI h
 obtain ⟨h2,h⟩:=aI h
 obtain ⟨h3,h⟩:=aI h
 exact ⟨h1,h2,h3,h⟩
theorem eX {n:Nat} {κ:Option β} (h:dS n κ=some r):n≤1099511627776∧κ=some r:=aI h
theorem aX {s:FState} {v:FV} {κ:(o:Nat)→(k:K)→TypeId→Bool→List k.den→Option (Int×Int)→Option β} (h:eE s v κ=some r):
  ∃o w nn k e rw xs,v= .sl o w nn∧s.objs o=some (.row k e rw xs)∧κ o k e rw xs w=some r:=by
 unfold eE at h
 split at h
 ·split at h
  ·exact ⟨_,_,_,_,_,_,_,rfl,by assumption,h⟩
  ·cases h
 ·cases h
theorem aR {d:Option Tmp} {s:FState} {obj:FObj} {v:Nat→FV} {κ:FState→Option β} (h:newRow d s obj v κ=some r):∃d',d=some d'∧s.objs d'=none∧κ ((s.setO d' (some obj)).set d' (v d'))=some r:=by
 unfold newRow at h
 split at h
 ·split at h
  ·exact ⟨_,rfl,by assumption,h⟩
  ·cases h
 ·cases h
end
section
variable {w:World} {A:Nat→Prop} {O:cE} {pl:Nat→Pl}
theorem VRep.dat_inv {k:K} {x:k.den} {v:Value} (h:VRep w A O pl (.dat k x) v):∃cs,RepD w A k x cs∧(if k.isPair then v= .agg cs.toArray else cs=[v]):=by
 rcases h with h | ⟨l,_,hl⟩
 ·exact h
 ·exact hl.elim
theorem VRep.cells {k:K} {x:k.den} {v:Value} (h:VRep w A O pl (.dat k x) v):∃cs,RepD w A k x cs∧v.cells=cs.toArray:=by
 obtain ⟨cs,hr,hv⟩:=h.dat_inv
 refine ⟨cs,hr,?_⟩
 split at hv
 ·rw [hv];rfl
 ·subst hv
  have h1:=hr.one v (by simp)
  cases v <;> first | rfl | simp [Value.oneCell'] at h1
theorem VRep.int_inv {k:IntKind} {n:Int} {v:Value} (h:VRep w A O pl (.dat (.int k) n) v):v= .int k n:=by
 obtain ⟨cs,hr,hv⟩:=h.dat_inv
 simp [K.isPair] at hv;subst hv;simpa [RepD] using hr
theorem VRep.bool_inv {b:Bool} {v:Value} (h:VRep w A O pl (.dat .bool b) v):v= .bool b:=by
 obtain ⟨cs,hr,hv⟩:=h.dat_inv
 simp [K.isPair] at hv;subst hv;simpa [RepD] using hr
theorem VRep.str_inv {b:BA} {v:Value} (h:VRep w A O pl (.dat .str b) v):v= .string b:=by
 obtain ⟨cs,hr,hv⟩:=h.dat_inv
 simp [K.isPair] at hv;subst hv;simpa [RepD] using hr
theorem VRep.int (k:IntKind) (n:Int):VRep w A O pl (.dat (.int k) n) (.int k n):= .inl ⟨_,rfl,rfl⟩
theorem VRep.bool (b:Bool):VRep w A O pl (.dat .bool b) (.bool b):= .inl ⟨_,rfl,rfl⟩
theorem VRep.str (b:BA):VRep w A O pl (.dat .str b) (.string b):= .inl ⟨_,rfl,rfl⟩
theorem VRep.ofCells {k:K} {x:k.den} {cs:List Value} (h:RepD w A k x cs) {v:Value} (hv:if k.isPair then v= .agg cs.toArray else cs=[v]):VRep w A O pl (.dat k x) v:= .inl ⟨cs,h,hv⟩
theorem VRep.sl_inv {o:Nat} {wn:Option (Int×Int)} {nn:Bool} {v:Value} (h:VRep w A O pl (.sl o wn nn) v):VRep1 w A O pl (.sl o wn nn) v:=by
 rcases h with h | ⟨l,_,hl⟩
 ·exact h
 ·exact hl.elim
theorem VRep.it_inv {o:Nat} {v:Value} (h:VRep w A O pl (.it o) v):∃z pos,O o=some (.siter z pos)∧v= .pointer (some ⟨(pl o).b,0,none⟩):=by
 rcases h with h | ⟨l,_,hl⟩
 ·exact h
 ·exact hl.elim
theorem VRep.ptr_inv {o:Nat} {i:Int} {off:Nat} {v:Value} (h:VRep w A O pl (.ptr o i off) v):∃k e rw xs,O o=some (.row k e rw xs)∧0≤i∧i < xs.length∧v= .pointer (some ⟨(pl o).b,(pl o).off+i.toNat * k.size+off,none⟩):=by
 rcases h with h | ⟨l,_,hl⟩
 ·exact h
 ·exact hl.elim
end
theorem Oper.wp_of_value {P:Program} {o:Oper} {a:Act} {w w':World} {v:Value} {next:Act→World→Prop} {Q:Exit→Act→World→Prop} (h:(execOp a.eval o).run P w= .ok (.value v) w') (k:next (a.put o.dst v) w'):o.wp P a w next Q:=by
 unfold Oper.wp;rw [h];exact k
theorem Oper.wp_of_skip {P:Program} {o:Oper} {a:Act} {w w':World} {next:Act→World→Prop} {Q:Exit→Act→World→Prop} (h:(execOp a.eval o).run P w= .ok .skip w') (k:next (a.put o.dst undef) w'):o.wp P a w next Q:=by
 unfold Oper.wp;rw [h];exact k
section
variable {E:Env} {Γ:Ctx} {w w':World} {a:Act} {s:FState} {β:Type} {r:β} {κ:FState→Option β} {Q:Exit→Act→World→Prop}
def Goes (E:Env) (κ:FState→Option β) (r:β):Act→World→Prop:=fun a w=>∃s,Rel E w a s∧κ s=some r
theorem Goes.put {pl:Nat→Pl} (h:RelP E pl w a s) {d:Option Tmp} (hd:bH E d) {f:FV} {v:Value} (hv:VRep w (Av E s.objs pl) s.objs pl f v) (hk:κ (s.put d f)=some r):Goes E κ r (a.put d v) w:=
 ⟨_,⟨pl,h.put hd hv⟩,hk⟩
theorem pL (h:Rel E w a s) {d:Option Tmp} (hd:bH E d) {x:Operand} {ty:TypeId} {pos:String} {af:Array Edge} {g:Option (Nat×Bool)} {op:Op} (hop:op= .move x∨op= .assign x)
  (hk:κ (s.put d (ev s x))=some r):Oper.wp E.P ⟨d,op,ty,pos,af,g⟩ a w (Goes E κ r) Q:=by
 obtain ⟨pl,h⟩:=h
 refine Oper.wp_of_value (v:=a.eval x) (w':=w) ?_ (Goes.put h hd (h.ev x _ rfl) hk)
 rcases hop with rfl | rfl <;> simp [execOp]
theorem zR (h:Rel E w a s) {d:Option Tmp} (hd:bH E d) {c x y:Operand} {ty:TypeId} {pos:String} {af:Array Edge} {g:Option (Nat×Bool)}
  (hk:asBool (ev s c) (fun t=>κ (s.put d (rP t (ev s x) (ev s y))))=some r):Oper.wp E.P ⟨d,.pick c x y,ty,pos,af,g⟩ a w (Goes E κ r) Q:=by
 obtain ⟨pl,h⟩:=h
 obtain ⟨b,hb,hk⟩:=kC hk
 have hc:=(h.ev c _ hb).bool_inv
 refine Oper.wp_of_value (v:=if b then a.eval x else a.eval y) (w':=w) (by simp [execOp,hc,Go.asBool]) (Goes.put h hd ?_ hk)
 have hx:=h.ev x _ rfl
 have hy:=h.ev y _ rfl
 unfold rP
 split
 ·rename_i k x' k' y' e1 e2
  rw [e1] at hx
  rw [e2] at hy
  split
  ·rename_i e
   subst e
   cases b <;> simpa using ‹_›
  ·exact VRep.dead _
 ·cases b <;> simpa using ‹_›
theorem wN (P:Program) (w:World) {op:BinOp} {k:IntKind} {x y:Int} {t:TypeId} {f:FV→Option β} (h:rL op k x y f=some r):
  ∃v fv,(binOp op t (.int k x) (.int k y)).run P w= .ok v w∧f fv=some r∧∀A O pl,VRep w A O pl fv v:=by
 cases op <;> simp only [rL] at h
 case add=>exact ⟨_,_,by simp [binOp,Op.intArith],h,fun _ _ _=> .int _ _⟩
 case sub=>exact ⟨_,_,by simp [binOp,Op.intArith],h,fun _ _ _=> .int _ _⟩
 case mul=>exact ⟨_,_,by simp [binOp,Op.intArith],h,fun _ _ _=> .int _ _⟩
 case quo=>
  split at h
  ·cases h
  ·exact ⟨_,_,by simp [binOp,Op.intDiv, *],h,fun _ _ _=> .int _ _⟩
 case rem=>
  split at h
  ·cases h
  ·exact ⟨_,_,by simp [binOp,Op.intDiv, *],h,fun _ _ _=> .int _ _⟩
 case eql=>exact ⟨_,_,by simp [binOp,Op.intCmp],h,fun _ _ _=> .bool _⟩
 case neq=>exact ⟨_,_,by simp [binOp,Op.intCmp],h,fun _ _ _=> .bool _⟩
 case lss=>exact ⟨_,_,by simp [binOp,Op.intCmp],h,fun _ _ _=> .bool _⟩
 case leq=>exact ⟨_,_,by simp [binOp,Op.intCmp],h,fun _ _ _=> .bool _⟩
 case gtr=>exact ⟨_,_,by simp [binOp,Op.intCmp],h,fun _ _ _=> .bool _⟩
 case geq=>exact ⟨_,_,by simp [binOp,Op.intCmp],h,fun _ _ _=> .bool _⟩
 case and=>exact ⟨_,_,by simp [binOp,Op.intBits,YK],h,fun _ _ _=> .int _ _⟩
 case or=>exact ⟨_,_,by simp [binOp,Op.intBits,orI],h,fun _ _ _=> .int _ _⟩
 case xor=>exact ⟨_,_,by simp [binOp,Op.intBits,XZ],h,fun _ _ _=> .int _ _⟩
 case andNot=>exact ⟨_,_,by simp [binOp,Op.intBits,CL],h,fun _ _ _=> .int _ _⟩
 all_goals cases h
theorem gJ {α:Type} {x:Option α} {κ:α→Option β} (h:onS x κ=some r):∃a,x=some a∧κ a=some r:=by
 cases x with
 | none=>cases h
 | some a=>exact ⟨a,rfl,h⟩
theorem rD (P:Program) (w:World) {op:BinOp} {k k':IntKind} {x y:Int} {t:TypeId} {f:FV→Option β} (h:kR op k x y f=some r):
  ∃v fv,(binOp op t (.int k x) (.int k' y)).run P w= .ok v w∧f fv=some r∧∀A O pl,VRep w A O pl fv v:=by
 unfold kR at h
 split at h
 ·cases h
 ·rename_i hy
  cases op <;> simp only at h
  case shl=>exact ⟨_,_,by simp [binOp,Op.shift,hy,WR,WT],h,fun _ _ _=> .int _ _⟩
  case shr=>exact ⟨_,_,by simp [binOp,Op.shift,hy,WR,WT],h,fun _ _ _=> .int _ _⟩
  all_goals cases h
theorem VRep.flt_inv {k:FloatKind} {b:Nat} {A:Nat→Prop} {O:cE} {pl:Nat→Pl} {v:Value} (h:VRep w A O pl (.dat (.flt k) b) v):v= .float k b:=by
 obtain ⟨cs,hc,hv⟩:=h.dat_inv
 obtain rfl:cs=[Value.float k b]:=hc
 simpa [K.isPair] using hv.symm
theorem VRep.flt (k:FloatKind) (b:Nat) {A:Nat→Prop} {O:cE} {pl:Nat→Pl}:VRep w A O pl (.dat (.flt k) b) (.float k b):= .inl ⟨_,rfl,rfl⟩
theorem xQ (P:Program) (w:World) {op:BinOp} {k:FloatKind} {x y:Nat} {t:TypeId} {f:FV→Option β} (h:sA op k x y f=some r):
  ∃v fv,(binOp op t (.float k x) (.float k y)).run P w= .ok v w∧f fv=some r∧∀A O pl,VRep w A O pl fv v:=by
 cases op <;> simp only [sA] at h
 case add=>obtain ⟨z,hz,h⟩:=gJ h;exact ⟨_,_,run_float_arith w _ t k x y z hz,h,fun _ _ _=> .flt _ _⟩
 case sub=>obtain ⟨z,hz,h⟩:=gJ h;exact ⟨_,_,run_float_arith w _ t k x y z hz,h,fun _ _ _=> .flt _ _⟩
 case mul=>obtain ⟨z,hz,h⟩:=gJ h;exact ⟨_,_,run_float_arith w _ t k x y z hz,h,fun _ _ _=> .flt _ _⟩
 case quo=>obtain ⟨z,hz,h⟩:=gJ h;exact ⟨_,_,run_float_arith w _ t k x y z hz,h,fun _ _ _=> .flt _ _⟩
 case eql=>exact ⟨_,_,by simp [binOp,Op.floatCmp];rfl,h,fun _ _ _=> .bool _⟩
 case neq=>exact ⟨_,_,by simp [binOp,Op.floatCmp];rfl,h,fun _ _ _=> .bool _⟩
 case lss=>exact ⟨_,_,by simp [binOp,Op.floatCmp];rfl,h,fun _ _ _=> .bool _⟩
 case leq=>exact ⟨_,_,by simp [binOp,Op.floatCmp];rfl,h,fun _ _ _=> .bool _⟩
 case gtr=>exact ⟨_,_,by simp [binOp,Op.floatCmp];rfl,h,fun _ _ _=> .bool _⟩
 case geq=>exact ⟨_,_,by simp [binOp,Op.floatCmp];rfl,h,fun _ _ _=> .bool _⟩
 all_goals cases h
theorem xW (P:Program) (w:World) (op:BinOp) (t:TypeId) (x y:Operand) (k k':FloatKind) (n m:Nat):(eqGuard op t x y (.float k n) (.float k' m)).run P w= .ok () w:=by
 cases op <;> simp [eqGuard]
theorem wW (P:Program) (w:World) {op:BinOp} {x y:BA} {t:TypeId} {f:FV→Option β} (h:rX op x y f=some r):
  ∃v fv,(binOp op t (.string x) (.string y)).run P w= .ok v w∧f fv=some r∧∀A O pl,VRep w A O pl fv v:=by
 cases op <;> simp only [rX] at h
 case add=>
  obtain ⟨hn,h⟩:=eX h
  have hm:¬(((x.size+y.size:Nat):Int)>IntKind.i64.max):=by
   have:IntKind.i64.max=9223372036854775807:=by decide
   rw [this];omega
  exact ⟨_,_,by simp only [binOp,Op.stringOp];rw [if_neg hm];simp,h,fun _ _ _=> .str _⟩
 case eql=>exact ⟨_,_,by simp [binOp,Op.stringOp,fE],h,fun _ _ _=> .bool _⟩
 case neq=>exact ⟨_,_,by simp [binOp,Op.stringOp,fE],h,fun _ _ _=> .bool _⟩
 all_goals cases h
theorem uU {P:Program} {t:TypeId} (hu:P.underlying t=some .bool) (w:World) (x y:Bool) (d:Nat):(Op.equalIn (d+1) t (.bool x) (.bool y)).run P w= .ok (x==y) w:=by
 simp [Op.equalIn,run_underlying hu]
theorem pM {P:Program} {t:TypeId} (hu:P.underlying t=some .bool) (w:World) (x y:Bool):(Op.equal t (.bool x) (.bool y)).run P w= .ok (x==y) w:=uU hu w x y 9999
theorem qC {P:Program} {t:TypeId} (hu:P.underlying t=some .bool) (w:World) (x y:Bool):(binOp .eql t (.bool x) (.bool y)).run P w= .ok (.bool (x==y)) w:=by
 simp [binOp,pM hu]
theorem qE {P:Program} {t:TypeId} (hu:P.underlying t=some .bool) (w:World) (x y:Bool):(binOp .neq t (.bool x) (.bool y)).run P w= .ok (.bool (x !=y)) w:=by
 simp [binOp,pM hu,bne]
theorem nC (P:Program) (w:World) (op:BinOp) (t:TypeId) (x y:Operand) (k k':IntKind) (n m:Int):(eqGuard op t x y (.int k n) (.int k' m)).run P w= .ok () w:=by
 cases op <;> simp [eqGuard]
theorem wH (P:Program) (w:World) (op:BinOp) (t:TypeId) (x y:Operand) (n m:BA):(eqGuard op t x y (.string n) (.string m)).run P w= .ok () w:=by
 cases op <;> simp [eqGuard]
theorem lA (P:Program) (w:World) (op:BinOp) (t:TypeId) (x y:Operand) (n m:Bool):(eqGuard op t x y (.bool n) (.bool m)).run P w= .ok () w:=by
 cases op <;> simp [eqGuard]
theorem jA {P:Program} {t:TypeId} {k:K} (hT:TyOk P t k) (hk:EB k=true) {cs:List Value} {off:Nat} {v:Value} (hv:cs[off]? =some v) (w:World):(part t cs.toArray off).run P w= .ok v w:=by
 unfold part
 have hp:k.isPair=false:=by cases k <;> first | rfl | cases hk
 rw [Sem.run_bind,hT.isAgg,hp]
 simp [hv]
theorem lK {P:Program} {t:TypeId} {k:K} (hT:TyOk P t k) (hk:EB k=true) {w:World} {A:Nat→Prop} {x y:k.den} {cs ds:List Value} (hx:RepD w A k x cs) (hy:RepD w A k y ds) (d:Nat):
  ∃u v,cs=[u]∧ds=[v]∧∀w',(Op.equalIn (d+1) t u v).run P w'= .ok (eqD k x y) w':=by
 cases k with
 | int k=>exact ⟨_,_,hx,hy,fun w'=>by simp [Op.equalIn,run_underlying (show P.underlying t=some (.int k) from hT.und),eqD]⟩
 | bool=>exact ⟨_,_,hx,hy,fun w'=>by simp [Op.equalIn,run_underlying (show P.underlying t=some .bool from hT.und),eqD]⟩
 | str=>exact ⟨_,_,hx,hy,fun w'=>by simp [Op.equalIn,run_underlying (show P.underlying t=some .string from hT.und),eqD,fE,beq_toListBytes]⟩
 | _=>cases hk
theorem kN {P:Program} {kt:List (Nat×K)} (hT:∀t k,lk kt t=some k→TyOk P t k) {w:World} {A:Nat→Prop} (d:Nat):∀(fs:List Field) (k:K) (off:Nat) (x y:k.den) (cs ds c0 d0:List Value),fsB kt fs k off=true→c0.length=off→d0.length=off→
  RepD w A k x cs→RepD w A k y ds→∀w',(Op.eqFields (d+1) (c0++cs).toArray (d0++ds).toArray fs).run P w'= .ok (eqD k x y) w'
 | [],k,off,x,y,cs,ds,c0,d0,h,_,_,_,_,w'=>by simp [fsB] at h
 | [f],k,off,x,y,cs,ds,c0,d0,h,hc0,hd0,hx,hy,w'=>by
  simp only [fsB,Bool.and_eq_true,Bool.not_eq_true',decide_eq_true_eq] at h
  obtain ⟨⟨⟨h1,h2⟩,h3⟩,h4⟩:=h
  have h2:=Nat.eq_of_beq_eq_true h2
  have hTy:=hT _ _ h3
  obtain ⟨u,v,rfl,rfl,he⟩:=lK hTy h4 hx hy d
  have hn:f.name≠ "_":=by simpa using h1
  simp only [Op.eqFields,if_pos hn,Sem.run_bind,h2]
  rw [jA hTy h4 (v:=u) (by rw [List.getElem?_append_right (by omega),hc0];simp)]
  simp only [Result.andThen_ok,Sem.run_bind]
  rw [jA hTy h4 (v:=v) (by rw [List.getElem?_append_right (by omega),hd0];simp)]
  simp only [Result.andThen_ok,Sem.run_bind,he]
  cases eqD k x y <;> simp
 | f::f'::fs,.pair a b,off,x,y,cs,ds,c0,d0,h,hc0,hd0,hx,hy,w'=>by
  simp only [fsB,Bool.and_eq_true,Bool.not_eq_true',decide_eq_true_eq] at h
  obtain ⟨⟨⟨⟨h1,h2⟩,h3⟩,h4⟩,h5⟩:=h
  have h2:=Nat.eq_of_beq_eq_true h2
  have hTy:=hT _ _ h3
  obtain ⟨cx,cy,rfl,hx1,hx2⟩:=hx
  obtain ⟨dx,dy,rfl,hy1,hy2⟩:=hy
  obtain ⟨u,v,rfl,rfl,he⟩:=lK hTy h4 hx1 hy1 d
  have hsz:a.size=1:=by cases a <;> first | rfl | cases h4
  have ih:=kN hT d (f'::fs) b (off+a.size) x.2 y.2 cy dy (c0++[u]) (d0++[v]) h5 (by simp [hc0,hsz]) (by simp [hd0,hsz]) hx2 hy2 w'
  have hn:f.name≠ "_":=by simpa using h1
  rw [Op.eqFields]
  simp only [if_pos hn,Sem.run_bind,h2]
  rw [jA hTy h4 (v:=u) (by rw [List.getElem?_append_right (by omega),hc0];simp)]
  simp only [Result.andThen_ok,Sem.run_bind]
  rw [jA hTy h4 (v:=v) (by rw [List.getElem?_append_right (by omega),hd0];simp)]
  simp only [Result.andThen_ok,Sem.run_bind,he]
  cases hab:eqD a x.1 y.1
  ·simp [eqD,hab]
  ·simp only [Bool.not_true,Bool.false_eq_true,if_false]
   rw [show (eqD (.pair a b) x y)=eqD b x.2 y.2 by simp [eqD,hab],←ih]
   simp
 | f::f'::fs,.int _,off,x,y,cs,ds,c0,d0,h,_,_,_,_,w'=>by simp [fsB] at h
 | f::f'::fs,.bool,off,x,y,cs,ds,c0,d0,h,_,_,_,_,w'=>by simp [fsB] at h
 | f::f'::fs,.str,off,x,y,cs,ds,c0,d0,h,_,_,_,_,w'=>by simp [fsB] at h
 | f::f'::fs,.flt _,off,x,y,cs,ds,c0,d0,h,_,_,_,_,w'=>by simp [fsB] at h
 | f::f'::fs,.err,off,x,y,cs,ds,c0,d0,h,_,_,_,_,w'=>by simp [fsB] at h
 | f::f'::fs,.sl _ _,off,x,y,cs,ds,c0,d0,h,_,_,_,_,w'=>by simp [fsB] at h
theorem tV {P:Program} {Γ:Ctx} (hT:TabOk P Γ) {t:TypeId} {k:K} (hk:lk Γ.kt t=some k) (he:cV t Γ.eqs=true) {w:World} {A:Nat→Prop} {x y:k.den} {cs ds:List Value} (hx:RepD w A k x cs) (hy:RepD w A k y ds):
  (Op.equal t (.agg cs.toArray) (.agg ds.toArray)).run P w= .ok (eqD k x y) w∧P.eqGuardType P.depth t=false:=by
 have h:=hT.eqs t he
 unfold uI at h
 rw [hk] at h
 split at h
 ·rename_i fs k' hu hk'
  cases hk'
  simp only [Bool.and_eq_true,Bool.not_eq_true'] at h
  obtain ⟨⟨h1,h2⟩,h3⟩:=h
  refine ⟨?_,h3⟩
  have hf:P.fieldsOf t=fs:=by simp [Program.fieldsOf,hu]
  have:=run_equalIn_struct (P:=P) w 9999 t cs.toArray ds.toArray (by rw [hf];exact hu) h2
  show (Op.equalIn (9999+1) t _ _).run P w=_
  rw [this,hf]
  simpa using kN hT.kt 9998 fs.toList k 0 x y cs ds [] [] h1 rfl rfl hx hy w
 ·cases h
theorem gS (P:Program) (w:World) (op:BinOp) (t:TypeId) (x y:Operand) (a b:Option Addr) (n m c d:Nat):(eqGuard op t x y (.slice a n c) (.slice b m d)).run P w= .ok () w:=by
 cases op <;> simp [eqGuard]
theorem wS {P:Program} {t e:TypeId} (hu:P.underlying t=some (.slice e)) (w:World) (b:Option Addr) (n m c d f:Nat):(Op.equalIn (f+1) t (.slice b n c) (.slice none m d)).run P w= .ok b.isNone w:=by
 cases b <;> simp [Op.equalIn,run_underlying hu]
theorem rV {P:Program} {t e:TypeId} (hu:P.underlying t=some (.slice e)) (w:World) (b:Option Addr) (n m c d:Nat):(Op.equal t (.slice b n c) (.slice none m d)).run P w= .ok b.isNone w:=wS hu w b n m c d 9999
theorem lT {P:Program} {t e:TypeId} (hu:P.underlying t=some (.slice e)) (w:World) (b:Option Addr) (n m c d:Nat):(binOp .eql t (.slice b n c) (.slice none m d)).run P w= .ok (.bool b.isNone) w:=by
 simp [binOp,rV hu]
theorem lP {P:Program} {t e:TypeId} (hu:P.underlying t=some (.slice e)) (w:World) (b:Option Addr) (n m c d:Nat):(binOp .neq t (.slice b n c) (.slice none m d)).run P w= .ok (.bool (!b.isNone)) w:=by
 simp [binOp,rV hu]
theorem wE (hT:TabOk E.P Γ) (h:Rel E w a s) {d:Option Tmp} (hd:bH E d) {op:BinOp} {t u:TypeId} {x y:Operand} {ty:TypeId} {pos:String} {af:Array Edge} {g:Option (Nat×Bool)}
  (hk:fW Γ op t (ev s x) (ev s y) (fun v=>κ (s.put d v))=some r):Oper.wp E.P ⟨d,.binOp op t x y u,ty,pos,af,g⟩ a w (Goes E κ r) Q:=by
 obtain ⟨pl,h⟩:=h
 have hx:=h.ev x _ rfl
 have hy:=h.ev y _ rfl
 unfold fW at hk
 split at hk
 ·rename_i k1 n1 k2 n2 e1 e2
  rw [e1] at hx
  rw [e2] at hy
  cases hsh:lV op with
  | true=>
   rw [hsh,cond_true] at hk
   obtain ⟨v,fv,hr,hf,hv⟩:=rD E.P w (t:=t) (k':=k2) hk
   refine Oper.wp_of_value (v:=v) (w':=w) ?_ (Goes.put h hd (hv _ _ _) hf)
   simp [execOp,hx.int_inv,hy.int_inv,nC,hr]
  | false=>
  rw [hsh,cond_false] at hk
  obtain ⟨rfl,hk⟩:=aI hk
  obtain ⟨v,fv,hr,hf,hv⟩:=wN E.P w (t:=t) hk
  refine Oper.wp_of_value (v:=v) (w':=w) ?_ (Goes.put h hd (hv _ _ _) hf)
  simp [execOp,hx.int_inv,hy.int_inv,nC,hr]
 ·rename_i k1 n1 k2 n2 e1 e2
  rw [e1] at hx
  rw [e2] at hy
  obtain ⟨rfl,hk⟩:=aI hk
  obtain ⟨v,fv,hr,hf,hv⟩:=xQ E.P w (t:=t) hk
  refine Oper.wp_of_value (v:=v) (w':=w) ?_ (Goes.put h hd (hv _ _ _) hf)
  simp [execOp,hx.flt_inv,hy.flt_inv,xW,hr]
 ·rename_i n1 n2 e1 e2
  rw [e1] at hx
  rw [e2] at hy
  obtain ⟨v,fv,hr,hf,hv⟩:=wW E.P w (t:=t) hk
  refine Oper.wp_of_value (v:=v) (w':=w) ?_ (Goes.put h hd (hv _ _ _) hf)
  simp [execOp,hx.str_inv,hy.str_inv,wH,hr]
 ·rename_i k1 k2 x1 k' y1 e1 e2
  rw [e1] at hx
  rw [e2] at hy
  have hh:=eK hk
  clear hk
  obtain ⟨hkk,hk⟩:=hh
  subst hkk
  obtain ⟨⟨ht,he⟩,hk⟩:=aI hk
  obtain ⟨cs,hcs,hvx⟩:=hx.dat_inv
  obtain ⟨ds,hds,hvy⟩:=hy.dat_inv
  simp only [K.isPair,if_true] at hvx hvy
  obtain ⟨heq,hg⟩:=tV hT ht he hcs hds
  split at hk
  ·refine Oper.wp_of_value (v:= .bool (eqD (.pair k1 k2) x1 y1)) (w':=w) ?_ (Goes.put h hd (.bool _) hk)
   simp [execOp,hvx,hvy,eqGuard,hg,binOp,heq]
  ·refine Oper.wp_of_value (v:= .bool (!eqD (.pair k1 k2) x1 y1)) (w':=w) ?_ (Goes.put h hd (.bool _) hk)
   simp [execOp,hvx,hvy,eqGuard,hg,binOp,heq]
  ·cases hk
 ·rename_i e1 e2
  rw [e1] at hx
  rw [e2] at hy
  obtain hx | ⟨l,_,hl⟩:=hx
  rotate_left
  ·exact hl.elim
  obtain hy | ⟨l,_,hl⟩:=hy
  rotate_left
  ·exact hl.elim
  have hx:a.eval x=Value.slice none 0 0:=hx
  have hy:a.eval y=Value.slice none 0 0:=hy
  split at hk
  ·rename_i ht
   refine Oper.wp_of_value (v:= .bool true) (w':=w) ?_ (Goes.put h hd (.bool _) hk)
   simp [execOp,hx,hy,gS,lT (hT.se _ _ ht)]
  ·rename_i ht
   refine Oper.wp_of_value (v:= .bool false) (w':=w) ?_ (Goes.put h hd (.bool _) hk)
   simp [execOp,hx,hy,gS,lP (hT.se _ _ ht)]
  ·cases hk
 ·rename_i o wn e1 e2
  rw [e1] at hx
  rw [e2] at hy
  obtain ⟨k1,e1',rw1,xs1,ho1,ad,cap,off,len,hw,hxe,hl,hc1,hc2,hnn⟩:=hx.sl_inv
  have hnn:=hnn rfl
  obtain hy | ⟨l,_,hl⟩:=hy
  rotate_left
  ·exact hl.elim
  have hy:a.eval y=Value.slice none 0 0:=hy
  cases ad with
  | none=>exact absurd rfl hnn
  | some ad=>
  split at hk
  ·rename_i ht
   refine Oper.wp_of_value (v:= .bool false) (w':=w) ?_ (Goes.put h hd (.bool _) hk)
   simp [execOp,hxe,hy,gS,lT (hT.se _ _ ht)]
  ·rename_i ht
   refine Oper.wp_of_value (v:= .bool true) (w':=w) ?_ (Goes.put h hd (.bool _) hk)
   simp [execOp,hxe,hy,gS,lP (hT.se _ _ ht)]
  ·cases hk
 ·rename_i n1 n2 e1 e2
  rw [e1] at hx
  rw [e2] at hy
  split at hk
  ·rename_i ht
   have hu:E.P.underlying t=some .bool:=(hT.kt t _ ht).und
   refine Oper.wp_of_value (v:= .bool (n1==n2)) (w':=w) ?_ (Goes.put h hd (.bool _) hk)
   simp only [execOp,hx.bool_inv,hy.bool_inv]
   simp [lA,qC hu]
  ·rename_i ht
   have hu:E.P.underlying t=some .bool:=(hT.kt t _ ht).und
   refine Oper.wp_of_value (v:= .bool (n1 !=n2)) (w':=w) ?_ (Goes.put h hd (.bool _) hk)
   simp only [execOp,hx.bool_inv,hy.bool_inv]
   simp [lA,qE hu]
  ·cases hk
 ·cases hk
theorem zL (h:Rel E w a s) {d:Option Tmp} (hd:bH E d) {op:UnOp} {t:TypeId} {x:Operand} {ty:TypeId} {pos:String} {af:Array Edge} {g:Option (Nat×Bool)}
  (hk:unK op (ev s x) (fun v=>κ (s.put d v))=some r):Oper.wp E.P ⟨d,.unOp op t x,ty,pos,af,g⟩ a w (Goes E κ r) Q:=by
 obtain ⟨pl,h⟩:=h
 have hx:=h.ev x _ rfl
 unfold unK at hk
 split at hk
 ·rename_i k n e
  rw [e] at hx
  refine Oper.wp_of_value (v:= .int k (k.wrap (0 - n))) (w':=w) ?_ (Goes.put h hd (.int _ _) hk)
  simp [execOp,hx.int_inv,Op.unary,Op.intArith]
 ·rename_i b e
  rw [e] at hx
  refine Oper.wp_of_value (v:= .bool (!b)) (w':=w) ?_ (Goes.put h hd (.bool _) hk)
  simp [execOp,hx.bool_inv,Op.unary]
 ·cases hk
theorem pV (hT:TabOk E.P Γ) (h:Rel E w a s) {d:Option Tmp} (hd:bH E d) {src dst:TypeId} {x:Operand} {ty:TypeId} {pos:String} {af:Array Edge} {g:Option (Nat×Bool)}
  (hk:hU Γ src dst (ev s x) (fun v=>κ (s.put d v))=some r):Oper.wp E.P ⟨d,.convert src dst x,ty,pos,af,g⟩ a w (Goes E κ r) Q:=by
 obtain ⟨pl,h⟩:=h
 have hx:=h.ev x _ rfl
 unfold hU at hk
 split at hk
 ·rename_i k0 k k1 n hs ht e
  rw [e] at hx
  have hu0:E.P.underlying src=some (.int k0):=(hT.kt src _ hs).und
  have hu:E.P.underlying dst=some (.int k):=(hT.kt dst _ ht).und
  refine Oper.wp_of_value (v:= .int k (k.wrap n)) (w':=w) ?_ (Goes.put h hd (.int _ _) hk)
  simp [execOp,hx.int_inv,convert,run_underlying hu0,run_underlying hu,Conv.intToInt]
 ·rename_i n hs ht e
  rw [e] at hx
  have hu0:E.P.underlying src=some .string:=(hT.kt src _ hs).und
  have hu:E.P.underlying dst=some .string:=(hT.kt dst _ ht).und
  refine Oper.wp_of_value (v:= .string n) (w':=w) ?_ (Goes.put h hd (.str _) hk)
  simp [execOp,hx.str_inv,convert,run_underlying hu0,run_underlying hu]
 ·rename_i k0 k k1 n hs ht e
  rw [e] at hx
  have hu0:E.P.underlying src=some (.int k0):=(hT.kt src _ hs).und
  have hu:E.P.underlying dst=some (.float k):=(hT.kt dst _ ht).und
  refine Oper.wp_of_value (v:= .float k (floatOfInt k n)) (w':=w) ?_ (Goes.put h hd (.flt _ _) hk)
  simp [execOp,hx.int_inv,run_convert_int_float w src dst k1 k n (by rw [hu0];rfl) hu]
 ·rename_i k0 k k1 b hs ht e
  rw [e] at hx
  have hu0:E.P.underlying src=some (.float k0):=(hT.kt src _ hs).und
  have hu:E.P.underlying dst=some (.int k):=(hT.kt dst _ ht).und
  obtain ⟨n,hn,hk⟩:=gJ hk
  refine Oper.wp_of_value (v:= .int k n) (w':=w) ?_ (Goes.put h hd (.int _ _) hk)
  simp [execOp,hx.flt_inv,run_convert_float_int w src dst k1 k b n (by rw [hu0];rfl) hu hn]
 ·rename_i k0 k1 n hs ht e
  rw [e] at hx
  have hu0:E.P.underlying src=some (.int k0):=(hT.kt src _ hs).und
  have hu:E.P.underlying dst=some .string:=(hT.kt dst _ ht).und
  refine Oper.wp_of_value (v:= .string (Utf8.encode n)) (w':=w) ?_ (Goes.put h hd (.str _) hk)
  simp [execOp,hx.int_inv,run_convert_int_string w src dst k1 n (by rw [hu0];rfl) hu]
 ·cases hk
theorem qM (h:Rel E w a s) {d:Option Tmp} (hd:bH E d) {b:Builtin} {x y:Operand} {ats:Array TypeId} {ty:TypeId} {pos:String} {af:Array Edge} {g:Option (Nat×Bool)}
  (hk:uB b (ev s x) (ev s y) (fun v=>κ (s.put d v))=some r):Oper.wp E.P ⟨d,.call {callee:= .builtin b,args:=#[x,y],argTypes:=ats},ty,pos,af,g⟩ a w (Goes E κ r) Q:=by
 obtain ⟨pl,h⟩:=h
 have hx:=h.ev x _ rfl
 have hy:=h.ev y _ rfl
 unfold uB at hk
 split at hk
 ·rename_i k1 n1 k2 n2 e1 e2
  rw [e1] at hx
  rw [e2] at hy
  obtain ⟨rfl,hk⟩:=aI hk
  refine Oper.wp_of_value (v:= .int k1 (WX n1 n2)) (w':=w) ?_ (Goes.put h hd (.int _ _) hk)
  simp [execOp,resolve,invoke,builtin,hx.int_inv,hy.int_inv,Builtin.max_,Builtin.max2,WX]
 ·rename_i k1 n1 k2 n2 e1 e2
  rw [e1] at hx
  rw [e2] at hy
  obtain ⟨rfl,hk⟩:=aI hk
  refine Oper.wp_of_value (v:= .int k1 (rG n1 n2)) (w':=w) ?_ (Goes.put h hd (.int _ _) hk)
  simp [execOp,resolve,invoke,builtin,hx.int_inv,hy.int_inv,Builtin.min_,Builtin.min2,rG]
 ·cases hk
end
end Go.Proofs.YtoafkjeamgelgaaDoorHF

namespace Go.Proofs.YtoafkjeamgelgaaDoorHF
open Go
set_option linter.unusedVariables false
set_option linter.unusedSimpArgs false
theorem eA {P:Program} {t:TypeId} {k:K} (hT:TyOk P t k) {w:World} {b o:Nat} {cs:List Value} (hr:w.rangeAt b o cs) (hl:cs.length=k.size) {v:Value} (hv:if k.isPair then v= .agg cs.toArray else cs=[v]):
  (loadVar t ⟨b,o,none⟩).run P w= .ok v w:=by
 unfold loadVar
 rw [Sem.run_bind,hT.isAgg]
 simp only [Result.andThen_ok]
 by_cases hp:k.isPair=true
 ·rw [if_pos hp] at hv ⊢
  have:=run_loadCells_list (P:=P) w ⟨b,o,none⟩ cs (fun j v hv=>by rw [Addr.add_mid];exact hr j v hv)
  rw [hl] at this
  simp [hT.sizeOf,this,hv]
 ·rw [if_neg hp] at hv ⊢
  subst hv
  have:=hr 0 v rfl
  simp at this
  simp [load,Sem.run,this]
theorem iA {P:Program} {t:TypeId} {k:K} (hT:TyOk P t k) {w:World} {b o:Nat} {cs:List Value} {v:Value} (hv:v.cells=cs.toArray) (hl:cs.length=k.size) (ht:w.there b o k.size) (h1:∀u∈cs,u.oneCell'=true):
  (storeVar t ⟨b,o,none⟩ v).run P w= .ok () (w.setCells b o cs):=by
 unfold storeVar
 have:=run_storeCells_cells (P:=P) b o cs 0 w (fun j hj=>by simpa using (ht j (by omega)).1) (fun j hj=>by simpa using (ht j (by omega)).2) h1
 simp only [Nat.add_zero] at this
 rw [Sem.run_bind,hT.sizeOf]
 simp [hv,hl,this]
theorem VRep.mkPtr {w:World} {A:Nat→Prop} {O:cE} {pl:Nat→Pl} {o:Nat} {i:Int} {off:Nat} {v:Value} {k:K} {e:TypeId} {rw_:Bool} {xs:List k.den} (ho:O o=some (.row k e rw_ xs)) (h0:0≤i) (h1:i < xs.length)
  (hv:v= .pointer (some ⟨(pl o).b,(pl o).off+i.toNat * k.size+off,none⟩)):VRep w A O pl (.ptr o i off) v:= .inl ⟨k,e,rw_,xs,ho,h0,h1,hv⟩
theorem pO {k:K} {xs:List k.den} {i:Int} (h0:0≤i) (h1:i < xs.length):xs[i.toNat]? =some (rdK k xs i):=by
 unfold rdK
 rw [List.getD_eq_getElem?_getD,List.getElem?_eq_getElem (by omega)]
 rfl
theorem cD {α:Type} {xs:List α} (h:xs≠[]):0 < xs.length:=List.length_pos_iff.2 h
theorem bP:∀(l:List Nat) (s:FState) (o:Nat),(aK l s).objs o=if o∈l then none else s.objs o
 | [],s,o=>by simp [aK]
 | p::l,s,o=>by
  rw [aK,bP l,bV]
  by_cases h1:o∈l
  ·simp [h1]
  ·by_cases h2:o=p <;> simp [h1,h2]
theorem aZ {x:Nat}:∀{l:List Nat},x∈l→cV x l=true
 | y::l,h=>by
  rcases List.mem_cons.1 h with rfl | h
  ·simp [cV,Nat.beq_refl]
  ·simp [cV,aZ h]
theorem dP {x:Nat}:∀{l:List Nat},cV x l=true→x∈l
 | y::l,h=>by
  simp only [cV,Bool.or_eq_true] at h
  rcases h with h | h
  ·rw [Nat.eq_of_beq_eq_true h];simp
  ·simp [dP h]
theorem RowAt.winC {w:World} {A:Nat→Prop} {k:K} {b off0:Nat} {xs:List k.den} (h:RowAt w A k b off0 xs) {wn:Option (Int×Int)} {off len:Nat} (hw:winOk xs wn off len):
  RowAt w A k b (off0+off * k.size) (win xs wn)∧(win xs wn).length=len:=by
 cases wn with
 | none=>obtain ⟨rfl,rfl⟩:=hw;simpa [win] using h
 | some fl=>
  obtain ⟨f,l⟩:=fl
  obtain ⟨g1,g2,g3,rfl,rfl⟩:=hw
  refine ⟨h.cut f (f+l),?_⟩
  simp only [win]
  rw [gX _ _ _ (by omega) (by omega)];omega
theorem winOk.bd0 {α:Type} {xs:List α} {wn:Option (Int×Int)} {off len:Nat} (h:winOk xs wn off len):off+len≤xs.length:=by
 cases wn with
 | none=>obtain ⟨rfl,rfl⟩:=h;omega
 | some fl=>obtain ⟨f,l⟩:=fl;obtain ⟨g1,g2,g3,rfl,rfl⟩:=h;omega
section
variable {E:Env} {pl:Nat→Pl} {Γ:Ctx} {w w':World} {a:Act} {s:FState} {β:Type} {r:β} {κ:FState→Option β} {Q:Exit→Act→World→Prop}
theorem RelP.killsL:∀(l:List Nat) {s:FState},RelP E pl w a s→RelP E pl w a (aK l s)
 | [],s,h=>h
 | o::l,s,h=>RelP.killsL l (h.kill o)
theorem Av.ofKill {l:List Nat} {s:FState}:∀b,Av E (aK l s).objs pl b→Av E s.objs pl b:=fun b hb=>hb.imp id fun ⟨o,obj,ho,h2,h3⟩=>by
 rw [bP] at ho
 split at ho
 ·cases ho
 ·exact ⟨o,obj,ho,h2,h3⟩
theorem RepD.mono' {A A':Nat→Prop} {k:K} {x:k.den} {cs:List Value} (hA:∀b,A' b→A b) (h:RepD w A k x cs):RepD w A' k x cs:=h.stay (fun b hb hn=>⟨fun h=>hn (hA b h),rfl⟩)
theorem pE (h:RelP E pl w a s) {fx:FV} {vx:Value} (hfx:VRep w (Av E s.objs pl) s.objs pl fx vx) {k:K} {f:k.den→Option β} (hk:dH s fx k f=some r) (ids:List Nat) (hids:∀o w nn,fx= .sl o w nn→fJ s o=false→o∈ids):
  ∃y cs,f y=some r∧RepD w (Av E (aK ids s).objs pl) k y cs∧(vx).cells=cs.toArray∧(if k.isPair then vx= .agg cs.toArray else cs=[vx]):=by
 have key:∀(k:K) (f:k.den→Option β),eG (fx) k f=some r→∃y cs,f y=some r∧RepD w (Av E (aK ids s).objs pl) k y cs∧(vx).cells=cs.toArray∧(if k.isPair then vx= .agg cs.toArray else cs=[vx]):=fun k f hq=>by
  obtain ⟨y,hy,hq'⟩:=bE hq
  clear hq hk
  subst hy
  obtain ⟨cs,hcs,hv⟩:=hfx.dat_inv
  refine ⟨y,cs,hq',hcs.mono' Av.ofKill,?_,hv⟩
  obtain ⟨cs',hcs',hv'⟩:=hfx.cells
  by_cases hp:k.isPair=true
  ·rw [if_pos hp] at hv;rw [hv];rfl
  ·rw [if_neg hp] at hv
   subst hv
   have:=hcs.one (vx) (by simp)
   cases hx:vx <;> first | rfl | (rw [hx] at this;simp [Value.oneCell'] at this)
 cases k with
 | sl e k'=>
  simp only [dH] at hk
  split at hk
  ·have hve:vx= .slice none 0 0:=by
    rcases hfx with hv | ⟨l,_,hl⟩
    ·exact hv
    ·exact hl.elim
   exact ⟨[],[vx],hk,⟨none,0,by rw [hve];rfl,Nat.le_refl _,.inl rfl⟩,by rw [hve];rfl,by simp [K.isPair]⟩
  ·rename_i o0 w0 nn0
   obtain ⟨o,wn,nn,k1,e1,rw_,xs,hx',ho,hk⟩:=aX hk
   cases hx'
   obtain ⟨he,hk⟩:=aI hk
   have hh:=aP hk
   clear hk
   obtain ⟨he',hk⟩:=hh
   subst he'
   obtain ⟨k2,e2,rw2,xs2,ho2,ad,cap,off,len,hw,hxe,hl,hc1,hc2,_⟩:=hfx.sl_inv
   rw [ho] at ho2
   cases ho2
   obtain ⟨_,hxl,hmem,hro,hrow⟩:=h.objs o0 _ ho
   obtain ⟨hrw,hwl⟩:=hrow.winC hw
   refine ⟨win xs w0,[vx],hk,⟨ad,cap,by rw [hxe,hwl],by rw [hwl];exact hl,?_⟩,by rw [hxe];rfl,by simp [K.isPair]⟩
   by_cases h0:len=0
   ·exact .inl (List.eq_nil_of_length_eq_zero (by omega))
   ·refine .inr ⟨(pl o0).b,(pl o0).off+off * k1.size,hc2 (.inl (by omega)),fun hA=>?_,fun i z hz=>?_⟩
    ·have hxs:xs≠[]:=fun e=>by
      have:=hw.bd0
      rw [e] at this
      simp at this
      omega
     cases rw_ with
     | false=>exact hro rfl hxs (Av.ofKill _ hA)
     | true=>
      have hoc:occ (pl o0) (.row k1 e1 true xs):=⟨rfl,by have:=cD hxs;omega⟩
      rcases hA with hz | ⟨o',obj',ho',hc',hb'⟩
      ·exact (h.fresh _ ⟨o0,_,ho,hoc,rfl⟩).2.2 hz
      ·rw [bP] at ho'
       split at ho'
       ·cases ho'
       ·rename_i hni
        have hne:o'≠o0:=fun e=>hni (e ▸ hids o0 w0 nn0 rfl (by simp [fJ,ho]))
        exact h.sep o' o0 obj' _ hne ho' ho hc' hoc hb'
    ·obtain ⟨ds,h1,h2⟩:=hrw i z hz
     exact ⟨ds,h1.mono' Av.ofKill,h2⟩
  ·exact key _ _ hk
 | int k=>exact key _ _ hk
 | bool=>exact key _ _ hk
 | str=>exact key _ _ hk
 | flt k=>exact key _ _ hk
 | err=>exact key _ _ hk
 | pair k1 k2=>exact key _ _ hk
theorem eW (h:RelP E pl w a s) {x:Operand} {k:K} {f:k.den→Option β} (hk:dH s (ev s x) k f=some r) (ids:List Nat) (hids:∀o w nn,ev s x= .sl o w nn→fJ s o=false→o∈ids):
  ∃y cs,f y=some r∧RepD w (Av E (aK ids s).objs pl) k y cs∧(a.eval x).cells=cs.toArray∧(if k.isPair then a.eval x= .agg cs.toArray else cs=[a.eval x]):=pE h (h.ev x _ rfl) hk ids hids
theorem Goes.putD (hT:TabOk E.P Γ) (h:RelP E pl w a s) {d:Option Tmp} (hd:bH E d) {k:K} {y:k.den} {cs:List Value} {v:Value} (hc:RepD w (Av E s.objs pl) k y cs) (hv:if k.isPair then v= .agg cs.toArray else cs=[v])
  (hk:Go.Proofs.YtoafkjeamgelgaaDoorHF.putD Γ d s k y κ=some r):Goes E κ r (a.put d v) w:=by
 cases k with
 | sl e k'=>
  unfold Go.Proofs.YtoafkjeamgelgaaDoorHF.putD at hk
  obtain ⟨hke,hk⟩:=aI hk
  obtain ⟨d',rfl,hn,hk⟩:=aR hk
  have hTy:=hT.kt e k' hke
  obtain ⟨ad,cap,hcs,hle,hrow⟩:=hc
  have hve:v= .slice ad y.length cap:=by
   simp only [K.isPair,Bool.false_eq_true,if_false] at hv
   rw [hcs] at hv
   simpa using hv.symm
  by_cases hy0:y=[]
  ·have hnew:=h.new (Ext.refl w) hn (.row k' e false y) ⟨0,0,y.length⟩ (fun hh=>by cases hh.1) (fun A' hA'=>⟨hTy,Nat.le_refl _,fun hh=>(by cases hh),fun _ hne=>absurd hy0 hne,by rw [hy0];exact RowAt.nil _ _ _ _ _⟩)
   refine ⟨_,⟨_,hnew.put (d:=some d') hd (f:= .sl d' none false) (v:=v) (.inl ⟨k',e,false,y,aB _ _ _,ad,cap,0,y.length,⟨rfl,rfl⟩,hve,hle,fun hh=>(by cases hh),fun hh=>?_,fun hh=>by cases hh⟩)⟩,hk⟩
   rcases hh with hh | ⟨hh,_⟩
   ·rw [hy0] at hh;simp at hh
   ·cases hh
  ·obtain ⟨b,off,hab,hb,hr⟩:=hrow.resolve_left hy0
   have hnew:=h.new (Ext.refl w) hn (.row k' e false y) ⟨b,off,y.length⟩ (fun hh=>by cases hh.1) (fun A' hA'=>⟨hTy,Nat.le_refl _,fun hh=>(by cases hh),fun _ hne hAA=>((hA' _ hAA).elim hb (fun h3=>by cases h3.1.1)),fun i z hz=>by
    obtain ⟨ds,h1,h2⟩:=hr i z hz
    exact ⟨ds,h1.mono' (fun b' hb'=>(hA' b' hb').elim id (fun h3=>by cases h3.1.1)),h2⟩⟩)
   exact ⟨_,⟨_,hnew.put (d:=some d') hd (f:= .sl d' none false) (v:=v) (.inl ⟨k',e,false,y,aB _ _ _,ad,cap,0,y.length,⟨rfl,rfl⟩,hve,hle,fun hh=>(by cases hh),fun _=>by rw [aC,hab];simp,fun hh=>by cases hh⟩)⟩,hk⟩
 | int k=>exact Goes.put h hd (.ofCells hc hv) hk
 | bool=>exact Goes.put h hd (.ofCells hc hv) hk
 | str=>exact Goes.put h hd (.ofCells hc hv) hk
 | flt k=>exact Goes.put h hd (.ofCells hc hv) hk
 | err=>exact Goes.put h hd (.ofCells hc hv) hk
 | pair k1 k2=>exact Goes.put h hd (.ofCells hc hv) hk
end
theorem gL {s:FState} {o:Nat} {wn:Option (Int×Int)} {nn:Bool} (hr:fJ s o=false):∀{vs:List FV},FV.sl o wn nn∈vs→o∈frz s vs
 | v::vs,h=>by
  rcases List.mem_cons.1 h with rfl | h
  ·simp [frz,hr]
  ·have ih:=gL (s:=s) hr h
   cases v with
   | sl o' w' nn'=>simp only [frz];cases fJ s o' <;> simp [ih]
   | _=>simpa [frz] using ih
section
variable {E:Env} {Γ:Ctx} {w w':World} {a:Act} {s:FState} {β:Type} {r:β} {κ:FState→Option β} {Q:Exit→Act→World→Prop}
theorem AZ (hT:TabOk E.P Γ) (h:Rel E w a s) {d:Option Tmp} (hd:bH E d) {t:TypeId} {x:Operand} {ty:TypeId} {pos:String} {af:Array Edge} {g:Option (Nat×Bool)}
  {p:Nat} {i:Int} {off:Nat} (hx:ev s x= .ptr p i off) {k:K} {e:TypeId} {rw_:Bool} {xs:List k.den} (ho:s.objs p=some (.row k e rw_ xs)) {k':K} (hk':lk Γ.kt t=some k') {y:k'.den} (hy:wK k off k' (rdK k xs i)=some y)
  (hk:putD Γ d s k' y κ=some r):Oper.wp E.P ⟨d,.load t x,ty,pos,af,g⟩ a w (Goes E κ r) Q:=by
 obtain ⟨pl,h⟩:=h
 obtain ⟨k1,e1,rw1,xs1,ho1,hi0,hi1,hv⟩:=(h.ev x _ hx).ptr_inv
 rw [ho] at ho1
 cases ho1
 obtain ⟨h0,h1,h2,h3,h4⟩:=h.objs p _ ho
 obtain ⟨ds,hds,hcell⟩:=h4 _ _ (pO hi0 hi1)
 obtain ⟨hrep,hle⟩:=kP k off k' _ y hy hds
 have hlen:=hrep.len
 have hrange:w.rangeAt (pl p).b ((pl p).off+i.toNat * k.size+off) ((ds.drop off).take k'.size):=fun j v hv=>by
  have hj:j < k'.size:=by
   have:=(List.getElem?_eq_some_iff.1 hv).1
   omega
  rw [List.getElem?_take,if_pos hj,List.getElem?_drop] at hv
  rw [←hv,←hcell (off+j) (by omega)]
  congr 2
  omega
 obtain ⟨v,hvv⟩:∃v,if k'.isPair then v=Value.agg ((ds.drop off).take k'.size).toArray else (ds.drop off).take k'.size=[v]:=by
  by_cases hp:k'.isPair=true
  ·exact ⟨_,by rw [if_pos hp]⟩
  ·have h1:k'.size=1:=by cases k' <;> first | rfl | simp [K.isPair] at hp
   rw [h1] at hlen
   obtain ⟨v,hv⟩:=List.length_eq_one_iff.1 hlen
   exact ⟨v,by rw [if_neg hp,h1];exact hv⟩
 refine Oper.wp_of_value (v:=v) (w':=w) ?_ (Goes.putD hT h hd hrep hvv hk)
 simp [execOp,hv,Instr.loadAt,Instr.sureAddr,eA (hT.kt t _ hk') hrange hlen hvv]
theorem pW (ds cs:List Value) (off j:Nat) (h:off+cs.length≤ds.length):(eN ds off cs)[j]? =if off≤j∧j < off+cs.length then cs[j - off]? else ds[j]? :=by
 unfold eN
 by_cases h1:j < off
 ·rw [if_neg (by omega),List.append_assoc,List.getElem?_append_left (by rw [List.length_take];omega),List.getElem?_take,if_pos h1]
 ·by_cases h2:j < off+cs.length
  ·rw [if_pos ⟨by omega,h2⟩,List.getElem?_append_left (by rw [List.length_append,List.length_take];omega),List.getElem?_append_right (by rw [List.length_take];omega),List.length_take]
   congr 1;omega
  ·rw [if_neg (by omega),List.getElem?_append_right (by rw [List.length_append,List.length_take];omega),List.length_append,List.length_take,List.getElem?_drop]
   congr 1;omega
theorem RowAt.set {w w':World} {A A':Nat→Prop} {k:K} {b off:Nat} {xs:List k.den} (h:RowAt w A k b off xs) (hs:Stay w A w' A') {n q:Nat} {z:k.den} {ds cs:List Value} (hn:n < xs.length)
  (hds:RepD w A k z (eN ds q cs)) (hlen:ds.length=k.size) (hq:q+cs.length≤k.size) (hcell:∀j,j < k.size→w.cell? ⟨b,off+n * k.size+j,none⟩=ds[j]?)
  (hw:w'=w.setCells b (off+n * k.size+q) cs):RowAt w' A' k b off (xs.set n z):=by
 intro i x hi
 have hth:∀j,j < cs.length→(w.cell? ⟨b,off+n * k.size+q+j,none⟩).isSome=true:=fun j hj=>by
  rw [show off+n * k.size+q+j=off+n * k.size+(q+j) by omega,hcell (q+j) (by omega)]
  simp;omega
 rw [List.getElem?_set] at hi
 split at hi
 ·rename_i e
  subst e
  cases hi
  refine ⟨eN ds q cs,hds.stay hs,fun j hj=>?_⟩
  rw [pW ds cs q j (by omega),hw]
  by_cases hin:q≤j∧j < q+cs.length
  ·rw [if_pos hin]
   have:=World.cell?_setCells_in b cs (off+n * k.size+q) w hth (j - q) (by omega)
   rw [show off+n * k.size+q+(j - q)=off+n * k.size+j by omega] at this
   rw [this,List.getElem?_eq_getElem]
  ·rw [if_neg hin,World.cell?_setCells_out b cs _ w ⟨b,_,none⟩ (fun _ _=>by show off+n * k.size+j < _∨_≤off+n * k.size+j;omega)]
   exact hcell j hj
 ·rename_i hne
  obtain ⟨es,he,hc⟩:=h i x hi
  refine ⟨es,he.stay hs,fun j hj=>?_⟩
  rw [hw,World.cell?_setCells_out b cs _ w ⟨b,_,none⟩ (fun _ _=>by
   show off+i * k.size+j < _∨_≤off+i * k.size+j
   rcases Nat.lt_or_gt_of_ne hne with hlt | hlt
   ·right
    have:=Nat.mul_le_mul_right k.size (show n+1≤i from hlt)
    rw [Nat.add_mul] at this
    omega
   ·left
    have:=Nat.mul_le_mul_right k.size (show i+1≤n from hlt)
    rw [Nat.add_mul] at this
    omega)]
  exact hc j hj
theorem xO (hT:TabOk E.P Γ) (h:Rel E w a s) {d:Option Tmp} (hd:d=none) {t:TypeId} {x y:Operand} {ty:TypeId} {pos:String} {af:Array Edge} {g:Option (Nat×Bool)}
  {p:Nat} {i:Int} {off:Nat} (hx:ev s x= .ptr p i off) {k:K} {e:TypeId} {xs:List k.den} (ho:s.objs p=some (.row k e true xs)) {k':K} (hk':lk Γ.kt t=some k') (hk:dH s (ev s y) k' (fun u=>aO (AQ k off k' u (rdK k xs i)) fun z=>bif cV p (frz s [ev s y]) then none else κ ((aK (frz s [ev s y]) s).setO p (some (.row k e true (xs.set i.toNat z)))))=some r):Oper.wp E.P ⟨d,.store t x y,ty,pos,af,g⟩ a w (Goes E κ r) Q:=by
 subst hd
 obtain ⟨pl,h⟩:=h
 obtain ⟨k1,e1,rw1,xs1,ho1,hi0,hi1,hv⟩:=(h.ev x _ hx).ptr_inv
 rw [ho] at ho1
 cases ho1
 obtain ⟨u,cs,hk1,hcs,hvc,_⟩:=eW h hk (frz s [ev s y]) (fun o w nn hx hr=>gL (wn:=w) (nn:=nn) hr (by rw [hx];exact List.mem_singleton.2 rfl))
 clear hk
 obtain ⟨z,hz,hk2⟩:=aA hk1
 clear hk1
 have hpn:cV p (frz s [ev s y])=false∧κ ((aK (frz s [ev s y]) s).setO p (some (.row k e true (xs.set i.toNat z))))=some r:=by
  cases hm:cV p (frz s [ev s y]) with
  | true=>rw [hm] at hk2;cases hk2
  | false=>rw [hm] at hk2;exact ⟨rfl,hk2⟩
 obtain ⟨hpn,hk⟩:=hpn
 have h:=h.killsL (frz s [ev s y])
 have ho:(aK (frz s [ev s y]) s).objs p=some (.row k e true xs):=by
  rw [bP,if_neg (fun hm=>by rw [aZ hm] at hpn;cases hpn)];exact ho
 obtain ⟨h0,h1,h2,h3,h4⟩:=h.objs p _ ho
 obtain ⟨ds,hds,hcell⟩:=h4 _ _ (pO hi0 hi1)
 obtain ⟨hrep,hle⟩:=lQ k off k' u _ z hz hds hcs
 have hlen:=hcs.len
 have hpos:0 < (pl p).cap:=by omega
 have hth:w.there (pl p).b ((pl p).off+i.toNat * k.size+off) k'.size:=by
  obtain ⟨row,tt,hrow,hsz⟩:=h2 rfl hpos
  refine bY hrow ?_
  have:=Nat.mul_le_mul_right k.size (show i.toNat+1≤(pl p).cap by omega)
  rw [Nat.add_mul] at this
  omega
 refine Oper.wp_of_skip (w':=w.setCells (pl p).b ((pl p).off+i.toNat * k.size+off) cs) ?_ ⟨_,⟨pl,?_⟩,hk⟩
 ·simp [execOp,hv,Instr.storeAt,Instr.sureAddr,iA (hT.kt t _ hk') hvc hlen hth hcs.one]
 ·refine h.write ho ⟨_,rfl,by simp⟩ ⟨rfl,hpos⟩ (Wr.setCells _ _ _ _) (fun A' hA' hst=>⟨h0,by simpa using h1,fun _ hc=>?_,fun h=>(by cases h),?_⟩)
  ·obtain ⟨row,tt,hrow,hsz⟩:=h2 rfl hc
   obtain ⟨row',hrow',hsz'⟩:=hrow.setCells ((pl p).off+i.toNat * k.size+off) cs
   exact ⟨row',tt,hrow',by rw [hsz'];exact hsz⟩
  ·exact h4.set hst (by omega) hrep hds.len (by omega) hcell rfl
theorem nS (hT:TabOk E.P Γ) (h:Rel E w a s) {d:Option Tmp} (hd:bH E d) {t:TypeId} {x:Operand} {j:Nat} {ty:TypeId} {pos:String} {af:Array Edge} {g:Option (Nat×Bool)}
  {p:Nat} {i:Int} {off:Nat} (hx:ev s x= .ptr p i off) {q:Nat} {ft:TypeId} (hf:cZ Γ t j=some (q,ft)) {k':K} (hk':lk Γ.kt ft=some k')
  (hk:κ (s.put d (.ptr p i (off+q)))=some r):Oper.wp E.P ⟨d,.fieldAddr t x j,ty,pos,af,g⟩ a w (Goes E κ r) Q:=by
 obtain ⟨pl,h⟩:=h
 obtain ⟨k,e,rw1,xs,ho,hi0,hi1,hv⟩:=(h.ev x _ hx).ptr_inv
 obtain ⟨fs,f,hu,hfs,rfl,rfl⟩:=hT.fo t j q ft hf
 refine Oper.wp_of_value (v:= .pointer (some ⟨(pl p).b,(pl p).off+i.toNat * k.size+off+f.offset,none⟩)) (w':=w) ?_ (Goes.put h hd (.mkPtr ho hi0 hi1 (by rw [Nat.add_assoc])) hk)
 have hsz:=(hT.kt _ _ hk').sizeOf (w:=w)
 have hne:k'.size≠0:=Nat.pos_iff_ne_zero.1 k'.size_pos
 simp [execOp,hv,Instr.fieldAt,run_underlying hu,hfs,Instr.sureAddr,fieldPlace,hsz,hne,Addr.add_mid]
theorem xI (hT:TabOk E.P Γ) (h:Rel E w a s) {d:Option Tmp} (hd:bH E d) {t:TypeId} {x:Operand} {j:Nat} {ty:TypeId} {pos:String} {af:Array Edge} {g:Option (Nat×Bool)}
  {k1 k2:K} {y:(K.pair k1 k2).den} (hx:ev s x= .dat (.pair k1 k2) y) {q:Nat} {ft:TypeId} (hf:cZ Γ t j=some (q,ft)) {k':K} (hk':lk Γ.kt ft=some k') {z:k'.den} (hz:wK (.pair k1 k2) q k' y=some z)
  (hk:putD Γ d s k' z κ=some r):Oper.wp E.P ⟨d,.field t x j,ty,pos,af,g⟩ a w (Goes E κ r) Q:=by
 obtain ⟨pl,h⟩:=h
 obtain ⟨cs,hcs,hv⟩:=(h.ev x _ hx).dat_inv
 simp only [K.isPair,if_true] at hv
 obtain ⟨hrep,hle⟩:=kP _ q k' y z hz hcs
 obtain ⟨fs,f,hu,hfs,rfl,rfl⟩:=hT.fo t j q ft hf
 have hlen:=hrep.len
 have hcl:=hcs.len
 obtain ⟨v,hvv⟩:∃v,if k'.isPair then v=Value.agg ((cs.drop f.offset).take k'.size).toArray else (cs.drop f.offset).take k'.size=[v]:=by
  by_cases hp:k'.isPair=true
  ·exact ⟨_,by rw [if_pos hp]⟩
  ·have h1:k'.size=1:=by cases k' <;> first | rfl | simp [K.isPair] at hp
   rw [h1] at hlen
   obtain ⟨v,hv⟩:=List.length_eq_one_iff.1 hlen
   exact ⟨v,by rw [if_neg hp,h1];exact hv⟩
 refine Oper.wp_of_value (v:=v) (w':=w) ?_ (Goes.putD hT h hd hrep hvv hk)
 have hpart:(part f.type cs.toArray f.offset).run E.P w= .ok v w:=by
  unfold part
  rw [Sem.run_bind,(hT.kt _ _ hk').isAgg]
  simp only [Result.andThen_ok]
  by_cases hp:k'.isPair=true
  ·rw [if_pos hp] at hvv ⊢
   rw [Sem.run_bind,(hT.kt _ _ hk').sizeOf]
   simp [hvv,List.drop_take]
  ·rw [if_neg hp] at hvv ⊢
   have h1:k'.size=1:=by cases k' <;> first | rfl | simp [K.isPair] at hp
   rw [h1] at hvv
   have:cs[f.offset]? =some v:=by
    have h2:((cs.drop f.offset).take 1)[0]? =some v:=by rw [hvv];rfl
    rw [List.getElem?_take,if_pos (by omega),List.getElem?_drop] at h2
    simpa using h2
   simp [this]
 simp [execOp,hv,Instr.field,run_underlying hu,hfs,Go.asAgg,hpart]
theorem nM (hT:TabOk E.P Γ) (h:Rel E w a s) {d:Option Tmp} (hd:bH E d) {t:TypeId} {x ix:Operand} {ty:TypeId} {pos:String} {af:Array Edge} {g:Option (Nat×Bool)}
  {o:Nat} {wn:Option (Int×Int)} {nn:Bool} (hx:ev s x= .sl o wn nn) {k:K} {e:TypeId} {rw_:Bool} {xs:List k.den} (ho:s.objs o=some (.row k e rw_ xs)) (ht:lk Γ.se t=some e) {ik:IntKind} {i:Int} (hi:ev s ix= .dat (.int ik) i)
  (hi0:0≤i) (hi1:i < bK xs wn) (hk:κ (s.put d (.ptr o (bB wn i) 0))=some r):Oper.wp E.P ⟨d,.indexAddr t x ix,ty,pos,af,g⟩ a w (Goes E κ r) Q:=by
 obtain ⟨pl,h⟩:=h
 obtain ⟨k1,e1,rw1,xs1,ho1,ad,cap,off,len,hw,hv,hl,hc1,hc2,_⟩:=(h.ev x _ hx).sl_inv
 rw [ho] at ho1
 cases ho1
 obtain ⟨h0,h1,h2,h3,h4⟩:=h.objs o _ ho
 have hin:i < len∧(bB wn i).toNat=off+i.toNat∧0≤bB wn i∧bB wn i < xs.length:=by
  cases wn with
  | none=>
   obtain ⟨rfl,rfl⟩:=hw
   simp only [bK] at hi1
   simp only [bB];omega
  | some fl=>
   obtain ⟨f,l⟩:=fl
   obtain ⟨g1,g2,g3,rfl,rfl⟩:=hw
   simp only [bK] at hi1
   simp only [bB];omega
 obtain ⟨hin1,hin2,hin3,hin4⟩:=hin
 have had:=hc2 (.inl (by omega))
 subst had
 have hie:=(h.ev ix _ hi).int_inv
 refine Oper.wp_of_value (v:= .pointer (some ⟨(pl o).b,(pl o).off+(bB wn i).toNat * k.size+0,none⟩)) (w':=w) ?_ (Goes.put h hd (.mkPtr ho hin3 hin4 rfl) hk)
 simp [execOp,hv,hie,Instr.indexAt,asIntOf,run_underlying (hT.se t e ht),h0.sizeOf,hi0,hin1,Addr.add_mid,hin2,Nat.add_mul,Nat.add_assoc]
theorem wT (hT:TabOk E.P Γ) (h:Rel E w a s) {d:Option Tmp} (hd:bH E d) {t:TypeId} {x ix:Operand} {ty:TypeId} {pos:String} {af:Array Edge} {g:Option (Nat×Bool)}
  {z:BA} (hx:ev s x= .dat .str z) (ht:lk Γ.kt t=some .str) {ik:IntKind} {i:Int} (hi:ev s ix= .dat (.int ik) i) (hi0:0≤i) (hi1:i < z.size)
  (hk:κ (s.put d (.dat (.int .u8) (byteAt z i)))=some r):Oper.wp E.P ⟨d,.index t x ix,ty,pos,af,g⟩ a w (Goes E κ r) Q:=by
 obtain ⟨pl,h⟩:=h
 have hxe:=(h.ev x _ hx).str_inv
 have hie:=(h.ev ix _ hi).int_inv
 have hu:E.P.underlying t=some .string:=(hT.kt t _ ht).und
 refine Oper.wp_of_value (v:= .int .u8 (byteAt z i)) (w':=w) ?_ (Goes.put h hd (.int _ _) hk)
 have hlt:i.toNat < z.size:=by omega
 have hb:z[i.toNat]? =some (z.get! i.toNat):=by
  rw [getElem?_pos z i.toNat hlt]
  congr 1
  show z.data[i.toNat]=z.data[i.toNat]!
  rw [getElem!_pos z.data i.toNat hlt]
 simp [execOp,hxe,hie,Instr.index,asIntOf,run_underlying hu,hi0,hb,byteAt]
theorem qO (h:Rel E w a s) {d:Option Tmp} (hd:bH E d) {x:Operand} {ty:TypeId} {pos:String} {af:Array Edge} {g:Option (Nat×Bool)}
  {p:Nat} {i:Int} {off:Nat} (hx:ev s x= .ptr p i off) (hk:κ (s.put d (.ptr p i off))=some r):Oper.wp E.P ⟨d,.nilCheck x,ty,pos,af,g⟩ a w (Goes E κ r) Q:=by
 obtain ⟨pl,h⟩:=h
 have hv:=h.ev x _ hx
 obtain ⟨k,e,rw1,xs,ho,hi0,hi1,hp⟩:=hv.ptr_inv
 refine Oper.wp_of_value (v:=a.eval x) (w':=w) ?_ (Goes.put h hd hv hk)
 simp [execOp,hp]
theorem tS (hT:TabOk E.P Γ) (h:Rel E w a s) {d:Option Tmp} (hd:bH E d) {t:TypeId} {x:Operand} {ty:TypeId} {pos:String} {af:Array Edge} {g:Option (Nat×Bool)}
  {z:BA} (hx:ev s x= .dat .str z) (ht:lk Γ.kt t=some .str) (hk:κ (s.put d (.dat (.int .i64) (z.size:Int)))=some r):
  Oper.wp E.P ⟨d,.call {callee:= .builtin .len,args:=#[x],argTypes:=#[t]},ty,pos,af,g⟩ a w (Goes E κ r) Q:=by
 obtain ⟨pl,h⟩:=h
 have hxe:=(h.ev x _ hx).str_inv
 have hu:E.P.underlying t=some .string:=(hT.kt t _ ht).und
 refine Oper.wp_of_value (v:= .int .i64 (z.size:Int)) (w':=w) ?_ (Goes.put h hd (.int _ _) hk)
 simp [execOp,resolve,invoke,builtin,hxe,Builtin.len_,run_underlying hu,goInt]
theorem nD (hT:TabOk E.P Γ) (h:Rel E w a s) {d:Option Tmp} (hd:bH E d) {t e:TypeId} {x:Operand} {ty:TypeId} {pos:String} {af:Array Edge} {g:Option (Nat×Bool)}
  (ht:lk Γ.se t=some e) {n:Nat} {ad:Option Addr} {c:Nat} (hx:a.eval x= .slice ad n c) (hk:κ (s.put d (.dat (.int .i64) (n:Int)))=some r):
  Oper.wp E.P ⟨d,.call {callee:= .builtin .len,args:=#[x],argTypes:=#[t]},ty,pos,af,g⟩ a w (Goes E κ r) Q:=by
 obtain ⟨pl,h⟩:=h
 refine Oper.wp_of_value (v:= .int .i64 (n:Int)) (w':=w) ?_ (Goes.put h hd (.int _ _) hk)
 simp [execOp,resolve,invoke,builtin,hx,Builtin.len_,run_underlying (hT.se t e ht),goInt]
theorem winOk.lenInt {α:Type} {xs:List α} {wn:Option (Int×Int)} {off len:Nat} (h:winOk xs wn off len):bK xs wn=(len:Int):=by
 cases wn with
 | none=>obtain ⟨_,rfl⟩:=h;rfl
 | some fl=>obtain ⟨f,l⟩:=fl;obtain ⟨_,h2,_,_,rfl⟩:=h;simp only [bK];omega
end
end Go.Proofs.YtoafkjeamgelgaaDoorHF

namespace Go.Proofs.YtoafkjeamgelgaaDoorHF
open Go
set_option linter.unusedVariables false
set_option linter.unusedSimpArgs false
theorem Stay.grow {w w':World} {A A':Nat→Prop} (hw:∀b,b < w.heap.size→w'.heap[b]? =w.heap[b]?) (hA:∀b,b < w.heap.size→A' b→A b):Stay w A w' A':=fun b hb h=>⟨fun h'=>h (hA b hb h'),hw b hb⟩
section
variable {E:Env} {pl:Nat→Pl} {Γ:Ctx} {w w':World} {a:Act} {s:FState} {β:Type} {r:β} {κ:FState→Option β} {Q:Exit→Act→World→Prop}
theorem RelP.newRow (h:RelP E pl w a s) (hx:Ext w w') {k:K} {e:TypeId} (hT:TyOk E.P e k) {d:Nat} (hd:s.objs d=none) (rw_:Bool) {xs:List k.den} {cs:List Value} (hc:RowC w (Av E s.objs pl) k xs cs)
  {row:Array Value} {t:TypeId} {fz:Nat×Nat} (hrow:w'.heap[w.heap.size]? =some (.cells row t fz)) (hcs:∀(j:Nat) v,cs[j]? =some v→row[j]? =some v) {cap:Nat} (hcap:xs.length≤cap) (hsz:cap * k.size≤row.size) (hfz:fz=(0,0)∨row.size≤fz.1:=by exact .inl rfl) (hmx:rw_=true→cap≤maxLen:=by first | (intro _;assumption) | (intro _;unfold maxLen;omega) | (intro h;cases h)):
  RelP E (upd pl d ⟨w.heap.size,0,cap⟩) w' a (s.setO d (some (.row k e rw_ xs))):=by
 have hlt:w.heap.size < w'.heap.size:=(Array.getElem?_eq_some_iff.1 hrow).1
 refine h.new hx hd _ _ (fun _=>⟨Nat.le_refl _,hlt⟩) (fun A' hA'=>⟨hT,hcap,fun hr _=>⟨row,t,⟨_,hrow,hfz⟩,by simpa using hsz,hmx hr⟩,fun hr hxs hA=>?_,?_⟩)
 ·rcases hA' _ hA with (hz | ⟨o,ob,ho,hoc,hb⟩) | ⟨⟨h1,_⟩,_⟩
  ·have h1:w.heap.size < w.heap.size:=h.zlt _ hz
   omega
  ·have h1:w.heap.size < w.heap.size:=(h.fresh _ ⟨o,ob,ho,hoc,hb⟩).1
   omega
  ·rw [hr] at h1;cases h1
 ·have hst:Stay w (Av E s.objs pl) w' A':=Stay.grow hx.block (fun b hb hA=>by
   rcases hA' b hA with h1 | ⟨_,h1⟩
   ·exact h1
   ·simp only at h1;omega)
  exact (hc.stay hst).toAt (fun j v hv=>by rw [Nat.zero_add,cell_of_row _ _ _ _ _ _ hrow];exact hcs j v hv)
theorem RelP.putSl (h:RelP E pl w a s) {d:Nat} (hd:E.ok d) {k:K} {e:TypeId} {rw_:Bool} {xs:List k.den} (ho:s.objs d=some (.row k e rw_ xs)) {ad:Option Addr} {len cap:Nat} (hlen:len=xs.length) (hle:len≤cap)
  (hrw:rw_=true→cap=(pl d).cap) (had:0 < len∨(rw_=true∧0 < cap)→ad=some ⟨(pl d).b,(pl d).off,none⟩) (nn:Bool) (hnn:nn=true→ad≠none):
  RelP E pl w (a.put (some d) (.slice ad len cap)) (s.set d (.sl d none nn)):=
 h.put (d:=some d) (fun x hx=>by cases hx;exact hd) (.inl ⟨k,e,rw_,xs,ho,ad,cap,0,len,⟨rfl,hlen⟩,rfl,hle,fun hr=>by rw [Nat.zero_add];exact hrw hr,fun hh=>by rw [had hh];simp,hnn⟩)
theorem kI (P:Program) (w:World) (t:TypeId) (v:Value):(newVar t v).run P w= .ok ⟨w.heap.size,0,none⟩ (w.alloc (.cells v.cells t)):=by
 simp [newVar,Go.newRow]
theorem eY (w:World) (o:Obj):(w.alloc o).heap[w.heap.size]? =some o:=by
 show (w.heap.push o)[w.heap.size]? =_
 simp
theorem RowC.single {w:World} {A:Nat→Prop} {k:K} {x:k.den} {cs:List Value} (h:RepD w A k x cs):RowC w A k [x] cs:=⟨cs,[],by simp,h,rfl⟩
theorem kQ (h:RelP E pl w a s) {d:Nat} (hd:E.ok d) {k:K} {t:TypeId} (hT:TyOk E.P t k) (hn:s.objs d=none) {x:k.den} {cs:List Value} (hc:RepD w (Av E s.objs pl) k x cs)
  (hk:κ ((s.setO d (some (.row k t true [x]))).set d (.ptr d 0 0))=some r):Goes E κ r (a.put (some d) (.pointer (some ⟨w.heap.size,0,none⟩))) (w.alloc (.cells cs.toArray t)):=by
 have h2:=h.newRow (w':=w.alloc (.cells cs.toArray t)) (Ext.alloc _ _) hT hn true (RowC.single hc) (eY _ _) (fun j v hv=>by simpa using hv) (cap:=1) (by simp) (by have:=hc.len;simp [this])
 exact Goes.put (d:=some d) h2 (fun x hx=>by cases hx;exact hd) (VRep.mkPtr (aB _ _ _) (by omega) (by simp) (by rw [aC];simp)) hk
theorem yC (hT:TabOk E.P Γ) (h:Rel E w a s) {d:Nat} (hd:E.ok d) {t:TypeId} {ty:TypeId} {pos:String} {af:Array Edge} {g:Option (Nat×Bool)} {k:K} (ht:lk Γ.kt t=some k) (hn:s.objs d=none)
  (hk:κ ((s.setO d (some (.row k t true [k.dflt]))).set d (.ptr d 0 0))=some r):Oper.wp E.P ⟨some d,.alloc t,ty,pos,af,g⟩ a w (Goes E κ r) Q:=by
 obtain ⟨pl,h⟩:=h
 have hTy:=hT.kt t k ht
 refine Oper.wp_of_value ?_ (kQ h hd hTy hn (RepD.zero w _ k) hk)
 simp [execOp,Instr.alloc,hTy.zero,kI,K.zval_cells]
theorem FY (hT:TabOk E.P Γ) (h:Rel E w a s) {d:Option Tmp} (hd:bH E d) {t:TypeId} {x:Operand} {ty:TypeId} {pos:String} {af:Array Edge} {g:Option (Nat×Bool)} {k:K} (ht:lk Γ.kt t=some k)
  (hk:dH s (ev s x) k (fun y=>Go.Proofs.YtoafkjeamgelgaaDoorHF.newRow d (aK (frz s [ev s x]) s) (.row k t true [y]) (fun d=> .ptr d 0 0) κ)=some r):Oper.wp E.P ⟨d,.box t x,ty,pos,af,g⟩ a w (Goes E κ r) Q:=by
 obtain ⟨pl,h⟩:=h
 obtain ⟨y,cs,hk1,hcs,hv,_⟩:=eW h hk (frz s [ev s x]) (fun o w nn hx hr=>gL (wn:=w) (nn:=nn) hr (by rw [hx];exact List.mem_singleton.2 rfl))
 obtain ⟨d',rfl,hn,hk2⟩:=aR hk1
 refine Oper.wp_of_value ?_ (kQ (h.killsL _) (hd _ rfl) (hT.kt t k ht) hn hcs hk2)
 simp [execOp,Instr.box,kI,hv]
theorem sY (off:Nat) (v:Array Value) (cs:Array Value) (h:off+v.size≤cs.size):(v.zipIdx.foldl (fun cs (x:Value×Nat)=>cs.setIfInBounds (off+x.2) x.1) cs).toList=eN cs.toList off v.toList:=by
 obtain ⟨h1,h2⟩:=Great.foldl_set off v.toList 0 cs
 have e:v.zipIdx.foldl (fun cs (x:Value×Nat)=>cs.setIfInBounds (off+x.2) x.1) cs=(v.toList.zipIdx 0).foldl (fun cs (x:Value×Nat)=>cs.setIfInBounds (off+x.2) x.1) cs:=by
  rw [←Array.foldl_toList,Array.toList_zipIdx]
 rw [e]
 refine List.ext_getElem? fun j=>?_
 rw [pW _ _ _ _ (by simpa using h)]
 have:=h2 j
 rw [Array.getElem?_toList,this]
 simp only [Nat.add_zero,Array.length_toList,Array.getElem?_toList]
 by_cases hin:off≤j∧j < off+v.size
 ·rw [if_pos ⟨hin.1,hin.2,by omega⟩,if_pos hin]
 ·rw [if_neg (by omega),if_neg hin]
theorem lR {t:TypeId} {k:K} {places:List (Nat×Nat)} (hpl:∀j q ft k',cZ Γ t j=some (q,ft)→lk Γ.kt ft=some k'→places[j]? =some (q,k'.size)) (h:RelP E pl w a s) (ids:List Nat):
  ∀(ps:List (Nat×Operand)) (x:k.den) (cells:Array Value) (κ':k.den→Option β),(∀q∈ps,∀o w nn,ev s q.2= .sl o w nn→fJ s o=false→o∈ids)→gN Γ s t k ps x κ'=some r→RepD w (Av E (aK ids s).objs pl) k x cells.toList→
   ∃z cells',Instr.fill (places.toArray[·]?) cells (ps.map fun p=>(p.1,a.eval p.2))=some cells'∧RepD w (Av E (aK ids s).objs pl) k z cells'.toList∧κ' z=some r
 | [],x,cells,κ',_,hk,hc=>⟨x,cells,rfl,hc,hk⟩
 | (j,v)::ps,x,cells,κ',hids,hk,hc=>by
  unfold gN at hk
  obtain ⟨⟨q,ft⟩,hf,hk⟩:=aA hk
  obtain ⟨k',hk',hk⟩:=aA hk
  obtain ⟨y,ds,hk0,hds,hv,_⟩:=eW h hk ids (fun o w nn hx hr=>hids (j,v) (by simp) o w nn hx hr)
  clear hk
  obtain ⟨z,hz,hk⟩:=aA hk0
  obtain ⟨hrep,hle⟩:=lQ k q k' y x z hz hc hds
  have hdl:=hds.len
  have hcl:=hc.len
  simp only [Array.length_toList] at hcl
  have hfold:=sY q (a.eval v).cells cells (by rw [hv];simp;omega)
  obtain ⟨z',cells',h1,h2,h3⟩:=lR hpl h ids ps z ((a.eval v).cells.zipIdx.foldl (fun cs (x:Value×Nat)=>cs.setIfInBounds (q+x.2) x.1) cells) κ' (fun q hq=>hids q (by simp [hq])) hk (by rw [hfold,hv];exact hrep)
  refine ⟨z',cells',?_,h2,h3⟩
  rw [List.map_cons]
  unfold Instr.fill
  have hpj:places.toArray[j]? =some (q,k'.size):=by simpa using hpl j q ft k' hf hk'
  simp only [hpj]
  rw [if_neg (by rw [hv];simp;omega)]
  exact h1
theorem sI (hT:TabOk E.P Γ) {t:TypeId} {l:List (Nat×Nat)} (hl:lk Γ.fo t=some l):∃fs places,E.P.underlying t=some (.struct fs)∧fs.toList.mapM (fun f=>(E.P.info? f.type).map fun i=>(f.offset,i.size))=some places∧
  ∀j q ft k',cZ Γ t j=some (q,ft)→lk Γ.kt ft=some k'→places[j]? =some (q,k'.size):=by
 have hfo:=hT.fos t l hl
 obtain ⟨fs,hu,he⟩:=hfo.und'
 obtain ⟨places,h1,h2⟩:=sH E.P fs.toList (by rw [he];exact hfo.infos)
 refine ⟨fs,places,hu,h1,fun j q ft k' hf hk'=>?_⟩
 obtain ⟨fs',f,hu',hj,rfl,rfl⟩:=hT.fo t j q ft hf
 rw [hu] at hu'
 cases hu'
 obtain ⟨i,hi,hs,_⟩:=(hT.kt _ _ hk').info'
 rw [←hs]
 exact h2 j f i (by simpa using hj) hi
theorem xR (hT:TabOk E.P Γ) (h:Rel E w a s) {d:Option Tmp} (hd:bH E d) {t:TypeId} {ps:Array (Nat×Operand)} {ty:TypeId} {pos:String} {af:Array Edge} {g:Option (Nat×Bool)} {k1 k2:K} (ht:lk Γ.kt t=some (.pair k1 k2))
  (hfo:(lk Γ.fo t).isSome=true) (hk:gN Γ s t (.pair k1 k2) ps.toList (K.pair k1 k2).dflt (fun x=>κ ((aK (frz s (ps.toList.map fun p=>ev s p.2)) s).put d (.dat (.pair k1 k2) x)))=some r):Oper.wp E.P ⟨d,.build t ps,ty,pos,af,g⟩ a w (Goes E κ r) Q:=by
 obtain ⟨pl,h⟩:=h
 have hTy:=hT.kt t _ ht
 obtain ⟨l,hl⟩:=Option.isSome_iff_exists.1 hfo
 obtain ⟨fs,places,hu,hm,hpl⟩:=sI hT hl
 obtain ⟨z,cells,h1,h2,h3⟩:=lR hpl h (frz s (ps.toList.map fun p=>ev s p.2)) ps.toList _ (K.pair k1 k2).zcells.toArray _ (fun q hq o w nn hx hr=>gL (wn:=w) (nn:=nn) hr (List.mem_map.2 ⟨q,hq,hx⟩)) hk (by simpa using RepD.zero w _ _)
 refine Oper.wp_of_value (v:= .agg cells) (w':=w) ?_ (Goes.put (h.killsL _) hd (.ofCells h2 (by simp [K.isPair])) h3)
 have hb:E.P.built t ((ps.map fun x=>(x.1,a.eval x.2)).toList)=some cells:=by
  obtain ⟨i,hi,_,hz,_⟩:=hTy.info'
  unfold Program.built
  simp only [hi,hu,hz,hm,K.zval_cells,Array.toList_map]
  exact h1
 have:=run_build (P:=E.P) w t _ cells hb
 simp [execOp,this]
theorem gM {k:K} (h:RelP E pl w a s) (ids:List Nat):∀(ps:List (Nat×Operand)) (n:Nat) (acc:List k.den) (cells:Array Value) (pre:List Value) (κ':List k.den→Option β),(∀q∈ps,∀o w nn,ev s q.2= .sl o w nn→fJ s o=false→o∈ids)→gZ s k n ps acc κ'=some r→
  RowC w (Av E (aK ids s).objs pl) k acc pre→acc.length=n→cells.size=(n+ps.length) * k.size→(∀j,j < pre.length→cells[j]? =pre[j]?)→
   ∃xs cells',Instr.fill (fun i=>some (i * k.size,k.size)) cells (ps.map fun p=>(p.1,a.eval p.2))=some cells'∧RowC w (Av E (aK ids s).objs pl) k xs cells'.toList∧xs.length=n+ps.length∧κ' xs=some r
 | [],n,acc,cells,pre,κ',_,hk,hc,hn,hs,hpre=>by
  have hl:=hc.len
  refine ⟨acc,cells,rfl,?_,by simp [hn],hk⟩
  have:cells.toList=pre:=by
   refine List.ext_getElem? fun j=>?_
   rw [Array.getElem?_toList]
   by_cases hj:j < pre.length
   ·exact hpre j hj
   ·rw [List.getElem?_eq_none (by omega),Array.getElem?_eq_none (by simp at hs;rw [hs,←hn];omega)]
  rw [this];exact hc
 | (j,v)::ps,n,acc,cells,pre,κ',hids,hk,hc,hn,hs,hpre=>by
  unfold gZ at hk
  cases hj:Nat.beq j n with
  | false=>rw [hj] at hk;cases hk
  | true=>
   rw [hj] at hk
   have:=Nat.eq_of_beq_eq_true hj
   subst this
   obtain ⟨y,ds,hk0,hds,hv,_⟩:=eW h hk ids (fun o w nn hx hr=>hids (j,v) (by simp) o w nn hx hr)
   clear hk
   have hk:=hk0
   have hdl:=hds.len
   have hpl:=hc.len
   rw [hn] at hpl
   have hs':cells.size=j * k.size+k.size+ps.length * k.size:=by
    rw [hs,List.length_cons,show j+(ps.length+1)=j+1+ps.length by omega,Nat.add_mul,Nat.add_mul];omega
   have hfit:j * k.size+(a.eval v).cells.size≤cells.size:=by rw [hv];simp;omega
   obtain ⟨g1,g2⟩:=Great.foldl_set (j * k.size) (a.eval v).cells.toList 0 cells
   have e:(a.eval v).cells.zipIdx.foldl (fun cs (x:Value×Nat)=>cs.setIfInBounds (j * k.size+x.2) x.1) cells=((a.eval v).cells.toList.zipIdx 0).foldl (fun cs (x:Value×Nat)=>cs.setIfInBounds (j * k.size+x.2) x.1) cells:=by
    rw [←Array.foldl_toList,Array.toList_zipIdx]
   obtain ⟨xs,cells',h1,h2,h3,h4⟩:=gM h ids ps (j+1) (acc++[y]) ((a.eval v).cells.zipIdx.foldl (fun cs (x:Value×Nat)=>cs.setIfInBounds (j * k.size+x.2) x.1) cells) (pre++ds) κ' (fun q hq=>hids q (by simp [hq])) hk
    (hc.app (RowC.single hds)) (by simp [hn]) (by rw [e,g1,hs];congr 1;simp;omega) (fun i hi=>by
     rw [e,g2 i]
     simp only [Nat.add_zero,Array.length_toList,hv,List.size_toArray,Array.getElem?_toList,List.getElem?_toArray]
     simp only [List.length_append] at hi
     by_cases hin:j * k.size≤i
     ·rw [if_pos ⟨hin,by omega,by omega⟩,List.getElem?_append_right (by omega),hpl]
     ·rw [if_neg (by omega),hpre i (by omega),List.getElem?_append_left (by omega)])
   refine ⟨xs,cells',?_,h2,by rw [h3];simp;omega,h4⟩
   rw [List.map_cons]
   unfold Instr.fill
   simp only
   rw [if_neg (by rw [hv];simp;omega)]
   exact h1
theorem lX (hT:TabOk E.P Γ) (h:Rel E w a s) {d:Nat} (hd:E.ok d) {t:TypeId} {ps:Array (Nat×Operand)} {ty:TypeId} {pos:String} {af:Array Edge} {g:Option (Nat×Bool)} {k:K} {e:TypeId} (he:lk Γ.se t=some e) (ht:lk Γ.kt e=some k)
  (hsmall:ps.size * k.size≤16777216) (hk:gZ s k 0 ps.toList [] (fun xs=>newRow (some d) (aK (frz s (ps.toList.map fun p=>ev s p.2)) s) (.row k e true xs) (fun d=> .sl d none true) κ)=some r):Oper.wp E.P ⟨some d,.buildSlice t ps.size ps,ty,pos,af,g⟩ a w (Goes E κ r) Q:=by
 obtain ⟨pl,h⟩:=h
 have hTy:=hT.kt e _ ht
 obtain ⟨i,hi,hsz,hz,_⟩:=hTy.info'
 obtain ⟨xs,cells,h1,h2,h3,h4⟩:=gM h (frz s (ps.toList.map fun p=>ev s p.2)) ps.toList 0 [] ((Array.range (ps.size * k.size)).map (k.zval.cells[· % k.zval.cells.size]!)) [] _ (fun q hq o w nn hx hr=>gL (wn:=w) (nn:=nn) hr (List.mem_map.2 ⟨q,hq,hx⟩)) hk rfl rfl (by simp) (fun j hj=>by simp at hj)
 obtain ⟨d',hd',hn,hk'⟩:=aR h4
 cases hd'
 simp only [Nat.zero_add,Array.length_toList] at h3
 have hcl:=h2.len
 simp only [Array.length_toList] at hcl
 have hnew:=(h.killsL (frz s (ps.toList.map fun p=>ev s p.2))).newRow (w':=w.alloc (.cells cells e)) (Ext.alloc _ _) hTy hn true h2 (eY _ _) (fun j v hv=>by simpa using hv) (cap:=xs.length) (Nat.le_refl _) (by rw [hcl];exact Nat.le_refl _) (.inl rfl) (fun _=>by
  have h5:=Nat.le_mul_of_pos_right ps.size k.size_pos
  unfold maxLen
  omega)
 have hput:=hnew.putSl hd (aB _ _ _) (ad:=some ⟨w.heap.size,0,none⟩) (len:=xs.length) (cap:=xs.length) rfl (Nat.le_refl _) (fun _=>by rw [aC]) (fun _=>by rw [aC]) true (fun _=>by simp)
 refine Oper.wp_of_value (v:= .slice (some ⟨w.heap.size,0,none⟩) xs.length xs.length) (w':=w.alloc (.cells cells e)) ?_ ⟨_,⟨_,hput⟩,hk'⟩
 by_cases hps:ps.size=0
 ·have hps':ps=#[]:=Array.eq_empty_of_size_eq_zero hps
  subst hps'
  simp at h1 h3
  simp [Instr.fill] at h1
  subst h1
  have hx:xs=[]:=List.eq_nil_of_length_eq_zero (by simpa using h3)
  subst hx
  have h0:∀f:Nat→Value,Array.map f (Array.range 0)=#[]:=fun f=>by simp
  simp [execOp,Instr.buildSlice,run_underlying (hT.se t e he),hTy.sizeOf,Instr.fill,Go.newRow,h0]
 ·have hpos:¬ps.size * i.size=0:=by
   rw [hsz]
   have:=k.size_pos
   intro h0
   rcases Nat.mul_eq_zero.1 h0 with h0 | h0
   ·exact hps h0
   ·omega
  have:=run_buildSlice (P:=E.P) w t e ps.size (ps.map fun x=>(x.1,a.eval x.2)) cells i k.zval (hT.se t e he) hi hz (by rw [hsz];omega) hpos (by rw [hsz,Array.toList_map];exact h1)
  rw [h3]
  simp [execOp,this]
end
end Go.Proofs.YtoafkjeamgelgaaDoorHF
