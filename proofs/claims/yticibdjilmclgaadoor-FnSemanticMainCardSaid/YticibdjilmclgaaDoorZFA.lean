/- FX: a plain machine beside the model's, and that the model comes to what it comes to. -/
import Derived.Calls
import Derived.Orders
import Derived.KernelRfl
import Derived.Laws.FloatArith
import Derived.Laws.Cover4
import Derived.Laws.BytesArg
import Derived.Laws.AppendOwn
import Derived.WalkKit
import Derived.Deep.MidRow
import Derived.ArgAppend
import Derived.Laws.Runes
import Derived.Laws.StructEq
import Derived.Great.BuildSlice
import Derived.Laws.Tables
import Derived.Deep.AppendSrc
import Derived.Deep.Upon
import Derived.Laws.IdiomStrings
import Derived.Shelf.Bytes.SlSmallAll
import Derived.Laws.MakeOwn
import Derived.Laws.RangeString
import Derived.Shelf.Unicode.DecodeSlow
namespace Go.Proofs.YticibdjilmclgaaDoorZF
open Go
inductive K where
 | int (k : IntKind) | bool | str | flt (k : FloatKind) | err
 | pair (a b : K)
 | sl (e : TypeId) (k : K)
 deriving DecidableEq
@[reducible] def K.den : K → Type
 | .int _ => Int
 | .bool => Bool
 | .str => ByteArray
 | .flt _ => Nat
 | .err => Bool
 | .pair a b => a.den × b.den
 | .sl _ k => List k.den
def K.dflt : (k : K) → k.den
 | .int _ => (0 : Int)
 | .bool => false
 | .str => (⟨#[]⟩ : ByteArray)
 | .flt _ => (0 : Nat)
 | .err => false
 | .pair a b => (a.dflt, b.dflt)
 | .sl _ _ => []
def K.size : K → Nat
 | .pair a b => a.size + b.size
 | _ => 1
def K.isPair : K → Bool
 | .pair _ _ => true
 | _ => false
inductive FV : Type where
 | dead
 | dat (k : K) (x : k.den)
 | nsl
 | sl (o : Nat) (w : Option (Int × Int)) (nn : Bool)
 | ptr (o : Nat) (i : Int) (off : Nat)
 | nilp
 | nilif
 | mp (o : Nat)
 | it (o : Nat)
 | tnil
 | tcons (a b : FV)
 | fn (f : FuncId)
 | glob (g : Nat)
inductive FObj : Type where
 | row (k : K) (e : TypeId) (rw : Bool) (xs : List k.den)
 | siter (s : ByteArray) (pos : Nat)
structure FState where
 tmps : Nat → FV
 objs : Nat → Option FObj
def rdK (k : K) (xs : List k.den) (i : Int) : k.den := xs.getD i.toNat k.dflt
def cut {α : Type} (xs : List α) (lo hi : Int) : List α := (xs.drop lo.toNat).take (hi.toNat - lo.toNat)
def idx {β : Type} (i n : Int) (κ : Option β) : Option β := if 0 ≤ i then if i < n then κ else none else none
def bnd {β : Type} (lo hi n : Int) (κ : Option β) : Option β := if 0 ≤ lo then if lo ≤ hi then if hi ≤ n then κ else none else none else none
def cR {β : Type} (n : Nat) (κ : Option β) : Option β := if n ≤ 1099511627776 then κ else none
def BC (s : ByteArray) (i : Int) : Int := ((s.get! i.toNat).toNat : Int)
def bD (s : ByteArray) (lo hi : Int) : ByteArray := s.extract lo.toNat hi.toNat
def gB (x y : ByteArray) : Bool := x.toList == y.toList
def dJ9 (k : IntKind) (a b : Int) : Int := k.wrap ((BitVec.ofInt k.bits a &&& BitVec.ofInt k.bits b).toNat)
def orI (k : IntKind) (a b : Int) : Int := k.wrap ((BitVec.ofInt k.bits a ||| BitVec.ofInt k.bits b).toNat)
def dO6 (k : IntKind) (a b : Int) : Int := k.wrap ((BitVec.ofInt k.bits a ^^^ BitVec.ofInt k.bits b).toNat)
def T1 (k : IntKind) (a b : Int) : Int := k.wrap ((BitVec.ofInt k.bits a &&& ~~~ BitVec.ofInt k.bits b).toNat)
def dF9 (k : IntKind) (a b : Int) : Int := k.wrap (a * 2 ^ (min b.toNat k.bits))
def dI7 (k : IntKind) (a b : Int) : Int := a.fdiv (2 ^ (min b.toNat k.bits))
def dF7 (a b : Int) : Int := if b > a then b else a
def FH (a b : Int) : Int := if b < a then b else a
def fEq (k : FloatKind) (a b : Nat) : Bool := k.format.order a b == some .eq
def fLt (k : FloatKind) (a b : Nat) : Bool := k.format.order a b == some .lt
def fGt (k : FloatKind) (a b : Nat) : Bool := k.format.order a b == some .gt
def H1 (neg : Bool) (win : Ordering) (x y : Nat) : Nat :=
 let a := FloatKind.f64.decode x
 let b := FloatKind.f64.decode y
 if a == .infinity neg || b == .infinity neg then FloatKind.f64.encode (.infinity neg)
 else if a.isNaN || b.isNaN then 0x7FF8000000000001
 else if a.isZero && b.isZero then (if a.neg == neg then x else y)
 else if a.order b == some win then x else y
def TF (x y : Nat) : Nat := H1 true .lt x y
def KA (x y : Nat) : Nat := H1 false .gt x y
def fE (s : ByteArray) : Nat → Nat → List Int
 | 0, _ => []
 | b + 1, i => if i < s.size then ((Utf8.decode s i).1 : Int) :: fE s b (i + (Utf8.decode s i).2) else []
def aS (s : ByteArray) : List Int := fE s s.size 0
def aD (z : ByteArray) : List Int := z.data.toList.map fun b => (b.toNat : Int)
def aV {α : Type} (xs : List α) (off len : Int) (ys : List α) : List α := xs.take off.toNat ++ ys.take (min len.toNat ys.length) ++ xs.drop (off.toNat + min len.toNat ys.length)
def yD {β : Type} (n : Int) (κ : Option β) : Option β := if n ≤ 1099511627776 then κ else none
def onS {α β : Type} (x : Option α) (κ : α → Option β) : Option β := match x with | some a => κ a | none => none
def RG : (k : K) → (off : Nat) → (k' : K) → k.den → Option k'.den
 | .pair a b, off, k', x =>
  if h : off = 0 ∧ K.pair a b = k' then some (h.2 ▸ x)
  else bif Nat.blt off a.size then RG a off k' x.1 else RG b (off - a.size) k' x.2
 | k, off, k', x => if h : off = 0 ∧ k = k' then some (h.2 ▸ x) else none
def ZE : (k : K) → (off : Nat) → (k' : K) → k'.den → k.den → Option k.den
 | .pair a b, off, k', y, x =>
  if h : off = 0 ∧ k' = K.pair a b then some (h.2 ▸ y)
  else bif Nat.blt off a.size then (match ZE a off k' y x.1 with | some z => some (z, x.2) | none => none)
   else (match ZE b (off - a.size) k' y x.2 with | some z => some (x.1, z) | none => none)
 | k, off, k', y, _ => if h : off = 0 ∧ k' = k then some (h.2 ▸ y) else none
inductive AK where
 | dat (k : K)
 | ro (k : K) (e : TypeId)
 | rw (k : K) (e : TypeId)
 | pro (k : K) (e : TypeId)
 deriving DecidableEq
@[reducible] def AK.den : AK → Type
 | .dat k => k.den
 | .ro k _ => List k.den
 | .rw k _ => List k.den
 | .pro k _ => k.den
@[reducible] def DenA : List AK → Type
 | [] => Unit
 | a :: l => a.den × DenA l
inductive RK where
 | dat (k : K)
 | rw (k : K) (e : TypeId)
 | ro (k : K) (e : TypeId)
 | ptr (k : K) (e : TypeId)
 | nsl
 deriving DecidableEq
@[reducible] def RK.den : RK → Type
 | .dat k => k.den
 | .rw k _ => List k.den
 | .ro k _ => List k.den
 | .ptr k _ => k.den
 | .nsl => Unit
@[reducible] def DenR : List RK → Type
 | [] => Unit
 | a :: l => a.den × DenR l
def K.flat : K → Bool
 | .sl _ _ => false
 | .pair a b => a.flat && b.flat
 | _ => true
def RK.flat : RK → Bool
 | .dat k => k.flat
 | .rw k _ => k.flat
 | .ro _ _ => false
 | .ptr k _ => k.flat
 | .nsl => true
structure bG where
 args : List AK
 rets : List RK
 app : {β : Type} → DenA args → (DenR rets → Option β) → Option β
def lk {α : Type} : List (Nat × α) → Nat → Option α
 | [], _ => none
 | (a, x) :: l, n => bif Nat.beq a n then some x else lk l n
def jZ (x : Nat) : List Nat → Bool
 | [] => false
 | y :: l => Nat.beq x y || jZ x l
def eqD : (k : K) → k.den → k.den → Bool
 | .int _, x, y => (show Int from x) == y
 | .bool, x, y => (show Bool from x) == y
 | .str, x, y => gB x y
 | .pair a b, x, y => eqD a x.1 y.1 && eqD b x.2 y.2
 | _, _, _ => false
structure Ctx where
 kt : List (Nat × K)
 se : List (Nat × Nat)
 fo : List (Nat × List (Nat × Nat))
 eqs : List Nat
 calls : Nat → Option bG
section
variable {β : Type}
def FState.set (s : FState) (d : Nat) (v : FV) : FState := { s with tmps := fun t => bif Nat.beq t d then v else s.tmps t }
def FState.setO (s : FState) (d : Nat) (v : Option FObj) : FState := { s with objs := fun t => bif Nat.beq t d then v else s.objs t }
def FV.kill (o : Nat) : FV → FV
 | .sl p w nn => bif Nat.beq p o then .dead else .sl p w nn
 | .ptr p i off => bif Nat.beq p o then .dead else .ptr p i off
 | .mp p => bif Nat.beq p o then .dead else .mp p
 | .it p => bif Nat.beq p o then .dead else .it p
 | .tcons a b => .tcons (a.kill o) (b.kill o)
 | v => v
def FState.kill (s : FState) (o : Nat) : FState := { tmps := fun t => (s.tmps t).kill o, objs := fun t => bif Nat.beq t o then none else s.objs t }
def FState.put (s : FState) (d : Option Tmp) (v : FV) : FState := match d with | some d => s.set d v | none => s
def JG : Value → FV
 | .bool b => .dat .bool b
 | .int k n => .dat (.int k) n
 | .float k b => .dat (.flt k) b
 | .string s => .dat .str s
 | .slice none 0 0 => .nsl
 | .pointer none => .nilp
 | .nilIface => .nilif
 | .tuple #[] => .tnil
 | _ => .dead
def ev (s : FState) : Operand → FV
 | .tmp t => s.tmps t
 | .const v => JG v
 | .global g => .glob g
 | .func f => .fn f
def rO (a b : K) (x : a.den) (κ : b.den → Option β) : Option β := if h : a = b then κ (h ▸ x) else none
def fB (a b : K) (x : List a.den) (κ : List b.den → Option β) : Option β := if h : a = b then κ (h ▸ x) else none
def jN (v : FV) (κ : IntKind → Int → Option β) : Option β := match v with | .dat (.int k) n => κ k n | _ => none
def asBool (v : FV) (κ : Bool → Option β) : Option β := match v with | .dat .bool b => κ b | _ => none
def GA (v : FV) (κ : ByteArray → Option β) : Option β := match v with | .dat .str b => κ b | _ => none
def vD (v : FV) (k : K) (κ : k.den → Option β) : Option β := match v with | .dat k' x => rO k' k x κ | _ => none
def cD {α : Type _} (x : Option α) (κ : α → Option β) : Option β := match x with | some a => κ a | none => none
def win {α : Type} (xs : List α) (w : Option (Int × Int)) : List α := match w with | none => xs | some (off, l) => cut xs off (off + l)
def cZ {α : Type} (xs : List α) (w : Option (Int × Int)) : Int := match w with | none => (xs.length : Int) | some (_, l) => l
def cJ (w : Option (Int × Int)) (i : Int) : Int := match w with | none => i | some (off, _) => off + i
def iM (s : FState) (v : FV) (κ : (o : Nat) → (k : K) → TypeId → Bool → List k.den → Option (Int × Int) → Option β) : Option β :=
 match v with
 | .sl o w _ => match s.objs o with | some (.row k e rw xs) => κ o k e rw xs w | _ => none
 | _ => none
def iT (s : FState) (v : FV) : (k : K) → (k.den → Option β) → Option β
 | .sl e k', κ => (match v with
  | .nsl => κ []
  | .sl o w nn => iM s (.sl o w nn) fun _ k1 e1 _ xs w => if e1 = e then fB k1 k' xs fun xs => κ (win xs w) else none
  | v => vD v (.sl e k') κ)
 | k, κ => vD v k κ
def mP (s : FState) (o : Nat) : Bool := match s.objs o with | some (.row _ _ rw _) => !rw | _ => false
def bU : List Nat → FState → FState
 | [], s => s
 | o :: l, s => bU l (s.kill o)
def frz (s : FState) : List FV → List Nat
 | [] => []
 | .sl o _ _ :: vs => bif mP s o then frz s vs else o :: frz s vs
 | _ :: vs => frz s vs
def FV.isSlB : FV → Bool
 | .sl _ _ _ => true
 | _ => false
def HN (t : Bool) (a b : FV) : FV :=
 match a, b with
 | .dat k x, .dat k' y => if h : k' = k then .dat k (cond t x (h ▸ y)) else .dead
 | _, _ => cond t a b
def FW (op : BinOp) (k : IntKind) (a b : Int) (κ : FV → Option β) : Option β :=
 match op with
 | .add => κ (.dat (.int k) (k.wrap (a + b)))
 | .sub => κ (.dat (.int k) (k.wrap (a - b)))
 | .mul => κ (.dat (.int k) (k.wrap (a * b)))
 | .quo => if b = 0 then none else κ (.dat (.int k) (k.wrap (a.tdiv b)))
 | .rem => if b = 0 then none else κ (.dat (.int k) (a.tmod b))
 | .eql => κ (.dat .bool (a == b))
 | .neq => κ (.dat .bool (a != b))
 | .lss => κ (.dat .bool (decide (a < b)))
 | .leq => κ (.dat .bool (decide (a ≤ b)))
 | .gtr => κ (.dat .bool (decide (a > b)))
 | .geq => κ (.dat .bool (decide (a ≥ b)))
 | .and => κ (.dat (.int k) (dJ9 k a b))
 | .or => κ (.dat (.int k) (orI k a b))
 | .xor => κ (.dat (.int k) (dO6 k a b))
 | .andNot => κ (.dat (.int k) (T1 k a b))
 | _ => none
def wC : BinOp → Bool
 | .shl => true
 | .shr => true
 | _ => false
def tJ (op : BinOp) (k : IntKind) (a b : Int) (κ : FV → Option β) : Option β :=
 if b < 0 then none else
 match op with
 | .shl => κ (.dat (.int k) (dF9 k a b))
 | .shr => κ (.dat (.int k) (dI7 k a b))
 | _ => none
def HV (op : BinOp) (k : FloatKind) (a b : Nat) (κ : FV → Option β) : Option β :=
 match op with
 | .add => onS (floatBits .add k a b) fun r => κ (.dat (.flt k) r)
 | .sub => onS (floatBits .sub k a b) fun r => κ (.dat (.flt k) r)
 | .mul => onS (floatBits .mul k a b) fun r => κ (.dat (.flt k) r)
 | .quo => onS (floatBits .quo k a b) fun r => κ (.dat (.flt k) r)
 | .eql => κ (.dat .bool (fEq k a b))
 | .neq => κ (.dat .bool (!fEq k a b))
 | .lss => κ (.dat .bool (fLt k a b))
 | .leq => κ (.dat .bool (fLt k a b || fEq k a b))
 | .gtr => κ (.dat .bool (fGt k a b))
 | .geq => κ (.dat .bool (fGt k a b || fEq k a b))
 | _ => none
def GX (op : BinOp) (a b : ByteArray) (κ : FV → Option β) : Option β :=
 match op with
 | .add => cR (a.size + b.size) (κ (.dat .str (a ++ b)))
 | .eql => κ (.dat .bool (gB a b))
 | .neq => κ (.dat .bool (!gB a b))
 | _ => none
def lV (Γ : Ctx) (op : BinOp) (t : TypeId) (x y : FV) (κ : FV → Option β) : Option β :=
 match x, y with
 | .dat (.int k) a, .dat (.int k') b => bif wC op then tJ op k a b κ else if k = k' then FW op k a b κ else none
 | .dat (.flt k) a, .dat (.flt k') b => if k = k' then HV op k a b κ else none
 | .dat .str a, .dat .str b => GX op a b κ
 | .dat (.pair a b) x, .dat k' y => rO k' (.pair a b) y fun y => if lk Γ.kt t = some (.pair a b) ∧ jZ t Γ.eqs = true then (match op with
  | .eql => κ (.dat .bool (eqD (.pair a b) x y))
  | .neq => κ (.dat .bool (!eqD (.pair a b) x y))
  | _ => none) else none
 | .nsl, .nsl => (match lk Γ.se t, op with | some _, .eql => κ (.dat .bool true) | some _, .neq => κ (.dat .bool false) | _, _ => none)
 | .sl _ _ true, .nsl => (match lk Γ.se t, op with | some _, .eql => κ (.dat .bool false) | some _, .neq => κ (.dat .bool true) | _, _ => none)
 | .dat .bool a, .dat .bool b => (match lk Γ.kt t, op with | some .bool, .eql => κ (.dat .bool (a == b)) | some .bool, .neq => κ (.dat .bool (a != b)) | _, _ => none)
 | _, _ => none
def unK (op : UnOp) (x : FV) (κ : FV → Option β) : Option β :=
 match op, x with
 | .neg, .dat (.int k) n => κ (.dat (.int k) (k.wrap (0 - n)))
 | .not, .dat .bool b => κ (.dat .bool (!b))
 | _, _ => none
def nV (Γ : Ctx) (src dst : TypeId) (x : FV) (κ : FV → Option β) : Option β :=
 match lk Γ.kt src, lk Γ.kt dst, x with
 | some (.int _), some (.int k), .dat (.int _) n => κ (.dat (.int k) (k.wrap n))
 | some .str, some .str, .dat .str s => κ (.dat .str s)
 | some (.int _), some (.flt k), .dat (.int _) n => κ (.dat (.flt k) (floatOfInt k n))
 | some (.flt _), some (.int k), .dat (.flt k') b => onS (floatToIntVal k' b k) fun n => κ (.dat (.int k) n)
 | some (.int _), some .str, .dat (.int _) n => κ (.dat .str (Utf8.encode n))
 | _, _, _ => none
def newRow (d : Option Tmp) (s : FState) (obj : FObj) (v : Nat → FV) (κ : FState → Option β) : Option β :=
 match d with
 | some d => match s.objs d with | none => κ ((s.setO d (some obj)).set d (v d)) | some _ => none
 | none => none
def nX (Γ : Ctx) (d : Option Tmp) (src dst : TypeId) (v : FV) (s : FState) (κ : FState → Option β) : Option β :=
 match v with
 | .dat .str z => (match lk Γ.se dst with
  | some e => (match lk Γ.kt src, lk Γ.kt e with
   | some .str, some (.int .i32) => bif Nat.ble z.size 70368744177664 then newRow d s (.row (.int .i32) e true (aS z)) (fun d => .sl d none false) κ else none
   | some .str, some (.int .u8) => newRow d s (.row (.int .u8) e true (aD z)) (fun d => .sl d none true) κ
   | _, _ => none)
  | none => nV Γ src dst v fun v => κ (s.put d v))
 | .nsl => (match lk Γ.se src, lk Γ.kt dst with
  | some e, some .str => (match lk Γ.kt e with
   | some (.int .u8) => κ (s.put d (.dat .str ⟨#[]⟩))
   | some (.int .i32) => κ (s.put d (.dat .str ⟨#[]⟩))
   | _ => none)
  | _, _ => none)
 | .sl o w nn => iM s (.sl o w nn) fun o k' _ rw xs w => (match lk Γ.se src, lk Γ.kt dst with
  | some e, some (.sl _ _) => if src = dst ∧ nn = true ∧ rw = true ∧ lk Γ.kt e = some (.int .u8) then idx 0 (cZ xs w) (κ (s.put d (.sl o w true))) else none
  | some e, some .str => (match lk Γ.kt e with
   | some (.int .u8) => fB k' (.int .u8) xs fun xs => κ (s.put d (.dat .str (strOfNums (win xs w))))
   | some (.int .i32) => fB k' (.int .i32) xs fun xs => κ (s.put d (.dat .str (runesBytes (win xs w))))
   | _ => none)
  | _, _ => none)
 | v => nV Γ src dst v fun v => κ (s.put d v)
def JD (b : Builtin) (x y : FV) (κ : FV → Option β) : Option β :=
 match b, x, y with
 | .max, .dat (.int k) a, .dat (.int k') b => if k = k' then κ (.dat (.int k) (dF7 a b)) else none
 | .min, .dat (.int k) a, .dat (.int k') b => if k = k' then κ (.dat (.int k) (FH a b)) else none
 | _, _, _ => none
def RW (Γ : Ctx) (d : Option Tmp) (t : TypeId) (l c : FV) (s : FState) (κ : FState → Option β) : Option β :=
 cD (lk Γ.se t) fun e => cD (lk Γ.kt e) fun k => jN l fun _ l => jN c fun _ c => bnd 0 l c (yD c (newRow d s (.row k e true (List.replicate l.toNat k.dflt)) (fun d => .sl d none true) κ))
def PF (Γ : Ctx) (d : Option Tmp) (t : TypeId) (x y : FV) (s : FState) (κ : FState → Option β) : Option β :=
 cD (lk Γ.se t) fun e => cD (lk Γ.kt e) fun k => iM s x fun o k1 e1 rw xs w => if rw = true ∧ e1 = e then fB k1 k xs fun xs => iM s y fun _ k2 _ _ ys w2 => fB k2 k ys fun ys =>
  κ ((s.setO o (some (.row k e true (aV xs (cJ w 0) (cZ xs w) (win ys w2))))).put d (.dat (.int .i64) (FH (cZ xs w) (cZ ys w2)))) else none
def CS (Γ : Ctx) (d : Option Tmp) (t : TypeId) (x : FV) (s : FState) (κ : FState → Option β) : Option β :=
 GA x fun z => if lk Γ.kt t = some .str then newRow d s (.siter z 0) (fun d => .it d) κ else none
def HB (d : Option Tmp) (x : FV) (s : FState) (κ : FState → Option β) : Option β :=
 match x with
 | .it p => (match s.objs p with
  | some (.siter z pos) => cond (Nat.blt pos z.size)
   (κ ((s.setO p (some (.siter z (pos + (Utf8.decode z pos).2)))).put d (.tcons (.dat .bool true) (.tcons (.dat (.int .i64) (pos : Int)) (.tcons (.dat (.int .i32) ((Utf8.decode z pos).1 : Int)) .tnil)))))
   (κ (s.put d (.tcons (.dat .bool false) .tnil)))
  | _ => none)
 | _ => none
def putD (Γ : Ctx) (d : Option Tmp) (s : FState) : (k : K) → k.den → (FState → Option β) → Option β
 | .sl e k', xs, κ => if lk Γ.kt e = some k' then newRow d s (.row k' e false xs) (fun d => .sl d none false) κ else none
 | k, y, κ => κ (s.put d (.dat k y))
def iG (Γ : Ctx) (t : TypeId) (j : Nat) : Option (Nat × Nat) := (lk Γ.fo t).bind fun l => l[j]?
def nS (Γ : Ctx) (s : FState) (t : TypeId) (k : K) : List (Nat × Operand) → k.den → (k.den → Option β) → Option β
 | [], x, κ => κ x
 | (j, v) :: ps, x, κ => cD (iG Γ t j) fun (off, ft) => cD (lk Γ.kt ft) fun k' => iT s (ev s v) k' fun y => cD (ZE k off k' y x) fun x => nS Γ s t k ps x κ
def nC (s : FState) (k : K) : Nat → List (Nat × Operand) → List k.den → (List k.den → Option β) → Option β
 | _, [], acc, κ => κ acc
 | n, (j, v) :: ps, acc, κ => bif Nat.beq j n then iT s (ev s v) k fun y => nC s k (n + 1) ps (acc ++ [y]) κ else none
def cA (s : FState) : (ks : List AK) → List FV → (DenA ks → Option β) → Option β
 | [], [], κ => κ ()
 | .dat k :: ks, v :: vs, κ => vD v k fun x => cA s ks vs fun xs => κ (x, xs)
 | .ro k e :: ks, v :: vs, κ =>
  (match v with
  | .nsl => cA s ks vs fun xs => κ ([], xs)
  | v => iM s v fun _ k' e' _ xs w => if e' = e then fB k' k xs fun xs => cA s ks vs fun r => κ (win xs w, r) else none)
 | .rw k e :: ks, v :: vs, κ =>
  (match v with
  | .nsl => cA s ks vs fun xs => κ ([], xs)
  | v => iM s v fun _ k' e' rw xs w => if e' = e ∧ rw = true then fB k' k xs fun xs => cA s ks vs fun r => κ (win xs w, r) else none)
 | .pro k e :: ks, v :: vs, κ =>
  (match v with
  | .ptr o i 0 => match s.objs o with | some (.row k' e' _ xs) => if e' = e then rO k' k (rdK k' xs i) fun x => cA s ks vs fun r => κ (x, r) else none | _ => none
  | _ => none)
 | _, _, _ => none
def cS : List AK → List FV → List Nat
 | .ro _ _ :: ks, .sl o _ _ :: vs => o :: cS ks vs
 | .pro _ _ :: ks, .ptr o _ _ :: vs => o :: cS ks vs
 | _ :: ks, _ :: vs => cS ks vs
 | _, _ => []
def cV : List AK → List FV → List Nat
 | .rw _ _ :: ks, .sl o _ _ :: vs => o :: cV ks vs
 | _ :: ks, _ :: vs => cV ks vs
 | _, _ => []
def kF : List Nat → Bool
 | [] => true
 | x :: l => !jZ x l && kF l
def cU (d : Nat) : (j : Nat) → (rs : List RK) → DenR rs → FState → (FV → FState → Option β) → Option β
 | _, [], _, s, κ => κ .tnil s
 | j, .dat k :: rs, (x, xs), s, κ => cU d (j + 1) rs xs s fun v s => κ (.tcons (.dat k x) v) s
 | j, .nsl :: rs, (_, xs), s, κ => cU d (j + 1) rs xs s fun v s => κ (.tcons .nsl v) s
 | j, .rw k e :: rs, (x, xs), s, κ => match s.objs (d + j * 1000000) with
  | none => cU d (j + 1) rs xs (s.setO (d + j * 1000000) (some (.row k e true x))) fun v s => κ (.tcons (.sl (d + j * 1000000) none false) v) s
  | some _ => none
 | j, .ro k e :: rs, (x, xs), s, κ => match s.objs (d + j * 1000000) with
  | none => cU d (j + 1) rs xs (s.setO (d + j * 1000000) (some (.row k e false x))) fun v s => κ (.tcons (.sl (d + j * 1000000) none false) v) s
  | some _ => none
 | j, .ptr k e :: rs, (x, xs), s, κ => match s.objs (d + j * 1000000) with
  | none => cU d (j + 1) rs xs (s.setO (d + j * 1000000) (some (.row k e true [x]))) fun v s => κ (.tcons (.ptr (d + j * 1000000) 0 0) v) s
  | some _ => none
def sC : FV → FV
 | .tcons v .tnil => v
 | v => v
def FState.down (s : FState) (o : Nat) : FState := match s.objs o with | some (.row k e true xs) => s.setO o (some (.row k e false xs)) | _ => s
def downAll : List Nat → FState → FState
 | [], s => s
 | o :: l, s => downAll l (s.down o)
def downFor (S : bG) (vs : List FV) (s : FState) : FState := bif S.rets.all RK.flat then s else downAll (cS S.args vs) s
def HX (S : bG) (d : Option Tmp) (vs : List FV) (s : FState) (κ : FState → Option β) : Option β :=
 match d with
 | none => none
 | some d =>
 bif kF (cV S.args vs) && (cV S.args vs).all (fun o => !jZ o (cS S.args vs)) && (S.rets.all RK.flat || (cS S.args vs).all (mP s)) then
 cA s S.args vs fun xs => S.app xs fun r => cU d 0 S.rets r (bU (cV S.args vs) s) fun v s => κ (s.set d (sC v))
 else none
def JR (Γ : Ctx) (s : FState) (u e : TypeId) (k : K) (y : FV) (κ : List k.den → Option β) : Option β :=
 match y with
 | .nsl => if lk Γ.se u = some e then κ [] else none
 | .dat .str z => if lk Γ.kt u = some .str then fB (.int .u8) k (z.data.toList.map fun b => (b.toNat : Int)) κ else none
 | y => iM s y fun _ k' _ _ ys w => if lk Γ.se u = some e then fB k' k ys fun ys => κ (win ys w) else none
def rE (Γ : Ctx) (d : Option Tmp) (t u : TypeId) (x y : FV) (s : FState) (κ : FState → Option β) : Option β :=
 cD (lk Γ.se t) fun e => cD (lk Γ.kt e) fun k =>
  JR Γ s u e k y fun ys => match x with
   | .nsl => cR ys.length (newRow d s (.row k e true ys) (fun d => .sl d none false) κ)
   | x => iM s x fun o k' e' rw xs w => if rw = true ∧ e' = e then fB k' k xs fun xs =>
     cR ((win xs w).length + ys.length) (κ (((s.kill o).setO o (some (.row k e true (win xs w ++ ys)))).put d (.sl o none false))) else none
def rT (lo hi : Option FV) (n : Int) (κ : Int → Int → Option β) : Option β :=
 match lo, hi with
 | none, none => κ 0 n
 | some a, none => jN a fun _ a => bnd a n n (κ a n)
 | none, some b => jN b fun _ b => bnd 0 b n (κ 0 b)
 | some a, some b => jN a fun _ a => jN b fun _ b => bnd a b n (κ a b)
def sK (Γ : Ctx) (d : Option Tmp) (t : TypeId) (x : FV) (lo hi : Option FV) (s : FState) (κ : FState → Option β) : Option β :=
 match x with
 | .dat .str z => if lk Γ.kt t = some .str then rT lo hi z.size fun a b => κ (s.put d (.dat .str (bD z a b))) else none
 | x => iM s x fun o k e rw xs w => if lk Γ.se t = some e then rT lo hi (cZ xs w) fun a b =>
   bif rw then κ (s.put d (.sl o (some (cJ w a, b - a)) false))
   else newRow d s (.row k e false (cut xs (cJ w a) (cJ w b))) (fun d => .sl d none false) κ
  else none
def opK (Γ : Ctx) (o : Oper) (s : FState) (κ : FState → Option β) : Option β :=
 match o.op with
 | .move x | .assign x => κ (s.put o.dst (ev s x))
 | .pick c a b => asBool (ev s c) fun t => κ (s.put o.dst (HN t (ev s a) (ev s b)))
 | .binOp op t x y _ => lV Γ op t (ev s x) (ev s y) fun v => κ (s.put o.dst v)
 | .unOp op _ x => unK op (ev s x) fun v => κ (s.put o.dst v)
 | .convert src dst x => nX Γ o.dst src dst (ev s x) s κ
 | .alloc t => cD (lk Γ.kt t) fun k => newRow o.dst s (.row k t true [k.dflt]) (fun d => .ptr d 0 0) κ
 | .box t x => cD (lk Γ.kt t) fun k => iT s (ev s x) k fun y => newRow o.dst (bU (frz s [ev s x]) s) (.row k t true [y]) (fun d => .ptr d 0 0) κ
 | .build t ps => (match lk Γ.kt t, lk Γ.fo t with
  | some (.pair k1 k2), some _ => nS Γ s t (.pair k1 k2) ps.toList (K.pair k1 k2).dflt fun x => κ ((bU (frz s (ps.toList.map fun p => ev s p.2)) s).put o.dst (.dat (.pair k1 k2) x))
  | _, _ => none)
 | .buildSlice t n ps => cD (lk Γ.se t) fun e => cD (lk Γ.kt e) fun k => bif Nat.beq n ps.size && Nat.ble (ps.size * k.size) 16777216 then nC s k 0 ps.toList [] fun xs => newRow o.dst (bU (frz s (ps.toList.map fun p => ev s p.2)) s) (.row k e true xs) (fun d => .sl d none true) κ else none
 | .load t a => (match ev s a with
  | .ptr p i off => (match s.objs p with
   | some (.row k _ _ xs) => cD (lk Γ.kt t) fun k' => cD (RG k off k' (rdK k xs i)) fun y => putD Γ o.dst s k' y κ
   | _ => none)
  | _ => none)
 | .store t a x => (match o.dst, ev s a with
  | none, .ptr p i off => (match s.objs p with
   | some (.row k e true xs) => cD (lk Γ.kt t) fun k' => iT s (ev s x) k' fun y => cD (ZE k off k' y (rdK k xs i)) fun z => bif jZ p (frz s [ev s x]) then none else κ ((bU (frz s [ev s x]) s).setO p (some (.row k e true (xs.set i.toNat z))))
   | _ => none)
  | _, _ => none)
 | .fieldAddr t x j => (match ev s x with
  | .ptr p i off => cD (iG Γ t j) fun (q, ft) => cD (lk Γ.kt ft) fun _ => κ (s.put o.dst (.ptr p i (off + q)))
  | _ => none)
 | .field t x j => (match ev s x with
  | .dat (.pair k1 k2) y => cD (iG Γ t j) fun (q, ft) => cD (lk Γ.kt ft) fun k' => cD (RG (.pair k1 k2) q k' y) fun z => putD Γ o.dst s k' z κ
  | _ => none)
 | .indexAddr t x i => iM s (ev s x) fun p _ e _ xs w => if lk Γ.se t = some e then jN (ev s i) fun _ i => idx i (cZ xs w) (κ (s.put o.dst (.ptr p (cJ w i) 0))) else none
 | .index t x i => GA (ev s x) fun z => if lk Γ.kt t = some .str then jN (ev s i) fun _ i => idx i z.size (κ (s.put o.dst (.dat (.int .u8) (BC z i)))) else none
 | .nilCheck x => (match ev s x with
  | .ptr p i off => κ (s.put o.dst (.ptr p i off))
  | _ => none)
 | .makeSlice t l c => RW Γ o.dst t (ev s l) (ev s c) s κ
 | .range t x => CS Γ o.dst t (ev s x) s κ
 | .next x true => HB o.dst (ev s x) s κ
 | .slice t x lo hi none => sK Γ o.dst t (ev s x) (lo.map (ev s)) (hi.map (ev s)) s κ
 | .extract t j => (match ev s t, j with
  | .tcons a _, 0 => κ (s.put o.dst a)
  | .tcons _ (.tcons a _), 1 => κ (s.put o.dst a)
  | .tcons _ (.tcons _ (.tcons a _)), 2 => κ (s.put o.dst a)
  | _, _ => none)
 | .call c => (match c.callee with
  | .builtin .len => (match c.args.toList, c.argTypes.toList with
   | [x], [t] => (match ev s x with
    | .dat .str z => if lk Γ.kt t = some .str then κ (s.put o.dst (.dat (.int .i64) (z.size : Int))) else none
    | .nsl => cD (lk Γ.se t) fun _ => κ (s.put o.dst (.dat (.int .i64) (0 : Int)))
    | v => iM s v fun _ _ _ _ xs w => cD (lk Γ.se t) fun _ => κ (s.put o.dst (.dat (.int .i64) (cZ xs w))))
   | _, _ => none)
  | .builtin .append => (match c.args.toList, c.argTypes.toList with
   | [x, y], [t, u] => rE Γ o.dst t u (ev s x) (ev s y) s κ
   | _, _ => none)
  | .builtin .copy => (match c.args.toList, c.argTypes.toList with
   | [x, y], [t, _] => PF Γ o.dst t (ev s x) (ev s y) s κ
   | _, _ => none)
  | .builtin .max => (match c.args.toList with
   | [x, y] => JD .max (ev s x) (ev s y) fun v => κ (s.put o.dst v)
   | _ => none)
  | .builtin .min => (match c.args.toList with
   | [x, y] => JD .min (ev s x) (ev s y) fun v => κ (s.put o.dst v)
   | _ => none)
  | .value f => (match ev s f with
   | .fn f => cD (Γ.calls f) fun S => HX S o.dst (c.args.toList.map (ev s)) (downFor S (c.args.toList.map (ev s)) s) κ
   | _ => none)
  | _ => none)
 | _ => none
def gK (Γ : Ctx) (all : List Oper) (o : Oper) (s : FState) (κ : Bool → FState → FState → Option β) : Option β :=
 match o.guard with
 | none => opK Γ o s fun s' => κ true s s'
 | some (j, want) =>
  match (all[j]?).bind (·.dst) with
  | none => none
  | some d =>
   let go (b : Bool) : Option β :=
    (fun s => bif b == want then opK Γ o s fun s' => κ true s s' else κ false s (s.put o.dst .tnil)) (s.set d (.dat .bool b))
   match s.tmps d with
   | .dat .bool b => cond b (go true) (go false)
   | .tnil => κ false s (s.put o.dst .tnil)
   | _ => none
def cJ9 (Γ : Ctx) (all : List Oper) : List Oper → FState → (FState → Option β) → Option β
 | [], s, κ => κ s
 | o :: os, s, κ => gK Γ all o s fun _ _ s => cJ9 Γ all os s κ
def FV.refs : FV → List Nat
 | .sl o _ _ => [o]
 | .ptr o _ _ => [o]
 | .mp o => [o]
 | .it o => [o]
 | .tcons a b => a.refs ++ b.refs
 | _ => []
def FV.live : FV → Bool
 | .dead => false
 | .tcons a b => a.live && b.live
 | _ => true
structure iC where
 touch : Bool
 refs : List Nat
 live : Bool
def gQ (Γ : Ctx) (s : FState) (o : Oper) : Bool :=
 match o.op with
 | .store _ _ _ => true
 | .next _ _ => true
 | .box _ x => (ev s x).isSlB
 | .build _ ps => (ps.toList.map fun p => ev s p.2).any FV.isSlB
 | .buildSlice _ _ ps => (ps.toList.map fun p => ev s p.2).any FV.isSlB
 | .call c => (match c.callee with
  | .builtin .len => false
  | .builtin .max => false
  | .builtin .min => false
  | .value f => (match ev s f with
   | .fn f => (match Γ.calls f with | some S => !((cV S.args (c.args.toList.map (ev s))).isEmpty && (S.rets.all RK.flat || (cS S.args (c.args.toList.map (ev s))).isEmpty)) | none => true)
   | _ => true)
  | _ => true)
 | _ => false
def kH (Γ : Ctx) (s : FState) (o : Oper) : iC := ⟨gQ Γ s o, (o.op.operands.toList.map (ev s)).flatMap FV.refs, (o.op.operands.toList.map (ev s)).all FV.live⟩
def FE : List Oper → List (List Nat)
 | ops => ops.foldl (fun acc o => acc ++ [(o.after.toList.filter (Region.binds .any)).flatMap fun e => e.on :: (acc[e.on]?.getD [])]) []
def ZK (all : List Oper) (an : List (List Nat)) : Nat → List Oper → Bool
 | _, [] => true
 | i, o :: os => (an[i]?.getD []).all (fun x => o.after.toList.any fun e => Region.binds .any e && (Nat.beq x e.on || jZ x (an[e.on]?.getD []))) && ZK all an (i + 1) os
def bP4 (l m : List Nat) : Bool := l.all fun x => !jZ x m
def ID (d : Option Tmp) (l : List Nat) : Bool := match d with | some d => l.all fun k => !Nat.beq (k % 1000000) d | none => true
def Q1 (x y : iC) : Bool := (!x.touch && !y.touch) || (bP4 x.refs y.refs && x.live && y.live)
def II (all : List Oper) (i j : Nat) (ix iy : iC) : Bool := match all[i]?, all[j]? with | some x, some y => x.apart all.toArray y && ID x.dst iy.refs && ID y.dst ix.refs | _, _ => false
def ES (all : List Oper) (an : List (List Nat)) : List (Nat × iC) → Bool
 | [] => true
 | (i, x) :: l => l.all (fun p => jZ p.1 (an[i]?.getD []) || (Q1 p.2 x && II all p.1 i p.2 x)) && ES all an l
def oE : Nat → List Oper → Bool
 | _, [] => true
 | i, o :: os => o.after.toList.all (fun e => !Region.binds .any e || Nat.blt e.on i) && (match o.dst with | some d => Nat.blt d 1000000 | none => true) && oE (i + 1) os
def X9 (Γ : Ctx) (all : List Oper) : Nat → List Oper → FState → List (Nat × iC) → (FState → Option β) → Option β
 | _, [], s, log, κ => bif ZK all (FE all) 0 all && ES all (FE all) log then κ s else none
 | i, o :: os, s, log, κ => gK Γ all o s fun wd s0 s => X9 Γ all (i + 1) os s ((i, bif wd then kH Γ s0 o else ⟨false, [], true⟩) :: log) κ
inductive NE where
 | keep (t : Nat)
 | row (t : Nat) (k : K) (e : TypeId) (rw : Bool)
 | ptr (t : Nat) (k : K) (e : TypeId) (rw : Bool)
 | it (t : Nat)
def aE : List (Nat × FV) → Nat → FV
 | [], _ => .dead
 | (a, v) :: l, t => bif Nat.beq t a then v else aE l t
def aC : List (Nat × FObj) → Nat → Option FObj
 | [], _ => none
 | (a, v) :: l, t => bif Nat.beq t a then some v else aC l t
def FV.plain : FV → FV
 | .dat k x => .dat k x
 | .nsl => .nsl
 | .nilp => .nilp
 | .nilif => .nilif
 | .tnil => .tnil
 | .tcons a b => .tcons a.plain b.plain
 | .fn f => .fn f
 | .glob g => .glob g
 | _ => .dead
def yX (t : Nat) (w : Option (Int × Int)) : Option Nat := match w with | none => some t | some _ => none
def iR (Γ : Ctx) (s : FState) : List NE → List (Nat × Option Nat) → List (Nat × FV) → List (Nat × FObj) → (FState → Option β) → Option β
 | [], _, tl, ol, κ => κ ⟨aE tl, aC ol⟩
 | .keep t :: l, rn, tl, ol, κ => iR Γ s l rn (tl ++ [(t, (s.tmps t).plain)]) ol κ
 | .row t k e rw :: l, rn, tl, ol, κ =>
  match s.tmps t with
  | .nsl => if lk Γ.kt e = some k then (match aC ol t with | none => iR Γ s l rn (tl ++ [(t, .sl t none false)]) (ol ++ [(t, .row k e rw [])]) κ | some _ => none) else none
  | .sl o w _ => (match lk rn o with
   | some (some n) => iR Γ s l rn (tl ++ [(t, .sl n w false)]) ol κ
   | some none => none
   | none => (match s.objs o, aC ol t with
    | some (.row k' e' rw' xs), none => if e' = e ∧ (rw' = rw ∨ rw = false) then fB k' k xs fun xs =>
      iR Γ s l (bif rw' then (o, yX t w) :: rn else rn) (tl ++ [(t, .sl t none false)]) (ol ++ [(t, .row k e rw (win xs w))]) κ else none
    | _, _ => none))
  | _ => none
 | .it t :: l, rn, tl, ol, κ =>
  match s.tmps t with
  | .it o => (match lk rn o, s.objs o, aC ol t with
   | none, some (.siter z pos), none => iR Γ s l ((o, none) :: rn) (tl ++ [(t, .it t)]) (ol ++ [(t, .siter z pos)]) κ
   | _, _, _ => none)
  | _ => none
 | .ptr t k e rw :: l, rn, tl, ol, κ =>
  match s.tmps t with
  | .ptr o 0 0 => (match lk rn o with
   | some (some n) => iR Γ s l rn (tl ++ [(t, .ptr n 0 0)]) ol κ
   | some none => none
   | none => (match s.objs o, aC ol t with
    | some (.row k' e' rw' xs), none => if e' = e ∧ (rw' = rw ∨ rw = false) then fB k' k xs fun xs =>
      iR Γ s l (bif rw' then (o, some t) :: rn else rn) (tl ++ [(t, .ptr t 0 0)]) (ol ++ [(t, .row k e rw xs)]) κ else none
    | _, _ => none))
  | _ => none
def cK2 (Γ : Ctx) (l : List NE) (s : FState) (κ : FState → Option β) : Option β := iR Γ s l [] [] [] κ
structure Cx (β : Type) where
 nrm : FState → Option β
 ret : FState → Option β
 ex : Nat → FState → Option β
inductive Sk where
 | leaf
 | nd (a b : Sk)
 | fin (ini nrm ret : Option (List NE)) (ex : List (Nat × List NE)) (a : Sk)
def Sk.body : Sk → Sk
 | .fin _ _ _ _ a => a
 | s => s
def Sk.ini : Sk → Option (List NE)
 | .fin i _ _ _ _ => i
 | _ => none
def Sk.l (s : Sk) : Sk := match s with | .nd a _ => a | _ => .leaf
def Sk.r (s : Sk) : Sk := match s with | .nd _ b => b | _ => .leaf
def gL (Γ : Ctx) (l : Option (List NE)) (κ : FState → Option β) : FState → Option β := match l with | some l => fun s => cK2 Γ l s κ | none => κ
def Sk.wrap (Γ : Ctx) (s : Sk) (cx : Cx β) : Cx β :=
 match s with
 | .fin _ n r x _ => { nrm := gL Γ n cx.nrm, ret := gL Γ r cx.ret, ex := fun j => gL Γ (lk x j) (cx.ex j) }
 | _ => cx
def bH (step : (FState → Option β) → FState → Option β) : Nat → FState → Option β
 | 0 => fun _ => none
 | n + 1 => step (bH step n)
def FX (Γ : Ctx) (n : Nat) : Code → Sk → FState → Cx β → Option β
 | .skip, sk, s, cx => gL Γ sk.ini (fun s => (sk.wrap Γ cx).nrm s) s
 | .ret, sk, s, cx => gL Γ sk.ini (fun s => (sk.wrap Γ cx).ret s) s
 | .exit id, sk, s, cx => gL Γ sk.ini (fun s => (sk.wrap Γ cx).ex id s) s
 | .seq a b, sk, s, cx => gL Γ sk.ini (fun s => FX Γ n a sk.body.l s { sk.wrap Γ cx with nrm := fun s => FX Γ n b sk.body.r s (sk.wrap Γ cx) }) s
 | .cond c a b, sk, s, cx => gL Γ sk.ini (fun s => asBool (ev s c) fun t => cond t (FX Γ n a sk.body.l s (sk.wrap Γ cx)) (FX Γ n b sk.body.r s (sk.wrap Γ cx))) s
 | .block id a, sk, s, cx => gL Γ sk.ini (fun s => FX Γ n a sk.body.l s { sk.wrap Γ cx with ex := fun j s => bif Nat.beq j id then (sk.wrap Γ cx).nrm s else (sk.wrap Γ cx).ex j s }) s
 | .loop a, sk, s, cx => gL Γ sk.ini (fun s => bH (fun again s => FX Γ n a sk.body.l s { sk.wrap Γ cx with nrm := again }) n s) s
 | .region _ ops draw, sk, s, cx => gL Γ sk.ini (fun s => bif draw then (bif oE 0 ops.toList then X9 Γ ops.toList 0 ops.toList s [] (sk.wrap Γ cx).nrm else none) else cJ9 Γ ops.toList ops.toList s (sk.wrap Γ cx).nrm) s
 | _, _, _, _ => none
end
end Go.Proofs.YticibdjilmclgaaDoorZF

namespace Go.Proofs.YticibdjilmclgaaDoorZF
open Go
set_option linter.unusedVariables false
def K.zcells : K → List Value
 | .int k => [.int k 0]
 | .bool => [.bool false]
 | .str => [.string ⟨#[]⟩]
 | .flt k => [.float k 0]
 | .err => [.nilIface]
 | .pair a b => a.zcells ++ b.zcells
 | .sl _ _ => [.slice none 0 0]
def K.zval (k : K) : Value := match k with
 | .int k => .int k 0
 | .bool => .bool false
 | .str => .string ⟨#[]⟩
 | .flt k => .float k 0
 | .err => .nilIface
 | .pair a b => .agg (a.zcells ++ b.zcells).toArray
 | .sl _ _ => .slice none 0 0
def cC2 (P : Program) (t : TypeId) : K → Prop
 | .int k => P.underlying t = some (.int k)
 | .bool => P.underlying t = some .bool
 | .str => P.underlying t = some .string
 | .flt k => P.underlying t = some (.float k)
 | .err => ∃ ms, P.underlying t = some (.interface ms)
 | .pair _ _ => ∃ fs, P.underlying t = some (.struct fs)
 | .sl e _ => P.underlying t = some (.slice e)
structure TyOk (P : Program) (t : TypeId) (k : K) : Prop where
 info : (P.info? t).map (fun i => (i.size, i.zero, Nat.ble i.bytes 128)) = some (k.size, some k.zval, true)
 und : cC2 P t k
def RepD (w : World) (A : Nat → Prop) : (k : K) → k.den → List Value → Prop
 | .int k, n, cs => cs = [.int k n]
 | .bool, b, cs => cs = [.bool b]
 | .str, s, cs => cs = [.string s]
 | .flt f, b, cs => cs = [.float f b]
 | .err, b, cs => ∃ v, cs = [v] ∧ ((b = false ∧ v = .nilIface) ∨ (b = true ∧ ∃ t x, v = .iface t x))
 | .pair a c, x, cs => ∃ c1 c2, cs = c1 ++ c2 ∧ RepD w A a x.1 c1 ∧ RepD w A c x.2 c2
 | .sl _ k, xs, cs => ∃ a cap, cs = [.slice a xs.length cap] ∧ xs.length ≤ cap ∧
   (xs = [] ∨ ∃ b off, a = some ⟨b, off, none⟩ ∧ ¬ A b ∧ ∀ i x, xs[i]? = some x → ∃ ds, RepD w A k x ds ∧ ∀ j, j < k.size → w.cell? ⟨b, off + i * k.size + j, none⟩ = ds[j]?)
theorem K.size_pos : ∀ k : K, 0 < k.size
 | .int _ | .bool | .str | .flt _ | .err | .sl _ _ => Nat.zero_lt_one
 | .pair a b => Nat.lt_of_lt_of_le a.size_pos (Nat.le_add_right _ _)
theorem RepD.len {w : World} {A : Nat → Prop} : ∀ {k : K} {x : k.den} {cs : List Value}, RepD w A k x cs → cs.length = k.size
 | .int _, _, _, h => by cases h; rfl
 | .bool, _, _, h => by cases h; rfl
 | .str, _, _, h => by cases h; rfl
 | .flt _, _, _, h => by cases h; rfl
 | .err, _, _, h => by obtain ⟨v, rfl, _⟩ := h; rfl
 | .pair a b, _, _, h => by obtain ⟨c1, c2, rfl, h1, h2⟩ := h; rw [List.length_append, h1.len, h2.len]; rfl
 | .sl _ _, _, _, h => by obtain ⟨a, cap, rfl, _⟩ := h; rfl
theorem RepD.one {w : World} {A : Nat → Prop} : ∀ {k : K} {x : k.den} {cs : List Value}, RepD w A k x cs → ∀ v ∈ cs, v.oneCell' = true
 | .int _, _, _, h => by cases h; simp [Value.oneCell']
 | .bool, _, _, h => by cases h; simp [Value.oneCell']
 | .str, _, _, h => by cases h; simp [Value.oneCell']
 | .flt _, _, _, h => by cases h; simp [Value.oneCell']
 | .err, _, _, h => by obtain ⟨v, rfl, ⟨_, rfl⟩ | ⟨_, t, x, rfl⟩⟩ := h <;> simp [Value.oneCell']
 | .pair a b, _, _, h => by
  obtain ⟨c1, c2, rfl, h1, h2⟩ := h
  intro v hv
  rcases List.mem_append.1 hv with hv | hv
  ·exact h1.one v hv
  ·exact h2.one v hv
 | .sl _ _, _, _, h => by obtain ⟨a, cap, rfl, _⟩ := h; simp [Value.oneCell']
theorem RB {w w0 : World} {A : Nat → Prop} {k : K} {x : k.den} {ds : List Value} {p : Addr} (hd : RepD w A k x ds) (h0 : w0.cell? p = ds[0]?) : p.block < w0.heap.size := by
 have hl := hd.len
 have hp := k.size_pos
 cases ds with
 | nil => simp at hl; omega
 | cons v ds => exact World.block_lt_of_cell? w0 p h0
def Stay (w : World) (A : Nat → Prop) (w' : World) (A' : Nat → Prop) : Prop := ∀ b, b < w.heap.size → ¬ A b → ¬ A' b ∧ w'.heap[b]? = w.heap[b]?
theorem RepD.stay {w w' : World} {A A' : Nat → Prop} (hs : Stay w A w' A') : ∀ {k : K} {x : k.den} {cs : List Value}, RepD w A k x cs → RepD w' A' k x cs
 | .int _, _, _, h => h
 | .bool, _, _, h => h
 | .str, _, _, h => h
 | .flt _, _, _, h => h
 | .err, _, _, h => h
 | .pair a b, _, _, h => by
  obtain ⟨c1, c2, rfl, h1, h2⟩ := h
  exact ⟨c1, c2, rfl, h1.stay hs, h2.stay hs⟩
 | .sl _ k, xs, _, h => by
  obtain ⟨a, cap, rfl, hc, h⟩ := h
  refine ⟨a, cap, rfl, hc, ?_⟩
  rcases h with h | ⟨b, off, rfl, hA, h⟩
  ·exact .inl h
  ·by_cases hx : xs = []
   ·exact .inl hx
   ·right
    obtain ⟨y, ys, hy⟩ := List.exists_cons_of_ne_nil hx
    obtain ⟨ds, hd, hcell⟩ := h 0 y (by rw [hy]; rfl)
    have hlt : b < w.heap.size := RB hd (hcell 0 k.size_pos)
    obtain ⟨hA', hb⟩ := hs b hlt hA
    refine ⟨b, off, rfl, hA', fun i x hi => ?_⟩
    obtain ⟨ds, hd, hcell⟩ := h i x hi
    exact ⟨ds, hd.stay hs, fun j hj => (World.cell?_of_block (a := ⟨b, _, none⟩) hb).trans (hcell j hj)⟩
def RowAt (w : World) (A : Nat → Prop) (k : K) (b off : Nat) (xs : List k.den) : Prop :=
 ∀ i x, xs[i]? = some x → ∃ ds, RepD w A k x ds ∧ ∀ j, j < k.size → w.cell? ⟨b, off + i * k.size + j, none⟩ = ds[j]?
theorem RowAt.nil (w : World) (A : Nat → Prop) (k : K) (b off : Nat) : RowAt w A k b off [] := fun i x h => by simp at h
theorem RowAt.lt {w : World} {A : Nat → Prop} {k : K} {b off : Nat} {xs : List k.den} (h : RowAt w A k b off xs) (hx : xs ≠ []) : b < w.heap.size := by
 obtain ⟨y, ys, rfl⟩ := List.exists_cons_of_ne_nil hx
 obtain ⟨ds, hd, hcell⟩ := h 0 y rfl
 exact RB hd (hcell 0 k.size_pos)
theorem RowAt.stay {w w' : World} {A A' : Nat → Prop} {k : K} {b off : Nat} {xs : List k.den} (hs : Stay w A w' A') (hb : w'.heap[b]? = w.heap[b]?) (h : RowAt w A k b off xs) : RowAt w' A' k b off xs :=
 fun i x hi => let ⟨ds, hd, hc⟩ := h i x hi; ⟨ds, hd.stay hs, fun j hj => (World.cell?_of_block (a := ⟨b, _, none⟩) hb).trans (hc j hj)⟩
theorem N7 {α : Type} (lo hi : Int) : cut ([] : List α) lo hi = [] := by simp [cut]
theorem nA {α : Type} (xs : List α) (lo hi : Int) (h1 : lo ≤ hi) (h2 : hi ≤ xs.length) : (cut xs lo hi).length = hi.toNat - lo.toNat := by
 unfold cut; rw [List.length_take, List.length_drop]; omega
theorem getElem?_cut {α : Type} {xs : List α} {lo hi : Int} {i : Nat} {x : α} (h : (cut xs lo hi)[i]? = some x) : xs[lo.toNat + i]? = some x := by
 unfold cut at h
 rw [List.getElem?_take] at h
 split at h
 ·rwa [List.getElem?_drop] at h
 ·cases h
theorem RowAt.cut {w : World} {A : Nat → Prop} {k : K} {b off : Nat} {xs : List k.den} (h : RowAt w A k b off xs) (lo hi : Int) : RowAt w A k b (off + lo.toNat * k.size) (cut xs lo hi) := by
 intro i x hi'
 obtain ⟨ds, hd, hc⟩ := h _ _ (getElem?_cut hi')
 refine ⟨ds, hd, fun j hj => ?_⟩
 rw [← hc j hj]
 congr 2
 rw [Nat.add_mul]; omega
def CellsAt (w : World) (b : Nat) (cs : Array Value) (t : TypeId) : Prop := ∃ fz, w.heap[b]? = some (.cells cs t fz) ∧ (fz = (0, 0) ∨ cs.size ≤ fz.1)
theorem CellsAt.mk {w : World} {b : Nat} {cs : Array Value} {t : TypeId} (h : w.heap[b]? = some (.cells cs t (0, 0))) : CellsAt w b cs t := ⟨_, h, .inl rfl⟩
theorem CellsAt.lt {w : World} {b : Nat} {cs : Array Value} {t : TypeId} (h : CellsAt w b cs t) : b < w.heap.size := let ⟨_, h, _⟩ := h; (Array.getElem?_eq_some_iff.1 h).1
theorem CellsAt.stay {w w' : World} {b : Nat} {cs : Array Value} {t : TypeId} (h : CellsAt w b cs t) (hb : w'.heap[b]? = w.heap[b]?) : CellsAt w' b cs t := let ⟨fz, h, hf⟩ := h; ⟨fz, hb.trans h, hf⟩
structure Pl where
 b : Nat
 off : Nat
 cap : Nat
def FObj.rwB : FObj → Bool
 | .row _ _ rw _ => rw
 | _ => true
def occ (p : Pl) : FObj → Prop
 | .row _ _ rw _ => rw = true ∧ 0 < p.cap
 | .siter _ _ => True
abbrev kB := Nat → Option FObj
def Own (O : kB) (pl : Nat → Pl) (b : Nat) : Prop := ∃ o obj, O o = some obj ∧ occ (pl o) obj ∧ (pl o).b = b
def ObjAt (P : Program) (w : World) (A : Nat → Prop) (p : Pl) : FObj → Prop
 | .row k e rw xs => TyOk P e k ∧ xs.length ≤ p.cap ∧ (rw = true → 0 < p.cap → ∃ cs t, CellsAt w p.b cs t ∧ p.off + p.cap * k.size ≤ cs.size) ∧
   (rw = false → xs ≠ [] → ¬ A p.b) ∧ RowAt w A k p.b p.off xs
 | .siter s pos => w.heap[p.b]? = some (.stringIter s pos)
def NG : Nat := 3
def G0 (P : Program) (w : World) : Prop := Go.Lib.Utf8Tabs 1 2 w
def GW (P : Program) (w : World) : Prop := ∃ w0, G0 P w0 ∧ ∀ b, b < NG → w.heap[b]? = w0.heap[b]?
structure GOk (P : Program) (w : World) (own : Nat → Prop) : Prop where
 size : NG ≤ w.heap.size
 own : ∀ b, own b → NG ≤ b
 tab : GW P w
structure Env where
 P : Program
 w0 : World
 own : Nat → Prop
 Z : Nat → Prop
 N : Nat
 dfs : List Deferred
 hG : GOk P w0 own
def Av (E : Env) (O : kB) (pl : Nat → Pl) (b : Nat) : Prop := E.Z b ∨ Own O pl b
def winOk {α : Type} (xs : List α) (w : Option (Int × Int)) (off len : Nat) : Prop :=
 match w with
 | none => off = 0 ∧ len = xs.length
 | some (f, l) => 0 ≤ f ∧ 0 ≤ l ∧ f + l ≤ xs.length ∧ off = f.toNat ∧ len = l.toNat
def VRep1 (w : World) (A : Nat → Prop) (O : kB) (pl : Nat → Pl) : FV → Value → Prop
 | .dead, _ => True
 | .dat k x, v => ∃ cs, RepD w A k x cs ∧ (if k.isPair then v = .agg cs.toArray else cs = [v])
 | .nsl, v => v = .slice none 0 0
 | .sl o wn nn, v => ∃ k e rw xs, O o = some (.row k e rw xs) ∧ ∃ a cap off len, winOk xs wn off len ∧ v = .slice a len cap ∧ len ≤ cap ∧ (rw = true → off + cap = (pl o).cap) ∧
   (0 < len ∨ (rw = true ∧ 0 < cap) → a = some ⟨(pl o).b, (pl o).off + off * k.size, none⟩) ∧ (nn = true → a ≠ none)
 | .ptr o i off, v => ∃ k e rw xs, O o = some (.row k e rw xs) ∧ 0 ≤ i ∧ i < xs.length ∧ v = .pointer (some ⟨(pl o).b, (pl o).off + i.toNat * k.size + off, none⟩)
 | .nilp, v => v = .pointer none
 | .nilif, v => v = .nilIface
 | .fn f, v => v = .func (.func f) #[] #[]
 | .glob g, v => v = .pointer (some ⟨g, 0, none⟩)
 | .it o, v => ∃ st pos, O o = some (.siter st pos) ∧ v = .pointer (some ⟨(pl o).b, 0, none⟩)
 | .mp _, _ | .tnil, _ | .tcons _ _, _ => False
def VRepL (w : World) (A : Nat → Prop) (O : kB) (pl : Nat → Pl) : FV → List Value → Prop
 | .tnil, l => l = []
 | .tcons a b, l => ∃ x l', l = x :: l' ∧ VRep1 w A O pl a x ∧ VRepL w A O pl b l'
 | _, _ => False
def VRep (w : World) (A : Nat → Prop) (O : kB) (pl : Nat → Pl) (f : FV) (v : Value) : Prop :=
 VRep1 w A O pl f v ∨ ∃ l, v = .tuple l.toArray ∧ VRepL w A O pl f l
structure Fr (w0 : World) (own : Nat → Prop) (w : World) : Prop where
 os : w.os = w0.os
 tape : w.tape = w0.tape
 output : w.output = w0.output
 size : w0.heap.size ≤ w.heap.size
 block : ∀ b, b < w0.heap.size → ¬ own b → w.heap[b]? = w0.heap[b]?
structure RelP (E : Env) (pl : Nat → Pl) (w : World) (a : Act) (s : FState) : Prop where
 vals : ∀ t, VRep w (Av E s.objs pl) s.objs pl (s.tmps t) (a.tmps.getD t undef)
 objs : ∀ o obj, s.objs o = some obj → ObjAt E.P w (Av E s.objs pl) (pl o) obj
 sep : ∀ o o' obj obj', o ≠ o' → s.objs o = some obj → s.objs o' = some obj' → occ (pl o) obj → occ (pl o') obj' → (pl o).b ≠ (pl o').b
 fresh : ∀ b, Own s.objs pl b → b < w.heap.size ∧ (E.own b ∨ E.w0.heap.size ≤ b) ∧ ¬ E.Z b
 frame : Fr E.w0 E.own w
 dfr : a.defers = E.dfs
 N : a.tmps.size = E.N
 zlt : ∀ b, E.Z b → b < w.heap.size
def Rel (E : Env) (w : World) (a : Act) (s : FState) : Prop := ∃ pl, RelP E pl w a s
theorem fN {a b : Nat} (h : ¬ a = b) : Nat.beq a b = false := by
 cases hb : Nat.beq a b
 ·rfl
 ·exact absurd (Nat.eq_of_beq_eq_true hb) h
def FObj.like : FObj → FObj → Prop
 | .row k e rw xs, o => ∃ ys : List k.den, o = .row k e rw ys ∧ ys.length = xs.length
 | .siter _ _, o => ∃ s pos, o = .siter s pos
theorem FObj.like_refl (o : FObj) : o.like o := by cases o <;> simp [FObj.like]
theorem winOk.len {α : Type} {xs ys : List α} (h : ys.length = xs.length) {w : Option (Int × Int)} {off len : Nat} (hw : winOk xs w off len) : winOk ys w off len := by
 unfold winOk at *; split at hw <;> simp_all
section
variable {w w' : World} {A A' : Nat → Prop} {O O' : kB} {pl pl' : Nat → Pl}
theorem VRep1.move (hD : ∀ k x cs, RepD w A k x cs → RepD w' A' k x cs) (hO : ∀ o obj, O o = some obj → ∃ obj', O' o = some obj' ∧ obj.like obj' ∧ pl' o = pl o) {f : FV} {v : Value} (h : VRep1 w A O pl f v) : VRep1 w' A' O' pl' f v := by
 cases f <;> simp only [VRep1] at h ⊢ <;> try exact h
 case dat k x => obtain ⟨cs, hc, hv⟩ := h; exact ⟨cs, hD _ _ _ hc, hv⟩
 case sl o wn nn =>
  obtain ⟨k, e, rw, xs, ho, a, cap, off, len, hw, hv, hl, h1, h2, h3⟩ := h
  obtain ⟨obj', ho', ⟨ys, rfl, hy⟩, hp⟩ := hO _ _ ho
  exact ⟨k, e, rw, ys, ho', a, cap, off, len, hw.len hy, hv, hl, by rw [hp]; exact h1, by rw [hp]; exact h2, h3⟩
 case ptr o i off =>
  obtain ⟨k, e, rw, xs, ho, h0, h1, hv⟩ := h
  obtain ⟨obj', ho', ⟨ys, rfl, hy⟩, hp⟩ := hO _ _ ho
  exact ⟨k, e, rw, ys, ho', h0, by rw [hy]; exact h1, by rw [hp]; exact hv⟩
 case it o =>
  obtain ⟨st, pos, ho, hv⟩ := h
  obtain ⟨obj', ho', ⟨st', pos', rfl⟩, hp⟩ := hO _ _ ho
  exact ⟨st', pos', ho', by rw [hp]; exact hv⟩
theorem VRepL.move (hD : ∀ k x cs, RepD w A k x cs → RepD w' A' k x cs) (hO : ∀ o obj, O o = some obj → ∃ obj', O' o = some obj' ∧ obj.like obj' ∧ pl' o = pl o) : ∀ {f : FV} {l : List Value}, VRepL w A O pl f l → VRepL w' A' O' pl' f l
 | .tnil, _, h => h
 | .tcons a b, _, h => by
  obtain ⟨x, l', rfl, h1, h2⟩ := h
  exact ⟨x, l', rfl, h1.move hD hO, h2.move hD hO⟩
 | .dead, _, h | .dat _ _, _, h | .nsl, _, h | .sl _ _ _, _, h | .ptr _ _ _, _, h | .nilp, _, h | .nilif, _, h | .mp _, _, h | .it _, _, h | .fn _, _, h | .glob _, _, h => h.elim
theorem VRep.move (hD : ∀ k x cs, RepD w A k x cs → RepD w' A' k x cs) (hO : ∀ o obj, O o = some obj → ∃ obj', O' o = some obj' ∧ obj.like obj' ∧ pl' o = pl o) {f : FV} {v : Value} (h : VRep w A O pl f v) : VRep w' A' O' pl' f v :=
 h.imp (·.move hD hO) fun ⟨l, hv, hl⟩ => ⟨l, hv, hl.move hD hO⟩
theorem VRep.one1 {f : FV} {v : Value} (h : VRep1 w A O pl f v) : VRep w A O pl f v := .inl h
theorem VRep.dead (v : Value) : VRep w A O pl .dead v := .inl trivial
theorem VRep1.kill (o : Nat) (hD : ∀ k x cs, RepD w A k x cs → RepD w' A' k x cs) (hO : ∀ p obj, p ≠ o → O p = some obj → ∃ obj', O' p = some obj' ∧ obj.like obj' ∧ pl' p = pl p) {f : FV} {v : Value} (h : VRep1 w A O pl f v) : VRep1 w' A' O' pl' (f.kill o) v := by
 cases f <;> simp only [VRep1] at h <;> simp only [FV.kill] <;> try exact h
 case dat k x => obtain ⟨cs, hc, hv⟩ := h; exact ⟨cs, hD _ _ _ hc, hv⟩
 case sl p wn nn =>
  obtain ⟨k, e, rw, xs, ho, a, cap, off, len, hw, hv, hl, h1, h2, h3⟩ := h
  by_cases hp : p = o
  ·subst hp; simp [Nat.beq_refl, VRep1]
  ·obtain ⟨obj', ho', ⟨ys, rfl, hy⟩, hpl⟩ := hO _ _ hp ho
   have := fN hp
   rw [this]
   exact ⟨k, e, rw, ys, ho', a, cap, off, len, hw.len hy, hv, hl, by rw [hpl]; exact h1, by rw [hpl]; exact h2, h3⟩
 case ptr p i off =>
  obtain ⟨k, e, rw, xs, ho, h0, h1, hv⟩ := h
  by_cases hp : p = o
  ·subst hp; simp [Nat.beq_refl, VRep1]
  ·obtain ⟨obj', ho', ⟨ys, rfl, hy⟩, hpl⟩ := hO _ _ hp ho
   have := fN hp
   rw [this]
   exact ⟨k, e, rw, ys, ho', h0, by rw [hy]; exact h1, by rw [hpl]; exact hv⟩
 case it p =>
  obtain ⟨st, pos, ho, hv⟩ := h
  by_cases hp : p = o
  ·subst hp; simp [Nat.beq_refl, VRep1]
  ·obtain ⟨obj', ho', ⟨st', pos', rfl⟩, hpl⟩ := hO _ _ hp ho
   have := fN hp
   rw [this]
   exact ⟨st', pos', ho', by rw [hpl]; exact hv⟩
theorem VRepL.kill (o : Nat) (hD : ∀ k x cs, RepD w A k x cs → RepD w' A' k x cs) (hO : ∀ p obj, p ≠ o → O p = some obj → ∃ obj', O' p = some obj' ∧ obj.like obj' ∧ pl' p = pl p) : ∀ {f : FV} {l : List Value}, VRepL w A O pl f l → VRepL w' A' O' pl' (f.kill o) l
 | .tnil, _, h => h
 | .tcons a b, _, h => by
  obtain ⟨x, l', rfl, h1, h2⟩ := h
  exact ⟨x, l', rfl, h1.kill o hD hO, h2.kill o hD hO⟩
 | .dead, _, h | .dat _ _, _, h | .nsl, _, h | .sl _ _ _, _, h | .ptr _ _ _, _, h | .nilp, _, h | .nilif, _, h | .mp _, _, h | .it _, _, h | .fn _, _, h | .glob _, _, h => h.elim
theorem VRep.kill (o : Nat) (hD : ∀ k x cs, RepD w A k x cs → RepD w' A' k x cs) (hO : ∀ p obj, p ≠ o → O p = some obj → ∃ obj', O' p = some obj' ∧ obj.like obj' ∧ pl' p = pl p) {f : FV} {v : Value} (h : VRep w A O pl f v) : VRep w' A' O' pl' (f.kill o) v :=
 h.imp (·.kill o hD hO) fun ⟨l, hv, hl⟩ => ⟨l, hv, hl.kill o hD hO⟩
end
section
variable {E : Env} {pl : Nat → Pl} {w : World} {a : Act} {s : FState}
theorem RU (a : Act) (d : Tmp) (v : Value) (hd : d < a.tmps.size) (t : Nat) : (a.put (some d) v).tmps.getD t undef = if t = d then v else a.tmps.getD t undef := by
 simp only [Act.put, Array.getD_eq_getD_getElem?]
 by_cases h : t = d
 ·subst h; simp [hd]
 ·rw [if_neg h, Array.getElem?_setIfInBounds_ne (fun e => h e.symm)]
theorem aR1 (a : Act) (d : Option Tmp) (v : Value) : (a.put d v).tmps.size = a.tmps.size := by cases d <;> simp [Act.put]
theorem cJ7 (a : Act) (d : Option Tmp) (v : Value) : (a.put d v).defers = a.defers := by cases d <;> simp [Act.put]
def dN (E : Env) (d : Option Tmp) : Prop := ∀ x, d = some x → x < E.N
theorem RelP.put (h : RelP E pl w a s) {d : Option Tmp} (hd : dN E d) {f : FV} {v : Value} (hv : VRep w (Av E s.objs pl) s.objs pl f v) : RelP E pl w (a.put d v) (s.put d f) := by
 cases d with
 | none => exact h
 | some d =>
  have hlt : d < a.tmps.size := by rw [h.N]; exact hd d rfl
  refine ⟨fun t => ?_, h.objs, h.sep, h.fresh, h.frame, h.dfr, by rw [aR1]; exact h.N, h.zlt⟩
  rw [RU a d v hlt]
  simp only [FState.put, FState.set]
  by_cases ht : t = d
  ·subst ht; simpa [Nat.beq_refl] using hv
  ·have := fN ht
   rw [this, if_neg ht]; exact h.vals t
theorem RelP.gok (h : RelP E pl w a s) {own : Nat → Prop} (ho : ∀ b, own b → Own s.objs pl b) : GOk E.P w own :=
 ⟨Nat.le_trans E.hG.size h.frame.size, fun b hb => (h.fresh b (ho b hb)).2.1.elim (E.hG.own b) (fun h => Nat.le_trans E.hG.size h), by
  obtain ⟨w0, h1, h2⟩ := E.hG.tab
  exact ⟨w0, h1, fun b hb => (h.frame.block b (Nat.lt_of_lt_of_le hb E.hG.size) (fun ho => Nat.lt_irrefl _ (Nat.lt_of_lt_of_le hb (E.hG.own b ho)))).trans (h2 b hb)⟩⟩
theorem RelP.world (h : RelP E pl w a s) {w' : World} (hh : w'.heap = w.heap) (ho : w'.os = w.os) (ht : w'.tape = w.tape) (hp : w'.output = w.output) : RelP E pl w' a s := by
 have hst : Stay w (Av E s.objs pl) w' (Av E s.objs pl) := fun b _ hA => ⟨hA, by rw [hh]⟩
 refine ⟨fun t => (h.vals t).move (fun k x cs hc => hc.stay hst) (fun o obj hob => ⟨obj, hob, obj.like_refl, rfl⟩), fun o obj hob => ?_, h.sep, fun b hb => by rw [hh]; exact h.fresh b hb, ⟨ho.trans h.frame.os, ht.trans h.frame.tape, hp.trans h.frame.output, by rw [hh]; exact h.frame.size, fun b hb hn => by rw [hh]; exact h.frame.block b hb hn⟩, h.dfr, h.N, by rw [hh]; exact h.zlt⟩
 have := h.objs o obj hob
 cases obj with
 | row k e rw xs =>
  obtain ⟨h0, h1, h2, h3, h4⟩ := this
  exact ⟨h0, h1, fun a b => (let ⟨cs, t, q, r⟩ := h2 a b; ⟨cs, t, q.stay (by rw [hh]), r⟩), h3, h4.stay hst (by rw [hh])⟩
 | siter st pos => simpa [ObjAt, hh] using this
theorem RelP.ev (h : RelP E pl w a s) (x : Operand) (f : FV) (hf : ev s x = f) : VRep w (Av E s.objs pl) s.objs pl f (a.eval x) := by
 subst hf
 cases x with
 | tmp t => exact h.vals t
 | const v =>
  show VRep _ _ _ _ (JG v) v
  cases v with
  | slice a l c =>
   cases a with
   | some a => exact .inl trivial
   | none => cases l <;> cases c <;> first | exact .inl rfl | exact .inl trivial
  | pointer a => cases a <;> first | exact .inl rfl | exact .inl trivial
  | tuple l =>
   obtain ⟨l⟩ := l
   cases l with
   | nil => exact .inr ⟨[], rfl, rfl⟩
   | cons x l => exact .inl trivial
  | _ => first | exact .inl ⟨_, rfl, rfl⟩ | exact .inl rfl | exact .inl trivial
 | global g => exact .inl rfl
 | func f => exact .inl rfl
end
end Go.Proofs.YticibdjilmclgaaDoorZF

namespace Go.Proofs.YticibdjilmclgaaDoorZF
open Go
set_option linter.unusedVariables false
def RowC (w : World) (A : Nat → Prop) (k : K) : List k.den → List Value → Prop
 | [], cs => cs = []
 | x :: xs, cs => ∃ c r, cs = c ++ r ∧ RepD w A k x c ∧ RowC w A k xs r
section
variable {w w' : World} {A A' : Nat → Prop} {k : K}
theorem RowC.len : ∀ {xs : List k.den} {cs : List Value}, RowC w A k xs cs → cs.length = xs.length * k.size
 | [], _, h => by cases h; simp
 | x :: xs, _, h => by obtain ⟨c, r, rfl, h1, h2⟩ := h; rw [List.length_append, h1.len, h2.len, List.length_cons, Nat.add_mul]; omega
theorem RowC.one : ∀ {xs : List k.den} {cs : List Value}, RowC w A k xs cs → ∀ v ∈ cs, v.oneCell' = true
 | [], _, h => by cases h; simp
 | x :: xs, _, h => by
  obtain ⟨c, r, rfl, h1, h2⟩ := h
  intro v hv
  rcases List.mem_append.1 hv with hv | hv
  ·exact h1.one v hv
  ·exact h2.one v hv
theorem RowC.app : ∀ {xs ys : List k.den} {cs ds : List Value}, RowC w A k xs cs → RowC w A k ys ds → RowC w A k (xs ++ ys) (cs ++ ds)
 | [], _, _, _, h, h' => by cases h; exact h'
 | x :: xs, _, _, _, h, h' => by obtain ⟨c, r, rfl, h1, h2⟩ := h; exact ⟨c, r ++ _, by simp, h1, h2.app h'⟩
theorem RowC.stay (hs : Stay w A w' A') : ∀ {xs : List k.den} {cs : List Value}, RowC w A k xs cs → RowC w' A' k xs cs
 | [], _, h => h
 | x :: xs, _, h => by obtain ⟨c, r, rfl, h1, h2⟩ := h; exact ⟨c, r, rfl, h1.stay hs, h2.stay hs⟩
theorem RowC.at_ : ∀ {xs : List k.den} {cs : List Value}, RowC w A k xs cs → ∀ i x, xs[i]? = some x → ∃ ds, RepD w A k x ds ∧ ∀ j, j < k.size → cs[i * k.size + j]? = ds[j]?
 | [], _, h, i, x, hi => by simp at hi
 | y :: xs, _, h, 0, x, hi => by
  obtain ⟨c, r, rfl, h1, h2⟩ := h
  simp at hi
  subst hi
  refine ⟨c, h1, fun j hj => ?_⟩
  rw [List.getElem?_append_left (by rw [h1.len]; omega)]
  simp
 | y :: xs, _, h, i + 1, x, hi => by
  obtain ⟨c, r, rfl, h1, h2⟩ := h
  simp at hi
  obtain ⟨ds, hd, hc⟩ := h2.at_ i x hi
  refine ⟨ds, hd, fun j hj => ?_⟩
  rw [List.getElem?_append_right (by rw [h1.len, Nat.add_mul]; omega), h1.len, ← hc j hj]
  congr 1
  rw [Nat.add_mul]; omega
theorem RowC.toAt {xs : List k.den} {cs : List Value} (h : RowC w A k xs cs) {b off : Nat} (hr : w.rangeAt b off cs) : RowAt w A k b off xs := by
 intro i x hi
 obtain ⟨ds, hd, hc⟩ := h.at_ i x hi
 refine ⟨ds, hd, fun j hj => ?_⟩
 have hl : j < ds.length := by rw [hd.len]; exact hj
 have := hc j hj
 rw [List.getElem?_eq_getElem hl] at this ⊢
 rw [← hr _ _ this]
 congr 2; omega
theorem RowAt.toC : ∀ {xs : List k.den} {b off : Nat}, RowAt w A k b off xs → ∃ cs, RowC w A k xs cs ∧ w.rangeAt b off cs
 | [], b, off, h => ⟨[], rfl, fun j v hv => by simp at hv⟩
 | x :: xs, b, off, h => by
  obtain ⟨ds, hd, hc⟩ := h 0 x rfl
  have ht : RowAt w A k b (off + k.size) xs := fun i y hi => by
   obtain ⟨es, he, hce⟩ := h (i + 1) y (by simpa using hi)
   refine ⟨es, he, fun j hj => ?_⟩
   rw [← hce j hj]
   congr 2
   rw [Nat.add_mul]; omega
  obtain ⟨cs, h1, h2⟩ := ht.toC
  refine ⟨ds ++ cs, ⟨ds, cs, rfl, hd, h1⟩, fun j v hv => ?_⟩
  by_cases hj : j < k.size
  ·rw [List.getElem?_append_left (by rw [hd.len]; exact hj)] at hv
   rw [← hv, ← hc j hj]
   congr 2; omega
  ·rw [List.getElem?_append_right (by rw [hd.len]; omega), hd.len] at hv
   rw [← h2 _ _ hv]
   congr 2; omega
end
theorem bZ2 (w : World) (cs : List Value) (ex : Array Value) (t : TypeId) (fz : Nat × Nat) : (w.alloc (.cells (cs.toArray ++ ex) t fz)).rangeAt w.heap.size 0 cs := fun j v hv => by
 have hj : j < cs.length := (List.getElem?_eq_some_iff.1 hv).1
 rw [cell_of_row _ _ _ _ _ _ (heap_alloc_new w _), Array.getElem?_append_left (by simp; omega)]
 simpa using hv
structure Ext (w w' : World) : Prop where
 os : w'.os = w.os
 tape : w'.tape = w.tape
 output : w'.output = w.output
 size : w.heap.size ≤ w'.heap.size
 block : ∀ b, b < w.heap.size → w'.heap[b]? = w.heap[b]?
theorem Ext.refl (w : World) : Ext w w := ⟨rfl, rfl, rfl, Nat.le_refl _, fun _ _ => rfl⟩
theorem Ext.alloc (w : World) (o : Obj) : Ext w (w.alloc o) := ⟨rfl, rfl, rfl, by simp, fun b hb => by show (w.heap.push o)[b]? = _; rw [Array.getElem?_push, if_neg (by omega)]⟩
theorem Ext.drewAlloc (w : World) (o : Obj) : Ext w (w.drew.alloc o) := ⟨rfl, rfl, rfl, by simp, fun b hb => by show (w.heap.push o)[b]? = _; rw [Array.getElem?_push, if_neg (by omega)]⟩
structure Wr (w w' : World) (c : Prop) (g : Nat) : Prop where
 os : w'.os = w.os
 tape : w'.tape = w.tape
 output : w'.output = w.output
 size : w.heap.size ≤ w'.heap.size
 block : ∀ b, b < w.heap.size → ¬ (c ∧ b = g) → w'.heap[b]? = w.heap[b]?
theorem Ext.wr {w w' : World} (h : Ext w w') (c : Prop) (g : Nat) : Wr w w' c g := ⟨h.os, h.tape, h.output, h.size, fun b hb _ => h.block b hb⟩
theorem Wr.setCell (w : World) (b o : Nat) (v : Value) : Wr w (w.setCell ⟨b, o, none⟩ v) True b :=
 ⟨rfl, rfl, rfl, by simp [World.setCell], fun k hk hn => by
  simp only [World.setCell, Array.getElem?_modify]
  rw [if_neg (fun e => hn ⟨trivial, e.symm⟩)]⟩
theorem Wr.trans {w w' w'' : World} {c : Prop} {g : Nat} (h : Wr w w' c g) (h' : Wr w' w'' c g) : Wr w w'' c g :=
 ⟨h'.os.trans h.os, h'.tape.trans h.tape, h'.output.trans h.output, Nat.le_trans h.size h'.size, fun b hb hn => (h'.block b (Nat.lt_of_lt_of_le hb h.size) hn).trans (h.block b hb hn)⟩
theorem Wr.refl (w : World) (c : Prop) (g : Nat) : Wr w w c g := (Ext.refl w).wr c g
theorem Wr.setCells (b : Nat) : ∀ (vs : List Value) (o : Nat) (w : World), Wr w (w.setCells b o vs) True b
 | [], _, w => Wr.refl w _ _
 | v :: r, o, w => (Wr.setCell w b o v).trans (Wr.setCells b r (o + 1) _)
theorem MC (w : World) (b o : Nat) (v : Value) {cs : Array Value} {t : TypeId} {fz : Nat × Nat} (h : w.heap[b]? = some (.cells cs t fz)) : (w.setCell ⟨b, o, none⟩ v).heap[b]? = some (.cells (cs.setIfInBounds o v) t fz) := by
 simp [World.setCell, Array.getElem?_modify, h]
theorem rY (b : Nat) : ∀ (vs : List Value) (o : Nat) (w : World) {cs : Array Value} {t : TypeId} {fz : Nat × Nat}, w.heap[b]? = some (.cells cs t fz) → ∃ cs', (w.setCells b o vs).heap[b]? = some (.cells cs' t fz) ∧ cs'.size = cs.size
 | [], _, w, cs, _, _, h => ⟨cs, h, rfl⟩
 | v :: r, o, w, cs, t, fz, h => by
  obtain ⟨cs', h', hs⟩ := rY b r (o + 1) _ (MC w b o v h)
  exact ⟨cs', h', by simpa using hs⟩
theorem CellsAt.setCells {w : World} {b : Nat} {cs : Array Value} {t : TypeId} (h : CellsAt w b cs t) (o : Nat) (vs : List Value) : ∃ cs', CellsAt (w.setCells b o vs) b cs' t ∧ cs'.size = cs.size := by
 obtain ⟨fz, h, hf⟩ := h
 obtain ⟨cs', h', hs⟩ := rY b vs o w h
 exact ⟨cs', ⟨fz, h', by rw [hs]; exact hf⟩, hs⟩
theorem kP {w : World} {b o n : Nat} {cs : Array Value} {t : TypeId} (h : CellsAt w b cs t) (hn : o + n ≤ cs.size) : w.there b o n := fun j hj => by
 obtain ⟨fz, h, hf⟩ := h
 constructor
 ·rw [cell_of_row _ _ _ _ _ _ h]; simp; omega
 ·obtain ⟨lo, hi⟩ := fz
  simp only [World.frozen?, h]
  rcases hf with hf | hf
  ·cases hf; simp
  ·simp only at hf
   simp; omega
def upd (pl : Nat → Pl) (d : Nat) (p : Pl) : Nat → Pl := fun o => if o = d then p else pl o
theorem aU (pl : Nat → Pl) (d : Nat) (p : Pl) : upd pl d p d = p := by simp [upd]
theorem bJ (pl : Nat → Pl) (d : Nat) (p : Pl) {o : Nat} (h : o ≠ d) : upd pl d p o = pl o := by simp [upd, h]
theorem aT (s : FState) (d : Nat) (v : Option FObj) : (s.setO d v).objs d = v := by simp [FState.setO, Nat.beq_refl]
theorem aZ (s : FState) (d : Nat) (v : Option FObj) {o : Nat} (h : o ≠ d) : (s.setO d v).objs o = s.objs o := by simp [FState.setO, fN h]
theorem DE {p : Pl} {o o' : FObj} (h : o.like o') : occ p o' ↔ occ p o := by
 cases o with
 | row k e rw xs => obtain ⟨ys, rfl, _⟩ := h; exact Iff.rfl
 | siter s pos => obtain ⟨s', pos', rfl⟩ := h; exact Iff.rfl
theorem ObjAt.stay {P : Program} {w w' : World} {A A' : Nat → Prop} (hs : Stay w A w' A') {p : Pl} {obj : FObj} (hb : occ p obj → w'.heap[p.b]? = w.heap[p.b]?) (h : ObjAt P w A p obj) : ObjAt P w' A' p obj := by
 cases obj with
 | row k e rw xs =>
  obtain ⟨h0, h1, h2, h3, h4⟩ := h
  by_cases hx : xs = []
  ·subst hx
   exact ⟨h0, h1, fun hr hc => (let ⟨cs, t, q, r⟩ := h2 hr hc; ⟨cs, t, q.stay (hb ⟨hr, hc⟩), r⟩), fun _ h => absurd rfl h, RowAt.nil _ _ _ _ _⟩
  ·have hlt := h4.lt hx
   have hpos : 0 < p.cap := Nat.lt_of_lt_of_le (List.length_pos_iff.2 hx) h1
   cases rw with
   | true =>
    have hb' := hb ⟨rfl, hpos⟩
    exact ⟨h0, h1, fun hr hc => (let ⟨cs, t, q, r⟩ := h2 hr hc; ⟨cs, t, q.stay hb', r⟩), fun h => (by cases h), h4.stay hs hb'⟩
   | false =>
    obtain ⟨hA, hb'⟩ := hs p.b hlt (h3 rfl hx)
    exact ⟨h0, h1, fun h => (by cases h), fun _ _ => hA, h4.stay hs hb'⟩
 | siter s pos => exact (hb trivial).trans h
section
variable {E : Env} {pl : Nat → Pl} {w w' : World} {a : Act} {s : FState}
theorem RelP.ne (h : RelP E pl w a s) {b : Nat} (hA : ¬ Av E s.objs pl b) {o : Nat} {obj : FObj} (ho : s.objs o = some obj) (hc : occ (pl o) obj) : b ≠ (pl o).b :=
 fun e => hA (.inr ⟨o, obj, ho, hc, e.symm⟩)
theorem Fr.ext {w0 : World} {own : Nat → Prop} (h : Fr w0 own w) {c : Prop} {g : Nat} (hw : Wr w w' c g) (hg : c → own g ∨ w0.heap.size ≤ g) : Fr w0 own w' :=
 ⟨hw.os.trans h.os, hw.tape.trans h.tape, hw.output.trans h.output, Nat.le_trans h.size hw.size, fun b hb hn => (hw.block b (Nat.lt_of_lt_of_le hb h.size) (fun ⟨hc, e⟩ => by
  subst e
  rcases hg hc with h1 | h1
  ·exact hn h1
  ·omega)).trans (h.block b hb hn)⟩
theorem RelP.ext (h : RelP E pl w a s) (hw : Ext w w') : RelP E pl w' a s := by
 have hst : Stay w (Av E s.objs pl) w' (Av E s.objs pl) := fun b hb hA => ⟨hA, hw.block b hb⟩
 exact ⟨fun t => (h.vals t).move (fun k x cs hc => hc.stay hst) (fun o obj hob => ⟨obj, hob, obj.like_refl, rfl⟩),
  fun o obj hob => (h.objs o obj hob).stay hst (fun hc => hw.block _ (h.fresh _ ⟨o, obj, hob, hc, rfl⟩).1), h.sep,
  fun b hb => ⟨Nat.lt_of_lt_of_le (h.fresh b hb).1 hw.size, (h.fresh b hb).2⟩, h.frame.ext (hw.wr False 0) (fun h => h.elim), h.dfr, h.N, fun b hz => Nat.lt_of_lt_of_le (h.zlt b hz) hw.size⟩
theorem RelP.new (h : RelP E pl w a s) (hw : Ext w w') {d : Nat} (hd : s.objs d = none) (obj : FObj) (p : Pl) (hp : occ p obj → w.heap.size ≤ p.b ∧ p.b < w'.heap.size)
  (hobj : ∀ A', (∀ b, A' b → Av E s.objs pl b ∨ (occ p obj ∧ p.b = b)) → ObjAt E.P w' A' p obj) : RelP E (upd pl d p) w' a (s.setO d (some obj)) := by
 have hne : ∀ o ob, s.objs o = some ob → o ≠ d := fun o ob ho e => by subst e; rw [hd] at ho; cases ho
 have hAv : ∀ b, Av E (s.setO d (some obj)).objs (upd pl d p) b → Av E s.objs pl b ∨ (occ p obj ∧ p.b = b) := by
  rintro b (hz | ⟨o, ob, ho, hc, hb⟩)
  ·exact .inl (.inl hz)
  ·by_cases e : o = d
   ·subst e
    rw [aT] at ho
    cases ho
    rw [aU] at hc hb
    exact .inr ⟨hc, hb⟩
   ·rw [aZ _ _ _ e] at ho
    rw [bJ _ _ _ e] at hc hb
    exact .inl (.inr ⟨o, ob, ho, hc, hb⟩)
 have hst : Stay w (Av E s.objs pl) w' (Av E (s.setO d (some obj)).objs (upd pl d p)) := fun b hb hA => ⟨fun hA' => by
  rcases hAv b hA' with h1 | ⟨h1, h2⟩
  ·exact hA h1
  ·have := (hp h1).1; omega, hw.block b hb⟩
 have hO : ∀ o ob, s.objs o = some ob → ∃ ob', (s.setO d (some obj)).objs o = some ob' ∧ ob.like ob' ∧ upd pl d p o = pl o := fun o ob ho =>
  ⟨ob, by rw [aZ _ _ _ (hne o ob ho)]; exact ho, ob.like_refl, bJ _ _ _ (hne o ob ho)⟩
 refine ⟨fun t => (h.vals t).move (fun k x cs hc => hc.stay hst) hO, fun o ob ho => ?_, fun o o' ob ob' hoo ho ho' hc hc' => ?_, fun b hb => ?_, h.frame.ext (hw.wr False 0) (fun h => h.elim), h.dfr, h.N, fun b hz => Nat.lt_of_lt_of_le (h.zlt b hz) hw.size⟩
 ·by_cases e : o = d
  ·subst e
   rw [aT] at ho
   cases ho
   rw [aU]
   exact hobj _ hAv
  ·rw [aZ _ _ _ e] at ho
   rw [bJ _ _ _ e]
   exact (h.objs o ob ho).stay hst (fun hc => hw.block _ (h.fresh _ ⟨o, ob, ho, hc, rfl⟩).1)
 ·by_cases e : o = d
  ·subst e
   have e' : o' ≠ o := fun e => hoo e.symm
   rw [aT] at ho
   cases ho
   rw [aZ _ _ _ e'] at ho'
   rw [aU] at hc
   rw [bJ _ _ _ e'] at hc'
   rw [aU, bJ _ _ _ e']
   have h1 := (h.fresh _ ⟨o', ob', ho', hc', rfl⟩).1
   have h2 := (hp hc).1
   omega
  ·rw [aZ _ _ _ e] at ho
   rw [bJ _ _ _ e] at hc ⊢
   by_cases e' : o' = d
   ·subst e'
    rw [aT] at ho'
    cases ho'
    rw [aU] at hc' ⊢
    have h1 := (h.fresh _ ⟨o, ob, ho, hc, rfl⟩).1
    have h2 := (hp hc').1
    omega
   ·rw [aZ _ _ _ e'] at ho'
    rw [bJ _ _ _ e'] at hc' ⊢
    exact h.sep o o' ob ob' hoo ho ho' hc hc'
 ·obtain ⟨o, ob, ho, hc, rfl⟩ := hb
  by_cases e : o = d
  ·subst e
   rw [aT] at ho
   cases ho
   rw [aU] at hc ⊢
   have h2 := hp hc
   refine ⟨h2.2, .inr (Nat.le_trans h.frame.size h2.1), fun hz => ?_⟩
   have h3 := h.zlt _ hz
   omega
  ·rw [aZ _ _ _ e] at ho
   rw [bJ _ _ _ e] at hc ⊢
   have h1 := h.fresh _ ⟨o, ob, ho, hc, rfl⟩
   exact ⟨Nat.lt_of_lt_of_le h1.1 hw.size, h1.2⟩
theorem RelP.write (h : RelP E pl w a s) {o : Nat} {obj obj' : FObj} (ho : s.objs o = some obj) (hl : obj.like obj') (hc : occ (pl o) obj) (hw : Wr w w' True (pl o).b)
  (hobj : ∀ A', (∀ b, A' b → Av E s.objs pl b) → Stay w (Av E s.objs pl) w' A' → ObjAt E.P w' A' (pl o) obj') : RelP E pl w' a (s.setO o (some obj')) := by
 have hO : ∀ p ob, s.objs p = some ob → ∃ ob', (s.setO o (some obj')).objs p = some ob' ∧ ob.like ob' ∧ pl p = pl p := fun p ob hp => by
  by_cases e : p = o
  ·subst e
   rw [ho] at hp
   cases hp
   exact ⟨obj', aT _ _ _, hl, rfl⟩
  ·exact ⟨ob, by rw [aZ _ _ _ e]; exact hp, ob.like_refl, rfl⟩
 have hback : ∀ p ob', (s.setO o (some obj')).objs p = some ob' → ∃ ob, s.objs p = some ob ∧ ob.like ob' := fun p ob' hp => by
  by_cases e : p = o
  ·subst e
   rw [aT] at hp
   cases hp
   exact ⟨obj, ho, hl⟩
  ·rw [aZ _ _ _ e] at hp
   exact ⟨ob', hp, ob'.like_refl⟩
 have hOwn : ∀ b, Own (s.setO o (some obj')).objs pl b → Own s.objs pl b := fun b ⟨p, ob', hp, hcc, hb⟩ => by
  obtain ⟨ob, hp', hl'⟩ := hback p ob' hp
  exact ⟨p, ob, hp', (DE hl').1 hcc, hb⟩
 have hAv : ∀ b, Av E (s.setO o (some obj')).objs pl b → Av E s.objs pl b := fun b hb => hb.imp id (hOwn b)
 have hst : Stay w (Av E s.objs pl) w' (Av E (s.setO o (some obj')).objs pl) := fun b hb hA => ⟨fun hA' => hA (hAv b hA'), hw.block b hb (fun hh => h.ne hA ho hc hh.2)⟩
 have hin := h.fresh _ ⟨o, obj, ho, hc, rfl⟩
 refine ⟨fun t => (h.vals t).move (fun k x cs hc => hc.stay hst) hO, fun p ob' hp => ?_, fun p p' ob ob' hpp hp hp' hc1 hc2 => ?_, fun b hb => ?_, h.frame.ext hw (fun _ => hin.2.1), h.dfr, h.N, fun b hz => Nat.lt_of_lt_of_le (h.zlt b hz) hw.size⟩
 ·by_cases e : p = o
  ·subst e
   rw [aT] at hp
   cases hp
   exact hobj _ hAv hst
  ·rw [aZ _ _ _ e] at hp
   exact (h.objs p ob' hp).stay hst (fun hcc => hw.block _ (h.fresh _ ⟨p, ob', hp, hcc, rfl⟩).1 (fun hh => h.sep p o ob' obj e hp ho hcc hc hh.2))
 ·obtain ⟨q, hq, hlq⟩ := hback p ob hp
  obtain ⟨q', hq', hlq'⟩ := hback p' ob' hp'
  exact h.sep p p' q q' hpp hq hq' ((DE hlq).1 hc1) ((DE hlq').1 hc2)
 ·have h1 := h.fresh b (hOwn b hb)
  exact ⟨Nat.lt_of_lt_of_le h1.1 hw.size, h1.2⟩
theorem gY (s : FState) (o p : Nat) : (s.kill o).objs p = if p = o then none else s.objs p := by
 by_cases e : p = o
 ·subst e; simp [FState.kill, Nat.beq_refl]
 ·simp [FState.kill, fN e, e]
theorem RelP.kill (h : RelP E pl w a s) (o : Nat) : RelP E pl w a (s.kill o) := by
 have hback : ∀ p ob, (s.kill o).objs p = some ob → p ≠ o ∧ s.objs p = some ob := fun p ob hp => by
  rw [gY] at hp
  split at hp
  ·cases hp
  ·exact ⟨by assumption, hp⟩
 have hOwn : ∀ b, Own (s.kill o).objs pl b → Own s.objs pl b := fun b ⟨p, ob, hp, hc, hb⟩ => ⟨p, ob, (hback p ob hp).2, hc, hb⟩
 have hst : Stay w (Av E s.objs pl) w (Av E (s.kill o).objs pl) := fun b hb hA => ⟨fun hA' => hA (hA'.imp id (hOwn b)), rfl⟩
 refine ⟨fun t => (h.vals t).kill o (fun k x cs hc => hc.stay hst) (fun p ob hpo hp => ⟨ob, by rw [gY, if_neg hpo]; exact hp, ob.like_refl, rfl⟩), fun p ob hp => ?_, fun p p' ob ob' hpp hp hp' => ?_, fun b hb => h.fresh b (hOwn b hb), h.frame, h.dfr, h.N, h.zlt⟩
 ·exact (h.objs p ob (hback p ob hp).2).stay hst (fun _ => rfl)
 ·exact h.sep p p' ob ob' hpp (hback p ob hp).2 (hback p' ob' hp').2
theorem RelP.repl (h : RelP E pl w a s) {o : Nat} {obj : FObj} (ho : s.objs o = some obj) (hw : Wr w w' (occ (pl o) obj) (pl o).b) (obj' : FObj) (p : Pl)
  (hp : occ p obj' → ((occ (pl o) obj ∧ p.b = (pl o).b) ∨ w.heap.size ≤ p.b) ∧ p.b < w'.heap.size)
  (hobj : ∀ A', (∀ b, A' b → Av E s.objs pl b ∨ (occ p obj' ∧ p.b = b)) → Stay w (Av E s.objs pl) w' A' → ObjAt E.P w' A' p obj') : RelP E (upd pl o p) w' a ((s.kill o).setO o (some obj')) := by
 have hback : ∀ q ob, q ≠ o → ((s.kill o).setO o (some obj')).objs q = some ob → s.objs q = some ob := fun q ob hq hh => by
  rw [aZ _ _ _ hq, gY, if_neg hq] at hh
  exact hh
 have hAv : ∀ b, Av E ((s.kill o).setO o (some obj')).objs (upd pl o p) b → Av E s.objs pl b ∨ (occ p obj' ∧ p.b = b) := by
  rintro b (hz | ⟨q, ob, hq, hc, hb⟩)
  ·exact .inl (.inl hz)
  ·by_cases e : q = o
   ·subst e
    rw [aT] at hq
    cases hq
    rw [aU] at hc hb
    exact .inr ⟨hc, hb⟩
   ·have hq' := hback q ob e hq
    rw [bJ _ _ _ e] at hc hb
    exact .inl (.inr ⟨q, ob, hq', hc, hb⟩)
 have hst : Stay w (Av E s.objs pl) w' (Av E ((s.kill o).setO o (some obj')).objs (upd pl o p)) := fun b hb hA => ⟨fun hA' => by
  rcases hAv b hA' with h1 | ⟨h1, h2⟩
  ·exact hA h1
  ·rcases (hp h1).1 with ⟨h3, h4⟩ | h3
   ·exact h.ne hA ho h3 (h2.symm.trans h4)
   ·omega, hw.block b hb (fun hh => h.ne hA ho hh.1 hh.2)⟩
 refine ⟨fun t => (h.vals t).kill o (fun k x cs hc => hc.stay hst) (fun q ob hqo hq => ⟨ob, by rw [aZ _ _ _ hqo, gY, if_neg hqo]; exact hq, ob.like_refl, bJ _ _ _ hqo⟩),
  fun q ob hq => ?_, fun q q' ob ob' hqq hq hq' hc hc' => ?_, fun b hb => ?_, h.frame.ext hw (fun hc => (h.fresh _ ⟨o, obj, ho, hc, rfl⟩).2.1), h.dfr, h.N, fun b hz => Nat.lt_of_lt_of_le (h.zlt b hz) hw.size⟩
 ·by_cases e : q = o
  ·subst e
   rw [aT] at hq
   cases hq
   rw [aU]
   exact hobj _ hAv hst
  ·have hq' := hback q ob e hq
   rw [bJ _ _ _ e]
   exact (h.objs q ob hq').stay hst (fun hc => hw.block _ (h.fresh _ ⟨q, ob, hq', hc, rfl⟩).1 (fun hh => h.sep q o ob obj e hq' ho hc hh.1 hh.2))
 ·have key : ∀ q ob, q ≠ o → s.objs q = some ob → occ (pl q) ob → occ p obj' → (pl q).b ≠ p.b := fun q ob hq hqo hcq hcp e => by
   rcases (hp hcp).1 with ⟨h3, h4⟩ | h3
   ·exact h.sep q o ob obj hq hqo ho hcq h3 (e.trans h4)
   ·have := (h.fresh _ ⟨q, ob, hqo, hcq, rfl⟩).1; omega
  by_cases e : q = o
  ·subst e
   have e' : q' ≠ q := fun e => hqq e.symm
   rw [aT] at hq
   cases hq
   rw [aU] at hc
   rw [bJ _ _ _ e'] at hc'
   rw [aU, bJ _ _ _ e']
   exact (key q' ob' e' (hback q' ob' e' hq') hc' hc).symm
  ·rw [bJ _ _ _ e] at hc ⊢
   by_cases e' : q' = o
   ·subst e'
    rw [aT] at hq'
    cases hq'
    rw [aU] at hc' ⊢
    exact key q ob e (hback q ob e hq) hc hc'
   ·rw [bJ _ _ _ e'] at hc' ⊢
    exact h.sep q q' ob ob' hqq (hback q ob e hq) (hback q' ob' e' hq') hc hc'
 ·obtain ⟨q, ob, hq, hc, rfl⟩ := hb
  by_cases e : q = o
  ·subst e
   rw [aT] at hq
   cases hq
   rw [aU] at hc ⊢
   have h2 := hp hc
   refine ⟨h2.2, ?_, fun hz => ?_⟩
   ·rcases h2.1 with ⟨h3, h4⟩ | h3
    ·rw [h4]; exact (h.fresh _ ⟨q, obj, ho, h3, rfl⟩).2.1
    ·exact .inr (Nat.le_trans h.frame.size h3)
   ·rcases h2.1 with ⟨h3, h4⟩ | h3
    ·exact (h.fresh _ ⟨q, obj, ho, h3, rfl⟩).2.2 (h4 ▸ hz)
    ·have h3' := h.zlt _ hz
     omega
  ·have hq' := hback q ob e hq
   rw [bJ _ _ _ e] at hc ⊢
   have h1 := h.fresh _ ⟨q, ob, hq', hc, rfl⟩
   exact ⟨Nat.lt_of_lt_of_le h1.1 hw.size, h1.2⟩
end
end Go.Proofs.YticibdjilmclgaaDoorZF

namespace Go.Proofs.YticibdjilmclgaaDoorZF
open Go
set_option linter.unusedVariables false
set_option linter.unusedSimpArgs false
structure FoOk (P : Program) (t : TypeId) (l : List (Nat × Nat)) : Prop where
 und : ((P.underlying t).bind fun d => match d with | .struct fs => some (fs.toList.map fun f => (f.offset, f.type)) | _ => none) = some l
 infos : (l.all fun p => (P.info? p.2).isSome) = true
theorem FoOk.und' {P : Program} {t : TypeId} {l : List (Nat × Nat)} (h : FoOk P t l) : ∃ fs, P.underlying t = some (.struct fs) ∧ fs.toList.map (fun f => (f.offset, f.type)) = l := by
 have h := h.und
 cases hu : P.underlying t with
 | none => simp [hu] at h
 | some d =>
  cases d <;> simp [hu] at h
  exact ⟨_, rfl, by simpa using h⟩
def I6 : K → Bool
 | .int _ => true
 | .bool => true
 | .str => true
 | _ => false
def fsB (kt : List (Nat × K)) : List Field → K → Nat → Bool
 | [], _, _ => false
 | [f], k, off => !(f.name == "_") && Nat.beq f.offset off && decide (lk kt f.type = some k) && I6 k
 | f :: fs, .pair a b, off => !(f.name == "_") && Nat.beq f.offset off && decide (lk kt f.type = some a) && I6 a && fsB kt fs b (off + a.size)
 | _, _, _ => false
def MX (P : Program) (kt : List (Nat × K)) (t : TypeId) : Bool :=
 match P.underlying t, lk kt t with
 | some (.struct fs), some k => fsB kt fs.toList k 0 && !P.stoodInHeld t && !P.eqGuardType P.depth t
 | _, _ => false
structure TabOk (P : Program) (Γ : Ctx) : Prop where
 kt : ∀ t k, lk Γ.kt t = some k → TyOk P t k
 se : ∀ t e, lk Γ.se t = some e → P.underlying t = some (.slice e)
 fos : ∀ t l, lk Γ.fo t = some l → FoOk P t l
 eqs : ∀ t, jZ t Γ.eqs = true → MX P Γ.kt t = true
theorem TabOk.fo {P : Program} {Γ : Ctx} (h : TabOk P Γ) (t : TypeId) (j q ft : Nat) (hf : iG Γ t j = some (q, ft)) : ∃ fs f, P.underlying t = some (.struct fs) ∧ fs[j]? = some f ∧ f.offset = q ∧ f.type = ft := by
 unfold iG at hf
 obtain ⟨l, hl, hj⟩ := Option.bind_eq_some_iff.1 hf
 obtain ⟨fs, hu, rfl⟩ := (h.fos t l hl).und'
 rw [List.getElem?_map] at hj
 obtain ⟨f, hf', he⟩ := Option.map_eq_some_iff.1 hj
 cases he
 exact ⟨fs, f, hu, by simpa using hf', rfl, rfl⟩
theorem GF (P : Program) : ∀ (fs : List Field), ((fs.map fun f => (f.offset, f.type)).all fun p => (P.info? p.2).isSome) = true →
  ∃ places, fs.mapM (fun f => (P.info? f.type).map fun i => (f.offset, i.size)) = some places ∧ ∀ (j : Nat) (f : Field) (i : TypeInfo), fs[j]? = some f → P.info? f.type = some i → places[j]? = some (f.offset, i.size)
 | [], _ => ⟨[], rfl, fun j f i h => by simp at h⟩
 | f :: fs, h => by
  simp only [List.map_cons, List.all_cons, Bool.and_eq_true] at h
  obtain ⟨places, h1, h2⟩ := GF P fs h.2
  obtain ⟨i, hi⟩ := Option.isSome_iff_exists.1 h.1
  refine ⟨(f.offset, i.size) :: places, by simp [List.mapM_cons, hi, h1], fun j f' i' hj hi' => ?_⟩
  cases j with
  | zero => simp at hj; subst hj; rw [hi] at hi'; cases hi'; rfl
  | succ j => exact h2 j f' i' (by simpa using hj) hi'
section
variable {P : Program} {t : TypeId} {k : K} {w : World}
theorem TyOk.info' (h : TyOk P t k) : ∃ i, P.info? t = some i ∧ i.size = k.size ∧ i.zero = some k.zval ∧ i.bytes ≤ 128 := by
 have h := h.info
 cases hi : P.info? t with
 | none => simp [hi] at h
 | some i => simp [hi] at h; exact ⟨i, rfl, h.1, h.2.1, h.2.2⟩
theorem TyOk.sizeOf (h : TyOk P t k) : (sizeOf t).run P w = .ok k.size w := by
 obtain ⟨i, hi, hs, _⟩ := h.info'
 simp [Go.sizeOf, typeInfo, hi, hs]
theorem TyOk.zero (h : TyOk P t k) : (zeroValue t).run P w = .ok k.zval w := by
 obtain ⟨i, hi, _, hz, _⟩ := h.info'
 simp [zeroValue, typeInfo, hi, hz]
theorem TyOk.isAgg (h : TyOk P t k) : (isAgg t).run P w = .ok k.isPair w := by
 have hu := h.und
 cases k with
 | err => obtain ⟨ms, hu⟩ := hu; simp [Go.isAgg, run_underlying hu, K.isPair]
 | pair a b => obtain ⟨fs, hu⟩ := hu; simp [Go.isAgg, run_underlying hu, K.isPair]
 | _ => simp only [cC2] at hu; simp [Go.isAgg, run_underlying hu, K.isPair]
theorem TyOk.und' (h : TyOk P t k) : ∃ d, P.underlying t = some d := by
 have hu := h.und
 cases k <;> simp only [cC2] at hu <;> first | exact ⟨_, hu⟩ | (obtain ⟨_, hu⟩ := hu; exact ⟨_, hu⟩)
theorem K.zcells_len : ∀ k : K, k.zcells.length = k.size
 | .int _ | .bool | .str | .flt _ | .err | .sl _ _ => rfl
 | .pair a b => by simp [K.zcells, K.size, a.zcells_len, b.zcells_len]
theorem K.zval_cells (k : K) : k.zval.cells = k.zcells.toArray := by cases k <;> rfl
theorem RepD.zero (w : World) (A : Nat → Prop) : ∀ k : K, RepD w A k k.dflt k.zcells
 | .int _ => rfl
 | .bool => rfl
 | .str => rfl
 | .flt _ => rfl
 | .err => ⟨_, rfl, .inl ⟨rfl, rfl⟩⟩
 | .pair a b => ⟨_, _, rfl, RepD.zero w A a, RepD.zero w A b⟩
 | .sl _ _ => ⟨none, 0, rfl, Nat.le_refl _, .inl rfl⟩
end
theorem dN5 {a b : Nat} (h : a < b) : Nat.blt a b = true := by
 unfold Nat.blt; exact Nat.ble_eq_true_of_le h
theorem dJ6 {a b : Nat} (h : ¬ a < b) : Nat.blt a b = false := by
 cases hb : Nat.blt a b
 ·rfl
 ·exact absurd (Nat.le_of_ble_eq_true hb) h
theorem X2 {α : Type} (l1 l2 : List α) (off n : Nat) (h : l1.length ≤ off) : ((l1 ++ l2).drop off).take n = (l2.drop (off - l1.length)).take n := by
 rw [List.drop_append_of_le_length' h]
where
 List.drop_append_of_le_length' {α : Type} {l1 l2 : List α} {off : Nat} (h : l1.length ≤ off) : (l1 ++ l2).drop off = l2.drop (off - l1.length) := by
  rw [List.drop_append]; simp [List.drop_eq_nil_of_le h]
section
variable {w : World} {A : Nat → Prop}
theorem GC {k : K} {off : Nat} {k' : K} {x : k.den} {y : k'.den} (h : (if h : off = 0 ∧ k = k' then some (h.2 ▸ x) else none : Option k'.den) = some y) {cs : List Value} (hr : RepD w A k x cs) :
  RepD w A k' y ((cs.drop off).take k'.size) ∧ off + k'.size ≤ k.size := by
 split at h
 ·rename_i hh
  obtain ⟨rfl, rfl⟩ := hh
  simp at h
  subst h
  have hl := hr.len
  refine ⟨?_, by omega⟩
  rw [List.drop_zero, List.take_of_length_le (by omega)]
  exact hr
 ·cases h
theorem tY : ∀ (k : K) (off : Nat) (k' : K) (x : k.den) (y : k'.den), RG k off k' x = some y → ∀ {cs : List Value}, RepD w A k x cs →
  RepD w A k' y ((cs.drop off).take k'.size) ∧ off + k'.size ≤ k.size
 | .int _, off, k', x, y, h, cs, hr | .bool, off, k', x, y, h, cs, hr | .str, off, k', x, y, h, cs, hr | .flt _, off, k', x, y, h, cs, hr | .err, off, k', x, y, h, cs, hr | .sl _ _, off, k', x, y, h, cs, hr => GC h hr
 | .pair a b, off, k', x, y, h, cs, hr => by
  unfold RG at h
  split at h
  ·rename_i hh
   exact GC (k := .pair a b) (off := off) (k' := k') (x := x) (y := y) (by rw [dif_pos hh]; exact h) hr
  ·obtain ⟨c1, c2, rfl, h1, h2⟩ := hr
   have hl1 := h1.len
   have hl2 := h2.len
   by_cases hlt : off < a.size
   ·have : Nat.blt off a.size = true := dN5 hlt
    rw [this] at h
    obtain ⟨hy, hs⟩ := tY a off k' x.1 y h h1
    refine ⟨?_, by simp only [K.size]; omega⟩
    have : ((c1 ++ c2).drop off).take k'.size = (c1.drop off).take k'.size := by
     rw [List.drop_append, List.take_append_of_le_length (by rw [List.length_drop]; omega)]
    rw [this]; exact hy
   ·have : Nat.blt off a.size = false := dJ6 hlt
    rw [this] at h
    obtain ⟨hy, hs⟩ := tY b (off - a.size) k' x.2 y h h2
    refine ⟨?_, by simp only [K.size]; omega⟩
    rw [X2 c1 c2 off _ (by omega), hl1]; exact hy
def jK (cs : List Value) (off : Nat) (ds : List Value) : List Value := cs.take off ++ ds ++ cs.drop (off + ds.length)
theorem HJ {k : K} {off : Nat} {k' : K} {x z : k.den} {y : k'.den} (h : (if h : off = 0 ∧ k' = k then some (h.2 ▸ y) else none : Option k.den) = some z) {cs ds : List Value} (hr : RepD w A k x cs) (hd : RepD w A k' y ds) :
  RepD w A k z (jK cs off ds) ∧ off + k'.size ≤ k.size := by
 split at h
 ·rename_i hh
  obtain ⟨rfl, rfl⟩ := hh
  simp at h
  subst h
  have hl := hr.len
  have hl' := hd.len
  refine ⟨?_, by omega⟩
  unfold jK
  rw [List.take_zero, List.nil_append, List.drop_of_length_le (by omega), List.append_nil]
  exact hd
 ·cases h
theorem uH : ∀ (k : K) (off : Nat) (k' : K) (y : k'.den) (x z : k.den), ZE k off k' y x = some z → ∀ {cs ds : List Value}, RepD w A k x cs → RepD w A k' y ds →
  RepD w A k z (jK cs off ds) ∧ off + k'.size ≤ k.size
 | .int _, off, k', y, x, z, h, cs, ds, hr, hd | .bool, off, k', y, x, z, h, cs, ds, hr, hd | .str, off, k', y, x, z, h, cs, ds, hr, hd | .flt _, off, k', y, x, z, h, cs, ds, hr, hd | .err, off, k', y, x, z, h, cs, ds, hr, hd | .sl _ _, off, k', y, x, z, h, cs, ds, hr, hd => HJ (x := x) h hr hd
 | .pair a b, off, k', y, x, z, h, cs, ds, hr, hd => by
  unfold ZE at h
  split at h
  ·rename_i hh
   exact HJ (k := .pair a b) (off := off) (k' := k') (x := x) (z := z) (y := y) (by rw [dif_pos hh]; exact h) hr hd
  ·obtain ⟨c1, c2, rfl, h1, h2⟩ := hr
   have hl1 := h1.len
   have hl2 := h2.len
   have hld := hd.len
   by_cases hlt : off < a.size
   ·have : Nat.blt off a.size = true := dN5 hlt
    rw [this] at h
    simp only [cond_true] at h
    split at h
    ·rename_i z1 hz1
     cases h
     obtain ⟨hy, hs⟩ := uH a off k' y x.1 z1 hz1 h1 hd
     refine ⟨⟨jK c1 off ds, c2, ?_, hy, h2⟩, by simp only [K.size]; omega⟩
     unfold jK
     rw [List.take_append_of_le_length (by omega), List.drop_append, List.append_assoc, List.append_assoc, List.append_assoc]
     rw [show off + ds.length - c1.length = 0 by omega, List.drop_zero]
    ·cases h
   ·have : Nat.blt off a.size = false := dJ6 hlt
    rw [this] at h
    simp only [cond_false] at h
    split at h
    ·rename_i z2 hz2
     cases h
     obtain ⟨hy, hs⟩ := uH b (off - a.size) k' y x.2 z2 hz2 h2 hd
     refine ⟨⟨c1, jK c2 (off - a.size) ds, ?_, h1, hy⟩, by simp only [K.size]; omega⟩
     unfold jK
     rw [List.take_append, List.take_of_length_le (by omega), List.drop_append, List.drop_of_length_le (by omega), List.nil_append, hl1, List.append_assoc, List.append_assoc, List.append_assoc]
     rw [show off + ds.length - a.size = off - a.size + ds.length by omega]
    ·cases h
end
section
variable {β : Type} {r : β}
theorem dE {v : FV} {κ : IntKind → Int → Option β} (h : jN v κ = some r) : ∃ k n, v = .dat (.int k) n ∧ κ k n = some r := by
 unfold jN at h; split at h
 ·exact ⟨_, _, rfl, h⟩
 ·cases h
theorem sO {v : FV} {κ : Bool → Option β} (h : asBool v κ = some r) : ∃ b, v = .dat .bool b ∧ κ b = some r := by
 unfold asBool at h; split at h
 ·exact ⟨_, rfl, h⟩
 ·cases h
theorem pS {v : FV} {κ : ByteArray → Option β} (h : GA v κ = some r) : ∃ b, v = .dat .str b ∧ κ b = some r := by
 unfold GA at h; split at h
 ·exact ⟨_, rfl, h⟩
 ·cases h
theorem iN {a b : K} {x : a.den} {κ : b.den → Option β} (h : rO a b x κ = some r) : ∃ e : a = b, κ (e ▸ x) = some r := by
 unfold rO at h; split at h
 ·exact ⟨_, h⟩
 ·cases h
theorem bR {a b : K} {x : List a.den} {κ : List b.den → Option β} (h : fB a b x κ = some r) : ∃ e : a = b, κ (e ▸ x) = some r := by
 unfold fB at h; split at h
 ·exact ⟨_, h⟩
 ·cases h
theorem eJ {v : FV} {k : K} {κ : k.den → Option β} (h : vD v k κ = some r) : ∃ x, v = .dat k x ∧ κ x = some r := by
 unfold vD at h; split at h
 ·obtain ⟨e, h⟩ := iN h
  subst e
  exact ⟨_, rfl, h⟩
 ·cases h
theorem aL {α : Type _} {x : Option α} {κ : α → Option β} (h : cD x κ = some r) : ∃ a, x = some a ∧ κ a = some r := by
 unfold cD at h; split at h
 ·exact ⟨_, rfl, h⟩
 ·cases h
theorem bI {c : Prop} [Decidable c] {x : Option β} (h : (if c then x else none) = some r) : c ∧ x = some r := by
 split at h
 ·exact ⟨by assumption, h⟩
 ·cases h
theorem qB {i n : Int} {κ : Option β} (h : idx i n κ = some r) : 0 ≤ i ∧ i < n ∧ κ = some r := by
 unfold idx at h
 obtain ⟨h1, h⟩ := bI h
 obtain ⟨h2, h⟩ := bI h
 exact ⟨h1, h2, h⟩
theorem lC {lo hi n : Int} {κ : Option β} (h : bnd lo hi n κ = some r) : 0 ≤ lo ∧ lo ≤ hi ∧ hi ≤ n ∧ κ = some r := by
 unfold bnd at h
 obtain ⟨h1, h⟩ := bI h
 obtain ⟨h2, h⟩ := bI h
 obtain ⟨h3, h⟩ := bI h
 exact ⟨h1, h2, h3, h⟩
theorem jW {n : Nat} {κ : Option β} (h : cR n κ = some r) : n ≤ 1099511627776 ∧ κ = some r := bI h
theorem cI {s : FState} {v : FV} {κ : (o : Nat) → (k : K) → TypeId → Bool → List k.den → Option (Int × Int) → Option β} (h : iM s v κ = some r) :
  ∃ o w nn k e rw xs, v = .sl o w nn ∧ s.objs o = some (.row k e rw xs) ∧ κ o k e rw xs w = some r := by
 unfold iM at h
 split at h
 ·split at h
  ·exact ⟨_, _, _, _, _, _, _, rfl, by assumption, h⟩
  ·cases h
 ·cases h
theorem cC {d : Option Tmp} {s : FState} {obj : FObj} {v : Nat → FV} {κ : FState → Option β} (h : newRow d s obj v κ = some r) : ∃ d', d = some d' ∧ s.objs d' = none ∧ κ ((s.setO d' (some obj)).set d' (v d')) = some r := by
 unfold newRow at h
 split at h
 ·split at h
  ·exact ⟨_, rfl, by assumption, h⟩
  ·cases h
 ·cases h
end
section
variable {w : World} {A : Nat → Prop} {O : kB} {pl : Nat → Pl}
theorem VRep.dat_inv {k : K} {x : k.den} {v : Value} (h : VRep w A O pl (.dat k x) v) : ∃ cs, RepD w A k x cs ∧ (if k.isPair then v = .agg cs.toArray else cs = [v]) := by
 rcases h with h | ⟨l, _, hl⟩
 ·exact h
 ·exact hl.elim
theorem VRep.cells {k : K} {x : k.den} {v : Value} (h : VRep w A O pl (.dat k x) v) : ∃ cs, RepD w A k x cs ∧ v.cells = cs.toArray := by
 obtain ⟨cs, hr, hv⟩ := h.dat_inv
 refine ⟨cs, hr, ?_⟩
 split at hv
 ·rw [hv]; rfl
 ·subst hv
  have h1 := hr.one v (by simp)
  cases v <;> first | rfl | simp [Value.oneCell'] at h1
theorem VRep.int_inv {k : IntKind} {n : Int} {v : Value} (h : VRep w A O pl (.dat (.int k) n) v) : v = .int k n := by
 obtain ⟨cs, hr, hv⟩ := h.dat_inv
 simp [K.isPair] at hv; subst hv; simpa [RepD] using hr
theorem VRep.bool_inv {b : Bool} {v : Value} (h : VRep w A O pl (.dat .bool b) v) : v = .bool b := by
 obtain ⟨cs, hr, hv⟩ := h.dat_inv
 simp [K.isPair] at hv; subst hv; simpa [RepD] using hr
theorem VRep.str_inv {b : ByteArray} {v : Value} (h : VRep w A O pl (.dat .str b) v) : v = .string b := by
 obtain ⟨cs, hr, hv⟩ := h.dat_inv
 simp [K.isPair] at hv; subst hv; simpa [RepD] using hr
theorem VRep.int (k : IntKind) (n : Int) : VRep w A O pl (.dat (.int k) n) (.int k n) := .inl ⟨_, rfl, rfl⟩
theorem VRep.bool (b : Bool) : VRep w A O pl (.dat .bool b) (.bool b) := .inl ⟨_, rfl, rfl⟩
theorem VRep.str (b : ByteArray) : VRep w A O pl (.dat .str b) (.string b) := .inl ⟨_, rfl, rfl⟩
theorem VRep.ofCells {k : K} {x : k.den} {cs : List Value} (h : RepD w A k x cs) {v : Value} (hv : if k.isPair then v = .agg cs.toArray else cs = [v]) : VRep w A O pl (.dat k x) v := .inl ⟨cs, h, hv⟩
theorem VRep.sl_inv {o : Nat} {wn : Option (Int × Int)} {nn : Bool} {v : Value} (h : VRep w A O pl (.sl o wn nn) v) : VRep1 w A O pl (.sl o wn nn) v := by
 rcases h with h | ⟨l, _, hl⟩
 ·exact h
 ·exact hl.elim
theorem VRep.it_inv {o : Nat} {v : Value} (h : VRep w A O pl (.it o) v) : ∃ z pos, O o = some (.siter z pos) ∧ v = .pointer (some ⟨(pl o).b, 0, none⟩) := by
 rcases h with h | ⟨l, _, hl⟩
 ·exact h
 ·exact hl.elim
theorem VRep.ptr_inv {o : Nat} {i : Int} {off : Nat} {v : Value} (h : VRep w A O pl (.ptr o i off) v) : ∃ k e rw xs, O o = some (.row k e rw xs) ∧ 0 ≤ i ∧ i < xs.length ∧ v = .pointer (some ⟨(pl o).b, (pl o).off + i.toNat * k.size + off, none⟩) := by
 rcases h with h | ⟨l, _, hl⟩
 ·exact h
 ·exact hl.elim
end
theorem Oper.wp_of_value {P : Program} {o : Oper} {a : Act} {w w' : World} {v : Value} {next : Act → World → Prop} {Q : Exit → Act → World → Prop} (h : (execOp a.eval o).run P w = .ok (.value v) w') (k : next (a.put o.dst v) w') : o.wp P a w next Q := by
 unfold Oper.wp; rw [h]; exact k
theorem Oper.wp_of_skip {P : Program} {o : Oper} {a : Act} {w w' : World} {next : Act → World → Prop} {Q : Exit → Act → World → Prop} (h : (execOp a.eval o).run P w = .ok .skip w') (k : next (a.put o.dst undef) w') : o.wp P a w next Q := by
 unfold Oper.wp; rw [h]; exact k
section
variable {E : Env} {Γ : Ctx} {w w' : World} {a : Act} {s : FState} {β : Type} {r : β} {κ : FState → Option β} {Q : Exit → Act → World → Prop}
def Goes (E : Env) (κ : FState → Option β) (r : β) : Act → World → Prop := fun a w => ∃ s, Rel E w a s ∧ κ s = some r
theorem Goes.put {pl : Nat → Pl} (h : RelP E pl w a s) {d : Option Tmp} (hd : dN E d) {f : FV} {v : Value} (hv : VRep w (Av E s.objs pl) s.objs pl f v) (hk : κ (s.put d f) = some r) : Goes E κ r (a.put d v) w :=
 ⟨_, ⟨pl, h.put hd hv⟩, hk⟩
theorem CM (h : Rel E w a s) {d : Option Tmp} (hd : dN E d) {x : Operand} {ty : TypeId} {pos : String} {af : Array Edge} {g : Option (Nat × Bool)} {op : Op} (hop : op = .move x ∨ op = .assign x)
  (hk : κ (s.put d (ev s x)) = some r) : Oper.wp E.P ⟨d, op, ty, pos, af, g⟩ a w (Goes E κ r) Q := by
 obtain ⟨pl, h⟩ := h
 refine Oper.wp_of_value (v := a.eval x) (w' := w) ?_ (Goes.put h hd (h.ev x _ rfl) hk)
 rcases hop with rfl | rfl <;> simp [execOp]
theorem ZB (h : Rel E w a s) {d : Option Tmp} (hd : dN E d) {c x y : Operand} {ty : TypeId} {pos : String} {af : Array Edge} {g : Option (Nat × Bool)}
  (hk : asBool (ev s c) (fun t => κ (s.put d (HN t (ev s x) (ev s y)))) = some r) : Oper.wp E.P ⟨d, .pick c x y, ty, pos, af, g⟩ a w (Goes E κ r) Q := by
 obtain ⟨pl, h⟩ := h
 obtain ⟨b, hb, hk⟩ := sO hk
 have hc := (h.ev c _ hb).bool_inv
 refine Oper.wp_of_value (v := if b then a.eval x else a.eval y) (w' := w) (by simp [execOp, hc, Go.asBool]) (Goes.put h hd ?_ hk)
 have hx := h.ev x _ rfl
 have hy := h.ev y _ rfl
 unfold HN
 split
 ·rename_i k x' k' y' e1 e2
  rw [e1] at hx
  rw [e2] at hy
  split
  ·rename_i e
   subst e
   cases b <;> simpa using ‹_›
  ·exact VRep.dead _
 ·cases b <;> simpa using ‹_›
theorem QZ (P : Program) (w : World) {op : BinOp} {k : IntKind} {x y : Int} {t : TypeId} {f : FV → Option β} (h : FW op k x y f = some r) :
  ∃ v fv, (binOp op t (.int k x) (.int k y)).run P w = .ok v w ∧ f fv = some r ∧ ∀ A O pl, VRep w A O pl fv v := by
 cases op <;> simp only [FW] at h
 case add => exact ⟨_, _, by simp [binOp, Op.intArith], h, fun _ _ _ => .int _ _⟩
 case sub => exact ⟨_, _, by simp [binOp, Op.intArith], h, fun _ _ _ => .int _ _⟩
 case mul => exact ⟨_, _, by simp [binOp, Op.intArith], h, fun _ _ _ => .int _ _⟩
 case quo =>
  split at h
  ·cases h
  ·exact ⟨_, _, by simp [binOp, Op.intDiv, *], h, fun _ _ _ => .int _ _⟩
 case rem =>
  split at h
  ·cases h
  ·exact ⟨_, _, by simp [binOp, Op.intDiv, *], h, fun _ _ _ => .int _ _⟩
 case eql => exact ⟨_, _, by simp [binOp, Op.intCmp], h, fun _ _ _ => .bool _⟩
 case neq => exact ⟨_, _, by simp [binOp, Op.intCmp], h, fun _ _ _ => .bool _⟩
 case lss => exact ⟨_, _, by simp [binOp, Op.intCmp], h, fun _ _ _ => .bool _⟩
 case leq => exact ⟨_, _, by simp [binOp, Op.intCmp], h, fun _ _ _ => .bool _⟩
 case gtr => exact ⟨_, _, by simp [binOp, Op.intCmp], h, fun _ _ _ => .bool _⟩
 case geq => exact ⟨_, _, by simp [binOp, Op.intCmp], h, fun _ _ _ => .bool _⟩
 case and => exact ⟨_, _, by simp [binOp, Op.intBits, dJ9], h, fun _ _ _ => .int _ _⟩
 case or => exact ⟨_, _, by simp [binOp, Op.intBits, orI], h, fun _ _ _ => .int _ _⟩
 case xor => exact ⟨_, _, by simp [binOp, Op.intBits, dO6], h, fun _ _ _ => .int _ _⟩
 case andNot => exact ⟨_, _, by simp [binOp, Op.intBits, T1], h, fun _ _ _ => .int _ _⟩
 all_goals cases h
theorem mU {α : Type} {x : Option α} {κ : α → Option β} (h : onS x κ = some r) : ∃ a, x = some a ∧ κ a = some r := by
 cases x with
 | none => cases h
 | some a => exact ⟨a, rfl, h⟩
theorem FI (P : Program) (w : World) {op : BinOp} {k k' : IntKind} {x y : Int} {t : TypeId} {f : FV → Option β} (h : tJ op k x y f = some r) :
  ∃ v fv, (binOp op t (.int k x) (.int k' y)).run P w = .ok v w ∧ f fv = some r ∧ ∀ A O pl, VRep w A O pl fv v := by
 unfold tJ at h
 split at h
 ·cases h
 ·rename_i hy
  cases op <;> simp only at h
  case shl => exact ⟨_, _, by simp [binOp, Op.shift, hy, dF9, dI7], h, fun _ _ _ => .int _ _⟩
  case shr => exact ⟨_, _, by simp [binOp, Op.shift, hy, dF9, dI7], h, fun _ _ _ => .int _ _⟩
  all_goals cases h
theorem VRep.flt_inv {k : FloatKind} {b : Nat} {A : Nat → Prop} {O : kB} {pl : Nat → Pl} {v : Value} (h : VRep w A O pl (.dat (.flt k) b) v) : v = .float k b := by
 obtain ⟨cs, hc, hv⟩ := h.dat_inv
 obtain rfl : cs = [Value.float k b] := hc
 simpa [K.isPair] using hv.symm
theorem VRep.flt (k : FloatKind) (b : Nat) {A : Nat → Prop} {O : kB} {pl : Nat → Pl} : VRep w A O pl (.dat (.flt k) b) (.float k b) := .inl ⟨_, rfl, rfl⟩
theorem OX (P : Program) (w : World) {op : BinOp} {k : FloatKind} {x y : Nat} {t : TypeId} {f : FV → Option β} (h : HV op k x y f = some r) :
  ∃ v fv, (binOp op t (.float k x) (.float k y)).run P w = .ok v w ∧ f fv = some r ∧ ∀ A O pl, VRep w A O pl fv v := by
 cases op <;> simp only [HV] at h
 case add => obtain ⟨z, hz, h⟩ := mU h; exact ⟨_, _, run_float_arith w _ t k x y z hz, h, fun _ _ _ => .flt _ _⟩
 case sub => obtain ⟨z, hz, h⟩ := mU h; exact ⟨_, _, run_float_arith w _ t k x y z hz, h, fun _ _ _ => .flt _ _⟩
 case mul => obtain ⟨z, hz, h⟩ := mU h; exact ⟨_, _, run_float_arith w _ t k x y z hz, h, fun _ _ _ => .flt _ _⟩
 case quo => obtain ⟨z, hz, h⟩ := mU h; exact ⟨_, _, run_float_arith w _ t k x y z hz, h, fun _ _ _ => .flt _ _⟩
 case eql => exact ⟨_, _, by simp [binOp, Op.floatCmp]; rfl, h, fun _ _ _ => .bool _⟩
 case neq => exact ⟨_, _, by simp [binOp, Op.floatCmp]; rfl, h, fun _ _ _ => .bool _⟩
 case lss => exact ⟨_, _, by simp [binOp, Op.floatCmp]; rfl, h, fun _ _ _ => .bool _⟩
 case leq => exact ⟨_, _, by simp [binOp, Op.floatCmp]; rfl, h, fun _ _ _ => .bool _⟩
 case gtr => exact ⟨_, _, by simp [binOp, Op.floatCmp]; rfl, h, fun _ _ _ => .bool _⟩
 case geq => exact ⟨_, _, by simp [binOp, Op.floatCmp]; rfl, h, fun _ _ _ => .bool _⟩
 all_goals cases h
theorem TH (P : Program) (w : World) (op : BinOp) (t : TypeId) (x y : Operand) (k k' : FloatKind) (n m : Nat) : (eqGuard op t x y (.float k n) (.float k' m)).run P w = .ok () w := by
 cases op <;> simp [eqGuard]
theorem OT (P : Program) (w : World) {op : BinOp} {x y : ByteArray} {t : TypeId} {f : FV → Option β} (h : GX op x y f = some r) :
  ∃ v fv, (binOp op t (.string x) (.string y)).run P w = .ok v w ∧ f fv = some r ∧ ∀ A O pl, VRep w A O pl fv v := by
 cases op <;> simp only [GX] at h
 case add =>
  obtain ⟨hn, h⟩ := jW h
  have hm : ¬ (((x.size + y.size : Nat) : Int) > IntKind.i64.max) := by
   have : IntKind.i64.max = 9223372036854775807 := by decide
   rw [this]; omega
  exact ⟨_, _, by simp only [binOp, Op.stringOp]; rw [if_neg hm]; simp, h, fun _ _ _ => .str _⟩
 case eql => exact ⟨_, _, by simp [binOp, Op.stringOp, gB], h, fun _ _ _ => .bool _⟩
 case neq => exact ⟨_, _, by simp [binOp, Op.stringOp, gB], h, fun _ _ _ => .bool _⟩
 all_goals cases h
theorem KL {P : Program} {t : TypeId} (hu : P.underlying t = some .bool) (w : World) (x y : Bool) (d : Nat) : (Op.equalIn (d + 1) t (.bool x) (.bool y)).run P w = .ok (x == y) w := by
 simp [Op.equalIn, run_underlying hu]
theorem CF {P : Program} {t : TypeId} (hu : P.underlying t = some .bool) (w : World) (x y : Bool) : (Op.equal t (.bool x) (.bool y)).run P w = .ok (x == y) w := KL hu w x y 9999
theorem CW {P : Program} {t : TypeId} (hu : P.underlying t = some .bool) (w : World) (x y : Bool) : (binOp .eql t (.bool x) (.bool y)).run P w = .ok (.bool (x == y)) w := by
 simp [binOp, CF hu]
theorem BO {P : Program} {t : TypeId} (hu : P.underlying t = some .bool) (w : World) (x y : Bool) : (binOp .neq t (.bool x) (.bool y)).run P w = .ok (.bool (x != y)) w := by
 simp [binOp, CF hu, bne]
theorem xL (P : Program) (w : World) (op : BinOp) (t : TypeId) (x y : Operand) (k k' : IntKind) (n m : Int) : (eqGuard op t x y (.int k n) (.int k' m)).run P w = .ok () w := by
 cases op <;> simp [eqGuard]
theorem OD (P : Program) (w : World) (op : BinOp) (t : TypeId) (x y : Operand) (n m : ByteArray) : (eqGuard op t x y (.string n) (.string m)).run P w = .ok () w := by
 cases op <;> simp [eqGuard]
theorem sZ (P : Program) (w : World) (op : BinOp) (t : TypeId) (x y : Operand) (n m : Bool) : (eqGuard op t x y (.bool n) (.bool m)).run P w = .ok () w := by
 cases op <;> simp [eqGuard]
theorem qS {P : Program} {t : TypeId} {k : K} (hT : TyOk P t k) (hk : I6 k = true) {cs : List Value} {off : Nat} {v : Value} (hv : cs[off]? = some v) (w : World) : (part t cs.toArray off).run P w = .ok v w := by
 unfold part
 have hp : k.isPair = false := by cases k <;> first | rfl | cases hk
 rw [Sem.run_bind, hT.isAgg, hp]
 simp [hv]
theorem uO {P : Program} {t : TypeId} {k : K} (hT : TyOk P t k) (hk : I6 k = true) {w : World} {A : Nat → Prop} {x y : k.den} {cs ds : List Value} (hx : RepD w A k x cs) (hy : RepD w A k y ds) (d : Nat) :
  ∃ u v, cs = [u] ∧ ds = [v] ∧ ∀ w', (Op.equalIn (d + 1) t u v).run P w' = .ok (eqD k x y) w' := by
 cases k with
 | int k => exact ⟨_, _, hx, hy, fun w' => by simp [Op.equalIn, run_underlying (show P.underlying t = some (.int k) from hT.und), eqD]⟩
 | bool => exact ⟨_, _, hx, hy, fun w' => by simp [Op.equalIn, run_underlying (show P.underlying t = some .bool from hT.und), eqD]⟩
 | str => exact ⟨_, _, hx, hy, fun w' => by simp [Op.equalIn, run_underlying (show P.underlying t = some .string from hT.und), eqD, gB, beq_toListBytes]⟩
 | _ => cases hk
theorem sY {P : Program} {kt : List (Nat × K)} (hT : ∀ t k, lk kt t = some k → TyOk P t k) {w : World} {A : Nat → Prop} (d : Nat) : ∀ (fs : List Field) (k : K) (off : Nat) (x y : k.den) (cs ds c0 d0 : List Value), fsB kt fs k off = true → c0.length = off → d0.length = off →
  RepD w A k x cs → RepD w A k y ds → ∀ w', (Op.eqFields (d + 1) (c0 ++ cs).toArray (d0 ++ ds).toArray fs).run P w' = .ok (eqD k x y) w'
 | [], k, off, x, y, cs, ds, c0, d0, h, _, _, _, _, w' => by simp [fsB] at h
 | [f], k, off, x, y, cs, ds, c0, d0, h, hc0, hd0, hx, hy, w' => by
  simp only [fsB, Bool.and_eq_true, Bool.not_eq_true', decide_eq_true_eq] at h
  obtain ⟨⟨⟨h1, h2⟩, h3⟩, h4⟩ := h
  have h2 := Nat.eq_of_beq_eq_true h2
  have hTy := hT _ _ h3
  obtain ⟨u, v, rfl, rfl, he⟩ := uO hTy h4 hx hy d
  have hn : f.name ≠ "_" := by simpa using h1
  simp only [Op.eqFields, if_pos hn, Sem.run_bind, h2]
  rw [qS hTy h4 (v := u) (by rw [List.getElem?_append_right (by omega), hc0]; simp)]
  simp only [Result.andThen_ok, Sem.run_bind]
  rw [qS hTy h4 (v := v) (by rw [List.getElem?_append_right (by omega), hd0]; simp)]
  simp only [Result.andThen_ok, Sem.run_bind, he]
  cases eqD k x y <;> simp
 | f :: f' :: fs, .pair a b, off, x, y, cs, ds, c0, d0, h, hc0, hd0, hx, hy, w' => by
  simp only [fsB, Bool.and_eq_true, Bool.not_eq_true', decide_eq_true_eq] at h
  obtain ⟨⟨⟨⟨h1, h2⟩, h3⟩, h4⟩, h5⟩ := h
  have h2 := Nat.eq_of_beq_eq_true h2
  have hTy := hT _ _ h3
  obtain ⟨cx, cy, rfl, hx1, hx2⟩ := hx
  obtain ⟨dx, dy, rfl, hy1, hy2⟩ := hy
  obtain ⟨u, v, rfl, rfl, he⟩ := uO hTy h4 hx1 hy1 d
  have hsz : a.size = 1 := by cases a <;> first | rfl | cases h4
  have ih := sY hT d (f' :: fs) b (off + a.size) x.2 y.2 cy dy (c0 ++ [u]) (d0 ++ [v]) h5 (by simp [hc0, hsz]) (by simp [hd0, hsz]) hx2 hy2 w'
  have hn : f.name ≠ "_" := by simpa using h1
  rw [Op.eqFields]
  simp only [if_pos hn, Sem.run_bind, h2]
  rw [qS hTy h4 (v := u) (by rw [List.getElem?_append_right (by omega), hc0]; simp)]
  simp only [Result.andThen_ok, Sem.run_bind]
  rw [qS hTy h4 (v := v) (by rw [List.getElem?_append_right (by omega), hd0]; simp)]
  simp only [Result.andThen_ok, Sem.run_bind, he]
  cases hab : eqD a x.1 y.1
  ·simp [eqD, hab]
  ·simp only [Bool.not_true, Bool.false_eq_true, if_false]
   rw [show (eqD (.pair a b) x y) = eqD b x.2 y.2 by simp [eqD, hab], ← ih]
   simp
 | f :: f' :: fs, .int _, off, x, y, cs, ds, c0, d0, h, _, _, _, _, w' => by simp [fsB] at h
 | f :: f' :: fs, .bool, off, x, y, cs, ds, c0, d0, h, _, _, _, _, w' => by simp [fsB] at h
 | f :: f' :: fs, .str, off, x, y, cs, ds, c0, d0, h, _, _, _, _, w' => by simp [fsB] at h
 | f :: f' :: fs, .flt _, off, x, y, cs, ds, c0, d0, h, _, _, _, _, w' => by simp [fsB] at h
 | f :: f' :: fs, .err, off, x, y, cs, ds, c0, d0, h, _, _, _, _, w' => by simp [fsB] at h
 | f :: f' :: fs, .sl _ _, off, x, y, cs, ds, c0, d0, h, _, _, _, _, w' => by simp [fsB] at h
theorem MR {P : Program} {Γ : Ctx} (hT : TabOk P Γ) {t : TypeId} {k : K} (hk : lk Γ.kt t = some k) (he : jZ t Γ.eqs = true) {w : World} {A : Nat → Prop} {x y : k.den} {cs ds : List Value} (hx : RepD w A k x cs) (hy : RepD w A k y ds) :
  (Op.equal t (.agg cs.toArray) (.agg ds.toArray)).run P w = .ok (eqD k x y) w ∧ P.eqGuardType P.depth t = false := by
 have h := hT.eqs t he
 unfold MX at h
 rw [hk] at h
 split at h
 ·rename_i fs k' hu hk'
  cases hk'
  simp only [Bool.and_eq_true, Bool.not_eq_true'] at h
  obtain ⟨⟨h1, h2⟩, h3⟩ := h
  refine ⟨?_, h3⟩
  have hf : P.fieldsOf t = fs := by simp [Program.fieldsOf, hu]
  have := run_equalIn_struct (P := P) w 9999 t cs.toArray ds.toArray (by rw [hf]; exact hu) h2
  show (Op.equalIn (9999 + 1) t _ _).run P w = _
  rw [this, hf]
  simpa using sY hT.kt 9998 fs.toList k 0 x y cs ds [] [] h1 rfl rfl hx hy w
 ·cases h
theorem nL (P : Program) (w : World) (op : BinOp) (t : TypeId) (x y : Operand) (a b : Option Addr) (n m c d : Nat) : (eqGuard op t x y (.slice a n c) (.slice b m d)).run P w = .ok () w := by
 cases op <;> simp [eqGuard]
theorem RR {P : Program} {t e : TypeId} (hu : P.underlying t = some (.slice e)) (w : World) (b : Option Addr) (n m c d f : Nat) : (Op.equalIn (f + 1) t (.slice b n c) (.slice none m d)).run P w = .ok b.isNone w := by
 cases b <;> simp [Op.equalIn, run_underlying hu]
theorem GT {P : Program} {t e : TypeId} (hu : P.underlying t = some (.slice e)) (w : World) (b : Option Addr) (n m c d : Nat) : (Op.equal t (.slice b n c) (.slice none m d)).run P w = .ok b.isNone w := RR hu w b n m c d 9999
theorem vM {P : Program} {t e : TypeId} (hu : P.underlying t = some (.slice e)) (w : World) (b : Option Addr) (n m c d : Nat) : (binOp .eql t (.slice b n c) (.slice none m d)).run P w = .ok (.bool b.isNone) w := by
 simp [binOp, GT hu]
theorem tB {P : Program} {t e : TypeId} (hu : P.underlying t = some (.slice e)) (w : World) (b : Option Addr) (n m c d : Nat) : (binOp .neq t (.slice b n c) (.slice none m d)).run P w = .ok (.bool (!b.isNone)) w := by
 simp [binOp, GT hu]
theorem PN (hT : TabOk E.P Γ) (h : Rel E w a s) {d : Option Tmp} (hd : dN E d) {op : BinOp} {t u : TypeId} {x y : Operand} {ty : TypeId} {pos : String} {af : Array Edge} {g : Option (Nat × Bool)}
  (hk : lV Γ op t (ev s x) (ev s y) (fun v => κ (s.put d v)) = some r) : Oper.wp E.P ⟨d, .binOp op t x y u, ty, pos, af, g⟩ a w (Goes E κ r) Q := by
 obtain ⟨pl, h⟩ := h
 have hx := h.ev x _ rfl
 have hy := h.ev y _ rfl
 unfold lV at hk
 split at hk
 ·rename_i k1 n1 k2 n2 e1 e2
  rw [e1] at hx
  rw [e2] at hy
  cases hsh : wC op with
  | true =>
   rw [hsh, cond_true] at hk
   obtain ⟨v, fv, hr, hf, hv⟩ := FI E.P w (t := t) (k' := k2) hk
   refine Oper.wp_of_value (v := v) (w' := w) ?_ (Goes.put h hd (hv _ _ _) hf)
   simp [execOp, hx.int_inv, hy.int_inv, xL, hr]
  | false =>
  rw [hsh, cond_false] at hk
  obtain ⟨rfl, hk⟩ := bI hk
  obtain ⟨v, fv, hr, hf, hv⟩ := QZ E.P w (t := t) hk
  refine Oper.wp_of_value (v := v) (w' := w) ?_ (Goes.put h hd (hv _ _ _) hf)
  simp [execOp, hx.int_inv, hy.int_inv, xL, hr]
 ·rename_i k1 n1 k2 n2 e1 e2
  rw [e1] at hx
  rw [e2] at hy
  obtain ⟨rfl, hk⟩ := bI hk
  obtain ⟨v, fv, hr, hf, hv⟩ := OX E.P w (t := t) hk
  refine Oper.wp_of_value (v := v) (w' := w) ?_ (Goes.put h hd (hv _ _ _) hf)
  simp [execOp, hx.flt_inv, hy.flt_inv, TH, hr]
 ·rename_i n1 n2 e1 e2
  rw [e1] at hx
  rw [e2] at hy
  obtain ⟨v, fv, hr, hf, hv⟩ := OT E.P w (t := t) hk
  refine Oper.wp_of_value (v := v) (w' := w) ?_ (Goes.put h hd (hv _ _ _) hf)
  simp [execOp, hx.str_inv, hy.str_inv, OD, hr]
 ·rename_i k1 k2 x1 k' y1 e1 e2
  rw [e1] at hx
  rw [e2] at hy
  have hh := iN hk
  clear hk
  obtain ⟨hkk, hk⟩ := hh
  subst hkk
  obtain ⟨⟨ht, he⟩, hk⟩ := bI hk
  obtain ⟨cs, hcs, hvx⟩ := hx.dat_inv
  obtain ⟨ds, hds, hvy⟩ := hy.dat_inv
  simp only [K.isPair, if_true] at hvx hvy
  obtain ⟨heq, hg⟩ := MR hT ht he hcs hds
  split at hk
  ·refine Oper.wp_of_value (v := .bool (eqD (.pair k1 k2) x1 y1)) (w' := w) ?_ (Goes.put h hd (.bool _) hk)
   simp [execOp, hvx, hvy, eqGuard, hg, binOp, heq]
  ·refine Oper.wp_of_value (v := .bool (!eqD (.pair k1 k2) x1 y1)) (w' := w) ?_ (Goes.put h hd (.bool _) hk)
   simp [execOp, hvx, hvy, eqGuard, hg, binOp, heq]
  ·cases hk
 ·rename_i e1 e2
  rw [e1] at hx
  rw [e2] at hy
  obtain hx | ⟨l, _, hl⟩ := hx
  rotate_left
  ·exact hl.elim
  obtain hy | ⟨l, _, hl⟩ := hy
  rotate_left
  ·exact hl.elim
  have hx : a.eval x = Value.slice none 0 0 := hx
  have hy : a.eval y = Value.slice none 0 0 := hy
  split at hk
  ·rename_i ht
   refine Oper.wp_of_value (v := .bool true) (w' := w) ?_ (Goes.put h hd (.bool _) hk)
   simp [execOp, hx, hy, nL, vM (hT.se _ _ ht)]
  ·rename_i ht
   refine Oper.wp_of_value (v := .bool false) (w' := w) ?_ (Goes.put h hd (.bool _) hk)
   simp [execOp, hx, hy, nL, tB (hT.se _ _ ht)]
  ·cases hk
 ·rename_i o wn e1 e2
  rw [e1] at hx
  rw [e2] at hy
  obtain ⟨k1, e1', rw1, xs1, ho1, ad, cap, off, len, hw, hxe, hl, hc1, hc2, hnn⟩ := hx.sl_inv
  have hnn := hnn rfl
  obtain hy | ⟨l, _, hl⟩ := hy
  rotate_left
  ·exact hl.elim
  have hy : a.eval y = Value.slice none 0 0 := hy
  cases ad with
  | none => exact absurd rfl hnn
  | some ad =>
  split at hk
  ·rename_i ht
   refine Oper.wp_of_value (v := .bool false) (w' := w) ?_ (Goes.put h hd (.bool _) hk)
   simp [execOp, hxe, hy, nL, vM (hT.se _ _ ht)]
  ·rename_i ht
   refine Oper.wp_of_value (v := .bool true) (w' := w) ?_ (Goes.put h hd (.bool _) hk)
   simp [execOp, hxe, hy, nL, tB (hT.se _ _ ht)]
  ·cases hk
 ·rename_i n1 n2 e1 e2
  rw [e1] at hx
  rw [e2] at hy
  split at hk
  ·rename_i ht
   have hu : E.P.underlying t = some .bool := (hT.kt t _ ht).und
   refine Oper.wp_of_value (v := .bool (n1 == n2)) (w' := w) ?_ (Goes.put h hd (.bool _) hk)
   simp only [execOp, hx.bool_inv, hy.bool_inv]
   simp [sZ, CW hu]
  ·rename_i ht
   have hu : E.P.underlying t = some .bool := (hT.kt t _ ht).und
   refine Oper.wp_of_value (v := .bool (n1 != n2)) (w' := w) ?_ (Goes.put h hd (.bool _) hk)
   simp only [execOp, hx.bool_inv, hy.bool_inv]
   simp [sZ, BO hu]
  ·cases hk
 ·cases hk
theorem UI (h : Rel E w a s) {d : Option Tmp} (hd : dN E d) {op : UnOp} {t : TypeId} {x : Operand} {ty : TypeId} {pos : String} {af : Array Edge} {g : Option (Nat × Bool)}
  (hk : unK op (ev s x) (fun v => κ (s.put d v)) = some r) : Oper.wp E.P ⟨d, .unOp op t x, ty, pos, af, g⟩ a w (Goes E κ r) Q := by
 obtain ⟨pl, h⟩ := h
 have hx := h.ev x _ rfl
 unfold unK at hk
 split at hk
 ·rename_i k n e
  rw [e] at hx
  refine Oper.wp_of_value (v := .int k (k.wrap (0 - n))) (w' := w) ?_ (Goes.put h hd (.int _ _) hk)
  simp [execOp, hx.int_inv, Op.unary, Op.intArith]
 ·rename_i b e
  rw [e] at hx
  refine Oper.wp_of_value (v := .bool (!b)) (w' := w) ?_ (Goes.put h hd (.bool _) hk)
  simp [execOp, hx.bool_inv, Op.unary]
 ·cases hk
theorem CR (hT : TabOk E.P Γ) (h : Rel E w a s) {d : Option Tmp} (hd : dN E d) {src dst : TypeId} {x : Operand} {ty : TypeId} {pos : String} {af : Array Edge} {g : Option (Nat × Bool)}
  (hk : nV Γ src dst (ev s x) (fun v => κ (s.put d v)) = some r) : Oper.wp E.P ⟨d, .convert src dst x, ty, pos, af, g⟩ a w (Goes E κ r) Q := by
 obtain ⟨pl, h⟩ := h
 have hx := h.ev x _ rfl
 unfold nV at hk
 split at hk
 ·rename_i k0 k k1 n hs ht e
  rw [e] at hx
  have hu0 : E.P.underlying src = some (.int k0) := (hT.kt src _ hs).und
  have hu : E.P.underlying dst = some (.int k) := (hT.kt dst _ ht).und
  refine Oper.wp_of_value (v := .int k (k.wrap n)) (w' := w) ?_ (Goes.put h hd (.int _ _) hk)
  simp [execOp, hx.int_inv, convert, run_underlying hu0, run_underlying hu, Conv.intToInt]
 ·rename_i n hs ht e
  rw [e] at hx
  have hu0 : E.P.underlying src = some .string := (hT.kt src _ hs).und
  have hu : E.P.underlying dst = some .string := (hT.kt dst _ ht).und
  refine Oper.wp_of_value (v := .string n) (w' := w) ?_ (Goes.put h hd (.str _) hk)
  simp [execOp, hx.str_inv, convert, run_underlying hu0, run_underlying hu]
 ·rename_i k0 k k1 n hs ht e
  rw [e] at hx
  have hu0 : E.P.underlying src = some (.int k0) := (hT.kt src _ hs).und
  have hu : E.P.underlying dst = some (.float k) := (hT.kt dst _ ht).und
  refine Oper.wp_of_value (v := .float k (floatOfInt k n)) (w' := w) ?_ (Goes.put h hd (.flt _ _) hk)
  simp [execOp, hx.int_inv, run_convert_int_float w src dst k1 k n (by rw [hu0]; rfl) hu]
 ·rename_i k0 k k1 b hs ht e
  rw [e] at hx
  have hu0 : E.P.underlying src = some (.float k0) := (hT.kt src _ hs).und
  have hu : E.P.underlying dst = some (.int k) := (hT.kt dst _ ht).und
  obtain ⟨n, hn, hk⟩ := mU hk
  refine Oper.wp_of_value (v := .int k n) (w' := w) ?_ (Goes.put h hd (.int _ _) hk)
  simp [execOp, hx.flt_inv, run_convert_float_int w src dst k1 k b n (by rw [hu0]; rfl) hu hn]
 ·rename_i k0 k1 n hs ht e
  rw [e] at hx
  have hu0 : E.P.underlying src = some (.int k0) := (hT.kt src _ hs).und
  have hu : E.P.underlying dst = some .string := (hT.kt dst _ ht).und
  refine Oper.wp_of_value (v := .string (Utf8.encode n)) (w' := w) ?_ (Goes.put h hd (.str _) hk)
  simp [execOp, hx.int_inv, run_convert_int_string w src dst k1 n (by rw [hu0]; rfl) hu]
 ·cases hk
theorem EG (h : Rel E w a s) {d : Option Tmp} (hd : dN E d) {b : Builtin} {x y : Operand} {ats : Array TypeId} {ty : TypeId} {pos : String} {af : Array Edge} {g : Option (Nat × Bool)}
  (hk : JD b (ev s x) (ev s y) (fun v => κ (s.put d v)) = some r) : Oper.wp E.P ⟨d, .call { callee := .builtin b, args := #[x, y], argTypes := ats }, ty, pos, af, g⟩ a w (Goes E κ r) Q := by
 obtain ⟨pl, h⟩ := h
 have hx := h.ev x _ rfl
 have hy := h.ev y _ rfl
 unfold JD at hk
 split at hk
 ·rename_i k1 n1 k2 n2 e1 e2
  rw [e1] at hx
  rw [e2] at hy
  obtain ⟨rfl, hk⟩ := bI hk
  refine Oper.wp_of_value (v := .int k1 (dF7 n1 n2)) (w' := w) ?_ (Goes.put h hd (.int _ _) hk)
  simp [execOp, resolve, invoke, builtin, hx.int_inv, hy.int_inv, Builtin.max_, Builtin.max2, dF7]
 ·rename_i k1 n1 k2 n2 e1 e2
  rw [e1] at hx
  rw [e2] at hy
  obtain ⟨rfl, hk⟩ := bI hk
  refine Oper.wp_of_value (v := .int k1 (FH n1 n2)) (w' := w) ?_ (Goes.put h hd (.int _ _) hk)
  simp [execOp, resolve, invoke, builtin, hx.int_inv, hy.int_inv, Builtin.min_, Builtin.min2, FH]
 ·cases hk
end
end Go.Proofs.YticibdjilmclgaaDoorZF

namespace Go.Proofs.YticibdjilmclgaaDoorZF
open Go
set_option linter.unusedVariables false
set_option linter.unusedSimpArgs false
theorem pG {P : Program} {t : TypeId} {k : K} (hT : TyOk P t k) {w : World} {b o : Nat} {cs : List Value} (hr : w.rangeAt b o cs) (hl : cs.length = k.size) {v : Value} (hv : if k.isPair then v = .agg cs.toArray else cs = [v]) :
  (loadVar t ⟨b, o, none⟩).run P w = .ok v w := by
 unfold loadVar
 rw [Sem.run_bind, hT.isAgg]
 simp only [Result.andThen_ok]
 by_cases hp : k.isPair = true
 ·rw [if_pos hp] at hv ⊢
  have := run_loadCells_list (P := P) w ⟨b, o, none⟩ cs (fun j v hv => by rw [Addr.add_mid]; exact hr j v hv)
  rw [hl] at this
  simp [hT.sizeOf, this, hv]
 ·rw [if_neg hp] at hv ⊢
  subst hv
  have := hr 0 v rfl
  simp at this
  simp [load, Sem.run, this]
theorem yM {P : Program} {t : TypeId} {k : K} (hT : TyOk P t k) {w : World} {b o : Nat} {cs : List Value} {v : Value} (hv : v.cells = cs.toArray) (hl : cs.length = k.size) (ht : w.there b o k.size) (h1 : ∀ u ∈ cs, u.oneCell' = true) :
  (storeVar t ⟨b, o, none⟩ v).run P w = .ok () (w.setCells b o cs) := by
 unfold storeVar
 have := run_storeCells_cells (P := P) b o cs 0 w (fun j hj => by simpa using (ht j (by omega)).1) (fun j hj => by simpa using (ht j (by omega)).2) h1
 simp only [Nat.add_zero] at this
 rw [Sem.run_bind, hT.sizeOf]
 simp [hv, hl, this]
theorem VRep.mkPtr {w : World} {A : Nat → Prop} {O : kB} {pl : Nat → Pl} {o : Nat} {i : Int} {off : Nat} {v : Value} {k : K} {e : TypeId} {rw_ : Bool} {xs : List k.den} (ho : O o = some (.row k e rw_ xs)) (h0 : 0 ≤ i) (h1 : i < xs.length)
  (hv : v = .pointer (some ⟨(pl o).b, (pl o).off + i.toNat * k.size + off, none⟩)) : VRep w A O pl (.ptr o i off) v := .inl ⟨k, e, rw_, xs, ho, h0, h1, hv⟩
theorem EJ {k : K} {xs : List k.den} {i : Int} (h0 : 0 ≤ i) (h1 : i < xs.length) : xs[i.toNat]? = some (rdK k xs i) := by
 unfold rdK
 rw [List.getD_eq_getElem?_getD, List.getElem?_eq_getElem (by omega)]
 rfl
theorem eM {α : Type} {xs : List α} (h : xs ≠ []) : 0 < xs.length := List.length_pos_iff.2 h
theorem dM : ∀ (l : List Nat) (s : FState) (o : Nat), (bU l s).objs o = if o ∈ l then none else s.objs o
 | [], s, o => by simp [bU]
 | p :: l, s, o => by
  rw [bU, dM l, gY]
  by_cases h1 : o ∈ l
  ·simp [h1]
  ·by_cases h2 : o = p <;> simp [h1, h2]
theorem dF {x : Nat} : ∀ {l : List Nat}, x ∈ l → jZ x l = true
 | y :: l, h => by
  rcases List.mem_cons.1 h with rfl | h
  ·simp [jZ, Nat.beq_refl]
  ·simp [jZ, dF h]
theorem jD {x : Nat} : ∀ {l : List Nat}, jZ x l = true → x ∈ l
 | y :: l, h => by
  simp only [jZ, Bool.or_eq_true] at h
  rcases h with h | h
  ·rw [Nat.eq_of_beq_eq_true h]; simp
  ·simp [jD h]
theorem RowAt.winC {w : World} {A : Nat → Prop} {k : K} {b off0 : Nat} {xs : List k.den} (h : RowAt w A k b off0 xs) {wn : Option (Int × Int)} {off len : Nat} (hw : winOk xs wn off len) :
  RowAt w A k b (off0 + off * k.size) (win xs wn) ∧ (win xs wn).length = len := by
 cases wn with
 | none => obtain ⟨rfl, rfl⟩ := hw; simpa [win] using h
 | some fl =>
  obtain ⟨f, l⟩ := fl
  obtain ⟨g1, g2, g3, rfl, rfl⟩ := hw
  refine ⟨h.cut f (f + l), ?_⟩
  simp only [win]
  rw [nA _ _ _ (by omega) (by omega)]; omega
theorem winOk.bd0 {α : Type} {xs : List α} {wn : Option (Int × Int)} {off len : Nat} (h : winOk xs wn off len) : off + len ≤ xs.length := by
 cases wn with
 | none => obtain ⟨rfl, rfl⟩ := h; omega
 | some fl => obtain ⟨f, l⟩ := fl; obtain ⟨g1, g2, g3, rfl, rfl⟩ := h; omega
section
variable {E : Env} {pl : Nat → Pl} {Γ : Ctx} {w w' : World} {a : Act} {s : FState} {β : Type} {r : β} {κ : FState → Option β} {Q : Exit → Act → World → Prop}
theorem RelP.killsL : ∀ (l : List Nat) {s : FState}, RelP E pl w a s → RelP E pl w a (bU l s)
 | [], s, h => h
 | o :: l, s, h => RelP.killsL l (h.kill o)
theorem Av.ofKill {l : List Nat} {s : FState} : ∀ b, Av E (bU l s).objs pl b → Av E s.objs pl b := fun b hb => hb.imp id fun ⟨o, obj, ho, h2, h3⟩ => by
 rw [dM] at ho
 split at ho
 ·cases ho
 ·exact ⟨o, obj, ho, h2, h3⟩
theorem RepD.mono' {A A' : Nat → Prop} {k : K} {x : k.den} {cs : List Value} (hA : ∀ b, A' b → A b) (h : RepD w A k x cs) : RepD w A' k x cs := h.stay (fun b hb hn => ⟨fun h => hn (hA b h), rfl⟩)
theorem dN4 {o : Nat} (h : mP s o = true) : ∃ k e xs, s.objs o = some (.row k e false xs) := by
 unfold mP at h
 split at h
 ·rename_i k e rw_ xs ho
  cases rw_
  ·exact ⟨k, e, xs, ho⟩
  ·cases h
 ·cases h
theorem jQ (h : RelP E pl w a s) {x : Operand} {k : K} {f : k.den → Option β} (hk : iT s (ev s x) k f = some r) (ids : List Nat) (hids : ∀ o w nn, ev s x = .sl o w nn → mP s o = false → o ∈ ids) :
  ∃ y cs, f y = some r ∧ RepD w (Av E (bU ids s).objs pl) k y cs ∧ (a.eval x).cells = cs.toArray ∧ (if k.isPair then a.eval x = .agg cs.toArray else cs = [a.eval x]) := by
 have key : ∀ (k : K) (f : k.den → Option β), vD (ev s x) k f = some r → ∃ y cs, f y = some r ∧ RepD w (Av E (bU ids s).objs pl) k y cs ∧ (a.eval x).cells = cs.toArray ∧ (if k.isPair then a.eval x = .agg cs.toArray else cs = [a.eval x]) := fun k f hk => by
  obtain ⟨y, hy, hk⟩ := eJ hk
  obtain ⟨cs, hcs, hv⟩ := (h.ev x _ hy).dat_inv
  refine ⟨y, cs, hk, hcs.mono' Av.ofKill, ?_, hv⟩
  obtain ⟨cs', hcs', hv'⟩ := (h.ev x _ hy).cells
  by_cases hp : k.isPair = true
  ·rw [if_pos hp] at hv; rw [hv]; rfl
  ·rw [if_neg hp] at hv
   subst hv
   have := hcs.one (a.eval x) (by simp)
   cases hx : a.eval x <;> first | rfl | (rw [hx] at this; simp [Value.oneCell'] at this)
 cases k with
 | sl e k' =>
  simp only [iT] at hk
  split at hk
  ·rename_i hx
   have hve : a.eval x = .slice none 0 0 := by
    rcases h.ev x _ hx with hv | ⟨l, _, hl⟩
    ·exact hv
    ·exact hl.elim
   exact ⟨[], [a.eval x], hk, ⟨none, 0, by rw [hve]; rfl, Nat.le_refl _, .inl rfl⟩, by rw [hve]; rfl, by simp [K.isPair]⟩
  ·rename_i o0 w0 nn0 hx
   obtain ⟨o, wn, nn, k1, e1, rw_, xs, hx', ho, hk⟩ := cI hk
   cases hx'
   obtain ⟨he, hk⟩ := bI hk
   have hh := bR hk
   clear hk
   obtain ⟨he', hk⟩ := hh
   subst he'
   obtain ⟨k2, e2, rw2, xs2, ho2, ad, cap, off, len, hw, hxe, hl, hc1, hc2, _⟩ := (h.ev x _ hx).sl_inv
   rw [ho] at ho2
   cases ho2
   obtain ⟨_, hxl, hmem, hro, hrow⟩ := h.objs o0 _ ho
   obtain ⟨hrw, hwl⟩ := hrow.winC hw
   refine ⟨win xs w0, [a.eval x], hk, ⟨ad, cap, by rw [hxe, hwl], by rw [hwl]; exact hl, ?_⟩, by rw [hxe]; rfl, by simp [K.isPair]⟩
   by_cases h0 : len = 0
   ·exact .inl (List.eq_nil_of_length_eq_zero (by omega))
   ·refine .inr ⟨(pl o0).b, (pl o0).off + off * k1.size, hc2 (.inl (by omega)), fun hA => ?_, fun i z hz => ?_⟩
    ·have hxs : xs ≠ [] := fun e => by
      have := hw.bd0
      rw [e] at this
      simp at this
      omega
     cases rw_ with
     | false => exact hro rfl hxs (Av.ofKill _ hA)
     | true =>
      have hoc : occ (pl o0) (.row k1 e1 true xs) := ⟨rfl, by have := eM hxs; omega⟩
      rcases hA with hz | ⟨o', obj', ho', hc', hb'⟩
      ·exact (h.fresh _ ⟨o0, _, ho, hoc, rfl⟩).2.2 hz
      ·rw [dM] at ho'
       split at ho'
       ·cases ho'
       ·rename_i hni
        have hne : o' ≠ o0 := fun e => hni (e ▸ hids o0 w0 nn0 hx (by simp [mP, ho]))
        exact h.sep o' o0 obj' _ hne ho' ho hc' hoc hb'
    ·obtain ⟨ds, h1, h2⟩ := hrw i z hz
     exact ⟨ds, h1.mono' Av.ofKill, h2⟩
  ·exact key _ _ hk
 | int k => exact key _ _ hk
 | bool => exact key _ _ hk
 | str => exact key _ _ hk
 | flt k => exact key _ _ hk
 | err => exact key _ _ hk
 | pair k1 k2 => exact key _ _ hk
theorem Goes.putD (hT : TabOk E.P Γ) (h : RelP E pl w a s) {d : Option Tmp} (hd : dN E d) {k : K} {y : k.den} {cs : List Value} {v : Value} (hc : RepD w (Av E s.objs pl) k y cs) (hv : if k.isPair then v = .agg cs.toArray else cs = [v])
  (hk : Go.Proofs.YticibdjilmclgaaDoorZF.putD Γ d s k y κ = some r) : Goes E κ r (a.put d v) w := by
 cases k with
 | sl e k' =>
  unfold Go.Proofs.YticibdjilmclgaaDoorZF.putD at hk
  obtain ⟨hke, hk⟩ := bI hk
  obtain ⟨d', rfl, hn, hk⟩ := cC hk
  have hTy := hT.kt e k' hke
  obtain ⟨ad, cap, hcs, hle, hrow⟩ := hc
  have hve : v = .slice ad y.length cap := by
   simp only [K.isPair, Bool.false_eq_true, if_false] at hv
   rw [hcs] at hv
   simpa using hv.symm
  by_cases hy0 : y = []
  ·have hnew := h.new (Ext.refl w) hn (.row k' e false y) ⟨0, 0, y.length⟩ (fun hh => by cases hh.1) (fun A' hA' => ⟨hTy, Nat.le_refl _, fun hh => (by cases hh), fun _ hne => absurd hy0 hne, by rw [hy0]; exact RowAt.nil _ _ _ _ _⟩)
   refine ⟨_, ⟨_, hnew.put (d := some d') hd (f := .sl d' none false) (v := v) (.inl ⟨k', e, false, y, aT _ _ _, ad, cap, 0, y.length, ⟨rfl, rfl⟩, hve, hle, fun hh => (by cases hh), fun hh => ?_, fun hh => by cases hh⟩)⟩, hk⟩
   rcases hh with hh | ⟨hh, _⟩
   ·rw [hy0] at hh; simp at hh
   ·cases hh
  ·obtain ⟨b, off, hab, hb, hr⟩ := hrow.resolve_left hy0
   have hnew := h.new (Ext.refl w) hn (.row k' e false y) ⟨b, off, y.length⟩ (fun hh => by cases hh.1) (fun A' hA' => ⟨hTy, Nat.le_refl _, fun hh => (by cases hh), fun _ hne hAA => ((hA' _ hAA).elim hb (fun h3 => by cases h3.1.1)), fun i z hz => by
    obtain ⟨ds, h1, h2⟩ := hr i z hz
    exact ⟨ds, h1.mono' (fun b' hb' => (hA' b' hb').elim id (fun h3 => by cases h3.1.1)), h2⟩⟩)
   exact ⟨_, ⟨_, hnew.put (d := some d') hd (f := .sl d' none false) (v := v) (.inl ⟨k', e, false, y, aT _ _ _, ad, cap, 0, y.length, ⟨rfl, rfl⟩, hve, hle, fun hh => (by cases hh), fun _ => by rw [aU, hab]; simp, fun hh => by cases hh⟩)⟩, hk⟩
 | int k => exact Goes.put h hd (.ofCells hc hv) hk
 | bool => exact Goes.put h hd (.ofCells hc hv) hk
 | str => exact Goes.put h hd (.ofCells hc hv) hk
 | flt k => exact Goes.put h hd (.ofCells hc hv) hk
 | err => exact Goes.put h hd (.ofCells hc hv) hk
 | pair k1 k2 => exact Goes.put h hd (.ofCells hc hv) hk
end
theorem rD {s : FState} {o : Nat} {wn : Option (Int × Int)} {nn : Bool} (hr : mP s o = false) : ∀ {vs : List FV}, FV.sl o wn nn ∈ vs → o ∈ frz s vs
 | v :: vs, h => by
  rcases List.mem_cons.1 h with rfl | h
  ·simp [frz, hr]
  ·have ih := rD (s := s) hr h
   cases v with
   | sl o' w' nn' => simp only [frz]; cases mP s o' <;> simp [ih]
   | _ => simpa [frz] using ih
section
variable {E : Env} {Γ : Ctx} {w w' : World} {a : Act} {s : FState} {β : Type} {r : β} {κ : FState → Option β} {Q : Exit → Act → World → Prop}
theorem XM (hT : TabOk E.P Γ) (h : Rel E w a s) {d : Option Tmp} (hd : dN E d) {t : TypeId} {x : Operand} {ty : TypeId} {pos : String} {af : Array Edge} {g : Option (Nat × Bool)}
  {p : Nat} {i : Int} {off : Nat} (hx : ev s x = .ptr p i off) {k : K} {e : TypeId} {rw_ : Bool} {xs : List k.den} (ho : s.objs p = some (.row k e rw_ xs)) {k' : K} (hk' : lk Γ.kt t = some k') {y : k'.den} (hy : RG k off k' (rdK k xs i) = some y)
  (hk : putD Γ d s k' y κ = some r) : Oper.wp E.P ⟨d, .load t x, ty, pos, af, g⟩ a w (Goes E κ r) Q := by
 obtain ⟨pl, h⟩ := h
 obtain ⟨k1, e1, rw1, xs1, ho1, hi0, hi1, hv⟩ := (h.ev x _ hx).ptr_inv
 rw [ho] at ho1
 cases ho1
 obtain ⟨h0, h1, h2, h3, h4⟩ := h.objs p _ ho
 obtain ⟨ds, hds, hcell⟩ := h4 _ _ (EJ hi0 hi1)
 obtain ⟨hrep, hle⟩ := tY k off k' _ y hy hds
 have hlen := hrep.len
 have hrange : w.rangeAt (pl p).b ((pl p).off + i.toNat * k.size + off) ((ds.drop off).take k'.size) := fun j v hv => by
  have hj : j < k'.size := by
   have := (List.getElem?_eq_some_iff.1 hv).1
   omega
  rw [List.getElem?_take, if_pos hj, List.getElem?_drop] at hv
  rw [← hv, ← hcell (off + j) (by omega)]
  congr 2
  omega
 obtain ⟨v, hvv⟩ : ∃ v, if k'.isPair then v = Value.agg ((ds.drop off).take k'.size).toArray else (ds.drop off).take k'.size = [v] := by
  by_cases hp : k'.isPair = true
  ·exact ⟨_, by rw [if_pos hp]⟩
  ·have h1 : k'.size = 1 := by cases k' <;> first | rfl | simp [K.isPair] at hp
   rw [h1] at hlen
   obtain ⟨v, hv⟩ := List.length_eq_one_iff.1 hlen
   exact ⟨v, by rw [if_neg hp, h1]; exact hv⟩
 refine Oper.wp_of_value (v := v) (w' := w) ?_ (Goes.putD hT h hd hrep hvv hk)
 simp [execOp, hv, Instr.loadAt, Instr.sureAddr, pG (hT.kt t _ hk') hrange hlen hvv]
theorem DI (ds cs : List Value) (off j : Nat) (h : off + cs.length ≤ ds.length) : (jK ds off cs)[j]? = if off ≤ j ∧ j < off + cs.length then cs[j - off]? else ds[j]? := by
 unfold jK
 by_cases h1 : j < off
 ·rw [if_neg (by omega), List.append_assoc, List.getElem?_append_left (by rw [List.length_take]; omega), List.getElem?_take, if_pos h1]
 ·by_cases h2 : j < off + cs.length
  ·rw [if_pos ⟨by omega, h2⟩, List.getElem?_append_left (by rw [List.length_append, List.length_take]; omega), List.getElem?_append_right (by rw [List.length_take]; omega), List.length_take]
   congr 1; omega
  ·rw [if_neg (by omega), List.getElem?_append_right (by rw [List.length_append, List.length_take]; omega), List.length_append, List.length_take, List.getElem?_drop]
   congr 1; omega
theorem RowAt.set {w w' : World} {A A' : Nat → Prop} {k : K} {b off : Nat} {xs : List k.den} (h : RowAt w A k b off xs) (hs : Stay w A w' A') {n q : Nat} {z : k.den} {ds cs : List Value} (hn : n < xs.length)
  (hds : RepD w A k z (jK ds q cs)) (hlen : ds.length = k.size) (hq : q + cs.length ≤ k.size) (hcell : ∀ j, j < k.size → w.cell? ⟨b, off + n * k.size + j, none⟩ = ds[j]?)
  (hw : w' = w.setCells b (off + n * k.size + q) cs) : RowAt w' A' k b off (xs.set n z) := by
 intro i x hi
 have hth : ∀ j, j < cs.length → (w.cell? ⟨b, off + n * k.size + q + j, none⟩).isSome = true := fun j hj => by
  rw [show off + n * k.size + q + j = off + n * k.size + (q + j) by omega, hcell (q + j) (by omega)]
  simp; omega
 rw [List.getElem?_set] at hi
 split at hi
 ·rename_i e
  subst e
  cases hi
  refine ⟨jK ds q cs, hds.stay hs, fun j hj => ?_⟩
  rw [DI ds cs q j (by omega), hw]
  by_cases hin : q ≤ j ∧ j < q + cs.length
  ·rw [if_pos hin]
   have := World.cell?_setCells_in b cs (off + n * k.size + q) w hth (j - q) (by omega)
   rw [show off + n * k.size + q + (j - q) = off + n * k.size + j by omega] at this
   rw [this, List.getElem?_eq_getElem]
  ·rw [if_neg hin, World.cell?_setCells_out b cs _ w ⟨b, _, none⟩ (fun _ _ => by show off + n * k.size + j < _ ∨ _ ≤ off + n * k.size + j; omega)]
   exact hcell j hj
 ·rename_i hne
  obtain ⟨es, he, hc⟩ := h i x hi
  refine ⟨es, he.stay hs, fun j hj => ?_⟩
  rw [hw, World.cell?_setCells_out b cs _ w ⟨b, _, none⟩ (fun _ _ => by
   show off + i * k.size + j < _ ∨ _ ≤ off + i * k.size + j
   rcases Nat.lt_or_gt_of_ne hne with hlt | hlt
   ·right
    have := Nat.mul_le_mul_right k.size (show n + 1 ≤ i from hlt)
    rw [Nat.add_mul] at this
    omega
   ·left
    have := Nat.mul_le_mul_right k.size (show i + 1 ≤ n from hlt)
    rw [Nat.add_mul] at this
    omega)]
  exact hc j hj
theorem QU (hT : TabOk E.P Γ) (h : Rel E w a s) {d : Option Tmp} (hd : d = none) {t : TypeId} {x y : Operand} {ty : TypeId} {pos : String} {af : Array Edge} {g : Option (Nat × Bool)}
  {p : Nat} {i : Int} {off : Nat} (hx : ev s x = .ptr p i off) {k : K} {e : TypeId} {xs : List k.den} (ho : s.objs p = some (.row k e true xs)) {k' : K} (hk' : lk Γ.kt t = some k') (hk : iT s (ev s y) k' (fun u => cD (ZE k off k' u (rdK k xs i)) fun z => bif jZ p (frz s [ev s y]) then none else κ ((bU (frz s [ev s y]) s).setO p (some (.row k e true (xs.set i.toNat z))))) = some r) : Oper.wp E.P ⟨d, .store t x y, ty, pos, af, g⟩ a w (Goes E κ r) Q := by
 subst hd
 obtain ⟨pl, h⟩ := h
 obtain ⟨k1, e1, rw1, xs1, ho1, hi0, hi1, hv⟩ := (h.ev x _ hx).ptr_inv
 rw [ho] at ho1
 cases ho1
 obtain ⟨u, cs, hk1, hcs, hvc, _⟩ := jQ h hk (frz s [ev s y]) (fun o w nn hx hr => rD (wn := w) (nn := nn) hr (by rw [hx]; exact List.mem_singleton.2 rfl))
 clear hk
 obtain ⟨z, hz, hk2⟩ := aL hk1
 clear hk1
 have hpn : jZ p (frz s [ev s y]) = false ∧ κ ((bU (frz s [ev s y]) s).setO p (some (.row k e true (xs.set i.toNat z)))) = some r := by
  cases hm : jZ p (frz s [ev s y]) with
  | true => rw [hm] at hk2; cases hk2
  | false => rw [hm] at hk2; exact ⟨rfl, hk2⟩
 obtain ⟨hpn, hk⟩ := hpn
 have h := h.killsL (frz s [ev s y])
 have ho : (bU (frz s [ev s y]) s).objs p = some (.row k e true xs) := by
  rw [dM, if_neg (fun hm => by rw [dF hm] at hpn; cases hpn)]; exact ho
 obtain ⟨h0, h1, h2, h3, h4⟩ := h.objs p _ ho
 obtain ⟨ds, hds, hcell⟩ := h4 _ _ (EJ hi0 hi1)
 obtain ⟨hrep, hle⟩ := uH k off k' u _ z hz hds hcs
 have hlen := hcs.len
 have hpos : 0 < (pl p).cap := by omega
 have hth : w.there (pl p).b ((pl p).off + i.toNat * k.size + off) k'.size := by
  obtain ⟨row, tt, hrow, hsz⟩ := h2 rfl hpos
  refine kP hrow ?_
  have := Nat.mul_le_mul_right k.size (show i.toNat + 1 ≤ (pl p).cap by omega)
  rw [Nat.add_mul] at this
  omega
 refine Oper.wp_of_skip (w' := w.setCells (pl p).b ((pl p).off + i.toNat * k.size + off) cs) ?_ ⟨_, ⟨pl, ?_⟩, hk⟩
 ·simp [execOp, hv, Instr.storeAt, Instr.sureAddr, yM (hT.kt t _ hk') hvc hlen hth hcs.one]
 ·refine h.write ho ⟨_, rfl, by simp⟩ ⟨rfl, hpos⟩ (Wr.setCells _ _ _ _) (fun A' hA' hst => ⟨h0, by simpa using h1, fun _ hc => ?_, fun h => (by cases h), ?_⟩)
  ·obtain ⟨row, tt, hrow, hsz⟩ := h2 rfl hc
   obtain ⟨row', hrow', hsz'⟩ := hrow.setCells ((pl p).off + i.toNat * k.size + off) cs
   exact ⟨row', tt, hrow', by rw [hsz']; exact hsz⟩
  ·exact h4.set hst (by omega) hrep hds.len (by omega) hcell rfl
theorem yJ (hT : TabOk E.P Γ) (h : Rel E w a s) {d : Option Tmp} (hd : dN E d) {t : TypeId} {x : Operand} {j : Nat} {ty : TypeId} {pos : String} {af : Array Edge} {g : Option (Nat × Bool)}
  {p : Nat} {i : Int} {off : Nat} (hx : ev s x = .ptr p i off) {q : Nat} {ft : TypeId} (hf : iG Γ t j = some (q, ft)) {k' : K} (hk' : lk Γ.kt ft = some k')
  (hk : κ (s.put d (.ptr p i (off + q))) = some r) : Oper.wp E.P ⟨d, .fieldAddr t x j, ty, pos, af, g⟩ a w (Goes E κ r) Q := by
 obtain ⟨pl, h⟩ := h
 obtain ⟨k, e, rw1, xs, ho, hi0, hi1, hv⟩ := (h.ev x _ hx).ptr_inv
 obtain ⟨fs, f, hu, hfs, rfl, rfl⟩ := hT.fo t j q ft hf
 refine Oper.wp_of_value (v := .pointer (some ⟨(pl p).b, (pl p).off + i.toNat * k.size + off + f.offset, none⟩)) (w' := w) ?_ (Goes.put h hd (.mkPtr ho hi0 hi1 (by rw [Nat.add_assoc])) hk)
 have hsz := (hT.kt _ _ hk').sizeOf (w := w)
 have hne : k'.size ≠ 0 := Nat.pos_iff_ne_zero.1 k'.size_pos
 simp [execOp, hv, Instr.fieldAt, run_underlying hu, hfs, Instr.sureAddr, fieldPlace, hsz, hne, Addr.add_mid]
theorem PK (hT : TabOk E.P Γ) (h : Rel E w a s) {d : Option Tmp} (hd : dN E d) {t : TypeId} {x : Operand} {j : Nat} {ty : TypeId} {pos : String} {af : Array Edge} {g : Option (Nat × Bool)}
  {k1 k2 : K} {y : (K.pair k1 k2).den} (hx : ev s x = .dat (.pair k1 k2) y) {q : Nat} {ft : TypeId} (hf : iG Γ t j = some (q, ft)) {k' : K} (hk' : lk Γ.kt ft = some k') {z : k'.den} (hz : RG (.pair k1 k2) q k' y = some z)
  (hk : putD Γ d s k' z κ = some r) : Oper.wp E.P ⟨d, .field t x j, ty, pos, af, g⟩ a w (Goes E κ r) Q := by
 obtain ⟨pl, h⟩ := h
 obtain ⟨cs, hcs, hv⟩ := (h.ev x _ hx).dat_inv
 simp only [K.isPair, if_true] at hv
 obtain ⟨hrep, hle⟩ := tY _ q k' y z hz hcs
 obtain ⟨fs, f, hu, hfs, rfl, rfl⟩ := hT.fo t j q ft hf
 have hlen := hrep.len
 have hcl := hcs.len
 obtain ⟨v, hvv⟩ : ∃ v, if k'.isPair then v = Value.agg ((cs.drop f.offset).take k'.size).toArray else (cs.drop f.offset).take k'.size = [v] := by
  by_cases hp : k'.isPair = true
  ·exact ⟨_, by rw [if_pos hp]⟩
  ·have h1 : k'.size = 1 := by cases k' <;> first | rfl | simp [K.isPair] at hp
   rw [h1] at hlen
   obtain ⟨v, hv⟩ := List.length_eq_one_iff.1 hlen
   exact ⟨v, by rw [if_neg hp, h1]; exact hv⟩
 refine Oper.wp_of_value (v := v) (w' := w) ?_ (Goes.putD hT h hd hrep hvv hk)
 have hpart : (part f.type cs.toArray f.offset).run E.P w = .ok v w := by
  unfold part
  rw [Sem.run_bind, (hT.kt _ _ hk').isAgg]
  simp only [Result.andThen_ok]
  by_cases hp : k'.isPair = true
  ·rw [if_pos hp] at hvv ⊢
   rw [Sem.run_bind, (hT.kt _ _ hk').sizeOf]
   simp [hvv, List.drop_take]
  ·rw [if_neg hp] at hvv ⊢
   have h1 : k'.size = 1 := by cases k' <;> first | rfl | simp [K.isPair] at hp
   rw [h1] at hvv
   have : cs[f.offset]? = some v := by
    have h2 : ((cs.drop f.offset).take 1)[0]? = some v := by rw [hvv]; rfl
    rw [List.getElem?_take, if_pos (by omega), List.getElem?_drop] at h2
    simpa using h2
   simp [this]
 simp [execOp, hv, Instr.field, run_underlying hu, hfs, Go.asAgg, hpart]
theorem yI (hT : TabOk E.P Γ) (h : Rel E w a s) {d : Option Tmp} (hd : dN E d) {t : TypeId} {x ix : Operand} {ty : TypeId} {pos : String} {af : Array Edge} {g : Option (Nat × Bool)}
  {o : Nat} {wn : Option (Int × Int)} {nn : Bool} (hx : ev s x = .sl o wn nn) {k : K} {e : TypeId} {rw_ : Bool} {xs : List k.den} (ho : s.objs o = some (.row k e rw_ xs)) (ht : lk Γ.se t = some e) {ik : IntKind} {i : Int} (hi : ev s ix = .dat (.int ik) i)
  (hi0 : 0 ≤ i) (hi1 : i < cZ xs wn) (hk : κ (s.put d (.ptr o (cJ wn i) 0)) = some r) : Oper.wp E.P ⟨d, .indexAddr t x ix, ty, pos, af, g⟩ a w (Goes E κ r) Q := by
 obtain ⟨pl, h⟩ := h
 obtain ⟨k1, e1, rw1, xs1, ho1, ad, cap, off, len, hw, hv, hl, hc1, hc2, _⟩ := (h.ev x _ hx).sl_inv
 rw [ho] at ho1
 cases ho1
 obtain ⟨h0, h1, h2, h3, h4⟩ := h.objs o _ ho
 have hin : i < len ∧ (cJ wn i).toNat = off + i.toNat ∧ 0 ≤ cJ wn i ∧ cJ wn i < xs.length := by
  cases wn with
  | none =>
   obtain ⟨rfl, rfl⟩ := hw
   simp only [cZ] at hi1
   simp only [cJ]; omega
  | some fl =>
   obtain ⟨f, l⟩ := fl
   obtain ⟨g1, g2, g3, rfl, rfl⟩ := hw
   simp only [cZ] at hi1
   simp only [cJ]; omega
 obtain ⟨hin1, hin2, hin3, hin4⟩ := hin
 have had := hc2 (.inl (by omega))
 subst had
 have hie := (h.ev ix _ hi).int_inv
 refine Oper.wp_of_value (v := .pointer (some ⟨(pl o).b, (pl o).off + (cJ wn i).toNat * k.size + 0, none⟩)) (w' := w) ?_ (Goes.put h hd (.mkPtr ho hin3 hin4 rfl) hk)
 simp [execOp, hv, hie, Instr.indexAt, asIntOf, run_underlying (hT.se t e ht), h0.sizeOf, hi0, hin1, Addr.add_mid, hin2, Nat.add_mul, Nat.add_assoc]
theorem PL (hT : TabOk E.P Γ) (h : Rel E w a s) {d : Option Tmp} (hd : dN E d) {t : TypeId} {x ix : Operand} {ty : TypeId} {pos : String} {af : Array Edge} {g : Option (Nat × Bool)}
  {z : ByteArray} (hx : ev s x = .dat .str z) (ht : lk Γ.kt t = some .str) {ik : IntKind} {i : Int} (hi : ev s ix = .dat (.int ik) i) (hi0 : 0 ≤ i) (hi1 : i < z.size)
  (hk : κ (s.put d (.dat (.int .u8) (BC z i))) = some r) : Oper.wp E.P ⟨d, .index t x ix, ty, pos, af, g⟩ a w (Goes E κ r) Q := by
 obtain ⟨pl, h⟩ := h
 have hxe := (h.ev x _ hx).str_inv
 have hie := (h.ev ix _ hi).int_inv
 have hu : E.P.underlying t = some .string := (hT.kt t _ ht).und
 refine Oper.wp_of_value (v := .int .u8 (BC z i)) (w' := w) ?_ (Goes.put h hd (.int _ _) hk)
 have hlt : i.toNat < z.size := by omega
 have hb : z[i.toNat]? = some (z.get! i.toNat) := by
  rw [getElem?_pos z i.toNat hlt]
  congr 1
  show z.data[i.toNat] = z.data[i.toNat]!
  rw [getElem!_pos z.data i.toNat hlt]
 simp [execOp, hxe, hie, Instr.index, asIntOf, run_underlying hu, hi0, hb, BC]
theorem BU (h : Rel E w a s) {d : Option Tmp} (hd : dN E d) {x : Operand} {ty : TypeId} {pos : String} {af : Array Edge} {g : Option (Nat × Bool)}
  {p : Nat} {i : Int} {off : Nat} (hx : ev s x = .ptr p i off) (hk : κ (s.put d (.ptr p i off)) = some r) : Oper.wp E.P ⟨d, .nilCheck x, ty, pos, af, g⟩ a w (Goes E κ r) Q := by
 obtain ⟨pl, h⟩ := h
 have hv := h.ev x _ hx
 obtain ⟨k, e, rw1, xs, ho, hi0, hi1, hp⟩ := hv.ptr_inv
 refine Oper.wp_of_value (v := a.eval x) (w' := w) ?_ (Goes.put h hd hv hk)
 simp [execOp, hp]
theorem LV (hT : TabOk E.P Γ) (h : Rel E w a s) {d : Option Tmp} (hd : dN E d) {t : TypeId} {x : Operand} {ty : TypeId} {pos : String} {af : Array Edge} {g : Option (Nat × Bool)}
  {z : ByteArray} (hx : ev s x = .dat .str z) (ht : lk Γ.kt t = some .str) (hk : κ (s.put d (.dat (.int .i64) (z.size : Int))) = some r) :
  Oper.wp E.P ⟨d, .call { callee := .builtin .len, args := #[x], argTypes := #[t] }, ty, pos, af, g⟩ a w (Goes E κ r) Q := by
 obtain ⟨pl, h⟩ := h
 have hxe := (h.ev x _ hx).str_inv
 have hu : E.P.underlying t = some .string := (hT.kt t _ ht).und
 refine Oper.wp_of_value (v := .int .i64 (z.size : Int)) (w' := w) ?_ (Goes.put h hd (.int _ _) hk)
 simp [execOp, resolve, invoke, builtin, hxe, Builtin.len_, run_underlying hu, goInt]
theorem xR (hT : TabOk E.P Γ) (h : Rel E w a s) {d : Option Tmp} (hd : dN E d) {t e : TypeId} {x : Operand} {ty : TypeId} {pos : String} {af : Array Edge} {g : Option (Nat × Bool)}
  (ht : lk Γ.se t = some e) {n : Nat} {ad : Option Addr} {c : Nat} (hx : a.eval x = .slice ad n c) (hk : κ (s.put d (.dat (.int .i64) (n : Int))) = some r) :
  Oper.wp E.P ⟨d, .call { callee := .builtin .len, args := #[x], argTypes := #[t] }, ty, pos, af, g⟩ a w (Goes E κ r) Q := by
 obtain ⟨pl, h⟩ := h
 refine Oper.wp_of_value (v := .int .i64 (n : Int)) (w' := w) ?_ (Goes.put h hd (.int _ _) hk)
 simp [execOp, resolve, invoke, builtin, hx, Builtin.len_, run_underlying (hT.se t e ht), goInt]
theorem winOk.lenInt {α : Type} {xs : List α} {wn : Option (Int × Int)} {off len : Nat} (h : winOk xs wn off len) : cZ xs wn = (len : Int) := by
 cases wn with
 | none => obtain ⟨_, rfl⟩ := h; rfl
 | some fl => obtain ⟨f, l⟩ := fl; obtain ⟨_, h2, _, _, rfl⟩ := h; simp only [cZ]; omega
end
end Go.Proofs.YticibdjilmclgaaDoorZF

namespace Go.Proofs.YticibdjilmclgaaDoorZF
open Go
set_option linter.unusedVariables false
set_option linter.unusedSimpArgs false
theorem Stay.grow {w w' : World} {A A' : Nat → Prop} (hw : ∀ b, b < w.heap.size → w'.heap[b]? = w.heap[b]?) (hA : ∀ b, b < w.heap.size → A' b → A b) : Stay w A w' A' := fun b hb h => ⟨fun h' => h (hA b hb h'), hw b hb⟩
section
variable {E : Env} {pl : Nat → Pl} {Γ : Ctx} {w w' : World} {a : Act} {s : FState} {β : Type} {r : β} {κ : FState → Option β} {Q : Exit → Act → World → Prop}
theorem RelP.newRow (h : RelP E pl w a s) (hx : Ext w w') {k : K} {e : TypeId} (hT : TyOk E.P e k) {d : Nat} (hd : s.objs d = none) (rw_ : Bool) {xs : List k.den} {cs : List Value} (hc : RowC w (Av E s.objs pl) k xs cs)
  {row : Array Value} {t : TypeId} {fz : Nat × Nat} (hrow : w'.heap[w.heap.size]? = some (.cells row t fz)) (hcs : ∀ (j : Nat) v, cs[j]? = some v → row[j]? = some v) {cap : Nat} (hcap : xs.length ≤ cap) (hsz : cap * k.size ≤ row.size) (hfz : fz = (0, 0) ∨ row.size ≤ fz.1 := by exact .inl rfl) :
  RelP E (upd pl d ⟨w.heap.size, 0, cap⟩) w' a (s.setO d (some (.row k e rw_ xs))) := by
 have hlt : w.heap.size < w'.heap.size := (Array.getElem?_eq_some_iff.1 hrow).1
 refine h.new hx hd _ _ (fun _ => ⟨Nat.le_refl _, hlt⟩) (fun A' hA' => ⟨hT, hcap, fun _ _ => ⟨row, t, ⟨_, hrow, hfz⟩, by simpa using hsz⟩, fun hr hxs hA => ?_, ?_⟩)
 ·rcases hA' _ hA with (hz | ⟨o, ob, ho, hoc, hb⟩) | ⟨⟨h1, _⟩, _⟩
  ·have h1 : w.heap.size < w.heap.size := h.zlt _ hz
   omega
  ·have h1 : w.heap.size < w.heap.size := (h.fresh _ ⟨o, ob, ho, hoc, hb⟩).1
   omega
  ·rw [hr] at h1; cases h1
 ·have hst : Stay w (Av E s.objs pl) w' A' := Stay.grow hx.block (fun b hb hA => by
   rcases hA' b hA with h1 | ⟨_, h1⟩
   ·exact h1
   ·simp only at h1; omega)
  exact (hc.stay hst).toAt (fun j v hv => by rw [Nat.zero_add, cell_of_row _ _ _ _ _ _ hrow]; exact hcs j v hv)
theorem RelP.putSl (h : RelP E pl w a s) {d : Nat} (hd : d < E.N) {k : K} {e : TypeId} {rw_ : Bool} {xs : List k.den} (ho : s.objs d = some (.row k e rw_ xs)) {ad : Option Addr} {len cap : Nat} (hlen : len = xs.length) (hle : len ≤ cap)
  (hrw : rw_ = true → cap = (pl d).cap) (had : 0 < len ∨ (rw_ = true ∧ 0 < cap) → ad = some ⟨(pl d).b, (pl d).off, none⟩) (nn : Bool) (hnn : nn = true → ad ≠ none) :
  RelP E pl w (a.put (some d) (.slice ad len cap)) (s.set d (.sl d none nn)) :=
 h.put (d := some d) (fun x hx => by cases hx; exact hd) (.inl ⟨k, e, rw_, xs, ho, ad, cap, 0, len, ⟨rfl, hlen⟩, rfl, hle, fun hr => by rw [Nat.zero_add]; exact hrw hr, fun hh => by rw [had hh]; simp, hnn⟩)
theorem DT (P : Program) (w : World) (t : TypeId) (v : Value) : (newVar t v).run P w = .ok ⟨w.heap.size, 0, none⟩ (w.alloc (.cells v.cells t)) := by
 simp [newVar, Go.newRow]
theorem mI (w : World) (o : Obj) : (w.alloc o).heap[w.heap.size]? = some o := by
 show (w.heap.push o)[w.heap.size]? = _
 simp
theorem RowC.single {w : World} {A : Nat → Prop} {k : K} {x : k.den} {cs : List Value} (h : RepD w A k x cs) : RowC w A k [x] cs := ⟨cs, [], by simp, h, rfl⟩
theorem uN (h : RelP E pl w a s) {d : Nat} (hd : d < E.N) {k : K} {t : TypeId} (hT : TyOk E.P t k) (hn : s.objs d = none) {x : k.den} {cs : List Value} (hc : RepD w (Av E s.objs pl) k x cs)
  (hk : κ ((s.setO d (some (.row k t true [x]))).set d (.ptr d 0 0)) = some r) : Goes E κ r (a.put (some d) (.pointer (some ⟨w.heap.size, 0, none⟩))) (w.alloc (.cells cs.toArray t)) := by
 have h2 := h.newRow (w' := w.alloc (.cells cs.toArray t)) (Ext.alloc _ _) hT hn true (RowC.single hc) (mI _ _) (fun j v hv => by simpa using hv) (cap := 1) (by simp) (by have := hc.len; simp [this])
 exact Goes.put (d := some d) h2 (fun x hx => by cases hx; exact hd) (VRep.mkPtr (aT _ _ _) (by omega) (by simp) (by rw [aU]; simp)) hk
theorem PH (hT : TabOk E.P Γ) (h : Rel E w a s) {d : Nat} (hd : d < E.N) {t : TypeId} {ty : TypeId} {pos : String} {af : Array Edge} {g : Option (Nat × Bool)} {k : K} (ht : lk Γ.kt t = some k) (hn : s.objs d = none)
  (hk : κ ((s.setO d (some (.row k t true [k.dflt]))).set d (.ptr d 0 0)) = some r) : Oper.wp E.P ⟨some d, .alloc t, ty, pos, af, g⟩ a w (Goes E κ r) Q := by
 obtain ⟨pl, h⟩ := h
 have hTy := hT.kt t k ht
 refine Oper.wp_of_value ?_ (uN h hd hTy hn (RepD.zero w _ k) hk)
 simp [execOp, Instr.alloc, hTy.zero, DT, K.zval_cells]
theorem m6 (hT : TabOk E.P Γ) (h : Rel E w a s) {d : Option Tmp} (hd : dN E d) {t : TypeId} {x : Operand} {ty : TypeId} {pos : String} {af : Array Edge} {g : Option (Nat × Bool)} {k : K} (ht : lk Γ.kt t = some k)
  (hk : iT s (ev s x) k (fun y => Go.Proofs.YticibdjilmclgaaDoorZF.newRow d (bU (frz s [ev s x]) s) (.row k t true [y]) (fun d => .ptr d 0 0) κ) = some r) : Oper.wp E.P ⟨d, .box t x, ty, pos, af, g⟩ a w (Goes E κ r) Q := by
 obtain ⟨pl, h⟩ := h
 obtain ⟨y, cs, hk1, hcs, hv, _⟩ := jQ h hk (frz s [ev s x]) (fun o w nn hx hr => rD (wn := w) (nn := nn) hr (by rw [hx]; exact List.mem_singleton.2 rfl))
 obtain ⟨d', rfl, hn, hk2⟩ := cC hk1
 refine Oper.wp_of_value ?_ (uN (h.killsL _) (hd _ rfl) (hT.kt t k ht) hn hcs hk2)
 simp [execOp, Instr.box, DT, hv]
theorem JY (off : Nat) (v : Array Value) (cs : Array Value) (h : off + v.size ≤ cs.size) : (v.zipIdx.foldl (fun cs (x : Value × Nat) => cs.setIfInBounds (off + x.2) x.1) cs).toList = jK cs.toList off v.toList := by
 obtain ⟨h1, h2⟩ := Great.foldl_set off v.toList 0 cs
 have e : v.zipIdx.foldl (fun cs (x : Value × Nat) => cs.setIfInBounds (off + x.2) x.1) cs = (v.toList.zipIdx 0).foldl (fun cs (x : Value × Nat) => cs.setIfInBounds (off + x.2) x.1) cs := by
  rw [← Array.foldl_toList, Array.toList_zipIdx]
 rw [e]
 refine List.ext_getElem? fun j => ?_
 rw [DI _ _ _ _ (by simpa using h)]
 have := h2 j
 rw [Array.getElem?_toList, this]
 simp only [Nat.add_zero, Array.length_toList, Array.getElem?_toList]
 by_cases hin : off ≤ j ∧ j < off + v.size
 ·rw [if_pos ⟨hin.1, hin.2, by omega⟩, if_pos hin]
 ·rw [if_neg (by omega), if_neg hin]
theorem uE {t : TypeId} {k : K} {places : List (Nat × Nat)} (hpl : ∀ j q ft k', iG Γ t j = some (q, ft) → lk Γ.kt ft = some k' → places[j]? = some (q, k'.size)) (h : RelP E pl w a s) (ids : List Nat) :
  ∀ (ps : List (Nat × Operand)) (x : k.den) (cells : Array Value) (κ' : k.den → Option β), (∀ q ∈ ps, ∀ o w nn, ev s q.2 = .sl o w nn → mP s o = false → o ∈ ids) → nS Γ s t k ps x κ' = some r → RepD w (Av E (bU ids s).objs pl) k x cells.toList →
   ∃ z cells', Instr.fill (places.toArray[·]?) cells (ps.map fun p => (p.1, a.eval p.2)) = some cells' ∧ RepD w (Av E (bU ids s).objs pl) k z cells'.toList ∧ κ' z = some r
 | [], x, cells, κ', _, hk, hc => ⟨x, cells, rfl, hc, hk⟩
 | (j, v) :: ps, x, cells, κ', hids, hk, hc => by
  unfold nS at hk
  obtain ⟨⟨q, ft⟩, hf, hk⟩ := aL hk
  obtain ⟨k', hk', hk⟩ := aL hk
  obtain ⟨y, ds, hk0, hds, hv, _⟩ := jQ h hk ids (fun o w nn hx hr => hids (j, v) (by simp) o w nn hx hr)
  clear hk
  obtain ⟨z, hz, hk⟩ := aL hk0
  obtain ⟨hrep, hle⟩ := uH k q k' y x z hz hc hds
  have hdl := hds.len
  have hcl := hc.len
  simp only [Array.length_toList] at hcl
  have hfold := JY q (a.eval v).cells cells (by rw [hv]; simp; omega)
  obtain ⟨z', cells', h1, h2, h3⟩ := uE hpl h ids ps z ((a.eval v).cells.zipIdx.foldl (fun cs (x : Value × Nat) => cs.setIfInBounds (q + x.2) x.1) cells) κ' (fun q hq => hids q (by simp [hq])) hk (by rw [hfold, hv]; exact hrep)
  refine ⟨z', cells', ?_, h2, h3⟩
  rw [List.map_cons]
  unfold Instr.fill
  have hpj : places.toArray[j]? = some (q, k'.size) := by simpa using hpl j q ft k' hf hk'
  simp only [hpj]
  rw [if_neg (by rw [hv]; simp; omega)]
  exact h1
theorem U4 (hT : TabOk E.P Γ) {t : TypeId} {l : List (Nat × Nat)} (hl : lk Γ.fo t = some l) : ∃ fs places, E.P.underlying t = some (.struct fs) ∧ fs.toList.mapM (fun f => (E.P.info? f.type).map fun i => (f.offset, i.size)) = some places ∧
  ∀ j q ft k', iG Γ t j = some (q, ft) → lk Γ.kt ft = some k' → places[j]? = some (q, k'.size) := by
 have hfo := hT.fos t l hl
 obtain ⟨fs, hu, he⟩ := hfo.und'
 obtain ⟨places, h1, h2⟩ := GF E.P fs.toList (by rw [he]; exact hfo.infos)
 refine ⟨fs, places, hu, h1, fun j q ft k' hf hk' => ?_⟩
 obtain ⟨fs', f, hu', hj, rfl, rfl⟩ := hT.fo t j q ft hf
 rw [hu] at hu'
 cases hu'
 obtain ⟨i, hi, hs, _⟩ := (hT.kt _ _ hk').info'
 rw [← hs]
 exact h2 j f i (by simpa using hj) hi
theorem NW (hT : TabOk E.P Γ) (h : Rel E w a s) {d : Option Tmp} (hd : dN E d) {t : TypeId} {ps : Array (Nat × Operand)} {ty : TypeId} {pos : String} {af : Array Edge} {g : Option (Nat × Bool)} {k1 k2 : K} (ht : lk Γ.kt t = some (.pair k1 k2))
  (hfo : (lk Γ.fo t).isSome = true) (hk : nS Γ s t (.pair k1 k2) ps.toList (K.pair k1 k2).dflt (fun x => κ ((bU (frz s (ps.toList.map fun p => ev s p.2)) s).put d (.dat (.pair k1 k2) x))) = some r) : Oper.wp E.P ⟨d, .build t ps, ty, pos, af, g⟩ a w (Goes E κ r) Q := by
 obtain ⟨pl, h⟩ := h
 have hTy := hT.kt t _ ht
 obtain ⟨l, hl⟩ := Option.isSome_iff_exists.1 hfo
 obtain ⟨fs, places, hu, hm, hpl⟩ := U4 hT hl
 obtain ⟨z, cells, h1, h2, h3⟩ := uE hpl h (frz s (ps.toList.map fun p => ev s p.2)) ps.toList _ (K.pair k1 k2).zcells.toArray _ (fun q hq o w nn hx hr => rD (wn := w) (nn := nn) hr (List.mem_map.2 ⟨q, hq, hx⟩)) hk (by simpa using RepD.zero w _ _)
 refine Oper.wp_of_value (v := .agg cells) (w' := w) ?_ (Goes.put (h.killsL _) hd (.ofCells h2 (by simp [K.isPair])) h3)
 have hb : E.P.built t ((ps.map fun x => (x.1, a.eval x.2)).toList) = some cells := by
  obtain ⟨i, hi, _, hz, _⟩ := hTy.info'
  unfold Program.built
  simp only [hi, hu, hz, hm, K.zval_cells, Array.toList_map]
  exact h1
 have := run_build (P := E.P) w t _ cells hb
 simp [execOp, this]
theorem nJ {k : K} (h : RelP E pl w a s) (ids : List Nat) : ∀ (ps : List (Nat × Operand)) (n : Nat) (acc : List k.den) (cells : Array Value) (pre : List Value) (κ' : List k.den → Option β), (∀ q ∈ ps, ∀ o w nn, ev s q.2 = .sl o w nn → mP s o = false → o ∈ ids) → nC s k n ps acc κ' = some r →
  RowC w (Av E (bU ids s).objs pl) k acc pre → acc.length = n → cells.size = (n + ps.length) * k.size → (∀ j, j < pre.length → cells[j]? = pre[j]?) →
   ∃ xs cells', Instr.fill (fun i => some (i * k.size, k.size)) cells (ps.map fun p => (p.1, a.eval p.2)) = some cells' ∧ RowC w (Av E (bU ids s).objs pl) k xs cells'.toList ∧ xs.length = n + ps.length ∧ κ' xs = some r
 | [], n, acc, cells, pre, κ', _, hk, hc, hn, hs, hpre => by
  have hl := hc.len
  refine ⟨acc, cells, rfl, ?_, by simp [hn], hk⟩
  have : cells.toList = pre := by
   refine List.ext_getElem? fun j => ?_
   rw [Array.getElem?_toList]
   by_cases hj : j < pre.length
   ·exact hpre j hj
   ·rw [List.getElem?_eq_none (by omega), Array.getElem?_eq_none (by simp at hs; rw [hs, ← hn]; omega)]
  rw [this]; exact hc
 | (j, v) :: ps, n, acc, cells, pre, κ', hids, hk, hc, hn, hs, hpre => by
  unfold nC at hk
  cases hj : Nat.beq j n with
  | false => rw [hj] at hk; cases hk
  | true =>
   rw [hj] at hk
   have := Nat.eq_of_beq_eq_true hj
   subst this
   obtain ⟨y, ds, hk0, hds, hv, _⟩ := jQ h hk ids (fun o w nn hx hr => hids (j, v) (by simp) o w nn hx hr)
   clear hk
   have hk := hk0
   have hdl := hds.len
   have hpl := hc.len
   rw [hn] at hpl
   have hs' : cells.size = j * k.size + k.size + ps.length * k.size := by
    rw [hs, List.length_cons, show j + (ps.length + 1) = j + 1 + ps.length by omega, Nat.add_mul, Nat.add_mul]; omega
   have hfit : j * k.size + (a.eval v).cells.size ≤ cells.size := by rw [hv]; simp; omega
   obtain ⟨g1, g2⟩ := Great.foldl_set (j * k.size) (a.eval v).cells.toList 0 cells
   have e : (a.eval v).cells.zipIdx.foldl (fun cs (x : Value × Nat) => cs.setIfInBounds (j * k.size + x.2) x.1) cells = ((a.eval v).cells.toList.zipIdx 0).foldl (fun cs (x : Value × Nat) => cs.setIfInBounds (j * k.size + x.2) x.1) cells := by
    rw [← Array.foldl_toList, Array.toList_zipIdx]
   obtain ⟨xs, cells', h1, h2, h3, h4⟩ := nJ h ids ps (j + 1) (acc ++ [y]) ((a.eval v).cells.zipIdx.foldl (fun cs (x : Value × Nat) => cs.setIfInBounds (j * k.size + x.2) x.1) cells) (pre ++ ds) κ' (fun q hq => hids q (by simp [hq])) hk
    (hc.app (RowC.single hds)) (by simp [hn]) (by rw [e, g1, hs]; congr 1; simp; omega) (fun i hi => by
     rw [e, g2 i]
     simp only [Nat.add_zero, Array.length_toList, hv, List.size_toArray, Array.getElem?_toList, List.getElem?_toArray]
     simp only [List.length_append] at hi
     by_cases hin : j * k.size ≤ i
     ·rw [if_pos ⟨hin, by omega, by omega⟩, List.getElem?_append_right (by omega), hpl]
     ·rw [if_neg (by omega), hpre i (by omega), List.getElem?_append_left (by omega)])
   refine ⟨xs, cells', ?_, h2, by rw [h3]; simp; omega, h4⟩
   rw [List.map_cons]
   unfold Instr.fill
   simp only
   rw [if_neg (by rw [hv]; simp; omega)]
   exact h1
theorem vN (hT : TabOk E.P Γ) (h : Rel E w a s) {d : Nat} (hd : d < E.N) {t : TypeId} {ps : Array (Nat × Operand)} {ty : TypeId} {pos : String} {af : Array Edge} {g : Option (Nat × Bool)} {k : K} {e : TypeId} (he : lk Γ.se t = some e) (ht : lk Γ.kt e = some k)
  (hsmall : ps.size * k.size ≤ 16777216) (hk : nC s k 0 ps.toList [] (fun xs => newRow (some d) (bU (frz s (ps.toList.map fun p => ev s p.2)) s) (.row k e true xs) (fun d => .sl d none true) κ) = some r) : Oper.wp E.P ⟨some d, .buildSlice t ps.size ps, ty, pos, af, g⟩ a w (Goes E κ r) Q := by
 obtain ⟨pl, h⟩ := h
 have hTy := hT.kt e _ ht
 obtain ⟨i, hi, hsz, hz, _⟩ := hTy.info'
 obtain ⟨xs, cells, h1, h2, h3, h4⟩ := nJ h (frz s (ps.toList.map fun p => ev s p.2)) ps.toList 0 [] ((Array.range (ps.size * k.size)).map (k.zval.cells[· % k.zval.cells.size]!)) [] _ (fun q hq o w nn hx hr => rD (wn := w) (nn := nn) hr (List.mem_map.2 ⟨q, hq, hx⟩)) hk rfl rfl (by simp) (fun j hj => by simp at hj)
 obtain ⟨d', hd', hn, hk'⟩ := cC h4
 cases hd'
 simp only [Nat.zero_add, Array.length_toList] at h3
 have hcl := h2.len
 simp only [Array.length_toList] at hcl
 have hnew := (h.killsL (frz s (ps.toList.map fun p => ev s p.2))).newRow (w' := w.alloc (.cells cells e)) (Ext.alloc _ _) hTy hn true h2 (mI _ _) (fun j v hv => by simpa using hv) (cap := xs.length) (Nat.le_refl _) (by rw [hcl]; exact Nat.le_refl _)
 have hput := hnew.putSl hd (aT _ _ _) (ad := some ⟨w.heap.size, 0, none⟩) (len := xs.length) (cap := xs.length) rfl (Nat.le_refl _) (fun _ => by rw [aU]) (fun _ => by rw [aU]) true (fun _ => by simp)
 refine Oper.wp_of_value (v := .slice (some ⟨w.heap.size, 0, none⟩) xs.length xs.length) (w' := w.alloc (.cells cells e)) ?_ ⟨_, ⟨_, hput⟩, hk'⟩
 by_cases hps : ps.size = 0
 ·have hps' : ps = #[] := Array.eq_empty_of_size_eq_zero hps
  subst hps'
  simp at h1 h3
  simp [Instr.fill] at h1
  subst h1
  have hx : xs = [] := List.eq_nil_of_length_eq_zero (by simpa using h3)
  subst hx
  have h0 : ∀ f : Nat → Value, Array.map f (Array.range 0) = #[] := fun f => by simp
  simp [execOp, Instr.buildSlice, run_underlying (hT.se t e he), hTy.sizeOf, Instr.fill, Go.newRow, h0]
 ·have hpos : ¬ ps.size * i.size = 0 := by
   rw [hsz]
   have := k.size_pos
   intro h0
   rcases Nat.mul_eq_zero.1 h0 with h0 | h0
   ·exact hps h0
   ·omega
  have := run_buildSlice (P := E.P) w t e ps.size (ps.map fun x => (x.1, a.eval x.2)) cells i k.zval (hT.se t e he) hi hz (by rw [hsz]; omega) hpos (by rw [hsz, Array.toList_map]; exact h1)
  rw [h3]
  simp [execOp, this]
end
end Go.Proofs.YticibdjilmclgaaDoorZF

namespace Go.Proofs.YticibdjilmclgaaDoorZF
open Go
set_option linter.unusedVariables false
set_option linter.unusedSimpArgs false
def cA3 (v : Option Value) (dflt n : Int) : Prop := (v = none ∧ n = dflt) ∨ ∃ k, v = some (.int k n)
theorem iA (P : Program) (w : World) (k : IntKind) (i : Int) (y : Nat) (code : BoundsCode) (h0 : 0 ≤ i) (h1 : i ≤ y) : (Instr.sliceBound (.int k i) y code).run P w = .ok i.toNat w := by
 simp [Instr.sliceBound, asIntOf, h0, h1]
theorem kN (P : Program) (w : World) (b : Bool) (len cap : Nat) (lo hi : Option Value) (A B : Int) (hlo : cA3 lo 0 A) (hhi : cA3 hi len B) (h0 : 0 ≤ A) (h1 : A ≤ B) (h2 : B ≤ len) (hc : len ≤ cap) :
  (Instr.sliceBounds b len cap lo hi none).run P w = .ok (A.toNat, B.toNat, cap) w := by
 unfold Instr.sliceBounds
 rcases hhi with ⟨rfl, rfl⟩ | ⟨kh, rfl⟩
 ·rcases hlo with ⟨rfl, rfl⟩ | ⟨kl, rfl⟩
  ·simp
  ·have := fun c => iA P w kl A len c h0 (by omega)
   simp [this]
 ·have hb := fun c => iA P w kh B cap c (by omega) (by omega)
  rcases hlo with ⟨rfl, rfl⟩ | ⟨kl, rfl⟩
  ·simp [hb]
  ·have ha := fun c => iA P w kl A B.toNat c h0 (by omega)
   simp [hb, ha]
theorem VRep.mkSl {w : World} {A : Nat → Prop} {O : kB} {pl : Nat → Pl} {o : Nat} {wn : Option (Int × Int)} {nn : Bool} {v : Value} {k : K} {e : TypeId} {rw_ : Bool} {xs : List k.den} (ho : O o = some (.row k e rw_ xs)) {ad : Option Addr} {cap off len : Nat} (hw : winOk xs wn off len)
  (hv : v = .slice ad len cap) (hl : len ≤ cap) (h1 : rw_ = true → off + cap = (pl o).cap) (h2 : 0 < len ∨ (rw_ = true ∧ 0 < cap) → ad = some ⟨(pl o).b, (pl o).off + off * k.size, none⟩) (h3 : nn = true → ad ≠ none) : VRep w A O pl (.sl o wn nn) v :=
 .inl ⟨k, e, rw_, xs, ho, ad, cap, off, len, hw, hv, hl, h1, h2, h3⟩
section
variable {E : Env} {pl : Nat → Pl} {Γ : Ctx} {w w' : World} {a : Act} {s : FState} {β : Type} {r : β} {κ : FState → Option β} {Q : Exit → Act → World → Prop}
theorem BX (h : RelP E pl w a s) {lo hi : Option Operand} {n : Int} (hn : 0 ≤ n) {f : Int → Int → Option β} (hk : rT (lo.map (ev s)) (hi.map (ev s)) n f = some r) :
  ∃ A B, cA3 (lo.map a.eval) 0 A ∧ cA3 (hi.map a.eval) n B ∧ 0 ≤ A ∧ A ≤ B ∧ B ≤ n ∧ f A B = some r := by
 unfold rT at hk
 cases lo with
 | none =>
  cases hi with
  | none => exact ⟨0, n, .inl ⟨rfl, rfl⟩, .inl ⟨rfl, rfl⟩, Int.le_refl _, hn, Int.le_refl _, hk⟩
  | some hi =>
   simp only [Option.map] at hk ⊢
   obtain ⟨k, b, hb, hk⟩ := dE hk
   obtain ⟨h1, h2, h3, hk⟩ := lC hk
   exact ⟨0, b, .inl ⟨rfl, rfl⟩, .inr ⟨k, by rw [(h.ev hi _ hb).int_inv]⟩, Int.le_refl _, h2, h3, hk⟩
 | some lo =>
  cases hi with
  | none =>
   simp only [Option.map] at hk ⊢
   obtain ⟨k, b, hb, hk⟩ := dE hk
   obtain ⟨h1, h2, h3, hk⟩ := lC hk
   exact ⟨b, n, .inr ⟨k, by rw [(h.ev lo _ hb).int_inv]⟩, .inl ⟨rfl, rfl⟩, h1, h2, h3, hk⟩
  | some hi =>
   simp only [Option.map] at hk ⊢
   obtain ⟨k, b, hb, hk⟩ := dE hk
   obtain ⟨k', b', hb', hk⟩ := dE hk
   obtain ⟨h1, h2, h3, hk⟩ := lC hk
   exact ⟨b, b', .inr ⟨k, by rw [(h.ev lo _ hb).int_inv]⟩, .inr ⟨k', by rw [(h.ev hi _ hb').int_inv]⟩, h1, h2, h3, hk⟩
theorem winOk.bd {α : Type} {xs : List α} {wn : Option (Int × Int)} {off len : Nat} (h : winOk xs wn off len) : off + len ≤ xs.length ∧ ∀ i, 0 ≤ i → (cJ wn i).toNat = off + i.toNat ∧ 0 ≤ cJ wn i := by
 cases wn with
 | none => obtain ⟨rfl, rfl⟩ := h; exact ⟨by omega, fun i hi => by simp only [cJ]; omega⟩
 | some fl =>
  obtain ⟨f, l⟩ := fl
  obtain ⟨g1, g2, g3, rfl, rfl⟩ := h
  exact ⟨by omega, fun i hi => by simp only [cJ]; omega⟩
theorem ST (hT : TabOk E.P Γ) (h : Rel E w a s) {d : Option Tmp} (hd : dN E d) {t : TypeId} {x : Operand} {lo hi : Option Operand} {ty : TypeId} {pos : String} {af : Array Edge} {g : Option (Nat × Bool)}
  (hk : sK Γ d t (ev s x) (lo.map (ev s)) (hi.map (ev s)) s κ = some r) : Oper.wp E.P ⟨d, .slice t x lo hi none, ty, pos, af, g⟩ a w (Goes E κ r) Q := by
 obtain ⟨pl, h⟩ := h
 unfold sK at hk
 split at hk
 ·rename_i z hx
  obtain ⟨ht, hk⟩ := bI hk
  obtain ⟨A, B, hA, hB, h0, h1, h2, hk⟩ := BX h (n := z.size) (by omega) hk
  have hu : E.P.underlying t = some .string := (hT.kt t _ ht).und
  have hxe := (h.ev x _ hx).str_inv
  refine Oper.wp_of_value (v := .string (z.extract A.toNat B.toNat)) (w' := w) ?_ (Goes.put h hd (.str _) hk)
  simp [execOp, hxe, Instr.sliceAt, Instr.slice, run_underlying hu, kN E.P w false z.size z.size _ _ A B hA hB h0 h1 h2 (Nat.le_refl _)]
 ·obtain ⟨o, wn, nn, k, e, rw_, xs, hx, ho, hk⟩ := cI hk
  obtain ⟨ht, hk⟩ := bI hk
  have hv := h.ev x _ hx
  obtain ⟨k1, e1, rw1, xs1, ho1, ad, cap, off, len, hw, hxe, hl, hc1, hc2, _⟩ := hv.sl_inv
  rw [ho] at ho1
  cases ho1
  obtain ⟨hTy, hxl, hmem, hro, hrow⟩ := h.objs o _ ho
  obtain ⟨hb1, hb2⟩ := hw.bd
  have hwl := hw.lenInt
  obtain ⟨A, B, hA, hB, h0, h1, h2, hk⟩ := BX h (n := cZ xs wn) (by omega) hk
  rw [hwl] at hB h2
  obtain ⟨hA1, hA2⟩ := hb2 A h0
  obtain ⟨hB1, hB2⟩ := hb2 B (by omega)
  have hu := hT.se t e ht
  have hrun : (execOp a.eval (⟨d, .slice t x lo hi none, ty, pos, af, g⟩ : Oper)).run E.P w = .ok (.value (.slice (if cap = A.toNat then ad else ad.map (·.add (A.toNat * k.size))) (B.toNat - A.toNat) (cap - A.toNat))) w := by
   simp [execOp, hxe, Instr.sliceAt, Instr.slice, run_underlying hu, kN E.P w true len cap _ _ A B hA hB h0 h1 h2 hl, hTy.sizeOf]
  refine Oper.wp_of_value hrun ?_
  have haddr : 0 < B.toNat - A.toNat ∨ (rw_ = true ∧ 0 < cap - A.toNat) → (if cap = A.toNat then ad else ad.map (·.add (A.toNat * k.size))) = some ⟨(pl o).b, (pl o).off + (off + A.toNat) * k.size, none⟩ := fun hh => by
   rw [if_neg (by omega), hc2 (by rcases hh with hh | ⟨h3, h4⟩; exact .inl (by omega); exact .inr ⟨h3, by omega⟩)]
   simp [Addr.add_mid, Nat.add_mul, Nat.add_assoc]
  cases rw_ with
  | true =>
   simp only [cond_true] at hk
   have hpc := hc1 rfl
   exact Goes.put h hd (.mkSl (wn := some (cJ wn A, B - A)) (nn := false) ho (off := off + A.toNat) (len := B.toNat - A.toNat) ⟨hA2, by omega, by omega, by omega, by omega⟩ rfl (by omega) (fun _ => by omega) haddr (fun hn => by cases hn)) hk
  | false =>
   simp only [cond_false] at hk
   obtain ⟨d', rfl, hn, hk⟩ := cC hk
   have hcl : (cut xs (cJ wn A) (cJ wn B)).length = B.toNat - A.toNat := by
    rw [nA _ _ _ (by cases wn <;> simp only [cJ] <;> omega) (by omega), hA1, hB1]; omega
   have hnew : RelP E (upd pl d' ⟨(pl o).b, (pl o).off + (off + A.toNat) * k.size, (cut xs (cJ wn A) (cJ wn B)).length⟩) w a (s.setO d' (some (.row k e false (cut xs (cJ wn A) (cJ wn B))))) :=
    h.new (Ext.refl w) hn _ _ (fun hh => by cases hh.1) (fun A' hA' => ⟨hTy, Nat.le_refl _, fun hh => (by cases hh), fun _ hne hAA => by
      have hxs : xs ≠ [] := fun e => hne (by rw [e]; exact N7 _ _)
      exact (hA' _ hAA).elim (hro rfl hxs) (fun h3 => by cases h3.1.1), by
     have hst : Stay w (Av E s.objs pl) w A' := Stay.grow (fun _ _ => rfl) (fun b hb hAA => by
      rcases hA' b hAA with h3 | ⟨⟨h3, _⟩, _⟩
      ·exact h3
      ·cases h3)
     have := (hrow.stay hst rfl).cut (cJ wn A) (cJ wn B)
     rwa [hA1] at this⟩)
   exact ⟨_, ⟨_, hnew.putSl (hd _ rfl) (aT _ _ _) hcl.symm (by omega) (fun hh => by cases hh) (fun hh => by
    rw [aU]
    exact haddr (hh.imp id (fun h => by cases h.1))) false (fun hn => by cases hn)⟩, hk⟩
theorem RowC.bytes (w : World) (A : Nat → Prop) : ∀ l : List UInt8, RowC w A (.int .u8) (l.map fun b => (b.toNat : Int)) (l.map fun b => Value.int .u8 b.toNat)
 | [] => rfl
 | b :: l => ⟨[.int .u8 b.toNat], _, rfl, rfl, RowC.bytes w A l⟩
theorem lU {α : Type} {xs : List α} (h : 0 < xs.length) : xs ≠ [] := by rintro rfl; simp at h
theorem d6 (hT : TabOk E.P Γ) (h : RelP E pl w a s) {u e : TypeId} {k : K} {y : Operand} {f : List k.den → Option β}
  (hk : JR Γ s u e k (ev s y) f = some r) :
  ∃ ys news, f ys = some r ∧ RowC w (Av E s.objs pl) k ys news ∧ Src E.P k.size u (a.eval y) ys.length news w := by
 have hv := h.ev y _ rfl
 unfold JR at hk
 split at hk
 ·rename_i hy
  rw [hy] at hv
  obtain ⟨hu, hk⟩ := bI hk
  have hve : a.eval y = .slice none 0 0 := by
   rcases hv with hv | ⟨l, _, hl⟩
   ·exact hv
   ·exact hl.elim
  exact ⟨[], [], hk, rfl, by rw [hve]; exact Src.ofNil w (hT.se u e hu) 0⟩
 ·rename_i z hy
  rw [hy] at hv
  obtain ⟨hu, hk⟩ := bI hk
  obtain ⟨rfl, hk⟩ := bR hk
  refine ⟨_, byteCells z, hk, RowC.bytes w _ _, ?_⟩
  have h1 : (z.data.toList.map fun b => (b.toNat : Int)).length = z.size := by rw [List.length_map, Array.length_toList]; rfl
  rw [hv.str_inv, h1]
  exact Src.ofString w (hT.kt u _ hu).und z
 ·obtain ⟨o, wn, nn, k', e', rw_, xs, hy, ho, hk⟩ := cI hk
  obtain ⟨hu, hk⟩ := bI hk
  obtain ⟨rfl, hk⟩ := bR hk
  rw [hy] at hv
  obtain ⟨k1, e1, rw1, xs1, ho1, ad, cap, off, len, hw, hxe, hl, hc1, hc2, _⟩ := hv.sl_inv
  rw [ho] at ho1
  cases ho1
  obtain ⟨hTy, hxl, hmem, hro, hrow⟩ := h.objs o _ ho
  obtain ⟨hrw, hwl⟩ := hrow.winC hw
  obtain ⟨news, hC, hrange⟩ := hrw.toC
  refine ⟨win xs wn, news, hk, hC, ?_⟩
  have hnl := hC.len
  rw [hxe, hwl]
  by_cases h0 : 0 < len
  ·rw [hc2 (.inl h0)]
   exact Src.ofSlice w (hT.se u e hu) _ len cap news (by rw [hnl, hwl]) (fun j v hv => by rw [Addr.add_mid]; exact hrange j v hv) hC.one
  ·have : len = 0 := by omega
   subst this
   have hn : news = [] := List.eq_nil_of_length_eq_zero (by rw [hnl, hwl]; simp)
   subst hn
   cases ad with
   | none => exact Src.ofNil w (hT.se u e hu) cap
   | some ad => exact Src.ofSlice w (hT.se u e hu) ad 0 cap [] (by simp) (fun j v hv => by simp at hv) (fun _ h => by cases h)
theorem oJ (P : Program) {t tx ty e : TypeId} {k : K} (hTy : TyOk P e k) (ht : P.underlying t = some (.slice e)) {x : Value} (hs : Src P k.size tx x 0 [] w) (base : Option Addr) (cap : Nat) :
  (Builtin.append_ #[t, tx] ty #[.slice base 0 cap, x]).run P w = .ok (.slice base 0 cap) w := by
 obtain ⟨i, hi, hsz, hz, _⟩ := hTy.info'
 have := run_append_nothing (P := P) w t tx ty e i ht hi base 0 cap (Nat.zero_le _) x (by rw [hsz]; exact hs)
 simpa using this
theorem xT (P : Program) {t tx ty e : TypeId} {k : K} (hTy : TyOk P e k) (ht : P.underlying t = some (.slice e)) {x : Value} {n : Nat} {news olds : List Value} (hs : Src P k.size tx x n news w) {base : Option Addr} {len cap : Nat}
  (hold : (Builtin.firstCells k.size len (.slice base len cap)).run P w.drew = .ok olds.toArray w.drew) (hg : cap < len + n) (hn : len + n ≤ 1099511627776) :
  ∃ ex : Array Value, (Builtin.append_ #[t, tx] ty #[.slice base len cap, x]).run P w = .ok (.slice (some ⟨w.heap.size, 0, none⟩) (len + n) (grownCap w (len + n) cap e))
    (w.drew.alloc (.cells ((olds ++ news).toArray ++ ex) e)) ∧ len + n ≤ grownCap w (len + n) cap e ∧ (olds.length = len * k.size → grownCap w (len + n) cap e * k.size ≤ ((olds ++ news).toArray ++ ex).size) := by
 obtain ⟨i, hi, hsz, hz, hby⟩ := hTy.info'
 have hge := grownCap_ge w (len + n) cap e
 have h1 := run_append_grow_src (P := P) w t tx ty e i k.zval ht hi hz base len cap olds (by rw [hsz]; exact hold) x n news (by rw [hsz]; exact hs) hg (by omega) (growslice_fits hg (by
  have := Nat.mul_le_mul hn hby
  omega))
 refine ⟨_, h1, hge, fun hl => ?_⟩
 have h3 := hs.newsLen
 simp only [Array.size_append, List.size_toArray, List.length_append, size_zeroCells, K.zval_cells, K.zcells_len, hl, h3, ← Nat.add_mul]
 exact Nat.mul_le_mul_right _ (by omega)
theorem KX (hT : TabOk E.P Γ) (h : Rel E w a s) {d : Option Tmp} (hd : dN E d) {t u : TypeId} {x y : Operand} {ty : TypeId} {pos : String} {af : Array Edge} {g : Option (Nat × Bool)}
  (hk : rE Γ d t u (ev s x) (ev s y) s κ = some r) : Oper.wp E.P ⟨d, .call { callee := .builtin .append, args := #[x, y], argTypes := #[t, u] }, ty, pos, af, g⟩ a w (Goes E κ r) Q := by
 obtain ⟨pl, h⟩ := h
 unfold rE at hk
 obtain ⟨e, hse, hk⟩ := aL hk
 obtain ⟨k, hke, hk⟩ := aL hk
 obtain ⟨ys, news, hk, hC, hS⟩ := d6 hT h hk
 have hTy := hT.kt e k hke
 have hut := hT.se t e hse
 have hstep : ∀ {v : Value} {w' : World}, (Builtin.append_ #[t, u] ty #[a.eval x, a.eval y]).run E.P w = .ok v w' → Goes E κ r (a.put d v) w' → Oper.wp E.P ⟨d, .call { callee := .builtin .append, args := #[x, y], argTypes := #[t, u] }, ty, pos, af, g⟩ a w (Goes E κ r) Q := fun hr hg =>
  Oper.wp_of_value (by simp [execOp, resolve, invoke, builtin, hr]) hg
 have hnl := hS.newsLen
 split at hk
 ·rename_i hx
  have hxe : a.eval x = .slice none 0 0 := by
   rcases h.ev x _ hx with hv | ⟨l, _, hl⟩
   ·exact hv
   ·exact hl.elim
  obtain ⟨hroom, hk⟩ := jW hk
  obtain ⟨d', rfl, hn, hk⟩ := cC hk
  by_cases h0 : ys.length = 0
  ·have hy0 : ys = [] := List.eq_nil_of_length_eq_zero h0
   subst hy0
   have hn0 : news = [] := List.eq_nil_of_length_eq_zero (by simpa using hnl)
   subst hn0
   refine hstep (by rw [hxe]; exact oJ E.P hTy hut hS none 0) ?_
   have hnew : RelP E (upd pl d' ⟨0, 0, 0⟩) w a (s.setO d' (some (.row k e true []))) :=
    h.new (Ext.refl w) hn _ _ (fun hh => absurd hh.2 (by simp)) (fun A' hA' => ⟨hTy, Nat.le_refl _, fun _ h => absurd h (by simp), fun h => (by cases h), RowAt.nil _ _ _ _ _⟩)
   exact ⟨_, ⟨_, hnew.putSl (hd _ rfl) (aT _ _ _) (ad := none) (len := 0) (cap := 0) rfl (Nat.le_refl _) (fun _ => by rw [aU]) (fun hh => by rcases hh with hh | ⟨_, hh⟩ <;> omega) false (fun hn => by cases hn)⟩, hk⟩
  ·obtain ⟨ex, hr, hge, hsz⟩ := xT (w := w) E.P hTy hut hS (olds := []) (base := none) (len := 0) (cap := 0) (by simp [Builtin.firstCells]) (by omega) (by omega) (ty := ty)
   simp only [Nat.zero_add, List.nil_append] at hr hge hsz
   refine hstep (by rw [hxe]; exact hr) ?_
   have hnew := h.newRow (w' := w.drew.alloc (.cells (news.toArray ++ ex) e)) (Ext.drewAlloc w _) hTy hn true hC (row := news.toArray ++ ex) (t := e) (mI w.drew _)
    (fun j v hv => by rw [Array.getElem?_append_left (by have := (List.getElem?_eq_some_iff.1 hv).1; simpa using this)]; simpa using hv) hge (hsz (by simp))
   exact ⟨_, ⟨_, hnew.putSl (hd _ rfl) (aT _ _ _) rfl hge (fun _ => by rw [aU]) (fun _ => by rw [aU]) false (fun hn => by cases hn)⟩, hk⟩
 ·obtain ⟨o, wn, nn, k', e', rw_, xs, hx, ho, hk⟩ := cI hk
  have hh := bI hk
  clear hk
  obtain ⟨⟨hrw, he⟩, hk⟩ := hh
  subst hrw
  subst he
  have hh := bR hk
  clear hk
  obtain ⟨he, hk⟩ := hh
  subst he
  simp only at hk
  obtain ⟨hroom, hk⟩ := jW hk
  obtain ⟨k1, e1, rw1, xs1, ho1, ad, cap, off, len, hw, hxe, hl, hc1, hc2, _⟩ := (h.ev x _ hx).sl_inv
  rw [ho] at ho1
  cases ho1
  obtain ⟨_, hxl, hmem, hro, hrow⟩ := h.objs o _ ho
  obtain ⟨hrw, hwl⟩ := hrow.winC hw
  obtain ⟨olds, hCo, hro'⟩ := hrw.toC
  have hol := hCo.len
  rw [hwl] at hol hroom
  have hpc := hc1 rfl
  have hfin : ∀ {pl' : Nat → Pl} {w' : World} {ad' : Option Addr} {cap' : Nat}, RelP E pl' w' a ((s.kill o).setO o (some (.row k' e' true (win xs wn ++ ys)))) → len + ys.length ≤ cap' → (pl' o).cap = cap' → (0 < cap' → ad' = some ⟨(pl' o).b, (pl' o).off, none⟩) →
    Goes E κ r (a.put d (.slice ad' (len + ys.length) cap')) w' := fun {pl' w' ad' cap'} hrel hle hcap had =>
   Goes.put hrel hd (VRep.mkSl (o := o) (wn := none) (nn := false) (aT _ _ _) (off := 0) (len := len + ys.length) ⟨rfl, by rw [List.length_append, hwl]⟩ rfl hle (fun _ => by rw [hcap]; omega) (fun hh => by rw [had (by omega)]; simp) (fun hn => by cases hn)) hk
  by_cases hfit : len + ys.length ≤ cap
  ·by_cases hcap : 0 < cap
   ·have had := hc2 (.inr ⟨rfl, hcap⟩)
    obtain ⟨row, tt, hrowm, hrsz⟩ := hmem rfl (by omega)
    have hth : w.there (pl o).b ((pl o).off + off * k'.size + len * k'.size) news.length := by
     refine kP hrowm ?_
     have := Nat.mul_le_mul_right k'.size (show off + len + ys.length ≤ (pl o).cap by omega)
     rw [Nat.add_mul, Nat.add_mul] at this
     omega
    obtain ⟨i, hi, hsz, hz, hby⟩ := hTy.info'
    have hr := run_append_room_src (P := E.P) w t u ty e' i hut hi (pl o).b ((pl o).off + off * k'.size) len cap (a.eval y) ys.length news (by rw [hsz]; exact hS) hfit (by rw [hsz]; exact fun j hj => (hth j hj).1) (by rw [hsz]; exact fun j hj => (hth j hj).2)
    rw [hsz] at hr
    refine hstep (by rw [hxe, had]; exact hr) ?_
    obtain ⟨row', hrow', hsz'⟩ := hrowm.setCells ((pl o).off + off * k'.size + len * k'.size) news
    have hblt : (pl o).b < (w.setCells (pl o).b ((pl o).off + off * k'.size + len * k'.size) news).heap.size := hrow'.lt
    have hrel := h.repl ho (w' := w.setCells (pl o).b ((pl o).off + off * k'.size + len * k'.size) news) (by
      have := Wr.setCells (pl o).b news ((pl o).off + off * k'.size + len * k'.size) w
      exact ⟨this.os, this.tape, this.output, this.size, fun b hb hn => this.block b hb (fun hh => hn ⟨⟨rfl, by omega⟩, hh.2⟩)⟩)
     (.row k' e' true (win xs wn ++ ys)) ⟨(pl o).b, (pl o).off + off * k'.size, cap⟩ (fun _ => ⟨.inl ⟨⟨rfl, by omega⟩, rfl⟩, hblt⟩)
     (fun A' hA' hst => ⟨hTy, by rw [List.length_append, hwl]; exact hfit, fun _ _ => ⟨row', tt, hrow', by
       rw [hsz']
       have : off * k'.size + cap * k'.size = (pl o).cap * k'.size := by rw [← Nat.add_mul, hpc]
       simp only
       omega⟩, fun h => (by cases h), (((hCo.stay hst).app (hC.stay hst))).toAt (fun j v hv => by
      by_cases hj : j < olds.length
      ·rw [List.getElem?_append_left hj] at hv
       rw [World.cell?_setCells_out _ _ _ _ ⟨_, _, none⟩ (fun _ _ => by left; show (pl o).off + off * k'.size + j < _; omega)]
       exact hro' j v hv
      ·rw [List.getElem?_append_right (by omega)] at hv
       have hjn : j - olds.length < news.length := (List.getElem?_eq_some_iff.1 hv).1
       have := World.cell?_setCells_in (pl o).b news ((pl o).off + off * k'.size + len * k'.size) w (fun i hi => (hth i hi).1) (j - olds.length) hjn
       rw [← hv, List.getElem?_eq_getElem hjn, ← this]
       congr 2
       simp only
       omega)⟩)
    exact hfin hrel hfit (by rw [aU]) (fun _ => by rw [aU])
   ·have hy0 : ys = [] := List.eq_nil_of_length_eq_zero (by omega)
    subst hy0
    have hn0 : news = [] := List.eq_nil_of_length_eq_zero (by simpa using hnl)
    subst hn0
    obtain rfl : len = 0 := by omega
    obtain rfl : cap = 0 := by omega
    refine hstep (by rw [hxe]; exact oJ E.P hTy hut hS ad 0) ?_
    have hw0 : win xs wn = [] := List.eq_nil_of_length_eq_zero hwl
    have hrel := h.repl ho (Wr.refl w _ _) (.row k' e' true (win xs wn ++ [])) ⟨0, 0, 0⟩ (fun hh => absurd hh.2 (by simp)) (fun A' hA' hst => ⟨hTy, by simp [hw0], fun _ h => absurd h (by simp), fun h => (by cases h), by rw [hw0]; exact RowAt.nil _ _ _ _ _⟩)
    exact hfin hrel (by simp) (by rw [aU]) (fun h => by omega)
  ·have hold : (Builtin.firstCells k'.size len (.slice ad len cap)).run E.P w.drew = .ok olds.toArray w.drew := by
    by_cases h0 : 0 < len
    ·rw [hc2 (.inl h0)]
     exact run_firstCells_some w.drew k'.size len _ len cap olds hol (fun j v hv => by rw [Addr.add_mid]; exact hro' j v hv)
    ·obtain rfl : len = 0 := by omega
     have ho0 : olds = [] := List.eq_nil_of_length_eq_zero (by rw [hol]; simp)
     subst ho0
     cases ad with
     | none => exact run_firstCells_none w.drew _ _ _ _
     | some ad => exact run_firstCells_some w.drew k'.size 0 ad 0 cap [] (by simp) (fun j v hv => by simp at hv)
   obtain ⟨ex, hr, hge, hsz⟩ := xT (w := w) E.P hTy hut hS hold (by omega) hroom (ty := ty)
   refine hstep (by rw [hxe]; exact hr) ?_
   have hx : Ext w (w.drew.alloc (.cells ((olds ++ news).toArray ++ ex) e')) := Ext.drewAlloc w _
   have hrowm : (w.drew.alloc (.cells ((olds ++ news).toArray ++ ex) e')).heap[w.heap.size]? = some (.cells ((olds ++ news).toArray ++ ex) e' (0, 0)) := mI w.drew _
   have hrel := h.repl ho (hx.wr _ _) (.row k' e' true (win xs wn ++ ys)) ⟨w.heap.size, 0, grownCap w (len + ys.length) cap e'⟩ (fun _ => ⟨.inr (Nat.le_refl _), (Array.getElem?_eq_some_iff.1 hrowm).1⟩)
    (fun A' hA' hst => ⟨hTy, by rw [List.length_append, hwl]; exact hge, fun _ _ => ⟨_, _, CellsAt.mk hrowm, by have := hsz hol; simpa using this⟩, fun h => (by cases h), ((hCo.stay hst).app (hC.stay hst)).toAt (fun j v hv => by
     rw [Nat.zero_add, cell_of_row _ _ _ _ _ _ hrowm, Array.getElem?_append_left (by have := (List.getElem?_eq_some_iff.1 hv).1; simpa using this)]
     simpa using hv)⟩)
   exact hfin hrel hge (by rw [aU]) (fun _ => by rw [aU])
end
end Go.Proofs.YticibdjilmclgaaDoorZF

namespace Go.Proofs.YticibdjilmclgaaDoorZF
open Go
set_option linter.unusedVariables false
set_option linter.unusedSimpArgs false
theorem oL (s : ByteArray) : ∀ b i, (fE s b i).length ≤ b
 | 0, _ => by simp [fE]
 | b + 1, i => by
  unfold fE
  split
  ·simpa using oL s b _
  ·simp
theorem oD (s : ByteArray) : (aS s).length ≤ s.size := oL s _ _
theorem uB (s : ByteArray) : ∀ b i (acc : Array Value), Conv.runesFrom s b i acc = acc ++ ((fE s b i).map (Value.int .i32)).toArray
 | 0, _, acc => by simp [Conv.runesFrom, fE]
 | b + 1, i, acc => by
  unfold Conv.runesFrom fE
  by_cases h : i < s.size
  ·simp only [h, if_true]
   rw [uB s b _ _]
   simp
  ·simp [h]
theorem vL (s : ByteArray) : Conv.runesFrom s s.size 0 #[] = ((aS s).map (Value.int .i32)).toArray := by
 rw [uB]; simp [aS]
theorem RowC.ints (w : World) (A : Nat → Prop) (k : IntKind) : ∀ l : List Int, RowC w A (.int k) l (l.map (Value.int k))
 | [] => rfl
 | b :: l => ⟨[.int k b], _, rfl, rfl, RowC.ints w A k l⟩
theorem RowAt.int_cell {w : World} {A : Nat → Prop} {k : IntKind} {b off : Nat} {xs : List Int} (h : RowAt w A (.int k) b off xs) {i : Nat} (hi : i < xs.length) : w.cell? ⟨b, off + i, none⟩ = some (.int k xs[i]) := by
 obtain ⟨ds, hd, hc⟩ := h i xs[i] (List.getElem?_eq_getElem hi)
 obtain rfl : ds = [Value.int k xs[i]] := hd
 have := hc 0 (by simp [K.size])
 simpa [K.size] using this
section
variable {E : Env} {pl : Nat → Pl} {Γ : Ctx} {w w' : World} {a : Act} {s : FState} {β : Type} {r : β} {κ : FState → Option β} {Q : Exit → Act → World → Prop}
theorem p6 {c : Bool} {x : Option β} (h : (bif c then x else none) = some r) : c = true ∧ x = some r := by
 cases c
 ·cases h
 ·exact ⟨rfl, h⟩
theorem rI (w : World) (o : Obj) : (w.drew.alloc o).heap[w.heap.size]? = some o := by
 show (w.heap.push o)[w.heap.size]? = _
 simp
theorem RelP.newRo (h : RelP E pl w a s) (hx : Ext w w') {k : K} {e : TypeId} (hT : TyOk E.P e k) {d : Nat} (hd : s.objs d = none) {xs : List k.den} {cs : List Value} (hc : RowC w (Av E s.objs pl) k xs cs)
  {row : Array Value} {t : TypeId} {fz : Nat × Nat} (hrow : w'.heap[w.heap.size]? = some (.cells row t fz)) (hcs : ∀ (j : Nat) v, cs[j]? = some v → row[j]? = some v) :
  RelP E (upd pl d ⟨w.heap.size, 0, xs.length⟩) w' a (s.setO d (some (.row k e false xs))) := by
 refine h.new hx hd _ _ (fun hh => by cases hh.1) (fun A' hA' => ⟨hT, Nat.le_refl _, fun hh => (by cases hh), fun hr hxs hA => ?_, ?_⟩)
 ·rcases hA' _ hA with (hz | ⟨o, ob, ho, hoc, hb⟩) | ⟨⟨h1, _⟩, _⟩
  ·have h1 : w.heap.size < w.heap.size := h.zlt _ hz
   omega
  ·have h1 : w.heap.size < w.heap.size := (h.fresh _ ⟨o, ob, ho, hoc, hb⟩).1
   omega
  ·cases h1
 ·have hst : Stay w (Av E s.objs pl) w' A' := Stay.grow hx.block (fun b hb hA => by
   rcases hA' b hA with h1 | ⟨⟨h1, _⟩, _⟩
   ·exact h1
   ·cases h1)
  exact (hc.stay hst).toAt (fun j v hv => by rw [Nat.zero_add, cell_of_row _ _ _ _ _ _ hrow]; exact hcs j v hv)
theorem wP (hT : TabOk E.P Γ) (h : Rel E w a s) {d : Nat} (hd : d < E.N) {src dst e : TypeId} {x : Operand} {ty : TypeId} {pos : String} {af : Array Edge} {g : Option (Nat × Bool)} {z : ByteArray} (hx : ev s x = .dat .str z)
  (he : lk Γ.se dst = some e) (hs : lk Γ.kt src = some .str) (hk8 : lk Γ.kt e = some (.int .i32)) (hsz : z.size ≤ 70368744177664) (hn : s.objs d = none) (hk : κ ((s.setO d (some (.row (.int .i32) e true (aS z)))).set d (.sl d none false)) = some r) :
  Oper.wp E.P ⟨some d, .convert src dst x, ty, pos, af, g⟩ a w (Goes E κ r) Q := by
 obtain ⟨pl, h⟩ := h
 have hu0 : E.P.underlying src = some .string := (hT.kt src _ hs).und
 have hu := hT.se dst e he
 have hTy := hT.kt e _ hk8
 have hue : E.P.underlying e = some (.int .i32) := hTy.und
 have hxe := (h.ev x _ hx).str_inv
 have hl := oD z
 have hrun := run_runes_of_string (P := E.P) w src dst e z hu0 hu hue (by rw [vL]; simp; omega)
 rw [vL] at hrun
 simp only [List.size_toArray, List.length_map] at hrun
 have hge := grownCap_ge w (aS z).length 0 e
 have hnew := h.newRow (w' := w.drew.alloc (.cells (((aS z).map (Value.int .i32)).toArray ++ Array.replicate (grownCap w (aS z).length 0 e - (aS z).length) (.int .i32 0)) e)) (Ext.drewAlloc _ _) hTy hn true (RowC.ints w _ .i32 (aS z))
  (rI _ _) (fun j v hv => by
   have hj := (List.getElem?_eq_some_iff.1 hv).1
   rw [Array.getElem?_append_left (by simpa using hj)]
   simpa using hv) (cap := grownCap w (aS z).length 0 e) hge (by simp [K.size]; omega)
 have hput := hnew.putSl hd (aT _ _ _) (ad := some ⟨w.heap.size, 0, none⟩) (len := (aS z).length) (cap := grownCap w (aS z).length 0 e) rfl hge (fun _ => by rw [aU]) (fun _ => by rw [aU]) false (fun hh => by cases hh)
 refine Oper.wp_of_value ?_ ⟨_, ⟨_, hput⟩, hk⟩
 simp [execOp, hxe, hrun]
theorem xI (hT : TabOk E.P Γ) (h : Rel E w a s) {d : Nat} (hd : d < E.N) {src dst e : TypeId} {x : Operand} {ty : TypeId} {pos : String} {af : Array Edge} {g : Option (Nat × Bool)} {z : ByteArray} (hx : ev s x = .dat .str z)
  (he : lk Γ.se dst = some e) (hs : lk Γ.kt src = some .str) (hk8 : lk Γ.kt e = some (.int .u8)) (hn : s.objs d = none) (hk : κ ((s.setO d (some (.row (.int .u8) e true (aD z)))).set d (.sl d none true)) = some r) :
  Oper.wp E.P ⟨some d, .convert src dst x, ty, pos, af, g⟩ a w (Goes E κ r) Q := by
 obtain ⟨pl, h⟩ := h
 have hu0 : E.P.underlying src = some .string := (hT.kt src _ hs).und
 have hu := hT.se dst e he
 have hTy := hT.kt e _ hk8
 have hue : E.P.underlying e = some (.int .u8) := hTy.und
 have hxe := (h.ev x _ hx).str_inv
 have hrun := run_bytes_of_string (P := E.P) w src dst e z hu0 hu hue
 have hlen : (aD z).length = z.size := by unfold aD; rw [List.length_map]; rfl
 have hge := grownCap_ge w z.size 0 e
 have hbs : (bytesRow z (grownCap w z.size 0 e)).size = grownCap w z.size 0 e := by
  have h1 : z.data.size = z.size := rfl
  unfold bytesRow; simp [h1]; omega
 have hnew := h.newRow (w' := w.drew.alloc (.cells (bytesRow z (grownCap w z.size 0 e)) e ((bytesRow z (grownCap w z.size 0 e)).size, (bytesRow z (grownCap w z.size 0 e)).size + 1))) (Ext.drewAlloc _ _) hTy hn true (RowC.bytes w _ z.data.toList)
  (rI _ _) (fun j v hv => by
   have hj := (List.getElem?_eq_some_iff.1 hv).1
   unfold bytesRow
   rw [Array.getElem?_append_left (by simpa using hj)]
   simpa using hv) (cap := grownCap w z.size 0 e) (by rw [List.length_map]; exact hge) (by rw [hbs]; simp [K.size]) (.inr (Nat.le_refl _))
 have hput := hnew.putSl hd (aT _ _ _) (ad := some ⟨w.heap.size, 0, none⟩) (len := z.size) (cap := grownCap w z.size 0 e) hlen.symm hge (fun _ => by rw [aU]) (fun _ => by rw [aU]) true (fun _ hh => by cases hh)
 refine Oper.wp_of_value ?_ ⟨_, ⟨_, hput⟩, hk⟩
 simp [execOp, hxe, hrun]
theorem yE (w : World) (b n : Nat) {cs : Array Value} {t : TypeId} {fz : Nat × Nat} (h : w.heap[b]? = some (.cells cs t fz)) : (w.freeze ⟨b, n, none⟩ 1).heap[b]? = some (.cells cs t (if fz.1 == fz.2 then (n, n + 1) else (min fz.1 n, max fz.2 (n + 1)))) := by
 obtain ⟨lo, hi⟩ := fz
 simp [World.freeze, Array.getElem?_modify, h]
theorem Wr.freeze (w : World) (b n : Nat) : Wr w (w.freeze ⟨b, n, none⟩ 1) True b :=
 ⟨rfl, rfl, rfl, by simp [World.freeze], fun k hk hn => by
  simp only [World.freeze, Nat.one_ne_zero, if_false, Array.getElem?_modify]
  rw [if_neg (fun e => hn ⟨trivial, e.symm⟩)]⟩
theorem CellsAt.freeze {w : World} {b : Nat} {cs : Array Value} {t : TypeId} (h : CellsAt w b cs t) : CellsAt (w.freeze ⟨b, cs.size, none⟩ 1) b cs t := by
 obtain ⟨fz, h, hf⟩ := h
 refine ⟨_, yE w b cs.size h, .inr ?_⟩
 split
 ·exact Nat.le_refl _
 ·rename_i hne
  rcases hf with rfl | hf
  ·simp at hne
  ·exact Nat.le_min.2 ⟨hf, Nat.le_refl _⟩
theorem RowAt.cells_same {w w' : World} {A A' : Nat → Prop} (hst : Stay w A w' A') {k : K} {b off : Nat} {xs : List k.den} (h : RowAt w A k b off xs) (hc : ∀ o, w'.cell? ⟨b, o, none⟩ = w.cell? ⟨b, o, none⟩) : RowAt w' A' k b off xs := fun i x hi =>
 let ⟨ds, hd, hx⟩ := h i x hi; ⟨ds, hd.stay hst, fun j hj => (hc _).trans (hx j hj)⟩
theorem yH (hT : TabOk E.P Γ) (h : Rel E w a s) {d : Option Tmp} (hd : dN E d) {src : TypeId} {x : Operand} {ty : TypeId} {pos : String} {af : Array Edge} {g : Option (Nat × Bool)} {o : Nat} {wn : Option (Int × Int)} (hx : ev s x = .sl o wn true)
  {e : TypeId} (he : lk Γ.se src = some e) (hk8 : lk Γ.kt e = some (.int .u8)) {k' : K} {e' : TypeId} {xs : List k'.den} (ho : s.objs o = some (.row k' e' true xs)) (hne : 0 < cZ xs wn) (hk : κ (s.put d (.sl o wn true)) = some r) :
  Oper.wp E.P ⟨d, .convert src src x, ty, pos, af, g⟩ a w (Goes E κ r) Q := by
 obtain ⟨pl, h⟩ := h
 have hu := hT.se src e he
 have hue : E.P.underlying e = some (.int .u8) := (hT.kt e _ hk8).und
 obtain ⟨k1, e1, rw1, xs1, ho1, ad, cap, off, len, hw, hxe, hl, hc1, hc2, hnn⟩ := (h.ev x _ hx).sl_inv
 rw [ho] at ho1
 cases ho1
 obtain ⟨hTy, hxl, hmem, hro, hrow⟩ := h.objs o _ ho
 have hlen : 0 < len := by
  cases wn with
  | none => obtain ⟨_, rfl⟩ := hw; simpa [cZ] using hne
  | some p => obtain ⟨f, l⟩ := p; obtain ⟨_, h2, _, _, rfl⟩ := hw; simp only [cZ] at hne; omega
 have hcp : 0 < (pl o).cap := by
  have := hc1 rfl
  omega
 obtain ⟨cs, tt, hcells, hsz⟩ := hmem rfl hcp
 have had := hc2 (.inl hlen)
 have hsh : w.shape? (pl o).b = some (tt, cs.size) := by
  obtain ⟨fz, hc, _⟩ := hcells
  unfold World.shape?; rw [hc]
 have hcell : ∀ o', (w.freeze ⟨(pl o).b, cs.size, none⟩ 1).cell? ⟨(pl o).b, o', none⟩ = w.cell? ⟨(pl o).b, o', none⟩ := fun o' => by
  obtain ⟨fz, hc, _⟩ := hcells
  rw [cell_of_row _ _ _ _ _ _ (yE w _ cs.size hc), cell_of_row _ _ _ _ _ _ hc]
 have hs' : s.setO o (some (.row k' e' true xs)) = s := by
  unfold FState.setO
  congr 1
  funext t
  by_cases ht : t = o
  ·subst ht; rw [Nat.beq_refl, cond_true]; exact ho.symm
  ·rw [fN ht, cond_false]
 have hwr := h.write (obj' := .row k' e' true xs) ho ⟨_, rfl, rfl⟩ ⟨rfl, hcp⟩ (Wr.freeze w (pl o).b cs.size) (fun A' hA' hst => ⟨hTy, hxl, fun _ _ => ⟨cs, tt, hcells.freeze, hsz⟩, fun h => (by cases h), hrow.cells_same hst hcell⟩)
 rw [hs'] at hwr
 refine Oper.wp_of_value (v := .slice ad len cap) (w' := w.freeze ⟨(pl o).b, cs.size, none⟩ 1) ?_ ⟨_, ⟨pl, hwr.put hd (show VRep _ _ _ _ (.sl o wn true) (.slice ad len cap) from .inl ⟨k', e', true, xs, ho, ad, cap, off, len, hw, rfl, hl, hc1, hc2, hnn⟩)⟩, hk⟩
 rw [had] at hxe ⊢
 simp [execOp, hxe, convert, run_underlying hu, run_underlying hue, markStringish, hsh]
theorem yK (hT : TabOk E.P Γ) (h : Rel E w a s) {d : Option Tmp} (hd : dN E d) {src dst e : TypeId} {x : Operand} {ty : TypeId} {pos : String} {af : Array Edge} {g : Option (Nat × Bool)} {o : Nat} {wn : Option (Int × Int)} {nn : Bool} (hx : ev s x = .sl o wn nn)
  (he : lk Γ.se src = some e) (hs : lk Γ.kt dst = some .str) (hk8 : lk Γ.kt e = some (.int .u8)) {e' : TypeId} {rw_ : Bool} {xs : List Int} (ho : s.objs o = some (.row (.int .u8) e' rw_ xs)) (hk : κ (s.put d (.dat .str (strOfNums (win xs wn)))) = some r) :
  Oper.wp E.P ⟨d, .convert src dst x, ty, pos, af, g⟩ a w (Goes E κ r) Q := by
 obtain ⟨pl, h⟩ := h
 have hu0 : E.P.underlying dst = some .string := (hT.kt dst _ hs).und
 have hu := hT.se src e he
 have hue : E.P.underlying e = some (.int .u8) := (hT.kt e _ hk8).und
 obtain ⟨k1, e1, rw1, xs1, ho1, ad, cap, off, len, hw, hxe, hl, hc1, hc2, _⟩ := (h.ev x _ hx).sl_inv
 rw [ho] at ho1
 cases ho1
 obtain ⟨_, _, _, _, hrow⟩ := h.objs o _ ho
 obtain ⟨hrow', hlen⟩ := hrow.winC hw
 refine Oper.wp_of_value (v := .string (strOfNums (win xs wn))) (w' := w) ?_ (Goes.put h hd (.str _) hk)
 by_cases h0 : len = 0
 ·have hnil : win xs wn = [] := List.eq_nil_of_length_eq_zero (by omega)
  subst h0
  have := run_convert_bytes_zero (P := E.P) w src e hu hue ad cap dst hu0
  simp [execOp, hxe, this, hnil, strOfNums]
  rfl
 ·rw [hc2 (.inl (by omega))] at hxe
  have := run_convert_bytes_arg (P := E.P) w src e hu hue (pl o).b ((pl o).off + off * K.size (.int .u8)) len cap (win xs wn) hlen (fun i hi => by
   rw [hrow'.int_cell (show i < (win xs wn).length by rw [hlen]; exact hi)]
   simp [List.getD, List.getElem?_eq_getElem (show i < (win xs wn).length by rw [hlen]; exact hi)]) dst hu0
  simp [execOp, hxe, this]
theorem wW (hT : TabOk E.P Γ) (h : Rel E w a s) {d : Option Tmp} (hd : dN E d) {src dst e : TypeId} {x : Operand} {ty : TypeId} {pos : String} {af : Array Edge} {g : Option (Nat × Bool)} {o : Nat} {wn : Option (Int × Int)} {nn : Bool} (hx : ev s x = .sl o wn nn)
  (he : lk Γ.se src = some e) (hs : lk Γ.kt dst = some .str) (hk8 : lk Γ.kt e = some (.int .i32)) {e' : TypeId} {rw_ : Bool} {xs : List Int} (ho : s.objs o = some (.row (.int .i32) e' rw_ xs)) (hk : κ (s.put d (.dat .str (runesBytes (win xs wn)))) = some r) :
  Oper.wp E.P ⟨d, .convert src dst x, ty, pos, af, g⟩ a w (Goes E κ r) Q := by
 obtain ⟨pl, h⟩ := h
 have hu0 : E.P.underlying dst = some .string := (hT.kt dst _ hs).und
 have hu := hT.se src e he
 have hue : E.P.underlying e = some (.int .i32) := (hT.kt e _ hk8).und
 obtain ⟨k1, e1, rw1, xs1, ho1, ad, cap, off, len, hw, hxe, hl, hc1, hc2, _⟩ := (h.ev x _ hx).sl_inv
 rw [ho] at ho1
 cases ho1
 obtain ⟨_, _, _, _, hrow⟩ := h.objs o _ ho
 obtain ⟨hrow', hlen⟩ := hrow.winC hw
 refine Oper.wp_of_value (v := .string (runesBytes (win xs wn))) (w' := w) ?_ (Goes.put h hd (.str _) hk)
 by_cases h0 : len = 0
 ·have hnil : win xs wn = [] := List.eq_nil_of_length_eq_zero (by omega)
  subst h0
  rcases ad with _ | ad
  ·have := run_convert_runes_nil (P := E.P) w src dst e 0 cap hu hue hu0
   simp [execOp, hxe, this, hnil, runesBytes]
  ·have := run_convert_runes (P := E.P) w src dst e ad 0 cap [] (by simp) hu hue hu0 (fun j hj => by simp at hj)
   simp [execOp, hxe, this, hnil, runesBytes]
 ·rw [hc2 (.inl (by omega))] at hxe
  have := run_convert_runes (P := E.P) w src dst e ⟨(pl o).b, (pl o).off + off * K.size (.int .i32), none⟩ len cap (win xs wn) (by omega) hu hue hu0 (fun j hj => by
   rw [Addr.add_mid]
   rw [hrow'.int_cell hj]
   simp [List.getD, List.getElem?_eq_getElem hj])
  rw [List.take_of_length_le (by omega)] at this
  simp [execOp, hxe, this]
theorem OS (hT : TabOk E.P Γ) (h : Rel E w a s) {d : Option Tmp} (hd : dN E d) {src dst : TypeId} {x : Operand} {ty : TypeId} {pos : String} {af : Array Edge} {g : Option (Nat × Bool)}
  (hk : nX Γ d src dst (ev s x) s κ = some r) : Oper.wp E.P ⟨d, .convert src dst x, ty, pos, af, g⟩ a w (Goes E κ r) Q := by
 unfold nX at hk
 split at hk
 ·rename_i z hx
  split at hk
  ·rename_i e he
   split at hk
   ·rename_i hs ht
    obtain ⟨hz, hk⟩ := p6 hk
    obtain ⟨d', rfl, hn, hk⟩ := cC hk
    exact wP hT h (hd _ rfl) hx he hs ht (Nat.le_of_ble_eq_true hz) hn hk
   ·rename_i hs ht
    obtain ⟨d', rfl, hn, hk⟩ := cC hk
    exact xI hT h (hd _ rfl) hx he hs ht hn hk
   ·cases hk
  ·exact CR hT h hd hk
 ·rename_i hx
  obtain ⟨pl, h⟩ := h
  have hxe : a.eval x = .slice none 0 0 := by
   rcases h.ev x _ hx with hv | ⟨l, _, hl⟩
   ·exact hv
   ·exact hl.elim
  split at hk
  ·rename_i e he hs
   have hu0 : E.P.underlying dst = some .string := (hT.kt dst _ hs).und
   have hu := hT.se src e he
   split at hk
   ·rename_i ht
    have hue : E.P.underlying e = some (.int .u8) := (hT.kt e _ ht).und
    refine Oper.wp_of_value (v := .string ⟨#[]⟩) (w' := w) ?_ (Goes.put h hd (.str _) hk)
    have := run_convert_bytes_nil (P := E.P) w src e hu hue 0 0 dst hu0
    simp [execOp, hxe, this]
    rfl
   ·rename_i ht
    have hue : E.P.underlying e = some (.int .i32) := (hT.kt e _ ht).und
    refine Oper.wp_of_value (v := .string ⟨#[]⟩) (w' := w) ?_ (Goes.put h hd (.str _) hk)
    have := run_convert_runes_nil (P := E.P) w src dst e 0 0 hu hue hu0
    simp [execOp, hxe, this]
    rfl
   ·cases hk
  ·cases hk
 ·rename_i o0 w0 nn0 hx
  obtain ⟨o, wn, nn, k', e', rw_, xs, hx', ho, hk⟩ := cI hk
  cases hx'
  split at hk
  ·rename_i e e2 k2 he hs
   have hh := bI hk
   clear hk
   obtain ⟨⟨hsd, hn, hr, h8⟩, hk⟩ := hh
   obtain ⟨_, hpos, hkk⟩ := qB hk
   subst hsd
   subst hn
   subst hr
   exact yH hT h hd hx he h8 ho hpos hkk
  ·rename_i e he hs
   split at hk
   ·rename_i ht
    have hh := bR hk
    clear hk
    obtain ⟨hk', hk⟩ := hh
    subst hk'
    exact yK hT h hd hx he hs ht ho hk
   ·rename_i ht
    have hh := bR hk
    clear hk
    obtain ⟨hk', hk⟩ := hh
    subst hk'
    exact wW hT h hd hx he hs ht ho hk
   ·cases hk
  ·cases hk
 ·exact CR hT h hd hk
end
end Go.Proofs.YticibdjilmclgaaDoorZF

namespace Go.Proofs.YticibdjilmclgaaDoorZF
open Go
set_option linter.unusedVariables false
set_option linter.unusedSimpArgs false
theorem RowC.rep {w : World} {A : Nat → Prop} {k : K} {x : k.den} {cs : List Value} (h : RepD w A k x cs) : ∀ n : Nat, RowC w A k (List.replicate n x) ((List.replicate n cs).flatten)
 | 0 => rfl
 | n + 1 => ⟨cs, (List.replicate n cs).flatten, by simp [List.replicate_succ], h, RowC.rep h n⟩
theorem Q5 {α : Type} (cs : List α) : ∀ (n j : Nat) (v : α), ((List.replicate n cs).flatten)[j]? = some v → j < n * cs.length ∧ cs[j % cs.length]? = some v
 | 0, j, v, h => by simp at h
 | n + 1, j, v, h => by
  rw [List.replicate_succ, List.flatten_cons] at h
  by_cases hj : j < cs.length
  ·rw [List.getElem?_append_left hj] at h
   rw [Nat.mod_eq_of_lt hj]
   refine ⟨?_, h⟩
   rw [Nat.add_mul]; omega
  ·rw [List.getElem?_append_right (by omega)] at h
   obtain ⟨h1, h2⟩ := Q5 cs n _ v h
   rw [Nat.add_mul]
   refine ⟨by omega, ?_⟩
   rw [Nat.mod_eq_sub_mod (by omega)]; exact h2
theorem FM {α : Type} (xs : List α) (off len : Int) (ys : List α) (h0 : 0 ≤ off) (h1 : 0 ≤ len) (h : off + len ≤ xs.length) : (aV xs off len ys).length = xs.length := by
 simp [aV]; omega
theorem YB {α : Type} (xs : List α) (off len : Int) (ys : List α) (h0 : 0 ≤ off) (h1 : 0 ≤ len) (h : off + len ≤ xs.length) (i : Nat) :
  (aV xs off len ys)[i]? = if off.toNat ≤ i ∧ i < off.toNat + min len.toNat ys.length then ys[i - off.toNat]? else xs[i]? := by
 unfold aV
 have ho : (xs.take off.toNat).length = off.toNat := by simp; omega
 have hy : (ys.take (min len.toNat ys.length)).length = min len.toNat ys.length := by simp
 by_cases h2 : i < off.toNat
 ·rw [if_neg (by omega), List.append_assoc, List.getElem?_append_left (by omega), List.getElem?_take, if_pos h2]
 ·by_cases h3 : i < off.toNat + min len.toNat ys.length
  ·rw [if_pos ⟨by omega, h3⟩, List.getElem?_append_left (by rw [List.length_append]; omega), List.getElem?_append_right (by omega), ho, List.getElem?_take, if_pos (by omega)]
  ·rw [if_neg (by omega), List.getElem?_append_right (by rw [List.length_append]; omega), List.length_append, ho, hy, List.getElem?_drop]
   congr 1; omega
theorem FP {P : Program} (w : World) (dT sT ty elem : TypeId) (m : Nat) (A B : Option Addr) (dLen dCap sLen sCap g off : Nat) (cs : List Value)
  (hu : P.underlying dT = some (.slice elem)) (hs : ∀ w, (sizeOf elem).run P w = .ok m w) (hn : cs.length = Nat.min sLen dLen * m)
  (hpos : 0 < cs.length → A = some ⟨g, off, none⟩ ∧ ∃ ad, B = some ad ∧ ∀ j v, cs[j]? = some v → w.cell? (ad.add j) = some v)
  (hc : ∀ j, j < cs.length → (w.cell? ⟨g, off + j, none⟩).isSome = true ∧ w.frozen? ⟨g, off + j, none⟩ = false) (h1 : ∀ v ∈ cs, v.oneCell' = true) :
  (Builtin.copy_ #[dT, sT] ty #[.slice A dLen dCap, .slice B sLen sCap]).run P w = .ok (goInt (Nat.min sLen dLen)) (w.setCells g off cs) := by
 by_cases h0 : cs.length = 0
 ·obtain rfl : cs = [] := List.eq_nil_of_length_eq_zero h0
  have hz : Nat.min sLen dLen * m = 0 := by simpa using hn.symm
  have hl : ∀ (x : Addr), (loadCells x 0).run P w = .ok #[] w := fun x => by simpa using run_loadCells_list (P := P) w x [] (by simp)
  have hsc : w.setCells g off [] = w := rfl
  cases A <;> cases B <;> simp [Builtin.copy_, run_underlying hu, Builtin.lenOf, Builtin.firstCells, hs, hz, storeCells, hl, hsc]
 ·obtain ⟨rfl, ad, rfl, hsrc⟩ := hpos (by omega)
  have hl := run_loadCells_list (P := P) w ad cs hsrc
  have hst := run_storeCells_cells (P := P) g off cs 0 w (by simpa using fun j hj => (hc j hj).1) (by simpa using fun j hj => (hc j hj).2) h1
  simp [Builtin.copy_, run_underlying hu, Builtin.lenOf, Builtin.firstCells, hs, ← hn, hl, hst]
section
variable {E : Env} {pl : Nat → Pl} {Γ : Ctx} {w w' : World} {a : Act} {s : FState} {β : Type} {r : β} {κ : FState → Option β} {Q : Exit → Act → World → Prop}
theorem dR6 {A : Nat → Prop} {O : kB} (b : Bool) (n m : Int) : VRep w A O pl (.tcons (.dat .bool b) (.tcons (.dat (.int .i64) n) (.tcons (.dat (.int .i32) m) .tnil))) (.tuple #[.bool b, goInt n, .int .i32 m]) :=
 .inr ⟨[.bool b, goInt n, .int .i32 m], rfl, .bool b, _, rfl, ⟨_, rfl, rfl⟩, goInt n, _, rfl, ⟨_, rfl, rfl⟩, .int .i32 m, _, rfl, ⟨_, rfl, rfl⟩, rfl⟩
theorem dS0 {A : Nat → Prop} {O : kB} (b : Bool) : VRep w A O pl (.tcons (.dat .bool b) .tnil) (.tuple #[.bool b]) := .inr ⟨[.bool b], rfl, .bool b, _, rfl, ⟨_, rfl, rfl⟩, rfl⟩
theorem IB {n : Int} {κ : Option β} (h : yD n κ = some r) : n ≤ 1099511627776 ∧ κ = some r := bI h
theorem YC (hT : TabOk E.P Γ) (h : Rel E w a s) {d : Option Tmp} (hd : dN E d) {t : TypeId} {x y : Operand} {ty : TypeId} {pos : String} {af : Array Edge} {g : Option (Nat × Bool)}
  (hk : RW Γ d t (ev s x) (ev s y) s κ = some r) : Oper.wp E.P ⟨d, .makeSlice t x y, ty, pos, af, g⟩ a w (Goes E κ r) Q := by
 obtain ⟨pl, h⟩ := h
 unfold RW at hk
 obtain ⟨e, hse, hk⟩ := aL hk
 obtain ⟨k, hke, hk⟩ := aL hk
 obtain ⟨k1, l, hx, hk⟩ := dE hk
 obtain ⟨k2, c, hy, hk⟩ := dE hk
 obtain ⟨_, h0, h1, hk⟩ := lC hk
 obtain ⟨hr, hk⟩ := IB hk
 obtain ⟨d', rfl, hn, hk⟩ := cC hk
 have hTy := hT.kt e k hke
 obtain ⟨i, hi, hsz, hz, hby⟩ := hTy.info'
 have hbytes : (i.bytes : Int) * c ≤ 281474976710656 := by
  have hb : (i.bytes : Int) ≤ 128 := by omega
  have := Int.mul_le_mul hb hr (by omega) (by omega)
  omega
 have hrun := run_make (P := E.P) w t e i k.zval (hT.se t e hse) hi hz k1 k2 l c h0 h1 hbytes (by omega)
 have hxe := (h.ev x _ hx).int_inv
 have hye := (h.ev y _ hy).int_inv
 have hnew := h.newRow (w' := w.alloc (.cells (madeCells k.zval.cells (c.toNat * i.size)) e)) (Ext.alloc _ _) hTy hn true (RowC.rep (RepD.zero w _ k) l.toNat) (mI _ _) (fun j v hv => by
   obtain ⟨g1, g2⟩ := Q5 _ _ _ _ hv
   rw [K.zcells_len] at g1 g2
   have hlc := Nat.mul_le_mul_right k.size (show l.toNat ≤ c.toNat by omega)
   unfold madeCells
   rw [K.zval_cells, hsz]
   simp only [List.size_toArray, K.zcells_len, Array.getElem?_map]
   rw [Array.getElem?_eq_getElem (by simp; omega)]
   simp only [Array.getElem_range, Option.map_some]
   rw [getElem!_def, List.getElem?_toArray, g2]) (cap := c.toNat) (by simp; omega) (by rw [size_madeCells, hsz]; exact Nat.le_refl _)
 have hput := hnew.putSl (hd _ rfl) (aT _ _ _) (ad := some ⟨w.heap.size, 0, none⟩) (len := l.toNat) (cap := c.toNat) (by simp) (by omega) (fun _ => by rw [aU]) (fun _ => by rw [aU]) true (fun _ => by simp)
 refine Oper.wp_of_value ?_ ⟨_, ⟨_, hput⟩, hk⟩
 simp [execOp, hxe, hye, hrun]
theorem RowAt.paste {w w' : World} {A A' : Nat → Prop} {k : K} {b off0 : Nat} {xs ys : List k.den} (h : RowAt w A k b off0 xs) (hs : Stay w A w' A') {off len : Int} (h0 : 0 ≤ off) (h1 : 0 ≤ len) (hle : off + len ≤ xs.length) {cs : List Value}
  (hC : RowC w A k (ys.take (min len.toNat ys.length)) cs) (hth : ∀ j, j < cs.length → (w.cell? ⟨b, off0 + off.toNat * k.size + j, none⟩).isSome = true) (hw : w' = w.setCells b (off0 + off.toNat * k.size) cs) : RowAt w' A' k b off0 (aV xs off len ys) := by
 have hcl := hC.len
 simp only [List.length_take, Nat.min_eq_left (Nat.min_le_right len.toNat ys.length)] at hcl
 intro i x hi
 rw [YB xs off len ys h0 h1 hle] at hi
 split at hi
 ·rename_i hin
  obtain ⟨ds, hd, hc⟩ := hC.at_ (i - off.toNat) x (by rw [List.getElem?_take, if_pos (by omega)]; exact hi)
  refine ⟨ds, hd.stay hs, fun j hj => ?_⟩
  rw [← hc j hj]
  have hlt : (i - off.toNat) * k.size + j < cs.length := by
   rw [hcl]
   have := Nat.mul_le_mul_right k.size (show i - off.toNat + 1 ≤ min len.toNat ys.length by omega)
   rw [Nat.add_mul] at this
   omega
  have := World.cell?_setCells_in b cs (off0 + off.toNat * k.size) w hth _ hlt
  rw [List.getElem?_eq_getElem hlt, ← this, hw]
  have e : off.toNat * k.size + (i - off.toNat) * k.size = i * k.size := by rw [← Nat.add_mul]; congr 1; omega
  congr 2
  omega
 ·rename_i hout
  obtain ⟨ds, hd, hc⟩ := h i x hi
  refine ⟨ds, hd.stay hs, fun j hj => ?_⟩
  rw [hw, World.cell?_setCells_out b cs _ w ⟨b, _, none⟩ (fun _ _ => by
   show off0 + i * k.size + j < _ ∨ _ ≤ off0 + i * k.size + j
   rw [hcl]
   by_cases hlt : i < off.toNat
   ·left
    have := Nat.mul_le_mul_right k.size (show i + 1 ≤ off.toNat from hlt)
    rw [Nat.add_mul] at this
    omega
   ·right
    have := Nat.mul_le_mul_right k.size (show off.toNat + min len.toNat ys.length ≤ i by omega)
    rw [Nat.add_mul] at this
    omega)]
  exact hc j hj
theorem RowC.take {w : World} {A : Nat → Prop} {k : K} : ∀ {xs : List k.den} {cs : List Value} (n : Nat), RowC w A k xs cs → RowC w A k (xs.take n) (cs.take (n * k.size))
 | [], cs, n, h => by cases h; simp; rfl
 | x :: xs, cs, 0, h => by simp; rfl
 | x :: xs, cs, n + 1, h => by
  obtain ⟨c, r, rfl, h1, h2⟩ := h
  have hl := h1.len
  refine ⟨c, r.take (n * k.size), ?_, h1, RowC.take n h2⟩
  rw [List.take_append, List.take_of_length_le (by rw [hl, Nat.add_mul]; omega)]
  congr 2
  rw [hl, Nat.add_mul]; omega
theorem VC (hT : TabOk E.P Γ) (h : Rel E w a s) {d : Option Tmp} (hd : dN E d) {t u : TypeId} {x y : Operand} {ty : TypeId} {pos : String} {af : Array Edge} {g : Option (Nat × Bool)}
  (hk : PF Γ d t (ev s x) (ev s y) s κ = some r) : Oper.wp E.P ⟨d, .call { callee := .builtin .copy, args := #[x, y], argTypes := #[t, u] }, ty, pos, af, g⟩ a w (Goes E κ r) Q := by
 obtain ⟨pl, h⟩ := h
 unfold PF at hk
 obtain ⟨e, hse, hk⟩ := aL hk
 obtain ⟨k, hke, hk⟩ := aL hk
 obtain ⟨o, wn, nn, k1, e1, rw1, xs, hx, ho, hk⟩ := cI hk
 have hh := bI hk
 clear hk
 obtain ⟨⟨hrw, he1⟩, hk⟩ := hh
 subst hrw
 subst he1
 have hh := bR hk
 clear hk
 obtain ⟨hk1, hk⟩ := hh
 subst hk1
 obtain ⟨o2, wn2, nn2, k2, e2, rw2, ys, hy, ho2, hk⟩ := cI hk
 have hh := bR hk
 clear hk
 obtain ⟨hk2, hk⟩ := hh
 subst hk2
 simp only at hk
 have hTy := hT.kt e1 k2 hke
 obtain ⟨kx, ex, rwx, xs', ho', ad, cap, off, len, hw, hxe, hl, hc1, hc2, _⟩ := (h.ev x _ hx).sl_inv
 rw [ho] at ho'
 cases ho'
 obtain ⟨ky, ey, rwy, ys', ho2', ad2, cap2, off2, len2, hw2, hye, hl2, hd1, hd2, _⟩ := (h.ev y _ hy).sl_inv
 rw [ho2] at ho2'
 cases ho2'
 obtain ⟨h0, h1, hmem, _, hrow⟩ := h.objs o _ ho
 obtain ⟨_, _, _, _, hrow2⟩ := h.objs o2 _ ho2
 obtain ⟨hr2, hwl2⟩ := hrow2.winC hw2
 obtain ⟨news, hC, hrange⟩ := hr2.toC
 have hnl := hC.len
 rw [hwl2] at hnl
 have hCt := hC.take (min len len2)
 have hctl := hCt.len
 have hbd := hw.bd
 have hoff : (cJ wn 0).toNat = off ∧ 0 ≤ cJ wn 0 := by have := hbd.2 0 (Int.le_refl _); simpa using this
 have hlen : cZ xs wn = (len : Int) := hw.lenInt
 have hlen2 : cZ ys wn2 = (len2 : Int) := hw2.lenInt
 have hmn : ((win ys wn2).take (min len len2)).length = min len len2 := by rw [List.length_take, hwl2]; omega
 rw [hmn] at hctl
 have hpos : 0 < (news.take (min len len2 * k2.size)).length → 0 < min len len2 := fun hh => by
  rcases Nat.eq_zero_or_pos (min len len2) with h2 | h2
  ·rw [hctl, h2] at hh; simp at hh
  ·exact h2
 have hth : ∀ j, j < (news.take (min len len2 * k2.size)).length → (w.cell? ⟨(pl o).b, (pl o).off + off * k2.size + j, none⟩).isSome = true ∧ w.frozen? ⟨(pl o).b, (pl o).off + off * k2.size + j, none⟩ = false := by
  intro j hj
  have hm := hpos (by omega)
  obtain ⟨row, tt, hrowm, hrsz⟩ := hmem rfl (by omega)
  have hthr : w.there (pl o).b ((pl o).off + off * k2.size) (min len len2 * k2.size) := by
   refine kP hrowm ?_
   have := Nat.mul_le_mul_right k2.size (show off + min len len2 ≤ (pl o).cap by omega)
   rw [Nat.add_mul] at this
   omega
  exact hthr j (by omega)
 have hrun := FP (P := E.P) w t u ty e1 k2.size ad ad2 len cap len2 cap2 (pl o).b ((pl o).off + off * k2.size) (news.take (min len len2 * k2.size)) (hT.se t e1 hse) (fun w => hTy.sizeOf)
  (by rw [hctl, Nat.min_comm]) (fun hh => by
   have hm := hpos hh
   refine ⟨hc2 (.inl (by omega)), _, hd2 (.inl (by omega)), fun j v hv => ?_⟩
   rw [Addr.add_mid]
   refine hrange j v ?_
   rw [List.getElem?_take] at hv
   split at hv
   ·exact hv
   ·cases hv) hth hCt.one
 have hmin : (goInt (Nat.min len2 len)) = Value.int .i64 (FH (cZ xs wn) (cZ ys wn2)) := by
  rw [hlen, hlen2]
  unfold FH goInt
  congr 1
  have : Nat.min len2 len = min len2 len := rfl
  split <;> omega
 refine Oper.wp_of_value (v := goInt (Nat.min len2 len)) (w' := w.setCells (pl o).b ((pl o).off + off * k2.size) (news.take (min len len2 * k2.size))) ?_ ?_
 ·simp [execOp, resolve, invoke, builtin, hxe, hye, hrun]
 ·have hpe : aV xs (cJ wn 0) (cZ xs wn) (win ys wn2) = aV xs (cJ wn 0) (cZ xs wn) (win ys wn2) := rfl
  have hple : cJ wn 0 + cZ xs wn ≤ xs.length := by rw [hlen]; have := hbd.1; omega
  have hplen := FM xs (cJ wn 0) (cZ xs wn) (win ys wn2) hoff.2 (by rw [hlen]; omega) hple
  have hCt' : RowC w (Av E s.objs pl) k2 ((win ys wn2).take (min (cZ xs wn).toNat (win ys wn2).length)) (news.take (min len len2 * k2.size)) := by
   rw [hlen, hwl2]; exact hCt
  by_cases hcap : 0 < (pl o).cap
  ·have hrel := h.write ho (w' := w.setCells (pl o).b ((pl o).off + off * k2.size) (news.take (min len len2 * k2.size))) (obj' := .row k2 e1 true (aV xs (cJ wn 0) (cZ xs wn) (win ys wn2))) ⟨_, rfl, hplen⟩ ⟨rfl, hcap⟩ (Wr.setCells _ _ _ _)
    (fun A' hA' hst => ⟨h0, by rw [hplen]; exact h1, fun _ hc => by
      obtain ⟨row, tt, hrowm, hrsz⟩ := hmem rfl hc
      obtain ⟨row', hrow', hsz'⟩ := hrowm.setCells ((pl o).off + off * k2.size) (news.take (min len len2 * k2.size))
      exact ⟨row', tt, hrow', by rw [hsz']; exact hrsz⟩, fun h => (by cases h), hrow.paste hst hoff.2 (by rw [hlen]; omega) hple hCt' (by rw [hoff.1]; exact fun j hj => (hth j hj).1) (by rw [hoff.1])⟩)
   rw [hmin]
   exact Goes.put hrel hd (.int _ _) hk
  ·have hx0 : xs = [] := List.eq_nil_of_length_eq_zero (by omega)
   have hn0 : news.take (min len len2 * k2.size) = [] := by
    have := hbd.1
    rw [hx0] at this
    simp at this
    refine List.eq_nil_of_length_eq_zero ?_
    rw [hctl]; simp [this]
   have hp0 : aV xs (cJ wn 0) (cZ xs wn) (win ys wn2) = xs := by rw [hx0] at hplen ⊢; exact List.eq_nil_of_length_eq_zero hplen
   have hsame : s.setO o (some (.row k2 e1 true (aV xs (cJ wn 0) (cZ xs wn) (win ys wn2)))) = s := by
    rw [hp0]
    unfold FState.setO
    cases s with
    | mk tm ob =>
     congr 1
     funext q
     by_cases hq : q = o
     ·subst hq; simp [Nat.beq_refl]; exact ho.symm
     ·simp [fN hq]
   rw [hsame] at hk
   rw [hn0, hmin]
   exact Goes.put h hd (.int _ _) hk
theorem QT (hT : TabOk E.P Γ) (h : Rel E w a s) {d : Option Tmp} (hd : dN E d) {t : TypeId} {x : Operand} {ty : TypeId} {pos : String} {af : Array Edge} {g : Option (Nat × Bool)}
  (hk : CS Γ d t (ev s x) s κ = some r) : Oper.wp E.P ⟨d, .range t x, ty, pos, af, g⟩ a w (Goes E κ r) Q := by
 obtain ⟨pl, h⟩ := h
 unfold CS at hk
 obtain ⟨z, hx, hk⟩ := pS hk
 obtain ⟨ht, hk⟩ := bI hk
 obtain ⟨d', rfl, hn, hk⟩ := cC hk
 have hxe := (h.ev x _ hx).str_inv
 have hrun := run_range_string (P := E.P) w t z (hT.kt t _ ht).und
 have hrow : (w.iter z 0).heap[w.heap.size]? = some (.stringIter z 0) := World.iter_heap w z 0
 have hnew := h.new (w' := w.iter z 0) (Ext.alloc _ _) hn (.siter z 0) ⟨w.heap.size, 0, 0⟩ (fun _ => ⟨Nat.le_refl _, (Array.getElem?_eq_some_iff.1 hrow).1⟩) (fun A' hA' => hrow)
 have hput := hnew.put (d := some d') hd (f := .it d') (v := .pointer (some ⟨w.heap.size, 0, none⟩)) (.inl ⟨z, 0, aT _ _ _, by rw [aU]⟩)
 refine Oper.wp_of_value ?_ ⟨_, ⟨_, hput⟩, hk⟩
 simp [execOp, hxe, hrun]
theorem ZM (h : Rel E w a s) {d : Option Tmp} (hd : dN E d) {x : Operand} {ty : TypeId} {pos : String} {af : Array Edge} {g : Option (Nat × Bool)}
  (hk : HB d (ev s x) s κ = some r) : Oper.wp E.P ⟨d, .next x true, ty, pos, af, g⟩ a w (Goes E κ r) Q := by
 obtain ⟨pl, h⟩ := h
 unfold HB at hk
 split at hk
 ·rename_i p hx
  split at hk
  ·rename_i z q ho
   obtain ⟨z1, q1, ho1, hxe⟩ := (h.ev x _ hx).it_inv
   have hrow : w.heap[(pl p).b]? = some (.stringIter z q) := h.objs p _ ho
   cases hb : Nat.blt q z.size with
   | true =>
    rw [hb, cond_true] at hk
    have hlt : q < z.size := Nat.le_of_ble_eq_true hb
    have hblt : (pl p).b < w.heap.size := (Array.getElem?_eq_some_iff.1 hrow).1
    let w' : World := { w with heap := w.heap.setIfInBounds (pl p).b (.stringIter z (q + (Utf8.decode z q).2)) }
    have hW : Wr w w' True (pl p).b := ⟨rfl, rfl, rfl, by simp [w'], fun b hb hn => by
     show (w.heap.setIfInBounds _ _)[b]? = _
     rw [Array.getElem?_setIfInBounds_ne (fun e => hn ⟨trivial, e.symm⟩)]⟩
    have hrel := h.write ho (w' := w') (obj' := .siter z (q + (Utf8.decode z q).2)) ⟨_, _, rfl⟩ trivial hW (fun A' hA' hst => by
     show (w.heap.setIfInBounds _ _)[(pl p).b]? = _
     rw [Array.getElem?_setIfInBounds_self_of_lt hblt])
    refine Oper.wp_of_value (v := .tuple #[.bool true, goInt q, .int .i32 (Utf8.decode z q).1]) (w' := w') ?_ (Goes.put hrel hd (dR6 _ _ _) hk)
    simp [execOp, hxe, Instr.next, getObj, setObj, Sem.run, hrow, hlt, w', goInt, Result.andThen]
   | false =>
    rw [hb, cond_false] at hk
    have hlt : ¬ q < z.size := fun hh => by rw [show Nat.blt q z.size = true from Nat.ble_eq_true_of_le hh] at hb; cases hb
    refine Oper.wp_of_value (v := .tuple #[.bool false]) (w' := w) ?_ (Goes.put h hd (dS0 _) hk)
    simp [execOp, hxe, Instr.next, getObj, Sem.run, hrow, hlt]
  ·cases hk
 ·cases hk
end
end Go.Proofs.YticibdjilmclgaaDoorZF
