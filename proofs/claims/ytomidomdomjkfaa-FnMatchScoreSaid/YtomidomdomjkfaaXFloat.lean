/- The smaller and the greater of two floats, as math.Min and math.Max tell them. -/
import Derived.Test.YtomidomdomjkfaaWMore
import Derived.Laws.Externs
import Derived.Laws.BitsAllLaws
import Derived.Laws.FloatArith
namespace Go.Proofs.YtomidomdomjkfaaW.PrintWords
open Go Go.RowKit
def fPick (neg : Bool) (win : Ordering) (x y : Nat) : Nat :=
  let a := FloatKind.f64.decode x
  let b := FloatKind.f64.decode y
  if a == .infinity neg || b == .infinity neg then FloatKind.f64.encode (.infinity neg)
  else if a.isNaN || b.isNaN then 0x7FF8000000000001
  else if a.isZero && b.isZero then (if a.neg == neg then x else y)
  else if a.order b == some win then x else y
def fMin (x y : Nat) : Nat := fPick true .lt x y
def fMax (x y : Nat) : Nat := fPick false .gt x y
end Go.Proofs.YtomidomdomjkfaaW.PrintWords
