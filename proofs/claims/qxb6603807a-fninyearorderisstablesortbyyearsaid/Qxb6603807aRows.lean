/-
  No cell of these rows narrows 'for every input' (looked for: loops, veiled, ifaces, maps, wideKeys, modest, calm, conditions, laid).
  DERIVED. THE GIVEN ROWS OF THIS SEAT. 5 by the template 'for every input the law returns true; each argument reads behind the call as it read before'; 0 by the template 'total and deterministic' (their statements: Qxb6603807aTotals.lean).
  GIVEN WITH THE SEED: the statements are not yours to turn. If you find one false, say at which input.
  Laid BY PROGRAM, IN A SANDBOX (cutbox-rows.mjs): the forced cells as the released guide's own fill.sh prints them over the translation 50f6d6dce0a71f3c… (all of the seat's roots in one cut). By AI agents, Wed Nov 11 2026. No macro, syntax, notation, axiom, sorry.
-/
import Derived.Test.Qxb6603807aChecked
import GoSem.Claim
import GoSem.ClaimJoined
import GoSem.ClaimMapViews
import Derived.JoinedTies
import Derived.KernelRfl
namespace Go.Proofs.Qxb6603807a
/- THE CELL 'sum', in the pinned program and in every row, IS THE sha256 OF THE DUMP (.gsa) THAT Qxb6603807aProg.lean LOADS. Nothing in Lean hashes anything: it is a label: what it is worth is what the hold of that sum in a sandbox is worth. -/
noncomputable def Try.pinned : Pinned := { name := "qxb6603807a", sum := "50f6d6dce0a71f3c8b71c269d3e44e420acba2a56d762fcda4a36c368794f66d", checked := Try.checked }
namespace Rows
def none {H : Type} : Left H := { results := [], args := [] }

/-- 'zzlaws_pkg_expense_b1.FnInYearOrderIsStableSortByYear': WHATEVER THE INPUT: true; the input reads as it did. -/
def fnInYearOrderIsStableSortByYearSpec : ChangeSpec := { name := "fnInYearOrderIsStableSortByYear", fn := fun _ => fun
  | [d1, d2, d3, d4] => { results := [.lit (.bool true)], args := [d1, d2, d3, d4] }
  | _ => none }
def fnInYearOrderIsStableSortByYearRow : OpenClaim := { program := "qxb6603807a", sum := "50f6d6dce0a71f3c8b71c269d3e44e420acba2a56d762fcda4a36c368794f66d", func := "example.com/vestline/vestline/zzlaws_pkg_expense_b1.FnInYearOrderIsStableSortByYear", spec := "fnInYearOrderIsStableSortByYear", apart := false }
def FnInYearOrderIsStableSortByYearSaid : Prop := fnInYearOrderIsStableSortByYearRow.holds Try.pinned (OpenSpec.ofChange fnInYearOrderIsStableSortByYearSpec)

/-- ITS FALSE NEIGHBOUR: 'it returns false'. Refute it at one input. -/
def fnInYearOrderIsStableSortByYearWrong : ChangeSpec := { name := "fnInYearOrderIsStableSortByYear", fn := fun _ => fun
  | [d1, d2, d3, d4] => { results := [.lit (.bool false)], args := [d1, d2, d3, d4] }
  | _ => none }
def FnInYearOrderIsStableSortByYearWrongFalsely : Prop := fnInYearOrderIsStableSortByYearRow.holds Try.pinned (OpenSpec.ofChange fnInYearOrderIsStableSortByYearWrong)

/-- 'zzlaws_pkg_expense_b1.FnInYearOrderIdempotent': WHATEVER THE INPUT: true; the input reads as it did. -/
def fnInYearOrderIdempotentSpec : ChangeSpec := { name := "fnInYearOrderIdempotent", fn := fun _ => fun
  | [d1, d2, d3, d4] => { results := [.lit (.bool true)], args := [d1, d2, d3, d4] }
  | _ => none }
def fnInYearOrderIdempotentRow : OpenClaim := { program := "qxb6603807a", sum := "50f6d6dce0a71f3c8b71c269d3e44e420acba2a56d762fcda4a36c368794f66d", func := "example.com/vestline/vestline/zzlaws_pkg_expense_b1.FnInYearOrderIdempotent", spec := "fnInYearOrderIdempotent", apart := false }
def FnInYearOrderIdempotentSaid : Prop := fnInYearOrderIdempotentRow.holds Try.pinned (OpenSpec.ofChange fnInYearOrderIdempotentSpec)

/-- ITS FALSE NEIGHBOUR: 'it returns false'. Refute it at one input. -/
def fnInYearOrderIdempotentWrong : ChangeSpec := { name := "fnInYearOrderIdempotent", fn := fun _ => fun
  | [d1, d2, d3, d4] => { results := [.lit (.bool false)], args := [d1, d2, d3, d4] }
  | _ => none }
def FnInYearOrderIdempotentWrongFalsely : Prop := fnInYearOrderIdempotentRow.holds Try.pinned (OpenSpec.ofChange fnInYearOrderIdempotentWrong)

/-- 'zzlaws_pkg_expense_b1.FnCalendarStartDaysMatchesCycleModel': WHATEVER THE INPUT: true; the input reads as it did. -/
def fnCalendarStartDaysMatchesCycleModelSpec : ChangeSpec := { name := "fnCalendarStartDaysMatchesCycleModel", fn := fun _ => fun
  | [d] => { results := [.lit (.bool true)], args := [d] }
  | _ => none }
def fnCalendarStartDaysMatchesCycleModelRow : OpenClaim := { program := "qxb6603807a", sum := "50f6d6dce0a71f3c8b71c269d3e44e420acba2a56d762fcda4a36c368794f66d", func := "example.com/vestline/vestline/zzlaws_pkg_expense_b1.FnCalendarStartDaysMatchesCycleModel", spec := "fnCalendarStartDaysMatchesCycleModel", apart := false }
def FnCalendarStartDaysMatchesCycleModelSaid : Prop := fnCalendarStartDaysMatchesCycleModelRow.holds Try.pinned (OpenSpec.ofChange fnCalendarStartDaysMatchesCycleModelSpec)

/-- ITS FALSE NEIGHBOUR: 'it returns false'. Refute it at one input. -/
def fnCalendarStartDaysMatchesCycleModelWrong : ChangeSpec := { name := "fnCalendarStartDaysMatchesCycleModel", fn := fun _ => fun
  | [d] => { results := [.lit (.bool false)], args := [d] }
  | _ => none }
def FnCalendarStartDaysMatchesCycleModelWrongFalsely : Prop := fnCalendarStartDaysMatchesCycleModelRow.holds Try.pinned (OpenSpec.ofChange fnCalendarStartDaysMatchesCycleModelWrong)

/-- 'zzlaws_pkg_expense_b1.FnCalendarYearFallsInItsYear': WHATEVER THE INPUT: true; the input reads as it did. -/
def fnCalendarYearFallsInItsYearSpec : ChangeSpec := { name := "fnCalendarYearFallsInItsYear", fn := fun _ => fun
  | [d1, d2] => { results := [.lit (.bool true)], args := [d1, d2] }
  | _ => none }
def fnCalendarYearFallsInItsYearRow : OpenClaim := { program := "qxb6603807a", sum := "50f6d6dce0a71f3c8b71c269d3e44e420acba2a56d762fcda4a36c368794f66d", func := "example.com/vestline/vestline/zzlaws_pkg_expense_b1.FnCalendarYearFallsInItsYear", spec := "fnCalendarYearFallsInItsYear", apart := false }
def FnCalendarYearFallsInItsYearSaid : Prop := fnCalendarYearFallsInItsYearRow.holds Try.pinned (OpenSpec.ofChange fnCalendarYearFallsInItsYearSpec)

/-- ITS FALSE NEIGHBOUR: 'it returns false'. Refute it at one input. -/
def fnCalendarYearFallsInItsYearWrong : ChangeSpec := { name := "fnCalendarYearFallsInItsYear", fn := fun _ => fun
  | [d1, d2] => { results := [.lit (.bool false)], args := [d1, d2] }
  | _ => none }
def FnCalendarYearFallsInItsYearWrongFalsely : Prop := fnCalendarYearFallsInItsYearRow.holds Try.pinned (OpenSpec.ofChange fnCalendarYearFallsInItsYearWrong)

/-- 'zzlaws_pkg_expense_b1.FnCalendarStartYearRoundTrip': WHATEVER THE INPUT: true; the input reads as it did. -/
def fnCalendarStartYearRoundTripSpec : ChangeSpec := { name := "fnCalendarStartYearRoundTrip", fn := fun _ => fun
  | [d1, d2] => { results := [.lit (.bool true)], args := [d1, d2] }
  | _ => none }
def fnCalendarStartYearRoundTripRow : OpenClaim := { program := "qxb6603807a", sum := "50f6d6dce0a71f3c8b71c269d3e44e420acba2a56d762fcda4a36c368794f66d", func := "example.com/vestline/vestline/zzlaws_pkg_expense_b1.FnCalendarStartYearRoundTrip", spec := "fnCalendarStartYearRoundTrip", apart := false }
def FnCalendarStartYearRoundTripSaid : Prop := fnCalendarStartYearRoundTripRow.holds Try.pinned (OpenSpec.ofChange fnCalendarStartYearRoundTripSpec)

/-- ITS FALSE NEIGHBOUR: 'it returns false'. Refute it at one input. -/
def fnCalendarStartYearRoundTripWrong : ChangeSpec := { name := "fnCalendarStartYearRoundTrip", fn := fun _ => fun
  | [d1, d2] => { results := [.lit (.bool false)], args := [d1, d2] }
  | _ => none }
def FnCalendarStartYearRoundTripWrongFalsely : Prop := fnCalendarStartYearRoundTripRow.holds Try.pinned (OpenSpec.ofChange fnCalendarStartYearRoundTripWrong)

end Rows
end Go.Proofs.Qxb6603807a
