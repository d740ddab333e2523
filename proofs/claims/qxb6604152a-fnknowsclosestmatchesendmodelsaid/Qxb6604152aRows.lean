/-
  No cell of these rows narrows 'for every input' (looked for: loops, veiled, ifaces, maps, wideKeys, modest, calm, conditions, laid).
  DERIVED. THE GIVEN ROWS OF THIS SEAT. 3 by the template 'for every input the law returns true; each argument reads behind the call as it read before'; 0 by the template 'total and deterministic' (their statements: Qxb6604152aTotals.lean).
  GIVEN WITH THE SEED: the statements are not yours to turn. If you find one false, say at which input.
  Laid BY PROGRAM, IN A SANDBOX (cutbox-rows.mjs): the forced cells as the released guide's own fill.sh prints them over the translation e18c954f8eea5162… (all of the seat's roots in one cut). By AI agents, Wed Nov 11 2026. No macro, syntax, notation, axiom, sorry.
-/
import Derived.Test.Qxb6604152aChecked
import GoSem.Claim
import GoSem.ClaimJoined
import GoSem.ClaimMapViews
import Derived.JoinedTies
import Derived.KernelRfl
namespace Go.Proofs.Qxb6604152a
/- THE CELL 'sum', in the pinned program and in every row, IS THE sha256 OF THE DUMP (.gsa) THAT Qxb6604152aProg.lean LOADS. Nothing in Lean hashes anything: it is a label: what it is worth is what the hold of that sum in a sandbox is worth. -/
noncomputable def Try.pinned : Pinned := { name := "qxb6604152a", sum := "e18c954f8eea5162be3e304d581393dcb02f309f0809de70ee4cfe4846b0a85c", checked := Try.checked }
namespace Rows
def none {H : Type} : Left H := { results := [], args := [] }

/-- 'zzlaws_pkg_ring_b1.FnFullEndsAreRanksOfRingDistance': WHATEVER THE INPUT: true; the input reads as it did. -/
def fnFullEndsAreRanksOfRingDistanceSpec : ChangeSpec := { name := "fnFullEndsAreRanksOfRingDistance", fn := fun _ => fun
  | [d1, d2, d3] => { results := [.lit (.bool true)], args := [d1, d2, d3] }
  | _ => none }
def fnFullEndsAreRanksOfRingDistanceRow : OpenClaim := { program := "qxb6604152a", sum := "e18c954f8eea5162be3e304d581393dcb02f309f0809de70ee4cfe4846b0a85c", func := "example.com/ringvault/ringvault/zzlaws_pkg_ring_b1.FnFullEndsAreRanksOfRingDistance", spec := "fnFullEndsAreRanksOfRingDistance", inPlace := ["internal/bytealg.Compare"], unfollowed := true, recurses := true, apart := false }
def FnFullEndsAreRanksOfRingDistanceSaid : Prop := fnFullEndsAreRanksOfRingDistanceRow.holds Try.pinned (OpenSpec.ofChange fnFullEndsAreRanksOfRingDistanceSpec)

/-- ITS FALSE NEIGHBOUR: 'it returns false'. Refute it at one input. -/
def fnFullEndsAreRanksOfRingDistanceWrong : ChangeSpec := { name := "fnFullEndsAreRanksOfRingDistance", fn := fun _ => fun
  | [d1, d2, d3] => { results := [.lit (.bool false)], args := [d1, d2, d3] }
  | _ => none }
def FnFullEndsAreRanksOfRingDistanceWrongFalsely : Prop := fnFullEndsAreRanksOfRingDistanceRow.holds Try.pinned (OpenSpec.ofChange fnFullEndsAreRanksOfRingDistanceWrong)

/-- 'zzlaws_pkg_ring_b1.FnFullEndsMeetBehindTheNode': WHATEVER THE INPUT: true; the input reads as it did. -/
def fnFullEndsMeetBehindTheNodeSpec : ChangeSpec := { name := "fnFullEndsMeetBehindTheNode", fn := fun _ => fun
  | [d1, d2, d3] => { results := [.lit (.bool true)], args := [d1, d2, d3] }
  | _ => none }
def fnFullEndsMeetBehindTheNodeRow : OpenClaim := { program := "qxb6604152a", sum := "e18c954f8eea5162be3e304d581393dcb02f309f0809de70ee4cfe4846b0a85c", func := "example.com/ringvault/ringvault/zzlaws_pkg_ring_b1.FnFullEndsMeetBehindTheNode", spec := "fnFullEndsMeetBehindTheNode", inPlace := ["internal/bytealg.Compare"], unfollowed := true, recurses := true, apart := false }
def FnFullEndsMeetBehindTheNodeSaid : Prop := fnFullEndsMeetBehindTheNodeRow.holds Try.pinned (OpenSpec.ofChange fnFullEndsMeetBehindTheNodeSpec)

/-- ITS FALSE NEIGHBOUR: 'it returns false'. Refute it at one input. -/
def fnFullEndsMeetBehindTheNodeWrong : ChangeSpec := { name := "fnFullEndsMeetBehindTheNode", fn := fun _ => fun
  | [d1, d2, d3] => { results := [.lit (.bool false)], args := [d1, d2, d3] }
  | _ => none }
def FnFullEndsMeetBehindTheNodeWrongFalsely : Prop := fnFullEndsMeetBehindTheNodeRow.holds Try.pinned (OpenSpec.ofChange fnFullEndsMeetBehindTheNodeWrong)

/-- 'zzlaws_pkg_ring_b1.FnKnowsClosestMatchesEndModel': WHATEVER THE INPUT: true; the input reads as it did. -/
def fnKnowsClosestMatchesEndModelSpec : ChangeSpec := { name := "fnKnowsClosestMatchesEndModel", fn := fun _ => fun
  | [d1, d2, d3, d4] => { results := [.lit (.bool true)], args := [d1, d2, d3, d4] }
  | _ => none }
def fnKnowsClosestMatchesEndModelRow : OpenClaim := { program := "qxb6604152a", sum := "e18c954f8eea5162be3e304d581393dcb02f309f0809de70ee4cfe4846b0a85c", func := "example.com/ringvault/ringvault/zzlaws_pkg_ring_b1.FnKnowsClosestMatchesEndModel", spec := "fnKnowsClosestMatchesEndModel", inPlace := ["internal/bytealg.Compare"], unfollowed := true, recurses := true, apart := false }
def FnKnowsClosestMatchesEndModelSaid : Prop := fnKnowsClosestMatchesEndModelRow.holds Try.pinned (OpenSpec.ofChange fnKnowsClosestMatchesEndModelSpec)

/-- ITS FALSE NEIGHBOUR: 'it returns false'. Refute it at one input. -/
def fnKnowsClosestMatchesEndModelWrong : ChangeSpec := { name := "fnKnowsClosestMatchesEndModel", fn := fun _ => fun
  | [d1, d2, d3, d4] => { results := [.lit (.bool false)], args := [d1, d2, d3, d4] }
  | _ => none }
def FnKnowsClosestMatchesEndModelWrongFalsely : Prop := fnKnowsClosestMatchesEndModelRow.holds Try.pinned (OpenSpec.ofChange fnKnowsClosestMatchesEndModelWrong)

end Rows
end Go.Proofs.Qxb6604152a
