/-
  No cell of these rows narrows 'for every input' (looked for: loops, veiled, ifaces, maps, wideKeys, modest, calm, conditions, laid).
  DERIVED. THE GIVEN ROWS OF THIS SEAT. 4 by the template 'for every input the law returns true; each argument reads behind the call as it read before'; 0 by the template 'total and deterministic' (their statements: Qxb6603426aTotals.lean).
  GIVEN WITH THE SEED: the statements are not yours to turn. If you find one false, say at which input.
  Laid BY PROGRAM, IN A SANDBOX (cutbox-rows.mjs): the forced cells as the released guide's own fill.sh prints them over the translation 714f09b843f84cbc… (all of the seat's roots in one cut). By AI agents, Wed Nov 11 2026. No macro, syntax, notation, axiom, sorry.
-/
import Derived.Test.Qxb6603426aChecked
import GoSem.Claim
import GoSem.ClaimJoined
import GoSem.ClaimMapViews
import Derived.JoinedTies
import Derived.KernelRfl
namespace Go.Proofs.Qxb6603426a
/- THE CELL 'sum', in the pinned program and in every row, IS THE sha256 OF THE DUMP (.gsa) THAT Qxb6603426aProg.lean LOADS. Nothing in Lean hashes anything: it is a label: what it is worth is what the hold of that sum in a sandbox is worth. -/
noncomputable def Try.pinned : Pinned := { name := "qxb6603426a", sum := "714f09b843f84cbccf155855f8bf6c0b2adcf779884984103063d21a40b25e04", checked := Try.checked }
namespace Rows
def none {H : Type} : Left H := { results := [], args := [] }

/-- 'zzlaws_root_b1.FnGhostScriptAgreesWithRecencyList': WHATEVER THE INPUT: true; the input reads as it did. -/
def fnGhostScriptAgreesWithRecencyListSpec : ChangeSpec := { name := "fnGhostScriptAgreesWithRecencyList", fn := fun _ => fun
  | [d1, d2] => { results := [.lit (.bool true)], args := [d1, d2] }
  | _ => none }
def fnGhostScriptAgreesWithRecencyListRow : OpenClaim := { program := "qxb6603426a", sum := "714f09b843f84cbccf155855f8bf6c0b2adcf779884984103063d21a40b25e04", func := "example.com/calmcache/calmcache/zzlaws_root_b1.FnGhostScriptAgreesWithRecencyList", spec := "fnGhostScriptAgreesWithRecencyList", apart := false }
def FnGhostScriptAgreesWithRecencyListSaid : Prop := fnGhostScriptAgreesWithRecencyListRow.holds Try.pinned (OpenSpec.ofChange fnGhostScriptAgreesWithRecencyListSpec)

/-- ITS FALSE NEIGHBOUR: 'it returns false'. Refute it at one input. -/
def fnGhostScriptAgreesWithRecencyListWrong : ChangeSpec := { name := "fnGhostScriptAgreesWithRecencyList", fn := fun _ => fun
  | [d1, d2] => { results := [.lit (.bool false)], args := [d1, d2] }
  | _ => none }
def FnGhostScriptAgreesWithRecencyListWrongFalsely : Prop := fnGhostScriptAgreesWithRecencyListRow.holds Try.pinned (OpenSpec.ofChange fnGhostScriptAgreesWithRecencyListWrong)

/-- 'zzlaws_root_b1.FnGhostAddsKeepLastDistinct': WHATEVER THE INPUT: true; the input reads as it did. -/
def fnGhostAddsKeepLastDistinctSpec : ChangeSpec := { name := "fnGhostAddsKeepLastDistinct", fn := fun _ => fun
  | [d1, d2] => { results := [.lit (.bool true)], args := [d1, d2] }
  | _ => none }
def fnGhostAddsKeepLastDistinctRow : OpenClaim := { program := "qxb6603426a", sum := "714f09b843f84cbccf155855f8bf6c0b2adcf779884984103063d21a40b25e04", func := "example.com/calmcache/calmcache/zzlaws_root_b1.FnGhostAddsKeepLastDistinct", spec := "fnGhostAddsKeepLastDistinct", apart := false }
def FnGhostAddsKeepLastDistinctSaid : Prop := fnGhostAddsKeepLastDistinctRow.holds Try.pinned (OpenSpec.ofChange fnGhostAddsKeepLastDistinctSpec)

/-- ITS FALSE NEIGHBOUR: 'it returns false'. Refute it at one input. -/
def fnGhostAddsKeepLastDistinctWrong : ChangeSpec := { name := "fnGhostAddsKeepLastDistinct", fn := fun _ => fun
  | [d1, d2] => { results := [.lit (.bool false)], args := [d1, d2] }
  | _ => none }
def FnGhostAddsKeepLastDistinctWrongFalsely : Prop := fnGhostAddsKeepLastDistinctRow.holds Try.pinned (OpenSpec.ofChange fnGhostAddsKeepLastDistinctWrong)

/-- 'zzlaws_root_b1.FnGhostAddingNewestAgainChangesNothing': WHATEVER THE INPUT: true; the input reads as it did. -/
def fnGhostAddingNewestAgainChangesNothingSpec : ChangeSpec := { name := "fnGhostAddingNewestAgainChangesNothing", fn := fun _ => fun
  | [d1, d2, d3, d4] => { results := [.lit (.bool true)], args := [d1, d2, d3, d4] }
  | _ => none }
def fnGhostAddingNewestAgainChangesNothingRow : OpenClaim := { program := "qxb6603426a", sum := "714f09b843f84cbccf155855f8bf6c0b2adcf779884984103063d21a40b25e04", func := "example.com/calmcache/calmcache/zzlaws_root_b1.FnGhostAddingNewestAgainChangesNothing", spec := "fnGhostAddingNewestAgainChangesNothing", apart := false }
def FnGhostAddingNewestAgainChangesNothingSaid : Prop := fnGhostAddingNewestAgainChangesNothingRow.holds Try.pinned (OpenSpec.ofChange fnGhostAddingNewestAgainChangesNothingSpec)

/-- ITS FALSE NEIGHBOUR: 'it returns false'. Refute it at one input. -/
def fnGhostAddingNewestAgainChangesNothingWrong : ChangeSpec := { name := "fnGhostAddingNewestAgainChangesNothing", fn := fun _ => fun
  | [d1, d2, d3, d4] => { results := [.lit (.bool false)], args := [d1, d2, d3, d4] }
  | _ => none }
def FnGhostAddingNewestAgainChangesNothingWrongFalsely : Prop := fnGhostAddingNewestAgainChangesNothingRow.holds Try.pinned (OpenSpec.ofChange fnGhostAddingNewestAgainChangesNothingWrong)

/-- 'zzlaws_root_b1.FnGhostForgetThenAddIsAdd': WHATEVER THE INPUT: true; the input reads as it did. -/
def fnGhostForgetThenAddIsAddSpec : ChangeSpec := { name := "fnGhostForgetThenAddIsAdd", fn := fun _ => fun
  | [d1, d2, d3, d4] => { results := [.lit (.bool true)], args := [d1, d2, d3, d4] }
  | _ => none }
def fnGhostForgetThenAddIsAddRow : OpenClaim := { program := "qxb6603426a", sum := "714f09b843f84cbccf155855f8bf6c0b2adcf779884984103063d21a40b25e04", func := "example.com/calmcache/calmcache/zzlaws_root_b1.FnGhostForgetThenAddIsAdd", spec := "fnGhostForgetThenAddIsAdd", apart := false }
def FnGhostForgetThenAddIsAddSaid : Prop := fnGhostForgetThenAddIsAddRow.holds Try.pinned (OpenSpec.ofChange fnGhostForgetThenAddIsAddSpec)

/-- ITS FALSE NEIGHBOUR: 'it returns false'. Refute it at one input. -/
def fnGhostForgetThenAddIsAddWrong : ChangeSpec := { name := "fnGhostForgetThenAddIsAdd", fn := fun _ => fun
  | [d1, d2, d3, d4] => { results := [.lit (.bool false)], args := [d1, d2, d3, d4] }
  | _ => none }
def FnGhostForgetThenAddIsAddWrongFalsely : Prop := fnGhostForgetThenAddIsAddRow.holds Try.pinned (OpenSpec.ofChange fnGhostForgetThenAddIsAddWrong)

end Rows
end Go.Proofs.Qxb6603426a
