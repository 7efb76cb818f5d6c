/-
  No cell of these rows narrows 'for every input' (looked for: loops, veiled, ifaces, maps, wideKeys, modest, calm, conditions, laid).
  DERIVED. THE GIVEN ROWS OF THIS SEAT. 5 by the template 'for every input the law returns true; each argument reads behind the call as it read before'; 0 by the template 'total and deterministic' (their statements: Qxb6603886aTotals.lean).
  GIVEN WITH THE SEED: the statements are not yours to turn. If you find one false, say at which input.
  Laid BY PROGRAM, IN A SANDBOX (cutbox-rows.mjs): the forced cells as the released guide's own fill.sh prints them over the translation c86fdd830e07597c… (all of the seat's roots in one cut). By AI agents, Wed Nov 11 2026. No macro, syntax, notation, axiom, sorry.
-/
import Derived.Test.Qxb6603886aChecked
import GoSem.Claim
import GoSem.ClaimJoined
import GoSem.ClaimMapViews
import Derived.JoinedTies
import Derived.KernelRfl
namespace Go.Proofs.Qxb6603886a
/- THE CELL 'sum', in the pinned program and in every row, IS THE sha256 OF THE DUMP (.gsa) THAT Qxb6603886aProg.lean LOADS. Nothing in Lean hashes anything: it is a label: what it is worth is what the hold of that sum in a sandbox is worth. -/
noncomputable def Try.pinned : Pinned := { name := "qxb6603886a", sum := "c86fdd830e07597c70e186608378dbb26df952f97c1f6fe41de7ed2d836f9d5a", checked := Try.checked }
namespace Rows
def none {H : Type} : Left H := { results := [], args := [] }

/-- 'zzlaws_pkg_application_b1.FnRepeatEndIsLongestWholeRepetition': WHATEVER THE INPUT: true; the input reads as it did. -/
def fnRepeatEndIsLongestWholeRepetitionSpec : ChangeSpec := { name := "fnRepeatEndIsLongestWholeRepetition", fn := fun _ => fun
  | [d1, d2, d3] => { results := [.lit (.bool true)], args := [d1, d2, d3] }
  | _ => none }
def fnRepeatEndIsLongestWholeRepetitionRow : OpenClaim := { program := "qxb6603886a", sum := "c86fdd830e07597c70e186608378dbb26df952f97c1f6fe41de7ed2d836f9d5a", func := "example.com/palisade/palisade/zzlaws_pkg_application_b1.FnRepeatEndIsLongestWholeRepetition", spec := "fnRepeatEndIsLongestWholeRepetition", apart := false }
def FnRepeatEndIsLongestWholeRepetitionSaid : Prop := fnRepeatEndIsLongestWholeRepetitionRow.holds Try.pinned (OpenSpec.ofChange fnRepeatEndIsLongestWholeRepetitionSpec)

/-- ITS FALSE NEIGHBOUR: 'it returns false'. Refute it at one input. -/
def fnRepeatEndIsLongestWholeRepetitionWrong : ChangeSpec := { name := "fnRepeatEndIsLongestWholeRepetition", fn := fun _ => fun
  | [d1, d2, d3] => { results := [.lit (.bool false)], args := [d1, d2, d3] }
  | _ => none }
def FnRepeatEndIsLongestWholeRepetitionWrongFalsely : Prop := fnRepeatEndIsLongestWholeRepetitionRow.holds Try.pinned (OpenSpec.ofChange fnRepeatEndIsLongestWholeRepetitionWrong)

/-- 'zzlaws_pkg_application_b1.FnRepeatEndStopsAtItsOwnEnd': WHATEVER THE INPUT: true; the input reads as it did. -/
def fnRepeatEndStopsAtItsOwnEndSpec : ChangeSpec := { name := "fnRepeatEndStopsAtItsOwnEnd", fn := fun _ => fun
  | [d1, d2, d3] => { results := [.lit (.bool true)], args := [d1, d2, d3] }
  | _ => none }
def fnRepeatEndStopsAtItsOwnEndRow : OpenClaim := { program := "qxb6603886a", sum := "c86fdd830e07597c70e186608378dbb26df952f97c1f6fe41de7ed2d836f9d5a", func := "example.com/palisade/palisade/zzlaws_pkg_application_b1.FnRepeatEndStopsAtItsOwnEnd", spec := "fnRepeatEndStopsAtItsOwnEnd", apart := false }
def FnRepeatEndStopsAtItsOwnEndSaid : Prop := fnRepeatEndStopsAtItsOwnEndRow.holds Try.pinned (OpenSpec.ofChange fnRepeatEndStopsAtItsOwnEndSpec)

/-- ITS FALSE NEIGHBOUR: 'it returns false'. Refute it at one input. -/
def fnRepeatEndStopsAtItsOwnEndWrong : ChangeSpec := { name := "fnRepeatEndStopsAtItsOwnEnd", fn := fun _ => fun
  | [d1, d2, d3] => { results := [.lit (.bool false)], args := [d1, d2, d3] }
  | _ => none }
def FnRepeatEndStopsAtItsOwnEndWrongFalsely : Prop := fnRepeatEndStopsAtItsOwnEndRow.holds Try.pinned (OpenSpec.ofChange fnRepeatEndStopsAtItsOwnEndWrong)

/-- 'zzlaws_pkg_application_b1.FnResolvesAsIsMatchesSegmentModel': WHATEVER THE INPUT: true; the input reads as it did. -/
def fnResolvesAsIsMatchesSegmentModelSpec : ChangeSpec := { name := "fnResolvesAsIsMatchesSegmentModel", fn := fun _ => fun
  | [d] => { results := [.lit (.bool true)], args := [d] }
  | _ => none }
def fnResolvesAsIsMatchesSegmentModelRow : OpenClaim := { program := "qxb6603886a", sum := "c86fdd830e07597c70e186608378dbb26df952f97c1f6fe41de7ed2d836f9d5a", func := "example.com/palisade/palisade/zzlaws_pkg_application_b1.FnResolvesAsIsMatchesSegmentModel", spec := "fnResolvesAsIsMatchesSegmentModel", apart := false }
def FnResolvesAsIsMatchesSegmentModelSaid : Prop := fnResolvesAsIsMatchesSegmentModelRow.holds Try.pinned (OpenSpec.ofChange fnResolvesAsIsMatchesSegmentModelSpec)

/-- ITS FALSE NEIGHBOUR: 'it returns false'. Refute it at one input. -/
def fnResolvesAsIsMatchesSegmentModelWrong : ChangeSpec := { name := "fnResolvesAsIsMatchesSegmentModel", fn := fun _ => fun
  | [d] => { results := [.lit (.bool false)], args := [d] }
  | _ => none }
def FnResolvesAsIsMatchesSegmentModelWrongFalsely : Prop := fnResolvesAsIsMatchesSegmentModelRow.holds Try.pinned (OpenSpec.ofChange fnResolvesAsIsMatchesSegmentModelWrong)

/-- 'zzlaws_pkg_application_b1.FnNextKeptMatchesLinearScan': WHATEVER THE INPUT: true; the input reads as it did. -/
def fnNextKeptMatchesLinearScanSpec : ChangeSpec := { name := "fnNextKeptMatchesLinearScan", fn := fun _ => fun
  | [d1, d2, d3, d4] => { results := [.lit (.bool true)], args := [d1, d2, d3, d4] }
  | _ => none }
def fnNextKeptMatchesLinearScanRow : OpenClaim := { program := "qxb6603886a", sum := "c86fdd830e07597c70e186608378dbb26df952f97c1f6fe41de7ed2d836f9d5a", func := "example.com/palisade/palisade/zzlaws_pkg_application_b1.FnNextKeptMatchesLinearScan", spec := "fnNextKeptMatchesLinearScan", apart := false }
def FnNextKeptMatchesLinearScanSaid : Prop := fnNextKeptMatchesLinearScanRow.holds Try.pinned (OpenSpec.ofChange fnNextKeptMatchesLinearScanSpec)

/-- ITS FALSE NEIGHBOUR: 'it returns false'. Refute it at one input. -/
def fnNextKeptMatchesLinearScanWrong : ChangeSpec := { name := "fnNextKeptMatchesLinearScan", fn := fun _ => fun
  | [d1, d2, d3, d4] => { results := [.lit (.bool false)], args := [d1, d2, d3, d4] }
  | _ => none }
def FnNextKeptMatchesLinearScanWrongFalsely : Prop := fnNextKeptMatchesLinearScanRow.holds Try.pinned (OpenSpec.ofChange fnNextKeptMatchesLinearScanWrong)

/-- 'zzlaws_pkg_application_b1.FnNextKeptEnumeratesKeptRuns': WHATEVER THE INPUT: true; the input reads as it did. -/
def fnNextKeptEnumeratesKeptRunsSpec : ChangeSpec := { name := "fnNextKeptEnumeratesKeptRuns", fn := fun _ => fun
  | [d1, d2, d3] => { results := [.lit (.bool true)], args := [d1, d2, d3] }
  | _ => none }
def fnNextKeptEnumeratesKeptRunsRow : OpenClaim := { program := "qxb6603886a", sum := "c86fdd830e07597c70e186608378dbb26df952f97c1f6fe41de7ed2d836f9d5a", func := "example.com/palisade/palisade/zzlaws_pkg_application_b1.FnNextKeptEnumeratesKeptRuns", spec := "fnNextKeptEnumeratesKeptRuns", apart := false }
def FnNextKeptEnumeratesKeptRunsSaid : Prop := fnNextKeptEnumeratesKeptRunsRow.holds Try.pinned (OpenSpec.ofChange fnNextKeptEnumeratesKeptRunsSpec)

/-- ITS FALSE NEIGHBOUR: 'it returns false'. Refute it at one input. -/
def fnNextKeptEnumeratesKeptRunsWrong : ChangeSpec := { name := "fnNextKeptEnumeratesKeptRuns", fn := fun _ => fun
  | [d1, d2, d3] => { results := [.lit (.bool false)], args := [d1, d2, d3] }
  | _ => none }
def FnNextKeptEnumeratesKeptRunsWrongFalsely : Prop := fnNextKeptEnumeratesKeptRunsRow.holds Try.pinned (OpenSpec.ofChange fnNextKeptEnumeratesKeptRunsWrong)

end Rows
end Go.Proofs.Qxb6603886a
