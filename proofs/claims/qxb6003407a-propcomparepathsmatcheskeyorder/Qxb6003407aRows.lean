/-
  No cell of these rows narrows 'for every input' (looked for: loops, veiled, ifaces, maps, wideKeys, modest, calm, conditions, laid).
  DERIVED. THE GIVEN ROWS OF THIS SEAT. 3 by the template 'for every input the law returns true; each argument reads behind the call as it read before'; 0 by the template 'total and deterministic' (their statements: Qxb6003407aTotals.lean).
  GIVEN WITH THE SEED: the statements are not yours to turn. If you find one false, say at which input.
  Laid BY PROGRAM, IN A SANDBOX (cutbox-rows.mjs): the forced cells as the released guide's own fill.sh prints them over the translation d0b6050ea5b7d812… (all of the seat's roots in one cut). By AI agents, Wed Nov 11 2026. No macro, syntax, notation, axiom, sorry.
-/
import Derived.Test.Qxb6003407aChecked
import GoSem.Claim
import GoSem.ClaimJoined
import GoSem.ClaimMapViews
import Derived.JoinedTies
import Derived.KernelRfl
namespace Go.Proofs.Qxb6003407a
/- THE CELL 'sum', in the pinned program and in every row, IS THE sha256 OF THE DUMP (.gsa) THAT Qxb6003407aProg.lean LOADS. Nothing in Lean hashes anything: it is a label: what it is worth is what the hold of that sum in a sandbox is worth. -/
noncomputable def Try.pinned : Pinned := { name := "qxb6003407a", sum := "d0b6050ea5b7d812aa4573ae11a01754cdb2988f3f00327185e802dcb607d280", checked := Try.checked }
namespace Rows
def none {H : Type} : Left H := { results := [], args := [] }

/-- 'zzlaws_root_c2.PropPathOpsMatchNibbleLists': WHATEVER THE INPUT: true; the input reads as it did. -/
def propPathOpsMatchNibbleListsSpec : ChangeSpec := { name := "propPathOpsMatchNibbleLists", fn := fun _ => fun
  | [d1, d2, d3, d4, d5, d6] => { results := [.lit (.bool true)], args := [d1, d2, d3, d4, d5, d6] }
  | _ => none }
def propPathOpsMatchNibbleListsRow : OpenClaim := { program := "qxb6003407a", sum := "d0b6050ea5b7d812aa4573ae11a01754cdb2988f3f00327185e802dcb607d280", func := "example.com/proofstore/proofstore/zzlaws_root_c2.PropPathOpsMatchNibbleLists", spec := "propPathOpsMatchNibbleLists", apart := false }
def PropPathOpsMatchNibbleListsSaid : Prop := propPathOpsMatchNibbleListsRow.holds Try.pinned (OpenSpec.ofChange propPathOpsMatchNibbleListsSpec)

/-- ITS FALSE NEIGHBOUR: 'it returns false'. Refute it at one input. -/
def propPathOpsMatchNibbleListsWrong : ChangeSpec := { name := "propPathOpsMatchNibbleLists", fn := fun _ => fun
  | [d1, d2, d3, d4, d5, d6] => { results := [.lit (.bool false)], args := [d1, d2, d3, d4, d5, d6] }
  | _ => none }
def PropPathOpsMatchNibbleListsWrongFalsely : Prop := propPathOpsMatchNibbleListsRow.holds Try.pinned (OpenSpec.ofChange propPathOpsMatchNibbleListsWrong)

/-- 'zzlaws_root_c2.PropComparePathsMatchesKeyOrder': WHATEVER THE INPUT: true; the input reads as it did. -/
def propComparePathsMatchesKeyOrderSpec : ChangeSpec := { name := "propComparePathsMatchesKeyOrder", fn := fun _ => fun
  | [d1, d2, d3, d4, d5, d6, d7, d8] => { results := [.lit (.bool true)], args := [d1, d2, d3, d4, d5, d6, d7, d8] }
  | _ => none }
def propComparePathsMatchesKeyOrderRow : OpenClaim := { program := "qxb6003407a", sum := "d0b6050ea5b7d812aa4573ae11a01754cdb2988f3f00327185e802dcb607d280", func := "example.com/proofstore/proofstore/zzlaws_root_c2.PropComparePathsMatchesKeyOrder", spec := "propComparePathsMatchesKeyOrder", apart := false }
def PropComparePathsMatchesKeyOrderSaid : Prop := propComparePathsMatchesKeyOrderRow.holds Try.pinned (OpenSpec.ofChange propComparePathsMatchesKeyOrderSpec)

/-- ITS FALSE NEIGHBOUR: 'it returns false'. Refute it at one input. -/
def propComparePathsMatchesKeyOrderWrong : ChangeSpec := { name := "propComparePathsMatchesKeyOrder", fn := fun _ => fun
  | [d1, d2, d3, d4, d5, d6, d7, d8] => { results := [.lit (.bool false)], args := [d1, d2, d3, d4, d5, d6, d7, d8] }
  | _ => none }
def PropComparePathsMatchesKeyOrderWrongFalsely : Prop := propComparePathsMatchesKeyOrderRow.holds Try.pinned (OpenSpec.ofChange propComparePathsMatchesKeyOrderWrong)

/-- 'zzlaws_root_c2.PropNodeIDMatchesFormat': WHATEVER THE INPUT: true; the input reads as it did. -/
def propNodeIDMatchesFormatSpec : ChangeSpec := { name := "propNodeIDMatchesFormat", fn := fun _ => fun
  | [d1, d2, d3, d4, d5, d6, d7] => { results := [.lit (.bool true)], args := [d1, d2, d3, d4, d5, d6, d7] }
  | _ => none }
def propNodeIDMatchesFormatRow : OpenClaim := { program := "qxb6003407a", sum := "d0b6050ea5b7d812aa4573ae11a01754cdb2988f3f00327185e802dcb607d280", func := "example.com/proofstore/proofstore/zzlaws_root_c2.PropNodeIDMatchesFormat", spec := "propNodeIDMatchesFormat", unfollowed := true, recurses := true, apart := false }
def PropNodeIDMatchesFormatSaid : Prop := propNodeIDMatchesFormatRow.holds Try.pinned (OpenSpec.ofChange propNodeIDMatchesFormatSpec)

/-- ITS FALSE NEIGHBOUR: 'it returns false'. Refute it at one input. -/
def propNodeIDMatchesFormatWrong : ChangeSpec := { name := "propNodeIDMatchesFormat", fn := fun _ => fun
  | [d1, d2, d3, d4, d5, d6, d7] => { results := [.lit (.bool false)], args := [d1, d2, d3, d4, d5, d6, d7] }
  | _ => none }
def PropNodeIDMatchesFormatWrongFalsely : Prop := propNodeIDMatchesFormatRow.holds Try.pinned (OpenSpec.ofChange propNodeIDMatchesFormatWrong)

end Rows
end Go.Proofs.Qxb6003407a
