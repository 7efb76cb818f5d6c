/-
  No cell of these rows narrows 'for every input' (looked for: loops, veiled, ifaces, maps, wideKeys, modest, calm, conditions, laid).
  DERIVED. THE GIVEN ROWS OF THIS SEAT. 2 by the template 'for every input the law returns true; each argument reads behind the call as it read before'; 0 by the template 'total and deterministic' (their statements: Qxb6604228aTotals.lean).
  GIVEN WITH THE SEED: the statements are not yours to turn. If you find one false, say at which input.
  Laid BY PROGRAM, IN A SANDBOX (cutbox-rows.mjs): the forced cells as the released guide's own fill.sh prints them over the translation 6532fa338d4f8436… (all of the seat's roots in one cut). By AI agents, Wed Nov 11 2026. No macro, syntax, notation, axiom, sorry.
-/
import Derived.Test.Qxb6604228aChecked
import GoSem.Claim
import GoSem.ClaimJoined
import GoSem.ClaimMapViews
import Derived.JoinedTies
import Derived.KernelRfl
namespace Go.Proofs.Qxb6604228a
/- THE CELL 'sum', in the pinned program and in every row, IS THE sha256 OF THE DUMP (.gsa) THAT Qxb6604228aProg.lean LOADS. Nothing in Lean hashes anything: it is a label: what it is worth is what the hold of that sum in a sandbox is worth. -/
noncomputable def Try.pinned : Pinned := { name := "qxb6604228a", sum := "6532fa338d4f843681a090679013a82a55f96c74ea1dd90932675f29005c8711", checked := Try.checked }
namespace Rows
def none {H : Type} : Left H := { results := [], args := [] }

/-- 'zzlaws_internal_engine_b1.FnMatchSyntaxRefusesOnlyNamedClassOpeners': WHATEVER THE INPUT: true; the input reads as it did. -/
def fnMatchSyntaxRefusesOnlyNamedClassOpenersSpec : ChangeSpec := { name := "fnMatchSyntaxRefusesOnlyNamedClassOpeners", fn := fun _ => fun
  | [d] => { results := [.lit (.bool true)], args := [d] }
  | _ => none }
def fnMatchSyntaxRefusesOnlyNamedClassOpenersRow : OpenClaim := { program := "qxb6604228a", sum := "6532fa338d4f843681a090679013a82a55f96c74ea1dd90932675f29005c8711", func := "example.com/offshoot/offshoot/zzlaws_internal_engine_b1.FnMatchSyntaxRefusesOnlyNamedClassOpeners", spec := "fnMatchSyntaxRefusesOnlyNamedClassOpeners", apart := false }
def FnMatchSyntaxRefusesOnlyNamedClassOpenersSaid : Prop := fnMatchSyntaxRefusesOnlyNamedClassOpenersRow.holds Try.pinned (OpenSpec.ofChange fnMatchSyntaxRefusesOnlyNamedClassOpenersSpec)

/-- ITS FALSE NEIGHBOUR: 'it returns false'. Refute it at one input. -/
def fnMatchSyntaxRefusesOnlyNamedClassOpenersWrong : ChangeSpec := { name := "fnMatchSyntaxRefusesOnlyNamedClassOpeners", fn := fun _ => fun
  | [d] => { results := [.lit (.bool false)], args := [d] }
  | _ => none }
def FnMatchSyntaxRefusesOnlyNamedClassOpenersWrongFalsely : Prop := fnMatchSyntaxRefusesOnlyNamedClassOpenersRow.holds Try.pinned (OpenSpec.ofChange fnMatchSyntaxRefusesOnlyNamedClassOpenersWrong)

/-- 'zzlaws_internal_engine_b1.FnCopiedRefAgreesWithComponentModel': WHATEVER THE INPUT: true; the input reads as it did. -/
def fnCopiedRefAgreesWithComponentModelSpec : ChangeSpec := { name := "fnCopiedRefAgreesWithComponentModel", fn := fun _ => fun
  | [d] => { results := [.lit (.bool true)], args := [d] }
  | _ => none }
def fnCopiedRefAgreesWithComponentModelRow : OpenClaim := { program := "qxb6604228a", sum := "6532fa338d4f843681a090679013a82a55f96c74ea1dd90932675f29005c8711", func := "example.com/offshoot/offshoot/zzlaws_internal_engine_b1.FnCopiedRefAgreesWithComponentModel", spec := "fnCopiedRefAgreesWithComponentModel", apart := false }
def FnCopiedRefAgreesWithComponentModelSaid : Prop := fnCopiedRefAgreesWithComponentModelRow.holds Try.pinned (OpenSpec.ofChange fnCopiedRefAgreesWithComponentModelSpec)

/-- ITS FALSE NEIGHBOUR: 'it returns false'. Refute it at one input. -/
def fnCopiedRefAgreesWithComponentModelWrong : ChangeSpec := { name := "fnCopiedRefAgreesWithComponentModel", fn := fun _ => fun
  | [d] => { results := [.lit (.bool false)], args := [d] }
  | _ => none }
def FnCopiedRefAgreesWithComponentModelWrongFalsely : Prop := fnCopiedRefAgreesWithComponentModelRow.holds Try.pinned (OpenSpec.ofChange fnCopiedRefAgreesWithComponentModelWrong)

end Rows
end Go.Proofs.Qxb6604228a
