/-
  No cell of these rows narrows 'for every input' (looked for: loops, veiled, ifaces, maps, wideKeys, modest, calm, conditions, laid).
  DERIVED. THE GIVEN ROWS OF THIS SEAT. 3 by the template 'for every input the law returns true; each argument reads behind the call as it read before'; 0 by the template 'total and deterministic' (their statements: Qxb6600570aTotals.lean).
  GIVEN WITH THE SEED: the statements are not yours to turn. If you find one false, say at which input.
  Laid BY PROGRAM, IN A SANDBOX (cutbox-rows.mjs): the forced cells as the released guide's own fill.sh prints them over the translation f4fcf530f642ce94… (all of the seat's roots in one cut). By AI agents, Wed Nov 11 2026. No macro, syntax, notation, axiom, sorry.
-/
import Derived.Test.Qxb6600570aChecked
import GoSem.Claim
import GoSem.ClaimJoined
import GoSem.ClaimMapViews
import Derived.JoinedTies
import Derived.KernelRfl
namespace Go.Proofs.Qxb6600570a
/- THE CELL 'sum', in the pinned program and in every row, IS THE sha256 OF THE DUMP (.gsa) THAT Qxb6600570aProg.lean LOADS. Nothing in Lean hashes anything: it is a label: what it is worth is what the hold of that sum in a sandbox is worth. -/
noncomputable def Try.pinned : Pinned := { name := "qxb6600570a", sum := "f4fcf530f642ce940d04adb9b7d6a659b6f9faa7a3d58e7f6c5f3a1899ebd037", checked := Try.checked }
namespace Rows
def none {H : Type} : Left H := { results := [], args := [] }

/-- 'zzlaws_internal_accounts_b1.FnPickIDMatchesModel': WHATEVER THE INPUT: true; the input reads as it did. -/
def fnPickIDMatchesModelSpec : ChangeSpec := { name := "fnPickIDMatchesModel", fn := fun _ => fun
  | [d1, d2, d3, d4, d5] => { results := [.lit (.bool true)], args := [d1, d2, d3, d4, d5] }
  | _ => none }
def fnPickIDMatchesModelRow : OpenClaim := { program := "qxb6600570a", sum := "f4fcf530f642ce940d04adb9b7d6a659b6f9faa7a3d58e7f6c5f3a1899ebd037", func := "example.com/lean-provision/lean-provision/zzlaws_internal_accounts_b1.FnPickIDMatchesModel", spec := "fnPickIDMatchesModel", apart := false }
def FnPickIDMatchesModelSaid : Prop := fnPickIDMatchesModelRow.holds Try.pinned (OpenSpec.ofChange fnPickIDMatchesModelSpec)

/-- ITS FALSE NEIGHBOUR: 'it returns false'. Refute it at one input. -/
def fnPickIDMatchesModelWrong : ChangeSpec := { name := "fnPickIDMatchesModel", fn := fun _ => fun
  | [d1, d2, d3, d4, d5] => { results := [.lit (.bool false)], args := [d1, d2, d3, d4, d5] }
  | _ => none }
def FnPickIDMatchesModelWrongFalsely : Prop := fnPickIDMatchesModelRow.holds Try.pinned (OpenSpec.ofChange fnPickIDMatchesModelWrong)

/-- 'zzlaws_internal_accounts_b1.FnPickIDScriptNeverReusesAndRefusesOnlyWhenFull': WHATEVER THE INPUT: true; the input reads as it did. -/
def fnPickIDScriptNeverReusesAndRefusesOnlyWhenFullSpec : ChangeSpec := { name := "fnPickIDScriptNeverReusesAndRefusesOnlyWhenFull", fn := fun _ => fun
  | [d1, d2, d3, d4, d5, d6] => { results := [.lit (.bool true)], args := [d1, d2, d3, d4, d5, d6] }
  | _ => none }
def fnPickIDScriptNeverReusesAndRefusesOnlyWhenFullRow : OpenClaim := { program := "qxb6600570a", sum := "f4fcf530f642ce940d04adb9b7d6a659b6f9faa7a3d58e7f6c5f3a1899ebd037", func := "example.com/lean-provision/lean-provision/zzlaws_internal_accounts_b1.FnPickIDScriptNeverReusesAndRefusesOnlyWhenFull", spec := "fnPickIDScriptNeverReusesAndRefusesOnlyWhenFull", apart := false }
def FnPickIDScriptNeverReusesAndRefusesOnlyWhenFullSaid : Prop := fnPickIDScriptNeverReusesAndRefusesOnlyWhenFullRow.holds Try.pinned (OpenSpec.ofChange fnPickIDScriptNeverReusesAndRefusesOnlyWhenFullSpec)

/-- ITS FALSE NEIGHBOUR: 'it returns false'. Refute it at one input. -/
def fnPickIDScriptNeverReusesAndRefusesOnlyWhenFullWrong : ChangeSpec := { name := "fnPickIDScriptNeverReusesAndRefusesOnlyWhenFull", fn := fun _ => fun
  | [d1, d2, d3, d4, d5, d6] => { results := [.lit (.bool false)], args := [d1, d2, d3, d4, d5, d6] }
  | _ => none }
def FnPickIDScriptNeverReusesAndRefusesOnlyWhenFullWrongFalsely : Prop := fnPickIDScriptNeverReusesAndRefusesOnlyWhenFullRow.holds Try.pinned (OpenSpec.ofChange fnPickIDScriptNeverReusesAndRefusesOnlyWhenFullWrong)

/-- 'zzlaws_internal_accounts_b1.FnPickIDSystemMirrorsOrdinary': WHATEVER THE INPUT: true; the input reads as it did. -/
def fnPickIDSystemMirrorsOrdinarySpec : ChangeSpec := { name := "fnPickIDSystemMirrorsOrdinary", fn := fun _ => fun
  | [d1, d2, d3, d4] => { results := [.lit (.bool true)], args := [d1, d2, d3, d4] }
  | _ => none }
def fnPickIDSystemMirrorsOrdinaryRow : OpenClaim := { program := "qxb6600570a", sum := "f4fcf530f642ce940d04adb9b7d6a659b6f9faa7a3d58e7f6c5f3a1899ebd037", func := "example.com/lean-provision/lean-provision/zzlaws_internal_accounts_b1.FnPickIDSystemMirrorsOrdinary", spec := "fnPickIDSystemMirrorsOrdinary", apart := false }
def FnPickIDSystemMirrorsOrdinarySaid : Prop := fnPickIDSystemMirrorsOrdinaryRow.holds Try.pinned (OpenSpec.ofChange fnPickIDSystemMirrorsOrdinarySpec)

/-- ITS FALSE NEIGHBOUR: 'it returns false'. Refute it at one input. -/
def fnPickIDSystemMirrorsOrdinaryWrong : ChangeSpec := { name := "fnPickIDSystemMirrorsOrdinary", fn := fun _ => fun
  | [d1, d2, d3, d4] => { results := [.lit (.bool false)], args := [d1, d2, d3, d4] }
  | _ => none }
def FnPickIDSystemMirrorsOrdinaryWrongFalsely : Prop := fnPickIDSystemMirrorsOrdinaryRow.holds Try.pinned (OpenSpec.ofChange fnPickIDSystemMirrorsOrdinaryWrong)

end Rows
end Go.Proofs.Qxb6600570a
