/-
  No cell of these rows narrows 'for every input' (looked for: loops, veiled, ifaces, maps, wideKeys, modest, calm, conditions, laid).
  DERIVED. THE GIVEN ROWS OF THIS SEAT. 4 by the template 'for every input the law returns true; each argument reads behind the call as it read before'; 0 by the template 'total and deterministic' (their statements: Qxb6600588aTotals.lean).
  GIVEN WITH THE SEED: the statements are not yours to turn. If you find one false, say at which input.
  Laid BY PROGRAM, IN A SANDBOX (cutbox-rows.mjs): the forced cells as the released guide's own fill.sh prints them over the translation 50bf9d406512bf07… (all of the seat's roots in one cut). By AI agents, Wed Nov 11 2026. No macro, syntax, notation, axiom, sorry.
-/
import Derived.Test.Qxb6600588aChecked
import GoSem.Claim
import GoSem.ClaimJoined
import GoSem.ClaimMapViews
import Derived.JoinedTies
import Derived.KernelRfl
namespace Go.Proofs.Qxb6600588a
/- THE CELL 'sum', in the pinned program and in every row, IS THE sha256 OF THE DUMP (.gsa) THAT Qxb6600588aProg.lean LOADS. Nothing in Lean hashes anything: it is a label: what it is worth is what the hold of that sum in a sandbox is worth. -/
noncomputable def Try.pinned : Pinned := { name := "qxb6600588a", sum := "50bf9d406512bf07ecb7d04ee046e092cf5671b15b75a32202a2680dc6970cca", checked := Try.checked }
namespace Rows
def none {H : Type} : Left H := { results := [], args := [] }

/-- 'zzlaws_root_b1.FnValueEndFindsTheEndOfEveryValue': WHATEVER THE INPUT: true; the input reads as it did. -/
def fnValueEndFindsTheEndOfEveryValueSpec : ChangeSpec := { name := "fnValueEndFindsTheEndOfEveryValue", fn := fun _ => fun
  | [d1, d2, d3, d4, d5, d6] => { results := [.lit (.bool true)], args := [d1, d2, d3, d4, d5, d6] }
  | _ => none }
def fnValueEndFindsTheEndOfEveryValueRow : OpenClaim := { program := "qxb6600588a", sum := "50bf9d406512bf07ecb7d04ee046e092cf5671b15b75a32202a2680dc6970cca", func := "example.com/gatelines/gatelines/zzlaws_root_b1.FnValueEndFindsTheEndOfEveryValue", spec := "fnValueEndFindsTheEndOfEveryValue", inPlace := ["internal/bytealg.IndexByteString"], recurses := true, apart := false }
def FnValueEndFindsTheEndOfEveryValueSaid : Prop := fnValueEndFindsTheEndOfEveryValueRow.holds Try.pinned (OpenSpec.ofChange fnValueEndFindsTheEndOfEveryValueSpec)

/-- ITS FALSE NEIGHBOUR: 'it returns false'. Refute it at one input. -/
def fnValueEndFindsTheEndOfEveryValueWrong : ChangeSpec := { name := "fnValueEndFindsTheEndOfEveryValue", fn := fun _ => fun
  | [d1, d2, d3, d4, d5, d6] => { results := [.lit (.bool false)], args := [d1, d2, d3, d4, d5, d6] }
  | _ => none }
def FnValueEndFindsTheEndOfEveryValueWrongFalsely : Prop := fnValueEndFindsTheEndOfEveryValueRow.holds Try.pinned (OpenSpec.ofChange fnValueEndFindsTheEndOfEveryValueWrong)

/-- 'zzlaws_root_b1.FnValueEndClosedValueIgnoresWhatFollows': WHATEVER THE INPUT: true; the input reads as it did. -/
def fnValueEndClosedValueIgnoresWhatFollowsSpec : ChangeSpec := { name := "fnValueEndClosedValueIgnoresWhatFollows", fn := fun _ => fun
  | [d1, d2, d3, d4] => { results := [.lit (.bool true)], args := [d1, d2, d3, d4] }
  | _ => none }
def fnValueEndClosedValueIgnoresWhatFollowsRow : OpenClaim := { program := "qxb6600588a", sum := "50bf9d406512bf07ecb7d04ee046e092cf5671b15b75a32202a2680dc6970cca", func := "example.com/gatelines/gatelines/zzlaws_root_b1.FnValueEndClosedValueIgnoresWhatFollows", spec := "fnValueEndClosedValueIgnoresWhatFollows", inPlace := ["internal/bytealg.IndexByteString"], apart := false }
def FnValueEndClosedValueIgnoresWhatFollowsSaid : Prop := fnValueEndClosedValueIgnoresWhatFollowsRow.holds Try.pinned (OpenSpec.ofChange fnValueEndClosedValueIgnoresWhatFollowsSpec)

/-- ITS FALSE NEIGHBOUR: 'it returns false'. Refute it at one input. -/
def fnValueEndClosedValueIgnoresWhatFollowsWrong : ChangeSpec := { name := "fnValueEndClosedValueIgnoresWhatFollows", fn := fun _ => fun
  | [d1, d2, d3, d4] => { results := [.lit (.bool false)], args := [d1, d2, d3, d4] }
  | _ => none }
def FnValueEndClosedValueIgnoresWhatFollowsWrongFalsely : Prop := fnValueEndClosedValueIgnoresWhatFollowsRow.holds Try.pinned (OpenSpec.ofChange fnValueEndClosedValueIgnoresWhatFollowsWrong)

/-- 'zzlaws_root_b1.FnJsonKindNamesTheKindOfEveryValue': WHATEVER THE INPUT: true; the input reads as it did. -/
def fnJsonKindNamesTheKindOfEveryValueSpec : ChangeSpec := { name := "fnJsonKindNamesTheKindOfEveryValue", fn := fun _ => fun
  | [d1, d2, d3] => { results := [.lit (.bool true)], args := [d1, d2, d3] }
  | _ => none }
def fnJsonKindNamesTheKindOfEveryValueRow : OpenClaim := { program := "qxb6600588a", sum := "50bf9d406512bf07ecb7d04ee046e092cf5671b15b75a32202a2680dc6970cca", func := "example.com/gatelines/gatelines/zzlaws_root_b1.FnJsonKindNamesTheKindOfEveryValue", spec := "fnJsonKindNamesTheKindOfEveryValue", recurses := true, apart := false }
def FnJsonKindNamesTheKindOfEveryValueSaid : Prop := fnJsonKindNamesTheKindOfEveryValueRow.holds Try.pinned (OpenSpec.ofChange fnJsonKindNamesTheKindOfEveryValueSpec)

/-- ITS FALSE NEIGHBOUR: 'it returns false'. Refute it at one input. -/
def fnJsonKindNamesTheKindOfEveryValueWrong : ChangeSpec := { name := "fnJsonKindNamesTheKindOfEveryValue", fn := fun _ => fun
  | [d1, d2, d3] => { results := [.lit (.bool false)], args := [d1, d2, d3] }
  | _ => none }
def FnJsonKindNamesTheKindOfEveryValueWrongFalsely : Prop := fnJsonKindNamesTheKindOfEveryValueRow.holds Try.pinned (OpenSpec.ofChange fnJsonKindNamesTheKindOfEveryValueWrong)

/-- 'zzlaws_root_b1.FnKeyOfKeysTellLinesApart': WHATEVER THE INPUT: true; the input reads as it did. -/
def fnKeyOfKeysTellLinesApartSpec : ChangeSpec := { name := "fnKeyOfKeysTellLinesApart", fn := fun _ => fun
  | [d1, d2, d3, d4, d5, d6, d7, d8, d9, d10] => { results := [.lit (.bool true)], args := [d1, d2, d3, d4, d5, d6, d7, d8, d9, d10] }
  | _ => none }
def fnKeyOfKeysTellLinesApartRow : OpenClaim := { program := "qxb6600588a", sum := "50bf9d406512bf07ecb7d04ee046e092cf5671b15b75a32202a2680dc6970cca", func := "example.com/gatelines/gatelines/zzlaws_root_b1.FnKeyOfKeysTellLinesApart", spec := "fnKeyOfKeysTellLinesApart", apart := false }
def FnKeyOfKeysTellLinesApartSaid : Prop := fnKeyOfKeysTellLinesApartRow.holds Try.pinned (OpenSpec.ofChange fnKeyOfKeysTellLinesApartSpec)

/-- ITS FALSE NEIGHBOUR: 'it returns false'. Refute it at one input. -/
def fnKeyOfKeysTellLinesApartWrong : ChangeSpec := { name := "fnKeyOfKeysTellLinesApart", fn := fun _ => fun
  | [d1, d2, d3, d4, d5, d6, d7, d8, d9, d10] => { results := [.lit (.bool false)], args := [d1, d2, d3, d4, d5, d6, d7, d8, d9, d10] }
  | _ => none }
def FnKeyOfKeysTellLinesApartWrongFalsely : Prop := fnKeyOfKeysTellLinesApartRow.holds Try.pinned (OpenSpec.ofChange fnKeyOfKeysTellLinesApartWrong)

end Rows
end Go.Proofs.Qxb6600588a
