/-
  No cell of these rows narrows 'for every input' (looked for: loops, veiled, ifaces, maps, wideKeys, modest, calm, conditions, laid).
  DERIVED. THE GIVEN ROWS OF THIS SEAT. 7 by the template 'for every input the law returns true; each argument reads behind the call as it read before'; 0 by the template 'total and deterministic' (their statements: Qxb6600544aTotals.lean).
  GIVEN WITH THE SEED: the statements are not yours to turn. If you find one false, say at which input.
  Laid BY PROGRAM, IN A SANDBOX (cutbox-rows.mjs): the forced cells as the released guide's own fill.sh prints them over the translation cb67396e7ca7bdcf… (all of the seat's roots in one cut). By AI agents, Wed Nov 11 2026. No macro, syntax, notation, axiom, sorry.
-/
import Derived.Test.Qxb6600544aChecked
import GoSem.Claim
import GoSem.ClaimJoined
import GoSem.ClaimMapViews
import Derived.JoinedTies
import Derived.KernelRfl
namespace Go.Proofs.Qxb6600544a
/- THE CELL 'sum', in the pinned program and in every row, IS THE sha256 OF THE DUMP (.gsa) THAT Qxb6600544aProg.lean LOADS. Nothing in Lean hashes anything: it is a label: what it is worth is what the hold of that sum in a sandbox is worth. -/
noncomputable def Try.pinned : Pinned := { name := "qxb6600544a", sum := "cb67396e7ca7bdcf87cec866e3719a4e533ee9b3568b4b5f48ba27e830291b64", checked := Try.checked }
namespace Rows
def none {H : Type} : Left H := { results := [], args := [] }

/-- 'zzlaws_internal_config_b1.FnIsNameExact': WHATEVER THE INPUT: true; the input reads as it did. -/
def fnIsNameExactSpec : ChangeSpec := { name := "fnIsNameExact", fn := fun _ => fun
  | [d] => { results := [.lit (.bool true)], args := [d] }
  | _ => none }
def fnIsNameExactRow : OpenClaim := { program := "qxb6600544a", sum := "cb67396e7ca7bdcf87cec866e3719a4e533ee9b3568b4b5f48ba27e830291b64", func := "example.com/principal/principal/zzlaws_internal_config_b1.FnIsNameExact", spec := "fnIsNameExact", apart := false }
def FnIsNameExactSaid : Prop := fnIsNameExactRow.holds Try.pinned (OpenSpec.ofChange fnIsNameExactSpec)

/-- ITS FALSE NEIGHBOUR: 'it returns false'. Refute it at one input. -/
def fnIsNameExactWrong : ChangeSpec := { name := "fnIsNameExact", fn := fun _ => fun
  | [d] => { results := [.lit (.bool false)], args := [d] }
  | _ => none }
def FnIsNameExactWrongFalsely : Prop := fnIsNameExactRow.holds Try.pinned (OpenSpec.ofChange fnIsNameExactWrong)

/-- 'zzlaws_internal_config_b1.FnIsNameConcat': WHATEVER THE INPUT: true; the input reads as it did. -/
def fnIsNameConcatSpec : ChangeSpec := { name := "fnIsNameConcat", fn := fun _ => fun
  | [d1, d2] => { results := [.lit (.bool true)], args := [d1, d2] }
  | _ => none }
def fnIsNameConcatRow : OpenClaim := { program := "qxb6600544a", sum := "cb67396e7ca7bdcf87cec866e3719a4e533ee9b3568b4b5f48ba27e830291b64", func := "example.com/principal/principal/zzlaws_internal_config_b1.FnIsNameConcat", spec := "fnIsNameConcat", apart := false }
def FnIsNameConcatSaid : Prop := fnIsNameConcatRow.holds Try.pinned (OpenSpec.ofChange fnIsNameConcatSpec)

/-- ITS FALSE NEIGHBOUR: 'it returns false'. Refute it at one input. -/
def fnIsNameConcatWrong : ChangeSpec := { name := "fnIsNameConcat", fn := fun _ => fun
  | [d1, d2] => { results := [.lit (.bool false)], args := [d1, d2] }
  | _ => none }
def FnIsNameConcatWrongFalsely : Prop := fnIsNameConcatRow.holds Try.pinned (OpenSpec.ofChange fnIsNameConcatWrong)

/-- 'zzlaws_internal_config_b1.FnUncommentSpec': WHATEVER THE INPUT: true; the input reads as it did. -/
def fnUncommentSpecSpec : ChangeSpec := { name := "fnUncommentSpec", fn := fun _ => fun
  | [d] => { results := [.lit (.bool true)], args := [d] }
  | _ => none }
def fnUncommentSpecRow : OpenClaim := { program := "qxb6600544a", sum := "cb67396e7ca7bdcf87cec866e3719a4e533ee9b3568b4b5f48ba27e830291b64", func := "example.com/principal/principal/zzlaws_internal_config_b1.FnUncommentSpec", spec := "fnUncommentSpec", inPlace := ["internal/bytealg.IndexByteString"], apart := false }
def FnUncommentSpecSaid : Prop := fnUncommentSpecRow.holds Try.pinned (OpenSpec.ofChange fnUncommentSpecSpec)

/-- ITS FALSE NEIGHBOUR: 'it returns false'. Refute it at one input. -/
def fnUncommentSpecWrong : ChangeSpec := { name := "fnUncommentSpec", fn := fun _ => fun
  | [d] => { results := [.lit (.bool false)], args := [d] }
  | _ => none }
def FnUncommentSpecWrongFalsely : Prop := fnUncommentSpecRow.holds Try.pinned (OpenSpec.ofChange fnUncommentSpecWrong)

/-- 'zzlaws_internal_config_b1.FnUncommentIdempotent': WHATEVER THE INPUT: true; the input reads as it did. -/
def fnUncommentIdempotentSpec : ChangeSpec := { name := "fnUncommentIdempotent", fn := fun _ => fun
  | [d] => { results := [.lit (.bool true)], args := [d] }
  | _ => none }
def fnUncommentIdempotentRow : OpenClaim := { program := "qxb6600544a", sum := "cb67396e7ca7bdcf87cec866e3719a4e533ee9b3568b4b5f48ba27e830291b64", func := "example.com/principal/principal/zzlaws_internal_config_b1.FnUncommentIdempotent", spec := "fnUncommentIdempotent", inPlace := ["internal/bytealg.IndexByteString"], apart := false }
def FnUncommentIdempotentSaid : Prop := fnUncommentIdempotentRow.holds Try.pinned (OpenSpec.ofChange fnUncommentIdempotentSpec)

/-- ITS FALSE NEIGHBOUR: 'it returns false'. Refute it at one input. -/
def fnUncommentIdempotentWrong : ChangeSpec := { name := "fnUncommentIdempotent", fn := fun _ => fun
  | [d] => { results := [.lit (.bool false)], args := [d] }
  | _ => none }
def FnUncommentIdempotentWrongFalsely : Prop := fnUncommentIdempotentRow.holds Try.pinned (OpenSpec.ofChange fnUncommentIdempotentWrong)

/-- 'zzlaws_internal_config_b1.FnUncommentExtend': WHATEVER THE INPUT: true; the input reads as it did. -/
def fnUncommentExtendSpec : ChangeSpec := { name := "fnUncommentExtend", fn := fun _ => fun
  | [d1, d2] => { results := [.lit (.bool true)], args := [d1, d2] }
  | _ => none }
def fnUncommentExtendRow : OpenClaim := { program := "qxb6600544a", sum := "cb67396e7ca7bdcf87cec866e3719a4e533ee9b3568b4b5f48ba27e830291b64", func := "example.com/principal/principal/zzlaws_internal_config_b1.FnUncommentExtend", spec := "fnUncommentExtend", inPlace := ["internal/bytealg.IndexByteString"], apart := false }
def FnUncommentExtendSaid : Prop := fnUncommentExtendRow.holds Try.pinned (OpenSpec.ofChange fnUncommentExtendSpec)

/-- ITS FALSE NEIGHBOUR: 'it returns false'. Refute it at one input. -/
def fnUncommentExtendWrong : ChangeSpec := { name := "fnUncommentExtend", fn := fun _ => fun
  | [d1, d2] => { results := [.lit (.bool false)], args := [d1, d2] }
  | _ => none }
def FnUncommentExtendWrongFalsely : Prop := fnUncommentExtendRow.holds Try.pinned (OpenSpec.ofChange fnUncommentExtendWrong)

/-- 'zzlaws_internal_config_b1.FnUnquoteExact': WHATEVER THE INPUT: true; the input reads as it did. -/
def fnUnquoteExactSpec : ChangeSpec := { name := "fnUnquoteExact", fn := fun _ => fun
  | [d1, d2, d3] => { results := [.lit (.bool true)], args := [d1, d2, d3] }
  | _ => none }
def fnUnquoteExactRow : OpenClaim := { program := "qxb6600544a", sum := "cb67396e7ca7bdcf87cec866e3719a4e533ee9b3568b4b5f48ba27e830291b64", func := "example.com/principal/principal/zzlaws_internal_config_b1.FnUnquoteExact", spec := "fnUnquoteExact", inPlace := ["internal/abi.NoEscape"], apart := false }
def FnUnquoteExactSaid : Prop := fnUnquoteExactRow.holds Try.pinned (OpenSpec.ofChange fnUnquoteExactSpec)

/-- ITS FALSE NEIGHBOUR: 'it returns false'. Refute it at one input. -/
def fnUnquoteExactWrong : ChangeSpec := { name := "fnUnquoteExact", fn := fun _ => fun
  | [d1, d2, d3] => { results := [.lit (.bool false)], args := [d1, d2, d3] }
  | _ => none }
def FnUnquoteExactWrongFalsely : Prop := fnUnquoteExactRow.holds Try.pinned (OpenSpec.ofChange fnUnquoteExactWrong)

/-- 'zzlaws_internal_config_b1.FnUnquoteRoundTrip': WHATEVER THE INPUT: true; the input reads as it did. -/
def fnUnquoteRoundTripSpec : ChangeSpec := { name := "fnUnquoteRoundTrip", fn := fun _ => fun
  | [d1, d2, d3, d4, d5, d6] => { results := [.lit (.bool true)], args := [d1, d2, d3, d4, d5, d6] }
  | _ => none }
def fnUnquoteRoundTripRow : OpenClaim := { program := "qxb6600544a", sum := "cb67396e7ca7bdcf87cec866e3719a4e533ee9b3568b4b5f48ba27e830291b64", func := "example.com/principal/principal/zzlaws_internal_config_b1.FnUnquoteRoundTrip", spec := "fnUnquoteRoundTrip", inPlace := ["internal/abi.NoEscape"], apart := false }
def FnUnquoteRoundTripSaid : Prop := fnUnquoteRoundTripRow.holds Try.pinned (OpenSpec.ofChange fnUnquoteRoundTripSpec)

/-- ITS FALSE NEIGHBOUR: 'it returns false'. Refute it at one input. -/
def fnUnquoteRoundTripWrong : ChangeSpec := { name := "fnUnquoteRoundTrip", fn := fun _ => fun
  | [d1, d2, d3, d4, d5, d6] => { results := [.lit (.bool false)], args := [d1, d2, d3, d4, d5, d6] }
  | _ => none }
def FnUnquoteRoundTripWrongFalsely : Prop := fnUnquoteRoundTripRow.holds Try.pinned (OpenSpec.ofChange fnUnquoteRoundTripWrong)

end Rows
end Go.Proofs.Qxb6600544a
