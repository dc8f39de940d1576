/-
  DERIVED. GIVEN WITH THE SEED: THE CARDS: each row of Qxb6003620aDoorRows.lean that lists a variable, with what it lists TIED to the program's text (the seventh form; the later family's looks); each row that meets fmt, with fmt's text TOLD by the authors' own Lean function (tested against real Go, not proved from fmt's source: count such statements apart). THE CARD IS WHAT COUNTS. Prove the row's statement (the work); the ties are given (Qxb6003620aDoorTie.lean); close each card by the builder's one call (the guide's Derived/Test/ToyasCard.lean, 'card_holds'). Laid BY PROGRAM, IN A SANDBOX (cutbox-door.mjs). By AI agents, Wed Nov 11 2026. No macro, syntax, notation, axiom, sorry.
-/
import Derived.Test.Qxb6003620aDoorRows
import GoSem.ClaimSeven
namespace Go.Proofs.Qxb6003620aDoor
namespace Rows

/-- THE TIED CARD OF 'zzlaws_internal_config_b1.FnWholeSetTextTakesExactlyCanonicalDecimalsInRange'. -/
def fnWholeSetTextTakesExactlyCanonicalDecimalsInRangeCard : Claim7 := { stood := { row := fnWholeSetTextTakesExactlyCanonicalDecimalsInRangeRow, standIns := [], harness := (true, "dd8c65b9d58f2ac1c4cd9e698fd2c0391c6ba9e46ba7847601a55fdf96bd1c3d"), looks := true }, kinds := [], alts := [], laidByText := true, laidKinds := [.data, .data, .data, .sentinel, .sentinel], laidTests := true, laidLooks := .later }
def FnWholeSetTextTakesExactlyCanonicalDecimalsInRangeCardSaid : Prop := Claim7.holds Tryd.pinned (.plain (OpenSpec.ofChange fnWholeSetTextTakesExactlyCanonicalDecimalsInRangeSpec)) fnWholeSetTextTakesExactlyCanonicalDecimalsInRangeCard

/-- THE TIED CARD OF 'zzlaws_internal_config_b1.FnWindowStringReadsBackThroughWholeSetText'. -/
def fnWindowStringReadsBackThroughWholeSetTextCard : Claim7 := { stood := { row := fnWindowStringReadsBackThroughWholeSetTextRow, standIns := [], harness := (true, "dd8c65b9d58f2ac1c4cd9e698fd2c0391c6ba9e46ba7847601a55fdf96bd1c3d"), looks := true }, kinds := [], alts := [], laidByText := true, laidKinds := [.data, .data, .data, .sentinel, .sentinel], laidTests := true, laidLooks := .later }
def FnWindowStringReadsBackThroughWholeSetTextCardSaid : Prop := Claim7.holds Tryd.pinned (.plain (OpenSpec.ofChange fnWindowStringReadsBackThroughWholeSetTextSpec)) fnWindowStringReadsBackThroughWholeSetTextCard
end Rows
end Go.Proofs.Qxb6003620aDoor
