/-
  From the row's list of package-level variables to what the walks ask; one start that fits.
-/
import Derived.Test.Qxb6003620aDoorRows
import Derived.Test.Qxb6003620aDoorSet
import Derived.Lib.LaidTab
import Derived.Stop.LaidErr
import Derived.LaidMore
import Derived.Stop.Joined
import Derived.ProofKit
namespace Go.Proofs.Qxb6003620aDoor
open Go.RowKit

theorem own : ownKnob Tryd.prog.godebug = none := by kernel_rfl

/-- The list, the same in both rows. -/
def theLaid : List (String × DataW Unit) := Rows.fnWindowStringReadsBackThroughWholeSetTextRow.laid

theorem gES : Tryd.prog.globalNamed "strconv.ErrSyntax" = some 0 := by kernel_rfl
theorem gESType : (Tryd.prog.globals[0]?).map (·.type) = some 40 := by kernel_rfl
theorem gER : Tryd.prog.globalNamed "strconv.ErrRange" = some 1 := by kernel_rfl
theorem gERType : (Tryd.prog.globals[1]?).map (·.type) = some 40 := by kernel_rfl
theorem gTab : Tryd.prog.globalNamed tabName = some 2 := by kernel_rfl
theorem gTabType : (Tryd.prog.globals[2]?).map (·.type) = some 68 := by kernel_rfl
theorem cells76 : Tryd.prog.cellsOf 76 = 1 := by kernel_rfl
theorem cells9 : Tryd.prog.cellsOf 9 = 1 := by kernel_rfl
theorem cells32 : Tryd.prog.cellsOf 32 = 1 := by kernel_rfl
theorem cells68 : Tryd.prog.cellsOf 68 = 20 := by kernel_rfl

/-- The name of the dynamic type of the two errors, by the row's own list. -/
def errName : String := match (theLaid.getD 3 ("", .nil)).2 with | .iface n _ => n | _ => ""
/-- The one type of that name. -/
theorem row74 (u : TypeId) (h : Tryd.prog.typeName? 3 u = some errName) : u = 74 :=
  typeName_ptr_named (nm := "errors.errorString") (by kernel_rfl) (by kernel_rfl) (by decide) u h

theorem env_of {W : World} (h : laidMetH Tryd.prog theLaid W) : Env W := by
  rw [MakeChecks.laidMetH_plain _ _ _ (by kernel_rfl)] at h
  have h2 := h.tail.tail
  have h3 := h2.tail
  have h4 := h3.tail
  have hT := Lib.tabIs_of_head (zs := Lib.pow10Tab) gTab gTabType Tryd.underlying68 Tryd.underlying32 cells32 cells68 h2
  obtain ⟨a1, s1, hv1, -, -, -⟩ := laid_sentinel h3 gER gERType Tryd.underlying40 row74 Tryd.underlying74 Tryd.underlying76 rfl rfl Tryd.underlying9 cells76 cells9
  obtain ⟨a0, s0, hv0, -, -, -⟩ := laid_sentinel h4 gES gESType Tryd.underlying40 row74 Tryd.underlying74 Tryd.underlying76 rfl rfl Tryd.underlying9 cells76 cells9
  exact ⟨⟨_, _, hv0⟩, ⟨_, _, hv1⟩, hT⟩

/-- The door's own heap meets the condition: three closed facts. -/
theorem door_met (os : Os) (args : Array Value) : laidMetH Tryd.prog theLaid ((World.doorLaid Tryd.prog 62 os).forCall (fun _ _ => 0) ⟨#[], args, []⟩).memory :=
  laidMetH_of_parts3 (fuel := 8) (laidMet_of_run' 8 (by kernel_rfl) (by kernel_rfl)) (by kernel_rfl) (by kernel_rfl)
end Go.Proofs.Qxb6003620aDoor
