/-
  The two slices among the arguments, as the walks see them.
-/
import Derived.Test.Qxb6600570aMap
import Derived.ProofKit
import Derived.SizedLaws
import Derived.Deep.Grids
namespace Go.Proofs.Qxb6600570a
open Go.ChangeShapes Go.WideShapes Go.ChangeAt Go.RowKit Go.Deep

theorem laidOut : laidOutB Try.prog = true := by kernel_rfl
theorem cells3 : Try.prog.cellsOf 3 = 1 := by kernel_rfl
theorem cells4 : Try.prog.cellsOf 4 = 1 := by kernel_rfl

theorem ints_of {H : Type} {enc : TypeId × Value → H} {W : World} {base : Nat} {v : Value} {d : DataW H} {p : List MemPlace} (hval : Value.okWide Try.prog W .any base 22 v)
    (h : DataW.Trod enc Try.prog W 0 (fun _ => true) true 22 v d p) (hlt : ∀ x ∈ p, x.block < W.heap.size) :
    ∃ oa cap l, v = .slice oa l.length cap ∧ Seen W.heap.size W oa (vi l) ∧ l.length ≤ 9223372036854775807 ∧ ∀ k, k < l.length → In (l.getD k 0) := by
  obtain ⟨a0, len, cap, rfl⟩ := okWide_slice Try.underlying22 hval
  obtain ⟨fuel, hf⟩ := h
  rcases open_ints Try.underlying22 Try.underlying3 cells3 hf with ⟨hcs, hx⟩ | ⟨a, len', cap', zs, hcs, _, hl, hm, hz, hx, hcell, hwz⟩
  · simp [Value.cells] at hcs
    obtain ⟨rfl, rfl, rfl⟩ := hcs
    exact ⟨none, 0, [], rfl, Or.inl rfl, by simp, fun k hk => by simp at hk⟩
  · simp [Value.cells] at hcs
    obtain ⟨rfl, rfl, rfl⟩ := hcs
    simp only [Prod.mk.injEq] at hx
    obtain ⟨-, rfl⟩ := hx
    simp only [if_true] at hz
    unfold maxLen at hm
    have hL : (zs.take len).length = len := by rw [List.length_take]; omega
    have hget : ∀ j, j < len → (zs.take len).getD j 0 = zs.getD j 0 := fun j hj => by simp [hj]
    refine ⟨some a, cap, zs.take len, by rw [hL], ?_, by omega, fun k hk => ?_⟩
    · by_cases hl0 : len = 0
      · left; subst hl0; simp
      · right
        obtain ⟨b, off, spot⟩ := a
        have hspot : spot = none := by simpa [Addr.add] using World.cell?_spot (hcell 0 (by omega))
        subst hspot
        have hbW : b < W.heap.size := hlt (.cell b off) (MemPlace.mem_row.2 ⟨0, by omega, by simp⟩)
        refine ⟨b, off, rfl, hbW, fun j x hx => ?_⟩
        have hj := (List.getElem?_eq_some_iff.1 hx).1
        rw [List.length_map, hL] at hj
        have h1 := hcell j (by omega)
        rw [← add_plain, h1, ← hx, List.getElem?_map, List.getElem?_take, if_pos hj, List.getElem?_eq_getElem (by omega), List.getD_eq_getElem?_getD, List.getElem?_eq_getElem (by omega)]
        rfl
    · rw [hL] at hk
      rw [hget k hk, List.getD_eq_getElem?_getD, List.getElem?_eq_getElem (by omega)]
      exact in_of_wf (hwz _ (List.getElem_mem _))

theorem bools_of {H : Type} {enc : TypeId × Value → H} {W : World} {base : Nat} {v : Value} {d : DataW H} {p : List MemPlace} (hval : Value.okWide Try.prog W .any base 23 v)
    (h : DataW.Trod enc Try.prog W 0 (fun _ => true) true 23 v d p) (hlt : ∀ x ∈ p, x.block < W.heap.size) :
    ∃ oa cap l, v = .slice oa l.length cap ∧ Seen W.heap.size W oa (vb l) ∧ l.length ≤ 9223372036854775807 := by
  obtain ⟨a0, len, cap, rfl⟩ := okWide_slice Try.underlying23 hval
  obtain ⟨fuel, hf⟩ := h
  rcases open_bools Try.underlying23 Try.underlying4 cells4 hf with ⟨hcs, hx⟩ | ⟨a, len', cap', B, hcs, _, hl, hm, hx, hcell⟩
  · simp [Value.cells] at hcs
    obtain ⟨rfl, rfl, rfl⟩ := hcs
    exact ⟨none, 0, [], rfl, Or.inl rfl, by simp⟩
  · simp [Value.cells] at hcs
    obtain ⟨rfl, rfl, rfl⟩ := hcs
    simp only [Prod.mk.injEq] at hx
    obtain ⟨-, rfl⟩ := hx
    unfold maxLen at hm
    have hL : ((List.range len).map B).length = len := by simp
    refine ⟨some a, cap, (List.range len).map B, by rw [hL], ?_, by omega⟩
    by_cases hl0 : len = 0
    · left; subst hl0; simp
    · right
      obtain ⟨b, off, spot⟩ := a
      have hspot : spot = none := by simpa [Addr.add] using World.cell?_spot (hcell 0 (by omega))
      subst hspot
      have hbW : b < W.heap.size := hlt (.cell b off) (MemPlace.mem_row.2 ⟨0, by omega, by simp⟩)
      refine ⟨b, off, rfl, hbW, fun j x hx => ?_⟩
      have hj := (List.getElem?_eq_some_iff.1 hx).1
      simp only [List.length_map, List.length_range] at hj
      have h1 := hcell j (by omega)
      rw [← add_plain, h1, ← hx]
      simp [List.getElem?_range hj]
end Go.Proofs.Qxb6600570a
