/-
  A slice of strings among the arguments, as the walks see it.
-/
import Derived.Test.Qxb6600544aView
import Derived.ProofKit
import Derived.SizedLaws
namespace Go.Proofs.Qxb6600544a
open Go.ChangeShapes Go.WideShapes Go.ChangeAt Go.RowKit

theorem laidOut : laidOutB Try.prog = true := by kernel_rfl
theorem cells9 : Try.prog.cellsOf 9 = 1 := by kernel_rfl

theorem view_of {H : Type} {enc : TypeId × Value → H} {W : World} {base : Nat} {v : Value} {d : DataW H} {p : List MemPlace} (hval : Value.okWide Try.prog W .any base 26 v)
    (h : DataW.Trod enc Try.prog W 0 (fun _ => true) true 26 v d p) (hlt : ∀ x ∈ p, x.block < W.heap.size) :
    ∃ oa cap L, v = .slice oa L.length cap ∧ View W.heap.size W oa L ∧ (oa = none → cap = 0) ∧ L.length ≤ 9223372036854775807 := by
  obtain ⟨a0, len, cap, rfl⟩ := okWide_slice Try.underlying26 hval
  obtain ⟨fuel, hf⟩ := h
  rcases open_strings Try.underlying26 Try.underlying9 cells9 hf with ⟨hcs, hx⟩ | ⟨a, len', cap', ss, hcs, _, hl, hm, hz, hx, hcell, hws⟩
  · simp [Value.cells] at hcs
    obtain ⟨rfl, rfl, rfl⟩ := hcs
    exact ⟨none, 0, [], rfl, Or.inl rfl, (fun _ => rfl), by simp⟩
  · simp [Value.cells] at hcs
    obtain ⟨rfl, rfl, rfl⟩ := hcs
    simp only [Prod.mk.injEq] at hx
    obtain ⟨-, rfl⟩ := hx
    simp only [if_true] at hz
    unfold maxLen at hm
    have hL : (ss.take len).length = len := by rw [List.length_take]; omega
    refine ⟨some a, cap, ss.take len, by rw [hL], ?_, (fun e => by cases e), by omega⟩
    by_cases hl0 : len = 0
    · left; subst hl0; simp
    · right
      obtain ⟨b, off, spot⟩ := a
      have hspot : spot = none := by simpa [Addr.add] using World.cell?_spot (hcell 0 (by omega))
      subst hspot
      have hbW : b < W.heap.size := hlt (.cell b off) (MemPlace.mem_row.2 ⟨0, by omega, by simp⟩)
      refine ⟨b, off, rfl, hbW, fun j x hx => ?_⟩
      have hj := (List.getElem?_eq_some_iff.1 hx).1
      rw [hL] at hj
      have h1 := hcell j (by omega)
      rw [← add_plain, h1]
      have h2 : ss[j]? = some x := by rw [List.getElem?_take, if_pos hj] at hx; exact hx
      rw [List.getD_eq_getElem?_getD, h2]
      rfl
end Go.Proofs.Qxb6600544a
