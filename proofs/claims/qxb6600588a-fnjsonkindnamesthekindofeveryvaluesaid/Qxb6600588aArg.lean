/-
  The three slices among the arguments, as the walks see them.
-/
import Derived.Test.Qxb6600588aStr
import Derived.ProofKit
import Derived.SizedLaws
namespace Go.Proofs.Qxb6600588a
open Go.ChangeShapes Go.WideShapes Go.ChangeAt Go.RowKit

theorem laidOut : laidOutB Try.prog = true := by kernel_rfl
theorem cells5 : Try.prog.cellsOf 5 = 1 := by kernel_rfl
theorem cells9 : Try.prog.cellsOf 9 = 1 := by kernel_rfl
theorem cells2 : Try.prog.cellsOf 2 = 1 := by kernel_rfl

theorem numbers_of {H : Type} {enc : TypeId × Value → H} {W : World} {base : Nat} {t e : TypeId} {q : IntKind} {v : Value} {d : DataW H} {p : List MemPlace} (hu : Try.prog.underlying t = some (.slice e)) (hue : Try.prog.underlying e = some (.int q)) (hce : Try.prog.cellsOf e = 1) (hval : Value.okWide Try.prog W .any base t v)
    (h : DataW.Trod enc Try.prog W 0 (fun _ => true) true t v d p) (hlt : ∀ x ∈ p, x.block < W.heap.size) :
    ∃ (oa : Option Addr) (cap : Nat) (l : List Int), v = .slice oa l.length cap ∧ Seen W.heap.size W oa (l.map (Value.int q)) ∧ l.length ≤ 9223372036854775807 ∧ ∀ n ∈ l, (Lit.int q n).wf = true := by
  obtain ⟨a0, len, cap, rfl⟩ := okWide_slice hu hval
  obtain ⟨fuel, hf⟩ := h
  rcases open_ints hu hue hce hf with ⟨hcs, hx⟩ | ⟨a, len', cap', zs, hcs, _, hl, hm, hz, hx, hcell, hwz⟩
  · simp [Value.cells] at hcs
    obtain ⟨rfl, rfl, rfl⟩ := hcs
    exact ⟨none, 0, [], rfl, Or.inl rfl, by simp, fun n hn => by simp at hn⟩
  · simp [Value.cells] at hcs
    obtain ⟨rfl, rfl, rfl⟩ := hcs
    simp only [Prod.mk.injEq] at hx
    obtain ⟨-, rfl⟩ := hx
    simp only [if_true] at hz
    unfold maxLen at hm
    have hL : (zs.take len).length = len := by rw [List.length_take]; omega
    refine ⟨some a, cap, zs.take len, by rw [hL], ?_, by omega, fun n hn => hwz n (List.mem_of_mem_take hn)⟩
    by_cases hl0 : len = 0
    · left; subst hl0; simp
    · right
      obtain ⟨b, off, spot⟩ := a
      have hspot : spot = none := by simpa [Addr.add] using World.cell?_spot (hcell 0 (by omega))
      subst hspot
      have hbW : b < W.heap.size := hlt (.cell b off) (MemPlace.mem_row.2 ⟨0, by omega, by simp⟩)
      refine ⟨b, off, rfl, hbW, fun j x hx => ?_⟩
      have hj := (List.getElem?_eq_some_iff.1 hx).1
      rw [List.length_map, hL] at hj
      have h1 := hcell j (by omega)
      rw [← add_plain, h1, ← hx, List.getElem?_map, List.getElem?_take, if_pos hj, List.getElem?_eq_getElem (by omega), List.getD_eq_getElem?_getD, List.getElem?_eq_getElem (by omega)]
      rfl

theorem texts_of {H : Type} {enc : TypeId × Value → H} {W : World} {base : Nat} {v : Value} {d : DataW H} {p : List MemPlace} (hval : Value.okWide Try.prog W .any base 23 v)
    (h : DataW.Trod enc Try.prog W 0 (fun _ => true) true 23 v d p) (hlt : ∀ x ∈ p, x.block < W.heap.size) :
    ∃ (oa : Option Addr) (cap : Nat) (L : List ByteArray), v = .slice oa L.length cap ∧ Seen W.heap.size W oa (L.map Value.string) ∧ L.length ≤ 9223372036854775807 ∧ ∀ x ∈ L, x.size ≤ maxLen := by
  obtain ⟨a0, len, cap, rfl⟩ := okWide_slice Try.underlying23 hval
  obtain ⟨fuel, hf⟩ := h
  rcases open_strings Try.underlying23 Try.underlying9 cells9 hf with ⟨hcs, hx⟩ | ⟨a, len', cap', ss, hcs, _, hl, hm, hz, hx, hcell, hws⟩
  · simp [Value.cells] at hcs
    obtain ⟨rfl, rfl, rfl⟩ := hcs
    exact ⟨none, 0, [], rfl, Or.inl rfl, by simp, fun n hn => by simp at hn⟩
  · simp [Value.cells] at hcs
    obtain ⟨rfl, rfl, rfl⟩ := hcs
    simp only [Prod.mk.injEq] at hx
    obtain ⟨-, rfl⟩ := hx
    simp only [if_true] at hz
    unfold maxLen at hm
    have hL : (ss.take len).length = len := by rw [List.length_take]; omega
    refine ⟨some a, cap, ss.take len, by rw [hL], ?_, by omega, fun x hx => hws x (List.mem_of_mem_take hx)⟩
    by_cases hl0 : len = 0
    · left; subst hl0; simp
    · right
      obtain ⟨b, off, spot⟩ := a
      have hspot : spot = none := by simpa [Addr.add] using World.cell?_spot (hcell 0 (by omega))
      subst hspot
      have hbW : b < W.heap.size := hlt (.cell b off) (MemPlace.mem_row.2 ⟨0, by omega, by simp⟩)
      refine ⟨b, off, rfl, hbW, fun j x hx => ?_⟩
      have hj := (List.getElem?_eq_some_iff.1 hx).1
      rw [List.length_map, hL] at hj
      have h1 := hcell j (by omega)
      rw [← add_plain, h1, ← hx, List.getElem?_map, List.getElem?_take, if_pos hj, List.getElem?_eq_getElem (by omega), List.getD_eq_getElem?_getD, List.getElem?_eq_getElem (by omega)]
      rfl

theorem bytes_list {l : List Int} (h : ∀ n ∈ l, (Lit.int .u8 n).wf = true) : ∃ sh : List UInt8, l.map (Value.int .u8) = Lib.byteCells sh ∧ sh.length = l.length := by
  induction l with
  | nil => exact ⟨[], rfl, rfl⟩
  | cons n r ih =>
    obtain ⟨sh, e, hl⟩ := ih (fun x hx => h x (by simp [hx]))
    have hn := h n (by simp)
    have e1 : IntKind.u8.min = 0 := by decide
    have e2 : IntKind.u8.max = 255 := by decide
    simp [Lit.wf] at hn
    obtain ⟨b, hb⟩ := byte_of (x := n) (by omega) (by omega)
    refine ⟨b :: sh, ?_, by simp [hl]⟩
    rw [List.map_cons, e, hb]
    rfl
end Go.Proofs.Qxb6600588a
