/-
  Rows that a call owns: a byte more, a string's bytes more, a string more; the bytes as a string.
-/
import Derived.Test.Qxb6600544aBuild
import Derived.Lib.BufferRead
import Derived.Laws.IdiomStrings
import Derived.WalkSpells
namespace Go.Proofs.Qxb6600544a
open Go.Shelf Go.RowKit

/-- v is nil or a row of the call's own (from block B on), and holds the bytes l. -/
def OwnB (B : Nat) (v : Value) (l : List UInt8) (w : World) : Prop := w.ownsRow B 5 1 v l.length (Lib.byteCells l)
/-- v is nil or a row of the call's own, and holds the strings L. -/
def OwnS (B : Nat) (v : Value) (L : List ByteArray) (w : World) : Prop := w.ownsRow B 9 1 v L.length (L.map Value.string)

theorem infoStr : (Try.prog.info? 9).map (fun i => (i.zero, i.size, i.bytes)) = some (some (.string ⟨#[]⟩), 1, 16) := by kernel_rfl

theorem ownB_nil (B : Nat) (w : World) : OwnB B (.slice none 0 0) [] w := World.ownsRow_nil _ _ _ _
theorem ownS_nil (B : Nat) (w : World) : OwnS B (.slice none 0 0) [] w := World.ownsRow_nil _ _ _ _

theorem byteCells_snoc (l : List UInt8) (c : UInt8) : Lib.byteCells (l ++ [c]) = Lib.byteCells l ++ [.int .u8 (c.toNat : Int)] := by simp [Lib.byteCells]

/-- 'append(v, c)'. -/
theorem app_byte {ops : Array Oper} {rest : List Oper} {o : Oper} {a : Act} {Q : Exit → Act → World → Prop} (w : World) (hgd : o.guard = none) (s x : Operand)
    (ho : o.op = .call { callee := .builtin .append, args := #[s, x], argTypes := #[32, 32] })
    (B : Nat) (l : List UInt8) (c : UInt8) (v : Value) (hs : a.eval s = v) (hx : a.eval x = .slice (some ⟨w.heap.size, 0, none⟩) 1 1) (hown : OwnB B v l w)
    (hlen : l.length + 1 ≤ 140737488355328) (hB : B ≤ w.heap.size)
    (K : ∀ v' w', OwnB B v' (l ++ [c]) w' → w.grownBy w' v.ownBlock → wpList Try.prog ops Q rest (a.put o.dst v') w') :
    wpList Try.prog ops Q (o :: rest) a (w.alloc (.cells #[.int .u8 (c.toNat : Int)] 5)) := by
  obtain ⟨i0, hi, hz0, hz1, hz2⟩ := info_parts infoByte
  refine wpList_append_own _ hgd s x 32 ho B 5 i0 (.int .u8 0) 1 1 Try.underlying32 hi hz0 hz1 hz2 rfl (by decide) v l.length _ hs (hown.alloc _) ⟨w.heap.size, 0, none⟩ 1 1 [.int .u8 (c.toNat : Int)] hx rfl ?_ ?_ ?_ ?_ ?_ ?_
  · intro j u hj
    match j, hj with
    | 0, hj => simp at hj; subst hj; simp [Addr.add]
  · intro u hu; simp at hu; subst hu; rfl
  · unfold maxLen; omega
  · omega
  · simp; omega
  · intro v' w' h1 h2 _
    refine K v' w' ?_ ((World.grownBy_alloc w _ _).trans h2)
    unfold OwnB
    rw [byteCells_snoc, List.length_append]
    exact h1

/-- 'append(v, t...)', t a string. -/
theorem app_text {ops : Array Oper} {rest : List Oper} {o : Oper} {a : Act} {Q : Exit → Act → World → Prop} (w : World) (hgd : o.guard = none) (s x : Operand)
    (ho : o.op = .call { callee := .builtin .append, args := #[s, x], argTypes := #[32, 9] })
    (B : Nat) (l : List UInt8) (t : ByteArray) (v : Value) (hs : a.eval s = v) (hx : a.eval x = .string t) (hown : OwnB B v l w)
    (hlen : l.length + t.size ≤ 140737488355328) (hB : B ≤ w.heap.size)
    (K : ∀ v' w', OwnB B v' (l ++ t.data.toList) w' → w.grownBy w' v.ownBlock → wpList Try.prog ops Q rest (a.put o.dst v') w') :
    wpList Try.prog ops Q (o :: rest) a w := by
  obtain ⟨i0, hi, hz0, hz1, hz2⟩ := info_parts infoByte
  refine Lib.wpList_append_own_string w hgd s x 32 9 ho B 5 i0 Try.underlying32 Try.underlying9 hi hz0 hz1 hz2 v l.length _ hs hown t hx (by unfold maxLen; omega) hlen hB ?_
  intro v' w' h1 h2 _
  refine K v' w' ?_ h2
  unfold OwnB
  have e : Lib.byteCells (l ++ t.data.toList) = Lib.byteCells l ++ Lib.strCells t := by simp [Lib.byteCells, Lib.strCells]
  have e2 : (l ++ t.data.toList).length = l.length + t.size := by rw [List.length_append, Array.length_toList]; rfl
  rw [e, e2]
  exact h1

/-- 'append(v, t)', v a slice of strings. -/
theorem app_str {ops : Array Oper} {rest : List Oper} {o : Oper} {a : Act} {Q : Exit → Act → World → Prop} (w : World) (hgd : o.guard = none) (s x : Operand)
    (ho : o.op = .call { callee := .builtin .append, args := #[s, x], argTypes := #[26, 26] })
    (B : Nat) (L : List ByteArray) (t : ByteArray) (v : Value) (hs : a.eval s = v) (hx : a.eval x = .slice (some ⟨w.heap.size, 0, none⟩) 1 1) (hown : OwnS B v L w)
    (hlen : (L.length + 1) * 16 ≤ 140737488355328) (hB : B ≤ w.heap.size)
    (K : ∀ v' w', OwnS B v' (L ++ [t]) w' → w.grownBy w' v.ownBlock → wpList Try.prog ops Q rest (a.put o.dst v') w') :
    wpList Try.prog ops Q (o :: rest) a (w.alloc (.cells #[.string t] 9)) := by
  obtain ⟨i0, hi, hz0, hz1, hz2⟩ := info_parts infoStr
  refine wpList_append_own _ hgd s x 26 ho B 9 i0 (.string ⟨#[]⟩) 1 16 Try.underlying26 hi hz0 hz1 hz2 rfl (by decide) v L.length _ hs (hown.alloc _) ⟨w.heap.size, 0, none⟩ 1 1 [.string t] hx rfl ?_ ?_ ?_ ?_ ?_ ?_
  · intro j u hj
    match j, hj with
    | 0, hj => simp at hj; subst hj; simp [Addr.add]
  · intro u hu; simp at hu; subst hu; rfl
  · unfold maxLen; omega
  · omega
  · simp; omega
  · intro v' w' h1 h2 _
    refine K v' w' ?_ ((World.grownBy_alloc w _ _).trans h2)
    unfold OwnS
    rw [List.map_append, List.length_append]
    exact h1

/-- 'string(v)'. -/
theorem conv_own {B : Nat} {v : Value} {l : List UInt8} {w : World} (h : OwnB B v l w) : (convert 32 9 v).run Try.prog w = .ok (.string ⟨l.toArray⟩) w := by
  rcases h.2 with ⟨rfl, h0⟩ | ⟨g, cap, cur, rfl, _, hg, _, _, _, htake⟩
  · obtain rfl := List.length_eq_zero_iff.1 h0
    exact Lib.run_convert_nil_bytes w 32 9 5 0 Try.underlying32 Try.underlying5 Try.underlying9
  · refine run_convert_bytes_back w 32 9 5 ⟨g, 0, none⟩ cap l Try.underlying32 Try.underlying5 Try.underlying9 ?_
    intro j hj
    refine h.cells (g := g) rfl j _ ?_
    simp [Lib.byteCells, hj]

/-- Rows of bytes and rows of strings are other blocks. -/
theorem own_apart {B B' : Nat} {v v' : Value} {l : List UInt8} {L : List ByteArray} {w : World} (h : OwnB B v l w) (h' : OwnS B' v' L w) : v.ownBlock = none ∨ v.ownBlock ≠ v'.ownBlock := by
  rcases h'.2 with ⟨rfl, _⟩ | ⟨g, cap, cur, rfl, _, hg, _⟩
  · cases e : v.ownBlock with
    | none => exact Or.inl rfl
    | some k => exact Or.inr (by simp [Value.ownBlock])
  · exact Or.inr (Lib.ownBlock_ne h hg (by decide))
theorem own_apart' {B B' : Nat} {v v' : Value} {l : List UInt8} {L : List ByteArray} {w : World} (h : OwnB B v l w) (h' : OwnS B' v' L w) : v'.ownBlock = none ∨ v'.ownBlock ≠ v.ownBlock := by
  rcases own_apart h h' with e | e
  · cases e2 : v'.ownBlock with
    | none => exact Or.inl rfl
    | some k => exact Or.inr (by rw [e]; simp)
  · exact Or.inr (Ne.symm e)

theorem OwnB.keep {B : Nat} {v : Value} {l : List UInt8} {w w' : World} {row : Option Nat} (h : OwnB B v l w) (hg : w.grownBy w' row) (hne : v.ownBlock = none ∨ v.ownBlock ≠ row) : OwnB B v l w' := World.ownsRow.kept h hg hne
theorem OwnS.keep {B : Nat} {v : Value} {L : List ByteArray} {w w' : World} {row : Option Nat} (h : OwnS B v L w) (hg : w.grownBy w' row) (hne : v.ownBlock = none ∨ v.ownBlock ≠ row) : OwnS B v L w' := World.ownsRow.kept h hg hne

/-- A row of strings at the head of block G, N places, of which the first hold L. -/
def Fit (B G N : Nat) (L : List ByteArray) (w : World) : Prop := w.ownsRow B 9 1 (.slice (some ⟨G, 0, none⟩) L.length N) L.length (L.map Value.string)

/-- 'append(v, t)' within the capacity. -/
theorem app_fits {ops : Array Oper} {rest : List Oper} {o : Oper} {a : Act} {Q : Exit → Act → World → Prop} (w : World) (hgd : o.guard = none) (s x : Operand)
    (ho : o.op = .call { callee := .builtin .append, args := #[s, x], argTypes := #[26, 26] })
    (B G N : Nat) (L : List ByteArray) (t : ByteArray) (hs : a.eval s = .slice (some ⟨G, 0, none⟩) L.length N) (hx : a.eval x = .slice (some ⟨w.heap.size, 0, none⟩) 1 1) (hown : Fit B G N L w)
    (hlen : L.length + 1 ≤ N)
    (K : ∀ w', Fit B G N (L ++ [t]) w' → w.grownBy w' (some G) → wpList Try.prog ops Q rest (a.put o.dst (.slice (some ⟨G, 0, none⟩) (L.length + 1) N)) w') :
    wpList Try.prog ops Q (o :: rest) a (w.alloc (.cells #[.string t] 9)) := by
  obtain ⟨i0, hi, hz0, hz1, hz2⟩ := info_parts infoStr
  refine wpList_append_fits _ hgd s x 26 ho B 9 i0 1 Try.underlying26 hi hz1 G L.length N _ hs (hown.alloc _) ⟨w.heap.size, 0, none⟩ 1 1 [.string t] hx rfl ?_ ?_ hlen ?_
  · intro j u hj
    match j, hj with
    | 0, hj => simp at hj; subst hj; simp [Addr.add]
  · intro u hu; simp at hu; subst hu; rfl
  · intro w' h1 h2
    refine K w' ?_ ((World.grownBy_alloc w _ _).trans h2)
    unfold Fit
    rw [List.map_append, List.length_append]
    exact h1

/-- 'make([]string, 0, N)'. -/
theorem make_fit {ops : Array Oper} {rest : List Oper} {o : Oper} {a : Act} {Q : Exit → Act → World → Prop} (w : World) (hgd : o.guard = none) (l c : Operand) (ho : o.op = Op.makeSlice 26 l c)
    (C : Int) (N : Nat) (hl : a.eval l = .int .i64 0) (hc : a.eval c = .int .i64 C) (hC : C = (N : Int)) (hN : N ≤ 8388608)
    (K : ∀ w', Fit w.heap.size w.heap.size N [] w' → Below w.heap.size w w' → wpList Try.prog ops Q rest (a.put o.dst (.slice (some ⟨w.heap.size, 0, none⟩) 0 N)) w') :
    wpList Try.prog ops Q (o :: rest) a w := by
  obtain ⟨i0, hi, hz0, hz1, hz2⟩ := info_parts infoStr
  refine wpList_make_own w hgd l c 26 ho w.heap.size 9 i0 (.string ⟨#[]⟩) 1 Try.underlying26 hi hz0 hz1 .i64 .i64 C N hl hc hC (by rw [hz2]; omega) (by unfold maxLen; omega) (Nat.le_refl _) ?_
  intro w' h1 h2
  exact K w' h1 ((Below.refl _ _).grown h2 (Nat.le_refl _) (fun k hk => by cases hk))

/-- '[]byte{c}'. -/
theorem ownB_lit (B : Nat) (w : World) (c : UInt8) (hB : B ≤ w.heap.size) : OwnB B (.slice (some ⟨w.heap.size, 0, none⟩) 1 1) [c] (w.alloc (.cells #[.int .u8 (c.toNat : Int)] 5)) :=
  World.ownsRow_lit (e := 5) (size := 1) w #[.int .u8 (c.toNat : Int)] 1 hB (by unfold maxLen; omega) rfl

/-- The shape of a row that holds something. -/
theorem OwnS.shape {B : Nat} {v : Value} {L : List ByteArray} {w : World} (h : OwnS B v L w) (hne : L ≠ []) :
    ∃ g cap, v = .slice (some ⟨g, 0, none⟩) L.length cap ∧ B ≤ g ∧ g < w.heap.size ∧ ∀ j x, L[j]? = some x → w.cell? ⟨g, j, none⟩ = some (.string x) := by
  rcases h.2 with ⟨_, h0⟩ | ⟨g, cap, cur, rfl, hB, hg, _⟩
  · exact absurd (List.length_eq_zero_iff.1 h0) hne
  · have hlt := (World.ownsRow.lt h g rfl)
    refine ⟨g, cap, rfl, hB, hlt.2, fun j x hx => ?_⟩
    have hj := (List.getElem?_eq_some_iff.1 hx).1
    have h1 : w.ownsRow B 9 1 (.slice (some ⟨g, 0, none⟩) L.length cap) L.length (L.map Value.string) := h
    rw [h1.cellAt j (by omega), List.getElem?_map, hx]
    rfl

theorem below_own {B : Nat} {w0 w w' : World} {row : Option Nat} (h : Below B w0 w) (hg : w.grownBy w' row) (hB : B ≤ w.heap.size) (hr : ∀ k, row = some k → B ≤ k) : Below B w0 w' := h.grown hg hB hr
theorem OwnB.row {B : Nat} {v : Value} {l : List UInt8} {w : World} (h : OwnB B v l w) : ∀ k, v.ownBlock = some k → B ≤ k := fun k hk => (World.ownsRow.lt h k hk).1
theorem OwnS.row {B : Nat} {v : Value} {L : List ByteArray} {w : World} (h : OwnS B v L w) : ∀ k, v.ownBlock = some k → B ≤ k := fun k hk => (World.ownsRow.lt h k hk).1
end Go.Proofs.Qxb6600544a
