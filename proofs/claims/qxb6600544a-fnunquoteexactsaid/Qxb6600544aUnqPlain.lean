/-
  The plain law of unquote: lists of bytes alone.
-/
namespace Go.Proofs.Qxb6600544a.Un

/-- May a backslash stand for the byte behind it? -/
def escB (q c d : UInt8) : Bool := decide (q = 34) && decide (c = 92) && (decide (d = 34) || decide (d = 92))

/-- One piece: what has been written, and what follows the closing quote. -/
def scan (q : UInt8) : List UInt8 → List UInt8 → List UInt8 × Option (List UInt8)
  | acc, [] => (acc, none)
  | acc, [c] => if c = q then (acc, some []) else (acc ++ [c], none)
  | acc, c :: d :: r => if c = q then (acc, some (d :: r)) else if escB q c d = true then scan q (acc ++ [d]) r else scan q (acc ++ [c]) (d :: r)

theorem scan_nil (q : UInt8) (acc : List UInt8) : scan q acc [] = (acc, none) := by rw [scan]
theorem scan_quote (q : UInt8) (acc r : List UInt8) : scan q acc (q :: r) = (acc, some r) := by
  cases r with
  | nil => rw [scan, if_pos rfl]
  | cons d r => rw [scan, if_pos rfl]
theorem scan_esc (q c d : UInt8) (acc r : List UInt8) (hc : c ≠ q) (he : escB q c d = true) : scan q acc (c :: d :: r) = scan q (acc ++ [d]) r := by
  rw [scan, if_neg hc, if_pos he]
theorem scan_plain (q c : UInt8) (acc r : List UInt8) (hc : c ≠ q) (he : ∀ d, r.head? = some d → escB q c d = false) : scan q acc (c :: r) = scan q (acc ++ [c]) r := by
  cases r with
  | nil => rw [scan_nil, scan, if_neg hc]
  | cons d r => rw [scan, if_neg hc, if_neg (by rw [he d rfl]; simp)]

/-- The whole: pieces, line by line. -/
def unqs (q : UInt8) : List UInt8 → List UInt8 → Nat → List (List UInt8) → List UInt8 × List UInt8 × Nat × Bool
  | acc, p, i, [] => match scan q acc p with
    | (out, some a) => (out, a, i, true)
    | (_, none) => ([], [], i + 1, false)
  | acc, p, i, l :: ls => match scan q acc p with
    | (out, some a) => (out, a, i, true)
    | (out, none) => unqs q (out ++ [10]) l (i + 1) ls

theorem unqs_hit (q : UInt8) (acc p : List UInt8) (i : Nat) (ls : List (List UInt8)) (out a : List UInt8) (h : scan q acc p = (out, some a)) : unqs q acc p i ls = (out, a, i, true) := by
  cases ls <;> simp [unqs, h]
theorem unqs_end (q : UInt8) (acc p : List UInt8) (i : Nat) (out : List UInt8) (h : scan q acc p = (out, none)) : unqs q acc p i [] = ([], [], i + 1, false) := by
  simp [unqs, h]
theorem unqs_next (q : UInt8) (acc p : List UInt8) (i : Nat) (l : List UInt8) (ls : List (List UInt8)) (out : List UInt8) (h : scan q acc p = (out, none)) :
    unqs q acc p i (l :: ls) = unqs q (out ++ [10]) l (i + 1) ls := by
  simp [unqs, h]
theorem unqs_scan (q : UInt8) (acc acc' p p' : List UInt8) (i : Nat) (ls : List (List UInt8)) (h : scan q acc p = scan q acc' p') : unqs q acc p i ls = unqs q acc' p' i ls := by
  cases ls <;> simp [unqs, h]

/-! ### At an index -/
theorem drop_at {l : List UInt8} {j : Nat} {c : UInt8} (h : l[j]? = some c) : l.drop j = c :: l.drop (j + 1) := by
  obtain ⟨hj, e⟩ := List.getElem?_eq_some_iff.1 h
  rw [← e]
  exact List.drop_eq_getElem_cons hj

theorem scan_at_quote {q : UInt8} {acc l : List UInt8} {j : Nat} (h : l[j]? = some q) : scan q acc (l.drop j) = (acc, some (l.drop (j + 1))) := by
  rw [drop_at h]; exact scan_quote q acc _
theorem scan_at_esc {q c d : UInt8} {acc l : List UInt8} {j : Nat} (h : l[j]? = some c) (h2 : l[j + 1]? = some d) (hc : c ≠ q) (he : escB q c d = true) : scan q acc (l.drop j) = scan q (acc ++ [d]) (l.drop (j + 2)) := by
  rw [drop_at h, drop_at h2]; exact scan_esc q c d acc _ hc he
theorem scan_at_plain {q c : UInt8} {acc l : List UInt8} {j : Nat} (h : l[j]? = some c) (hc : c ≠ q) (he : ∀ d, l[j + 1]? = some d → escB q c d = false) : scan q acc (l.drop j) = scan q (acc ++ [c]) (l.drop (j + 1)) := by
  rw [drop_at h]
  refine scan_plain q c acc _ hc fun d hd => he d ?_
  rw [List.head?_drop] at hd
  exact hd
theorem scan_at_end {q : UInt8} {acc l : List UInt8} {j : Nat} (h : l.length ≤ j) : scan q acc (l.drop j) = (acc, none) := by
  rw [List.drop_eq_nil_of_le h]; exact scan_nil q acc

theorem escB_iff (q c d : UInt8) : escB q c d = true ↔ q = 34 ∧ c = 92 ∧ (d = 34 ∨ d = 92) := by
  unfold escB
  simp [and_assoc]
end Go.Proofs.Qxb6600544a.Un
