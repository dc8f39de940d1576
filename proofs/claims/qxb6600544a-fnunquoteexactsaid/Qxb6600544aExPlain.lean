/-
  Runs of backslashes: the plain law of the run-decoding model.
-/
import Derived.Test.Qxb6600544aUnqPlain
namespace Go.Proofs.Qxb6600544a.Un

/-- So many backslashes. -/
def bsl (n : Nat) : List UInt8 := List.replicate n 92
theorem bsl_zero : bsl 0 = [] := rfl
theorem bsl_succ (n : Nat) : bsl (n + 1) = 92 :: bsl n := rfl
theorem bsl_snoc (n : Nat) : bsl (n + 1) = bsl n ++ [92] := by
  unfold bsl; rw [List.replicate_succ']
theorem bsl_len (n : Nat) : (bsl n).length = n := by simp [bsl]

theorem scan_even : ∀ (m : Nat) (acc t : List UInt8), scan 34 acc (bsl (2 * m) ++ t) = scan 34 (acc ++ bsl m) t
  | 0, acc, t => by simp [bsl_zero]
  | m + 1, acc, t => by
    rw [show 2 * (m + 1) = 2 * m + 1 + 1 by omega, bsl_succ, bsl_succ]
    simp only [List.cons_append]
    rw [scan_esc 34 92 92 acc _ (by decide) ((escB_iff 34 92 92).2 ⟨rfl, rfl, Or.inr rfl⟩), scan_even m, List.append_assoc]
    rfl

theorem scan_odd_quote (m : Nat) (acc t : List UInt8) : scan 34 acc (bsl (2 * m + 1) ++ 34 :: t) = scan 34 (acc ++ bsl m ++ [34]) t := by
  have e : bsl (2 * m + 1) ++ 34 :: t = bsl (2 * m) ++ (92 :: 34 :: t) := by rw [bsl_snoc, List.append_assoc]; rfl
  rw [e, scan_even, scan_esc 34 92 34 _ _ (by decide) ((escB_iff 34 92 34).2 ⟨rfl, rfl, Or.inl rfl⟩)]

theorem scan_odd_other (m : Nat) (acc t : List UInt8) (h1 : t.head? ≠ some 34) (h2 : t.head? ≠ some 92) : scan 34 acc (bsl (2 * m + 1) ++ t) = scan 34 (acc ++ bsl m ++ [92]) t := by
  have e : bsl (2 * m + 1) ++ t = bsl (2 * m) ++ (92 :: t) := by rw [bsl_snoc, List.append_assoc]; rfl
  rw [e, scan_even, scan_plain 34 92 _ t (by decide)]
  intro d hd
  cases h : escB 34 92 d with
  | false => rfl
  | true =>
    rcases ((escB_iff 34 92 d).1 h).2.2 with e | e
    · exact absurd (e ▸ hd) h1
    · exact absurd (e ▸ hd) h2

/-- From j up to k all are backslashes. -/
def allBsl (l : List UInt8) (j k : Nat) : Prop := ∀ i, j ≤ i → i < k → l[i]? = some 92

theorem allBsl_zero (l : List UInt8) (j : Nat) : allBsl l j j := fun i h1 h2 => by omega
theorem allBsl_step {l : List UInt8} {j k : Nat} (h : allBsl l j k) (hk : l[k]? = some 92) : allBsl l j (k + 1) := fun i h1 h2 => by
  by_cases e : i = k
  · subst e; exact hk
  · exact h i h1 (by omega)

theorem drop_run {l : List UInt8} {j : Nat} : ∀ (n : Nat), allBsl l j (j + n) → l.drop j = bsl n ++ l.drop (j + n)
  | 0, _ => by simp [bsl_zero]
  | n + 1, h => by
    have ih := drop_run n (fun i h1 h2 => h i h1 (by omega))
    have hn := h (j + n) (by omega) (by omega)
    rw [ih, drop_at hn, bsl_snoc, List.append_assoc]
    rfl

/-- What a run of backslashes does to the scan. -/
theorem run_even {l acc : List UInt8} {j k m : Nat} (hjk : j + 2 * m = k) (h : allBsl l j k) : scan 34 acc (l.drop j) = scan 34 (acc ++ bsl m) (l.drop k) := by
  subst hjk
  rw [drop_run (2 * m) h, scan_even]
theorem run_quote {l acc : List UInt8} {j k m : Nat} (hjk : j + (2 * m + 1) = k) (h : allBsl l j k) (hq : l[k]? = some 34) : scan 34 acc (l.drop j) = scan 34 (acc ++ bsl m ++ [34]) (l.drop (k + 1)) := by
  subst hjk
  rw [drop_run (2 * m + 1) h, drop_at hq, scan_odd_quote]
theorem run_other {l acc : List UInt8} {j k m : Nat} (hjk : j + (2 * m + 1) = k) (h : allBsl l j k) (h1 : l[k]? ≠ some 34) (h2 : l[k]? ≠ some 92) : scan 34 acc (l.drop j) = scan 34 (acc ++ bsl m ++ [92]) (l.drop k) := by
  subst hjk
  rw [drop_run (2 * m + 1) h, scan_odd_other]
  · rw [List.head?_drop]; exact h1
  · rw [List.head?_drop]; exact h2
end Go.Proofs.Qxb6600544a.Un
