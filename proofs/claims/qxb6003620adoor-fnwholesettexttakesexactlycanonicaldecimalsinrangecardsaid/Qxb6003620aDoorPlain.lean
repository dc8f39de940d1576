/-
  The plain law of this seat: decimal numerals as lists of bytes. No Go in sight.
-/
import Derived.Lib.ParseIntB
import Derived.Lib.ItoaMem
import Derived.Laws.RangeAny
namespace Go.Proofs.Qxb6003620aDoor.Pl
open Go.Lib

def digB (c : UInt8) : Bool := decide (48 ≤ c.toNat) && decide (c.toNat ≤ 57)
def allDig (l : List UInt8) : Bool := l.all digB
def step (a : Nat) (c : UInt8) : Nat := a * 10 + (c.toNat - 48)
def val (acc : Nat) (l : List UInt8) : Nat := l.foldl step acc
theorem val_nil (acc : Nat) : val acc [] = acc := rfl
theorem val_cons (acc : Nat) (c : UInt8) (r : List UInt8) : val acc (c :: r) = val (acc * 10 + (c.toNat - 48)) r := by
  unfold val; rw [List.foldl_cons, step]

theorem digB_iff (c : UInt8) : digB c = true ↔ 48 ≤ c.toNat ∧ c.toNat ≤ 57 := by
  unfold digB; simp

theorem val_snoc (acc : Nat) (l : List UInt8) (c : UInt8) : val acc (l ++ [c]) = val acc l * 10 + (c.toNat - 48) := by
  induction l generalizing acc with
  | nil => rw [List.nil_append, val_cons, val_nil, val_nil]
  | cons d l ih => simp only [List.cons_append, val_cons]; exact ih _

theorem val_ge (acc : Nat) (l : List UInt8) : acc * 10 ^ l.length ≤ val acc l := by
  induction l generalizing acc with
  | nil => simp [val_nil]
  | cons c l ih =>
    simp only [val_cons, List.length_cons, Nat.pow_succ]
    have h := ih (acc * 10 + (c.toNat - 48))
    have h2 : acc * 10 * 10 ^ l.length ≤ (acc * 10 + (c.toNat - 48)) * 10 ^ l.length := Nat.mul_le_mul_right _ (by omega)
    calc acc * (10 ^ l.length * 10) = acc * 10 * 10 ^ l.length := by rw [Nat.mul_assoc, Nat.mul_comm (10 ^ l.length) 10]
      _ ≤ _ := h2
      _ ≤ _ := h

theorem val_lt (acc : Nat) (l : List UInt8) (h : allDig l = true) : val acc l < (acc + 1) * 10 ^ l.length := by
  induction l generalizing acc with
  | nil => simp [val_nil]
  | cons c l ih =>
    simp only [allDig, List.all_cons, Bool.and_eq_true] at h
    have hc := (digB_iff c).1 h.1
    simp only [val_cons, List.length_cons, Nat.pow_succ]
    have h1 := ih (acc * 10 + (c.toNat - 48)) h.2
    have h2 : (acc * 10 + (c.toNat - 48) + 1) * 10 ^ l.length ≤ ((acc + 1) * 10) * 10 ^ l.length := Nat.mul_le_mul_right _ (by omega)
    calc val (acc * 10 + (c.toNat - 48)) l < _ := h1
      _ ≤ _ := h2
      _ = (acc + 1) * (10 ^ l.length * 10) := by rw [Nat.mul_assoc, Nat.mul_comm (10 ^ l.length) 10]

theorem val_ge1 (acc : Nat) (l : List UInt8) : acc ≤ val acc l := by
  have h := val_ge acc l
  have h1 : 1 ≤ 10 ^ l.length := Nat.one_le_pow _ _ (by decide)
  calc acc = acc * 1 := by omega
    _ ≤ acc * 10 ^ l.length := Nat.mul_le_mul_left _ h1
    _ ≤ _ := h

theorem parseUintM_dig (acc : Nat) (l : List UInt8) (h : allDig l = true) (ha : acc < 2 ^ 64) :
    parseUintM (2 ^ 64 - 1) acc l = if val acc l < 2 ^ 64 then .ok (val acc l) else .range := by
  induction l generalizing acc with
  | nil => simp [parseUintM, val_nil, ha]
  | cons c l ih =>
    simp only [allDig, List.all_cons, Bool.and_eq_true] at h
    have hc := (digB_iff c).1 h.1
    have hv := val_ge1 (acc * 10 + (c.toNat - 48)) l
    have e : val acc (c :: l) = val (acc * 10 + (c.toNat - 48)) l := val_cons _ _ _
    rw [e]
    simp only [parseUintM, hc, and_self, if_true]
    by_cases h1 : 1844674407370955162 ≤ acc
    · rw [if_pos h1, if_neg (by omega)]
    · rw [if_neg h1]
      by_cases h2 : 2 ^ 64 - 1 < acc * 10 + (c.toNat - 48)
      · rw [if_pos h2, if_neg (by omega)]
      · rw [if_neg h2]
        exact ih _ h.2 (by omega)

/-- How the library's parser ends at a text of digits alone. -/
theorem parseIntB_dig (l : List UInt8) (hne : l ≠ []) (h : allDig l = true) :
    parseIntB 64 l = if val 0 l ≤ 9223372036854775807 then .ok (val 0 l : Int) else .range := by
  cases l with
  | nil => exact absurd rfl hne
  | cons c r =>
    have h' := h
    simp only [allDig, List.all_cons, Bool.and_eq_true] at h
    have hc := (digB_iff c).1 h.1
    have e43 : ¬ (c.toNat = 43) := by omega
    have e45 : ¬ (c.toNat = 45) := by omega
    have hp := parseUintM_dig 0 (c :: r) h' (by decide)
    simp only [parseIntB, e43, e45, or_self, if_false, parseUintB, hne, hp]
    by_cases h1 : val 0 (c :: r) < 2 ^ 64
    · rw [if_pos h1]
      by_cases h2 : val 0 (c :: r) ≤ 9223372036854775807
      · rw [if_pos h2]
        simp only [not_false_eq_true, true_and, false_and, if_false]
        rw [if_neg (by omega)]
      · rw [if_neg h2]
        simp only [not_false_eq_true, true_and]
        rw [if_pos (by omega)]
    · rw [if_neg h1, if_neg (by omega)]

def lead0 (l : List UInt8) : Bool := l.head? == some 48

/-- What setText takes: the number, or nothing. -/
def setN (l : List UInt8) : Option Nat :=
  if lead0 l = true ∨ allDig l = false ∨ l = [] then none else if val 0 l ≤ 9223372036854775807 then some (val 0 l) else none

theorem head_dig {c : UInt8} {r : List UInt8} (h0 : lead0 (c :: r) = false) (h : allDig (c :: r) = true) : 1 ≤ c.toNat - 48 := by
  simp only [allDig, List.all_cons, Bool.and_eq_true] at h
  have hc := (digB_iff c).1 h.1
  have h1 : c ≠ 48 := by simpa [lead0] using h0
  have h2 : c.toNat ≠ 48 := fun e => h1 (UInt8.toNat_inj.1 e)
  omega

/-- Too long a numeral is out of range. -/
theorem long_big (l : List UInt8) (h0 : lead0 l = false) (h : allDig l = true) (hl : 19 < l.length) : 9223372036854775807 < val 0 l := by
  cases l with
  | nil => simp at hl
  | cons c r =>
    have hh := head_dig h0 h
    simp only [List.length_cons] at hl
    simp only [val_cons]
    have h1 := val_ge (0 * 10 + (c.toNat - 48)) r
    have h2 : 10 ^ 19 ≤ 10 ^ r.length := Nat.pow_le_pow_right (by decide) (by omega)
    have h3 : 1 * 10 ^ r.length ≤ (0 * 10 + (c.toNat - 48)) * 10 ^ r.length := Nat.mul_le_mul_right _ (by omega)
    omega

theorem short_small (l : List UInt8) (h : allDig l = true) (hl : l.length ≤ 19) : val 0 l < 10000000000000000000 := by
  have h1 := val_lt 0 l h
  have h2 : 10 ^ l.length ≤ 10 ^ 19 := Nat.pow_le_pow_right (by decide) hl
  omega

/-- A numeral that is taken is at least 1. -/
theorem setN_pos {l : List UInt8} {n : Nat} (h : setN l = some n) : 1 ≤ n ∧ n ≤ 9223372036854775807 ∧ n = val 0 l ∧ lead0 l = false ∧ allDig l = true ∧ l ≠ [] := by
  unfold setN at h
  split at h
  · cases h
  · rename_i hx
    split at h
    · rename_i hv
      injection h with h
      have h0 : lead0 l = false := by cases e : lead0 l <;> simp_all
      have h1 : allDig l = true := by cases e : allDig l <;> simp_all
      have h2 : l ≠ [] := fun e => hx (Or.inr (Or.inr e))
      refine ⟨?_, by omega, h.symm, h0, h1, h2⟩
      cases l with
      | nil => exact absurd rfl h2
      | cons c r =>
        have hh := head_dig h0 h1
        have := val_ge1 (0 * 10 + (c.toNat - 48)) r
        simp only [val_cons] at h
        omega
    · cases h

/-! ### The numeral of a number -/
theorem ofNat_dig (c : UInt8) (h : digB c = true) : UInt8.ofNat (48 + (c.toNat - 48)) = c := by
  have hc := (digB_iff c).1 h
  rw [show 48 + (c.toNat - 48) = c.toNat by omega]
  exact UInt8.ofNat_toNat

theorem rev_cases {α : Type} (l : List α) : l = [] ∨ ∃ r c, l = r ++ [c] := by
  rcases List.eq_nil_or_concat l with h | ⟨r, c, h⟩
  · exact Or.inl h
  · exact Or.inr ⟨r, c, by simpa using h⟩

theorem lead0_append {r : List UInt8} (t : List UInt8) (h : r ≠ []) : lead0 (r ++ t) = lead0 r := by
  cases r with
  | nil => exact absurd rfl h
  | cons c r => rfl

theorem dec_val_len : ∀ (n : Nat) (l : List UInt8), l.length = n → lead0 l = false → allDig l = true → l ≠ [] → decDigits (val 0 l) = l
  | 0, l, hn, _, _, hne => absurd (List.length_eq_zero_iff.1 hn) hne
  | n + 1, l, hn, h0, h, hne => by
    rcases rev_cases l with e | ⟨r, c, rfl⟩
    · exact absurd e hne
    · have hd : allDig r = true ∧ digB c = true := by simpa [allDig] using h
      have hc := (digB_iff c).1 hd.2
      rw [val_snoc]
      by_cases hr : r = []
      · subst hr
        rw [val_nil, List.nil_append]
        rw [decDigits_one (by omega), show 0 * 10 + (c.toNat - 48) = c.toNat - 48 by omega, ofNat_dig c hd.2]
      · have hr0 : lead0 r = false := by rw [← lead0_append [c] hr]; exact h0
        have ih := dec_val_len n r (by simpa using hn) hr0 hd.1 hr
        have hpos : 1 ≤ val 0 r := by
          cases r with
          | nil => exact absurd rfl hr
          | cons d r =>
            have hh := head_dig hr0 hd.1
            have := val_ge1 (0 * 10 + (d.toNat - 48)) r
            simp only [val_cons]
            omega
        rw [decDigits, dif_neg (by omega), show (val 0 r * 10 + (c.toNat - 48)) / 10 = val 0 r by omega, show (val 0 r * 10 + (c.toNat - 48)) % 10 = c.toNat - 48 by omega, ih, ofNat_dig c hd.2]

/-- The numeral of what a text spells is that text. -/
theorem dec_val (l : List UInt8) (h0 : lead0 l = false) (h : allDig l = true) (hne : l ≠ []) : decDigits (val 0 l) = l := dec_val_len _ l rfl h0 h hne

theorem toNat_ofNat_dig {d : Nat} (h : d < 10) : (UInt8.ofNat (48 + d)).toNat = 48 + d := by
  rw [UInt8.toNat_ofNat']; omega

theorem digB_ofNat {d : Nat} (h : d < 10) : digB (UInt8.ofNat (48 + d)) = true := by
  rw [digB_iff, toNat_ofNat_dig h]; omega

/-- What a numeral is: digits, not empty, and it spells its number; the first is no nought unless the number is nought. -/
theorem dec_facts : ∀ (u : Nat), allDig (decDigits u) = true ∧ decDigits u ≠ [] ∧ val 0 (decDigits u) = u ∧ (1 ≤ u → lead0 (decDigits u) = false) := by
  intro u
  induction u using Nat.strongRecOn with
  | _ u ih =>
    by_cases hu : u < 10
    · rw [decDigits_one hu]
      have hb := digB_ofNat hu
      have ht := toNat_ofNat_dig hu
      generalize UInt8.ofNat (48 + u) = c at hb ht
      refine ⟨by simp [allDig, hb], by simp, by rw [val_cons, val_nil, ht]; omega, fun h1 => ?_⟩
      have hne : c ≠ 48 := fun e => by
        have := congrArg UInt8.toNat e
        have e48 : (48 : UInt8).toNat = 48 := rfl
        omega
      simp [lead0, hne]
    · obtain ⟨i1, i2, i3, i4⟩ := ih (u / 10) (by omega)
      have hd : u % 10 < 10 := by omega
      have hb := digB_ofNat hd
      have ht := toNat_ofNat_dig hd
      rw [decDigits, dif_neg hu]
      generalize UInt8.ofNat (48 + u % 10) = c at hb ht
      refine ⟨?_, by simp, ?_, fun _ => ?_⟩
      · have : (decDigits (u / 10)).all digB = true := i1
        simp [allDig, this, hb]
      · rw [val_snoc, i3, ht]; omega
      · rw [lead0_append _ i2]; exact i4 (by omega)

theorem setN_dec (u : Nat) (h1 : 1 ≤ u) (h2 : u ≤ 9223372036854775807) : setN (decDigits u) = some u := by
  obtain ⟨i1, i2, i3, i4⟩ := dec_facts u
  unfold setN
  rw [if_neg (by simp [i1, i2, i4 h1]), i3, if_pos h2]

theorem setN_minus (r : List UInt8) : setN (45 :: r) = none := by
  unfold setN
  rw [if_pos (Or.inr (Or.inl (by simp [allDig, digB])))]

theorem least_text : decDigits 9223372036854775808 = [57, 50, 50, 51, 51, 55, 50, 48, 51, 54, 56, 53, 52, 55, 55, 53, 56, 48, 56] :=
  dec_val [57, 50, 50, 51, 51, 55, 50, 48, 51, 54, 56, 53, 52, 55, 55, 53, 56, 48, 56] (by decide) (by decide) (by decide)

end Go.Proofs.Qxb6003620aDoor.Pl
