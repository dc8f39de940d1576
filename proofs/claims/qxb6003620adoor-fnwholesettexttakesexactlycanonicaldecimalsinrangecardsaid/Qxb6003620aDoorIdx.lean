/-
  Whether a text holds a rune that is no digit, by its bytes.
-/
import Derived.Test.Qxb6003620aDoorPlain
import Derived.Shelf.GgClosure.StringsIndexFunc
namespace Go.Proofs.Qxb6003620aDoor.Pl
open Go.Lib

def nd (r : Nat) : Bool := decide (r < 48) || decide (57 < r)

theorem nd_dig {c : UInt8} (h : digB c = true) : nd c.toNat = false := by
  have hc := (digB_iff c).1 h
  simp [nd]; omega
theorem nd_not {c : UInt8} (h : digB c = false) : nd c.toNat = true := by
  have hc : ¬ (48 ≤ c.toNat ∧ c.toNat ≤ 57) := fun e => by rw [(digB_iff c).2 e] at h; cases h
  simp [nd]; omega
theorem nd_high {r : Nat} (h : 128 ≤ r) : nd r = true := by simp [nd]; omega

/-- At a byte that is a digit the rune is that byte. -/
theorem dec_dig (s : ByteArray) (pos : Nat) (h : pos < s.size) (hd : digB (s[pos]'h) = true) : Utf8.decode s pos = ((s[pos]'h).toNat, 1) :=
  decode_ascii s pos h (by have := (digB_iff _).1 hd; omega)
theorem dec_not (s : ByteArray) (pos : Nat) (h : pos < s.size) (hd : digB (s[pos]'h) = false) : nd (Utf8.decode s pos).1 = true := by
  by_cases ha : (s[pos]'h).toNat < 128
  · rw [decode_ascii s pos h ha]; exact nd_not hd
  · exact nd_high (decode_high s pos h (by omega)).1

theorem idx_all (s : ByteArray) (hall : ∀ i (h : i < s.size), digB (s[i]'h) = true) : ∀ f pos, idxFuncFrom nd true s f pos = -1
  | 0, _ => rfl
  | f + 1, pos => by
    unfold idxFuncFrom
    by_cases h : pos < s.size
    · rw [if_pos h, dec_dig s pos h (hall pos h), if_neg (by simp [nd_dig (hall pos h)])]
      exact idx_all s hall f _
    · rw [if_neg h]

theorem idx_some (s : ByteArray) (i : Nat) (hi : i < s.size) (hn : digB (s[i]'hi) = false) : ∀ f pos, pos ≤ i → s.size ≤ pos + f → 0 ≤ idxFuncFrom nd true s f pos
  | 0, pos, h1, h2 => by omega
  | f + 1, pos, h1, h2 => by
    have h : pos < s.size := by omega
    unfold idxFuncFrom
    rw [if_pos h]
    cases hd : digB (s[pos]'h) with
    | true =>
      rw [dec_dig s pos h hd, if_neg (by simp [nd_dig hd])]
      have hne : pos ≠ i := fun e => by subst e; rw [hd] at hn; cases hn
      exact idx_some s i hi hn f _ (by omega) (by omega)
    | false => rw [if_pos (dec_not s pos h hd)]; omega

theorem idx_is (s : ByteArray) : decide (0 ≤ idxFunc nd true s) = !allDig s.data.toList := by
  cases e : allDig s.data.toList with
  | true =>
    have hall : ∀ i (h : i < s.size), digB (s[i]'h) = true := fun i h => by
      have := List.all_eq_true.1 e
      exact this _ (by rw [Array.mem_toList_iff]; exact Array.getElem_mem h)
    unfold idxFunc
    rw [idx_all s hall]
    rfl
  | false =>
    obtain ⟨c, hc, hn⟩ := List.all_eq_false.1 e
    rw [Array.mem_toList_iff] at hc
    obtain ⟨i, hi, hic⟩ := Array.getElem_of_mem hc
    have hi' : i < s.size := hi
    have hn' : digB (s[i]'hi') = false := by
      have : s[i]'hi' = c := hic
      rw [this]; simpa using hn
    have := idx_some s i hi' hn' s.size 0 (by omega) (by omega)
    unfold idxFunc
    simp [this]

theorem pref_is (l : List UInt8) : hasPrefix l [48] = lead0 l := by
  cases l with
  | nil => rfl
  | cons c r =>
    simp only [hasPrefix, List.isPrefixOf, Bool.and_true, lead0, List.head?_cons]
    by_cases h : c = 48
    · subst h; rfl
    · have h1 : ((48 : UInt8) == c) = false := by simp; exact fun e => h e.symm
      have h2 : (some c == some (48 : UInt8)) = false := by simp [h]
      rw [h1, h2]
end Go.Proofs.Qxb6003620aDoor.Pl
