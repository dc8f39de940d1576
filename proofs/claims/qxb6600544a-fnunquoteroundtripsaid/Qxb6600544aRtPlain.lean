/-
  The plain law of the round trip: a value written in pieces is read back whole.
-/
import Derived.Test.Qxb6600544aUnqPlain
namespace Go.Proofs.Qxb6600544a.Un

/-- Must the byte be escaped? -/
def needs (single : Bool) (c : UInt8) : Bool := !single && (decide (c = 34) || decide (c = 92))
def enc (single : Bool) (c : UInt8) : List UInt8 := if needs single c = true then [92, c] else [c]
/-- The quote. -/
def quo (single : Bool) : UInt8 := if single = true then 39 else 34
/-- One byte more: the pieces that are closed, and the open one. -/
def stp (single : Bool) (st : List (List UInt8) × List UInt8) (c : UInt8) : List (List UInt8) × List UInt8 :=
  if c = 10 then (st.1 ++ [st.2], []) else (st.1, st.2 ++ enc single c)
def run (single : Bool) (v : List UInt8) : List (List UInt8) × List UInt8 := v.foldl (stp single) ([], [])

theorem run_nil (single : Bool) : run single [] = ([], []) := rfl
theorem run_snoc (single : Bool) (v : List UInt8) (c : UInt8) : run single (v ++ [c]) = stp single (run single v) c := by
  unfold run; rw [List.foldl_append]; rfl
theorem run_line (single : Bool) (v : List UInt8) : run single (v ++ [10]) = ((run single v).1 ++ [(run single v).2], []) := by
  rw [run_snoc, stp, if_pos rfl]
theorem run_byte (single : Bool) (v : List UInt8) (c : UInt8) (h : c ≠ 10) : run single (v ++ [c]) = ((run single v).1, (run single v).2 ++ enc single c) := by
  rw [run_snoc, stp, if_neg h]

/-- What unquote makes of a list of pieces. -/
def U (q : UInt8) (S : List (List UInt8)) (post : List (List UInt8)) (i : Nat) : List UInt8 × List UInt8 × Nat × Bool :=
  unqs q [] (S.headD []) i (S.tail ++ post)

theorem U_snoc (q : UInt8) (S : List (List UInt8)) (h : S ≠ []) (t : List UInt8) (post : List (List UInt8)) (i : Nat) : U q (S ++ [t]) post i = U q S (t :: post) i := by
  cases S with
  | nil => exact absurd rfl h
  | cons s S => simp [U]

theorem scan_enc (single : Bool) (c : UInt8) (acc t : List UInt8) (hs : single = true → c ≠ 39) : scan (quo single) acc (enc single c ++ t) = scan (quo single) (acc ++ [c]) t := by
  cases single with
  | true =>
    have hq : quo true = 39 := rfl
    have he : enc true c = [c] := by simp [enc, needs]
    rw [hq, he]
    refine scan_plain 39 c acc t (hs rfl) fun d _ => ?_
    cases h : escB 39 c d with
    | false => rfl
    | true => exact absurd ((escB_iff 39 c d).1 h).1 (by decide)
  | false =>
    have hq : quo false = 34 := rfl
    rw [hq]
    by_cases h1 : c = 34
    · have he : enc false c = [92, c] := by simp [enc, needs, h1]
      rw [he]
      exact scan_esc 34 92 c acc t (by decide) ((escB_iff 34 92 c).2 ⟨rfl, rfl, Or.inl h1⟩)
    · by_cases h2 : c = 92
      · have he : enc false c = [92, c] := by simp [enc, needs, h2]
        rw [he]
        exact scan_esc 34 92 c acc t (by decide) ((escB_iff 34 92 c).2 ⟨rfl, rfl, Or.inr h2⟩)
      · have he : enc false c = [c] := by simp [enc, needs, h1, h2]
        rw [he]
        refine scan_plain 34 c acc t h1 fun d _ => ?_
        cases h : escB 34 c d with
        | false => rfl
        | true => exact absurd ((escB_iff 34 c d).1 h).2.1 h2

theorem run_reads (single : Bool) : ∀ (n : Nat) (v : List UInt8), v.length = n → (single = true → ∀ x ∈ v, x ≠ 39) → ∀ (t : List UInt8) (post : List (List UInt8)) (i : Nat),
    U (quo single) ((run single v).1 ++ [(run single v).2 ++ t]) post i = unqs (quo single) v t (i + (run single v).1.length) post
  | 0, v, hn, _, t, post, i => by
    obtain rfl := List.length_eq_zero_iff.1 hn
    rw [run_nil]
    simp [U]
  | n + 1, v, hn, hs, t, post, i => by
    rcases List.eq_nil_or_concat v with h | ⟨r, c, h⟩
    · rw [h] at hn; simp at hn
    · rw [List.concat_eq_append] at h
      subst h
      have ih := run_reads single n r (by simpa using hn) (fun e x hx => hs e x (by simp [hx]))
      by_cases hc : c = 10
      · subst hc
        rw [run_line]
        have h1 := ih [] (t :: post) i
        rw [List.append_nil] at h1
        rw [List.nil_append, U_snoc _ _ (by simp), h1, unqs_next _ _ _ _ _ _ _ (scan_nil _ _)]
        simp [Nat.add_assoc]
      · rw [run_byte single r c hc]
        have h1 := ih (enc single c ++ t) post i
        rw [List.append_assoc, h1]
        exact unqs_scan _ _ _ _ _ _ _ (scan_enc single c r t (fun e => hs e c (by simp)))

/-- THE ROUND TRIP. -/
theorem round_trip (single : Bool) (v after : List UInt8) (post : List (List UInt8)) (i : Nat) (hs : single = true → ∀ x ∈ v, x ≠ 39) :
    U (quo single) ((run single v).1 ++ [(run single v).2 ++ (quo single :: after)]) post i = (v, after, i + (run single v).1.length, true) := by
  rw [run_reads single v.length v rfl hs]
  exact unqs_hit _ _ _ _ _ _ _ (scan_quote _ _ _)

/-! ### Lengths -/
theorem enc_len (single : Bool) (c : UInt8) : (enc single c).length ≤ 2 := by
  unfold enc; split <;> simp
theorem run_len (single : Bool) : ∀ (n : Nat) (v : List UInt8), v.length = n → (run single v).1.length ≤ n ∧ (run single v).2.length ≤ 2 * n ∧ ∀ x ∈ (run single v).1, x.length ≤ 2 * n
  | 0, v, hn => by
    obtain rfl := List.length_eq_zero_iff.1 hn
    rw [run_nil]; simp
  | n + 1, v, hn => by
    rcases List.eq_nil_or_concat v with h | ⟨r, c, h⟩
    · rw [h] at hn; simp at hn
    · rw [List.concat_eq_append] at h
      subst h
      obtain ⟨i1, i2, i3⟩ := run_len single n r (by simpa using hn)
      by_cases hc : c = 10
      · subst hc
        rw [run_line]
        refine ⟨by simp; omega, by simp, fun x hx => ?_⟩
        rcases List.mem_append.1 hx with h | h
        · have := i3 x h; omega
        · have : x = (run single r).2 := by simpa using h
          rw [this]; omega
      · rw [run_byte single r c hc]
        have := enc_len single c
        refine ⟨by simp; omega, by simp; omega, fun x hx => by have := i3 x hx; omega⟩
end Go.Proofs.Qxb6600544a.Un
