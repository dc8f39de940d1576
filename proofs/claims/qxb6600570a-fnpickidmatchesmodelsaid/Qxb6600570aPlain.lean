/-
  The plain side of seat b6600570a: the table that ids and vals make, the lists of true ids, and the one answer.
-/
import Derived.Test.Qxb6600570aRows
namespace Go.Proofs.Qxb6600570a

/-! ### lists without repeats -/
theorem nodup_len : ∀ (A B : List Int), A.Nodup → (∀ x ∈ A, x ∈ B) → A.length ≤ B.length
  | [], _, _, _ => by simp
  | a :: r, B, hn, hs => by
    obtain ⟨h1, h2⟩ := List.nodup_cons.1 hn
    have ha : a ∈ B := hs a (by simp)
    have := nodup_len r (B.erase a) h2 (fun x hx => by
      have hne : x ≠ a := fun e => h1 (e ▸ hx)
      exact (List.mem_erase_of_ne hne).2 (hs x (by simp [hx])))
    rw [List.length_erase_of_mem ha] at this
    have hp : 0 < B.length := List.length_pos_of_mem ha
    simp only [List.length_cons]
    omega

def span (lo : Int) (n : Nat) : List Int := (List.range n).map (fun i : Nat => lo + (i : Int))
theorem span_nodup (lo : Int) (n : Nat) : (span lo n).Nodup := by
  unfold span
  rw [List.Nodup, List.pairwise_map]
  refine List.Pairwise.imp ?_ (List.nodup_range (n := n))
  intro a b h e
  exact h (by omega)
theorem mem_span {lo x : Int} {n : Nat} : x ∈ span lo n ↔ lo ≤ x ∧ x < lo + (n : Int) := by
  unfold span
  rw [List.mem_map]
  constructor
  · rintro ⟨i, hi, rfl⟩
    have := List.mem_range.1 hi
    omega
  · intro h
    exact ⟨(x - lo).toNat, List.mem_range.2 (by omega), by omega⟩
theorem span_len (lo : Int) (n : Nat) : (span lo n).length = n := by simp [span]

/-! ### the table -/
def upd (T : Int → Option Bool) (k : Int) (v : Bool) : Int → Option Bool := fun x => if x = k then some v else T x
def pv (vals : List Bool) (i : Nat) : Bool := vals.getD i true
def tab (ids : List Int) (vals : List Bool) : Nat → Int → Option Bool
  | 0 => fun _ => none
  | k + 1 => upd (tab ids vals k) (ids.getD k 0) (pv vals k)
def tru (T : Int → Option Bool) (x : Int) : Bool := (T x).getD false

theorem tab_succ (ids : List Int) (vals : List Bool) (k : Nat) (x : Int) : tab ids vals (k + 1) x = if x = ids.getD k 0 then some (pv vals k) else tab ids vals k x := rfl

/-- The last of the first k that is x, or none of them is. -/
theorem tab_last (ids : List Int) (vals : List Bool) (x : Int) : ∀ k, ((∀ i, i < k → ids.getD i 0 ≠ x) ∧ tab ids vals k x = none) ∨
    ∃ i, i < k ∧ ids.getD i 0 = x ∧ (∀ j, i < j → j < k → ids.getD j 0 ≠ x) ∧ tab ids vals k x = some (pv vals i)
  | 0 => Or.inl ⟨fun i h => by omega, rfl⟩
  | k + 1 => by
    rw [tab_succ]
    by_cases hx : x = ids.getD k 0
    · right
      exact ⟨k, by omega, hx.symm, fun j h1 h2 => by omega, by rw [if_pos hx]⟩
    · rw [if_neg hx]
      rcases tab_last ids vals x k with ⟨h1, h2⟩ | ⟨i, h1, h2, h3, h4⟩
      · refine Or.inl ⟨fun i hi => ?_, h2⟩
        by_cases e : i = k
        · rw [e]; exact fun e' => hx e'.symm
        · exact h1 i (by omega)
      · refine Or.inr ⟨i, by omega, h2, fun j hj1 hj2 => ?_, h4⟩
        by_cases e : j = k
        · rw [e]; exact fun e' => hx e'.symm
        · exact h3 j hj1 (by omega)

theorem tab_key (ids : List Int) (vals : List Bool) (x : Int) (k : Nat) : (tab ids vals k x).isSome = true ↔ ∃ i, i < k ∧ ids.getD i 0 = x := by
  rcases tab_last ids vals x k with ⟨h1, h2⟩ | ⟨i, h1, h2, h3, h4⟩
  · rw [h2]
    constructor
    · intro h; cases h
    · rintro ⟨i, hi, e⟩; exact absurd e (h1 i hi)
  · rw [h4]
    exact ⟨fun _ => ⟨i, h1, h2⟩, fun _ => rfl⟩

/-! ### the true ids of a table, from lo to hi -/
def Trues (T : Int → Option Bool) (lo hi : Int) (n : Nat) : Prop := ∃ S : List Int, S.Nodup ∧ S.length = n ∧ ∀ x, x ∈ S ↔ (lo ≤ x ∧ x ≤ hi ∧ tru T x = true)

theorem Trues.all {T : Int → Option Bool} {lo hi : Int} {n : Nat} (h : Trues T lo hi n) (hle : lo ≤ hi) (ha : ∀ x, lo ≤ x → x ≤ hi → tru T x = true) : (n : Int) = hi - lo + 1 := by
  obtain ⟨S, h1, rfl, h3⟩ := h
  have e1 := nodup_len S (span lo (hi - lo + 1).toNat) h1 (fun x hx => mem_span.2 (by have := (h3 x).1 hx; omega))
  have e2 := nodup_len (span lo (hi - lo + 1).toNat) S (span_nodup _ _) (fun x hx => by
    have := mem_span.1 hx
    exact (h3 x).2 ⟨by omega, by omega, ha x (by omega) (by omega)⟩)
  rw [span_len] at e1 e2
  omega

theorem Trues.put {T : Int → Option Bool} {lo hi : Int} {n : Nat} (h : Trues T lo hi n) {x : Int} (h1 : lo ≤ x) (h2 : x ≤ hi) (hx : tru T x = false) : Trues (upd T x true) lo hi (n + 1) := by
  obtain ⟨S, a1, a2, a3⟩ := h
  refine ⟨x :: S, List.nodup_cons.2 ⟨fun hm => ?_, a1⟩, by simp [a2], fun y => ?_⟩
  · have := ((a3 x).1 hm).2.2
    rw [hx] at this; cases this
  · rw [List.mem_cons, a3]
    by_cases e : y = x
    · subst e
      simp [tru, upd, h1, h2]
    · simp [tru, upd, e]

/-- One more of the ids looked at. -/
def Upto (ids : List Int) (vals : List Bool) (lo hi : Int) (k n : Nat) : Prop := ∃ S : List Int, S.Nodup ∧ S.length = n ∧
  ∀ x, x ∈ S ↔ (lo ≤ x ∧ x ≤ hi ∧ ∃ i, i < k ∧ ids.getD i 0 = x ∧ (∀ j, i < j → j < ids.length → ids.getD j 0 ≠ x) ∧ pv vals i = true)

theorem upto_start (ids : List Int) (vals : List Bool) (lo hi : Int) : Upto ids vals lo hi 0 0 := ⟨[], List.nodup_nil, rfl, fun x => by simp⟩
theorem upto_pass {ids : List Int} {vals : List Bool} {lo hi : Int} {k n : Nat} (h : Upto ids vals lo hi k n)
    (hno : ¬ (lo ≤ ids.getD k 0 ∧ ids.getD k 0 ≤ hi ∧ (∀ j, k < j → j < ids.length → ids.getD j 0 ≠ ids.getD k 0) ∧ pv vals k = true)) : Upto ids vals lo hi (k + 1) n := by
  obtain ⟨S, a1, a2, a3⟩ := h
  refine ⟨S, a1, a2, fun x => ?_⟩
  rw [a3]
  constructor
  · rintro ⟨b1, b2, i, c1, c2⟩
    exact ⟨b1, b2, i, by omega, c2⟩
  · rintro ⟨b1, b2, i, c1, c2, c3, c4⟩
    by_cases e : i = k
    · subst e
      exact absurd ⟨by rw [c2]; exact b1, by rw [c2]; exact b2, fun j d1 d2 => by rw [c2]; exact c3 j d1 d2, c4⟩ hno
    · exact ⟨b1, b2, i, by omega, c2, c3, c4⟩
theorem upto_take {ids : List Int} {vals : List Bool} {lo hi : Int} {k n : Nat} (h : Upto ids vals lo hi k n) (hk : k < ids.length)
    (h1 : lo ≤ ids.getD k 0) (h2 : ids.getD k 0 ≤ hi) (h3 : ∀ j, k < j → j < ids.length → ids.getD j 0 ≠ ids.getD k 0) (h4 : pv vals k = true) : Upto ids vals lo hi (k + 1) (n + 1) := by
  obtain ⟨S, a1, a2, a3⟩ := h
  refine ⟨ids.getD k 0 :: S, List.nodup_cons.2 ⟨fun hm => ?_, a1⟩, by simp [a2], fun x => ?_⟩
  · obtain ⟨_, _, i, c1, c2, c3, _⟩ := (a3 _).1 hm
    exact c3 k c1 hk rfl
  · rw [List.mem_cons, a3]
    constructor
    · rintro (rfl | ⟨b1, b2, i, c1, c2⟩)
      · exact ⟨h1, h2, k, by omega, rfl, h3, h4⟩
      · exact ⟨b1, b2, i, by omega, c2⟩
    · rintro ⟨b1, b2, i, c1, c2, c3, c4⟩
      by_cases e : i = k
      · subst e
        exact Or.inl c2.symm
      · exact Or.inr ⟨b1, b2, i, by omega, c2, c3, c4⟩
theorem upto_end {ids : List Int} {vals : List Bool} {lo hi : Int} {n : Nat} (h : Upto ids vals lo hi ids.length n) : Trues (tab ids vals ids.length) lo hi n := by
  obtain ⟨S, a1, a2, a3⟩ := h
  refine ⟨S, a1, a2, fun x => ?_⟩
  rw [a3]
  constructor
  · rintro ⟨b1, b2, i, c1, c2, c3, c4⟩
    refine ⟨b1, b2, ?_⟩
    rcases tab_last ids vals x ids.length with ⟨d1, _⟩ | ⟨i', d1, d2, d3, d4⟩
    · exact absurd c2 (d1 i c1)
    · have : i = i' := by
        rcases Nat.lt_trichotomy i i' with g | g | g
        · exact absurd d2 (c3 i' g d1)
        · exact g
        · exact absurd c2 (d3 i g c1)
      subst this
      simp [tru, d4, c4]
  · rintro ⟨b1, b2, b3⟩
    refine ⟨b1, b2, ?_⟩
    rcases tab_last ids vals x ids.length with ⟨_, d2⟩ | ⟨i', d1, d2, d3, d4⟩
    · simp [tru, d2] at b3
    · refine ⟨i', d1, d2, d3, ?_⟩
      simpa [tru, d4] using b3

/-! ### what the pick answers -/
/-- The first that is not true, from lo on; or none is. -/
def Free (T : Int → Option Bool) (lo hi id : Int) (ok : Bool) : Prop :=
  (ok = true ∧ lo ≤ id ∧ id ≤ hi ∧ tru T id = false ∧ ∀ y, lo ≤ y → y < id → tru T y = true) ∨ (ok = false ∧ id = 0 ∧ ∀ y, lo ≤ y → y ≤ hi → tru T y = true)
/-- Where the search starts: past every key. -/
def Start (T : Int → Option Bool) (lo hi st : Int) : Prop :=
  lo ≤ st ∧ st ≤ hi + 1 ∧ (∀ x, lo ≤ x → x ≤ hi → (T x).isSome = true → x < st) ∧ (st = lo ∨ (lo ≤ st - 1 ∧ (T (st - 1)).isSome = true))
def AnsUp (T : Int → Option Bool) (lo hi id : Int) (ok : Bool) : Prop :=
  (hi < lo ∧ id = 0 ∧ ok = false) ∨ (lo ≤ hi ∧ ∃ st, Start T lo hi st ∧ ((st ≤ hi ∧ id = st ∧ ok = true) ∨ (st = hi + 1 ∧ Free T lo hi id ok)))

theorem Start.eq {T : Int → Option Bool} {lo hi a b : Int} (h : Start T lo hi a) (k : Start T lo hi b) : a = b := by
  obtain ⟨a1, a2, a3, a4⟩ := h
  obtain ⟨b1, b2, b3, b4⟩ := k
  rcases Int.lt_trichotomy a b with g | g | g
  · rcases b4 with rfl | ⟨c1, c2⟩
    · omega
    · have := a3 (b - 1) c1 (by omega) c2
      omega
  · exact g
  · rcases a4 with rfl | ⟨c1, c2⟩
    · omega
    · have := b3 (a - 1) c1 (by omega) c2
      omega
theorem Free.eq {T : Int → Option Bool} {lo hi a b : Int} {ok ok' : Bool} (h : Free T lo hi a ok) (k : Free T lo hi b ok') : a = b ∧ ok = ok' := by
  rcases h with ⟨rfl, a1, a2, a3, a4⟩ | ⟨rfl, rfl, a1⟩ <;> rcases k with ⟨rfl, b1, b2, b3, b4⟩ | ⟨rfl, rfl, b1⟩
  · refine ⟨?_, rfl⟩
    rcases Int.lt_trichotomy a b with g | g | g
    · have := b4 a a1 g
      rw [a3] at this; cases this
    · exact g
    · have := a4 b b1 g
      rw [b3] at this; cases this
  · have := b1 a a1 a2
    rw [a3] at this; cases this
  · have := a1 b b1 b2
    rw [b3] at this; cases this
  · exact ⟨rfl, rfl⟩
theorem AnsUp.eq {T : Int → Option Bool} {lo hi a b : Int} {ok ok' : Bool} (h : AnsUp T lo hi a ok) (k : AnsUp T lo hi b ok') : a = b ∧ ok = ok' := by
  rcases h with ⟨a1, rfl, rfl⟩ | ⟨a1, s, a2, a3⟩ <;> rcases k with ⟨b1, rfl, rfl⟩ | ⟨b1, s', b2, b3⟩
  · exact ⟨rfl, rfl⟩
  · omega
  · omega
  · have := a2.eq b2
    subst this
    rcases a3 with ⟨c1, rfl, rfl⟩ | ⟨c1, c2⟩ <;> rcases b3 with ⟨d1, rfl, rfl⟩ | ⟨d1, d2⟩
    · exact ⟨rfl, rfl⟩
    · omega
    · omega
    · exact c2.eq d2

/-- The same, looked at from the other end. -/
def flip (T : Int → Option Bool) : Int → Option Bool := fun x => T (-x)
def Ans (sys : Bool) (T : Int → Option Bool) (lo hi id : Int) (ok : Bool) : Prop := if sys then AnsUp (flip T) (-hi) (-lo) (-id) ok else AnsUp T lo hi id ok
theorem Ans.eq {sys : Bool} {T : Int → Option Bool} {lo hi a b : Int} {ok ok' : Bool} (h : Ans sys T lo hi a ok) (k : Ans sys T lo hi b ok') : a = b ∧ ok = ok' := by
  unfold Ans at h k
  cases sys
  · exact AnsUp.eq h k
  · have := AnsUp.eq h k
    exact ⟨by omega, this.2⟩

/-- What every pick is: an untaken id in the range, or none and nothing is free. -/
def Picked (T : Int → Option Bool) (lo hi id : Int) (ok : Bool) : Prop :=
  (ok = true ∧ lo ≤ id ∧ id ≤ hi ∧ tru T id = false) ∨ (ok = false ∧ id = 0 ∧ ∀ y, lo ≤ y → y ≤ hi → tru T y = true)

end Go.Proofs.Qxb6600570a
