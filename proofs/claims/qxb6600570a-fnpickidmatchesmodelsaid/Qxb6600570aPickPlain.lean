/-
  The plain steps of PickID's two searches, and the law of its range.
-/
import Derived.Test.Qxb6600570aSmall
namespace Go.Proofs.Qxb6600570a
open Go.RowKit Go.Maps

abbrev Rng (w : World) (b r n : Nat) (D : DataW Unit) (left : Lit → Bool) (cnt : Nat) : Prop := w.ranges Try.prog 3 (plainElem Try.prog 4) b r n D left cnt

theorem wpList_next_ib (w : World) {ops : Array Oper} {rest : List Oper} {o : Oper} {a : Act} {Q : Exit → Act → World → Prop} (hg : o.guard = none) (it : Operand) (hop : o.op = Op.next it false)
    (b r n : Nat) (D : DataW Unit) (left : Lit → Bool) (cnt : Nat) (hit : a.eval it = .pointer (some ⟨r, 0, none⟩)) (h : Rng w b r n D left cnt)
    (hDone : (∀ kl, left kl = false) → wpList Try.prog ops Q rest (a.put o.dst (.tuple #[.bool false])) w)
    (hMore : ∀ (x : Int) (c : Value) (w' : World) (cnt' : Nat), In x → left (.int .i64 x) = true → has D (.int .i64 x) = true → Rng w' b r n D (fun z => left z && !z.sameKey (.int .i64 x)) cnt' → cnt' < cnt →
      w.grownBy w' (some r) → (Instr.entry (.pointer (some ⟨r, 0, none⟩))).run Try.prog w' = .ok (.tuple #[.int .i64 x, c]) w' → wpList Try.prog ops Q rest (a.put o.dst (.tuple #[.bool true, .int .i64 x, c])) w') :
    wpList Try.prog ops Q (o :: rest) a w :=
  wpList_next_ranges w hg it hop 3 law3 (plainElem Try.prog 4) (Value.int .i64) (fun v : Value => v) (fun key kl hkey => by obtain ⟨x, rfl, _⟩ := Maps.keyOf_int_inv Try.underlying3 hkey; exact ⟨x, rfl⟩)
    (fun v _ _ => ⟨v, rfl⟩)
    b r n D left cnt hit h (fun _ => hDone) (fun x c kl y w' cnt' hkey hlk _ hat hrg hlt hgr _ hen => by
      obtain ⟨x', ex, rfl, hwx⟩ := Maps.keyOf_int_inv Try.underlying3 hkey
      cases ex
      exact hMore x c w' cnt' (in_of_wf hwx) hlk (has_true_of_atKey hat) hrg hlt hgr hen)

theorem struck {left : Lit → Bool} {x y : Int} (h : (left (.int .i64 y) && !(Lit.int .i64 y).sameKey (.int .i64 x)) = false) : left (.int .i64 y) = false ∨ y = x := by
  cases hl : left (.int .i64 y)
  · exact Or.inl rfl
  · rw [hl] at h
    simp at h
    have := WideAt.sameKey_eq h
    cases this
    exact Or.inr rfl

/-! ### up -/
/-- Of the keys that have come: the start stands past them. -/
def UpSt (T : Int → Option Bool) (lo hi : Int) (left : Lit → Bool) (st : Int) : Prop :=
  In st ∧ (hi ≠ 9223372036854775807 → lo ≤ st ∧ st ≤ hi + 1 ∧ (∀ x, lo ≤ x → x ≤ hi → (T x).isSome = true → left (.int .i64 x) = false → x < st) ∧ (st = lo ∨ (lo ≤ st - 1 ∧ (T (st - 1)).isSome = true)))
theorem up_start {T : Int → Option Bool} {lo hi : Int} {D : DataW Unit} (hs : Says D T) (h1 : In lo) (h2 : In hi) (hle : lo ≤ hi) : UpSt T lo hi (has D) lo := by
  refine ⟨h1, fun _ => ⟨Int.le_refl _, by omega, fun x a1 a2 a3 a4 => ?_, Or.inl rfl⟩⟩
  rw [hs.2.1 x (by unfold In at *; omega), a3] at a4
  cases a4
theorem up_keep {T : Int → Option Bool} {lo hi st x : Int} {left : Lit → Bool} (h : UpSt T lo hi left st) (hno : lo ≤ x → x ≤ hi → x < st) : UpSt T lo hi (fun z => left z && !z.sameKey (.int .i64 x)) st := by
  refine ⟨h.1, fun hg => ?_⟩
  obtain ⟨a1, a2, a3, a4⟩ := h.2 hg
  refine ⟨a1, a2, fun y b1 b2 b3 b4 => ?_, a4⟩
  rcases struck b4 with c | rfl
  · exact a3 y b1 b2 b3 c
  · exact hno b1 b2
theorem up_take {T : Int → Option Bool} {lo hi st x : Int} {left : Lit → Bool} (h : UpSt T lo hi left st) (h1 : lo ≤ x) (h2 : x ≤ hi) (h3 : st ≤ x) (hx : In x) (hm : x ≠ 9223372036854775807) (hk : (T x).isSome = true) :
    UpSt T lo hi (fun z => left z && !z.sameKey (.int .i64 x)) (x + 1) := by
  refine ⟨by unfold In at *; omega, fun hg => ?_⟩
  obtain ⟨a1, a2, a3, a4⟩ := h.2 hg
  refine ⟨by omega, by omega, fun y b1 b2 b3 b4 => ?_, Or.inr ⟨by omega, by rw [show x + 1 - 1 = x by omega]; exact hk⟩⟩
  rcases struck b4 with c | rfl
  · have := a3 y b1 b2 b3 c
    omega
  · omega
theorem up_wrap {T : Int → Option Bool} {lo hi : Int} {left : Lit → Bool} (hi2 : In hi) (h2 : 9223372036854775807 ≤ hi) : UpSt T lo hi left (-9223372036854775808) :=
  ⟨by unfold In; omega, fun hg => by unfold In at hi2; omega⟩
theorem up_end {T : Int → Option Bool} {lo hi st : Int} {left : Lit → Bool} (h : UpSt T lo hi left st) (hl : ∀ k, left k = false) (hg : hi ≠ 9223372036854775807) : Start T lo hi st := by
  obtain ⟨a1, a2, a3, a4⟩ := h.2 hg
  exact ⟨a1, a2, fun x b1 b2 b3 => a3 x b1 b2 b3 (hl _), a4⟩

/-! ### down -/
def DnSt (T : Int → Option Bool) (lo hi : Int) (left : Lit → Bool) (st : Int) : Prop :=
  In st ∧ (lo ≠ -9223372036854775808 → lo - 1 ≤ st ∧ st ≤ hi ∧ (∀ x, lo ≤ x → x ≤ hi → (T x).isSome = true → left (.int .i64 x) = false → st < x) ∧ (st = hi ∨ (st + 1 ≤ hi ∧ (T (st + 1)).isSome = true)))
theorem dn_start {T : Int → Option Bool} {lo hi : Int} {D : DataW Unit} (hs : Says D T) (h1 : In lo) (h2 : In hi) (hle : lo ≤ hi) : DnSt T lo hi (has D) hi := by
  refine ⟨h2, fun _ => ⟨by omega, Int.le_refl _, fun x a1 a2 a3 a4 => ?_, Or.inl rfl⟩⟩
  rw [hs.2.1 x (by unfold In at *; omega), a3] at a4
  cases a4
theorem dn_keep {T : Int → Option Bool} {lo hi st x : Int} {left : Lit → Bool} (h : DnSt T lo hi left st) (hno : lo ≤ x → x ≤ hi → st < x) : DnSt T lo hi (fun z => left z && !z.sameKey (.int .i64 x)) st := by
  refine ⟨h.1, fun hg => ?_⟩
  obtain ⟨a1, a2, a3, a4⟩ := h.2 hg
  refine ⟨a1, a2, fun y b1 b2 b3 b4 => ?_, a4⟩
  rcases struck b4 with c | rfl
  · exact a3 y b1 b2 b3 c
  · exact hno b1 b2
theorem dn_take {T : Int → Option Bool} {lo hi st x : Int} {left : Lit → Bool} (h : DnSt T lo hi left st) (h1 : lo ≤ x) (h2 : x ≤ hi) (h3 : x ≤ st) (hx : In x) (hm : x ≠ -9223372036854775808) (hk : (T x).isSome = true) :
    DnSt T lo hi (fun z => left z && !z.sameKey (.int .i64 x)) (x - 1) := by
  refine ⟨by unfold In at *; omega, fun hg => ?_⟩
  obtain ⟨a1, a2, a3, a4⟩ := h.2 hg
  refine ⟨by omega, by omega, fun y b1 b2 b3 b4 => ?_, Or.inr ⟨by omega, by rw [show x - 1 + 1 = x by omega]; exact hk⟩⟩
  rcases struck b4 with c | rfl
  · have := a3 y b1 b2 b3 c
    omega
  · omega
theorem dn_wrap {T : Int → Option Bool} {lo hi : Int} {left : Lit → Bool} (hi2 : In lo) (h2 : lo ≤ -9223372036854775808) : DnSt T lo hi left 9223372036854775807 :=
  ⟨by unfold In; omega, fun hg => by unfold In at hi2; omega⟩
theorem dn_end {T : Int → Option Bool} {lo hi st : Int} {left : Lit → Bool} (h : DnSt T lo hi left st) (hl : ∀ k, left k = false) (hg : lo ≠ -9223372036854775808) : Start (flip T) (-hi) (-lo) (-st) := by
  obtain ⟨a1, a2, a3, a4⟩ := h.2 hg
  refine ⟨by omega, by omega, fun x b1 b2 b3 => ?_, ?_⟩
  · have := a3 (-x) (by omega) (by omega) b3 (hl _)
    omega
  · rcases a4 with rfl | ⟨c1, c2⟩
    · exact Or.inl rfl
    · refine Or.inr ⟨by omega, ?_⟩
      unfold flip
      rw [show -(-st - 1) = st + 1 by omega]
      exact c2

/-! ### the measure of the first search -/
def upM (lo hi f z : Int) : Nat := if lo = -9223372036854775808 ∧ hi = 9223372036854775807 then ((f - z) % 18446744073709551616).toNat else if lo ≤ z ∧ z ≤ hi then (hi + 1 - z).toNat else 0
def dnM (lo hi f z : Int) : Nat := if lo = -9223372036854775808 ∧ hi = 9223372036854775807 then ((z - f) % 18446744073709551616).toNat else if lo ≤ z ∧ z ≤ hi then (z + 1 - lo).toNat else 0
theorem upM_step {lo hi f z : Int} (hf : In f) (hz : In z) (h1 : lo ≤ z) (h2 : z ≤ hi) (hne : z ≠ f) (hm : z ≠ 9223372036854775807) : upM lo hi f (z + 1) < upM lo hi f z := by
  unfold upM In at *
  split
  · omega
  · (repeat' split) <;> omega
theorem upM_wrap {lo hi f : Int} (hf : In f) (h1 : lo ≤ 9223372036854775807) (h2 : hi = 9223372036854775807) (hl : In lo) (hne : (9223372036854775807 : Int) ≠ f) : upM lo hi f (-9223372036854775808) < upM lo hi f 9223372036854775807 := by
  subst h2
  unfold upM In at *
  split
  · omega
  · (repeat' split) <;> omega
theorem dnM_step {lo hi f z : Int} (hf : In f) (hz : In z) (h1 : lo ≤ z) (h2 : z ≤ hi) (hne : z ≠ f) (hm : z ≠ -9223372036854775808) : dnM lo hi f (z - 1) < dnM lo hi f z := by
  unfold dnM In at *
  split
  · omega
  · (repeat' split) <;> omega
theorem dnM_wrap {lo hi f : Int} (hf : In f) (h1 : -9223372036854775808 ≤ hi) (h2 : lo = -9223372036854775808) (hl : In hi) (hne : (-9223372036854775808 : Int) ≠ f) : dnM lo hi f 9223372036854775807 < dnM lo hi f (-9223372036854775808) := by
  subst h2
  unfold dnM In at *
  split
  · omega
  · (repeat' split) <;> omega

/-! ### the second search -/
/-- Everything passed over is taken. -/
def UpIn (T : Int → Option Bool) (lo hi z : Int) : Prop := In z ∧ ((lo ≤ z ∧ z ≤ hi + 1 ∧ ∀ y, lo ≤ y → y < z → tru T y = true) ∨ (z < lo ∧ ∀ y, lo ≤ y → y ≤ hi → tru T y = true))
def DnIn (T : Int → Option Bool) (lo hi z : Int) : Prop := In z ∧ ((z ≤ hi ∧ lo - 1 ≤ z ∧ ∀ y, y ≤ hi → z < y → tru T y = true) ∨ (hi < z ∧ ∀ y, lo ≤ y → y ≤ hi → tru T y = true))
theorem UpIn.all {T : Int → Option Bool} {lo hi z : Int} (h : UpIn T lo hi z) (hno : ¬ (lo ≤ z ∧ z ≤ hi)) : ∀ y, lo ≤ y → y ≤ hi → tru T y = true := by
  rcases h.2 with ⟨a1, a2, a3⟩ | ⟨_, a3⟩
  · exact fun y b1 b2 => a3 y b1 (by omega)
  · exact a3
theorem DnIn.all {T : Int → Option Bool} {lo hi z : Int} (h : DnIn T lo hi z) (hno : ¬ (lo ≤ z ∧ z ≤ hi)) : ∀ y, lo ≤ y → y ≤ hi → tru T y = true := by
  rcases h.2 with ⟨a1, a2, a3⟩ | ⟨_, a3⟩
  · exact fun y b1 b2 => a3 y b2 (by omega)
  · exact a3
theorem UpIn.step {T : Int → Option Bool} {lo hi z : Int} (h : UpIn T lo hi z) (h1 : lo ≤ z) (h2 : z ≤ hi) (hm : z ≠ 9223372036854775807) (ht : tru T z = true) : UpIn T lo hi (z + 1) := by
  refine ⟨by have := h.1; unfold In at *; omega, Or.inl ⟨by omega, by omega, fun y b1 b2 => ?_⟩⟩
  rcases h.2 with ⟨a1, a2, a3⟩ | ⟨a1, _⟩
  · by_cases e : y = z
    · rw [e]; exact ht
    · exact a3 y b1 (by omega)
  · omega
theorem DnIn.step {T : Int → Option Bool} {lo hi z : Int} (h : DnIn T lo hi z) (h1 : lo ≤ z) (h2 : z ≤ hi) (hm : z ≠ -9223372036854775808) (ht : tru T z = true) : DnIn T lo hi (z - 1) := by
  refine ⟨by have := h.1; unfold In at *; omega, Or.inl ⟨by omega, by omega, fun y b1 b2 => ?_⟩⟩
  rcases h.2 with ⟨a1, a2, a3⟩ | ⟨a1, _⟩
  · by_cases e : y = z
    · rw [e]; exact ht
    · exact a3 y b1 (by omega)
  · omega
/-- At the end of the ints everything is taken: so the range is not all of them. -/
theorem UpIn.wrap {T : Int → Option Bool} {lo hi f : Int} (h : UpIn T lo hi 9223372036854775807) (h1 : lo ≤ 9223372036854775807) (h2 : hi = 9223372036854775807) (hl : In lo) (ht : tru T 9223372036854775807 = true) (hf : In f) (hff : tru T f = false) : UpIn T lo hi (-9223372036854775808) ∧ -9223372036854775808 < lo := by
  subst h2
  have ha : ∀ y, lo ≤ y → y ≤ 9223372036854775807 → tru T y = true := fun y b1 b2 => by
    rcases h.2 with ⟨a1, a2, a3⟩ | ⟨a1, _⟩
    · by_cases e : y = 9223372036854775807
      · rw [e]; exact ht
      · exact a3 y b1 (by omega)
    · omega
  have hlt : -9223372036854775808 < lo := by
    apply Classical.byContradiction
    intro hn
    have := ha f (by unfold In at *; omega) hf.2
    rw [hff] at this; cases this
  exact ⟨⟨by unfold In; omega, Or.inr ⟨hlt, ha⟩⟩, hlt⟩
theorem DnIn.wrap {T : Int → Option Bool} {lo hi f : Int} (h : DnIn T lo hi (-9223372036854775808)) (h1 : -9223372036854775808 ≤ hi) (h2 : lo = -9223372036854775808) (hl : In hi) (ht : tru T (-9223372036854775808) = true) (hf : In f) (hff : tru T f = false) : DnIn T lo hi 9223372036854775807 ∧ hi < 9223372036854775807 := by
  subst h2
  have ha : ∀ y, -9223372036854775808 ≤ y → y ≤ hi → tru T y = true := fun y b1 b2 => by
    rcases h.2 with ⟨a1, a2, a3⟩ | ⟨a1, _⟩
    · by_cases e : y = -9223372036854775808
      · rw [e]; exact ht
      · exact a3 y b2 (by omega)
    · omega
  have hlt : hi < 9223372036854775807 := by
    apply Classical.byContradiction
    intro hn
    have := ha f hf.1 (by unfold In at *; omega)
    rw [hff] at this; cases this
  exact ⟨⟨by unfold In; omega, Or.inr ⟨hlt, ha⟩⟩, hlt⟩

def upN (lo hi z : Int) : Nat := if lo ≤ z then (hi + 1 - z).toNat else 0
def dnN (lo hi z : Int) : Nat := if z ≤ hi then (z + 1 - lo).toNat else 0
theorem upN_step {lo hi z : Int} (h1 : lo ≤ z) (h2 : z ≤ hi) : upN lo hi (z + 1) < upN lo hi z := by
  unfold upN
  rw [if_pos h1, if_pos (by omega)]
  omega
theorem dnN_step {lo hi z : Int} (h1 : lo ≤ z) (h2 : z ≤ hi) : dnN lo hi (z - 1) < dnN lo hi z := by
  unfold dnN
  rw [if_pos h2, if_pos (by omega)]
  omega
theorem upN_wrap {lo hi : Int} (h1 : hi = 9223372036854775807) (h2 : -9223372036854775808 < lo) (hle : lo ≤ 9223372036854775807) : upN lo hi (-9223372036854775808) < upN lo hi 9223372036854775807 := by
  unfold upN
  rw [if_pos hle, if_neg (by omega)]
  omega
theorem dnN_wrap {lo hi : Int} (h1 : lo = -9223372036854775808) (h2 : hi < 9223372036854775807) (hle : -9223372036854775808 ≤ hi) : dnN lo hi 9223372036854775807 < dnN lo hi (-9223372036854775808) := by
  unfold dnN
  rw [if_pos hle, if_neg (by omega)]
  omega
theorem wmax : wrap64 9223372036854775808 = -9223372036854775808 := by unfold wrap64; omega
theorem wmin : wrap64 (-9223372036854775809) = 9223372036854775807 := by unfold wrap64; omega

/-! ### how it ends -/
def guard (sys : Bool) (lo hi : Int) : Prop := if sys then lo ≠ -9223372036854775808 else hi ≠ 9223372036854775807
def PickEnd (sys : Bool) (T : Int → Option Bool) (lo hi : Int) (e : Ending) : Prop :=
  ∃ id ok, e = .returned (.tuple #[.int .i64 id, .bool ok]) ∧ Picked T lo hi id ok ∧ (guard sys lo hi → Ans sys T lo hi id ok)

theorem end_empty {sys : Bool} {T : Int → Option Bool} {lo hi : Int} (h : hi < lo) : PickEnd sys T lo hi (.returned (.tuple #[.int .i64 0, .bool false])) := by
  refine ⟨0, false, rfl, Or.inr ⟨rfl, rfl, fun y a1 a2 => by omega⟩, fun _ => ?_⟩
  unfold Ans
  cases sys
  · exact Or.inl ⟨h, rfl, rfl⟩
  · exact Or.inl ⟨by omega, rfl, rfl⟩
/-- Where the first search stands, if the start's neighbour does not wrap. -/
def UpAt (T : Int → Option Bool) (lo hi st : Int) : Prop := hi ≠ 9223372036854775807 → Start T lo hi st
def DnAt (T : Int → Option Bool) (lo hi st : Int) : Prop := lo ≠ -9223372036854775808 → Start (flip T) (-hi) (-lo) (-st)
theorem Start.fresh {T : Int → Option Bool} {lo hi st : Int} (h : Start T lo hi st) (h2 : st ≤ hi) : tru T st = false := by
  unfold tru
  cases e : T st with
  | none => rfl
  | some v =>
    have := h.2.2.1 st h.1 h2 (by rw [e]; rfl)
    omega
theorem dn_fresh {T : Int → Option Bool} {lo hi st : Int} (h : Start (flip T) (-hi) (-lo) (-st)) (h2 : lo ≤ st) : tru T st = false := by
  have := h.fresh (by omega)
  unfold tru flip at this
  rw [Int.neg_neg] at this
  exact this
theorem end_first_up {T : Int → Option Bool} {lo hi st z : Int} (h1 : lo ≤ z) (h2 : z ≤ hi) (ht : tru T z = false) (hs : UpAt T lo hi st) (hz : hi ≠ 9223372036854775807 → z = st) : PickEnd false T lo hi (.returned (.tuple #[.int .i64 z, .bool true])) := by
  refine ⟨z, true, rfl, Or.inl ⟨rfl, h1, h2, ht⟩, fun hg => ?_⟩
  have hg' : hi ≠ 9223372036854775807 := hg
  have e := hz hg'
  subst e
  exact Or.inr ⟨by omega, z, hs hg', Or.inl ⟨h2, rfl, rfl⟩⟩
theorem end_first_dn {T : Int → Option Bool} {lo hi st z : Int} (h1 : lo ≤ z) (h2 : z ≤ hi) (ht : tru T z = false) (hs : DnAt T lo hi st) (hz : lo ≠ -9223372036854775808 → z = st) : PickEnd true T lo hi (.returned (.tuple #[.int .i64 z, .bool true])) := by
  refine ⟨z, true, rfl, Or.inl ⟨rfl, h1, h2, ht⟩, fun hg => ?_⟩
  have hg' : lo ≠ -9223372036854775808 := hg
  have e := hz hg'
  subst e
  exact Or.inr ⟨by omega, -z, hs hg', Or.inl ⟨by omega, rfl, rfl⟩⟩
/-- The first search has left the range. -/
theorem past_up {T : Int → Option Bool} {lo hi st z : Int} (hs : UpAt T lo hi st) (hz : hi ≠ 9223372036854775807 → z = st) (hno : ¬ (lo ≤ z ∧ z ≤ hi)) : hi ≠ 9223372036854775807 → st = hi + 1 := fun hg => by
  have h := hs hg
  have := hz hg
  have := h.1
  have := h.2.1
  omega
theorem past_dn {T : Int → Option Bool} {lo hi st z : Int} (hs : DnAt T lo hi st) (hz : lo ≠ -9223372036854775808 → z = st) (hno : ¬ (lo ≤ z ∧ z ≤ hi)) : lo ≠ -9223372036854775808 → st = lo - 1 := fun hg => by
  have h := hs hg
  have := hz hg
  have := h.1
  have := h.2.1
  omega
theorem end_second_up {T : Int → Option Bool} {lo hi st z : Int} (h1 : lo ≤ z) (h2 : z ≤ hi) (ht : tru T z = false) (hs : UpAt T lo hi st) (hp : hi ≠ 9223372036854775807 → st = hi + 1) (hi' : UpIn T lo hi z) : PickEnd false T lo hi (.returned (.tuple #[.int .i64 z, .bool true])) := by
  refine ⟨z, true, rfl, Or.inl ⟨rfl, h1, h2, ht⟩, fun hg => ?_⟩
  have hg' : hi ≠ 9223372036854775807 := hg
  refine Or.inr ⟨by omega, st, hs hg', Or.inr ⟨hp hg', Or.inl ⟨rfl, h1, h2, ht, ?_⟩⟩⟩
  rcases hi'.2 with ⟨_, _, a3⟩ | ⟨a1, _⟩
  · exact a3
  · omega
theorem end_second_dn {T : Int → Option Bool} {lo hi st z : Int} (h1 : lo ≤ z) (h2 : z ≤ hi) (ht : tru T z = false) (hs : DnAt T lo hi st) (hp : lo ≠ -9223372036854775808 → st = lo - 1) (hi' : DnIn T lo hi z) : PickEnd true T lo hi (.returned (.tuple #[.int .i64 z, .bool true])) := by
  refine ⟨z, true, rfl, Or.inl ⟨rfl, h1, h2, ht⟩, fun hg => ?_⟩
  have hg' : lo ≠ -9223372036854775808 := hg
  have hp' := hp hg'
  refine Or.inr ⟨by omega, -st, hs hg', Or.inr ⟨by omega, Or.inl ⟨rfl, by omega, by omega, ?_, fun y b1 b2 => ?_⟩⟩⟩
  · unfold tru flip
    rw [Int.neg_neg]
    exact ht
  · rcases hi'.2 with ⟨_, _, a3⟩ | ⟨a1, _⟩
    · exact a3 (-y) (by omega) (by omega)
    · omega
theorem end_none_up {T : Int → Option Bool} {lo hi st : Int} (hle : lo ≤ hi) (hs : UpAt T lo hi st) (hp : hi ≠ 9223372036854775807 → st = hi + 1) (ha : ∀ y, lo ≤ y → y ≤ hi → tru T y = true) : PickEnd false T lo hi (.returned (.tuple #[.int .i64 0, .bool false])) := by
  refine ⟨0, false, rfl, Or.inr ⟨rfl, rfl, ha⟩, fun hg => ?_⟩
  have hg' : hi ≠ 9223372036854775807 := hg
  exact Or.inr ⟨hle, st, hs hg', Or.inr ⟨hp hg', Or.inr ⟨rfl, rfl, ha⟩⟩⟩
theorem end_none_dn {T : Int → Option Bool} {lo hi st : Int} (hle : lo ≤ hi) (hs : DnAt T lo hi st) (hp : lo ≠ -9223372036854775808 → st = lo - 1) (ha : ∀ y, lo ≤ y → y ≤ hi → tru T y = true) : PickEnd true T lo hi (.returned (.tuple #[.int .i64 0, .bool false])) := by
  refine ⟨0, false, rfl, Or.inr ⟨rfl, rfl, ha⟩, fun hg => ?_⟩
  have hg' : lo ≠ -9223372036854775808 := hg
  have hp' := hp hg'
  exact Or.inr ⟨by omega, -st, hs hg', Or.inr ⟨by omega, Or.inr ⟨rfl, rfl, fun y b1 b2 => ha (-y) (by omega) (by omega)⟩⟩⟩
end Go.Proofs.Qxb6600570a
