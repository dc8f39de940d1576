/-
  The walks of zzPickFree and zzPickModel.
-/
import Derived.Test.Qxb6600570aPickPlain
namespace Go.Proofs.Qxb6600570a
open Go.RowKit Go.Maps

theorem tru_mem {ids : List Int} {vals : List Bool} {y : Int} (h : tru (tab ids vals ids.length) y = true) : y ∈ ids := by
  have hk : (tab ids vals ids.length y).isSome = true := by
    unfold tru at h
    cases e : tab ids vals ids.length y
    · rw [e] at h; cases h
    · rfl
  obtain ⟨i, hi, e⟩ := (tab_key ids vals y ids.length).1 hk
  rw [List.getD_eq_getElem?_getD, List.getElem?_eq_getElem hi] at e
  exact e ▸ List.getElem_mem hi
theorem some_in {ids : List Int} {vals : List Bool} {x : Int} (h : (tab ids vals ids.length x).isSome = true) : ∃ j, j < ids.length ∧ ids.getD j 0 = x := (tab_key ids vals x ids.length).1 h
theorem in_some {ids : List Int} {vals : List Bool} {x : Int} {j : Nat} (h : j < ids.length) (e : ids.getD j 0 = x) : (tab ids vals ids.length x).isSome = true := (tab_key ids vals x ids.length).2 ⟨j, h, e⟩
/-- So many ids in a row cannot all be taken. -/
theorem too_many {ids : List Int} {vals : List Bool} {a : Int} (h : ∀ y, a ≤ y → y < a + ((ids.length + 1 : Nat) : Int) → tru (tab ids vals ids.length) y = true) : False := by
  have := nodup_len (span a (ids.length + 1)) ids (span_nodup _ _) (fun x hx => by
    have := mem_span.1 hx
    exact tru_mem (h x this.1 this.2))
  rw [span_len] at this
  omega

def Freed (sys : Bool) (T : Int → Option Bool) (lo hi id : Int) (ok : Bool) : Prop := if sys then Free (flip T) (-hi) (-lo) (-id) ok else Free T lo hi id ok
def FreeEnd (sys : Bool) (T : Int → Option Bool) (lo hi : Int) (e : Ending) : Prop := ∃ id ok, e = .returned (.tuple #[.int .i64 id, .bool ok]) ∧ Freed sys T lo hi id ok
def ModelEnd (sys : Bool) (T : Int → Option Bool) (lo hi : Int) (e : Ending) : Prop := ∃ id ok, e = .returned (.tuple #[.int .i64 id, .bool ok]) ∧ Ans sys T lo hi id ok

theorem freed_up {T : Int → Option Bool} {lo hi c : Int} (h1 : lo ≤ c) (h2 : c ≤ hi) (ht : tru T c = false) (ha : ∀ y, lo ≤ y → y < c → tru T y = true) : FreeEnd false T lo hi (.returned (.tuple #[.int .i64 c, .bool true])) :=
  ⟨c, true, rfl, Or.inl ⟨rfl, h1, h2, ht, ha⟩⟩
theorem freed_dn {T : Int → Option Bool} {lo hi c : Int} (h1 : lo ≤ c) (h2 : c ≤ hi) (ht : tru T c = false) (ha : ∀ y, c < y → y ≤ hi → tru T y = true) : FreeEnd true T lo hi (.returned (.tuple #[.int .i64 c, .bool true])) :=
  ⟨c, true, rfl, Or.inl ⟨rfl, by omega, by omega, by unfold tru flip; rw [Int.neg_neg]; exact ht, fun y b1 b2 => ha (-y) (by omega) (by omega)⟩⟩
theorem none_up {T : Int → Option Bool} {lo hi : Int} (ha : ∀ y, lo ≤ y → y ≤ hi → tru T y = true) : FreeEnd false T lo hi (.returned (.tuple #[.int .i64 0, .bool false])) :=
  ⟨0, false, rfl, Or.inr ⟨rfl, rfl, ha⟩⟩
theorem none_dn {T : Int → Option Bool} {lo hi : Int} (ha : ∀ y, lo ≤ y → y ≤ hi → tru T y = true) : FreeEnd true T lo hi (.returned (.tuple #[.int .i64 0, .bool false])) :=
  ⟨0, false, rfl, Or.inr ⟨rfl, rfl, fun y b1 b2 => ha (-y) (by omega) (by omega)⟩⟩

/-- The furthest of the first k ids that lies from lo to hi. -/
def UpExt (ids : List Int) (lo hi : Int) (k : Nat) (h : Bool) (x : Int) : Prop :=
  (h = false ∧ x = 0 ∧ ∀ j, j < k → ¬ (lo ≤ ids.getD j 0 ∧ ids.getD j 0 ≤ hi)) ∨ (h = true ∧ lo ≤ x ∧ x ≤ hi ∧ (∃ j, j < k ∧ ids.getD j 0 = x) ∧ ∀ j, j < k → lo ≤ ids.getD j 0 → ids.getD j 0 ≤ hi → ids.getD j 0 ≤ x)
def DnExt (ids : List Int) (lo hi : Int) (k : Nat) (h : Bool) (x : Int) : Prop :=
  (h = false ∧ x = 0 ∧ ∀ j, j < k → ¬ (lo ≤ ids.getD j 0 ∧ ids.getD j 0 ≤ hi)) ∨ (h = true ∧ lo ≤ x ∧ x ≤ hi ∧ (∃ j, j < k ∧ ids.getD j 0 = x) ∧ ∀ j, j < k → lo ≤ ids.getD j 0 → ids.getD j 0 ≤ hi → x ≤ ids.getD j 0)

theorem upExt_start (ids : List Int) (lo hi : Int) : UpExt ids lo hi 0 false 0 := Or.inl ⟨rfl, rfl, fun j h => by omega⟩
theorem upExt_pass {ids : List Int} {lo hi : Int} {k : Nat} {h : Bool} {x z : Int} (H : UpExt ids lo hi k h x) (hz : ids.getD k 0 = z) (hno : lo ≤ z → z ≤ hi → h = true ∧ z ≤ x) : UpExt ids lo hi (k + 1) h x := by
  rcases H with ⟨a1, a2, a3⟩ | ⟨a1, a2, a3, ⟨i, b1, b2⟩, a5⟩
  · refine Or.inl ⟨a1, a2, fun j hj => ?_⟩
    by_cases e : j = k
    · rw [e, hz]
      exact fun ⟨c1, c2⟩ => by have := (hno c1 c2).1; rw [a1] at this; cases this
    · exact a3 j (by omega)
  · refine Or.inr ⟨a1, a2, a3, ⟨i, by omega, b2⟩, fun j hj c1 c2 => ?_⟩
    by_cases e : j = k
    · rw [e, hz] at c1 c2 ⊢
      exact (hno c1 c2).2
    · exact a5 j (by omega) c1 c2
theorem upExt_take {ids : List Int} {lo hi : Int} {k : Nat} {h : Bool} {x z : Int} (H : UpExt ids lo hi k h x) (hz : ids.getD k 0 = z) (h1 : lo ≤ z) (h2 : z ≤ hi) (h3 : h = true → x ≤ z) : UpExt ids lo hi (k + 1) true z := by
  refine Or.inr ⟨rfl, h1, h2, ⟨k, by omega, hz⟩, fun j hj c1 c2 => ?_⟩
  by_cases e : j = k
  · rw [e, hz]; exact Int.le_refl _
  · rcases H with ⟨_, _, a3⟩ | ⟨a1, _, _, _, a5⟩
    · exact absurd ⟨c1, c2⟩ (a3 j (by omega))
    · have := a5 j (by omega) c1 c2
      have := h3 a1
      omega
theorem upExt_none {ids : List Int} {vals : List Bool} {lo hi x : Int} (H : UpExt ids lo hi ids.length false x) (hle : lo ≤ hi) : ModelEnd false (tab ids vals ids.length) lo hi (.returned (.tuple #[.int .i64 lo, .bool true])) := by
  rcases H with ⟨_, _, a3⟩ | ⟨a1, _⟩
  · refine ⟨lo, true, rfl, Or.inr ⟨by omega, lo, ⟨Int.le_refl _, by omega, fun y b1 b2 b3 => ?_, Or.inl rfl⟩, Or.inl ⟨by omega, rfl, rfl⟩⟩⟩
    obtain ⟨j, c1, c2⟩ := some_in b3
    exact absurd ⟨by omega, by omega⟩ (a3 j c1)
  · cases a1
theorem upExt_Start {ids : List Int} {vals : List Bool} {lo hi x : Int} (H : UpExt ids lo hi ids.length true x) : Start (tab ids vals ids.length) lo hi (x + 1) := by
  rcases H with ⟨a1, _⟩ | ⟨_, a2, a3, ⟨i, b1, b2⟩, a5⟩
  · cases a1
  · refine ⟨by omega, by omega, fun y c1 c2 c3 => ?_, Or.inr ⟨by omega, ?_⟩⟩
    · obtain ⟨j, d1, d2⟩ := some_in c3
      have := a5 j d1 (by omega) (by omega)
      omega
    · refine in_some b1 ?_
      rw [b2]
      omega
theorem upExt_next {ids : List Int} {vals : List Bool} {lo hi x : Int} (H : UpExt ids lo hi ids.length true x) (hle : lo ≤ hi) (h : x < hi) : ModelEnd false (tab ids vals ids.length) lo hi (.returned (.tuple #[.int .i64 (x + 1), .bool true])) := by
  exact ⟨_, true, rfl, Or.inr ⟨by omega, _, upExt_Start H, Or.inl ⟨by omega, by omega, rfl⟩⟩⟩
theorem upExt_free {ids : List Int} {vals : List Bool} {lo hi x : Int} {e : Ending} (H : UpExt ids lo hi ids.length true x) (hle : lo ≤ hi) (h : ¬ x < hi) (hf : FreeEnd false (tab ids vals ids.length) lo hi e) : ModelEnd false (tab ids vals ids.length) lo hi e := by
  obtain ⟨id, ok, rfl, hf⟩ := hf
  refine ⟨id, ok, rfl, Or.inr ⟨by omega, _, upExt_Start H, Or.inr ⟨?_, hf⟩⟩⟩
  rcases H with ⟨a1, _⟩ | ⟨_, a2, a3, _⟩
  · cases a1
  · omega

theorem dnExt_start (ids : List Int) (lo hi : Int) : DnExt ids lo hi 0 false 0 := Or.inl ⟨rfl, rfl, fun j h => by omega⟩
theorem dnExt_pass {ids : List Int} {lo hi : Int} {k : Nat} {h : Bool} {x z : Int} (H : DnExt ids lo hi k h x) (hz : ids.getD k 0 = z) (hno : lo ≤ z → z ≤ hi → h = true ∧ x ≤ z) : DnExt ids lo hi (k + 1) h x := by
  rcases H with ⟨a1, a2, a3⟩ | ⟨a1, a2, a3, ⟨i, b1, b2⟩, a5⟩
  · refine Or.inl ⟨a1, a2, fun j hj => ?_⟩
    by_cases e : j = k
    · rw [e, hz]
      exact fun ⟨c1, c2⟩ => by have := (hno c1 c2).1; rw [a1] at this; cases this
    · exact a3 j (by omega)
  · refine Or.inr ⟨a1, a2, a3, ⟨i, by omega, b2⟩, fun j hj c1 c2 => ?_⟩
    by_cases e : j = k
    · rw [e, hz] at c1 c2 ⊢
      exact (hno c1 c2).2
    · exact a5 j (by omega) c1 c2
theorem dnExt_take {ids : List Int} {lo hi : Int} {k : Nat} {h : Bool} {x z : Int} (H : DnExt ids lo hi k h x) (hz : ids.getD k 0 = z) (h1 : lo ≤ z) (h2 : z ≤ hi) (h3 : h = true → z ≤ x) : DnExt ids lo hi (k + 1) true z := by
  refine Or.inr ⟨rfl, h1, h2, ⟨k, by omega, hz⟩, fun j hj c1 c2 => ?_⟩
  by_cases e : j = k
  · rw [e, hz]; exact Int.le_refl _
  · rcases H with ⟨_, _, a3⟩ | ⟨a1, _, _, _, a5⟩
    · exact absurd ⟨c1, c2⟩ (a3 j (by omega))
    · have := a5 j (by omega) c1 c2
      have := h3 a1
      omega
theorem dnExt_none {ids : List Int} {vals : List Bool} {lo hi x : Int} (H : DnExt ids lo hi ids.length false x) (hle : lo ≤ hi) : ModelEnd true (tab ids vals ids.length) lo hi (.returned (.tuple #[.int .i64 hi, .bool true])) := by
  rcases H with ⟨_, _, a3⟩ | ⟨a1, _⟩
  · refine ⟨hi, true, rfl, Or.inr ⟨by omega, -hi, ⟨Int.le_refl _, by omega, fun y b1 b2 b3 => ?_, Or.inl rfl⟩, Or.inl ⟨by omega, rfl, rfl⟩⟩⟩
    obtain ⟨j, c1, c2⟩ := some_in b3
    exact absurd ⟨by omega, by omega⟩ (a3 j c1)
  · cases a1
theorem dnExt_Start {ids : List Int} {vals : List Bool} {lo hi x : Int} (H : DnExt ids lo hi ids.length true x) : Start (flip (tab ids vals ids.length)) (-hi) (-lo) (-x + 1) := by
  rcases H with ⟨a1, _⟩ | ⟨_, a2, a3, ⟨i, b1, b2⟩, a5⟩
  · cases a1
  · refine ⟨by omega, by omega, fun y c1 c2 c3 => ?_, Or.inr ⟨by omega, ?_⟩⟩
    · obtain ⟨j, d1, d2⟩ := some_in c3
      have := a5 j d1 (by omega) (by omega)
      omega
    · refine in_some b1 ?_
      rw [b2]
      omega
theorem dnExt_next {ids : List Int} {vals : List Bool} {lo hi x : Int} (H : DnExt ids lo hi ids.length true x) (hle : lo ≤ hi) (h : lo < x) : ModelEnd true (tab ids vals ids.length) lo hi (.returned (.tuple #[.int .i64 (x - 1), .bool true])) := by
  exact ⟨_, true, rfl, Or.inr ⟨by omega, _, dnExt_Start H, Or.inl ⟨by omega, by omega, rfl⟩⟩⟩
theorem dnExt_free {ids : List Int} {vals : List Bool} {lo hi x : Int} {e : Ending} (H : DnExt ids lo hi ids.length true x) (hle : lo ≤ hi) (h : ¬ lo < x) (hf : FreeEnd true (tab ids vals ids.length) lo hi e) : ModelEnd true (tab ids vals ids.length) lo hi e := by
  obtain ⟨id, ok, rfl, hf⟩ := hf
  refine ⟨id, ok, rfl, Or.inr ⟨by omega, _, dnExt_Start H, Or.inr ⟨?_, hf⟩⟩⟩
  rcases H with ⟨a1, _⟩ | ⟨_, a2, a3, _⟩
  · cases a1
  · omega

set_option maxRecDepth 100000 in
set_option maxHeartbeats 4000000 in
theorem free_up (oa ob : Option Addr) (c1 c2 : Nat) (ids : List Int) (vals : List Bool) (lo hi : Int) (w : World) (hi' : Seen w.heap.size w oa (vi ids)) (hv : Seen w.heap.size w ob (vb vals))
    (h1 : ids.length ≤ 1048576) (h2 : vals.length ≤ 1048576) (hl : In lo) (hr : In hi) (hle : lo ≤ hi) :
    Calls Try.prog 14 #[.slice oa ids.length c1, .slice ob vals.length c2, .int .i64 lo, .int .i64 hi, .bool false] w fun e w' => FreeEnd false (tab ids vals ids.length) lo hi e ∧ w' = w := by
  have HI := Lib.hid hi'
  have HV := Lib.hid hv
  obtain ⟨hl1, hl2⟩ := hl
  obtain ⟨hr1, hr2⟩ := hr
  clear hi' hv
  go_enter Try.func14, Try.ntmps14
  go_wp2
  go_loop [12, 13] (fun t12 t13 => ∃ (k : Nat) (c : Int), t12 = .int .i64 c ∧ t13 = .int .i64 (k : Int) ∧ k ≤ ids.length + 1 ∧ lo ≤ c ∧ c ≤ hi ∧ Hid (c = lo + (k : Int)) ∧ Hid (∀ y, lo ≤ y → y < c → tru (tab ids vals ids.length) y = true)) (fun _ i => ids.length + 1 - (intOf i).toNat)
  case atStart => exact ⟨0, _, rfl, rfl, by omega, by omega, by omega, by unfold Hid; omega, fun y _ _ => by omega⟩
  case round =>
    obtain ⟨k, c, rfl, rfl, hk, hc1, hc2, HE, HA⟩ := hrel
    by_cases hlt : k ≤ ids.length
    · have k15 := taken_any oa ob c1 c2 ids vals c w HI.out HV.out h1 h2
      obtain ⟨t, ht⟩ : ∃ t, tru (tab ids vals ids.length) c = t := ⟨_, rfl⟩
      rw [ht] at k15
      have HT := Lib.hid ht
      have K15 := Lib.hid k15
      clear ht k15
      cases t with
      | false =>
        go_wp2_with (first | (go_at_call 15; refine (K15.out).mono ?_; rintro e w' ⟨rfl, rfl⟩) | go_in)
        go_ret2
        exact ⟨freed_up hc1 hc2 HT.out HA.out, rfl⟩
      | true =>
        by_cases hce : c = hi
        · subst hce
          go_wp2_with (first | (go_at_call 15; refine (K15.out).mono ?_; rintro e w' ⟨rfl, rfl⟩) | go_in)
          go_ret2
          refine ⟨none_up (fun y b1 b2 => ?_), rfl⟩
          by_cases e : y = c
          · rw [e]; exact HT.out
          · exact HA.out y (by omega) (by omega)
        · have HCE := Lib.hid hce
          have hce2 : c < hi := by omega
          clear hce
          go_wp2_with (first | (go_at_call 15; refine (K15.out).mono ?_; rintro e w' ⟨rfl, rfl⟩) | go_in)
          all_goals try (exfalso; exact HCE.out (by first | exact beq_t (by assumption) | omega))
          go_round
          case rel => exact ⟨k + 1, c + 1, by go_num, by go_num, by omega, by omega, by omega, by have := HE.out; unfold Hid; omega, fun y b1 b2 => by
            by_cases e : y = c
            · rw [e]; exact HT.out
            · exact HA.out y (by omega) (by omega)⟩
          case measure => simp [intOf]; omega
    · exfalso
      have he := HE.out
      exact too_many (a := lo) (ids := ids) (vals := vals) (fun y b1 b2 => HA.out y (by omega) (by omega))

set_option maxRecDepth 100000 in
set_option maxHeartbeats 4000000 in
theorem model_up (oa ob : Option Addr) (c1 c2 : Nat) (ids : List Int) (vals : List Bool) (lo hi : Int) (w : World) (hi' : Seen w.heap.size w oa (vi ids)) (hv : Seen w.heap.size w ob (vb vals))
    (h1 : ids.length ≤ 1048576) (h2 : vals.length ≤ 1048576) (hl : In lo) (hr : In hi) :
    Calls Try.prog 9 #[.slice oa ids.length c1, .slice ob vals.length c2, .int .i64 lo, .int .i64 hi, .bool false] w fun e w' => ModelEnd false (tab ids vals ids.length) lo hi e ∧ w' = w := by
  have HI := Lib.hid hi'
  have HV := Lib.hid hv
  have HL := Lib.hid hl
  have HR := Lib.hid hr
  obtain ⟨hl1, hl2⟩ := hl
  obtain ⟨hr1, hr2⟩ := hr
  clear hi' hv
  by_cases hle : lo ≤ hi
  · go_enter Try.func9, Try.ntmps9
    go_wp2
    all_goals try (exfalso; omega)
    go_loop [12, 13, 14] (fun t12 t13 t14 => ∃ (k : Nat) (h : Bool) (x : Int), t12 = .bool h ∧ t13 = .int .i64 x ∧ t14 = .int .i64 (k : Int) ∧ k ≤ ids.length ∧ Hid (UpExt ids lo hi k h x)) (fun _ _ i => ids.length - (intOf i).toNat)
    case atStart => exact ⟨0, false, 0, rfl, rfl, rfl, by omega, upExt_start _ _ _⟩
    case round =>
      obtain ⟨k, h, x, rfl, rfl, rfl, hk, HX⟩ := hrel
      by_cases hlt : k < ids.length
      · obtain ⟨b, off, rfl, _, hc⟩ := HI.out.int hlt
        obtain ⟨z, hz⟩ : ∃ z, ids.getD k 0 = z := ⟨_, rfl⟩
        rw [hz] at hc
        have HZ := Lib.hid hz
        clear hz
        cases h with
        | false =>
          go_wp2
          all_goals
            go_round
            case rel => first
              | exact ⟨k + 1, _, _, rfl, rfl, by go_num, by omega, upExt_pass HX.out HZ.out (fun _ _ => by exfalso; omega)⟩
              | exact ⟨k + 1, _, _, rfl, rfl, by go_num, by omega, upExt_take HX.out HZ.out (by omega) (by omega) (fun e => by cases e)⟩
            case measure => simp [intOf]; omega
        | true =>
          go_wp2
          all_goals
            go_round
            case rel => first
              | exact ⟨k + 1, _, _, rfl, rfl, by go_num, by omega, upExt_pass HX.out HZ.out (fun _ _ => ⟨rfl, by omega⟩)⟩
              | exact ⟨k + 1, _, _, rfl, rfl, by go_num, by omega, upExt_take HX.out HZ.out (by omega) (by omega) (fun _ => by omega)⟩
            case measure => simp [intOf]; omega
      · obtain rfl : k = ids.length := by omega
        cases h with
        | false =>
          go_wp2
          go_ret2
          exact ⟨upExt_none HX.out hle, rfl⟩
        | true =>
          have hx : lo ≤ x ∧ x ≤ hi := by
            rcases HX.out with ⟨a1, _⟩ | ⟨_, a2, a3, _⟩
            · cases a1
            · exact ⟨a2, a3⟩
          obtain ⟨hx1, hx2⟩ := hx
          by_cases hrm : x < hi
          · go_wp2
            go_ret2
            exact ⟨upExt_next HX.out hle hrm, rfl⟩
          · have k14 := Lib.hid (free_up oa ob c1 c2 ids vals lo hi w HI.out HV.out h1 h2 HL.out HR.out hle)
            go_wp2_with fail
            refine (k14.out).mono ?_
            rintro e w' ⟨hf, rfl⟩
            have hm := upExt_free HX.out hle (by omega) hf
            obtain ⟨id, ok, rfl, -⟩ := hf
            go_wp2
            go_ret2
            exact ⟨hm, rfl⟩
  · go_enter Try.func9, Try.ntmps9
    go_wp2
    all_goals try (exfalso; omega)
    go_ret2
    exact ⟨⟨0, false, rfl, Or.inl ⟨by omega, rfl, rfl⟩⟩, rfl⟩

set_option maxRecDepth 100000 in
set_option maxHeartbeats 4000000 in
theorem free_dn (oa ob : Option Addr) (c1 c2 : Nat) (ids : List Int) (vals : List Bool) (lo hi : Int) (w : World) (hi' : Seen w.heap.size w oa (vi ids)) (hv : Seen w.heap.size w ob (vb vals))
    (h1 : ids.length ≤ 1048576) (h2 : vals.length ≤ 1048576) (hl : In lo) (hr : In hi) (hle : lo ≤ hi) :
    Calls Try.prog 14 #[.slice oa ids.length c1, .slice ob vals.length c2, .int .i64 lo, .int .i64 hi, .bool true] w fun e w' => FreeEnd true (tab ids vals ids.length) lo hi e ∧ w' = w := by
  have HI := Lib.hid hi'
  have HV := Lib.hid hv
  obtain ⟨hl1, hl2⟩ := hl
  obtain ⟨hr1, hr2⟩ := hr
  clear hi' hv
  go_enter Try.func14, Try.ntmps14
  go_wp2
  go_loop [12, 13] (fun t12 t13 => ∃ (k : Nat) (c : Int), t12 = .int .i64 c ∧ t13 = .int .i64 (k : Int) ∧ k ≤ ids.length + 1 ∧ lo ≤ c ∧ c ≤ hi ∧ Hid (c = hi - (k : Int)) ∧ Hid (∀ y, c < y → y ≤ hi → tru (tab ids vals ids.length) y = true)) (fun _ i => ids.length + 1 - (intOf i).toNat)
  case atStart => exact ⟨0, _, rfl, rfl, by omega, by omega, by omega, by unfold Hid; omega, fun y _ _ => by omega⟩
  case round =>
    obtain ⟨k, c, rfl, rfl, hk, hc1, hc2, HE, HA⟩ := hrel
    by_cases hlt : k ≤ ids.length
    · have k15 := taken_any oa ob c1 c2 ids vals c w HI.out HV.out h1 h2
      obtain ⟨t, ht⟩ : ∃ t, tru (tab ids vals ids.length) c = t := ⟨_, rfl⟩
      rw [ht] at k15
      have HT := Lib.hid ht
      have K15 := Lib.hid k15
      clear ht k15
      cases t with
      | false =>
        go_wp2_with (first | (go_at_call 15; refine (K15.out).mono ?_; rintro e w' ⟨rfl, rfl⟩) | go_in)
        go_ret2
        exact ⟨freed_dn hc1 hc2 HT.out HA.out, rfl⟩
      | true =>
        by_cases hce : c = lo
        · subst hce
          go_wp2_with (first | (go_at_call 15; refine (K15.out).mono ?_; rintro e w' ⟨rfl, rfl⟩) | go_in)
          go_ret2
          refine ⟨none_dn (fun y b1 b2 => ?_), rfl⟩
          by_cases e : y = c
          · rw [e]; exact HT.out
          · exact HA.out y (by omega) (by omega)
        · have HCE := Lib.hid hce
          have hce2 : lo < c := by omega
          clear hce
          go_wp2_with (first | (go_at_call 15; refine (K15.out).mono ?_; rintro e w' ⟨rfl, rfl⟩) | go_in)
          all_goals try (exfalso; exact HCE.out (by first | exact beq_t (by assumption) | omega))
          go_round
          case rel => exact ⟨k + 1, c - 1, by go_num, by go_num, by omega, by omega, by omega, by have := HE.out; unfold Hid; omega, fun y b1 b2 => by
            by_cases e : y = c
            · rw [e]; exact HT.out
            · exact HA.out y (by omega) (by omega)⟩
          case measure => simp [intOf]; omega
    · exfalso
      have he := HE.out
      exact too_many (a := c + 1) (ids := ids) (vals := vals) (fun y b1 b2 => HA.out y (by omega) (by omega))

set_option maxRecDepth 100000 in
set_option maxHeartbeats 4000000 in
theorem model_dn (oa ob : Option Addr) (c1 c2 : Nat) (ids : List Int) (vals : List Bool) (lo hi : Int) (w : World) (hi' : Seen w.heap.size w oa (vi ids)) (hv : Seen w.heap.size w ob (vb vals))
    (h1 : ids.length ≤ 1048576) (h2 : vals.length ≤ 1048576) (hl : In lo) (hr : In hi) :
    Calls Try.prog 9 #[.slice oa ids.length c1, .slice ob vals.length c2, .int .i64 lo, .int .i64 hi, .bool true] w fun e w' => ModelEnd true (tab ids vals ids.length) lo hi e ∧ w' = w := by
  have HI := Lib.hid hi'
  have HV := Lib.hid hv
  have HL := Lib.hid hl
  have HR := Lib.hid hr
  obtain ⟨hl1, hl2⟩ := hl
  obtain ⟨hr1, hr2⟩ := hr
  clear hi' hv
  by_cases hle : lo ≤ hi
  · go_enter Try.func9, Try.ntmps9
    go_wp2
    all_goals try (exfalso; omega)
    go_loop [12, 13, 14] (fun t12 t13 t14 => ∃ (k : Nat) (h : Bool) (x : Int), t12 = .bool h ∧ t13 = .int .i64 x ∧ t14 = .int .i64 (k : Int) ∧ k ≤ ids.length ∧ Hid (DnExt ids lo hi k h x)) (fun _ _ i => ids.length - (intOf i).toNat)
    case atStart => exact ⟨0, false, 0, rfl, rfl, rfl, by omega, dnExt_start _ _ _⟩
    case round =>
      obtain ⟨k, h, x, rfl, rfl, rfl, hk, HX⟩ := hrel
      by_cases hlt : k < ids.length
      · obtain ⟨b, off, rfl, _, hc⟩ := HI.out.int hlt
        obtain ⟨z, hz⟩ : ∃ z, ids.getD k 0 = z := ⟨_, rfl⟩
        rw [hz] at hc
        have HZ := Lib.hid hz
        clear hz
        cases h with
        | false =>
          go_wp2
          all_goals
            go_round
            case rel => first
              | exact ⟨k + 1, _, _, rfl, rfl, by go_num, by omega, dnExt_pass HX.out HZ.out (fun _ _ => by exfalso; omega)⟩
              | exact ⟨k + 1, _, _, rfl, rfl, by go_num, by omega, dnExt_take HX.out HZ.out (by omega) (by omega) (fun e => by cases e)⟩
            case measure => simp [intOf]; omega
        | true =>
          go_wp2
          all_goals
            go_round
            case rel => first
              | exact ⟨k + 1, _, _, rfl, rfl, by go_num, by omega, dnExt_pass HX.out HZ.out (fun _ _ => ⟨rfl, by omega⟩)⟩
              | exact ⟨k + 1, _, _, rfl, rfl, by go_num, by omega, dnExt_take HX.out HZ.out (by omega) (by omega) (fun _ => by omega)⟩
            case measure => simp [intOf]; omega
      · obtain rfl : k = ids.length := by omega
        cases h with
        | false =>
          go_wp2
          go_ret2
          exact ⟨dnExt_none HX.out hle, rfl⟩
        | true =>
          have hx : lo ≤ x ∧ x ≤ hi := by
            rcases HX.out with ⟨a1, _⟩ | ⟨_, a2, a3, _⟩
            · cases a1
            · exact ⟨a2, a3⟩
          obtain ⟨hx1, hx2⟩ := hx
          by_cases hrm : lo < x
          · go_wp2
            go_ret2
            exact ⟨dnExt_next HX.out hle hrm, rfl⟩
          · have k14 := Lib.hid (free_dn oa ob c1 c2 ids vals lo hi w HI.out HV.out h1 h2 HL.out HR.out hle)
            go_wp2_with fail
            refine (k14.out).mono ?_
            rintro e w' ⟨hf, rfl⟩
            have hm := dnExt_free HX.out hle (by omega) hf
            obtain ⟨id, ok, rfl, -⟩ := hf
            go_wp2
            go_ret2
            exact ⟨hm, rfl⟩
  · go_enter Try.func9, Try.ntmps9
    go_wp2
    all_goals try (exfalso; omega)
    go_ret2
    exact ⟨⟨0, false, rfl, Or.inl ⟨by omega, rfl, rfl⟩⟩, rfl⟩
end Go.Proofs.Qxb6600570a
