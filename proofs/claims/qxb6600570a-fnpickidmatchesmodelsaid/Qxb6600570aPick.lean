/-
  The walk of PickID.
-/
import Derived.Test.Qxb6600570aPickPlain
namespace Go.Proofs.Qxb6600570a
open Go.RowKit Go.Maps

set_option maxRecDepth 100000 in
set_option maxHeartbeats 4000000 in
theorem pick_up (b n : Nat) (T : Int → Option Bool) (lo hi : Int) (w : World) (hh : Holds w b n T) (hn : n ≤ 1000000) (hl : In lo) (hr : In hi) :
    Calls Try.prog 7 #[.map (some b), .int .i64 lo, .int .i64 hi, .bool false] w fun e w' => PickEnd false T lo hi e ∧ Below w.heap.size w w' := by
  obtain ⟨f, hf, hff⟩ := hh.some_free hn
  have HF := Lib.hid hf
  have HFF := Lib.hid hff
  have HL := Lib.hid hl
  have HR := Lib.hid hr
  obtain ⟨hl1, hl2⟩ := hl
  obtain ⟨hr1, hr2⟩ := hr
  clear hf hff
  by_cases hle : lo ≤ hi
  · obtain ⟨D, ho, hs⟩ := hh
    have HS := Lib.hid hs
    clear hs
    go_enter Try.func7, Try.ntmps7
    go_wp2_with (first
      | (at_range; refine wpList_range_own _ rfl _ 27 rfl 3 4 law3 Try.underlying27 _ b n _ rfl ho ?_; intro w0 hrg0 hg0 hs0)
      | go_in)
    all_goals try (exfalso; omega)
    go_frame
    go_loopw [10] (fun t10 wr => ∃ (st : Int) (left : Lit → Bool) (cnt : Nat), t10 = .int .i64 st ∧ Rng wr b w.heap.size n D left cnt ∧ Below w.heap.size w wr ∧ Hid (UpSt T lo hi left st)) (fun _ wr => wr.rangeLeft b w.heap.size)
    case atStart => exact ⟨_, _, _, rfl, hrg0, (Below.refl _ _).grown hg0 (Nat.le_refl _) (fun j hj => by cases hj), up_start HS.out HL.out HR.out hle⟩
    case round =>
      clear hrg0 hg0 hs0 ho
      obtain ⟨st, left, cnt, rfl, hrg, hb, HU⟩ := hrel
      have hst := HU.out.1
      obtain ⟨hst1, hst2⟩ := hst
      go_wp2_with (first
        | (at_next; refine wpList_next_ib _ rfl _ rfl b w.heap.size n D left cnt rfl hrg ?_ ?_)
        | go_in)
      · intro hl0
        have HA : Hid (UpAt T lo hi st) := fun hg => up_end HU.out hl0 hg
        have HO : Hid (Owns wr b n D) := hrg.owns
        clear HU hrg hl0
        have hb1 : Below w.heap.size w (wr.alloc (.cells #[.int .i64 st, .int .i64 lo] 3)) := hb.alloc hb.size _
        have HO1 : Hid (Holds (wr.alloc (.cells #[.int .i64 st, .int .i64 lo] 3)) b n T) := Holds.on ⟨D, HO.out, HS.out⟩ ((Below.refl _ _).alloc (Nat.le_refl _) _)
        clear hb HO HS
        go_wp2_with fail
        go_loop [60] (fun t60 => ∃ k : Nat, t60 = .int .i64 (k : Int) ∧ k ≤ 2 ∧ Hid (1 ≤ k → hi ≠ 9223372036854775807 → st = hi + 1) ∧ Hid (2 ≤ k → ∀ y, lo ≤ y → y ≤ hi → tru T y = true)) (fun i => 2 - (intOf i).toNat)
        case atStart => exact ⟨0, rfl, by omega, fun h => by omega, fun h => by omega⟩
        case round =>
          obtain ⟨k, rfl, hk, HP, HY⟩ := hrel
          rcases (by omega : k = 0 ∨ k = 1 ∨ k = 2) with rfl | rfl | rfl
          · clear HP HY
            go_wp2_with fail
            go_loop [16] (fun t16 => ∃ z : Int, t16 = .int .i64 z ∧ Hid (In z) ∧ Hid (hi ≠ 9223372036854775807 → z = st)) (fun i => upM lo hi f (intOf i))
            case atStart => exact ⟨st, rfl, ⟨hst1, hst2⟩, fun _ => rfl⟩
            case round =>
              obtain ⟨z, rfl, HZ, HE⟩ := hrel
              obtain ⟨hz1, hz2⟩ := HZ.out
              by_cases hin : lo ≤ z ∧ z ≤ hi
              · obtain ⟨hi1, hi2⟩ := hin
                have look := HO1.out.look HZ.out
                obtain ⟨tz, htz⟩ : ∃ t, tru T z = t := ⟨_, rfl⟩
                rw [htz] at look
                have HT := Lib.hid htz
                clear htz
                cases tz with
                | false =>
                  go_wp2
                  go_ret2
                  exact ⟨end_first_up hi1 hi2 HT.out HA.out HE.out, hb1⟩
                | true =>
                  have HN : Hid (hi ≠ 9223372036854775807 → False) := fun hg => by
                    have h1 := (HA.out hg).fresh (by have := HE.out hg; omega)
                    have h2 := HT.out
                    rw [HE.out hg, h1] at h2
                    cases h2
                  have HNE : Hid (z ≠ f) := fun e => by
                    have h2 := HT.out
                    rw [e, HFF.out] at h2
                    cases h2
                  by_cases hm : z = 9223372036854775807
                  · subst hm
                    go_wp2
                    go_round
                    case rel => exact ⟨-9223372036854775808, by rw [wmax], by unfold Hid In; omega, fun hg => (HN.out hg).elim⟩
                    case measure => rw [intOf, wmax]; exact upM_wrap HF.out (by omega) (by omega) HL.out HNE.out
                  · go_wp2
                    go_round
                    case rel => exact ⟨z + 1, by go_num, by unfold Hid In; omega, fun hg => (HN.out hg).elim⟩
                    case measure => exact upM_step HF.out HZ.out hi1 hi2 HNE.out hm
              · go_wp2
                all_goals try (exfalso; omega)
                all_goals
                  go_round
                  case rel => exact ⟨1, by go_num, by omega, fun _ => past_up HA.out HE.out hin, fun h => by omega⟩
                  case measure => simp [intOf]
          · clear HY
            have HPP : Hid (hi ≠ 9223372036854775807 → st = hi + 1) := HP.out (by omega)
            clear HP
            go_wp2_with fail
            go_loop [16] (fun t16 => ∃ z : Int, t16 = .int .i64 z ∧ Hid (UpIn T lo hi z)) (fun i => upN lo hi (intOf i))
            case atStart => exact ⟨lo, rfl, ⟨HL.out, Or.inl ⟨Int.le_refl _, by omega, fun y _ _ => by omega⟩⟩⟩
            case round =>
              obtain ⟨z, rfl, HZ⟩ := hrel
              obtain ⟨hz1, hz2⟩ := HZ.out.1
              by_cases hin : lo ≤ z ∧ z ≤ hi
              · obtain ⟨hi1, hi2⟩ := hin
                have look := HO1.out.look HZ.out.1
                obtain ⟨tz, htz⟩ : ∃ t, tru T z = t := ⟨_, rfl⟩
                rw [htz] at look
                have HT := Lib.hid htz
                clear htz
                cases tz with
                | false =>
                  go_wp2
                  go_ret2
                  exact ⟨end_second_up hi1 hi2 HT.out HA.out HPP.out HZ.out, hb1⟩
                | true =>
                  by_cases hm : z = 9223372036854775807
                  · subst hm
                    obtain ⟨R1, R2⟩ := HZ.out.wrap (by omega) (by omega) HL.out HT.out HF.out HFF.out
                    have HR1 := Lib.hid R1
                    clear R1
                    go_wp2
                    go_round
                    case rel => exact ⟨-9223372036854775808, by rw [wmax], HR1⟩
                    case measure => rw [intOf, wmax]; exact upN_wrap (by omega) R2 (by omega)
                  · have HR1 := Lib.hid (HZ.out.step hi1 hi2 hm HT.out)
                    go_wp2
                    go_round
                    case rel => exact ⟨z + 1, by go_num, HR1⟩
                    case measure => exact upN_step hi1 hi2
              · have HAL := Lib.hid (HZ.out.all hin)
                go_wp2
                all_goals try (exfalso; omega)
                all_goals
                  go_round
                  case rel => exact ⟨2, by go_num, by omega, fun _ => HPP.out, fun _ => HAL.out⟩
                  case measure => simp [intOf]
          · have HAL := Lib.hid (HY.out (by omega))
            have HPP : Hid (hi ≠ 9223372036854775807 → st = hi + 1) := HP.out (by omega)
            clear HP HY
            go_wp2
            go_ret2
            exact ⟨end_none_up hle HA.out HPP.out HAL.out, hb1⟩
      · intro x c w1 cnt1 hx hlx hhas hrg1 hlt hg1 hen
        have hT : Hid ((T x).isSome = true) := by
          have := HS.out.2.1 x hx
          rw [hhas] at this
          exact this.symm
        have hb1 : Below w.heap.size w w1 := hb.grown hg1 hb.size (fun j hj => by cases hj; exact Nat.le_refl _)
        have HX := Lib.hid hx
        obtain ⟨hx1, hx2⟩ := hx
        clear hb hg1 hlx hhas
        by_cases hm : x = 9223372036854775807
        · subst hm
          go_wp2
          all_goals
            go_roundw
            case rel => first
              | exact ⟨_, _, _, rfl, hrg1, hb1, up_keep HU.out (fun a1 a2 => by omega)⟩
              | exact ⟨-9223372036854775808, _, _, by rw [wmax], hrg1, hb1, up_wrap HR.out (by omega)⟩
            case measure => rw [hrg1.left_eq, hrg.left_eq]; exact hlt
        · go_wp2
          all_goals
            go_roundw
            case rel => first
              | exact ⟨_, _, _, rfl, hrg1, hb1, up_keep HU.out (fun a1 a2 => by omega)⟩
              | exact ⟨_, _, _, rfl, hrg1, hb1, up_take HU.out (by omega) (by omega) (by omega) HX.out hm hT.out⟩
            case measure => rw [hrg1.left_eq, hrg.left_eq]; exact hlt
  · go_enter Try.func7, Try.ntmps7
    go_wp2
    all_goals try (exfalso; omega)
    go_ret2
    exact ⟨end_empty (by omega), Below.refl _ _⟩

set_option maxRecDepth 100000 in
set_option maxHeartbeats 4000000 in
theorem pick_dn (b n : Nat) (T : Int → Option Bool) (lo hi : Int) (w : World) (hh : Holds w b n T) (hn : n ≤ 1000000) (hl : In lo) (hr : In hi) :
    Calls Try.prog 7 #[.map (some b), .int .i64 lo, .int .i64 hi, .bool true] w fun e w' => PickEnd true T lo hi e ∧ Below w.heap.size w w' := by
  obtain ⟨f, hf, hff⟩ := hh.some_free hn
  have HF := Lib.hid hf
  have HFF := Lib.hid hff
  have HL := Lib.hid hl
  have HR := Lib.hid hr
  obtain ⟨hl1, hl2⟩ := hl
  obtain ⟨hr1, hr2⟩ := hr
  clear hf hff
  by_cases hle : lo ≤ hi
  · obtain ⟨D, ho, hs⟩ := hh
    have HS := Lib.hid hs
    clear hs
    go_enter Try.func7, Try.ntmps7
    go_wp2_with (first
      | (at_range; refine wpList_range_own _ rfl _ 27 rfl 3 4 law3 Try.underlying27 _ b n _ rfl ho ?_; intro w0 hrg0 hg0 hs0)
      | go_in)
    all_goals try (exfalso; omega)
    go_frame
    go_loopw [10] (fun t10 wr => ∃ (st : Int) (left : Lit → Bool) (cnt : Nat), t10 = .int .i64 st ∧ Rng wr b w.heap.size n D left cnt ∧ Below w.heap.size w wr ∧ Hid (DnSt T lo hi left st)) (fun _ wr => wr.rangeLeft b w.heap.size)
    case atStart => exact ⟨_, _, _, rfl, hrg0, (Below.refl _ _).grown hg0 (Nat.le_refl _) (fun j hj => by cases hj), dn_start HS.out HL.out HR.out hle⟩
    case round =>
      clear hrg0 hg0 hs0 ho
      obtain ⟨st, left, cnt, rfl, hrg, hb, HU⟩ := hrel
      have hst := HU.out.1
      obtain ⟨hst1, hst2⟩ := hst
      go_wp2_with (first
        | (at_next; refine wpList_next_ib _ rfl _ rfl b w.heap.size n D left cnt rfl hrg ?_ ?_)
        | go_in)
      · intro hl0
        have HA : Hid (DnAt T lo hi st) := fun hg => dn_end HU.out hl0 hg
        have HO : Hid (Owns wr b n D) := hrg.owns
        clear HU hrg hl0
        have hb1 : Below w.heap.size w (wr.alloc (.cells #[.int .i64 st, .int .i64 hi] 3)) := hb.alloc hb.size _
        have HO1 : Hid (Holds (wr.alloc (.cells #[.int .i64 st, .int .i64 hi] 3)) b n T) := Holds.on ⟨D, HO.out, HS.out⟩ ((Below.refl _ _).alloc (Nat.le_refl _) _)
        clear hb HO HS
        go_wp2_with fail
        go_loop [60] (fun t60 => ∃ k : Nat, t60 = .int .i64 (k : Int) ∧ k ≤ 2 ∧ Hid (1 ≤ k → lo ≠ -9223372036854775808 → st = lo - 1) ∧ Hid (2 ≤ k → ∀ y, lo ≤ y → y ≤ hi → tru T y = true)) (fun i => 2 - (intOf i).toNat)
        case atStart => exact ⟨0, rfl, by omega, fun h => by omega, fun h => by omega⟩
        case round =>
          obtain ⟨k, rfl, hk, HP, HY⟩ := hrel
          rcases (by omega : k = 0 ∨ k = 1 ∨ k = 2) with rfl | rfl | rfl
          · clear HP HY
            go_wp2_with fail
            go_loop [16] (fun t16 => ∃ z : Int, t16 = .int .i64 z ∧ Hid (In z) ∧ Hid (lo ≠ -9223372036854775808 → z = st)) (fun i => dnM lo hi f (intOf i))
            case atStart => exact ⟨st, rfl, ⟨hst1, hst2⟩, fun _ => rfl⟩
            case round =>
              obtain ⟨z, rfl, HZ, HE⟩ := hrel
              obtain ⟨hz1, hz2⟩ := HZ.out
              by_cases hin : lo ≤ z ∧ z ≤ hi
              · obtain ⟨hi1, hi2⟩ := hin
                have look := HO1.out.look HZ.out
                obtain ⟨tz, htz⟩ : ∃ t, tru T z = t := ⟨_, rfl⟩
                rw [htz] at look
                have HT := Lib.hid htz
                clear htz
                cases tz with
                | false =>
                  go_wp2
                  go_ret2
                  exact ⟨end_first_dn hi1 hi2 HT.out HA.out HE.out, hb1⟩
                | true =>
                  have HN : Hid (lo ≠ -9223372036854775808 → False) := fun hg => by
                    have h1 := dn_fresh (HA.out hg) (by have := HE.out hg; omega)
                    have h2 := HT.out
                    rw [HE.out hg, h1] at h2
                    cases h2
                  have HNE : Hid (z ≠ f) := fun e => by
                    have h2 := HT.out
                    rw [e, HFF.out] at h2
                    cases h2
                  by_cases hm : z = -9223372036854775808
                  · subst hm
                    go_wp2
                    go_round
                    case rel => exact ⟨9223372036854775807, by rw [wmin], by unfold Hid In; omega, fun hg => (HN.out hg).elim⟩
                    case measure => rw [intOf, wmin]; exact dnM_wrap HF.out (by omega) (by omega) HR.out HNE.out
                  · go_wp2
                    go_round
                    case rel => exact ⟨z - 1, by go_num, by unfold Hid In; omega, fun hg => (HN.out hg).elim⟩
                    case measure => exact dnM_step HF.out HZ.out hi1 hi2 HNE.out hm
              · go_wp2
                all_goals try (exfalso; omega)
                all_goals
                  go_round
                  case rel => exact ⟨1, by go_num, by omega, fun _ => past_dn HA.out HE.out hin, fun h => by omega⟩
                  case measure => simp [intOf]
          · clear HY
            have HPP : Hid (lo ≠ -9223372036854775808 → st = lo - 1) := HP.out (by omega)
            clear HP
            go_wp2_with fail
            go_loop [16] (fun t16 => ∃ z : Int, t16 = .int .i64 z ∧ Hid (DnIn T lo hi z)) (fun i => dnN lo hi (intOf i))
            case atStart => exact ⟨hi, rfl, ⟨HR.out, Or.inl ⟨Int.le_refl _, by omega, fun y _ _ => by omega⟩⟩⟩
            case round =>
              obtain ⟨z, rfl, HZ⟩ := hrel
              obtain ⟨hz1, hz2⟩ := HZ.out.1
              by_cases hin : lo ≤ z ∧ z ≤ hi
              · obtain ⟨hi1, hi2⟩ := hin
                have look := HO1.out.look HZ.out.1
                obtain ⟨tz, htz⟩ : ∃ t, tru T z = t := ⟨_, rfl⟩
                rw [htz] at look
                have HT := Lib.hid htz
                clear htz
                cases tz with
                | false =>
                  go_wp2
                  go_ret2
                  exact ⟨end_second_dn hi1 hi2 HT.out HA.out HPP.out HZ.out, hb1⟩
                | true =>
                  by_cases hm : z = -9223372036854775808
                  · subst hm
                    obtain ⟨R1, R2⟩ := HZ.out.wrap (by omega) (by omega) HR.out HT.out HF.out HFF.out
                    have HR1 := Lib.hid R1
                    clear R1
                    go_wp2
                    go_round
                    case rel => exact ⟨9223372036854775807, by rw [wmin], HR1⟩
                    case measure => rw [intOf, wmin]; exact dnN_wrap (by omega) R2 (by omega)
                  · have HR1 := Lib.hid (HZ.out.step hi1 hi2 hm HT.out)
                    go_wp2
                    go_round
                    case rel => exact ⟨z - 1, by go_num, HR1⟩
                    case measure => exact dnN_step hi1 hi2
              · have HAL := Lib.hid (HZ.out.all hin)
                go_wp2
                all_goals try (exfalso; omega)
                all_goals
                  go_round
                  case rel => exact ⟨2, by go_num, by omega, fun _ => HPP.out, fun _ => HAL.out⟩
                  case measure => simp [intOf]
          · have HAL := Lib.hid (HY.out (by omega))
            have HPP : Hid (lo ≠ -9223372036854775808 → st = lo - 1) := HP.out (by omega)
            clear HP HY
            go_wp2
            go_ret2
            exact ⟨end_none_dn hle HA.out HPP.out HAL.out, hb1⟩
      · intro x c w1 cnt1 hx hlx hhas hrg1 hlt hg1 hen
        have hT : Hid ((T x).isSome = true) := by
          have := HS.out.2.1 x hx
          rw [hhas] at this
          exact this.symm
        have hb1 : Below w.heap.size w w1 := hb.grown hg1 hb.size (fun j hj => by cases hj; exact Nat.le_refl _)
        have HX := Lib.hid hx
        obtain ⟨hx1, hx2⟩ := hx
        clear hb hg1 hlx hhas
        by_cases hm : x = -9223372036854775808
        · subst hm
          go_wp2
          all_goals
            go_roundw
            case rel => first
              | exact ⟨_, _, _, rfl, hrg1, hb1, dn_keep HU.out (fun a1 a2 => by omega)⟩
              | exact ⟨9223372036854775807, _, _, by rw [wmin], hrg1, hb1, dn_wrap HL.out (by omega)⟩
            case measure => rw [hrg1.left_eq, hrg.left_eq]; exact hlt
        · go_wp2
          all_goals
            go_roundw
            case rel => first
              | exact ⟨_, _, _, rfl, hrg1, hb1, dn_keep HU.out (fun a1 a2 => by omega)⟩
              | exact ⟨_, _, _, rfl, hrg1, hb1, dn_take HU.out (by omega) (by omega) (by omega) HX.out hm hT.out⟩
            case measure => rw [hrg1.left_eq, hrg.left_eq]; exact hlt
  · go_enter Try.func7, Try.ntmps7
    go_wp2
    all_goals try (exfalso; omega)
    go_ret2
    exact ⟨end_empty (by omega), Below.refl _ _⟩
end Go.Proofs.Qxb6600570a
