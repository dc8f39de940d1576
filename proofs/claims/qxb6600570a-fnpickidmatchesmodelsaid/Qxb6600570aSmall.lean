/-
  The walks of zzPickVal, zzPickMap, zzPickTaken, zzPickCountTrue and of the bounds' functions.
-/
import Derived.Test.Qxb6600570aMap
namespace Go.Proofs.Qxb6600570a
open Go.RowKit Go.Maps

theorem val_any (oa : Option Addr) (cap : Nat) (vals : List Bool) (k : Nat) (w : World) (hv : Seen w.heap.size w oa (vb vals)) (_hm : vals.length ≤ 9223372036854775807) (_hk : k ≤ 9223372036854775807) :
    Calls Try.prog 13 #[.slice oa vals.length cap, .int .i64 (k : Int)] w fun e w' => e = .returned (.bool (pv vals k)) ∧ w' = w := by
  by_cases hlt : k < vals.length
  · obtain ⟨b, off, rfl, _, hc⟩ := hv.bool hlt
    obtain ⟨p, hp⟩ : ∃ p, pv vals k = p := ⟨_, rfl⟩
    rw [hp] at hc ⊢
    go_enter Try.func13, Try.ntmps13
    go_wp2
    go_ret
    refine ⟨?_, rfl⟩
    have hn : ¬ vals.length ≤ k := by omega
    simp [hn]
  · rw [pv_past (by omega)]
    clear hv
    go_enter Try.func13, Try.ntmps13
    go_wp2
    go_ret
    exact ⟨rfl, rfl⟩

/-- It answers a bool. -/
def SomeBool (e : Ending) : Prop := ∃ b, e = .returned (.bool b)

theorem bytes6_any (oa ob : Option Addr) (c1 c2 n1 n2 : Nat) (lo hi : Int) (sys : Bool) (w : World) (h1 : n1 ≤ 9223372036854775807) (h2 : n2 ≤ 9223372036854775807) :
    Calls Try.prog 6 #[.slice oa n1 c1, .slice ob n2 c2, .int .i64 lo, .int .i64 hi, .bool sys] w fun e w' => SomeBool e ∧ w' = w := by
  go_enter Try.func6, Try.ntmps6
  go_wp2
  all_goals (go_ret; exact ⟨⟨_, rfl⟩, rfl⟩)
theorem bytes10_any (oa ob : Option Addr) (c1 c2 n1 n2 : Nat) (lo hi : Int) (sys : Bool) (r : Int) (w : World) (h1 : n1 ≤ 9223372036854775807) (h2 : n2 ≤ 9223372036854775807) :
    Calls Try.prog 10 #[.slice oa n1 c1, .slice ob n2 c2, .int .i64 lo, .int .i64 hi, .bool sys, .int .u8 r] w fun e w' => SomeBool e ∧ w' = w := by
  go_enter Try.func10, Try.ntmps10
  go_wp2
  all_goals (go_ret; exact ⟨⟨_, rfl⟩, rfl⟩)

theorem tab_here {ids : List Int} {vals : List Bool} {k : Nat} {x : Int} (h : ids.getD k 0 = x) : tab ids vals (k + 1) x = some (pv vals k) := by
  rw [tab_succ, if_pos h.symm]
theorem tab_not {ids : List Int} {vals : List Bool} {k : Nat} {x : Int} (h : ids.getD k 0 ≠ x) : tab ids vals (k + 1) x = tab ids vals k x := by
  rw [tab_succ, if_neg (fun e => h e.symm)]
theorem beq_t {a b : Int} (h : (a == b) = true) : a = b := by simpa using h
theorem beq_f {a b : Int} (h : (a == b) = false) : a ≠ b := by simpa using h

set_option maxHeartbeats 1000000 in
theorem taken_any (oa ob : Option Addr) (c1 c2 : Nat) (ids : List Int) (vals : List Bool) (x : Int) (w : World) (hi : Seen w.heap.size w oa (vi ids)) (hv : Seen w.heap.size w ob (vb vals))
    (h1 : ids.length ≤ 1048576) (h2 : vals.length ≤ 1048576) :
    Calls Try.prog 15 #[.slice oa ids.length c1, .slice ob vals.length c2, .int .i64 x] w fun e w' => e = .returned (.bool (tru (tab ids vals ids.length) x)) ∧ w' = w := by
  have HI := Lib.hid hi
  have HV := Lib.hid hv
  clear hi hv
  go_enter Try.func15, Try.ntmps15
  go_wp2
  go_loop [7] (fun t7 => ∃ m : Nat, t7 = .int .i64 ((m : Int) - 1) ∧ m ≤ ids.length ∧ Hid (tab ids vals m x = tab ids vals ids.length x)) (fun i => (intOf i + 1).toNat)
  case atStart => exact ⟨ids.length, rfl, Nat.le_refl _, rfl⟩
  case round =>
    obtain ⟨m, rfl, hm, HT⟩ := hrel
    rcases Nat.eq_zero_or_pos m with rfl | hp
    · go_wp2
      go_ret
      refine ⟨?_, rfl⟩
      have := HT.out
      simp only [tru, ← this]
      rfl
    · obtain ⟨j, rfl⟩ : ∃ j, m = j + 1 := ⟨m - 1, by omega⟩
      obtain ⟨b, off, rfl, _, hc⟩ := HI.out.int (k := j) (by omega)
      obtain ⟨z, hz⟩ : ∃ z, ids.getD j 0 = z := ⟨_, rfl⟩
      rw [hz] at hc
      have HZ := Lib.hid hz
      clear hz
      have e1 : ((j + 1 : Nat) : Int) - 1 = (j : Int) := by omega
      rw [e1]
      go_wp2_with (first | (go_at_call 13; refine (val_any ob c2 vals j w HV.out (by omega) (by omega)).mono ?_; rintro e w' ⟨rfl, rfl⟩) | go_in)
      · have hzx : z = x := beq_t (by assumption)
        go_ret
        refine ⟨?_, rfl⟩
        have h3 := HT.out
        rw [tab_here (HZ.out.trans hzx)] at h3
        simp only [tru, ← h3]
        rfl
      · have hzx : z ≠ x := beq_f (by assumption)
        go_round
        case rel => exact ⟨j, rfl, by omega, by
          have h3 := HT.out
          rw [tab_not (by rw [HZ.out]; exact hzx)] at h3
          exact h3⟩
        case measure => simp [intOf]

set_option maxHeartbeats 1000000 in
/-- The map that ids and vals make. -/
theorem map_any (oa ob : Option Addr) (c1 c2 : Nat) (ids : List Int) (vals : List Bool) (w : World) (hi : Seen w.heap.size w oa (vi ids)) (hv : Seen w.heap.size w ob (vb vals))
    (h1 : ids.length ≤ 1048576) (h2 : vals.length ≤ 1048576) (hin : ∀ k, k < ids.length → In (ids.getD k 0)) :
    Calls Try.prog 8 #[.slice oa ids.length c1, .slice ob vals.length c2, .bool false] w fun e w' => e = .returned (.map (some w.heap.size)) ∧ Holds w' w.heap.size ids.length (tab ids vals ids.length) ∧ Below w.heap.size w w' := by
  have hmm := @run_makeMap Try.prog
  have HI := Lib.hid hi
  have HV := Lib.hid hv
  have HN := Lib.hid hin
  clear hi hv hin
  go_enter Try.func8, Try.ntmps8
  go_wp2
  go_loopw [8] (fun t8 wr => ∃ k : Nat, t8 = .int .i64 (k : Int) ∧ k ≤ ids.length ∧ Holds wr w.heap.size k (tab ids vals k) ∧ Below w.heap.size w wr) (fun i _ => ids.length - (intOf i).toNat)
  case atStart => exact ⟨0, rfl, by omega, Holds.made w, (Below.refl _ _).alloc (Nat.le_refl _) _⟩
  case round =>
    obtain ⟨k, rfl, hk, hh, hb⟩ := hrel
    by_cases hlt : k < ids.length
    · obtain ⟨b, off, rfl, hbl, hc0⟩ := HI.out.int hlt
      have hx := HN.out k hlt
      have hc := (hb.cell (by exact hbl)).trans hc0
      clear hc0
      obtain ⟨z, hz⟩ : ∃ z, ids.getD k 0 = z := ⟨_, rfl⟩
      rw [hz] at hc hx
      have HZ := Lib.hid hz
      have HX := Lib.hid hx
      clear hz hx
      obtain ⟨D, ho, hs⟩ := hh
      have HS := Lib.hid hs
      clear hs
      have k13 := val_any ob c2 vals k wr (HV.out.on hb hb.size) (by omega) (by omega)
      obtain ⟨p, hp⟩ : ∃ p, pv vals k = p := ⟨_, rfl⟩
      rw [hp] at k13
      have HP := Lib.hid hp
      clear hp
      go_wp2_with (first
        | (go_at_call 13; refine k13.mono ?_; rintro e w' ⟨rfl, rfl⟩)
        | (at_mapUpdate; refine wpList_mapUpdate_own _ rfl _ _ _ 27 rfl 3 4 law3 Try.underlying27 _ w.heap.size k _ rfl ho (by unfold maxLen; omega) _ _ _ rfl rfl HX.out.key _ [] (plainElem_bool Try.underlying4 p) ?_; intro w1 ho1 hg1)
        | go_in)
      have R1 : Holds w1 w.heap.size (k + 1) (tab ids vals (k + 1)) := ⟨_, ho1, by
        have := HS.out.put z p
        rw [show tab ids vals (k + 1) = upd (tab ids vals k) z p by rw [← HZ.out, ← HP.out]; rfl]
        exact this⟩
      have R2 := hb.grown hg1 hb.size (fun j hj => by cases hj; exact Nat.le_refl _)
      clear ho1 hg1 ho hb k13 hc
      go_wp2
      go_roundw
      case rel => exact ⟨k + 1, by go_num, by omega, R1, R2⟩
      case measure => simp [intOf]; omega
    · obtain rfl : k = ids.length := by omega
      go_wp2
      go_ret
      exact ⟨rfl, hh, hb⟩

/-- The answer is a number n with Upto. -/
def Counted (ids : List Int) (vals : List Bool) (lo hi : Int) (e : Ending) : Prop := ∃ n : Nat, e = .returned (.int .i64 (n : Int)) ∧ n ≤ ids.length ∧ Trues (tab ids vals ids.length) lo hi n

theorem upto_none {ids : List Int} {vals : List Bool} {lo hi : Int} {k n : Nat} {z : Int} (h : Upto ids vals lo hi k n) (hz : ids.getD k 0 = z) (hno : ¬ (lo ≤ z ∧ z ≤ hi)) : Upto ids vals lo hi (k + 1) n :=
  upto_pass h (by rw [hz]; exact fun ⟨a, b, _⟩ => hno ⟨a, b⟩)

set_option maxHeartbeats 2000000 in
theorem count_any (oa ob : Option Addr) (c1 c2 : Nat) (ids : List Int) (vals : List Bool) (lo hi : Int) (w : World) (hi' : Seen w.heap.size w oa (vi ids)) (hv : Seen w.heap.size w ob (vb vals))
    (h1 : ids.length ≤ 1048576) (h2 : vals.length ≤ 1048576) :
    Calls Try.prog 11 #[.slice oa ids.length c1, .slice ob vals.length c2, .int .i64 lo, .int .i64 hi] w fun e w' => Counted ids vals lo hi e ∧ w' = w := by
  have HI := Lib.hid hi'
  have HV := Lib.hid hv
  clear hi' hv
  go_enter Try.func11, Try.ntmps11
  go_wp2
  go_loop [9, 10] (fun t9 t10 => ∃ n k : Nat, t9 = .int .i64 (n : Int) ∧ t10 = .int .i64 (k : Int) ∧ k ≤ ids.length ∧ n ≤ k ∧ Hid (Upto ids vals lo hi k n)) (fun _ i => ids.length - (intOf i).toNat)
  case atStart => exact ⟨0, 0, rfl, rfl, by omega, by omega, upto_start _ _ _ _⟩
  case round =>
    obtain ⟨n, k, rfl, rfl, hk, hn, HU⟩ := hrel
    by_cases hlt : k < ids.length
    · obtain ⟨b, off, rfl, hbl, hc⟩ := HI.out.int hlt
      obtain ⟨z, hz⟩ : ∃ z, ids.getD k 0 = z := ⟨_, rfl⟩
      rw [hz] at hc
      have HZ := Lib.hid hz
      clear hz
      by_cases hr : lo ≤ z ∧ z ≤ hi
      · obtain ⟨hr1, hr2⟩ := hr
        go_wp2
        all_goals try (exfalso; omega)
        go_loop [12, 13] (fun t12 t13 => ∃ j : Nat, t13 = .int .i64 (j : Int) ∧ k < j ∧ j ≤ ids.length ∧ t12 = .bool true ∧ Hid (∀ i, k < i → i < j → ids.getD i 0 ≠ z)) (fun _ i => ids.length - (intOf i).toNat)
        case atStart => exact ⟨k + 1, by go_num, by omega, by omega, rfl, fun i _ _ => by omega⟩
        case round =>
          obtain ⟨j, rfl, hj1, hj2, rfl, HA⟩ := hrel
          by_cases hlt2 : j < ids.length
          · obtain ⟨b', off', e', _, hc2⟩ := HI.out.int hlt2
            cases e'
            obtain ⟨y, hy⟩ : ∃ y, ids.getD j 0 = y := ⟨_, rfl⟩
            rw [hy] at hc2
            have HY := Lib.hid hy
            clear hy
            by_cases hyz : y = z
            · subst hyz
              have R : Upto ids vals lo hi (k + 1) n := upto_pass HU.out (fun ⟨_, _, h3, _⟩ => h3 j hj1 hlt2 (by rw [HY.out, HZ.out]))
              have HR := Lib.hid R
              clear R
              go_wp2
              go_round
              case rel => exact ⟨n, k + 1, rfl, by go_num, by omega, by omega, HR⟩
              case measure => simp [intOf]; omega
            · go_wp2
              all_goals try (exfalso; exact hyz (beq_t (by assumption)))
              go_round
              case rel => exact ⟨j + 1, by go_num, by omega, by omega, rfl, fun i a1 a2 => by
                by_cases ei : i = j
                · rw [ei, HY.out]; exact hyz
                · exact HA.out i a1 (by omega)⟩
              case measure => simp [intOf]; omega
          · have k13 := val_any ob c2 vals k w HV.out (by omega) (by omega)
            obtain ⟨p, hp⟩ : ∃ p, pv vals k = p := ⟨_, rfl⟩
            rw [hp] at k13
            have HP := Lib.hid hp
            have K13 := Lib.hid k13
            clear hp k13
            have H3 : Hid (∀ i, k < i → i < ids.length → ids.getD i 0 ≠ ids.getD k 0) := fun i a1 a2 => by
              rw [HZ.out]
              exact HA.out i a1 (by omega)
            cases p with
            | false =>
              have R : Upto ids vals lo hi (k + 1) n := upto_pass HU.out (fun ⟨_, _, _, h4⟩ => by rw [HP.out] at h4; cases h4)
              have HR := Lib.hid R
              clear R
              go_wp2_with (first | (go_at_call 13; refine (K13.out).mono ?_; rintro e w' ⟨rfl, rfl⟩) | go_in)
              go_round
              case rel => exact ⟨n, k + 1, rfl, by go_num, by omega, by omega, HR⟩
              case measure => simp [intOf]; omega
            | true =>
              have R : Upto ids vals lo hi (k + 1) (n + 1) := upto_take HU.out hlt (by rw [HZ.out]; exact hr1) (by rw [HZ.out]; exact hr2) H3.out HP.out
              have HR := Lib.hid R
              clear R
              go_wp2_with (first | (go_at_call 13; refine (K13.out).mono ?_; rintro e w' ⟨rfl, rfl⟩) | go_in)
              go_round
              case rel => exact ⟨n + 1, k + 1, by go_num, by go_num, by omega, by omega, HR⟩
              case measure => simp [intOf]; omega
      · have R := upto_none HU.out HZ.out hr
        have HR := Lib.hid R
        clear R
        go_wp2
        all_goals try (exfalso; omega)
        all_goals
          go_round
          case rel => exact ⟨n, k + 1, rfl, by go_num, by omega, by omega, HR⟩
          case measure => simp [intOf]; omega
    · obtain rfl : k = ids.length := by omega
      go_wp2
      go_ret
      exact ⟨⟨n, rfl, hn, upto_end HU.out⟩, rfl⟩
end Go.Proofs.Qxb6600570a
