/-
  The walk of the law on a script of picks.
-/
import Derived.Test.Qxb6600570aPick
namespace Go.Proofs.Qxb6600570a
open Go.RowKit Go.Maps

theorem pick_any (sys : Bool) (b n : Nat) (T : Int → Option Bool) (lo hi : Int) (w : World) (hh : Holds w b n T) (hn : n ≤ 1000000) (hl : In lo) (hr : In hi) :
    Calls Try.prog 7 #[.map (some b), .int .i64 lo, .int .i64 hi, .bool sys] w fun e w' => PickEnd sys T lo hi e ∧ Below w.heap.size w w' := by
  cases sys
  · exact pick_up b n T lo hi w hh hn hl hr
  · exact pick_dn b n T lo hi w hh hn hl hr

theorem Holds.mono' {w : World} {b n m : Nat} {T : Int → Option Bool} (h : Holds w b n T) (hm : n ≤ m) : Holds w b m T := by
  obtain ⟨D, h1, h2⟩ := h
  exact ⟨D, World.ownsMap.mono h1 hm, h2⟩
/-- The two differences, as unsigned numbers. -/
theorem diff_u {lo hi : Int} {n : Nat} (hl : In lo) (hr : In hi) (hle : lo ≤ hi) (e2 : (n : Int) ≤ hi - lo + 1) (e3 : hi - lo + 1 ≤ (n : Int))
    (h : ((n : Int) == 0) = true ∨ (IntKind.u64.wrap (IntKind.u64.wrap hi - IntKind.u64.wrap lo) != (n : Int) - 1) = true) : False := by
  obtain ⟨a1, a2⟩ := hl
  obtain ⟨b1, b2⟩ := hr
  have hw : ∀ x : Int, IntKind.u64.wrap x = x % 18446744073709551616 := fun x => by simp [IntKind.wrap, IntKind.bits, IntKind.signed]
  rcases h with h | h
  · have : (n : Int) = 0 := by simpa using h
    omega
  · rw [bne_iff_ne, hw, hw, hw] at h
    omega

set_option maxRecDepth 100000 in
set_option maxHeartbeats 4000000 in
theorem script_walk (oa ob : Option Addr) (c1 c2 : Nat) (ids : List Int) (vals : List Bool) (lo hi : Int) (sys : Bool) (r : Int) (w : World) (hi' : Seen w.heap.size w oa (vi ids)) (hv : Seen w.heap.size w ob (vb vals))
    (h1 : ids.length ≤ 9223372036854775807) (h2 : vals.length ≤ 9223372036854775807) (hin : ∀ k, k < ids.length → In (ids.getD k 0)) (hl : In lo) (hr : In hi) (hr1 : 0 ≤ r) (hr2 : r ≤ 255) :
    Calls Try.prog 4 #[.slice oa ids.length c1, .slice ob vals.length c2, .int .i64 lo, .int .i64 hi, .bool sys, .int .u8 r] w fun e w' => e = .returned (.bool true) ∧ Below w.heap.size w w' := by
  have k0 := bytes10_any oa ob c1 c2 ids.length vals.length lo hi sys r w h1 h2
  have HI := Lib.hid hi'
  have HV := Lib.hid hv
  have HN := Lib.hid hin
  have HL := Lib.hid hl
  have HR := Lib.hid hr
  obtain ⟨hl1, hl2⟩ := hl
  obtain ⟨hh1, hh2⟩ := hr
  clear hi' hv hin
  go_enter Try.func4, Try.ntmps4
  go_wp2_with fail
  refine k0.mono ?_
  rintro e w' ⟨⟨b, rfl⟩, rfl⟩
  clear k0
  cases b with
  | false =>
    go_wp2_with fail
    go_ret
    exact ⟨rfl, Below.refl _ _⟩
  | true =>
    go_wp2_with fail
    all_goals try (go_ret; exact ⟨rfl, Below.refl _ _⟩)
    refine (map_any oa ob c1 c2 ids vals w' HI.out HV.out (by omega) (by omega) HN.out).mono ?_
    rintro e w1 ⟨rfl, hm1, hb1⟩
    have hlt1 := hm1.lt
    have HM := Lib.hid hm1
    have HB := Lib.hid hb1
    clear hm1 hb1
    go_wp2_with fail
    refine (count_any oa ob c1 c2 ids vals lo hi w1 (HI.out.on HB.out HB.out.size) (HV.out.on HB.out HB.out.size) (by omega) (by omega)).mono ?_
    rintro e w2 ⟨⟨n, rfl, hn, ht⟩, rfl⟩
    have HT := Lib.hid ht
    clear ht HI HV HN
    go_wp2_with fail
    go_loopw [14, 15] (fun t14 t15 wr => ∃ (n k : Nat) (T : Int → Option Bool), t14 = .int .i64 (n : Int) ∧ t15 = .int .i64 (k : Int) ∧ (k : Int) ≤ r ∧ n ≤ 4096 + k ∧ Hid (Holds wr w'.heap.size (ids.length + k) T) ∧ Hid (Trues T lo hi n) ∧ Below w'.heap.size w' wr) (fun _ k _ => (r - intOf k).toNat)
    case atStart => exact ⟨n, 0, _, rfl, rfl, by omega, by omega, HM.out, HT, HB.out⟩
    case round =>
      clear HM HB HT hlt1 hn
      obtain ⟨n, k, T, rfl, rfl, hk, hn, HH, HT, hb⟩ := hrel
      by_cases hlt : (k : Int) < r
      · go_wp2_with fail
        refine (pick_any sys w'.heap.size (ids.length + k) T lo hi wr HH.out (by omega) HL.out HR.out).mono ?_
        rintro e w3 ⟨⟨id, ok, rfl, hp, -⟩, hb3⟩
        have hbb : Below w'.heap.size w' w3 := hb.trans (hb3.mono hb.size)
        have HH3 : Hid (Holds w3 w'.heap.size (ids.length + k) T) := HH.out.on hb3
        clear hb hb3 HH
        cases ok with
        | false =>
          rcases hp with ⟨h, _⟩ | ⟨-, rfl, hall⟩
          · cases h
          by_cases hle : lo ≤ hi
          · have e1 := HT.out.all hle hall
            have e2 : (n : Int) ≤ hi - lo + 1 := by omega
            have e3 : hi - lo + 1 ≤ (n : Int) := by omega
            clear e1 hall
            go_wp2
            · exact (diff_u HL.out HR.out hle e2 e3 (by assumption)).elim
            · go_roundw
              case rel => exact ⟨n, k + 1, T, rfl, by go_num, by omega, by omega, HH3.out.mono' (by omega), HT, hbb⟩
              case measure => simp [intOf]; omega
          · clear hall
            go_wp2
            all_goals try (exfalso; omega)
            go_roundw
            case rel => exact ⟨n, k + 1, T, rfl, by go_num, by omega, by omega, HH3.out.mono' (by omega), HT, hbb⟩
            case measure => simp [intOf]; omega
        | true =>
          rcases hp with ⟨-, p1, p2, p3⟩ | ⟨h, _⟩
          rotate_left
          · cases h
          have hid : In id := by unfold In; omega
          have look := HH3.out.look hid
          rw [p3] at look
          have HID := Lib.hid hid
          have HP := Lib.hid p3
          obtain ⟨D, ho, hs⟩ := HH3.out
          have HS := Lib.hid hs
          clear hs p3 hid HH3
          go_wp2_with (first
            | (at_mapUpdate; refine wpList_mapUpdate_own _ rfl _ _ _ 27 rfl 3 4 law3 Try.underlying27 _ w'.heap.size (ids.length + k) _ rfl ho (by unfold maxLen; omega) _ _ _ rfl rfl HID.out.key _ [] (plainElem_bool Try.underlying4 true) ?_; intro w4 ho4 hg4)
            | go_in)
          all_goals try (exfalso; omega)
          have R1 : Hid (Holds w4 w'.heap.size (ids.length + k + 1) (upd T id true)) := ⟨_, ho4, HS.out.put id true⟩
          have R2 := hbb.grown hg4 hbb.size (fun j hj => by cases hj; exact Nat.le_refl _)
          have R3 := Lib.hid (HT.out.put p1 p2 HP.out)
          clear ho4 hg4 ho hbb look
          go_wp2
          go_roundw
          case rel => exact ⟨n + 1, k + 1, _, by go_num, by go_num, by omega, by omega, R1, R3, R2⟩
          case measure => simp [intOf]; omega
      · go_wp2
        go_ret
        exact ⟨rfl, hb⟩
end Go.Proofs.Qxb6600570a
