/-
  The walk of the law that PickID answers as its model.
-/
import Derived.Test.Qxb6600570aPick
import Derived.Test.Qxb6600570aModel
namespace Go.Proofs.Qxb6600570a
open Go.RowKit Go.Maps

theorem pick_both (sys : Bool) (b n : Nat) (T : Int → Option Bool) (lo hi : Int) (w : World) (hh : Holds w b n T) (hn : n ≤ 1000000) (hl : In lo) (hr : In hi) :
    Calls Try.prog 7 #[.map (some b), .int .i64 lo, .int .i64 hi, .bool sys] w fun e w' => PickEnd sys T lo hi e ∧ Below w.heap.size w w' := by
  cases sys
  · exact pick_up b n T lo hi w hh hn hl hr
  · exact pick_dn b n T lo hi w hh hn hl hr
theorem model_both (sys : Bool) (oa ob : Option Addr) (c1 c2 : Nat) (ids : List Int) (vals : List Bool) (lo hi : Int) (w : World) (hi' : Seen w.heap.size w oa (vi ids)) (hv : Seen w.heap.size w ob (vb vals))
    (h1 : ids.length ≤ 1048576) (h2 : vals.length ≤ 1048576) (hl : In lo) (hr : In hi) :
    Calls Try.prog 9 #[.slice oa ids.length c1, .slice ob vals.length c2, .int .i64 lo, .int .i64 hi, .bool sys] w fun e w' => ModelEnd sys (tab ids vals ids.length) lo hi e ∧ w' = w := by
  cases sys
  · exact model_up oa ob c1 c2 ids vals lo hi w hi' hv h1 h2 hl hr
  · exact model_dn oa ob c1 c2 ids vals lo hi w hi' hv h1 h2 hl hr

set_option maxRecDepth 100000 in
set_option maxHeartbeats 4000000 in
theorem match_walk (oa ob : Option Addr) (c1 c2 : Nat) (ids : List Int) (vals : List Bool) (lo hi : Int) (sys : Bool) (w : World) (hi' : Seen w.heap.size w oa (vi ids)) (hv : Seen w.heap.size w ob (vb vals))
    (h1 : ids.length ≤ 9223372036854775807) (h2 : vals.length ≤ 9223372036854775807) (hin : ∀ k, k < ids.length → In (ids.getD k 0)) (hl : In lo) (hr : In hi) :
    Calls Try.prog 3 #[.slice oa ids.length c1, .slice ob vals.length c2, .int .i64 lo, .int .i64 hi, .bool sys] w fun e w' => e = .returned (.bool true) ∧ Below w.heap.size w w' := by
  have k0 := bytes6_any oa ob c1 c2 ids.length vals.length lo hi sys w h1 h2
  have HI := Lib.hid hi'
  have HV := Lib.hid hv
  have HN := Lib.hid hin
  have HL := Lib.hid hl
  have HR := Lib.hid hr
  obtain ⟨hl1, hl2⟩ := hl
  obtain ⟨hh1, hh2⟩ := hr
  clear hi' hv hin
  go_enter Try.func3, Try.ntmps3
  go_wp2_with fail
  refine k0.mono ?_
  rintro e w' ⟨⟨b, rfl⟩, rfl⟩
  clear k0
  cases b with
  | false =>
    go_wp2_with fail
    go_ret
    exact ⟨rfl, Below.refl _ _⟩
  | true =>
    by_cases hg : guard sys lo hi
    · have HG := Lib.hid hg
      have hg2 : sys = false → hi < 9223372036854775807 := fun e => by subst e; have h : hi ≠ 9223372036854775807 := hg; omega
      have hg3 : sys = true → -9223372036854775808 < lo := fun e => by subst e; have h : lo ≠ -9223372036854775808 := hg; omega
      clear hg
      cases sys with
      | false =>
        have hg4 := hg2 rfl
        clear hg2 hg3
        go_wp2_with fail
        all_goals try (go_ret; exact ⟨rfl, Below.refl _ _⟩)
        refine (map_any oa ob c1 c2 ids vals w' HI.out HV.out (by omega) (by omega) HN.out).mono ?_
        rintro e w1 ⟨rfl, hm1, hb1⟩
        have HM := Lib.hid hm1
        clear hm1
        go_wp2_with fail
        refine (pick_both false w'.heap.size ids.length _ lo hi w1 HM.out (by omega) HL.out HR.out).mono ?_
        rintro e w2 ⟨⟨id, ok, rfl, -, ha⟩, hb2⟩
        have HA := Lib.hid (ha HG.out)
        have hb : Below w'.heap.size w' w2 := hb1.trans (hb2.mono hb1.size)
        clear ha hb1 hb2 HM
        go_wp2_with fail
        refine (model_both false oa ob c1 c2 ids vals lo hi w2 (HI.out.on hb hb.size) (HV.out.on hb hb.size) (by omega) (by omega) HL.out HR.out).mono ?_
        rintro e w3 ⟨⟨id', ok', rfl, ha'⟩, rfl⟩
        obtain ⟨rfl, rfl⟩ := Ans.eq HA.out ha'
        clear ha' HA
        go_wp2
        go_ret
        exact ⟨by simp, hb⟩
      | true =>
        have hg4 := hg3 rfl
        clear hg2 hg3
        go_wp2_with fail
        all_goals try (go_ret; exact ⟨rfl, Below.refl _ _⟩)
        refine (map_any oa ob c1 c2 ids vals w' HI.out HV.out (by omega) (by omega) HN.out).mono ?_
        rintro e w1 ⟨rfl, hm1, hb1⟩
        have HM := Lib.hid hm1
        clear hm1
        go_wp2_with fail
        refine (pick_both true w'.heap.size ids.length _ lo hi w1 HM.out (by omega) HL.out HR.out).mono ?_
        rintro e w2 ⟨⟨id, ok, rfl, -, ha⟩, hb2⟩
        have HA := Lib.hid (ha HG.out)
        have hb : Below w'.heap.size w' w2 := hb1.trans (hb2.mono hb1.size)
        clear ha hb1 hb2 HM
        go_wp2_with fail
        refine (model_both true oa ob c1 c2 ids vals lo hi w2 (HI.out.on hb hb.size) (HV.out.on hb hb.size) (by omega) (by omega) HL.out HR.out).mono ?_
        rintro e w3 ⟨⟨id', ok', rfl, ha'⟩, rfl⟩
        obtain ⟨rfl, rfl⟩ := Ans.eq HA.out ha'
        clear ha' HA
        go_wp2
        go_ret
        exact ⟨by simp, hb⟩
    · cases sys with
      | false =>
        have e : hi = 9223372036854775807 := Classical.byContradiction fun h => hg h
        subst e
        go_wp2_with fail
        all_goals (go_ret; exact ⟨rfl, Below.refl _ _⟩)
      | true =>
        have e : lo = -9223372036854775808 := Classical.byContradiction fun h => hg h
        subst e
        go_wp2_with fail
        all_goals (go_ret; exact ⟨rfl, Below.refl _ _⟩)
end Go.Proofs.Qxb6600570a
