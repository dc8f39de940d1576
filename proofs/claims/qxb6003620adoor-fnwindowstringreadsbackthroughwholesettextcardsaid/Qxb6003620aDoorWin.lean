/-
  The walk of the law on the window setting's text.
-/
import Derived.Test.Qxb6003620aDoorSet
import Derived.Lib.ItoaLen
namespace Go.Proofs.Qxb6003620aDoor
open Go.RowKit Go.Shelf Pl

/-- What the window setting shows. -/
def shown (v : Int) : Int := if v = 0 then 200000 else v

set_option maxHeartbeats 400000 in
theorem winString_any (b : Nat) (max v : Int) (w : World) (hE : Env w) (h0 : -9223372036854775808 ≤ v) (h1 : v ≤ 9223372036854775807)
    (hbw : b < w.heap.size) (hc : w.cell? ⟨b, 0, none⟩ = some (.int .i64 v)) :
    Calls Tryd.prog 12 #[.agg #[.pointer (some ⟨b, 0, none⟩), .int .i64 max]] w fun e w' => e = .returned (.string ⟨(Lib.itoa (shown v)).toArray⟩) ∧ Below w.heap.size w w' := by
  have hw : ∀ o, Below w.heap.size w (w.alloc o) := fun o => (Below.refl _ _).alloc (Nat.le_refl _) _
  have hcw : ∀ o, (w.alloc o).cell? ⟨b, 0, none⟩ = some (.int .i64 v) := fun o => ((hw o).cell hbw).trans hc
  by_cases hv : v = 0
  · have hs : Hid (shown v = 200000) := if_pos hv
    have hv0 : (v == 0) = true := by simp [hv]
    have HF := Lib.hid fun o => formatInt_any 200000 (by omega) (by omega) (w.alloc o) (hE.on (hw o))
    rw [hs.out]
    clear hv h0 h1
    go_enter Tryd.func12, Tryd.ntmps12
    go_wp2_with (go_at_call 17; refine (HF.out _).mono ?_; rintro e w' ⟨rfl, hb⟩)
    go_ret
    exact ⟨rfl, (hw _).trans (hb.mono (by simp))⟩
  · have hs : Hid (shown v = v) := if_neg hv
    have hv0 : (v == 0) = false := by simp [hv]
    have HF := Lib.hid fun o => wholeString_any b max v (w.alloc o) (hE.on (hw o)) h0 h1 (Nat.lt_of_lt_of_le hbw (hw o).size) (hcw o)
    rw [hs.out]
    clear hv h0 h1
    go_enter Tryd.func12, Tryd.ntmps12
    go_wp2_with (go_at_call 11; refine (HF.out _).mono ?_; rintro e w' ⟨rfl, hb⟩)
    go_ret
    exact ⟨rfl, (hw _).trans (hb.mono (by simp))⟩

theorem zzWinString_any (b : Nat) (max v : Int) (w : World) (hE : Env w) (h0 : -9223372036854775808 ≤ v) (h1 : v ≤ 9223372036854775807)
    (hbw : b < w.heap.size) (hc : w.cell? ⟨b, 0, none⟩ = some (.int .i64 v)) :
    Calls Tryd.prog 9 #[.pointer (some ⟨b, 0, none⟩), .int .i64 max] w fun e w' => e = .returned (.string ⟨(Lib.itoa (shown v)).toArray⟩) ∧ Below w.heap.size w w' := by
  have key := winString_any b max v w hE h0 h1 hbw hc
  go_enter Tryd.func9, Tryd.ntmps9
  go_wp2_with (go_at_call 12; refine key.mono ?_; rintro e w' ⟨rfl, hb⟩)
  go_ret
  exact ⟨rfl, hb⟩


/-! ### The law -/
theorem itoa_size (v : Int) (h0 : -9223372036854775808 ≤ v) (h1 : v ≤ 9223372036854775807) : (⟨(Lib.itoa v).toArray⟩ : ByteArray).size ≤ 1048576 := by
  have := Lib.itoa_length_le v h0 h1
  show (Lib.itoa v).toArray.size ≤ _
  rw [List.size_toArray]
  omega

/-- The world in which the text is read back: the call's own cell, the text's making, a cell for what is read. -/
theorem win_env {w w1 : World} {o : Obj} (hE : Env w) (hb : Below (w.alloc o).heap.size (w.alloc o) w1) (o2 : Obj) : Env (w1.alloc o2) ∧ Below w.heap.size w w1 := by
  have h1 : Below w.heap.size w w1 := ((Below.refl _ _).alloc (Nat.le_refl _) _).trans (hb.mono (by simp))
  exact ⟨hE.on (h1.alloc h1.size _), h1⟩

set_option maxHeartbeats 800000 in
theorem win_pos (v : Int) (n : Nat) (limit : Int) (w : World) (hE : Env w) (hv : v = n) (h1 : 1 ≤ n) (h2 : n ≤ 9223372036854775807) :
    Calls Tryd.prog 4 #[.int .i64 v, .int .i64 limit] w fun e w' => e = .returned (.bool true) ∧ Below w.heap.size w w' := by
  have hw : ∀ o, Below w.heap.size w (w.alloc o) := fun o => (Below.refl _ _).alloc (Nat.le_refl _) _
  have k1 := zzWinString_any w.heap.size limit v (w.alloc (.cells #[.int .i64 v] 2)) (hE.on (hw _)) (by omega) (by omega) (by simp) (by simp)
  have hsh : shown v = (n : Int) := by unfold shown; rw [if_neg (by omega)]; exact hv
  rw [hsh] at k1
  obtain ⟨S, hS⟩ : ∃ S : ByteArray, (⟨(Lib.itoa (n : Int)).toArray⟩ : ByteArray) = S := ⟨_, rfl⟩
  have hSz : S.size ≤ 1048576 := by rw [← hS]; exact itoa_size _ (by omega) (by omega)
  have hSn : setN S.data.toList = some n := by
    rw [← hS, Lib.itoa_nonneg]; exact setN_dec n h1 h2
  rw [hS] at k1
  have k2 := fun b w' hbw hc hz => zzSet_yes b 9223372036854775807 0 S w' hSz n hSn (by omega) hbw hc hz
  have K1 := Lib.hid k1
  have K2 := Lib.hid k2
  have hvn : ((n : Int) == v) = true := by simp [hv]
  have hv0 : (v == 0) = false := by simp; omega
  have hvp : 0 < v := by omega
  clear hsh hS hSn k1 k2 hv h1 h2
  go_enter Tryd.func4, Tryd.ntmps4
  go_wp2_with (go_at_call 9; refine K1.out.mono ?_; rintro e w1 ⟨rfl, hb1⟩; have c1 : w1.cell? ⟨w.heap.size, 0, none⟩ = some (.int .i64 v) := (hb1.cell (by simp)).trans (by simp))
  refine (K2.out w1.heap.size _ (by simp) (by simp) (by simp)).mono ?_
  rintro e w2 ⟨rfl, hc2, hb2⟩
  go_wp2
  go_ret
  have h1 := (win_env hE hb1 (.cells #[.int .i64 0] 2)).2
  exact ⟨ret_bool (by first | exact hvn | rfl), h1.trans (((Below.refl _ _).alloc (Nat.le_refl _) _).trans hb2 |>.mono h1.size)⟩

set_option maxHeartbeats 800000 in
theorem win_zero (limit : Int) (w : World) (hE : Env w) :
    Calls Tryd.prog 4 #[.int .i64 0, .int .i64 limit] w fun e w' => e = .returned (.bool true) ∧ Below w.heap.size w w' := by
  have hw : ∀ o, Below w.heap.size w (w.alloc o) := fun o => (Below.refl _ _).alloc (Nat.le_refl _) _
  have k1 := zzWinString_any w.heap.size limit 0 (w.alloc (.cells #[.int .i64 0] 2)) (hE.on (hw _)) (by omega) (by omega) (by simp) (by simp)
  have hsh : shown 0 = ((200000 : Nat) : Int) := rfl
  rw [hsh] at k1
  obtain ⟨S, hS⟩ : ∃ S : ByteArray, (⟨(Lib.itoa ((200000 : Nat) : Int)).toArray⟩ : ByteArray) = S := ⟨_, rfl⟩
  have hSz : S.size ≤ 1048576 := by rw [← hS]; exact itoa_size _ (by omega) (by omega)
  have hSn : setN S.data.toList = some 200000 := by
    rw [← hS, Lib.itoa_nonneg]; exact setN_dec 200000 (by omega) (by omega)
  rw [hS] at k1
  have k2 := fun b w' hbw hc hz => zzSet_yes b 9223372036854775807 0 S w' hSz 200000 hSn (by omega) hbw hc hz
  have K1 := Lib.hid k1
  have K2 := Lib.hid k2
  clear hsh hS hSn k1 k2
  go_enter Tryd.func4, Tryd.ntmps4
  go_wp2_with (go_at_call 9; refine K1.out.mono ?_; rintro e w1 ⟨rfl, hb1⟩; have c1 : w1.cell? ⟨w.heap.size, 0, none⟩ = some (.int .i64 0) := (hb1.cell (by simp)).trans (by simp))
  refine (K2.out w1.heap.size _ (by simp) (by simp) (by simp)).mono ?_
  rintro e w2 ⟨rfl, hc2, hb2⟩
  go_wp2
  go_ret
  have h1 := (win_env hE hb1 (.cells #[.int .i64 0] 2)).2
  exact ⟨ret_bool rfl, h1.trans (((Below.refl _ _).alloc (Nat.le_refl _) _).trans hb2 |>.mono h1.size)⟩

/-- The text of a negative number: its sign, and what follows it. -/
theorem neg_text (u : Nat) (h1 : 1 ≤ u) (S : ByteArray) (hS : S = ⟨(Lib.itoa (-(u : Int))).toArray⟩) :
    S.data.toList = 45 :: Lib.decDigits u ∧ 2 ≤ S.size ∧ (S.extract 1 S.size).data.toList = Lib.decDigits u ∧ (∀ h : 0 < S.size, (S[0]'h).toNat = 45) := by
  have hl : S.data.toList = 45 :: Lib.decDigits u := by rw [hS, Lib.itoa_neg u h1]
  have hsz : S.size = (Lib.decDigits u).length + 1 := by
    have := congrArg List.length hl
    simpa using this
  have hne := (dec_facts u).2.1
  have hpos : 1 ≤ (Lib.decDigits u).length := by
    cases e : Lib.decDigits u with
    | nil => exact absurd e hne
    | cons a r => simp
  refine ⟨hl, by omega, ?_, fun h => ?_⟩
  · rw [Lib.extract_data, hl]
    simp [hsz]
  · have e1 : S.data.toList[0]? = some (S[0]'h) := by rw [Array.getElem?_toList, Array.getElem?_eq_getElem h]; rfl
    rw [hl] at e1
    simp at e1
    rw [← e1]
    rfl

set_option maxHeartbeats 800000 in
theorem win_neg (u : Nat) (limit : Int) (w : World) (hE : Env w) (h1 : 1 ≤ u) (h2 : u ≤ 9223372036854775807) :
    Calls Tryd.prog 4 #[.int .i64 (-(u : Int)), .int .i64 limit] w fun e w' => e = .returned (.bool true) ∧ Below w.heap.size w w' := by
  have hw : ∀ o, Below w.heap.size w (w.alloc o) := fun o => (Below.refl _ _).alloc (Nat.le_refl _) _
  have k1 := zzWinString_any w.heap.size limit (-(u : Int)) (w.alloc (.cells #[.int .i64 (-(u : Int))] 2)) (hE.on (hw _)) (by omega) (by omega) (by simp) (by simp)
  have hsh : shown (-(u : Int)) = -(u : Int) := by unfold shown; rw [if_neg (by omega)]
  rw [hsh] at k1
  obtain ⟨S, hS⟩ : ∃ S : ByteArray, (⟨(Lib.itoa (-(u : Int))).toArray⟩ : ByteArray) = S := ⟨_, rfl⟩
  have hSz : S.size ≤ 1048576 := by rw [← hS]; exact itoa_size _ (by omega) (by omega)
  obtain ⟨t1, t2, t3, t4⟩ := neg_text u h1 S hS.symm
  have hSn : ∀ n : Nat, setN S.data.toList = some n → (9223372036854775807 : Int) < n := fun n h => by rw [t1, setN_minus] at h; cases h
  have hRz : (S.extract 1 S.size).size ≤ 1048576 := by rw [ByteArray.size_extract]; omega
  have hRn : setN (S.extract 1 S.size).data.toList = some u := by rw [t3]; exact setN_dec u h1 h2
  rw [hS] at k1
  have k2 := fun b w' hE' hbw hc hz => zzSet_no b 9223372036854775807 0 S w' hE' hSz hSn hbw hc hz
  have k3 := fun b w' hbw hc hz => zzSet_yes b 9223372036854775807 0 (S.extract 1 S.size) w' hRz u hRn (by omega) hbw hc hz
  have K1 := Lib.hid k1
  have K2 := Lib.hid k2
  have K3 := Lib.hid k3
  have hv0 : (-(u : Int) == 0) = false := by simp; omega
  have hvm : (-(u : Int) == -9223372036854775808) = false := by simp; omega
  have h45 := t4 (by omega)
  clear hsh hS hSn k1 k2 k3 t1 t3 t4 hRn
  go_enter Tryd.func4, Tryd.ntmps4
  go_wp2_with (go_at_call 9; refine K1.out.mono ?_; rintro e w1 ⟨rfl, hb1⟩; have c1 : w1.cell? ⟨w.heap.size, 0, none⟩ = some (.int .i64 (-(u : Int))) := (hb1.cell (by simp)).trans (by simp))
  have hE1 := win_env hE hb1 (.cells #[.int .i64 0] 2)
  refine (K2.out w1.heap.size _ hE1.1 (by simp) (by simp) (by simp)).mono ?_
  rintro e w2 ⟨rfl, hb2⟩
  have c2 : w2.cell? ⟨w1.heap.size, 0, none⟩ = some (.int .i64 0) := (hb2.cell (by simp)).trans (by simp)
  go_wp2_with fail
  refine (K3.out w2.heap.size _ (by simp) (by simp) (by simp)).mono ?_
  rintro e w3 ⟨rfl, hc3, hb3⟩
  go_wp2
  go_ret
  have g1 := hE1.2
  have g2 : Below w.heap.size w w2 := g1.trans (((Below.refl _ _).alloc (Nat.le_refl _) _).trans (hb2.mono (by simp)) |>.mono g1.size)
  exact ⟨ret_bool (by first | rfl | simp), g2.trans (((Below.refl _ _).alloc (Nat.le_refl _) _).trans hb3 |>.mono g2.size)⟩

set_option maxHeartbeats 800000 in
theorem win_min (limit : Int) (w : World) (hE : Env w) :
    Calls Tryd.prog 4 #[.int .i64 (-9223372036854775808), .int .i64 limit] w fun e w' => e = .returned (.bool true) ∧ Below w.heap.size w w' := by
  have hw : ∀ o, Below w.heap.size w (w.alloc o) := fun o => (Below.refl _ _).alloc (Nat.le_refl _) _
  have k1 := zzWinString_any w.heap.size limit (-9223372036854775808) (w.alloc (.cells #[.int .i64 (-9223372036854775808)] 2)) (hE.on (hw _)) (by omega) (by omega) (by simp) (by simp)
  have hsh : shown (-9223372036854775808) = -((9223372036854775808 : Nat) : Int) := by unfold shown; rw [if_neg (by omega)]; rfl
  rw [hsh] at k1
  obtain ⟨S, hS⟩ : ∃ S : ByteArray, (⟨(Lib.itoa (-((9223372036854775808 : Nat) : Int))).toArray⟩ : ByteArray) = S := ⟨_, rfl⟩
  have hSz : S.size ≤ 1048576 := by rw [← hS]; exact itoa_size _ (by omega) (by omega)
  obtain ⟨t1, t2, t3, t4⟩ := neg_text 9223372036854775808 (by omega) S hS.symm
  have hSn : ∀ n : Nat, setN S.data.toList = some n → (9223372036854775807 : Int) < n := fun n h => by rw [t1, setN_minus] at h; cases h
  have hSt : (S.toList == [45, 57, 50, 50, 51, 51, 55, 50, 48, 51, 54, 56, 53, 52, 55, 55, 53, 56, 48, 56]) = true := by
    rw [Lib.toList_data, t1, least_text]; rfl
  rw [hS] at k1
  have k2 := fun b w' hE' hbw hc hz => zzSet_no b 9223372036854775807 0 S w' hE' hSz hSn hbw hc hz
  have K1 := Lib.hid k1
  have K2 := Lib.hid k2
  have h45 := t4 (by omega)
  clear hsh hS hSn k1 k2 t1 t3 t4
  go_enter Tryd.func4, Tryd.ntmps4
  go_wp2_with (go_at_call 9; refine K1.out.mono ?_; rintro e w1 ⟨rfl, hb1⟩; have c1 : w1.cell? ⟨w.heap.size, 0, none⟩ = some (.int .i64 (-9223372036854775808)) := (hb1.cell (by simp)).trans (by simp))
  have hE1 := win_env hE hb1 (.cells #[.int .i64 0] 2)
  refine (K2.out w1.heap.size _ hE1.1 (by simp) (by simp) (by simp)).mono ?_
  rintro e w2 ⟨rfl, hb2⟩
  have c2 : w2.cell? ⟨w1.heap.size, 0, none⟩ = some (.int .i64 0) := (hb2.cell (by simp)).trans (by simp)
  go_wp2
  go_ret
  have g1 := hE1.2
  have g2 : Below w.heap.size w w2 := g1.trans (((Below.refl _ _).alloc (Nat.le_refl _) _).trans (hb2.mono (by simp)) |>.mono g1.size)
  exact ⟨ret_bool (by first | exact hSt | rfl), g2⟩

theorem win_walk (v limit : Int) (h0 : -9223372036854775808 ≤ v) (h1 : v ≤ 9223372036854775807) (w : World) (hE : Env w) :
    Calls Tryd.prog 4 #[.int .i64 v, .int .i64 limit] w fun e w' => e = .returned (.bool true) ∧ Below w.heap.size w w' := by
  by_cases hz : v = 0
  · subst hz; exact win_zero limit w hE
  · by_cases hp : 0 < v
    · exact win_pos v v.toNat limit w hE (by omega) (by omega) (by omega)
    · by_cases hm : v = -9223372036854775808
      · subst hm; exact win_min limit w hE
      · have e : v = -((-v).toNat : Int) := by omega
        rw [e]
        exact win_neg (-v).toNat limit w hE (by omega) (by omega)
end Go.Proofs.Qxb6003620aDoor
