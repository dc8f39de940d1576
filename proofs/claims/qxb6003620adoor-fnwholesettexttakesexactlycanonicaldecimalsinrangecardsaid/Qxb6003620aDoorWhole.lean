/-
  The walk of the law on the whole-number setting's text.
-/
import Derived.Test.Qxb6003620aDoorSet
namespace Go.Proofs.Qxb6003620aDoor
open Go.RowKit Go.Shelf Pl

set_option maxHeartbeats 400000 in
theorem bytes5_any (s : ByteArray) (a b : Int) (w : World) (hs : s.size ≤ maxLen) :
    Calls Tryd.prog 5 #[.string s, .int .i64 a, .int .i64 b] w fun e w' => e = .returned (.bool (decide (s.size ≤ 1048576))) ∧ w' = w := by
  unfold maxLen at hs
  by_cases h : s.size ≤ 1048576
  · go_enter Tryd.func5, Tryd.ntmps5
    go_wp2
    go_ret
    exact ⟨ret_bool (by simp [h]), rfl⟩
  · go_enter Tryd.func5, Tryd.ntmps5
    go_wp2
    go_ret
    exact ⟨ret_bool (by simp [h]), rfl⟩

/-! ### zzCanonicalDecimal -/
def canN (o : Option Nat) : Int := match o with | some n => n | none => 0
def canB (o : Option Nat) : Bool := o.isSome

theorem at_byte (s : ByteArray) (k : Nat) (hk : k < s.size) : s.data.toList[k]? = some (s[k]'hk) := by
  rw [Array.getElem?_toList, Array.getElem?_eq_getElem hk]; rfl
theorem len_list (s : ByteArray) : s.data.toList.length = s.size := by simp

theorem setN_nil (s : ByteArray) (h : s.size = 0) : setN s.data.toList = none := by
  have e : s.data.toList = [] := List.length_eq_zero_iff.1 (by rw [len_list]; exact h)
  rw [e]; rfl
theorem setN_lead (l : List UInt8) (h : lead0 l = true) : setN l = none := by
  unfold setN; rw [if_pos (Or.inl h)]
theorem setN_nondig (l : List UInt8) (h : allDig l = false) : setN l = none := by
  unfold setN; rw [if_pos (Or.inr (Or.inl h))]
theorem setN_long (l : List UInt8) (h : 19 < l.length) : setN l = none := by
  cases h0 : lead0 l with
  | true => exact setN_lead l h0
  | false =>
    cases hd : allDig l with
    | false => exact setN_nondig l hd
    | true =>
      have := long_big l h0 hd h
      unfold setN
      split
      · rfl
      · rw [if_neg (by omega)]

/-- The number so far. -/
def soFar (l : List UInt8) (k : Nat) (a : Int) : Prop := a = (val 0 (l.take k) : Int) ∧ allDig (l.take k) = true

theorem soFar_zero (l : List UInt8) : soFar l 0 0 := ⟨rfl, rfl⟩
theorem soFar_bd {l : List UInt8} {k : Nat} {a : Int} (h : soFar l k a) (hk : k ≤ 18) : 0 ≤ a ∧ a < 1000000000000000000 := by
  have h1 := val_lt 0 (l.take k) h.2
  have h2 : 10 ^ (l.take k).length ≤ 10 ^ 18 := Nat.pow_le_pow_right (by decide) (by rw [List.length_take]; omega)
  rw [h.1]
  omega
theorem soFar_step {l : List UInt8} {k : Nat} {a : Int} {c : UInt8} (h : soFar l k a) (hc : l[k]? = some c) (hd : 48 ≤ c.toNat ∧ c.toNat ≤ 57) :
    soFar l (k + 1) (a * 10 + ((c.toNat : Int) - 48)) := by
  obtain ⟨hk, hck⟩ := List.getElem?_eq_some_iff.1 hc
  have e : l.take (k + 1) = l.take k ++ [c] := by rw [List.take_succ_eq_append_getElem hk, hck]
  have ha : (l.take k).all digB = true := h.2
  refine ⟨?_, by rw [e]; simp [allDig, ha, (digB_iff c).2 hd]⟩
  rw [e, val_snoc, h.1]
  omega
theorem soFar_stop {l : List UInt8} {k : Nat} {c : UInt8} (hc : l[k]? = some c) (hd : ¬ (48 ≤ c.toNat ∧ c.toNat ≤ 57)) : setN l = none := by
  refine setN_nondig l ?_
  unfold allDig
  rw [List.all_eq_false]
  exact ⟨c, List.mem_of_getElem? hc, fun h => hd ((digB_iff c).1 h)⟩
theorem soFar_end {l : List UInt8} {k : Nat} {a : Int} (h : soFar l k a) (hk : l.length ≤ k) (h0 : lead0 l = false) (hne : l ≠ []) :
    (a ≤ 9223372036854775807 → setN l = some a.toNat ∧ 0 ≤ a) ∧ (9223372036854775807 < a → setN l = none) := by
  obtain ⟨e, hd⟩ := h
  rw [List.take_of_length_le hk] at e hd
  refine ⟨fun hle => ⟨?_, by omega⟩, fun hgt => ?_⟩
  · unfold setN
    rw [if_neg (by simp [h0, hd, hne]), if_pos (by omega)]
    congr 1
    omega
  · unfold setN
    rw [if_neg (by simp [h0, hd, hne]), if_neg (by omega)]

theorem lead0_at (s : ByteArray) (h : 0 < s.size) (hn : (s[0]'h).toNat ≠ 48) : lead0 s.data.toList = false := by
  have e := at_byte s 0 h
  cases hl : s.data.toList with
  | nil => rw [hl] at e; simp at e
  | cons c r =>
    rw [hl] at e
    have e' : c = s[0]'h := by simpa using e
    have hc : c ≠ 48 := fun x => hn (by rw [← e', x]; rfl)
    simp [lead0, hc]
theorem lead0_yes (s : ByteArray) (h : 0 < s.size) (hn : (s[0]'h).toNat = 48) : lead0 s.data.toList = true := by
  have e := at_byte s 0 h
  cases hl : s.data.toList with
  | nil => rw [hl] at e; simp at e
  | cons c r =>
    rw [hl] at e
    have e' : c = s[0]'h := by simpa using e
    have hc : c = 48 := UInt8.toNat_inj.1 (by rw [e', hn]; rfl)
    simp [lead0, hc]

theorem ret_pair {a b : Int} {x y : Bool} (h : a = b) (k : x = y) : Ending.returned (.tuple #[.int .i64 a, .bool x]) = .returned (.tuple #[.int .i64 b, .bool y]) := by rw [h, k]

set_option maxHeartbeats 800000 in
theorem canon_any (s : ByteArray) (w : World) (hs : s.size ≤ 1048576) :
    Calls Tryd.prog 7 #[.string s] w fun e w' => e = .returned (.tuple #[.int .i64 (canN (setN s.data.toList)), .bool (canB (setN s.data.toList))]) ∧ w' = w := by
  by_cases hz : s.size = 0
  · have R : Hid (setN s.data.toList = none) := setN_nil s hz
    have hz' : ((s.size : Int) == 0) = true := by rw [beq_iff_eq]; omega
    rw [R.out]
    go_enter Tryd.func7, Tryd.ntmps7
    go_wp2
    go_ret2
    exact ⟨rfl, rfl⟩
  · have hz' : ((s.size : Int) == 0) = false := by rw [beq_eq_false_iff_ne]; omega
    by_cases hl : 19 < s.size
    · have R : Hid (setN s.data.toList = none) := setN_long _ (by rw [len_list]; exact hl)
      rw [R.out]
      go_enter Tryd.func7, Tryd.ntmps7
      go_wp2
      go_ret2
      exact ⟨rfl, rfl⟩
    · have hp : 0 < s.size := by omega
      by_cases h48 : (s[0]'hp).toNat = 48
      · have R : Hid (setN s.data.toList = none) := setN_lead _ (lead0_yes s hp h48)
        have h48' : (((s[0]'hp).toNat : Int) == 48) = true := by simp; omega
        rw [R.out]
        clear h48
        go_enter Tryd.func7, Tryd.ntmps7
        go_wp2
        go_ret2
        exact ⟨rfl, rfl⟩
      · have H0 : Hid (lead0 s.data.toList = false) := lead0_at s hp h48
        have h48' : (((s[0]'hp).toNat : Int) == 48) = false := by simp; omega
        have HN : Hid (s.data.toList ≠ []) := fun e => hz (by rw [← len_list, e]; rfl)
        clear h48
        go_enter Tryd.func7, Tryd.ntmps7
        go_wp2
        go_loop [4, 5] (fun u i => ∃ (k : Nat) (a : Int), k ≤ s.size ∧ i = .int .i64 k ∧ u = .int .u64 a ∧ Hid (soFar s.data.toList k a)) (fun _ i => s.size - (intOf i).toNat)
        case atStart => exact ⟨0, 0, by omega, rfl, rfl, soFar_zero _⟩
        case round =>
          obtain ⟨k, a, hk, rfl, rfl, hso⟩ := hrel
          by_cases hlt : k < s.size
          · have hbd := soFar_bd hso.out (by omega)
            have hc := at_byte s k hlt
            by_cases hd : 48 ≤ (s[k]'hlt).toNat ∧ (s[k]'hlt).toNat ≤ 57
            · have R := Lib.hid (soFar_step hso.out hc hd)
              clear hc hso
              go_wp2
              go_round
              case rel => exact ⟨k + 1, _, by omega, by go_num, rfl, R⟩
              case measure => simp [intOf]; omega
            · have R := Lib.hid (soFar_stop hc hd)
              have hd2 : (s[k]'hlt).toNat < 48 ∨ 57 < (s[k]'hlt).toNat := by omega
              clear hc hso hd
              rcases hd2 with hd2 | hd2
              all_goals
                go_wp2
                go_ret2
                exact ⟨ret_pair (by rw [R.out]; rfl) (by rw [R.out]; rfl), rfl⟩
          · have hend := soFar_end hso.out (by rw [len_list]; omega) H0.out HN.out
            by_cases hm : a ≤ 9223372036854775807
            · obtain ⟨R, hpos⟩ := hend.1 hm
              have R' := Lib.hid R
              have ha : Hid ((a.toNat : Int) = a) := Int.toNat_of_nonneg hpos
              clear hend R hso
              go_wp2
              go_ret2
              exact ⟨ret_pair (by rw [R'.out]; exact ha.out.symm) (by rw [R'.out]; rfl), rfl⟩
            · have R := Lib.hid (hend.2 (by omega))
              clear hend hso
              go_wp2
              go_ret2
              exact ⟨ret_pair (by rw [R.out]; rfl) (by rw [R.out]; rfl), rfl⟩

/-! ### The law -/
theorem itoa_back (s : ByteArray) (n : Nat) (h : setN s.data.toList = some n) : (⟨(Lib.itoa (n : Int)).toArray⟩ : ByteArray) = s := by
  obtain ⟨h1, h2, h3, h4, h5, h6⟩ := setN_pos h
  rw [Lib.itoa_nonneg, h3, dec_val _ h4 h5 h6]

set_option maxHeartbeats 800000 in
theorem whole_yes (s : ByteArray) (limit start : Int) (w : World) (hE : Env w) (hs : s.size ≤ 1048576) (n : Nat) (h : setN s.data.toList = some n) (hle : (n : Int) ≤ limit) :
    Calls Tryd.prog 3 #[.string s, .int .i64 limit, .int .i64 start] w fun e w' => e = .returned (.bool true) ∧ Below w.heap.size w w' := by
  have k0 := bytes5_any s limit start w (by unfold maxLen; omega)
  rw [decide_eq_true hs] at k0
  have k1 := zzSet_yes w.heap.size limit start s (w.alloc (.cells #[.int .i64 start] 2)) hs n h hle (by simp) (by simp) (by simp)
  have k2 := fun w' => canon_any s w' hs
  rw [h] at k2
  obtain ⟨h1, h2, -⟩ := setN_pos h
  have hw : Below w.heap.size w (w.alloc (.cells #[.int .i64 start] 2)) := (Below.refl _ _).alloc (Nat.le_refl _) _
  have hb' := itoa_back s n h
  have k3 : ∀ w1 : World, w1.cell? ⟨w.heap.size, 0, none⟩ = some (.int .i64 (n : Int)) → Below w.heap.size w w1 → w.heap.size < w1.heap.size →
      Calls Tryd.prog 8 #[.pointer (some ⟨w.heap.size, 0, none⟩), .int .i64 limit] w1 fun e w' => e = .returned (.string s) ∧ Below w1.heap.size w1 w' := fun w1 hc hb hz => by
    have k := zzWholeString_any w.heap.size limit (n : Int) w1 (hE.on hb) (by omega) (by omega) hz hc
    rw [hb'] at k
    exact k
  have K0 := Lib.hid k0
  have K1 := Lib.hid k1
  have K2 : Hid (∀ w', Calls Tryd.prog 7 #[.string s] w' fun e w2 => e = .returned (.tuple #[.int .i64 (n : Int), .bool true]) ∧ w2 = w') := k2
  have K3 := Lib.hid k3
  have HE := Lib.hid hE
  clear k0 k1 k2 k3 h hE hb' h2
  go_enter Tryd.func3, Tryd.ntmps3
  go_wp2_with (go_at_call 5; refine K0.out.mono ?_; rintro e w0 ⟨rfl, rfl⟩)
  refine K1.out.mono ?_
  rintro e w1 ⟨rfl, hc1, hb1⟩
  have hb2 := hw.trans hb1
  have hz1 : w0.heap.size < w1.heap.size := by have := hb1.size; simp at this; omega
  go_wp2_with (first | (go_at_call 7; refine (K2.out _).mono ?_; rintro e w2 ⟨rfl, rfl⟩) | (go_at_call 8; refine (K3.out _ hc1 hb2 hz1).mono ?_; rintro e w3 ⟨rfl, hb3⟩))
  go_ret
  exact ⟨ret_bool (by first | rfl | simp), hb2.trans (hb3.mono hb2.size)⟩

set_option maxHeartbeats 800000 in
theorem whole_no (s : ByteArray) (limit start : Int) (w : World) (hE : Env w) (hs : s.size ≤ 1048576) (o : Option Nat) (h : setN s.data.toList = o) (hbig : ∀ n : Nat, o = some n → limit < n) :
    Calls Tryd.prog 3 #[.string s, .int .i64 limit, .int .i64 start] w fun e w' => e = .returned (.bool true) ∧ Below w.heap.size w w' := by
  have k0 := bytes5_any s limit start w (by unfold maxLen; omega)
  rw [decide_eq_true hs] at k0
  have hw : Below w.heap.size w (w.alloc (.cells #[.int .i64 start] 2)) := (Below.refl _ _).alloc (Nat.le_refl _) _
  have k1 := zzSet_no w.heap.size limit start s (w.alloc (.cells #[.int .i64 start] 2)) (hE.on hw) hs (fun n hn => hbig n (h.symm.trans hn)) (by simp) (by simp) (by simp)
  have k2 := fun w' => canon_any s w' hs
  rw [h] at k2
  have K0 := Lib.hid k0
  have K1 := Lib.hid k1
  cases o with
  | none =>
    have K2 : Hid (∀ w', Calls Tryd.prog 7 #[.string s] w' fun e w2 => e = .returned (.tuple #[.int .i64 0, .bool false]) ∧ w2 = w') := k2
    clear k0 k1 k2 h hE hbig
    go_enter Tryd.func3, Tryd.ntmps3
    go_wp2_with (go_at_call 5; refine K0.out.mono ?_; rintro e w0 ⟨rfl, rfl⟩)
    refine K1.out.mono ?_
    rintro e w1 ⟨rfl, hb1⟩
    have hc1 : w1.cell? ⟨w0.heap.size, 0, none⟩ = some (.int .i64 start) := (hb1.cell (by simp)).trans (by simp)
    go_wp2_with (go_at_call 7; refine (K2.out _).mono ?_; rintro e w2 ⟨rfl, rfl⟩)
    go_ret
    exact ⟨ret_bool (by first | rfl | simp), hw.trans (hb1.mono (by simp))⟩
  | some n =>
    have hlt := hbig n rfl
    obtain ⟨h1, -⟩ := setN_pos h
    have K2 : Hid (∀ w', Calls Tryd.prog 7 #[.string s] w' fun e w2 => e = .returned (.tuple #[.int .i64 (n : Int), .bool true]) ∧ w2 = w') := k2
    clear k0 k1 k2 h hE hbig
    go_enter Tryd.func3, Tryd.ntmps3
    go_wp2_with (go_at_call 5; refine K0.out.mono ?_; rintro e w0 ⟨rfl, rfl⟩)
    refine K1.out.mono ?_
    rintro e w1 ⟨rfl, hb1⟩
    have hc1 : w1.cell? ⟨w0.heap.size, 0, none⟩ = some (.int .i64 start) := (hb1.cell (by simp)).trans (by simp)
    go_wp2_with (go_at_call 7; refine (K2.out _).mono ?_; rintro e w2 ⟨rfl, rfl⟩)
    go_ret
    exact ⟨ret_bool (by first | rfl | simp), hw.trans (hb1.mono (by simp))⟩

theorem whole_walk (s : ByteArray) (limit start : Int) (w : World) (hE : Env w) (hs : s.size ≤ maxLen) :
    Calls Tryd.prog 3 #[.string s, .int .i64 limit, .int .i64 start] w fun e w' => e = .returned (.bool true) ∧ Below w.heap.size w w' := by
  by_cases h : s.size ≤ 1048576
  · cases hn : setN s.data.toList with
    | none => exact whole_no s limit start w hE h none hn (fun n h => by cases h)
    | some n =>
      by_cases hle : (n : Int) ≤ limit
      · exact whole_yes s limit start w hE h n hn hle
      · exact whole_no s limit start w hE h (some n) hn (fun m e => by cases e; omega)
  · have k0 := bytes5_any s limit start w hs
    rw [decide_eq_false h] at k0
    have K0 := Lib.hid k0
    clear k0 hE hs
    go_enter Tryd.func3, Tryd.ntmps3
    go_wp2_with (go_at_call 5; refine K0.out.mono ?_; rintro e w0 ⟨rfl, rfl⟩)
    go_ret
    exact ⟨rfl, Below.refl _ _⟩
end Go.Proofs.Qxb6003620aDoor
