/-
  The walks of setText and of the two String methods, over the shelf's contracts.
-/
import Derived.Test.Qxb6003620aDoorRows
import Derived.Test.Qxb6003620aDoorShelf
import Derived.Test.Qxb6003620aDoorIdx
import Derived.WalkKit
import Derived.WalkSpells
import Derived.WalkLawsBesides
import Derived.Lib.AtoiErrMem
import Derived.Lib.AppendIntMem
import Derived.Lib.LaidTab
namespace Go.Proofs.Qxb6003620aDoor
open Go.RowKit Go.Shelf Pl

theorem ret_bool {a b : Bool} (h : a = b) : Ending.returned (.bool a) = .returned (.bool b) := by rw [h]

/-- The library's table of powers of ten, by the row's own list. -/
def tabName : String := (Rows.fnWindowStringReadsBackThroughWholeSetTextRow.laid.getD 2 ("", .nil)).1

/-- What the library reads of its package-level variables. -/
structure Env (w : World) : Prop where
  syn : ∃ tp p, w.var? Tryd.prog "strconv.ErrSyntax" = some #[.iface tp p]
  rng : ∃ tp p, w.var? Tryd.prog "strconv.ErrRange" = some #[.iface tp p]
  tab : Lib.TabIs Tryd.prog w tabName .u64 Lib.pow10Tab

theorem var_on {P : Program} {w w' : World} {n : String} {cs : Array Value} (h : w.var? P n = some cs) (hb : Below w.heap.size w w') : w'.var? P n = some cs := by
  unfold World.var? at h ⊢
  cases hg : P.globalNamed n with
  | none => simp [hg] at h
  | some g =>
    simp only [hg, Option.bind_some] at h ⊢
    have hlt : g < w.heap.size := by
      rcases Nat.lt_or_ge g w.heap.size with h' | h'
      · exact h'
      · simp [Array.getElem?_eq_none h'] at h
    rw [hb.block g hlt]
    exact h

theorem Env.on {w w' : World} (h : Env w) (hb : Below w.heap.size w w') : Env w' := by
  obtain ⟨tp, p, hs⟩ := h.syn
  obtain ⟨tp2, p2, hr⟩ := h.rng
  exact ⟨⟨tp, p, var_on hs hb⟩, ⟨tp2, p2, var_on hr hb⟩, var_on h.tab hb⟩

/-! ### The library's contracts at this dump -/
theorem hasPrefix_any (s : ByteArray) (w : World) :
    Calls Tryd.prog 13 #[.string s, .string ⟨#[48]⟩] w fun e w' => e = .returned (.bool (lead0 s.data.toList)) ∧ w' = w := by
  have h := Any.strings_HasPrefix Tryd.lays99 s ⟨#[48]⟩ w
  rw [show (⟨#[48]⟩ : ByteArray).data.toList = [48] from rfl, pref_is] at h
  exact h

theorem notDigit_pred (w : World) : PredAt Tryd.prog 15 #[] encR nd w := fun W r _ => by
  unfold FnGives
  by_cases h1 : r < 48
  · have hn : Hid (nd r = true) := by show _ = _; simp [nd, h1]
    go_enter Tryd.func15, Tryd.ntmps15
    go_wp2
    all_goals first | (exfalso; omega) | (go_ret; exact ⟨ret_bool (by rw [hn.out]), 0, rfl⟩)
  · by_cases h2 : 57 < r
    · have hn : Hid (nd r = true) := by show _ = _; simp [nd, h2]
      go_enter Tryd.func15, Tryd.ntmps15
      go_wp2
      all_goals first | (exfalso; omega) | (go_ret; exact ⟨ret_bool (by rw [hn.out]; simp; omega), 0, rfl⟩)
    · have hn : Hid (nd r = false) := by show _ = _; simp [nd]; omega
      go_enter Tryd.func15, Tryd.ntmps15
      go_wp2
      all_goals first | (exfalso; omega) | (go_ret; exact ⟨ret_bool (by rw [hn.out]; simp; omega), 0, rfl⟩)

theorem containsFunc_any (s : ByteArray) (w : World) :
    Calls Tryd.prog 14 #[.string s, .func (.func 15) #[] #[]] w fun e w' => e = .returned (.bool (!allDig s.data.toList)) ∧ Below w.heap.size w w' := by
  have h := Any.strings_ContainsFunc Tryd.laysGw17 15 #[] (enters_of Tryd.func15 (by kernel_rfl) rfl) nd s w (notDigit_pred w)
  rw [idx_is] at h
  exact h

theorem bytesWorld_or {w w' : World} (h : w' = w ∨ ∃ t, w' = Lib.bytesWorld w 5 t) : Below w.heap.size w w' := by
  rcases h with rfl | ⟨t, rfl⟩
  · exact Below.refl _ _
  · exact Lib.bytesWorld_below w 5 t

theorem parseInt_ok (s : ByteArray) (hs : s.size ≤ 1048576) (n : Nat) (h : setN s.data.toList = some n) (w : World) :
    Calls Tryd.prog 16 #[.string s, .int .i64 10, .int .i64 64] w fun e w' => e = .returned (.tuple #[.int .i64 n, .nilIface]) ∧ Below w.heap.size w w' := by
  obtain ⟨h1, h2, h3, h4, h5, h6⟩ := setN_pos h
  have hp := parseIntB_dig s.data.toList h6 h5
  rw [← h3, if_pos h2] at hp
  have hc := Any.strconv_ParseInt_10_at64_ok Tryd.laysC174 s (by omega) (n : Int) hp w
  exact Calls.mono hc fun e w' ⟨he, hw⟩ => ⟨he, bytesWorld_or hw⟩

theorem parseInt_bad (s : ByteArray) (hs : s.size ≤ 1048576) (hd : allDig s.data.toList = true) (h0 : lead0 s.data.toList = false) (h : setN s.data.toList = none) (w : World) (hE : Env w) :
    Calls Tryd.prog 16 #[.string s, .int .i64 10, .int .i64 64] w fun e w' => ∃ N x, e = .returned (.tuple #[.int .i64 x, .iface 51 (.pointer (some ⟨N, 0, none⟩))]) ∧ Below w.heap.size w w' := by
  by_cases hne : s.data.toList = []
  · obtain ⟨tp, p, hv⟩ := hE.syn
    have hc := Any.strconv_ParseInt_10_at64_syntax_var Tryd.laysC174 s (by omega) (by rw [hne]; rfl) tp p w hv
    exact Calls.mono hc fun e w' ⟨N, he, _, _, hw⟩ => ⟨N, _, he, hw⟩
  · obtain ⟨tp, p, hv⟩ := hE.rng
    have hp := parseIntB_dig s.data.toList hne hd
    have hbig : ¬ val 0 s.data.toList ≤ 9223372036854775807 := fun hle => by
      unfold setN at h
      rw [if_neg (by simp [hd, h0, hne]), if_pos hle] at h
      cases h
    rw [if_neg hbig] at hp
    have hc := Any.strconv_ParseInt_10_at64_range_var Tryd.laysC174 s (by omega) hp tp p w hv
    exact Calls.mono hc fun e w' ⟨N, he, _, _, hw⟩ => ⟨N, _, he, hw⟩

theorem formatInt_any (n : Int) (h0 : -9223372036854775808 ≤ n) (h1 : n ≤ 9223372036854775807) (w : World) (hE : Env w) :
    Calls Tryd.prog 17 #[.int .i64 n, .int .i64 10] w fun e w' => e = .returned (.string ⟨(Lib.itoa n).toArray⟩) ∧ Below w.heap.size w w' := by
  have hc := Any.strconv_FormatInt_10 Tryd.laysM173 n h0 h1 w hE.tab
  exact Calls.mono hc fun e w' ⟨he, k, os, hw⟩ => ⟨he, hw ▸ Lib.below_grow _ w (Nat.le_refl _) k os⟩

/-! ### setText -/
/-- What the receiver's copy holds. -/
theorem box_cell0 (w : World) (p : Value) (m : Value) : (w.alloc (.cells #[p, m] 30)).cell? ⟨w.heap.size, 0, none⟩ = some p := by simp
theorem box_cell1 (w : World) (p : Value) (m : Value) : (w.alloc (.cells #[p, m] 30)).cell? ⟨w.heap.size, 1, none⟩ = some m := by simp

set_option maxHeartbeats 400000 in
theorem setText_lead (b : Nat) (max : Int) (s : ByteArray) (w : World) (h0 : lead0 s.data.toList = true) :
    Calls Tryd.prog 10 #[.agg #[.pointer (some ⟨b, 0, none⟩), .int .i64 max], .string s] w fun e w' => e = .returned (.bool false) ∧ Below w.heap.size w w' := by
  have hp := hasPrefix_any s
  rw [h0] at hp
  go_enter Tryd.func10, Tryd.ntmps10
  go_wp2_with (go_at_call 13; refine (hp _).mono ?_; rintro e w' ⟨rfl, rfl⟩)
  go_ret
  exact ⟨rfl, (Below.refl _ _).alloc (Nat.le_refl _) _⟩

set_option maxHeartbeats 400000 in
theorem setText_nondig (b : Nat) (max : Int) (s : ByteArray) (w : World) (h0 : lead0 s.data.toList = false) (hd : allDig s.data.toList = false) :
    Calls Tryd.prog 10 #[.agg #[.pointer (some ⟨b, 0, none⟩), .int .i64 max], .string s] w fun e w' => e = .returned (.bool false) ∧ Below w.heap.size w w' := by
  have hp := hasPrefix_any s
  rw [h0] at hp
  have hf := containsFunc_any s
  rw [hd] at hf
  go_enter Tryd.func10, Tryd.ntmps10
  go_wp2_with (first | (go_at_call 13; refine (hp _).mono ?_; rintro e w' ⟨rfl, rfl⟩) | (go_at_call 14; refine (hf _).mono ?_; rintro e w' ⟨rfl, hb⟩))
  go_ret
  exact ⟨rfl, ((Below.refl _ _).alloc (Nat.le_refl _) _).trans (hb.mono (by simp))⟩

set_option maxHeartbeats 400000 in
theorem setText_bad (b : Nat) (max : Int) (s : ByteArray) (w : World) (hE : Env w) (hs : s.size ≤ 1048576) (h0 : lead0 s.data.toList = false) (hd : allDig s.data.toList = true) (h : setN s.data.toList = none) :
    Calls Tryd.prog 10 #[.agg #[.pointer (some ⟨b, 0, none⟩), .int .i64 max], .string s] w fun e w' => e = .returned (.bool false) ∧ Below w.heap.size w w' := by
  have hp := hasPrefix_any s
  rw [h0] at hp
  have hf := containsFunc_any s
  rw [hd] at hf
  have hi : ∀ w', Below w.heap.size w w' → _ := fun w' hb => parseInt_bad s hs hd h0 h w' (hE.on hb)
  have HI := Lib.hid hi
  clear hi h h0 hd
  go_enter Tryd.func10, Tryd.ntmps10
  go_wp2_with (first | (go_at_call 13; refine (hp _).mono ?_; rintro e w' ⟨rfl, rfl⟩) | (go_at_call 14; refine (hf _).mono ?_; rintro e w1 ⟨rfl, hb⟩; have hb1 := ((Below.refl _ _).alloc (Nat.le_refl _) _).trans (hb.mono (Nat.le_of_lt (by simp)))) | (go_at_call 16; refine (HI.out _ hb1).mono ?_; rintro e w2 ⟨N, x, rfl, hb2⟩))
  go_ret
  exact ⟨rfl, hb1.trans (hb2.mono hb1.size)⟩

/-- What lies in the copy of the receiver, and in what it points to, behind both calls of the library. -/
theorem behind {w w1 w2 : World} {b : Nat} {max old : Int} (hbw : b < w.heap.size) (hc : w.cell? ⟨b, 0, none⟩ = some (.int .i64 old)) (hz : w.frozen? ⟨b, 0, none⟩ = false)
    (hb : Below (w.alloc (.cells #[.pointer (some ⟨b, 0, none⟩), .int .i64 max] 30)).heap.size (w.alloc (.cells #[.pointer (some ⟨b, 0, none⟩), .int .i64 max] 30)) w1) (hb2 : Below w1.heap.size w1 w2) :
    w2.cell? ⟨w.heap.size, 0, none⟩ = some (.pointer (some ⟨b, 0, none⟩)) ∧ w2.cell? ⟨w.heap.size, 1, none⟩ = some (.int .i64 max) ∧ w2.cell? ⟨b, 0, none⟩ = some (.int .i64 old) ∧ w2.frozen? ⟨b, 0, none⟩ = false ∧ Below w.heap.size w w2 := by
  have hall := hb.trans (hb2.mono hb.size)
  have hw : Below w.heap.size w (w.alloc (.cells #[.pointer (some ⟨b, 0, none⟩), .int .i64 max] 30)) := (Below.refl _ _).alloc (Nat.le_refl _) _
  have hw2 : Below w.heap.size w w2 := hw.trans (hall.mono (by simp))
  refine ⟨(hall.cell (by simp)).trans (by simp), (hall.cell (by simp)).trans (by simp), (hw2.cell hbw).trans hc, (hw2.frozen hbw).trans hz, hw2⟩

set_option maxHeartbeats 400000 in
theorem setText_big (b : Nat) (max old : Int) (s : ByteArray) (w : World) (hs : s.size ≤ 1048576) (n : Nat) (h : setN s.data.toList = some n) (hbig : max < n)
    (hbw : b < w.heap.size) (hc : w.cell? ⟨b, 0, none⟩ = some (.int .i64 old)) (hz : w.frozen? ⟨b, 0, none⟩ = false) :
    Calls Tryd.prog 10 #[.agg #[.pointer (some ⟨b, 0, none⟩), .int .i64 max], .string s] w fun e w' => e = .returned (.bool false) ∧ Below w.heap.size w w' := by
  obtain ⟨h1, h2, h3, h4, h5, h6⟩ := setN_pos h
  have hp := hasPrefix_any s
  rw [h4] at hp
  have hf := containsFunc_any s
  rw [h5] at hf
  have hi := parseInt_ok s hs n h
  clear h h2 h3 h4 h5 h6
  go_enter Tryd.func10, Tryd.ntmps10
  go_wp2_with (first | (go_at_call 13; refine (hp _).mono ?_; rintro e w' ⟨rfl, rfl⟩) | (go_at_call 14; refine (hf _).mono ?_; rintro e w1 ⟨rfl, hb⟩) | (go_at_call 16; refine (hi _).mono ?_; rintro e w2 ⟨rfl, hb2⟩; obtain ⟨k0, k1, k2, k3, k4⟩ := behind hbw hc hz hb hb2))
  go_ret
  exact ⟨rfl, k4⟩

set_option maxHeartbeats 400000 in
theorem setText_yes (b : Nat) (max old : Int) (s : ByteArray) (w : World) (hs : s.size ≤ 1048576) (n : Nat) (h : setN s.data.toList = some n) (hle : (n : Int) ≤ max)
    (hbw : b < w.heap.size) (hc : w.cell? ⟨b, 0, none⟩ = some (.int .i64 old)) (hz : w.frozen? ⟨b, 0, none⟩ = false) :
    Calls Tryd.prog 10 #[.agg #[.pointer (some ⟨b, 0, none⟩), .int .i64 max], .string s] w fun e w' => e = .returned (.bool true) ∧ w'.cell? ⟨b, 0, none⟩ = some (.int .i64 n) ∧ Below b w w' := by
  obtain ⟨h1, h2, h3, h4, h5, h6⟩ := setN_pos h
  have hp := hasPrefix_any s
  rw [h4] at hp
  have hf := containsFunc_any s
  rw [h5] at hf
  have hi := parseInt_ok s hs n h
  clear h h2 h3 h4 h5 h6
  go_enter Tryd.func10, Tryd.ntmps10
  go_wp2_with (first | (go_at_call 13; refine (hp _).mono ?_; rintro e w' ⟨rfl, rfl⟩) | (go_at_call 14; refine (hf _).mono ?_; rintro e w1 ⟨rfl, hb⟩) | (go_at_call 16; refine (hi _).mono ?_; rintro e w2 ⟨rfl, hb2⟩; obtain ⟨k0, k1, k2, k3, k4⟩ := behind hbw hc hz hb hb2))
  go_ret
  refine ⟨rfl, ?_, (k4.mono (Nat.le_of_lt hbw)).setCell (Nat.le_refl _) _⟩
  exact World.cell?_setCell_same _ _ _ k2

/-! ### The exported wrappers -/
theorem zzSet_no (b : Nat) (max old : Int) (s : ByteArray) (w : World) (hE : Env w) (hs : s.size ≤ 1048576) (h : ∀ n : Nat, setN s.data.toList = some n → max < n)
    (hbw : b < w.heap.size) (hc : w.cell? ⟨b, 0, none⟩ = some (.int .i64 old)) (hz : w.frozen? ⟨b, 0, none⟩ = false) :
    Calls Tryd.prog 6 #[.pointer (some ⟨b, 0, none⟩), .int .i64 max, .string s] w fun e w' => e = .returned (.bool false) ∧ Below w.heap.size w w' := by
  have key : Calls Tryd.prog 10 #[.agg #[.pointer (some ⟨b, 0, none⟩), .int .i64 max], .string s] w fun e w' => e = .returned (.bool false) ∧ Below w.heap.size w w' := by
    cases h0 : lead0 s.data.toList with
    | true => exact setText_lead b max s w h0
    | false =>
      cases hd : allDig s.data.toList with
      | false => exact setText_nondig b max s w h0 hd
      | true =>
        cases hn : setN s.data.toList with
        | none => exact setText_bad b max s w hE hs h0 hd hn
        | some n => exact setText_big b max old s w hs n hn (h n hn) hbw hc hz
  clear h hc hz
  go_enter Tryd.func6, Tryd.ntmps6
  go_wp2_with (go_at_call 10; refine key.mono ?_; rintro e w' ⟨rfl, hb⟩)
  go_ret
  exact ⟨rfl, hb⟩

theorem zzSet_yes (b : Nat) (max old : Int) (s : ByteArray) (w : World) (hs : s.size ≤ 1048576) (n : Nat) (h : setN s.data.toList = some n) (hle : (n : Int) ≤ max)
    (hbw : b < w.heap.size) (hc : w.cell? ⟨b, 0, none⟩ = some (.int .i64 old)) (hz : w.frozen? ⟨b, 0, none⟩ = false) :
    Calls Tryd.prog 6 #[.pointer (some ⟨b, 0, none⟩), .int .i64 max, .string s] w fun e w' => e = .returned (.bool true) ∧ w'.cell? ⟨b, 0, none⟩ = some (.int .i64 n) ∧ Below b w w' := by
  have key := setText_yes b max old s w hs n h hle hbw hc hz
  clear h hc hz hle
  go_enter Tryd.func6, Tryd.ntmps6
  go_wp2_with (go_at_call 10; refine key.mono ?_; rintro e w' ⟨rfl, hcn, hb⟩)
  go_ret
  exact ⟨rfl, hcn, hb⟩

/-! ### String -/
theorem wholeString_any (b : Nat) (max n : Int) (w : World) (hE : Env w) (h0 : -9223372036854775808 ≤ n) (h1 : n ≤ 9223372036854775807)
    (hbw : b < w.heap.size) (hc : w.cell? ⟨b, 0, none⟩ = some (.int .i64 n)) :
    Calls Tryd.prog 11 #[.agg #[.pointer (some ⟨b, 0, none⟩), .int .i64 max]] w fun e w' => e = .returned (.string ⟨(Lib.itoa n).toArray⟩) ∧ Below w.heap.size w w' := by
  have hw : ∀ o, Below w.heap.size w (w.alloc o) := fun o => (Below.refl _ _).alloc (Nat.le_refl _) _
  have hcw : ∀ o, (w.alloc o).cell? ⟨b, 0, none⟩ = some (.int .i64 n) := fun o => ((hw o).cell hbw).trans hc
  have hF := fun o => formatInt_any n h0 h1 (w.alloc o) (hE.on (hw o))
  have HF := Lib.hid hF
  clear hF
  go_enter Tryd.func11, Tryd.ntmps11
  go_wp2_with (go_at_call 17; refine (HF.out _).mono ?_; rintro e w' ⟨rfl, hb⟩)
  go_ret
  exact ⟨rfl, (hw _).trans (hb.mono (by simp))⟩

theorem zzWholeString_any (b : Nat) (max n : Int) (w : World) (hE : Env w) (h0 : -9223372036854775808 ≤ n) (h1 : n ≤ 9223372036854775807)
    (hbw : b < w.heap.size) (hc : w.cell? ⟨b, 0, none⟩ = some (.int .i64 n)) :
    Calls Tryd.prog 8 #[.pointer (some ⟨b, 0, none⟩), .int .i64 max] w fun e w' => e = .returned (.string ⟨(Lib.itoa n).toArray⟩) ∧ Below w.heap.size w w' := by
  have key := wholeString_any b max n w hE h0 h1 hbw hc
  go_enter Tryd.func8, Tryd.ntmps8
  go_wp2_with (go_at_call 11; refine key.mono ?_; rintro e w' ⟨rfl, hb⟩)
  go_ret
  exact ⟨rfl, hb⟩
end Go.Proofs.Qxb6003620aDoor
