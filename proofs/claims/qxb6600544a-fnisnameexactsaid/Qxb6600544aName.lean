import Derived.Test.Qxb6600544aRows
import Derived.WalkKit
import Derived.WalkSpells
import Derived.WalkLawsBesides
import Derived.Lib.ConvBytes
import Derived.Lib.AtoiErrMem
import Derived.Lib.Strings
namespace Go.Proofs.Qxb6600544a
open Go.RowKit

/-- A byte that a name may hold. -/
def okB (c : UInt8) : Bool := (decide (97 ≤ c.toNat) && decide (c.toNat ≤ 122)) || (decide (65 ≤ c.toNat) && decide (c.toNat ≤ 90)) || (decide (48 ≤ c.toNat) && decide (c.toNat ≤ 57)) || c.toNat == 95 || c.toNat == 46

def allowed : ByteArray := { data := #[97, 98, 99, 100, 101, 102, 103, 104, 105, 106, 107, 108, 109, 110, 111, 112, 113, 114, 115, 116, 117, 118, 119, 120, 121, 122, 65, 66, 67, 68, 69, 70, 71, 72, 73, 74, 75, 76, 77, 78, 79, 80, 81, 82, 83, 84, 85, 86, 87, 88, 89, 90, 48, 49, 50, 51, 52, 53, 54, 55, 56, 57, 95, 46] }

theorem allowed_fin : ∀ n : Fin 256, allowed.data.toList.contains (UInt8.ofNat n.val) = okB (UInt8.ofNat n.val) := by decide +kernel
theorem allowed_ok (c : UInt8) : allowed.data.toList.contains c = okB c := by
  have h := allowed_fin ⟨c.toNat, c.toNat_lt⟩
  simpa using h

theorem allowed_size : allowed.size = 64 := by decide
theorem int_beq_true {a b : Nat} (h : ((a : Int) == (b : Int)) = true) : a = b := by
  have := beq_iff_eq.1 h; omega
theorem int_beq_false {a b : Nat} (h : ((a : Int) == (b : Int)) = false) : a ≠ b := by
  intro e; subst e; simp at h
theorem at_byte (s : ByteArray) (k : Nat) (hk : k < s.size) : s.data.toList[k]? = some (s[k]'hk) := by
  rw [Array.getElem?_toList, Array.getElem?_eq_getElem hk]; rfl
theorem at_allowed (k : Nat) (hk : k < allowed.size) : allowed.data.toList[k]? = some (allowed[k]'hk) := at_byte allowed k hk
theorem ret_bool {a b : Bool} (h : a = b) : Ending.returned (.bool a) = .returned (.bool b) := by rw [h]
theorem hit_ok (c : UInt8) (k : Nat) (hk : k < allowed.size) (h : (((allowed[k]'hk).toNat : Int) == (c.toNat : Int)) = true) : okB c = true := by
  have e : allowed[k]'hk = c := UInt8.toNat_inj.1 (int_beq_true h)
  rw [← allowed_ok, List.contains_iff_mem]
  exact List.mem_of_getElem? (by rw [at_allowed k hk, e])
theorem miss_ok (c : UInt8) (k : Nat) (hk : k < allowed.size) (h : (((allowed[k]'hk).toNat : Int) == (c.toNat : Int)) = false)
    (hno : Hid (∀ j, j < k → allowed.data.toList[j]? ≠ some c)) : Hid (∀ j, j < k + 1 → allowed.data.toList[j]? ≠ some c) := by
  intro j hj
  by_cases e : j = k
  · subst e
    rw [at_allowed j hk]
    intro h2
    injection h2 with h2
    exact int_beq_false h (by rw [h2])
  · exact hno.out j (by omega)
theorem none_ok (c : UInt8) (k : Nat) (hk : ¬ k < 64) (hno : Hid (∀ j, j < k → allowed.data.toList[j]? ≠ some c)) : okB c = false := by
  rw [← allowed_ok]
  cases e : allowed.data.toList.contains c with
  | false => rfl
  | true =>
    rw [List.contains_iff_mem] at e
    obtain ⟨j, hj⟩ := List.mem_iff_getElem?.1 e
    have hl : j < 64 := (List.getElem?_eq_some_iff.1 hj).1
    exact absurd hj (hno.out j (by omega))

set_option maxHeartbeats 400000 in
theorem nameByte_any (c : UInt8) (w : World) :
    Calls Try.prog 11 #[.int .u8 (c.toNat : Int)] w fun e w' => e = .returned (.bool (okB c)) ∧ w' = w := by
  go_enter Try.func11, Try.ntmps11
  go_wp2
  go_loop [3] (fun i => ∃ k : Nat, k ≤ 64 ∧ i = .int .i64 k ∧ Hid (∀ j, j < k → allowed.data.toList[j]? ≠ some c)) (fun i => 64 - (intOf i).toNat)
  case atStart => exact ⟨0, by omega, rfl, fun j hj => by omega⟩
  case round =>
    obtain ⟨k, hk, rfl, hno⟩ := hrel
    by_cases hlt : k < 64
    · go_wp2
      · rename_i h1 _
        go_ret
        exact ⟨ret_bool (hit_ok c k hlt h1).symm, rfl⟩
      · rename_i h1
        go_round
        case rel => exact ⟨k + 1, by omega, by go_num, miss_ok c k hlt h1 hno⟩
        case measure => simp [intOf]; omega
    · go_wp2
      go_ret
      exact ⟨ret_bool (none_ok c k hlt hno).symm, rfl⟩

/-- A name: not empty, and every byte is one that a name may hold. -/
def nameB (l : List UInt8) : Bool := !l.isEmpty && l.all okB

theorem all_take (l : List UInt8) (k : Nat) (hk : k < l.length) : (l.take (k + 1)).all okB = ((l.take k).all okB && okB l[k]) := by
  rw [List.take_succ_eq_append_getElem hk, List.all_append]
  simp only [List.all_cons, List.all_nil, Bool.and_true]

/-! ### zzBytes -/
set_option maxHeartbeats 400000 in
theorem bytes10_any (s : ByteArray) (w : World) (hs : s.size ≤ maxLen) :
    Calls Try.prog 10 #[.string s] w fun e w' => e = .returned (.bool (decide (s.size ≤ 1048576))) ∧ w' = w := by
  unfold maxLen at hs
  by_cases h : s.size ≤ 1048576
  · go_enter Try.func10, Try.ntmps10
    go_wp2
    go_ret
    exact ⟨ret_bool (by simp [h]), rfl⟩
  · go_enter Try.func10, Try.ntmps10
    go_wp2
    go_ret
    exact ⟨ret_bool (by simp [h]), rfl⟩

/-! ### isName -/
theorem okB_cases (c : UInt8) (n : Nat) (h : c.toNat = n) :
    (okB c = true ∧ ((97 ≤ n ∧ n ≤ 122) ∨ (65 ≤ n ∧ n ≤ 90) ∨ (48 ≤ n ∧ n ≤ 57) ∨ n = 95 ∨ n = 46)) ∨
    (okB c = false ∧ (n < 46 ∨ n = 47 ∨ (58 ≤ n ∧ n ≤ 64) ∨ (91 ≤ n ∧ n ≤ 94) ∨ n = 96 ∨ 123 ≤ n)) := by
  cases e : okB c with
  | true =>
    left
    refine ⟨rfl, ?_⟩
    simp [okB, h] at e
    omega
  | false =>
    right
    refine ⟨rfl, ?_⟩
    simp [okB, h] at e
    omega

theorem not_dec_iff {p : Prop} [Decidable p] : ((!decide p) = false) ↔ p := by simp

set_option maxHeartbeats 800000 in
theorem isName_any (s : ByteArray) (w : World) (hs : s.size ≤ 1048576) :
    Calls Try.prog 24 #[.string s] w fun e w' => e = .returned (.bool (nameB s.data.toList)) ∧ Below w.heap.size w w' := by
  by_cases h0 : s.size = 0
  · have he : s = ByteArray.empty := by
      cases s with | mk d => cases d with | mk l => cases l with | nil => rfl | cons a l => simp [ByteArray.size] at h0
    subst he
    go_enter Try.func24, Try.ntmps24
    go_wp2
    go_ret
    exact ⟨rfl, Below.refl _ _⟩
  · have hcv := Lib.run_convert_string_bytes (P := Try.prog) w 9 32 5 s (u := .string) Try.underlying9 Try.underlying32 Try.underlying5
    have hcell : ∀ k, k < s.size → (Lib.bytesWorld w 5 s).cell? ⟨w.heap.size, k, none⟩ = some (.int .u8 (s.data.toList.getD k 0).toNat) := fun k hk => Lib.bytesWorld_cell w 5 s k hk
    have hb := Lib.bytesWorld_below w 5 s
    generalize Lib.bytesWorld w 5 s = W1 at hcv hcell hb
    have hC : Hid (∀ k, k < s.size → W1.cell? ⟨w.heap.size, k, none⟩ = some (.int .u8 (s.data.toList.getD k 0).toNat)) := hcell
    clear hcell
    have hne : s.toList.isEmpty = false := by
      rw [Lib.toList_data]
      cases e : s.data.toList with
      | nil => exact absurd (by have := congrArg List.length e; simpa using this) h0
      | cons a l => rfl
    go_enter Try.func24, Try.ntmps24
    go_wp2
    go_loop [4, 10] (fun _ i => ∃ k : Nat, k ≤ s.size ∧ i = .int .i64 k ∧ Hid ((s.data.toList.take k).all okB = true)) (fun _ i => s.size - (intOf i).toNat)
    case atStart => exact ⟨0, by omega, rfl, rfl⟩
    case round =>
      obtain ⟨k, hk, rfl, hall⟩ := hrel
      by_cases hlt : k < s.size
      · have hll : k < s.data.toList.length := by simpa using hlt
        have hcell := hC.out k hlt
        obtain ⟨c, hc⟩ : ∃ c, s.data.toList[k] = c := ⟨_, rfl⟩
        have hgd : s.data.toList.getD k 0 = c := by rw [List.getD_eq_getElem?_getD, List.getElem?_eq_getElem hll]; exact hc
        rw [hgd] at hcell
        have hn := okB_cases c _ rfl
        have HC : Hid (s.data.toList[k] = c) := hc
        clear hc hgd
        obtain ⟨n, hnc⟩ : ∃ n, c.toNat = n := ⟨_, rfl⟩
        rw [hnc] at hcell hn
        clear hnc
        have hnext : okB c = true → Hid ((s.data.toList.take (k + 1)).all okB = true) := fun h => by
          show _ = _
          rw [all_take _ _ hll, HC.out, h, hall.out]; rfl
        have hstop : okB c = false → nameB s.data.toList = false := fun h => by
          unfold nameB
          have : s.data.toList.all okB = false := by
            rw [List.all_eq_false]
            exact ⟨c, by rw [← HC.out]; exact List.getElem_mem _, by rw [h]; simp⟩
          rw [this, Bool.and_false]
        rcases hn with ⟨ho, hn⟩ | ⟨ho, hn⟩
        · have R := hnext ho
          have hn2 : n ≤ 122 := by omega
          clear hnext hstop ho
          rcases hn with hn | hn | hn | hn | hn
          all_goals
            go_wp2
            go_round
            case rel => exact ⟨k + 1, by omega, by go_num, R⟩
            case measure => simp [intOf]; omega
        · have R : Hid (nameB s.data.toList = false) := hstop ho
          have h95 : ((n : Int) == 95) = false := by simp; omega
          have h46 : ((n : Int) == 46) = false := by simp; omega
          clear hnext hstop ho
          rcases hn with hn | hn | hn | hn | hn | hn
          all_goals
            go_wp2
            all_goals first | (go_ret; exact ⟨ret_bool R.out.symm, hb⟩) | (exfalso; rename_i hx; simp only [not_dec_iff] at hx; omega)
      · go_wp2
        go_ret
        exact ⟨ret_bool (by unfold nameB; rw [List.take_of_length_le (by simp; omega)] at hall; rw [hall.out]; cases e : s.data.toList with | nil => exact absurd (by have := congrArg List.length e; simpa using this) h0 | cons a l => rfl), hb⟩

theorem zzIsName_any (s : ByteArray) (w : World) (hs : s.size ≤ 1048576) :
    Calls Try.prog 12 #[.string s] w fun e w' => e = .returned (.bool (nameB s.data.toList)) ∧ Below w.heap.size w w' := by
  go_enter Try.func12, Try.ntmps12
  go_wp2_with (go_at_call 24; refine (isName_any s _ hs).mono ?_; rintro e w' ⟨rfl, hb⟩)
  go_ret
  exact ⟨rfl, hb⟩

/-- What the law reckons: the bytes before k are all right, and there is one. -/
def wantB (n : Nat) (l : List UInt8) (k : Nat) : Bool := decide (0 < n) && (l.take k).all okB
theorem wantB_zero (n : Nat) (l : List UInt8) : wantB n l 0 = decide (0 < n) := by simp [wantB]
theorem wantB_end (l : List UInt8) (k : Nat) (h : l.length ≤ k) : wantB l.length l k = nameB l := by
  unfold wantB nameB
  rw [List.take_of_length_le h]
  cases l <;> simp
theorem wantB_yes (n : Nat) (l : List UInt8) (k : Nat) (hk : k < l.length) (h : okB l[k] = true) : wantB n l (k + 1) = wantB n l k := by
  unfold wantB; rw [all_take l k hk, h, Bool.and_true]
theorem wantB_no (n : Nat) (l : List UInt8) (k : Nat) (hk : k < l.length) (h : okB l[k] = false) : wantB n l (k + 1) = false := by
  unfold wantB; rw [all_take l k hk, h, Bool.and_false, Bool.and_false]
theorem val_bool {a b : Bool} (h : a = b) : Value.bool a = .bool b := by rw [h]

set_option maxHeartbeats 800000 in
theorem isNameExact_walk (s : ByteArray) (w : World) (hs : s.size ≤ maxLen) :
    Calls Try.prog 3 #[.string s] w fun e w' => e = .returned (.bool true) ∧ Below w.heap.size w w' := by
  have hbytes := bytes10_any s w hs
  unfold maxLen at hs
  by_cases h : s.size ≤ 1048576
  · rw [decide_eq_true h] at hbytes
    go_enter Try.func3, Try.ntmps3
    go_wp2_with (go_at_call 10; refine hbytes.mono ?_; rintro e w' ⟨rfl, rfl⟩)
    clear hbytes
    have hlen : s.data.toList.length = s.size := by simp
    have HL : Hid (s.data.toList.length = s.size) := hlen
    clear hlen
    go_loop [3, 4] (fun t i => ∃ k : Nat, k ≤ s.size ∧ i = .int .i64 k ∧ t = .bool (wantB s.size s.data.toList k)) (fun _ i => s.size - (intOf i).toNat)
    case atStart => exact ⟨0, by omega, rfl, val_bool (wantB_zero _ _).symm⟩
    case round =>
      obtain ⟨k, hk, rfl, rfl⟩ := hrel
      by_cases hlt : k < s.size
      · have hll : k < s.data.toList.length := by rw [HL.out]; exact hlt
        have hnb := nameByte_any s[k] w'
        have hsk : s.data.toList[k] = s[k] := rfl
        cases ho : okB s[k] with
        | true =>
          have R := wantB_yes s.size s.data.toList k hll (by rw [hsk]; exact ho)
          have R : Hid (wantB s.size s.data.toList (k + 1) = wantB s.size s.data.toList k) := R
          rw [ho] at hnb
          clear hsk ho
          go_wp2_with (go_at_call 11; refine hnb.mono ?_; rintro e w2 ⟨rfl, rfl⟩)
          go_round
          case rel => exact ⟨k + 1, by omega, by go_num, val_bool R.out.symm⟩
          case measure => simp [intOf]; omega
        | false =>
          have R : Hid (wantB s.size s.data.toList (k + 1) = false) := wantB_no s.size s.data.toList k hll (by rw [hsk]; exact ho)
          rw [ho] at hnb
          clear hsk ho
          go_wp2_with (go_at_call 11; refine hnb.mono ?_; rintro e w2 ⟨rfl, rfl⟩)
          go_round
          case rel => exact ⟨k + 1, by omega, by go_num, val_bool R.out.symm⟩
          case measure => simp [intOf]; omega
      · have R : wantB s.size s.data.toList k = nameB s.data.toList := by
          have e := wantB_end s.data.toList k (by rw [HL.out]; omega)
          rwa [HL.out] at e
        rw [R]
        clear R
        go_wp2_with (go_at_call 12; refine (zzIsName_any s _ h).mono ?_; rintro e w2 ⟨rfl, hb⟩)
        go_ret
        exact ⟨ret_bool (by simp), hb⟩
  · rw [decide_eq_false h] at hbytes
    go_enter Try.func3, Try.ntmps3
    go_wp2_with (go_at_call 10; refine hbytes.mono ?_; rintro e w' ⟨rfl, rfl⟩)
    go_ret
    exact ⟨rfl, Below.refl _ _⟩
end Go.Proofs.Qxb6600544a
