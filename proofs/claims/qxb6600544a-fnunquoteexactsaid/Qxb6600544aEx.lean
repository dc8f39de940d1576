/-
  The walk of the law that unquote answers as the run-decoding model does.
-/
import Derived.Test.Qxb6600544aModel
import Derived.Test.Qxb6600544aView
namespace Go.Proofs.Qxb6600544a
open Go.Shelf Go.RowKit Un

set_option maxHeartbeats 2000000 in
theorem bytes19_any (oa : Option Addr) (cap : Nat) (L : List ByteArray) (s : ByteArray) (i : Int) (w : World) (hv : View w.heap.size w oa L) (hm : L.length ≤ 9223372036854775807) (h1 : s.size ≤ maxLen) :
    Calls Try.prog 19 #[.string s, .slice oa L.length cap, .int .i64 i] w fun e w' => SomeBool e ∧ w' = w := by
  unfold maxLen at h1
  have HV := Lib.hid hv
  clear hv
  go_enter Try.func19, Try.ntmps19
  go_wp2
  all_goals try (go_ret; exact ⟨⟨_, rfl⟩, rfl⟩)
  go_loop [7, 8] (fun t7 t8 => ∃ (k : Nat) (z : Int), t8 = .int .i64 (k : Int) ∧ k ≤ L.length ∧ t7 = .int .i64 z ∧ 0 ≤ z ∧ z ≤ 1048576) (fun _ i => L.length - (intOf i).toNat)
  case atStart => exact ⟨0, _, rfl, by omega, rfl, by omega, by omega⟩
  case round =>
    obtain ⟨k, z, rfl, hk, rfl, hz0, hz1⟩ := hrel
    by_cases hlt : k < L.length
    · obtain ⟨ab, ao, rfl, hab, hl⟩ := HV.out.at hlt
      obtain ⟨x, hx⟩ : ∃ x, L[k]? = some x := ⟨_, List.getElem?_eq_getElem hlt⟩
      have hcx := hl k x hx
      clear hl hx
      go_wp2
      · go_ret
        exact ⟨⟨_, rfl⟩, rfl⟩
      · go_ret
        exact ⟨⟨_, rfl⟩, rfl⟩
      · go_round
        case rel => exact ⟨k + 1, _, by go_num, by omega, rfl, by omega, by omega⟩
        case measure => simp [intOf]; omega
    · go_wp2
      go_ret
      exact ⟨⟨_, rfl⟩, rfl⟩

theorem take_all' {L : List ByteArray} {k : Nat} {x : ByteArray} {m : Nat} (h : ∀ y ∈ L.take k, y.size ≤ m) (hx : L[k]? = some x) (hm : x.size ≤ m) : ∀ y ∈ L.take (k + 1), y.size ≤ m := by
  obtain ⟨hk, e⟩ := List.getElem?_eq_some_iff.1 hx
  intro y hy
  rw [List.take_succ_eq_append_getElem hk, e] at hy
  rcases List.mem_append.1 hy with h1 | h1
  · exact h y h1
  · have : y = x := by simpa using h1
    rw [this]; exact hm

theorem pos_of (s : ByteArray) (h : s.toList.isEmpty = false) : 0 < s.size := by
  rw [Lib.toList_data] at h
  rcases Nat.eq_zero_or_pos s.size with h0 | h0
  · have e : s.data.toList = [] := List.length_eq_zero_iff.1 (by rw [len_b]; exact h0)
    rw [e] at h; simp at h
  · exact h0

theorem ret_bool' {a b : Bool} (h : a = b) : Ending.returned (.bool a) = .returned (.bool b) := by rw [h]

set_option maxRecDepth 100000 in
set_option maxHeartbeats 4000000 in
theorem ex_walk (oa : Option Addr) (cap : Nat) (L : List ByteArray) (s : ByteArray) (i : Int) (w : World) (hv : View w.heap.size w oa L) (hm : L.length ≤ 9223372036854775807) (h1 : s.size ≤ maxLen) :
    Calls Try.prog 8 #[.string s, .slice oa L.length cap, .int .i64 i] w fun e w' => e = .returned (.bool true) ∧ Below w.heap.size w w' := by
  have k0 := bytes19_any oa cap L s i w hv hm h1
  unfold maxLen at h1
  have HV := Lib.hid hv
  clear hv
  go_enter Try.func8, Try.ntmps8
  go_wp2_with fail
  refine k0.mono ?_
  rintro e w' ⟨⟨b, rfl⟩, rfl⟩
  clear k0
  cases b with
  | false =>
    go_wp2_with fail
    go_ret
    exact ⟨rfl, Below.refl _ _⟩
  | true =>
    go_wp2_with fail
    all_goals try (go_ret; exact ⟨rfl, Below.refl _ _⟩)
    go_loop [7, 8] (fun t7 t8 => ∃ (k : Nat) (z : Int), t8 = .int .i64 (k : Int) ∧ k ≤ L.length ∧ t7 = .int .i64 z ∧ 0 ≤ z ∧ z ≤ 1048576 ∧ Hid (∀ x ∈ L.take k, x.size ≤ 1048576)) (fun _ i => L.length - (intOf i).toNat)
    case atStart => exact ⟨0, _, rfl, by omega, rfl, by omega, by omega, by simp [Hid]⟩
    case round =>
      obtain ⟨k, z, rfl, hk, rfl, hz0, hz1, hall⟩ := hrel
      by_cases hlt : k < L.length
      · obtain ⟨ab, ao, rfl, hab, hl⟩ := HV.out.at hlt
        obtain ⟨x, hx⟩ : ∃ x, L[k]? = some x := ⟨_, List.getElem?_eq_getElem hlt⟩
        have hcx := hl k x hx
        have HX := Lib.hid hx
        clear hl hx
        go_wp2_with fail
        · go_ret
          exact ⟨rfl, Below.refl _ _⟩
        · go_ret
          exact ⟨rfl, Below.refl _ _⟩
        · go_round
          case rel => exact ⟨k + 1, _, by go_num, by omega, rfl, by omega, by omega, take_all' hall.out HX.out (by omega)⟩
          case measure => simp [intOf]; omega
      · have HA : Hid (∀ x ∈ L, x.size ≤ 8388608) := by
          have h := hall.out
          rw [List.take_of_length_le (by omega)] at h
          exact fun x hx => by have := h x hx; omega
        clear hall
        go_wp2_with fail
        all_goals try (go_ret; exact ⟨rfl, Below.refl _ _⟩)
        have hne : s.toList.isEmpty = false := by assumption
        have hp := pos_of s hne
        obtain ⟨n, rfl⟩ : ∃ n : Nat, i = (n : Int) := ⟨i.toNat, by omega⟩
        have hn : n < L.length := by omega
        obtain ⟨ab, ao, rfl, hab, hl⟩ := HV.out.at hn
        obtain ⟨R, hR⟩ : ∃ R, unqs (s[0]'hp) [] ((bs s).drop 1) n ((L.drop (n + 1)).map bs) = R := ⟨_, rfl⟩
        refine (clone_any ab ao cap L w' (by omega) (fun _ => hab) hl).mono ?_
        rintro e w1 ⟨rfl, ho1, hb1⟩
        have hl1 := lines_of_own ho1
        have hlt1 := (World.ownsRow.lt ho1 _ rfl).2
        have k21 := model_any s w'.heap.size 0 L.length n L w1 R hp (by omega) HA.out (by omega) hn hlt1 hl1 hR
        have k22 : ∀ w2, Below w1.heap.size w1 w2 → _ := fun w2 hb2 => zzUnquote_any s w'.heap.size 0 L.length n L w2 R hp (by omega) HA.out (by omega) hn (Nat.lt_of_lt_of_le hlt1 hb2.size) (hl1.on hb2 hlt1) hR
        unfold ansV at k21 k22
        obtain ⟨R1, R2, R3, R4⟩ := R
        simp only at k21 k22
        have K21 := Lib.hid k21
        have K22 := Lib.hid k22
        clear k21 k22 hl hl1 ho1 hR HA HV hlt1
        go_wp2_with (first | (go_at_call 21; refine K21.out.mono ?_; rintro e w2 ⟨rfl, hb2⟩) | (go_at_call 22; refine (K22.out _ hb2).mono ?_; rintro e w3 ⟨rfl, hb3⟩))
        all_goals
          go_ret
          exact ⟨ret_bool' (by first | rfl | simp), hb1.trans ((hb2.trans (hb3.mono hb2.size)).mono hb1.size)⟩
end Go.Proofs.Qxb6600544a
