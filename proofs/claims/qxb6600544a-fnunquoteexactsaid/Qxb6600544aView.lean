/-
  A slice of strings as the walks see it; the copy of one; the bounds' function of the round-trip law.
-/
import Derived.Test.Qxb6600544aClone
namespace Go.Proofs.Qxb6600544a
open Go.Shelf Go.RowKit Un

/-- The slice at 'oa' holds the strings L, below block B. -/
def View (B : Nat) (w : World) (oa : Option Addr) (L : List ByteArray) : Prop := L = [] ∨ ∃ ab ao, oa = some ⟨ab, ao, none⟩ ∧ ab < B ∧ Lines w ab ao L

theorem View.on {B B' : Nat} {w w' : World} {oa : Option Addr} {L : List ByteArray} (h : View B w oa L) (hb : Below B w w') (hB : B ≤ B') : View B' w' oa L := by
  rcases h with h | ⟨ab, ao, e, hab, hl⟩
  · exact Or.inl h
  · exact Or.inr ⟨ab, ao, e, by omega, hl.on hb hab⟩
theorem View.at {B : Nat} {w : World} {oa : Option Addr} {L : List ByteArray} (h : View B w oa L) {k : Nat} (hk : k < L.length) :
    ∃ ab ao, oa = some ⟨ab, ao, none⟩ ∧ ab < B ∧ Lines w ab ao L := by
  rcases h with h | h
  · rw [h] at hk; simp at hk
  · exact h

set_option maxHeartbeats 1000000 in
theorem clone_empty (a : Addr) (cap : Nat) (w : World) :
    Calls Try.prog 20 #[.slice (some a) 0 cap] w fun e w' => e = .returned (.slice (some ⟨w.heap.size, 0, none⟩) 0 0) ∧ Below w.heap.size w w' := by
  obtain ⟨i0, hi, hz0, hz1, hz2⟩ := info_parts info9
  have hnil : ∀ w, (binOp .eql 26 (.slice (some a) 0 cap) (.slice none 0 0)).run Try.prog w = .ok (.bool false) w := fun w => Lib.run_eql_slice_nil w _ _ (some a) _ _ 0 0 Try.underlying26
  go_enter Try.func20, Try.ntmps20
  go_wp2_with (at_make; refine wpList_make_full _ rfl _ _ 26 rfl w.heap.size 9 i0 (.string ⟨#[]⟩) 1 Try.underlying26 hi hz0 hz1 .i64 .i64 _ _ 0 rfl rfl (by omega) (by omega) (by rw [hz2]; omega) (by unfold maxLen; omega) (Nat.le_refl _) ?_; intro w1 hown hgrow)
  have hb1 : Below w.heap.size w w1 := (Below.refl _ _).grown hgrow (Nat.le_refl _) (fun k hk => by cases hk)
  clear hgrow hown
  go_loopg [4] 1 (fun g t4 wr => t4 = .int .i64 0 ∧ Below w.heap.size w wr)
  case atStart => exact ⟨rfl, hb1⟩
  case round =>
    clear hb1
    obtain ⟨rfl, hb⟩ := hrel
    go_wp2
    go_ret
    exact ⟨rfl, hb⟩

theorem lines_of_own {w : World} {B g n cap : Nat} {L : List ByteArray} (h : w.ownsRow B 9 1 (.slice (some ⟨g, 0, none⟩) n cap) n (strs L)) : Lines w g 0 L := fun j x hx => by
  have hl := h.1
  rw [List.length_map] at hl
  have hj := (List.getElem?_eq_some_iff.1 hx).1
  rw [Nat.zero_add, h.cellAt j (by omega), List.getElem?_map, hx]
  rfl

/-- The copy, whatever the slice is. -/
theorem clone_view (oa : Option Addr) (cap : Nat) (L : List ByteArray) (w : World) (hn : L.length ≤ 4194304) (hv : View w.heap.size w oa L) (hnil : oa = none → cap = 0) :
    Calls Try.prog 20 #[.slice oa L.length cap] w fun e w' => ∃ oa' cap', e = .returned (.slice oa' L.length cap') ∧ View w'.heap.size w' oa' L ∧ Below w.heap.size w w' := by
  by_cases hL : L = []
  · subst hL
    cases oa with
    | none =>
      obtain rfl := hnil rfl
      exact Calls.mono (clone_nil w) fun e w' ⟨he, hw⟩ => ⟨none, 0, he, Or.inl rfl, by rw [hw]; exact Below.refl _ _⟩
    | some a => exact Calls.mono (clone_empty a cap w) fun e w' ⟨he, hb⟩ => ⟨_, 0, he, Or.inl rfl, hb⟩
  · rcases hv with h | ⟨ab, ao, rfl, hab, hl⟩
    · exact absurd h hL
    · exact Calls.mono (clone_any ab ao cap L w hn (fun _ => hab) hl) fun e w' ⟨he, ho, hb⟩ => ⟨_, _, he, Or.inr ⟨w.heap.size, 0, rfl, (ho.lt _ rfl).2, lines_of_own ho⟩, hb⟩

/-- It answers a bool. -/
def SomeBool (e : Ending) : Prop := ∃ b, e = .returned (.bool b)

set_option maxHeartbeats 2000000 in
theorem bytes23_any (oa1 oa2 : Option Addr) (cap1 cap2 : Nat) (L1 L2 : List ByteArray) (h v a : ByteArray) (sg : Bool) (w : World) (hv1 : View w.heap.size w oa1 L1) (hv2 : View w.heap.size w oa2 L2)
    (hm1 : L1.length ≤ 9223372036854775807) (hm2 : L2.length ≤ 9223372036854775807) (h1 : h.size ≤ maxLen) (h2 : v.size ≤ maxLen) (h3 : a.size ≤ maxLen) :
    Calls Try.prog 23 #[.slice oa1 L1.length cap1, .string h, .string v, .string a, .slice oa2 L2.length cap2, .bool sg] w fun e w' => SomeBool e ∧ w' = w := by
  unfold maxLen at h1 h2 h3
  have HV1 := Lib.hid hv1
  have HV2 := Lib.hid hv2
  clear hv1 hv2
  by_cases hL1 : 1048576 < L1.length
  · go_enter Try.func23, Try.ntmps23
    go_wp2
    go_ret
    exact ⟨⟨_, rfl⟩, rfl⟩
  · go_enter Try.func23, Try.ntmps23
    go_wp2
    go_loop [13, 14] (fun t13 t14 => ∃ (k : Nat) (z : Int), t14 = .int .i64 (k : Int) ∧ k ≤ L1.length ∧ t13 = .int .i64 z ∧ 0 ≤ z ∧ z ≤ 1048576) (fun _ i => L1.length - (intOf i).toNat)
    case atStart => exact ⟨0, L1.length, rfl, by omega, rfl, by omega, by omega⟩
    case round =>
      obtain ⟨k, z, rfl, hk, rfl, hz0, hz1⟩ := hrel
      by_cases hlt : k < L1.length
      · obtain ⟨ab, ao, rfl, hab, hl⟩ := HV1.out.at hlt
        obtain ⟨x, hx⟩ : ∃ x, L1[k]? = some x := ⟨_, List.getElem?_eq_getElem hlt⟩
        have hcx := hl k x hx
        clear hl hx
        go_wp2
        · go_ret
          exact ⟨⟨_, rfl⟩, rfl⟩
        · go_ret
          exact ⟨⟨_, rfl⟩, rfl⟩
        · go_round
          case rel => exact ⟨k + 1, _, by go_num, by omega, rfl, by omega, by omega⟩
          case measure => simp [intOf]; omega
      · go_wp2
        all_goals try (go_ret; exact ⟨⟨_, rfl⟩, rfl⟩)
        go_loop [13, 15] (fun t13 t15 => ∃ (k : Nat) (z : Int), t15 = .int .i64 (k : Int) ∧ k ≤ L2.length ∧ t13 = .int .i64 z ∧ 0 ≤ z ∧ z ≤ 1048576) (fun _ i => L2.length - (intOf i).toNat)
        case atStart => exact ⟨0, _, rfl, by omega, rfl, by omega, by omega⟩
        case round =>
          obtain ⟨m, y, rfl, hm, rfl, hy0, hy1⟩ := hrel
          by_cases hlt2 : m < L2.length
          · obtain ⟨ab, ao, rfl, hab, hl⟩ := HV2.out.at hlt2
            obtain ⟨x, hx⟩ : ∃ x, L2[m]? = some x := ⟨_, List.getElem?_eq_getElem hlt2⟩
            have hcx := hl m x hx
            clear hl hx
            go_wp2
            · go_ret
              exact ⟨⟨_, rfl⟩, rfl⟩
            · go_ret
              exact ⟨⟨_, rfl⟩, rfl⟩
            · go_round
              case rel => exact ⟨m + 1, _, by go_num, by omega, rfl, by omega, by omega⟩
              case measure => simp [intOf]; omega
          · go_wp2
            go_ret
            exact ⟨⟨_, rfl⟩, rfl⟩
end Go.Proofs.Qxb6600544a
