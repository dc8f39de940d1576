/-
  The walks of jsonKind, ZZJsonKind, zzArticle; the bounds' functions.
-/
import Derived.Test.Qxb6600588aNum
namespace Go.Proofs.Qxb6600588a
open Go.RowKit

/-- The name of a kind. -/
def art (k : UInt8) : ByteArray :=
  if k = 0 then ⟨#[97, 110, 32, 111, 98, 106, 101, 99, 116]⟩ else if k = 1 then ⟨#[97, 110, 32, 97, 114, 114, 97, 121]⟩ else if k = 2 then ⟨#[97, 32, 115, 116, 114, 105, 110, 103]⟩
  else if k = 3 then ⟨#[97, 32, 98, 111, 111, 108, 101, 97, 110]⟩ else if k = 4 then ⟨#[110, 117, 108, 108]⟩ else ⟨#[97, 32, 110, 117, 109, 98, 101, 114]⟩

theorem kind26 (g s n cap : Nat) (b k : UInt8) (w : World) (hn : 0 < n) (hc : w.cell? ⟨g, s, none⟩ = some (.int .u8 (b.toNat : Int))) (hk : Kind b k) :
    Calls Try.prog 26 #[.slice (some ⟨g, s, none⟩) n cap] w fun e w' => e = .returned (.string (art k)) ∧ w' = w := by
  rcases hk with ⟨rfl, rfl⟩ | ⟨rfl, rfl⟩ | ⟨rfl, rfl⟩ | ⟨rfl, rfl | rfl⟩ | ⟨rfl, rfl⟩ | ⟨rfl, hb⟩
  case inr.inr.inr.inr.inr =>
    obtain ⟨z, hz⟩ : ∃ z : Int, (b.toNat : Int) = z := ⟨_, rfl⟩
    have hz1 : z = 45 ∨ (48 ≤ z ∧ z ≤ 57) := by
      rcases hb with rfl | ⟨h1, h2⟩
      · left; rw [← hz]; rfl
      · right; omega
    have hz2 : 45 ≤ z := by omega
    have hz3 : z ≤ 57 := by omega
    rw [hz] at hc
    clear hb hz hz1
    go_enter Try.func26, Try.ntmps26
    go_wp2
    all_goals try (exfalso; omega)
    go_ret
    exact ⟨rfl, rfl⟩
  all_goals
    go_enter Try.func26, Try.ntmps26
    go_wp2
    go_ret
    exact ⟨rfl, rfl⟩

theorem kind14 (g s n cap : Nat) (b k : UInt8) (w : World) (hn : 0 < n) (hc : w.cell? ⟨g, s, none⟩ = some (.int .u8 (b.toNat : Int))) (hk : Kind b k) :
    Calls Try.prog 14 #[.slice (some ⟨g, s, none⟩) n cap] w fun e w' => e = .returned (.string (art k)) ∧ w' = w := by
  have key := kind26 g s n cap b k w hn hc hk
  go_enter Try.func14, Try.ntmps14
  go_wp2_with (go_at_call 26; refine key.mono ?_; rintro e w' ⟨rfl, rfl⟩)
  go_ret
  exact ⟨rfl, rfl⟩

theorem art15 (b k : UInt8) (w : World) (hk : Kind b k) : Calls Try.prog 15 #[.int .u8 (k.toNat : Int)] w fun e w' => e = .returned (.string (art k)) ∧ w' = w := by
  rcases hk with ⟨rfl, rfl⟩ | ⟨rfl, rfl⟩ | ⟨rfl, rfl⟩ | ⟨rfl, _⟩ | ⟨rfl, rfl⟩ | ⟨rfl, hb⟩
  all_goals
    go_enter Try.func15, Try.ntmps15
    go_wp2
    go_ret
    exact ⟨rfl, rfl⟩

theorem str_at {B : Nat} {w : World} {oa : Option Addr} {L : List ByteArray} (h : Seen B w oa (L.map Value.string)) {k : Nat} (hk : k < L.length) :
    ∃ b off, oa = some ⟨b, off, none⟩ ∧ b < B ∧ w.cell? ⟨b, off + k, none⟩ = some (.string (L[k]'hk)) := by
  obtain ⟨b, off, e, hb, hc⟩ := h.at (k := k) (by simpa using hk)
  exact ⟨b, off, e, hb, by rw [hc, List.getElem_map]⟩

/-- What the bounds' function answers: false, or no string is long. -/
def BytesB (L : List ByteArray) (e : Ending) : Prop := e = .returned (.bool false) ∨ (e = .returned (.bool true) ∧ ∀ x ∈ L, x.size ≤ 1048576)

theorem take_more {L : List ByteArray} {k : Nat} {m : Nat} (h : ∀ y ∈ L.take k, y.size ≤ m) (hk : k < L.length) (hm : (L[k]'hk).size ≤ m) : ∀ y ∈ L.take (k + 1), y.size ≤ m := by
  intro y hy
  rw [List.take_succ_eq_append_getElem hk] at hy
  rcases List.mem_append.1 hy with h1 | h1
  · exact h y h1
  · have : y = L[k]'hk := by simpa using h1
    rw [this]; exact hm

set_option maxHeartbeats 2000000 in
theorem bytes13 (os ot on : Option Addr) (cs ct cn n1 n2 : Nat) (L : List ByteArray) (w : World) (hv : Seen w.heap.size w ot (L.map Value.string)) (h1 : n1 ≤ 9223372036854775807) (h2 : n2 ≤ 9223372036854775807) (h3 : L.length ≤ 9223372036854775807) (hL : ∀ x ∈ L, x.size ≤ 9223372036854775807) :
    Calls Try.prog 13 #[.slice os n1 cs, .slice ot L.length ct, .slice on n2 cn] w fun e w' => BytesB L e ∧ w' = w := by
  have HV := Lib.hid hv
  have HL := Lib.hid hL
  clear hv hL
  go_enter Try.func13, Try.ntmps13
  go_wp2
  all_goals try (go_ret; exact ⟨Or.inl rfl, rfl⟩)
  go_loop [7, 8] (fun t7 t8 => ∃ (k : Nat) (z : Int), t8 = .int .i64 (k : Int) ∧ k ≤ L.length ∧ t7 = .int .i64 z ∧ 0 ≤ z ∧ z ≤ 1048576 ∧ Hid (∀ y ∈ L.take k, y.size ≤ 1048576)) (fun _ i => L.length - (intOf i).toNat)
  case atStart => exact ⟨0, _, rfl, by omega, rfl, by omega, by omega, by simp [Hid]⟩
  case round =>
    obtain ⟨k, z, rfl, hk, rfl, hz0, hz1, HA⟩ := hrel
    by_cases hlt : k < L.length
    · obtain ⟨ab, ao, rfl, hab, hcx⟩ := str_at HV.out hlt
      have hx : (L[k]'hlt).size ≤ 9223372036854775807 := HL.out _ (List.getElem_mem hlt)
      have HT : Hid ((L[k]'hlt).size ≤ 1048576 → ∀ y ∈ L.take (k + 1), y.size ≤ 1048576) := fun hm => take_more HA.out hlt hm
      obtain ⟨x, hxx⟩ : ∃ x, L[k]'hlt = x := ⟨_, rfl⟩
      rw [hxx] at hcx hx HT
      clear hxx
      go_wp2
      · go_ret
        exact ⟨Or.inl rfl, rfl⟩
      · go_ret
        exact ⟨Or.inl rfl, rfl⟩
      · go_round
        case rel => exact ⟨k + 1, _, by go_num, by omega, rfl, by omega, by omega, HT.out (by omega)⟩
        case measure => simp [intOf]; omega
    · have HA2 : Hid (∀ y ∈ L, y.size ≤ 1048576) := by
        have h := HA.out
        rw [List.take_of_length_le (by omega)] at h
        exact h
      go_wp2
      all_goals
        go_ret
        first
          | exact ⟨Or.inl rfl, rfl⟩
          | exact ⟨Or.inr ⟨rfl, HA2.out⟩, rfl⟩

/-- What zzDocBytes answers: -1, or the bounds hold. -/
def DocB (n1 n2 : Nat) (L : List ByteArray) (e : Ending) : Prop := e = .returned (.int .i64 (-1)) ∨ ∃ z : Int, e = .returned (.int .i64 z) ∧ 0 ≤ z ∧ z ≤ 1000000 ∧ n1 ≤ 4096 ∧ L.length ≤ 4096 ∧ n2 ≤ 4096 ∧ ∀ x ∈ L, x.size ≤ 65536

set_option maxHeartbeats 2000000 in
theorem docBytes (os ot on : Option Addr) (cs ct cn n1 n2 : Nat) (L : List ByteArray) (w : World) (hv : Seen w.heap.size w ot (L.map Value.string)) (h1 : n1 ≤ 9223372036854775807) (h2 : n2 ≤ 9223372036854775807) (h3 : L.length ≤ 9223372036854775807) (hL : ∀ x ∈ L, x.size ≤ 9000000000000000000) :
    Calls Try.prog 8 #[.slice os n1 cs, .slice ot L.length ct, .slice on n2 cn] w fun e w' => DocB n1 n2 L e ∧ w' = w := by
  have HV := Lib.hid hv
  have HL := Lib.hid hL
  clear hv hL
  go_enter Try.func8, Try.ntmps8
  go_wp2
  all_goals try (go_ret; exact ⟨Or.inl rfl, rfl⟩)
  go_loop [7, 8] (fun t7 t8 => ∃ (k : Nat) (z : Int), t8 = .int .i64 (k : Int) ∧ k ≤ L.length ∧ t7 = .int .i64 z ∧ 0 ≤ z ∧ z ≤ 65536 ∧ Hid (∀ y ∈ L.take k, y.size ≤ 65536)) (fun _ i => L.length - (intOf i).toNat)
  case atStart => exact ⟨0, _, rfl, by omega, rfl, by omega, by omega, by simp [Hid]⟩
  case round =>
    obtain ⟨k, z, rfl, hk, rfl, hz0, hz1, HA⟩ := hrel
    by_cases hlt : k < L.length
    · obtain ⟨ab, ao, rfl, hab, hcx⟩ := str_at HV.out hlt
      have hx : (L[k]'hlt).size ≤ 9000000000000000000 := HL.out _ (List.getElem_mem hlt)
      have HT : Hid ((L[k]'hlt).size ≤ 65536 → ∀ y ∈ L.take (k + 1), y.size ≤ 65536) := fun hm => take_more HA.out hlt hm
      obtain ⟨x, hxx⟩ : ∃ x, L[k]'hlt = x := ⟨_, rfl⟩
      rw [hxx] at hcx hx HT
      clear hxx
      go_wp2
      · go_ret
        exact ⟨Or.inl rfl, rfl⟩
      · go_round
        case rel => exact ⟨k + 1, _, by go_num, by omega, rfl, by omega, by omega, HT.out (by omega)⟩
        case measure => simp [intOf]; omega
    · have HA2 : Hid (∀ y ∈ L, y.size ≤ 65536) := by
        have h := HA.out
        rw [List.take_of_length_le (by omega)] at h
        exact h
      go_wp2
      go_ret
      exact ⟨Or.inr ⟨_, rfl, by omega, by omega, by omega, by omega, by omega, HA2.out⟩, rfl⟩
end Go.Proofs.Qxb6600588a
