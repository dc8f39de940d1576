/-
  The walks of ZZunquote and of cfgb1CloneLines.
-/
import Derived.Test.Qxb6600544aUnq
namespace Go.Proofs.Qxb6600544a
open Go.Shelf Go.RowKit Un

theorem zzUnquote_any (s : ByteArray) (ab ao cap i : Nat) (L : List ByteArray) (w : World) (R : Ans)
    (hp : 0 < s.size) (hs : s.size ≤ 8388608) (hL : ∀ x ∈ L, x.size ≤ 8388608) (hn : L.length ≤ 4194304) (hi : i < L.length) (hab : ab < w.heap.size) (hl : Lines w ab ao L)
    (hR : unqs (s[0]'hp) [] ((bs s).drop 1) i ((L.drop (i + 1)).map bs) = R) :
    Calls Try.prog 22 #[.string s, .slice (some ⟨ab, ao, none⟩) L.length cap, .int .i64 (i : Int)] w fun e w' => e = .returned (ansV R) ∧ Below w.heap.size w w' := by
  have key := unquote_any s ab ao cap i L w R hp hs hL hn hi hab hl hR
  unfold ansV at key
  clear hl hL hR hs hn
  go_enter Try.func22, Try.ntmps22
  go_wp2_with (go_at_call 27; refine key.mono ?_; rintro e w' ⟨rfl, hb⟩)
  exact bodyPost_ret (v := ansV R) (by simp [results, Try.results22, go_sem, ansV]) rfl ⟨rfl, hb⟩

theorem info9 : (Try.prog.info? 9).map (fun i => (i.zero, i.size, i.bytes)) = some (some (.string ⟨#[]⟩), 1, 16) := by kernel_rfl

/-- A row of strings, as cells. -/
abbrev strs (L : List ByteArray) : List Value := L.map Value.string

theorem made_strs (n : Nat) : (madeCells (Value.string ⟨#[]⟩).cells (n * 1)).toList = strs (List.replicate n ⟨#[]⟩) := by
  apply List.ext_getElem
  · simp [madeCells]
  · intro i h1 h2
    simp [madeCells, Value.cells, Nat.mod_one]

/-- What the copy holds when k are through. -/
def part (L : List ByteArray) (k : Nat) : List ByteArray := L.take k ++ List.replicate (L.length - k) ⟨#[]⟩
theorem part_len (L : List ByteArray) (k : Nat) (h : k ≤ L.length) : (part L k).length = L.length := by
  unfold part; rw [List.length_append, List.length_take, List.length_replicate]; omega
theorem part_step (L : List ByteArray) (k : Nat) (x : ByteArray) (h : L[k]? = some x) : (strs (part L k)).set k (.string x) = strs (part L (k + 1)) := by
  obtain ⟨hk, e⟩ := List.getElem?_eq_some_iff.1 h
  unfold part strs
  rw [show L.length - k = (L.length - (k + 1)) + 1 by omega, List.replicate_succ, List.take_succ_eq_append_getElem hk, e]
  rw [List.map_append, List.map_cons, List.set_append_right _ _ (by simp; omega)]
  have hl : k - (List.map Value.string (List.take k L)).length = 0 := by rw [List.length_map, List.length_take]; omega
  rw [hl, List.set_cons_zero]
  simp
theorem part_zero (L : List ByteArray) : part L 0 = List.replicate L.length ⟨#[]⟩ := by simp [part]
theorem part_end (L : List ByteArray) (k : Nat) (h : L.length ≤ k) : part L k = L := by
  unfold part; rw [List.take_of_length_le h, show L.length - k = 0 by omega]; simp

set_option maxHeartbeats 1000000 in
theorem clone_any (ab ao cap : Nat) (L : List ByteArray) (w : World) (hn : L.length ≤ 4194304) (hab : L ≠ [] → ab < w.heap.size) (hl : Lines w ab ao L) :
    Calls Try.prog 20 #[.slice (some ⟨ab, ao, none⟩) L.length cap] w fun e w' => e = .returned (.slice (some ⟨w.heap.size, 0, none⟩) L.length L.length) ∧
      w'.ownsRow w.heap.size 9 1 (.slice (some ⟨w.heap.size, 0, none⟩) L.length L.length) L.length (strs L) ∧ Below w.heap.size w w' := by
  obtain ⟨i0, hi, hz0, hz1, hz2⟩ := info_parts info9
  have HL := Lib.hid hl
  clear hl
  have hnil : ∀ w, (binOp .eql 26 (.slice (some ⟨ab, ao, none⟩) L.length cap) (.slice none 0 0)).run Try.prog w = .ok (.bool false) w := fun w => Lib.run_eql_slice_nil w _ _ (some ⟨ab, ao, none⟩) _ _ 0 0 Try.underlying26
  go_enter Try.func20, Try.ntmps20
  go_wp2_with (at_make; refine wpList_make_full _ rfl _ _ 26 rfl w.heap.size 9 i0 (.string ⟨#[]⟩) 1 Try.underlying26 hi hz0 hz1 .i64 .i64 _ _ L.length rfl rfl (by omega) (by omega) (by rw [hz2]; omega) (by unfold maxLen; omega) (Nat.le_refl _) ?_; intro w1 hown hgrow)
  rw [made_strs, ← part_zero] at hown
  have hb1 : Below w.heap.size w w1 := (Below.refl _ _).grown hgrow (Nat.le_refl _) (fun k hk => by cases hk)
  clear hgrow
  go_loopg [4] L.length (fun g t4 wr => ∃ k : Nat, t4 = .int .i64 (k : Int) ∧ k ≤ L.length ∧ L.length ≤ k + g ∧ Hid (wr.ownsRow w.heap.size 9 1 (.slice (some ⟨w.heap.size, 0, none⟩) L.length L.length) L.length (strs (part L k))) ∧ Below w.heap.size w wr)
  case atStart => exact ⟨0, rfl, by omega, by omega, hown, hb1⟩
  case round =>
    clear hown hb1
    obtain ⟨k, rfl, hk, hkg, hown, hb⟩ := hrel
    by_cases hlt : k < L.length
    · obtain ⟨x, hx⟩ : ∃ x, L[k]? = some x := ⟨_, List.getElem?_eq_getElem hlt⟩
      have hne : L ≠ [] := fun e => by rw [e] at hlt; simp at hlt
      have hcx : wr.cell? ⟨ab, ao + k, none⟩ = some (.string x) := (HL.out.on hb (hab hne)) k x hx
      have hfz := hown.out.frozenAt k
      obtain ⟨v0, hv0⟩ : ∃ v, wr.cell? ⟨w.heap.size, k, none⟩ = some v := by
        rw [hown.out.cellAt k (by omega)]
        exact ⟨_, List.getElem?_eq_getElem (by rw [List.length_map, part_len L k hk]; exact hlt)⟩
      have hst := hown.out.stored k (.string x)
      rw [part_step L k x hx] at hst
      have HS := Lib.hid hst
      clear hst hx hown hab
      go_wp2
      go_roundg (gk - 1)
      case measure => omega
      case rel => exact ⟨k + 1, by go_num, by omega, by omega, HS.out.1, hb.setCell (Nat.le_refl _) _⟩
    · rw [part_end L k (by omega)] at hown
      have HO := hown
      clear hown
      go_wp2
      go_ret
      exact ⟨rfl, HO.out, hb⟩

set_option maxHeartbeats 400000 in
theorem clone_nil (w : World) : Calls Try.prog 20 #[.slice none 0 0] w fun e w' => e = .returned (.slice none 0 0) ∧ w' = w := by
  have hnil : ∀ w, (binOp .eql 26 (.slice none 0 0) (.slice none 0 0)).run Try.prog w = .ok (.bool true) w := fun w => Lib.run_eql_slice_nil w _ _ none 0 0 0 0 Try.underlying26
  go_enter Try.func20, Try.ntmps20
  go_wp2
  go_ret
  exact ⟨rfl, rfl⟩
end Go.Proofs.Qxb6600544a
