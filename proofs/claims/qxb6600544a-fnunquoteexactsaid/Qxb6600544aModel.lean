/-
  The walk of the run-decoding model.
-/
import Derived.Test.Qxb6600544aDec
import Derived.RegionTactic
import Derived.Deep.QuietTactic
import Derived.BigQuiet
namespace Go.Proofs.Qxb6600544a
open Go.Shelf Go.RowKit Un

theorem wrap_i64_small (n : Int) (h : -9223372036854775808 ≤ n ∧ n ≤ 9223372036854775807) : IntKind.i64.wrap n = n := by
  rw [IntKind.wrap_i64]; omega

set_option maxRecDepth 100000 in
set_option maxHeartbeats 4000000 in
theorem model_any (s : ByteArray) (ab ao cap i : Nat) (L : List ByteArray) (w : World) (R : Ans)
    (hp : 0 < s.size) (hs : s.size ≤ 8388608) (hL : ∀ x ∈ L, x.size ≤ 8388608) (hn : L.length ≤ 4194304) (hi : i < L.length) (hab : ab < w.heap.size) (hl : Lines w ab ao L)
    (hR : unqs (s[0]'hp) [] ((bs s).drop 1) i ((L.drop (i + 1)).map bs) = R) :
    Calls Try.prog 21 #[.string s, .slice (some ⟨ab, ao, none⟩) L.length cap, .int .i64 (i : Int)] w fun e w' => e = .returned (ansV R) ∧ Below w.heap.size w w' := by
  obtain ⟨q, hq⟩ : ∃ q, s[0]'hp = q := ⟨_, rfl⟩
  rw [hq] at hR
  have HR := Lib.hid hR
  have HL := Lib.hid hl
  have HLs := Lib.hid hL
  clear hR hl hL
  have hsx : (s.extract 1 s.size).size ≤ 8388608 := by rw [ByteArray.size_extract]; omega
  have hbx : Hid (bs (s.extract 1 s.size) = (bs s).drop 1) := by
    show (s.extract 1 s.size).data.toList = _
    rw [Lib.extract_data]
    exact List.take_of_length_le (by rw [List.length_drop, len_b]; omega)
  go_enter Try.func21, Try.ntmps21
  go_wp2
  go_loopg [11, 12, 13] L.length (fun g1 t11 t12 t13 wx => ∃ (k : Nat) (p : ByteArray) (acc : List UInt8), t13 = .int .i64 (k : Int) ∧ t12 = .string p ∧ k < L.length ∧ L.length ≤ k + g1 ∧ p.size ≤ 8388608 ∧ acc.length ≤ k * 16777216 ∧
    Hid (unqs q acc (bs p) k ((L.drop (k + 1)).map bs) = R) ∧ Hid (OwnB w.heap.size t11 acc wx) ∧ Below w.heap.size w wx)
  case atStart => exact ⟨i, s.extract 1 s.size, [], rfl, rfl, hi, by omega, hsx, by simp, by show _ = _; rw [hbx.out]; exact HR.out, ownB_nil _ _, Below.refl _ _⟩
  case round =>
    obtain ⟨k, p, acc, rfl, rfl, hk, hkg, hps, hal, hU, hC, hb⟩ := hrel
    obtain ⟨g1, rfl⟩ : ∃ g, gk = g + 1 := ⟨gk - 1, by omega⟩
    have hdec := decode_any w.heap.size u11 acc p q wr hC.out hb.size hps (by omega)
    have HD := Lib.hid hdec
    clear hdec hC hq
    go_wp2_with fail
    refine HD.out.mono ?_
    rintro e w3 ⟨v3, at3, out3, rfl, hC3, hb3, hl3, hend⟩
    have HC3 := Lib.hid hC3
    have hb4 := hb.trans hb3
    clear hb hb3 HD
    rcases hend with ⟨rfl, hsc⟩ | ⟨j, rfl, hj, hsc⟩
    · -- no closing quote here
      have hlen : out3.length + 1 ≤ 140737488355328 := by omega
      by_cases hlast : k + 1 < L.length
      · obtain ⟨y, hy⟩ : ∃ y, L[k + 1]? = some y := ⟨_, List.getElem?_eq_getElem hlast⟩
        have hym := HLs.out y (List.mem_of_getElem? hy)
        have hdr : L.drop (k + 1) = y :: L.drop (k + 1 + 1) := by
          obtain ⟨hj, e⟩ := List.getElem?_eq_some_iff.1 hy
          rw [← e]
          exact List.drop_eq_getElem_cons hj
        have hUn : Hid (unqs q (out3 ++ [10]) (bs y) (k + 1) ((L.drop (k + 1 + 1)).map bs) = R) := by
          have h := hU.out
          rw [hdr, List.map_cons, unqs_next q acc (bs p) k _ _ out3 hsc] at h
          exact h
        have hyc : ∀ W, Below w.heap.size w W → W.cell? ⟨ab, ao + (k + 1), none⟩ = some (.string y) := fun W hW => (HL.out.on hW hab) (k + 1) y hy
        have HY := Lib.hid hyc
        clear hsc hdr hU hyc hy hC3
        go_wp2_with (at_builtin; refine app_byte w3 rfl (.tmp 44) (.tmp 45) rfl w.heap.size out3 10 _ rfl rfl HC3.out hlen hb4.size ?_; intro v5 w5 hC5 hg5; have hb5 := below_own hb4 hg5 hb4.size HC3.out.row; have hyc5 := HY.out _ hb5)
        go_roundg g1
        case measure => omega
        case rel => exact ⟨k + 1, y, out3 ++ [10], by go_num, rfl, hlast, by omega, hym, by rw [List.length_append, List.length_singleton]; omega, hUn, hC5, hb5⟩
      · have hkl : k + 1 = L.length := by omega
        have hfin : Hid (Value.tuple #[.string ⟨#[]⟩, .string ⟨#[]⟩, .int .i64 (L.length : Int), .bool false] = ansV R) := by
          show _ = ansV R
          have h := hU.out
          rw [List.drop_eq_nil_of_le (by omega), List.map_nil, unqs_end q acc (bs p) k out3 hsc] at h
          rw [← h, ← hkl]
          rfl
        clear hsc hU hkl hC3
        go_wp2
        exact bodyPost_ret (v := .tuple #[.string ⟨#[]⟩, .string ⟨#[]⟩, .int .i64 (L.length : Int), .bool false]) (by simp [results, Try.results21, go_sem]) rfl ⟨congrArg Ending.returned hfin.out, hb4⟩
    · -- the closing quote
      have hRR := Lib.hid (unqs_hit q acc (bs p) k ((L.drop (k + 1)).map bs) out3 ((bs p).drop (j + 1)) hsc)
      have hex : Hid ((⟨((bs p).drop (j + 1)).toArray⟩ : ByteArray) = p.extract (j + 1) p.size) := by
        apply Go.WideShapes.bytes_inj
        show _ = (p.extract (j + 1) p.size).data.toList
        rw [Lib.extract_data]
        exact (List.take_of_length_le (by rw [List.length_drop, len_b]; omega)).symm
      have hfin : Hid (Value.tuple #[.string ⟨out3.toArray⟩, .string (p.extract (j + 1) p.size), .int .i64 (k : Int), .bool true] = ansV R) := by
        show _ = ansV R
        rw [← hU.out, hRR.out, ← hex.out]
        rfl
      have hcv : (convert 32 9 v3).run Try.prog w3.drew = .ok (.string ⟨out3.toArray⟩) w3.drew := conv_own (w := w3.drew) hC3
      have hwj : IntKind.i64.wrap ((j : Int) + 1) = (j : Int) + 1 := wrap_i64_small _ (by omega)
      clear hRR hex hU hsc hC3
      go_wp2
      go_region
      all_goals
        go_wp2
        exact bodyPost_ret (v := .tuple #[.string ⟨out3.toArray⟩, .string (p.extract (j + 1) p.size), .int .i64 (k : Int), .bool true]) (by simp [results, Try.results21, go_sem]) rfl ⟨congrArg Ending.returned hfin.out, hb4.drew⟩
end Go.Proofs.Qxb6600544a
