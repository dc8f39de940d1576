/-
  The walk of unquote.
-/
import Derived.Test.Qxb6600544aBuild
import Derived.Test.Qxb6600544aUnqPlain
import Derived.WalkSpells
import Derived.WalkLawsBesides
import Derived.Deep.LoopGhost
import Derived.Deep.RegionWith
import Derived.Lib.Hide
namespace Go.Proofs.Qxb6600544a
open Go.Shelf Go.RowKit Un

/-- The bytes of a string. -/
abbrev bs (s : ByteArray) : List UInt8 := s.data.toList

theorem at_b (s : ByteArray) (k : Nat) (hk : k < s.size) : (bs s)[k]? = some (s[k]'hk) := by
  show s.data.toList[k]? = _
  rw [Array.getElem?_toList, Array.getElem?_eq_getElem hk]; rfl
theorem len_b (s : ByteArray) : (bs s).length = s.size := by simp

/-- The lines lie in memory from block ab, place ao on. -/
def Lines (w : World) (ab ao : Nat) (L : List ByteArray) : Prop := ∀ (j : Nat) (x : ByteArray), L[j]? = some x → w.cell? ⟨ab, ao + j, none⟩ = some (.string x)

theorem Lines.on {w w' : World} {B ab ao : Nat} {L : List ByteArray} (h : Lines w ab ao L) (hb : Below B w w') (hab : ab < B) : Lines w' ab ao L :=
  fun j x hx => (hb.cell (p := ⟨ab, ao + j, none⟩) hab).trans (h j x hx)

/-- What unquote answers, as bytes. -/
abbrev Ans := List UInt8 × List UInt8 × Nat × Bool
def ansV (r : Ans) : Value := .tuple #[.string ⟨r.1.toArray⟩, .string ⟨r.2.1.toArray⟩, .int .i64 (r.2.2.1 : Int), .bool r.2.2.2]

theorem beq_t {a b : Nat} (h : a = b) : ((a : Int) == (b : Int)) = true := by rw [beq_iff_eq, h]
theorem beq_f {a b : Nat} (h : a ≠ b) : ((a : Int) == (b : Int)) = false := by rw [beq_eq_false_iff_ne]; omega
theorem u8_ne {a b : UInt8} (h : a ≠ b) : a.toNat ≠ b.toNat := fun e => h (UInt8.toNat_inj.1 e)

set_option maxHeartbeats 4000000 in
theorem unquote_any (s : ByteArray) (ab ao cap i : Nat) (L : List ByteArray) (w : World) (R : Ans)
    (hp : 0 < s.size) (hs : s.size ≤ 8388608) (hL : ∀ x ∈ L, x.size ≤ 8388608) (hn : L.length ≤ 4194304) (hi : i < L.length) (hab : ab < w.heap.size) (hl : Lines w ab ao L)
    (hR : unqs (s[0]'hp) [] ((bs s).drop 1) i ((L.drop (i + 1)).map bs) = R) :
    Calls Try.prog 27 #[.string s, .slice (some ⟨ab, ao, none⟩) L.length cap, .int .i64 (i : Int)] w fun e w' => e = .returned (ansV R) ∧ Below w.heap.size w w' := by
  obtain ⟨q, hq⟩ : ∃ q, s[0]'hp = q := ⟨_, rfl⟩
  rw [hq] at hR
  have HR := Lib.hid hR
  have HL := Lib.hid hl
  have HLs := Lib.hid hL
  clear hR hl hL
  have hsx : (s.extract 1 s.size).size ≤ 8388608 := by rw [ByteArray.size_extract]; omega
  have hbx : Hid (bs (s.extract 1 s.size) = (bs s).drop 1) := by
    show (s.extract 1 s.size).data.toList = _
    rw [Lib.extract_data]
    exact List.take_of_length_le (by rw [List.length_drop, len_b]; omega)
  go_enter Try.func27, Try.ntmps27
  go_wp2
  go_loopg [2, 12] L.length (fun g1 t2 t12 wr => ∃ (k : Nat) (p : ByteArray) (acc : List UInt8), t2 = .int .i64 (k : Int) ∧ t12 = .string p ∧ k < L.length ∧ L.length ≤ k + g1 ∧ p.size ≤ 8388608 ∧ acc.length ≤ k * 16777216 ∧
    Hid (unqs q acc (bs p) k ((L.drop (k + 1)).map bs) = R) ∧ Hid (Holds w.heap.size w.heap.size acc wr) ∧ Below w.heap.size w wr)
  case atStart => exact ⟨i, s.extract 1 s.size, [], rfl, rfl, hi, by omega, hsx, by simp, by show _ = _; rw [hbx.out]; exact HR.out, holds_fresh w, (Below.refl _ _).alloc (Nat.le_refl _) _⟩
  case round =>
    obtain ⟨k, p, acc, rfl, rfl, hk, hkg, hps, hal, hU, hH, hb⟩ := hrel
    obtain ⟨g1, rfl⟩ : ∃ g, gk = g + 1 := ⟨gk - 1, by omega⟩
    obtain ⟨w1, hw1⟩ : ∃ W, W = wr := ⟨_, rfl⟩
    subst hw1
    go_wp2
    go_loopg [13] (p.size + 1) (fun g2 t13 wr => ∃ (j : Nat) (acc2 : List UInt8), t13 = .int .i64 (j : Int) ∧ j ≤ p.size ∧ p.size + 1 ≤ j + g2 ∧ acc2.length ≤ k * 16777216 + j ∧
      Hid (scan q acc2 ((bs p).drop j) = scan q acc (bs p)) ∧ Hid (Holds w.heap.size w.heap.size acc2 wr) ∧ Below w.heap.size w wr)
    case atStart => exact ⟨0, acc, rfl, by omega, by omega, Nat.le_trans hal (Nat.le_add_right _ _), by show _ = _; rw [List.drop_zero], hH, hb⟩
    case round =>
      obtain ⟨j, acc2, rfl, hj, hjg, hal2, hS, hH2, hb2⟩ := hrel
      obtain ⟨w2, hw2⟩ : ∃ W, W = wr := ⟨_, rfl⟩
      subst hw2
      clear hH hb
      have hBw := hb2.size
      by_cases hlt : j < p.size
      · have hc := at_b p j hlt
        obtain ⟨c, hce⟩ : ∃ c, p[j]'hlt = c := ⟨_, rfl⟩
        rw [hce] at hc
        by_cases hcq : c = q
        · -- the closing quote
          subst hcq
          have hRR := Lib.hid (unqs_hit c acc (bs p) k ((L.drop (k + 1)).map bs) acc2 ((bs p).drop (j + 1)) (hS.out.symm.trans (scan_at_quote hc)))
          have hex : Hid ((⟨((bs p).drop (j + 1)).toArray⟩ : ByteArray) = p.extract (j + 1) p.size) := by
            apply Go.WideShapes.bytes_inj
            show _ = (p.extract (j + 1) p.size).data.toList
            rw [Lib.extract_data]
            exact (List.take_of_length_le (by rw [List.length_drop, len_b]; omega)).symm
          have hfin : Hid (Value.tuple #[.string ⟨acc2.toArray⟩, .string (p.extract (j + 1) p.size), .int .i64 (k : Int), .bool true] = ansV R) := by
            show _ = ansV R
            rw [← hU.out, hRR.out, ← hex.out]
            rfl
          clear hRR hex
          have h29 := Lib.hid (string_any w.heap.size w.heap.size acc2 w2.drew hH2.out hBw)
          have hwj : IntKind.i64.wrap ((j : Int) + 1) = (j : Int) + 1 := by unfold IntKind.wrap; simp [IntKind.bits, IntKind.signed]; omega
          go_wp2
          go_region_with (go_at_call 29; refine h29.out.mono ?_; rintro e w3 ⟨rfl, hb3⟩)
          all_goals
            go_wp2
            exact bodyPost_ret (v := .tuple #[.string ⟨acc2.toArray⟩, .string (p.extract (j + 1) p.size), .int .i64 (k : Int), .bool true]) (by simp [results, Try.results27, go_sem]) rfl ⟨congrArg Ending.returned hfin.out, (hb2.drew).trans hb3⟩
        · have hcf := beq_f (u8_ne hcq)
          have hlen : acc2.length + 1 ≤ 140737488355328 := by omega
          clear hq
          by_cases hq34 : q = 34
          · have hq1 : ((q.toNat : Int) == 34) = true := beq_t (b := 34) (congrArg UInt8.toNat hq34)
            by_cases hc92 : c = 92
            · have hc1 : ((c.toNat : Int) == 92) = true := beq_t (b := 92) (congrArg UInt8.toNat hc92)
              by_cases hj1 : j + 1 < p.size
              · have hd := at_b p (j + 1) hj1
                obtain ⟨d, hde⟩ : ∃ d, p[j + 1]'hj1 = d := ⟨_, rfl⟩
                rw [hde] at hd
                by_cases hd34 : d = 34
                · have hd1 : ((d.toNat : Int) == 34) = true := beq_t (b := 34) (congrArg UInt8.toNat hd34)
                  have HQ := Lib.hid hq34
                  have HC := Lib.hid hc92
                  have HD := Lib.hid hd34
                  have hSn : Hid (scan q (acc2 ++ [d]) ((bs p).drop (j + 2)) = scan q acc (bs p)) := (scan_at_esc hc hd hcq ((escB_iff q c d).2 ⟨hq34, hc92, Or.inl hd34⟩)).symm.trans hS.out
                  clear hq34 hc92 hd34
                  go_wp2_with (go_at_call 30; refine (writeByte_any w.heap.size w.heap.size acc2 d _ hH2.out hlen hBw).mono ?_; rintro e w3 ⟨rfl, hH3, hb3⟩)
                  go_roundg (gk - 1)
                  case measure => omega
                  case rel => exact ⟨j + 2, acc2 ++ [d], by go_num, by omega, by omega, by rw [List.length_append, List.length_singleton]; omega, hSn, hH3, hb2.trans hb3⟩
                · have hd1 : ((d.toNat : Int) == 34) = false := beq_f (b := 34) (u8_ne hd34)
                  by_cases hd92 : d = 92
                  · have hd2 : ((d.toNat : Int) == 92) = true := beq_t (b := 92) (congrArg UInt8.toNat hd92)
                    have hSn : Hid (scan q (acc2 ++ [d]) ((bs p).drop (j + 2)) = scan q acc (bs p)) := (scan_at_esc hc hd hcq ((escB_iff q c d).2 ⟨hq34, hc92, Or.inr hd92⟩)).symm.trans hS.out
                    clear hq34 hc92 hd34 hd92
                    go_wp2_with (go_at_call 30; refine (writeByte_any w.heap.size w.heap.size acc2 d _ hH2.out hlen hBw).mono ?_; rintro e w3 ⟨rfl, hH3, hb3⟩)
                    go_roundg (gk - 1)
                    case measure => omega
                    case rel => exact ⟨j + 2, acc2 ++ [d], by go_num, by omega, by omega, by rw [List.length_append, List.length_singleton]; omega, hSn, hH3, hb2.trans hb3⟩
                  · have hd2 : ((d.toNat : Int) == 92) = false := beq_f (b := 92) (u8_ne hd92)
                    have hSn : Hid (scan q (acc2 ++ [c]) ((bs p).drop (j + 1)) = scan q acc (bs p)) := (scan_at_plain hc hcq (fun x hx => by have ex : x = d := Option.some.inj (hx.symm.trans hd); subst ex; cases hee : escB q c x with | false => rfl | true => exact absurd ((escB_iff q c x).1 hee).2.2 (fun h => h.elim hd34 hd92))).symm.trans hS.out
                    clear hq34 hc92 hd34 hd92
                    go_wp2_with (go_at_call 30; refine (writeByte_any w.heap.size w.heap.size acc2 c _ hH2.out hlen hBw).mono ?_; rintro e w3 ⟨rfl, hH3, hb3⟩)
                    go_roundg (gk - 1)
                    case measure => omega
                    case rel => exact ⟨j + 1, acc2 ++ [c], by go_num, by omega, by omega, by rw [List.length_append, List.length_singleton]; omega, hSn, hH3, hb2.trans hb3⟩
              · have hSn : Hid (scan q (acc2 ++ [c]) ((bs p).drop (j + 1)) = scan q acc (bs p)) := (scan_at_plain hc hcq (fun x hx => absurd (List.getElem?_eq_some_iff.1 hx).1 (by rw [len_b]; exact hj1))).symm.trans hS.out
                clear hq34 hc92
                go_wp2_with (go_at_call 30; refine (writeByte_any w.heap.size w.heap.size acc2 c _ hH2.out hlen hBw).mono ?_; rintro e w3 ⟨rfl, hH3, hb3⟩)
                go_roundg (gk - 1)
                case measure => omega
                case rel => exact ⟨j + 1, acc2 ++ [c], by go_num, by omega, by omega, by rw [List.length_append, List.length_singleton]; omega, hSn, hH3, hb2.trans hb3⟩
            · have hc1 : ((c.toNat : Int) == 92) = false := beq_f (b := 92) (u8_ne hc92)
              have hSn : Hid (scan q (acc2 ++ [c]) ((bs p).drop (j + 1)) = scan q acc (bs p)) := (scan_at_plain hc hcq (fun x _ => by cases hee : escB q c x with | false => rfl | true => exact absurd ((escB_iff q c x).1 hee).2.1 hc92)).symm.trans hS.out
              clear hq34 hc92
              go_wp2_with (go_at_call 30; refine (writeByte_any w.heap.size w.heap.size acc2 c _ hH2.out hlen hBw).mono ?_; rintro e w3 ⟨rfl, hH3, hb3⟩)
              go_roundg (gk - 1)
              case measure => omega
              case rel => exact ⟨j + 1, acc2 ++ [c], by go_num, by omega, by omega, by rw [List.length_append, List.length_singleton]; omega, hSn, hH3, hb2.trans hb3⟩
          · have hq1 : ((q.toNat : Int) == 34) = false := beq_f (b := 34) (u8_ne hq34)
            have hSn : Hid (scan q (acc2 ++ [c]) ((bs p).drop (j + 1)) = scan q acc (bs p)) := (scan_at_plain hc hcq (fun x _ => by cases hee : escB q c x with | false => rfl | true => exact absurd ((escB_iff q c x).1 hee).1 hq34)).symm.trans hS.out
            clear hq34
            go_wp2_with (go_at_call 30; refine (writeByte_any w.heap.size w.heap.size acc2 c _ hH2.out hlen hBw).mono ?_; rintro e w3 ⟨rfl, hH3, hb3⟩)
            go_roundg (gk - 1)
            case measure => omega
            case rel => exact ⟨j + 1, acc2 ++ [c], by go_num, by omega, by omega, by rw [List.length_append, List.length_singleton]; omega, hSn, hH3, hb2.trans hb3⟩
      · -- the piece is through
        have hend : scan q acc (bs p) = (acc2, none) := hS.out.symm.trans (scan_at_end (by rw [len_b]; omega))
        have hlen : acc2.length + 1 ≤ 140737488355328 := by omega
        clear hq hS
        by_cases hlast : k + 1 < L.length
        · obtain ⟨y, hy⟩ : ∃ y, L[k + 1]? = some y := ⟨_, List.getElem?_eq_getElem hlast⟩
          have hym := HLs.out y (List.mem_of_getElem? hy)
          have hdr : L.drop (k + 1) = y :: L.drop (k + 1 + 1) := by
            obtain ⟨hj, e⟩ := List.getElem?_eq_some_iff.1 hy
            rw [← e]
            exact List.drop_eq_getElem_cons hj
          have hUn : Hid (unqs q (acc2 ++ [10]) (bs y) (k + 1) ((L.drop (k + 1 + 1)).map bs) = R) := by
            have h := hU.out
            rw [hdr, List.map_cons, unqs_next q acc (bs p) k _ _ acc2 hend] at h
            exact h
          have hne : (((k : Int) + 1) == (L.length : Int)) = false := by rw [beq_eq_false_iff_ne]; omega
          have hyc : ∀ W, Below w.heap.size w W → W.cell? ⟨ab, ao + (k + 1), none⟩ = some (.string y) := fun W hW => (HL.out.on hW hab) (k + 1) y hy
          have HY := Lib.hid hyc
          clear hend hdr hU hyc hy
          go_wp2_with (go_at_call 30; refine (writeByte_any w.heap.size w.heap.size acc2 10 _ hH2.out hlen hBw).mono ?_; rintro e w3 ⟨rfl, hH3, hb3⟩; have hyc3 := HY.out _ (hb2.trans hb3))
          go_roundg g1
          case measure => omega
          case rel => exact ⟨k + 1, y, acc2 ++ [10], by go_num, rfl, hlast, by omega, hym, by rw [List.length_append, List.length_singleton]; omega, hUn, hH3, hb2.trans hb3⟩
        · have hkl : k + 1 = L.length := by omega
          have hfin : Hid (Value.tuple #[.string ⟨#[]⟩, .string ⟨#[]⟩, .int .i64 ((k : Int) + 1), .bool false] = ansV R) := by
            show _ = ansV R
            have h := hU.out
            rw [List.drop_eq_nil_of_le (by omega), List.map_nil, unqs_end q acc (bs p) k acc2 hend] at h
            rw [← h]
            rfl
          have heq : (((k : Int) + 1) == (L.length : Int)) = true := by rw [beq_iff_eq]; omega
          clear hend hU hkl
          go_wp2
          exact bodyPost_ret (v := .tuple #[.string ⟨#[]⟩, .string ⟨#[]⟩, .int .i64 ((k : Int) + 1), .bool false]) (by simp [results, Try.results27, go_sem]) rfl ⟨congrArg Ending.returned hfin.out, hb2⟩
end Go.Proofs.Qxb6600544a
