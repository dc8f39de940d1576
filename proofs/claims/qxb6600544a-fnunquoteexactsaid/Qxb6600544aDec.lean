/-
  The walk of the run-decoding model's piece.
-/
import Derived.Test.Qxb6600544aUnq
import Derived.Test.Qxb6600544aApp
import Derived.Test.Qxb6600544aExPlain
namespace Go.Proofs.Qxb6600544a
open Go.Shelf Go.RowKit Un

/-- How the piece ends. -/
def DecEnd (B : Nat) (q : UInt8) (out : List UInt8) (s : ByteArray) (w : World) (e : Ending) (w' : World) : Prop :=
  ∃ (v : Value) (at_ : Int) (out' : List UInt8), e = .returned (.tuple #[v, .int .i64 at_]) ∧ OwnB B v out' w' ∧ Below B w w' ∧ out'.length ≤ out.length + s.size ∧
    ((at_ = -1 ∧ scan q out (bs s) = (out', none)) ∨ (∃ j : Nat, at_ = (j : Int) ∧ j < s.size ∧ scan q out (bs s) = (out', some ((bs s).drop (j + 1)))))

set_option maxRecDepth 100000 in
set_option maxHeartbeats 4000000 in
theorem decode_any (B : Nat) (vo : Value) (out : List UInt8) (s : ByteArray) (q : UInt8) (w : World) (hO : OwnB B vo out w) (hB : B ≤ w.heap.size) (hs : s.size ≤ 8388608) (ho : out.length ≤ 70368744177664) :
    Calls Try.prog 26 #[vo, .string s, .int .u8 (q.toNat : Int)] w (fun e w' => DecEnd B q out s w e w') := by
  have HO := Lib.hid hO
  clear hO
  go_enter Try.func26, Try.ntmps26
  go_wp2
  go_loopg [0, 8] (s.size + 1) (fun g t0 t8 wx => ∃ (j : Nat) (acc : List UInt8), t8 = .int .i64 (j : Int) ∧ j ≤ s.size ∧ s.size + 1 ≤ j + g ∧ Hid (OwnB B t0 acc wx) ∧ Hid (scan q acc ((bs s).drop j) = scan q out (bs s)) ∧ acc.length ≤ out.length + j ∧ Below B w wx)
  case atStart => exact ⟨0, out, rfl, by omega, by omega, HO, by show _ = _; rw [List.drop_zero], by omega, Below.refl _ _⟩
  case round =>
    clear HO
    obtain ⟨j, acc, rfl, hj, hjg, hC, hS, hal, hb⟩ := hrel
    obtain ⟨g1, rfl⟩ : ∃ g, gk = g + 1 := ⟨gk - 1, by omega⟩
    obtain ⟨w1, hw1⟩ : ∃ W, W = wr := ⟨_, rfl⟩
    subst hw1
    have hBw : B ≤ w1.heap.size := Nat.le_trans hB hb.size
    by_cases hlt : j < s.size
    · have hc := at_b s j hlt
      obtain ⟨c, hce⟩ : ∃ c, s[j]'hlt = c := ⟨_, rfl⟩
      rw [hce] at hc
      by_cases hq34 : q = 34
      · have hq1 : ((q.toNat : Int) == 34) = true := beq_t (b := 34) (congrArg UInt8.toNat hq34)
        have HQ := Lib.hid hq34
        by_cases hc92 : c = 92
        · have hc1 : ((c.toNat : Int) == 92) = true := beq_t (b := 92) (congrArg UInt8.toNat hc92)
          rw [hc92] at hc
          have HC1 := Lib.hid hc
          clear hq34 hc92 hc
          go_wp2
          go_loop [10] (fun t10 => ∃ k : Nat, t10 = .int .i64 (k : Int) ∧ j ≤ k ∧ k ≤ s.size ∧ Hid (allBsl (bs s) j k) ∧ (k = j → Hid True)) (fun i => s.size - (intOf i).toNat)
          case atStart => exact ⟨j, rfl, by omega, by omega, allBsl_zero _ _, fun _ => trivial⟩
          case round =>
            obtain ⟨k, rfl, hjk, hks, hrun, -⟩ := hrel
            by_cases hmore : k < s.size ∧ (bs s)[k]? = some 92
            · obtain ⟨hk1, hk2⟩ := hmore
              have hkb := at_b s k hk1
              have hk92 : (((s[k]'hk1).toNat : Int) == 92) = true := beq_t (b := 92) (by have e := Option.some.inj (hkb.symm.trans hk2); rw [e]; rfl)
              have HR := Lib.hid (allBsl_step hrun.out hk2)
              clear hk2 hkb hrun
              go_wp2
              go_round
              case rel => exact ⟨k + 1, by go_num, by omega, by omega, HR, fun _ => trivial⟩
              case measure => simp [intOf]; omega
            · -- the run's end
              have hk0 : j < k := by
                rcases Nat.lt_or_ge j k with h | h
                · exact h
                · exact absurd ⟨by omega, by have e : k = j := by omega
                                             rw [e]; exact HC1.out⟩ hmore
              have hne : (bs s)[k]? ≠ some 92 := fun e => hmore ⟨by have := (List.getElem?_eq_some_iff.1 e).1; rwa [len_b] at this, e⟩
              by_cases hpe : (k - j) % 2 = 0
              · -- an even run
                by_cases hkl : k < s.size
                · have hkb := at_b s k hkl
                  have hk92 : (((s[k]'hkl).toNat : Int) == 92) = false := beq_f (b := 92) (fun e => hne (by rw [hkb]; exact congrArg some (UInt8.toNat_inj.1 e)))
                  clear hkb
                  obtain ⟨m, hm⟩ : ∃ m, j + 2 * m = k := ⟨(k - j) / 2, by omega⟩
                  have HSn : Hid (scan q (acc ++ bsl m) ((bs s).drop k) = scan q out (bs s)) := by
                    show _ = _
                    rw [← hS.out, HQ.out]
                    exact (run_even hm hrun.out).symm
                  have hm1 : j + 2 * m ≤ k := by omega
                  have hm2 : k ≤ j + 2 * m + 1 := by omega
                  have hpar : (((k : Int) - (j : Int)) % 2 == 1) = false := by rw [beq_eq_false_iff_ne]; omega
                  clear hm hrun hpe hne hmore hS
                  go_wp2
                  go_loopg [0, 12] (m + 1) (fun g t0 t12 wx => ∃ t : Nat, t12 = .int .i64 (t : Int) ∧ t ≤ m ∧ m + 1 ≤ t + g ∧ Hid (OwnB B t0 (acc ++ bsl t) wx) ∧ Below B w wx)
                  case atStart => exact ⟨0, rfl, by omega, by omega, by show OwnB _ _ _ _; rw [bsl_zero, List.append_nil]; exact hC.out, hb⟩
                  case round =>
                    obtain ⟨t, rfl, htm, htg, hC3, hb3⟩ := hrel
                    have hBw3 : B ≤ wr.heap.size := Nat.le_trans hB hb3.size
                    clear hC hb
                    by_cases ht : t < m
                    · go_wp2_with (at_builtin; refine app_byte wr rfl (.tmp 48) (.tmp 49) rfl B (acc ++ bsl t) 92 _ rfl rfl hC3.out (by rw [List.length_append, bsl_len]; omega) hBw3 ?_; intro v3 w3 hC4 hg4)
                      go_roundg (gk - 1)
                      case measure => omega
                      case rel => exact ⟨t + 1, by go_num, by omega, by omega, by show OwnB _ _ _ _; rw [bsl_snoc, ← List.append_assoc]; exact hC4, below_own hb3 hg4 hBw3 hC3.out.row⟩
                    · have htm2 : t = m := by omega
                      rw [htm2] at hC3
                      clear htm2
                      go_wp2
                      go_roundg g1
                      case measure => omega
                      case rel => exact ⟨k, acc ++ bsl m, rfl, hks, by omega, hC3, HSn, by rw [List.length_append, bsl_len]; omega, hb3⟩
                · obtain ⟨m, hm⟩ : ∃ m, j + 2 * m = k := ⟨(k - j) / 2, by omega⟩
                  have HSn : Hid (scan q (acc ++ bsl m) ((bs s).drop k) = scan q out (bs s)) := by
                    show _ = _
                    rw [← hS.out, HQ.out]
                    exact (run_even hm hrun.out).symm
                  have hm1 : j + 2 * m ≤ k := by omega
                  have hm2 : k ≤ j + 2 * m + 1 := by omega
                  have hpar : (((k : Int) - (j : Int)) % 2 == 1) = false := by rw [beq_eq_false_iff_ne]; omega
                  clear hm hrun hpe hne hmore hS
                  go_wp2
                  go_loopg [0, 12] (m + 1) (fun g t0 t12 wx => ∃ t : Nat, t12 = .int .i64 (t : Int) ∧ t ≤ m ∧ m + 1 ≤ t + g ∧ Hid (OwnB B t0 (acc ++ bsl t) wx) ∧ Below B w wx)
                  case atStart => exact ⟨0, rfl, by omega, by omega, by show OwnB _ _ _ _; rw [bsl_zero, List.append_nil]; exact hC.out, hb⟩
                  case round =>
                    obtain ⟨t, rfl, htm, htg, hC3, hb3⟩ := hrel
                    have hBw3 : B ≤ wr.heap.size := Nat.le_trans hB hb3.size
                    clear hC hb
                    by_cases ht : t < m
                    · go_wp2_with (at_builtin; refine app_byte wr rfl (.tmp 48) (.tmp 49) rfl B (acc ++ bsl t) 92 _ rfl rfl hC3.out (by rw [List.length_append, bsl_len]; omega) hBw3 ?_; intro v3 w3 hC4 hg4)
                      go_roundg (gk - 1)
                      case measure => omega
                      case rel => exact ⟨t + 1, by go_num, by omega, by omega, by show OwnB _ _ _ _; rw [bsl_snoc, ← List.append_assoc]; exact hC4, below_own hb3 hg4 hBw3 hC3.out.row⟩
                    · have htm2 : t = m := by omega
                      rw [htm2] at hC3
                      clear htm2
                      go_wp2
                      go_roundg g1
                      case measure => omega
                      case rel => exact ⟨k, acc ++ bsl m, rfl, hks, by omega, hC3, HSn, by rw [List.length_append, bsl_len]; omega, hb3⟩
              · -- an odd run
                by_cases hkl : k < s.size
                · have hkb := at_b s k hkl
                  have hk92 : (((s[k]'hkl).toNat : Int) == 92) = false := beq_f (b := 92) (fun e => hne (by rw [hkb]; exact congrArg some (UInt8.toNat_inj.1 e)))
                  by_cases hk34 : (s[k]'hkl).toNat = 34
                  · have hkq : (((s[k]'hkl).toNat : Int) == 34) = true := beq_t (b := 34) hk34
                    have hb34 : (bs s)[k]? = some 34 := by rw [hkb]; exact congrArg some (UInt8.toNat_inj.1 hk34)
                    obtain ⟨m, hm⟩ : ∃ m, j + (2 * m + 1) = k := ⟨(k - j) / 2, by omega⟩
                    have HSn : Hid (scan q (acc ++ bsl m ++ [34]) ((bs s).drop (k + 1)) = scan q out (bs s)) := by
                      show _ = _
                      rw [← hS.out, HQ.out]
                      exact (run_quote hm hrun.out hb34).symm
                    have hm1 : j + 2 * m ≤ k := by omega
                    have hm2 : k ≤ j + 2 * m + 1 := by omega
                    have hpar : (((k : Int) - (j : Int)) % 2 == 1) = true := by rw [beq_iff_eq]; omega
                    clear hm hrun hpe hne hmore hS
                    clear hb34 hk34 hkb
                    go_wp2
                    go_loopg [0, 12] (m + 1) (fun g t0 t12 wx => ∃ t : Nat, t12 = .int .i64 (t : Int) ∧ t ≤ m ∧ m + 1 ≤ t + g ∧ Hid (OwnB B t0 (acc ++ bsl t) wx) ∧ Below B w wx)
                    case atStart => exact ⟨0, rfl, by omega, by omega, by show OwnB _ _ _ _; rw [bsl_zero, List.append_nil]; exact hC.out, hb⟩
                    case round =>
                      obtain ⟨t, rfl, htm, htg, hC3, hb3⟩ := hrel
                      have hBw3 : B ≤ wr.heap.size := Nat.le_trans hB hb3.size
                      clear hC hb
                      by_cases ht : t < m
                      · go_wp2_with (at_builtin; refine app_byte wr rfl (.tmp 48) (.tmp 49) rfl B (acc ++ bsl t) 92 _ rfl rfl hC3.out (by rw [List.length_append, bsl_len]; omega) hBw3 ?_; intro v3 w3 hC4 hg4)
                        go_roundg (gk - 1)
                        case measure => omega
                        case rel => exact ⟨t + 1, by go_num, by omega, by omega, by show OwnB _ _ _ _; rw [bsl_snoc, ← List.append_assoc]; exact hC4, below_own hb3 hg4 hBw3 hC3.out.row⟩
                      · have htm2 : t = m := by omega
                        rw [htm2] at hC3
                        clear htm2
                        go_wp2_with (at_builtin; refine app_byte wr rfl (.tmp 64) (.tmp 65) rfl B (acc ++ bsl m) 34 _ rfl rfl hC3.out (by rw [List.length_append, bsl_len]; omega) hBw3 ?_; intro v3 w3 hC4 hg4)
                        go_roundg g1
                        case measure => omega
                        case rel => exact ⟨k + 1, acc ++ bsl m ++ [34], by go_num, by omega, by omega, hC4, HSn, by rw [List.length_append, List.length_append, bsl_len, List.length_singleton]; omega, below_own hb3 hg4 hBw3 hC3.out.row⟩
                  · have hkq : (((s[k]'hkl).toNat : Int) == 34) = false := beq_f (b := 34) hk34
                    have hb34 : (bs s)[k]? ≠ some 34 := fun e => hk34 (by have e2 := Option.some.inj (hkb.symm.trans e); rw [e2]; rfl)
                    obtain ⟨m, hm⟩ : ∃ m, j + (2 * m + 1) = k := ⟨(k - j) / 2, by omega⟩
                    have HSn : Hid (scan q (acc ++ bsl m ++ [92]) ((bs s).drop k) = scan q out (bs s)) := by
                      show _ = _
                      rw [← hS.out, HQ.out]
                      exact (run_other hm hrun.out hb34 hne).symm
                    have hm1 : j + 2 * m ≤ k := by omega
                    have hm2 : k ≤ j + 2 * m + 1 := by omega
                    have hpar : (((k : Int) - (j : Int)) % 2 == 1) = true := by rw [beq_iff_eq]; omega
                    clear hm hrun hpe hne hmore hS
                    clear hb34 hk34 hkb
                    go_wp2
                    go_loopg [0, 12] (m + 1) (fun g t0 t12 wx => ∃ t : Nat, t12 = .int .i64 (t : Int) ∧ t ≤ m ∧ m + 1 ≤ t + g ∧ Hid (OwnB B t0 (acc ++ bsl t) wx) ∧ Below B w wx)
                    case atStart => exact ⟨0, rfl, by omega, by omega, by show OwnB _ _ _ _; rw [bsl_zero, List.append_nil]; exact hC.out, hb⟩
                    case round =>
                      obtain ⟨t, rfl, htm, htg, hC3, hb3⟩ := hrel
                      have hBw3 : B ≤ wr.heap.size := Nat.le_trans hB hb3.size
                      clear hC hb
                      by_cases ht : t < m
                      · go_wp2_with (at_builtin; refine app_byte wr rfl (.tmp 48) (.tmp 49) rfl B (acc ++ bsl t) 92 _ rfl rfl hC3.out (by rw [List.length_append, bsl_len]; omega) hBw3 ?_; intro v3 w3 hC4 hg4)
                        go_roundg (gk - 1)
                        case measure => omega
                        case rel => exact ⟨t + 1, by go_num, by omega, by omega, by show OwnB _ _ _ _; rw [bsl_snoc, ← List.append_assoc]; exact hC4, below_own hb3 hg4 hBw3 hC3.out.row⟩
                      · have htm2 : t = m := by omega
                        rw [htm2] at hC3
                        clear htm2
                        go_wp2_with (at_builtin; refine app_byte wr rfl (.tmp 69) (.tmp 70) rfl B (acc ++ bsl m) 92 _ rfl rfl hC3.out (by rw [List.length_append, bsl_len]; omega) hBw3 ?_; intro v3 w3 hC4 hg4)
                        go_roundg g1
                        case measure => omega
                        case rel => exact ⟨k, acc ++ bsl m ++ [92], rfl, hks, by omega, hC4, HSn, by rw [List.length_append, List.length_append, bsl_len, List.length_singleton]; omega, below_own hb3 hg4 hBw3 hC3.out.row⟩
                · have hb34 : (bs s)[k]? ≠ some 34 := fun e => hkl (by have := (List.getElem?_eq_some_iff.1 e).1; rwa [len_b] at this)
                  obtain ⟨m, hm⟩ : ∃ m, j + (2 * m + 1) = k := ⟨(k - j) / 2, by omega⟩
                  have HSn : Hid (scan q (acc ++ bsl m ++ [92]) ((bs s).drop k) = scan q out (bs s)) := by
                    show _ = _
                    rw [← hS.out, HQ.out]
                    exact (run_other hm hrun.out hb34 hne).symm
                  have hm1 : j + 2 * m ≤ k := by omega
                  have hm2 : k ≤ j + 2 * m + 1 := by omega
                  have hpar : (((k : Int) - (j : Int)) % 2 == 1) = true := by rw [beq_iff_eq]; omega
                  clear hm hrun hpe hne hmore hS
                  clear hb34
                  go_wp2
                  go_loopg [0, 12] (m + 1) (fun g t0 t12 wx => ∃ t : Nat, t12 = .int .i64 (t : Int) ∧ t ≤ m ∧ m + 1 ≤ t + g ∧ Hid (OwnB B t0 (acc ++ bsl t) wx) ∧ Below B w wx)
                  case atStart => exact ⟨0, rfl, by omega, by omega, by show OwnB _ _ _ _; rw [bsl_zero, List.append_nil]; exact hC.out, hb⟩
                  case round =>
                    obtain ⟨t, rfl, htm, htg, hC3, hb3⟩ := hrel
                    have hBw3 : B ≤ wr.heap.size := Nat.le_trans hB hb3.size
                    clear hC hb
                    by_cases ht : t < m
                    · go_wp2_with (at_builtin; refine app_byte wr rfl (.tmp 48) (.tmp 49) rfl B (acc ++ bsl t) 92 _ rfl rfl hC3.out (by rw [List.length_append, bsl_len]; omega) hBw3 ?_; intro v3 w3 hC4 hg4)
                      go_roundg (gk - 1)
                      case measure => omega
                      case rel => exact ⟨t + 1, by go_num, by omega, by omega, by show OwnB _ _ _ _; rw [bsl_snoc, ← List.append_assoc]; exact hC4, below_own hb3 hg4 hBw3 hC3.out.row⟩
                    · have htm2 : t = m := by omega
                      rw [htm2] at hC3
                      clear htm2
                      go_wp2_with (at_builtin; refine app_byte wr rfl (.tmp 69) (.tmp 70) rfl B (acc ++ bsl m) 92 _ rfl rfl hC3.out (by rw [List.length_append, bsl_len]; omega) hBw3 ?_; intro v3 w3 hC4 hg4)
                      go_roundg g1
                      case measure => omega
                      case rel => exact ⟨k, acc ++ bsl m ++ [92], rfl, hks, by omega, hC4, HSn, by rw [List.length_append, List.length_append, bsl_len, List.length_singleton]; omega, below_own hb3 hg4 hBw3 hC3.out.row⟩
        · have hc1 : ((c.toNat : Int) == 92) = false := beq_f (b := 92) (u8_ne hc92)
          by_cases hcq : c = q
          · have hcf : ((c.toNat : Int) == (q.toNat : Int)) = true := beq_t (congrArg UInt8.toNat hcq)
            rw [hcq] at hc
            have HE : Hid (scan q out (bs s) = (acc, some ((bs s).drop (j + 1)))) := hS.out.symm.trans (scan_at_quote hc)
            clear hc hcq hS hq34 hc92
            go_wp2
            go_ret2
            exact ⟨_, (j : Int), acc, rfl, hC.out, hb, by omega, Or.inr ⟨j, rfl, hlt, HE.out⟩⟩
          · have hcf : ((c.toNat : Int) == (q.toNat : Int)) = false := beq_f (u8_ne hcq)
            have HSn : Hid (scan q (acc ++ [c]) ((bs s).drop (j + 1)) = scan q out (bs s)) := (scan_at_plain hc hcq (fun x _ => by cases hee : escB q c x with | false => rfl | true => exact absurd ((escB_iff q c x).1 hee).2.1 hc92)).symm.trans hS.out
            clear hc hcq hS hq34 hc92
            go_wp2_with (at_builtin; refine app_byte w1 rfl (.tmp 78) (.tmp 80) rfl B acc c _ rfl rfl hC.out (by omega) hBw ?_; intro v3 w3 hC4 hg4)
            go_roundg g1
            case measure => omega
            case rel => exact ⟨j + 1, acc ++ [c], by go_num, by omega, by omega, hC4, HSn, by rw [List.length_append, List.length_singleton]; omega, below_own hb hg4 hBw hC.out.row⟩
      · have hq1 : ((q.toNat : Int) == 34) = false := beq_f (b := 34) (u8_ne hq34)
        by_cases hcq : c = q
        · have hcf : ((c.toNat : Int) == (q.toNat : Int)) = true := beq_t (congrArg UInt8.toNat hcq)
          rw [hcq] at hc
          have HE : Hid (scan q out (bs s) = (acc, some ((bs s).drop (j + 1)))) := hS.out.symm.trans (scan_at_quote hc)
          clear hc hcq hS hq34
          go_wp2
          go_ret2
          exact ⟨_, (j : Int), acc, rfl, hC.out, hb, by omega, Or.inr ⟨j, rfl, hlt, HE.out⟩⟩
        · have hcf : ((c.toNat : Int) == (q.toNat : Int)) = false := beq_f (u8_ne hcq)
          have HSn : Hid (scan q (acc ++ [c]) ((bs s).drop (j + 1)) = scan q out (bs s)) := (scan_at_plain hc hcq (fun x _ => by cases hee : escB q c x with | false => rfl | true => exact absurd ((escB_iff q c x).1 hee).1 hq34)).symm.trans hS.out
          clear hc hcq hS hq34
          go_wp2_with (at_builtin; refine app_byte w1 rfl (.tmp 78) (.tmp 80) rfl B acc c _ rfl rfl hC.out (by omega) hBw ?_; intro v3 w3 hC4 hg4)
          go_roundg g1
          case measure => omega
          case rel => exact ⟨j + 1, acc ++ [c], by go_num, by omega, by omega, hC4, HSn, by rw [List.length_append, List.length_singleton]; omega, below_own hb hg4 hBw hC.out.row⟩
    · -- the piece is through
      have HE : Hid (scan q out (bs s) = (acc, none)) := hS.out.symm.trans (scan_at_end (by rw [len_b]; omega))
      clear hS
      go_wp2
      go_ret2
      exact ⟨_, -1, acc, rfl, hC.out, hb, by omega, Or.inl ⟨rfl, HE.out⟩⟩
end Go.Proofs.Qxb6600544a
