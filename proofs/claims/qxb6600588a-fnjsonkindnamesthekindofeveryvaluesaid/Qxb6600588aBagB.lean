/-
  The walk of zzValue: a container (an array, white space).
-/
import Derived.Test.Qxb6600588aNumB
namespace Go.Proofs.Qxb6600588a
open Go.RowKit

set_option maxRecDepth 100000 in
set_option maxHeartbeats 4000000 in
theorem value_arrws (p : Nat) (out : List UInt8) (st en : List Nat) (kd : List UInt8) (os ot on : Option Addr) (cs ct cn : Nat) (sh : List UInt8) (L : List ByteArray) (nums : List Int) (pos si ni wi : Nat) (w : World) (h : Doc p out st en kd pos si ni wi w) (hG : Given p w os ot on sh L nums)
    (hR : Room sh.length out st en kd pos si ni wi) (hpos : pos < sh.length) (hb : (sh[pos]'hpos).toNat % 8 = 6)
    (hsp : (bits BinOp.and IntKind.u8 (((sh[pos]'hpos).toNat : Int) / 32) 1 == 1) = true)
    (ih : ∀ O S E K p2 a b d w2, Given p w2 os ot on sh L nums → Room sh.length O S E K p2 a b d → pos < p2 → p2 < sh.length → Doc p O S E K p2 a b d w2 →
      Calls Try.prog 9 #[.pointer (some ⟨p, 0, none⟩), .slice os sh.length cs, .slice ot L.length ct, .slice on nums.length cn] w2 fun e w' => ValueEnd p sh.length O S E K p2 a b d w2 e w') :
    Calls Try.prog 9 #[.pointer (some ⟨p, 0, none⟩), .slice os sh.length cs, .slice ot L.length ct, .slice on nums.length cn] w fun e w' => ValueEnd p sh.length out st en kd pos si ni wi w e w' := by
  obtain ⟨r1, r2, r3, r4, r5, r6, r7, r8⟩ := hR
  have hsh := hG.2.2.2.1
  obtain ⟨bb, off, rfl, hbp, hc⟩ := hG.byte hpos
  obtain ⟨b, hbb⟩ : ∃ b, (sh[pos]'hpos).toNat = b := ⟨_, rfl⟩
  have hb8 : b < 256 := by rw [← hbb]; exact (sh[pos]'hpos).toNat_lt
  rw [hbb] at hc hb hsp
  obtain ⟨o0, k0, o1, k1, o2, k2, o3, k3, hD⟩ := h.opened
  obtain ⟨c4, f4⟩ := hD.c4
  have hlt := hD.lt
  have D1 : Hid (Doc p out st en kd (pos + 1) si ni wi (w.setCell ⟨p, 4, none⟩ (.int .i64 ((pos : Int) + 1)))) := h.pos1 (by omega)
  have B1 : Hid (Below p w (w.setCell ⟨p, 4, none⟩ (.int .i64 ((pos : Int) + 1)))) := below_set (Below.refl p w)
  have HG := Lib.hid hG
  have HIH := Lib.hid ih
  clear hD h hG hbb ih
  have hob : ((b : Int) % 8 == 5) = false := by
    rw [beq_eq_false_iff_ne]; omega
  go_enter Try.func9, Try.ntmps9
  go_wp2_with fail
  generalize w.setCell ⟨p, 4, none⟩ (.int .i64 ((pos : Int) + 1)) = w1 at D1 B1 ⊢
  try simp only [hsp, hob]
  clear hsp hob c4 f4 hc
  refine (open_any p out st en kd 1 (pos + 1) si ni wi w1 D1.out (by omega) (by omega) (by omega) (by omega)).mono ?_
  rintro e w2 ⟨rfl, hD2, hB2⟩
  have BB : Below p w w2 := B1.out.trans hB2
  clear D1 B1 hB2
  obtain ⟨q0, l0, q1, l1, q2, l2, q3, l3, hD3⟩ := hD2.opened
  obtain ⟨c0, f0⟩ := hD3.c0
  have HD := Lib.hid hD3
  have hlt3 := hD3.lt
  clear hD3 hD2
  go_wp2_with (first
    | (at_builtin; refine app_bytes w2 rfl (.tmp 67) (.tmp 69) rfl (p + 1) out [91] _ rfl (by simp) (.slice q0 out.length l0) rfl 1 rfl rfl HD.out.r0 (by simp; omega) (by omega) ?_; intro v' w3 h3 hmv; obtain ⟨o5, k5, rfl⟩ := RowB.shape h3; obtain ⟨cc0, ff0⟩ := HD.out.c0.grown HD.out.r0 hmv.1)
    | fail)
  have hlen : (out ++ [(91 : UInt8)]).length = out.length + 1 := by simp
  rw [hlen] at h3 hmv
  have HB0 : Hid (Bag p out 91 1 st en kd si ni wi w 0 (pos + 1) (w3.setCell ⟨p, 0, none⟩ (Value.slice o5 (out.length + 1) k5))) := bag_start (w1 := w) ⟨HD.out.put0 h3 hmv, BB.trans (below_set (below_moves HD.out.r0 hmv hlt3))⟩ (Below.refl p w)
  clear HD h3 hmv c0 f0 BB cc0 ff0 hlen
  generalize w3.setCell ⟨p, 0, none⟩ (Value.slice o5 (out.length + 1) k5) = w4 at HB0 ⊢
  obtain ⟨cnt, hcnt, hcnt0, hcnt1⟩ : ∃ z : Int, (b : Int) / 8 % 4 = z ∧ 0 ≤ z ∧ z ≤ 3 := ⟨_, rfl, by omega, by omega⟩
  try simp only [hcnt]
  clear hcnt
  go_loopw [19, 20] (fun t19 t20 wr => ∃ j wn N pos' : Nat, t20 = .int .i64 (j : Int) ∧ t19 = .int .i64 (wn : Int) ∧ j ≤ 4 ∧ wn ≤ j ∧ Hid (Bag p out 91 1 st en kd si ni wi w N pos' wr) ∧ pos + 1 ≤ pos' ∧ pos' ≤ sh.length ∧ N + 1000000 * (sh.length - pos') ≤ 1000000 * (sh.length - (pos + 1))) (fun _ i _ => 5 - (intOf i).toNat)
  case atStart => exact ⟨0, 0, 0, pos + 1, rfl, rfl, by omega, by omega, HB0, by omega, by omega, by omega⟩
  case round =>
    clear HB0
    obtain ⟨j, wn, N, pos', rfl, rfl, hj4, hwn, HB, hp1, hp2, hN⟩ := hrel
    obtain ⟨cp, fp⟩ := HB.out.pos
    by_cases hjc : (j : Int) < cnt
    · by_cases hp : pos' < sh.length
      · by_cases hj0 : 0 < j
        · obtain ⟨O0, o0a, k0a, hO0, ⟨c0, f0⟩, hrow, hnext⟩ := HB.out.push 44
          have HROW := Lib.hid hrow
          have HNX := Lib.hid hnext
          have hltw := HB.out.lt
          clear hrow hnext HB
          go_wp2_with (first
            | (at_builtin; refine app_bytes wr rfl (.tmp 97) (.tmp 98) rfl (p + 1) O0 [44] _ rfl (by simp) (.slice o0a O0.length k0a) rfl 1 rfl rfl HROW.out (by rw [List.length_singleton]; omega) (by omega) ?_; intro v' wp0 hr hmv; obtain ⟨o0b, k0b, rfl⟩ := RowB.shape hr; obtain ⟨⟨cc0, ff0⟩, hbag⟩ := HNX.out _ _ hr hmv)
            | fail)
          have hl : (O0 ++ [(44 : UInt8)]).length = O0.length + 1 := by simp
          rw [hl] at hbag
          have HB := Lib.hid hbag
          generalize wp0.setCell ⟨p, 0, none⟩ (Value.slice o0b (O0.length + 1) k0b) = wq0 at HB ⊢
          clear hbag hr hmv cc0 ff0 hl HROW HNX hltw c0 f0
          refine (bag_ws HB.out (by omega) r8).mono ?_
          rintro e wq1 ⟨rfl, hbag⟩
          clear HB
          have HB := Lib.hid hbag
          clear hbag
          go_wp2_with fail
          have hgiv := Lib.hid (HG.out.on HB.out.below)
          refine Calls.mono (bag_val (L := sh.length) (f := fun w2 Q => Calls Try.prog 9 #[.pointer (some ⟨p, 0, none⟩), .slice (some ⟨bb, off, none⟩) sh.length cs, .slice ot L.length ct, .slice on nums.length cn] w2 Q) HB.out (by omega) hp r3 r4 r5 r6 r7 r8 (fun h k => Calls.mono h k) (fun O S E K a b d hroom hdoc => HIH.out O S E K _ a b d _ hgiv.out hroom (by omega) hp hdoc)) ?_
          rintro e wq2 ⟨rfl, N2, pos2, g1, g2, g3, hbag⟩
          clear HB hgiv
          have HB := Lib.hid hbag
          clear hbag
          go_wp2_with fail
          refine (bag_ws HB.out (by omega) r8).mono ?_
          rintro e wq3 ⟨rfl, hbag⟩
          clear HB
          have HB := Lib.hid hbag
          clear hbag
          go_wp2_with fail
          go_roundw
          case rel => exact ⟨j + 1, wn + 1, (N2 + 1), pos2, by go_num, by go_num, by omega, by omega, HB, by omega, by omega, by omega⟩
          case measure => simp [intOf]; omega
        · go_wp2_with fail
          refine (bag_ws HB.out (by omega) r8).mono ?_
          rintro e wq0 ⟨rfl, hbag⟩
          clear HB
          have HB := Lib.hid hbag
          clear hbag
          go_wp2_with fail
          have hgiv := Lib.hid (HG.out.on HB.out.below)
          refine Calls.mono (bag_val (L := sh.length) (f := fun w2 Q => Calls Try.prog 9 #[.pointer (some ⟨p, 0, none⟩), .slice (some ⟨bb, off, none⟩) sh.length cs, .slice ot L.length ct, .slice on nums.length cn] w2 Q) HB.out (by omega) hp r3 r4 r5 r6 r7 r8 (fun h k => Calls.mono h k) (fun O S E K a b d hroom hdoc => HIH.out O S E K _ a b d _ hgiv.out hroom (by omega) hp hdoc)) ?_
          rintro e wq1 ⟨rfl, N1, pos1, g1, g2, g3, hbag⟩
          clear HB hgiv
          have HB := Lib.hid hbag
          clear hbag
          go_wp2_with fail
          refine (bag_ws HB.out (by omega) r8).mono ?_
          rintro e wq2 ⟨rfl, hbag⟩
          clear HB
          have HB := Lib.hid hbag
          clear hbag
          go_wp2_with fail
          go_roundw
          case rel => exact ⟨j + 1, wn + 1, (N1 + 1), pos1, by go_num, by go_num, by omega, by omega, HB, by omega, by omega, by omega⟩
          case measure => simp [intOf]; omega
      · by_cases hw0 : wn = 0
        · subst hw0
          go_wp2_with fail
          refine (bag_ws HB.out (by omega) r8).mono ?_
          rintro e wq0 ⟨rfl, hbag⟩
          clear HB
          have HB := Lib.hid hbag
          clear hbag
          obtain ⟨O1, o1a, k1a, hO1, ⟨c0, f0⟩, hrow, hnext⟩ := HB.out.push 93
          have HROW := Lib.hid hrow
          have HNX := Lib.hid hnext
          have hltw := HB.out.lt
          clear hrow hnext HB
          go_wp2_with (first
            | (at_builtin; refine app_bytes wq0 rfl (.tmp 146) (.tmp 148) rfl (p + 1) O1 [93] _ rfl (by simp) (.slice o1a O1.length k1a) rfl 1 rfl rfl HROW.out (by rw [List.length_singleton]; omega) (by omega) ?_; intro v' wp1 hr hmv; obtain ⟨o1b, k1b, rfl⟩ := RowB.shape hr; obtain ⟨⟨cc0, ff0⟩, hbag⟩ := HNX.out _ _ hr hmv)
            | fail)
          have hl : (O1 ++ [(93 : UInt8)]).length = O1.length + 1 := by simp
          rw [hl] at hbag
          have HB := Lib.hid hbag
          generalize wp1.setCell ⟨p, 0, none⟩ (Value.slice o1b (O1.length + 1) k1b) = wq1 at HB ⊢
          clear hbag hr hmv cc0 ff0 hl HROW HNX hltw c0 f0
          obtain ⟨oA, kA, n, m, gg, capg, u, ⟨ca, fa⟩, ⟨cb, fb⟩, ⟨cg, fg⟩, hpg, hm, hn, hval⟩ := HB.out.shut (L := sh.length) (pos := pos) r4 (by unfold Kind; simp) (by omega) (by omega) (by omega)
          have HVAL := Lib.hid hval
          clear hval HB
          go_region
          all_goals
            go_wp2
            go_end0
            exact HVAL.out
        · obtain ⟨O0, o0a, k0a, hO0, ⟨c0, f0⟩, hrow, hnext⟩ := HB.out.push 93
          have HROW := Lib.hid hrow
          have HNX := Lib.hid hnext
          have hltw := HB.out.lt
          clear hrow hnext HB
          go_wp2_with (first
            | (at_builtin; refine app_bytes wr rfl (.tmp 146) (.tmp 148) rfl (p + 1) O0 [93] _ rfl (by simp) (.slice o0a O0.length k0a) rfl 1 rfl rfl HROW.out (by rw [List.length_singleton]; omega) (by omega) ?_; intro v' wp0 hr hmv; obtain ⟨o0b, k0b, rfl⟩ := RowB.shape hr; obtain ⟨⟨cc0, ff0⟩, hbag⟩ := HNX.out _ _ hr hmv)
            | fail)
          have hl : (O0 ++ [(93 : UInt8)]).length = O0.length + 1 := by simp
          rw [hl] at hbag
          have HB := Lib.hid hbag
          generalize wp0.setCell ⟨p, 0, none⟩ (Value.slice o0b (O0.length + 1) k0b) = wq0 at HB ⊢
          clear hbag hr hmv cc0 ff0 hl HROW HNX hltw c0 f0
          obtain ⟨oA, kA, n, m, gg, capg, u, ⟨ca, fa⟩, ⟨cb, fb⟩, ⟨cg, fg⟩, hpg, hm, hn, hval⟩ := HB.out.shut (L := sh.length) (pos := pos) r4 (by unfold Kind; simp) (by omega) (by omega) (by omega)
          have HVAL := Lib.hid hval
          clear hval HB
          go_region
          all_goals
            go_wp2
            go_end0
            exact HVAL.out
    · by_cases hw0 : wn = 0
      · subst hw0
        go_wp2_with fail
        refine (bag_ws HB.out (by omega) r8).mono ?_
        rintro e wq0 ⟨rfl, hbag⟩
        clear HB
        have HB := Lib.hid hbag
        clear hbag
        obtain ⟨O1, o1a, k1a, hO1, ⟨c0, f0⟩, hrow, hnext⟩ := HB.out.push 93
        have HROW := Lib.hid hrow
        have HNX := Lib.hid hnext
        have hltw := HB.out.lt
        clear hrow hnext HB
        go_wp2_with (first
          | (at_builtin; refine app_bytes wq0 rfl (.tmp 146) (.tmp 148) rfl (p + 1) O1 [93] _ rfl (by simp) (.slice o1a O1.length k1a) rfl 1 rfl rfl HROW.out (by rw [List.length_singleton]; omega) (by omega) ?_; intro v' wp1 hr hmv; obtain ⟨o1b, k1b, rfl⟩ := RowB.shape hr; obtain ⟨⟨cc0, ff0⟩, hbag⟩ := HNX.out _ _ hr hmv)
          | fail)
        have hl : (O1 ++ [(93 : UInt8)]).length = O1.length + 1 := by simp
        rw [hl] at hbag
        have HB := Lib.hid hbag
        generalize wp1.setCell ⟨p, 0, none⟩ (Value.slice o1b (O1.length + 1) k1b) = wq1 at HB ⊢
        clear hbag hr hmv cc0 ff0 hl HROW HNX hltw c0 f0
        obtain ⟨oA, kA, n, m, gg, capg, u, ⟨ca, fa⟩, ⟨cb, fb⟩, ⟨cg, fg⟩, hpg, hm, hn, hval⟩ := HB.out.shut (L := sh.length) (pos := pos) r4 (by unfold Kind; simp) (by omega) (by omega) (by omega)
        have HVAL := Lib.hid hval
        clear hval HB
        go_region
        all_goals
          go_wp2
          go_end0
          exact HVAL.out
      · obtain ⟨O0, o0a, k0a, hO0, ⟨c0, f0⟩, hrow, hnext⟩ := HB.out.push 93
        have HROW := Lib.hid hrow
        have HNX := Lib.hid hnext
        have hltw := HB.out.lt
        clear hrow hnext HB
        go_wp2_with (first
          | (at_builtin; refine app_bytes wr rfl (.tmp 146) (.tmp 148) rfl (p + 1) O0 [93] _ rfl (by simp) (.slice o0a O0.length k0a) rfl 1 rfl rfl HROW.out (by rw [List.length_singleton]; omega) (by omega) ?_; intro v' wp0 hr hmv; obtain ⟨o0b, k0b, rfl⟩ := RowB.shape hr; obtain ⟨⟨cc0, ff0⟩, hbag⟩ := HNX.out _ _ hr hmv)
          | fail)
        have hl : (O0 ++ [(93 : UInt8)]).length = O0.length + 1 := by simp
        rw [hl] at hbag
        have HB := Lib.hid hbag
        generalize wp0.setCell ⟨p, 0, none⟩ (Value.slice o0b (O0.length + 1) k0b) = wq0 at HB ⊢
        clear hbag hr hmv cc0 ff0 hl HROW HNX hltw c0 f0
        obtain ⟨oA, kA, n, m, gg, capg, u, ⟨ca, fa⟩, ⟨cb, fb⟩, ⟨cg, fg⟩, hpg, hm, hn, hval⟩ := HB.out.shut (L := sh.length) (pos := pos) r4 (by unfold Kind; simp) (by omega) (by omega) (by omega)
        have HVAL := Lib.hid hval
        clear hval HB
        go_region
        all_goals
          go_wp2
          go_end0
          exact HVAL.out

end Go.Proofs.Qxb6600588a
