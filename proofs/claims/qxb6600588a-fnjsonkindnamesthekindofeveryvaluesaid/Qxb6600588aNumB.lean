/-
  The walk of zzValue: a number.
-/
import Derived.Test.Qxb6600588aNum
namespace Go.Proofs.Qxb6600588a
open Go.RowKit

set_option maxRecDepth 100000 in
set_option maxHeartbeats 4000000 in
theorem value_int (p : Nat) (out : List UInt8) (st en : List Nat) (kd : List UInt8) (os ot on : Option Addr) (cs ct cn : Nat) (sh : List UInt8) (L : List ByteArray) (nums : List Int) (pos si ni wi : Nat) (w : World) (h : Doc p out st en kd pos si ni wi w) (hG : Given p w os ot on sh L nums)
    (hR : Room sh.length out st en kd pos si ni wi) (hpos : pos < sh.length) (hb : (sh[pos]'hpos).toNat % 8 = 1) :
    Calls Try.prog 9 #[.pointer (some ⟨p, 0, none⟩), .slice os sh.length cs, .slice ot L.length ct, .slice on nums.length cn] w fun e w' => ValueEnd p sh.length out st en kd pos si ni wi w e w' := by
  obtain ⟨r1, r2, r3, r4, r5, r6, r7, r8⟩ := hR
  have hsh := hG.2.2.2.1
  obtain ⟨bb, off, rfl, hbp, hc⟩ := hG.byte hpos
  obtain ⟨b, hbb⟩ : ∃ b, (sh[pos]'hpos).toNat = b := ⟨_, rfl⟩
  have hb8 : b < 256 := by rw [← hbb]; exact (sh[pos]'hpos).toNat_lt
  rw [hbb] at hc hb
  obtain ⟨o0, k0, o1, k1, o2, k2, o3, k3, hD⟩ := h.opened
  obtain ⟨c4, f4⟩ := hD.c4
  obtain ⟨c6, f6⟩ := hD.c6
  have hlt := hD.lt
  have D1 : Hid (Doc p out st en kd (pos + 1) si (ni + 1) wi ((w.setCell ⟨p, 4, none⟩ (.int .i64 ((pos : Int) + 1))).setCell ⟨p, 6, none⟩ (.int .i64 ((ni : Int) + 1)))) := (h.pos1 (by omega)).ni1 (by omega)
  have B1 : Hid (Below p w ((w.setCell ⟨p, 4, none⟩ (.int .i64 ((pos : Int) + 1))).setCell ⟨p, 6, none⟩ (.int .i64 ((ni : Int) + 1)))) := below_set (below_set (Below.refl p w))
  have HG := Lib.hid hG
  clear hD h hG hbb
  by_cases hni : ni < nums.length
  · obtain ⟨b9, off9, rfl, hbp9, hc9⟩ := HG.out.2.2.1.at (k := ni) (by simpa using hni)
    rw [List.getElem_map] at hc9
    obtain ⟨n, hnn⟩ : ∃ n, nums[ni]'hni = n := ⟨_, rfl⟩
    obtain ⟨hn1, hn2⟩ := HG.out.2.2.2.2.2.2.2 _ (List.getElem_mem hni)
    rw [hnn] at hc9 hn1 hn2
    clear hnn
    go_enter Try.func9, Try.ntmps9
    go_wp2_with fail
    generalize (w.setCell ⟨p, 4, none⟩ (.int .i64 ((pos : Int) + 1))).setCell ⟨p, 6, none⟩ (.int .i64 ((ni : Int) + 1)) = w1 at D1 B1 ⊢
    refine (open_any p out st en kd 5 (pos + 1) si (ni + 1) wi w1 D1.out (by omega) (by omega) (by omega) (by omega)).mono ?_
    rintro e w2 ⟨rfl, hD2, hB2⟩
    have BB : Below p w w2 := B1.out.trans hB2
    clear D1 B1 hB2
    obtain ⟨q0, l0, q1, l1, q2, l2, q3, l3, hD3⟩ := hD2.opened
    obtain ⟨c0, f0⟩ := hD3.c0
    have HD := Lib.hid hD3
    have hlt3 := hD3.lt
    clear hD3 hD2 c4 f4 c6 f6
    go_wp2_with fail
    refine (itoa_any (p + 1) out n (.slice q0 out.length l0) w2 HD.out.r0 (by omega) (by omega) hn1 hn2).mono ?_
    rintro e w4 ⟨v', q, c, rfl, hnb, h4, hq2, hmv⟩
    have HNB := Lib.hid hnb
    clear hnb
    obtain ⟨o5, k5, rfl⟩ := RowB.shape h4
    obtain ⟨cc0, ff0⟩ := HD.out.c0.grown HD.out.r0 hmv.1
    have hlen : (out ++ c :: q).length = out.length + (q.length + 1) := by simp
    rw [hlen] at h4 hmv ⊢
    have D4' := HD.out.put0 h4 hmv
    have B4 : Below p w (w4.setCell ⟨p, 0, none⟩ (Value.slice o5 (out.length + (q.length + 1)) k5)) := BB.trans (below_set (below_moves HD.out.r0 hmv hlt3))
    clear HD h4 hmv c0 f0 BB
    go_wp2_with fail
    generalize w4.setCell ⟨p, 0, none⟩ (Value.slice o5 (out.length + (q.length + 1)) k5) = w5 at D4' B4 ⊢
    obtain ⟨oA, kA, g, capg, u, ⟨ca, fa⟩, ⟨cb, fb⟩, ⟨cg, fg⟩, hpg, hend⟩ := D4'.endAt (k := st.length) (by simp; omega)
    have hen : (en ++ [out.length]).length = st.length + 1 := by simp; omega
    rw [hlen] at ca
    rw [hen] at cb
    have HE := Lib.hid hend
    clear hend D4' hen cc0 ff0
    go_region
    all_goals
      go_wp2
      go_end0
      obtain ⟨D5, B5⟩ := HE.out (out.length + (q.length + 1)) (↑out.length + (↑q.length + 1)) (by omega)
      rw [set_last _ _ _ r4.symm] at D5
      exact value_one (w0 := w) (x := q) ⟨D5.drew, (B4.trans B5).drew⟩ (Below.refl p w) rfl (by unfold Kind; simp; exact HNB.out) (by omega) (by omega) hpos (by omega)
  · obtain ⟨n, hnn, hn1, hn2⟩ : ∃ n : Int, n = 0 ∧ -9223372036854775808 ≤ n ∧ n ≤ 9223372036854775807 := ⟨0, rfl, by omega, by omega⟩
    go_enter Try.func9, Try.ntmps9
    go_wp2_with fail
    subst hnn
    generalize (w.setCell ⟨p, 4, none⟩ (.int .i64 ((pos : Int) + 1))).setCell ⟨p, 6, none⟩ (.int .i64 ((ni : Int) + 1)) = w1 at D1 B1 ⊢
    refine (open_any p out st en kd 5 (pos + 1) si (ni + 1) wi w1 D1.out (by omega) (by omega) (by omega) (by omega)).mono ?_
    rintro e w2 ⟨rfl, hD2, hB2⟩
    have BB : Below p w w2 := B1.out.trans hB2
    clear D1 B1 hB2
    obtain ⟨q0, l0, q1, l1, q2, l2, q3, l3, hD3⟩ := hD2.opened
    obtain ⟨c0, f0⟩ := hD3.c0
    have HD := Lib.hid hD3
    have hlt3 := hD3.lt
    clear hD3 hD2 c4 f4 c6 f6
    go_wp2_with fail
    refine (itoa_any (p + 1) out 0 (.slice q0 out.length l0) w2 HD.out.r0 (by omega) (by omega) hn1 hn2).mono ?_
    rintro e w4 ⟨v', q, c, rfl, hnb, h4, hq2, hmv⟩
    have HNB := Lib.hid hnb
    clear hnb
    obtain ⟨o5, k5, rfl⟩ := RowB.shape h4
    obtain ⟨cc0, ff0⟩ := HD.out.c0.grown HD.out.r0 hmv.1
    have hlen : (out ++ c :: q).length = out.length + (q.length + 1) := by simp
    rw [hlen] at h4 hmv ⊢
    have D4' := HD.out.put0 h4 hmv
    have B4 : Below p w (w4.setCell ⟨p, 0, none⟩ (Value.slice o5 (out.length + (q.length + 1)) k5)) := BB.trans (below_set (below_moves HD.out.r0 hmv hlt3))
    clear HD h4 hmv c0 f0 BB
    go_wp2_with fail
    generalize w4.setCell ⟨p, 0, none⟩ (Value.slice o5 (out.length + (q.length + 1)) k5) = w5 at D4' B4 ⊢
    obtain ⟨oA, kA, g, capg, u, ⟨ca, fa⟩, ⟨cb, fb⟩, ⟨cg, fg⟩, hpg, hend⟩ := D4'.endAt (k := st.length) (by simp; omega)
    have hen : (en ++ [out.length]).length = st.length + 1 := by simp; omega
    rw [hlen] at ca
    rw [hen] at cb
    have HE := Lib.hid hend
    clear hend D4' hen cc0 ff0
    go_region
    all_goals
      go_wp2
      go_end0
      obtain ⟨D5, B5⟩ := HE.out (out.length + (q.length + 1)) (↑out.length + (↑q.length + 1)) (by omega)
      rw [set_last _ _ _ r4.symm] at D5
      exact value_one (w0 := w) (x := q) ⟨D5.drew, (B4.trans B5).drew⟩ (Below.refl p w) rfl (by unfold Kind; simp; exact HNB.out) (by omega) (by omega) hpos (by omega)

set_option maxRecDepth 100000 in
set_option maxHeartbeats 4000000 in
theorem value_frac (p : Nat) (out : List UInt8) (st en : List Nat) (kd : List UInt8) (os ot on : Option Addr) (cs ct cn : Nat) (sh : List UInt8) (L : List ByteArray) (nums : List Int) (pos si ni wi : Nat) (w : World) (h : Doc p out st en kd pos si ni wi w) (hG : Given p w os ot on sh L nums)
    (hR : Room sh.length out st en kd pos si ni wi) (hpos : pos < sh.length) (hb : (sh[pos]'hpos).toNat % 8 = 7) :
    Calls Try.prog 9 #[.pointer (some ⟨p, 0, none⟩), .slice os sh.length cs, .slice ot L.length ct, .slice on nums.length cn] w fun e w' => ValueEnd p sh.length out st en kd pos si ni wi w e w' := by
  obtain ⟨r1, r2, r3, r4, r5, r6, r7, r8⟩ := hR
  have hsh := hG.2.2.2.1
  obtain ⟨bb, off, rfl, hbp, hc⟩ := hG.byte hpos
  obtain ⟨b, hbb⟩ : ∃ b, (sh[pos]'hpos).toNat = b := ⟨_, rfl⟩
  have hb8 : b < 256 := by rw [← hbb]; exact (sh[pos]'hpos).toNat_lt
  rw [hbb] at hc hb
  obtain ⟨o0, k0, o1, k1, o2, k2, o3, k3, hD⟩ := h.opened
  obtain ⟨c4, f4⟩ := hD.c4
  obtain ⟨c6, f6⟩ := hD.c6
  have hlt := hD.lt
  have D1 : Hid (Doc p out st en kd (pos + 1) si (ni + 1) wi ((w.setCell ⟨p, 4, none⟩ (.int .i64 ((pos : Int) + 1))).setCell ⟨p, 6, none⟩ (.int .i64 ((ni : Int) + 1)))) := (h.pos1 (by omega)).ni1 (by omega)
  have B1 : Hid (Below p w ((w.setCell ⟨p, 4, none⟩ (.int .i64 ((pos : Int) + 1))).setCell ⟨p, 6, none⟩ (.int .i64 ((ni : Int) + 1)))) := below_set (below_set (Below.refl p w))
  have HG := Lib.hid hG
  clear hD h hG hbb
  by_cases hni : ni < nums.length
  · obtain ⟨b9, off9, rfl, hbp9, hc9⟩ := HG.out.2.2.1.at (k := ni) (by simpa using hni)
    rw [List.getElem_map] at hc9
    obtain ⟨n, hnn⟩ : ∃ n, nums[ni]'hni = n := ⟨_, rfl⟩
    obtain ⟨hn1, hn2⟩ := HG.out.2.2.2.2.2.2.2 _ (List.getElem_mem hni)
    rw [hnn] at hc9 hn1 hn2
    clear hnn
    go_enter Try.func9, Try.ntmps9
    go_wp2_with fail
    generalize (w.setCell ⟨p, 4, none⟩ (.int .i64 ((pos : Int) + 1))).setCell ⟨p, 6, none⟩ (.int .i64 ((ni : Int) + 1)) = w1 at D1 B1 ⊢
    refine (open_any p out st en kd 5 (pos + 1) si (ni + 1) wi w1 D1.out (by omega) (by omega) (by omega) (by omega)).mono ?_
    rintro e w2 ⟨rfl, hD2, hB2⟩
    have BB : Below p w w2 := B1.out.trans hB2
    clear D1 B1 hB2
    obtain ⟨q0, l0, q1, l1, q2, l2, q3, l3, hD3⟩ := hD2.opened
    obtain ⟨c0, f0⟩ := hD3.c0
    have HD := Lib.hid hD3
    have hlt3 := hD3.lt
    clear hD3 hD2 c4 f4 c6 f6
    go_wp2_with fail
    refine (itoa_any (p + 1) out n (.slice q0 out.length l0) w2 HD.out.r0 (by omega) (by omega) hn1 hn2).mono ?_
    rintro e w4 ⟨v', q, c, rfl, hnb, h4, hq2, hmv⟩
    have HNB := Lib.hid hnb
    clear hnb
    obtain ⟨o5, k5, rfl⟩ := RowB.shape h4
    obtain ⟨cc0, ff0⟩ := HD.out.c0.grown HD.out.r0 hmv.1
    have hlen : (out ++ c :: q).length = out.length + (q.length + 1) := by simp
    rw [hlen] at h4 hmv ⊢
    have D4' := HD.out.put0 h4 hmv
    have B4 : Below p w (w4.setCell ⟨p, 0, none⟩ (Value.slice o5 (out.length + (q.length + 1)) k5)) := BB.trans (below_set (below_moves HD.out.r0 hmv hlt3))
    clear HD h4 hmv c0 f0 BB
    go_upto_region 52 with fail
    generalize w4.setCell ⟨p, 0, none⟩ (Value.slice o5 (out.length + (q.length + 1)) k5) = w5 at D4' B4 ⊢
    have D4'' := D4'
    obtain ⟨s0, t0, s1, t1, s2, t2, s3, t3, hD5⟩ := D4''.opened
    rw [hlen] at hD5
    obtain ⟨d0, g0⟩ := hD5.c0
    have HD5 := Lib.hid hD5
    have hlt5 := hD5.lt
    clear hD5 D4'' D4' cc0 ff0
    go_wp2_with (first
      | (at_builtin; refine app_text w5 rfl (.tmp 212) (.const (Value.string ⟨#[46, 50, 53, 69, 43, 55]⟩)) rfl (p + 1) (out ++ c :: q) ⟨#[46, 50, 53, 69, 43, 55]⟩ (by decide) (.slice s0 (out.length + (q.length + 1)) t0) rfl rfl HD5.out.r0 (by rw [hlen]; have : (⟨#[46, 50, 53, 69, 43, 55]⟩ : ByteArray).size = 6 := rfl; omega) (by omega) ?_; intro v7 w7 h7 hmv7; obtain ⟨o7, k7, rfl⟩ := RowB.shape h7; obtain ⟨cc7, ff7⟩ := HD5.out.c0.grown HD5.out.r0 hmv7.1)
      | fail)
    have hlen7 : ((out ++ c :: q) ++ (⟨#[46, 50, 53, 69, 43, 55]⟩ : ByteArray).data.toList).length = out.length + (q.length + 1) + 6 := by rw [List.length_append, hlen]; rfl
    rw [hlen7] at h7 hmv7
    have D7 := HD5.out.put0 h7 hmv7
    have B7 : Below p w (w7.setCell ⟨p, 0, none⟩ (Value.slice o7 (out.length + (q.length + 1) + 6) k7)) := B4.trans (below_set (below_moves HD5.out.r0 hmv7 hlt5))
    clear HD5 h7 hmv7 d0 g0 B4 cc7 ff7
    generalize w7.setCell ⟨p, 0, none⟩ (Value.slice o7 (out.length + (q.length + 1) + 6) k7) = w8 at D7 B7 ⊢
    obtain ⟨oA, kA, g, capg, u, ⟨ca, fa⟩, ⟨cb, fb⟩, ⟨cg, fg⟩, hpg, hend⟩ := D7.endAt (k := st.length) (by simp; omega)
    have hen : (en ++ [out.length]).length = st.length + 1 := by simp; omega
    rw [hlen7] at ca
    rw [hen] at cb
    have HE := Lib.hid hend
    clear hend D7 hen
    go_region
    all_goals
      go_wp2
      go_end0
      obtain ⟨D5, B5⟩ := HE.out (out.length + (q.length + 1) + 6) (↑out.length + (↑q.length + 1) + 6) (by omega)
      rw [set_last _ _ _ r4.symm, snoc_more] at D5
      exact value_one (w0 := w) (x := q ++ [46, 50, 53, 69, 43, 55]) ⟨D5.drew, (B7.trans B5).drew⟩ (Below.refl p w) (by simp; omega) (by unfold Kind; simp; exact HNB.out) (by omega) (by omega) hpos (by simp; omega)
  · obtain ⟨n, hnn, hn1, hn2⟩ : ∃ n : Int, n = 0 ∧ -9223372036854775808 ≤ n ∧ n ≤ 9223372036854775807 := ⟨0, rfl, by omega, by omega⟩
    go_enter Try.func9, Try.ntmps9
    go_wp2_with fail
    subst hnn
    generalize (w.setCell ⟨p, 4, none⟩ (.int .i64 ((pos : Int) + 1))).setCell ⟨p, 6, none⟩ (.int .i64 ((ni : Int) + 1)) = w1 at D1 B1 ⊢
    refine (open_any p out st en kd 5 (pos + 1) si (ni + 1) wi w1 D1.out (by omega) (by omega) (by omega) (by omega)).mono ?_
    rintro e w2 ⟨rfl, hD2, hB2⟩
    have BB : Below p w w2 := B1.out.trans hB2
    clear D1 B1 hB2
    obtain ⟨q0, l0, q1, l1, q2, l2, q3, l3, hD3⟩ := hD2.opened
    obtain ⟨c0, f0⟩ := hD3.c0
    have HD := Lib.hid hD3
    have hlt3 := hD3.lt
    clear hD3 hD2 c4 f4 c6 f6
    go_wp2_with fail
    refine (itoa_any (p + 1) out 0 (.slice q0 out.length l0) w2 HD.out.r0 (by omega) (by omega) hn1 hn2).mono ?_
    rintro e w4 ⟨v', q, c, rfl, hnb, h4, hq2, hmv⟩
    have HNB := Lib.hid hnb
    clear hnb
    obtain ⟨o5, k5, rfl⟩ := RowB.shape h4
    obtain ⟨cc0, ff0⟩ := HD.out.c0.grown HD.out.r0 hmv.1
    have hlen : (out ++ c :: q).length = out.length + (q.length + 1) := by simp
    rw [hlen] at h4 hmv ⊢
    have D4' := HD.out.put0 h4 hmv
    have B4 : Below p w (w4.setCell ⟨p, 0, none⟩ (Value.slice o5 (out.length + (q.length + 1)) k5)) := BB.trans (below_set (below_moves HD.out.r0 hmv hlt3))
    clear HD h4 hmv c0 f0 BB
    go_upto_region 52 with fail
    generalize w4.setCell ⟨p, 0, none⟩ (Value.slice o5 (out.length + (q.length + 1)) k5) = w5 at D4' B4 ⊢
    have D4'' := D4'
    obtain ⟨s0, t0, s1, t1, s2, t2, s3, t3, hD5⟩ := D4''.opened
    rw [hlen] at hD5
    obtain ⟨d0, g0⟩ := hD5.c0
    have HD5 := Lib.hid hD5
    have hlt5 := hD5.lt
    clear hD5 D4'' D4' cc0 ff0
    go_wp2_with (first
      | (at_builtin; refine app_text w5 rfl (.tmp 212) (.const (Value.string ⟨#[46, 50, 53, 69, 43, 55]⟩)) rfl (p + 1) (out ++ c :: q) ⟨#[46, 50, 53, 69, 43, 55]⟩ (by decide) (.slice s0 (out.length + (q.length + 1)) t0) rfl rfl HD5.out.r0 (by rw [hlen]; have : (⟨#[46, 50, 53, 69, 43, 55]⟩ : ByteArray).size = 6 := rfl; omega) (by omega) ?_; intro v7 w7 h7 hmv7; obtain ⟨o7, k7, rfl⟩ := RowB.shape h7; obtain ⟨cc7, ff7⟩ := HD5.out.c0.grown HD5.out.r0 hmv7.1)
      | fail)
    have hlen7 : ((out ++ c :: q) ++ (⟨#[46, 50, 53, 69, 43, 55]⟩ : ByteArray).data.toList).length = out.length + (q.length + 1) + 6 := by rw [List.length_append, hlen]; rfl
    rw [hlen7] at h7 hmv7
    have D7 := HD5.out.put0 h7 hmv7
    have B7 : Below p w (w7.setCell ⟨p, 0, none⟩ (Value.slice o7 (out.length + (q.length + 1) + 6) k7)) := B4.trans (below_set (below_moves HD5.out.r0 hmv7 hlt5))
    clear HD5 h7 hmv7 d0 g0 B4 cc7 ff7
    generalize w7.setCell ⟨p, 0, none⟩ (Value.slice o7 (out.length + (q.length + 1) + 6) k7) = w8 at D7 B7 ⊢
    obtain ⟨oA, kA, g, capg, u, ⟨ca, fa⟩, ⟨cb, fb⟩, ⟨cg, fg⟩, hpg, hend⟩ := D7.endAt (k := st.length) (by simp; omega)
    have hen : (en ++ [out.length]).length = st.length + 1 := by simp; omega
    rw [hlen7] at ca
    rw [hen] at cb
    have HE := Lib.hid hend
    clear hend D7 hen
    go_region
    all_goals
      go_wp2
      go_end0
      obtain ⟨D5, B5⟩ := HE.out (out.length + (q.length + 1) + 6) (↑out.length + (↑q.length + 1) + 6) (by omega)
      rw [set_last _ _ _ r4.symm, snoc_more] at D5
      exact value_one (w0 := w) (x := q ++ [46, 50, 53, 69, 43, 55]) ⟨D5.drew, (B7.trans B5).drew⟩ (Below.refl p w) (by simp; omega) (by unfold Kind; simp; exact HNB.out) (by omega) (by omega) hpos (by simp; omega)
end Go.Proofs.Qxb6600588a
