/-
  The walk of zzOpen.
-/
import Derived.Test.Qxb6600588aOpen
namespace Go.Proofs.Qxb6600588a
open Go.RowKit

/-- A new record, still open: what zzOpen leaves. -/
def OpenEnd (p : Nat) (out : List UInt8) (st en : List Nat) (kd : List UInt8) (k : UInt8) (pos si ni wi : Nat) (w : World) (e : Ending) (w' : World) : Prop :=
  e = .returned (.int .i64 (st.length : Int)) ∧ DocEnd p out (st ++ [out.length]) (en ++ [out.length]) (kd ++ [k]) pos si ni wi w w'

set_option maxRecDepth 100000 in
set_option maxHeartbeats 4000000 in
theorem open_any (p : Nat) (out : List UInt8) (st en : List Nat) (kd : List UInt8) (k : UInt8) (pos si ni wi : Nat) (w : World) (h : Doc p out st en kd pos si ni wi w) (_ho : out.length ≤ 1000000000000) (hs : st.length ≤ 1000000000000) (he : en.length ≤ 1000000000000) (hk : kd.length ≤ 1000000000000) :
    Calls Try.prog 20 #[.pointer (some ⟨p, 0, none⟩), .int .u8 (k.toNat : Int)] w fun e w' => OpenEnd p out st en kd k pos si ni wi w e w' := by
  obtain ⟨o0, k0, o1, k1, o2, k2, o3, k3, hD⟩ := h.opened
  obtain ⟨c0, f0⟩ := hD.c0
  obtain ⟨c1, f1⟩ := hD.c1
  have HD := Lib.hid hD
  have hlt := hD.lt
  clear hD h
  go_enter Try.func20, Try.ntmps20
  go_wp2
  go_region_law (refine step_int w rfl (.tmp 9) (.tmp 15) rfl (p + 1) st out.length (.slice o1 st.length k1) (by simp [Act.eval]) (by simp [Act.eval]) HD.out.r1 (by omega) (by omega) ?_; intro v' w1 h1 hmv; obtain ⟨o5, k5, rfl⟩ := row_shape h1; obtain ⟨cc1, ff1⟩ := HD.out.c1.grown HD.out.r1 hmv.1)
  all_goals
    have hlen : (ints (st ++ [out.length])).length = st.length + 1 := by simp
    rw [hlen] at h1 hmv
    have D1 := HD.out.put1 h1 hmv
    have B1 : Below p w (w1.setCell ⟨p, 1, none⟩ (Value.slice o5 (st.length + 1) k5)) := below_set (below_moves HD.out.r1 hmv hlt)
    generalize w1.setCell ⟨p, 1, none⟩ (Value.slice o5 (st.length + 1) k5) = w2 at D1 B1 ⊢
    clear HD cc1 ff1 h1 hmv hlen
    clear c0 f0 c1 f1
    obtain ⟨q0, l0, q1, l1, q2, l2, q3, l3, hD2⟩ := D1.opened
    obtain ⟨c0, f0⟩ := hD2.c0
    obtain ⟨c2, f2⟩ := hD2.c2
    have HD2 := Lib.hid hD2
    have hlt2 := hD2.lt
    clear hD2 D1
    go_wp2
    go_region_law (refine step_int w2 rfl (.tmp 23) (.tmp 29) rfl (p + 1) en out.length (.slice q2 en.length l2) (by simp [Act.eval]) (by simp [Act.eval]) HD2.out.r2 (by omega) (by omega) ?_; intro v' w3 h3 hmv3; obtain ⟨o6, k6, rfl⟩ := row_shape h3; obtain ⟨cc2, ff2⟩ := HD2.out.c2.grown HD2.out.r2 hmv3.1)
    all_goals
      have hlen : (ints (en ++ [out.length])).length = en.length + 1 := by simp
      rw [hlen] at h3 hmv3
      have D2 := HD2.out.put2 h3 hmv3
      have B2 : Below p w (w3.setCell ⟨p, 2, none⟩ (Value.slice o6 (en.length + 1) k6)) := B1.trans (below_set (below_moves HD2.out.r2 hmv3 hlt2))
      generalize w3.setCell ⟨p, 2, none⟩ (Value.slice o6 (en.length + 1) k6) = w4 at D2 B2 ⊢
      clear HD2 cc2 ff2 h3 hmv3 hlen B1
      clear c0 f0 c2 f2
      obtain ⟨r0, m0, r1, m1, r2, m2, r3, m3, hD4⟩ := D2.opened
      obtain ⟨c1, f1⟩ := hD4.c1
      obtain ⟨c3, f3⟩ := hD4.c3
      have HD4 := Lib.hid hD4
      have hlt4 := hD4.lt
      clear hD4 D2
      go_wp2_with (first
        | (at_builtin; refine app_bytes w4 rfl (.tmp 37) (.tmp 39) rfl (p + 1) kd [k] _ rfl (by simp) (.slice r3 kd.length m3) rfl 1 rfl rfl HD4.out.r3 (by simp; omega) (by omega) ?_; intro v' w5 h5 hmv5; obtain ⟨o7, k7, rfl⟩ := RowB.shape h5; obtain ⟨cc3, ff3⟩ := HD4.out.c3.grown HD4.out.r3 hmv5.1; obtain ⟨cc1, ff1⟩ := HD4.out.c1.grown HD4.out.r3 hmv5.1)
        | fail)
      have hlen : (kd ++ [k]).length = kd.length + 1 := by simp
      rw [hlen] at h5 hmv5
      go_ret
      exact ⟨rfl, HD4.out.put3 h5 hmv5, B2.trans (below_set (below_moves HD4.out.r3 hmv5 hlt4))⟩
end Go.Proofs.Qxb6600588a
