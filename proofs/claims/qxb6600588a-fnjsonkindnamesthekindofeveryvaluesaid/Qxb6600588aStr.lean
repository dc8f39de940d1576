/-
  The walk of zzStr.
-/
import Derived.Test.Qxb6600588aLit
namespace Go.Proofs.Qxb6600588a
open Go.RowKit

/-- The slice at 'oa' holds the values L, below block B. -/
def Seen (B : Nat) (w : World) (oa : Option Addr) (L : List Value) : Prop :=
  L = [] ∨ ∃ b off, oa = some ⟨b, off, none⟩ ∧ b < B ∧ ∀ (j : Nat) v, L[j]? = some v → w.cell? ⟨b, off + j, none⟩ = some v
theorem Seen.on {B : Nat} {w w' : World} {oa : Option Addr} {L : List Value} (h : Seen B w oa L) (hb : Below B w w') : Seen B w' oa L := by
  rcases h with h | ⟨b, off, e, hlt, hc⟩
  · exact Or.inl h
  · refine Or.inr ⟨b, off, e, hlt, fun j v hv => ?_⟩
    rw [hb.cell (by exact hlt)]
    exact hc j v hv
theorem Seen.at {B : Nat} {w : World} {oa : Option Addr} {L : List Value} (h : Seen B w oa L) {k : Nat} (hk : k < L.length) :
    ∃ b off, oa = some ⟨b, off, none⟩ ∧ b < B ∧ w.cell? ⟨b, off + k, none⟩ = some (L[k]'hk) := by
  rcases h with h | ⟨b, off, e, hlt, hc⟩
  · rw [h] at hk; simp at hk
  · exact ⟨b, off, e, hlt, hc k _ (List.getElem?_eq_getElem hk)⟩

/-- A string is written. -/
def StrEnd (p : Nat) (out : List UInt8) (st en : List Nat) (kd : List UInt8) (pos si ni wi : Nat) (w : World) (e : Ending) (w' : World) : Prop :=
  e = .returned (.tuple #[]) ∧ ∃ q : List UInt8, 1 ≤ q.length ∧ q.length ≤ 393300 ∧ DocEnd p (out ++ 34 :: q) (st ++ [out.length]) (en ++ [out.length + (q.length + 1)]) (kd ++ [2]) pos (si + 1) ni wi w w'

set_option maxRecDepth 100000 in
set_option maxHeartbeats 4000000 in
theorem str_any (p : Nat) (out : List UInt8) (st en : List Nat) (kd : List UInt8) (oa : Option Addr) (cap : Nat) (L : List ByteArray) (mode : Int) (pos si ni wi : Nat) (w : World) (h : Doc p out st en kd pos si ni wi w) (hv : Seen p w oa (L.map Value.string))
    (ho : out.length ≤ 100000000000) (hs : st.length ≤ 1000000000000) (he : en.length = st.length) (hk : kd.length ≤ 1000000000000) (hsi : si ≤ 1000000000000) (_hL : L.length ≤ 1000000) (hx : ∀ x ∈ L, x.size ≤ 65536) :
    Calls Try.prog 19 #[.pointer (some ⟨p, 0, none⟩), .slice oa L.length cap, .int .u8 mode] w fun e w' => StrEnd p out st en kd pos si ni wi w e w' := by
  obtain ⟨o0, k0, o1, k1, o2, k2, o3, k3, hD⟩ := h.opened
  obtain ⟨c5, f5⟩ := hD.c5
  have hlt := hD.lt
  clear hD
  have D1 : Hid (Doc p out st en kd pos (si + 1) ni wi (w.setCell ⟨p, 5, none⟩ (.int .i64 ((si : Int) + 1)))) := h.si1 (by omega)
  have B1 : Hid (Below p w (w.setCell ⟨p, 5, none⟩ (.int .i64 ((si : Int) + 1)))) := below_set (Below.refl p w)
  have HV := Lib.hid hv
  have HX := Lib.hid hx
  clear h hv hx
  by_cases hlt2 : si < L.length
  · obtain ⟨b, off, rfl, hbp, hc⟩ := HV.out.at (k := si) (by simpa using hlt2)
    rw [List.getElem_map] at hc
    have HS : Hid ((L[si]'hlt2).size ≤ 65536) := HX.out _ (List.getElem_mem hlt2)
    obtain ⟨x, hxx⟩ : ∃ x, L[si]'hlt2 = x := ⟨_, rfl⟩
    rw [hxx] at hc HS
    clear hxx
    go_enter Try.func19, Try.ntmps19
    go_wp2_with fail
    generalize w.setCell ⟨p, 5, none⟩ (.int .i64 ((si : Int) + 1)) = w1 at D1 B1 ⊢
    refine (open_any p out st en kd 2 pos (si + 1) ni wi w1 D1.out (by omega) hs (by omega) hk).mono ?_
    rintro e w2 ⟨rfl, hD2, hB2⟩
    have BB : Below p w w2 := B1.out.trans hB2
    clear D1 B1 hB2
    obtain ⟨q0, l0, q1, l1, q2, l2, q3, l3, hD3⟩ := hD2.opened
    obtain ⟨c0, f0⟩ := hD3.c0
    have HD := Lib.hid hD3
    have hlt3 := hD3.lt
    clear hD3 hD2 c5 f5
    go_wp2_with fail
    refine (quote_any (p + 1) out x mode (.slice q0 out.length l0) w2 HD.out.r0 (by omega) (by omega) HS.out).mono ?_
    rintro e w4 ⟨v', q, rfl, h4, hq1, hq2, hmv⟩
    have hxs := HS.out
    obtain ⟨o5, k5, rfl⟩ := RowB.shape h4
    obtain ⟨cc0, ff0⟩ := HD.out.c0.grown HD.out.r0 hmv.1
    have hlen : (out ++ 34 :: q).length = out.length + (q.length + 1) := by simp
    rw [hlen] at h4 hmv ⊢
    have D4' := HD.out.put0 h4 hmv
    have B4 : Below p w (w4.setCell ⟨p, 0, none⟩ (Value.slice o5 (out.length + (q.length + 1)) k5)) := BB.trans (below_set (below_moves HD.out.r0 hmv hlt3))
    clear HD h4 hmv c0 f0 BB
    go_wp2_with fail
    generalize w4.setCell ⟨p, 0, none⟩ (Value.slice o5 (out.length + (q.length + 1)) k5) = w5 at D4' B4 ⊢
    obtain ⟨oA, kA, g, capg, u, ⟨ca, fa⟩, ⟨cb, fb⟩, ⟨cg, fg⟩, hpg, hend⟩ := D4'.endAt (k := st.length) (by simp; omega)
    have hen : (en ++ [out.length]).length = st.length + 1 := by simp; omega
    rw [hlen] at ca
    rw [hen] at cb
    have HE := Lib.hid hend
    clear hend D4' hen cc0 ff0
    go_region
    all_goals
      go_end0
      obtain ⟨D5, B5⟩ := HE.out (out.length + (q.length + 1)) (↑out.length + (↑q.length + 1)) (by omega)
      rw [set_last _ _ _ he.symm] at D5
      exact ⟨rfl, q, hq1, by omega, D5.drew, (B4.trans B5).drew⟩
  · obtain ⟨x, hxx, HS0⟩ : ∃ x : ByteArray, x = ⟨#[]⟩ ∧ x.size ≤ 65536 := ⟨_, rfl, by decide⟩
    have HS := Lib.hid HS0
    clear HS0
    go_enter Try.func19, Try.ntmps19
    go_wp2_with fail
    rw [← hxx]
    clear hxx
    generalize w.setCell ⟨p, 5, none⟩ (.int .i64 ((si : Int) + 1)) = w1 at D1 B1 ⊢
    refine (open_any p out st en kd 2 pos (si + 1) ni wi w1 D1.out (by omega) hs (by omega) hk).mono ?_
    rintro e w2 ⟨rfl, hD2, hB2⟩
    have BB : Below p w w2 := B1.out.trans hB2
    clear D1 B1 hB2
    obtain ⟨q0, l0, q1, l1, q2, l2, q3, l3, hD3⟩ := hD2.opened
    obtain ⟨c0, f0⟩ := hD3.c0
    have HD := Lib.hid hD3
    have hlt3 := hD3.lt
    clear hD3 hD2 c5 f5
    go_wp2_with fail
    refine (quote_any (p + 1) out x mode (.slice q0 out.length l0) w2 HD.out.r0 (by omega) (by omega) HS.out).mono ?_
    rintro e w4 ⟨v', q, rfl, h4, hq1, hq2, hmv⟩
    have hxs := HS.out
    obtain ⟨o5, k5, rfl⟩ := RowB.shape h4
    obtain ⟨cc0, ff0⟩ := HD.out.c0.grown HD.out.r0 hmv.1
    have hlen : (out ++ 34 :: q).length = out.length + (q.length + 1) := by simp
    rw [hlen] at h4 hmv ⊢
    have D4' := HD.out.put0 h4 hmv
    have B4 : Below p w (w4.setCell ⟨p, 0, none⟩ (Value.slice o5 (out.length + (q.length + 1)) k5)) := BB.trans (below_set (below_moves HD.out.r0 hmv hlt3))
    clear HD h4 hmv c0 f0 BB
    go_wp2_with fail
    generalize w4.setCell ⟨p, 0, none⟩ (Value.slice o5 (out.length + (q.length + 1)) k5) = w5 at D4' B4 ⊢
    obtain ⟨oA, kA, g, capg, u, ⟨ca, fa⟩, ⟨cb, fb⟩, ⟨cg, fg⟩, hpg, hend⟩ := D4'.endAt (k := st.length) (by simp; omega)
    have hen : (en ++ [out.length]).length = st.length + 1 := by simp; omega
    rw [hlen] at ca
    rw [hen] at cb
    have HE := Lib.hid hend
    clear hend D4' hen cc0 ff0
    go_region
    all_goals
      go_end0
      obtain ⟨D5, B5⟩ := HE.out (out.length + (q.length + 1)) (↑out.length + (↑q.length + 1)) (by omega)
      rw [set_last _ _ _ he.symm] at D5
      exact ⟨rfl, q, hq1, by omega, D5.drew, (B4.trans B5).drew⟩
end Go.Proofs.Qxb6600588a
