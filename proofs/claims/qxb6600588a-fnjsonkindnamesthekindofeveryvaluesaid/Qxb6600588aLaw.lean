/-
  The walk of the law.
-/
import Derived.Test.Qxb6600588aAll
import Derived.Test.Qxb6600588aKind
import Derived.Deep.QuietTactic
import Derived.BigQuiet
namespace Go.Proofs.Qxb6600588a
open Go.RowKit

theorem doc_start (w : World) : Doc w.heap.size [] [] [] [] 0 0 0 0 (w.alloc (.cells #[.slice none 0 0, .slice none 0 0, .slice none 0 0, .slice none 0 0, .int .i64 0, .int .i64 0, .int .i64 0, .int .i64 0] 29)) := by
  refine ⟨fun _ => .slice none 0 0, ⟨by simp, fun i hi => ?_, fun i hi => ?_, fun i j _ _ _ => Or.inl rfl⟩, fun i hi => ?_⟩
  · refine ⟨?_, World.frozen?_alloc_at _ _ _ _ rfl⟩
    rw [World.cell?_alloc_at _ _ _ _ rfl]
    rcases four hi with rfl | rfl | rfl | rfl <;> rfl
  · have : cols [] [] [] [] i = [] := by rcases four hi with rfl | rfl | rfl | rfl <;> rfl
    rw [this]
    exact World.ownsRow_nil _ _ _ _
  · refine ⟨?_, World.frozen?_alloc_at _ _ _ _ rfl⟩
    rw [World.cell?_alloc_at _ _ _ _ rfl]
    rcases four hi with rfl | rfl | rfl | rfl <;> rfl

theorem Doc.drewN {p : Nat} {out : List UInt8} {st en : List Nat} {kd : List UInt8} {pos si ni wi : Nat} {w : World} (h : Doc p out st en kd pos si ni wi w) (n : Nat) : Doc p out st en kd pos si ni wi (w.drewN n) := h
theorem Doc.startsAt {p : Nat} {out : List UInt8} {st en : List Nat} {kd : List UInt8} {pos si ni wi : Nat} {w : World} (h : Doc p out st en kd pos si ni wi w) : ∃ o1 k1, w.cell? ⟨p, 1, none⟩ = some (.slice o1 st.length k1) := by
  obtain ⟨o0, k0, o1, k1, o2, k2, o3, k3, hD⟩ := h.opened
  exact ⟨o1, k1, hD.c1.1⟩

theorem row_at {w : World} {B : Nat} {e : TypeId} {oa : Option Addr} {n cap : Nat} {xs : List Value} (h : w.ownsRow B e 1 (.slice oa n cap) n xs) {k : Nat} (hk : k < n) :
    ∃ g, oa = some ⟨g, 0, none⟩ ∧ n ≤ cap ∧ ∀ j, j < n → w.cell? ⟨g, j, none⟩ = xs[j]? := by
  obtain ⟨g, c, e1, _, _⟩ := h.form (by omega)
  cases e1
  refine ⟨g, rfl, ?_, fun j hj => h.cellAt j (by omega)⟩
  rcases h.2 with ⟨e2, _⟩ | ⟨g', cap', cur, e2, _, _, hn, _⟩
  · cases e2
  · cases e2
    exact hn

/-- All that the law reads of record k. -/
theorem Doc.record {p : Nat} {out : List UInt8} {st en : List Nat} {kd : List UInt8} {pos si ni wi : Nat} {w : World} (h : Doc p out st en kd pos si ni wi w) (hg : Goods out st en kd) {k : Nat} (hk : k < st.length) :
    ∃ (g0 k0 g1 k1 g2 k2 g3 k3 s e : Nat) (c b : UInt8), w.cell? ⟨p, 0, none⟩ = some (.slice (some ⟨g0, 0, none⟩) out.length k0) ∧ w.cell? ⟨p, 1, none⟩ = some (.slice (some ⟨g1, 0, none⟩) st.length k1) ∧
      w.cell? ⟨p, 2, none⟩ = some (.slice (some ⟨g2, 0, none⟩) st.length k2) ∧ w.cell? ⟨p, 3, none⟩ = some (.slice (some ⟨g3, 0, none⟩) st.length k3) ∧
      w.cell? ⟨g1, k, none⟩ = some (.int .i64 (s : Int)) ∧ w.cell? ⟨g2, k, none⟩ = some (.int .i64 (e : Int)) ∧ w.cell? ⟨g3, k, none⟩ = some (.int .u8 (c.toNat : Int)) ∧ w.cell? ⟨g0, s, none⟩ = some (.int .u8 (b.toNat : Int)) ∧
      s < e ∧ e ≤ out.length ∧ out.length ≤ k0 ∧ Kind b c := by
  obtain ⟨o0, k0, o1, k1, o2, k2, o3, k3, hD⟩ := h.opened
  obtain ⟨l1, l2, hgood⟩ := hg
  have he : k < en.length := by omega
  have hc : k < kd.length := by omega
  obtain ⟨q1, q2, b, q3, q4⟩ := hgood k _ _ _ (List.getElem?_eq_getElem hk) (List.getElem?_eq_getElem he) (List.getElem?_eq_getElem hc)
  have r0 := hD.r0
  have r1 := hD.r1
  have r2 := hD.r2
  have r3 := hD.r3
  have z0 : (Lib.byteCells out).length = out.length := Lib.byteCells_length out
  have z1 : (ints st).length = st.length := by simp
  have z2 : (ints en).length = en.length := by simp
  have z3 : (Lib.byteCells kd).length = kd.length := Lib.byteCells_length kd
  rw [z0] at r0
  rw [z1] at r1
  rw [z2] at r2
  rw [z3] at r3
  obtain ⟨g0, rfl, n0, a0⟩ := row_at r0 (k := st[k]'hk) (by omega)
  obtain ⟨g1, rfl, n1, a1⟩ := row_at r1 hk
  obtain ⟨g2, rfl, n2, a2⟩ := row_at r2 he
  obtain ⟨g3, rfl, n3, a3⟩ := row_at r3 hc
  refine ⟨g0, k0, g1, k1, g2, k2, g3, k3, st[k]'hk, en[k]'he, kd[k]'hc, b, hD.c0.1, hD.c1.1, by rw [l1]; exact hD.c2.1, by rw [l2]; exact hD.c3.1, ?_, ?_, ?_, ?_, q1, q2, n0, q4⟩
  · rw [a1 k hk]; simp [hk]
  · rw [a2 k he]; simp [he]
  · rw [a3 k hc]; simp [Lib.byteCells, hc]
  · rw [a0 _ (by omega)]
    simp [Lib.byteCells, q3]

set_option maxRecDepth 100000 in
set_option maxHeartbeats 4000000 in
theorem law_walk (os ot on : Option Addr) (cs ct cn : Nat) (sh : List UInt8) (L : List ByteArray) (nums : List Int) (w : World) (hv1 : Seen w.heap.size w os (Lib.byteCells sh)) (hv2 : Seen w.heap.size w ot (L.map Value.string)) (hv3 : Seen w.heap.size w on (nums.map (Value.int .i64)))
    (h1 : sh.length ≤ 9223372036854775807) (h2 : L.length ≤ 9223372036854775807) (h3 : nums.length ≤ 9223372036854775807) (hL : ∀ x ∈ L, x.size ≤ 9223372036854775807) (hnum : ∀ n ∈ nums, -9223372036854775808 ≤ n ∧ n ≤ 9223372036854775807) :
    Calls Try.prog 5 #[.slice os sh.length cs, .slice ot L.length ct, .slice on nums.length cn] w fun e w' => e = .returned (.bool true) ∧ Below w.heap.size w w' := by
  have k13 := bytes13 os ot on cs ct cn sh.length nums.length L w hv2 h1 h3 h2 hL
  have H1 := Lib.hid hv1
  have H2 := Lib.hid hv2
  have H3 := Lib.hid hv3
  have HN := Lib.hid hnum
  clear hv1 hv2 hv3 hnum hL
  go_enter Try.func5, Try.ntmps5
  go_wp2_with fail
  refine k13.mono ?_
  rintro e w' ⟨hd0, rfl⟩
  clear k13
  rcases hd0 with rfl | ⟨rfl, hsm⟩
  · go_wp2_with fail
    go_ret
    exact ⟨rfl, Below.refl _ _⟩
  · have k8 := Lib.hid (docBytes os ot on cs ct cn sh.length nums.length L w' H2.out h1 h3 h2 (fun x hx => by have := hsm x hx; omega))
    clear hsm
    go_wp2_with fail
    refine (k8.out).mono ?_
    rintro e w' ⟨hd, rfl⟩
    clear k8
    rcases hd with rfl | ⟨z, rfl, z0, z1, e1, e2, e3, hx⟩
    · go_wp2_with fail
      go_ret
      exact ⟨rfl, Below.refl _ _⟩
    · have HX := Lib.hid hx
      clear hx
      go_wp2_with fail
      have hal : Below w'.heap.size w' (w'.alloc (.cells #[.slice none 0 0, .slice none 0 0, .slice none 0 0, .slice none 0 0, .int .i64 0, .int .i64 0, .int .i64 0, .int .i64 0] 29)) := (Below.refl _ _).alloc (Nat.le_refl _) _
      refine (doc_any w'.heap.size os ot on cs ct cn sh L nums _ ⟨H1.out.on hal, H2.out.on hal, H3.out.on hal, e1, e2, e3, HX.out, HN.out⟩ (doc_start w')).mono ?_
      rintro e w1 ⟨rfl, out, st, en, kd, pos, si, ni, wi, hD, hB, hg, ho, hs⟩
      have HD := Lib.hid hD
      have HG := Lib.hid hg
      have BB : Hid (Below w'.heap.size w' w1) := hal.trans hB
      clear hD hg hal hB H1 H2 H3 HX HN
      go_wp2_with fail
      go_loopw [9] (fun t9 wr => ∃ k : Nat, t9 = .int .i64 (k : Int) ∧ k ≤ st.length ∧ Hid (Doc w'.heap.size out st en kd pos si ni wi wr) ∧ Hid (Below w'.heap.size w' wr)) (fun i _ => st.length - (intOf i).toNat)
      case atStart => exact ⟨0, rfl, by omega, HD, BB⟩
      case round =>
        clear HD BB
        obtain ⟨k, rfl, hk, HD, BB⟩ := hrel
        by_cases hlt : k < st.length
        · obtain ⟨g0, k0, g1, k1, g2, k2, g3, k3, s, e, c, b, c0, c1, c2, c3, d1, d2, d3, d0, hse, heo, hok, hkind⟩ := HD.out.record HG.out hlt
          have HK := Lib.hid hkind
          have D0 := Lib.hid d0
          clear hkind d0
          go_wp2_with fail
          go_quiet (first
            | (go_at_call 14; refine Calls.quiet_of_same (kind14 g0 s (e - s) (k0 - s) b c _ (by omega) D0.out HK.out))
            | (go_at_call 15; refine Calls.quiet_of_same (art15 b c _ HK.out)))
          go_wp2
          all_goals
            go_roundw
            case rel => exact ⟨k + 1, by go_num, by omega, HD.out.drewN _, ⟨BB.out.os, BB.out.tape, BB.out.output, BB.out.size, BB.out.block⟩⟩
            case measure => simp [intOf]; omega
        · obtain ⟨o1, k1, c1⟩ := HD.out.startsAt
          go_wp2_with fail
          go_ret
          exact ⟨rfl, BB.out⟩
end Go.Proofs.Qxb6600588a
