/-
  The walk of zzLiteral; a record is shut.
-/
import Derived.Test.Qxb6600588aOpenB
namespace Go.Proofs.Qxb6600588a
open Go.RowKit

/-- 'append(v, t...)', t a string. -/
theorem app_text {ops : Array Oper} {rest : List Oper} {o : Oper} {a : Act} {Q : Exit → Act → World → Prop} (w : World) (hgd : o.guard = none) (s x : Operand)
    (ho : o.op = .call { callee := .builtin .append, args := #[s, x], argTypes := #[22, 9] })
    (B : Nat) (l : List UInt8) (t : ByteArray) (hp : 0 < t.size) (v : Value) (hs : a.eval s = v) (hx : a.eval x = .string t) (hown : RowB B v l w)
    (hlen : l.length + t.size ≤ 140737488355328) (hB : B ≤ w.heap.size)
    (K : ∀ v' w', RowB B v' (l ++ t.data.toList) w' → Moves w v w' v' → wpList Try.prog ops Q rest (a.put o.dst v') w') :
    wpList Try.prog ops Q (o :: rest) a w := by
  refine wpList_plain hgd fun K' hK' => ?_
  obtain ⟨v', w', hr, h1, h2⟩ := run_append_str_lies w o.type B v _ hown t hp (by rw [Lib.byteCells_length]; exact hlen) hB
  unfold Oper.wp execOp
  simp only [ho, resolve, invoke, builtin, Sem.run_bind, Sem.run_pure, Result.andThen_ok, List.map_toArray, List.map_cons, List.map_nil, hs, hx, hr]
  refine hK' _ _ (K v' w' ?_ h2)
  unfold RowB
  have e : Lib.byteCells (l ++ t.data.toList) = Lib.byteCells l ++ Lib.strCells t := by simp [Lib.byteCells, Lib.strCells]
  rw [e]
  exact h1

theorem Doc.drew {p : Nat} {out : List UInt8} {st en : List Nat} {kd : List UInt8} {pos si ni wi : Nat} {w : World} (h : Doc p out st en kd pos si ni wi w) : Doc p out st en kd pos si ni wi w.drew := h

/-- 'd.ends[k]': where it lies, and what a store there makes of the document. -/
theorem Doc.endAt {p : Nat} {out : List UInt8} {st en : List Nat} {kd : List UInt8} {pos si ni wi : Nat} {w : World} (h : Doc p out st en kd pos si ni wi w) {k : Nat} (hk : k < en.length) :
    ∃ o0 k0 g cap u, Cl w p 0 (.slice o0 out.length k0) ∧ Cl w p 2 (.slice (some ⟨g, 0, none⟩) en.length cap) ∧ Cl w g k u ∧ p < g ∧
      ∀ (m : Nat) (z : Int), z = (m : Int) → DocEnd p out st (en.set k m) kd pos si ni wi w (w.setCell ⟨g, k, none⟩ (.int .i64 z)) := by
  obtain ⟨o0, k0, o1, k1, o2, k2, o3, k3, hD⟩ := h.opened
  have hr := hD.r2
  have hl : (ints en).length = en.length := by simp
  rw [hl] at hr
  obtain ⟨g, cap, e, hb, _⟩ := hr.form (by omega)
  cases e
  refine ⟨o0, k0, g, k2, .int .i64 ((en[k]'hk : Nat) : Int), hD.c0, hD.c2, ⟨?_, hr.frozenAt k⟩, by omega, fun m z hz => ?_⟩
  · rw [hr.cellAt k (by omega)]
    simp [hk]
  · subst hz
    exact ⟨hD.end' rfl k m, (Below.refl p w).setCell (by show p ≤ g; omega) _⟩

/-- A value is written: the bytes x, one record, shut. -/
def ValEnd (p : Nat) (out x : List UInt8) (st en : List Nat) (kd : List UInt8) (k : UInt8) (pos si ni wi : Nat) (w : World) (e : Ending) (w' : World) : Prop :=
  e = .returned (.tuple #[]) ∧ DocEnd p (out ++ x) (st ++ [out.length]) (en ++ [out.length + x.length]) (kd ++ [k]) pos si ni wi w w'

theorem set_last (en : List Nat) (a b : Nat) {k : Nat} (hk : k = en.length) : (en ++ [a]).set k b = en ++ [b] := by
  subst hk
  rw [List.set_append_right _ _ (Nat.le_refl _)]
  simp

set_option maxRecDepth 100000 in
set_option maxHeartbeats 4000000 in
theorem lit_any (p : Nat) (out : List UInt8) (st en : List Nat) (kd : List UInt8) (k : UInt8) (t : ByteArray) (pos si ni wi : Nat) (w : World) (h : Doc p out st en kd pos si ni wi w) (ho : out.length ≤ 1000000000000) (hs : st.length ≤ 1000000000000) (he : en.length = st.length) (hk : kd.length ≤ 1000000000000)
    (ht0 : 0 < t.size) (ht : t.size ≤ 100) :
    Calls Try.prog 18 #[.pointer (some ⟨p, 0, none⟩), .int .u8 (k.toNat : Int), .string t] w fun e w' => ValEnd p out t.data.toList st en kd k pos si ni wi w e w' := by
  have k20 := open_any p out st en kd k pos si ni wi w h ho hs (by omega) hk
  go_enter Try.func18, Try.ntmps18
  go_wp2_with fail
  refine k20.mono ?_
  rintro e w1 ⟨rfl, hD1, hB1⟩
  clear k20 h
  obtain ⟨o0, k0, o1, k1, o2, k2, o3, k3, hD⟩ := hD1.opened
  obtain ⟨c0, f0⟩ := hD.c0
  have HD := Lib.hid hD
  have hlt := hD.lt
  clear hD hD1
  go_wp2_with (first
    | (at_builtin; refine app_text w1 rfl (.tmp 14) (.tmp 15) rfl (p + 1) out t ht0 (.slice o0 out.length k0) rfl rfl HD.out.r0 (by omega) (by omega) ?_; intro v' w2 h2 hmv; obtain ⟨o5, k5, rfl⟩ := RowB.shape h2; obtain ⟨cc0, ff0⟩ := HD.out.c0.grown HD.out.r0 hmv.1)
    | fail)
  have hlen : (out ++ t.data.toList).length = out.length + t.size := by rw [List.length_append, Array.length_toList]; rfl
  have hx : t.data.toList.length = t.size := Array.length_toList
  rw [hlen] at h2 hmv
  have D2 := HD.out.put0 h2 hmv
  have B2 : Below p w (w2.setCell ⟨p, 0, none⟩ (Value.slice o5 (out.length + t.size) k5)) := hB1.trans (below_set (below_moves HD.out.r0 hmv hlt))
  generalize w2.setCell ⟨p, 0, none⟩ (Value.slice o5 (out.length + t.size) k5) = w3 at D2 B2 ⊢
  clear HD cc0 ff0 h2 hmv c0 f0 hB1
  obtain ⟨oA, kA, g, cap, u, ⟨ca, fa⟩, ⟨cb, fb⟩, ⟨cg, fg⟩, hpg, hend⟩ := D2.endAt (k := st.length) (by simp; omega)
  have hen : (en ++ [out.length]).length = st.length + 1 := by simp; omega
  rw [hlen] at ca
  rw [hen] at cb
  have HE := Lib.hid hend
  clear hend D2 hen
  go_region
  all_goals
    go_end0
    obtain ⟨D5, B5⟩ := HE.out (out.length + t.size) (↑out.length + ↑t.size) (by omega)
    rw [set_last _ _ _ he.symm] at D5
    exact ⟨rfl, by rw [hx]; exact D5.drew, (B2.trans B5).drew⟩
end Go.Proofs.Qxb6600588a
