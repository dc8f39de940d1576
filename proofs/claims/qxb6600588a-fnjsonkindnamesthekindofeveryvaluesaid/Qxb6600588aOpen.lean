/-
  The walks of zzWS and zzOpen: regions that draw, with an append inside.
-/
import Derived.Test.Qxb6600588aQuote
import Derived.RegionTactic
import Derived.ChangeAlike
namespace Go.Proofs.Qxb6600588a
open Go.RowKit

/-- The document behind a call, some of it known. -/
def DocEnd (p : Nat) (out : List UInt8) (st en : List Nat) (kd : List UInt8) (pos si ni wi : Nat) (w w' : World) : Prop := Doc p out st en kd pos si ni wi w' ∧ Below p w w'

theorem below_moves {p : Nat} {w w' : World} {v v' : Value} {e : TypeId} {n : Nat} {xs : List Value} (ho : w.ownsRow (p + 1) e 1 v n xs) (hm : Moves w v w' v') (hp : p < w.heap.size) : Below p w w' :=
  (Below.refl p w).grown hm.1 (by omega) (fun k hk => by have := (ho.lt k hk).1; omega)

/-- 'append(v, a ..)' inside a region that draws, whichever bytes. -/
theorem step_any {ops : Array Oper} {o : Oper} {a : Act} {Kk : Act → World → Prop} {Q : Exit → Act → World → Prop} {E : Prop} (w : World) (hgd : o.guard = none) (s x : Operand)
    (ho : o.op = .call { callee := .builtin .append, args := #[s, x], argTypes := #[22, 22] })
    (B : Nat) (l : List UInt8) (cs : Array Value) (hcs : AllB cs.toList) (v : Value) (hs : a.eval s = v) (m : Nat) (hp : 0 < m) (hm : m = cs.size) (hx : a.eval x = .slice (some ⟨w.heap.size, 0, none⟩) m m) (hown : RowB B v l w)
    (hlen : l.length + m ≤ 140737488355328) (hB : B ≤ w.heap.size)
    (K : ∀ news v' w', news.length = m → RowB B v' (l ++ news) w' → Moves w v w' v' → Kk (a.put o.dst v') w') :
    if Region.wanted o (yielded ops a.tmps) = true then Oper.wp Try.prog o a (w.alloc (.cells cs 5)).drew Kk Q else E := by
  obtain ⟨news, hn⟩ := hcs.bytes
  have hl : news.length = m := by
    have := congrArg List.length hn
    rw [Lib.byteCells_length, Array.length_toList] at this
    omega
  obtain ⟨i0, hi, hz0, hz1, hz2⟩ := info_parts infoByte
  have hll : (Lib.byteCells l).length = l.length := Lib.byteCells_length l
  have hb : (w.alloc (.cells cs 5)).drew.heap[w.heap.size]? = some (.cells cs 5 (0, 0)) := heap_alloc_new w _
  have hd : w.grownBy (w.alloc (.cells cs 5)).drew v.ownBlock := ⟨rfl, rfl, rfl, (World.grownBy_alloc w _ v.ownBlock).size, (World.grownBy_alloc w _ v.ownBlock).block⟩
  refine step_append_lies _ hgd s x 22 ho B 5 i0 (.int .u8 0) 1 1 Try.underlying22 hi hz0 hz1 hz2 rfl (by decide) v (Lib.byteCells l).length (Lib.byteCells l) hs (World.ownsRow.alloc hown _) ⟨w.heap.size, 0, none⟩ m m (Lib.byteCells news) hx
    (by rw [Lib.byteCells_length, hl, Nat.mul_one]) (fun j u hj => World.news_of_block hb j u (by rw [hn]; exact hj)) (Lib.byteCells_one news) hp (by unfold maxLen; omega) (by omega) (by simp; omega) _ rfl ?_
  intro g cap w' h1 h2 h3 h4
  refine K news _ w' hl ?_ ⟨hd.trans h2, ?_⟩
  · unfold RowB
    rw [Lib.byteCells_append, List.length_append, Lib.byteCells_length news, hl]
    exact h1
  · rcases h3 with e | e
    · left; rw [e]; rfl
    · right; exact ⟨g, rfl, by rw [e]; simp⟩

/-- v is nil or a row of the call's own and holds the ints l. -/
def RowI (B : Nat) (v : Value) (l : List Nat) (w : World) : Prop := w.ownsRow B 3 1 v (ints l).length (ints l)
/-- 'append(v, n)' inside a region that draws. -/
theorem step_int {ops : Array Oper} {o : Oper} {a : Act} {Kk : Act → World → Prop} {Q : Exit → Act → World → Prop} {E : Prop} (w : World) (hgd : o.guard = none) (s x : Operand)
    (ho : o.op = .call { callee := .builtin .append, args := #[s, x], argTypes := #[27, 27] })
    (B : Nat) (l : List Nat) (n : Nat) (v : Value) (hs : a.eval s = v) (hx : a.eval x = .slice (some ⟨w.heap.size, 0, none⟩) 1 1) (hown : RowI B v l w)
    (hlen : l.length ≤ 10000000000000) (hB : B ≤ w.heap.size)
    (K : ∀ v' w', RowI B v' (l ++ [n]) w' → Moves w v w' v' → Kk (a.put o.dst v') w') :
    if Region.wanted o (yielded ops a.tmps) = true then Oper.wp Try.prog o a (w.alloc (.cells #[.int .i64 (n : Int)] 3)).drew Kk Q else E := by
  obtain ⟨i0, hi, hz0, hz1, hz2⟩ := info_parts infoInt
  have hll : (ints l).length = l.length := by simp
  have hb : (w.alloc (.cells #[.int .i64 (n : Int)] 3)).drew.heap[w.heap.size]? = some (.cells #[.int .i64 (n : Int)] 3 (0, 0)) := heap_alloc_new w _
  have hd : w.grownBy (w.alloc (.cells #[.int .i64 (n : Int)] 3)).drew v.ownBlock := ⟨rfl, rfl, rfl, (World.grownBy_alloc w _ v.ownBlock).size, (World.grownBy_alloc w _ v.ownBlock).block⟩
  refine step_append_lies _ hgd s x 27 ho B 3 i0 (.int .i64 0) 1 8 Try.underlying27 hi hz0 hz1 hz2 rfl (by decide) v (ints l).length (ints l) hs (World.ownsRow.alloc hown _) ⟨w.heap.size, 0, none⟩ 1 1 [.int .i64 (n : Int)] hx
    rfl (fun j u hj => World.news_of_block hb j u hj) (by intro u hu; simp at hu; subst hu; rfl) (by omega) (by unfold maxLen; omega) (by omega) (by simp; omega) _ rfl ?_
  intro g cap w' h1 h2 h3 h4
  refine K _ w' ?_ ⟨hd.trans h2, ?_⟩
  · unfold RowI ints
    rw [List.map_append, List.length_append]
    exact h1
  · rcases h3 with e | e
    · left; rw [e]; rfl
    · right; exact ⟨g, rfl, by rw [e]; simp⟩

/-- One byte of white space more. -/
def WsEnd (p : Nat) (out : List UInt8) (st en : List Nat) (kd : List UInt8) (pos si ni wi : Nat) (w : World) (e : Ending) (w' : World) : Prop :=
  e = .returned (.tuple #[]) ∧ ∃ c, DocEnd p (out ++ [c]) st en kd pos si ni (wi + 1) w w'

section
variable {p : Nat} {out : List UInt8} {st en : List Nat} {kd : List UInt8} {pos si ni wi : Nat} {w : World}
theorem Doc.pos1 (h : Doc p out st en kd pos si ni wi w) {m : Nat} {z : Int} (hz : z = (m : Int)) : Doc p out st en kd m si ni wi (w.setCell ⟨p, 4, none⟩ (.int .i64 z)) := by
  subst hz
  obtain ⟨_, _, _, _, _, _, _, _, hD⟩ := h.opened
  exact hD.pos' m
theorem Doc.si1 (h : Doc p out st en kd pos si ni wi w) {m : Nat} {z : Int} (hz : z = (m : Int)) : Doc p out st en kd pos m ni wi (w.setCell ⟨p, 5, none⟩ (.int .i64 z)) := by
  subst hz
  obtain ⟨_, _, _, _, _, _, _, _, hD⟩ := h.opened
  exact hD.si' m
theorem Doc.ni1 (h : Doc p out st en kd pos si ni wi w) {m : Nat} {z : Int} (hz : z = (m : Int)) : Doc p out st en kd pos si m wi (w.setCell ⟨p, 6, none⟩ (.int .i64 z)) := by
  subst hz
  obtain ⟨_, _, _, _, _, _, _, _, hD⟩ := h.opened
  exact hD.ni' m
theorem Doc.wi1 (h : Doc p out st en kd pos si ni wi w) {m : Nat} {z : Int} (hz : z = (m : Int)) : Doc p out st en kd pos si ni m (w.setCell ⟨p, 7, none⟩ (.int .i64 z)) := by
  subst hz
  obtain ⟨_, _, _, _, _, _, _, _, hD⟩ := h.opened
  exact hD.wi' m
theorem Doc.lt (h : Doc p out st en kd pos si ni wi w) : p < w.heap.size := by
  obtain ⟨_, _, _, _, _, _, _, _, hD⟩ := h.opened
  exact hD.lt
end
theorem below_set {p i : Nat} {w w' : World} {u : Value} (h : Below p w w') : Below p w (w'.setCell ⟨p, i, none⟩ u) := h.setCell (by exact Nat.le_refl p) u

theorem ws_fin {p : Nat} {v0 v1 v2 v3 : Value} {out news : List UInt8} {st en : List Nat} {kd : List UInt8} {pos si ni wi : Nat} {w w1 : World} {v' : Value} {z : Int} (hD : D4 p v0 v1 v2 v3 out st en kd pos si ni wi w)
    (h1 : RowB (p + 1) v' (out ++ news) w1) (hmv : Moves w v0 w1 v') (hn : news.length = 1) (hz : z = ((wi + 1 : Nat) : Int)) :
    WsEnd p out st en kd pos si ni wi w (.returned (.tuple #[])) ((w1.setCell ⟨p, 0, none⟩ v').setCell ⟨p, 7, none⟩ (.int .i64 z)) := by
  match news, hn with
  | [c], _ => exact ⟨rfl, c, (hD.put0 h1 hmv).wi1 hz, below_set (below_set (below_moves hD.r0 hmv hD.lt))⟩

set_option maxRecDepth 100000 in
set_option maxHeartbeats 4000000 in
theorem ws_any (p : Nat) (out : List UInt8) (st en : List Nat) (kd : List UInt8) (pos si ni wi : Nat) (w : World) (h : Doc p out st en kd pos si ni wi w) (ho : out.length ≤ 1000000000000) (hw : wi ≤ 1000000000000) :
    Calls Try.prog 22 #[.pointer (some ⟨p, 0, none⟩)] w fun e w' => WsEnd p out st en kd pos si ni wi w e w' := by
  obtain ⟨o0, k0, o1, k1, o2, k2, o3, k3, hD⟩ := h.opened
  obtain ⟨c0, f0⟩ := hD.c0
  obtain ⟨c7, f7⟩ := hD.c7
  have HD := Lib.hid hD
  have hlt := hD.lt
  clear hD h
  have ht : (wi : Int).tmod 4 = ((wi % 4 : Nat) : Int) := by rw [Int.tmod_eq_emod_of_nonneg (by omega)]; omega
  rcases (by omega : wi % 4 = 0 ∨ wi % 4 = 1 ∨ wi % 4 = 2 ∨ wi % 4 = 3) with e | e | e | e
  all_goals
    rw [e] at ht
    clear e
    go_enter Try.func22, Try.ntmps22
    go_wp2
    go_region_law (refine step_any w rfl (.tmp 6) (.tmp 13) rfl (p + 1) out _ ⟨⟨_, rfl, by decide, by decide⟩, trivial⟩ (.slice o0 out.length k0) (by simp [Act.eval]) 1 (by decide) rfl (by simp [Act.eval]) HD.out.r0 (by omega) (by omega) ?_; intro news v' w1 hn1 h1 hmv; obtain ⟨o5, k5, rfl⟩ := RowB.shape h1; obtain ⟨cc0, ff0⟩ := HD.out.c0.grown HD.out.r0 hmv.1; obtain ⟨cc7, ff7⟩ := HD.out.c7.grown HD.out.r0 hmv.1)
    all_goals
      go_wp2
      rw [show (out ++ news).length = out.length + 1 by simp [hn1]] at h1 hmv
      go_end0
      exact ws_fin HD.out h1 hmv hn1 (by omega)

end Go.Proofs.Qxb6600588a
