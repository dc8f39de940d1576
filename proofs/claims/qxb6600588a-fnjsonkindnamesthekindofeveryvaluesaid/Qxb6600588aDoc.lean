/-
  The document under construction: a struct's eight cells and the four rows behind it.
-/
import Derived.Test.Qxb6600588aRows
import Derived.WalkKit
import Derived.WalkSpells
import Derived.WalkArith
import Derived.Lib.Hide
import Derived.Lib.AppendStr
import Derived.Lib.BufferRead
import Derived.Lib.OwnKind
import Derived.Lib.SmallJoins
import Derived.Deep.LoopGhost
import Derived.Deep.CutBlock
import Derived.Deep.AppendLies
import Derived.Deep.RegionLaw
import Derived.Maps.Range
namespace Go.Proofs.Qxb6600588a
open Go.RowKit

theorem infoByte : (Try.prog.info? 5).map (fun i => (i.zero, i.size, i.bytes)) = some (some (.int .u8 0), 1, 1) := by kernel_rfl
theorem infoInt : (Try.prog.info? 3).map (fun i => (i.zero, i.size, i.bytes)) = some (some (.int .i64 0), 1, 8) := by kernel_rfl

/-- A cell that holds v and may be written. -/
def Cl (w : World) (p i : Nat) (v : Value) : Prop := w.cell? ⟨p, i, none⟩ = some v ∧ w.frozen? ⟨p, i, none⟩ = false

/-- From v in w to v' in w': only v's row and new blocks have turned; v' lies in v's row or in a new block. -/
def Moves (w : World) (v : Value) (w' : World) (v' : Value) : Prop := w.grownBy w' v.ownBlock ∧ (v'.ownBlock = v.ownBlock ∨ ∃ g, v'.ownBlock = some g ∧ w.heap.size ≤ g)

theorem Moves.refl (w : World) (v : Value) : Moves w v w v := ⟨⟨rfl, rfl, rfl, Nat.le_refl _, fun _ _ _ => rfl⟩, Or.inl rfl⟩
theorem Moves.trans {w w' w'' : World} {v v' v'' : Value} (h : Moves w v w' v') (k : Moves w' v' w'' v'') : Moves w v w'' v'' := by
  refine ⟨h.1.andThen k.1 (fun j hj => ?_), ?_⟩
  · rcases h.2 with e | ⟨g, e, hg⟩
    · right; rw [← e]; exact hj
    · rw [e] at hj; cases hj; exact Or.inl hg
  · rcases k.2 with e | ⟨g, e, hg⟩
    · rw [e]; exact h.2
    · exact Or.inr ⟨g, e, Nat.le_trans h.1.size hg⟩
theorem Moves.alloc {w w' : World} {v v' : Value} (h : Moves w v w' v') (o : Obj) : Moves w v (w'.alloc o) v' := by
  refine ⟨h.1.andThen (World.grownBy_alloc w' o none) (fun j hj => by cases hj), h.2⟩

/-! ### the four rows -/
def ty (i : Nat) : TypeId := if i = 0 ∨ i = 3 then 5 else 3
def Rws (p : Nat) (V : Nat → Value) (X : Nat → List Value) (w : World) : Prop :=
  p < w.heap.size ∧ (∀ i, i < 4 → Cl w p i (V i)) ∧ (∀ i, i < 4 → w.ownsRow (p + 1) (ty i) 1 (V i) (X i).length (X i)) ∧
  (∀ i j, i < 4 → j < 4 → i ≠ j → (V i).ownBlock = none ∨ (V i).ownBlock ≠ (V j).ownBlock)
def Nms (p : Nat) (N : Nat → Nat) (w : World) : Prop := ∀ i, i < 4 → Cl w p (4 + i) (.int .i64 (N i : Int))

theorem own_above {w : World} {p n : Nat} {e : TypeId} {v : Value} {xs : List Value} (h : w.ownsRow (p + 1) e 1 v n xs) : some p ≠ v.ownBlock := fun e1 => by
  have := (h.lt p e1.symm).1
  omega
theorem Cl.grown {w w' : World} {p i n : Nat} {e : TypeId} {u v : Value} {xs : List Value} (h : Cl w p i u) (ho : w.ownsRow (p + 1) e 1 v n xs) (hg : w.grownBy w' v.ownBlock) : Cl w' p i u := by
  have hlt := World.block_lt_of_cell? w _ h.1
  exact ⟨(hg.cell_far ⟨p, i, none⟩ hlt (own_above ho)).trans h.1, (hg.frozen_far ⟨p, i, none⟩ hlt (own_above ho)).trans h.2⟩
theorem Cl.setOther {w : World} {p i b j : Nat} {u x : Value} (h : Cl w p i u) (hne : ¬ (p = b ∧ i = j)) : Cl (w.setCell ⟨b, j, none⟩ x) p i u := by
  refine ⟨(World.cell?_setCell_other _ _ _ _ (fun e => hne ?_)).trans h.1, (World.frozen?_setCell _ _ _ _).trans h.2⟩
  cases e; exact ⟨rfl, rfl⟩
theorem Cl.setSame {w : World} {p i : Nat} {u x : Value} (h : Cl w p i u) : Cl (w.setCell ⟨p, i, none⟩ x) p i x :=
  ⟨World.cell?_setCell_same _ _ _ h.1, (World.frozen?_setCell _ _ _ _).trans h.2⟩

theorem Rws.set {p : Nat} {V : Nat → Value} {X : Nat → List Value} {w w' : World} (h : Rws p V X w) {k : Nat} (hk : k < 4) {v' : Value} {xs' : List Value} (ho : w'.ownsRow (p + 1) (ty k) 1 v' xs'.length xs') (hm : Moves w (V k) w' v') :
    Rws p (fun i => if i = k then v' else V i) (fun i => if i = k then xs' else X i) (w'.setCell ⟨p, k, none⟩ v') := by
  obtain ⟨h0, h1, h2, h3⟩ := h
  have hok := h2 k hk
  refine ⟨by have := hm.1.size; simp; omega, fun i hi => ?_, fun i hi => ?_, fun i j hi hj hne => ?_⟩
  · by_cases e : i = k
    · subst e
      simp only [if_true]
      exact ((h1 i hi).grown hok hm.1).setSame
    · simp only [if_neg e]
      exact ((h1 i hi).grown hok hm.1).setOther (fun ⟨_, e2⟩ => e e2)
  · by_cases e : i = k
    · subst e
      simp only [if_true]
      exact ownsRow_setCell_below ho (by show p < p + 1; omega) _
    · simp only [if_neg e]
      exact ownsRow_setCell_below ((h2 i hi).kept hm.1 (h3 i k hi hk e)) (by show p < p + 1; omega) _
  · by_cases ei : i = k <;> by_cases ej : j = k
    · omega
    · simp only [if_pos ei, if_neg ej]
      subst ei
      rcases hm.2 with e | ⟨g, e, hg⟩
      · rw [e]; exact h3 i j hi hj hne
      · right
        rw [e]
        intro e2
        have := ((h2 j hj).lt g e2.symm).2
        omega
    · simp only [if_neg ei, if_pos ej]
      subst ej
      rcases hm.2 with e | ⟨g, e, hg⟩
      · rw [e]; exact h3 i j hi hj hne
      · right
        rw [e]
        intro e2
        have := ((h2 i hi).lt g e2).2
        omega
    · simp only [if_neg ei, if_neg ej]
      exact h3 i j hi hj hne
theorem Nms.set {p n : Nat} {e : TypeId} {N : Nat → Nat} {w w' : World} {v v' : Value} {xs : List Value} (h : Nms p N w) (ho : w.ownsRow (p + 1) e 1 v n xs) (hg : w.grownBy w' v.ownBlock) {k : Nat} (hk : k < 4) : Nms p N (w'.setCell ⟨p, k, none⟩ v') :=
  fun i hi => ((h i hi).grown ho hg).setOther (fun ⟨_, e⟩ => by omega)
/-- A number is written. -/
theorem Nms.num {p : Nat} {N : Nat → Nat} {w : World} (h : Nms p N w) {k : Nat} (m : Nat) : Nms p (fun i => if i = k then m else N i) (w.setCell ⟨p, 4 + k, none⟩ (.int .i64 (m : Int))) := by
  intro i hi
  by_cases e : i = k
  · subst e
    simp only [if_true]
    exact (h i hi).setSame
  · simp only [if_neg e]
    exact (h i hi).setOther (fun ⟨_, e2⟩ => by omega)
theorem Rws.num {p : Nat} {V : Nat → Value} {X : Nat → List Value} {w : World} (h : Rws p V X w) (k : Nat) (u : Value) : Rws p V X (w.setCell ⟨p, 4 + k, none⟩ u) := by
  obtain ⟨h0, h1, h2, h3⟩ := h
  exact ⟨by simpa using h0, fun i hi => (h1 i hi).setOther (fun ⟨_, e⟩ => by omega), fun i hi => ownsRow_setCell_below (h2 i hi) (by show p < p + 1; omega) _, h3⟩

/-! ### the document -/
abbrev ints (l : List Nat) : List Value := l.map fun (n : Nat) => Value.int .i64 (n : Int)
def cols (out : List UInt8) (st en : List Nat) (kd : List UInt8) (i : Nat) : List Value :=
  if i = 0 then Lib.byteCells out else if i = 1 then ints st else if i = 2 then ints en else Lib.byteCells kd
def nums (pos si ni wi : Nat) (i : Nat) : Nat := if i = 0 then pos else if i = 1 then si else if i = 2 then ni else wi
def Doc (p : Nat) (out : List UInt8) (st en : List Nat) (kd : List UInt8) (pos si ni wi : Nat) (w : World) : Prop :=
  ∃ V, Rws p V (cols out st en kd) w ∧ Nms p (nums pos si ni wi) w

theorem Rws.congr {p : Nat} {V : Nat → Value} {X X' : Nat → List Value} {w : World} (h : Rws p V X w) (he : ∀ i, i < 4 → X i = X' i) : Rws p V X' w := by
  obtain ⟨h0, h1, h2, h3⟩ := h
  exact ⟨h0, h1, fun i hi => by rw [← he i hi]; exact h2 i hi, h3⟩
theorem Nms.congr {p : Nat} {N N' : Nat → Nat} {w : World} (h : Nms p N w) (he : ∀ i, i < 4 → N i = N' i) : Nms p N' w := fun i hi => by rw [← he i hi]; exact h i hi

/-- A row's value, by its shape. -/
theorem row_shape {w : World} {B : Nat} {e : TypeId} {v : Value} {xs : List Value} (h : w.ownsRow B e 1 v xs.length xs) : ∃ oa cap, v = .slice oa xs.length cap := by
  rcases h.2 with ⟨e1, e2⟩ | ⟨g, cap, cur, e1, _⟩
  · exact ⟨none, 0, by rw [e2]; exact e1⟩
  · exact ⟨_, cap, e1⟩

/-- Where the bytes of a string go. -/
theorem run_append_str_lies (w : World) (tr : TypeId) (B : Nat) (v : Value) (xs : List Value) (hown : w.ownsRow B 5 1 v xs.length xs) (s : ByteArray) (hp : 0 < s.size) (hlen : xs.length + s.size ≤ 140737488355328) (hB : B ≤ w.heap.size) :
    ∃ v' w', (Builtin.append_ #[22, 9] tr #[v, .string s]).run Try.prog w = .ok v' w' ∧ w'.ownsRow B 5 1 v' (xs ++ Lib.strCells s).length (xs ++ Lib.strCells s) ∧ Moves w v w' v' := by
  obtain ⟨i0, hi, hz0, hz1, hz2⟩ := info_parts infoByte
  obtain ⟨v', w', hr, h1, h2, _⟩ := Lib.run_append_own_string (P := Try.prog) w B 22 9 tr 5 i0 Try.underlying22 Try.underlying9 hi hz0 hz1 hz2 v xs.length xs hown s (by unfold maxLen; omega) hlen hB
  refine ⟨v', w', hr, by rw [List.length_append, Lib.strCells_length]; exact h1, h2, ?_⟩
  rcases hown.2 with ⟨rfl, h0⟩ | ⟨g, cap, cur, rfl, hbg, hg, hnc, hcm, hcs, htake⟩
  · have hx : xs = [] := List.eq_nil_of_length_eq_zero h0
    subst hx
    have hr2 := run_append_nil_string (P := Try.prog) w 22 9 tr 5 i0 (.int .u8 0) Try.underlying22 Try.underlying9 hi hz0 s (by omega) (by simp at hlen; omega) (by rw [hz2]; simp at hlen; omega)
    rw [hr2] at hr
    cases hr
    exact Or.inr ⟨_, rfl, Nat.le_refl _⟩
  · by_cases hroom : xs.length + s.size ≤ cap
    · have hr2 := Lib.run_append_room_string (P := Try.prog) w 22 9 tr 5 i0 Try.underlying22 Try.underlying9 hi hz1 g xs.length cap cur hg s hroom (by simp at hcs; omega)
      rw [hr2] at hr
      cases hr
      exact Or.inl rfl
    · have holds : ∀ j u, xs[j]? = some u → w.cell? ((⟨g, 0, none⟩ : Addr).add j) = some u := hown.cells (g := g) rfl
      have hr2 := Lib.run_append_grow_string (P := Try.prog) w 22 9 tr 5 i0 (.int .u8 0) Try.underlying22 Try.underlying9 hi hz0 ⟨g, 0, none⟩ xs.length cap xs (by rw [hz1]; simp) holds s (by omega) (by omega) (by rw [hz2]; exact growslice_fits (by omega) (by omega))
      rw [hr2] at hr
      cases hr
      exact Or.inr ⟨_, rfl, Nat.le_refl _⟩

/-! ### the document with its values written out -/
def pick (v0 v1 v2 v3 : Value) (i : Nat) : Value := if i = 0 then v0 else if i = 1 then v1 else if i = 2 then v2 else v3
def D4 (p : Nat) (v0 v1 v2 v3 : Value) (out : List UInt8) (st en : List Nat) (kd : List UInt8) (pos si ni wi : Nat) (w : World) : Prop :=
  Rws p (pick v0 v1 v2 v3) (cols out st en kd) w ∧ Nms p (nums pos si ni wi) w

section
variable {p : Nat} {v0 v1 v2 v3 : Value} {out : List UInt8} {st en : List Nat} {kd : List UInt8} {pos si ni wi : Nat} {w : World}

theorem four {i : Nat} (h : i < 4) : i = 0 ∨ i = 1 ∨ i = 2 ∨ i = 3 := by omega
theorem Doc.opened (h : Doc p out st en kd pos si ni wi w) : ∃ o0 k0 o1 k1 o2 k2 o3 k3, D4 p (.slice o0 out.length k0) (.slice o1 st.length k1) (.slice o2 en.length k2) (.slice o3 kd.length k3) out st en kd pos si ni wi w := by
  obtain ⟨V, hR, hN⟩ := h
  obtain ⟨o0, k0, e0⟩ := row_shape (hR.2.2.1 0 (by omega))
  obtain ⟨o1, k1, e1⟩ := row_shape (hR.2.2.1 1 (by omega))
  obtain ⟨o2, k2, e2⟩ := row_shape (hR.2.2.1 2 (by omega))
  obtain ⟨o3, k3, e3⟩ := row_shape (hR.2.2.1 3 (by omega))
  have l0 : (cols out st en kd 0).length = out.length := by simp [cols, Lib.byteCells]
  have l1 : (cols out st en kd 1).length = st.length := by simp [cols]
  have l2 : (cols out st en kd 2).length = en.length := by simp [cols]
  have l3 : (cols out st en kd 3).length = kd.length := by simp [cols, Lib.byteCells]
  rw [l0] at e0
  rw [l1] at e1
  rw [l2] at e2
  rw [l3] at e3
  refine ⟨o0, k0, o1, k1, o2, k2, o3, k3, ?_, hN⟩
  have hV : ∀ i, i < 4 → pick (.slice o0 out.length k0) (.slice o1 st.length k1) (.slice o2 en.length k2) (.slice o3 kd.length k3) i = V i := fun i hi => by
    rcases four hi with rfl | rfl | rfl | rfl <;> simp [pick, e0, e1, e2, e3]
  obtain ⟨h0, h1, h2, h3⟩ := hR
  exact ⟨h0, fun i hi => by rw [hV i hi]; exact h1 i hi, fun i hi => by rw [hV i hi]; exact h2 i hi, fun i j hi hj hne => by rw [hV i hi, hV j hj]; exact h3 i j hi hj hne⟩
theorem D4.doc (h : D4 p v0 v1 v2 v3 out st en kd pos si ni wi w) : Doc p out st en kd pos si ni wi w := ⟨_, h⟩
theorem D4.lt (h : D4 p v0 v1 v2 v3 out st en kd pos si ni wi w) : p < w.heap.size := h.1.1
theorem D4.c0 (h : D4 p v0 v1 v2 v3 out st en kd pos si ni wi w) : Cl w p 0 v0 := h.1.2.1 0 (by omega)
theorem D4.c1 (h : D4 p v0 v1 v2 v3 out st en kd pos si ni wi w) : Cl w p 1 v1 := h.1.2.1 1 (by omega)
theorem D4.c2 (h : D4 p v0 v1 v2 v3 out st en kd pos si ni wi w) : Cl w p 2 v2 := h.1.2.1 2 (by omega)
theorem D4.c3 (h : D4 p v0 v1 v2 v3 out st en kd pos si ni wi w) : Cl w p 3 v3 := h.1.2.1 3 (by omega)
theorem D4.c4 (h : D4 p v0 v1 v2 v3 out st en kd pos si ni wi w) : Cl w p 4 (.int .i64 (pos : Int)) := h.2 0 (by omega)
theorem D4.c5 (h : D4 p v0 v1 v2 v3 out st en kd pos si ni wi w) : Cl w p 5 (.int .i64 (si : Int)) := h.2 1 (by omega)
theorem D4.c6 (h : D4 p v0 v1 v2 v3 out st en kd pos si ni wi w) : Cl w p 6 (.int .i64 (ni : Int)) := h.2 2 (by omega)
theorem D4.c7 (h : D4 p v0 v1 v2 v3 out st en kd pos si ni wi w) : Cl w p 7 (.int .i64 (wi : Int)) := h.2 3 (by omega)
theorem D4.r0 (h : D4 p v0 v1 v2 v3 out st en kd pos si ni wi w) : w.ownsRow (p + 1) 5 1 v0 (Lib.byteCells out).length (Lib.byteCells out) := h.1.2.2.1 0 (by omega)
theorem D4.r1 (h : D4 p v0 v1 v2 v3 out st en kd pos si ni wi w) : w.ownsRow (p + 1) 3 1 v1 (ints st).length (ints st) := h.1.2.2.1 1 (by omega)
theorem D4.r2 (h : D4 p v0 v1 v2 v3 out st en kd pos si ni wi w) : w.ownsRow (p + 1) 3 1 v2 (ints en).length (ints en) := h.1.2.2.1 2 (by omega)
theorem D4.r3 (h : D4 p v0 v1 v2 v3 out st en kd pos si ni wi w) : w.ownsRow (p + 1) 5 1 v3 (Lib.byteCells kd).length (Lib.byteCells kd) := h.1.2.2.1 3 (by omega)

theorem D4.put0 (h : D4 p v0 v1 v2 v3 out st en kd pos si ni wi w) {w' : World} {v' : Value} {out' : List UInt8} (ho : w'.ownsRow (p + 1) 5 1 v' (Lib.byteCells out').length (Lib.byteCells out')) (hm : Moves w v0 w' v') :
    Doc p out' st en kd pos si ni wi (w'.setCell ⟨p, 0, none⟩ v') :=
  ⟨_, (h.1.set (k := 0) (by omega) ho hm).congr (fun i hi => by rcases four hi with rfl | rfl | rfl | rfl <;> simp [cols]), h.2.set h.r0 hm.1 (by omega)⟩
theorem D4.put1 (h : D4 p v0 v1 v2 v3 out st en kd pos si ni wi w) {w' : World} {v' : Value} {st' : List Nat} (ho : w'.ownsRow (p + 1) 3 1 v' (ints st').length (ints st')) (hm : Moves w v1 w' v') :
    Doc p out st' en kd pos si ni wi (w'.setCell ⟨p, 1, none⟩ v') :=
  ⟨_, (h.1.set (k := 1) (by omega) ho hm).congr (fun i hi => by rcases four hi with rfl | rfl | rfl | rfl <;> simp [cols]), h.2.set h.r1 hm.1 (by omega)⟩
theorem D4.put2 (h : D4 p v0 v1 v2 v3 out st en kd pos si ni wi w) {w' : World} {v' : Value} {en' : List Nat} (ho : w'.ownsRow (p + 1) 3 1 v' (ints en').length (ints en')) (hm : Moves w v2 w' v') :
    Doc p out st en' kd pos si ni wi (w'.setCell ⟨p, 2, none⟩ v') :=
  ⟨_, (h.1.set (k := 2) (by omega) ho hm).congr (fun i hi => by rcases four hi with rfl | rfl | rfl | rfl <;> simp [cols]), h.2.set h.r2 hm.1 (by omega)⟩
theorem D4.put3 (h : D4 p v0 v1 v2 v3 out st en kd pos si ni wi w) {w' : World} {v' : Value} {kd' : List UInt8} (ho : w'.ownsRow (p + 1) 5 1 v' (Lib.byteCells kd').length (Lib.byteCells kd')) (hm : Moves w v3 w' v') :
    Doc p out st en kd' pos si ni wi (w'.setCell ⟨p, 3, none⟩ v') :=
  ⟨_, (h.1.set (k := 3) (by omega) ho hm).congr (fun i hi => by rcases four hi with rfl | rfl | rfl | rfl <;> simp [cols]), h.2.set h.r3 hm.1 (by omega)⟩
theorem D4.pos' (h : D4 p v0 v1 v2 v3 out st en kd pos si ni wi w) (m : Nat) : Doc p out st en kd m si ni wi (w.setCell ⟨p, 4, none⟩ (.int .i64 (m : Int))) :=
  ⟨_, h.1.num 0 _, (h.2.num (k := 0) m).congr (fun i hi => by rcases four hi with rfl | rfl | rfl | rfl <;> simp [nums])⟩
theorem D4.si' (h : D4 p v0 v1 v2 v3 out st en kd pos si ni wi w) (m : Nat) : Doc p out st en kd pos m ni wi (w.setCell ⟨p, 5, none⟩ (.int .i64 (m : Int))) :=
  ⟨_, h.1.num 1 _, (h.2.num (k := 1) m).congr (fun i hi => by rcases four hi with rfl | rfl | rfl | rfl <;> simp [nums])⟩
theorem D4.ni' (h : D4 p v0 v1 v2 v3 out st en kd pos si ni wi w) (m : Nat) : Doc p out st en kd pos si m wi (w.setCell ⟨p, 6, none⟩ (.int .i64 (m : Int))) :=
  ⟨_, h.1.num 2 _, (h.2.num (k := 2) m).congr (fun i hi => by rcases four hi with rfl | rfl | rfl | rfl <;> simp [nums])⟩
theorem D4.wi' (h : D4 p v0 v1 v2 v3 out st en kd pos si ni wi w) (m : Nat) : Doc p out st en kd pos si ni m (w.setCell ⟨p, 7, none⟩ (.int .i64 (m : Int))) :=
  ⟨_, h.1.num 3 _, (h.2.num (k := 3) m).congr (fun i hi => by rcases four hi with rfl | rfl | rfl | rfl <;> simp [nums])⟩

/-- 'd.ends[k] = m'. -/
theorem D4.end' (h : D4 p v0 v1 v2 v3 out st en kd pos si ni wi w) {g cap : Nat} (hv : v2 = .slice (some ⟨g, 0, none⟩) en.length cap) (k m : Nat) :
    Doc p out st (en.set k m) kd pos si ni wi (w.setCell ⟨g, k, none⟩ (.int .i64 (m : Int))) := by
  have hr := h.r2
  subst hv
  have hl : (ints en).length = en.length := by simp
  rw [hl] at hr
  obtain ⟨s1, s2⟩ := hr.stored k (.int .i64 (m : Int))
  have hset : (ints en).set k (.int .i64 (m : Int)) = ints (en.set k m) := by simp [List.map_set]
  obtain ⟨⟨h0, h1, h2, h3⟩, hN⟩ := h
  have hg : some g = (pick v0 v1 (.slice (some ⟨g, 0, none⟩) en.length cap) v3 2).ownBlock := by simp [pick, Value.ownBlock]
  rw [hg] at s2
  have ho := h2 2 (by omega)
  refine ⟨_, ⟨by simpa using h0, fun i hi => (h1 i hi).grown ho s2, fun i hi => ?_, h3⟩, fun i hi => (hN i hi).grown ho s2⟩
  by_cases e : i = 2
  · subst e
    have : cols out st (en.set k m) kd 2 = ints (en.set k m) := by simp [cols]
    rw [this, ← hset]
    rw [List.length_set, hl]
    exact s1
  · have hc : cols out st (en.set k m) kd i = cols out st en kd i := by
      rcases four hi with rfl | rfl | rfl | rfl <;> simp [cols] at e ⊢
    rw [hc]
    exact (h2 i hi).kept s2 (h3 i 2 hi (by omega) e)
end

theorem Doc.alloc {p : Nat} {out : List UInt8} {st en : List Nat} {kd : List UInt8} {pos si ni wi : Nat} {w w' : World} (h : Doc p out st en kd pos si ni wi w) (hg : w.grownBy w' none) : Doc p out st en kd pos si ni wi w' := by
  obtain ⟨V, ⟨h0, h1, h2, h3⟩, hN⟩ := h
  have hc : ∀ i v, Cl w p i v → Cl w' p i v := fun i v hc => ⟨(hg.cell_far ⟨p, i, none⟩ h0 (by simp)).trans hc.1, (hg.frozen_far ⟨p, i, none⟩ h0 (by simp)).trans hc.2⟩
  exact ⟨V, ⟨Nat.lt_of_lt_of_le h0 hg.size, fun i hi => hc _ _ (h1 i hi), fun i hi => (h2 i hi).kept hg (by cases (V i).ownBlock <;> simp), h3⟩, fun i hi => hc _ _ (hN i hi)⟩

end Go.Proofs.Qxb6600588a
