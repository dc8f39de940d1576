/-
  The map as a plain table; the two slices as plain lists.
-/
import Derived.Test.Qxb6600570aPlain
import Derived.WalkKit
import Derived.WalkSpells
import Derived.WalkArith
import Derived.Lib.Hide
import Derived.Deep.LoopGhost
import Derived.Deep.CutBlock
import Derived.Maps.RangeWalk
import Derived.Maps.OwnOps
namespace Go.Proofs.Qxb6600570a
open Go.RowKit Go.Maps

theorem law3 : Keyed Try.prog 3 := int_keyed Try.underlying3
theorem zero4 (w : World) : (zeroValue 4).run Try.prog w = .ok (.bool false) w := by kernel_rfl

/-- An int. -/
def In (x : Int) : Prop := -9223372036854775808 ≤ x ∧ x ≤ 9223372036854775807
theorem In.wf {x : Int} (h : In x) : (Lit.int .i64 x).wf = true := by
  obtain ⟨h1, h2⟩ := h
  simp [Lit.wf, IntKind.min, IntKind.max, IntKind.signed, IntKind.bits]
  omega
theorem In.key {x : Int} (h : In x) : keyOf Try.prog 3 (.int .i64 x) = some (.int .i64 x) := keyOf_int_mk Try.underlying3 h.wf
theorem in_of_wf {x : Int} (h : (Lit.int .i64 x).wf = true) : In x := by
  have h1 : IntKind.i64.min = -9223372036854775808 := by decide
  have h2 : IntKind.i64.max = 9223372036854775807 := by decide
  simp [Lit.wf] at h
  unfold In
  omega

theorem plainElem_bool_inv {v : Value} {z : DataW Unit × List MemPlace} (h : plainElem Try.prog 4 v = some z) : ∃ a, v = .bool a ∧ z = (.lit (.bool a), []) := by
  unfold plainElem at h
  rw [Try.underlying4] at h
  cases v <;> simp at h
  exact ⟨_, rfl, h.symm⟩

/-- The datum holds the table T. -/
def Says (D : DataW Unit) (T : Int → Option Bool) : Prop :=
  IsMap D ∧ (∀ x, In x → has D (.int .i64 x) = (T x).isSome) ∧ (∀ x, In x → D.atKey (.int .i64 x) (.lit (.bool false)) = .lit (.bool (tru T x)))
def Owns (w : World) (b n : Nat) (D : DataW Unit) : Prop := w.ownsMap Try.prog 3 (plainElem Try.prog 4) b n D
/-- Block b is a map of at most n entries that holds the table T. -/
def Holds (w : World) (b n : Nat) (T : Int → Option Bool) : Prop := ∃ D, Owns w b n D ∧ Says D T

theorem says_empty : Says (.map []) (fun _ => none) := ⟨isMap_empty, fun _ _ => rfl, fun _ _ => rfl⟩
theorem lit_ne {x y : Int} (h : x ≠ y) : Lit.int .i64 x ≠ Lit.int .i64 y := fun e => h (by cases e; rfl)
theorem key_lit (x : Int) : WideAt.IsKeyLit (.int .i64 x) := trivial
theorem Says.put {D : DataW Unit} {T : Int → Option Bool} (h : Says D T) (k : Int) (v : Bool) : Says (D.put (.int .i64 k) (.lit (.bool v))) (upd T k v) := by
  obtain ⟨h0, h1, h2⟩ := h
  refine ⟨h0.put _ _, fun x hx => ?_, fun x hx => ?_⟩
  · by_cases e : x = k
    · subst e
      rw [has_put_same h0 (key_lit _)]
      simp [upd]
    · rw [has_put_other (lit_ne e), h1 x hx]
      simp [upd, e]
  · by_cases e : x = k
    · subst e
      rw [atKey_put_same h0 (key_lit _)]
      simp [upd, tru]
    · rw [atKey_put_other (lit_ne e), h2 x hx]
      simp [upd, tru, e]

theorem Holds.made (w : World) : Holds (w.alloc (.map #[] 0)) w.heap.size 0 (fun _ => none) := ⟨.map [], World.ownsMap_made _ _ _ _, says_empty⟩
theorem Holds.lt {w : World} {b n : Nat} {T : Int → Option Bool} (h : Holds w b n T) : b < w.heap.size := by
  obtain ⟨D, h1, _⟩ := h
  exact World.ownsMap.lt h1
theorem Holds.on {w w' : World} {b n : Nat} {T : Int → Option Bool} (h : Holds w b n T) (hb : Below w.heap.size w w') : Holds w' b n T := by
  obtain ⟨D, h1, h2⟩ := h
  exact ⟨D, World.ownsMap.kept (row := none) h1 ⟨hb.os, hb.tape, hb.output, hb.size, fun k hk _ => hb.block k hk⟩ (by simp), h2⟩
theorem Owns.look {w : World} {b n : Nat} {D : DataW Unit} {T : Int → Option Bool} (h : Owns w b n D) (hs : Says D T) {x : Int} (hx : In x) :
    (Instr.lookup 27 (.map (some b)) (.int .i64 x) false).run Try.prog w = .ok (.bool (tru T x)) w := by
  obtain ⟨v, ps, hrun, hv⟩ := World.ownsMap.lookup h law3 Try.underlying27 (zero4 w) (plainElem_bool Try.underlying4 false) hx.key
  obtain ⟨a, rfl, hz⟩ := plainElem_bool_inv hv
  rw [hs.2.2 x hx] at hz
  simp only [Prod.mk.injEq, DataW.lit.injEq, Lit.bool.injEq] at hz
  rw [hrun, hz.1]
theorem Holds.look {w : World} {b n : Nat} {T : Int → Option Bool} (h : Holds w b n T) {x : Int} (hx : In x) :
    (Instr.lookup 27 (.map (some b)) (.int .i64 x) false).run Try.prog w = .ok (.bool (tru T x)) w := by
  obtain ⟨D, h1, h2⟩ := h
  exact Owns.look h1 h2 hx

/-- A map of fewer entries than there are ints: some int is not true in it. -/
theorem Holds.some_free {w : World} {b n : Nat} {T : Int → Option Bool} (h : Holds w b n T) (hn : n ≤ 1000000) : ∃ f, In f ∧ tru T f = false := by
  obtain ⟨D, h1, h2, h3, h4⟩ := h
  apply Classical.byContradiction
  intro hno
  have hall : ∀ x, In x → tru T x = true := fun x hx => by
    cases e : tru T x
    · exact absurd ⟨x, hx, e⟩ hno
    · rfl
  obtain ⟨es, rfl, hp, hk⟩ := World.ownsMap.entries h1 law3
  have hle := World.ownsMap.size_le h1
  have hl : es.length ≤ n := hle
  let f : Lit × DataW Unit → Int := fun p => match p.1 with | .int _ a => a | _ => 0
  have hsub : ∀ x ∈ span 0 1000001, x ∈ es.map f := fun x hx => by
    have hx' := mem_span.1 hx
    have hin : In x := by unfold In; omega
    have hh : has (.map es) (.int .i64 x) = true := by
      rw [h3 x hin]
      have := hall x hin
      unfold tru at this
      cases e : T x
      · rw [e] at this; cases this
      · rfl
    obtain ⟨p, hp, hs⟩ := List.any_eq_true.1 hh
    have := WideAt.sameKey_eq hs
    exact List.mem_map.2 ⟨p, hp, by simp only [f, this]⟩
  have := nodup_len _ _ (span_nodup 0 1000001) hsub
  rw [span_len, List.length_map] at this
  omega

/-! ### slices -/
/-- The slice at 'oa' holds the values L, below block B. -/
def Seen (B : Nat) (w : World) (oa : Option Addr) (L : List Value) : Prop :=
  L = [] ∨ ∃ b off, oa = some ⟨b, off, none⟩ ∧ b < B ∧ ∀ (j : Nat) v, L[j]? = some v → w.cell? ⟨b, off + j, none⟩ = some v
theorem Seen.on {B B' : Nat} {w w' : World} {oa : Option Addr} {L : List Value} (h : Seen B w oa L) (hb : Below B w w') (hB : B ≤ B') : Seen B' w' oa L := by
  rcases h with h | ⟨b, off, e, hlt, hc⟩
  · exact Or.inl h
  · refine Or.inr ⟨b, off, e, by omega, fun j v hv => ?_⟩
    rw [hb.cell (by exact hlt)]
    exact hc j v hv
abbrev vi (l : List Int) : List Value := l.map (Value.int .i64)
abbrev vb (l : List Bool) : List Value := l.map Value.bool
theorem Seen.int {B : Nat} {w : World} {oa : Option Addr} {l : List Int} (h : Seen B w oa (vi l)) {k : Nat} (hk : k < l.length) :
    ∃ b off, oa = some ⟨b, off, none⟩ ∧ b < B ∧ w.cell? ⟨b, off + k, none⟩ = some (.int .i64 (l.getD k 0)) := by
  rcases h with h | ⟨b, off, e, hlt, hc⟩
  · have := congrArg List.length h
    simp at this; subst this; simp at hk
  · refine ⟨b, off, e, hlt, hc k _ ?_⟩
    simp [List.getElem?_map, List.getElem?_eq_getElem hk]
theorem Seen.bool {B : Nat} {w : World} {oa : Option Addr} {l : List Bool} (h : Seen B w oa (vb l)) {k : Nat} (hk : k < l.length) :
    ∃ b off, oa = some ⟨b, off, none⟩ ∧ b < B ∧ w.cell? ⟨b, off + k, none⟩ = some (.bool (pv l k)) := by
  rcases h with h | ⟨b, off, e, hlt, hc⟩
  · have := congrArg List.length h
    simp at this; subst this; simp at hk
  · refine ⟨b, off, e, hlt, hc k _ ?_⟩
    simp [List.getElem?_map, List.getElem?_eq_getElem hk, pv]
theorem pv_past {l : List Bool} {k : Nat} (h : l.length ≤ k) : pv l k = true := by simp [pv, List.getElem?_eq_none h]

end Go.Proofs.Qxb6600570a
