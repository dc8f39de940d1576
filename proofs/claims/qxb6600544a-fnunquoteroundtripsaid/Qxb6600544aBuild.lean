/-
  strings.Builder at this dump: copyCheck and WriteByte walked (turned from the shelf's own text to this program's numbers), String by the shelf.
-/
import Derived.Test.Qxb6600544aRows
import Derived.Test.Qxb6600544aShelf
import Derived.Lib.Strings
import Derived.Lib.Slices
import Derived.Lib.Walk
import Derived.Lib.Builder
import Derived.Lib.AppendStr
import Derived.WalkKit
import Derived.Laws.Externs
namespace Go.Proofs.Qxb6600544a
open Go.Shelf Go.RowKit

theorem sizeBuilder : (Try.prog.info? 38).map (·.size) = some 2 := by kernel_rfl
theorem liesBuilder : liesAt Try.prog Try.prog.depth 38 (2 / Try.prog.cellsOf 38) 0 38 1 = true := by kernel_rfl
theorem infoByte : (Try.prog.info? 5).map (fun i => (i.zero, i.size, i.bytes)) = some (some (.int .u8 0), 1, 1) := by kernel_rfl

/-- A pointer to a variable, seen as a bare address (type 44): the address as it is. -/
theorem to_raw (w : World) {src dst t e : TypeId} {j : TypeInfo} {cells : Nat} (a : Addr) (hs : Try.prog.underlying src = some (.pointer t)) (hd : Try.prog.underlying dst = Try.prog.underlying 44) (ht : Try.prog.info? t = some j) (hj : j.size ≠ 0)
    (hsh : w.shape? a.block = some (e, cells)) (hoff : a.off < cells) :
    (convert src dst (.pointer (some a))).run Try.prog w = .ok (.pointer (some a)) w := by
  rw [Try.underlying44] at hd
  simp only [convert, run_underlying hs, run_underlying hd, Sem.run_bind, Result.andThen_ok]
  change Sem.run Try.prog (underlying src >>= fun _ => _) w = _
  simp [run_underlying hs, run_underlying hd, Conv.seenAt, viewAt, cellsIn, hsh, sizeOf, typeInfo, ht, hj]
  intro h
  omega
/-- A bare address as a pointer again, where such a variable lies: the address as it is. -/
theorem from_raw (w : World) {src dst u e : TypeId} {j : TypeInfo} {cells : Nat} (a : Addr) (hs : Try.prog.underlying src = Try.prog.underlying 44) (hd : Try.prog.underlying dst = some (.pointer u)) (hu : Try.prog.info? u = some j)
    (hsh : w.shape? a.block = some (e, cells)) (hlies : liesAt Try.prog Try.prog.depth e (cells / Try.prog.cellsOf e) a.off u 1 = true) :
    (convert src dst (.pointer (some a))).run Try.prog w = .ok (.pointer (some a)) w := by
  rw [Try.underlying44] at hs
  simp only [convert, run_underlying hs, run_underlying hd, Sem.run_bind, Result.andThen_ok]
  change Sem.run Try.prog (underlying src >>= fun _ => _) w = _
  simp [run_underlying hs, run_underlying hd, Conv.seenAt, viewAt, hsh, variablesAt, hlies, sizeOf, typeInfo, hu]

set_option maxHeartbeats 1000000 in
set_option maxRecDepth 100000 in
theorem copyCheck_used (b : Nat) (w : World) (h0 : w.cell? ⟨b, 0, none⟩ = some (.pointer (some ⟨b, 0, none⟩))) :
    Calls Try.prog 32 #[.pointer (some ⟨b, 0, none⟩)] w fun e w' => e = .returned (.tuple #[]) ∧ w' = w := by
  obtain ⟨j, hj, _⟩ := Option.map_eq_some_iff.1 sizeBuilder
  go_enter Try.func32, Try.ntmps32
  go_wp2
  rw [Lib.run_neq_ptr_same w _ Try.underlying36 hj]
  go_wp2
  go_end0
  exact ⟨rfl, rfl⟩

set_option maxHeartbeats 1000000 in
set_option maxRecDepth 100000 in
theorem copyCheck_fresh (b : Nat) (w : World) (h0 : w.cell? ⟨b, 0, none⟩ = some (.pointer none)) (hsh : w.shape? b = some (38, 2)) (hfz : w.frozen? ⟨b, 0, none⟩ = false) :
    Calls Try.prog 32 #[.pointer (some ⟨b, 0, none⟩)] w fun e w' => e = .returned (.tuple #[]) ∧ w' = w.setCell ⟨b, 0, none⟩ (.pointer (some ⟨b, 0, none⟩)) := by
  obtain ⟨j, hj, hjs⟩ := Option.map_eq_some_iff.1 sizeBuilder
  go_enter Try.func32, Try.ntmps32
  go_wp2
  rw [to_raw w ⟨b, 0, none⟩ Try.underlying36 rfl hj (by rw [hjs]; decide) hsh (Nat.zero_lt_succ 1)]
  simp only [Result.andThen]
  rw [Oper.upon_value]
  go_wp2
  rw [run_callFunc_extern Try.func34 (by kernel_rfl) (by kernel_rfl) (by kernel_rfl) (e := Extern.AbiNoEscape.same) (by kernel_rfl)]
  rw [Lib.run_noEscape]
  simp only [Result.andThen]
  rw [Oper.upon_value]
  go_wp2
  rw [from_raw w ⟨b, 0, none⟩ rfl Try.underlying36 hj hsh liesBuilder]
  simp only [Result.andThen]
  rw [Oper.upon_value]
  go_wp2
  go_end0
  exact ⟨rfl, rfl⟩

theorem copyCheck_any (B b : Nat) (bs : List Value) (w : World) (h : Lib.IsBuilder 38 5 B b bs w) :
    Calls Try.prog 32 #[.pointer (some ⟨b, 0, none⟩)] w fun e w' => e = .returned (.tuple #[]) ∧ (Lib.BuilderAt 38 5 B b (.pointer (some ⟨b, 0, none⟩)) bs w' ∧ Below B w w') := by
  rcases h with h | h
  · refine (copyCheck_fresh b w h.cell0 h.shape h.frozen0).mono ?_
    rintro e w' ⟨rfl, rfl⟩
    exact ⟨rfl, h.used _, (Below.refl B w).setCell (p := ⟨b, 0, none⟩) h.1 _⟩
  · refine (copyCheck_used b w h.cell0).mono ?_
    rintro e w' ⟨rfl, rfl⟩
    exact ⟨rfl, h, Below.refl B _⟩

set_option maxHeartbeats 2000000 in
set_option maxRecDepth 100000 in
theorem writeByte_at (B b : Nat) (bs : List Value) (c : Int) (w : World) (h : Lib.IsBuilder 38 5 B b bs w) (hlen : bs.length + 1 ≤ 140737488355328) (hBw : B ≤ w.heap.size) :
    Calls Try.prog 30 #[.pointer (some ⟨b, 0, none⟩), .int .u8 c] w fun e w' => e = .returned .nilIface ∧ (Lib.BuilderAt 38 5 B b (.pointer (some ⟨b, 0, none⟩)) (bs ++ [.int .u8 c]) w' ∧ Below B w w') := by
  obtain ⟨i0, hi, hz0, hz1, hz2⟩ := info_parts infoByte
  go_enter Try.func30, Try.ntmps30
  go_wp2_with (go_at_call 32; refine (copyCheck_any B b bs _ h).mono ?_)
  rintro e w1 ⟨rfl, h1, hb1⟩
  obtain ⟨hB, v, hbk, hown, hne⟩ := h1
  have c0 : w1.cell? ⟨b, 0, none⟩ = some (.pointer (some ⟨b, 0, none⟩)) := by rw [Lib.cell_of_heap hbk]; rfl
  have c1 : w1.cell? ⟨b, 1, none⟩ = some v := by rw [Lib.cell_of_heap hbk]; rfl
  go_wp2_with (at_builtin; refine wpList_append_own _ rfl _ _ 32 rfl B 5 i0 (.int .u8 0) 1 1 Try.underlying32 hi hz0 hz1 hz2 rfl (by decide) _ _ _ rfl (hown.alloc _) ⟨w1.heap.size, 0, none⟩ 1 1 [.int .u8 c] rfl rfl ?c1 ?c2 ?c3 ?c4 ?c5 ?_)
  case c1 =>
    intro j u hj
    match j, hj with
    | 0, hj => simp at hj; subst hj; simp [Addr.add]
  case c2 => intro u hu; simp at hu; subst hu; rfl
  case c3 => unfold maxLen; omega
  case c4 => omega
  case c5 => have := hb1.size; simp; omega
  intro v' w2 hown' hgrow _
  have hlt : b < w1.heap.size := by
    rcases Nat.lt_or_ge b w1.heap.size with h' | h'
    · exact h'
    · simp [Array.getElem?_eq_none h'] at hbk
  have hb2 : w2.heap[b]? = some (.cells #[.pointer (some ⟨b, 0, none⟩), v] 38 (0, 0)) := by
    rw [hgrow.block b (by simp; omega) (fun e => hne e.symm), Lib.alloc_old w1 _ b hlt]
    exact hbk
  have d0 : w2.cell? ⟨b, 0, none⟩ = some (.pointer (some ⟨b, 0, none⟩)) := by rw [Lib.cell_of_heap hb2]; rfl
  have d1 : w2.cell? ⟨b, 1, none⟩ = some v := by rw [Lib.cell_of_heap hb2]; rfl
  have f1 : w2.frozen? ⟨b, 1, none⟩ = false := Lib.frozen_of_heap hb2 1
  obtain ⟨g, cap, rfl⟩ : ∃ g cap, v' = .slice (some ⟨g, 0, none⟩) (bs.length + 1) cap := by
    rcases hown'.2 with ⟨_, h0⟩ | ⟨g, cap, cur, hv, _⟩
    · omega
    · exact ⟨g, cap, hv⟩
  go_wp2
  go_ret
  refine ⟨rfl, ?_, ?_⟩
  · exact Lib.BuilderAt.put (T := 38) (e := 5) hB hb2 (bs' := bs ++ [.int .u8 c]) (by simpa using hown') (by decide)
  · exact ((hb1.alloc (by have := hb1.size; omega) _).grown hgrow (by have := hb1.size; simp; omega) (fun k hk => (hown.lt k hk).1)).setCell (p := ⟨b, 1, none⟩) hB _

/-- The builder in block b holds the bytes l. -/
def Holds (B b : Nat) (l : List UInt8) (w : World) : Prop := Lib.IsBuilder 38 5 B b (Lib.byteCells l) w

theorem holds_fresh (w : World) : Holds w.heap.size w.heap.size [] (w.alloc (.cells #[.pointer none, .slice none 0 0] 38)) := Lib.fresh_isBuilder 38 5 w

theorem writeByte_any (B b : Nat) (l : List UInt8) (c : UInt8) (w : World) (h : Holds B b l w) (hlen : l.length + 1 ≤ 140737488355328) (hBw : B ≤ w.heap.size) :
    Calls Try.prog 30 #[.pointer (some ⟨b, 0, none⟩), .int .u8 (c.toNat : Int)] w fun e w' => e = .returned .nilIface ∧ Holds B b (l ++ [c]) w' ∧ Below B w w' := by
  refine (writeByte_at B b (Lib.byteCells l) (c.toNat : Int) w h (by rw [Lib.byteCells_length]; exact hlen) hBw).mono ?_
  rintro e w' ⟨rfl, h1, hb⟩
  refine ⟨rfl, Or.inr ?_, hb⟩
  have e1 : Lib.byteCells (l ++ [c]) = Lib.byteCells l ++ [.int .u8 (c.toNat : Int)] := by simp [Lib.byteCells]
  rw [e1]
  exact h1

theorem string_any (B b : Nat) (l : List UInt8) (w : World) (h : Holds B b l w) (hBw : B ≤ w.heap.size) :
    Calls Try.prog 29 #[.pointer (some ⟨b, 0, none⟩)] w fun e w' => e = .returned (.string ⟨l.toArray⟩) ∧ Below B w w' := Try.Builder_String_any B b l w h hBw
end Go.Proofs.Qxb6600544a
