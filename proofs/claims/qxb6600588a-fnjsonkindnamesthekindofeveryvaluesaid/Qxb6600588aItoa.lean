/-
  The walk of zzItoa.
-/
import Derived.Test.Qxb6600588aQuote
namespace Go.Proofs.Qxb6600588a
open Go.RowKit

/-- 'append(v, src...)', the bytes of src lying at ad. -/
theorem app_from {ops : Array Oper} {rest : List Oper} {o : Oper} {a : Act} {Q : Exit → Act → World → Prop} (w : World) (hgd : o.guard = none) (s x : Operand)
    (ho : o.op = .call { callee := .builtin .append, args := #[s, x], argTypes := #[22, 22] })
    (B : Nat) (l news : List UInt8) (b off : Nat) (hnews : ∀ (j : Nat) c, news[j]? = some c → w.cell? ⟨b, off + j, none⟩ = some (.int .u8 (c.toNat : Int))) (hp : 0 < news.length) (v : Value) (hs : a.eval s = v) (m c : Nat) (hm : m = news.length)
    (hx : a.eval x = .slice (some ⟨b, off, none⟩) m c) (hown : RowB B v l w)
    (hlen : l.length + news.length ≤ 140737488355328) (hB : B ≤ w.heap.size)
    (K : ∀ v' w', RowB B v' (l ++ news) w' → Moves w v w' v' → wpList Try.prog ops Q rest (a.put o.dst v') w') :
    wpList Try.prog ops Q (o :: rest) a w := by
  obtain ⟨i0, hi, hz0, hz1, hz2⟩ := info_parts infoByte
  have hl : (Lib.byteCells l).length = l.length := Lib.byteCells_length l
  subst hm
  refine wpList_append_lies _ hgd s x 22 ho B 5 i0 (.int .u8 0) 1 1 Try.underlying22 hi hz0 hz1 hz2 rfl (by decide) v (Lib.byteCells l).length (Lib.byteCells l) hs hown ⟨b, off, none⟩ news.length c (Lib.byteCells news) hx
    (by rw [Lib.byteCells_length, Nat.mul_one]) (fun j u hj => ?_) (Lib.byteCells_one news) hp (by unfold maxLen; omega) (by omega) hB _ rfl ?_
  · have hadd : (⟨b, off, none⟩ : Addr).add j = ⟨b, off + j, none⟩ := by unfold Addr.add; split <;> simp_all
    rw [hadd]
    simp only [Lib.byteCells, List.getElem?_map] at hj
    cases e : news[j]? with
    | none => rw [e] at hj; cases hj
    | some c0 =>
      rw [e] at hj
      cases hj
      exact hnews j c0 e
  · intro g cap w' h1 h2 h3 h4
    refine K _ w' ?_ ⟨h2, ?_⟩
    · unfold RowB
      rw [Lib.byteCells_append, List.length_append, Lib.byteCells_length news]
      exact h1
    · rcases h3 with e | e
      · left; rw [e]; rfl
      · right; exact ⟨g, rfl, by rw [e]; exact Nat.le_refl _⟩

/-- A byte that a number begins with. -/
def NumB (c : UInt8) : Prop := c = 45 ∨ (48 ≤ c.toNat ∧ c.toNat ≤ 57)
/-- What zzItoa hands back. -/
def Numbered (B : Nat) (l : List UInt8) (w : World) (v : Value) (e : Ending) (w' : World) : Prop :=
  ∃ v' q c, e = .returned v' ∧ NumB c ∧ RowB B v' (l ++ c :: q) w' ∧ q.length ≤ 20 ∧ Moves w v w' v'

theorem wrap_bounds (x : Int) : 0 ≤ IntKind.u64.wrap x ∧ IntKind.u64.wrap x < 100000000000000000000 := by
  have hw : IntKind.u64.wrap x = x % 18446744073709551616 := by simp [IntKind.wrap, IntKind.bits, IntKind.signed]
  rw [hw]
  omega
/-- u has at most m + 1 digits. -/
def Fits (u : Int) (m : Nat) : Prop := 0 ≤ u ∧ u < (10 : Int) ^ (m + 1)
theorem fits_start {u : Int} (h1 : 0 ≤ u) (h2 : u < 100000000000000000000) : Fits u 19 := ⟨h1, by simpa using h2⟩
theorem fits_zero {u : Int} (h : Fits u 0) : u / 10 = 0 := by
  obtain ⟨h1, h2⟩ := h
  simp at h2
  omega
theorem fits_next {u : Int} {m : Nat} (h : Fits u (m + 1)) : Fits (u / 10) m := by
  obtain ⟨h1, h2⟩ := h
  refine ⟨by omega, ?_⟩
  rw [Int.pow_succ] at h2
  omega
/-- The digits that are laid, from cell m + 1 on. -/
def Digs (w : World) (b m : Nat) (ds : List UInt8) : Prop :=
  ds.length + m = 19 ∧ (∀ (j : Nat) c, ds[j]? = some c → w.cell? ⟨b, m + 1 + j, none⟩ = some (.int .u8 (c.toNat : Int))) ∧ ∀ j, j < 20 → ∃ v, Cl w b j v
theorem digs_put {w : World} {b m : Nat} {ds : List UInt8} (h : Digs w b m ds) {d : Int} {c : UInt8} (hd : d = (c.toNat : Int)) : 
    (∀ (j : Nat) x, (c :: ds)[j]? = some x → (w.setCell ⟨b, m, none⟩ (.int .u8 d)).cell? ⟨b, m + j, none⟩ = some (.int .u8 (x.toNat : Int))) ∧ ∀ j, j < 20 → ∃ v, Cl (w.setCell ⟨b, m, none⟩ (.int .u8 d)) b j v := by
  obtain ⟨h1, h2, h3⟩ := h
  refine ⟨fun j x hx => ?_, fun j hj => ?_⟩
  · obtain ⟨v, hv⟩ := h3 m (by omega)
    cases j with
    | zero =>
      simp at hx
      subst hx
      rw [Nat.add_zero, hd]
      exact (World.cell?_setCell_same _ _ _ hv.1)
    | succ j =>
      rw [World.cell?_setCell_other _ _ _ _ (by intro e; simp at e)]
      have := h2 j x (by simpa using hx)
      rw [show m + (j + 1) = m + 1 + j by omega]
      exact this
  · obtain ⟨v, hv⟩ := h3 j hj
    by_cases e : j = m
    · subst e
      exact ⟨_, hv.setSame⟩
    · exact ⟨v, hv.setOther (fun ⟨_, e2⟩ => e e2)⟩
theorem digs_next {w : World} {b m : Nat} {ds : List UInt8} (h : Digs w b (m + 1) ds) {d : Int} {c : UInt8} (hd : d = (c.toNat : Int)) : Digs (w.setCell ⟨b, m + 1, none⟩ (.int .u8 d)) b m (c :: ds) := by
  obtain ⟨h1, h2⟩ := digs_put h hd
  exact ⟨by have := h.1; simp; omega, h1, h2⟩

theorem grown_set (w : World) (b i : Nat) (u : Value) : w.grownBy (w.setCell ⟨b, i, none⟩ u) (some b) :=
  ⟨rfl, rfl, rfl, by simp, fun k _ hk => heap_setCell_other w ⟨b, i, none⟩ k u (fun e => hk (by simp [e]))⟩
theorem Moves.set {w w' : World} {v v' : Value} (h : Moves w v w' v') {b : Nat} (hb : w.heap.size ≤ b) (i : Nat) (u : Value) : Moves w v (w'.setCell ⟨b, i, none⟩ u) v' :=
  ⟨h.1.andThen (grown_set w' b i u) (fun j hj => by cases hj; exact Or.inl hb), h.2⟩
theorem RowB.set {B : Nat} {v : Value} {l : List UInt8} {w : World} (h : RowB B v l w) {b : Nat} (hne : v.ownBlock ≠ some b) (i : Nat) (u : Value) : RowB B v l (w.setCell ⟨b, i, none⟩ u) := ownsRow_setCell_other h hne u
theorem RowB.alloc' {B : Nat} {v : Value} {l : List UInt8} {w : World} (h : RowB B v l w) (o : Obj) : RowB B v l (w.alloc o) := World.ownsRow.alloc h o
theorem RowB.notNew {B : Nat} {v : Value} {l : List UInt8} {w : World} (h : RowB B v l w) : v.ownBlock ≠ some w.heap.size := fun e => by
  have := (World.ownsRow.lt h _ e).2
  omega
theorem digs_start (w : World) (t : TypeId) : Digs (w.alloc (.cells #[.int .u8 0, .int .u8 0, .int .u8 0, .int .u8 0, .int .u8 0, .int .u8 0, .int .u8 0, .int .u8 0, .int .u8 0, .int .u8 0, .int .u8 0, .int .u8 0, .int .u8 0, .int .u8 0, .int .u8 0, .int .u8 0, .int .u8 0, .int .u8 0, .int .u8 0, .int .u8 0] t)) w.heap.size 19 [] := by
  refine ⟨rfl, fun j c h => by simp at h, fun j hj => ⟨.int .u8 0, ?_, World.frozen?_alloc_at _ _ _ _ rfl⟩⟩
  rw [World.cell?_alloc_at _ _ _ _ rfl]
  match j, hj with
  | 0, _ => rfl
  | 1, _ => rfl
  | 2, _ => rfl
  | 3, _ => rfl
  | 4, _ => rfl
  | 5, _ => rfl
  | 6, _ => rfl
  | 7, _ => rfl
  | 8, _ => rfl
  | 9, _ => rfl
  | 10, _ => rfl
  | 11, _ => rfl
  | 12, _ => rfl
  | 13, _ => rfl
  | 14, _ => rfl
  | 15, _ => rfl
  | 16, _ => rfl
  | 17, _ => rfl
  | 18, _ => rfl
  | 19, _ => rfl
  | k + 20, h => exact absurd h (by omega)
theorem wrap_top (x : Int) : IntKind.u64.wrap x ≤ 18446744073709551615 := by
  have hw : IntKind.u64.wrap x = x % 18446744073709551616 := by simp [IntKind.wrap, IntKind.bits, IntKind.signed]
  rw [hw]
  omega
theorem slice61 (w : World) (b m : Nat) (hm : m ≤ 19) : (Instr.sliceAt 61 (.pointer (some ⟨b, 0, none⟩)) (some (.int .i64 (m : Int))) none none).run Try.prog w = .ok (.slice (some ⟨b, m, none⟩) (20 - m) (20 - m)) w := by
  have hl : Try.prog.arrayLen 61 = 20 := by simp [Program.arrayLen, Try.underlying61]
  have he : Try.prog.elem 61 = 5 := by simp [Program.elem, Try.underlying61]
  have ht : Try.prog.underlying 61 = some (.array (Try.prog.arrayLen 61) (Try.prog.elem 61)) := by rw [hl, he]; exact Try.underlying61
  have hne : ¬ (20 = m) := by omega
  rw [run_sliceAt_array_l w 61 ⟨b, 0, none⟩ ht .i64 (m : Int) (by omega) (by rw [hl]; omega), hl, he]
  simp [slicedAt, hne, Try.sizeOf5, go_sem]
theorem num_dash {B : Nat} {l q : List UInt8} {w w' : World} {v v' : Value} (h : RowB B v' ((l ++ [45]) ++ q) w') (hq : q.length ≤ 20) (hm : Moves w v w' v') : Numbered B l w v (.returned v') w' :=
  ⟨v', q, 45, rfl, Or.inl rfl, by rw [List.append_assoc] at h; exact h, hq, hm⟩
theorem num_digit {B : Nat} {l q : List UInt8} {c : UInt8} {w w' : World} {v v' : Value} (h : RowB B v' (l ++ c :: q) w') (h0 : 48 ≤ c.toNat) (h1 : c.toNat ≤ 57) (hq : q.length ≤ 20) (hm : Moves w v w' v') : Numbered B l w v (.returned v') w' :=
  ⟨v', q, c, rfl, Or.inr ⟨h0, h1⟩, h, hq, hm⟩

set_option maxRecDepth 100000 in
set_option maxHeartbeats 4000000 in
theorem itoa_any (B : Nat) (l : List UInt8) (n : Int) (v : Value) (w : World) (hown : RowB B v l w) (hB : B ≤ w.heap.size) (hl : l.length ≤ 1000000000000) (hn0 : -9223372036854775808 ≤ n) (hn1 : n ≤ 9223372036854775807) :
    Calls Try.prog 21 #[v, .int .i64 n] w fun e w' => Numbered B l w v e w' := by
  by_cases hneg : n < 0
  · go_enter Try.func21, Try.ntmps21
    go_wp2_with (first
      | (at_builtin; refine app_bytes _ rfl (.tmp 12) (.tmp 13) rfl B l [45] _ rfl (by decide) v rfl 1 rfl rfl hown (by simp; omega) hB ?_; intro v1 w1 h1 hmv1)
      | fail)
    have HROW := Lib.hid h1
    have HMV := Lib.hid hmv1
    have HNE := Lib.hid h1.notNew
    have hw1 : w.heap.size ≤ w1.heap.size := hmv1.size
    clear h1 hmv1 hown
    go_loopw [5, 7] (fun t5 t7 wr => ∃ (u : Int) (m : Nat) (ds : List UInt8), t5 = .int .u64 u ∧ t7 = .int .i64 ((m : Int) + 1) ∧ m ≤ 19 ∧ Hid (Fits u m) ∧ 0 ≤ u ∧ u ≤ 18446744073709551615 ∧ Hid (Digs wr w1.heap.size m ds) ∧ Hid (RowB B v1 (l ++ [45]) wr) ∧ Hid (Moves w v wr v1)) (fun _ i _ => (intOf i).toNat)
    case atStart => exact ⟨_, 19, [], rfl, by go_num, by omega, fits_start (by first | exact (wrap_bounds _).1 | omega) (by first | exact (wrap_bounds _).2 | omega), by first | exact (wrap_bounds _).1 | omega, by first | exact (wrap_top _) | omega, digs_start _ _, HROW.out.alloc' _, HMV.out.alloc _⟩
    case round =>
      clear HROW HMV
      obtain ⟨u, m, ds, rfl, rfl, hm, HF, hu0, hu1, HD, HR, HM⟩ := hrel
      obtain ⟨vv, hcv, hfz⟩ := HD.out.2.2 m (by omega)
      obtain ⟨c, hc⟩ := byte_of (x := 48 + u % 10) (by omega) (by omega)
      have HC := Lib.hid hc
      clear hc
      by_cases hz : u / 10 = 0
      · have HP := Lib.hid (digs_put HD.out HC.out).1
        have hcl : ds.length + m = 19 := HD.out.1
        have hsl := fun W0 => slice61 W0 w1.heap.size m hm
        have HR2 := HR.out.set HNE.out m (.int .u8 (48 + u % 10))
        have HM2 := Lib.hid (HM.out.set (b := w1.heap.size) (by omega) m (.int .u8 (48 + u % 10)))
        go_wp2_with (first
          | (at_builtin; refine app_from _ rfl (.tmp 29) (.tmp 31) rfl B _ (c :: ds) w1.heap.size m HP.out (by simp) v1 rfl (20 - m) (20 - m) (by simp; omega) rfl HR2 (by simp; omega) (by have := HM.out.size; simp; omega) ?_; intro v5 w5 h5 hmv5)
          | fail)
        go_ret
        exact num_dash h5 (by simp; omega) (HM2.out.trans hmv5)
      · have HZ := Lib.hid hz
        have hz2 : 1 ≤ u / 10 := by omega
        clear hz
        obtain ⟨m', rfl⟩ : ∃ m', m = m' + 1 := by
          cases m with
          | zero => exact absurd (fits_zero HF.out) HZ.out
          | succ m' => exact ⟨m', rfl⟩
        go_wp2_with fail
        go_roundw
        case rel => exact ⟨u / 10, m', c :: ds, rfl, rfl, by omega, fits_next HF.out, by omega, by omega, digs_next HD.out HC.out, HR.out.set HNE.out _ _, HM.out.set (by omega) _ _⟩
        case measure => simp [intOf]; omega
  · have HROW := Lib.hid hown
    have HMV := Lib.hid (Moves.refl w v)
    have HNE := Lib.hid hown.notNew
    clear hown
    go_enter Try.func21, Try.ntmps21
    go_wp2_with fail
    go_loopw [5, 7] (fun t5 t7 wr => ∃ (u : Int) (m : Nat) (ds : List UInt8), t5 = .int .u64 u ∧ t7 = .int .i64 ((m : Int) + 1) ∧ m ≤ 19 ∧ Hid (Fits u m) ∧ 0 ≤ u ∧ u ≤ 18446744073709551615 ∧ Hid (Digs wr w.heap.size m ds) ∧ Hid (RowB B v (l) wr) ∧ Hid (Moves w v wr v)) (fun _ i _ => (intOf i).toNat)
    case atStart => exact ⟨_, 19, [], rfl, by go_num, by omega, fits_start (by first | exact (wrap_bounds _).1 | omega) (by first | exact (wrap_bounds _).2 | omega), by first | exact (wrap_bounds _).1 | omega, by first | exact (wrap_top _) | omega, digs_start _ _, HROW.out.alloc' _, HMV.out.alloc _⟩
    case round =>
      clear HROW HMV
      obtain ⟨u, m, ds, rfl, rfl, hm, HF, hu0, hu1, HD, HR, HM⟩ := hrel
      obtain ⟨vv, hcv, hfz⟩ := HD.out.2.2 m (by omega)
      obtain ⟨c, hc⟩ := byte_of (x := 48 + u % 10) (by omega) (by omega)
      have HC := Lib.hid hc
      clear hc
      by_cases hz : u / 10 = 0
      · have HP := Lib.hid (digs_put HD.out HC.out).1
        have hcl : ds.length + m = 19 := HD.out.1
        have hsl := fun W0 => slice61 W0 w.heap.size m hm
        have HR2 := HR.out.set HNE.out m (.int .u8 (48 + u % 10))
        have HM2 := Lib.hid (HM.out.set (b := w.heap.size) (by omega) m (.int .u8 (48 + u % 10)))
        go_wp2_with (first
          | (at_builtin; refine app_from _ rfl (.tmp 29) (.tmp 31) rfl B _ (c :: ds) w.heap.size m HP.out (by simp) v rfl (20 - m) (20 - m) (by simp; omega) rfl HR2 (by simp; omega) (by have := HM.out.size; simp; omega) ?_; intro v5 w5 h5 hmv5)
          | fail)
        go_ret
        exact num_digit h5 (by have := HC.out; omega) (by have := HC.out; omega) (by omega) (HM2.out.trans hmv5)
      · have HZ := Lib.hid hz
        have hz2 : 1 ≤ u / 10 := by omega
        clear hz
        obtain ⟨m', rfl⟩ : ∃ m', m = m' + 1 := by
          cases m with
          | zero => exact absurd (fits_zero HF.out) HZ.out
          | succ m' => exact ⟨m', rfl⟩
        go_wp2_with fail
        go_roundw
        case rel => exact ⟨u / 10, m', c :: ds, rfl, rfl, by omega, fits_next HF.out, by omega, by omega, digs_next HD.out HC.out, HR.out.set HNE.out _ _, HM.out.set (by omega) _ _⟩
        case measure => simp [intOf]; omega
end Go.Proofs.Qxb6600588a
