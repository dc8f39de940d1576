/-
  Bytes onto a row of the call's own; the walks of zzShort, zzHex, zzQuote.
-/
import Derived.Test.Qxb6600588aDoc
namespace Go.Proofs.Qxb6600588a
open Go.RowKit

/-- v is nil or a row of the call's own (from block B on) and holds the bytes l. -/
def RowB (B : Nat) (v : Value) (l : List UInt8) (w : World) : Prop := w.ownsRow B 5 1 v (Lib.byteCells l).length (Lib.byteCells l)

/-- 'append(v, a, b ..)'. -/
theorem app_bytes {ops : Array Oper} {rest : List Oper} {o : Oper} {a : Act} {Q : Exit → Act → World → Prop} (w : World) (hgd : o.guard = none) (s x : Operand)
    (ho : o.op = .call { callee := .builtin .append, args := #[s, x], argTypes := #[22, 22] })
    (B : Nat) (l news : List UInt8) (cs : Array Value) (hcs : cs.toList = Lib.byteCells news) (hp : 0 < news.length) (v : Value) (hs : a.eval s = v) (m : Nat) (hm : m = news.length) (hx : a.eval x = .slice (some ⟨w.heap.size, 0, none⟩) m m) (hown : RowB B v l w)
    (hlen : l.length + news.length ≤ 140737488355328) (hB : B ≤ w.heap.size)
    (K : ∀ v' w', RowB B v' (l ++ news) w' → Moves w v w' v' → wpList Try.prog ops Q rest (a.put o.dst v') w') :
    wpList Try.prog ops Q (o :: rest) a (w.alloc (.cells cs 5)) := by
  obtain ⟨i0, hi, hz0, hz1, hz2⟩ := info_parts infoByte
  have hl : (Lib.byteCells l).length = l.length := Lib.byteCells_length l
  have hb : (w.alloc (.cells cs 5)).heap[w.heap.size]? = some (.cells cs 5 (0, 0)) := heap_alloc_new w _
  subst hm
  refine wpList_append_lies _ hgd s x 22 ho B 5 i0 (.int .u8 0) 1 1 Try.underlying22 hi hz0 hz1 hz2 rfl (by decide) v (Lib.byteCells l).length (Lib.byteCells l) hs (World.ownsRow.alloc hown _) ⟨w.heap.size, 0, none⟩ news.length news.length (Lib.byteCells news) hx
    (by rw [Lib.byteCells_length, Nat.mul_one]) (fun j u hj => World.news_of_block hb j u (by rw [hcs]; exact hj)) (Lib.byteCells_one news) hp (by unfold maxLen; omega) (by omega) (by simp; omega) _ rfl ?_
  intro g cap w' h1 h2 h3 h4
  refine K _ w' ?_ ⟨(World.grownBy_alloc w _ _).trans h2, ?_⟩
  · unfold RowB
    rw [Lib.byteCells_append, List.length_append, Lib.byteCells_length news]
    exact h1
  · rcases h3 with e | e
    · left; rw [e]; rfl
    · right; exact ⟨g, rfl, by rw [e]; simp⟩

theorem RowB.shape {B : Nat} {v : Value} {l : List UInt8} {w : World} (h : RowB B v l w) : ∃ oa cap, v = .slice oa l.length cap := by
  obtain ⟨oa, cap, e⟩ := row_shape h
  rw [Lib.byteCells_length] at e
  exact ⟨oa, cap, e⟩

/-- It answers a byte. -/
def SomeByte (e : Ending) : Prop := ∃ b : Int, e = .returned (.int .u8 b) ∧ 0 ≤ b ∧ b ≤ 255
theorem someByte {x : Int} (h1 : 0 ≤ x) (h2 : x ≤ 255) : SomeByte (.returned (.int .u8 x)) := ⟨x, rfl, h1, h2⟩

theorem short_any (c : UInt8) (w : World) : Calls Try.prog 24 #[.int .u8 (c.toNat : Int)] w fun e w' => SomeByte e ∧ w' = w := by
  have hc : c.toNat < 256 := c.toNat_lt
  go_enter Try.func24, Try.ntmps24
  go_wp2
  all_goals (go_ret; exact ⟨someByte (by omega) (by omega), rfl⟩)
theorem hex_any (d : Int) (hd0 : 0 ≤ d) (hd : d ≤ 15) (up : Bool) (w : World) : Calls Try.prog 25 #[.int .u8 d, .bool up] w fun e w' => SomeByte e ∧ w' = w := by
  cases up
  all_goals
    go_enter Try.func25, Try.ntmps25
    go_wp2
    all_goals (go_ret; exact ⟨someByte (by omega) (by omega), rfl⟩)

/-- Values that are bytes. -/
def AllB : List Value → Prop
  | [] => True
  | v :: r => (∃ x : Int, v = .int .u8 x ∧ 0 ≤ x ∧ x ≤ 255) ∧ AllB r
theorem byte_of {x : Int} (h1 : 0 ≤ x) (h2 : x ≤ 255) : ∃ b : UInt8, x = (b.toNat : Int) :=
  ⟨UInt8.ofNat x.toNat, by rw [UInt8.toNat_ofNat_of_lt' (by simp [UInt8.size]; omega)]; omega⟩
theorem AllB.bytes : ∀ {l : List Value}, AllB l → ∃ news : List UInt8, l = Lib.byteCells news
  | [], _ => ⟨[], rfl⟩
  | v :: r, h => by
    obtain ⟨⟨x, rfl, h0, h1⟩, h2⟩ := h
    obtain ⟨b, rfl⟩ := byte_of h0 h1
    obtain ⟨news, rfl⟩ := AllB.bytes h2
    exact ⟨b :: news, rfl⟩
/-- 'append(v, a, b ..)', whichever bytes. -/
theorem app_any {ops : Array Oper} {rest : List Oper} {o : Oper} {a : Act} {Q : Exit → Act → World → Prop} (w : World) (hgd : o.guard = none) (s x : Operand)
    (ho : o.op = .call { callee := .builtin .append, args := #[s, x], argTypes := #[22, 22] })
    (B : Nat) (l : List UInt8) (cs : Array Value) (hcs : AllB cs.toList) (v : Value) (hs : a.eval s = v) (m : Nat) (hp : 0 < m) (hm : m = cs.size) (hx : a.eval x = .slice (some ⟨w.heap.size, 0, none⟩) m m) (hown : RowB B v l w)
    (hlen : l.length + m ≤ 140737488355328) (hB : B ≤ w.heap.size)
    (K : ∀ news v' w', news.length = m → RowB B v' (l ++ news) w' → Moves w v w' v' → wpList Try.prog ops Q rest (a.put o.dst v') w') :
    wpList Try.prog ops Q (o :: rest) a (w.alloc (.cells cs 5)) := by
  obtain ⟨news, hn⟩ := hcs.bytes
  have hl : news.length = m := by
    have := congrArg List.length hn
    rw [Lib.byteCells_length, Array.length_toList] at this
    omega
  exact app_bytes w hgd s x ho B l news cs hn (by omega) v hs m hl.symm hx hown (by omega) hB (fun v' w' h1 h2 => K news v' w' hl h1 h2)

/-- What zzQuote hands back. -/
def Quoted (B : Nat) (l : List UInt8) (s : ByteArray) (w : World) (v : Value) (e : Ending) (w' : World) : Prop :=
  ∃ v' q, e = .returned v' ∧ RowB B v' (l ++ 34 :: q) w' ∧ 1 ≤ q.length ∧ q.length ≤ 6 * s.size + 1 ∧ Moves w v w' v'

theorem app_more {l q r : List UInt8} {c : UInt8} : (l ++ c :: q) ++ r = l ++ c :: (q ++ r) := by simp
theorem RowB.more {B : Nat} {v : Value} {l q r : List UInt8} {c : UInt8} {w : World} (h : RowB B v ((l ++ c :: q) ++ r) w) : RowB B v (l ++ c :: (q ++ r)) w := by rw [app_more] at h; exact h
theorem Moves.size {w w' : World} {v v' : Value} (h : Moves w v w' v') : w.heap.size ≤ w'.heap.size := h.1.size

set_option maxRecDepth 100000 in
set_option maxHeartbeats 4000000 in
theorem quote_any (B : Nat) (l : List UInt8) (s : ByteArray) (mode : Int) (v : Value) (w : World) (hown : RowB B v l w) (hB : B ≤ w.heap.size) (hl : l.length ≤ 1000000000000) (hs : s.size ≤ 65536) :
    Calls Try.prog 12 #[v, .string s, .int .u8 mode] w fun e w' => Quoted B l s w v e w' := by
  go_enter Try.func12, Try.ntmps12
  go_wp2_with (first
    | (at_builtin; refine app_bytes _ rfl (.tmp 13) (.tmp 14) rfl B l [34] _ rfl (by decide) _ rfl 1 rfl rfl hown (by simp; omega) hB ?_; intro v1 w1 h1 hmv1)
    | fail)
  go_loopw [0, 8] (fun t0 t8 wr => ∃ (k : Nat) (q : List UInt8), t8 = .int .i64 (k : Int) ∧ k ≤ s.size ∧ q.length ≤ 6 * k ∧ RowB B t0 (l ++ 34 :: q) wr ∧ Moves w v wr t0) (fun _ i _ => s.size - (intOf i).toNat)
  case atStart => exact ⟨0, [], rfl, by omega, by simp, h1, hmv1⟩
  case round =>
    clear h1 hmv1
    obtain ⟨k, q, rfl, hk, hq, hrow, hmv⟩ := hrel
    have HR := Lib.hid hrow
    have HM := Lib.hid hmv
    clear hrow hmv
    by_cases hlt : k < s.size
    · have hc0 : ((s[k]'hlt).toNat : Int) < 256 := by have := (s[k]'hlt).toNat_lt; omega
      go_wp2_with (first
        | (go_at_call 24; refine (short_any _ _).mono ?_; rintro e w' ⟨⟨x, rfl, hx0, hx1⟩, rfl⟩)
        | (go_at_call 25; refine (hex_any _ (by omega) (by omega) _ _).mono ?_; rintro e w' ⟨⟨x, rfl, hx0, hx1⟩, rfl⟩)
        | (at_builtin; refine app_any _ rfl (.tmp 31) (.tmp 33) rfl B _ _ (⟨⟨_, rfl, by omega, by omega⟩, ⟨_, rfl, by omega, by omega⟩, trivial⟩) _ rfl 2 (by decide) rfl rfl HR.out (by simp; omega) (Nat.le_trans hB HM.out.size) ?_; intro news v1 w1 hn1 h1 hmv1)
        | (at_builtin; refine app_any _ rfl (.tmp 42) (.tmp 43) rfl B _ _ (⟨⟨_, rfl, by omega, by omega⟩, ⟨_, rfl, by omega, by omega⟩, trivial⟩) _ rfl 2 (by decide) rfl rfl HR.out (by simp; omega) (Nat.le_trans hB HM.out.size) ?_; intro news v1 w1 hn1 h1 hmv1)
        | (at_builtin; refine app_any _ rfl (.tmp 57) (.tmp 60) rfl B _ _ (⟨⟨_, rfl, by omega, by omega⟩, ⟨_, rfl, by omega, by omega⟩, trivial⟩) _ rfl 2 (by decide) rfl rfl HR.out (by simp; omega) (Nat.le_trans hB HM.out.size) ?_; intro news v1 w1 hn1 h1 hmv1)
        | (at_builtin; refine app_any _ rfl (.tmp 73) (.tmp 82) rfl B _ _ (⟨⟨_, rfl, by omega, by omega⟩, ⟨_, rfl, by omega, by omega⟩, ⟨_, rfl, by omega, by omega⟩, ⟨_, rfl, by omega, by omega⟩, ⟨_, rfl, by omega, by omega⟩, ⟨_, rfl, by omega, by omega⟩, trivial⟩) _ rfl 6 (by decide) rfl rfl HR.out (by simp; omega) (Nat.le_trans hB HM.out.size) ?_; intro news v1 w1 hn1 h1 hmv1)
        | (at_builtin; refine app_any _ rfl (.tmp 84) (.tmp 86) rfl B _ _ (⟨⟨_, rfl, by omega, by omega⟩, trivial⟩) _ rfl 1 (by decide) rfl rfl HR.out (by simp; omega) (Nat.le_trans hB HM.out.size) ?_; intro news v1 w1 hn1 h1 hmv1)
        | fail)
      all_goals
        go_roundw
        case rel => exact ⟨k + 1, q ++ news, by go_num, by omega, by simp; omega, h1.more, HM.out.trans hmv1⟩
        case measure => simp [intOf]; omega
    · go_wp2_with (first
        | (at_builtin; refine app_bytes _ rfl (.tmp 88) (.tmp 89) rfl B _ [34] _ rfl (by decide) _ rfl 1 rfl rfl HR.out (by simp; omega) (Nat.le_trans hB HM.out.size) ?_; intro v1 w1 h1 hmv1)
        | fail)
      go_ret
      exact ⟨_, q ++ [34], rfl, h1.more, by simp, by simp; omega, HM.out.trans hmv1⟩
end Go.Proofs.Qxb6600588a
