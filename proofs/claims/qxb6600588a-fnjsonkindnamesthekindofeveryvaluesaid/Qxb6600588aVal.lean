/-
  Good records; what a value leaves; a container under way.
-/
import Derived.Test.Qxb6600588aStr
import Derived.Test.Qxb6600588aItoa
namespace Go.Proofs.Qxb6600588a
open Go.RowKit

/-- The first byte b of a value of kind k. -/
def Kind (b k : UInt8) : Prop := (k = 0 ∧ b = 123) ∨ (k = 1 ∧ b = 91) ∨ (k = 2 ∧ b = 34) ∨ (k = 3 ∧ (b = 116 ∨ b = 102)) ∨ (k = 4 ∧ b = 110) ∨ (k = 5 ∧ NumB b)
def Good1 (out : List UInt8) (s e : Nat) (k : UInt8) : Prop := s < e ∧ e ≤ out.length ∧ ∃ b, out[s]? = some b ∧ Kind b k
def Goods (out : List UInt8) (st en : List Nat) (kd : List UInt8) : Prop :=
  st.length = en.length ∧ st.length = kd.length ∧ ∀ (i : Nat) s e k, st[i]? = some s → en[i]? = some e → kd[i]? = some k → Good1 out s e k

theorem Good1.more {out x : List UInt8} {s e : Nat} {k : UInt8} (h : Good1 out s e k) : Good1 (out ++ x) s e k := by
  obtain ⟨h1, h2, b, h3, h4⟩ := h
  exact ⟨h1, by simp; omega, b, by rw [List.getElem?_append_left (by omega)]; exact h3, h4⟩
theorem Goods.more {out x : List UInt8} {st en : List Nat} {kd : List UInt8} (h : Goods out st en kd) : Goods (out ++ x) st en kd :=
  ⟨h.1, h.2.1, fun i s e k h1 h2 h3 => (h.2.2 i s e k h1 h2 h3).more⟩
theorem goods_nil (out : List UInt8) : Goods out [] [] [] := ⟨rfl, rfl, fun i s e k h => by simp at h⟩
theorem Goods.app {out : List UInt8} {st en st2 en2 : List Nat} {kd kd2 : List UInt8} (h : Goods out st en kd) (k : Goods out st2 en2 kd2) : Goods out (st ++ st2) (en ++ en2) (kd ++ kd2) := by
  refine ⟨by simp [h.1, k.1], by simp [h.2.1, k.2.1], fun i s e c h1 h2 h3 => ?_⟩
  by_cases hi : i < st.length
  · rw [List.getElem?_append_left hi] at h1
    rw [List.getElem?_append_left (by have := h.1; omega)] at h2
    rw [List.getElem?_append_left (by have := h.2.1; omega)] at h3
    exact h.2.2 i s e c h1 h2 h3
  · rw [List.getElem?_append_right (by omega)] at h1
    rw [List.getElem?_append_right (by have := h.1; omega)] at h2
    rw [List.getElem?_append_right (by have := h.2.1; omega)] at h3
    rw [← h.1] at h2
    rw [← h.2.1] at h3
    exact k.2.2 _ s e c h1 h2 h3
theorem Goods.cons {out : List UInt8} {st en : List Nat} {kd : List UInt8} {s e : Nat} {k : UInt8} (h1 : Good1 out s e k) (h : Goods out st en kd) : Goods out (s :: st) (e :: en) (k :: kd) := by
  refine ⟨by simp [h.1], by simp [h.2.1], fun i s' e' c a1 a2 a3 => ?_⟩
  cases i with
  | zero =>
    simp at a1 a2 a3
    subst a1 a2 a3
    exact h1
  | succ i => exact h.2.2 i s' e' c (by simpa using a1) (by simpa using a2) (by simpa using a3)
theorem good_head {out x : List UInt8} {b k : UInt8} {e : Nat} (hk : Kind b k) (he : e = out.length + (x.length + 1)) : Good1 (out ++ b :: x) out.length e k :=
  ⟨by omega, by simp; omega, b, by simp, hk⟩

/-- The room that a document has. -/
def Room (L : Nat) (out : List UInt8) (st en : List Nat) (kd : List UInt8) (pos si ni wi : Nat) : Prop :=
  pos ≤ L ∧ out.length + 1000000 * (L - pos) ≤ 9000000000 ∧ st.length ≤ out.length ∧ en.length = st.length ∧ kd.length = st.length ∧ si ≤ out.length ∧ ni ≤ out.length ∧ wi ≤ out.length

/-- What zzValue leaves, where the shape is not used up. -/
def ValueEnd (p L : Nat) (out : List UInt8) (st en : List Nat) (kd : List UInt8) (pos si ni wi : Nat) (w : World) (e : Ending) (w' : World) : Prop :=
  e = .returned (.tuple #[]) ∧ ∃ x st2 en2 kd2 pos' si' ni' wi', DocEnd p (out ++ x) (st ++ st2) (en ++ en2) (kd ++ kd2) pos' si' ni' wi' w w' ∧ Goods (out ++ x) st2 en2 kd2 ∧
    st2.length ≤ x.length ∧ si' ≤ si + x.length ∧ ni' ≤ ni + x.length ∧ wi' ≤ wi + x.length ∧ pos < pos' ∧ pos' ≤ L ∧ x.length + 1000000 * (L - pos') + 500000 ≤ 1000000 * (L - pos)

/-- One record alone: a string, a number, a literal. -/
theorem value_one {p L : Nat} {out x : List UInt8} {st en : List Nat} {kd : List UInt8} {pos si ni wi si' ni' : Nat} {b k : UInt8} {w w0 w' : World} {e : Nat}
    (hd : DocEnd p (out ++ b :: x) (st ++ [out.length]) (en ++ [e]) (kd ++ [k]) (pos + 1) si' ni' wi w0 w') (hB : Below p w w0) (he : e = out.length + (x.length + 1)) (hk : Kind b k)
    (h1 : si' ≤ si + 1) (h2 : ni' ≤ ni + 1) (h3 : pos < L) (h4 : x.length ≤ 400000) : ValueEnd p L out st en kd pos si ni wi w (.returned (.tuple #[])) w' :=
  ⟨rfl, b :: x, [out.length], [e], [k], pos + 1, si', ni', wi, ⟨hd.1, hB.trans hd.2⟩, Goods.cons (good_head hk he) (goods_nil _), by simp, by simp; omega, by simp; omega, by simp, by omega, by omega, by simp; omega⟩

/-- A container under way: its own record is open. -/
def Bag (p : Nat) (out : List UInt8) (c k : UInt8) (st en : List Nat) (kd : List UInt8) (si ni wi : Nat) (w0 : World) (N pos' : Nat) (w : World) : Prop :=
  ∃ x st2 en2 kd2 si' ni' wi', Doc p (out ++ c :: x) (st ++ out.length :: st2) (en ++ out.length :: en2) (kd ++ k :: kd2) pos' si' ni' wi' w ∧ Below p w0 w ∧ Goods (out ++ c :: x) st2 en2 kd2 ∧
    x.length ≤ N ∧ st2.length ≤ x.length ∧ si' ≤ si + x.length ∧ ni' ≤ ni + x.length ∧ wi' ≤ wi + x.length

section
variable {p : Nat} {out : List UInt8} {c k : UInt8} {st en : List Nat} {kd : List UInt8} {si ni wi N pos' : Nat} {w0 w : World}

theorem bag_start {w1 : World} (hd : DocEnd p (out ++ [c]) (st ++ [out.length]) (en ++ [out.length]) (kd ++ [k]) pos' si ni wi w1 w) (hB : Below p w0 w1) : Bag p out c k st en kd si ni wi w0 0 pos' w :=
  ⟨[], [], [], [], si, ni, wi, hd.1, hB.trans hd.2, goods_nil _, by simp, by simp, by simp, by simp, by simp⟩
theorem Bag.lt (h : Bag p out c k st en kd si ni wi w0 N pos' w) : p < w.heap.size := by
  obtain ⟨x, st2, en2, kd2, si', ni', wi', hd, _⟩ := h
  exact hd.lt
theorem Bag.below (h : Bag p out c k st en kd si ni wi w0 N pos' w) : Below p w0 w := by
  obtain ⟨x, st2, en2, kd2, si', ni', wi', hd, hb, _⟩ := h
  exact hb
theorem Bag.pos (h : Bag p out c k st en kd si ni wi w0 N pos' w) : Cl w p 4 (.int .i64 (pos' : Int)) := by
  obtain ⟨x, st2, en2, kd2, si', ni', wi', hd, _⟩ := h
  obtain ⟨_, _, _, _, _, _, _, _, hD⟩ := hd.opened
  exact hD.c4

theorem snoc_more {l x y : List UInt8} {c : UInt8} : (l ++ c :: x) ++ y = l ++ c :: (x ++ y) := by simp
theorem snoc_more' {l x y : List Nat} {c : Nat} : (l ++ c :: x) ++ y = l ++ c :: (x ++ y) := by simp

/-- One byte more. -/
theorem bag_more {y : UInt8} {x : List UInt8} {st2 en2 : List Nat} {kd2 : List UInt8} {si' ni' wi' wj : Nat} {w' : World} (hd : Doc p ((out ++ c :: x) ++ [y]) (st ++ out.length :: st2) (en ++ out.length :: en2) (kd ++ k :: kd2) pos' si' ni' wj w') (hb : Below p w0 w')
    (hg : Goods (out ++ c :: x) st2 en2 kd2) (h1 : x.length ≤ N) (h2 : st2.length ≤ x.length) (h3 : si' ≤ si + x.length) (h4 : ni' ≤ ni + x.length) (h5 : wi' ≤ wi + x.length) (h6 : wj ≤ wi' + 1) : Bag p out c k st en kd si ni wi w0 (N + 1) pos' w' := by
  refine ⟨x ++ [y], st2, en2, kd2, si', ni', wj, by rw [snoc_more] at hd; exact hd, hb, by rw [← snoc_more]; exact hg.more, ?_, ?_, ?_, ?_, ?_⟩ <;> simp <;> omega

/-- 'd.out = append(d.out, y)': what the walk needs, and what comes of it. -/
theorem Bag.push (h : Bag p out c k st en kd si ni wi w0 N pos' w) (y : UInt8) :
    ∃ O o0 k0, O.length ≤ out.length + 1 + N ∧ Cl w p 0 (.slice o0 O.length k0) ∧ RowB (p + 1) (.slice o0 O.length k0) O w ∧
      ∀ v' w', RowB (p + 1) v' (O ++ [y]) w' → Moves w (.slice o0 O.length k0) w' v' → Cl w' p 0 (.slice o0 O.length k0) ∧ Bag p out c k st en kd si ni wi w0 (N + 1) pos' (w'.setCell ⟨p, 0, none⟩ v') := by
  obtain ⟨x, st2, en2, kd2, si', ni', wi', hd, hb, hg, h1, h2, h3, h4, h5⟩ := h
  obtain ⟨o0, k0, o1, k1, o2, k2, o3, k3, hD⟩ := hd.opened
  refine ⟨out ++ c :: x, o0, k0, by simp; omega, hD.c0, hD.r0, fun v' w' hr hm => ⟨hD.c0.grown hD.r0 hm.1, ?_⟩⟩
  exact bag_more (hD.put0 hr hm) (hb.trans (below_set (below_moves hD.r0 hm hD.lt))) hg h1 h2 h3 h4 h5 (by omega)

theorem bag_ws (h : Bag p out c k st en kd si ni wi w0 N pos' w) (hN : out.length + N ≤ 10000000000) (hw : wi ≤ out.length) :
    Calls Try.prog 22 #[.pointer (some ⟨p, 0, none⟩)] w fun e w' => e = .returned (.tuple #[]) ∧ Bag p out c k st en kd si ni wi w0 (N + 1) pos' w' := by
  obtain ⟨x, st2, en2, kd2, si', ni', wi', hd, hb, hg, h1, h2, h3, h4, h5⟩ := h
  refine (ws_any p _ _ _ _ pos' si' ni' wi' w hd (by simp; omega) (by omega)).mono ?_
  rintro e w' ⟨rfl, y, hd', hb'⟩
  exact ⟨rfl, bag_more hd' (hb.trans hb') hg h1 h2 h3 h4 h5 (by omega)⟩

theorem bag_str (h : Bag p out c k st en kd si ni wi w0 N pos' w) (oa : Option Addr) (cap : Nat) (L : List ByteArray) (mode : Int) (hv : Seen p w0 oa (L.map Value.string)) (hN : out.length + N ≤ 10000000000) (hs : st.length ≤ out.length) (he : en.length = st.length) (hk : kd.length = st.length) (hsi : si ≤ out.length)
    (hL : L.length ≤ 1000000) (hx : ∀ x ∈ L, x.size ≤ 65536) :
    Calls Try.prog 19 #[.pointer (some ⟨p, 0, none⟩), .slice oa L.length cap, .int .u8 mode] w fun e w' => e = .returned (.tuple #[]) ∧ Bag p out c k st en kd si ni wi w0 (N + 393301) pos' w' := by
  obtain ⟨x, st2, en2, kd2, si', ni', wi', hd, hb, hg, h1, h2, h3, h4, h5⟩ := h
  refine (str_any p _ _ _ _ oa cap L mode pos' si' ni' wi' w hd (hv.on hb) (by simp; omega) (by simp; omega) (by simp [he]; exact hg.1.symm) (by have := hg.2.1; simp; omega) (by omega) hL hx).mono ?_
  rintro e w' ⟨rfl, q, hq1, hq2, hd', hb'⟩
  refine ⟨rfl, x ++ 34 :: q, st2 ++ [(out ++ c :: x).length], en2 ++ [(out ++ c :: x).length + (q.length + 1)], kd2 ++ [2], si' + 1, ni', wi', ?_, hb.trans hb', ?_, ?_, ?_, ?_, ?_, ?_⟩
  · rw [snoc_more, snoc_more', snoc_more', snoc_more] at hd'
    exact hd'
  · rw [← snoc_more]
    exact hg.more.app (Goods.cons (good_head (by unfold Kind; simp) rfl) (goods_nil _))
  all_goals simp <;> omega

/-- A value inside, by what the recursion says. -/
theorem bag_val {L : Nat} {f : World → (Ending → World → Prop) → Prop} (h : Bag p out c k st en kd si ni wi w0 N pos' w) (hN : out.length + 1 + N + 1000000 * (L - pos') ≤ 9000000000) (hp : pos' < L) (hs : st.length ≤ out.length) (he : en.length = st.length) (hk : kd.length = st.length)
    (hsi : si ≤ out.length) (hni : ni ≤ out.length) (hwi : wi ≤ out.length) (hmono : ∀ {P Q : Ending → World → Prop}, f w P → (∀ e w', P e w' → Q e w') → f w Q)
    (ih : ∀ O S E K a b d, Room L O S E K pos' a b d → Doc p O S E K pos' a b d w → f w (ValueEnd p L O S E K pos' a b d w)) :
    f w fun e w' => e = .returned (.tuple #[]) ∧ ∃ N' pos'', pos' < pos'' ∧ pos'' ≤ L ∧ N' + 1000000 * (L - pos'') + 500000 ≤ N + 1000000 * (L - pos') ∧ Bag p out c k st en kd si ni wi w0 N' pos'' w' := by
  obtain ⟨x, st2, en2, kd2, si', ni', wi', hd, hb, hg, h1, h2, h3, h4, h5⟩ := h
  refine hmono (ih _ _ _ _ _ _ _ ?_ hd) ?_
  · refine ⟨by omega, ?_, ?_, ?_, ?_, ?_, ?_, ?_⟩
    · simp; omega
    · simp; omega
    · have := hg.1; simp; omega
    · have := hg.2.1; simp; omega
    all_goals simp <;> omega
  · rintro e w' ⟨rfl, y, st3, en3, kd3, pos'', si'', ni'', wi'', ⟨hd', hb'⟩, hg', i1, i2, i3, i4, i5, i6, i7⟩
    refine ⟨rfl, x.length + y.length, pos'', i5, i6, by omega, x ++ y, st2 ++ st3, en2 ++ en3, kd2 ++ kd3, si'', ni'', wi'', ?_, hb.trans hb', ?_, ?_, ?_, ?_, ?_, ?_⟩
    · rw [snoc_more, snoc_more', snoc_more', snoc_more] at hd'
      exact hd'
    · rw [← snoc_more]
      exact hg.more.app hg'
    all_goals simp <;> omega

theorem set_mid (en en2 : List Nat) (a b : Nat) {i : Nat} (hi : i = en.length) : (en ++ a :: en2).set i b = en ++ b :: en2 := by
  subst hi
  rw [List.set_append_right _ _ (Nat.le_refl _)]
  simp

/-- The container is shut. -/
theorem Bag.shut {L pos : Nat} (h : Bag p out c k st en kd si ni wi w0 N pos' w) (he : en.length = st.length) (hkind : Kind c k) (hpos : pos < pos') (hposL : pos' ≤ L) (hN : N + 1 + 1000000 * (L - pos') + 500000 ≤ 1000000 * (L - pos)) :
    ∃ o0 k0 n m g cap u, Cl w p 0 (.slice o0 n k0) ∧ Cl w p 2 (.slice (some ⟨g, 0, none⟩) m cap) ∧ Cl w g st.length u ∧ p < g ∧ st.length < m ∧ n ≤ out.length + 1 + N ∧
      ValueEnd p L out st en kd pos si ni wi w0 (.returned (.tuple #[])) (w.setCell ⟨g, st.length, none⟩ (.int .i64 (n : Int))).drew := by
  obtain ⟨x, st2, en2, kd2, si', ni', wi', hd, hb, hg, h1, h2, h3, h4, h5⟩ := h
  obtain ⟨o0, k0, g, cap, u, a1, a2, a3, a4, a5⟩ := hd.endAt (k := st.length) (by simp; omega)
  refine ⟨o0, k0, _, _, g, cap, u, a1, a2, a3, a4, by simp; omega, by simp; omega, ?_⟩
  obtain ⟨d1, d2⟩ := a5 (out ++ c :: x).length _ rfl
  rw [set_mid _ _ _ _ he.symm] at d1
  refine ⟨rfl, c :: x, out.length :: st2, (out ++ c :: x).length :: en2, k :: kd2, pos', si', ni', wi', ⟨d1.drew, (hb.trans d2).drew⟩, Goods.cons (good_head hkind (by simp)) hg, ?_, ?_, ?_, ?_, hpos, hposL, ?_⟩
  all_goals simp <;> omega
end
end Go.Proofs.Qxb6600588a
