/-
  zzValue, whatever the shape.
-/
import Derived.Test.Qxb6600588aBagA
import Derived.Test.Qxb6600588aBagB
import Derived.Test.Qxb6600588aBagC
import Derived.Test.Qxb6600588aBagD
namespace Go.Proofs.Qxb6600588a
open Go.RowKit

theorem value_any (p : Nat) (os ot on : Option Addr) (cs ct cn : Nat) (sh : List UInt8) (L : List ByteArray) (nums : List Int) : ∀ (n : Nat) (out : List UInt8) (st en : List Nat) (kd : List UInt8) (pos si ni wi : Nat) (w : World), sh.length - pos = n →
    Given p w os ot on sh L nums → Room sh.length out st en kd pos si ni wi → pos < sh.length → Doc p out st en kd pos si ni wi w →
    Calls Try.prog 9 #[.pointer (some ⟨p, 0, none⟩), .slice os sh.length cs, .slice ot L.length ct, .slice on nums.length cn] w fun e w' => ValueEnd p sh.length out st en kd pos si ni wi w e w' := by
  intro n
  induction n using Nat.strongRecOn with
  | ind n ih =>
    intro out st en kd pos si ni wi w hn hG hR hpos h
    have ih' : ∀ O S E K p2 a b d w2, Given p w2 os ot on sh L nums → Room sh.length O S E K p2 a b d → pos < p2 → p2 < sh.length → Doc p O S E K p2 a b d w2 →
        Calls Try.prog 9 #[.pointer (some ⟨p, 0, none⟩), .slice os sh.length cs, .slice ot L.length ct, .slice on nums.length cn] w2 fun e w' => ValueEnd p sh.length O S E K p2 a b d w2 e w' :=
      fun O S E K p2 a b d w2 g1 g2 g3 g4 g5 => ih (sh.length - p2) (by omega) O S E K p2 a b d w2 rfl g1 g2 g4 g5
    rcases (by omega : (sh[pos]'hpos).toNat % 8 = 0 ∨ (sh[pos]'hpos).toNat % 8 = 1 ∨ (sh[pos]'hpos).toNat % 8 = 2 ∨ (sh[pos]'hpos).toNat % 8 = 3 ∨ (sh[pos]'hpos).toNat % 8 = 4 ∨ (sh[pos]'hpos).toNat % 8 = 5 ∨ (sh[pos]'hpos).toNat % 8 = 6 ∨ (sh[pos]'hpos).toNat % 8 = 7) with e | e | e | e | e | e | e | e
    · exact value_str p out st en kd os ot on cs ct cn sh L nums pos si ni wi w h hG hR hpos e
    · exact value_int p out st en kd os ot on cs ct cn sh L nums pos si ni wi w h hG hR hpos e
    · exact value_true p out st en kd os ot on cs ct cn sh L nums pos si ni wi w h hG hR hpos e
    · exact value_false p out st en kd os ot on cs ct cn sh L nums pos si ni wi w h hG hR hpos e
    · exact value_null p out st en kd os ot on cs ct cn sh L nums pos si ni wi w h hG hR hpos e
    · cases hsp : (bits BinOp.and IntKind.u8 (((sh[pos]'hpos).toNat : Int) / 32) 1 == 1)
      · exact value_obj p out st en kd os ot on cs ct cn sh L nums pos si ni wi w h hG hR hpos e hsp ih'
      · exact value_objws p out st en kd os ot on cs ct cn sh L nums pos si ni wi w h hG hR hpos e hsp ih'
    · cases hsp : (bits BinOp.and IntKind.u8 (((sh[pos]'hpos).toNat : Int) / 32) 1 == 1)
      · exact value_arr p out st en kd os ot on cs ct cn sh L nums pos si ni wi w h hG hR hpos e hsp ih'
      · exact value_arrws p out st en kd os ot on cs ct cn sh L nums pos si ni wi w h hG hR hpos e hsp ih'
    · exact value_frac p out st en kd os ot on cs ct cn sh L nums pos si ni wi w h hG hR hpos e

set_option maxRecDepth 100000 in
set_option maxHeartbeats 2000000 in
/-- The shape is used up: null. -/
theorem value_none (p : Nat) (os : Option Addr) (vt vn : Value) (cs : Nat) (w : World) (h : Doc p [] [] [] [] 0 0 0 0 w) :
    Calls Try.prog 9 #[.pointer (some ⟨p, 0, none⟩), .slice os 0 cs, vt, vn] w fun e w' => ValEnd p [] [110, 117, 108, 108] [] [] [] 4 0 0 0 0 w e w' := by
  obtain ⟨o0, k0, o1, k1, o2, k2, o3, k3, hD⟩ := h.opened
  obtain ⟨c4, f4⟩ := hD.c4
  have HH := Lib.hid h
  clear hD h
  go_enter Try.func9, Try.ntmps9
  go_wp2_with fail
  refine (lit_any p [] [] [] [] 4 ⟨#[110, 117, 108, 108]⟩ 0 0 0 0 w HH.out (by simp) (by simp) rfl (by simp) (by decide) (by decide)).mono ?_
  rintro e w2 ⟨rfl, hd⟩
  go_wp2
  go_end0
  exact ⟨rfl, hd⟩

/-- The document, done. -/
def Done (p : Nat) (w : World) (e : Ending) (w' : World) : Prop :=
  e = .returned (.tuple #[]) ∧ ∃ out st en kd pos si ni wi, Doc p out st en kd pos si ni wi w' ∧ Below p w w' ∧ Goods out st en kd ∧ out.length ≤ 10000000000 ∧ st.length ≤ out.length

theorem doc_any (p : Nat) (os ot on : Option Addr) (cs ct cn : Nat) (sh : List UInt8) (L : List ByteArray) (nums : List Int) (w : World) (hG : Given p w os ot on sh L nums) (h : Doc p [] [] [] [] 0 0 0 0 w) :
    Calls Try.prog 9 #[.pointer (some ⟨p, 0, none⟩), .slice os sh.length cs, .slice ot L.length ct, .slice on nums.length cn] w fun e w' => Done p w e w' := by
  have hsh := hG.2.2.2.1
  by_cases h0 : 0 < sh.length
  · refine Calls.mono (value_any p os ot on cs ct cn sh L nums _ [] [] [] [] 0 0 0 0 w rfl hG ⟨by omega, by simp; omega, by simp, rfl, rfl, by simp, by simp, by simp⟩ h0 h) ?_
    rintro e w' ⟨rfl, x, st2, en2, kd2, pos', si', ni', wi', ⟨hd, hb⟩, hg, i1, i2, i3, i4, i5, i6, i7⟩
    exact ⟨rfl, _, _, _, _, _, _, _, _, hd, hb, by simpa using hg, by simp; omega, by simpa using i1⟩
  · have e0 : sh.length = 0 := by omega
    rw [e0]
    refine Calls.mono (value_none p os _ _ cs w h) ?_
    rintro e w' ⟨rfl, hd, hb⟩
    refine ⟨rfl, _, _, _, _, _, _, _, _, hd, hb, ?_, by simp, by simp⟩
    exact Goods.cons (good_head (out := []) (x := [117, 108, 108]) (by unfold Kind; simp) (by simp)) (goods_nil _)
end Go.Proofs.Qxb6600588a
