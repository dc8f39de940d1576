/-
  The walk of zzValue: a string, a number, a literal.
-/
import Derived.Test.Qxb6600588aVal
namespace Go.Proofs.Qxb6600588a
open Go.RowKit

/-- What zzValue is handed besides the document. -/
def Given (p : Nat) (w : World) (os ot on : Option Addr) (sh : List UInt8) (L : List ByteArray) (nums : List Int) : Prop :=
  Seen p w os (Lib.byteCells sh) ∧ Seen p w ot (L.map Value.string) ∧ Seen p w on (nums.map (Value.int .i64)) ∧ sh.length ≤ 4096 ∧ L.length ≤ 4096 ∧ nums.length ≤ 4096 ∧ (∀ x ∈ L, x.size ≤ 65536) ∧
    ∀ n ∈ nums, -9223372036854775808 ≤ n ∧ n ≤ 9223372036854775807
theorem Given.on {p : Nat} {w w' : World} {os ot on : Option Addr} {sh : List UInt8} {L : List ByteArray} {nums : List Int} (h : Given p w os ot on sh L nums) (hb : Below p w w') : Given p w' os ot on sh L nums :=
  ⟨h.1.on hb, h.2.1.on hb, h.2.2.1.on hb, h.2.2.2⟩
theorem Given.byte {p : Nat} {w : World} {os ot on : Option Addr} {sh : List UInt8} {L : List ByteArray} {nums : List Int} (h : Given p w os ot on sh L nums) {k : Nat} (hk : k < sh.length) :
    ∃ b off, os = some ⟨b, off, none⟩ ∧ b < p ∧ w.cell? ⟨b, off + k, none⟩ = some (.int .u8 ((sh[k]'hk).toNat : Int)) := by
  obtain ⟨b, off, e, hb, hc⟩ := h.1.at (k := k) (by rw [Lib.byteCells_length]; exact hk)
  refine ⟨b, off, e, hb, ?_⟩
  rw [hc]
  simp [Lib.byteCells]

set_option maxRecDepth 100000 in
set_option maxHeartbeats 4000000 in
theorem value_str (p : Nat) (out : List UInt8) (st en : List Nat) (kd : List UInt8) (os ot on : Option Addr) (cs ct cn : Nat) (sh : List UInt8) (L : List ByteArray) (nums : List Int) (pos si ni wi : Nat) (w : World) (h : Doc p out st en kd pos si ni wi w) (hG : Given p w os ot on sh L nums)
    (hR : Room sh.length out st en kd pos si ni wi) (hpos : pos < sh.length) (hb : (sh[pos]'hpos).toNat % 8 = 0) :
    Calls Try.prog 9 #[.pointer (some ⟨p, 0, none⟩), .slice os sh.length cs, .slice ot L.length ct, .slice on nums.length cn] w fun e w' => ValueEnd p sh.length out st en kd pos si ni wi w e w' := by
  obtain ⟨r1, r2, r3, r4, r5, r6, r7, r8⟩ := hR
  have hsh := hG.2.2.2.1
  obtain ⟨bb, off, rfl, hbp, hc⟩ := hG.byte hpos
  obtain ⟨b, hbb⟩ : ∃ b, (sh[pos]'hpos).toNat = b := ⟨_, rfl⟩
  have hb8 : b < 256 := by rw [← hbb]; exact (sh[pos]'hpos).toNat_lt
  rw [hbb] at hc hb
  obtain ⟨o0, k0, o1, k1, o2, k2, o3, k3, hD⟩ := h.opened
  obtain ⟨c4, f4⟩ := hD.c4
  have hlt := hD.lt
  have D1 : Hid (Doc p out st en kd (pos + 1) si ni wi (w.setCell ⟨p, 4, none⟩ (.int .i64 ((pos : Int) + 1)))) := h.pos1 (by omega)
  have B1 : Hid (Below p w (w.setCell ⟨p, 4, none⟩ (.int .i64 ((pos : Int) + 1)))) := below_set (Below.refl p w)
  have HG := Lib.hid hG
  clear hD h hG hbb
  go_enter Try.func9, Try.ntmps9
  go_wp2_with fail
  generalize w.setCell ⟨p, 4, none⟩ (.int .i64 ((pos : Int) + 1)) = w1 at D1 B1 ⊢
  have G1 := HG.out.on B1.out
  refine (str_any p out st en kd ot ct L _ (pos + 1) si ni wi w1 D1.out G1.2.1 (by omega) (by omega) r4 (by omega) (by omega) (by have := G1.2.2.2.2.1; omega) G1.2.2.2.2.2.2.1).mono ?_
  rintro e w2 ⟨rfl, q, hq1, hq2, hd⟩
  go_wp2
  go_end0
  exact value_one hd B1.out rfl (by unfold Kind; simp) (by omega) (by omega) hpos (by omega)

set_option maxRecDepth 100000 in
set_option maxHeartbeats 4000000 in
theorem value_true (p : Nat) (out : List UInt8) (st en : List Nat) (kd : List UInt8) (os ot on : Option Addr) (cs ct cn : Nat) (sh : List UInt8) (L : List ByteArray) (nums : List Int) (pos si ni wi : Nat) (w : World) (h : Doc p out st en kd pos si ni wi w) (hG : Given p w os ot on sh L nums)
    (hR : Room sh.length out st en kd pos si ni wi) (hpos : pos < sh.length) (hb : (sh[pos]'hpos).toNat % 8 = 2) :
    Calls Try.prog 9 #[.pointer (some ⟨p, 0, none⟩), .slice os sh.length cs, .slice ot L.length ct, .slice on nums.length cn] w fun e w' => ValueEnd p sh.length out st en kd pos si ni wi w e w' := by
  obtain ⟨r1, r2, r3, r4, r5, r6, r7, r8⟩ := hR
  have hsh := hG.2.2.2.1
  obtain ⟨bb, off, rfl, hbp, hc⟩ := hG.byte hpos
  obtain ⟨b, hbb⟩ : ∃ b, (sh[pos]'hpos).toNat = b := ⟨_, rfl⟩
  have hb8 : b < 256 := by rw [← hbb]; exact (sh[pos]'hpos).toNat_lt
  rw [hbb] at hc hb
  obtain ⟨o0, k0, o1, k1, o2, k2, o3, k3, hD⟩ := h.opened
  obtain ⟨c4, f4⟩ := hD.c4
  have hlt := hD.lt
  have D1 : Hid (Doc p out st en kd (pos + 1) si ni wi (w.setCell ⟨p, 4, none⟩ (.int .i64 ((pos : Int) + 1)))) := h.pos1 (by omega)
  have B1 : Hid (Below p w (w.setCell ⟨p, 4, none⟩ (.int .i64 ((pos : Int) + 1)))) := below_set (Below.refl p w)
  have HG := Lib.hid hG
  clear hD h hG hbb
  go_enter Try.func9, Try.ntmps9
  go_wp2_with fail
  generalize w.setCell ⟨p, 4, none⟩ (.int .i64 ((pos : Int) + 1)) = w1 at D1 B1 ⊢
  refine (lit_any p out st en kd 3 ⟨#[116, 114, 117, 101]⟩ (pos + 1) si ni wi w1 D1.out (by omega) (by omega) r4 (by omega) (by decide) (by decide)).mono ?_
  rintro e w2 ⟨rfl, hd⟩
  go_wp2
  go_end0
  exact value_one (b := 116) (x := [114, 117, 101]) hd B1.out rfl (by unfold Kind; simp) (by omega) (by omega) hpos (by simp)

set_option maxRecDepth 100000 in
set_option maxHeartbeats 4000000 in
theorem value_false (p : Nat) (out : List UInt8) (st en : List Nat) (kd : List UInt8) (os ot on : Option Addr) (cs ct cn : Nat) (sh : List UInt8) (L : List ByteArray) (nums : List Int) (pos si ni wi : Nat) (w : World) (h : Doc p out st en kd pos si ni wi w) (hG : Given p w os ot on sh L nums)
    (hR : Room sh.length out st en kd pos si ni wi) (hpos : pos < sh.length) (hb : (sh[pos]'hpos).toNat % 8 = 3) :
    Calls Try.prog 9 #[.pointer (some ⟨p, 0, none⟩), .slice os sh.length cs, .slice ot L.length ct, .slice on nums.length cn] w fun e w' => ValueEnd p sh.length out st en kd pos si ni wi w e w' := by
  obtain ⟨r1, r2, r3, r4, r5, r6, r7, r8⟩ := hR
  have hsh := hG.2.2.2.1
  obtain ⟨bb, off, rfl, hbp, hc⟩ := hG.byte hpos
  obtain ⟨b, hbb⟩ : ∃ b, (sh[pos]'hpos).toNat = b := ⟨_, rfl⟩
  have hb8 : b < 256 := by rw [← hbb]; exact (sh[pos]'hpos).toNat_lt
  rw [hbb] at hc hb
  obtain ⟨o0, k0, o1, k1, o2, k2, o3, k3, hD⟩ := h.opened
  obtain ⟨c4, f4⟩ := hD.c4
  have hlt := hD.lt
  have D1 : Hid (Doc p out st en kd (pos + 1) si ni wi (w.setCell ⟨p, 4, none⟩ (.int .i64 ((pos : Int) + 1)))) := h.pos1 (by omega)
  have B1 : Hid (Below p w (w.setCell ⟨p, 4, none⟩ (.int .i64 ((pos : Int) + 1)))) := below_set (Below.refl p w)
  have HG := Lib.hid hG
  clear hD h hG hbb
  go_enter Try.func9, Try.ntmps9
  go_wp2_with fail
  generalize w.setCell ⟨p, 4, none⟩ (.int .i64 ((pos : Int) + 1)) = w1 at D1 B1 ⊢
  refine (lit_any p out st en kd 3 ⟨#[102, 97, 108, 115, 101]⟩ (pos + 1) si ni wi w1 D1.out (by omega) (by omega) r4 (by omega) (by decide) (by decide)).mono ?_
  rintro e w2 ⟨rfl, hd⟩
  go_wp2
  go_end0
  exact value_one (b := 102) (x := [97, 108, 115, 101]) hd B1.out rfl (by unfold Kind; simp) (by omega) (by omega) hpos (by simp)

set_option maxRecDepth 100000 in
set_option maxHeartbeats 4000000 in
theorem value_null (p : Nat) (out : List UInt8) (st en : List Nat) (kd : List UInt8) (os ot on : Option Addr) (cs ct cn : Nat) (sh : List UInt8) (L : List ByteArray) (nums : List Int) (pos si ni wi : Nat) (w : World) (h : Doc p out st en kd pos si ni wi w) (hG : Given p w os ot on sh L nums)
    (hR : Room sh.length out st en kd pos si ni wi) (hpos : pos < sh.length) (hb : (sh[pos]'hpos).toNat % 8 = 4) :
    Calls Try.prog 9 #[.pointer (some ⟨p, 0, none⟩), .slice os sh.length cs, .slice ot L.length ct, .slice on nums.length cn] w fun e w' => ValueEnd p sh.length out st en kd pos si ni wi w e w' := by
  obtain ⟨r1, r2, r3, r4, r5, r6, r7, r8⟩ := hR
  have hsh := hG.2.2.2.1
  obtain ⟨bb, off, rfl, hbp, hc⟩ := hG.byte hpos
  obtain ⟨b, hbb⟩ : ∃ b, (sh[pos]'hpos).toNat = b := ⟨_, rfl⟩
  have hb8 : b < 256 := by rw [← hbb]; exact (sh[pos]'hpos).toNat_lt
  rw [hbb] at hc hb
  obtain ⟨o0, k0, o1, k1, o2, k2, o3, k3, hD⟩ := h.opened
  obtain ⟨c4, f4⟩ := hD.c4
  have hlt := hD.lt
  have D1 : Hid (Doc p out st en kd (pos + 1) si ni wi (w.setCell ⟨p, 4, none⟩ (.int .i64 ((pos : Int) + 1)))) := h.pos1 (by omega)
  have B1 : Hid (Below p w (w.setCell ⟨p, 4, none⟩ (.int .i64 ((pos : Int) + 1)))) := below_set (Below.refl p w)
  have HG := Lib.hid hG
  clear hD h hG hbb
  go_enter Try.func9, Try.ntmps9
  go_wp2_with fail
  generalize w.setCell ⟨p, 4, none⟩ (.int .i64 ((pos : Int) + 1)) = w1 at D1 B1 ⊢
  refine (lit_any p out st en kd 4 ⟨#[110, 117, 108, 108]⟩ (pos + 1) si ni wi w1 D1.out (by omega) (by omega) r4 (by omega) (by decide) (by decide)).mono ?_
  rintro e w2 ⟨rfl, hd⟩
  go_wp2
  go_end0
  exact value_one (b := 110) (x := [117, 108, 108]) hd B1.out rfl (by unfold Kind; simp) (by omega) (by omega) hpos (by simp)

end Go.Proofs.Qxb6600588a
