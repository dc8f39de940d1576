/-
  The walk of the round-trip law.
-/
import Derived.Test.Qxb6600544aView
import Derived.Test.Qxb6600544aRtPlain
import Derived.Test.Qxb6600544aApp
import Derived.Deep.Cut
import Derived.Deep.CutRange
import Derived.Deep.CutBlock
namespace Go.Proofs.Qxb6600544a
open Go.Shelf Go.RowKit Un

theorem take_all {L : List ByteArray} {k : Nat} {x : ByteArray} {m : Nat} (h : ∀ y ∈ L.take k, y.size ≤ m) (hx : L[k]? = some x) (hm : x.size ≤ m) : ∀ y ∈ L.take (k + 1), y.size ≤ m := by
  obtain ⟨hk, e⟩ := List.getElem?_eq_some_iff.1 hx
  intro y hy
  rw [List.take_succ_eq_append_getElem hk, e] at hy
  rcases List.mem_append.1 hy with h1 | h1
  · exact h y h1
  · have : y = x := by simpa using h1
    rw [this]; exact hm

theorem take_ne {l : List UInt8} {k : Nat} {x c : UInt8} (h : ∀ y ∈ l.take k, y ≠ c) (hx : l[k]? = some x) (hm : x ≠ c) : ∀ y ∈ l.take (k + 1), y ≠ c := by
  obtain ⟨hk, e⟩ := List.getElem?_eq_some_iff.1 hx
  intro y hy
  rw [List.take_succ_eq_append_getElem hk, e] at hy
  rcases List.mem_append.1 hy with h1 | h1
  · exact h y h1
  · have : y = x := by simpa using h1
    rw [this]; exact hm
theorem take_b {l : List UInt8} {k : Nat} {c : UInt8} (hx : l[k]? = some c) : l.take (k + 1) = l.take k ++ [c] := by
  obtain ⟨hk, e⟩ := List.getElem?_eq_some_iff.1 hx
  rw [List.take_succ_eq_append_getElem hk, e]
/-- The bytes as a string. -/
def mk (l : List UInt8) : ByteArray := ⟨l.toArray⟩
theorem bs_mk (l : List UInt8) : bs (mk l) = l := by simp [mk]
theorem needs_iff (single : Bool) (c : UInt8) : needs single c = true ↔ single = false ∧ (c = 34 ∨ c = 92) := by
  unfold needs; cases single <;> simp
theorem needs_no (c : UInt8) (h : needs false c = false) : c ≠ 34 ∧ c ≠ 92 := by
  have := h; unfold needs at this; simpa using this

/-- What a round of the writing loop hands on. -/
abbrev RtRel (sg : Bool) (v : ByteArray) (w2 : World) (g : Nat) (t18 t19 t20 : Value) (wx : World) : Prop :=
  ∃ k : Nat, t20 = .int .i64 (k : Int) ∧ k ≤ v.size ∧ v.size ≤ k + g ∧ Hid (OwnS w2.heap.size t18 ((run sg ((bs v).take k)).1.map mk) wx) ∧ Hid (OwnB w2.heap.size t19 (run sg ((bs v).take k)).2 wx) ∧ Below w2.heap.size w2 wx

theorem rt_rel1 (sg : Bool) (pre : List UInt8) (c : UInt8) (v : ByteArray) (k g : Nat) {w2 wr w3 : World} {ts tc v1 : Value} (hR : run sg ((bs v).take (k + 1)) = ((run sg pre).1, (run sg pre).2 ++ enc sg c)) (hE : enc sg c = [c])
    (hap : ts.ownBlock = none ∨ ts.ownBlock ≠ tc.ownBlock) (hS : OwnS w2.heap.size ts ((run sg pre).1.map mk) wr) (hC : OwnB w2.heap.size tc (run sg pre).2 wr) (hC3 : OwnB w2.heap.size v1 ((run sg pre).2 ++ [c]) w3)
    (hg3 : wr.grownBy w3 tc.ownBlock) (hb : Below w2.heap.size w2 wr) (hBw : w2.heap.size ≤ wr.heap.size) (hlt : k < v.size) (hkg : v.size ≤ k + g) :
    RtRel sg v w2 (g - 1) ts v1 (.int .i64 ((k : Int) + 1)) w3 :=
  ⟨k + 1, by go_num, by omega, by omega, by show OwnS _ _ _ _; rw [hR]; exact hS.keep hg3 hap, by show OwnB _ _ _ _; rw [hR, hE]; exact hC3, below_own hb hg3 hBw hC.row⟩

theorem rt_rel (sg : Bool) (pre : List UInt8) (c : UInt8) (v : ByteArray) (k g : Nat) {w2 wr w3 w4 : World} {ts tc v1 v2 : Value} (hR : run sg ((bs v).take (k + 1)) = ((run sg pre).1, (run sg pre).2 ++ enc sg c)) (hE : enc sg c = [92, c])
    (hap : ts.ownBlock = none ∨ ts.ownBlock ≠ tc.ownBlock) (hS : OwnS w2.heap.size ts ((run sg pre).1.map mk) wr) (hC : OwnB w2.heap.size tc (run sg pre).2 wr) (hC3 : OwnB w2.heap.size v1 ((run sg pre).2 ++ [92]) w3) (hC4 : OwnB w2.heap.size v2 ((run sg pre).2 ++ [92] ++ [c]) w4)
    (hg3 : wr.grownBy w3 tc.ownBlock) (hg4 : w3.grownBy w4 v1.ownBlock) (hb : Below w2.heap.size w2 wr) (hBw : w2.heap.size ≤ wr.heap.size) (hlt : k < v.size) (hkg : v.size ≤ k + g) :
    RtRel sg v w2 (g - 1) ts v2 (.int .i64 ((k : Int) + 1)) w4 := by
  have hS3 := hS.keep hg3 hap
  have hb3 := below_own hb hg3 hBw hC.row
  refine ⟨k + 1, by go_num, by omega, by omega, ?_, ?_, below_own hb3 hg4 hb3.size hC3.row⟩
  · show OwnS _ _ _ _; rw [hR]; exact hS3.keep hg4 (own_apart' hC3 hS3)
  · show OwnB _ _ _ _; rw [hR, hE]
    have e : (run sg pre).2 ++ [92, c] = (run sg pre).2 ++ [92] ++ [c] := by simp
    rw [e]; exact hC4

theorem segs_size (v a : ByteArray) (sg : Bool) (S1 : List (List UInt8)) (cur : List UInt8) (SG : List ByteArray) (hSG : S1.map mk ++ [mk (cur ++ [quo sg] ++ bs a)] = SG)
    (h1 : ∀ x ∈ S1, x.length ≤ 2 * v.size) (h2 : cur.length ≤ 2 * v.size) : ∀ x ∈ SG, x.size ≤ 2 * v.size + 1 + a.size := by
  intro x hx
  rw [← hSG] at hx
  rcases List.mem_append.1 hx with h | h
  · obtain ⟨l, hl, rfl⟩ := List.mem_map.1 h
    have := h1 l hl
    show l.toArray.size ≤ _
    rw [List.size_toArray]; omega
  · have : x = mk (cur ++ [quo sg] ++ bs a) := by simpa using h
    rw [this]
    show (cur ++ [quo sg] ++ bs a).toArray.size ≤ _
    rw [List.size_toArray, List.length_append, List.length_append, List.length_singleton, len_b]; omega
theorem segs_bs (a : ByteArray) (sg : Bool) (S1 : List (List UInt8)) (cur : List UInt8) (SG : List ByteArray) (hSG : S1.map mk ++ [mk (cur ++ [quo sg] ++ bs a)] = SG) :
    SG.map bs = S1 ++ [cur ++ (quo sg :: bs a)] := by
  rw [← hSG, List.map_append, List.map_map]
  have e : bs ∘ mk = id := by funext l; exact bs_mk l
  rw [e, List.map_id]
  simp [bs_mk]

theorem take_bs {L : List ByteArray} {k : Nat} {x : ByteArray} (hx : L[k]? = some x) : L.take (k + 1) = L.take k ++ [x] := by
  obtain ⟨hk, e⟩ := List.getElem?_eq_some_iff.1 hx
  rw [List.take_succ_eq_append_getElem hk, e]
theorem drop_take {L : List ByteArray} {k : Nat} {x : ByteArray} (h1 : 1 ≤ k) (hx : L[k]? = some x) : (L.take (k + 1)).drop 1 = (L.take k).drop 1 ++ [x] := by
  obtain ⟨hk, e⟩ := List.getElem?_eq_some_iff.1 hx
  rw [take_bs hx, List.drop_append_of_le_length (by rw [List.length_take]; omega)]

/-- What unquote makes of the lines. -/
theorem rt_final (sg : Bool) (v a hd O S0 : ByteArray) (L1 L2 SG A : List ByteArray) (S1 : List (List UInt8)) (cur : List UInt8) (hp : 0 < O.size)
    (hO : (⟨([quo sg] ++ S0.data.toList).toArray⟩ : ByteArray) = O) (hS0 : SG[0]? = some S0) (hSB : SG.map bs = S1 ++ [cur ++ (quo sg :: bs a)])
    (hRT : U (quo sg) (S1 ++ [cur ++ (quo sg :: bs a)]) (L2.map bs) L1.length = (bs v, bs a, L1.length + S1.length, true)) (hA : A = L1 ++ [hd ++ O] ++ SG.drop 1 ++ L2) :
    unqs (O[0]'hp) [] ((bs O).drop 1) L1.length ((A.drop (L1.length + 1)).map bs) = (bs v, bs a, L1.length + S1.length, true) := by
  have hbO : bs O = quo sg :: bs S0 := by rw [← hO]; simp
  have h0 : O[0]'hp = quo sg := by
    have := at_b O 0 hp
    rw [hbO] at this
    simpa using this.symm
  have hAd : A.drop (L1.length + 1) = SG.drop 1 ++ L2 := by
    rw [hA, List.append_assoc]
    rw [List.drop_append_of_le_length (by simp)]
    rw [List.drop_eq_nil_of_le (by simp)]
    rfl
  rw [h0, hbO, hAd]
  rw [← hRT, ← hSB]
  cases SG with
  | nil => simp at hS0
  | cons y SG =>
    have e : y = S0 := by simpa using hS0
    subst e
    simp [U]

theorem mk_bs (s : ByteArray) : (⟨(bs s).toArray⟩ : ByteArray) = s := by
  cases s; simp

set_option maxRecDepth 100000 in
set_option maxHeartbeats 8000000 in
theorem rt_walk (oa1 oa2 : Option Addr) (cap1 cap2 : Nat) (L1 L2 : List ByteArray) (hd v a : ByteArray) (sg : Bool) (w : World) (hv1 : View w.heap.size w oa1 L1) (hv2 : View w.heap.size w oa2 L2)
    (hn1 : oa1 = none → cap1 = 0) (hn2 : oa2 = none → cap2 = 0)
    (hm1 : L1.length ≤ 9223372036854775807) (hm2 : L2.length ≤ 9223372036854775807) (h1 : hd.size ≤ maxLen) (h2 : v.size ≤ maxLen) (h3 : a.size ≤ maxLen) :
    Calls Try.prog 9 #[.slice oa1 L1.length cap1, .string hd, .string v, .string a, .slice oa2 L2.length cap2, .bool sg] w fun e w' => e = .returned (.bool true) ∧ Below w.heap.size w w' := by
  have k0 := bytes23_any oa1 oa2 cap1 cap2 L1 L2 hd v a sg w hv1 hv2 hm1 hm2 h1 h2 h3
  unfold maxLen at h1 h2 h3
  have HV1 := Lib.hid hv1
  have HV2 := Lib.hid hv2
  have HN1 := Lib.hid hn1
  have HN2 := Lib.hid hn2
  clear hv1 hv2 hn1 hn2
  go_enter Try.func9, Try.ntmps9
  go_wp2_with fail
  refine k0.mono ?_
  rintro e w' ⟨⟨b, rfl⟩, rfl⟩
  clear k0
  cases b with
  | false =>
    go_wp2_with fail
    go_ret
    exact ⟨rfl, Below.refl _ _⟩
  | true =>
    go_upto_block 0 with fail
    all_goals try (go_ret; exact ⟨rfl, Below.refl _ _⟩)
    go_cut [13] from 78 to 98 (fun t13 wx => w' = wx ∧ (∃ z : Int, t13 = .int .i64 z ∧ 0 ≤ z ∧ z ≤ 1048576) ∧ Hid (∀ x ∈ L1, x.size ≤ 1048576))
    case first =>
      go_wp2
      go_loop [13, 14] (fun t13 t14 => ∃ (k : Nat) (z : Int), t14 = .int .i64 (k : Int) ∧ k ≤ L1.length ∧ t13 = .int .i64 z ∧ 0 ≤ z ∧ z ≤ 1048576 ∧ Hid (∀ x ∈ L1.take k, x.size ≤ 1048576)) (fun _ i => L1.length - (intOf i).toNat)
      case atStart => exact ⟨0, _, rfl, by omega, rfl, by omega, by omega, by simp [Hid]⟩
      case round =>
        obtain ⟨k, z, rfl, hk, rfl, hz0, hz1, hall⟩ := hrel
        by_cases hlt : k < L1.length
        · obtain ⟨ab, ao, rfl, hab, hl⟩ := HV1.out.at hlt
          obtain ⟨x, hx⟩ : ∃ x, L1[k]? = some x := ⟨_, List.getElem?_eq_getElem hlt⟩
          have hcx := hl k x hx
          have HX := Lib.hid hx
          clear hl hx
          go_wp2
          · go_ret
            exact ⟨rfl, Below.refl _ _⟩
          · go_ret
            exact ⟨rfl, Below.refl _ _⟩
          · go_round
            case rel => exact ⟨k + 1, _, by go_num, by omega, rfl, by omega, by omega, take_all hall.out HX.out (by omega)⟩
            case measure => simp [intOf]; omega
        · have HA : Hid (∀ x ∈ L1, x.size ≤ 1048576) := by
            have := hall.out
            rwa [List.take_of_length_le (by omega)] at this
          clear hall
          go_wp2
          go_meet
          case rel => exact ⟨rfl, ⟨z, rfl, hz0, hz1⟩, HA⟩
    case rest =>
      obtain ⟨hwc, ⟨z, rfl, hz0, hz1⟩, hA1⟩ := hcut
      subst hwc
      go_upto_block 2 with fail
      go_cut [] from 99 to 119 (fun wx => w' = wx ∧ Hid (∀ x ∈ L2, x.size ≤ 1048576))
      case first =>
        go_wp2
        go_loop [13, 15] (fun t13 t14 => ∃ (k : Nat) (z : Int), t14 = .int .i64 (k : Int) ∧ k ≤ L2.length ∧ t13 = .int .i64 z ∧ 0 ≤ z ∧ z ≤ 1048576 ∧ Hid (∀ x ∈ L2.take k, x.size ≤ 1048576)) (fun _ i => L2.length - (intOf i).toNat)
        case atStart => exact ⟨0, _, rfl, by omega, rfl, by omega, by omega, by simp [Hid]⟩
        case round =>
          obtain ⟨k, z, rfl, hk, rfl, hz0, hz1, hall⟩ := hrel
          by_cases hlt : k < L2.length
          · obtain ⟨ab, ao, rfl, hab, hl⟩ := HV2.out.at hlt
            obtain ⟨x, hx⟩ : ∃ x, L2[k]? = some x := ⟨_, List.getElem?_eq_getElem hlt⟩
            have hcx := hl k x hx
            have HX := Lib.hid hx
            clear hl hx
            go_wp2
            · go_ret
              exact ⟨rfl, Below.refl _ _⟩
            · go_ret
              exact ⟨rfl, Below.refl _ _⟩
            · go_round
              case rel => exact ⟨k + 1, _, by go_num, by omega, rfl, by omega, by omega, take_all hall.out HX.out (by omega)⟩
              case measure => simp [intOf]; omega
          · have HA : Hid (∀ x ∈ L2, x.size ≤ 1048576) := by
              have := hall.out
              rwa [List.take_of_length_le (by omega)] at this
            clear hall
            go_wp2
            go_meet
            case rel => exact ⟨rfl, HA⟩
      case rest =>
        obtain ⟨hwc, hA2⟩ := hcut
        subst hwc
        clear hz0 hz1
        go_upto_if 120 with fail
        go_cut [16] from 120 to 130 (fun t16 wx => w' = wx ∧ t16 = .int .u8 ((quo sg).toNat : Int) ∧ Hid (sg = true → ∀ x ∈ bs v, x ≠ 39))
        case first =>
          cases sg with
          | false =>
            go_wp2
            go_meet
            case rel => exact ⟨rfl, rfl, fun e => by cases e⟩
          | true =>
            go_wp2
            go_loop [17] (fun t17 => ∃ k : Nat, t17 = .int .i64 (k : Int) ∧ k ≤ v.size ∧ Hid (∀ x ∈ (bs v).take k, x ≠ 39)) (fun i => v.size - (intOf i).toNat)
            case atStart => exact ⟨0, rfl, by omega, by simp [Hid]⟩
            case round =>
              obtain ⟨k, rfl, hk, hall⟩ := hrel
              by_cases hlt : k < v.size
              · have hc := at_b v k hlt
                by_cases h39 : (v[k]'hlt).toNat = 39
                · have h39' : (((v[k]'hlt).toNat : Int) == 39) = true := beq_t (b := 39) h39
                  clear h39 hc
                  go_wp2
                  go_ret
                  exact ⟨rfl, Below.refl _ _⟩
                · have h39' : (((v[k]'hlt).toNat : Int) == 39) = false := beq_f (b := 39) h39
                  have HN : Hid (∀ x ∈ (bs v).take (k + 1), x ≠ 39) := take_ne hall.out hc (fun e => h39 (by rw [e]; rfl))
                  clear h39 hc
                  go_wp2
                  go_round
                  case rel => exact ⟨k + 1, by go_num, by omega, HN⟩
                  case measure => simp [intOf]; omega
              · have HA : Hid (∀ x ∈ bs v, x ≠ 39) := by
                  have := hall.out
                  rwa [List.take_of_length_le (by rw [len_b]; omega)] at this
                clear hall
                go_wp2
                go_meet
                case rel => exact ⟨rfl, rfl, fun _ => HA.out⟩
        case rest =>
          obtain ⟨hwc, rfl, hA3⟩ := hcut
          subst hwc
          go_wp2_with fail
          refine (clone_view oa1 cap1 L1 w' (by omega) HV1.out HN1.out).mono ?_
          rintro e w1 ⟨ob1, cb1, rfl, hW1, hb1⟩
          go_wp2_with fail
          refine (clone_view oa2 cap2 L2 w1 (by omega) (HV2.out.on hb1 hb1.size) HN2.out).mono ?_
          rintro e w2 ⟨ob2, cb2, rfl, hW2, hb2⟩
          have HW1 := Lib.hid (hW1.on hb2 hb2.size)
          have HW2 := Lib.hid hW2
          have hB0 : Below w'.heap.size w' w2 := hb1.trans (hb2.mono hb1.size)
          clear hW1 hW2 hb1 hb2 HV1 HV2 HN1 HN2
          go_upto_block 6 with fail
          go_cut [18, 19] from 135 to 167 (fun t18 t19 wx => Hid (OwnS w2.heap.size t18 ((run sg (bs v)).1.map mk) wx) ∧ Hid (OwnB w2.heap.size t19 (run sg (bs v)).2 wx) ∧ Below w2.heap.size w2 wx)
          case first =>
            go_wp2
            go_loopg [18, 19, 20] v.size (fun g t18 t19 t20 wx => ∃ k : Nat, t20 = .int .i64 (k : Int) ∧ k ≤ v.size ∧ v.size ≤ k + g ∧ Hid (OwnS w2.heap.size t18 ((run sg ((bs v).take k)).1.map mk) wx) ∧ Hid (OwnB w2.heap.size t19 (run sg ((bs v).take k)).2 wx) ∧ Below w2.heap.size w2 wx)
            case atStart => exact ⟨0, rfl, by omega, by omega, ownS_nil _ _, ownB_nil _ _, Below.refl _ _⟩
            case round =>
              obtain ⟨k, rfl, hk, hkg, hS, hC, hb⟩ := hrel
              have hBw := hb.size
              by_cases hlt : k < v.size
              · have hc := at_b v k hlt
                obtain ⟨c, hce⟩ : ∃ c, v[k]'hlt = c := ⟨_, rfl⟩
                rw [hce] at hc
                have htk : (bs v).take (k + 1) = (bs v).take k ++ [c] := take_b hc
                have hrl := run_len sg ((bs v).take k).length ((bs v).take k) rfl
                have hkl : ((bs v).take k).length ≤ 1048576 := by rw [List.length_take]; omega
                generalize (bs v).take k = pre at hS hC htk hrl hkl
                obtain ⟨hr1, hr2, -⟩ := hrl
                by_cases h10 : c = 10
                · have h10' : ((c.toNat : Int) == 10) = true := beq_t (b := 10) (congrArg UInt8.toNat h10)
                  have hrun := run_line sg pre
                  rw [← h10, ← htk] at hrun
                  have HR := Lib.hid hrun
                  have hcv := conv_own hC.out
                  clear h10 htk hc hrun
                  go_wp2_with (at_builtin; refine app_str wr rfl (.tmp 146) (.tmp 149) rfl w2.heap.size ((run sg pre).1.map mk) (mk (run sg pre).2) _ rfl rfl hS.out (by rw [List.length_map]; omega) hBw ?_; intro v' w3 hS3 hg3)
                  go_roundg (gk - 1)
                  case measure => omega
                  case rel => exact ⟨k + 1, by go_num, by omega, by omega, by show OwnS _ _ _ _; rw [HR.out, List.map_append]; exact hS3, by show OwnB _ _ _ _; rw [HR.out]; exact ownB_nil _ _, below_own hb hg3 hBw hS.out.row⟩
                · have h10' : ((c.toNat : Int) == 10) = false := beq_f (b := 10) (u8_ne h10)
                  have hrun := run_byte sg pre c h10
                  rw [← htk] at hrun
                  have HR := Lib.hid hrun
                  have HE : Hid (enc sg c = if needs sg c = true then [92, c] else [c]) := rfl
                  clear htk hc hrun h10
                  have hap := own_apart' hC.out hS.out
                  by_cases hnd : needs sg c = true
                  · have HE2 : Hid (enc sg c = [92, c]) := HE.out.trans (if_pos hnd)
                    obtain ⟨hsg, h34⟩ := (needs_iff sg c).1 hnd
                    subst hsg
                    rcases h34 with h34 | h92
                    · have t1 : ((c.toNat : Int) == 34) = true := beq_t (b := 34) (congrArg UInt8.toNat h34)
                      clear hnd h34 HE
                      go_wp2_with (first | (at_builtin; refine app_byte wr rfl (.tmp 161) (.tmp 162) rfl w2.heap.size (run false pre).2 92 _ rfl rfl hC.out (by omega) hBw ?_; intro v1 w3 hC3 hg3) | (at_builtin; refine app_byte w3 rfl (.tmp 164) (.tmp 166) rfl w2.heap.size ((run false pre).2 ++ [92]) c _ rfl rfl hC3 (by rw [List.length_append, List.length_singleton]; omega) (Nat.le_trans hBw hg3.size) ?_; intro v2 w4 hC4 hg4))
                      go_roundg (gk - 1)
                      case measure => omega
                      case rel => exact rt_rel false pre c v k _ HR.out HE2.out hap hS.out hC.out hC3 hC4 hg3 hg4 hb hBw hlt hkg
                    · have t1 : ((c.toNat : Int) == 34) = false := beq_f (b := 34) (by rw [congrArg UInt8.toNat h92]; decide)
                      have t2 : ((c.toNat : Int) == 92) = true := beq_t (b := 92) (congrArg UInt8.toNat h92)
                      clear hnd h92 HE
                      go_wp2_with (first | (at_builtin; refine app_byte wr rfl (.tmp 161) (.tmp 162) rfl w2.heap.size (run false pre).2 92 _ rfl rfl hC.out (by omega) hBw ?_; intro v1 w3 hC3 hg3) | (at_builtin; refine app_byte w3 rfl (.tmp 164) (.tmp 166) rfl w2.heap.size ((run false pre).2 ++ [92]) c _ rfl rfl hC3 (by rw [List.length_append, List.length_singleton]; omega) (Nat.le_trans hBw hg3.size) ?_; intro v2 w4 hC4 hg4))
                      go_roundg (gk - 1)
                      case measure => omega
                      case rel => exact rt_rel false pre c v k _ HR.out HE2.out hap hS.out hC.out hC3 hC4 hg3 hg4 hb hBw hlt hkg
                  · have HE2 : Hid (enc sg c = [c]) := HE.out.trans (if_neg hnd)
                    have hnf : needs sg c = false := by simpa using hnd
                    cases sg with
                    | true =>
                      clear hnd HE hnf
                      go_wp2_with (at_builtin; refine app_byte wr rfl (.tmp 164) (.tmp 166) rfl w2.heap.size (run true pre).2 c _ rfl rfl hC.out (by omega) hBw ?_; intro v1 w3 hC3 hg3)
                      go_roundg (gk - 1)
                      case measure => omega
                      case rel => exact rt_rel1 true pre c v k _ HR.out HE2.out hap hS.out hC.out hC3 hg3 hb hBw hlt hkg
                    | false =>
                      obtain ⟨n34, n92⟩ := needs_no c hnf
                      have t1 : ((c.toNat : Int) == 34) = false := beq_f (b := 34) (u8_ne n34)
                      have t2 : ((c.toNat : Int) == 92) = false := beq_f (b := 92) (u8_ne n92)
                      clear hnd HE hnf n34 n92
                      go_wp2_with (at_builtin; refine app_byte wr rfl (.tmp 164) (.tmp 166) rfl w2.heap.size (run false pre).2 c _ rfl rfl hC.out (by omega) hBw ?_; intro v1 w3 hC3 hg3)
                      go_roundg (gk - 1)
                      case measure => omega
                      case rel => exact rt_rel1 false pre c v k _ HR.out HE2.out hap hS.out hC.out hC3 hg3 hb hBw hlt hkg
              · have htk : (bs v).take k = bs v := List.take_of_length_le (by rw [len_b]; omega)
                rw [htk] at hS hC
                clear htk
                go_wp2
                go_meet
                case rel => exact ⟨hS, hC, hb⟩
          case rest =>
            obtain ⟨hS, hC, hb⟩ := hcut
            have hBw := hb.size
            have hrl := run_len sg (bs v).length (bs v) rfl
            rw [len_b v] at hrl
            have HRT := Lib.hid (round_trip sg (bs v) (bs a) (L2.map bs) L1.length hA3.out)
            clear hA3
            generalize run sg (bs v) = st at hS hC hrl HRT
            obtain ⟨S1, cur⟩ := st
            obtain ⟨hr1, hr2, hr3⟩ := hrl
            have HR3 := Lib.hid hr3
            clear hr3
            simp only at hr1 hr2
            have hS' : Hid (OwnS w2.heap.size u18 (S1.map mk) wc) := hS
            have hC' : Hid (OwnB w2.heap.size u19 cur wc) := hC
            clear hS hC
            go_upto_region 50 with (first | (at_builtin; refine app_byte wc rfl (.tmp 168) (.tmp 170) rfl w2.heap.size cur (quo sg) _ rfl rfl hC'.out (by omega) hBw ?_; intro c1 w3 hC3 hg3) | (at_builtin; refine app_text w3 rfl (.tmp 172) (.tmp 173) rfl w2.heap.size (cur ++ [quo sg]) a _ rfl rfl hC3 (by rw [List.length_append, List.length_singleton]; omega) (Nat.le_trans hBw hg3.size) ?_; intro c2 w4 hC4 hg4))
            have hS3 := hS'.out.keep hg3 (own_apart' hC'.out hS'.out)
            have hS4 := hS3.keep hg4 (own_apart' hC3 hS3)
            have hb3 := below_own hb hg3 hBw hC'.out.row
            have hb4 := below_own hb3 hg4 hb3.size hC3.row
            have hcv4 := conv_own hC4
            obtain ⟨T, hT⟩ : ∃ T, mk (cur ++ [quo sg] ++ bs a) = T := ⟨_, rfl⟩
            change (convert 32 9 _).run Try.prog w4 = .ok (.string (mk (cur ++ [quo sg] ++ bs a))) w4 at hcv4
            rw [hT] at hcv4
            have HT := Lib.hid hT
            clear hT
            have HS4 := Lib.hid hS4
            clear hS3 hS4 hb3 hg3 hg4 hC3 hC4 hS' hC' hb hBw
            go_upto_region 51 with (at_builtin; refine app_str w4 rfl (.tmp 175) (.tmp 178) rfl w2.heap.size (S1.map mk) T _ rfl rfl HS4.out (by rw [List.length_map]; omega) hb4.size ?_; intro s1 w5 hS5 hg5)
            have hb5 := below_own hb4 hg5 hb4.size HS4.out.row
            clear hcv4 HS4 hg5 hb4
            obtain ⟨SG, hSG⟩ : ∃ SG, S1.map mk ++ [mk (cur ++ [quo sg] ++ bs a)] = SG := ⟨_, rfl⟩
            rw [← HT.out, hSG] at hS5
            have hSGl : SG.length = S1.length + 1 := by rw [← hSG]; simp
            have HSZ := Lib.hid (segs_size v a sg S1 cur SG hSG HR3.out hr2)
            have HSB := Lib.hid (segs_bs a sg S1 cur SG hSG)
            obtain ⟨gs, caps, rfl, hgs1, hgs2, hcells⟩ := hS5.shape (fun e => by rw [e] at hSGl; simp at hSGl)
            obtain ⟨S0, hS0⟩ : ∃ x, SG[0]? = some x := ⟨_, List.getElem?_eq_getElem (by omega)⟩
            have hS0z := HSZ.out S0 (List.mem_of_getElem? hS0)
            have hc0 : ∀ o, (w5.alloc o).cell? ⟨gs, 0, none⟩ = some (.string S0) := fun o => (((Below.refl _ _).alloc (Nat.le_refl _) o).cell (p := ⟨gs, 0, none⟩) hgs2).trans (hcells 0 S0 hS0)
            obtain ⟨O, hO⟩ : ∃ O : ByteArray, (⟨([quo sg] ++ S0.data.toList).toArray⟩ : ByteArray) = O := ⟨_, rfl⟩
            have HO := Lib.hid hO
            have hOs : O.size = S0.size + 1 := by rw [← hO]; show ([quo sg] ++ S0.data.toList).toArray.size = _; rw [List.size_toArray, List.length_append, List.length_singleton, Array.length_toList]; show 1 + S0.size = _; omega
            have hOb : O.size ≤ 4194304 := by omega
            have hOp : 0 < O.size := by omega
            clear hOs
            have HSG := Lib.hid hSGl
            have hsg1 : 0 < SG.length := by omega
            have hsg2 : SG.length ≤ 1048577 := by omega
            have HS0 := Lib.hid hS0
            have HCL : Hid (Lines w5 gs 0 SG) := fun j x hx => by rw [Nat.zero_add]; exact hcells j x hx
            clear hSG hSGl hS0 hO hcells hS5
            go_upto_region 52 with (at_builtin; refine app_text (w5.alloc (.cells #[.int .u8 ((quo sg).toNat : Int)] 5)) rfl (.tmp 181) (.tmp 184) rfl w2.heap.size [quo sg] S0 _ rfl rfl (ownB_lit _ w5 (quo sg) hb5.size) (by rw [List.length_singleton]; omega) (Nat.le_trans hb5.size ((Below.refl _ _).alloc (Nat.le_refl _) _).size) ?_; intro c3 w6 hC6 hg6; have hcv6 := conv_own hC6; rw [HO.out] at hcv6)
            have h56 : Below w5.heap.size w5 w6 := ((Below.refl _ _).alloc (Nat.le_refl _) _).grown hg6 ((Below.refl _ _).alloc (Nat.le_refl _) _).size (fun k hk => by cases hk; exact Nat.le_refl _)
            have h26 : Below w2.heap.size w2 w6 := hb5.trans (h56.mono hb5.size)
            have HV1 := Lib.hid (HW1.out.on h26 h26.size)
            have HV2 := Lib.hid (HW2.out.on h26 h26.size)
            have HVs := Lib.hid (HCL.out.on h56 hgs2)
            have hgs6 : gs < w6.heap.size := Nat.lt_of_lt_of_le hgs2 h56.size
            have hB6 : Below w'.heap.size w' w6 := hB0.trans (h26.mono hB0.size)
            obtain ⟨N, hN⟩ : ∃ N, L1.length + SG.length + L2.length = N := ⟨_, rfl⟩
            clear hC6 hg6 hcv6 h56 h26 hb5 hc0 HCL hgs1 hgs2 HW1 HW2 hB0
            go_upto_block 8 with (at_make; refine make_fit w6 rfl (.const (.int .i64 0)) (.tmp 194) rfl _ N rfl rfl (by omega) (by omega) ?_; intro w7 hF7 hb7)
            go_wp2
            go_loopg [23, 24] L1.length (fun g t23 t24 wx => ∃ (k : Nat) (A : List ByteArray), t24 = .int .i64 (k : Int) ∧ k ≤ L1.length ∧ L1.length ≤ k + g ∧ t23 = .slice (some ⟨w6.heap.size, 0, none⟩) A.length N ∧ Hid (A = L1.take k) ∧ Hid (Fit w6.heap.size w6.heap.size N A wx) ∧ Below w6.heap.size w6 wx)
            case atStart => exact ⟨0, [], rfl, by omega, by omega, rfl, rfl, hF7, hb7⟩
            case round =>
              clear hF7 hb7
              obtain ⟨k, A, rfl, hk, hkg, rfl, hA, hF, hb⟩ := hrel
              by_cases hlt : k < L1.length
              · obtain ⟨ab, ao, rfl, hab, hl⟩ := HV1.out.at hlt
                obtain ⟨x, hx⟩ : ∃ x, L1[k]? = some x := ⟨_, List.getElem?_eq_getElem hlt⟩
                have hcx := (hl.on hb hab) k x hx
                have hAl : A.length + 1 ≤ N := by rw [hA.out, List.length_take]; omega
                have HA2 : Hid (A ++ [x] = L1.take (k + 1)) := by show _ = _; rw [hA.out, take_bs hx]
                clear hl hx hA
                go_wp2_with (at_builtin; refine app_fits wr rfl (.tmp 202) (.tmp 207) rfl w6.heap.size w6.heap.size N A x rfl rfl hF.out hAl ?_; intro w8 hF8 hg8)
                go_roundg (gk - 1)
                case measure => omega
                case rel => exact ⟨k + 1, A ++ [x], by go_num, by omega, by omega, by rw [List.length_append]; rfl, HA2, hF8, below_own hb hg8 hb.size (fun j hj => by cases hj; exact Nat.le_refl _)⟩
              · have HA2 : Hid (A ++ [hd ++ O] = L1 ++ [hd ++ O]) := by
                  show _ = _
                  rw [hA.out, List.take_of_length_le (by omega)]
                have hAl : A.length + 1 ≤ N := by rw [hA.out, List.length_take]; omega
                clear hA
                go_upto_block 10 with (at_builtin; refine app_fits wr rfl (.tmp 209) (.tmp 213) rfl w6.heap.size w6.heap.size N A (hd ++ O) rfl rfl hF.out hAl ?_; intro w8 hF8 hg8)
                have hb8 := below_own hb hg8 hb.size (fun j hj => by cases hj; exact Nat.le_refl _)
                have HF8 := Lib.hid hF8
                clear hF8 hg8 hb hF
                go_wp2
                go_loopg [23, 25] SG.length (fun g t23 t25 wx => ∃ (k : Nat) (A : List ByteArray), t25 = .int .i64 (k : Int) ∧ 1 ≤ k ∧ k ≤ SG.length ∧ SG.length ≤ k + g ∧ t23 = .slice (some ⟨w6.heap.size, 0, none⟩) A.length N ∧ Hid (A = L1 ++ [hd ++ O] ++ (SG.take k).drop 1) ∧ Hid (Fit w6.heap.size w6.heap.size N A wx) ∧ Below w6.heap.size w6 wx)
                case atStart => exact ⟨1, A ++ [hd ++ O], rfl, by omega, by omega, by omega, by rw [List.length_append]; rfl, by show _ = _; rw [HA2.out, List.drop_eq_nil_of_le (by rw [List.length_take]; omega), List.append_nil], HF8, hb8⟩
                case round =>
                  clear HF8 hb8 HA2 hAl
                  obtain ⟨k, A, rfl, hk1, hk, hkg, rfl, hA, hF, hb⟩ := hrel
                  have hAlen : A.length = L1.length + k := by rw [hA.out, List.length_append, List.length_append, List.length_drop, List.length_take, List.length_singleton]; omega
                  by_cases hlt : k < SG.length
                  · obtain ⟨x, hx⟩ : ∃ x, SG[k]? = some x := ⟨_, List.getElem?_eq_getElem hlt⟩
                    have hcx := (HVs.out.on hb hgs6) k x hx
                    rw [Nat.zero_add] at hcx
                    have hAl : A.length + 1 ≤ N := by omega
                    have HA2 : Hid (A ++ [x] = L1 ++ [hd ++ O] ++ (SG.take (k + 1)).drop 1) := by show _ = _; rw [hA.out, drop_take hk1 hx, List.append_assoc]
                    clear hx hA hAlen
                    go_wp2_with (at_builtin; refine app_fits wr rfl (.tmp 221) (.tmp 226) rfl w6.heap.size w6.heap.size N A x rfl rfl hF.out hAl ?_; intro w8 hF8 hg8)
                    go_roundg (gk - 1)
                    case measure => omega
                    case rel => exact ⟨k + 1, A ++ [x], by go_num, by omega, by omega, by omega, by rw [List.length_append]; rfl, HA2, hF8, below_own hb hg8 hb.size (fun j hj => by cases hj; exact Nat.le_refl _)⟩
                  · have HA1 : Hid (A = L1 ++ [hd ++ O] ++ SG.drop 1) := by
                      show _ = _
                      rw [hA.out, List.take_of_length_le (by omega)]
                    have hA0 : A.length = L1.length + SG.length := by omega
                    have HA0 := Lib.hid hA0
                    clear hA hAlen hA0
                    go_upto_block 12 with fail
                    go_wp2
                    go_loopg [23, 26] L2.length (fun g t23 t26 wx => ∃ (k : Nat) (A2 : List ByteArray), t26 = .int .i64 (k : Int) ∧ k ≤ L2.length ∧ L2.length ≤ k + g ∧ t23 = .slice (some ⟨w6.heap.size, 0, none⟩) A2.length N ∧ Hid (A2 = A ++ L2.take k) ∧ Hid (Fit w6.heap.size w6.heap.size N A2 wx) ∧ Below w6.heap.size w6 wx)
                    case atStart => exact ⟨0, A, rfl, by omega, by omega, rfl, by show _ = _; simp, hF, hb⟩
                    case round =>
                      clear hF hb
                      obtain ⟨k, A2, rfl, hk, hkg, rfl, hA, hF, hb⟩ := hrel
                      by_cases hlt : k < L2.length
                      · obtain ⟨ab, ao, rfl, hab, hl⟩ := HV2.out.at hlt
                        obtain ⟨x, hx⟩ : ∃ x, L2[k]? = some x := ⟨_, List.getElem?_eq_getElem hlt⟩
                        have hcx := (hl.on hb hab) k x hx
                        have hAl : A2.length + 1 ≤ N := by rw [hA.out, List.length_append, List.length_take, HA0.out]; omega
                        have HA2 : Hid (A2 ++ [x] = A ++ L2.take (k + 1)) := by show _ = _; rw [hA.out, take_bs hx, List.append_assoc]
                        clear hl hx hA
                        go_wp2_with (at_builtin; refine app_fits wr rfl (.tmp 234) (.tmp 239) rfl w6.heap.size w6.heap.size N A2 x rfl rfl hF.out hAl ?_; intro w8 hF8 hg8)
                        go_roundg (gk - 1)
                        case measure => omega
                        case rel => exact ⟨k + 1, A2 ++ [x], by go_num, by omega, by omega, by rw [List.length_append]; rfl, HA2, hF8, below_own hb hg8 hb.size (fun j hj => by cases hj; exact Nat.le_refl _)⟩
                      · have hAe : A2 = L1 ++ [hd ++ O] ++ SG.drop 1 ++ L2 := by rw [hA.out, List.take_of_length_le (by omega), HA1.out]
                        have hfin := rt_final sg v a hd O S0 L1 L2 SG A2 S1 cur hOp HO.out HS0.out HSB.out HRT.out hAe
                        have hA2l : A2.length = L1.length + SG.length + L2.length := by rw [hA.out, List.length_append, List.take_of_length_le (by omega), HA0.out]
                        have hA2z : ∀ x ∈ A2, x.size ≤ 8388608 := fun x hx => by
                          rw [hAe] at hx
                          rcases List.mem_append.1 hx with hx | hx
                          · rcases List.mem_append.1 hx with hx | hx
                            · rcases List.mem_append.1 hx with hx | hx
                              · have := hA1.out x hx; omega
                              · have e : x = hd ++ O := by simpa using hx
                                rw [e, ByteArray.size_append]; omega
                            · have := HSZ.out x (List.mem_of_mem_drop hx); omega
                          · have := hA2.out x hx; omega
                        have k22 := zzUnquote_any O w6.heap.size 0 N L1.length A2 wr _ hOp (by omega) hA2z (by omega) (by omega) (World.ownsRow.lt hF.out _ rfl).2 (lines_of_own hF.out) hfin
                        unfold ansV at k22
                        simp only [mk_bs] at k22
                        have hlast : ((L1.length : Int) + (S1.length : Int) == (L1.length : Int) + (SG.length : Int) - 1) = true := by rw [beq_iff_eq, HSG.out]; omega
                        have K22 := Lib.hid k22
                        have hb9 := hB6.trans (hb.mono hB6.size)
                        clear hfin hAe hA2l hA2z k22 hA hF hb HA0 HA1
                        go_wp2_with (go_at_call 22; refine K22.out.mono ?_; rintro e w9 ⟨rfl, hb10⟩)
                        go_ret
                        exact ⟨rfl, hb9.trans (hb10.mono hb9.size)⟩
end Go.Proofs.Qxb6600544a
