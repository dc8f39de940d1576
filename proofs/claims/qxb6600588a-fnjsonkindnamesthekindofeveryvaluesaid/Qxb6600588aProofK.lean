/-
  THE PROOF OF 'Rows.FnJsonKindNamesTheKindOfEveryValueSaid': the frame is the guide's template at this function; the walk stands in Qxb6600588aLaw.
-/
import Derived.Test.Qxb6600588aRows
import Derived.Test.Qxb6600588aLaw
import Derived.Test.Qxb6600588aArg
import Derived.ProofKit
import Derived.OpenShut
namespace Go.Proofs.Qxb6600588a.jsonKind
open Go.ChangeShapes Go.WideShapes Go.ChangeAt Go.RowKit

theorem own : ownKnob Try.prog.godebug = none := by kernel_rfl

set_option maxRecDepth 100000 in
theorem lifted (os : Os) (started : os.Started) (H : Type) (enc : TypeId × Value → H) :
    ReturnsInHanded {} Try.checked os 5 .any (Rows.fnJsonKindNamesTheKindOfEveryValueSpec.pre6 enc Try.prog Try.f5 Rows.fnJsonKindNamesTheKindOfEveryValueRow.domain false) (Rows.fnJsonKindNamesTheKindOfEveryValueSpec.post enc Try.prog Try.f5 false true false false) := by
  refine returnsInHanded_of_change (C := Try.checked) own started (by kernel_rfl) Try.func5
    (ChangeSpec.witness6 (enc := enc) (C := Try.checked) false ⟨#[], #[.slice none 0 0, .slice none 0 0, .slice none 0 0], []⟩ 5 (by kernel_rfl) (by kernel_rfl) (by kernel_rfl) (by kernel_rfl)) ?_
  intro W base args ds gs before hval0 hW hcnd _
  have hval : ∀ (j : Nat) t v, Try.f5.params[j]? = some t → args[j]? = some v → Value.okWide Try.prog W .any base t v := hval0
  have hW' := hW
  obtain ⟨p, q, hA0, hV, rfl, hfz, hnd⟩ := hW
  have hA : DataW.TrodAll enc Try.prog W 0 (fun _ => true) true Try.f5.params.toList args.toList ds p := hA0
  rw [Try.params5] at hA hval
  obtain ⟨v0, vs0, d0, ds0, p0, q0, hargs, rfl, rfl, h0, r0⟩ := trodAll_cons hA
  obtain ⟨v1, vs1, d1, ds1, p1, q1, rfl, rfl, rfl, h1, r1⟩ := trodAll_cons r0
  obtain ⟨v2, vs2, d2, ds2, p2, q2, rfl, rfl, rfl, h2, r2⟩ := trodAll_cons r1
  obtain ⟨rfl, rfl, rfl⟩ := trodAll_nil r2
  obtain rfl : args = #[v0, v1, v2] := by cases args; simp_all
  obtain ⟨rfl, rfl⟩ := trodVars_none hV
  clear hA0 hval0
  simp only [List.append_nil] at hW'
  have hlt0 : ∀ x ∈ p0, x.block < W.heap.size := fun x hx => hW'.lt x (by simp [hx])
  have hlt1 : ∀ x ∈ p1, x.block < W.heap.size := fun x hx => hW'.lt x (by simp [hx])
  have hlt2 : ∀ x ∈ p2, x.block < W.heap.size := fun x hx => hW'.lt x (by simp [hx])
  have h0k := h0
  have h1k := h1
  have h2k := h2
  obtain ⟨oa, c1, bs, rfl, hv0, hm0, hwf0⟩ := numbers_of Try.underlying22 Try.underlying5 cells5 (hval 0 22 v0 rfl rfl) h0 hlt0
  obtain ⟨ob, c2, L, rfl, hv1, hm1, hL⟩ := texts_of (hval 1 23 v1 rfl rfl) h1 hlt1
  obtain ⟨oc, c3, nums, rfl, hv2, hm2, hwf2⟩ := numbers_of Try.underlying24 Try.underlying2 cells2 (hval 2 24 v2 rfl rfl) h2 hlt2
  obtain ⟨sh, hsh, hshl⟩ := bytes_list hwf0
  rw [hsh] at hv0
  have hnum : ∀ n ∈ nums, -9223372036854775808 ≤ n ∧ n ≤ 9223372036854775807 := fun n hn => by
    have e1 : IntKind.i64.min = -9223372036854775808 := by decide
    have e2 : IntKind.i64.max = 9223372036854775807 := by decide
    have := hwf2 n hn
    simp [Lit.wf] at this
    omega
  have key := law_walk oa ob oc c1 c2 c3 sh L nums W hv0 hv1 hv2 (by omega) hm1 hm2 (fun x hx => by have := hL x hx; unfold maxLen at this; exact this) hnum
  rw [hshl] at key
  refine key.mono fun e W' ⟨he, hb⟩ => ?_
  subst he
  refine ⟨_, rfl, _, _, _, [], p0 ++ (p1 ++ p2), [], hW', ?_, ?_, rfl, hb.frame _, fun h => by cases h⟩
  · exact trodAll_cons_mk (shut_bool Try.underlying4 _) trodAll_mk0
  · have g0 := Below.trod laidOut (by kernel_rfl) (of_decide_eq_true (by kernel_rfl)) h0k hb hlt0
    have g1 := Below.trod laidOut (by kernel_rfl) (of_decide_eq_true (by kernel_rfl)) h1k hb hlt1
    have g2 := Below.trod laidOut (by kernel_rfl) (of_decide_eq_true (by kernel_rfl)) h2k hb hlt2
    have e := trodAll_cons_mk g0 (trodAll_cons_mk g1 (trodAll_cons_mk g2 trodAll_mk0))
    simp only [List.append_nil] at e
    exact e

theorem over : Rows.fnJsonKindNamesTheKindOfEveryValueRow.holds Try.pinned (OpenSpec.ofChange Rows.fnJsonKindNamesTheKindOfEveryValueSpec) :=
  OpenClaim.holds_of_wide 5 Try.f5 rfl rfl rfl rfl rfl rfl rfl ⟨rfl, rfl, rfl, rfl, rfl⟩ rfl rfl rfl rfl rfl (by kernel_rfl) Try.func5 (by kernel_rfl)
    (of_decide_eq_true (by kernel_rfl)) (by unfold Func.isWrapper; first | (rw [if_pos (by decide +kernel)]; kernel_rfl) | (rw [if_neg (by decide +kernel)]; exact ⟨rfl, rfl⟩))
    (fun os started H enc _ => lifted os started H enc)

/-- THE STATEMENT -/
theorem proved : Rows.FnJsonKindNamesTheKindOfEveryValueSaid :=
  over
#print axioms proved
end Go.Proofs.Qxb6600588a.jsonKind
