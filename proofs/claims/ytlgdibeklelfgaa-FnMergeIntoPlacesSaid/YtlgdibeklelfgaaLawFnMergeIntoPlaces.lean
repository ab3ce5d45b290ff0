/- The row of the law FnMergeIntoPlaces, out of its walk. No condition. -/
import Derived.Test.YtlgdibeklelfgaaRows
import Derived.Test.YtlgdibeklelfgaaPAllx12
import Derived.Test.YtlgdibeklelfgaaPureFnMergeIntoPlaces
import Derived.Test.YtlgdibeklelfgaaHOpen
import Derived.WalkKit
import Derived.ProofKit
import Derived.OpenShut
import Derived.ShutString
import Derived.ChangeOld
import Derived.Below
import Derived.SizedLaws
import Derived.Lib.SmallJoins
import Derived.Carry
namespace Go.Proofs.Ytlgdibeklelfgaa.fnMergeIntoPlaces
open Go.ChangeShapes Go.WideShapes Go.ChangeAt Go.RowKit Go.Joins Go.Proofs.YtlgdibeklelfgaaW.PrintWords
open Go.ChangeMaps (open_string shut_string)
set_option linter.unusedVariables false
theorem own : ownKnob Try.prog.godebug = none := by kernel_rfl
theorem laidOut : laidOutB Try.prog = true := by kernel_rfl
theorem cellsSpan : Try.prog.cellsOf 23 = 2 := by kernel_rfl
theorem intRead (W : World) (sp : Nat → Bool) (H : Type) (enc : TypeId × Value → H) (a : Int) (w : (Lit.int .i64 a).wf = true) : ∃ n, DataW.trod enc Try.prog W 0 sp true n 3 [.int .i64 a] = some (.lit (.int .i64 a), []) := ⟨1, by simp [DataW.trod, Try.underlying3, w]⟩
set_option maxRecDepth 100000 in
theorem lifted (os : Os) (started : os.Started) (H : Type) (enc : TypeId × Value → H) :
    ReturnsInHanded {} Try.checked os 3 .any (Rows.fnMergeIntoPlacesSpec.pre6 enc Try.prog Try.f3 Rows.fnMergeIntoPlacesRow.domain false) (Rows.fnMergeIntoPlacesSpec.post enc Try.prog Try.f3 false true false false) := by
  refine returnsInHanded_of_change_sized (C := Try.checked) own started (by kernel_rfl) Try.func3
    (ChangeSpec.witness6 (enc := enc) (C := Try.checked) false ⟨#[], #[.agg #[.int .i64 0, .int .i64 0], .agg #[.int .i64 0, .int .i64 0], .int .i64 0], []⟩ 8 (by kernel_rfl) (by kernel_rfl) (by kernel_rfl) (by kernel_rfl)) ?_
  intro W base args ds gs before hval0 hW hcnd hsz0 _
  have hval : ∀ (j : Nat) t v, Try.f3.params[j]? = some t → args[j]? = some v → Value.okWide Try.prog W .any base t v := hval0
  have hW' := hW
  obtain ⟨p, q, hA0, hV, rfl, hfz, hnd⟩ := hW
  have hA : DataW.TrodAll enc Try.prog W 0 (fun _ => true) true Try.f3.params.toList args.toList ds p := hA0
  rw [Try.params3] at hA hval
  obtain ⟨v0, vs0, d0, ds0, p0, q0, hargs, rfl, rfl, h0, r0⟩ := trodAll_cons hA
  obtain ⟨v1, vs1, d1, ds1, p1, q1, rfl, rfl, rfl, h1, r1⟩ := trodAll_cons r0
  obtain ⟨v2, vs2, d2, ds2, p2, q2, rfl, rfl, rfl, h2, r2⟩ := trodAll_cons r1
  obtain ⟨rfl, rfl, rfl⟩ := trodAll_nil r2
  obtain rfl : args = #[v0, v1, v2] := by cases args; simp_all
  obtain ⟨rfl, rfl⟩ := trodVars_none hV
  obtain ⟨c0_0, c0_1, y0_0, y0_1, m0, rfl, rfl, rfl, hy0_0, hy0_1⟩ := open_agg2 Try.underlying23 (by kernel_rfl) cellsSpan (hval 0 23 v0 rfl rfl) h0
  obtain ⟨a0_0, e0_0, rfl, w0_0⟩ := DataW.trod_int Try.underlying3 hy0_0
  simp only [List.cons.injEq, and_true] at e0_0
  subst e0_0
  obtain ⟨a0_1, e0_1, rfl, w0_1⟩ := DataW.trod_int Try.underlying3 hy0_1
  simp only [List.cons.injEq, and_true] at e0_1
  subst e0_1
  obtain ⟨c1_0, c1_1, y1_0, y1_1, m1, rfl, rfl, rfl, hy1_0, hy1_1⟩ := open_agg2 Try.underlying23 (by kernel_rfl) cellsSpan (hval 1 23 v1 rfl rfl) h1
  obtain ⟨a1_0, e1_0, rfl, w1_0⟩ := DataW.trod_int Try.underlying3 hy1_0
  simp only [List.cons.injEq, and_true] at e1_0
  subst e1_0
  obtain ⟨a1_1, e1_1, rfl, w1_1⟩ := DataW.trod_int Try.underlying3 hy1_1
  simp only [List.cons.injEq, and_true] at e1_1
  subst e1_1
  obtain ⟨a2, rfl, rfl, rfl, w2⟩ := open_int Try.underlying3 (hval 2 3 v2 rfl rfl) h2
  clear hA0 hval0 hsz0
  obtain ⟨k, hk⟩ := PAll.pure_FnMergeIntoPlaces a0_0 a0_1 a1_0 a1_1 a2
  refine (PAll.laws_FnMergeIntoPlaces.calls k a0_0 a0_1 a1_0 a1_1 a2 true W  hk).mono fun e W' ⟨he, bel⟩ => ?_
  subst he
  exact ⟨_, rfl, _, _, _, [], _, [], hW', trodAll_mk1 (shut_bool Try.underlying4 _), (trodAll_cons_mk (shut_agg2 (y0 := (.lit (.int .i64 a0_0), [])) (y1 := (.lit (.int .i64 a0_1), [])) Try.underlying23 (by kernel_rfl) cellsSpan (intRead _ _ _ _ _ w0_0) (intRead _ _ _ _ _ w0_1)) (trodAll_cons_mk (shut_agg2 (y0 := (.lit (.int .i64 a1_0), [])) (y1 := (.lit (.int .i64 a1_1), [])) Try.underlying23 (by kernel_rfl) cellsSpan (intRead _ _ _ _ _ w1_0) (intRead _ _ _ _ _ w1_1)) (trodAll_cons_mk (shut_int Try.underlying3 w2) trodAll_mk0))), rfl, bel.frame _, fun h => by cases h⟩
theorem over : Rows.fnMergeIntoPlacesRow.holds Try.pinned (OpenSpec.ofChange Rows.fnMergeIntoPlacesSpec) :=
  OpenClaim.holds_of_wide 3 Try.f3 rfl rfl rfl rfl rfl rfl rfl ⟨rfl, rfl, rfl, rfl, rfl⟩ rfl rfl rfl rfl rfl (by kernel_rfl) Try.func3 (by kernel_rfl)
    (of_decide_eq_true (by kernel_rfl)) (by unfold Func.isWrapper; first | (rw [if_pos (by decide +kernel)]; kernel_rfl) | (rw [if_neg (by decide +kernel)]; exact ⟨rfl, rfl⟩))
    (fun os started H enc _ => lifted os started H enc)
theorem proved : Rows.FnMergeIntoPlacesSaid := over
#print axioms proved
end Go.Proofs.Ytlgdibeklelfgaa.fnMergeIntoPlaces
namespace Go.Proofs.Ytlgdibeklelfgaa
/-- The row, under a short name, for the claim. -/
theorem fnMergeIntoPlaces_holds : Rows.FnMergeIntoPlacesSaid := fnMergeIntoPlaces.proved
end Go.Proofs.Ytlgdibeklelfgaa
