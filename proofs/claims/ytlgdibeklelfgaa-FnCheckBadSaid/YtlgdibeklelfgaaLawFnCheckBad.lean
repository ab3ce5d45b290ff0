/- The row of the law FnCheckBad, out of its walk. No condition. -/
import Derived.Test.YtlgdibeklelfgaaRows
import Derived.Test.YtlgdibeklelfgaaPAllx17
import Derived.Test.YtlgdibeklelfgaaPureFnCheckBad
import Derived.Test.YtlgdibeklelfgaaHOpen
import Derived.WalkKit
import Derived.ProofKit
import Derived.OpenShut
import Derived.ShutString
import Derived.ChangeOld
import Derived.Below
import Derived.SizedLaws
import Derived.Lib.SmallJoins
import Derived.Carry
namespace Go.Proofs.Ytlgdibeklelfgaa.fnCheckBad
open Go.ChangeShapes Go.WideShapes Go.ChangeAt Go.RowKit Go.Joins Go.Proofs.YtlgdibeklelfgaaW.PrintWords
open Go.ChangeMaps (open_string shut_string)
set_option linter.unusedVariables false
theorem own : ownKnob Try.prog.godebug = none := by kernel_rfl
theorem laidOut : laidOutB Try.prog = true := by kernel_rfl
theorem cellsSpan : Try.prog.cellsOf 23 = 2 := by kernel_rfl
theorem intRead (W : World) (sp : Nat → Bool) (H : Type) (enc : TypeId × Value → H) (a : Int) (w : (Lit.int .i64 a).wf = true) : ∃ n, DataW.trod enc Try.prog W 0 sp true n 3 [.int .i64 a] = some (.lit (.int .i64 a), []) := ⟨1, by simp [DataW.trod, Try.underlying3, w]⟩
set_option maxRecDepth 100000 in
theorem lifted (os : Os) (started : os.Started) (H : Type) (enc : TypeId × Value → H) :
    ReturnsInHanded {} Try.checked os 4 .any (Rows.fnCheckBadSpec.pre6 enc Try.prog Try.f4 Rows.fnCheckBadRow.domain false) (Rows.fnCheckBadSpec.post enc Try.prog Try.f4 false true false false) := by
  refine returnsInHanded_of_change_sized (C := Try.checked) own started (by kernel_rfl) Try.func4
    (ChangeSpec.witness6 (enc := enc) (C := Try.checked) false ⟨#[], #[.slice none 0 0, .agg #[.int .i64 0, .int .i64 0]], []⟩ 8 (by kernel_rfl) (by kernel_rfl) (by kernel_rfl) (by kernel_rfl)) ?_
  intro W base args ds gs before hval0 hW hcnd hsz0 _
  have hval : ∀ (j : Nat) t v, Try.f4.params[j]? = some t → args[j]? = some v → Value.okWide Try.prog W .any base t v := hval0
  have hW' := hW
  obtain ⟨p, q, hA0, hV, rfl, hfz, hnd⟩ := hW
  have hA : DataW.TrodAll enc Try.prog W 0 (fun _ => true) true Try.f4.params.toList args.toList ds p := hA0
  rw [Try.params4] at hA hval
  obtain ⟨v0, vs0, d0, ds0, p0, q0, hargs, rfl, rfl, h0, r0⟩ := trodAll_cons hA
  obtain ⟨v1, vs1, d1, ds1, p1, q1, rfl, rfl, rfl, h1, r1⟩ := trodAll_cons r0
  obtain ⟨rfl, rfl, rfl⟩ := trodAll_nil r1
  obtain rfl : args = #[v0, v1] := by cases args; simp_all
  obtain ⟨rfl, rfl⟩ := trodVars_none hV
  obtain ⟨A0, len0, cap0, rfl⟩ := okWide_slice Try.underlying30 (hval 0 30 v0 rfl rfl)
  have k0 := h0
  have lt0 : ∀ x ∈ p0, x.block < W.heap.size := by obtain ⟨m, hm⟩ := k0; exact DataW.trod_lt m _ _ _ hm
  obtain ⟨l0, rfl, hc0, hC0⟩ : ∃ l : List PAll.S23, l.length = len0 ∧ len0 ≤ cap0 ∧ Kd.C PAll.k23 W A0 len0 l := by obtain ⟨fuel, hf⟩ := h0; exact PAll.spans_of hf
  obtain ⟨c1_0, c1_1, y1_0, y1_1, m1, rfl, rfl, rfl, hy1_0, hy1_1⟩ := open_agg2 Try.underlying23 (by kernel_rfl) cellsSpan (hval 1 23 v1 rfl rfl) h1
  obtain ⟨a1_0, e1_0, rfl, w1_0⟩ := DataW.trod_int Try.underlying3 hy1_0
  simp only [List.cons.injEq, and_true] at e1_0
  subst e1_0
  obtain ⟨a1_1, e1_1, rfl, w1_1⟩ := DataW.trod_int Try.underlying3 hy1_1
  simp only [List.cons.injEq, and_true] at e1_1
  subst e1_1
  clear hA0 hval0 hsz0
  obtain ⟨k, hk⟩ := PAll.pure_FnCheckBad l0 a1_0 a1_1
  refine (PAll.laws_FnCheckBad.calls k A0 cap0 l0 a1_0 a1_1 true W hC0 hc0 hk).mono fun e W' ⟨he, bel⟩ => ?_
  subst he
  exact ⟨_, rfl, _, _, _, [], _, [], hW', trodAll_mk1 (shut_bool Try.underlying4 _), (trodAll_cons_mk (Below.trod laidOut (by kernel_rfl) (of_decide_eq_true (by kernel_rfl)) k0 bel lt0) (trodAll_cons_mk (shut_agg2 (y0 := (.lit (.int .i64 a1_0), [])) (y1 := (.lit (.int .i64 a1_1), [])) Try.underlying23 (by kernel_rfl) cellsSpan (intRead _ _ _ _ _ w1_0) (intRead _ _ _ _ _ w1_1)) trodAll_mk0)), rfl, bel.frame _, fun h => by cases h⟩
theorem over : Rows.fnCheckBadRow.holds Try.pinned (OpenSpec.ofChange Rows.fnCheckBadSpec) :=
  OpenClaim.holds_of_wide 4 Try.f4 rfl rfl rfl rfl rfl rfl rfl ⟨rfl, rfl, rfl, rfl, rfl⟩ rfl rfl rfl rfl rfl (by kernel_rfl) Try.func4 (by kernel_rfl)
    (of_decide_eq_true (by kernel_rfl)) (by unfold Func.isWrapper; first | (rw [if_pos (by decide +kernel)]; kernel_rfl) | (rw [if_neg (by decide +kernel)]; exact ⟨rfl, rfl⟩))
    (fun os started H enc _ => lifted os started H enc)
theorem proved : Rows.FnCheckBadSaid := over
#print axioms proved
end Go.Proofs.Ytlgdibeklelfgaa.fnCheckBad
namespace Go.Proofs.Ytlgdibeklelfgaa
/-- The row, under a short name, for the claim. -/
theorem fnCheckBad_holds : Rows.FnCheckBadSaid := fnCheckBad.proved
end Go.Proofs.Ytlgdibeklelfgaa
