/- Two intervals with places between -2^61 and 2^61 are told to overlap exactly if they have a place in common: for all intervals. No condition. -/
import Derived.Test.YtgcleaakmjonaaaPFnOverlapIsx1
import Derived.Test.YtgcleaakmjonaaaAt
set_option linter.unusedVariables false
set_option linter.unusedSimpArgs false
namespace Go.Proofs.Ytgcleaakmjonaaa.Pure
open Go.RowKit Go.Proofs.Ytgcleaakmjonaaa.PFnOverlapIs Go.Proofs.YtgcleaakmjonaaaW.PrintWords Go.Proofs.YtgcleaakmjonaaaW.PrintLast
namespace COverlapIs
theorem some_f (a b : Int) : spec_Some.f a b = some (decide (a < b ∧ a ≥ -2305843009213693952 ∧ b ≤ 2305843009213693952)) := by
  unfold spec_Some.f
  by_cases h1 : a < b
  · by_cases h2 : a ≥ -2305843009213693952
    · rw [if_pos h1, if_pos h2]; congr 1; rw [Bool.eq_iff_iff, decide_eq_true_eq, decide_eq_true_eq]; omega
    · rw [if_pos h1, if_neg h2]; congr 1; symm; rw [decide_eq_false_iff_not]; omega
  · rw [if_neg h1]; congr 1; symm; rw [decide_eq_false_iff_not]; omega
theorem ov_f (a b c d : Int) : impl_Overlap.f a b c d = some (decide (wrap64 (min b d - max a c) > 0)) := by
  unfold impl_Overlap.f intervals_NewInterval.f intervals_Interval_Overlaps.f intervals_imin.f intervals_imax.f
  simp only [Option.bind_some]
  have e1 : (if b < d then some b else some d) = some (min b d) := by split <;> congr 1 <;> omega
  have e2 : (if a > c then some a else some c) = some (max a c) := by split <;> congr 1 <;> omega
  rw [e1, e2]
  rfl
theorem works_f : laws_ivWorks.f = some true := by decide +kernel
theorem pure (a b c d : Int) (h0 : (Lit.int .i64 a).wf = true) (h1 : (Lit.int .i64 b).wf = true) (h2 : (Lit.int .i64 c).wf = true) (h3 : (Lit.int .i64 d).wf = true) : laws_FnOverlapIs.f 2 a b c d = some true := by
  unfold laws_FnOverlapIs.f
  rw [some_f, some_f]
  simp only [Option.bind_some, laws_FnOverlapIs.j0, works_f, ov_f]
  have key : ∀ p q : Bool, p = q → (p == q) = true := by intro p q h; rw [h]; exact beq_self_eq_true q
  by_cases hp : a < b ∧ a ≥ -2305843009213693952 ∧ b ≤ 2305843009213693952
  · by_cases hq : c < d ∧ c ≥ -2305843009213693952 ∧ d ≤ 2305843009213693952
    · have e : decide (wrap64 (min b d - max a c) > 0) = decide (mx a c < mn b d) := by
        rw [Bool.eq_iff_iff, decide_eq_true_eq, decide_eq_true_eq]; unfold wrap64 mx mn; omega
      unfold spec_Common.f
      simp only [hp, hq, e, Option.bind_some, beq_self_eq_true]
      simp
    · simp only [hp, hq]; simp
  · simp only [hp]; simp
theorem walk (a0_0 a0_1 a1_0 a1_1 : Int) (w : World) (w0 : (Lit.int .i64 a0_0).wf = true) (w1 : (Lit.int .i64 a0_1).wf = true) (w2 : (Lit.int .i64 a1_0).wf = true) (w3 : (Lit.int .i64 a1_1).wf = true) :
    Calls Try.prog 3 #[.agg #[.int .i64 a0_0, .int .i64 a0_1], .agg #[.int .i64 a1_0, .int .i64 a1_1]] w fun e w' => e = .returned (.bool true) ∧ Below w.heap.size w w' :=
  laws_FnOverlapIs.calls 2 a0_0 a0_1 a1_0 a1_1 true w (pure a0_0 a0_1 a1_0 a1_1 w0 w1 w2 w3)
end COverlapIs
end Go.Proofs.Ytgcleaakmjonaaa.Pure
