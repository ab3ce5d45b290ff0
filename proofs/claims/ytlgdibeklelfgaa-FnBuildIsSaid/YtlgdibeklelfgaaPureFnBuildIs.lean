/- The intervals that are built are those of all places at which something is live. -/
import Derived.Test.YtlgdibeklelfgaaPAllx43
import Derived.Test.YtlgdibeklelfgaaHPa
import Derived.Test.YtlgdibeklelfgaaHSpans
namespace Go.Proofs.Ytlgdibeklelfgaa.PAll
open Go.RowKit Go.Proofs.YtlgdibeklelfgaaW.PrintWords Go.Proofs.YtlgdibeklelfgaaW.PrintLast Go.Proofs.YtlgdibeklelfgaaW.PrintMore
set_option linter.unusedVariables false
set_option linter.unusedSimpArgs false
theorem lv_facts (l : List S47) (h : evs (l.map ev47) = true) : Iv.Apart (((Iv.lv none (l.map ev47)).map s23).map i23) ∧ ((Iv.lv none (l.map ev47)).map s23).length ≤ 1000000 ∧ ((Iv.lv none (l.map ev47)).map s23).map i23 = Iv.lv none (l.map ev47) := by
  obtain ⟨h1, h2, h3⟩ := evs_parts _ h
  have e : ((Iv.lv none (l.map ev47)).map s23).map i23 = Iv.lv none (l.map ev47) := by rw [List.map_map]; exact List.map_id _
  refine ⟨by rw [e]; exact (Iv.lv_apart _ (down_iff _ h3) h2).1.1, ?_, e⟩
  rw [List.length_map, ← Iv.steps_all _ (fun e he => (h2 e he).1), List.length_reverse]
  have := (stAt_inv _ h _ (Nat.le_refl _)).1
  unfold stAt at this
  rw [List.take_length] at this
  omega
theorem pure_FnBuildIs (l0 : List S47) : ∃ k, laws_FnBuildIs.f k l0 = some true := by
  refine ⟨4000010 + l0.length * 4, ?_⟩
  unfold laws_FnBuildIs.f
  by_cases h0 : (l0.length : Int) > 2147483647
  · rw [if_pos h0]
  obtain ⟨b0, f0, g0⟩ := back_f l0 (4000010 + l0.length * 4) (by omega)
  rw [if_neg h0, f0]
  simp only [Option.bind_some]
  cases b0 with
  | false => rw [if_neg (by simp), ivWorks_f]; rfl
  | true =>
    have e0 := g0 rfl
    obtain ⟨a0, n0, m0⟩ := lv_facts l0 e0
    have hb0 : impl_Build.f l0 = some ((Iv.lv none (l0.map ev47)).map s23, true) := if_pos e0
    rw [if_pos rfl, hb0]
    simp only [Option.bind_some, if_true]
    rw [livespans_f l0 e0 _ (by omega)]
    simp only [Option.bind_some]
    rw [same_f _ (by omega) _ (by omega)]
    simp only [Option.bind_some, if_true, ivWorks_f]
end Go.Proofs.Ytlgdibeklelfgaa.PAll
