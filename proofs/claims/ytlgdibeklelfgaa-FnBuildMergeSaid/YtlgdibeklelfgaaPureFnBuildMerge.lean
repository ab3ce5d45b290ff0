/- A place is in the combination of both exactly if one of them is live there. -/
import Derived.Test.YtlgdibeklelfgaaPAllx45
import Derived.Test.YtlgdibeklelfgaaHPa
import Derived.Test.YtlgdibeklelfgaaHLive
namespace Go.Proofs.Ytlgdibeklelfgaa.PAll
open Go.RowKit Go.Proofs.YtlgdibeklelfgaaW.PrintWords Go.Proofs.YtlgdibeklelfgaaW.PrintLast Go.Proofs.YtlgdibeklelfgaaW.PrintMore
set_option linter.unusedVariables false
set_option linter.unusedSimpArgs false
theorem lv_facts (l : List S47) (h : evs (l.map ev47) = true) : Iv.Apart (((Iv.lv none (l.map ev47)).map s23).map i23) ∧ ((Iv.lv none (l.map ev47)).map s23).length ≤ 1000000 ∧ ((Iv.lv none (l.map ev47)).map s23).map i23 = Iv.lv none (l.map ev47) := by
  obtain ⟨h1, h2, h3⟩ := evs_parts _ h
  have e : ((Iv.lv none (l.map ev47)).map s23).map i23 = Iv.lv none (l.map ev47) := by rw [List.map_map]; exact List.map_id _
  refine ⟨by rw [e]; exact (Iv.lv_apart _ (down_iff _ h3) h2).1.1, ?_, e⟩
  rw [List.length_map, ← Iv.steps_all _ (fun e he => (h2 e he).1), List.length_reverse]
  have := (stAt_inv _ h _ (Nat.le_refl _)).1
  unfold stAt at this
  rw [List.take_length] at this
  omega
theorem pure_FnBuildMerge (l0 l1 : List S47) (x : Int) : ∃ k, laws_FnBuildMerge.f k l0 l1 x = some true := by
  refine ⟨4000010 + l0.length + l1.length, ?_⟩
  unfold laws_FnBuildMerge.f
  by_cases h0 : (l0.length : Int) > 2147483647
  · rw [if_pos h0, show 4000010 + l0.length + l1.length = (4000009 + l0.length + l1.length) + 1 by omega, laws_FnBuildMerge.j0, if_pos rfl]
  rw [if_neg h0, show 4000010 + l0.length + l1.length = (4000008 + l0.length + l1.length) + 1 + 1 by omega]
  by_cases h1 : (l1.length : Int) > 2147483647
  · rw [decide_eq_true h1, laws_FnBuildMerge.j0, if_pos rfl]
  obtain ⟨b0, f0, g0⟩ := back_f l0 ((4000008 + l0.length + l1.length) + 1) (by omega)
  obtain ⟨b1, f1, g1⟩ := back_f l1 ((4000008 + l0.length + l1.length) + 1) (by omega)
  rw [decide_eq_false h1, laws_FnBuildMerge.j0, if_neg (by simp), f0, f1]
  simp only [Option.bind_some]
  cases b0 with
  | false => rw [if_neg (by simp), laws_FnBuildMerge.j1, if_pos rfl, ivWorks_f]; rfl
  | true =>
    rw [if_pos rfl]
    cases b1 with
    | false => rw [Bool.not_false, laws_FnBuildMerge.j1, if_pos rfl, ivWorks_f]; rfl
    | true =>
      have e0 := g0 rfl
      have e1 := g1 rfl
      rw [Bool.not_true, laws_FnBuildMerge.j1, if_neg (by simp)]
      obtain ⟨a0, n0, m0⟩ := lv_facts l0 e0
      obtain ⟨a1, n1, m1⟩ := lv_facts l1 e1
      have hb0 : impl_Build.f l0 = some ((Iv.lv none (l0.map ev47)).map s23, true) := if_pos e0
      have hb1 : impl_Build.f l1 = some ((Iv.lv none (l1.map ev47)).map s23, true) := if_pos e1
      have hm : impl_Merge.f ((Iv.lv none (l0.map ev47)).map s23) ((Iv.lv none (l1.map ev47)).map s23) = some ((Iv.merge (Iv.lv none (l0.map ev47)) (Iv.lv none (l1.map ev47))).map s23) := by
        have hh : impl_Merge.f ((Iv.lv none (l0.map ev47)).map s23) ((Iv.lv none (l1.map ev47)).map s23) = some ((Iv.merge (((Iv.lv none (l0.map ev47)).map s23).map i23) (((Iv.lv none (l1.map ev47)).map s23).map i23)).map s23) := if_pos ⟨apart_bnd _ a0 (by omega), apart_bnd _ a1 (by omega)⟩
        rw [m0, m1] at hh
        exact hh
      have hlen := Iv.merge_length (Iv.lv none (l0.map ev47)) (Iv.lv none (l1.map ev47))
      rw [List.length_map] at n0 n1
      have em : ((Iv.merge (Iv.lv none (l0.map ev47)) (Iv.lv none (l1.map ev47))).map s23).map i23 = Iv.merge (Iv.lv none (l0.map ev47)) (Iv.lv none (l1.map ev47)) := by rw [List.map_map]; exact List.map_id _
      have p0 := evs_parts _ e0
      have p1 := evs_parts _ e1
      rw [m0] at a0
      rw [m1] at a1
      have hx := Iv.merge_has _ _ (fun s hs => (a0.all s hs).1) (fun s hs => (a1.all s hs).1) x
      rw [hb0, hb1]
      simp only [Option.bind_some, if_true]
      rw [hm]
      simp only [Option.bind_some]
      rw [sethas_f _ x (by rw [List.length_map]; omega) _ (by rw [List.length_map]; omega), em, hx, (Iv.lv_places _ (down_iff _ p0.2.2)).1 x, (Iv.lv_places _ (down_iff _ p1.2.2)).1 x, live_f l0 e0 x _ (by omega), live_f l1 e1 x _ (by omega)]
      simp only [Option.bind_some, ivWorks_f]
      cases Iv.lvp (l0.map ev47) x <;> cases Iv.lvp (l1.map ev47) x <;> rfl
end Go.Proofs.Ytlgdibeklelfgaa.PAll
