/- The pairs of two proper sequences come with rising starts, and as many as both hold. -/
import Derived.Test.YtlgdibeklelfgaaPAllx21
import Derived.Test.YtlgdibeklelfgaaHPure
namespace Go.Proofs.Ytlgdibeklelfgaa.PAll
open Go.RowKit Go.Proofs.YtlgdibeklelfgaaW.PrintWords Go.Proofs.YtlgdibeklelfgaaW.PrintLast Go.Proofs.YtlgdibeklelfgaaW.PrintMore
set_option linter.unusedVariables false
set_option linter.unusedSimpArgs false
theorem rising_at (z : Iv.I) : ∀ (l : List Iv.I), Iv.Rising l → ∀ i, i + 1 < l.length → (l.getD i z).1 ≤ (l.getD (i + 1) z).1
  | [], _, i, h => by simp at h
  | [a], _, i, h => by simp at h
  | a :: b :: l, hr, 0, h => hr.1
  | a :: b :: l, hr, i + 1, h => by
    have := rising_at z (b :: l) hr.2 i (by simp only [List.length_cons] at h ⊢; omega)
    simpa using this
theorem pairs_f (k : Nat) (l0 l1 : List S23) (h0 : l0.length ≤ 2147483647) (h1 : l1.length ≤ 2147483647) (hk : l0.length + l1.length < k) :
    ∃ r2, impl_Pairs.f k l0 l1 = some ((Iv.walk (l0.map i23) (l1.map i23)).map (fun p => s23 p.1), r2) := by
  have hw := Iv.walk_length (l0.map i23) (l1.map i23)
  simp only [List.length_map] at hw
  have e : ∀ l : List S23, (l.map fun s => s53 (i23 s)).map i53 = l.map i23 := fun l => by rw [List.map_map]; rfl
  refine ⟨(Iv.walk (l0.map i23) (l1.map i23)).map (fun p => if p.2 then 1 else 0), ?_⟩
  unfold impl_Pairs.f
  rw [in_f l0 (by omega) k (by omega), in_f l1 (by omega) k (by omega)]
  simp only [Option.bind_some]
  rw [intervals_ZZPairs.f, if_pos ⟨by rw [List.length_map]; omega, by rw [List.length_map]; omega⟩]
  simp only [Option.bind_some]
  rw [e, e, out_f _ (by rw [List.length_map, hw]; omega) k (by rw [List.length_map, hw]; omega)]
  simp only [Option.bind_some, List.map_map]
  rfl
theorem rise_l (l0 l1 is : List S23) (hr : Iv.Rising (is.map i23)) (hl : is.length = l0.length + l1.length) (hn : is.length ≤ 4294967296) : ∀ (k i : Nat), 1 ≤ i → is.length + 1 - i < k → laws_FnPairsRise.l0 k l0 l1 is (i : Int) = some true := by
  intro k
  induction k with
  | zero => intro i h1 hk; omega
  | succ k ih =>
    intro i h1 hk
    rw [laws_FnPairsRise.l0]
    by_cases h : (i : Int) < (is.length : Int)
    · have hj : (i : Int) - 1 = ((i - 1 : Nat) : Int) := by omega
      have hj1 : (i : Int) + 1 = ((i + 1 : Nat) : Int) := by omega
      rw [if_pos h, if_pos (by omega), IntWalk.wrap64_in _ (by omega), IntWalk.wrap64_in _ (by omega), hj, hj1, if_pos (by omega), if_pos (by omega)]
      have hq := rising_at (0, 0) _ hr (i - 1) (by rw [List.length_map]; omega)
      rw [show i - 1 + 1 = i by omega, ← rd_i23 is (i - 1) (by omega), ← rd_i23 is i (by omega)] at hq
      have hq' : (rd_T23 is ((i - 1 : Nat) : Int)).f0 ≤ (rd_T23 is (i : Int)).f0 := hq
      rw [if_neg (by omega)]
      exact ih (i + 1) (by omega) (by omega)
    · rw [if_neg h, IntWalk.wrap64_in _ (by omega), if_pos (by omega), ivWorks_f]
      rfl
theorem pure_FnPairsRise (l0 l1 : List S23) : ∃ k, laws_FnPairsRise.f k l0 l1 = some true := by
  refine ⟨l0.length * 4 + l1.length * 4 + 10, ?_⟩
  unfold laws_FnPairsRise.f
  by_cases h0 : (l0.length : Int) > 2147483647
  · rw [if_pos h0, laws_FnPairsRise.j0, if_pos rfl]
  rw [if_neg h0]
  by_cases h1 : (l1.length : Int) > 2147483647
  · rw [decide_eq_true h1, laws_FnPairsRise.j0, if_pos rfl]
  rw [decide_eq_false h1, laws_FnPairsRise.j0, if_neg (by simp), proper_f l0 (by omega) _ (by omega)]
  simp only [Option.bind_some]
  by_cases p0 : propAt l0 0 = true
  rotate_left
  · rw [if_neg p0, laws_FnPairsRise.j1, if_pos rfl, ivWorks_f]; rfl
  rw [if_pos p0, proper_f l1 (by omega) _ (by omega)]
  simp only [Option.bind_some]
  obtain ⟨a0, n0⟩ := (prop_iff l0).1 p0
  have b0 := apart_bnd l0 a0 (by omega)
  by_cases p1 : propAt l1 0 = true
  rotate_left
  · rw [show propAt l1 0 = false by simpa using p1, Bool.not_false, laws_FnPairsRise.j1, if_pos rfl, ivWorks_f]; rfl
  rw [p1, Bool.not_true, laws_FnPairsRise.j1, if_neg (by simp)]
  obtain ⟨a1, n1⟩ := (prop_iff l1).1 p1
  have b1 := apart_bnd l1 a1 (by omega)
  obtain ⟨r2, hp⟩ := pairs_f (l0.length * 4 + l1.length * 4 + 8) l0 l1 (by omega) (by omega) (by omega)
  rw [hp]
  simp only [Option.bind_some]
  have hw := Iv.walk_length (l0.map i23) (l1.map i23)
  simp only [List.length_map] at hw
  exact rise_l l0 l1 _ (by
    have := Iv.walk_rising _ _ a0.rising a1.rising
    rw [List.map_map]
    exact this) (by rw [List.length_map, hw]) (by rw [List.length_map, hw]; omega) _ 1 (Nat.le_refl _) (by rw [List.length_map, hw]; omega)
end Go.Proofs.Ytlgdibeklelfgaa.PAll
