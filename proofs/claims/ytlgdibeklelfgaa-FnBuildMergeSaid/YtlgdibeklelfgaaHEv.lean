/- What is built of events, step by step: the plain law behind impl.Build's loop. -/
import Derived.Test.YtlgdibeklelfgaaTf2
namespace Go.Proofs.Ytlgdibeklelfgaa.PAll
open Go.RowKit Go.Proofs.YtlgdibeklelfgaaW.PrintWords Go.Proofs.YtlgdibeklelfgaaW.PrintLast Go.Proofs.YtlgdibeklelfgaaW.PrintMore
set_option linter.unusedVariables false
set_option linter.unusedSimpArgs false
theorem down_iff (l : List Iv.E) : down l = true → Iv.Down l := by
  induction l with
  | nil => intro _; trivial
  | cons a l ih =>
    cases l with
    | nil => intro _; trivial
    | cons b l =>
      intro h
      simp only [down, Bool.and_eq_true, decide_eq_true_eq] at h
      exact ⟨h.1, ih h.2⟩
theorem down_at (l : List Iv.E) (h : down l = true) : ∀ i (hi : i + 1 < l.length), (l[i + 1]).1 < (l[i]).1 := by
  induction l with
  | nil => intro i hi; simp at hi
  | cons a l ih =>
    cases l with
    | nil => intro i hi; simp at hi
    | cons b l =>
      simp only [down, Bool.and_eq_true, decide_eq_true_eq] at h
      intro i hi
      cases i with
      | zero => exact h.1
      | succ i => exact ih h.2 i (by simpa using hi)
theorem evs_parts (l : List Iv.E) (h : evs l = true) : l.length ≤ 1000000 ∧ (∀ e ∈ l, 0 ≤ e.1 ∧ e.1 ≤ 1099511627776) ∧ down l = true := by
  simp only [evs, Bool.and_eq_true, decide_eq_true_eq, List.all_eq_true] at h
  exact ⟨h.1, h.2.1, h.2.2⟩
def stAt (l : List Iv.E) (i : Nat) : List Iv.I × Int := (l.take i).foldl Iv.step ([], 0)
theorem stAt_succ (l : List Iv.E) (i : Nat) (hi : i < l.length) : stAt l (i + 1) = Iv.step (stAt l i) (l[i]) := by
  unfold stAt
  rw [List.take_succ_eq_append_getElem hi, List.foldl_append]
  rfl
theorem stAt_inv (l : List Iv.E) (h : evs l = true) : ∀ i, i ≤ l.length → (stAt l i).1.length ≤ i ∧ ((stAt l i).2 = 0 ∨ ((stAt l i).1 ≠ [] ∧ 0 < (stAt l i).2 ∧ (stAt l i).2 ≤ 1099511627777 ∧ ∀ hi : i < l.length, (l[i]).1 < (stAt l i).2 - 1)) := by
  obtain ⟨h1, h2, h3⟩ := evs_parts l h
  intro i
  induction i with
  | zero => intro _; exact ⟨Nat.le_refl _, .inl rfl⟩
  | succ i ih =>
    intro hi
    have hil : i < l.length := by omega
    obtain ⟨ihl, ihx⟩ := ih (by omega)
    have he := h2 (l[i]) (List.getElem_mem hil)
    rw [stAt_succ l i hil]
    generalize hs : stAt l i = s at ihl ihx
    obtain ⟨R, x⟩ := s
    simp only at ihl ihx
    have hnext : ∀ hj : i + 1 < l.length, (l[i + 1]).1 < (l[i]).1 := fun hj => down_at l h3 i hj
    cases hk : (l[i]).2 with
    | true =>
      by_cases hx : x = 0
      · simp only [Iv.step, hk, if_true, hx]
        exact ⟨by omega, .inl trivial⟩
      · simp only [Iv.step, hk, if_true, if_neg hx]
        have hR := (ihx.resolve_left hx).1
        have hpos : 0 < R.length := List.length_pos_iff.2 hR
        refine ⟨?_, .inl trivial⟩
        simp only [List.length_append, List.length_dropLast, List.length_cons, List.length_nil]
        omega
    | false =>
      by_cases hx : x = 0
      · simp only [Iv.step, hk, hx, if_true, Bool.false_eq_true, if_false]
        refine ⟨by simp only [List.length_append, List.length_cons, List.length_nil]; omega, .inr ⟨by simp, by omega, by omega, fun hj => ?_⟩⟩
        have := hnext hj
        omega
      · simp only [Iv.step, hk, if_neg hx, Bool.false_eq_true, if_false]
        have hR := (ihx.resolve_left hx).1
        have hpos : 0 < R.length := List.length_pos_iff.2 hR
        refine ⟨by simp only [List.length_append, List.length_dropLast, List.length_cons, List.length_nil]; omega, .inr ⟨by simp, by omega, by omega, fun hj => ?_⟩⟩
        have := hnext hj
        omega
theorem snoc_of (R : List S53) (h : R ≠ []) : ∃ R' t, R = R' ++ [t] := ⟨R.dropLast, R.getLast h, (List.dropLast_concat_getLast h).symm⟩
/-- One event, told on the intervals as the builder has them. -/
theorem ev_step (l : List Iv.E) (h : evs l = true) (i : Nat) (hi : i < l.length) (R : List S53) (x : Int) (hS : stAt l i = (R.map i53, x)) (p : Int) (b : Bool) (he : l[i] = (p, b)) :
    (0 ≤ p ∧ p ≤ 1099511627776) ∧ R.length ≤ 1000000 ∧
    ((x = 0 ∧ stAt l (i + 1) = (if b then (R.map i53, 0) else ((R ++ [(⟨p, p + 1⟩ : S53)]).map i53, p + 1))) ∨
     (∃ R' t, R = R' ++ [t] ∧ 0 < x ∧ p < x - 1 ∧ x ≤ 1099511627777 ∧ stAt l (i + 1) = (if b then ((R' ++ [(⟨p + 1, t.f1⟩ : S53)]).map i53, 0) else ((R' ++ [(⟨p, t.f1⟩ : S53)]).map i53, p + 1)))) := by
  obtain ⟨h1, h2, h3⟩ := evs_parts l h
  have hp := h2 (l[i]) (List.getElem_mem hi)
  obtain ⟨il, ix⟩ := stAt_inv l h i (by omega)
  rw [hS] at il ix
  simp only [List.length_map] at il ix
  rw [he] at hp
  refine ⟨hp, by omega, ?_⟩
  rw [stAt_succ l i hi, hS, he]
  rcases ix with hx | ⟨hR, hx0, hx1, hxp⟩
  · left
    refine ⟨hx, ?_⟩
    subst hx
    cases b <;> simp [Iv.step, i53]
  · right
    obtain ⟨R', t, rfl⟩ := snoc_of R (by simpa using hR)
    have := hxp hi
    rw [he] at this
    refine ⟨R', t, rfl, hx0, this, hx1, ?_⟩
    have hne : ¬ x = 0 := by omega
    cases b <;> simp [Iv.step, i53, hne]
theorem good_apart (l : List Iv.I) (h : ∀ j, j < l.length → (l.getD j (0, 0)).1 < (l.getD j (0, 0)).2 ∧ (j = 0 ∨ (l.getD (j - 1) (0, 0)).1 < (l.getD j (0, 0)).1 ∧ (l.getD (j - 1) (0, 0)).2 ≤ (l.getD j (0, 0)).1)) : good l = true := by
  unfold good
  rw [List.all_eq_true]
  intro j hj
  have := h j (by simpa using hj)
  unfold gd
  rw [decide_eq_true this.1, Bool.true_and]
  rcases this.2 with h0 | ⟨h1, h2⟩
  · rw [decide_eq_true h0, Bool.true_or]
  · rw [decide_eq_true h1, decide_eq_true h2]; simp
theorem apart_good (l : List Iv.I) (h : Iv.Apart l) : good l = true := by
  refine good_apart l ?_
  induction h with
  | nil => intro j hj; simp at hj
  | one a ha =>
    intro j hj
    have : j = 0 := by simpa using hj
    subst this
    exact ⟨by simpa using ha.1, .inl rfl⟩
  | cons a b l ha hab h ih =>
    intro j hj
    cases j with
    | zero => exact ⟨by simpa using ha.1, .inl rfl⟩
    | succ j =>
      have := ih j (by simpa using hj)
      refine ⟨by simpa using this.1, .inr ?_⟩
      cases j with
      | zero => have h1 := ha.1; exact ⟨by simp; omega, by simp; omega⟩
      | succ j => simpa using this.2.resolve_left (by omega)
/-- At the end: the row, turned round, is what is live. -/
theorem built (l : List Iv.E) (h : evs l = true) (R : List S53) (x : Int) (hS : stAt l l.length = (R.map i53, x)) : R.reverse.map i53 = Iv.lv none l ∧ good (R.reverse.map i53) = true ∧ R.length ≤ 1000000 := by
  obtain ⟨h1, h2, h3⟩ := evs_parts l h
  have e1 : R.reverse.map i53 = Iv.lv none l := by
    rw [List.map_reverse, ← Iv.steps_all l (fun e he => (h2 e he).1)]
    have : l.foldl Iv.step ([], 0) = (R.map i53, x) := by rw [← hS]; unfold stAt; rw [List.take_length]
    rw [this]
  refine ⟨e1, by rw [e1]; exact apart_good _ (Iv.lv_apart l (down_iff l h3) h2).1.1, ?_⟩
  have := (stAt_inv l h l.length (Nat.le_refl _)).1
  rw [hS, List.length_map] at this
  omega
end Go.Proofs.Ytlgdibeklelfgaa.PAll
