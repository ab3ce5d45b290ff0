/- What the printed helpers of the statements on intervals compute, on lists of pairs. Plain Lean. -/
import Derived.Test.YtlgdibeklelfgaaTf2
import Derived.Test.YtlgdibeklelfgaaPAllxA
import Derived.Test.YtlgdibeklelfgaaPAllxC
import Derived.Test.YtlgdibeklelfgaaPAllx23
import Derived.Test.YtlgdibeklelfgaaPAllx25
import Derived.Test.YtlgdibeklelfgaaHIo
namespace Go.Proofs.Ytlgdibeklelfgaa.PAll
open Go.RowKit Go.Proofs.YtlgdibeklelfgaaW.PrintWords Go.Proofs.YtlgdibeklelfgaaW.PrintLast Go.Proofs.YtlgdibeklelfgaaW.PrintMore
set_option linter.unusedVariables false
set_option linter.unusedSimpArgs false
theorem some_f (a b : Int) : spec_Some.f a b = some (sm (a, b)) := by
  unfold spec_Some.f sm
  by_cases h1 : a < b
  · rw [if_pos h1]
    by_cases h2 : a ≥ -2305843009213693952
    · rw [if_pos h2]; simp [h1, show -2305843009213693952 ≤ a from h2]
    · rw [if_neg h2]; simp [h1, show ¬ -2305843009213693952 ≤ a from h2]
  · rw [if_neg h1]; simp [h1]
theorem ivWorks_f : laws_ivWorks.f = some true := by decide +kernel
theorem has_f (a b x : Int) : spec_Has.f a b x = some (Iv.has (a, b) x) := by
  unfold spec_Has.f Iv.has
  by_cases h : a ≤ x <;> simp [h]
theorem sm_some (a : Iv.I) (h : sm a = true) : Iv.some' a := by
  simp only [sm, Bool.and_eq_true, decide_eq_true_eq] at h
  exact h
/-- Whether the sequence is proper, from a place on. -/
def pg (l : List S23) (j : Nat) : Bool := sm (i23 (rd_T23 l (j : Int))) && (decide (j = 0) || decide ((rd_T23 l ((j - 1 : Nat) : Int)).f1 < (rd_T23 l (j : Int)).f0))
def propAt (l : List S23) (i : Nat) : Bool := (List.range' i (l.length - i)).all (pg l) && decide (l.length ≤ 1000000)
theorem propAt_step (l : List S23) (i : Nat) (h : i < l.length) : propAt l i = (pg l i && propAt l (i + 1)) := by
  unfold propAt
  rw [show l.length - i = (l.length - (i + 1)) + 1 by omega, List.range'_succ, List.all_cons, Bool.and_assoc]
theorem propAt_end (l : List S23) : propAt l l.length = decide (l.length ≤ 1000000) := by simp [propAt]
theorem proper_l (l : List S23) (hl : l.length ≤ 9223372036854775806) : ∀ (k i : Nat), i ≤ l.length → l.length - i < k → spec_Proper.l0 k l l (l.length : Int) (i : Int) = some (propAt l i) := by
  intro k
  induction k with
  | zero => intro i hi hk; omega
  | succ k ih =>
    intro i hi hk
    rw [spec_Proper.l0]
    by_cases h : i < l.length
    · rw [if_pos (by omega), if_pos (by omega), if_pos (by omega), some_f]
      have hnext := ih (i + 1) (by omega) (by omega)
      have hw : wrap64 ((i : Int) + 1) = ((i + 1 : Nat) : Int) := by rw [IntWalk.wrap64_in _ (by omega)]; omega
      simp only [Option.bind_some]
      rw [propAt_step l i h, hw, hnext]
      by_cases hs : sm ((rd_T23 l (i : Int)).f0, (rd_T23 l (i : Int)).f1) = true
      · rw [if_pos hs]
        by_cases h0 : i = 0
        · rw [if_neg (by omega)]
          simp [pg, i23, hs, h0] at *
          simp [hs]
        · have hw1 : wrap64 ((i : Int) - 1) = ((i - 1 : Nat) : Int) := by rw [IntWalk.wrap64_in _ (by omega)]; omega
          rw [if_pos (by omega), hw1, if_pos (by omega), if_pos (by omega)]
          by_cases hc : (rd_T23 l ((i - 1 : Nat) : Int)).f1 ≥ (rd_T23 l (i : Int)).f0
          · rw [if_pos hc]
            simp only [pg, i23, hs, h0, decide_false, Bool.false_or, Bool.true_and]
            rw [decide_eq_false (by omega)]; rfl
          · rw [if_neg hc]
            simp only [pg, i23, hs, h0, decide_false, Bool.false_or, Bool.true_and]
            rw [decide_eq_true (by omega)]; simp
      · rw [if_neg hs]
        simp only [pg, i23]
        rw [show sm ((rd_T23 l (i : Int)).f0, (rd_T23 l (i : Int)).f1) = false by simpa using hs]; rfl
    · rw [if_neg (by omega), show i = l.length by omega, propAt_end]
      congr 1
      rw [decide_eq_decide]; omega
theorem proper_f (l : List S23) (hl : l.length ≤ 9223372036854775806) (k : Nat) (hk : l.length < k) : spec_Proper.f k l = some (propAt l 0) := proper_l l hl k 0 (by omega) (by omega)
theorem apart_of (l : List Iv.I) (h : ∀ j, j < l.length → sm (l.getD j (0, 0)) = true ∧ (j = 0 ∨ (l.getD (j - 1) (0, 0)).2 < (l.getD j (0, 0)).1)) : Iv.Apart l := by
  induction l with
  | nil => exact .nil
  | cons a l ih =>
    have h0 := (h 0 (by simp)).1
    have ih' := ih (fun j hj => by
      have := h (j + 1) (by simpa using hj)
      refine ⟨by simpa using this.1, ?_⟩
      cases j with
      | zero => exact .inl rfl
      | succ j => exact .inr (by simpa using this.2))
    cases l with
    | nil => exact .one a (sm_some a (by simpa using h0))
    | cons b l =>
      have := (h 1 (by simp)).2
      exact .cons a b l (sm_some a (by simpa using h0)) (by simpa using this) ih'
theorem apart_all (l : List Iv.I) (h : Iv.Apart l) : ∀ j, j < l.length → sm (l.getD j (0, 0)) = true ∧ (j = 0 ∨ (l.getD (j - 1) (0, 0)).2 < (l.getD j (0, 0)).1) := by
  have sm_of : ∀ a : Iv.I, Iv.some' a → sm a = true := fun a ha => by simp only [sm, Bool.and_eq_true, decide_eq_true_eq]; exact ha
  induction h with
  | nil => intro j hj; simp at hj
  | one a ha =>
    intro j hj
    have : j = 0 := by simpa using hj
    subst this
    exact ⟨by simpa using sm_of a ha, .inl rfl⟩
  | cons a b l ha hab h ih =>
    intro j hj
    cases j with
    | zero => exact ⟨by simpa using sm_of a ha, .inl rfl⟩
    | succ j =>
      have := ih j (by simpa using hj)
      refine ⟨by simpa using this.1, .inr ?_⟩
      cases j with
      | zero => simpa using hab
      | succ j => simpa using this.2.resolve_left (by omega)
theorem rd_i23 (l : List S23) (j : Nat) (h : j < l.length) : i23 (rd_T23 l (j : Int)) = (l.map i23).getD j (0, 0) := by simp [rd_T23, List.getD, h]
theorem prop_iff (l : List S23) : propAt l 0 = true ↔ Iv.Apart (l.map i23) ∧ l.length ≤ 1000000 := by
  have key : propAt l 0 = true ↔ (∀ j, j < l.length → sm ((l.map i23).getD j (0, 0)) = true ∧ (j = 0 ∨ ((l.map i23).getD (j - 1) (0, 0)).2 < ((l.map i23).getD j (0, 0)).1)) ∧ l.length ≤ 1000000 := by
    simp only [propAt, Bool.and_eq_true, List.all_eq_true, decide_eq_true_eq, List.mem_range'_1, Nat.sub_zero, Nat.zero_add, Nat.zero_le, true_and]
    refine and_congr_left fun _ => forall_congr' fun j => ⟨fun h hj => ?_, fun h hj => ?_⟩
    · have := h hj
      simp only [pg, Bool.and_eq_true, Bool.or_eq_true, decide_eq_true_eq] at this
      rw [← rd_i23 l j hj]
      refine ⟨this.1, ?_⟩
      rcases this.2 with h0 | h0
      · exact .inl h0
      · right; rw [← rd_i23 l (j - 1) (by omega)]; exact h0
    · have := h hj
      simp only [pg, Bool.and_eq_true, Bool.or_eq_true, decide_eq_true_eq]
      rw [← rd_i23 l j hj] at this
      refine ⟨this.1, ?_⟩
      rcases this.2 with h0 | h0
      · exact .inl h0
      · right; rw [← rd_i23 l (j - 1) (by omega)] at h0; exact h0
  rw [key]
  refine and_congr_left fun _ => ⟨fun h => apart_of _ (by simpa using h), fun h => by simpa using apart_all _ h⟩
theorem apart_bnd (l : List S23) (h : Iv.Apart (l.map i23)) (hl : l.length ≤ 4294967296) : bnd (l.map i23) = true := by
  simp only [bnd, Bool.and_eq_true, decide_eq_true_eq, List.all_eq_true, List.length_map]
  refine ⟨hl, fun s hs => ?_⟩
  have := h.all s hs
  simp only [sm, Bool.and_eq_true, decide_eq_true_eq]
  exact this
theorem overl_iff (a b : List Iv.I) (ha : Iv.Apart a) (hb : Iv.Apart b) : overl a b = true ↔ Iv.Meets a b := by
  unfold overl
  by_cases h0 : a.length = 0 ∨ b.length = 0
  · rw [if_pos h0]
    constructor
    · intro h; cases h
    · rintro ⟨s, hs, t, ht, _⟩
      rcases h0 with h0 | h0
      · rw [List.length_eq_zero_iff.1 h0] at hs; cases hs
      · rw [List.length_eq_zero_iff.1 h0] at ht; cases ht
  · rw [if_neg h0]
    have last_eq : ∀ l : List Iv.I, l.length ≠ 0 → l.getD (l.length - 1) (0, 0) = l.getLastD (0, 0) := fun l hl => by
      rw [List.getLastD_eq_getLast?, List.getLast?_eq_getElem?]; rfl
    by_cases h1 : (a.getD (a.length - 1) (0, 0)).2 ≤ (b.getD 0 (0, 0)).1 ∨ (b.getD (b.length - 1) (0, 0)).2 ≤ (a.getD 0 (0, 0)).1
    · rw [if_pos h1]
      constructor
      · intro h; cases h
      · intro hm
        rw [last_eq a (by omega), last_eq b (by omega)] at h1
        cases a with
        | nil => simp at h0
        | cons a0 xs =>
          cases b with
          | nil => simp at h0
          | cons b0 ys =>
            rcases h1 with h1 | h1
            · exact absurd hm (Iv.not_meets (zb := (0, 0)) ha hb rfl (by simpa using h1))
            · exact absurd ((Iv.meets_comm _ _).1 hm) (Iv.not_meets (zb := (0, 0)) hb ha rfl (by simpa using h1))
    · rw [if_neg h1]
      cases hw : Iv.walk a b with
      | nil =>
        have := Iv.walk_length a b
        rw [hw] at this
        simp at this
        omega
      | cons f L => exact Iv.clash_iff a b ha hb f L hw
theorem overlaps_f (k : Nat) (a b : List S23) (ha : bnd (a.map i23) = true) (hb : bnd (b.map i23) = true) (hka : a.length < k) (hkb : b.length < k) :
    impl_SetsOverlap.f k a b = some (overl (a.map i23) (b.map i23)) := by
  have h1 := ha
  have h2 := hb
  simp only [bnd, Bool.and_eq_true, decide_eq_true_eq, List.length_map] at h1 h2
  have e1 : ((a.map fun s => s53 (i23 s)).map i53) = a.map i23 := by rw [List.map_map]; rfl
  have e2 : ((b.map fun s => s53 (i23 s)).map i53) = b.map i23 := by rw [List.map_map]; rfl
  simp only [impl_SetsOverlap.f, in_f a h1.1 k hka, in_f b h2.1 k hkb, Option.bind_some, intervals_Intervals_Overlaps.f, e1, e2]
  rw [if_pos ⟨ha, hb⟩]; rfl
theorem sethas_l (l : List S23) (x : Int) (hl : l.length ≤ 9223372036854775806) : ∀ (k i : Nat), i ≤ l.length → l.length - i < k → spec_SetHas.l0 k x l (l.length : Int) (i : Int) = some (Iv.shas ((l.drop i).map i23) x) := by
  intro k
  induction k with
  | zero => intro i hi hk; omega
  | succ k ih =>
    intro i hi hk
    rw [spec_SetHas.l0]
    by_cases h : i < l.length
    · rw [if_pos (by omega), if_pos (by omega), if_pos (by omega), has_f]
      have hnext := ih (i + 1) (by omega) (by omega)
      have hw : wrap64 ((i : Int) + 1) = ((i + 1 : Nat) : Int) := by rw [IntWalk.wrap64_in _ (by omega)]; omega
      simp only [Option.bind_some]
      rw [hw, hnext, List.drop_eq_getElem_cons h, List.map_cons, rd23_get l i h]
      simp only [Iv.shas, List.any_cons, i23]
      cases Iv.has (l[i].f0, l[i].f1) x <;> simp
    · rw [if_neg (by omega), List.drop_eq_nil_of_le (by omega)]; rfl
theorem sethas_f (l : List S23) (x : Int) (hl : l.length ≤ 9223372036854775806) (k : Nat) (hk : l.length < k) : spec_SetHas.f k l x = some (Iv.shas (l.map i23) x) := by
  have := sethas_l l x hl k 0 (by omega) (by omega)
  rw [List.drop_zero] at this
  exact this
theorem same_l (l : List S23) (hl : l.length ≤ 9223372036854775806) : ∀ (k i : Nat), i ≤ l.length → l.length - i < k → spec_Same.l0 k l l (l.length : Int) (i : Int) = some true := by
  intro k
  induction k with
  | zero => intro i hi hk; omega
  | succ k ih =>
    intro i hi hk
    rw [spec_Same.l0]
    by_cases h : i < l.length
    · have hw : wrap64 ((i : Int) + 1) = ((i + 1 : Nat) : Int) := by rw [IntWalk.wrap64_in _ (by omega)]; omega
      rw [if_pos (by omega), if_pos (by omega), if_pos (by omega), if_pos (by omega), if_neg (by simp), hw, ih (i + 1) (by omega) (by omega)]
    · rw [if_neg (by omega)]
theorem same_f (l : List S23) (hl : l.length ≤ 9223372036854775806) (k : Nat) (hk : l.length < k) : spec_Same.f k l l = some true := by
  unfold spec_Same.f
  rw [if_pos rfl]
  exact same_l l hl k 0 (by omega) (by omega)
theorem mx_eq (a b : Int) : mx a b = max a b := by unfold mx; split <;> omega
theorem mn_eq (a b : Int) : mn a b = min a b := by unfold mn; split <;> omega
/-- The reference's way through two sequences. -/
theorem common_l (a b : List S23) (ha : a.length ≤ 4294967296) (hb : b.length ≤ 4294967296) : ∀ (k : Nat),
    (∀ i j : Nat, i ≤ a.length → j ≤ b.length → (a.length - i) * 2 + (b.length - j) < k → spec_SetsCommon.l0 k b (j : Int) a (a.length : Int) (i : Int) = some (Iv.common ((a.drop i).map i23) ((b.drop j).map i23))) ∧
    (∀ i j : Nat, i < a.length → j ≤ b.length → (a.length - i) * 2 + (b.length - j) ≤ k → spec_SetsCommon.l1 k b (j : Int) a (a.length : Int) (i : Int) (rd_T23 a (i : Int)).f0 (rd_T23 a (i : Int)).f1 = some (Iv.common ((a.drop i).map i23) ((b.drop j).map i23))) := by
  intro k
  induction k with
  | zero => exact ⟨fun i j hi hj hk => by omega, fun i j hi hj hk => by omega⟩
  | succ k ih =>
    refine ⟨fun i j hi hj hk => ?_, fun i j hi hj hk => ?_⟩
    · rw [spec_SetsCommon.l0]
      by_cases h : i < a.length
      · rw [if_pos (by omega), if_pos (by omega), if_pos (by omega)]
        exact ih.2 i j h hj (by omega)
      · rw [if_neg (by omega), List.drop_eq_nil_of_le (by omega)]; rfl
    · rw [spec_SetsCommon.l1]
      have hwi : wrap64 ((i : Int) + 1) = ((i + 1 : Nat) : Int) := by rw [IntWalk.wrap64_in _ (by omega)]; omega
      have hwj : wrap64 ((j : Int) + 1) = ((j + 1 : Nat) : Int) := by rw [IntWalk.wrap64_in _ (by omega)]; omega
      have hA : (a.drop i).map i23 = i23 (rd_T23 a (i : Int)) :: (a.drop (i + 1)).map i23 := by rw [List.drop_eq_getElem_cons hi, List.map_cons, rd23_get a i hi]
      by_cases h : j < b.length
      · have hB : (b.drop j).map i23 = i23 (rd_T23 b (j : Int)) :: (b.drop (j + 1)).map i23 := by rw [List.drop_eq_getElem_cons h, List.map_cons, rd23_get b j h]
        rw [if_pos (by omega), if_pos (by omega)]
        by_cases hc : (rd_T23 b (j : Int)).f1 ≤ (rd_T23 a (i : Int)).f0
        · rw [if_pos hc, hwj, ih.2 i (j + 1) hi (by omega) (by omega), hA, hB]
          rw [Iv.common, Iv.common, List.dropWhile_cons, if_pos (show decide ((i23 (rd_T23 b (j : Int))).2 ≤ (i23 (rd_T23 a (i : Int))).1) = true from decide_eq_true hc)]
        · rw [if_neg hc, hA, hB, Iv.common, List.dropWhile_cons, if_neg (show ¬ decide ((i23 (rd_T23 b (j : Int))).2 ≤ (i23 (rd_T23 a (i : Int))).1) = true from fun h => hc (of_decide_eq_true h))]
          simp only [spec_Common.f, Option.bind_some, mx_eq, mn_eq, decide_eq_true_eq]
          by_cases hd : max (rd_T23 a (i : Int)).f0 (rd_T23 b (j : Int)).f0 < min (rd_T23 a (i : Int)).f1 (rd_T23 b (j : Int)).f1
          · rw [if_pos hd, if_pos (show max (i23 _).1 (i23 _).1 < min (i23 _).2 (i23 _).2 from hd)]
          · rw [if_neg hd, if_neg (show ¬ max (i23 _).1 (i23 _).1 < min (i23 _).2 (i23 _).2 from hd), hwi, ih.1 (i + 1) j (by omega) hj (by omega), hB]
      · rw [if_neg (by omega), hwi, ih.1 (i + 1) j (by omega) hj (by omega), hA, show b.drop j = [] from List.drop_eq_nil_of_le (by omega), List.map_nil, Iv.common_nil, Iv.common_nil]
theorem common_f (a b : List S23) (ha : a.length ≤ 4294967296) (hb : b.length ≤ 4294967296) (k : Nat) (hk : a.length * 2 + b.length < k) : spec_SetsCommon.f k a b = some (Iv.common (a.map i23) (b.map i23)) := by
  have := (common_l a b ha hb k).1 0 0 (by omega) (by omega) (by omega)
  rw [List.drop_zero, List.drop_zero] at this
  exact this
end Go.Proofs.Ytlgdibeklelfgaa.PAll
