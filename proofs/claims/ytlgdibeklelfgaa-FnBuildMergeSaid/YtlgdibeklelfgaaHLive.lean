/- What the printed helpers on events compute: Backwards, Live, LiveSpans. Plain Lean. -/
import Derived.Test.YtlgdibeklelfgaaHEv
import Derived.Test.YtlgdibeklelfgaaPAllx35
import Derived.Test.YtlgdibeklelfgaaPAllx41
import Derived.IntWalk
namespace Go.Proofs.Ytlgdibeklelfgaa.PAll
open Go.RowKit Go.Proofs.YtlgdibeklelfgaaW.PrintWords Go.Proofs.YtlgdibeklelfgaaW.PrintLast Go.Proofs.YtlgdibeklelfgaaW.PrintMore
set_option linter.unusedVariables false
set_option linter.unusedSimpArgs false
theorem rd47_get (l : List S47) (i : Nat) (h : i < l.length) : rd_T47 l (i : Int) = l[i] := by simp [rd_T47, List.getD, h]
/-- Whether the events go backwards, from a place on. -/
def bg (l : List S47) (j : Nat) : Bool :=
  decide (0 ≤ (rd_T47 l (j : Int)).f0) && (decide ((rd_T47 l (j : Int)).f0 ≤ 1099511627776) && (decide (j = 0) || decide ((rd_T47 l (j : Int)).f0 < (rd_T47 l ((j - 1 : Nat) : Int)).f0)))
theorem back_l (l : List S47) (hl : l.length ≤ 1000000) : ∀ (k i : Nat), i ≤ l.length → l.length - i < k → spec_Backwards.l0 k l l (l.length : Int) (i : Int) = some ((List.range' i (l.length - i)).all (bg l)) := by
  intro k
  induction k with
  | zero => intro i hi hk; omega
  | succ k ih =>
    intro i hi hk
    rw [spec_Backwards.l0]
    by_cases h : i < l.length
    · have hnext := ih (i + 1) (by omega) (by omega)
      have hw : wrap64 ((i : Int) + 1) = ((i + 1 : Nat) : Int) := by rw [IntWalk.wrap64_in _ (by omega)]; omega
      rw [if_pos (by omega), if_pos (by omega), if_pos (by omega), hw, hnext, show l.length - i = (l.length - (i + 1)) + 1 by omega, List.range'_succ, List.all_cons]
      by_cases c1 : (rd_T47 l (i : Int)).f0 < 0
      · rw [if_pos c1]; simp only [bg]; rw [decide_eq_false (show ¬ 0 ≤ (rd_T47 l (i : Int)).f0 by omega)]; rfl
      · rw [if_neg c1]
        by_cases c2 : (rd_T47 l (i : Int)).f0 > 1099511627776
        · rw [if_pos c2]; simp only [bg]; rw [decide_eq_false (show ¬ (rd_T47 l (i : Int)).f0 ≤ 1099511627776 by omega)]; simp
        · rw [if_neg c2]
          by_cases h0 : i = 0
          · rw [if_neg (by omega)]
            simp only [bg]
            rw [decide_eq_true (show 0 ≤ (rd_T47 l (i : Int)).f0 by omega), decide_eq_true (show (rd_T47 l (i : Int)).f0 ≤ 1099511627776 by omega), decide_eq_true h0]; simp
          · have hw1 : wrap64 ((i : Int) - 1) = ((i - 1 : Nat) : Int) := by rw [IntWalk.wrap64_in _ (by omega)]; omega
            rw [if_pos (by omega), hw1, if_pos (by omega), if_pos (by omega)]
            simp only [bg]
            rw [decide_eq_true (show 0 ≤ (rd_T47 l (i : Int)).f0 by omega), decide_eq_true (show (rd_T47 l (i : Int)).f0 ≤ 1099511627776 by omega), decide_eq_false h0]
            by_cases c3 : (rd_T47 l ((i - 1 : Nat) : Int)).f0 ≤ (rd_T47 l (i : Int)).f0
            · rw [if_pos c3, decide_eq_false (by omega)]; simp
            · rw [if_neg c3, decide_eq_true (by omega)]; simp
    · rw [if_neg (by omega), show l.length - i = 0 by omega]; rfl
theorem down_of (l : List Iv.E) (h : ∀ j, j + 1 < l.length → (l.getD (j + 1) (0, false)).1 < (l.getD j (0, false)).1) : down l = true := by
  induction l with
  | nil => rfl
  | cons a l ih =>
    cases l with
    | nil => rfl
    | cons b l =>
      have h0 := h 0 (by simp)
      simp only [down, Bool.and_eq_true, decide_eq_true_eq]
      exact ⟨by simpa using h0, ih fun j hj => by simpa using h (j + 1) (by simpa using hj)⟩
theorem rd_ev47 (l : List S47) (j : Nat) (h : j < l.length) : ev47 (rd_T47 l (j : Int)) = (l.map ev47).getD j (0, false) := by simp [rd_T47, List.getD, h]
/-- Backwards says at least that the events go backwards. -/
theorem back_evs (l : List S47) (hl : l.length ≤ 1000000) (h : (List.range' 0 (l.length - 0)).all (bg l) = true) : evs (l.map ev47) = true := by
  rw [List.all_eq_true] at h
  have hb : ∀ j, j < l.length → bg l j = true := fun j hj => h j (by rw [List.mem_range'_1]; omega)
  simp only [evs, Bool.and_eq_true, decide_eq_true_eq, List.all_eq_true, List.length_map]
  refine ⟨hl, fun e he => ?_, down_of _ fun j hj => ?_⟩
  · obtain ⟨s, hs, rfl⟩ := List.mem_map.1 he
    obtain ⟨j, hj, rfl⟩ := List.mem_iff_getElem.1 hs
    have := hb j hj
    simp only [bg, Bool.and_eq_true, decide_eq_true_eq] at this
    rw [rd47_get l j hj] at this
    exact ⟨this.1, this.2.1⟩
  · rw [List.length_map] at hj
    have := hb (j + 1) hj
    simp only [bg, Bool.and_eq_true, Bool.or_eq_true, decide_eq_true_eq] at this
    rw [← rd_ev47 l (j + 1) hj, ← rd_ev47 l j (by omega)]
    have h2 := this.2.2.resolve_left (by omega)
    exact h2
theorem back_f (l : List S47) (k : Nat) (hk : l.length < k) : ∃ b, spec_Backwards.f k l = some b ∧ (b = true → evs (l.map ev47) = true) := by
  unfold spec_Backwards.f
  by_cases h : (l.length : Int) > 1000000
  · rw [if_pos h]; exact ⟨false, rfl, fun h => by cases h⟩
  · rw [if_neg h]
    exact ⟨_, back_l l (by omega) k 0 (by omega) (by omega), fun hb => back_evs l (by omega) hb⟩
/-- Liveness by the number of events at a place or behind it. -/
def liveAt (l : List Iv.E) (n : Nat) (x : Int) : Bool :=
  if n = 0 then false else if (l.getD (n - 1) (0, false)).2 then false else if n < l.length then true else (l.getD (n - 1) (0, false)).1 == x
theorem liveAt_lvp (x : Int) : ∀ (l : List Iv.E), Iv.Down l → ∀ n, n ≤ l.length → (∀ j, j < n → x ≤ (l.getD j (0, false)).1) → (∀ j, n ≤ j → j < l.length → (l.getD j (0, false)).1 < x) → liveAt l n x = Iv.lvp l x := by
  intro l
  induction l with
  | nil =>
    intro _ n hn _ _
    have : n = 0 := by simpa using hn
    subst this
    rfl
  | cons e r ih =>
    intro hd n hn hlt hge
    cases r with
    | nil =>
      have hn' : n ≤ 1 := by simpa using hn
      by_cases h0 : n = 0
      · subst h0
        have := hge 0 (by omega) (by simp)
        simp only [List.getD_cons_zero] at this
        simp only [liveAt, if_true, Iv.lvp]
        rw [decide_eq_false (by omega), Bool.and_false]
      · have : n = 1 := by omega
        subst this
        simp only [liveAt, Iv.lvp, List.length_cons, List.length_nil, Nat.sub_self, List.getD_cons_zero]
        cases e.2 <;> simp <;> rfl
    | cons f r =>
      have hef := hd.1
      rw [Iv.lvp]
      by_cases hx : x ≤ f.1
      · rw [if_pos hx]
        have h2 : 2 ≤ n := by
          rcases Nat.lt_or_ge n 2 with h | h
          · have := hge 1 (by omega) (by simp)
            simp at this
            omega
          · exact h
        obtain ⟨m, rfl⟩ : ∃ m, n = m + 2 := ⟨n - 2, by omega⟩
        have := ih hd.2 (m + 1) (by simpa using hn) (fun j hj => by simpa using hlt (j + 1) (by omega)) (fun j hj hjl => by simpa using hge (j + 1) (by omega) (by simpa using hjl))
        rw [← this]
        simp [liveAt]
      · rw [if_neg hx]
        have h1 : n ≤ 1 := by
          rcases Nat.lt_or_ge 1 n with h | h
          · have := hlt 1 h
            simp at this
            omega
          · exact h
        by_cases h0 : n = 0
        · subst h0
          have := hge 0 (by omega) (by simp)
          simp only [List.getD_cons_zero] at this
          simp only [liveAt, if_true]
          rw [decide_eq_false (by omega), Bool.false_and]
        · have : n = 1 := by omega
          subst this
          have := hlt 0 (by omega)
          simp only [List.getD_cons_zero] at this
          rw [decide_eq_true this, Bool.true_and]
          simp only [liveAt, Nat.sub_self, List.getD_cons_zero, List.length_cons]
          cases e.2 <;> simp
theorem behind_l (l : List S47) (hl : l.length ≤ 1000000) (hd : Iv.Down (l.map ev47)) (x : Int) : ∀ (k lo hi : Nat), lo ≤ hi → hi ≤ l.length → hi - lo < k →
    (∀ j, j < lo → x ≤ ((l.map ev47).getD j (0, false)).1) → (∀ j, hi ≤ j → j < l.length → ((l.map ev47).getD j (0, false)).1 < x) →
    ∃ n, n ≤ l.length ∧ spec_behind.l0 k l x (lo : Int) (hi : Int) = some (n : Int) ∧ (∀ j, j < n → x ≤ ((l.map ev47).getD j (0, false)).1) ∧ (∀ j, n ≤ j → j < l.length → ((l.map ev47).getD j (0, false)).1 < x) := by
  have mono : ∀ (L : List Iv.E), Iv.Down L → ∀ i j, i ≤ j → j < L.length → (L.getD j (0, false)).1 ≤ (L.getD i (0, false)).1 := by
    intro L
    induction L with
    | nil => intro _ i j _ hj; simp at hj
    | cons a L ih =>
      intro hd i j hij hj
      cases j with
      | zero => have : i = 0 := by omega
                subst this; exact Int.le_refl _
      | succ j =>
        cases i with
        | zero =>
          cases L with
          | nil => simp at hj
          | cons b L =>
            have h1 := ih hd.2 0 j (by omega) (by simpa using hj)
            have h2 := hd.1
            simp only [List.getD_cons_zero, List.getD_cons_succ] at h1 ⊢
            omega
        | succ i => simpa using ih hd.tail i j (by omega) (by simpa using hj)
  intro k
  induction k with
  | zero => intro lo hi _ _ hk; omega
  | succ k ih =>
    intro lo hi hlh hhl hk hA hB
    rw [spec_behind.l0]
    by_cases h : lo < hi
    · have hm : wrap64 (Int.tdiv (wrap64 ((lo : Int) + (hi : Int))) 2) = (((lo + hi) / 2 : Nat) : Int) := by
        rw [IntWalk.wrap64_in ((lo : Int) + (hi : Int)) (by omega), Int.tdiv_eq_ediv_of_nonneg (by omega), IntWalk.wrap64_in _ (by omega)]
        omega
      obtain ⟨m, hmd⟩ : ∃ m, m = (lo + hi) / 2 := ⟨_, rfl⟩
      rw [hm, ← hmd]
      have hm1 : lo ≤ m := by omega
      have hm2 : m < hi := by omega
      have hw : wrap64 ((m : Int) + 1) = ((m + 1 : Nat) : Int) := by rw [IntWalk.wrap64_in _ (by omega)]; omega
      have hr : (rd_T47 l (m : Int)).f0 = ((l.map ev47).getD m (0, false)).1 := by rw [← rd_ev47 l m (by omega)]; rfl
      rw [if_pos (by omega), if_pos (by omega), if_pos (by omega), hw, hr]
      by_cases hc : ((l.map ev47).getD m (0, false)).1 ≥ x
      · rw [if_pos hc]
        refine ih (m + 1) hi (by omega) hhl (by omega) (fun j hj => ?_) hB
        have := mono _ hd j m (by omega) (by rw [List.length_map]; omega)
        omega
      · rw [if_neg hc]
        refine ih lo m hm1 (by omega) (by omega) hA (fun j hj hjl => ?_)
        have := mono _ hd m j hj (by rw [List.length_map]; omega)
        omega
    · rw [if_neg (by omega)]
      have : lo = hi := by omega
      subst this
      exact ⟨lo, hhl, rfl, hA, hB⟩
theorem live_f (l : List S47) (h : evs (l.map ev47) = true) (x : Int) (k : Nat) (hk : l.length < k) : spec_Live.f k l x = some (Iv.lvp (l.map ev47) x) := by
  obtain ⟨h1, h2, h3⟩ := evs_parts _ h
  rw [List.length_map] at h1
  obtain ⟨n, hn, hf, hA, hB⟩ := behind_l l h1 (down_iff _ h3) x k 0 l.length (by omega) (by omega) (by omega) (fun j hj => by omega) (fun j hj hjl => by omega)
  rw [← liveAt_lvp x _ (down_iff _ h3) n (by rw [List.length_map]; exact hn) hA (fun j hj hjl => hB j hj (by rwa [List.length_map] at hjl))]
  have hb : spec_behind.f k l x = some (n : Int) := hf
  unfold spec_Live.f liveAt
  rw [hb]
  simp only [Option.bind_some, List.length_map]
  by_cases h0 : n = 0
  · rw [if_pos (by omega), if_pos h0]
  · have hw : wrap64 ((n : Int) - 1) = ((n - 1 : Nat) : Int) := by rw [IntWalk.wrap64_in _ (by omega)]; omega
    rw [if_neg (by omega), if_neg h0, hw, if_pos (by omega), if_pos (by omega), ← rd_ev47 l (n - 1) (by omega)]
    by_cases hk2 : (rd_T47 l ((n - 1 : Nat) : Int)).f1 = true
    · rw [if_pos hk2, if_pos (show (ev47 (rd_T47 l ((n - 1 : Nat) : Int))).2 = true from hk2)]
    · rw [if_neg hk2, if_neg (show ¬ (ev47 (rd_T47 l ((n - 1 : Nat) : Int))).2 = true from hk2)]
      by_cases hl2 : n < l.length
      · rw [if_pos (by omega), if_pos hl2]
      · rw [if_neg (by omega), if_neg hl2]; rfl
end Go.Proofs.Ytlgdibeklelfgaa.PAll
