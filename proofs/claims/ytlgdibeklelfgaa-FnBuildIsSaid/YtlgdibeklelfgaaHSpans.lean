/- What the printed LiveSpans computes. Plain Lean. -/
import Derived.Test.YtlgdibeklelfgaaHLive
import Derived.Test.YtlgdibeklelfgaaPAllx42
namespace Go.Proofs.Ytlgdibeklelfgaa.PAll
open Go.RowKit Go.Proofs.YtlgdibeklelfgaaW.PrintWords Go.Proofs.YtlgdibeklelfgaaW.PrintLast Go.Proofs.YtlgdibeklelfgaaW.PrintMore
set_option linter.unusedVariables false
set_option linter.unusedSimpArgs false
def addI (X : List Iv.I) (f en : Int) : List Iv.I :=
  match X.getLast? with
  | some t => if t.2 = f then X.dropLast ++ [(t.1, en)] else X ++ [(f, en)]
  | none => [(f, en)]
theorem addI_snoc (Y : List Iv.I) (t : Iv.I) (f en : Int) : addI (Y ++ [t]) f en = if t.2 = f then Y ++ [(t.1, en)] else (Y ++ [t]) ++ [(f, en)] := by
  unfold addI
  rw [List.getLast?_concat, List.dropLast_concat]
theorem spans_live (e : Iv.E) (r : List Iv.E) (h : e.2 = false) : Iv.spans (e :: r) = addI (Iv.spans r) (match r with | [] => e.1 | g :: _ => g.1 + 1) (e.1 + 1) := by
  have hs := Iv.spans.eq_def (e :: r)
  simp only at hs
  rw [hs, if_neg (by simp [h])]
  unfold addI
  cases (Iv.spans r).getLast? <;> rfl
theorem spans_kill (e : Iv.E) (r : List Iv.E) (h : e.2 = true) : Iv.spans (e :: r) = Iv.spans r := by
  have hs := Iv.spans.eq_def (e :: r)
  simp only at hs
  rw [hs, if_pos h]
theorem addI_len (X : List Iv.I) (f en : Int) : (addI X f en).length ≤ X.length + 1 := by
  unfold addI
  split
  · split <;> simp
  · simp
theorem spans_len (l : List Iv.E) : (Iv.spans l).length ≤ l.length := by
  induction l with
  | nil => simp [Iv.spans]
  | cons e r ih =>
    cases h : e.2 with
    | true => rw [spans_kill e r h, List.length_cons]; omega
    | false =>
      rw [spans_live e r h, List.length_cons]
      exact Nat.le_trans (addI_len _ _ _) (by omega)
theorem lvp_own (l : List Iv.E) : Iv.Down l → ∀ i (hi : i < l.length), Iv.lvp l (l[i]).1 = !(l[i]).2 := by
  induction l with
  | nil => intro _ i hi; simp at hi
  | cons e r ih =>
    intro hd i hi
    cases i with
    | zero =>
      show Iv.lvp (e :: r) e.1 = !e.2
      cases he : e.2 with
      | false => exact Iv.lvp_at hd he
      | true =>
        rw [Iv.lvp_kill hd he]
        cases r with
        | nil => rfl
        | cons f r => exact Iv.lvp_above hd.2 hd.1
    | succ i =>
      cases r with
      | nil => simp at hi
      | cons f r =>
        have hi' : i < (f :: r).length := by simpa using hi
        have hle : ((f :: r)[i]).1 ≤ f.1 := by
          have : ∀ (L : List Iv.E) (a : Iv.E), Iv.Down (a :: L) → ∀ j (hj : j < (a :: L).length), ((a :: L)[j]).1 ≤ a.1 := by
            intro L
            induction L with
            | nil => intro a _ j hj; have : j = 0 := by simpa using hj
                     subst this; exact Int.le_refl _
            | cons b L ihL =>
              intro a hda j hj
              cases j with
              | zero => exact Int.le_refl _
              | succ j =>
                have h1 := ihL b hda.2 j (by simpa using hj)
                have h2 := hda.1
                show ((b :: L)[j]'(by simpa using hj)).1 ≤ a.1
                omega
          exact this r f hd.2 i hi'
        show Iv.lvp (e :: f :: r) ((f :: r)[i]).1 = _
        rw [Iv.lvp, if_pos hle]
        exact ih hd.2 i hi'
/-- The code's own piece: the last interval is lengthened, or one is appended. -/
theorem piece (X : List Iv.I) (f en : Int) (hX : X.length ≤ 1000000) (cont : List S23 → Option (List S23)) :
    (if ((X.map s23).length : Int) > 0 then (if 0 ≤ (wrap64 (((X.map s23).length : Int) - 1)) then (if (wrap64 (((X.map s23).length : Int) - 1)) < ((X.map s23).length : Int) then (if ((rd_T23 (X.map s23) (wrap64 (((X.map s23).length : Int) - 1))).f1) = f then cont ((X.map s23).set ((wrap64 (((X.map s23).length : Int) - 1)) : Int).toNat (⟨(rd_T23 (X.map s23) (wrap64 (((X.map s23).length : Int) - 1))).f0, en⟩ : S23)) else (if (X.map s23).length < 8796093022208 then cont ((X.map s23) ++ [(⟨f, en⟩ : S23)]) else (none))) else (none)) else (none)) else (if (X.map s23).length < 8796093022208 then cont ((X.map s23) ++ [(⟨f, en⟩ : S23)]) else (none))) = cont ((addI X f en).map s23) := by
  rcases List.eq_nil_or_concat X with rfl | ⟨Y, t, rfl⟩
  · rw [if_neg (by simp), if_pos (by simp)]
    rfl
  · rw [List.concat_eq_append] at *
    have hl : ((Y ++ [t]).map s23).length = Y.length + 1 := by simp
    have hY : Y.length + 1 ≤ 1000000 := by simpa using hX
    have hw : wrap64 ((((Y ++ [t]).map s23).length : Int) - 1) = ((Y.length : Nat) : Int) := by rw [hl, IntWalk.wrap64_in _ (by omega)]; omega
    have hrd : rd_T23 ((Y ++ [t]).map s23) ((Y.length : Nat) : Int) = s23 t := by simp [rd_T23, List.getD]
    have hset : ((Y ++ [t]).map s23).set Y.length (⟨t.1, en⟩ : S23) = (Y ++ [(t.1, en)]).map s23 := by
      rw [List.map_append, List.set_append_right _ _ (by simp)]
      simp [s23]
    rw [if_pos (by rw [hl]; omega), hw, if_pos (by omega), if_pos (by rw [hl]; omega), hrd, Int.toNat_natCast, addI_snoc]
    by_cases hc : t.2 = f
    · rw [if_pos (show (s23 t).f1 = f from hc), if_pos hc, show (⟨(s23 t).f0, en⟩ : S23) = ⟨t.1, en⟩ from rfl, hset]
    · rw [if_neg (show ¬ (s23 t).f1 = f from hc), if_neg hc, if_pos (by rw [hl]; omega), List.map_append (l₁ := Y ++ [t])]
      rfl
theorem spans_l (l : List S47) (h : evs (l.map ev47) = true) : ∀ (i k : Nat), i ≤ l.length → l.length + i < k →
    spec_LiveSpans.l0 k l ((Iv.spans ((l.drop i).map ev47)).map s23) ((i : Int) - 1) = some ((Iv.spans (l.map ev47)).map s23) := by
  obtain ⟨h1, h2, h3⟩ := evs_parts _ h
  rw [List.length_map] at h1
  intro i
  induction i with
  | zero =>
    intro k _ hk
    obtain ⟨k, rfl⟩ : ∃ m, k = m + 1 := ⟨k - 1, by omega⟩
    rw [spec_LiveSpans.l0, if_neg (by omega)]
    rfl
  | succ i ih =>
    intro k hi hk
    obtain ⟨k, rfl⟩ : ∃ m, k = m + 1 := ⟨k - 1, by omega⟩
    have hil : i < l.length := by omega
    have hx : (((i + 1 : Nat) : Int) - 1) = (i : Int) := by omega
    have hdrop : (l.drop i).map ev47 = ev47 (rd_T47 l (i : Int)) :: (l.drop (i + 1)).map ev47 := by rw [List.drop_eq_getElem_cons hil, List.map_cons, rd47_get l i hil]
    have hlm : i < (l.map ev47).length := by rw [List.length_map]; exact hil
    have hg : (l.map ev47)[i] = ev47 (rd_T47 l (i : Int)) := by rw [List.getElem_map, rd47_get l i hil]
    have hlive := lvp_own _ (down_iff _ h3) i hlm
    rw [hg] at hlive
    have hp := h2 _ (List.getElem_mem hlm)
    rw [hg] at hp
    have hwi : wrap64 ((i : Int) - 1) = (i : Int) - 1 := IntWalk.wrap64_in _ (by omega)
    have hws : wrap64 ((i : Int) + 1) = ((i + 1 : Nat) : Int) := by rw [IntWalk.wrap64_in _ (by omega)]; omega
    have hlen := spans_len ((l.drop (i + 1)).map ev47)
    rw [List.length_map, List.length_drop] at hlen
    have hih := ih k (by omega) (by omega)
    rw [hdrop] at hih
    rw [hx, spec_LiveSpans.l0, if_pos (by omega), if_pos (by omega), if_pos (by omega), live_f l h _ k (by omega), show (rd_T47 l (i : Int)).f0 = (ev47 (rd_T47 l (i : Int))).1 from rfl, hlive, hwi, hws]
    simp only [Option.bind_some]
    cases hk2 : (ev47 (rd_T47 l (i : Int))).2 with
    | true =>
      rw [Bool.not_true, if_neg (by simp)]
      rw [spans_kill _ _ hk2] at hih
      exact hih
    | false =>
      rw [Bool.not_false, if_pos rfl]
      rw [spans_live _ _ hk2] at hih
      have hwp : wrap64 ((ev47 (rd_T47 l (i : Int))).1 + 1) = (ev47 (rd_T47 l (i : Int))).1 + 1 := IntWalk.wrap64_in _ (by omega)
      rw [hwp]
      by_cases hn : i + 1 < l.length
      · have hlm2 : i + 1 < (l.map ev47).length := by rw [List.length_map]; exact hn
        have hg2 : (l.map ev47)[i + 1] = ev47 (rd_T47 l ((i + 1 : Nat) : Int)) := by rw [List.getElem_map, rd47_get l (i + 1) hn]
        have hp2 := h2 _ (List.getElem_mem hlm2)
        rw [hg2] at hp2
        have hdrop2 : (l.drop (i + 1)).map ev47 = ev47 (rd_T47 l ((i + 1 : Nat) : Int)) :: (l.drop (i + 1 + 1)).map ev47 := by rw [List.drop_eq_getElem_cons hn, List.map_cons, rd47_get l (i + 1) hn]
        have hwp2 : wrap64 ((rd_T47 l ((i + 1 : Nat) : Int)).f0 + 1) = (ev47 (rd_T47 l ((i + 1 : Nat) : Int))).1 + 1 := IntWalk.wrap64_in _ (by simp only [ev47] at hp2; omega)
        rw [if_pos (by omega), if_pos (by omega), hwp2, piece _ _ _ (by omega) (fun y => spec_LiveSpans.l0 k l y ((i : Int) - 1))]
        rw [hdrop2] at hih ⊢
        exact hih
      · have hd0 : (l.drop (i + 1)).map ev47 = [] := by rw [List.drop_eq_nil_of_le (by omega)]; rfl
        rw [if_neg (by omega), piece _ _ _ (by omega) (fun y => spec_LiveSpans.l0 k l y ((i : Int) - 1))]
        rw [hd0] at hih ⊢
        exact hih
theorem livespans_f (l : List S47) (h : evs (l.map ev47) = true) (k : Nat) (hk : l.length * 2 < k) : spec_LiveSpans.f k l = some ((Iv.lv none (l.map ev47)).map s23) := by
  obtain ⟨h1, h2, h3⟩ := evs_parts _ h
  rw [List.length_map] at h1
  unfold spec_LiveSpans.f
  rw [IntWalk.wrap64_in _ (by omega), ← Iv.spans_eq _ (down_iff _ h3) h2]
  have := spans_l l h l.length k (Nat.le_refl _) (by omega)
  rw [List.drop_length] at this
  exact this
end Go.Proofs.Ytlgdibeklelfgaa.PAll
