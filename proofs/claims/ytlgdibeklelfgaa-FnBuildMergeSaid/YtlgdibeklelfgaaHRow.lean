/- A row of the call's own: a store into its last interval; slices.Reverse's plain law. -/
import Derived.Test.YtlgdibeklelfgaaHPv2
import Derived.Test.YtlgdibeklelfgaaPAllx38
import Derived.Laws.OwnMore
namespace Go.Proofs.Ytlgdibeklelfgaa.PAll
open Go.RowKit Go.Proofs.YtlgdibeklelfgaaW.PrintWords Go.Proofs.YtlgdibeklelfgaaW.PrintLast Go.Proofs.YtlgdibeklelfgaaW.PrintMore
set_option linter.unusedVariables false
set_option linter.unusedSimpArgs false
theorem RV.last {B : Nat} {v : Value} {R : List S53} {t : S53} {w : World} (h : RV B v (R ++ [t]) w) :
    ∃ g cap, v = .slice (some ⟨g, 0, none⟩) (R.length + 1) cap ∧ B ≤ g ∧ g < w.heap.size ∧ IsT w g 53 ∧ w.cell? ⟨g, R.length * 2, none⟩ = some (.int .i64 t.f0) ∧ w.frozen? ⟨g, R.length * 2, none⟩ = false ∧
      ∀ p : Int, RV B v (R ++ [(⟨p, t.f1⟩ : S53)]) (w.setCell ⟨g, R.length * 2, none⟩ (.int .i64 p)) := by
  obtain ⟨h0, inner, ho, hr⟩ := h
  have hlen : inner.length = (R.length + 1) * 2 := by have := ho.1; rw [List.length_append] at this; exact this
  rcases ho.2 with ⟨_, hn⟩ | ⟨g, cap, cur, rfl, hBg, hg, hnc, hcm, hcs, htake⟩
  · rw [List.length_append, List.length_singleton] at hn; omega
  have hl : (R ++ [t]).length = R.length + 1 := by rw [List.length_append, List.length_singleton]
  have hlast := hr.2 R.length t (by rw [List.getElem?_append_right (Nat.le_refl _), Nat.sub_self]; rfl)
  have hc : (inner.drop (R.length * 2)).take 2 = [.int .i64 t.f0, .int .i64 t.f1] := k53_openM hlast
  have hc' : inner.drop (R.length * 2) = [.int .i64 t.f0, .int .i64 t.f1] := by
    rw [← hc, List.take_of_length_le (by rw [List.length_drop, hlen]; omega)]
  have hin : inner = inner.take (R.length * 2) ++ [.int .i64 t.f0, .int .i64 t.f1] := by rw [← hc', List.take_append_drop]
  have htl : (inner.take (R.length * 2)).length = R.length * 2 := by rw [List.length_take, hlen]; omega
  rw [hl] at ho
  have hcell := World.ownsRow.cellAt ho (R.length * 2) (by show R.length * 2 < (R.length + 1) * 2; omega)
  refine ⟨g, cap, by rw [hl], hBg, blk_lt hg, ⟨cur, hg⟩, ?_, blk_frozen hg _, fun p => ?_⟩
  · rw [hcell, hin, List.getElem?_append_right (by rw [htl]; exact Nat.le_refl _), htl, Nat.sub_self]; rfl
  · have hst := (World.ownsRow.stored ho (R.length * 2) (.int .i64 p)).1
    have hset : inner.set (R.length * 2) (.int .i64 p) = inner.take (R.length * 2) ++ [.int .i64 p, .int .i64 t.f1] := by
      conv => lhs; rw [hin]
      rw [List.set_append_right _ _ (by rw [htl]; exact Nat.le_refl _), htl, Nat.sub_self]; rfl
    have hl2 : (R ++ [(⟨p, t.f1⟩ : S53)]).length = R.length + 1 := by rw [List.length_append, List.length_singleton]
    refine ⟨fun _ _ => trivial, inner.set (R.length * 2) (.int .i64 p), ?_, ?_⟩
    · rw [hl, hl2]; exact hst
    · rw [hset]
      refine Reps.snoc ⟨htl, fun j q hj => ?_⟩ (k53_mkM _ _ _ (⟨p, t.f1⟩ : S53)) rfl
      have hjl : j < R.length := (List.getElem?_eq_some_iff.1 hj).1
      have hq := hr.2 j q (by rw [List.getElem?_append_left hjl]; exact hj)
      have he : ((inner.take (R.length * 2)).drop (j * 2)).take 2 = (inner.drop (j * 2)).take 2 := by
        rw [List.drop_take, List.take_take, Nat.min_eq_left (by omega)]
      show k53.M _ _ _ q (((inner.take (R.length * 2)).drop (j * 2)).take 2)
      rw [he]
      have hop : (inner.drop (j * 2)).take 2 = [.int .i64 q.f0, .int .i64 q.f1] := k53_openM hq
      rw [hop]
      exact k53_mkM _ _ _ q
theorem rd53_get' (l : List S53) (i : Nat) (h : i < l.length) : rd_T53 l (i : Int) = l[i] := by simp [rd_T53, List.getD, h]
theorem rev_l (l : List S53) (hn : l.length ≤ 4294967296) : ∀ (k i : Nat) (x : List S53), x.length = l.length → l.length - i < k → i * 2 ≤ l.length + 1 →
    (∀ t, t < l.length → rd_T53 x (t : Int) = if t < i ∨ l.length - 1 - i < t ∧ 0 < i then rd_T53 l ((l.length - 1 - t : Nat) : Int) else rd_T53 l (t : Int)) →
    intervals_Interval.l0 k x (i : Int) ((l.length : Int) - 1 - (i : Int)) = some l.reverse := by
  intro k
  induction k with
  | zero => intro i x hx hk; omega
  | succ k ih =>
    intro i x hx hk hi ht
    rw [intervals_Interval.l0]
    by_cases h : (i : Int) < (l.length : Int) - 1 - (i : Int)
    · have hj : (l.length : Int) - 1 - (i : Int) = ((l.length - 1 - i : Nat) : Int) := by omega
      rw [if_pos h, if_pos (by omega), if_pos (by omega), if_pos (by omega), if_pos (by omega), IntWalk.wrap64_in _ (by omega), IntWalk.wrap64_in _ (by omega), hj, Int.toNat_natCast, Int.toNat_natCast]
      have e1 : ((i : Int) + 1) = ((i + 1 : Nat) : Int) := by omega
      have e2 : (((l.length - 1 - i : Nat) : Int) - 1) = (l.length : Int) - 1 - ((i + 1 : Nat) : Int) := by omega
      rw [e1, e2]
      have hil : i < x.length := by omega
      have hjl : l.length - 1 - i < x.length := by omega
      have hxi := ht i (by omega)
      have hxj := ht (l.length - 1 - i) (by omega)
      rw [if_neg (by omega)] at hxi hxj
      refine ih (i + 1) _ (by simp [hx]) (by omega) (by omega) (fun t htl => ?_)
      have rdset : ∀ (y : List S53) (a : Nat) (s : S53) (b : Nat), a < y.length → rd_T53 (y.set a s) (b : Int) = if a = b then s else rd_T53 y (b : Int) := by
        intro y a s b ha
        unfold rd_T53
        simp only [Int.toNat_natCast, List.getD_eq_getElem?_getD, List.getElem?_set]
        by_cases hab : a = b
        · simp [hab] at ha ⊢; simp [ha]
        · simp [hab]
      rw [rdset _ _ _ _ (by simpa using hjl), rdset _ _ _ _ hil]
      by_cases c1 : l.length - 1 - i = t
      · rw [if_pos c1, if_pos (by omega)]
        have : l.length - 1 - t = i := by omega
        rw [this]
        exact hxi
      · rw [if_neg c1]
        by_cases c2 : i = t
        · rw [if_pos c2, if_pos (by omega)]
          have : l.length - 1 - t = l.length - 1 - i := by omega
          rw [this]
          exact hxj
        · rw [if_neg c2, ht t htl]
          by_cases c3 : t < i ∨ l.length - 1 - i < t ∧ 0 < i
          · rw [if_pos c3, if_pos (by omega)]
          · rw [if_neg c3, if_neg (by omega)]
    · rw [if_neg h]
      congr 1
      refine List.ext_getElem (by simp [hx]) (fun t h1 h2 => ?_)
      have htl : t < l.length := by omega
      have := ht t htl
      rw [rd53_get' x t (by omega), rd53_get' l t htl, rd53_get' l (l.length - 1 - t) (by omega)] at this
      rw [this, List.getElem_reverse]
      split
      · rfl
      · congr 1
        omega
theorem rev_f (l : List S53) (hn : l.length ≤ 4294967296) (k : Nat) (hk : l.length < k) : intervals_Interval.f k l = some l.reverse := by
  unfold intervals_Interval.f
  rw [IntWalk.wrap64_in _ (by omega)]
  have := rev_l l hn k 0 l rfl (by omega) (by omega) (fun t ht => by rw [if_neg (by omega)])
  simpa using this
end Go.Proofs.Ytlgdibeklelfgaa.PAll
