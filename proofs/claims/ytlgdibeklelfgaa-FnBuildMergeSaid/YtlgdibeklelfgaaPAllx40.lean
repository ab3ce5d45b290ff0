-- Written by a program of this session out of the translation (wip/pp.py): Lean checks it.
import Derived.Test.YtlgdibeklelfgaaPAllx0
namespace Go.Proofs.Ytlgdibeklelfgaa.PAll
open Go.RowKit Go.Proofs.YtlgdibeklelfgaaW.PrintWords Go.Proofs.YtlgdibeklelfgaaW.PrintLast Go.Proofs.YtlgdibeklelfgaaW.PrintMore
attribute [local go_sem] max2_int min2_int max_two min_two max_three min_three max_four min_four   -- for this text's walks alone
set_option linter.unusedVariables false
set_option linter.unusedSimpArgs false

attribute [local go_sem] signed_i64 signed_i32 signed_u32 max_u32 signed_u64 max_u64
/-! ### spec_behind: function 45 -/
def spec_behind.l0 : Nat → List (S47) → Int → Int → Int → Option (Int)
  | 0, _, _, _, _ => none
  | k + 1, x0, x1, x5, x6 => if x5 < x6 then (if 0 ≤ (wrap64 (Int.tdiv (wrap64 (x5 + x6)) 2)) then (if (wrap64 (Int.tdiv (wrap64 (x5 + x6)) 2)) < (x0.length : Int) then (if ((rd_T47 x0 (wrap64 (Int.tdiv (wrap64 (x5 + x6)) 2))).f0) ≥ x1 then (spec_behind.l0 k x0 x1 (wrap64 ((wrap64 (Int.tdiv (wrap64 (x5 + x6)) 2)) + 1)) x6) else (spec_behind.l0 k x0 x1 x5 (wrap64 (Int.tdiv (wrap64 (x5 + x6)) 2)))) else (none)) else (none)) else (some x5)
def spec_behind.f (k : Nat) (l0 : List (S47)) (a1 : Int) : Option (Int) := spec_behind.l0 k l0 a1 0 (l0.length : Int)
theorem spec_behind.mono_l : ∀ k, (∀ y0 y1 y2 y3, LeO (spec_behind.l0 k y0 y1 y2 y3) (spec_behind.l0 (k + 1) y0 y1 y2 y3))
  | 0 => fun _ _ _ _ r h => by simp [spec_behind.l0] at h
  | k + 1 => by
    have ih0 := spec_behind.mono_l k
    · intro y0 y1 y2 y3
      unfold spec_behind.l0
      repeat' first
      | (with_reducible exact ih0 _ _ _ _)
      | (with_reducible exact LeO.refl _)
      | (with_reducible exact LeO.none _)
      | (with_reducible refine LeO.ite ?_ ?_)
      | (with_reducible refine LeO.bind ?_ (fun _ => ?_))
      | exact ih0 _ _ _ _
      | exact LeO.none _
      | refine LeO.ite ?_ ?_
      | refine LeO.bind ?_ (fun _ => ?_)
theorem spec_behind.mono : ∀ a0 a1 k, LeO (spec_behind.f k a0 a1) (spec_behind.f (k + 1) a0 a1) := by
  intro a0 a1 k
  have ih0 := spec_behind.mono_l k
  unfold spec_behind.f
  repeat' first
      | (with_reducible exact ih0 _ _ _ _)
      | (with_reducible exact LeO.refl _)
      | (with_reducible exact LeO.none _)
      | (with_reducible refine LeO.ite ?_ ?_)
      | (with_reducible refine LeO.bind ?_ (fun _ => ?_))
      | exact ih0 _ _ _ _
      | exact LeO.none _
      | refine LeO.ite ?_ ?_
      | refine LeO.bind ?_ (fun _ => ?_)
set_option maxHeartbeats 8000000 in
set_option maxRecDepth 100000 in
theorem spec_behind.calls (k : Nat) (A0 : Option Addr) (c0 : Nat) (l0 : List (S47)) (a1 : Int) (r : Int) (w : World) (hr0 : Kd.C k47 w A0 l0.length l0) (hc0 : l0.length ≤ c0) (h : spec_behind.f k l0 a1 = some r) :
    Calls Try.prog 45 #[.slice A0 l0.length c0, .int .i64 a1] w fun e w' => e = .returned (.int .i64 r) ∧ Drawn0 w w' := by
  have HR0 := Aside0.mk hr0
  have HC0 := Aside0.mk hc0
  clear hr0 hc0
  have H : (spec_behind.l0 k l0 a1 0 (l0.length : Int)) = some r := h
  clear h
  have H' := Aside0.mk H
  clear H
  go_enter Try.func45, Try.ntmps45
  go_wp2
  go_loopg [5, 6] k (fun kq v5 v6 w' => ∃ (x5_1 : Int) (x6_1 : Int), v5 = .int .i64 x5_1 ∧ v6 = .int .i64 x6_1 ∧ Aside0 (spec_behind.l0 kq l0 a1 x5_1 x6_1 = some r) ∧ Aside0 (kq ≤ k) ∧ Drawn0 w w')
  case atStart => exact ⟨(0), ((l0.length : Int)), (by first | rfl | (simp; done) | (simp [*]; done)), (by first | rfl | (simp; done) | (simp [*]; done)), H', ⟨Nat.le_refl _⟩, by repeat (first | exact Drawn0.refl _ | apply Drawn0.step)⟩
  case round =>
    clear H'
    try clear p2
    obtain ⟨x5_1, x6_1, rfl, rfl, HA, HK1, ⟨m1, rfl⟩⟩ := hrel
    cases gk with
    | zero => exact absurd HA.out (by simp [spec_behind.l0])
    | succ k1 =>
      have H := HA.out
      clear HA
      simp only [spec_behind.l0] at H
      by_cases c3 : x5_1 < x6_1
      · rw [if_pos c3] at H
        have c3b0 : decide (x5_1 < x6_1) = true := decide_eq_true c3
        clear c3
        obtain ⟨ji4, hji4⟩ : ∃ j_ : Int, (wrap64 (Int.tdiv (wrap64 (x5_1 + x6_1)) 2)) = j_ := ⟨_, rfl⟩
        replace H : (if 0 ≤ (ji4) then (if (ji4) < (l0.length : Int) then (if ((rd_T47 l0 (ji4)).f0) ≥ a1 then (spec_behind.l0 k1 l0 a1 (wrap64 ((ji4) + 1)) x6_1) else (spec_behind.l0 k1 l0 a1 x5_1 ji4)) else (none)) else (none)) = some r := by first | (rw [hji4] at H; exact H) | (simp only [hji4] at H ⊢; exact H)
        have hji4w : (IntKind.i64.wrap (Int.tdiv (wrap64 (x5_1 + x6_1)) 2)) = ji4 := (i64_w _).trans hji4
        by_cases c5 : 0 ≤ (ji4)
        · rw [if_pos c5] at H
          have c5b0 : decide (0 ≤ (ji4)) = true := decide_eq_true c5
          clear c5
          by_cases c6 : (ji4) < (l0.length : Int)
          · rw [if_pos c6] at H
            have c6b0 : decide ((ji4) < (l0.length : Int)) = true := decide_eq_true c6
            clear c6
            by_cases c7 : ((rd_T47 l0 (ji4)).f0) ≥ a1
            · rw [if_pos c7] at H
              have c7b0 : decide (a1 ≤ ((rd_T47 l0 (ji4)).f0)) = true := decide_eq_true c7
              clear c7
              have H' := Aside0.mk H
              clear H
              have p295 : 0 ≤ ((ji4) : Int) := of_decide_eq_true (by first | (with_reducible assumption) | assumption)
              have q295 : (ji4) < (l0.length : Int) := of_decide_eq_true (by first | (with_reducible assumption) | assumption)
              obtain ⟨ad295, e295, hx295_0, hx295_1⟩ := at_T47 HR0.out (ji4) p295 q295
              cases e295
              replace p295 := eq_true p295
              replace q295 := eq_true q295
              go_wp2
              go_roundg k1
              case measure => have := HK1.out; omega
              case rel => exact ⟨(wrap64 ((ji4) + 1)), (x6_1), (by first | rfl | (simp; done) | (simp only [← hji4] <;> (first | rfl | simp)) | (simp [*]; done)), (by first | rfl | (simp; done) | (simp [*]; done)), H', ⟨by have := HK1.out; omega⟩, by repeat (first | exact Drawn0.refl _ | apply Drawn0.step)⟩
            · rw [if_neg c7] at H
              have c7b0 : decide (a1 ≤ ((rd_T47 l0 (ji4)).f0)) = false := decide_eq_false c7
              clear c7
              have H' := Aside0.mk H
              clear H
              have p295 : 0 ≤ ((ji4) : Int) := of_decide_eq_true (by first | (with_reducible assumption) | assumption)
              have q295 : (ji4) < (l0.length : Int) := of_decide_eq_true (by first | (with_reducible assumption) | assumption)
              obtain ⟨ad295, e295, hx295_0, hx295_1⟩ := at_T47 HR0.out (ji4) p295 q295
              cases e295
              replace p295 := eq_true p295
              replace q295 := eq_true q295
              go_wp2
              go_roundg k1
              case measure => have := HK1.out; omega
              case rel => exact ⟨(x5_1), (ji4), (by first | rfl | (simp; done) | (simp [*]; done)), (by first | rfl | (simp; done) | (simp only [← hji4] <;> (first | rfl | simp)) | (simp [*]; done)), H', ⟨by have := HK1.out; omega⟩, by repeat (first | exact Drawn0.refl _ | apply Drawn0.step)⟩
          · rw [if_neg c6] at H
            exact absurd H (by simp)
        · rw [if_neg c5] at H
          exact absurd H (by simp)
      · rw [if_neg c3] at H
        have c3b0 : decide (x5_1 < x6_1) = false := decide_eq_false c3
        clear c3
        obtain rfl := Option.some.inj H
        go_wp2
        go_ret
        exact ⟨by first | rfl | (simp; done) | (simp [*]; done), by repeat (first | exact Drawn0.refl _ | apply Drawn0.step)⟩

end Go.Proofs.Ytlgdibeklelfgaa.PAll
