-- Written by a program of this session out of the translation (wip/pp.py): Lean checks it.
import Derived.Test.YtlgdibeklelfgaaPAllx0
import Derived.Test.YtlgdibeklelfgaaPAllx40
namespace Go.Proofs.Ytlgdibeklelfgaa.PAll
open Go.RowKit Go.Proofs.YtlgdibeklelfgaaW.PrintWords Go.Proofs.YtlgdibeklelfgaaW.PrintLast Go.Proofs.YtlgdibeklelfgaaW.PrintMore
attribute [local go_sem] max2_int min2_int max_two min_two max_three min_three max_four min_four   -- for this text's walks alone
set_option linter.unusedVariables false
set_option linter.unusedSimpArgs false

attribute [local go_sem] signed_i64 signed_i32 signed_u32 max_u32 signed_u64 max_u64
/-! ### spec_Live: function 30 -/
def spec_Live.f (k : Nat) (l0 : List (S47)) (a1 : Int) : Option (Bool) := (spec_behind.f k l0 a1).bind fun t296 => (if t296 = 0 then (some false) else (if 0 ≤ (wrap64 (t296 - 1)) then (if (wrap64 (t296 - 1)) < (l0.length : Int) then (if (rd_T47 l0 (wrap64 (t296 - 1))).f1 = true then (some false) else (if t296 < (l0.length : Int) then (some true) else (some (((rd_T47 l0 (wrap64 (t296 - 1))).f0) == a1)))) else (none)) else (none)))
theorem spec_Live.mono : ∀ a0 a1 k, LeO (spec_Live.f k a0 a1) (spec_Live.f (k + 1) a0 a1) := by
  intro a0 a1 k
  unfold spec_Live.f
  repeat' first
      | (with_reducible exact spec_behind.mono _ _ _)
      | (with_reducible exact LeO.refl _)
      | (with_reducible exact LeO.none _)
      | (with_reducible refine LeO.ite ?_ ?_)
      | (with_reducible refine LeO.bind ?_ (fun _ => ?_))
      | exact spec_behind.mono _ _ _
      | exact LeO.none _
      | refine LeO.ite ?_ ?_
      | refine LeO.bind ?_ (fun _ => ?_)
set_option maxHeartbeats 8000000 in
set_option maxRecDepth 100000 in
theorem spec_Live.calls (k : Nat) (A0 : Option Addr) (c0 : Nat) (l0 : List (S47)) (a1 : Int) (r : Bool) (w : World) (hr0 : Kd.C k47 w A0 l0.length l0) (hc0 : l0.length ≤ c0) (h : spec_Live.f k l0 a1 = some r) :
    Calls Try.prog 30 #[.slice A0 l0.length c0, .int .i64 a1] w fun e w' => e = .returned (.bool r) ∧ Drawn0 w w' := by
  have HR0 := Aside0.mk hr0
  have HC0 := Aside0.mk hc0
  clear hr0 hc0
  have H : ((spec_behind.f k l0 a1).bind fun t296 => (if t296 = 0 then (some false) else (if 0 ≤ (wrap64 (t296 - 1)) then (if (wrap64 (t296 - 1)) < (l0.length : Int) then (if (rd_T47 l0 (wrap64 (t296 - 1))).f1 = true then (some false) else (if t296 < (l0.length : Int) then (some true) else (some (((rd_T47 l0 (wrap64 (t296 - 1))).f0) == a1)))) else (none)) else (none)))) = some r := h
  clear h
  replace H := Option.bind_eq_some_iff.mp H
  obtain ⟨t296, A30, H⟩ := H
  replace H : (if t296 = 0 then (some false) else (if 0 ≤ (wrap64 (t296 - 1)) then (if (wrap64 (t296 - 1)) < (l0.length : Int) then (if (rd_T47 l0 (wrap64 (t296 - 1))).f1 = true then (some false) else (if t296 < (l0.length : Int) then (some true) else (some (((rd_T47 l0 (wrap64 (t296 - 1))).f0) == a1)))) else (none)) else (none))) = some r := H
  have A3 := Aside0.mk A30
  clear A30
  by_cases c4 : t296 = 0
  · rw [if_pos c4] at H
    have c4b0 : (t296 == 0) = true := beq_iff_eq.mpr c4
    have c4b1 : (t296 != 0) = false := bne_eq_false_iff_eq.mpr c4
    clear c4
    obtain rfl := Option.some.inj H
    go_enter Try.func30, Try.ntmps30
    go_wp2_with (first | ((with_reducible refine gate_callee (f := 45) rfl ?_); refine goesL_ (some 8) rfl rfl Try.func45 (by kernel_rfl) rfl #[.slice A0 l0.length c0, .int .i64 a1] rfl (by (try simp only [List.map_toArray, List.map_cons, List.map_nil]); first | done | rfl | (simp only [List.length_drop, List.length_take]; rfl)) ?_; (with_reducible refine (spec_behind.calls k _ _ l0 a1 t296 _ ?side1 ?side2 A3.out).mono ?_); (case side1 => repeat (first | exact HR0.out | (with_reducible refine Kd.C_alloc ?_ _) | (with_reducible refine Kd.C_drewN ?_ _) | (with_reducible refine Kd.C_drew ?_))); (case side2 => exact HC0.out); rintro e w' ⟨rfl, ⟨nd, rfl⟩⟩; refine ⟨_, rfl, ?_⟩))
    go_ret
    exact ⟨by first | rfl | (simp; done) | (simp [*]; done), by repeat (first | exact Drawn0.refl _ | apply Drawn0.step)⟩
  · rw [if_neg c4] at H
    have c4b0 : (t296 == 0) = false := beq_eq_false_iff_ne.mpr c4
    have c4b1 : (t296 != 0) = true := bne_iff_ne.mpr c4
    obtain ⟨ji5, hji5⟩ : ∃ j_ : Int, (wrap64 (t296 - 1)) = j_ := ⟨_, rfl⟩
    replace H : (if 0 ≤ (ji5) then (if (ji5) < (l0.length : Int) then (if (rd_T47 l0 (ji5)).f1 = true then (some false) else (if t296 < (l0.length : Int) then (some true) else (some (((rd_T47 l0 (ji5)).f0) == a1)))) else (none)) else (none)) = some r := by first | (rw [hji5] at H; exact H) | (simp only [hji5] at H ⊢; exact H)
    (try rw [hji5] at A3)
    have hji5w : (IntKind.i64.wrap (t296 - 1)) = ji5 := (i64_w _).trans hji5
    by_cases c6 : 0 ≤ (ji5)
    · rw [if_pos c6] at H
      have c6b0 : decide (0 ≤ (ji5)) = true := decide_eq_true c6
      clear c6
      by_cases c7 : (ji5) < (l0.length : Int)
      · rw [if_pos c7] at H
        have c7b0 : decide ((ji5) < (l0.length : Int)) = true := decide_eq_true c7
        clear c7
        obtain ⟨bq8, hbq8⟩ : ∃ b_ : Bool, b_ = ((rd_T47 l0 (ji5)).f1) := ⟨_, rfl⟩
        replace H : (if bq8 = true then (some false) else (if t296 < (l0.length : Int) then (some true) else (some (((rd_T47 l0 (ji5)).f0) == a1)))) = some r := by rw [← hbq8] at H; exact H
        have Nbq8 := Aside0.mk hbq8
        clear hbq8
        by_cases c9 : bq8 = true
        · subst c9
          have H1 : (some false) = some r := by rw [if_pos rfl] at H; exact H
          clear H
          have H := H1
          clear H1
          obtain rfl := Option.some.inj H
          go_enter Try.func30, Try.ntmps30
          go_wp2_with (first | ((with_reducible refine gate_callee (f := 45) rfl ?_); refine goesL_ (some 8) rfl rfl Try.func45 (by kernel_rfl) rfl #[.slice A0 l0.length c0, .int .i64 a1] rfl (by (try simp only [List.map_toArray, List.map_cons, List.map_nil]); first | done | rfl | (simp only [List.length_drop, List.length_take]; rfl)) ?_; (with_reducible refine (spec_behind.calls k _ _ l0 a1 t296 _ ?side1 ?side2 A3.out).mono ?_); (case side1 => repeat (first | exact HR0.out | (with_reducible refine Kd.C_alloc ?_ _) | (with_reducible refine Kd.C_drewN ?_ _) | (with_reducible refine Kd.C_drew ?_))); (case side2 => exact HC0.out); rintro e w' ⟨rfl, ⟨nd, rfl⟩⟩; refine ⟨_, rfl, ?_⟩; have p297 : 0 ≤ ((ji5) : Int) := of_decide_eq_true (by first | (with_reducible assumption) | assumption); have q297 : (ji5) < (l0.length : Int) := of_decide_eq_true (by first | (with_reducible assumption) | assumption); obtain ⟨ad297, e297, hx297_0, hx297_1⟩ := at_T47 HR0.out (ji5) p297 q297; (try rw [← Nbq8.out] at hx297_1); cases e297; replace p297 := eq_true p297; replace q297 := eq_true q297))
          go_ret
          exact ⟨by first | rfl | (simp; done) | (simp only [← hji5] <;> (first | rfl | simp)) | (simp [*]; done), by repeat (first | exact Drawn0.refl _ | apply Drawn0.step)⟩
        · replace c9 := Bool.eq_false_iff.mpr c9
          subst c9
          have H1 : (if t296 < (l0.length : Int) then (some true) else (some (((rd_T47 l0 (ji5)).f0) == a1))) = some r := by rw [if_neg (show ¬ (false = true) by decide)] at H; exact H
          clear H
          have H := H1
          clear H1
          by_cases c10 : t296 < (l0.length : Int)
          · rw [if_pos c10] at H
            have c10b0 : decide (t296 < (l0.length : Int)) = true := decide_eq_true c10
            clear c10
            obtain rfl := Option.some.inj H
            go_enter Try.func30, Try.ntmps30
            go_wp2_with (first | ((with_reducible refine gate_callee (f := 45) rfl ?_); refine goesL_ (some 8) rfl rfl Try.func45 (by kernel_rfl) rfl #[.slice A0 l0.length c0, .int .i64 a1] rfl (by (try simp only [List.map_toArray, List.map_cons, List.map_nil]); first | done | rfl | (simp only [List.length_drop, List.length_take]; rfl)) ?_; (with_reducible refine (spec_behind.calls k _ _ l0 a1 t296 _ ?side1 ?side2 A3.out).mono ?_); (case side1 => repeat (first | exact HR0.out | (with_reducible refine Kd.C_alloc ?_ _) | (with_reducible refine Kd.C_drewN ?_ _) | (with_reducible refine Kd.C_drew ?_))); (case side2 => exact HC0.out); rintro e w' ⟨rfl, ⟨nd, rfl⟩⟩; refine ⟨_, rfl, ?_⟩; have p297 : 0 ≤ ((ji5) : Int) := of_decide_eq_true (by first | (with_reducible assumption) | assumption); have q297 : (ji5) < (l0.length : Int) := of_decide_eq_true (by first | (with_reducible assumption) | assumption); obtain ⟨ad297, e297, hx297_0, hx297_1⟩ := at_T47 HR0.out (ji5) p297 q297; (try rw [← Nbq8.out] at hx297_1); cases e297; replace p297 := eq_true p297; replace q297 := eq_true q297))
            go_ret
            exact ⟨by first | rfl | (simp; done) | (simp only [← hji5] <;> (first | rfl | simp)) | (simp [*]; done), by repeat (first | exact Drawn0.refl _ | apply Drawn0.step)⟩
          · rw [if_neg c10] at H
            have c10b0 : decide (t296 < (l0.length : Int)) = false := decide_eq_false c10
            clear c10
            obtain rfl := Option.some.inj H
            go_enter Try.func30, Try.ntmps30
            go_wp2_with (first | ((with_reducible refine gate_callee (f := 45) rfl ?_); refine goesL_ (some 8) rfl rfl Try.func45 (by kernel_rfl) rfl #[.slice A0 l0.length c0, .int .i64 a1] rfl (by (try simp only [List.map_toArray, List.map_cons, List.map_nil]); first | done | rfl | (simp only [List.length_drop, List.length_take]; rfl)) ?_; (with_reducible refine (spec_behind.calls k _ _ l0 a1 t296 _ ?side1 ?side2 A3.out).mono ?_); (case side1 => repeat (first | exact HR0.out | (with_reducible refine Kd.C_alloc ?_ _) | (with_reducible refine Kd.C_drewN ?_ _) | (with_reducible refine Kd.C_drew ?_))); (case side2 => exact HC0.out); rintro e w' ⟨rfl, ⟨nd, rfl⟩⟩; refine ⟨_, rfl, ?_⟩; have p297 : 0 ≤ ((ji5) : Int) := of_decide_eq_true (by first | (with_reducible assumption) | assumption); have q297 : (ji5) < (l0.length : Int) := of_decide_eq_true (by first | (with_reducible assumption) | assumption); obtain ⟨ad297, e297, hx297_0, hx297_1⟩ := at_T47 HR0.out (ji5) p297 q297; (try rw [← Nbq8.out] at hx297_1); cases e297; replace p297 := eq_true p297; replace q297 := eq_true q297; have p298 : 0 ≤ ((ji5) : Int) := of_decide_eq_true (by first | (with_reducible assumption) | assumption); have q298 : (ji5) < (l0.length : Int) := of_decide_eq_true (by first | (with_reducible assumption) | assumption); obtain ⟨ad298, e298, hx298_0, hx298_1⟩ := at_T47 HR0.out (ji5) p298 q298; (try rw [← Nbq8.out] at hx298_1); obtain rfl : ad297 = ad298 := (by injection e298); replace p298 := eq_true p298; replace q298 := eq_true q298))
            go_ret
            exact ⟨by first | rfl | (simp; done) | (simp only [← hji5] <;> (first | rfl | simp)) | (simp [*]; done), by repeat (first | exact Drawn0.refl _ | apply Drawn0.step)⟩
      · rw [if_neg c7] at H
        exact absurd H (by simp)
    · rw [if_neg c6] at H
      exact absurd H (by simp)

end Go.Proofs.Ytlgdibeklelfgaa.PAll
