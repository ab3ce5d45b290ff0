-- Written by a program of this session out of the translation (wip/pp.py): Lean checks it.
import Derived.Test.YtlgdibeklelfgaaPAllx0
import Derived.Test.YtlgdibeklelfgaaPAllx41
namespace Go.Proofs.Ytlgdibeklelfgaa.PAll
open Go.RowKit Go.Proofs.YtlgdibeklelfgaaW.PrintWords Go.Proofs.YtlgdibeklelfgaaW.PrintLast Go.Proofs.YtlgdibeklelfgaaW.PrintMore
attribute [local go_sem] max2_int min2_int max_two min_two max_three min_three max_four min_four   -- for this text's walks alone
set_option linter.unusedVariables false
set_option linter.unusedSimpArgs false

attribute [local go_sem] signed_i64 signed_i32 signed_u32 max_u32 signed_u64 max_u64
/-! ### spec_LiveSpans: function 29 -/
def spec_LiveSpans.l0 : Nat → List (S47) → List (S23) → Int → Option ((List (S23)))
  | 0, _, _, _ => none
  | k + 1, x0, x3, x4 => if x4 ≥ 0 then (if 0 ≤ x4 then (if x4 < (x0.length : Int) then ((spec_Live.f k x0 ((rd_T47 x0 x4).f0)).bind fun t300 => (if t300 = true then (if (wrap64 (x4 + 1)) < (x0.length : Int) then (if 0 ≤ (wrap64 (x4 + 1)) then (if (x3.length : Int) > 0 then (if 0 ≤ (wrap64 ((x3.length : Int) - 1)) then (if (wrap64 ((x3.length : Int) - 1)) < (x3.length : Int) then (if ((rd_T23 x3 (wrap64 ((x3.length : Int) - 1))).f1) = (wrap64 (((rd_T47 x0 (wrap64 (x4 + 1))).f0) + 1)) then (spec_LiveSpans.l0 k x0 (x3.set ((wrap64 ((x3.length : Int) - 1)) : Int).toNat (⟨(rd_T23 x3 (wrap64 ((x3.length : Int) - 1))).f0, wrap64 (((rd_T47 x0 x4).f0) + 1)⟩ : S23)) (wrap64 (x4 - 1))) else (if x3.length < 8796093022208 then (spec_LiveSpans.l0 k x0 (x3 ++ [(⟨wrap64 (((rd_T47 x0 (wrap64 (x4 + 1))).f0) + 1), wrap64 (((rd_T47 x0 x4).f0) + 1)⟩ : S23)]) (wrap64 (x4 - 1))) else (none))) else (none)) else (none)) else (if x3.length < 8796093022208 then (spec_LiveSpans.l0 k x0 (x3 ++ [(⟨wrap64 (((rd_T47 x0 (wrap64 (x4 + 1))).f0) + 1), wrap64 (((rd_T47 x0 x4).f0) + 1)⟩ : S23)]) (wrap64 (x4 - 1))) else (none))) else (none)) else (if (x3.length : Int) > 0 then (if 0 ≤ (wrap64 ((x3.length : Int) - 1)) then (if (wrap64 ((x3.length : Int) - 1)) < (x3.length : Int) then (if ((rd_T23 x3 (wrap64 ((x3.length : Int) - 1))).f1) = ((rd_T47 x0 x4).f0) then (spec_LiveSpans.l0 k x0 (x3.set ((wrap64 ((x3.length : Int) - 1)) : Int).toNat (⟨(rd_T23 x3 (wrap64 ((x3.length : Int) - 1))).f0, wrap64 (((rd_T47 x0 x4).f0) + 1)⟩ : S23)) (wrap64 (x4 - 1))) else (if x3.length < 8796093022208 then (spec_LiveSpans.l0 k x0 (x3 ++ [(⟨(rd_T47 x0 x4).f0, wrap64 (((rd_T47 x0 x4).f0) + 1)⟩ : S23)]) (wrap64 (x4 - 1))) else (none))) else (none)) else (none)) else (if x3.length < 8796093022208 then (spec_LiveSpans.l0 k x0 (x3 ++ [(⟨(rd_T47 x0 x4).f0, wrap64 (((rd_T47 x0 x4).f0) + 1)⟩ : S23)]) (wrap64 (x4 - 1))) else (none)))) else (spec_LiveSpans.l0 k x0 x3 (wrap64 (x4 - 1))))) else (none)) else (none)) else (some x3)
def spec_LiveSpans.f (k : Nat) (l0 : List (S47)) : Option ((List (S23))) := spec_LiveSpans.l0 k l0 ([] : List (S23)) (wrap64 ((l0.length : Int) - 1))
theorem spec_LiveSpans.mono_l : ∀ k, (∀ y0 y1 y2, LeO (spec_LiveSpans.l0 k y0 y1 y2) (spec_LiveSpans.l0 (k + 1) y0 y1 y2))
  | 0 => fun _ _ _ r h => by simp [spec_LiveSpans.l0] at h
  | k + 1 => by
    have ih0 := spec_LiveSpans.mono_l k
    · intro y0 y1 y2
      unfold spec_LiveSpans.l0
      repeat' first
      | (with_reducible exact ih0 _ _ _)
      | (with_reducible exact spec_Live.mono _ _ _)
      | (with_reducible exact LeO.refl _)
      | (with_reducible exact LeO.none _)
      | (with_reducible refine LeO.ite ?_ ?_)
      | (with_reducible refine LeO.bind ?_ (fun _ => ?_))
      | exact ih0 _ _ _
      | exact spec_Live.mono _ _ _
      | exact LeO.none _
      | refine LeO.ite ?_ ?_
      | refine LeO.bind ?_ (fun _ => ?_)
theorem spec_LiveSpans.mono : ∀ a0 k, LeO (spec_LiveSpans.f k a0) (spec_LiveSpans.f (k + 1) a0) := by
  intro a0 k
  have ih0 := spec_LiveSpans.mono_l k
  unfold spec_LiveSpans.f
  repeat' first
      | (with_reducible exact ih0 _ _ _)
      | (with_reducible exact spec_Live.mono _ _ _)
      | (with_reducible exact LeO.refl _)
      | (with_reducible exact LeO.none _)
      | (with_reducible refine LeO.ite ?_ ?_)
      | (with_reducible refine LeO.bind ?_ (fun _ => ?_))
      | exact ih0 _ _ _
      | exact spec_Live.mono _ _ _
      | exact LeO.none _
      | refine LeO.ite ?_ ?_
      | refine LeO.bind ?_ (fun _ => ?_)
set_option maxHeartbeats 8000000 in
set_option maxRecDepth 100000 in
theorem spec_LiveSpans.calls (k : Nat) (A0 : Option Addr) (c0 : Nat) (l0 : List (S47)) (r : List (S23)) (w : World) (hr0 : Kd.C k47 w A0 l0.length l0) (hc0 : l0.length ≤ c0) (h : spec_LiveSpans.f k l0 = some r) :
    Calls Try.prog 29 #[.slice A0 l0.length c0] w fun e w' => ∃ v0_ : Value, e = .returned (v0_) ∧ Kd.R k23 23 w' w.heap.size (fun _ => True) v0_ r ∧ Below w.heap.size w w' := by
  have hu23 := Try.underlying23
  have HR0 := Aside0.mk hr0
  have HC0 := Aside0.mk hc0
  clear hr0 hc0
  have HB := Aside0.mk (Below.refl w.heap.size w)
  have H : (spec_LiveSpans.l0 k l0 ([] : List (S23)) (wrap64 ((l0.length : Int) - 1))) = some r := h
  clear h
  have H' := Aside0.mk H
  clear H
  go_enter Try.func29, Try.ntmps29
  go_wp2
  go_loopg [3, 4] k (fun kq v3 v4 w' => ∃ (x3_1 : List (S23)) (x4_1 : Int), v4 = .int .i64 x4_1 ∧ Aside0 (spec_LiveSpans.l0 kq l0 x3_1 x4_1 = some r) ∧ Aside0 (kq ≤ k) ∧ Aside0 (Kd.R k23 23 w' w.heap.size (fun _ => True) v3 x3_1) ∧ Aside0 (Below w.heap.size w w'))
  case atStart => exact ⟨(([] : List (S23))), (wrap64 ((l0.length : Int) - 1)), (by first | rfl | (simp; done) | (simp [*]; done)), H', ⟨Nat.le_refl _⟩, ⟨by first | exact Kd.R_nil _ _ _ _ _ | exact Kd.N_nil _ _ _ _ _ | exact Kd.V_nil _ _ _ _ _ | exact Kd.Q_nil _ _ _ _ _ | exact Kd.S_nil _ _ _ _ _⟩, ⟨by repeat (first | (with_reducible first | exact HB.out | apply below_alloc | apply pw_below_drewN | apply below_drew1) | exact HB.out)⟩⟩
  case round =>
    clear H'
    obtain ⟨x3_1, x4_1, rfl, HA, HK1, HO_3, HB⟩ := hrel
    cases gk with
    | zero => exact absurd HA.out (by simp [spec_LiveSpans.l0])
    | succ k1 =>
      have H := HA.out
      clear HA
      simp only [spec_LiveSpans.l0] at H
      by_cases c2 : x4_1 ≥ 0
      · rw [if_pos c2] at H
        have c2b0 : decide (0 ≤ x4_1) = true := decide_eq_true c2
        clear c2
        by_cases c3 : 0 ≤ x4_1
        · rw [if_pos c3] at H
          have c3b0 : decide (0 ≤ x4_1) = true := decide_eq_true c3
          clear c3
          by_cases c4 : x4_1 < (l0.length : Int)
          · rw [if_pos c4] at H
            have c4b0 : decide (x4_1 < (l0.length : Int)) = true := decide_eq_true c4
            clear c4
            replace H := Option.bind_eq_some_iff.mp H
            obtain ⟨t300, A50, H⟩ := H
            replace H : (if t300 = true then (if (wrap64 (x4_1 + 1)) < (l0.length : Int) then (if 0 ≤ (wrap64 (x4_1 + 1)) then (if (x3_1.length : Int) > 0 then (if 0 ≤ (wrap64 ((x3_1.length : Int) - 1)) then (if (wrap64 ((x3_1.length : Int) - 1)) < (x3_1.length : Int) then (if ((rd_T23 x3_1 (wrap64 ((x3_1.length : Int) - 1))).f1) = (wrap64 (((rd_T47 l0 (wrap64 (x4_1 + 1))).f0) + 1)) then (spec_LiveSpans.l0 k1 l0 (x3_1.set ((wrap64 ((x3_1.length : Int) - 1)) : Int).toNat (⟨(rd_T23 x3_1 (wrap64 ((x3_1.length : Int) - 1))).f0, wrap64 (((rd_T47 l0 x4_1).f0) + 1)⟩ : S23)) (wrap64 (x4_1 - 1))) else (if x3_1.length < 8796093022208 then (spec_LiveSpans.l0 k1 l0 (x3_1 ++ [(⟨wrap64 (((rd_T47 l0 (wrap64 (x4_1 + 1))).f0) + 1), wrap64 (((rd_T47 l0 x4_1).f0) + 1)⟩ : S23)]) (wrap64 (x4_1 - 1))) else (none))) else (none)) else (none)) else (if x3_1.length < 8796093022208 then (spec_LiveSpans.l0 k1 l0 (x3_1 ++ [(⟨wrap64 (((rd_T47 l0 (wrap64 (x4_1 + 1))).f0) + 1), wrap64 (((rd_T47 l0 x4_1).f0) + 1)⟩ : S23)]) (wrap64 (x4_1 - 1))) else (none))) else (none)) else (if (x3_1.length : Int) > 0 then (if 0 ≤ (wrap64 ((x3_1.length : Int) - 1)) then (if (wrap64 ((x3_1.length : Int) - 1)) < (x3_1.length : Int) then (if ((rd_T23 x3_1 (wrap64 ((x3_1.length : Int) - 1))).f1) = ((rd_T47 l0 x4_1).f0) then (spec_LiveSpans.l0 k1 l0 (x3_1.set ((wrap64 ((x3_1.length : Int) - 1)) : Int).toNat (⟨(rd_T23 x3_1 (wrap64 ((x3_1.length : Int) - 1))).f0, wrap64 (((rd_T47 l0 x4_1).f0) + 1)⟩ : S23)) (wrap64 (x4_1 - 1))) else (if x3_1.length < 8796093022208 then (spec_LiveSpans.l0 k1 l0 (x3_1 ++ [(⟨(rd_T47 l0 x4_1).f0, wrap64 (((rd_T47 l0 x4_1).f0) + 1)⟩ : S23)]) (wrap64 (x4_1 - 1))) else (none))) else (none)) else (none)) else (if x3_1.length < 8796093022208 then (spec_LiveSpans.l0 k1 l0 (x3_1 ++ [(⟨(rd_T47 l0 x4_1).f0, wrap64 (((rd_T47 l0 x4_1).f0) + 1)⟩ : S23)]) (wrap64 (x4_1 - 1))) else (none)))) else (spec_LiveSpans.l0 k1 l0 x3_1 (wrap64 (x4_1 - 1)))) = some r := H
            have A5 := Aside0.mk A50
            clear A50
            by_cases c6 : t300 = true
            · subst c6
              have H1 : (if (wrap64 (x4_1 + 1)) < (l0.length : Int) then (if 0 ≤ (wrap64 (x4_1 + 1)) then (if (x3_1.length : Int) > 0 then (if 0 ≤ (wrap64 ((x3_1.length : Int) - 1)) then (if (wrap64 ((x3_1.length : Int) - 1)) < (x3_1.length : Int) then (if ((rd_T23 x3_1 (wrap64 ((x3_1.length : Int) - 1))).f1) = (wrap64 (((rd_T47 l0 (wrap64 (x4_1 + 1))).f0) + 1)) then (spec_LiveSpans.l0 k1 l0 (x3_1.set ((wrap64 ((x3_1.length : Int) - 1)) : Int).toNat (⟨(rd_T23 x3_1 (wrap64 ((x3_1.length : Int) - 1))).f0, wrap64 (((rd_T47 l0 x4_1).f0) + 1)⟩ : S23)) (wrap64 (x4_1 - 1))) else (if x3_1.length < 8796093022208 then (spec_LiveSpans.l0 k1 l0 (x3_1 ++ [(⟨wrap64 (((rd_T47 l0 (wrap64 (x4_1 + 1))).f0) + 1), wrap64 (((rd_T47 l0 x4_1).f0) + 1)⟩ : S23)]) (wrap64 (x4_1 - 1))) else (none))) else (none)) else (none)) else (if x3_1.length < 8796093022208 then (spec_LiveSpans.l0 k1 l0 (x3_1 ++ [(⟨wrap64 (((rd_T47 l0 (wrap64 (x4_1 + 1))).f0) + 1), wrap64 (((rd_T47 l0 x4_1).f0) + 1)⟩ : S23)]) (wrap64 (x4_1 - 1))) else (none))) else (none)) else (if (x3_1.length : Int) > 0 then (if 0 ≤ (wrap64 ((x3_1.length : Int) - 1)) then (if (wrap64 ((x3_1.length : Int) - 1)) < (x3_1.length : Int) then (if ((rd_T23 x3_1 (wrap64 ((x3_1.length : Int) - 1))).f1) = ((rd_T47 l0 x4_1).f0) then (spec_LiveSpans.l0 k1 l0 (x3_1.set ((wrap64 ((x3_1.length : Int) - 1)) : Int).toNat (⟨(rd_T23 x3_1 (wrap64 ((x3_1.length : Int) - 1))).f0, wrap64 (((rd_T47 l0 x4_1).f0) + 1)⟩ : S23)) (wrap64 (x4_1 - 1))) else (if x3_1.length < 8796093022208 then (spec_LiveSpans.l0 k1 l0 (x3_1 ++ [(⟨(rd_T47 l0 x4_1).f0, wrap64 (((rd_T47 l0 x4_1).f0) + 1)⟩ : S23)]) (wrap64 (x4_1 - 1))) else (none))) else (none)) else (none)) else (if x3_1.length < 8796093022208 then (spec_LiveSpans.l0 k1 l0 (x3_1 ++ [(⟨(rd_T47 l0 x4_1).f0, wrap64 (((rd_T47 l0 x4_1).f0) + 1)⟩ : S23)]) (wrap64 (x4_1 - 1))) else (none)))) = some r := by rw [if_pos rfl] at H; exact H
              clear H
              have H := H1
              clear H1
              by_cases c7 : (wrap64 (x4_1 + 1)) < (l0.length : Int)
              · rw [if_pos c7] at H
                have c7b0 : decide ((wrap64 (x4_1 + 1)) < (l0.length : Int)) = true := decide_eq_true c7
                clear c7
                obtain ⟨ji8, hji8⟩ : ∃ j_ : Int, (wrap64 (x4_1 + 1)) = j_ := ⟨_, rfl⟩
                replace H : (if 0 ≤ (ji8) then (if (x3_1.length : Int) > 0 then (if 0 ≤ (wrap64 ((x3_1.length : Int) - 1)) then (if (wrap64 ((x3_1.length : Int) - 1)) < (x3_1.length : Int) then (if ((rd_T23 x3_1 (wrap64 ((x3_1.length : Int) - 1))).f1) = (wrap64 (((rd_T47 l0 (ji8)).f0) + 1)) then (spec_LiveSpans.l0 k1 l0 (x3_1.set ((wrap64 ((x3_1.length : Int) - 1)) : Int).toNat (⟨(rd_T23 x3_1 (wrap64 ((x3_1.length : Int) - 1))).f0, wrap64 (((rd_T47 l0 x4_1).f0) + 1)⟩ : S23)) (wrap64 (x4_1 - 1))) else (if x3_1.length < 8796093022208 then (spec_LiveSpans.l0 k1 l0 (x3_1 ++ [(⟨wrap64 (((rd_T47 l0 (ji8)).f0) + 1), wrap64 (((rd_T47 l0 x4_1).f0) + 1)⟩ : S23)]) (wrap64 (x4_1 - 1))) else (none))) else (none)) else (none)) else (if x3_1.length < 8796093022208 then (spec_LiveSpans.l0 k1 l0 (x3_1 ++ [(⟨wrap64 (((rd_T47 l0 (ji8)).f0) + 1), wrap64 (((rd_T47 l0 x4_1).f0) + 1)⟩ : S23)]) (wrap64 (x4_1 - 1))) else (none))) else (none)) = some r := by first | (rw [hji8] at H; exact H) | (simp only [hji8] at H ⊢; exact H)
                (try rw [hji8] at c7b0)
                (try rw [hji8] at A5)
                have hji8w : (IntKind.i64.wrap (x4_1 + 1)) = ji8 := (i64_w _).trans hji8
                by_cases c9 : 0 ≤ (ji8)
                · rw [if_pos c9] at H
                  have c9b0 : decide (0 ≤ (ji8)) = true := decide_eq_true c9
                  clear c9
                  by_cases c10 : (x3_1.length : Int) > 0
                  · rw [if_pos c10] at H
                    have c10b0 : decide (0 < (x3_1.length : Int)) = true := decide_eq_true c10
                    have c10b1 : decide (0 < x3_1.length) = true := decide_eq_true (by omega)
                    clear c10
                    obtain ⟨ji11, hji11⟩ : ∃ j_ : Int, (wrap64 ((x3_1.length : Int) - 1)) = j_ := ⟨_, rfl⟩
                    replace H : (if 0 ≤ (ji11) then (if (ji11) < (x3_1.length : Int) then (if ((rd_T23 x3_1 (ji11)).f1) = (wrap64 (((rd_T47 l0 (ji8)).f0) + 1)) then (spec_LiveSpans.l0 k1 l0 (x3_1.set ((ji11) : Int).toNat (⟨(rd_T23 x3_1 (ji11)).f0, wrap64 (((rd_T47 l0 x4_1).f0) + 1)⟩ : S23)) (wrap64 (x4_1 - 1))) else (if x3_1.length < 8796093022208 then (spec_LiveSpans.l0 k1 l0 (x3_1 ++ [(⟨wrap64 (((rd_T47 l0 (ji8)).f0) + 1), wrap64 (((rd_T47 l0 x4_1).f0) + 1)⟩ : S23)]) (wrap64 (x4_1 - 1))) else (none))) else (none)) else (none)) = some r := by first | (rw [hji11] at H; exact H) | (simp only [hji11] at H ⊢; exact H)
                    (try rw [hji11] at A5)
                    have hji11w : (IntKind.i64.wrap ((x3_1.length : Int) - 1)) = ji11 := (i64_w _).trans hji11
                    by_cases c12 : 0 ≤ (ji11)
                    · rw [if_pos c12] at H
                      have c12b0 : decide (0 ≤ (ji11)) = true := decide_eq_true c12
                      clear c12
                      by_cases c13 : (ji11) < (x3_1.length : Int)
                      · rw [if_pos c13] at H
                        have c13b0 : decide ((ji11) < (x3_1.length : Int)) = true := decide_eq_true c13
                        clear c13
                        by_cases c14 : ((rd_T23 x3_1 (ji11)).f1) = (wrap64 (((rd_T47 l0 (ji8)).f0) + 1))
                        · rw [if_pos c14] at H
                          have c14b0 : (((rd_T23 x3_1 (ji11)).f1) == (wrap64 (((rd_T47 l0 (ji8)).f0) + 1))) = true := beq_iff_eq.mpr c14
                          have c14b1 : (((rd_T23 x3_1 (ji11)).f1) != (wrap64 (((rd_T47 l0 (ji8)).f0) + 1))) = false := bne_eq_false_iff_eq.mpr c14
                          clear c14
                          obtain ⟨y305, hy305⟩ : ∃ y_ : List (S23), y_ = (x3_1.set ((ji11) : Int).toNat (⟨(rd_T23 x3_1 (ji11)).f0, wrap64 (((rd_T47 l0 x4_1).f0) + 1)⟩ : S23)) := ⟨_, rfl⟩
                          replace H : (spec_LiveSpans.l0 k1 l0 y305 (wrap64 (x4_1 - 1))) = some r := by first | (rw [hy305]; with_reducible exact H) | (have H2_ := (Option.bind_some _ _).symm.trans H; rw [hy305]; with_reducible exact H2_) | (have H2_ := (Option.bind_some _ _).symm.trans H; with_reducible exact H2_) | with_reducible exact H | (rw [hy305]; exact H) | exact H
                          have Ny305 := Aside0.mk hy305
                          clear hy305
                          have H' := Aside0.mk H
                          clear H
                          have p299 : 0 ≤ (x4_1 : Int) := of_decide_eq_true (by first | (with_reducible assumption) | assumption)
                          have q299 : x4_1 < (l0.length : Int) := of_decide_eq_true (by first | (with_reducible assumption) | assumption)
                          obtain ⟨ad299, e299, hx299_0, hx299_1⟩ := at_T47 HR0.out x4_1 p299 q299
                          cases e299
                          replace hx299_0 := (HB.out.cell (World.block_lt_of_cell? w _ hx299_0)).trans hx299_0
                          replace hx299_1 := (HB.out.cell (World.block_lt_of_cell? w _ hx299_1)).trans hx299_1
                          replace p299 := eq_true p299
                          replace q299 := eq_true q299
                          go_wp2_with (first | ((with_reducible refine gate_callee (f := 30) rfl ?_); refine goesL_ (some 20) rfl rfl Try.func30 (by kernel_rfl) rfl #[.slice (some ad299) l0.length c0, .int .i64 ((rd_T47 l0 x4_1).f0)] rfl (by (try simp only [List.map_toArray, List.map_cons, List.map_nil]); first | done | rfl | (simp only [List.length_drop, List.length_take]; rfl)) ?_; (with_reducible refine (spec_Live.calls k1 _ _ l0 ((rd_T47 l0 x4_1).f0) true _ ?side1 ?side2 A5.out).mono ?_); (case side1 => repeat (first | exact (Kd.C_below HR0.out HB.out) | (with_reducible refine Kd.C_alloc ?_ _) | (with_reducible refine Kd.C_drewN ?_ _) | (with_reducible refine Kd.C_drew ?_))); (case side2 => exact HC0.out); rintro e w' ⟨rfl, ⟨nd, rfl⟩⟩; refine ⟨_, rfl, ?_⟩; (try (rw [drewN_self wr]; generalize hq_ : World.drewN wr _ = wr; have n0_ : Aside0 (Kd.R k23 23 wr w.heap.size (fun _ => True) u3 x3_1) := ⟨by rw [← hq_]; exact (by (with_reducible repeat (first | apply Kd.R_alloc | apply Kd.R_drewN | apply Kd.R_drew)); exact HO_3.out)⟩; have n1_ : Aside0 (Below w.heap.size w wr) := ⟨by rw [← hq_]; exact (by repeat (first | (with_reducible first | exact HB.out | apply below_alloc | apply pw_below_drewN | apply below_drew1) | exact HB.out))⟩; clear HO_3 HB hq_; have HO_3 := n0_; have HB := n1_; clear n0_ n1_)); have p301 : 0 ≤ (x4_1 : Int) := of_decide_eq_true (by first | (with_reducible assumption) | assumption); have q301 : x4_1 < (l0.length : Int) := of_decide_eq_true (by first | (with_reducible assumption) | assumption); obtain ⟨ad301, e301, hx301_0, hx301_1⟩ := at_T47 HR0.out x4_1 p301 q301; obtain rfl : ad299 = ad301 := (by injection e301); replace hx301_0 := (HB.out.cell (World.block_lt_of_cell? w _ hx301_0)).trans hx301_0; replace hx301_1 := (HB.out.cell (World.block_lt_of_cell? w _ hx301_1)).trans hx301_1; replace p301 := eq_true p301; replace q301 := eq_true q301; have p302 : 0 ≤ ((ji8) : Int) := of_decide_eq_true (by first | (with_reducible assumption) | assumption); have q302 : (ji8) < (l0.length : Int) := of_decide_eq_true (by first | (with_reducible assumption) | assumption); obtain ⟨ad302, e302, hx302_0, hx302_1⟩ := at_T47 HR0.out (ji8) p302 q302; obtain rfl : ad299 = ad302 := (by injection e302); replace hx302_0 := (HB.out.cell (World.block_lt_of_cell? w _ hx302_0)).trans hx302_0; replace hx302_1 := (HB.out.cell (World.block_lt_of_cell? w _ hx302_1)).trans hx302_1; replace p302 := eq_true p302; replace q302 := eq_true q302; obtain ⟨Ao16, co16, eo16⟩ := Kd.R_slice HO_3.out; subst eo16; have p303 : 0 ≤ ((ji11) : Int) := of_decide_eq_true (by first | (with_reducible assumption) | assumption); have q303 : (ji11) < (x3_1.length : Int) := of_decide_eq_true (by first | (with_reducible assumption) | assumption); obtain ⟨ad303, e303, hx303_0, hx303_1⟩ := at_T23 (Kd.R_reads' HO_3.out).2.2 (ji11) p303 q303; cases e303; replace p303 := eq_true p303; replace q303 := eq_true q303; have p304 : 0 ≤ (x4_1 : Int) := of_decide_eq_true (by first | (with_reducible assumption) | assumption); have q304 : x4_1 < (l0.length : Int) := of_decide_eq_true (by first | (with_reducible assumption) | assumption); obtain ⟨ad304, e304, hx304_0, hx304_1⟩ := at_T47 HR0.out x4_1 p304 q304; obtain rfl : ad299 = ad304 := (by injection e304); replace hx304_0 := (HB.out.cell (World.block_lt_of_cell? w _ hx304_0)).trans hx304_0; replace hx304_1 := (HB.out.cell (World.block_lt_of_cell? w _ hx304_1)).trans hx304_1; replace p304 := eq_true p304; replace q304 := eq_true q304; have p15 : 0 ≤ ((ji11) : Int) := of_decide_eq_true (by first | (with_reducible assumption) | assumption); have q15 : ((ji11) : Int) < ((x3_1.length : Int) : Int) := of_decide_eq_true (by first | (with_reducible assumption) | assumption); obtain ⟨go15, co15, eo15, gb15, gl15, cl15, HG15⟩ := Kd.R_form HO_3.out (by omega); (first | cases eo15 | (injection eo15 with ea_ en_ ec_; (first | subst ea_ | (injection ea_ with ea_; subst ea_)); subst ec_; clear en_)); have GB15 := Aside0.mk gb15; have GG15 := Aside0.mk HG15; clear gb15 gl15 HG15; (first | simp only [add_plain] at hx303_0 | skip); (first | simp only [add_plain] at hx303_1 | skip); obtain ⟨ce15, hcl15, hM15, hcc15, hfr15⟩ := Kd.R_elem HO_3.out z23 ((ji11) : Int) p15 q15; obtain rfl := k23_openM hM15; have hx15_0 : wr.cell? ⟨go15, ((ji11) : Int).toNat * 2, none⟩ = some (.int .i64 ((rd_T23 x3_1 (ji11)).f0)) := hcc15 0 _ rfl; have hx15_1 : wr.cell? ⟨go15, ((ji11) : Int).toNat * 2 + 1, none⟩ = some (.int .i64 ((rd_T23 x3_1 (ji11)).f1)) := hcc15 1 _ rfl; have hf15_0 : wr.frozen? ⟨go15, ((ji11) : Int).toNat * 2, none⟩ = false := hfr15 0; have hf15_1 : wr.frozen? ⟨go15, ((ji11) : Int).toNat * 2 + 1, none⟩ = false := hfr15 1; clear hcl15 hcc15 hfr15 hM15; replace p15 := eq_true p15; replace q15 := eq_true q15; have HX17 := Aside0.mk (show Kd.R k23 23 wr w.heap.size (fun _ => True) (.slice (some ⟨go15, 0, none⟩) x3_1.length co16) x3_1 from (by (with_reducible repeat (first | apply Kd.R_alloc | apply Kd.R_drewN | apply Kd.R_drew)); exact HO_3.out)); obtain ⟨ce17, hcl17, hM17, hcc17, hfr17⟩ := Kd.R_elem HX17.out z23 ((ji11) : Int) (of_decide_eq_true (by first | (with_reducible assumption) | assumption)) (by have h_ : ((ji11) : Int) < ((x3_1.length : Int) : Int) := of_decide_eq_true (by first | (with_reducible assumption) | assumption); first | exact h_ | (have e_ := (Kd.R_reads' HO_3.out).1; omega) | simpa using h_); obtain rfl := k23_openM hM17; have HP17 := Kd.R_seg HX17.out ((ji11) : Int) (of_decide_eq_true (by first | (with_reducible assumption) | assumption)) (by have h_ : ((ji11) : Int) < ((x3_1.length : Int) : Int) := of_decide_eq_true (by first | (with_reducible assumption) | assumption); first | exact h_ | (have e_ := (Kd.R_reads' HO_3.out).1; omega) | simpa using h_) (seg := [.int .i64 (wrap64 (((rd_T47 l0 x4_1).f0) + 1))]) (j := 1) hcl17 hcc17 (show 2 ≤ 2 from by decide) (x' := (⟨(rd_T23 x3_1 (ji11)).f0, wrap64 (((rd_T47 l0 x4_1).f0) + 1)⟩ : S23)) (k23_mkM _ _ _ (⟨(rd_T23 x3_1 (ji11)).f0, wrap64 (((rd_T47 l0 x4_1).f0) + 1)⟩ : S23) ) (fun _ hk => hk); have hx17_1 := hcc17 1 _ rfl; (try simp only [show (k23).sz = 2 from rfl, Nat.mul_one, Nat.add_zero] at hx17_1); have hf17_1 := hfr17 1; (try simp only [show (k23).sz = 2 from rfl, Nat.mul_one, Nat.add_zero] at hf17_1); clear hcl17 hcc17 hfr17 hM17) | ((with_reducible refine gate_store (t := 3) (p := 63) rfl ?_); refine store_event (t := 3) (p := 63) (v := ?vo_w18) (w1 := (wr.setCell ⟨go15, ((ji11) : Int).toNat * 2 + 1, none⟩ (.int .i64 (wrap64 (((rd_T47 l0 x4_1).f0) + 1))))) ?hg ?ho ?hn ?hr ?_; (case ho => rfl); (case hg => rfl); (case hn => rfl); (case hr => first | (go_simp; done) | (go_simp; rfl)); intro w18 hw; have hg : wr.grownBy w18 (some go15) := (by rw [hw]; exact HP17.2); have hp_ : Kd.R k23 23 w18 w.heap.size (fun _ => True) (.slice (some ⟨go15, 0, none⟩) x3_1.length co16) y305 := (by rw [hw, Ny305.out]; exact HP17.1); clear HP17; have n0_ := Aside0.mk (hp_); have n1_ := Aside0.mk ((by rw [hw]; exact below_set (HB.out) GB15.out : Below w.heap.size w w18)); clear HO_3; clear HB; have HO_3 := n0_; have HB := n1_; clear n0_ n1_; clear hg hw hp_))
                          go_roundg k1
                          case measure => have := HK1.out; omega
                          case rel => exact ⟨(y305), (wrap64 (x4_1 - 1)), (by first | rfl | (simp; done) | (simp [*]; done)), H', ⟨by have := HK1.out; omega⟩, ⟨by (with_reducible repeat (first | apply Kd.R_alloc | apply Kd.R_drewN | apply Kd.R_drew)); exact HO_3.out⟩, ⟨by repeat (first | (with_reducible first | exact HB.out | apply below_alloc | apply pw_below_drewN | apply below_drew1) | exact HB.out)⟩⟩
                        · rw [if_neg c14] at H
                          have c14b0 : (((rd_T23 x3_1 (ji11)).f1) == (wrap64 (((rd_T47 l0 (ji8)).f0) + 1))) = false := beq_eq_false_iff_ne.mpr c14
                          have c14b1 : (((rd_T23 x3_1 (ji11)).f1) != (wrap64 (((rd_T47 l0 (ji8)).f0) + 1))) = true := bne_iff_ne.mpr c14
                          by_cases c19 : x3_1.length < 8796093022208
                          · rw [if_pos c19] at H
                            have LMc19 := Aside0.mk c19
                            clear c19
                            obtain ⟨y307, hy307⟩ : ∃ y_ : List (S23), y_ = (x3_1 ++ [(⟨wrap64 (((rd_T47 l0 (ji8)).f0) + 1), wrap64 (((rd_T47 l0 x4_1).f0) + 1)⟩ : S23)]) := ⟨_, rfl⟩
                            replace H : (spec_LiveSpans.l0 k1 l0 y307 (wrap64 (x4_1 - 1))) = some r := by first | (rw [hy307]; with_reducible exact H) | (have H2_ := (Option.bind_some _ _).symm.trans H; rw [hy307]; with_reducible exact H2_) | (have H2_ := (Option.bind_some _ _).symm.trans H; with_reducible exact H2_) | with_reducible exact H | (rw [hy307]; exact H) | exact H
                            have Ny307 := Aside0.mk hy307
                            clear hy307
                            have H' := Aside0.mk H
                            clear H
                            have p299 : 0 ≤ (x4_1 : Int) := of_decide_eq_true (by first | (with_reducible assumption) | assumption)
                            have q299 : x4_1 < (l0.length : Int) := of_decide_eq_true (by first | (with_reducible assumption) | assumption)
                            obtain ⟨ad299, e299, hx299_0, hx299_1⟩ := at_T47 HR0.out x4_1 p299 q299
                            cases e299
                            replace hx299_0 := (HB.out.cell (World.block_lt_of_cell? w _ hx299_0)).trans hx299_0
                            replace hx299_1 := (HB.out.cell (World.block_lt_of_cell? w _ hx299_1)).trans hx299_1
                            replace p299 := eq_true p299
                            replace q299 := eq_true q299
                            go_wp2_with (first | ((with_reducible refine gate_callee (f := 30) rfl ?_); refine goesL_ (some 20) rfl rfl Try.func30 (by kernel_rfl) rfl #[.slice (some ad299) l0.length c0, .int .i64 ((rd_T47 l0 x4_1).f0)] rfl (by (try simp only [List.map_toArray, List.map_cons, List.map_nil]); first | done | rfl | (simp only [List.length_drop, List.length_take]; rfl)) ?_; (with_reducible refine (spec_Live.calls k1 _ _ l0 ((rd_T47 l0 x4_1).f0) true _ ?side1 ?side2 A5.out).mono ?_); (case side1 => repeat (first | exact (Kd.C_below HR0.out HB.out) | (with_reducible refine Kd.C_alloc ?_ _) | (with_reducible refine Kd.C_drewN ?_ _) | (with_reducible refine Kd.C_drew ?_))); (case side2 => exact HC0.out); rintro e w' ⟨rfl, ⟨nd, rfl⟩⟩; refine ⟨_, rfl, ?_⟩; have p301 : 0 ≤ (x4_1 : Int) := of_decide_eq_true (by first | (with_reducible assumption) | assumption); have q301 : x4_1 < (l0.length : Int) := of_decide_eq_true (by first | (with_reducible assumption) | assumption); obtain ⟨ad301, e301, hx301_0, hx301_1⟩ := at_T47 HR0.out x4_1 p301 q301; obtain rfl : ad299 = ad301 := (by injection e301); replace hx301_0 := (HB.out.cell (World.block_lt_of_cell? w _ hx301_0)).trans hx301_0; replace hx301_1 := (HB.out.cell (World.block_lt_of_cell? w _ hx301_1)).trans hx301_1; replace p301 := eq_true p301; replace q301 := eq_true q301; have p302 : 0 ≤ ((ji8) : Int) := of_decide_eq_true (by first | (with_reducible assumption) | assumption); have q302 : (ji8) < (l0.length : Int) := of_decide_eq_true (by first | (with_reducible assumption) | assumption); obtain ⟨ad302, e302, hx302_0, hx302_1⟩ := at_T47 HR0.out (ji8) p302 q302; obtain rfl : ad299 = ad302 := (by injection e302); replace hx302_0 := (HB.out.cell (World.block_lt_of_cell? w _ hx302_0)).trans hx302_0; replace hx302_1 := (HB.out.cell (World.block_lt_of_cell? w _ hx302_1)).trans hx302_1; replace p302 := eq_true p302; replace q302 := eq_true q302; obtain ⟨Ao20, co20, eo20⟩ := Kd.R_slice HO_3.out; subst eo20; have p303 : 0 ≤ ((ji11) : Int) := of_decide_eq_true (by first | (with_reducible assumption) | assumption); have q303 : (ji11) < (x3_1.length : Int) := of_decide_eq_true (by first | (with_reducible assumption) | assumption); obtain ⟨ad303, e303, hx303_0, hx303_1⟩ := at_T23 (Kd.R_reads' HO_3.out).2.2 (ji11) p303 q303; cases e303; replace p303 := eq_true p303; replace q303 := eq_true q303; have p306 : 0 ≤ (x4_1 : Int) := of_decide_eq_true (by first | (with_reducible assumption) | assumption); have q306 : x4_1 < (l0.length : Int) := of_decide_eq_true (by first | (with_reducible assumption) | assumption); obtain ⟨ad306, e306, hx306_0, hx306_1⟩ := at_T47 HR0.out x4_1 p306 q306; obtain rfl : ad299 = ad306 := (by injection e306); replace hx306_0 := (HB.out.cell (World.block_lt_of_cell? w _ hx306_0)).trans hx306_0; replace hx306_1 := (HB.out.cell (World.block_lt_of_cell? w _ hx306_1)).trans hx306_1; replace p306 := eq_true p306; replace q306 := eq_true q306) | ((with_reducible refine gate_builtin (b := .append) (xs := #[.tmp 64, .tmp 73]) rfl ?_); at_builtin; refine Kd.R_append k23 (w0 := w) w.heap.size rfl (.tmp 64) (.tmp 73) 30 23 (.agg #[(.int .i64 0), (.int .i64 0)]) 16 rfl Try.underlying30 info23 rfl (by decide) (by omega) (.slice (some ad303) x3_1.length co20) x3_1 (⟨wrap64 (((rd_T47 l0 (ji8)).f0) + 1), wrap64 (((rd_T47 l0 x4_1).f0) + 1)⟩ : S23) [.int .i64 (wrap64 (((rd_T47 l0 (ji8)).f0) + 1)), .int .i64 (wrap64 (((rd_T47 l0 x4_1).f0) + 1))] (fun _ => True) (fun _ => False) rfl rfl ?aP (fun _ hk => hk.elim) ?aF ?aO ?aB ?aS ?aL ?_; (case aP => exact k23_mkM _ _ _ (⟨wrap64 (((rd_T47 l0 (ji8)).f0) + 1), wrap64 (((rd_T47 l0 x4_1).f0) + 1)⟩ : S23)); (case aB => exact (by repeat (first | (with_reducible first | exact HB.out | apply below_alloc | apply pw_below_drewN | apply below_drew1) | exact HB.out))); (case aF => exact (fun _ _ => trivial)); (case aO => exact (by (with_reducible repeat (first | apply Kd.R_alloc | apply Kd.R_drewN | apply Kd.R_drew)); exact HO_3.out)); (case aS => exact (below_size (by repeat (first | (with_reducible first | exact HB.out | apply below_alloc | apply pw_below_drewN | apply below_drew1) | exact HB.out)))); (case aL => have := LMc19.out; omega); intro v308 w21 ho hb hg hat; rw [← Ny307.out] at ho; have n0_ := Aside0.mk (hb); have n1_ := Aside0.mk (ho); clear HB; clear HO_3; have HB := n0_; have HO309 := n1_; clear n0_ n1_; clear ho hb hg hat))
                            go_roundg k1
                            case measure => have := HK1.out; omega
                            case rel => exact ⟨(y307), (wrap64 (x4_1 - 1)), (by first | rfl | (simp; done) | (simp [*]; done)), H', ⟨by have := HK1.out; omega⟩, ⟨by (with_reducible repeat (first | apply Kd.R_alloc | apply Kd.R_drewN | apply Kd.R_drew)); exact HO309.out⟩, ⟨by repeat (first | (with_reducible first | exact HB.out | apply below_alloc | apply pw_below_drewN | apply below_drew1) | exact HB.out)⟩⟩
                          · rw [if_neg c19] at H
                            exact absurd H (by simp)
                      · rw [if_neg c13] at H
                        exact absurd H (by simp)
                    · rw [if_neg c12] at H
                      exact absurd H (by simp)
                  · rw [if_neg c10] at H
                    have c10b0 : decide (0 < (x3_1.length : Int)) = false := decide_eq_false c10
                    have c10b1 : decide (0 < x3_1.length) = false := decide_eq_false (by omega)
                    clear c10
                    by_cases c22 : x3_1.length < 8796093022208
                    · rw [if_pos c22] at H
                      have LMc22 := Aside0.mk c22
                      clear c22
                      obtain ⟨y311, hy311⟩ : ∃ y_ : List (S23), y_ = (x3_1 ++ [(⟨wrap64 (((rd_T47 l0 (ji8)).f0) + 1), wrap64 (((rd_T47 l0 x4_1).f0) + 1)⟩ : S23)]) := ⟨_, rfl⟩
                      replace H : (spec_LiveSpans.l0 k1 l0 y311 (wrap64 (x4_1 - 1))) = some r := by first | (rw [hy311]; with_reducible exact H) | (have H2_ := (Option.bind_some _ _).symm.trans H; rw [hy311]; with_reducible exact H2_) | (have H2_ := (Option.bind_some _ _).symm.trans H; with_reducible exact H2_) | with_reducible exact H | (rw [hy311]; exact H) | exact H
                      have Ny311 := Aside0.mk hy311
                      clear hy311
                      have H' := Aside0.mk H
                      clear H
                      have p299 : 0 ≤ (x4_1 : Int) := of_decide_eq_true (by first | (with_reducible assumption) | assumption)
                      have q299 : x4_1 < (l0.length : Int) := of_decide_eq_true (by first | (with_reducible assumption) | assumption)
                      obtain ⟨ad299, e299, hx299_0, hx299_1⟩ := at_T47 HR0.out x4_1 p299 q299
                      cases e299
                      replace hx299_0 := (HB.out.cell (World.block_lt_of_cell? w _ hx299_0)).trans hx299_0
                      replace hx299_1 := (HB.out.cell (World.block_lt_of_cell? w _ hx299_1)).trans hx299_1
                      replace p299 := eq_true p299
                      replace q299 := eq_true q299
                      go_wp2_with (first | ((with_reducible refine gate_callee (f := 30) rfl ?_); refine goesL_ (some 20) rfl rfl Try.func30 (by kernel_rfl) rfl #[.slice (some ad299) l0.length c0, .int .i64 ((rd_T47 l0 x4_1).f0)] rfl (by (try simp only [List.map_toArray, List.map_cons, List.map_nil]); first | done | rfl | (simp only [List.length_drop, List.length_take]; rfl)) ?_; (with_reducible refine (spec_Live.calls k1 _ _ l0 ((rd_T47 l0 x4_1).f0) true _ ?side1 ?side2 A5.out).mono ?_); (case side1 => repeat (first | exact (Kd.C_below HR0.out HB.out) | (with_reducible refine Kd.C_alloc ?_ _) | (with_reducible refine Kd.C_drewN ?_ _) | (with_reducible refine Kd.C_drew ?_))); (case side2 => exact HC0.out); rintro e w' ⟨rfl, ⟨nd, rfl⟩⟩; refine ⟨_, rfl, ?_⟩; have p301 : 0 ≤ (x4_1 : Int) := of_decide_eq_true (by first | (with_reducible assumption) | assumption); have q301 : x4_1 < (l0.length : Int) := of_decide_eq_true (by first | (with_reducible assumption) | assumption); obtain ⟨ad301, e301, hx301_0, hx301_1⟩ := at_T47 HR0.out x4_1 p301 q301; obtain rfl : ad299 = ad301 := (by injection e301); replace hx301_0 := (HB.out.cell (World.block_lt_of_cell? w _ hx301_0)).trans hx301_0; replace hx301_1 := (HB.out.cell (World.block_lt_of_cell? w _ hx301_1)).trans hx301_1; replace p301 := eq_true p301; replace q301 := eq_true q301; have p302 : 0 ≤ ((ji8) : Int) := of_decide_eq_true (by first | (with_reducible assumption) | assumption); have q302 : (ji8) < (l0.length : Int) := of_decide_eq_true (by first | (with_reducible assumption) | assumption); obtain ⟨ad302, e302, hx302_0, hx302_1⟩ := at_T47 HR0.out (ji8) p302 q302; obtain rfl : ad299 = ad302 := (by injection e302); replace hx302_0 := (HB.out.cell (World.block_lt_of_cell? w _ hx302_0)).trans hx302_0; replace hx302_1 := (HB.out.cell (World.block_lt_of_cell? w _ hx302_1)).trans hx302_1; replace p302 := eq_true p302; replace q302 := eq_true q302; obtain ⟨Ao23, co23, eo23⟩ := Kd.R_slice HO_3.out; subst eo23; have p310 : 0 ≤ (x4_1 : Int) := of_decide_eq_true (by first | (with_reducible assumption) | assumption); have q310 : x4_1 < (l0.length : Int) := of_decide_eq_true (by first | (with_reducible assumption) | assumption); obtain ⟨ad310, e310, hx310_0, hx310_1⟩ := at_T47 HR0.out x4_1 p310 q310; obtain rfl : ad299 = ad310 := (by injection e310); replace hx310_0 := (HB.out.cell (World.block_lt_of_cell? w _ hx310_0)).trans hx310_0; replace hx310_1 := (HB.out.cell (World.block_lt_of_cell? w _ hx310_1)).trans hx310_1; replace p310 := eq_true p310; replace q310 := eq_true q310) | ((with_reducible refine gate_builtin (b := .append) (xs := #[.tmp 64, .tmp 73]) rfl ?_); at_builtin; refine Kd.R_append k23 (w0 := w) w.heap.size rfl (.tmp 64) (.tmp 73) 30 23 (.agg #[(.int .i64 0), (.int .i64 0)]) 16 rfl Try.underlying30 info23 rfl (by decide) (by omega) (.slice Ao23 x3_1.length co23) x3_1 (⟨wrap64 (((rd_T47 l0 (ji8)).f0) + 1), wrap64 (((rd_T47 l0 x4_1).f0) + 1)⟩ : S23) [.int .i64 (wrap64 (((rd_T47 l0 (ji8)).f0) + 1)), .int .i64 (wrap64 (((rd_T47 l0 x4_1).f0) + 1))] (fun _ => True) (fun _ => False) rfl rfl ?aP (fun _ hk => hk.elim) ?aF ?aO ?aB ?aS ?aL ?_; (case aP => exact k23_mkM _ _ _ (⟨wrap64 (((rd_T47 l0 (ji8)).f0) + 1), wrap64 (((rd_T47 l0 x4_1).f0) + 1)⟩ : S23)); (case aB => exact (by repeat (first | (with_reducible first | exact HB.out | apply below_alloc | apply pw_below_drewN | apply below_drew1) | exact HB.out))); (case aF => exact (fun _ _ => trivial)); (case aO => exact (by (with_reducible repeat (first | apply Kd.R_alloc | apply Kd.R_drewN | apply Kd.R_drew)); exact HO_3.out)); (case aS => exact (below_size (by repeat (first | (with_reducible first | exact HB.out | apply below_alloc | apply pw_below_drewN | apply below_drew1) | exact HB.out)))); (case aL => have := LMc22.out; omega); intro v312 w24 ho hb hg hat; rw [← Ny311.out] at ho; have n0_ := Aside0.mk (hb); have n1_ := Aside0.mk (ho); clear HB; clear HO_3; have HB := n0_; have HO313 := n1_; clear n0_ n1_; clear ho hb hg hat))
                      go_roundg k1
                      case measure => have := HK1.out; omega
                      case rel => exact ⟨(y311), (wrap64 (x4_1 - 1)), (by first | rfl | (simp; done) | (simp [*]; done)), H', ⟨by have := HK1.out; omega⟩, ⟨by (with_reducible repeat (first | apply Kd.R_alloc | apply Kd.R_drewN | apply Kd.R_drew)); exact HO313.out⟩, ⟨by repeat (first | (with_reducible first | exact HB.out | apply below_alloc | apply pw_below_drewN | apply below_drew1) | exact HB.out)⟩⟩
                    · rw [if_neg c22] at H
                      exact absurd H (by simp)
                · rw [if_neg c9] at H
                  exact absurd H (by simp)
              · rw [if_neg c7] at H
                have c7b0 : decide ((wrap64 (x4_1 + 1)) < (l0.length : Int)) = false := decide_eq_false c7
                clear c7
                by_cases c25 : (x3_1.length : Int) > 0
                · rw [if_pos c25] at H
                  have c25b0 : decide (0 < (x3_1.length : Int)) = true := decide_eq_true c25
                  have c25b1 : decide (0 < x3_1.length) = true := decide_eq_true (by omega)
                  clear c25
                  obtain ⟨ji26, hji26⟩ : ∃ j_ : Int, (wrap64 ((x3_1.length : Int) - 1)) = j_ := ⟨_, rfl⟩
                  replace H : (if 0 ≤ (ji26) then (if (ji26) < (x3_1.length : Int) then (if ((rd_T23 x3_1 (ji26)).f1) = ((rd_T47 l0 x4_1).f0) then (spec_LiveSpans.l0 k1 l0 (x3_1.set ((ji26) : Int).toNat (⟨(rd_T23 x3_1 (ji26)).f0, wrap64 (((rd_T47 l0 x4_1).f0) + 1)⟩ : S23)) (wrap64 (x4_1 - 1))) else (if x3_1.length < 8796093022208 then (spec_LiveSpans.l0 k1 l0 (x3_1 ++ [(⟨(rd_T47 l0 x4_1).f0, wrap64 (((rd_T47 l0 x4_1).f0) + 1)⟩ : S23)]) (wrap64 (x4_1 - 1))) else (none))) else (none)) else (none)) = some r := by first | (rw [hji26] at H; exact H) | (simp only [hji26] at H ⊢; exact H)
                  (try rw [hji26] at A5)
                  have hji26w : (IntKind.i64.wrap ((x3_1.length : Int) - 1)) = ji26 := (i64_w _).trans hji26
                  by_cases c27 : 0 ≤ (ji26)
                  · rw [if_pos c27] at H
                    have c27b0 : decide (0 ≤ (ji26)) = true := decide_eq_true c27
                    clear c27
                    by_cases c28 : (ji26) < (x3_1.length : Int)
                    · rw [if_pos c28] at H
                      have c28b0 : decide ((ji26) < (x3_1.length : Int)) = true := decide_eq_true c28
                      clear c28
                      by_cases c29 : ((rd_T23 x3_1 (ji26)).f1) = ((rd_T47 l0 x4_1).f0)
                      · rw [if_pos c29] at H
                        have c29b0 : (((rd_T23 x3_1 (ji26)).f1) == ((rd_T47 l0 x4_1).f0)) = true := beq_iff_eq.mpr c29
                        have c29b1 : (((rd_T23 x3_1 (ji26)).f1) != ((rd_T47 l0 x4_1).f0)) = false := bne_eq_false_iff_eq.mpr c29
                        clear c29
                        obtain ⟨y316, hy316⟩ : ∃ y_ : List (S23), y_ = (x3_1.set ((ji26) : Int).toNat (⟨(rd_T23 x3_1 (ji26)).f0, wrap64 (((rd_T47 l0 x4_1).f0) + 1)⟩ : S23)) := ⟨_, rfl⟩
                        replace H : (spec_LiveSpans.l0 k1 l0 y316 (wrap64 (x4_1 - 1))) = some r := by first | (rw [hy316]; with_reducible exact H) | (have H2_ := (Option.bind_some _ _).symm.trans H; rw [hy316]; with_reducible exact H2_) | (have H2_ := (Option.bind_some _ _).symm.trans H; with_reducible exact H2_) | with_reducible exact H | (rw [hy316]; exact H) | exact H
                        have Ny316 := Aside0.mk hy316
                        clear hy316
                        have H' := Aside0.mk H
                        clear H
                        have p299 : 0 ≤ (x4_1 : Int) := of_decide_eq_true (by first | (with_reducible assumption) | assumption)
                        have q299 : x4_1 < (l0.length : Int) := of_decide_eq_true (by first | (with_reducible assumption) | assumption)
                        obtain ⟨ad299, e299, hx299_0, hx299_1⟩ := at_T47 HR0.out x4_1 p299 q299
                        cases e299
                        replace hx299_0 := (HB.out.cell (World.block_lt_of_cell? w _ hx299_0)).trans hx299_0
                        replace hx299_1 := (HB.out.cell (World.block_lt_of_cell? w _ hx299_1)).trans hx299_1
                        replace p299 := eq_true p299
                        replace q299 := eq_true q299
                        go_wp2_with (first | ((with_reducible refine gate_callee (f := 30) rfl ?_); refine goesL_ (some 20) rfl rfl Try.func30 (by kernel_rfl) rfl #[.slice (some ad299) l0.length c0, .int .i64 ((rd_T47 l0 x4_1).f0)] rfl (by (try simp only [List.map_toArray, List.map_cons, List.map_nil]); first | done | rfl | (simp only [List.length_drop, List.length_take]; rfl)) ?_; (with_reducible refine (spec_Live.calls k1 _ _ l0 ((rd_T47 l0 x4_1).f0) true _ ?side1 ?side2 A5.out).mono ?_); (case side1 => repeat (first | exact (Kd.C_below HR0.out HB.out) | (with_reducible refine Kd.C_alloc ?_ _) | (with_reducible refine Kd.C_drewN ?_ _) | (with_reducible refine Kd.C_drew ?_))); (case side2 => exact HC0.out); rintro e w' ⟨rfl, ⟨nd, rfl⟩⟩; refine ⟨_, rfl, ?_⟩; (try (rw [drewN_self wr]; generalize hq_ : World.drewN wr _ = wr; have n0_ : Aside0 (Kd.R k23 23 wr w.heap.size (fun _ => True) u3 x3_1) := ⟨by rw [← hq_]; exact (by (with_reducible repeat (first | apply Kd.R_alloc | apply Kd.R_drewN | apply Kd.R_drew)); exact HO_3.out)⟩; have n1_ : Aside0 (Below w.heap.size w wr) := ⟨by rw [← hq_]; exact (by repeat (first | (with_reducible first | exact HB.out | apply below_alloc | apply pw_below_drewN | apply below_drew1) | exact HB.out))⟩; clear HO_3 HB hq_; have HO_3 := n0_; have HB := n1_; clear n0_ n1_)); have p301 : 0 ≤ (x4_1 : Int) := of_decide_eq_true (by first | (with_reducible assumption) | assumption); have q301 : x4_1 < (l0.length : Int) := of_decide_eq_true (by first | (with_reducible assumption) | assumption); obtain ⟨ad301, e301, hx301_0, hx301_1⟩ := at_T47 HR0.out x4_1 p301 q301; obtain rfl : ad299 = ad301 := (by injection e301); replace hx301_0 := (HB.out.cell (World.block_lt_of_cell? w _ hx301_0)).trans hx301_0; replace hx301_1 := (HB.out.cell (World.block_lt_of_cell? w _ hx301_1)).trans hx301_1; replace p301 := eq_true p301; replace q301 := eq_true q301; obtain ⟨Ao31, co31, eo31⟩ := Kd.R_slice HO_3.out; subst eo31; have p314 : 0 ≤ ((ji26) : Int) := of_decide_eq_true (by first | (with_reducible assumption) | assumption); have q314 : (ji26) < (x3_1.length : Int) := of_decide_eq_true (by first | (with_reducible assumption) | assumption); obtain ⟨ad314, e314, hx314_0, hx314_1⟩ := at_T23 (Kd.R_reads' HO_3.out).2.2 (ji26) p314 q314; cases e314; replace p314 := eq_true p314; replace q314 := eq_true q314; have p315 : 0 ≤ (x4_1 : Int) := of_decide_eq_true (by first | (with_reducible assumption) | assumption); have q315 : x4_1 < (l0.length : Int) := of_decide_eq_true (by first | (with_reducible assumption) | assumption); obtain ⟨ad315, e315, hx315_0, hx315_1⟩ := at_T47 HR0.out x4_1 p315 q315; obtain rfl : ad299 = ad315 := (by injection e315); replace hx315_0 := (HB.out.cell (World.block_lt_of_cell? w _ hx315_0)).trans hx315_0; replace hx315_1 := (HB.out.cell (World.block_lt_of_cell? w _ hx315_1)).trans hx315_1; replace p315 := eq_true p315; replace q315 := eq_true q315; have p30 : 0 ≤ ((ji26) : Int) := of_decide_eq_true (by first | (with_reducible assumption) | assumption); have q30 : ((ji26) : Int) < ((x3_1.length : Int) : Int) := of_decide_eq_true (by first | (with_reducible assumption) | assumption); obtain ⟨go30, co30, eo30, gb30, gl30, cl30, HG30⟩ := Kd.R_form HO_3.out (by omega); (first | cases eo30 | (injection eo30 with ea_ en_ ec_; (first | subst ea_ | (injection ea_ with ea_; subst ea_)); subst ec_; clear en_)); have GB30 := Aside0.mk gb30; have GG30 := Aside0.mk HG30; clear gb30 gl30 HG30; (first | simp only [add_plain] at hx314_0 | skip); (first | simp only [add_plain] at hx314_1 | skip); obtain ⟨ce30, hcl30, hM30, hcc30, hfr30⟩ := Kd.R_elem HO_3.out z23 ((ji26) : Int) p30 q30; obtain rfl := k23_openM hM30; have hx30_0 : wr.cell? ⟨go30, ((ji26) : Int).toNat * 2, none⟩ = some (.int .i64 ((rd_T23 x3_1 (ji26)).f0)) := hcc30 0 _ rfl; have hx30_1 : wr.cell? ⟨go30, ((ji26) : Int).toNat * 2 + 1, none⟩ = some (.int .i64 ((rd_T23 x3_1 (ji26)).f1)) := hcc30 1 _ rfl; have hf30_0 : wr.frozen? ⟨go30, ((ji26) : Int).toNat * 2, none⟩ = false := hfr30 0; have hf30_1 : wr.frozen? ⟨go30, ((ji26) : Int).toNat * 2 + 1, none⟩ = false := hfr30 1; clear hcl30 hcc30 hfr30 hM30; replace p30 := eq_true p30; replace q30 := eq_true q30; have HX32 := Aside0.mk (show Kd.R k23 23 wr w.heap.size (fun _ => True) (.slice (some ⟨go30, 0, none⟩) x3_1.length co31) x3_1 from (by (with_reducible repeat (first | apply Kd.R_alloc | apply Kd.R_drewN | apply Kd.R_drew)); exact HO_3.out)); obtain ⟨ce32, hcl32, hM32, hcc32, hfr32⟩ := Kd.R_elem HX32.out z23 ((ji26) : Int) (of_decide_eq_true (by first | (with_reducible assumption) | assumption)) (by have h_ : ((ji26) : Int) < ((x3_1.length : Int) : Int) := of_decide_eq_true (by first | (with_reducible assumption) | assumption); first | exact h_ | (have e_ := (Kd.R_reads' HO_3.out).1; omega) | simpa using h_); obtain rfl := k23_openM hM32; have HP32 := Kd.R_seg HX32.out ((ji26) : Int) (of_decide_eq_true (by first | (with_reducible assumption) | assumption)) (by have h_ : ((ji26) : Int) < ((x3_1.length : Int) : Int) := of_decide_eq_true (by first | (with_reducible assumption) | assumption); first | exact h_ | (have e_ := (Kd.R_reads' HO_3.out).1; omega) | simpa using h_) (seg := [.int .i64 (wrap64 (((rd_T47 l0 x4_1).f0) + 1))]) (j := 1) hcl32 hcc32 (show 2 ≤ 2 from by decide) (x' := (⟨(rd_T23 x3_1 (ji26)).f0, wrap64 (((rd_T47 l0 x4_1).f0) + 1)⟩ : S23)) (k23_mkM _ _ _ (⟨(rd_T23 x3_1 (ji26)).f0, wrap64 (((rd_T47 l0 x4_1).f0) + 1)⟩ : S23) ) (fun _ hk => hk); have hx32_1 := hcc32 1 _ rfl; (try simp only [show (k23).sz = 2 from rfl, Nat.mul_one, Nat.add_zero] at hx32_1); have hf32_1 := hfr32 1; (try simp only [show (k23).sz = 2 from rfl, Nat.mul_one, Nat.add_zero] at hf32_1); clear hcl32 hcc32 hfr32 hM32) | ((with_reducible refine gate_store (t := 3) (p := 63) rfl ?_); refine store_event (t := 3) (p := 63) (v := ?vo_w33) (w1 := (wr.setCell ⟨go30, ((ji26) : Int).toNat * 2 + 1, none⟩ (.int .i64 (wrap64 (((rd_T47 l0 x4_1).f0) + 1))))) ?hg ?ho ?hn ?hr ?_; (case ho => rfl); (case hg => rfl); (case hn => rfl); (case hr => first | (go_simp; done) | (go_simp; rfl)); intro w33 hw; have hg : wr.grownBy w33 (some go30) := (by rw [hw]; exact HP32.2); have hp_ : Kd.R k23 23 w33 w.heap.size (fun _ => True) (.slice (some ⟨go30, 0, none⟩) x3_1.length co31) y316 := (by rw [hw, Ny316.out]; exact HP32.1); clear HP32; have n0_ := Aside0.mk (hp_); have n1_ := Aside0.mk ((by rw [hw]; exact below_set (HB.out) GB30.out : Below w.heap.size w w33)); clear HO_3; clear HB; have HO_3 := n0_; have HB := n1_; clear n0_ n1_; clear hg hw hp_))
                        go_roundg k1
                        case measure => have := HK1.out; omega
                        case rel => exact ⟨(y316), (wrap64 (x4_1 - 1)), (by first | rfl | (simp; done) | (simp [*]; done)), H', ⟨by have := HK1.out; omega⟩, ⟨by (with_reducible repeat (first | apply Kd.R_alloc | apply Kd.R_drewN | apply Kd.R_drew)); exact HO_3.out⟩, ⟨by repeat (first | (with_reducible first | exact HB.out | apply below_alloc | apply pw_below_drewN | apply below_drew1) | exact HB.out)⟩⟩
                      · rw [if_neg c29] at H
                        have c29b0 : (((rd_T23 x3_1 (ji26)).f1) == ((rd_T47 l0 x4_1).f0)) = false := beq_eq_false_iff_ne.mpr c29
                        have c29b1 : (((rd_T23 x3_1 (ji26)).f1) != ((rd_T47 l0 x4_1).f0)) = true := bne_iff_ne.mpr c29
                        by_cases c34 : x3_1.length < 8796093022208
                        · rw [if_pos c34] at H
                          have LMc34 := Aside0.mk c34
                          clear c34
                          obtain ⟨y318, hy318⟩ : ∃ y_ : List (S23), y_ = (x3_1 ++ [(⟨(rd_T47 l0 x4_1).f0, wrap64 (((rd_T47 l0 x4_1).f0) + 1)⟩ : S23)]) := ⟨_, rfl⟩
                          replace H : (spec_LiveSpans.l0 k1 l0 y318 (wrap64 (x4_1 - 1))) = some r := by first | (rw [hy318]; with_reducible exact H) | (have H2_ := (Option.bind_some _ _).symm.trans H; rw [hy318]; with_reducible exact H2_) | (have H2_ := (Option.bind_some _ _).symm.trans H; with_reducible exact H2_) | with_reducible exact H | (rw [hy318]; exact H) | exact H
                          have Ny318 := Aside0.mk hy318
                          clear hy318
                          have H' := Aside0.mk H
                          clear H
                          have p299 : 0 ≤ (x4_1 : Int) := of_decide_eq_true (by first | (with_reducible assumption) | assumption)
                          have q299 : x4_1 < (l0.length : Int) := of_decide_eq_true (by first | (with_reducible assumption) | assumption)
                          obtain ⟨ad299, e299, hx299_0, hx299_1⟩ := at_T47 HR0.out x4_1 p299 q299
                          cases e299
                          replace hx299_0 := (HB.out.cell (World.block_lt_of_cell? w _ hx299_0)).trans hx299_0
                          replace hx299_1 := (HB.out.cell (World.block_lt_of_cell? w _ hx299_1)).trans hx299_1
                          replace p299 := eq_true p299
                          replace q299 := eq_true q299
                          go_wp2_with (first | ((with_reducible refine gate_callee (f := 30) rfl ?_); refine goesL_ (some 20) rfl rfl Try.func30 (by kernel_rfl) rfl #[.slice (some ad299) l0.length c0, .int .i64 ((rd_T47 l0 x4_1).f0)] rfl (by (try simp only [List.map_toArray, List.map_cons, List.map_nil]); first | done | rfl | (simp only [List.length_drop, List.length_take]; rfl)) ?_; (with_reducible refine (spec_Live.calls k1 _ _ l0 ((rd_T47 l0 x4_1).f0) true _ ?side1 ?side2 A5.out).mono ?_); (case side1 => repeat (first | exact (Kd.C_below HR0.out HB.out) | (with_reducible refine Kd.C_alloc ?_ _) | (with_reducible refine Kd.C_drewN ?_ _) | (with_reducible refine Kd.C_drew ?_))); (case side2 => exact HC0.out); rintro e w' ⟨rfl, ⟨nd, rfl⟩⟩; refine ⟨_, rfl, ?_⟩; have p301 : 0 ≤ (x4_1 : Int) := of_decide_eq_true (by first | (with_reducible assumption) | assumption); have q301 : x4_1 < (l0.length : Int) := of_decide_eq_true (by first | (with_reducible assumption) | assumption); obtain ⟨ad301, e301, hx301_0, hx301_1⟩ := at_T47 HR0.out x4_1 p301 q301; obtain rfl : ad299 = ad301 := (by injection e301); replace hx301_0 := (HB.out.cell (World.block_lt_of_cell? w _ hx301_0)).trans hx301_0; replace hx301_1 := (HB.out.cell (World.block_lt_of_cell? w _ hx301_1)).trans hx301_1; replace p301 := eq_true p301; replace q301 := eq_true q301; obtain ⟨Ao35, co35, eo35⟩ := Kd.R_slice HO_3.out; subst eo35; have p314 : 0 ≤ ((ji26) : Int) := of_decide_eq_true (by first | (with_reducible assumption) | assumption); have q314 : (ji26) < (x3_1.length : Int) := of_decide_eq_true (by first | (with_reducible assumption) | assumption); obtain ⟨ad314, e314, hx314_0, hx314_1⟩ := at_T23 (Kd.R_reads' HO_3.out).2.2 (ji26) p314 q314; cases e314; replace p314 := eq_true p314; replace q314 := eq_true q314; have p317 : 0 ≤ (x4_1 : Int) := of_decide_eq_true (by first | (with_reducible assumption) | assumption); have q317 : x4_1 < (l0.length : Int) := of_decide_eq_true (by first | (with_reducible assumption) | assumption); obtain ⟨ad317, e317, hx317_0, hx317_1⟩ := at_T47 HR0.out x4_1 p317 q317; obtain rfl : ad299 = ad317 := (by injection e317); replace hx317_0 := (HB.out.cell (World.block_lt_of_cell? w _ hx317_0)).trans hx317_0; replace hx317_1 := (HB.out.cell (World.block_lt_of_cell? w _ hx317_1)).trans hx317_1; replace p317 := eq_true p317; replace q317 := eq_true q317) | ((with_reducible refine gate_builtin (b := .append) (xs := #[.tmp 64, .tmp 73]) rfl ?_); at_builtin; refine Kd.R_append k23 (w0 := w) w.heap.size rfl (.tmp 64) (.tmp 73) 30 23 (.agg #[(.int .i64 0), (.int .i64 0)]) 16 rfl Try.underlying30 info23 rfl (by decide) (by omega) (.slice (some ad314) x3_1.length co35) x3_1 (⟨(rd_T47 l0 x4_1).f0, wrap64 (((rd_T47 l0 x4_1).f0) + 1)⟩ : S23) [.int .i64 ((rd_T47 l0 x4_1).f0), .int .i64 (wrap64 (((rd_T47 l0 x4_1).f0) + 1))] (fun _ => True) (fun _ => False) rfl rfl ?aP (fun _ hk => hk.elim) ?aF ?aO ?aB ?aS ?aL ?_; (case aP => exact k23_mkM _ _ _ (⟨(rd_T47 l0 x4_1).f0, wrap64 (((rd_T47 l0 x4_1).f0) + 1)⟩ : S23)); (case aB => exact (by repeat (first | (with_reducible first | exact HB.out | apply below_alloc | apply pw_below_drewN | apply below_drew1) | exact HB.out))); (case aF => exact (fun _ _ => trivial)); (case aO => exact (by (with_reducible repeat (first | apply Kd.R_alloc | apply Kd.R_drewN | apply Kd.R_drew)); exact HO_3.out)); (case aS => exact (below_size (by repeat (first | (with_reducible first | exact HB.out | apply below_alloc | apply pw_below_drewN | apply below_drew1) | exact HB.out)))); (case aL => have := LMc34.out; omega); intro v319 w36 ho hb hg hat; rw [← Ny318.out] at ho; have n0_ := Aside0.mk (hb); have n1_ := Aside0.mk (ho); clear HB; clear HO_3; have HB := n0_; have HO320 := n1_; clear n0_ n1_; clear ho hb hg hat))
                          go_roundg k1
                          case measure => have := HK1.out; omega
                          case rel => exact ⟨(y318), (wrap64 (x4_1 - 1)), (by first | rfl | (simp; done) | (simp [*]; done)), H', ⟨by have := HK1.out; omega⟩, ⟨by (with_reducible repeat (first | apply Kd.R_alloc | apply Kd.R_drewN | apply Kd.R_drew)); exact HO320.out⟩, ⟨by repeat (first | (with_reducible first | exact HB.out | apply below_alloc | apply pw_below_drewN | apply below_drew1) | exact HB.out)⟩⟩
                        · rw [if_neg c34] at H
                          exact absurd H (by simp)
                    · rw [if_neg c28] at H
                      exact absurd H (by simp)
                  · rw [if_neg c27] at H
                    exact absurd H (by simp)
                · rw [if_neg c25] at H
                  have c25b0 : decide (0 < (x3_1.length : Int)) = false := decide_eq_false c25
                  have c25b1 : decide (0 < x3_1.length) = false := decide_eq_false (by omega)
                  clear c25
                  by_cases c37 : x3_1.length < 8796093022208
                  · rw [if_pos c37] at H
                    have LMc37 := Aside0.mk c37
                    clear c37
                    obtain ⟨y322, hy322⟩ : ∃ y_ : List (S23), y_ = (x3_1 ++ [(⟨(rd_T47 l0 x4_1).f0, wrap64 (((rd_T47 l0 x4_1).f0) + 1)⟩ : S23)]) := ⟨_, rfl⟩
                    replace H : (spec_LiveSpans.l0 k1 l0 y322 (wrap64 (x4_1 - 1))) = some r := by first | (rw [hy322]; with_reducible exact H) | (have H2_ := (Option.bind_some _ _).symm.trans H; rw [hy322]; with_reducible exact H2_) | (have H2_ := (Option.bind_some _ _).symm.trans H; with_reducible exact H2_) | with_reducible exact H | (rw [hy322]; exact H) | exact H
                    have Ny322 := Aside0.mk hy322
                    clear hy322
                    have H' := Aside0.mk H
                    clear H
                    have p299 : 0 ≤ (x4_1 : Int) := of_decide_eq_true (by first | (with_reducible assumption) | assumption)
                    have q299 : x4_1 < (l0.length : Int) := of_decide_eq_true (by first | (with_reducible assumption) | assumption)
                    obtain ⟨ad299, e299, hx299_0, hx299_1⟩ := at_T47 HR0.out x4_1 p299 q299
                    cases e299
                    replace hx299_0 := (HB.out.cell (World.block_lt_of_cell? w _ hx299_0)).trans hx299_0
                    replace hx299_1 := (HB.out.cell (World.block_lt_of_cell? w _ hx299_1)).trans hx299_1
                    replace p299 := eq_true p299
                    replace q299 := eq_true q299
                    go_wp2_with (first | ((with_reducible refine gate_callee (f := 30) rfl ?_); refine goesL_ (some 20) rfl rfl Try.func30 (by kernel_rfl) rfl #[.slice (some ad299) l0.length c0, .int .i64 ((rd_T47 l0 x4_1).f0)] rfl (by (try simp only [List.map_toArray, List.map_cons, List.map_nil]); first | done | rfl | (simp only [List.length_drop, List.length_take]; rfl)) ?_; (with_reducible refine (spec_Live.calls k1 _ _ l0 ((rd_T47 l0 x4_1).f0) true _ ?side1 ?side2 A5.out).mono ?_); (case side1 => repeat (first | exact (Kd.C_below HR0.out HB.out) | (with_reducible refine Kd.C_alloc ?_ _) | (with_reducible refine Kd.C_drewN ?_ _) | (with_reducible refine Kd.C_drew ?_))); (case side2 => exact HC0.out); rintro e w' ⟨rfl, ⟨nd, rfl⟩⟩; refine ⟨_, rfl, ?_⟩; have p301 : 0 ≤ (x4_1 : Int) := of_decide_eq_true (by first | (with_reducible assumption) | assumption); have q301 : x4_1 < (l0.length : Int) := of_decide_eq_true (by first | (with_reducible assumption) | assumption); obtain ⟨ad301, e301, hx301_0, hx301_1⟩ := at_T47 HR0.out x4_1 p301 q301; obtain rfl : ad299 = ad301 := (by injection e301); replace hx301_0 := (HB.out.cell (World.block_lt_of_cell? w _ hx301_0)).trans hx301_0; replace hx301_1 := (HB.out.cell (World.block_lt_of_cell? w _ hx301_1)).trans hx301_1; replace p301 := eq_true p301; replace q301 := eq_true q301; obtain ⟨Ao38, co38, eo38⟩ := Kd.R_slice HO_3.out; subst eo38; have p321 : 0 ≤ (x4_1 : Int) := of_decide_eq_true (by first | (with_reducible assumption) | assumption); have q321 : x4_1 < (l0.length : Int) := of_decide_eq_true (by first | (with_reducible assumption) | assumption); obtain ⟨ad321, e321, hx321_0, hx321_1⟩ := at_T47 HR0.out x4_1 p321 q321; obtain rfl : ad299 = ad321 := (by injection e321); replace hx321_0 := (HB.out.cell (World.block_lt_of_cell? w _ hx321_0)).trans hx321_0; replace hx321_1 := (HB.out.cell (World.block_lt_of_cell? w _ hx321_1)).trans hx321_1; replace p321 := eq_true p321; replace q321 := eq_true q321) | ((with_reducible refine gate_builtin (b := .append) (xs := #[.tmp 64, .tmp 73]) rfl ?_); at_builtin; refine Kd.R_append k23 (w0 := w) w.heap.size rfl (.tmp 64) (.tmp 73) 30 23 (.agg #[(.int .i64 0), (.int .i64 0)]) 16 rfl Try.underlying30 info23 rfl (by decide) (by omega) (.slice Ao38 x3_1.length co38) x3_1 (⟨(rd_T47 l0 x4_1).f0, wrap64 (((rd_T47 l0 x4_1).f0) + 1)⟩ : S23) [.int .i64 ((rd_T47 l0 x4_1).f0), .int .i64 (wrap64 (((rd_T47 l0 x4_1).f0) + 1))] (fun _ => True) (fun _ => False) rfl rfl ?aP (fun _ hk => hk.elim) ?aF ?aO ?aB ?aS ?aL ?_; (case aP => exact k23_mkM _ _ _ (⟨(rd_T47 l0 x4_1).f0, wrap64 (((rd_T47 l0 x4_1).f0) + 1)⟩ : S23)); (case aB => exact (by repeat (first | (with_reducible first | exact HB.out | apply below_alloc | apply pw_below_drewN | apply below_drew1) | exact HB.out))); (case aF => exact (fun _ _ => trivial)); (case aO => exact (by (with_reducible repeat (first | apply Kd.R_alloc | apply Kd.R_drewN | apply Kd.R_drew)); exact HO_3.out)); (case aS => exact (below_size (by repeat (first | (with_reducible first | exact HB.out | apply below_alloc | apply pw_below_drewN | apply below_drew1) | exact HB.out)))); (case aL => have := LMc37.out; omega); intro v323 w39 ho hb hg hat; rw [← Ny322.out] at ho; have n0_ := Aside0.mk (hb); have n1_ := Aside0.mk (ho); clear HB; clear HO_3; have HB := n0_; have HO324 := n1_; clear n0_ n1_; clear ho hb hg hat))
                    go_roundg k1
                    case measure => have := HK1.out; omega
                    case rel => exact ⟨(y322), (wrap64 (x4_1 - 1)), (by first | rfl | (simp; done) | (simp [*]; done)), H', ⟨by have := HK1.out; omega⟩, ⟨by (with_reducible repeat (first | apply Kd.R_alloc | apply Kd.R_drewN | apply Kd.R_drew)); exact HO324.out⟩, ⟨by repeat (first | (with_reducible first | exact HB.out | apply below_alloc | apply pw_below_drewN | apply below_drew1) | exact HB.out)⟩⟩
                  · rw [if_neg c37] at H
                    exact absurd H (by simp)
            · replace c6 := Bool.eq_false_iff.mpr c6
              subst c6
              have H1 : (spec_LiveSpans.l0 k1 l0 x3_1 (wrap64 (x4_1 - 1))) = some r := by rw [if_neg (show ¬ (false = true) by decide)] at H; exact H
              clear H
              have H := H1
              clear H1
              have H' := Aside0.mk H
              clear H
              have p299 : 0 ≤ (x4_1 : Int) := of_decide_eq_true (by first | (with_reducible assumption) | assumption)
              have q299 : x4_1 < (l0.length : Int) := of_decide_eq_true (by first | (with_reducible assumption) | assumption)
              obtain ⟨ad299, e299, hx299_0, hx299_1⟩ := at_T47 HR0.out x4_1 p299 q299
              cases e299
              replace hx299_0 := (HB.out.cell (World.block_lt_of_cell? w _ hx299_0)).trans hx299_0
              replace hx299_1 := (HB.out.cell (World.block_lt_of_cell? w _ hx299_1)).trans hx299_1
              replace p299 := eq_true p299
              replace q299 := eq_true q299
              go_wp2_with (first | ((with_reducible refine gate_callee (f := 30) rfl ?_); refine goesL_ (some 20) rfl rfl Try.func30 (by kernel_rfl) rfl #[.slice (some ad299) l0.length c0, .int .i64 ((rd_T47 l0 x4_1).f0)] rfl (by (try simp only [List.map_toArray, List.map_cons, List.map_nil]); first | done | rfl | (simp only [List.length_drop, List.length_take]; rfl)) ?_; (with_reducible refine (spec_Live.calls k1 _ _ l0 ((rd_T47 l0 x4_1).f0) false _ ?side1 ?side2 A5.out).mono ?_); (case side1 => repeat (first | exact (Kd.C_below HR0.out HB.out) | (with_reducible refine Kd.C_alloc ?_ _) | (with_reducible refine Kd.C_drewN ?_ _) | (with_reducible refine Kd.C_drew ?_))); (case side2 => exact HC0.out); rintro e w' ⟨rfl, ⟨nd, rfl⟩⟩; refine ⟨_, rfl, ?_⟩))
              go_roundg k1
              case measure => have := HK1.out; omega
              case rel => exact ⟨(x3_1), (wrap64 (x4_1 - 1)), (by first | rfl | (simp; done) | (simp [*]; done)), H', ⟨by have := HK1.out; omega⟩, ⟨by (with_reducible repeat (first | apply Kd.R_alloc | apply Kd.R_drewN | apply Kd.R_drew)); exact HO_3.out⟩, ⟨by repeat (first | (with_reducible first | exact HB.out | apply below_alloc | apply pw_below_drewN | apply below_drew1) | exact HB.out)⟩⟩
          · rw [if_neg c4] at H
            exact absurd H (by simp)
        · rw [if_neg c3] at H
          exact absurd H (by simp)
      · rw [if_neg c2] at H
        have c2b0 : decide (0 ≤ x4_1) = false := decide_eq_false c2
        clear c2
        obtain rfl := Option.some.inj H
        go_wp2
        go_ret
        exact ⟨_, by first | rfl | (simp [errW_none, errW_some] <;> rfl) | (simp [*, errW_none, errW_some] <;> rfl), by (with_reducible repeat (first | apply Kd.R_alloc | apply Kd.R_drewN | apply Kd.R_drew)); exact HO_3.out, by repeat (first | (with_reducible first | exact HB.out | apply below_alloc | apply pw_below_drewN | apply below_drew1) | exact HB.out)⟩

end Go.Proofs.Ytlgdibeklelfgaa.PAll
