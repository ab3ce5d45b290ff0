-- Written by a program of this session out of the translation (wip/pp.py): Lean checks it.
import Derived.Test.YtdlhgddagnikdaaPFlx0
namespace Go.Proofs.Ytdlhgddagnikdaa.PFl
open Go.RowKit Go.Proofs.YtdlhgddagnikdaaW.PrintWords Go.Proofs.YtdlhgddagnikdaaW.PrintLast Go.Proofs.YtdlhgddagnikdaaW.PrintMore
attribute [local go_sem] max2_int min2_int max_two min_two max_three min_three max_four min_four   -- for this text's walks alone
set_option linter.unusedVariables false
set_option linter.unusedSimpArgs false

attribute [local go_sem] signed_i64 signed_i32 signed_u32 max_u32 signed_u64 max_u64
/-! ### spec_Fits: function 14 -/
def spec_Fits.f (a0 : Int) (a1 : Int) : Option (Bool) := if 0 ≤ (IntKind.u64.wrap (a1 - 1)) then (if (shl .i64 (-1) (IntKind.u64.wrap (a1 - 1))) ≤ a0 then (some (decide (a0 < (shl .i64 1 (IntKind.u64.wrap (a1 - 1)))))) else (some false)) else (none)
set_option maxHeartbeats 8000000 in
set_option maxRecDepth 100000 in
theorem spec_Fits.calls (a0 : Int) (a1 : Int) (r : Bool) (w : World) (h : spec_Fits.f a0 a1 = some r) :
    Calls Try.prog 14 #[.int .i64 a0, .int .u64 a1] w fun e w' => e = .returned (.bool r) ∧ Drawn0 w w' := by
  have H : (if 0 ≤ (IntKind.u64.wrap (a1 - 1)) then (if (shl .i64 (-1) (IntKind.u64.wrap (a1 - 1))) ≤ a0 then (some (decide (a0 < (shl .i64 1 (IntKind.u64.wrap (a1 - 1)))))) else (some false)) else (none)) = some r := h
  clear h
  obtain ⟨ji3, hji3⟩ : ∃ j_ : Int, (IntKind.u64.wrap (a1 - 1)) = j_ := ⟨_, rfl⟩
  replace H : (if 0 ≤ (ji3) then (if (shl .i64 (-1) (ji3)) ≤ a0 then (some (decide (a0 < (shl .i64 1 (ji3))))) else (some false)) else (none)) = some r := by first | (rw [hji3] at H; exact H) | (simp only [hji3] at H ⊢; exact H)
  by_cases c4 : 0 ≤ (ji3)
  · rw [if_pos c4] at H
    have c4b0 := eq_true c4
    have c4b1 : decide (0 ≤ (ji3)) = true := decide_eq_true c4
    clear c4
    obtain ⟨ji5, hji5⟩ : ∃ j_ : Int, (shl .i64 (-1) (ji3)) = j_ := ⟨_, rfl⟩
    replace H : (if (ji5) ≤ a0 then (some (decide (a0 < (shl .i64 1 (ji3))))) else (some false)) = some r := by first | (rw [hji5] at H; exact H) | (simp only [hji5] at H ⊢; exact H)
    have hji5_ : (IntKind.i64.wrap ((-1) * 2 ^ min (ji3).toNat 64)) = ji5 := hji5
    have hji5z : (ji3) ≤ 64 → (IntKind.i64.wrap ((-1) * 2 ^ (ji3).toNat)) = ji5 := shl_small hji5
    have hji5y : (wrap64 ((-1) * 2 ^ min (ji3).toNat 64)) = ji5 := (i64_w _).symm.trans hji5_
    have hji5w : (wrap64 (-2 ^ min (ji3).toNat 64)) = ji5 := by simpa using hji5y
    have hji5x : (ji3) ≤ 64 → (wrap64 ((-1) * 2 ^ (ji3).toNat)) = ji5 := fun h_ => (i64_w _).symm.trans (hji5z h_)
    by_cases c6 : (ji5) ≤ a0
    · rw [if_pos c6] at H
      have c6b0 : decide ((ji5) ≤ a0) = true := decide_eq_true c6
      clear c6
      have c7b0 := eq_true (of_decide_eq_true (by first | (with_reducible assumption) | assumption) : 0 ≤ (ji3))
      obtain ⟨ji8, hji8⟩ : ∃ j_ : Int, (shl .i64 1 (ji3)) = j_ := ⟨_, rfl⟩
      replace H : (some (decide (a0 < (ji8)))) = some r := by first | (rw [hji8] at H; exact H) | (simp only [hji8] at H ⊢; exact H)
      have hji8_ : (IntKind.i64.wrap (1 * 2 ^ min (ji3).toNat 64)) = ji8 := hji8
      have hji8z : (ji3) ≤ 64 → (IntKind.i64.wrap (1 * 2 ^ (ji3).toNat)) = ji8 := shl_small hji8
      have hji8u : (IntKind.i64.wrap (2 ^ min (ji3).toNat 64)) = ji8 := by have h_ := hji8_; rw [Int.one_mul] at h_; exact h_
      have hji8v : (ji3) ≤ 64 → (IntKind.i64.wrap (2 ^ (ji3).toNat)) = ji8 := fun hle_ => by have h_ := hji8z hle_; rw [Int.one_mul] at h_; exact h_
      have hji8y : (wrap64 (1 * 2 ^ min (ji3).toNat 64)) = ji8 := (i64_w _).symm.trans hji8_
      have hji8x : (ji3) ≤ 64 → (wrap64 (1 * 2 ^ (ji3).toNat)) = ji8 := fun h_ => (i64_w _).symm.trans (hji8z h_)
      obtain rfl := Option.some.inj H
      go_enter Try.func14, Try.ntmps14
      go_wp2
      go_ret
      exact ⟨by first | rfl | (simp; done) | (simp only [← hji3, ← hji5, ← hji8] <;> (first | rfl | simp)) | (simp [*]; done), by repeat (first | exact Drawn0.refl _ | apply Drawn0.step)⟩
    · rw [if_neg c6] at H
      have c6b0 : decide ((ji5) ≤ a0) = false := decide_eq_false c6
      clear c6
      obtain rfl := Option.some.inj H
      go_enter Try.func14, Try.ntmps14
      go_wp2
      go_ret
      exact ⟨by first | rfl | (simp; done) | (simp only [← hji3, ← hji5] <;> (first | rfl | simp)) | (simp [*]; done), by repeat (first | exact Drawn0.refl _ | apply Drawn0.step)⟩
  · rw [if_neg c4] at H
    exact absurd H (by simp)

end Go.Proofs.Ytdlhgddagnikdaa.PFl
