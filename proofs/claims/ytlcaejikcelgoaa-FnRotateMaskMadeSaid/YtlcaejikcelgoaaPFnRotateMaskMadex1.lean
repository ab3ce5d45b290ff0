-- Written by a program of this session out of the translation (wip/pp.py): Lean checks it.
import Derived.Test.YtlcaejikcelgoaaPFnRotateMaskMadex0
namespace Go.Proofs.Ytlcaejikcelgoaa.PFnRotateMaskMade
open Go.RowKit Go.Proofs.YtlcaejikcelgoaaW.PrintWords Go.Proofs.YtlcaejikcelgoaaW.PrintLast Go.Proofs.YtlcaejikcelgoaaW.PrintMore
attribute [local go_sem] max2_int min2_int max_two min_two max_three min_three max_four min_four   -- for this text's walks alone
set_option linter.unusedVariables false
set_option linter.unusedSimpArgs false

attribute [local go_sem] signed_u32 max_u32 signed_u64 max_u64
/-! ### spec_Low: function 13 -/
def spec_Low.f (a0 : Int) (a1 : Int) : Option (Int) := if a1 ≥ 64 then (some a0) else (if 0 ≤ a1 then (if (shl .u64 1 a1) = 0 then (none) else (some (Int.tmod a0 (shl .u64 1 a1)))) else (none))
set_option maxHeartbeats 8000000 in
set_option maxRecDepth 100000 in
theorem spec_Low.calls (a0 : Int) (a1 : Int) (r : Int) (w : World) (h : spec_Low.f a0 a1 = some r) :
    Calls Try.prog 13 #[.int .u64 a0, .int .u64 a1] w fun e w' => e = .returned (.int .u64 r) ∧ Drawn0 w w' := by
  have H : (if a1 ≥ 64 then (some a0) else (if 0 ≤ a1 then (if (shl .u64 1 a1) = 0 then (none) else (some (Int.tmod a0 (shl .u64 1 a1)))) else (none))) = some r := h
  clear h
  by_cases c3 : a1 ≥ 64
  · rw [if_pos c3] at H
    have c3b0 : decide (64 ≤ a1) = true := decide_eq_true c3
    clear c3
    obtain rfl := Option.some.inj H
    go_enter Try.func13, Try.ntmps13
    go_wp2
    go_ret
    exact ⟨by first | rfl | (simp; done) | (simp [*]; done), by repeat (first | exact Drawn0.refl _ | apply Drawn0.step)⟩
  · rw [if_neg c3] at H
    have c3b0 : decide (64 ≤ a1) = false := decide_eq_false c3
    clear c3
    by_cases c4 : 0 ≤ a1
    · rw [if_pos c4] at H
      have c4b0 := eq_true c4
      have c4b1 : decide (0 ≤ a1) = true := decide_eq_true c4
      clear c4
      obtain ⟨ji5, hji5⟩ : ∃ j_ : Int, (shl .u64 1 a1) = j_ := ⟨_, rfl⟩
      replace H : (if (ji5) = 0 then (none) else (some (Int.tmod a0 (ji5)))) = some r := by first | (rw [hji5] at H; exact H) | (simp only [hji5] at H ⊢; exact H)
      have hji5_ : (IntKind.u64.wrap (1 * 2 ^ min a1.toNat 64)) = ji5 := hji5
      have hji5z : a1 ≤ 64 → (IntKind.u64.wrap (1 * 2 ^ a1.toNat)) = ji5 := shl_small hji5
      have hji5u : (IntKind.u64.wrap (2 ^ min a1.toNat 64)) = ji5 := by have h_ := hji5_; rw [Int.one_mul] at h_; exact h_
      have hji5v : a1 ≤ 64 → (IntKind.u64.wrap (2 ^ a1.toNat)) = ji5 := fun hle_ => by have h_ := hji5z hle_; rw [Int.one_mul] at h_; exact h_
      by_cases c6 : (ji5) = 0
      · rw [if_pos c6] at H
        exact absurd H (by simp)
      · rw [if_neg c6] at H
        have c6b0 : ((ji5) == 0) = false := beq_eq_false_iff_ne.mpr c6
        have c6b1 : ((ji5) != 0) = true := bne_iff_ne.mpr c6
        obtain rfl := Option.some.inj H
        go_enter Try.func13, Try.ntmps13
        go_wp2
        go_ret
        exact ⟨by first | rfl | (simp; done) | (simp only [← hji5] <;> (first | rfl | simp)) | (simp [*]; done), by repeat (first | exact Drawn0.refl _ | apply Drawn0.step)⟩
    · rw [if_neg c4] at H
      exact absurd H (by simp)

attribute [local go_sem] signed_u32 max_u32 signed_u64 max_u64
/-! ### spec_Turn: function 5 -/
def spec_Turn.f (a0 : Int) (a1 : Int) (a2 : Int) : Option (Int) := if a1 = 0 then (none) else ((spec_Low.f a0 a1).bind fun t101 => (if 0 ≤ (Int.tmod a2 a1) then (if 0 ≤ (IntKind.u64.wrap (a1 - (Int.tmod a2 a1))) then ((spec_Low.f (Go.bits .or .u64 (shl .u64 t101 (Int.tmod a2 a1)) (shr .u64 t101 (IntKind.u64.wrap (a1 - (Int.tmod a2 a1))))) a1).bind fun t102 => (some t102)) else (none)) else (none)))
set_option maxHeartbeats 8000000 in
set_option maxRecDepth 100000 in
theorem spec_Turn.calls (a0 : Int) (a1 : Int) (a2 : Int) (r : Int) (w : World) (h : spec_Turn.f a0 a1 a2 = some r) :
    Calls Try.prog 5 #[.int .u64 a0, .int .u64 a1, .int .u64 a2] w fun e w' => e = .returned (.int .u64 r) ∧ Drawn0 w w' := by
  have H : (if a1 = 0 then (none) else ((spec_Low.f a0 a1).bind fun t101 => (if 0 ≤ (Int.tmod a2 a1) then (if 0 ≤ (IntKind.u64.wrap (a1 - (Int.tmod a2 a1))) then ((spec_Low.f (Go.bits .or .u64 (shl .u64 t101 (Int.tmod a2 a1)) (shr .u64 t101 (IntKind.u64.wrap (a1 - (Int.tmod a2 a1))))) a1).bind fun t102 => (some t102)) else (none)) else (none)))) = some r := h
  clear h
  by_cases c4 : a1 = 0
  · rw [if_pos c4] at H
    exact absurd H (by simp)
  · rw [if_neg c4] at H
    have c4b0 : (a1 == 0) = false := beq_eq_false_iff_ne.mpr c4
    have c4b1 : (a1 != 0) = true := bne_iff_ne.mpr c4
    replace H := Option.bind_eq_some_iff.mp H
    obtain ⟨t101, A50, H⟩ := H
    replace H : (if 0 ≤ (Int.tmod a2 a1) then (if 0 ≤ (IntKind.u64.wrap (a1 - (Int.tmod a2 a1))) then ((spec_Low.f (Go.bits .or .u64 (shl .u64 t101 (Int.tmod a2 a1)) (shr .u64 t101 (IntKind.u64.wrap (a1 - (Int.tmod a2 a1))))) a1).bind fun t102 => (some t102)) else (none)) else (none)) = some r := H
    have A5 := Aside0.mk A50
    clear A50
    obtain ⟨ji6, hji6⟩ : ∃ j_ : Int, (Int.tmod a2 a1) = j_ := ⟨_, rfl⟩
    replace H : (if 0 ≤ (ji6) then (if 0 ≤ (IntKind.u64.wrap (a1 - (ji6))) then ((spec_Low.f (Go.bits .or .u64 (shl .u64 t101 (ji6)) (shr .u64 t101 (IntKind.u64.wrap (a1 - (ji6))))) a1).bind fun t102 => (some t102)) else (none)) else (none)) = some r := by first | (rw [hji6] at H; exact H) | (simp only [hji6] at H ⊢; exact H)
    (try rw [hji6] at A5)
    by_cases c7 : 0 ≤ (ji6)
    · rw [if_pos c7] at H
      have c7b0 := eq_true c7
      have c7b1 : decide (0 ≤ (ji6)) = true := decide_eq_true c7
      clear c7
      obtain ⟨ji8, hji8⟩ : ∃ j_ : Int, (shl .u64 t101 (ji6)) = j_ := ⟨_, rfl⟩
      replace H : (if 0 ≤ (IntKind.u64.wrap (a1 - (ji6))) then ((spec_Low.f (Go.bits .or .u64 (ji8) (shr .u64 t101 (IntKind.u64.wrap (a1 - (ji6))))) a1).bind fun t102 => (some t102)) else (none)) = some r := by first | (rw [hji8] at H; exact H) | (simp only [hji8] at H ⊢; exact H)
      (try rw [hji8] at A5)
      have hji8_ : (IntKind.u64.wrap (t101 * 2 ^ min (ji6).toNat 64)) = ji8 := hji8
      have hji8z : (ji6) ≤ 64 → (IntKind.u64.wrap (t101 * 2 ^ (ji6).toNat)) = ji8 := shl_small hji8
      obtain ⟨ji9, hji9⟩ : ∃ j_ : Int, (IntKind.u64.wrap (a1 - (ji6))) = j_ := ⟨_, rfl⟩
      replace H : (if 0 ≤ (ji9) then ((spec_Low.f (Go.bits .or .u64 (ji8) (shr .u64 t101 (ji9))) a1).bind fun t102 => (some t102)) else (none)) = some r := by first | (rw [hji9] at H; exact H) | (simp only [hji9] at H ⊢; exact H)
      (try rw [hji9] at A5)
      by_cases c10 : 0 ≤ (ji9)
      · rw [if_pos c10] at H
        have c10b0 := eq_true c10
        have c10b1 : decide (0 ≤ (ji9)) = true := decide_eq_true c10
        clear c10
        obtain ⟨ji11, hji11⟩ : ∃ j_ : Int, (shr .u64 t101 (ji9)) = j_ := ⟨_, rfl⟩
        replace H : ((spec_Low.f (Go.bits .or .u64 (ji8) (ji11)) a1).bind fun t102 => (some t102)) = some r := by first | (rw [hji11] at H; exact H) | (simp only [hji11] at H ⊢; exact H)
        (try rw [hji11] at A5)
        have hji11_ : (t101 / 2 ^ min (ji9).toNat 64) = ji11 := hji11
        have hji11z : (ji9) ≤ 64 → (t101 / 2 ^ (ji9).toNat) = ji11 := shr_small hji11
        replace H := Option.bind_eq_some_iff.mp H
        obtain ⟨t102, A120, H⟩ := H
        replace H : (some t102) = some r := H
        have A12 := Aside0.mk A120
        clear A120
        obtain rfl := Option.some.inj H
        go_enter Try.func5, Try.ntmps5
        go_wp2_with (first | ((with_reducible refine gate_callee (f := 13) rfl ?_); refine goesL_ (some 12) rfl rfl Try.func13 (by kernel_rfl) rfl #[.int .u64 a0, .int .u64 a1] rfl (by (try simp only [List.map_toArray, List.map_cons, List.map_nil]); first | done | rfl | (simp only [List.length_drop, List.length_take]; rfl)) ?_; (with_reducible refine (spec_Low.calls a0 a1 t101 _ A5.out).mono ?_); rintro e w' ⟨rfl, ⟨nd, rfl⟩⟩; refine ⟨_, rfl, ?_⟩) | ((with_reducible refine gate_callee (f := 13) rfl ?_); refine goesL_ (some 23) rfl rfl Try.func13 (by kernel_rfl) rfl #[.int .u64 (Go.bits .or .u64 (ji8) (ji11)), .int .u64 a1] rfl (by (try simp only [List.map_toArray, List.map_cons, List.map_nil]); first | done | (simp only [hji11, hji8]; rfl) | rfl | (simp only [List.length_drop, List.length_take]; rfl)) ?_; (with_reducible refine (spec_Low.calls (Go.bits .or .u64 (ji8) (ji11)) a1 t102 _ A12.out).mono ?_); rintro e w' ⟨rfl, ⟨nd, rfl⟩⟩; refine ⟨_, rfl, ?_⟩))
        go_ret
        exact ⟨by first | rfl | (simp; done) | (simp only [← hji6, ← hji8, ← hji9, ← hji11] <;> (first | rfl | simp)) | (simp [*]; done), by repeat (first | exact Drawn0.refl _ | apply Drawn0.step)⟩
      · rw [if_neg c10] at H
        exact absurd H (by simp)
    · rw [if_neg c7] at H
      exact absurd H (by simp)

attribute [local go_sem] signed_u32 max_u32 signed_u64 max_u64
/-! ### spec_Run: function 6 -/
def spec_Run.f (a0 : Int) (a1 : Int) : Option (Int) := if a1 ≥ 64 then (some 18446744073709551615) else (if 0 ≤ a1 then (if 0 ≤ a0 then (some (shl .u64 (IntKind.u64.wrap ((shl .u64 1 a1) - 1)) a0)) else (none)) else (none))
set_option maxHeartbeats 8000000 in
set_option maxRecDepth 100000 in
theorem spec_Run.calls (a0 : Int) (a1 : Int) (r : Int) (w : World) (h : spec_Run.f a0 a1 = some r) :
    Calls Try.prog 6 #[.int .u64 a0, .int .u64 a1] w fun e w' => e = .returned (.int .u64 r) ∧ Drawn0 w w' := by
  have H : (if a1 ≥ 64 then (some 18446744073709551615) else (if 0 ≤ a1 then (if 0 ≤ a0 then (some (shl .u64 (IntKind.u64.wrap ((shl .u64 1 a1) - 1)) a0)) else (none)) else (none))) = some r := h
  clear h
  by_cases c3 : a1 ≥ 64
  · rw [if_pos c3] at H
    have c3b0 : decide (64 ≤ a1) = true := decide_eq_true c3
    clear c3
    obtain rfl := Option.some.inj H
    go_enter Try.func6, Try.ntmps6
    go_wp2
    go_ret
    exact ⟨by first | rfl | (simp; done) | (simp [*]; done), by repeat (first | exact Drawn0.refl _ | apply Drawn0.step)⟩
  · rw [if_neg c3] at H
    have c3b0 : decide (64 ≤ a1) = false := decide_eq_false c3
    clear c3
    by_cases c4 : 0 ≤ a1
    · rw [if_pos c4] at H
      have c4b0 := eq_true c4
      have c4b1 : decide (0 ≤ a1) = true := decide_eq_true c4
      clear c4
      obtain ⟨ji5, hji5⟩ : ∃ j_ : Int, (shl .u64 1 a1) = j_ := ⟨_, rfl⟩
      replace H : (if 0 ≤ a0 then (some (shl .u64 (IntKind.u64.wrap ((ji5) - 1)) a0)) else (none)) = some r := by first | (rw [hji5] at H; exact H) | (simp only [hji5] at H ⊢; exact H)
      have hji5_ : (IntKind.u64.wrap (1 * 2 ^ min a1.toNat 64)) = ji5 := hji5
      have hji5z : a1 ≤ 64 → (IntKind.u64.wrap (1 * 2 ^ a1.toNat)) = ji5 := shl_small hji5
      have hji5u : (IntKind.u64.wrap (2 ^ min a1.toNat 64)) = ji5 := by have h_ := hji5_; rw [Int.one_mul] at h_; exact h_
      have hji5v : a1 ≤ 64 → (IntKind.u64.wrap (2 ^ a1.toNat)) = ji5 := fun hle_ => by have h_ := hji5z hle_; rw [Int.one_mul] at h_; exact h_
      by_cases c6 : 0 ≤ a0
      · rw [if_pos c6] at H
        have c6b0 := eq_true c6
        have c6b1 : decide (0 ≤ a0) = true := decide_eq_true c6
        clear c6
        obtain ⟨ji7, hji7⟩ : ∃ j_ : Int, (shl .u64 (IntKind.u64.wrap ((ji5) - 1)) a0) = j_ := ⟨_, rfl⟩
        replace H : (some ji7) = some r := by first | (rw [hji7] at H; exact H) | (simp only [hji7] at H ⊢; exact H)
        have hji7_ : (IntKind.u64.wrap ((IntKind.u64.wrap ((ji5) - 1)) * 2 ^ min a0.toNat 64)) = ji7 := hji7
        have hji7z : a0 ≤ 64 → (IntKind.u64.wrap ((IntKind.u64.wrap ((ji5) - 1)) * 2 ^ a0.toNat)) = ji7 := shl_small hji7
        obtain rfl := Option.some.inj H
        go_enter Try.func6, Try.ntmps6
        go_wp2
        go_ret
        exact ⟨by first | rfl | (simp; done) | (simp only [← hji5, ← hji7] <;> (first | rfl | simp)) | (simp [*]; done), by repeat (first | exact Drawn0.refl _ | apply Drawn0.step)⟩
      · rw [if_neg c6] at H
        exact absurd H (by simp)
    · rw [if_neg c4] at H
      exact absurd H (by simp)

attribute [local go_sem] signed_u32 max_u32 signed_u64 max_u64
/-! ### laws_rwAt: function 7 -/
def laws_rwAt.f (a0 : Int) (a1 : Int) : Option (Int) := if a1 = 0 then (none) else (some (Int.tmod (wrap64 ((Int.tmod a0 a1) + a1)) a1))
set_option maxHeartbeats 8000000 in
set_option maxRecDepth 100000 in
theorem laws_rwAt.calls (a0 : Int) (a1 : Int) (r : Int) (w : World) (h : laws_rwAt.f a0 a1 = some r) :
    Calls Try.prog 7 #[.int .i64 a0, .int .i64 a1] w fun e w' => e = .returned (.int .i64 r) ∧ Drawn0 w w' := by
  have H : (if a1 = 0 then (none) else (some (Int.tmod (wrap64 ((Int.tmod a0 a1) + a1)) a1))) = some r := h
  clear h
  by_cases c3 : a1 = 0
  · rw [if_pos c3] at H
    exact absurd H (by simp)
  · rw [if_neg c3] at H
    have c3b0 : (a1 == 0) = false := beq_eq_false_iff_ne.mpr c3
    have c3b1 : (a1 != 0) = true := bne_iff_ne.mpr c3
    obtain rfl := Option.some.inj H
    go_enter Try.func7, Try.ntmps7
    go_wp2
    go_ret
    exact ⟨by first | rfl | (simp; done) | (simp [*]; done), by repeat (first | exact Drawn0.refl _ | apply Drawn0.step)⟩

attribute [local go_sem] signed_u32 max_u32 signed_u64 max_u64
/-! ### ssarewrite_isPPC64WordRotateMask: function 18 -/
def ssarewrite_isPPC64WordRotateMask.f (a0 : Int) : Option (Bool) := if (Go.bits .and .u32 ((a0) % 4294967296) (((Go.bits .and .u32 ((a0) % 4294967296) ((-((a0) % 4294967296)) % 4294967296)) + (a0)) % 4294967296)) = 0 then (some (((a0) % 4294967296) != 0)) else (if (Go.bits .and .u32 (Go.bits .xor .u32 4294967295 ((a0) % 4294967296)) (((Go.bits .and .u32 (Go.bits .xor .u32 4294967295 ((a0) % 4294967296)) ((-(Go.bits .xor .u32 4294967295 ((a0) % 4294967296))) % 4294967296)) + (Go.bits .xor .u32 4294967295 ((a0) % 4294967296))) % 4294967296)) = 0 then (some (((a0) % 4294967296) != 0)) else (some false))
set_option maxHeartbeats 8000000 in
set_option maxRecDepth 100000 in
theorem ssarewrite_isPPC64WordRotateMask.calls (a0 : Int) (r : Bool) (w : World) (h : ssarewrite_isPPC64WordRotateMask.f a0 = some r) :
    Calls Try.prog 18 #[.int .i64 a0] w fun e w' => e = .returned (.bool r) ∧ Drawn0 w w' := by
  have H : (if (Go.bits .and .u32 ((a0) % 4294967296) (((Go.bits .and .u32 ((a0) % 4294967296) ((-((a0) % 4294967296)) % 4294967296)) + (a0)) % 4294967296)) = 0 then (some (((a0) % 4294967296) != 0)) else (if (Go.bits .and .u32 (Go.bits .xor .u32 4294967295 ((a0) % 4294967296)) (((Go.bits .and .u32 (Go.bits .xor .u32 4294967295 ((a0) % 4294967296)) ((-(Go.bits .xor .u32 4294967295 ((a0) % 4294967296))) % 4294967296)) + (Go.bits .xor .u32 4294967295 ((a0) % 4294967296))) % 4294967296)) = 0 then (some (((a0) % 4294967296) != 0)) else (some false))) = some r := h
  clear h
  by_cases c2 : (Go.bits .and .u32 ((a0) % 4294967296) (((Go.bits .and .u32 ((a0) % 4294967296) ((-((a0) % 4294967296)) % 4294967296)) + (a0)) % 4294967296)) = 0
  · rw [if_pos c2] at H
    have c2b0 : ((Go.bits .and .u32 ((a0) % 4294967296) (((Go.bits .and .u32 ((a0) % 4294967296) ((-((a0) % 4294967296)) % 4294967296)) + (a0)) % 4294967296)) == 0) = true := beq_iff_eq.mpr c2
    have c2b1 : ((Go.bits .and .u32 ((a0) % 4294967296) (((Go.bits .and .u32 ((a0) % 4294967296) ((-((a0) % 4294967296)) % 4294967296)) + (a0)) % 4294967296)) != 0) = false := bne_eq_false_iff_eq.mpr c2
    clear c2
    obtain rfl := Option.some.inj H
    go_enter Try.func18, Try.ntmps18
    go_wp2
    go_ret
    exact ⟨by first | rfl | (simp; done) | (simp [*]; done), by repeat (first | exact Drawn0.refl _ | apply Drawn0.step)⟩
  · rw [if_neg c2] at H
    have c2b0 : ((Go.bits .and .u32 ((a0) % 4294967296) (((Go.bits .and .u32 ((a0) % 4294967296) ((-((a0) % 4294967296)) % 4294967296)) + (a0)) % 4294967296)) == 0) = false := beq_eq_false_iff_ne.mpr c2
    have c2b1 : ((Go.bits .and .u32 ((a0) % 4294967296) (((Go.bits .and .u32 ((a0) % 4294967296) ((-((a0) % 4294967296)) % 4294967296)) + (a0)) % 4294967296)) != 0) = true := bne_iff_ne.mpr c2
    by_cases c3 : (Go.bits .and .u32 (Go.bits .xor .u32 4294967295 ((a0) % 4294967296)) (((Go.bits .and .u32 (Go.bits .xor .u32 4294967295 ((a0) % 4294967296)) ((-(Go.bits .xor .u32 4294967295 ((a0) % 4294967296))) % 4294967296)) + (Go.bits .xor .u32 4294967295 ((a0) % 4294967296))) % 4294967296)) = 0
    · rw [if_pos c3] at H
      have c3b0 : ((Go.bits .and .u32 (Go.bits .xor .u32 4294967295 ((a0) % 4294967296)) (((Go.bits .and .u32 (Go.bits .xor .u32 4294967295 ((a0) % 4294967296)) ((-(Go.bits .xor .u32 4294967295 ((a0) % 4294967296))) % 4294967296)) + (Go.bits .xor .u32 4294967295 ((a0) % 4294967296))) % 4294967296)) == 0) = true := beq_iff_eq.mpr c3
      have c3b1 : ((Go.bits .and .u32 (Go.bits .xor .u32 4294967295 ((a0) % 4294967296)) (((Go.bits .and .u32 (Go.bits .xor .u32 4294967295 ((a0) % 4294967296)) ((-(Go.bits .xor .u32 4294967295 ((a0) % 4294967296))) % 4294967296)) + (Go.bits .xor .u32 4294967295 ((a0) % 4294967296))) % 4294967296)) != 0) = false := bne_eq_false_iff_eq.mpr c3
      clear c3
      obtain rfl := Option.some.inj H
      go_enter Try.func18, Try.ntmps18
      go_wp2
      go_ret
      exact ⟨by first | rfl | (simp; done) | (simp [*]; done), by repeat (first | exact Drawn0.refl _ | apply Drawn0.step)⟩
    · rw [if_neg c3] at H
      have c3b0 : ((Go.bits .and .u32 (Go.bits .xor .u32 4294967295 ((a0) % 4294967296)) (((Go.bits .and .u32 (Go.bits .xor .u32 4294967295 ((a0) % 4294967296)) ((-(Go.bits .xor .u32 4294967295 ((a0) % 4294967296))) % 4294967296)) + (Go.bits .xor .u32 4294967295 ((a0) % 4294967296))) % 4294967296)) == 0) = false := beq_eq_false_iff_ne.mpr c3
      have c3b1 : ((Go.bits .and .u32 (Go.bits .xor .u32 4294967295 ((a0) % 4294967296)) (((Go.bits .and .u32 (Go.bits .xor .u32 4294967295 ((a0) % 4294967296)) ((-(Go.bits .xor .u32 4294967295 ((a0) % 4294967296))) % 4294967296)) + (Go.bits .xor .u32 4294967295 ((a0) % 4294967296))) % 4294967296)) != 0) = true := bne_iff_ne.mpr c3
      obtain rfl := Option.some.inj H
      go_enter Try.func18, Try.ntmps18
      go_wp2
      go_ret
      exact ⟨by first | rfl | (simp; done) | (simp [*]; done), by repeat (first | exact Drawn0.refl _ | apply Drawn0.step)⟩

attribute [local go_sem] signed_u32 max_u32 signed_u64 max_u64
/-! ### ssarewrite_ZZIsPPC64WordRotateMask: function 14 -/
def ssarewrite_ZZIsPPC64WordRotateMask.f (a0 : Int) : Option (Bool) := (ssarewrite_isPPC64WordRotateMask.f a0).bind fun t103 => (some t103)
set_option maxHeartbeats 8000000 in
set_option maxRecDepth 100000 in
theorem ssarewrite_ZZIsPPC64WordRotateMask.calls (a0 : Int) (r : Bool) (w : World) (h : ssarewrite_ZZIsPPC64WordRotateMask.f a0 = some r) :
    Calls Try.prog 14 #[.int .i64 a0] w fun e w' => e = .returned (.bool r) ∧ Drawn0 w w' := by
  have H : ((ssarewrite_isPPC64WordRotateMask.f a0).bind fun t103 => (some t103)) = some r := h
  clear h
  replace H := Option.bind_eq_some_iff.mp H
  obtain ⟨t103, A20, H⟩ := H
  replace H : (some t103) = some r := H
  have A2 := Aside0.mk A20
  clear A20
  obtain rfl := Option.some.inj H
  go_enter Try.func14, Try.ntmps14
  go_wp2_with (first | ((with_reducible refine gate_callee (f := 18) rfl ?_); refine goesL_ (some 4) rfl rfl Try.func18 (by kernel_rfl) rfl #[.int .i64 a0] rfl (by (try simp only [List.map_toArray, List.map_cons, List.map_nil]); first | done | rfl | (simp only [List.length_drop, List.length_take]; rfl)) ?_; (with_reducible refine (ssarewrite_isPPC64WordRotateMask.calls a0 t103 _ A2.out).mono ?_); rintro e w' ⟨rfl, ⟨nd, rfl⟩⟩; refine ⟨_, rfl, ?_⟩))
  go_ret
  exact ⟨by first | rfl | (simp; done) | (simp [*]; done), by repeat (first | exact Drawn0.refl _ | apply Drawn0.step)⟩

attribute [local go_sem] signed_u32 max_u32 signed_u64 max_u64
/-! ### impl_IsWordRotateMask: function 8 -/
def impl_IsWordRotateMask.f (a0 : Int) : Option (Bool) := (ssarewrite_ZZIsPPC64WordRotateMask.f a0).bind fun t104 => (some t104)
set_option maxHeartbeats 8000000 in
set_option maxRecDepth 100000 in
theorem impl_IsWordRotateMask.calls (a0 : Int) (r : Bool) (w : World) (h : impl_IsWordRotateMask.f a0 = some r) :
    Calls Try.prog 8 #[.int .i64 a0] w fun e w' => e = .returned (.bool r) ∧ Drawn0 w w' := by
  have H : ((ssarewrite_ZZIsPPC64WordRotateMask.f a0).bind fun t104 => (some t104)) = some r := h
  clear h
  replace H := Option.bind_eq_some_iff.mp H
  obtain ⟨t104, A20, H⟩ := H
  replace H : (some t104) = some r := H
  have A2 := Aside0.mk A20
  clear A20
  obtain rfl := Option.some.inj H
  go_enter Try.func8, Try.ntmps8
  go_wp2_with (first | ((with_reducible refine gate_callee (f := 14) rfl ?_); refine goesL_ (some 4) rfl rfl Try.func14 (by kernel_rfl) rfl #[.int .i64 a0] rfl (by (try simp only [List.map_toArray, List.map_cons, List.map_nil]); first | done | rfl | (simp only [List.length_drop, List.length_take]; rfl)) ?_; (with_reducible refine (ssarewrite_ZZIsPPC64WordRotateMask.calls a0 t104 _ A2.out).mono ?_); rintro e w' ⟨rfl, ⟨nd, rfl⟩⟩; refine ⟨_, rfl, ?_⟩))
  go_ret
  exact ⟨by first | rfl | (simp; done) | (simp [*]; done), by repeat (first | exact Drawn0.refl _ | apply Drawn0.step)⟩

attribute [local go_sem] signed_u32 max_u32 signed_u64 max_u64
/-! ### laws_FnRotateMaskMade: function 3 -/
def laws_FnRotateMaskMade.f (a0 : Int) (a1 : Int) (a2 : Int) : Option (Bool) := (laws_rwAt.f a0 32).bind fun t105 => ((spec_Run.f 0 (IntKind.u64.wrap (1 + (IntKind.u64.wrap (t105))))).bind fun t106 => ((laws_rwAt.f a1 32).bind fun t107 => ((spec_Turn.f t106 32 (IntKind.u64.wrap (t107))).bind fun t108 => ((impl_IsWordRotateMask.f (Go.bits .or .i64 (wrap64 ((wrap64 (a2)) * 4294967296)) (wrap64 (t108)))).bind fun t109 => (if t109 = true then ((impl_IsWordRotateMask.f (wrap64 ((wrap64 (a2)) * 4294967296))).bind fun t110 => (some (!t110))) else (some false))))))
set_option maxHeartbeats 8000000 in
set_option maxRecDepth 100000 in
theorem laws_FnRotateMaskMade.calls (a0 : Int) (a1 : Int) (a2 : Int) (r : Bool) (w : World) (h : laws_FnRotateMaskMade.f a0 a1 a2 = some r) :
    Calls Try.prog 3 #[.int .i64 a0, .int .i64 a1, .int .i32 a2] w fun e w' => e = .returned (.bool r) ∧ Drawn0 w w' := by
  have H : ((laws_rwAt.f a0 32).bind fun t105 => ((spec_Run.f 0 (IntKind.u64.wrap (1 + (IntKind.u64.wrap (t105))))).bind fun t106 => ((laws_rwAt.f a1 32).bind fun t107 => ((spec_Turn.f t106 32 (IntKind.u64.wrap (t107))).bind fun t108 => ((impl_IsWordRotateMask.f (Go.bits .or .i64 (wrap64 ((wrap64 (a2)) * 4294967296)) (wrap64 (t108)))).bind fun t109 => (if t109 = true then ((impl_IsWordRotateMask.f (wrap64 ((wrap64 (a2)) * 4294967296))).bind fun t110 => (some (!t110))) else (some false))))))) = some r := h
  clear h
  replace H := Option.bind_eq_some_iff.mp H
  obtain ⟨t105, A40, H⟩ := H
  replace H : ((spec_Run.f 0 (IntKind.u64.wrap (1 + (IntKind.u64.wrap (t105))))).bind fun t106 => ((laws_rwAt.f a1 32).bind fun t107 => ((spec_Turn.f t106 32 (IntKind.u64.wrap (t107))).bind fun t108 => ((impl_IsWordRotateMask.f (Go.bits .or .i64 (wrap64 ((wrap64 (a2)) * 4294967296)) (wrap64 (t108)))).bind fun t109 => (if t109 = true then ((impl_IsWordRotateMask.f (wrap64 ((wrap64 (a2)) * 4294967296))).bind fun t110 => (some (!t110))) else (some false)))))) = some r := H
  have A4 := Aside0.mk A40
  clear A40
  replace H := Option.bind_eq_some_iff.mp H
  obtain ⟨t106, A50, H⟩ := H
  replace H : ((laws_rwAt.f a1 32).bind fun t107 => ((spec_Turn.f t106 32 (IntKind.u64.wrap (t107))).bind fun t108 => ((impl_IsWordRotateMask.f (Go.bits .or .i64 (wrap64 ((wrap64 (a2)) * 4294967296)) (wrap64 (t108)))).bind fun t109 => (if t109 = true then ((impl_IsWordRotateMask.f (wrap64 ((wrap64 (a2)) * 4294967296))).bind fun t110 => (some (!t110))) else (some false))))) = some r := H
  have A5 := Aside0.mk A50
  clear A50
  replace H := Option.bind_eq_some_iff.mp H
  obtain ⟨t107, A60, H⟩ := H
  replace H : ((spec_Turn.f t106 32 (IntKind.u64.wrap (t107))).bind fun t108 => ((impl_IsWordRotateMask.f (Go.bits .or .i64 (wrap64 ((wrap64 (a2)) * 4294967296)) (wrap64 (t108)))).bind fun t109 => (if t109 = true then ((impl_IsWordRotateMask.f (wrap64 ((wrap64 (a2)) * 4294967296))).bind fun t110 => (some (!t110))) else (some false)))) = some r := H
  have A6 := Aside0.mk A60
  clear A60
  replace H := Option.bind_eq_some_iff.mp H
  obtain ⟨t108, A70, H⟩ := H
  replace H : ((impl_IsWordRotateMask.f (Go.bits .or .i64 (wrap64 ((wrap64 (a2)) * 4294967296)) (wrap64 (t108)))).bind fun t109 => (if t109 = true then ((impl_IsWordRotateMask.f (wrap64 ((wrap64 (a2)) * 4294967296))).bind fun t110 => (some (!t110))) else (some false))) = some r := H
  have A7 := Aside0.mk A70
  clear A70
  replace H := Option.bind_eq_some_iff.mp H
  obtain ⟨t109, A80, H⟩ := H
  replace H : (if t109 = true then ((impl_IsWordRotateMask.f (wrap64 ((wrap64 (a2)) * 4294967296))).bind fun t110 => (some (!t110))) else (some false)) = some r := H
  have A8 := Aside0.mk A80
  clear A80
  by_cases c9 : t109 = true
  · subst c9
    have H1 : ((impl_IsWordRotateMask.f (wrap64 ((wrap64 (a2)) * 4294967296))).bind fun t110 => (some (!t110))) = some r := by rw [if_pos rfl] at H; exact H
    clear H
    have H := H1
    clear H1
    replace H := Option.bind_eq_some_iff.mp H
    obtain ⟨t110, A100, H⟩ := H
    replace H : (some (!t110)) = some r := H
    have A10 := Aside0.mk A100
    clear A100
    obtain rfl := Option.some.inj H
    go_enter Try.func3, Try.ntmps3
    go_wp2_with (first | ((with_reducible refine gate_callee (f := 7) rfl ?_); refine goesL_ (some 9) rfl rfl Try.func7 (by kernel_rfl) rfl #[.int .i64 a0, .int .i64 32] rfl (by (try simp only [List.map_toArray, List.map_cons, List.map_nil]); first | done | rfl | (simp only [List.length_drop, List.length_take]; rfl)) ?_; (with_reducible refine (laws_rwAt.calls a0 32 t105 _ A4.out).mono ?_); rintro e w' ⟨rfl, ⟨nd, rfl⟩⟩; refine ⟨_, rfl, ?_⟩) | ((with_reducible refine gate_callee (f := 6) rfl ?_); refine goesL_ (some 12) rfl rfl Try.func6 (by kernel_rfl) rfl #[.int .u64 0, .int .u64 (IntKind.u64.wrap (1 + (IntKind.u64.wrap (t105))))] rfl (by (try simp only [List.map_toArray, List.map_cons, List.map_nil]); first | done | rfl | (simp only [List.length_drop, List.length_take]; rfl)) ?_; (with_reducible refine (spec_Run.calls 0 (IntKind.u64.wrap (1 + (IntKind.u64.wrap (t105)))) t106 _ A5.out).mono ?_); rintro e w' ⟨rfl, ⟨nd, rfl⟩⟩; refine ⟨_, rfl, ?_⟩) | ((with_reducible refine gate_callee (f := 7) rfl ?_); refine goesL_ (some 14) rfl rfl Try.func7 (by kernel_rfl) rfl #[.int .i64 a1, .int .i64 32] rfl (by (try simp only [List.map_toArray, List.map_cons, List.map_nil]); first | done | rfl | (simp only [List.length_drop, List.length_take]; rfl)) ?_; (with_reducible refine (laws_rwAt.calls a1 32 t107 _ A6.out).mono ?_); rintro e w' ⟨rfl, ⟨nd, rfl⟩⟩; refine ⟨_, rfl, ?_⟩) | ((with_reducible refine gate_callee (f := 5) rfl ?_); refine goesL_ (some 16) rfl rfl Try.func5 (by kernel_rfl) rfl #[.int .u64 t106, .int .u64 32, .int .u64 (IntKind.u64.wrap (t107))] rfl (by (try simp only [List.map_toArray, List.map_cons, List.map_nil]); first | done | rfl | (simp only [List.length_drop, List.length_take]; rfl)) ?_; (with_reducible refine (spec_Turn.calls t106 32 (IntKind.u64.wrap (t107)) t108 _ A7.out).mono ?_); rintro e w' ⟨rfl, ⟨nd, rfl⟩⟩; refine ⟨_, rfl, ?_⟩) | ((with_reducible refine gate_callee (f := 8) rfl ?_); refine goesL_ (some 23) rfl rfl Try.func8 (by kernel_rfl) rfl #[.int .i64 (Go.bits .or .i64 (wrap64 ((wrap64 (a2)) * 4294967296)) (wrap64 (t108)))] rfl (by (try simp only [List.map_toArray, List.map_cons, List.map_nil]); first | done | rfl | (simp only [List.length_drop, List.length_take]; rfl)) ?_; (with_reducible refine (impl_IsWordRotateMask.calls (Go.bits .or .i64 (wrap64 ((wrap64 (a2)) * 4294967296)) (wrap64 (t108))) true _ A8.out).mono ?_); rintro e w' ⟨rfl, ⟨nd, rfl⟩⟩; refine ⟨_, rfl, ?_⟩) | (go_at_call 8; (with_reducible refine (impl_IsWordRotateMask.calls (wrap64 ((wrap64 (a2)) * 4294967296)) t110 _ A10.out).mono ?_); rintro e w' ⟨rfl, ⟨nd, rfl⟩⟩))
    go_ret
    exact ⟨by first | rfl | (simp; done) | (simp [*]; done), by repeat (first | exact Drawn0.refl _ | apply Drawn0.step)⟩
  · replace c9 := Bool.eq_false_iff.mpr c9
    subst c9
    have H1 : (some false) = some r := by rw [if_neg (show ¬ (false = true) by decide)] at H; exact H
    clear H
    have H := H1
    clear H1
    obtain rfl := Option.some.inj H
    go_enter Try.func3, Try.ntmps3
    go_wp2_with (first | ((with_reducible refine gate_callee (f := 7) rfl ?_); refine goesL_ (some 9) rfl rfl Try.func7 (by kernel_rfl) rfl #[.int .i64 a0, .int .i64 32] rfl (by (try simp only [List.map_toArray, List.map_cons, List.map_nil]); first | done | rfl | (simp only [List.length_drop, List.length_take]; rfl)) ?_; (with_reducible refine (laws_rwAt.calls a0 32 t105 _ A4.out).mono ?_); rintro e w' ⟨rfl, ⟨nd, rfl⟩⟩; refine ⟨_, rfl, ?_⟩) | ((with_reducible refine gate_callee (f := 6) rfl ?_); refine goesL_ (some 12) rfl rfl Try.func6 (by kernel_rfl) rfl #[.int .u64 0, .int .u64 (IntKind.u64.wrap (1 + (IntKind.u64.wrap (t105))))] rfl (by (try simp only [List.map_toArray, List.map_cons, List.map_nil]); first | done | rfl | (simp only [List.length_drop, List.length_take]; rfl)) ?_; (with_reducible refine (spec_Run.calls 0 (IntKind.u64.wrap (1 + (IntKind.u64.wrap (t105)))) t106 _ A5.out).mono ?_); rintro e w' ⟨rfl, ⟨nd, rfl⟩⟩; refine ⟨_, rfl, ?_⟩) | ((with_reducible refine gate_callee (f := 7) rfl ?_); refine goesL_ (some 14) rfl rfl Try.func7 (by kernel_rfl) rfl #[.int .i64 a1, .int .i64 32] rfl (by (try simp only [List.map_toArray, List.map_cons, List.map_nil]); first | done | rfl | (simp only [List.length_drop, List.length_take]; rfl)) ?_; (with_reducible refine (laws_rwAt.calls a1 32 t107 _ A6.out).mono ?_); rintro e w' ⟨rfl, ⟨nd, rfl⟩⟩; refine ⟨_, rfl, ?_⟩) | ((with_reducible refine gate_callee (f := 5) rfl ?_); refine goesL_ (some 16) rfl rfl Try.func5 (by kernel_rfl) rfl #[.int .u64 t106, .int .u64 32, .int .u64 (IntKind.u64.wrap (t107))] rfl (by (try simp only [List.map_toArray, List.map_cons, List.map_nil]); first | done | rfl | (simp only [List.length_drop, List.length_take]; rfl)) ?_; (with_reducible refine (spec_Turn.calls t106 32 (IntKind.u64.wrap (t107)) t108 _ A7.out).mono ?_); rintro e w' ⟨rfl, ⟨nd, rfl⟩⟩; refine ⟨_, rfl, ?_⟩) | ((with_reducible refine gate_callee (f := 8) rfl ?_); refine goesL_ (some 23) rfl rfl Try.func8 (by kernel_rfl) rfl #[.int .i64 (Go.bits .or .i64 (wrap64 ((wrap64 (a2)) * 4294967296)) (wrap64 (t108)))] rfl (by (try simp only [List.map_toArray, List.map_cons, List.map_nil]); first | done | rfl | (simp only [List.length_drop, List.length_take]; rfl)) ?_; (with_reducible refine (impl_IsWordRotateMask.calls (Go.bits .or .i64 (wrap64 ((wrap64 (a2)) * 4294967296)) (wrap64 (t108))) false _ A8.out).mono ?_); rintro e w' ⟨rfl, ⟨nd, rfl⟩⟩; refine ⟨_, rfl, ?_⟩))
    go_ret
    exact ⟨by first | rfl | (simp; done) | (simp [*]; done), by repeat (first | exact Drawn0.refl _ | apply Drawn0.step)⟩

/-- THE ONE PURE STATEMENT of laws_FnRotateMaskMade: yours. -/
def laws_FnRotateMaskMade.Pure : Prop := ∀ (a0 : Int) (a1 : Int) (a2 : Int), (Lit.int .i64 a0).wf = true → (Lit.int .i64 a1).wf = true → (Lit.int .i32 a2).wf = true → laws_FnRotateMaskMade.f a0 a1 a2 = some true
theorem laws_FnRotateMaskMade.walk (P : laws_FnRotateMaskMade.Pure) (a0 : Int) (a1 : Int) (a2 : Int) (w : World) (w0 : (Lit.int .i64 a0).wf = true) (w1 : (Lit.int .i64 a1).wf = true) (w2 : (Lit.int .i32 a2).wf = true) :
    Calls Try.prog 3 #[.int .i64 a0, .int .i64 a1, .int .i32 a2] w fun e w' => e = .returned (.bool true) ∧ Below w.heap.size w w' := by
  have h := P a0 a1 a2 w0 w1 w2
  refine (laws_FnRotateMaskMade.calls a0 a1 a2 true w h).mono ?_
  rintro e w' ⟨rfl, hd⟩
  exact ⟨rfl, hd.below⟩

end Go.Proofs.Ytlcaejikcelgoaa.PFnRotateMaskMade
