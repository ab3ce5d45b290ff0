-- Written by a program of this session out of the translation (wip/pp.py): Lean checks it.
import Derived.Test.YtcihkjjejckicaaDoorPFnBFWidthx0
namespace Go.Proofs.YtcihkjjejckicaaDoor.PFnBFWidth
open Go.RowKit Go.Proofs.YtcihkjjejckicaaDoorW.PrintWords Go.Proofs.YtcihkjjejckicaaDoorW.PrintLast Go.Proofs.YtcihkjjejckicaaDoorW.PrintMore
attribute [local go_sem] max2_int min2_int max_two min_two max_three min_three max_four min_four   -- for this text's walks alone
set_option linter.unusedVariables false
set_option linter.unusedSimpArgs false

attribute [local go_sem] signed_u32 max_u32 signed_u64 max_u64
/-! ### laws_rwAt: function 6 -/
def laws_rwAt.f (a0 : Int) (a1 : Int) : Option (Int) := if a1 = 0 then (none) else (some (Int.tmod (wrap64 ((Int.tmod a0 a1) + a1)) a1))
set_option maxHeartbeats 8000000 in
set_option maxRecDepth 100000 in
theorem laws_rwAt.calls (a0 : Int) (a1 : Int) (r : Int) (w : World) (h : laws_rwAt.f a0 a1 = some r) :
    Calls Tryd.prog 6 #[.int .i64 a0, .int .i64 a1] w fun e w' => e = .returned (.int .i64 r) ∧ Drawn0 w w' := by
  have H : (if a1 = 0 then (none) else (some (Int.tmod (wrap64 ((Int.tmod a0 a1) + a1)) a1))) = some r := h
  clear h
  by_cases c3 : a1 = 0
  · rw [if_pos c3] at H
    exact absurd H (by simp)
  · rw [if_neg c3] at H
    have c3b0 : (a1 == 0) = false := beq_eq_false_iff_ne.mpr c3
    have c3b1 : (a1 != 0) = true := bne_iff_ne.mpr c3
    obtain rfl := Option.some.inj H
    go_enter Tryd.func6, Tryd.ntmps6
    go_wp2
    go_ret
    exact ⟨by first | rfl | (simp; done) | (simp [*]; done), by repeat (first | exact Drawn0.refl _ | apply Drawn0.step)⟩

attribute [local go_sem] signed_u32 max_u32 signed_u64 max_u64
/-! ### spec_Run: function 7 -/
def spec_Run.f (a0 : Int) (a1 : Int) : Option (Int) := if a1 ≥ 64 then (some 18446744073709551615) else (if 0 ≤ a1 then (if 0 ≤ a0 then (some (shl .u64 (IntKind.u64.wrap ((shl .u64 1 a1) - 1)) a0)) else (none)) else (none))
set_option maxHeartbeats 8000000 in
set_option maxRecDepth 100000 in
theorem spec_Run.calls (a0 : Int) (a1 : Int) (r : Int) (w : World) (h : spec_Run.f a0 a1 = some r) :
    Calls Tryd.prog 7 #[.int .u64 a0, .int .u64 a1] w fun e w' => e = .returned (.int .u64 r) ∧ Drawn0 w w' := by
  have H : (if a1 ≥ 64 then (some 18446744073709551615) else (if 0 ≤ a1 then (if 0 ≤ a0 then (some (shl .u64 (IntKind.u64.wrap ((shl .u64 1 a1) - 1)) a0)) else (none)) else (none))) = some r := h
  clear h
  by_cases c3 : a1 ≥ 64
  · rw [if_pos c3] at H
    have c3b0 : decide (64 ≤ a1) = true := decide_eq_true c3
    clear c3
    obtain rfl := Option.some.inj H
    go_enter Tryd.func7, Tryd.ntmps7
    go_wp2
    go_ret
    exact ⟨by first | rfl | (simp; done) | (simp [*]; done), by repeat (first | exact Drawn0.refl _ | apply Drawn0.step)⟩
  · rw [if_neg c3] at H
    have c3b0 : decide (64 ≤ a1) = false := decide_eq_false c3
    clear c3
    by_cases c4 : 0 ≤ a1
    · rw [if_pos c4] at H
      have c4b0 := eq_true c4
      have c4b1 : decide (0 ≤ a1) = true := decide_eq_true c4
      clear c4
      obtain ⟨ji5, hji5⟩ : ∃ j_ : Int, (shl .u64 1 a1) = j_ := ⟨_, rfl⟩
      replace H : (if 0 ≤ a0 then (some (shl .u64 (IntKind.u64.wrap ((ji5) - 1)) a0)) else (none)) = some r := by first | (rw [hji5] at H; exact H) | (simp only [hji5] at H ⊢; exact H)
      have hji5_ : (IntKind.u64.wrap (1 * 2 ^ min a1.toNat 64)) = ji5 := hji5
      have hji5z : a1 ≤ 64 → (IntKind.u64.wrap (1 * 2 ^ a1.toNat)) = ji5 := shl_small hji5
      have hji5u : (IntKind.u64.wrap (2 ^ min a1.toNat 64)) = ji5 := by have h_ := hji5_; rw [Int.one_mul] at h_; exact h_
      have hji5v : a1 ≤ 64 → (IntKind.u64.wrap (2 ^ a1.toNat)) = ji5 := fun hle_ => by have h_ := hji5z hle_; rw [Int.one_mul] at h_; exact h_
      by_cases c6 : 0 ≤ a0
      · rw [if_pos c6] at H
        have c6b0 := eq_true c6
        have c6b1 : decide (0 ≤ a0) = true := decide_eq_true c6
        clear c6
        obtain ⟨ji7, hji7⟩ : ∃ j_ : Int, (shl .u64 (IntKind.u64.wrap ((ji5) - 1)) a0) = j_ := ⟨_, rfl⟩
        replace H : (some ji7) = some r := by first | (rw [hji7] at H; exact H) | (simp only [hji7] at H ⊢; exact H)
        have hji7_ : (IntKind.u64.wrap ((IntKind.u64.wrap ((ji5) - 1)) * 2 ^ min a0.toNat 64)) = ji7 := hji7
        have hji7z : a0 ≤ 64 → (IntKind.u64.wrap ((IntKind.u64.wrap ((ji5) - 1)) * 2 ^ a0.toNat)) = ji7 := shl_small hji7
        obtain rfl := Option.some.inj H
        go_enter Tryd.func7, Tryd.ntmps7
        go_wp2
        go_ret
        exact ⟨by first | rfl | (simp; done) | (simp only [← hji5, ← hji7] <;> (first | rfl | simp)) | (simp [*]; done), by repeat (first | exact Drawn0.refl _ | apply Drawn0.step)⟩
      · rw [if_neg c6] at H
        exact absurd H (by simp)
    · rw [if_neg c4] at H
      exact absurd H (by simp)

attribute [local go_sem] signed_u32 max_u32 signed_u64 max_u64
/-! ### spec_Low: function 8 -/
def spec_Low.f (a0 : Int) (a1 : Int) : Option (Int) := if a1 ≥ 64 then (some a0) else (if 0 ≤ a1 then (if (shl .u64 1 a1) = 0 then (none) else (some (Int.tmod a0 (shl .u64 1 a1)))) else (none))
set_option maxHeartbeats 8000000 in
set_option maxRecDepth 100000 in
theorem spec_Low.calls (a0 : Int) (a1 : Int) (r : Int) (w : World) (h : spec_Low.f a0 a1 = some r) :
    Calls Tryd.prog 8 #[.int .u64 a0, .int .u64 a1] w fun e w' => e = .returned (.int .u64 r) ∧ Drawn0 w w' := by
  have H : (if a1 ≥ 64 then (some a0) else (if 0 ≤ a1 then (if (shl .u64 1 a1) = 0 then (none) else (some (Int.tmod a0 (shl .u64 1 a1)))) else (none))) = some r := h
  clear h
  by_cases c3 : a1 ≥ 64
  · rw [if_pos c3] at H
    have c3b0 : decide (64 ≤ a1) = true := decide_eq_true c3
    clear c3
    obtain rfl := Option.some.inj H
    go_enter Tryd.func8, Tryd.ntmps8
    go_wp2
    go_ret
    exact ⟨by first | rfl | (simp; done) | (simp [*]; done), by repeat (first | exact Drawn0.refl _ | apply Drawn0.step)⟩
  · rw [if_neg c3] at H
    have c3b0 : decide (64 ≤ a1) = false := decide_eq_false c3
    clear c3
    by_cases c4 : 0 ≤ a1
    · rw [if_pos c4] at H
      have c4b0 := eq_true c4
      have c4b1 : decide (0 ≤ a1) = true := decide_eq_true c4
      clear c4
      obtain ⟨ji5, hji5⟩ : ∃ j_ : Int, (shl .u64 1 a1) = j_ := ⟨_, rfl⟩
      replace H : (if (ji5) = 0 then (none) else (some (Int.tmod a0 (ji5)))) = some r := by first | (rw [hji5] at H; exact H) | (simp only [hji5] at H ⊢; exact H)
      have hji5_ : (IntKind.u64.wrap (1 * 2 ^ min a1.toNat 64)) = ji5 := hji5
      have hji5z : a1 ≤ 64 → (IntKind.u64.wrap (1 * 2 ^ a1.toNat)) = ji5 := shl_small hji5
      have hji5u : (IntKind.u64.wrap (2 ^ min a1.toNat 64)) = ji5 := by have h_ := hji5_; rw [Int.one_mul] at h_; exact h_
      have hji5v : a1 ≤ 64 → (IntKind.u64.wrap (2 ^ a1.toNat)) = ji5 := fun hle_ => by have h_ := hji5z hle_; rw [Int.one_mul] at h_; exact h_
      by_cases c6 : (ji5) = 0
      · rw [if_pos c6] at H
        exact absurd H (by simp)
      · rw [if_neg c6] at H
        have c6b0 : ((ji5) == 0) = false := beq_eq_false_iff_ne.mpr c6
        have c6b1 : ((ji5) != 0) = true := bne_iff_ne.mpr c6
        obtain rfl := Option.some.inj H
        go_enter Tryd.func8, Tryd.ntmps8
        go_wp2
        go_ret
        exact ⟨by first | rfl | (simp; done) | (simp only [← hji5] <;> (first | rfl | simp)) | (simp [*]; done), by repeat (first | exact Drawn0.refl _ | apply Drawn0.step)⟩
    · rw [if_neg c4] at H
      exact absurd H (by simp)

/-! ### bits_TrailingZeros64: function 30 -/
def bits_TrailingZeros64.f (a0 : Int) : Option (Int) := if 0 ≤ a0 ∧ a0 ≤ 18446744073709551615 then some (Lib.ctz 64 a0.toNat : Int) else none
theorem bits_TrailingZeros64.calls (a0 : Int) (r : Int) (w : World) (hT : Tab0 w false) (h : bits_TrailingZeros64.f a0 = some r) :
    Calls Tryd.prog 30 #[.int .u64 a0] w fun e w' => e = .returned (.int .i64 r) ∧ Drawn0 w w' := by
  unfold bits_TrailingZeros64.f at h
  split at h
  · rename_i hb
    obtain rfl := Option.some.inj h
    obtain ⟨x, rfl⟩ := Int.eq_ofNat_of_zero_le hb.1
    refine (tz64 x (by omega) w hT).mono ?_
    rintro e w' ⟨rfl, rfl⟩
    exact ⟨by first | rfl | (simp; done) | (congr 2; omega), Drawn0.refl _⟩
  · cases h

attribute [local go_sem] signed_u32 max_u32 signed_u64 max_u64
/-! ### ssarewrite_ntz64: function 24 -/
def ssarewrite_ntz64.f (a0 : Int) : Option (Int) := (bits_TrailingZeros64.f (IntKind.u64.wrap (a0))).bind fun t101 => (some t101)
set_option maxHeartbeats 8000000 in
set_option maxRecDepth 100000 in
theorem ssarewrite_ntz64.calls (a0 : Int) (r : Int) (w : World) (hT : Tab0 w false) (h : ssarewrite_ntz64.f a0 = some r) :
    Calls Tryd.prog 24 #[.int .i64 a0] w fun e w' => e = .returned (.int .i64 r) ∧ Drawn0 w w' := by
  have H : ((bits_TrailingZeros64.f (IntKind.u64.wrap (a0))).bind fun t101 => (some t101)) = some r := h
  clear h
  replace H := Option.bind_eq_some_iff.mp H
  obtain ⟨t101, A20, H⟩ := H
  replace H : (some t101) = some r := H
  have A2 := Aside0.mk A20
  clear A20
  obtain rfl := Option.some.inj H
  go_enter Tryd.func24, Tryd.ntmps24
  go_wp2_with (first | ((with_reducible refine gate_callee (f := 30) rfl ?_); refine goesL_ (some 5) rfl rfl Tryd.func30 (by kernel_rfl) rfl #[.int .u64 (IntKind.u64.wrap (a0))] rfl (by (try simp only [List.map_toArray, List.map_cons, List.map_nil]); first | done | rfl | (simp only [List.length_drop, List.length_take]; rfl)) ?_; (with_reducible refine (bits_TrailingZeros64.calls (IntKind.u64.wrap (a0)) t101 _ (by first | exact hT | exact hT.drewN _ | exact (hT.drewN _).drewN _ | exact ((hT.drewN _).drewN _).drewN _) A2.out).mono ?_); rintro e w' ⟨rfl, ⟨nd, rfl⟩⟩; refine ⟨_, rfl, ?_⟩))
  go_ret
  exact ⟨by first | rfl | (simp; done) | (simp [*]; done), by repeat (first | exact Drawn0.refl _ | apply Drawn0.step)⟩

attribute [local go_sem] signed_u32 max_u32 signed_u64 max_u64
/-! ### ssarewrite_nto: function 29 -/
def ssarewrite_nto.f (a0 : Int) : Option (Int) := (ssarewrite_ntz64.f (Go.bits .xor .i64 (-1) a0)).bind fun t102 => (some t102)
set_option maxHeartbeats 8000000 in
set_option maxRecDepth 100000 in
theorem ssarewrite_nto.calls (a0 : Int) (r : Int) (w : World) (hT : Tab0 w false) (h : ssarewrite_nto.f a0 = some r) :
    Calls Tryd.prog 29 #[.int .i64 a0] w fun e w' => e = .returned (.int .i64 r) ∧ Drawn0 w w' := by
  have H : ((ssarewrite_ntz64.f (Go.bits .xor .i64 (-1) a0)).bind fun t102 => (some t102)) = some r := h
  clear h
  replace H := Option.bind_eq_some_iff.mp H
  obtain ⟨t102, A20, H⟩ := H
  replace H : (some t102) = some r := H
  have A2 := Aside0.mk A20
  clear A20
  obtain rfl := Option.some.inj H
  go_enter Tryd.func29, Tryd.ntmps29
  go_wp2_with (first | ((with_reducible refine gate_callee (f := 24) rfl ?_); refine goesL_ (some 5) rfl rfl Tryd.func24 (by kernel_rfl) rfl #[.int .i64 (Go.bits .xor .i64 (-1) a0)] rfl (by (try simp only [List.map_toArray, List.map_cons, List.map_nil]); first | done | rfl | (simp only [List.length_drop, List.length_take]; rfl)) ?_; (with_reducible refine (ssarewrite_ntz64.calls (Go.bits .xor .i64 (-1) a0) t102 _ (by first | exact hT | exact hT.drewN _ | exact (hT.drewN _).drewN _ | exact ((hT.drewN _).drewN _).drewN _) A2.out).mono ?_); rintro e w' ⟨rfl, ⟨nd, rfl⟩⟩; refine ⟨_, rfl, ?_⟩))
  go_ret
  exact ⟨by first | rfl | (simp; done) | (simp [*]; done), by repeat (first | exact Drawn0.refl _ | apply Drawn0.step)⟩

attribute [local go_sem] signed_u32 max_u32 signed_u64 max_u64
/-! ### ssarewrite_arm64BFWidth: function 23 -/
def ssarewrite_arm64BFWidth.f (a0 : Int) (a1 : Int) : Option (Int) := if 0 ≤ (IntKind.u64.wrap (a1)) then (if (wrap64 (shr .u64 (IntKind.u64.wrap (a0)) (IntKind.u64.wrap (a1)))) = 0 then (none) else ((ssarewrite_nto.f (wrap64 (shr .u64 (IntKind.u64.wrap (a0)) (IntKind.u64.wrap (a1))))).bind fun t103 => (some t103))) else (none)
set_option maxHeartbeats 8000000 in
set_option maxRecDepth 100000 in
theorem ssarewrite_arm64BFWidth.calls (a0 : Int) (a1 : Int) (r : Int) (w : World) (hT : Tab0 w false) (h : ssarewrite_arm64BFWidth.f a0 a1 = some r) :
    Calls Tryd.prog 23 #[.int .i64 a0, .int .i64 a1] w fun e w' => e = .returned (.int .i64 r) ∧ Drawn0 w w' := by
  have H : (if 0 ≤ (IntKind.u64.wrap (a1)) then (if (wrap64 (shr .u64 (IntKind.u64.wrap (a0)) (IntKind.u64.wrap (a1)))) = 0 then (none) else ((ssarewrite_nto.f (wrap64 (shr .u64 (IntKind.u64.wrap (a0)) (IntKind.u64.wrap (a1))))).bind fun t103 => (some t103))) else (none)) = some r := h
  clear h
  obtain ⟨ji3, hji3⟩ : ∃ j_ : Int, (IntKind.u64.wrap (a1)) = j_ := ⟨_, rfl⟩
  replace H : (if 0 ≤ (ji3) then (if (wrap64 (shr .u64 (IntKind.u64.wrap (a0)) (ji3))) = 0 then (none) else ((ssarewrite_nto.f (wrap64 (shr .u64 (IntKind.u64.wrap (a0)) (ji3)))).bind fun t103 => (some t103))) else (none)) = some r := by first | (rw [hji3] at H; exact H) | (simp only [hji3] at H ⊢; exact H)
  by_cases c4 : 0 ≤ (ji3)
  · rw [if_pos c4] at H
    have c4b0 := eq_true c4
    have c4b1 : decide (0 ≤ (ji3)) = true := decide_eq_true c4
    clear c4
    obtain ⟨ji5, hji5⟩ : ∃ j_ : Int, (shr .u64 (IntKind.u64.wrap (a0)) (ji3)) = j_ := ⟨_, rfl⟩
    replace H : (if (wrap64 (ji5)) = 0 then (none) else ((ssarewrite_nto.f (wrap64 (ji5))).bind fun t103 => (some t103))) = some r := by first | (rw [hji5] at H; exact H) | (simp only [hji5] at H ⊢; exact H)
    have hji5_ : ((IntKind.u64.wrap (a0)) / 2 ^ min (ji3).toNat 64) = ji5 := hji5
    have hji5z : (ji3) ≤ 64 → ((IntKind.u64.wrap (a0)) / 2 ^ (ji3).toNat) = ji5 := shr_small hji5
    by_cases c6 : (wrap64 (ji5)) = 0
    · rw [if_pos c6] at H
      exact absurd H (by simp)
    · rw [if_neg c6] at H
      have c6b0 : ((wrap64 (ji5)) == 0) = false := beq_eq_false_iff_ne.mpr c6
      have c6b1 : ((wrap64 (ji5)) != 0) = true := bne_iff_ne.mpr c6
      replace H := Option.bind_eq_some_iff.mp H
      obtain ⟨t103, A70, H⟩ := H
      replace H : (some t103) = some r := H
      have A7 := Aside0.mk A70
      clear A70
      obtain rfl := Option.some.inj H
      go_enter Tryd.func23, Tryd.ntmps23
      go_wp2_with (first | ((with_reducible refine gate_callee (f := 29) rfl ?_); refine goesL_ (some 16) rfl rfl Tryd.func29 (by kernel_rfl) rfl #[.int .i64 (wrap64 (ji5))] rfl (by (try simp only [List.map_toArray, List.map_cons, List.map_nil]); first | done | (simp only [hji5]; rfl) | rfl | (simp only [List.length_drop, List.length_take]; rfl)) ?_; (with_reducible refine (ssarewrite_nto.calls (wrap64 (ji5)) t103 _ (by first | exact hT | exact hT.drewN _ | exact (hT.drewN _).drewN _ | exact ((hT.drewN _).drewN _).drewN _) A7.out).mono ?_); rintro e w' ⟨rfl, ⟨nd, rfl⟩⟩; refine ⟨_, rfl, ?_⟩))
      go_ret
      exact ⟨by first | rfl | (simp; done) | (simp only [← hji3, ← hji5] <;> (first | rfl | simp)) | (simp [*]; done), by repeat (first | exact Drawn0.refl _ | apply Drawn0.step)⟩
  · rw [if_neg c4] at H
    exact absurd H (by simp)

attribute [local go_sem] signed_u32 max_u32 signed_u64 max_u64
/-! ### ssarewrite_ZZArm64BFWidth: function 16 -/
def ssarewrite_ZZArm64BFWidth.f (a0 : Int) (a1 : Int) : Option (Int) := (ssarewrite_arm64BFWidth.f a0 a1).bind fun t104 => (some t104)
set_option maxHeartbeats 8000000 in
set_option maxRecDepth 100000 in
theorem ssarewrite_ZZArm64BFWidth.calls (a0 : Int) (a1 : Int) (r : Int) (w : World) (hT : Tab0 w false) (h : ssarewrite_ZZArm64BFWidth.f a0 a1 = some r) :
    Calls Tryd.prog 16 #[.int .i64 a0, .int .i64 a1] w fun e w' => e = .returned (.int .i64 r) ∧ Drawn0 w w' := by
  have H : ((ssarewrite_arm64BFWidth.f a0 a1).bind fun t104 => (some t104)) = some r := h
  clear h
  replace H := Option.bind_eq_some_iff.mp H
  obtain ⟨t104, A30, H⟩ := H
  replace H : (some t104) = some r := H
  have A3 := Aside0.mk A30
  clear A30
  obtain rfl := Option.some.inj H
  go_enter Tryd.func16, Tryd.ntmps16
  go_wp2_with (first | ((with_reducible refine gate_callee (f := 23) rfl ?_); refine goesL_ (some 7) rfl rfl Tryd.func23 (by kernel_rfl) rfl #[.int .i64 a0, .int .i64 a1] rfl (by (try simp only [List.map_toArray, List.map_cons, List.map_nil]); first | done | rfl | (simp only [List.length_drop, List.length_take]; rfl)) ?_; (with_reducible refine (ssarewrite_arm64BFWidth.calls a0 a1 t104 _ (by first | exact hT | exact hT.drewN _ | exact (hT.drewN _).drewN _ | exact ((hT.drewN _).drewN _).drewN _) A3.out).mono ?_); rintro e w' ⟨rfl, ⟨nd, rfl⟩⟩; refine ⟨_, rfl, ?_⟩))
  go_ret
  exact ⟨by first | rfl | (simp; done) | (simp [*]; done), by repeat (first | exact Drawn0.refl _ | apply Drawn0.step)⟩

attribute [local go_sem] signed_u32 max_u32 signed_u64 max_u64
/-! ### impl_BFWidth: function 9 -/
def impl_BFWidth.f (a0 : Int) (a1 : Int) : Option (Int) := (ssarewrite_ZZArm64BFWidth.f a0 a1).bind fun t105 => (some t105)
set_option maxHeartbeats 8000000 in
set_option maxRecDepth 100000 in
theorem impl_BFWidth.calls (a0 : Int) (a1 : Int) (r : Int) (w : World) (hT : Tab0 w false) (h : impl_BFWidth.f a0 a1 = some r) :
    Calls Tryd.prog 9 #[.int .i64 a0, .int .i64 a1] w fun e w' => e = .returned (.int .i64 r) ∧ Drawn0 w w' := by
  have H : ((ssarewrite_ZZArm64BFWidth.f a0 a1).bind fun t105 => (some t105)) = some r := h
  clear h
  replace H := Option.bind_eq_some_iff.mp H
  obtain ⟨t105, A30, H⟩ := H
  replace H : (some t105) = some r := H
  have A3 := Aside0.mk A30
  clear A30
  obtain rfl := Option.some.inj H
  go_enter Tryd.func9, Tryd.ntmps9
  go_wp2_with (first | ((with_reducible refine gate_callee (f := 16) rfl ?_); refine goesL_ (some 7) rfl rfl Tryd.func16 (by kernel_rfl) rfl #[.int .i64 a0, .int .i64 a1] rfl (by (try simp only [List.map_toArray, List.map_cons, List.map_nil]); first | done | rfl | (simp only [List.length_drop, List.length_take]; rfl)) ?_; (with_reducible refine (ssarewrite_ZZArm64BFWidth.calls a0 a1 t105 _ (by first | exact hT | exact hT.drewN _ | exact (hT.drewN _).drewN _ | exact ((hT.drewN _).drewN _).drewN _) A3.out).mono ?_); rintro e w' ⟨rfl, ⟨nd, rfl⟩⟩; refine ⟨_, rfl, ?_⟩))
  go_ret
  exact ⟨by first | rfl | (simp; done) | (simp [*]; done), by repeat (first | exact Drawn0.refl _ | apply Drawn0.step)⟩

attribute [local go_sem] signed_u32 max_u32 signed_u64 max_u64
/-! ### laws_FnBFWidth: function 3 -/
def laws_FnBFWidth.f (a0 : Int) (a1 : Int) (a2 : Int) : Option (Bool) := (laws_rwAt.f a0 62).bind fun t106 => ((laws_rwAt.f a1 (wrap64 (63 - (wrap64 (1 + t106))))).bind fun t107 => ((spec_Run.f (IntKind.u64.wrap (t107)) (IntKind.u64.wrap (wrap64 (1 + t106)))).bind fun t108 => ((spec_Low.f (IntKind.u64.wrap (a2)) (IntKind.u64.wrap (t107))).bind fun t109 => ((impl_BFWidth.f (wrap64 (Go.bits .or .u64 t108 t109)) t107).bind fun t110 => (some (t110 == (wrap64 (1 + t106))))))))
set_option maxHeartbeats 8000000 in
set_option maxRecDepth 100000 in
theorem laws_FnBFWidth.calls (a0 : Int) (a1 : Int) (a2 : Int) (r : Bool) (w : World) (hT : Tab0 w false) (h : laws_FnBFWidth.f a0 a1 a2 = some r) :
    Calls Tryd.prog 3 #[.int .i64 a0, .int .i64 a1, .int .i64 a2] w fun e w' => e = .returned (.bool r) ∧ Drawn0 w w' := by
  have H : ((laws_rwAt.f a0 62).bind fun t106 => ((laws_rwAt.f a1 (wrap64 (63 - (wrap64 (1 + t106))))).bind fun t107 => ((spec_Run.f (IntKind.u64.wrap (t107)) (IntKind.u64.wrap (wrap64 (1 + t106)))).bind fun t108 => ((spec_Low.f (IntKind.u64.wrap (a2)) (IntKind.u64.wrap (t107))).bind fun t109 => ((impl_BFWidth.f (wrap64 (Go.bits .or .u64 t108 t109)) t107).bind fun t110 => (some (t110 == (wrap64 (1 + t106))))))))) = some r := h
  clear h
  replace H := Option.bind_eq_some_iff.mp H
  obtain ⟨t106, A40, H⟩ := H
  replace H : ((laws_rwAt.f a1 (wrap64 (63 - (wrap64 (1 + t106))))).bind fun t107 => ((spec_Run.f (IntKind.u64.wrap (t107)) (IntKind.u64.wrap (wrap64 (1 + t106)))).bind fun t108 => ((spec_Low.f (IntKind.u64.wrap (a2)) (IntKind.u64.wrap (t107))).bind fun t109 => ((impl_BFWidth.f (wrap64 (Go.bits .or .u64 t108 t109)) t107).bind fun t110 => (some (t110 == (wrap64 (1 + t106)))))))) = some r := H
  have A4 := Aside0.mk A40
  clear A40
  replace H := Option.bind_eq_some_iff.mp H
  obtain ⟨t107, A50, H⟩ := H
  replace H : ((spec_Run.f (IntKind.u64.wrap (t107)) (IntKind.u64.wrap (wrap64 (1 + t106)))).bind fun t108 => ((spec_Low.f (IntKind.u64.wrap (a2)) (IntKind.u64.wrap (t107))).bind fun t109 => ((impl_BFWidth.f (wrap64 (Go.bits .or .u64 t108 t109)) t107).bind fun t110 => (some (t110 == (wrap64 (1 + t106))))))) = some r := H
  have A5 := Aside0.mk A50
  clear A50
  replace H := Option.bind_eq_some_iff.mp H
  obtain ⟨t108, A60, H⟩ := H
  replace H : ((spec_Low.f (IntKind.u64.wrap (a2)) (IntKind.u64.wrap (t107))).bind fun t109 => ((impl_BFWidth.f (wrap64 (Go.bits .or .u64 t108 t109)) t107).bind fun t110 => (some (t110 == (wrap64 (1 + t106)))))) = some r := H
  have A6 := Aside0.mk A60
  clear A60
  replace H := Option.bind_eq_some_iff.mp H
  obtain ⟨t109, A70, H⟩ := H
  replace H : ((impl_BFWidth.f (wrap64 (Go.bits .or .u64 t108 t109)) t107).bind fun t110 => (some (t110 == (wrap64 (1 + t106))))) = some r := H
  have A7 := Aside0.mk A70
  clear A70
  replace H := Option.bind_eq_some_iff.mp H
  obtain ⟨t110, A80, H⟩ := H
  replace H : (some (t110 == (wrap64 (1 + t106)))) = some r := H
  have A8 := Aside0.mk A80
  clear A80
  obtain rfl := Option.some.inj H
  go_enter Tryd.func3, Tryd.ntmps3
  go_wp2_with (first | ((with_reducible refine gate_callee (f := 6) rfl ?_); refine goesL_ (some 11) rfl rfl Tryd.func6 (by kernel_rfl) rfl #[.int .i64 a0, .int .i64 62] rfl (by (try simp only [List.map_toArray, List.map_cons, List.map_nil]); first | done | rfl | (simp only [List.length_drop, List.length_take]; rfl)) ?_; (with_reducible refine (laws_rwAt.calls a0 62 t106 _ A4.out).mono ?_); rintro e w' ⟨rfl, ⟨nd, rfl⟩⟩; refine ⟨_, rfl, ?_⟩) | ((with_reducible refine gate_callee (f := 6) rfl ?_); refine goesL_ (some 16) rfl rfl Tryd.func6 (by kernel_rfl) rfl #[.int .i64 a1, .int .i64 (wrap64 (63 - (wrap64 (1 + t106))))] rfl (by (try simp only [List.map_toArray, List.map_cons, List.map_nil]); first | done | rfl | (simp only [List.length_drop, List.length_take]; rfl)) ?_; (with_reducible refine (laws_rwAt.calls a1 (wrap64 (63 - (wrap64 (1 + t106)))) t107 _ A5.out).mono ?_); rintro e w' ⟨rfl, ⟨nd, rfl⟩⟩; refine ⟨_, rfl, ?_⟩) | ((with_reducible refine gate_callee (f := 7) rfl ?_); refine goesL_ (some 21) rfl rfl Tryd.func7 (by kernel_rfl) rfl #[.int .u64 (IntKind.u64.wrap (t107)), .int .u64 (IntKind.u64.wrap (wrap64 (1 + t106)))] rfl (by (try simp only [List.map_toArray, List.map_cons, List.map_nil]); first | done | rfl | (simp only [List.length_drop, List.length_take]; rfl)) ?_; (with_reducible refine (spec_Run.calls (IntKind.u64.wrap (t107)) (IntKind.u64.wrap (wrap64 (1 + t106))) t108 _ A6.out).mono ?_); rintro e w' ⟨rfl, ⟨nd, rfl⟩⟩; refine ⟨_, rfl, ?_⟩) | ((with_reducible refine gate_callee (f := 8) rfl ?_); refine goesL_ (some 26) rfl rfl Tryd.func8 (by kernel_rfl) rfl #[.int .u64 (IntKind.u64.wrap (a2)), .int .u64 (IntKind.u64.wrap (t107))] rfl (by (try simp only [List.map_toArray, List.map_cons, List.map_nil]); first | done | rfl | (simp only [List.length_drop, List.length_take]; rfl)) ?_; (with_reducible refine (spec_Low.calls (IntKind.u64.wrap (a2)) (IntKind.u64.wrap (t107)) t109 _ A7.out).mono ?_); rintro e w' ⟨rfl, ⟨nd, rfl⟩⟩; refine ⟨_, rfl, ?_⟩) | ((with_reducible refine gate_callee (f := 9) rfl ?_); refine goesL_ (some 31) rfl rfl Tryd.func9 (by kernel_rfl) rfl #[.int .i64 (wrap64 (Go.bits .or .u64 t108 t109)), .int .i64 t107] rfl (by (try simp only [List.map_toArray, List.map_cons, List.map_nil]); first | done | rfl | (simp only [List.length_drop, List.length_take]; rfl)) ?_; (with_reducible refine (impl_BFWidth.calls (wrap64 (Go.bits .or .u64 t108 t109)) t107 t110 _ (by first | exact hT | exact hT.drewN _ | exact (hT.drewN _).drewN _ | exact ((hT.drewN _).drewN _).drewN _) A8.out).mono ?_); rintro e w' ⟨rfl, ⟨nd, rfl⟩⟩; refine ⟨_, rfl, ?_⟩))
  go_ret
  exact ⟨by first | rfl | (simp; done) | (simp [*]; done), by repeat (first | exact Drawn0.refl _ | apply Drawn0.step)⟩

/-- THE ONE PURE STATEMENT of laws_FnBFWidth: yours. -/
def laws_FnBFWidth.Pure : Prop := ∀ (a0 : Int) (a1 : Int) (a2 : Int), (Lit.int .i64 a0).wf = true → (Lit.int .i64 a1).wf = true → (Lit.int .i64 a2).wf = true → laws_FnBFWidth.f a0 a1 a2 = some true
theorem laws_FnBFWidth.walk (P : laws_FnBFWidth.Pure) (a0 : Int) (a1 : Int) (a2 : Int) (w : World) (hT : Tab0 w false) (w0 : (Lit.int .i64 a0).wf = true) (w1 : (Lit.int .i64 a1).wf = true) (w2 : (Lit.int .i64 a2).wf = true) :
    Calls Tryd.prog 3 #[.int .i64 a0, .int .i64 a1, .int .i64 a2] w fun e w' => e = .returned (.bool true) ∧ Below w.heap.size w w' := by
  have h := P a0 a1 a2 w0 w1 w2
  refine (laws_FnBFWidth.calls a0 a1 a2 true w hT h).mono ?_
  rintro e w' ⟨rfl, hd⟩
  exact ⟨rfl, hd.below⟩

end Go.Proofs.YtcihkjjejckicaaDoor.PFnBFWidth
