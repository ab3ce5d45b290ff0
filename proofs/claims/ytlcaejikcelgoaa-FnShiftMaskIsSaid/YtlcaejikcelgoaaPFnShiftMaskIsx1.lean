-- Written by a program of this session out of the translation (wip/pp.py): Lean checks it.
import Derived.Test.YtlcaejikcelgoaaPFnShiftMaskIsx0
namespace Go.Proofs.Ytlcaejikcelgoaa.PFnShiftMaskIs
open Go.RowKit Go.Proofs.YtlcaejikcelgoaaW.PrintWords Go.Proofs.YtlcaejikcelgoaaW.PrintLast Go.Proofs.YtlcaejikcelgoaaW.PrintMore
attribute [local go_sem] max2_int min2_int max_two min_two max_three min_three max_four min_four   -- for this text's walks alone
set_option linter.unusedVariables false
set_option linter.unusedSimpArgs false

attribute [local go_sem] signed_u32 max_u32 signed_u64 max_u64
/-! ### spec_bit: function 15 -/
def spec_bit.f (a0 : Int) (a1 : Int) : Option (Int) := if 0 ≤ a1 then (some (Int.tmod (shr .u64 a0 a1) 2)) else (none)
set_option maxHeartbeats 8000000 in
set_option maxRecDepth 100000 in
theorem spec_bit.calls (a0 : Int) (a1 : Int) (r : Int) (w : World) (h : spec_bit.f a0 a1 = some r) :
    Calls Try.prog 15 #[.int .u64 a0, .int .u64 a1] w fun e w' => e = .returned (.int .u64 r) ∧ Drawn0 w w' := by
  have H : (if 0 ≤ a1 then (some (Int.tmod (shr .u64 a0 a1) 2)) else (none)) = some r := h
  clear h
  by_cases c3 : 0 ≤ a1
  · rw [if_pos c3] at H
    have c3b0 := eq_true c3
    have c3b1 : decide (0 ≤ a1) = true := decide_eq_true c3
    clear c3
    obtain ⟨ji4, hji4⟩ : ∃ j_ : Int, (shr .u64 a0 a1) = j_ := ⟨_, rfl⟩
    replace H : (some (Int.tmod (ji4) 2)) = some r := by first | (rw [hji4] at H; exact H) | (simp only [hji4] at H ⊢; exact H)
    have hji4_ : (a0 / 2 ^ min a1.toNat 64) = ji4 := hji4
    have hji4z : a1 ≤ 64 → (a0 / 2 ^ a1.toNat) = ji4 := shr_small hji4
    obtain rfl := Option.some.inj H
    go_enter Try.func15, Try.ntmps15
    go_wp2
    go_ret
    exact ⟨by first | rfl | (simp; done) | (simp only [← hji4] <;> (first | rfl | simp)) | (simp [*]; done), by repeat (first | exact Drawn0.refl _ | apply Drawn0.step)⟩
  · rw [if_neg c3] at H
    exact absurd H (by simp)

attribute [local go_sem] signed_u32 max_u32 signed_u64 max_u64
/-! ### spec_IsRun: function 9 -/
def spec_IsRun.l0 : Nat → Int → Int → Int → Option (Bool)
  | 0, _, _, _ => none
  | k + 1, x0, x3, x5 => if x5 < 64 then ((spec_bit.f x0 x5).bind fun t101 => (if t101 = 1 then (if x5 = 0 then (spec_IsRun.l0 k x0 (wrap64 (x3 + 1)) (IntKind.u64.wrap (x5 + 1))) else ((spec_bit.f x0 (IntKind.u64.wrap (x5 - 1))).bind fun t102 => (if t102 = 0 then (spec_IsRun.l0 k x0 (wrap64 (x3 + 1)) (IntKind.u64.wrap (x5 + 1))) else (spec_IsRun.l0 k x0 x3 (IntKind.u64.wrap (x5 + 1)))))) else (spec_IsRun.l0 k x0 x3 (IntKind.u64.wrap (x5 + 1))))) else (some (x3 == 1))
def spec_IsRun.f (k : Nat) (a0 : Int) : Option (Bool) := spec_IsRun.l0 k a0 0 0
theorem spec_IsRun.mono_l : ∀ k, (∀ y0 y1 y2, LeO (spec_IsRun.l0 k y0 y1 y2) (spec_IsRun.l0 (k + 1) y0 y1 y2))
  | 0 => fun _ _ _ r h => by simp [spec_IsRun.l0] at h
  | k + 1 => by
    have ih0 := spec_IsRun.mono_l k
    · intro y0 y1 y2
      unfold spec_IsRun.l0
      repeat' first
      | (with_reducible exact ih0 _ _ _)
      | (with_reducible exact LeO.refl _)
      | (with_reducible exact LeO.none _)
      | (with_reducible refine LeO.ite ?_ ?_)
      | (with_reducible refine LeO.bind ?_ (fun _ => ?_))
      | exact ih0 _ _ _
      | exact LeO.none _
      | refine LeO.ite ?_ ?_
      | refine LeO.bind ?_ (fun _ => ?_)
theorem spec_IsRun.mono : ∀ a0 k, LeO (spec_IsRun.f k a0) (spec_IsRun.f (k + 1) a0) := by
  intro a0 k
  have ih0 := spec_IsRun.mono_l k
  unfold spec_IsRun.f
  repeat' first
      | (with_reducible exact ih0 _ _ _)
      | (with_reducible exact LeO.refl _)
      | (with_reducible exact LeO.none _)
      | (with_reducible refine LeO.ite ?_ ?_)
      | (with_reducible refine LeO.bind ?_ (fun _ => ?_))
      | exact ih0 _ _ _
      | exact LeO.none _
      | refine LeO.ite ?_ ?_
      | refine LeO.bind ?_ (fun _ => ?_)
set_option maxHeartbeats 8000000 in
set_option maxRecDepth 100000 in
theorem spec_IsRun.calls (k : Nat) (a0 : Int) (r : Bool) (w : World) (h : spec_IsRun.f k a0 = some r) :
    Calls Try.prog 9 #[.int .u64 a0] w fun e w' => e = .returned (.bool r) ∧ Drawn0 w w' := by
  have H : (spec_IsRun.l0 k a0 0 0) = some r := h
  clear h
  have H' := Aside0.mk H
  clear H
  go_enter Try.func9, Try.ntmps9
  go_wp2
  go_loopg [3, 5] k (fun kq v3 v5 w' => ∃ (x3_1 : Int) (x5_1 : Int), v3 = .int .i64 x3_1 ∧ v5 = .int .u64 x5_1 ∧ Aside0 (spec_IsRun.l0 kq a0 x3_1 x5_1 = some r) ∧ Aside0 (kq ≤ k) ∧ Drawn0 w w')
  case atStart => exact ⟨(0), (0), (by first | rfl | (simp; done) | (simp [*]; done)), (by first | rfl | (simp; done) | (simp [*]; done)), H', ⟨Nat.le_refl _⟩, by repeat (first | exact Drawn0.refl _ | apply Drawn0.step)⟩
  case round =>
    clear H'
    obtain ⟨x3_1, x5_1, rfl, rfl, HA, HK1, ⟨m1, rfl⟩⟩ := hrel
    cases gk with
    | zero => exact absurd HA.out (by simp [spec_IsRun.l0])
    | succ k1 =>
      have H := HA.out
      clear HA
      simp only [spec_IsRun.l0] at H
      by_cases c2 : x5_1 < 64
      · rw [if_pos c2] at H
        have c2b0 : decide (x5_1 < 64) = true := decide_eq_true c2
        clear c2
        replace H := Option.bind_eq_some_iff.mp H
        obtain ⟨t101, A30, H⟩ := H
        replace H : (if t101 = 1 then (if x5_1 = 0 then (spec_IsRun.l0 k1 a0 (wrap64 (x3_1 + 1)) (IntKind.u64.wrap (x5_1 + 1))) else ((spec_bit.f a0 (IntKind.u64.wrap (x5_1 - 1))).bind fun t102 => (if t102 = 0 then (spec_IsRun.l0 k1 a0 (wrap64 (x3_1 + 1)) (IntKind.u64.wrap (x5_1 + 1))) else (spec_IsRun.l0 k1 a0 x3_1 (IntKind.u64.wrap (x5_1 + 1)))))) else (spec_IsRun.l0 k1 a0 x3_1 (IntKind.u64.wrap (x5_1 + 1)))) = some r := H
        have A3 := Aside0.mk A30
        clear A30
        by_cases c4 : t101 = 1
        · rw [if_pos c4] at H
          have c4b0 : (t101 == 1) = true := beq_iff_eq.mpr c4
          have c4b1 : (t101 != 1) = false := bne_eq_false_iff_eq.mpr c4
          clear c4
          by_cases c5 : x5_1 = 0
          · rw [if_pos c5] at H
            have c5b0 : (x5_1 == 0) = true := beq_iff_eq.mpr c5
            have c5b1 : (x5_1 != 0) = false := bne_eq_false_iff_eq.mpr c5
            clear c5
            have H' := Aside0.mk H
            clear H
            go_wp2_with (first | ((with_reducible refine gate_callee (f := 15) rfl ?_); refine goesL_ (some 10) rfl rfl Try.func15 (by kernel_rfl) rfl #[.int .u64 a0, .int .u64 x5_1] rfl (by (try simp only [List.map_toArray, List.map_cons, List.map_nil]); first | done | rfl | (simp only [List.length_drop, List.length_take]; rfl)) ?_; (with_reducible refine (spec_bit.calls a0 x5_1 t101 _ A3.out).mono ?_); rintro e w' ⟨rfl, ⟨nd, rfl⟩⟩; refine ⟨_, rfl, ?_⟩))
            go_roundg k1
            case measure => have := HK1.out; omega
            case rel => exact ⟨(wrap64 (x3_1 + 1)), (IntKind.u64.wrap (x5_1 + 1)), (by first | rfl | (simp; done) | (simp [*]; done)), (by first | rfl | (simp; done) | (simp [*]; done)), H', ⟨by have := HK1.out; omega⟩, by repeat (first | exact Drawn0.refl _ | apply Drawn0.step)⟩
          · rw [if_neg c5] at H
            have c5b0 : (x5_1 == 0) = false := beq_eq_false_iff_ne.mpr c5
            have c5b1 : (x5_1 != 0) = true := bne_iff_ne.mpr c5
            replace H := Option.bind_eq_some_iff.mp H
            obtain ⟨t102, A60, H⟩ := H
            replace H : (if t102 = 0 then (spec_IsRun.l0 k1 a0 (wrap64 (x3_1 + 1)) (IntKind.u64.wrap (x5_1 + 1))) else (spec_IsRun.l0 k1 a0 x3_1 (IntKind.u64.wrap (x5_1 + 1)))) = some r := H
            have A6 := Aside0.mk A60
            clear A60
            by_cases c7 : t102 = 0
            · rw [if_pos c7] at H
              have c7b0 : (t102 == 0) = true := beq_iff_eq.mpr c7
              have c7b1 : (t102 != 0) = false := bne_eq_false_iff_eq.mpr c7
              clear c7
              have H' := Aside0.mk H
              clear H
              go_wp2_with (first | ((with_reducible refine gate_callee (f := 15) rfl ?_); refine goesL_ (some 10) rfl rfl Try.func15 (by kernel_rfl) rfl #[.int .u64 a0, .int .u64 x5_1] rfl (by (try simp only [List.map_toArray, List.map_cons, List.map_nil]); first | done | rfl | (simp only [List.length_drop, List.length_take]; rfl)) ?_; (with_reducible refine (spec_bit.calls a0 x5_1 t101 _ A3.out).mono ?_); rintro e w' ⟨rfl, ⟨nd, rfl⟩⟩; refine ⟨_, rfl, ?_⟩) | (go_at_call 15; (with_reducible refine (spec_bit.calls a0 (IntKind.u64.wrap (x5_1 - 1)) t102 _ A6.out).mono ?_); rintro e w' ⟨rfl, ⟨nd, rfl⟩⟩))
              go_roundg k1
              case measure => have := HK1.out; omega
              case rel => exact ⟨(wrap64 (x3_1 + 1)), (IntKind.u64.wrap (x5_1 + 1)), (by first | rfl | (simp; done) | (simp [*]; done)), (by first | rfl | (simp; done) | (simp [*]; done)), H', ⟨by have := HK1.out; omega⟩, by repeat (first | exact Drawn0.refl _ | apply Drawn0.step)⟩
            · rw [if_neg c7] at H
              have c7b0 : (t102 == 0) = false := beq_eq_false_iff_ne.mpr c7
              have c7b1 : (t102 != 0) = true := bne_iff_ne.mpr c7
              have H' := Aside0.mk H
              clear H
              go_wp2_with (first | ((with_reducible refine gate_callee (f := 15) rfl ?_); refine goesL_ (some 10) rfl rfl Try.func15 (by kernel_rfl) rfl #[.int .u64 a0, .int .u64 x5_1] rfl (by (try simp only [List.map_toArray, List.map_cons, List.map_nil]); first | done | rfl | (simp only [List.length_drop, List.length_take]; rfl)) ?_; (with_reducible refine (spec_bit.calls a0 x5_1 t101 _ A3.out).mono ?_); rintro e w' ⟨rfl, ⟨nd, rfl⟩⟩; refine ⟨_, rfl, ?_⟩) | (go_at_call 15; (with_reducible refine (spec_bit.calls a0 (IntKind.u64.wrap (x5_1 - 1)) t102 _ A6.out).mono ?_); rintro e w' ⟨rfl, ⟨nd, rfl⟩⟩))
              go_roundg k1
              case measure => have := HK1.out; omega
              case rel => exact ⟨(x3_1), (IntKind.u64.wrap (x5_1 + 1)), (by first | rfl | (simp; done) | (simp [*]; done)), (by first | rfl | (simp; done) | (simp [*]; done)), H', ⟨by have := HK1.out; omega⟩, by repeat (first | exact Drawn0.refl _ | apply Drawn0.step)⟩
        · rw [if_neg c4] at H
          have c4b0 : (t101 == 1) = false := beq_eq_false_iff_ne.mpr c4
          have c4b1 : (t101 != 1) = true := bne_iff_ne.mpr c4
          have H' := Aside0.mk H
          clear H
          go_wp2_with (first | ((with_reducible refine gate_callee (f := 15) rfl ?_); refine goesL_ (some 10) rfl rfl Try.func15 (by kernel_rfl) rfl #[.int .u64 a0, .int .u64 x5_1] rfl (by (try simp only [List.map_toArray, List.map_cons, List.map_nil]); first | done | rfl | (simp only [List.length_drop, List.length_take]; rfl)) ?_; (with_reducible refine (spec_bit.calls a0 x5_1 t101 _ A3.out).mono ?_); rintro e w' ⟨rfl, ⟨nd, rfl⟩⟩; refine ⟨_, rfl, ?_⟩))
          go_roundg k1
          case measure => have := HK1.out; omega
          case rel => exact ⟨(x3_1), (IntKind.u64.wrap (x5_1 + 1)), (by first | rfl | (simp; done) | (simp [*]; done)), (by first | rfl | (simp; done) | (simp [*]; done)), H', ⟨by have := HK1.out; omega⟩, by repeat (first | exact Drawn0.refl _ | apply Drawn0.step)⟩
      · rw [if_neg c2] at H
        have c2b0 : decide (x5_1 < 64) = false := decide_eq_false c2
        clear c2
        obtain rfl := Option.some.inj H
        go_wp2
        go_ret
        exact ⟨by first | rfl | (simp; done) | (simp [*]; done), by repeat (first | exact Drawn0.refl _ | apply Drawn0.step)⟩

attribute [local go_sem] signed_u32 max_u32 signed_u64 max_u64
/-! ### ssarewrite_isPPC64ValidShiftMask: function 19 -/
def ssarewrite_isPPC64ValidShiftMask.f (a0 : Int) : Option (Bool) := if a0 = 0 then (some false) else (if (Go.bits .and .i64 (wrap64 (a0 + 1)) a0) = 0 then (some true) else (some false))
set_option maxHeartbeats 8000000 in
set_option maxRecDepth 100000 in
theorem ssarewrite_isPPC64ValidShiftMask.calls (a0 : Int) (r : Bool) (w : World) (h : ssarewrite_isPPC64ValidShiftMask.f a0 = some r) :
    Calls Try.prog 19 #[.int .i64 a0] w fun e w' => e = .returned (.bool r) ∧ Drawn0 w w' := by
  have H : (if a0 = 0 then (some false) else (if (Go.bits .and .i64 (wrap64 (a0 + 1)) a0) = 0 then (some true) else (some false))) = some r := h
  clear h
  by_cases c2 : a0 = 0
  · rw [if_pos c2] at H
    have c2b0 : (a0 == 0) = true := beq_iff_eq.mpr c2
    have c2b1 : (a0 != 0) = false := bne_eq_false_iff_eq.mpr c2
    clear c2
    obtain rfl := Option.some.inj H
    go_enter Try.func19, Try.ntmps19
    go_wp2
    go_ret
    exact ⟨by first | rfl | (simp; done) | (simp [*]; done), by repeat (first | exact Drawn0.refl _ | apply Drawn0.step)⟩
  · rw [if_neg c2] at H
    have c2b0 : (a0 == 0) = false := beq_eq_false_iff_ne.mpr c2
    have c2b1 : (a0 != 0) = true := bne_iff_ne.mpr c2
    by_cases c3 : (Go.bits .and .i64 (wrap64 (a0 + 1)) a0) = 0
    · rw [if_pos c3] at H
      have c3b0 : ((Go.bits .and .i64 (wrap64 (a0 + 1)) a0) == 0) = true := beq_iff_eq.mpr c3
      have c3b1 : ((Go.bits .and .i64 (wrap64 (a0 + 1)) a0) != 0) = false := bne_eq_false_iff_eq.mpr c3
      clear c3
      obtain rfl := Option.some.inj H
      go_enter Try.func19, Try.ntmps19
      go_wp2
      go_ret
      exact ⟨by first | rfl | (simp; done) | (simp [*]; done), by repeat (first | exact Drawn0.refl _ | apply Drawn0.step)⟩
    · rw [if_neg c3] at H
      have c3b0 : ((Go.bits .and .i64 (wrap64 (a0 + 1)) a0) == 0) = false := beq_eq_false_iff_ne.mpr c3
      have c3b1 : ((Go.bits .and .i64 (wrap64 (a0 + 1)) a0) != 0) = true := bne_iff_ne.mpr c3
      obtain rfl := Option.some.inj H
      go_enter Try.func19, Try.ntmps19
      go_wp2
      go_ret
      exact ⟨by first | rfl | (simp; done) | (simp [*]; done), by repeat (first | exact Drawn0.refl _ | apply Drawn0.step)⟩

attribute [local go_sem] signed_u32 max_u32 signed_u64 max_u64
/-! ### ssarewrite_ZZIsPPC64ValidShiftMask: function 16 -/
def ssarewrite_ZZIsPPC64ValidShiftMask.f (a0 : Int) : Option (Bool) := (ssarewrite_isPPC64ValidShiftMask.f a0).bind fun t103 => (some t103)
set_option maxHeartbeats 8000000 in
set_option maxRecDepth 100000 in
theorem ssarewrite_ZZIsPPC64ValidShiftMask.calls (a0 : Int) (r : Bool) (w : World) (h : ssarewrite_ZZIsPPC64ValidShiftMask.f a0 = some r) :
    Calls Try.prog 16 #[.int .i64 a0] w fun e w' => e = .returned (.bool r) ∧ Drawn0 w w' := by
  have H : ((ssarewrite_isPPC64ValidShiftMask.f a0).bind fun t103 => (some t103)) = some r := h
  clear h
  replace H := Option.bind_eq_some_iff.mp H
  obtain ⟨t103, A20, H⟩ := H
  replace H : (some t103) = some r := H
  have A2 := Aside0.mk A20
  clear A20
  obtain rfl := Option.some.inj H
  go_enter Try.func16, Try.ntmps16
  go_wp2_with (first | ((with_reducible refine gate_callee (f := 19) rfl ?_); refine goesL_ (some 4) rfl rfl Try.func19 (by kernel_rfl) rfl #[.int .i64 a0] rfl (by (try simp only [List.map_toArray, List.map_cons, List.map_nil]); first | done | rfl | (simp only [List.length_drop, List.length_take]; rfl)) ?_; (with_reducible refine (ssarewrite_isPPC64ValidShiftMask.calls a0 t103 _ A2.out).mono ?_); rintro e w' ⟨rfl, ⟨nd, rfl⟩⟩; refine ⟨_, rfl, ?_⟩))
  go_ret
  exact ⟨by first | rfl | (simp; done) | (simp [*]; done), by repeat (first | exact Drawn0.refl _ | apply Drawn0.step)⟩

attribute [local go_sem] signed_u32 max_u32 signed_u64 max_u64
/-! ### impl_IsValidShiftMask: function 10 -/
def impl_IsValidShiftMask.f (a0 : Int) : Option (Bool) := (ssarewrite_ZZIsPPC64ValidShiftMask.f a0).bind fun t104 => (some t104)
set_option maxHeartbeats 8000000 in
set_option maxRecDepth 100000 in
theorem impl_IsValidShiftMask.calls (a0 : Int) (r : Bool) (w : World) (h : impl_IsValidShiftMask.f a0 = some r) :
    Calls Try.prog 10 #[.int .i64 a0] w fun e w' => e = .returned (.bool r) ∧ Drawn0 w w' := by
  have H : ((ssarewrite_ZZIsPPC64ValidShiftMask.f a0).bind fun t104 => (some t104)) = some r := h
  clear h
  replace H := Option.bind_eq_some_iff.mp H
  obtain ⟨t104, A20, H⟩ := H
  replace H : (some t104) = some r := H
  have A2 := Aside0.mk A20
  clear A20
  obtain rfl := Option.some.inj H
  go_enter Try.func10, Try.ntmps10
  go_wp2_with (first | ((with_reducible refine gate_callee (f := 16) rfl ?_); refine goesL_ (some 4) rfl rfl Try.func16 (by kernel_rfl) rfl #[.int .i64 a0] rfl (by (try simp only [List.map_toArray, List.map_cons, List.map_nil]); first | done | rfl | (simp only [List.length_drop, List.length_take]; rfl)) ?_; (with_reducible refine (ssarewrite_ZZIsPPC64ValidShiftMask.calls a0 t104 _ A2.out).mono ?_); rintro e w' ⟨rfl, ⟨nd, rfl⟩⟩; refine ⟨_, rfl, ?_⟩))
  go_ret
  exact ⟨by first | rfl | (simp; done) | (simp [*]; done), by repeat (first | exact Drawn0.refl _ | apply Drawn0.step)⟩

def bits_Len64.f (a0 : Int) : Option (Int) := if 0 ≤ a0 ∧ a0 ≤ 18446744073709551615 then some (Lib.bitLen a0.toNat : Int) else none
theorem bits_Len64.calls (a0 : Int) (r : Int) (w : World) (h : bits_Len64.f a0 = some r) :
    Calls Try.prog 21 #[.int .u64 a0] w fun e w' => e = .returned (.int .i64 r) ∧ Drawn0 w w' := by
  unfold bits_Len64.f at h
  split at h
  · rename_i hb
    obtain rfl := Option.some.inj h
    refine (Try.bits_Len64 a0 w hb.1 hb.2).mono ?_
    rintro e w' ⟨rfl, rfl⟩
    exact ⟨by first | rfl | (simp; done) | (congr 2; omega), Drawn0.refl _⟩
  · cases h

attribute [local go_sem] signed_u32 max_u32 signed_u64 max_u64
/-! ### ssarewrite_getPPC64ShiftMaskLength: function 20 -/
def ssarewrite_getPPC64ShiftMaskLength.f (a0 : Int) : Option (Int) := (bits_Len64.f (IntKind.u64.wrap (a0))).bind fun t105 => (some t105)
set_option maxHeartbeats 8000000 in
set_option maxRecDepth 100000 in
theorem ssarewrite_getPPC64ShiftMaskLength.calls (a0 : Int) (r : Int) (w : World) (h : ssarewrite_getPPC64ShiftMaskLength.f a0 = some r) :
    Calls Try.prog 20 #[.int .i64 a0] w fun e w' => e = .returned (.int .i64 r) ∧ Drawn0 w w' := by
  have H : ((bits_Len64.f (IntKind.u64.wrap (a0))).bind fun t105 => (some t105)) = some r := h
  clear h
  replace H := Option.bind_eq_some_iff.mp H
  obtain ⟨t105, A20, H⟩ := H
  replace H : (some t105) = some r := H
  have A2 := Aside0.mk A20
  clear A20
  obtain rfl := Option.some.inj H
  go_enter Try.func20, Try.ntmps20
  go_wp2_with (first | ((with_reducible refine gate_callee (f := 21) rfl ?_); refine goesL_ (some 5) rfl rfl Try.func21 (by kernel_rfl) rfl #[.int .u64 (IntKind.u64.wrap (a0))] rfl (by (try simp only [List.map_toArray, List.map_cons, List.map_nil]); first | done | rfl | (simp only [List.length_drop, List.length_take]; rfl)) ?_; (with_reducible refine (bits_Len64.calls (IntKind.u64.wrap (a0)) t105 _ A2.out).mono ?_); rintro e w' ⟨rfl, ⟨nd, rfl⟩⟩; refine ⟨_, rfl, ?_⟩))
  go_ret
  exact ⟨by first | rfl | (simp; done) | (simp [*]; done), by repeat (first | exact Drawn0.refl _ | apply Drawn0.step)⟩

attribute [local go_sem] signed_u32 max_u32 signed_u64 max_u64
/-! ### ssarewrite_ZZGetPPC64ShiftMaskLength: function 17 -/
def ssarewrite_ZZGetPPC64ShiftMaskLength.f (a0 : Int) : Option (Int) := (ssarewrite_getPPC64ShiftMaskLength.f a0).bind fun t106 => (some t106)
set_option maxHeartbeats 8000000 in
set_option maxRecDepth 100000 in
theorem ssarewrite_ZZGetPPC64ShiftMaskLength.calls (a0 : Int) (r : Int) (w : World) (h : ssarewrite_ZZGetPPC64ShiftMaskLength.f a0 = some r) :
    Calls Try.prog 17 #[.int .i64 a0] w fun e w' => e = .returned (.int .i64 r) ∧ Drawn0 w w' := by
  have H : ((ssarewrite_getPPC64ShiftMaskLength.f a0).bind fun t106 => (some t106)) = some r := h
  clear h
  replace H := Option.bind_eq_some_iff.mp H
  obtain ⟨t106, A20, H⟩ := H
  replace H : (some t106) = some r := H
  have A2 := Aside0.mk A20
  clear A20
  obtain rfl := Option.some.inj H
  go_enter Try.func17, Try.ntmps17
  go_wp2_with (first | ((with_reducible refine gate_callee (f := 20) rfl ?_); refine goesL_ (some 4) rfl rfl Try.func20 (by kernel_rfl) rfl #[.int .i64 a0] rfl (by (try simp only [List.map_toArray, List.map_cons, List.map_nil]); first | done | rfl | (simp only [List.length_drop, List.length_take]; rfl)) ?_; (with_reducible refine (ssarewrite_getPPC64ShiftMaskLength.calls a0 t106 _ A2.out).mono ?_); rintro e w' ⟨rfl, ⟨nd, rfl⟩⟩; refine ⟨_, rfl, ?_⟩))
  go_ret
  exact ⟨by first | rfl | (simp; done) | (simp [*]; done), by repeat (first | exact Drawn0.refl _ | apply Drawn0.step)⟩

attribute [local go_sem] signed_u32 max_u32 signed_u64 max_u64
/-! ### impl_ShiftMaskLength: function 11 -/
def impl_ShiftMaskLength.f (a0 : Int) : Option (Int) := (ssarewrite_ZZGetPPC64ShiftMaskLength.f a0).bind fun t107 => (some t107)
set_option maxHeartbeats 8000000 in
set_option maxRecDepth 100000 in
theorem impl_ShiftMaskLength.calls (a0 : Int) (r : Int) (w : World) (h : impl_ShiftMaskLength.f a0 = some r) :
    Calls Try.prog 11 #[.int .i64 a0] w fun e w' => e = .returned (.int .i64 r) ∧ Drawn0 w w' := by
  have H : ((ssarewrite_ZZGetPPC64ShiftMaskLength.f a0).bind fun t107 => (some t107)) = some r := h
  clear h
  replace H := Option.bind_eq_some_iff.mp H
  obtain ⟨t107, A20, H⟩ := H
  replace H : (some t107) = some r := H
  have A2 := Aside0.mk A20
  clear A20
  obtain rfl := Option.some.inj H
  go_enter Try.func11, Try.ntmps11
  go_wp2_with (first | ((with_reducible refine gate_callee (f := 17) rfl ?_); refine goesL_ (some 4) rfl rfl Try.func17 (by kernel_rfl) rfl #[.int .i64 a0] rfl (by (try simp only [List.map_toArray, List.map_cons, List.map_nil]); first | done | rfl | (simp only [List.length_drop, List.length_take]; rfl)) ?_; (with_reducible refine (ssarewrite_ZZGetPPC64ShiftMaskLength.calls a0 t107 _ A2.out).mono ?_); rintro e w' ⟨rfl, ⟨nd, rfl⟩⟩; refine ⟨_, rfl, ?_⟩))
  go_ret
  exact ⟨by first | rfl | (simp; done) | (simp [*]; done), by repeat (first | exact Drawn0.refl _ | apply Drawn0.step)⟩

attribute [local go_sem] signed_u32 max_u32 signed_u64 max_u64
/-! ### spec_Ones: function 12 -/
def spec_Ones.l0 : Nat → Int → Int → Int → Int → Option (Int)
  | 0, _, _, _, _ => none
  | k + 1, x0, x5, x7, x8 => if x8 < x7 then ((spec_bit.f x0 x8).bind fun t108 => (spec_Ones.l0 k x0 (wrap64 (x5 + (wrap64 (t108)))) x7 (IntKind.u64.wrap (x8 + 1)))) else (some x5)
def spec_Ones.f (k : Nat) (a0 : Int) (a1 : Int) : Option (Int) := spec_Ones.l0 k a0 0 a1 0
theorem spec_Ones.mono_l : ∀ k, (∀ y0 y1 y2 y3, LeO (spec_Ones.l0 k y0 y1 y2 y3) (spec_Ones.l0 (k + 1) y0 y1 y2 y3))
  | 0 => fun _ _ _ _ r h => by simp [spec_Ones.l0] at h
  | k + 1 => by
    have ih0 := spec_Ones.mono_l k
    · intro y0 y1 y2 y3
      unfold spec_Ones.l0
      repeat' first
      | (with_reducible exact ih0 _ _ _ _)
      | (with_reducible exact LeO.refl _)
      | (with_reducible exact LeO.none _)
      | (with_reducible refine LeO.ite ?_ ?_)
      | (with_reducible refine LeO.bind ?_ (fun _ => ?_))
      | exact ih0 _ _ _ _
      | exact LeO.none _
      | refine LeO.ite ?_ ?_
      | refine LeO.bind ?_ (fun _ => ?_)
theorem spec_Ones.mono : ∀ a0 a1 k, LeO (spec_Ones.f k a0 a1) (spec_Ones.f (k + 1) a0 a1) := by
  intro a0 a1 k
  have ih0 := spec_Ones.mono_l k
  unfold spec_Ones.f
  repeat' first
      | (with_reducible exact ih0 _ _ _ _)
      | (with_reducible exact LeO.refl _)
      | (with_reducible exact LeO.none _)
      | (with_reducible refine LeO.ite ?_ ?_)
      | (with_reducible refine LeO.bind ?_ (fun _ => ?_))
      | exact ih0 _ _ _ _
      | exact LeO.none _
      | refine LeO.ite ?_ ?_
      | refine LeO.bind ?_ (fun _ => ?_)
set_option maxHeartbeats 8000000 in
set_option maxRecDepth 100000 in
theorem spec_Ones.calls (k : Nat) (a0 : Int) (a1 : Int) (r : Int) (w : World) (h : spec_Ones.f k a0 a1 = some r) :
    Calls Try.prog 12 #[.int .u64 a0, .int .u64 a1] w fun e w' => e = .returned (.int .i64 r) ∧ Drawn0 w w' := by
  have H : (spec_Ones.l0 k a0 0 a1 0) = some r := h
  clear h
  have H' := Aside0.mk H
  clear H
  go_enter Try.func12, Try.ntmps12
  go_wp2
  go_loopg [5, 8] k (fun kq v5 v8 w' => ∃ (x5_1 : Int) (x8_1 : Int), v5 = .int .i64 x5_1 ∧ v8 = .int .u64 x8_1 ∧ Aside0 (spec_Ones.l0 kq a0 x5_1 a1 x8_1 = some r) ∧ Aside0 (kq ≤ k) ∧ Drawn0 w w')
  case atStart => exact ⟨(0), (0), (by first | rfl | (simp; done) | (simp [*]; done)), (by first | rfl | (simp; done) | (simp [*]; done)), H', ⟨Nat.le_refl _⟩, by repeat (first | exact Drawn0.refl _ | apply Drawn0.step)⟩
  case round =>
    clear H'
    try clear c1
    try clear p2
    obtain ⟨x5_1, x8_1, rfl, rfl, HA, HK1, ⟨m1, rfl⟩⟩ := hrel
    cases gk with
    | zero => exact absurd HA.out (by simp [spec_Ones.l0])
    | succ k1 =>
      have H := HA.out
      clear HA
      simp only [spec_Ones.l0] at H
      by_cases c3 : x8_1 < a1
      · rw [if_pos c3] at H
        have c3b0 : decide (x8_1 < a1) = true := decide_eq_true c3
        clear c3
        replace H := Option.bind_eq_some_iff.mp H
        obtain ⟨t108, A40, H⟩ := H
        replace H : (spec_Ones.l0 k1 a0 (wrap64 (x5_1 + (wrap64 (t108)))) a1 (IntKind.u64.wrap (x8_1 + 1))) = some r := H
        have A4 := Aside0.mk A40
        clear A40
        have H' := Aside0.mk H
        clear H
        go_wp2_with (first | ((with_reducible refine gate_callee (f := 15) rfl ?_); refine goesL_ (some 14) rfl rfl Try.func15 (by kernel_rfl) rfl #[.int .u64 a0, .int .u64 x8_1] rfl (by (try simp only [List.map_toArray, List.map_cons, List.map_nil]); first | done | rfl | (simp only [List.length_drop, List.length_take]; rfl)) ?_; (with_reducible refine (spec_bit.calls a0 x8_1 t108 _ A4.out).mono ?_); rintro e w' ⟨rfl, ⟨nd, rfl⟩⟩; refine ⟨_, rfl, ?_⟩))
        go_roundg k1
        case measure => have := HK1.out; omega
        case rel => exact ⟨(wrap64 (x5_1 + (wrap64 (t108)))), (IntKind.u64.wrap (x8_1 + 1)), (by first | rfl | (simp; done) | (simp [*]; done)), (by first | rfl | (simp; done) | (simp [*]; done)), H', ⟨by have := HK1.out; omega⟩, by repeat (first | exact Drawn0.refl _ | apply Drawn0.step)⟩
      · rw [if_neg c3] at H
        have c3b0 : decide (x8_1 < a1) = false := decide_eq_false c3
        clear c3
        obtain rfl := Option.some.inj H
        go_wp2
        go_ret
        exact ⟨by first | rfl | (simp; done) | (simp [*]; done), by repeat (first | exact Drawn0.refl _ | apply Drawn0.step)⟩

attribute [local go_sem] signed_u32 max_u32 signed_u64 max_u64
/-! ### laws_FnShiftMaskIs: function 4 -/
def laws_FnShiftMaskIs.j0 : Nat → Int → Bool → Option (Bool)
  | 0, _, _ => none
  | k + 1, x0, x3 => (impl_IsValidShiftMask.f x0).bind fun t110 => (if (t110 == x3) = true then (if x3 = true then ((impl_ShiftMaskLength.f x0).bind fun t111 => ((spec_Ones.f k (IntKind.u64.wrap (x0)) 64).bind fun t112 => (if t111 = t112 then ((impl_IsValidShiftMask.f 7).bind fun t113 => (some t113)) else (some false)))) else ((impl_IsValidShiftMask.f 7).bind fun t114 => (some t114))) else (some false))
def laws_FnShiftMaskIs.f (k : Nat) (a0 : Int) : Option (Bool) := (spec_IsRun.f k (IntKind.u64.wrap (a0))).bind fun t109 => (if t109 = true then (laws_FnShiftMaskIs.j0 k a0 ((Go.bits .and .i64 a0 1) == 1)) else (laws_FnShiftMaskIs.j0 k a0 false))
theorem laws_FnShiftMaskIs.mono_l : ∀ k, (∀ y0 y1, LeO (laws_FnShiftMaskIs.j0 k y0 y1) (laws_FnShiftMaskIs.j0 (k + 1) y0 y1))
  | 0 => fun _ _ r h => by simp [laws_FnShiftMaskIs.j0] at h
  | k + 1 => by
    have ih0 := laws_FnShiftMaskIs.mono_l k
    · intro y0 y1
      unfold laws_FnShiftMaskIs.j0
      repeat' first
      | (with_reducible exact ih0 _ _)
      | (with_reducible exact spec_IsRun.mono _ _)
      | (with_reducible exact spec_Ones.mono _ _ _)
      | (with_reducible exact LeO.refl _)
      | (with_reducible exact LeO.none _)
      | (with_reducible refine LeO.ite ?_ ?_)
      | (with_reducible refine LeO.bind ?_ (fun _ => ?_))
      | exact ih0 _ _
      | exact spec_IsRun.mono _ _
      | exact spec_Ones.mono _ _ _
      | exact LeO.none _
      | refine LeO.ite ?_ ?_
      | refine LeO.bind ?_ (fun _ => ?_)
theorem laws_FnShiftMaskIs.mono : ∀ a0 k, LeO (laws_FnShiftMaskIs.f k a0) (laws_FnShiftMaskIs.f (k + 1) a0) := by
  intro a0 k
  have ih0 := laws_FnShiftMaskIs.mono_l k
  unfold laws_FnShiftMaskIs.f
  repeat' first
      | (with_reducible exact ih0 _ _)
      | (with_reducible exact spec_IsRun.mono _ _)
      | (with_reducible exact spec_Ones.mono _ _ _)
      | (with_reducible exact LeO.refl _)
      | (with_reducible exact LeO.none _)
      | (with_reducible refine LeO.ite ?_ ?_)
      | (with_reducible refine LeO.bind ?_ (fun _ => ?_))
      | exact ih0 _ _
      | exact spec_IsRun.mono _ _
      | exact spec_Ones.mono _ _ _
      | exact LeO.none _
      | refine LeO.ite ?_ ?_
      | refine LeO.bind ?_ (fun _ => ?_)
set_option maxHeartbeats 8000000 in
set_option maxRecDepth 100000 in
theorem laws_FnShiftMaskIs.calls (k : Nat) (a0 : Int) (r : Bool) (w : World) (h : laws_FnShiftMaskIs.f k a0 = some r) :
    Calls Try.prog 4 #[.int .i64 a0] w fun e w' => e = .returned (.bool r) ∧ Drawn0 w w' := by
  have H : ((spec_IsRun.f k (IntKind.u64.wrap (a0))).bind fun t109 => (if t109 = true then (laws_FnShiftMaskIs.j0 k a0 ((Go.bits .and .i64 a0 1) == 1)) else (laws_FnShiftMaskIs.j0 k a0 false))) = some r := h
  clear h
  have HC2 := Aside0.mk H
  clear H
  go_enter Try.func4, Try.ntmps4
  go_upto_region 1 with (fail)
  go_cut [3] (fun v3 wc => ∃ (kq : Nat) (x3_1 : Bool), v3 = .bool x3_1 ∧ Aside0 (laws_FnShiftMaskIs.j0 kq a0 x3_1 = some r) ∧ Aside0 (kq ≤ k) ∧ Drawn0 w wc)
  case first =>
    have H := HC2.out
    clear HC2
    replace H := Option.bind_eq_some_iff.mp H
    obtain ⟨t109, A30, H⟩ := H
    replace H : (if t109 = true then (laws_FnShiftMaskIs.j0 k a0 ((Go.bits .and .i64 a0 1) == 1)) else (laws_FnShiftMaskIs.j0 k a0 false)) = some r := H
    have A3 := Aside0.mk A30
    clear A30
    by_cases c4 : t109 = true
    · subst c4
      have H1 : (laws_FnShiftMaskIs.j0 k a0 ((Go.bits .and .i64 a0 1) == 1)) = some r := by rw [if_pos rfl] at H; exact H
      clear H
      have H := H1
      clear H1
      have H' := Aside0.mk H
      clear H
      go_wp2_with (first | ((with_reducible refine gate_callee (f := 9) rfl ?_); refine goesL_ (some 6) rfl rfl Try.func9 (by kernel_rfl) rfl #[.int .u64 (IntKind.u64.wrap (a0))] rfl (by (try simp only [List.map_toArray, List.map_cons, List.map_nil]); first | done | rfl | (simp only [List.length_drop, List.length_take]; rfl)) ?_; (with_reducible refine (spec_IsRun.calls k (IntKind.u64.wrap (a0)) true _ A3.out).mono ?_); rintro e w' ⟨rfl, ⟨nd, rfl⟩⟩; refine ⟨_, rfl, ?_⟩))
      go_meet
      case rel => exact ⟨_, (((Go.bits .and .i64 a0 1) == 1)), (by first | rfl | (simp; done) | (simp [*]; done)), H', ⟨by first | omega | exact Nat.le_refl _⟩, by repeat (first | exact Drawn0.refl _ | apply Drawn0.step)⟩
    · replace c4 := Bool.eq_false_iff.mpr c4
      subst c4
      have H1 : (laws_FnShiftMaskIs.j0 k a0 false) = some r := by rw [if_neg (show ¬ (false = true) by decide)] at H; exact H
      clear H
      have H := H1
      clear H1
      have H' := Aside0.mk H
      clear H
      go_wp2_with (first | ((with_reducible refine gate_callee (f := 9) rfl ?_); refine goesL_ (some 6) rfl rfl Try.func9 (by kernel_rfl) rfl #[.int .u64 (IntKind.u64.wrap (a0))] rfl (by (try simp only [List.map_toArray, List.map_cons, List.map_nil]); first | done | rfl | (simp only [List.length_drop, List.length_take]; rfl)) ?_; (with_reducible refine (spec_IsRun.calls k (IntKind.u64.wrap (a0)) false _ A3.out).mono ?_); rintro e w' ⟨rfl, ⟨nd, rfl⟩⟩; refine ⟨_, rfl, ?_⟩))
      go_meet
      case rel => exact ⟨_, (false), (by first | rfl | (simp; done) | (simp [*]; done)), H', ⟨by first | omega | exact Nat.le_refl _⟩, by repeat (first | exact Drawn0.refl _ | apply Drawn0.step)⟩
  case rest =>
    clear HC2
    try clear p2
    try clear c4
    obtain ⟨kq, x3_1, rfl, HA, HJ1, ⟨mc1, rfl⟩⟩ := hcut
    cases kq with
    | zero => exact absurd HA.out (by simp [laws_FnShiftMaskIs.j0])
    | succ kj1 =>
      have H := HA.out
      clear HA
      simp only [laws_FnShiftMaskIs.j0] at H
      replace H := Option.bind_eq_some_iff.mp H
      obtain ⟨t110, A50, H⟩ := H
      replace H : (if (t110 == x3_1) = true then (if x3_1 = true then ((impl_ShiftMaskLength.f a0).bind fun t111 => ((spec_Ones.f kj1 (IntKind.u64.wrap (a0)) 64).bind fun t112 => (if t111 = t112 then ((impl_IsValidShiftMask.f 7).bind fun t113 => (some t113)) else (some false)))) else ((impl_IsValidShiftMask.f 7).bind fun t114 => (some t114))) else (some false)) = some r := H
      have A5 := Aside0.mk A50
      clear A50
      by_cases c6 : (t110 == x3_1) = true
      · rw [if_pos c6] at H
        have c6b0 : (t110 == x3_1) = true := c6
        (try (have c6b1 : decide (t110 = x3_1) = true := by simpa using c6))
        (try (have c6b2 : (t110 == x3_1) = true := by simpa using c6))
        clear c6
        by_cases c7 : x3_1 = true
        · subst c7
          have H1 : ((impl_ShiftMaskLength.f a0).bind fun t111 => ((spec_Ones.f kj1 (IntKind.u64.wrap (a0)) 64).bind fun t112 => (if t111 = t112 then ((impl_IsValidShiftMask.f 7).bind fun t113 => (some t113)) else (some false)))) = some r := by rw [if_pos rfl] at H; exact H
          clear H
          have H := H1
          clear H1
          replace H := Option.bind_eq_some_iff.mp H
          obtain ⟨t111, A80, H⟩ := H
          replace H : ((spec_Ones.f kj1 (IntKind.u64.wrap (a0)) 64).bind fun t112 => (if t111 = t112 then ((impl_IsValidShiftMask.f 7).bind fun t113 => (some t113)) else (some false))) = some r := H
          have A8 := Aside0.mk A80
          clear A80
          replace H := Option.bind_eq_some_iff.mp H
          obtain ⟨t112, A90, H⟩ := H
          replace H : (if t111 = t112 then ((impl_IsValidShiftMask.f 7).bind fun t113 => (some t113)) else (some false)) = some r := H
          have A9 := Aside0.mk A90
          clear A90
          by_cases c10 : t111 = t112
          · rw [if_pos c10] at H
            have c10b0 : (t111 == t112) = true := beq_iff_eq.mpr c10
            have c10b1 : (t111 != t112) = false := bne_eq_false_iff_eq.mpr c10
            clear c10
            replace H := Option.bind_eq_some_iff.mp H
            obtain ⟨t113, A110, H⟩ := H
            replace H : (some t113) = some r := H
            have A11 := Aside0.mk A110
            clear A110
            obtain rfl := Option.some.inj H
            go_wp2_with (first | ((with_reducible refine gate_callee (f := 10) rfl ?_); refine goesL_ (some 13) rfl rfl Try.func10 (by kernel_rfl) rfl #[.int .i64 a0] rfl (by (try simp only [List.map_toArray, List.map_cons, List.map_nil]); first | done | rfl | (simp only [List.length_drop, List.length_take]; rfl)) ?_; (with_reducible refine (impl_IsValidShiftMask.calls a0 t110 _ A5.out).mono ?_); rintro e w' ⟨rfl, ⟨nd, rfl⟩⟩; refine ⟨_, rfl, ?_⟩) | (go_at_call 11; (with_reducible refine (impl_ShiftMaskLength.calls a0 t111 _ A8.out).mono ?_); rintro e w' ⟨rfl, ⟨nd, rfl⟩⟩) | (go_at_call 12; (with_reducible refine (spec_Ones.calls kj1 (IntKind.u64.wrap (a0)) 64 t112 _ A9.out).mono ?_); rintro e w' ⟨rfl, ⟨nd, rfl⟩⟩) | (go_at_call 10; (with_reducible refine (impl_IsValidShiftMask.calls 7 t113 _ A11.out).mono ?_); rintro e w' ⟨rfl, ⟨nd, rfl⟩⟩))
            go_ret
            exact ⟨by first | rfl | (simp; done) | (simp [*]; done), by repeat (first | exact Drawn0.refl _ | apply Drawn0.step)⟩
          · rw [if_neg c10] at H
            have c10b0 : (t111 == t112) = false := beq_eq_false_iff_ne.mpr c10
            have c10b1 : (t111 != t112) = true := bne_iff_ne.mpr c10
            obtain rfl := Option.some.inj H
            go_wp2_with (first | ((with_reducible refine gate_callee (f := 10) rfl ?_); refine goesL_ (some 13) rfl rfl Try.func10 (by kernel_rfl) rfl #[.int .i64 a0] rfl (by (try simp only [List.map_toArray, List.map_cons, List.map_nil]); first | done | rfl | (simp only [List.length_drop, List.length_take]; rfl)) ?_; (with_reducible refine (impl_IsValidShiftMask.calls a0 t110 _ A5.out).mono ?_); rintro e w' ⟨rfl, ⟨nd, rfl⟩⟩; refine ⟨_, rfl, ?_⟩) | (go_at_call 11; (with_reducible refine (impl_ShiftMaskLength.calls a0 t111 _ A8.out).mono ?_); rintro e w' ⟨rfl, ⟨nd, rfl⟩⟩) | (go_at_call 12; (with_reducible refine (spec_Ones.calls kj1 (IntKind.u64.wrap (a0)) 64 t112 _ A9.out).mono ?_); rintro e w' ⟨rfl, ⟨nd, rfl⟩⟩))
            go_ret
            exact ⟨by first | rfl | (simp; done) | (simp [*]; done), by repeat (first | exact Drawn0.refl _ | apply Drawn0.step)⟩
        · replace c7 := Bool.eq_false_iff.mpr c7
          subst c7
          have H1 : ((impl_IsValidShiftMask.f 7).bind fun t114 => (some t114)) = some r := by rw [if_neg (show ¬ (false = true) by decide)] at H; exact H
          clear H
          have H := H1
          clear H1
          replace H := Option.bind_eq_some_iff.mp H
          obtain ⟨t114, A120, H⟩ := H
          replace H : (some t114) = some r := H
          have A12 := Aside0.mk A120
          clear A120
          obtain rfl := Option.some.inj H
          go_wp2_with (first | ((with_reducible refine gate_callee (f := 10) rfl ?_); refine goesL_ (some 13) rfl rfl Try.func10 (by kernel_rfl) rfl #[.int .i64 a0] rfl (by (try simp only [List.map_toArray, List.map_cons, List.map_nil]); first | done | rfl | (simp only [List.length_drop, List.length_take]; rfl)) ?_; (with_reducible refine (impl_IsValidShiftMask.calls a0 t110 _ A5.out).mono ?_); rintro e w' ⟨rfl, ⟨nd, rfl⟩⟩; refine ⟨_, rfl, ?_⟩) | (go_at_call 10; (with_reducible refine (impl_IsValidShiftMask.calls 7 t114 _ A12.out).mono ?_); rintro e w' ⟨rfl, ⟨nd, rfl⟩⟩))
          go_ret
          exact ⟨by first | rfl | (simp; done) | (simp [*]; done), by repeat (first | exact Drawn0.refl _ | apply Drawn0.step)⟩
      · rw [if_neg c6] at H
        have c6b0 : (t110 == x3_1) = false := by simpa using c6
        (try (have c6b1 : decide (t110 = x3_1) = false := by simpa using c6))
        (try (have c6b2 : (t110 == x3_1) = false := by simpa using c6))
        (try (have c6b3 : ¬ (t110 = x3_1) := by simpa using c6))
        clear c6
        obtain rfl := Option.some.inj H
        go_wp2_with (first | ((with_reducible refine gate_callee (f := 10) rfl ?_); refine goesL_ (some 13) rfl rfl Try.func10 (by kernel_rfl) rfl #[.int .i64 a0] rfl (by (try simp only [List.map_toArray, List.map_cons, List.map_nil]); first | done | rfl | (simp only [List.length_drop, List.length_take]; rfl)) ?_; (with_reducible refine (impl_IsValidShiftMask.calls a0 t110 _ A5.out).mono ?_); rintro e w' ⟨rfl, ⟨nd, rfl⟩⟩; refine ⟨_, rfl, ?_⟩))
        go_ret
        exact ⟨by first | rfl | (simp; done) | (simp [*]; done), by repeat (first | exact Drawn0.refl _ | apply Drawn0.step)⟩

/-- THE ONE PURE STATEMENT of laws_FnShiftMaskIs: yours. -/
def laws_FnShiftMaskIs.Pure : Prop := ∀ (a0 : Int), (Lit.int .i64 a0).wf = true → ∃ k, laws_FnShiftMaskIs.f k a0 = some true
theorem laws_FnShiftMaskIs.walk (P : laws_FnShiftMaskIs.Pure) (a0 : Int) (w : World) (w0 : (Lit.int .i64 a0).wf = true) :
    Calls Try.prog 4 #[.int .i64 a0] w fun e w' => e = .returned (.bool true) ∧ Below w.heap.size w w' := by
  obtain ⟨k, h⟩ := P a0 w0
  refine (laws_FnShiftMaskIs.calls k a0 true w h).mono ?_
  rintro e w' ⟨rfl, hd⟩
  exact ⟨rfl, hd.below⟩

end Go.Proofs.Ytlcaejikcelgoaa.PFnShiftMaskIs
