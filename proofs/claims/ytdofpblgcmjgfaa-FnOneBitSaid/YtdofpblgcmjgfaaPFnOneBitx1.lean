-- PRINTED BY print.sh 35421559b90ae4d0a3588c463048766b98c2df88dd9212a6774a882060cdf62d: not written by this session
import Derived.Test.YtdofpblgcmjgfaaPFnOneBitx0
namespace Go.Proofs.Ytdofpblgcmjgfaa.PFnOneBit
open Go.RowKit Go.Proofs.YtdofpblgcmjgfaaW.PrintWords Go.Proofs.YtdofpblgcmjgfaaW.PrintLast Go.Proofs.YtdofpblgcmjgfaaW.PrintMore
attribute [local go_sem] max2_int min2_int max_two min_two max_three min_three max_four min_four   -- for this text's walks alone
set_option linter.unusedVariables false
set_option linter.unusedSimpArgs false

/-! ### ssarewrite_oneBit_int64: function 52 -/
def ssarewrite_oneBit_int64.f (a0 : Int) : Option (Bool) := if (Go.bits .and .i64 a0 (wrap64 (a0 - 1))) = 0 then (some (a0 != 0)) else (some false)
set_option maxHeartbeats 8000000 in
set_option maxRecDepth 100000 in
theorem ssarewrite_oneBit_int64.calls (a0 : Int) (r : Bool) (w : World) (h : ssarewrite_oneBit_int64.f a0 = some r) :
    Calls Try.prog 52 #[.int .i64 a0] w fun e w' => e = .returned (.bool r) ∧ Drawn0 w w' := by
  have H : (if (Go.bits .and .i64 a0 (wrap64 (a0 - 1))) = 0 then (some (a0 != 0)) else (some false)) = some r := h
  clear h
  by_cases c2 : (Go.bits .and .i64 a0 (wrap64 (a0 - 1))) = 0
  · rw [if_pos c2] at H
    have c2b0 : ((Go.bits .and .i64 a0 (wrap64 (a0 - 1))) == 0) = true := beq_iff_eq.mpr c2
    have c2b1 : ((Go.bits .and .i64 a0 (wrap64 (a0 - 1))) != 0) = false := bne_eq_false_iff_eq.mpr c2
    clear c2
    obtain rfl := Option.some.inj H
    go_enter Try.func52, Try.ntmps52
    go_wp2
    go_ret
    exact ⟨by first | rfl | (simp; done) | (simp [*]; done), by repeat (first | exact Drawn0.refl _ | apply Drawn0.step)⟩
  · rw [if_neg c2] at H
    have c2b0 : ((Go.bits .and .i64 a0 (wrap64 (a0 - 1))) == 0) = false := beq_eq_false_iff_ne.mpr c2
    have c2b1 : ((Go.bits .and .i64 a0 (wrap64 (a0 - 1))) != 0) = true := bne_iff_ne.mpr c2
    obtain rfl := Option.some.inj H
    go_enter Try.func52, Try.ntmps52
    go_wp2
    go_ret
    exact ⟨by first | rfl | (simp; done) | (simp [*]; done), by repeat (first | exact Drawn0.refl _ | apply Drawn0.step)⟩

/-! ### ssarewrite_ZZOneBit_int64: function 38 -/
def ssarewrite_ZZOneBit_int64.f (a0 : Int) : Option (Bool) := (ssarewrite_oneBit_int64.f a0).bind fun t101 => (some t101)
set_option maxHeartbeats 8000000 in
set_option maxRecDepth 100000 in
theorem ssarewrite_ZZOneBit_int64.calls (a0 : Int) (r : Bool) (w : World) (h : ssarewrite_ZZOneBit_int64.f a0 = some r) :
    Calls Try.prog 38 #[.int .i64 a0] w fun e w' => e = .returned (.bool r) ∧ Drawn0 w w' := by
  have H : ((ssarewrite_oneBit_int64.f a0).bind fun t101 => (some t101)) = some r := h
  clear h
  replace H := Option.bind_eq_some_iff.mp H
  obtain ⟨t101, A20, H⟩ := H
  replace H : (some t101) = some r := H
  have A2 := Aside0.mk A20
  clear A20
  obtain rfl := Option.some.inj H
  go_enter Try.func38, Try.ntmps38
  go_wp2_with (first | ((with_reducible refine gate_callee (f := 52) rfl ?_); refine goesL_ (some 4) rfl rfl Try.func52 (by kernel_rfl) rfl #[.int .i64 a0] rfl (by (try simp only [List.map_toArray, List.map_cons, List.map_nil]); first | done | rfl | (simp only [List.length_drop, List.length_take]; rfl)) ?_; (with_reducible refine (ssarewrite_oneBit_int64.calls a0 t101 _ A2.out).mono ?_); rintro e w' ⟨rfl, ⟨nd, rfl⟩⟩; refine ⟨_, rfl, ?_⟩))
  go_ret
  exact ⟨by first | rfl | (simp; done) | (simp [*]; done), by repeat (first | exact Drawn0.refl _ | apply Drawn0.step)⟩

/-! ### impl_OneBit64: function 23 -/
def impl_OneBit64.f (a0 : Int) : Option (Bool) := (ssarewrite_ZZOneBit_int64.f a0).bind fun t102 => (some t102)
set_option maxHeartbeats 8000000 in
set_option maxRecDepth 100000 in
theorem impl_OneBit64.calls (a0 : Int) (r : Bool) (w : World) (h : impl_OneBit64.f a0 = some r) :
    Calls Try.prog 23 #[.int .i64 a0] w fun e w' => e = .returned (.bool r) ∧ Drawn0 w w' := by
  have H : ((ssarewrite_ZZOneBit_int64.f a0).bind fun t102 => (some t102)) = some r := h
  clear h
  replace H := Option.bind_eq_some_iff.mp H
  obtain ⟨t102, A20, H⟩ := H
  replace H : (some t102) = some r := H
  have A2 := Aside0.mk A20
  clear A20
  obtain rfl := Option.some.inj H
  go_enter Try.func23, Try.ntmps23
  go_wp2_with (first | ((with_reducible refine gate_callee (f := 38) rfl ?_); refine goesL_ (some 4) rfl rfl Try.func38 (by kernel_rfl) rfl #[.int .i64 a0] rfl (by (try simp only [List.map_toArray, List.map_cons, List.map_nil]); first | done | rfl | (simp only [List.length_drop, List.length_take]; rfl)) ?_; (with_reducible refine (ssarewrite_ZZOneBit_int64.calls a0 t102 _ A2.out).mono ?_); rintro e w' ⟨rfl, ⟨nd, rfl⟩⟩; refine ⟨_, rfl, ?_⟩))
  go_ret
  exact ⟨by first | rfl | (simp; done) | (simp [*]; done), by repeat (first | exact Drawn0.refl _ | apply Drawn0.step)⟩

/-! ### spec_bit: function 39 -/
def spec_bit.f (a0 : Int) (a1 : Int) : Option (Int) := if 0 ≤ a1 then (some (Int.tmod (shr .u64 a0 a1) 2)) else (none)
set_option maxHeartbeats 8000000 in
set_option maxRecDepth 100000 in
theorem spec_bit.calls (a0 : Int) (a1 : Int) (r : Int) (w : World) (h : spec_bit.f a0 a1 = some r) :
    Calls Try.prog 39 #[.int .u64 a0, .int .u64 a1] w fun e w' => e = .returned (.int .u64 r) ∧ Drawn0 w w' := by
  have H : (if 0 ≤ a1 then (some (Int.tmod (shr .u64 a0 a1) 2)) else (none)) = some r := h
  clear h
  by_cases c3 : 0 ≤ a1
  · rw [if_pos c3] at H
    have c3b0 := eq_true c3
    have c3b1 : decide (0 ≤ a1) = true := decide_eq_true c3
    clear c3
    obtain ⟨ji4, hji4⟩ : ∃ j_ : Int, (shr .u64 a0 a1) = j_ := ⟨_, rfl⟩
    replace H : (some (Int.tmod (ji4) 2)) = some r := by first | (rw [hji4] at H; exact H) | (simp only [hji4] at H ⊢; exact H)
    have hji4_ : (a0 / 2 ^ min a1.toNat 64) = ji4 := hji4
    have hji4z : a1 ≤ 64 → (a0 / 2 ^ a1.toNat) = ji4 := shr_small hji4
    obtain rfl := Option.some.inj H
    go_enter Try.func39, Try.ntmps39
    go_wp2
    go_ret
    exact ⟨by first | rfl | (simp; done) | (simp only [← hji4] <;> (first | rfl | simp)) | (simp [*]; done), by repeat (first | exact Drawn0.refl _ | apply Drawn0.step)⟩
  · rw [if_neg c3] at H
    exact absurd H (by simp)

/-! ### spec_Ones: function 24 -/
def spec_Ones.l0 : Nat → Int → Int → Int → Int → Option (Int)
  | 0, _, _, _, _ => none
  | k + 1, x0, x5, x7, x8 => if x8 < x7 then ((spec_bit.f x0 x8).bind fun t103 => (spec_Ones.l0 k x0 (wrap64 (x5 + (wrap64 (t103)))) x7 (IntKind.u64.wrap (x8 + 1)))) else (some x5)
def spec_Ones.f (k : Nat) (a0 : Int) (a1 : Int) : Option (Int) := spec_Ones.l0 k a0 0 a1 0
theorem spec_Ones.mono_l : ∀ k, (∀ y0 y1 y2 y3, LeO (spec_Ones.l0 k y0 y1 y2 y3) (spec_Ones.l0 (k + 1) y0 y1 y2 y3))
  | 0 => fun _ _ _ _ r h => by simp [spec_Ones.l0] at h
  | k + 1 => by
    have ih0 := spec_Ones.mono_l k
    · intro y0 y1 y2 y3
      unfold spec_Ones.l0
      repeat' first
      | (with_reducible exact ih0 _ _ _ _)
      | (with_reducible exact LeO.refl _)
      | (with_reducible exact LeO.none _)
      | (with_reducible refine LeO.ite ?_ ?_)
      | (with_reducible refine LeO.bind ?_ (fun _ => ?_))
      | exact ih0 _ _ _ _
      | exact LeO.none _
      | refine LeO.ite ?_ ?_
      | refine LeO.bind ?_ (fun _ => ?_)
theorem spec_Ones.mono : ∀ a0 a1 k, LeO (spec_Ones.f k a0 a1) (spec_Ones.f (k + 1) a0 a1) := by
  intro a0 a1 k
  have ih0 := spec_Ones.mono_l k
  unfold spec_Ones.f
  repeat' first
      | (with_reducible exact ih0 _ _ _ _)
      | (with_reducible exact LeO.refl _)
      | (with_reducible exact LeO.none _)
      | (with_reducible refine LeO.ite ?_ ?_)
      | (with_reducible refine LeO.bind ?_ (fun _ => ?_))
      | exact ih0 _ _ _ _
      | exact LeO.none _
      | refine LeO.ite ?_ ?_
      | refine LeO.bind ?_ (fun _ => ?_)
set_option maxHeartbeats 8000000 in
set_option maxRecDepth 100000 in
theorem spec_Ones.calls (k : Nat) (a0 : Int) (a1 : Int) (r : Int) (w : World) (h : spec_Ones.f k a0 a1 = some r) :
    Calls Try.prog 24 #[.int .u64 a0, .int .u64 a1] w fun e w' => e = .returned (.int .i64 r) ∧ Drawn0 w w' := by
  have H : (spec_Ones.l0 k a0 0 a1 0) = some r := h
  clear h
  have H' := Aside0.mk H
  clear H
  go_enter Try.func24, Try.ntmps24
  go_wp2
  go_loopg [5, 8] k (fun kq v5 v8 w' => ∃ (x5_1 : Int) (x8_1 : Int), v5 = .int .i64 x5_1 ∧ v8 = .int .u64 x8_1 ∧ Aside0 (spec_Ones.l0 kq a0 x5_1 a1 x8_1 = some r) ∧ Aside0 (kq ≤ k) ∧ Drawn0 w w')
  case atStart => exact ⟨(0), (0), (by first | rfl | (simp; done) | (simp [*]; done)), (by first | rfl | (simp; done) | (simp [*]; done)), H', ⟨Nat.le_refl _⟩, by repeat (first | exact Drawn0.refl _ | apply Drawn0.step)⟩
  case round =>
    clear H'
    try clear c2
    try clear p2
    obtain ⟨x5_1, x8_1, rfl, rfl, HA, HK1, ⟨m1, rfl⟩⟩ := hrel
    cases gk with
    | zero => exact absurd HA.out (by simp [spec_Ones.l0])
    | succ k1 =>
      have H := HA.out
      clear HA
      simp only [spec_Ones.l0] at H
      by_cases c3 : x8_1 < a1
      · rw [if_pos c3] at H
        have c3b0 : decide (x8_1 < a1) = true := decide_eq_true c3
        clear c3
        replace H := Option.bind_eq_some_iff.mp H
        obtain ⟨t103, A40, H⟩ := H
        replace H : (spec_Ones.l0 k1 a0 (wrap64 (x5_1 + (wrap64 (t103)))) a1 (IntKind.u64.wrap (x8_1 + 1))) = some r := H
        have A4 := Aside0.mk A40
        clear A40
        have H' := Aside0.mk H
        clear H
        go_wp2_with (first | ((with_reducible refine gate_callee (f := 39) rfl ?_); refine goesL_ (some 14) rfl rfl Try.func39 (by kernel_rfl) rfl #[.int .u64 a0, .int .u64 x8_1] rfl (by (try simp only [List.map_toArray, List.map_cons, List.map_nil]); first | done | rfl | (simp only [List.length_drop, List.length_take]; rfl)) ?_; (with_reducible refine (spec_bit.calls a0 x8_1 t103 _ A4.out).mono ?_); rintro e w' ⟨rfl, ⟨nd, rfl⟩⟩; refine ⟨_, rfl, ?_⟩))
        go_roundg k1
        case measure => have := HK1.out; omega
        case rel => exact ⟨(wrap64 (x5_1 + (wrap64 (t103)))), (IntKind.u64.wrap (x8_1 + 1)), (by first | rfl | (simp; done) | (simp [*]; done)), (by first | rfl | (simp; done) | (simp [*]; done)), H', ⟨by have := HK1.out; omega⟩, by repeat (first | exact Drawn0.refl _ | apply Drawn0.step)⟩
      · rw [if_neg c3] at H
        have c3b0 : decide (x8_1 < a1) = false := decide_eq_false c3
        clear c3
        obtain rfl := Option.some.inj H
        go_wp2
        go_ret
        exact ⟨by first | rfl | (simp; done) | (simp [*]; done), by repeat (first | exact Drawn0.refl _ | apply Drawn0.step)⟩

/-! ### ssarewrite_oneBit_int32: function 53 -/
def ssarewrite_oneBit_int32.f (a0 : Int) : Option (Bool) := if (Go.bits .and .i32 a0 (wrap32 (a0 - 1))) = 0 then (some (a0 != 0)) else (some false)
set_option maxHeartbeats 8000000 in
set_option maxRecDepth 100000 in
theorem ssarewrite_oneBit_int32.calls (a0 : Int) (r : Bool) (w : World) (h : ssarewrite_oneBit_int32.f a0 = some r) :
    Calls Try.prog 53 #[.int .i32 a0] w fun e w' => e = .returned (.bool r) ∧ Drawn0 w w' := by
  have H : (if (Go.bits .and .i32 a0 (wrap32 (a0 - 1))) = 0 then (some (a0 != 0)) else (some false)) = some r := h
  clear h
  by_cases c2 : (Go.bits .and .i32 a0 (wrap32 (a0 - 1))) = 0
  · rw [if_pos c2] at H
    have c2b0 : ((Go.bits .and .i32 a0 (wrap32 (a0 - 1))) == 0) = true := beq_iff_eq.mpr c2
    have c2b1 : ((Go.bits .and .i32 a0 (wrap32 (a0 - 1))) != 0) = false := bne_eq_false_iff_eq.mpr c2
    clear c2
    obtain rfl := Option.some.inj H
    go_enter Try.func53, Try.ntmps53
    go_wp2
    go_ret
    exact ⟨by first | rfl | (simp; done) | (simp [*]; done), by repeat (first | exact Drawn0.refl _ | apply Drawn0.step)⟩
  · rw [if_neg c2] at H
    have c2b0 : ((Go.bits .and .i32 a0 (wrap32 (a0 - 1))) == 0) = false := beq_eq_false_iff_ne.mpr c2
    have c2b1 : ((Go.bits .and .i32 a0 (wrap32 (a0 - 1))) != 0) = true := bne_iff_ne.mpr c2
    obtain rfl := Option.some.inj H
    go_enter Try.func53, Try.ntmps53
    go_wp2
    go_ret
    exact ⟨by first | rfl | (simp; done) | (simp [*]; done), by repeat (first | exact Drawn0.refl _ | apply Drawn0.step)⟩

/-! ### ssarewrite_ZZOneBit_int32: function 40 -/
def ssarewrite_ZZOneBit_int32.f (a0 : Int) : Option (Bool) := (ssarewrite_oneBit_int32.f a0).bind fun t104 => (some t104)
set_option maxHeartbeats 8000000 in
set_option maxRecDepth 100000 in
theorem ssarewrite_ZZOneBit_int32.calls (a0 : Int) (r : Bool) (w : World) (h : ssarewrite_ZZOneBit_int32.f a0 = some r) :
    Calls Try.prog 40 #[.int .i32 a0] w fun e w' => e = .returned (.bool r) ∧ Drawn0 w w' := by
  have H : ((ssarewrite_oneBit_int32.f a0).bind fun t104 => (some t104)) = some r := h
  clear h
  replace H := Option.bind_eq_some_iff.mp H
  obtain ⟨t104, A20, H⟩ := H
  replace H : (some t104) = some r := H
  have A2 := Aside0.mk A20
  clear A20
  obtain rfl := Option.some.inj H
  go_enter Try.func40, Try.ntmps40
  go_wp2_with (first | ((with_reducible refine gate_callee (f := 53) rfl ?_); refine goesL_ (some 4) rfl rfl Try.func53 (by kernel_rfl) rfl #[.int .i32 a0] rfl (by (try simp only [List.map_toArray, List.map_cons, List.map_nil]); first | done | rfl | (simp only [List.length_drop, List.length_take]; rfl)) ?_; (with_reducible refine (ssarewrite_oneBit_int32.calls a0 t104 _ A2.out).mono ?_); rintro e w' ⟨rfl, ⟨nd, rfl⟩⟩; refine ⟨_, rfl, ?_⟩))
  go_ret
  exact ⟨by first | rfl | (simp; done) | (simp [*]; done), by repeat (first | exact Drawn0.refl _ | apply Drawn0.step)⟩

/-! ### impl_OneBit32: function 25 -/
def impl_OneBit32.f (a0 : Int) : Option (Bool) := (ssarewrite_ZZOneBit_int32.f a0).bind fun t105 => (some t105)
set_option maxHeartbeats 8000000 in
set_option maxRecDepth 100000 in
theorem impl_OneBit32.calls (a0 : Int) (r : Bool) (w : World) (h : impl_OneBit32.f a0 = some r) :
    Calls Try.prog 25 #[.int .i32 a0] w fun e w' => e = .returned (.bool r) ∧ Drawn0 w w' := by
  have H : ((ssarewrite_ZZOneBit_int32.f a0).bind fun t105 => (some t105)) = some r := h
  clear h
  replace H := Option.bind_eq_some_iff.mp H
  obtain ⟨t105, A20, H⟩ := H
  replace H : (some t105) = some r := H
  have A2 := Aside0.mk A20
  clear A20
  obtain rfl := Option.some.inj H
  go_enter Try.func25, Try.ntmps25
  go_wp2_with (first | ((with_reducible refine gate_callee (f := 40) rfl ?_); refine goesL_ (some 4) rfl rfl Try.func40 (by kernel_rfl) rfl #[.int .i32 a0] rfl (by (try simp only [List.map_toArray, List.map_cons, List.map_nil]); first | done | rfl | (simp only [List.length_drop, List.length_take]; rfl)) ?_; (with_reducible refine (ssarewrite_ZZOneBit_int32.calls a0 t105 _ A2.out).mono ?_); rintro e w' ⟨rfl, ⟨nd, rfl⟩⟩; refine ⟨_, rfl, ?_⟩))
  go_ret
  exact ⟨by first | rfl | (simp; done) | (simp [*]; done), by repeat (first | exact Drawn0.refl _ | apply Drawn0.step)⟩

/-! ### ssarewrite_oneBit_int16: function 54 -/
def ssarewrite_oneBit_int16.f (a0 : Int) : Option (Bool) := if (Go.bits .and .i16 a0 (IntKind.i16.wrap (a0 - 1))) = 0 then (some (a0 != 0)) else (some false)
set_option maxHeartbeats 8000000 in
set_option maxRecDepth 100000 in
theorem ssarewrite_oneBit_int16.calls (a0 : Int) (r : Bool) (w : World) (h : ssarewrite_oneBit_int16.f a0 = some r) :
    Calls Try.prog 54 #[.int .i16 a0] w fun e w' => e = .returned (.bool r) ∧ Drawn0 w w' := by
  have H : (if (Go.bits .and .i16 a0 (IntKind.i16.wrap (a0 - 1))) = 0 then (some (a0 != 0)) else (some false)) = some r := h
  clear h
  by_cases c2 : (Go.bits .and .i16 a0 (IntKind.i16.wrap (a0 - 1))) = 0
  · rw [if_pos c2] at H
    have c2b0 : ((Go.bits .and .i16 a0 (IntKind.i16.wrap (a0 - 1))) == 0) = true := beq_iff_eq.mpr c2
    have c2b1 : ((Go.bits .and .i16 a0 (IntKind.i16.wrap (a0 - 1))) != 0) = false := bne_eq_false_iff_eq.mpr c2
    clear c2
    obtain rfl := Option.some.inj H
    go_enter Try.func54, Try.ntmps54
    go_wp2
    go_ret
    exact ⟨by first | rfl | (simp; done) | (simp [*]; done), by repeat (first | exact Drawn0.refl _ | apply Drawn0.step)⟩
  · rw [if_neg c2] at H
    have c2b0 : ((Go.bits .and .i16 a0 (IntKind.i16.wrap (a0 - 1))) == 0) = false := beq_eq_false_iff_ne.mpr c2
    have c2b1 : ((Go.bits .and .i16 a0 (IntKind.i16.wrap (a0 - 1))) != 0) = true := bne_iff_ne.mpr c2
    obtain rfl := Option.some.inj H
    go_enter Try.func54, Try.ntmps54
    go_wp2
    go_ret
    exact ⟨by first | rfl | (simp; done) | (simp [*]; done), by repeat (first | exact Drawn0.refl _ | apply Drawn0.step)⟩

/-! ### ssarewrite_ZZOneBit_int16: function 41 -/
def ssarewrite_ZZOneBit_int16.f (a0 : Int) : Option (Bool) := (ssarewrite_oneBit_int16.f a0).bind fun t106 => (some t106)
set_option maxHeartbeats 8000000 in
set_option maxRecDepth 100000 in
theorem ssarewrite_ZZOneBit_int16.calls (a0 : Int) (r : Bool) (w : World) (h : ssarewrite_ZZOneBit_int16.f a0 = some r) :
    Calls Try.prog 41 #[.int .i16 a0] w fun e w' => e = .returned (.bool r) ∧ Drawn0 w w' := by
  have H : ((ssarewrite_oneBit_int16.f a0).bind fun t106 => (some t106)) = some r := h
  clear h
  replace H := Option.bind_eq_some_iff.mp H
  obtain ⟨t106, A20, H⟩ := H
  replace H : (some t106) = some r := H
  have A2 := Aside0.mk A20
  clear A20
  obtain rfl := Option.some.inj H
  go_enter Try.func41, Try.ntmps41
  go_wp2_with (first | ((with_reducible refine gate_callee (f := 54) rfl ?_); refine goesL_ (some 4) rfl rfl Try.func54 (by kernel_rfl) rfl #[.int .i16 a0] rfl (by (try simp only [List.map_toArray, List.map_cons, List.map_nil]); first | done | rfl | (simp only [List.length_drop, List.length_take]; rfl)) ?_; (with_reducible refine (ssarewrite_oneBit_int16.calls a0 t106 _ A2.out).mono ?_); rintro e w' ⟨rfl, ⟨nd, rfl⟩⟩; refine ⟨_, rfl, ?_⟩))
  go_ret
  exact ⟨by first | rfl | (simp; done) | (simp [*]; done), by repeat (first | exact Drawn0.refl _ | apply Drawn0.step)⟩

/-! ### impl_OneBit16: function 26 -/
def impl_OneBit16.f (a0 : Int) : Option (Bool) := (ssarewrite_ZZOneBit_int16.f a0).bind fun t107 => (some t107)
set_option maxHeartbeats 8000000 in
set_option maxRecDepth 100000 in
theorem impl_OneBit16.calls (a0 : Int) (r : Bool) (w : World) (h : impl_OneBit16.f a0 = some r) :
    Calls Try.prog 26 #[.int .i16 a0] w fun e w' => e = .returned (.bool r) ∧ Drawn0 w w' := by
  have H : ((ssarewrite_ZZOneBit_int16.f a0).bind fun t107 => (some t107)) = some r := h
  clear h
  replace H := Option.bind_eq_some_iff.mp H
  obtain ⟨t107, A20, H⟩ := H
  replace H : (some t107) = some r := H
  have A2 := Aside0.mk A20
  clear A20
  obtain rfl := Option.some.inj H
  go_enter Try.func26, Try.ntmps26
  go_wp2_with (first | ((with_reducible refine gate_callee (f := 41) rfl ?_); refine goesL_ (some 4) rfl rfl Try.func41 (by kernel_rfl) rfl #[.int .i16 a0] rfl (by (try simp only [List.map_toArray, List.map_cons, List.map_nil]); first | done | rfl | (simp only [List.length_drop, List.length_take]; rfl)) ?_; (with_reducible refine (ssarewrite_ZZOneBit_int16.calls a0 t107 _ A2.out).mono ?_); rintro e w' ⟨rfl, ⟨nd, rfl⟩⟩; refine ⟨_, rfl, ?_⟩))
  go_ret
  exact ⟨by first | rfl | (simp; done) | (simp [*]; done), by repeat (first | exact Drawn0.refl _ | apply Drawn0.step)⟩

/-! ### ssarewrite_oneBit_int8: function 55 -/
def ssarewrite_oneBit_int8.f (a0 : Int) : Option (Bool) := if (Go.bits .and .i8 a0 (IntKind.i8.wrap (a0 - 1))) = 0 then (some (a0 != 0)) else (some false)
set_option maxHeartbeats 8000000 in
set_option maxRecDepth 100000 in
theorem ssarewrite_oneBit_int8.calls (a0 : Int) (r : Bool) (w : World) (h : ssarewrite_oneBit_int8.f a0 = some r) :
    Calls Try.prog 55 #[.int .i8 a0] w fun e w' => e = .returned (.bool r) ∧ Drawn0 w w' := by
  have H : (if (Go.bits .and .i8 a0 (IntKind.i8.wrap (a0 - 1))) = 0 then (some (a0 != 0)) else (some false)) = some r := h
  clear h
  by_cases c2 : (Go.bits .and .i8 a0 (IntKind.i8.wrap (a0 - 1))) = 0
  · rw [if_pos c2] at H
    have c2b0 : ((Go.bits .and .i8 a0 (IntKind.i8.wrap (a0 - 1))) == 0) = true := beq_iff_eq.mpr c2
    have c2b1 : ((Go.bits .and .i8 a0 (IntKind.i8.wrap (a0 - 1))) != 0) = false := bne_eq_false_iff_eq.mpr c2
    clear c2
    obtain rfl := Option.some.inj H
    go_enter Try.func55, Try.ntmps55
    go_wp2
    go_ret
    exact ⟨by first | rfl | (simp; done) | (simp [*]; done), by repeat (first | exact Drawn0.refl _ | apply Drawn0.step)⟩
  · rw [if_neg c2] at H
    have c2b0 : ((Go.bits .and .i8 a0 (IntKind.i8.wrap (a0 - 1))) == 0) = false := beq_eq_false_iff_ne.mpr c2
    have c2b1 : ((Go.bits .and .i8 a0 (IntKind.i8.wrap (a0 - 1))) != 0) = true := bne_iff_ne.mpr c2
    obtain rfl := Option.some.inj H
    go_enter Try.func55, Try.ntmps55
    go_wp2
    go_ret
    exact ⟨by first | rfl | (simp; done) | (simp [*]; done), by repeat (first | exact Drawn0.refl _ | apply Drawn0.step)⟩

/-! ### ssarewrite_ZZOneBit_int8: function 42 -/
def ssarewrite_ZZOneBit_int8.f (a0 : Int) : Option (Bool) := (ssarewrite_oneBit_int8.f a0).bind fun t108 => (some t108)
set_option maxHeartbeats 8000000 in
set_option maxRecDepth 100000 in
theorem ssarewrite_ZZOneBit_int8.calls (a0 : Int) (r : Bool) (w : World) (h : ssarewrite_ZZOneBit_int8.f a0 = some r) :
    Calls Try.prog 42 #[.int .i8 a0] w fun e w' => e = .returned (.bool r) ∧ Drawn0 w w' := by
  have H : ((ssarewrite_oneBit_int8.f a0).bind fun t108 => (some t108)) = some r := h
  clear h
  replace H := Option.bind_eq_some_iff.mp H
  obtain ⟨t108, A20, H⟩ := H
  replace H : (some t108) = some r := H
  have A2 := Aside0.mk A20
  clear A20
  obtain rfl := Option.some.inj H
  go_enter Try.func42, Try.ntmps42
  go_wp2_with (first | ((with_reducible refine gate_callee (f := 55) rfl ?_); refine goesL_ (some 4) rfl rfl Try.func55 (by kernel_rfl) rfl #[.int .i8 a0] rfl (by (try simp only [List.map_toArray, List.map_cons, List.map_nil]); first | done | rfl | (simp only [List.length_drop, List.length_take]; rfl)) ?_; (with_reducible refine (ssarewrite_oneBit_int8.calls a0 t108 _ A2.out).mono ?_); rintro e w' ⟨rfl, ⟨nd, rfl⟩⟩; refine ⟨_, rfl, ?_⟩))
  go_ret
  exact ⟨by first | rfl | (simp; done) | (simp [*]; done), by repeat (first | exact Drawn0.refl _ | apply Drawn0.step)⟩

/-! ### impl_OneBit8: function 27 -/
def impl_OneBit8.f (a0 : Int) : Option (Bool) := (ssarewrite_ZZOneBit_int8.f a0).bind fun t109 => (some t109)
set_option maxHeartbeats 8000000 in
set_option maxRecDepth 100000 in
theorem impl_OneBit8.calls (a0 : Int) (r : Bool) (w : World) (h : impl_OneBit8.f a0 = some r) :
    Calls Try.prog 27 #[.int .i8 a0] w fun e w' => e = .returned (.bool r) ∧ Drawn0 w w' := by
  have H : ((ssarewrite_ZZOneBit_int8.f a0).bind fun t109 => (some t109)) = some r := h
  clear h
  replace H := Option.bind_eq_some_iff.mp H
  obtain ⟨t109, A20, H⟩ := H
  replace H : (some t109) = some r := H
  have A2 := Aside0.mk A20
  clear A20
  obtain rfl := Option.some.inj H
  go_enter Try.func27, Try.ntmps27
  go_wp2_with (first | ((with_reducible refine gate_callee (f := 42) rfl ?_); refine goesL_ (some 4) rfl rfl Try.func42 (by kernel_rfl) rfl #[.int .i8 a0] rfl (by (try simp only [List.map_toArray, List.map_cons, List.map_nil]); first | done | rfl | (simp only [List.length_drop, List.length_take]; rfl)) ?_; (with_reducible refine (ssarewrite_ZZOneBit_int8.calls a0 t109 _ A2.out).mono ?_); rintro e w' ⟨rfl, ⟨nd, rfl⟩⟩; refine ⟨_, rfl, ?_⟩))
  go_ret
  exact ⟨by first | rfl | (simp; done) | (simp [*]; done), by repeat (first | exact Drawn0.refl _ | apply Drawn0.step)⟩

/-! ### laws_FnOneBit: function 9 -/
def laws_FnOneBit.f (k : Nat) (a0 : Int) : Option (Bool) := (impl_OneBit64.f a0).bind fun t110 => ((spec_Ones.f k (IntKind.u64.wrap (a0)) 64).bind fun t111 => (if (t110 == (t111 == 1)) = true then ((impl_OneBit32.f (wrap32 (a0))).bind fun t112 => ((spec_Ones.f k (IntKind.u64.wrap (a0)) 32).bind fun t113 => (if (t112 == (t113 == 1)) = true then ((impl_OneBit16.f (IntKind.i16.wrap (a0))).bind fun t114 => ((spec_Ones.f k (IntKind.u64.wrap (a0)) 16).bind fun t115 => (if (t114 == (t115 == 1)) = true then ((impl_OneBit8.f (IntKind.i8.wrap (a0))).bind fun t116 => ((spec_Ones.f k (IntKind.u64.wrap (a0)) 8).bind fun t117 => (if (t116 == (t117 == 1)) = true then ((impl_OneBit64.f (-9223372036854775808)).bind fun t118 => (some t118)) else (some false)))) else (some false)))) else (some false)))) else (some false)))
theorem laws_FnOneBit.mono : ∀ a0 k, LeO (laws_FnOneBit.f k a0) (laws_FnOneBit.f (k + 1) a0) := by
  intro a0 k
  unfold laws_FnOneBit.f
  repeat' first
      | (with_reducible exact spec_Ones.mono _ _ _)
      | (with_reducible exact LeO.refl _)
      | (with_reducible exact LeO.none _)
      | (with_reducible refine LeO.ite ?_ ?_)
      | (with_reducible refine LeO.bind ?_ (fun _ => ?_))
      | exact spec_Ones.mono _ _ _
      | exact LeO.none _
      | refine LeO.ite ?_ ?_
      | refine LeO.bind ?_ (fun _ => ?_)
set_option maxHeartbeats 8000000 in
set_option maxRecDepth 100000 in
theorem laws_FnOneBit.calls (k : Nat) (a0 : Int) (r : Bool) (w : World) (h : laws_FnOneBit.f k a0 = some r) :
    Calls Try.prog 9 #[.int .i64 a0] w fun e w' => e = .returned (.bool r) ∧ Drawn0 w w' := by
  have H : ((impl_OneBit64.f a0).bind fun t110 => ((spec_Ones.f k (IntKind.u64.wrap (a0)) 64).bind fun t111 => (if (t110 == (t111 == 1)) = true then ((impl_OneBit32.f (wrap32 (a0))).bind fun t112 => ((spec_Ones.f k (IntKind.u64.wrap (a0)) 32).bind fun t113 => (if (t112 == (t113 == 1)) = true then ((impl_OneBit16.f (IntKind.i16.wrap (a0))).bind fun t114 => ((spec_Ones.f k (IntKind.u64.wrap (a0)) 16).bind fun t115 => (if (t114 == (t115 == 1)) = true then ((impl_OneBit8.f (IntKind.i8.wrap (a0))).bind fun t116 => ((spec_Ones.f k (IntKind.u64.wrap (a0)) 8).bind fun t117 => (if (t116 == (t117 == 1)) = true then ((impl_OneBit64.f (-9223372036854775808)).bind fun t118 => (some t118)) else (some false)))) else (some false)))) else (some false)))) else (some false)))) = some r := h
  clear h
  replace H := Option.bind_eq_some_iff.mp H
  obtain ⟨t110, A20, H⟩ := H
  replace H : ((spec_Ones.f k (IntKind.u64.wrap (a0)) 64).bind fun t111 => (if (t110 == (t111 == 1)) = true then ((impl_OneBit32.f (wrap32 (a0))).bind fun t112 => ((spec_Ones.f k (IntKind.u64.wrap (a0)) 32).bind fun t113 => (if (t112 == (t113 == 1)) = true then ((impl_OneBit16.f (IntKind.i16.wrap (a0))).bind fun t114 => ((spec_Ones.f k (IntKind.u64.wrap (a0)) 16).bind fun t115 => (if (t114 == (t115 == 1)) = true then ((impl_OneBit8.f (IntKind.i8.wrap (a0))).bind fun t116 => ((spec_Ones.f k (IntKind.u64.wrap (a0)) 8).bind fun t117 => (if (t116 == (t117 == 1)) = true then ((impl_OneBit64.f (-9223372036854775808)).bind fun t118 => (some t118)) else (some false)))) else (some false)))) else (some false)))) else (some false))) = some r := H
  have A2 := Aside0.mk A20
  clear A20
  replace H := Option.bind_eq_some_iff.mp H
  obtain ⟨t111, A30, H⟩ := H
  replace H : (if (t110 == (t111 == 1)) = true then ((impl_OneBit32.f (wrap32 (a0))).bind fun t112 => ((spec_Ones.f k (IntKind.u64.wrap (a0)) 32).bind fun t113 => (if (t112 == (t113 == 1)) = true then ((impl_OneBit16.f (IntKind.i16.wrap (a0))).bind fun t114 => ((spec_Ones.f k (IntKind.u64.wrap (a0)) 16).bind fun t115 => (if (t114 == (t115 == 1)) = true then ((impl_OneBit8.f (IntKind.i8.wrap (a0))).bind fun t116 => ((spec_Ones.f k (IntKind.u64.wrap (a0)) 8).bind fun t117 => (if (t116 == (t117 == 1)) = true then ((impl_OneBit64.f (-9223372036854775808)).bind fun t118 => (some t118)) else (some false)))) else (some false)))) else (some false)))) else (some false)) = some r := H
  have A3 := Aside0.mk A30
  clear A30
  by_cases c4 : (t110 == (t111 == 1)) = true
  · rw [if_pos c4] at H
    have c4b0 : (t110 == (t111 == 1)) = true := c4
    (try (have c4b1 : decide (t110 = (t111 == 1)) = true := by simpa using c4))
    (try (have c4b2 : (t110 == (t111 == 1)) = true := by simpa using c4))
    clear c4
    replace H := Option.bind_eq_some_iff.mp H
    obtain ⟨t112, A50, H⟩ := H
    replace H : ((spec_Ones.f k (IntKind.u64.wrap (a0)) 32).bind fun t113 => (if (t112 == (t113 == 1)) = true then ((impl_OneBit16.f (IntKind.i16.wrap (a0))).bind fun t114 => ((spec_Ones.f k (IntKind.u64.wrap (a0)) 16).bind fun t115 => (if (t114 == (t115 == 1)) = true then ((impl_OneBit8.f (IntKind.i8.wrap (a0))).bind fun t116 => ((spec_Ones.f k (IntKind.u64.wrap (a0)) 8).bind fun t117 => (if (t116 == (t117 == 1)) = true then ((impl_OneBit64.f (-9223372036854775808)).bind fun t118 => (some t118)) else (some false)))) else (some false)))) else (some false))) = some r := H
    have A5 := Aside0.mk A50
    clear A50
    replace H := Option.bind_eq_some_iff.mp H
    obtain ⟨t113, A60, H⟩ := H
    replace H : (if (t112 == (t113 == 1)) = true then ((impl_OneBit16.f (IntKind.i16.wrap (a0))).bind fun t114 => ((spec_Ones.f k (IntKind.u64.wrap (a0)) 16).bind fun t115 => (if (t114 == (t115 == 1)) = true then ((impl_OneBit8.f (IntKind.i8.wrap (a0))).bind fun t116 => ((spec_Ones.f k (IntKind.u64.wrap (a0)) 8).bind fun t117 => (if (t116 == (t117 == 1)) = true then ((impl_OneBit64.f (-9223372036854775808)).bind fun t118 => (some t118)) else (some false)))) else (some false)))) else (some false)) = some r := H
    have A6 := Aside0.mk A60
    clear A60
    by_cases c7 : (t112 == (t113 == 1)) = true
    · rw [if_pos c7] at H
      have c7b0 : (t112 == (t113 == 1)) = true := c7
      (try (have c7b1 : decide (t112 = (t113 == 1)) = true := by simpa using c7))
      (try (have c7b2 : (t112 == (t113 == 1)) = true := by simpa using c7))
      clear c7
      replace H := Option.bind_eq_some_iff.mp H
      obtain ⟨t114, A80, H⟩ := H
      replace H : ((spec_Ones.f k (IntKind.u64.wrap (a0)) 16).bind fun t115 => (if (t114 == (t115 == 1)) = true then ((impl_OneBit8.f (IntKind.i8.wrap (a0))).bind fun t116 => ((spec_Ones.f k (IntKind.u64.wrap (a0)) 8).bind fun t117 => (if (t116 == (t117 == 1)) = true then ((impl_OneBit64.f (-9223372036854775808)).bind fun t118 => (some t118)) else (some false)))) else (some false))) = some r := H
      have A8 := Aside0.mk A80
      clear A80
      replace H := Option.bind_eq_some_iff.mp H
      obtain ⟨t115, A90, H⟩ := H
      replace H : (if (t114 == (t115 == 1)) = true then ((impl_OneBit8.f (IntKind.i8.wrap (a0))).bind fun t116 => ((spec_Ones.f k (IntKind.u64.wrap (a0)) 8).bind fun t117 => (if (t116 == (t117 == 1)) = true then ((impl_OneBit64.f (-9223372036854775808)).bind fun t118 => (some t118)) else (some false)))) else (some false)) = some r := H
      have A9 := Aside0.mk A90
      clear A90
      by_cases c10 : (t114 == (t115 == 1)) = true
      · rw [if_pos c10] at H
        have c10b0 : (t114 == (t115 == 1)) = true := c10
        (try (have c10b1 : decide (t114 = (t115 == 1)) = true := by simpa using c10))
        (try (have c10b2 : (t114 == (t115 == 1)) = true := by simpa using c10))
        clear c10
        replace H := Option.bind_eq_some_iff.mp H
        obtain ⟨t116, A110, H⟩ := H
        replace H : ((spec_Ones.f k (IntKind.u64.wrap (a0)) 8).bind fun t117 => (if (t116 == (t117 == 1)) = true then ((impl_OneBit64.f (-9223372036854775808)).bind fun t118 => (some t118)) else (some false))) = some r := H
        have A11 := Aside0.mk A110
        clear A110
        replace H := Option.bind_eq_some_iff.mp H
        obtain ⟨t117, A120, H⟩ := H
        replace H : (if (t116 == (t117 == 1)) = true then ((impl_OneBit64.f (-9223372036854775808)).bind fun t118 => (some t118)) else (some false)) = some r := H
        have A12 := Aside0.mk A120
        clear A120
        by_cases c13 : (t116 == (t117 == 1)) = true
        · rw [if_pos c13] at H
          have c13b0 : (t116 == (t117 == 1)) = true := c13
          (try (have c13b1 : decide (t116 = (t117 == 1)) = true := by simpa using c13))
          (try (have c13b2 : (t116 == (t117 == 1)) = true := by simpa using c13))
          clear c13
          replace H := Option.bind_eq_some_iff.mp H
          obtain ⟨t118, A140, H⟩ := H
          replace H : (some t118) = some r := H
          have A14 := Aside0.mk A140
          clear A140
          obtain rfl := Option.some.inj H
          go_enter Try.func9, Try.ntmps9
          go_wp2_with (first | ((with_reducible refine gate_callee (f := 23) rfl ?_); refine goesL_ (some 7) rfl rfl Try.func23 (by kernel_rfl) rfl #[.int .i64 a0] rfl (by (try simp only [List.map_toArray, List.map_cons, List.map_nil]); first | done | rfl | (simp only [List.length_drop, List.length_take]; rfl)) ?_; (with_reducible refine (impl_OneBit64.calls a0 t110 _ A2.out).mono ?_); rintro e w' ⟨rfl, ⟨nd, rfl⟩⟩; refine ⟨_, rfl, ?_⟩) | ((with_reducible refine gate_callee (f := 24) rfl ?_); refine goesL_ (some 9) rfl rfl Try.func24 (by kernel_rfl) rfl #[.int .u64 (IntKind.u64.wrap (a0)), .int .u64 64] rfl (by (try simp only [List.map_toArray, List.map_cons, List.map_nil]); first | done | rfl | (simp only [List.length_drop, List.length_take]; rfl)) ?_; (with_reducible refine (spec_Ones.calls k (IntKind.u64.wrap (a0)) 64 t111 _ A3.out).mono ?_); rintro e w' ⟨rfl, ⟨nd, rfl⟩⟩; refine ⟨_, rfl, ?_⟩) | (go_at_call 25; (with_reducible refine (impl_OneBit32.calls (wrap32 (a0)) t112 _ A5.out).mono ?_); rintro e w' ⟨rfl, ⟨nd, rfl⟩⟩) | (go_at_call 24; (with_reducible refine (spec_Ones.calls k (IntKind.u64.wrap (a0)) 32 t113 _ A6.out).mono ?_); rintro e w' ⟨rfl, ⟨nd, rfl⟩⟩) | (go_at_call 26; (with_reducible refine (impl_OneBit16.calls (IntKind.i16.wrap (a0)) t114 _ A8.out).mono ?_); rintro e w' ⟨rfl, ⟨nd, rfl⟩⟩) | (go_at_call 24; (with_reducible refine (spec_Ones.calls k (IntKind.u64.wrap (a0)) 16 t115 _ A9.out).mono ?_); rintro e w' ⟨rfl, ⟨nd, rfl⟩⟩) | (go_at_call 27; (with_reducible refine (impl_OneBit8.calls (IntKind.i8.wrap (a0)) t116 _ A11.out).mono ?_); rintro e w' ⟨rfl, ⟨nd, rfl⟩⟩) | (go_at_call 24; (with_reducible refine (spec_Ones.calls k (IntKind.u64.wrap (a0)) 8 t117 _ A12.out).mono ?_); rintro e w' ⟨rfl, ⟨nd, rfl⟩⟩) | (go_at_call 23; (with_reducible refine (impl_OneBit64.calls (-9223372036854775808) t118 _ A14.out).mono ?_); rintro e w' ⟨rfl, ⟨nd, rfl⟩⟩))
          go_ret
          exact ⟨by first | rfl | (simp; done) | (simp [*]; done), by repeat (first | exact Drawn0.refl _ | apply Drawn0.step)⟩
        · rw [if_neg c13] at H
          have c13b0 : (t116 == (t117 == 1)) = false := by simpa using c13
          (try (have c13b1 : decide (t116 = (t117 == 1)) = false := by simpa using c13))
          (try (have c13b2 : (t116 == (t117 == 1)) = false := by simpa using c13))
          (try (have c13b3 : ¬ (t116 = (t117 == 1)) := by simpa using c13))
          clear c13
          obtain rfl := Option.some.inj H
          go_enter Try.func9, Try.ntmps9
          go_wp2_with (first | ((with_reducible refine gate_callee (f := 23) rfl ?_); refine goesL_ (some 7) rfl rfl Try.func23 (by kernel_rfl) rfl #[.int .i64 a0] rfl (by (try simp only [List.map_toArray, List.map_cons, List.map_nil]); first | done | rfl | (simp only [List.length_drop, List.length_take]; rfl)) ?_; (with_reducible refine (impl_OneBit64.calls a0 t110 _ A2.out).mono ?_); rintro e w' ⟨rfl, ⟨nd, rfl⟩⟩; refine ⟨_, rfl, ?_⟩) | ((with_reducible refine gate_callee (f := 24) rfl ?_); refine goesL_ (some 9) rfl rfl Try.func24 (by kernel_rfl) rfl #[.int .u64 (IntKind.u64.wrap (a0)), .int .u64 64] rfl (by (try simp only [List.map_toArray, List.map_cons, List.map_nil]); first | done | rfl | (simp only [List.length_drop, List.length_take]; rfl)) ?_; (with_reducible refine (spec_Ones.calls k (IntKind.u64.wrap (a0)) 64 t111 _ A3.out).mono ?_); rintro e w' ⟨rfl, ⟨nd, rfl⟩⟩; refine ⟨_, rfl, ?_⟩) | (go_at_call 25; (with_reducible refine (impl_OneBit32.calls (wrap32 (a0)) t112 _ A5.out).mono ?_); rintro e w' ⟨rfl, ⟨nd, rfl⟩⟩) | (go_at_call 24; (with_reducible refine (spec_Ones.calls k (IntKind.u64.wrap (a0)) 32 t113 _ A6.out).mono ?_); rintro e w' ⟨rfl, ⟨nd, rfl⟩⟩) | (go_at_call 26; (with_reducible refine (impl_OneBit16.calls (IntKind.i16.wrap (a0)) t114 _ A8.out).mono ?_); rintro e w' ⟨rfl, ⟨nd, rfl⟩⟩) | (go_at_call 24; (with_reducible refine (spec_Ones.calls k (IntKind.u64.wrap (a0)) 16 t115 _ A9.out).mono ?_); rintro e w' ⟨rfl, ⟨nd, rfl⟩⟩) | (go_at_call 27; (with_reducible refine (impl_OneBit8.calls (IntKind.i8.wrap (a0)) t116 _ A11.out).mono ?_); rintro e w' ⟨rfl, ⟨nd, rfl⟩⟩) | (go_at_call 24; (with_reducible refine (spec_Ones.calls k (IntKind.u64.wrap (a0)) 8 t117 _ A12.out).mono ?_); rintro e w' ⟨rfl, ⟨nd, rfl⟩⟩))
          go_ret
          exact ⟨by first | rfl | (simp; done) | (simp [*]; done), by repeat (first | exact Drawn0.refl _ | apply Drawn0.step)⟩
      · rw [if_neg c10] at H
        have c10b0 : (t114 == (t115 == 1)) = false := by simpa using c10
        (try (have c10b1 : decide (t114 = (t115 == 1)) = false := by simpa using c10))
        (try (have c10b2 : (t114 == (t115 == 1)) = false := by simpa using c10))
        (try (have c10b3 : ¬ (t114 = (t115 == 1)) := by simpa using c10))
        clear c10
        obtain rfl := Option.some.inj H
        go_enter Try.func9, Try.ntmps9
        go_wp2_with (first | ((with_reducible refine gate_callee (f := 23) rfl ?_); refine goesL_ (some 7) rfl rfl Try.func23 (by kernel_rfl) rfl #[.int .i64 a0] rfl (by (try simp only [List.map_toArray, List.map_cons, List.map_nil]); first | done | rfl | (simp only [List.length_drop, List.length_take]; rfl)) ?_; (with_reducible refine (impl_OneBit64.calls a0 t110 _ A2.out).mono ?_); rintro e w' ⟨rfl, ⟨nd, rfl⟩⟩; refine ⟨_, rfl, ?_⟩) | ((with_reducible refine gate_callee (f := 24) rfl ?_); refine goesL_ (some 9) rfl rfl Try.func24 (by kernel_rfl) rfl #[.int .u64 (IntKind.u64.wrap (a0)), .int .u64 64] rfl (by (try simp only [List.map_toArray, List.map_cons, List.map_nil]); first | done | rfl | (simp only [List.length_drop, List.length_take]; rfl)) ?_; (with_reducible refine (spec_Ones.calls k (IntKind.u64.wrap (a0)) 64 t111 _ A3.out).mono ?_); rintro e w' ⟨rfl, ⟨nd, rfl⟩⟩; refine ⟨_, rfl, ?_⟩) | (go_at_call 25; (with_reducible refine (impl_OneBit32.calls (wrap32 (a0)) t112 _ A5.out).mono ?_); rintro e w' ⟨rfl, ⟨nd, rfl⟩⟩) | (go_at_call 24; (with_reducible refine (spec_Ones.calls k (IntKind.u64.wrap (a0)) 32 t113 _ A6.out).mono ?_); rintro e w' ⟨rfl, ⟨nd, rfl⟩⟩) | (go_at_call 26; (with_reducible refine (impl_OneBit16.calls (IntKind.i16.wrap (a0)) t114 _ A8.out).mono ?_); rintro e w' ⟨rfl, ⟨nd, rfl⟩⟩) | (go_at_call 24; (with_reducible refine (spec_Ones.calls k (IntKind.u64.wrap (a0)) 16 t115 _ A9.out).mono ?_); rintro e w' ⟨rfl, ⟨nd, rfl⟩⟩))
        go_ret
        exact ⟨by first | rfl | (simp; done) | (simp [*]; done), by repeat (first | exact Drawn0.refl _ | apply Drawn0.step)⟩
    · rw [if_neg c7] at H
      have c7b0 : (t112 == (t113 == 1)) = false := by simpa using c7
      (try (have c7b1 : decide (t112 = (t113 == 1)) = false := by simpa using c7))
      (try (have c7b2 : (t112 == (t113 == 1)) = false := by simpa using c7))
      (try (have c7b3 : ¬ (t112 = (t113 == 1)) := by simpa using c7))
      clear c7
      obtain rfl := Option.some.inj H
      go_enter Try.func9, Try.ntmps9
      go_wp2_with (first | ((with_reducible refine gate_callee (f := 23) rfl ?_); refine goesL_ (some 7) rfl rfl Try.func23 (by kernel_rfl) rfl #[.int .i64 a0] rfl (by (try simp only [List.map_toArray, List.map_cons, List.map_nil]); first | done | rfl | (simp only [List.length_drop, List.length_take]; rfl)) ?_; (with_reducible refine (impl_OneBit64.calls a0 t110 _ A2.out).mono ?_); rintro e w' ⟨rfl, ⟨nd, rfl⟩⟩; refine ⟨_, rfl, ?_⟩) | ((with_reducible refine gate_callee (f := 24) rfl ?_); refine goesL_ (some 9) rfl rfl Try.func24 (by kernel_rfl) rfl #[.int .u64 (IntKind.u64.wrap (a0)), .int .u64 64] rfl (by (try simp only [List.map_toArray, List.map_cons, List.map_nil]); first | done | rfl | (simp only [List.length_drop, List.length_take]; rfl)) ?_; (with_reducible refine (spec_Ones.calls k (IntKind.u64.wrap (a0)) 64 t111 _ A3.out).mono ?_); rintro e w' ⟨rfl, ⟨nd, rfl⟩⟩; refine ⟨_, rfl, ?_⟩) | (go_at_call 25; (with_reducible refine (impl_OneBit32.calls (wrap32 (a0)) t112 _ A5.out).mono ?_); rintro e w' ⟨rfl, ⟨nd, rfl⟩⟩) | (go_at_call 24; (with_reducible refine (spec_Ones.calls k (IntKind.u64.wrap (a0)) 32 t113 _ A6.out).mono ?_); rintro e w' ⟨rfl, ⟨nd, rfl⟩⟩))
      go_ret
      exact ⟨by first | rfl | (simp; done) | (simp [*]; done), by repeat (first | exact Drawn0.refl _ | apply Drawn0.step)⟩
  · rw [if_neg c4] at H
    have c4b0 : (t110 == (t111 == 1)) = false := by simpa using c4
    (try (have c4b1 : decide (t110 = (t111 == 1)) = false := by simpa using c4))
    (try (have c4b2 : (t110 == (t111 == 1)) = false := by simpa using c4))
    (try (have c4b3 : ¬ (t110 = (t111 == 1)) := by simpa using c4))
    clear c4
    obtain rfl := Option.some.inj H
    go_enter Try.func9, Try.ntmps9
    go_wp2_with (first | ((with_reducible refine gate_callee (f := 23) rfl ?_); refine goesL_ (some 7) rfl rfl Try.func23 (by kernel_rfl) rfl #[.int .i64 a0] rfl (by (try simp only [List.map_toArray, List.map_cons, List.map_nil]); first | done | rfl | (simp only [List.length_drop, List.length_take]; rfl)) ?_; (with_reducible refine (impl_OneBit64.calls a0 t110 _ A2.out).mono ?_); rintro e w' ⟨rfl, ⟨nd, rfl⟩⟩; refine ⟨_, rfl, ?_⟩) | ((with_reducible refine gate_callee (f := 24) rfl ?_); refine goesL_ (some 9) rfl rfl Try.func24 (by kernel_rfl) rfl #[.int .u64 (IntKind.u64.wrap (a0)), .int .u64 64] rfl (by (try simp only [List.map_toArray, List.map_cons, List.map_nil]); first | done | rfl | (simp only [List.length_drop, List.length_take]; rfl)) ?_; (with_reducible refine (spec_Ones.calls k (IntKind.u64.wrap (a0)) 64 t111 _ A3.out).mono ?_); rintro e w' ⟨rfl, ⟨nd, rfl⟩⟩; refine ⟨_, rfl, ?_⟩))
    go_ret
    exact ⟨by first | rfl | (simp; done) | (simp [*]; done), by repeat (first | exact Drawn0.refl _ | apply Drawn0.step)⟩

/-- THE ONE PURE STATEMENT of laws_FnOneBit: yours. -/
def laws_FnOneBit.Pure : Prop := ∀ (a0 : Int), (Lit.int .i64 a0).wf = true → ∃ k, laws_FnOneBit.f k a0 = some true
theorem laws_FnOneBit.walk (P : laws_FnOneBit.Pure) (a0 : Int) (w : World) (w0 : (Lit.int .i64 a0).wf = true) :
    Calls Try.prog 9 #[.int .i64 a0] w fun e w' => e = .returned (.bool true) ∧ Below w.heap.size w w' := by
  obtain ⟨k, h⟩ := P a0 w0
  refine (laws_FnOneBit.calls k a0 true w h).mono ?_
  rintro e w' ⟨rfl, hd⟩
  exact ⟨rfl, hd.below⟩

end Go.Proofs.Ytdofpblgcmjgfaa.PFnOneBit
