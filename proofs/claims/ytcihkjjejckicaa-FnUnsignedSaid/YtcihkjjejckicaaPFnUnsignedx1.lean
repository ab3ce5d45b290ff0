-- PRINTED BY print.sh 35421559b90ae4d0a3588c463048766b98c2df88dd9212a6774a882060cdf62d: not written by this session
import Derived.Test.YtcihkjjejckicaaPFnUnsignedx0
namespace Go.Proofs.Ytcihkjjejckicaa.PFnUnsigned
open Go.RowKit Go.Proofs.YtcihkjjejckicaaW.PrintWords Go.Proofs.YtcihkjjejckicaaW.PrintLast Go.Proofs.YtcihkjjejckicaaW.PrintMore
attribute [local go_sem] max2_int min2_int max_two min_two max_three min_three max_four min_four   -- for this text's walks alone
set_option linter.unusedVariables false
set_option linter.unusedSimpArgs false

/-! ### ssarewrite_isU32Bit: function 48 -/
def ssarewrite_isU32Bit.f (a0 : Int) : Option (Bool) := some (a0 == ((a0) % 4294967296))
set_option maxHeartbeats 8000000 in
set_option maxRecDepth 100000 in
theorem ssarewrite_isU32Bit.calls (a0 : Int) (r : Bool) (w : World) (h : ssarewrite_isU32Bit.f a0 = some r) :
    Calls Try.prog 48 #[.int .i64 a0] w fun e w' => e = .returned (.bool r) ∧ Drawn0 w w' := by
  have H : (some (a0 == ((a0) % 4294967296))) = some r := h
  clear h
  obtain rfl := Option.some.inj H
  go_enter Try.func48, Try.ntmps48
  go_wp2
  go_ret
  exact ⟨by first | rfl | (simp; done) | (simp [*]; done), by repeat (first | exact Drawn0.refl _ | apply Drawn0.step)⟩

/-! ### ssarewrite_ZZIsU32Bit: function 31 -/
def ssarewrite_ZZIsU32Bit.f (a0 : Int) : Option (Bool) := (ssarewrite_isU32Bit.f a0).bind fun t101 => (some t101)
set_option maxHeartbeats 8000000 in
set_option maxRecDepth 100000 in
theorem ssarewrite_ZZIsU32Bit.calls (a0 : Int) (r : Bool) (w : World) (h : ssarewrite_ZZIsU32Bit.f a0 = some r) :
    Calls Try.prog 31 #[.int .i64 a0] w fun e w' => e = .returned (.bool r) ∧ Drawn0 w w' := by
  have H : ((ssarewrite_isU32Bit.f a0).bind fun t101 => (some t101)) = some r := h
  clear h
  replace H := Option.bind_eq_some_iff.mp H
  obtain ⟨t101, A20, H⟩ := H
  replace H : (some t101) = some r := H
  have A2 := Aside0.mk A20
  clear A20
  obtain rfl := Option.some.inj H
  go_enter Try.func31, Try.ntmps31
  go_wp2_with (first | ((with_reducible refine gate_callee (f := 48) rfl ?_); refine goesL_ (some 4) rfl rfl Try.func48 (by kernel_rfl) rfl #[.int .i64 a0] rfl (by (try simp only [List.map_toArray, List.map_cons, List.map_nil]); first | done | rfl | (simp only [List.length_drop, List.length_take]; rfl)) ?_; (with_reducible refine (ssarewrite_isU32Bit.calls a0 t101 _ A2.out).mono ?_); rintro e w' ⟨rfl, ⟨nd, rfl⟩⟩; refine ⟨_, rfl, ?_⟩))
  go_ret
  exact ⟨by first | rfl | (simp; done) | (simp [*]; done), by repeat (first | exact Drawn0.refl _ | apply Drawn0.step)⟩

/-! ### impl_IsU32Bit: function 11 -/
def impl_IsU32Bit.f (a0 : Int) : Option (Bool) := (ssarewrite_ZZIsU32Bit.f a0).bind fun t102 => (some t102)
set_option maxHeartbeats 8000000 in
set_option maxRecDepth 100000 in
theorem impl_IsU32Bit.calls (a0 : Int) (r : Bool) (w : World) (h : impl_IsU32Bit.f a0 = some r) :
    Calls Try.prog 11 #[.int .i64 a0] w fun e w' => e = .returned (.bool r) ∧ Drawn0 w w' := by
  have H : ((ssarewrite_ZZIsU32Bit.f a0).bind fun t102 => (some t102)) = some r := h
  clear h
  replace H := Option.bind_eq_some_iff.mp H
  obtain ⟨t102, A20, H⟩ := H
  replace H : (some t102) = some r := H
  have A2 := Aside0.mk A20
  clear A20
  obtain rfl := Option.some.inj H
  go_enter Try.func11, Try.ntmps11
  go_wp2_with (first | ((with_reducible refine gate_callee (f := 31) rfl ?_); refine goesL_ (some 4) rfl rfl Try.func31 (by kernel_rfl) rfl #[.int .i64 a0] rfl (by (try simp only [List.map_toArray, List.map_cons, List.map_nil]); first | done | rfl | (simp only [List.length_drop, List.length_take]; rfl)) ?_; (with_reducible refine (ssarewrite_ZZIsU32Bit.calls a0 t102 _ A2.out).mono ?_); rintro e w' ⟨rfl, ⟨nd, rfl⟩⟩; refine ⟨_, rfl, ?_⟩))
  go_ret
  exact ⟨by first | rfl | (simp; done) | (simp [*]; done), by repeat (first | exact Drawn0.refl _ | apply Drawn0.step)⟩

/-! ### spec_FitsU: function 12 -/
def spec_FitsU.f (a0 : Int) (a1 : Int) : Option (Bool) := if 0 ≤ a0 then (if 0 ≤ a1 then (some (decide (a0 < (shl .i64 1 a1)))) else (none)) else (some false)
set_option maxHeartbeats 8000000 in
set_option maxRecDepth 100000 in
theorem spec_FitsU.calls (a0 : Int) (a1 : Int) (r : Bool) (w : World) (h : spec_FitsU.f a0 a1 = some r) :
    Calls Try.prog 12 #[.int .i64 a0, .int .u64 a1] w fun e w' => e = .returned (.bool r) ∧ Drawn0 w w' := by
  have H : (if 0 ≤ a0 then (if 0 ≤ a1 then (some (decide (a0 < (shl .i64 1 a1)))) else (none)) else (some false)) = some r := h
  clear h
  by_cases c3 : 0 ≤ a0
  · rw [if_pos c3] at H
    have c3b0 : decide (0 ≤ a0) = true := decide_eq_true c3
    clear c3
    by_cases c4 : 0 ≤ a1
    · rw [if_pos c4] at H
      have c4b0 := eq_true c4
      have c4b1 : decide (0 ≤ a1) = true := decide_eq_true c4
      clear c4
      obtain ⟨ji5, hji5⟩ : ∃ j_ : Int, (shl .i64 1 a1) = j_ := ⟨_, rfl⟩
      replace H : (some (decide (a0 < (ji5)))) = some r := by first | (rw [hji5] at H; exact H) | (simp only [hji5] at H ⊢; exact H)
      have hji5_ : (IntKind.i64.wrap (1 * 2 ^ min a1.toNat 64)) = ji5 := hji5
      have hji5z : a1 ≤ 64 → (IntKind.i64.wrap (1 * 2 ^ a1.toNat)) = ji5 := shl_small hji5
      have hji5u : (IntKind.i64.wrap (2 ^ min a1.toNat 64)) = ji5 := by have h_ := hji5_; rw [Int.one_mul] at h_; exact h_
      have hji5v : a1 ≤ 64 → (IntKind.i64.wrap (2 ^ a1.toNat)) = ji5 := fun hle_ => by have h_ := hji5z hle_; rw [Int.one_mul] at h_; exact h_
      have hji5y : (wrap64 (1 * 2 ^ min a1.toNat 64)) = ji5 := (i64_w _).symm.trans hji5_
      have hji5x : a1 ≤ 64 → (wrap64 (1 * 2 ^ a1.toNat)) = ji5 := fun h_ => (i64_w _).symm.trans (hji5z h_)
      obtain rfl := Option.some.inj H
      go_enter Try.func12, Try.ntmps12
      go_wp2
      go_ret
      exact ⟨by first | rfl | (simp; done) | (simp only [← hji5] <;> (first | rfl | simp)) | (simp [*]; done), by repeat (first | exact Drawn0.refl _ | apply Drawn0.step)⟩
    · rw [if_neg c4] at H
      exact absurd H (by simp)
  · rw [if_neg c3] at H
    have c3b0 : decide (0 ≤ a0) = false := decide_eq_false c3
    clear c3
    obtain rfl := Option.some.inj H
    go_enter Try.func12, Try.ntmps12
    go_wp2
    go_ret
    exact ⟨by first | rfl | (simp; done) | (simp [*]; done), by repeat (first | exact Drawn0.refl _ | apply Drawn0.step)⟩

/-! ### ssarewrite_isU16Bit: function 49 -/
def ssarewrite_isU16Bit.f (a0 : Int) : Option (Bool) := some (a0 == (wrap64 (IntKind.u16.wrap (a0))))
set_option maxHeartbeats 8000000 in
set_option maxRecDepth 100000 in
theorem ssarewrite_isU16Bit.calls (a0 : Int) (r : Bool) (w : World) (h : ssarewrite_isU16Bit.f a0 = some r) :
    Calls Try.prog 49 #[.int .i64 a0] w fun e w' => e = .returned (.bool r) ∧ Drawn0 w w' := by
  have H : (some (a0 == (wrap64 (IntKind.u16.wrap (a0))))) = some r := h
  clear h
  obtain rfl := Option.some.inj H
  go_enter Try.func49, Try.ntmps49
  go_wp2
  go_ret
  exact ⟨by first | rfl | (simp; done) | (simp [*]; done), by repeat (first | exact Drawn0.refl _ | apply Drawn0.step)⟩

/-! ### ssarewrite_ZZIsU16Bit: function 32 -/
def ssarewrite_ZZIsU16Bit.f (a0 : Int) : Option (Bool) := (ssarewrite_isU16Bit.f a0).bind fun t103 => (some t103)
set_option maxHeartbeats 8000000 in
set_option maxRecDepth 100000 in
theorem ssarewrite_ZZIsU16Bit.calls (a0 : Int) (r : Bool) (w : World) (h : ssarewrite_ZZIsU16Bit.f a0 = some r) :
    Calls Try.prog 32 #[.int .i64 a0] w fun e w' => e = .returned (.bool r) ∧ Drawn0 w w' := by
  have H : ((ssarewrite_isU16Bit.f a0).bind fun t103 => (some t103)) = some r := h
  clear h
  replace H := Option.bind_eq_some_iff.mp H
  obtain ⟨t103, A20, H⟩ := H
  replace H : (some t103) = some r := H
  have A2 := Aside0.mk A20
  clear A20
  obtain rfl := Option.some.inj H
  go_enter Try.func32, Try.ntmps32
  go_wp2_with (first | ((with_reducible refine gate_callee (f := 49) rfl ?_); refine goesL_ (some 4) rfl rfl Try.func49 (by kernel_rfl) rfl #[.int .i64 a0] rfl (by (try simp only [List.map_toArray, List.map_cons, List.map_nil]); first | done | rfl | (simp only [List.length_drop, List.length_take]; rfl)) ?_; (with_reducible refine (ssarewrite_isU16Bit.calls a0 t103 _ A2.out).mono ?_); rintro e w' ⟨rfl, ⟨nd, rfl⟩⟩; refine ⟨_, rfl, ?_⟩))
  go_ret
  exact ⟨by first | rfl | (simp; done) | (simp [*]; done), by repeat (first | exact Drawn0.refl _ | apply Drawn0.step)⟩

/-! ### impl_IsU16Bit: function 13 -/
def impl_IsU16Bit.f (a0 : Int) : Option (Bool) := (ssarewrite_ZZIsU16Bit.f a0).bind fun t104 => (some t104)
set_option maxHeartbeats 8000000 in
set_option maxRecDepth 100000 in
theorem impl_IsU16Bit.calls (a0 : Int) (r : Bool) (w : World) (h : impl_IsU16Bit.f a0 = some r) :
    Calls Try.prog 13 #[.int .i64 a0] w fun e w' => e = .returned (.bool r) ∧ Drawn0 w w' := by
  have H : ((ssarewrite_ZZIsU16Bit.f a0).bind fun t104 => (some t104)) = some r := h
  clear h
  replace H := Option.bind_eq_some_iff.mp H
  obtain ⟨t104, A20, H⟩ := H
  replace H : (some t104) = some r := H
  have A2 := Aside0.mk A20
  clear A20
  obtain rfl := Option.some.inj H
  go_enter Try.func13, Try.ntmps13
  go_wp2_with (first | ((with_reducible refine gate_callee (f := 32) rfl ?_); refine goesL_ (some 4) rfl rfl Try.func32 (by kernel_rfl) rfl #[.int .i64 a0] rfl (by (try simp only [List.map_toArray, List.map_cons, List.map_nil]); first | done | rfl | (simp only [List.length_drop, List.length_take]; rfl)) ?_; (with_reducible refine (ssarewrite_ZZIsU16Bit.calls a0 t104 _ A2.out).mono ?_); rintro e w' ⟨rfl, ⟨nd, rfl⟩⟩; refine ⟨_, rfl, ?_⟩))
  go_ret
  exact ⟨by first | rfl | (simp; done) | (simp [*]; done), by repeat (first | exact Drawn0.refl _ | apply Drawn0.step)⟩

/-! ### ssarewrite_isU12Bit: function 50 -/
def ssarewrite_isU12Bit.f (a0 : Int) : Option (Bool) := if 0 ≤ a0 then (some (decide (a0 < 4096))) else (some false)
set_option maxHeartbeats 8000000 in
set_option maxRecDepth 100000 in
theorem ssarewrite_isU12Bit.calls (a0 : Int) (r : Bool) (w : World) (h : ssarewrite_isU12Bit.f a0 = some r) :
    Calls Try.prog 50 #[.int .i64 a0] w fun e w' => e = .returned (.bool r) ∧ Drawn0 w w' := by
  have H : (if 0 ≤ a0 then (some (decide (a0 < 4096))) else (some false)) = some r := h
  clear h
  by_cases c2 : 0 ≤ a0
  · rw [if_pos c2] at H
    have c2b0 : decide (0 ≤ a0) = true := decide_eq_true c2
    clear c2
    obtain rfl := Option.some.inj H
    go_enter Try.func50, Try.ntmps50
    go_wp2
    go_ret
    exact ⟨by first | rfl | (simp; done) | (simp [*]; done), by repeat (first | exact Drawn0.refl _ | apply Drawn0.step)⟩
  · rw [if_neg c2] at H
    have c2b0 : decide (0 ≤ a0) = false := decide_eq_false c2
    clear c2
    obtain rfl := Option.some.inj H
    go_enter Try.func50, Try.ntmps50
    go_wp2
    go_ret
    exact ⟨by first | rfl | (simp; done) | (simp [*]; done), by repeat (first | exact Drawn0.refl _ | apply Drawn0.step)⟩

/-! ### ssarewrite_ZZIsU12Bit: function 33 -/
def ssarewrite_ZZIsU12Bit.f (a0 : Int) : Option (Bool) := (ssarewrite_isU12Bit.f a0).bind fun t105 => (some t105)
set_option maxHeartbeats 8000000 in
set_option maxRecDepth 100000 in
theorem ssarewrite_ZZIsU12Bit.calls (a0 : Int) (r : Bool) (w : World) (h : ssarewrite_ZZIsU12Bit.f a0 = some r) :
    Calls Try.prog 33 #[.int .i64 a0] w fun e w' => e = .returned (.bool r) ∧ Drawn0 w w' := by
  have H : ((ssarewrite_isU12Bit.f a0).bind fun t105 => (some t105)) = some r := h
  clear h
  replace H := Option.bind_eq_some_iff.mp H
  obtain ⟨t105, A20, H⟩ := H
  replace H : (some t105) = some r := H
  have A2 := Aside0.mk A20
  clear A20
  obtain rfl := Option.some.inj H
  go_enter Try.func33, Try.ntmps33
  go_wp2_with (first | ((with_reducible refine gate_callee (f := 50) rfl ?_); refine goesL_ (some 4) rfl rfl Try.func50 (by kernel_rfl) rfl #[.int .i64 a0] rfl (by (try simp only [List.map_toArray, List.map_cons, List.map_nil]); first | done | rfl | (simp only [List.length_drop, List.length_take]; rfl)) ?_; (with_reducible refine (ssarewrite_isU12Bit.calls a0 t105 _ A2.out).mono ?_); rintro e w' ⟨rfl, ⟨nd, rfl⟩⟩; refine ⟨_, rfl, ?_⟩))
  go_ret
  exact ⟨by first | rfl | (simp; done) | (simp [*]; done), by repeat (first | exact Drawn0.refl _ | apply Drawn0.step)⟩

/-! ### impl_IsU12Bit: function 14 -/
def impl_IsU12Bit.f (a0 : Int) : Option (Bool) := (ssarewrite_ZZIsU12Bit.f a0).bind fun t106 => (some t106)
set_option maxHeartbeats 8000000 in
set_option maxRecDepth 100000 in
theorem impl_IsU12Bit.calls (a0 : Int) (r : Bool) (w : World) (h : impl_IsU12Bit.f a0 = some r) :
    Calls Try.prog 14 #[.int .i64 a0] w fun e w' => e = .returned (.bool r) ∧ Drawn0 w w' := by
  have H : ((ssarewrite_ZZIsU12Bit.f a0).bind fun t106 => (some t106)) = some r := h
  clear h
  replace H := Option.bind_eq_some_iff.mp H
  obtain ⟨t106, A20, H⟩ := H
  replace H : (some t106) = some r := H
  have A2 := Aside0.mk A20
  clear A20
  obtain rfl := Option.some.inj H
  go_enter Try.func14, Try.ntmps14
  go_wp2_with (first | ((with_reducible refine gate_callee (f := 33) rfl ?_); refine goesL_ (some 4) rfl rfl Try.func33 (by kernel_rfl) rfl #[.int .i64 a0] rfl (by (try simp only [List.map_toArray, List.map_cons, List.map_nil]); first | done | rfl | (simp only [List.length_drop, List.length_take]; rfl)) ?_; (with_reducible refine (ssarewrite_ZZIsU12Bit.calls a0 t106 _ A2.out).mono ?_); rintro e w' ⟨rfl, ⟨nd, rfl⟩⟩; refine ⟨_, rfl, ?_⟩))
  go_ret
  exact ⟨by first | rfl | (simp; done) | (simp [*]; done), by repeat (first | exact Drawn0.refl _ | apply Drawn0.step)⟩

/-! ### ssarewrite_isU8Bit: function 51 -/
def ssarewrite_isU8Bit.f (a0 : Int) : Option (Bool) := some (a0 == ((a0) % 256))
set_option maxHeartbeats 8000000 in
set_option maxRecDepth 100000 in
theorem ssarewrite_isU8Bit.calls (a0 : Int) (r : Bool) (w : World) (h : ssarewrite_isU8Bit.f a0 = some r) :
    Calls Try.prog 51 #[.int .i64 a0] w fun e w' => e = .returned (.bool r) ∧ Drawn0 w w' := by
  have H : (some (a0 == ((a0) % 256))) = some r := h
  clear h
  obtain rfl := Option.some.inj H
  go_enter Try.func51, Try.ntmps51
  go_wp2
  go_ret
  exact ⟨by first | rfl | (simp; done) | (simp [*]; done), by repeat (first | exact Drawn0.refl _ | apply Drawn0.step)⟩

/-! ### ssarewrite_ZZIsU8Bit: function 34 -/
def ssarewrite_ZZIsU8Bit.f (a0 : Int) : Option (Bool) := (ssarewrite_isU8Bit.f a0).bind fun t107 => (some t107)
set_option maxHeartbeats 8000000 in
set_option maxRecDepth 100000 in
theorem ssarewrite_ZZIsU8Bit.calls (a0 : Int) (r : Bool) (w : World) (h : ssarewrite_ZZIsU8Bit.f a0 = some r) :
    Calls Try.prog 34 #[.int .i64 a0] w fun e w' => e = .returned (.bool r) ∧ Drawn0 w w' := by
  have H : ((ssarewrite_isU8Bit.f a0).bind fun t107 => (some t107)) = some r := h
  clear h
  replace H := Option.bind_eq_some_iff.mp H
  obtain ⟨t107, A20, H⟩ := H
  replace H : (some t107) = some r := H
  have A2 := Aside0.mk A20
  clear A20
  obtain rfl := Option.some.inj H
  go_enter Try.func34, Try.ntmps34
  go_wp2_with (first | ((with_reducible refine gate_callee (f := 51) rfl ?_); refine goesL_ (some 4) rfl rfl Try.func51 (by kernel_rfl) rfl #[.int .i64 a0] rfl (by (try simp only [List.map_toArray, List.map_cons, List.map_nil]); first | done | rfl | (simp only [List.length_drop, List.length_take]; rfl)) ?_; (with_reducible refine (ssarewrite_isU8Bit.calls a0 t107 _ A2.out).mono ?_); rintro e w' ⟨rfl, ⟨nd, rfl⟩⟩; refine ⟨_, rfl, ?_⟩))
  go_ret
  exact ⟨by first | rfl | (simp; done) | (simp [*]; done), by repeat (first | exact Drawn0.refl _ | apply Drawn0.step)⟩

/-! ### impl_IsU8Bit: function 15 -/
def impl_IsU8Bit.f (a0 : Int) : Option (Bool) := (ssarewrite_ZZIsU8Bit.f a0).bind fun t108 => (some t108)
set_option maxHeartbeats 8000000 in
set_option maxRecDepth 100000 in
theorem impl_IsU8Bit.calls (a0 : Int) (r : Bool) (w : World) (h : impl_IsU8Bit.f a0 = some r) :
    Calls Try.prog 15 #[.int .i64 a0] w fun e w' => e = .returned (.bool r) ∧ Drawn0 w w' := by
  have H : ((ssarewrite_ZZIsU8Bit.f a0).bind fun t108 => (some t108)) = some r := h
  clear h
  replace H := Option.bind_eq_some_iff.mp H
  obtain ⟨t108, A20, H⟩ := H
  replace H : (some t108) = some r := H
  have A2 := Aside0.mk A20
  clear A20
  obtain rfl := Option.some.inj H
  go_enter Try.func15, Try.ntmps15
  go_wp2_with (first | ((with_reducible refine gate_callee (f := 34) rfl ?_); refine goesL_ (some 4) rfl rfl Try.func34 (by kernel_rfl) rfl #[.int .i64 a0] rfl (by (try simp only [List.map_toArray, List.map_cons, List.map_nil]); first | done | rfl | (simp only [List.length_drop, List.length_take]; rfl)) ?_; (with_reducible refine (ssarewrite_ZZIsU8Bit.calls a0 t108 _ A2.out).mono ?_); rintro e w' ⟨rfl, ⟨nd, rfl⟩⟩; refine ⟨_, rfl, ?_⟩))
  go_ret
  exact ⟨by first | rfl | (simp; done) | (simp [*]; done), by repeat (first | exact Drawn0.refl _ | apply Drawn0.step)⟩

/-! ### laws_FnUnsigned: function 4 -/
def laws_FnUnsigned.f (a0 : Int) : Option (Bool) := (impl_IsU32Bit.f a0).bind fun t109 => ((spec_FitsU.f a0 32).bind fun t110 => (if (t109 == t110) = true then ((impl_IsU16Bit.f a0).bind fun t111 => ((spec_FitsU.f a0 16).bind fun t112 => (if (t111 == t112) = true then ((impl_IsU12Bit.f a0).bind fun t113 => ((spec_FitsU.f a0 12).bind fun t114 => (if (t113 == t114) = true then ((impl_IsU8Bit.f a0).bind fun t115 => ((spec_FitsU.f a0 8).bind fun t116 => (if (t115 == t116) = true then ((impl_IsU8Bit.f 5).bind fun t117 => (some t117)) else (some false)))) else (some false)))) else (some false)))) else (some false)))
set_option maxHeartbeats 8000000 in
set_option maxRecDepth 100000 in
theorem laws_FnUnsigned.calls (a0 : Int) (r : Bool) (w : World) (h : laws_FnUnsigned.f a0 = some r) :
    Calls Try.prog 4 #[.int .i64 a0] w fun e w' => e = .returned (.bool r) ∧ Drawn0 w w' := by
  have H : ((impl_IsU32Bit.f a0).bind fun t109 => ((spec_FitsU.f a0 32).bind fun t110 => (if (t109 == t110) = true then ((impl_IsU16Bit.f a0).bind fun t111 => ((spec_FitsU.f a0 16).bind fun t112 => (if (t111 == t112) = true then ((impl_IsU12Bit.f a0).bind fun t113 => ((spec_FitsU.f a0 12).bind fun t114 => (if (t113 == t114) = true then ((impl_IsU8Bit.f a0).bind fun t115 => ((spec_FitsU.f a0 8).bind fun t116 => (if (t115 == t116) = true then ((impl_IsU8Bit.f 5).bind fun t117 => (some t117)) else (some false)))) else (some false)))) else (some false)))) else (some false)))) = some r := h
  clear h
  replace H := Option.bind_eq_some_iff.mp H
  obtain ⟨t109, A20, H⟩ := H
  replace H : ((spec_FitsU.f a0 32).bind fun t110 => (if (t109 == t110) = true then ((impl_IsU16Bit.f a0).bind fun t111 => ((spec_FitsU.f a0 16).bind fun t112 => (if (t111 == t112) = true then ((impl_IsU12Bit.f a0).bind fun t113 => ((spec_FitsU.f a0 12).bind fun t114 => (if (t113 == t114) = true then ((impl_IsU8Bit.f a0).bind fun t115 => ((spec_FitsU.f a0 8).bind fun t116 => (if (t115 == t116) = true then ((impl_IsU8Bit.f 5).bind fun t117 => (some t117)) else (some false)))) else (some false)))) else (some false)))) else (some false))) = some r := H
  have A2 := Aside0.mk A20
  clear A20
  replace H := Option.bind_eq_some_iff.mp H
  obtain ⟨t110, A30, H⟩ := H
  replace H : (if (t109 == t110) = true then ((impl_IsU16Bit.f a0).bind fun t111 => ((spec_FitsU.f a0 16).bind fun t112 => (if (t111 == t112) = true then ((impl_IsU12Bit.f a0).bind fun t113 => ((spec_FitsU.f a0 12).bind fun t114 => (if (t113 == t114) = true then ((impl_IsU8Bit.f a0).bind fun t115 => ((spec_FitsU.f a0 8).bind fun t116 => (if (t115 == t116) = true then ((impl_IsU8Bit.f 5).bind fun t117 => (some t117)) else (some false)))) else (some false)))) else (some false)))) else (some false)) = some r := H
  have A3 := Aside0.mk A30
  clear A30
  by_cases c4 : (t109 == t110) = true
  · rw [if_pos c4] at H
    have c4b0 : (t109 == t110) = true := c4
    (try (have c4b1 : decide (t109 = t110) = true := by simpa using c4))
    (try (have c4b2 : (t109 == t110) = true := by simpa using c4))
    clear c4
    replace H := Option.bind_eq_some_iff.mp H
    obtain ⟨t111, A50, H⟩ := H
    replace H : ((spec_FitsU.f a0 16).bind fun t112 => (if (t111 == t112) = true then ((impl_IsU12Bit.f a0).bind fun t113 => ((spec_FitsU.f a0 12).bind fun t114 => (if (t113 == t114) = true then ((impl_IsU8Bit.f a0).bind fun t115 => ((spec_FitsU.f a0 8).bind fun t116 => (if (t115 == t116) = true then ((impl_IsU8Bit.f 5).bind fun t117 => (some t117)) else (some false)))) else (some false)))) else (some false))) = some r := H
    have A5 := Aside0.mk A50
    clear A50
    replace H := Option.bind_eq_some_iff.mp H
    obtain ⟨t112, A60, H⟩ := H
    replace H : (if (t111 == t112) = true then ((impl_IsU12Bit.f a0).bind fun t113 => ((spec_FitsU.f a0 12).bind fun t114 => (if (t113 == t114) = true then ((impl_IsU8Bit.f a0).bind fun t115 => ((spec_FitsU.f a0 8).bind fun t116 => (if (t115 == t116) = true then ((impl_IsU8Bit.f 5).bind fun t117 => (some t117)) else (some false)))) else (some false)))) else (some false)) = some r := H
    have A6 := Aside0.mk A60
    clear A60
    by_cases c7 : (t111 == t112) = true
    · rw [if_pos c7] at H
      have c7b0 : (t111 == t112) = true := c7
      (try (have c7b1 : decide (t111 = t112) = true := by simpa using c7))
      (try (have c7b2 : (t111 == t112) = true := by simpa using c7))
      clear c7
      replace H := Option.bind_eq_some_iff.mp H
      obtain ⟨t113, A80, H⟩ := H
      replace H : ((spec_FitsU.f a0 12).bind fun t114 => (if (t113 == t114) = true then ((impl_IsU8Bit.f a0).bind fun t115 => ((spec_FitsU.f a0 8).bind fun t116 => (if (t115 == t116) = true then ((impl_IsU8Bit.f 5).bind fun t117 => (some t117)) else (some false)))) else (some false))) = some r := H
      have A8 := Aside0.mk A80
      clear A80
      replace H := Option.bind_eq_some_iff.mp H
      obtain ⟨t114, A90, H⟩ := H
      replace H : (if (t113 == t114) = true then ((impl_IsU8Bit.f a0).bind fun t115 => ((spec_FitsU.f a0 8).bind fun t116 => (if (t115 == t116) = true then ((impl_IsU8Bit.f 5).bind fun t117 => (some t117)) else (some false)))) else (some false)) = some r := H
      have A9 := Aside0.mk A90
      clear A90
      by_cases c10 : (t113 == t114) = true
      · rw [if_pos c10] at H
        have c10b0 : (t113 == t114) = true := c10
        (try (have c10b1 : decide (t113 = t114) = true := by simpa using c10))
        (try (have c10b2 : (t113 == t114) = true := by simpa using c10))
        clear c10
        replace H := Option.bind_eq_some_iff.mp H
        obtain ⟨t115, A110, H⟩ := H
        replace H : ((spec_FitsU.f a0 8).bind fun t116 => (if (t115 == t116) = true then ((impl_IsU8Bit.f 5).bind fun t117 => (some t117)) else (some false))) = some r := H
        have A11 := Aside0.mk A110
        clear A110
        replace H := Option.bind_eq_some_iff.mp H
        obtain ⟨t116, A120, H⟩ := H
        replace H : (if (t115 == t116) = true then ((impl_IsU8Bit.f 5).bind fun t117 => (some t117)) else (some false)) = some r := H
        have A12 := Aside0.mk A120
        clear A120
        by_cases c13 : (t115 == t116) = true
        · rw [if_pos c13] at H
          have c13b0 : (t115 == t116) = true := c13
          (try (have c13b1 : decide (t115 = t116) = true := by simpa using c13))
          (try (have c13b2 : (t115 == t116) = true := by simpa using c13))
          clear c13
          replace H := Option.bind_eq_some_iff.mp H
          obtain ⟨t117, A140, H⟩ := H
          replace H : (some t117) = some r := H
          have A14 := Aside0.mk A140
          clear A140
          obtain rfl := Option.some.inj H
          go_enter Try.func4, Try.ntmps4
          go_wp2_with (first | ((with_reducible refine gate_callee (f := 11) rfl ?_); refine goesL_ (some 4) rfl rfl Try.func11 (by kernel_rfl) rfl #[.int .i64 a0] rfl (by (try simp only [List.map_toArray, List.map_cons, List.map_nil]); first | done | rfl | (simp only [List.length_drop, List.length_take]; rfl)) ?_; (with_reducible refine (impl_IsU32Bit.calls a0 t109 _ A2.out).mono ?_); rintro e w' ⟨rfl, ⟨nd, rfl⟩⟩; refine ⟨_, rfl, ?_⟩) | ((with_reducible refine gate_callee (f := 12) rfl ?_); refine goesL_ (some 6) rfl rfl Try.func12 (by kernel_rfl) rfl #[.int .i64 a0, .int .u64 32] rfl (by (try simp only [List.map_toArray, List.map_cons, List.map_nil]); first | done | rfl | (simp only [List.length_drop, List.length_take]; rfl)) ?_; (with_reducible refine (spec_FitsU.calls a0 32 t110 _ A3.out).mono ?_); rintro e w' ⟨rfl, ⟨nd, rfl⟩⟩; refine ⟨_, rfl, ?_⟩) | (go_at_call 13; (with_reducible refine (impl_IsU16Bit.calls a0 t111 _ A5.out).mono ?_); rintro e w' ⟨rfl, ⟨nd, rfl⟩⟩) | (go_at_call 12; (with_reducible refine (spec_FitsU.calls a0 16 t112 _ A6.out).mono ?_); rintro e w' ⟨rfl, ⟨nd, rfl⟩⟩) | (go_at_call 14; (with_reducible refine (impl_IsU12Bit.calls a0 t113 _ A8.out).mono ?_); rintro e w' ⟨rfl, ⟨nd, rfl⟩⟩) | (go_at_call 12; (with_reducible refine (spec_FitsU.calls a0 12 t114 _ A9.out).mono ?_); rintro e w' ⟨rfl, ⟨nd, rfl⟩⟩) | (go_at_call 15; (with_reducible refine (impl_IsU8Bit.calls a0 t115 _ A11.out).mono ?_); rintro e w' ⟨rfl, ⟨nd, rfl⟩⟩) | (go_at_call 12; (with_reducible refine (spec_FitsU.calls a0 8 t116 _ A12.out).mono ?_); rintro e w' ⟨rfl, ⟨nd, rfl⟩⟩) | (go_at_call 15; (with_reducible refine (impl_IsU8Bit.calls 5 t117 _ A14.out).mono ?_); rintro e w' ⟨rfl, ⟨nd, rfl⟩⟩))
          go_ret
          exact ⟨by first | rfl | (simp; done) | (simp [*]; done), by repeat (first | exact Drawn0.refl _ | apply Drawn0.step)⟩
        · rw [if_neg c13] at H
          have c13b0 : (t115 == t116) = false := by simpa using c13
          (try (have c13b1 : decide (t115 = t116) = false := by simpa using c13))
          (try (have c13b2 : (t115 == t116) = false := by simpa using c13))
          (try (have c13b3 : ¬ (t115 = t116) := by simpa using c13))
          clear c13
          obtain rfl := Option.some.inj H
          go_enter Try.func4, Try.ntmps4
          go_wp2_with (first | ((with_reducible refine gate_callee (f := 11) rfl ?_); refine goesL_ (some 4) rfl rfl Try.func11 (by kernel_rfl) rfl #[.int .i64 a0] rfl (by (try simp only [List.map_toArray, List.map_cons, List.map_nil]); first | done | rfl | (simp only [List.length_drop, List.length_take]; rfl)) ?_; (with_reducible refine (impl_IsU32Bit.calls a0 t109 _ A2.out).mono ?_); rintro e w' ⟨rfl, ⟨nd, rfl⟩⟩; refine ⟨_, rfl, ?_⟩) | ((with_reducible refine gate_callee (f := 12) rfl ?_); refine goesL_ (some 6) rfl rfl Try.func12 (by kernel_rfl) rfl #[.int .i64 a0, .int .u64 32] rfl (by (try simp only [List.map_toArray, List.map_cons, List.map_nil]); first | done | rfl | (simp only [List.length_drop, List.length_take]; rfl)) ?_; (with_reducible refine (spec_FitsU.calls a0 32 t110 _ A3.out).mono ?_); rintro e w' ⟨rfl, ⟨nd, rfl⟩⟩; refine ⟨_, rfl, ?_⟩) | (go_at_call 13; (with_reducible refine (impl_IsU16Bit.calls a0 t111 _ A5.out).mono ?_); rintro e w' ⟨rfl, ⟨nd, rfl⟩⟩) | (go_at_call 12; (with_reducible refine (spec_FitsU.calls a0 16 t112 _ A6.out).mono ?_); rintro e w' ⟨rfl, ⟨nd, rfl⟩⟩) | (go_at_call 14; (with_reducible refine (impl_IsU12Bit.calls a0 t113 _ A8.out).mono ?_); rintro e w' ⟨rfl, ⟨nd, rfl⟩⟩) | (go_at_call 12; (with_reducible refine (spec_FitsU.calls a0 12 t114 _ A9.out).mono ?_); rintro e w' ⟨rfl, ⟨nd, rfl⟩⟩) | (go_at_call 15; (with_reducible refine (impl_IsU8Bit.calls a0 t115 _ A11.out).mono ?_); rintro e w' ⟨rfl, ⟨nd, rfl⟩⟩) | (go_at_call 12; (with_reducible refine (spec_FitsU.calls a0 8 t116 _ A12.out).mono ?_); rintro e w' ⟨rfl, ⟨nd, rfl⟩⟩))
          go_ret
          exact ⟨by first | rfl | (simp; done) | (simp [*]; done), by repeat (first | exact Drawn0.refl _ | apply Drawn0.step)⟩
      · rw [if_neg c10] at H
        have c10b0 : (t113 == t114) = false := by simpa using c10
        (try (have c10b1 : decide (t113 = t114) = false := by simpa using c10))
        (try (have c10b2 : (t113 == t114) = false := by simpa using c10))
        (try (have c10b3 : ¬ (t113 = t114) := by simpa using c10))
        clear c10
        obtain rfl := Option.some.inj H
        go_enter Try.func4, Try.ntmps4
        go_wp2_with (first | ((with_reducible refine gate_callee (f := 11) rfl ?_); refine goesL_ (some 4) rfl rfl Try.func11 (by kernel_rfl) rfl #[.int .i64 a0] rfl (by (try simp only [List.map_toArray, List.map_cons, List.map_nil]); first | done | rfl | (simp only [List.length_drop, List.length_take]; rfl)) ?_; (with_reducible refine (impl_IsU32Bit.calls a0 t109 _ A2.out).mono ?_); rintro e w' ⟨rfl, ⟨nd, rfl⟩⟩; refine ⟨_, rfl, ?_⟩) | ((with_reducible refine gate_callee (f := 12) rfl ?_); refine goesL_ (some 6) rfl rfl Try.func12 (by kernel_rfl) rfl #[.int .i64 a0, .int .u64 32] rfl (by (try simp only [List.map_toArray, List.map_cons, List.map_nil]); first | done | rfl | (simp only [List.length_drop, List.length_take]; rfl)) ?_; (with_reducible refine (spec_FitsU.calls a0 32 t110 _ A3.out).mono ?_); rintro e w' ⟨rfl, ⟨nd, rfl⟩⟩; refine ⟨_, rfl, ?_⟩) | (go_at_call 13; (with_reducible refine (impl_IsU16Bit.calls a0 t111 _ A5.out).mono ?_); rintro e w' ⟨rfl, ⟨nd, rfl⟩⟩) | (go_at_call 12; (with_reducible refine (spec_FitsU.calls a0 16 t112 _ A6.out).mono ?_); rintro e w' ⟨rfl, ⟨nd, rfl⟩⟩) | (go_at_call 14; (with_reducible refine (impl_IsU12Bit.calls a0 t113 _ A8.out).mono ?_); rintro e w' ⟨rfl, ⟨nd, rfl⟩⟩) | (go_at_call 12; (with_reducible refine (spec_FitsU.calls a0 12 t114 _ A9.out).mono ?_); rintro e w' ⟨rfl, ⟨nd, rfl⟩⟩))
        go_ret
        exact ⟨by first | rfl | (simp; done) | (simp [*]; done), by repeat (first | exact Drawn0.refl _ | apply Drawn0.step)⟩
    · rw [if_neg c7] at H
      have c7b0 : (t111 == t112) = false := by simpa using c7
      (try (have c7b1 : decide (t111 = t112) = false := by simpa using c7))
      (try (have c7b2 : (t111 == t112) = false := by simpa using c7))
      (try (have c7b3 : ¬ (t111 = t112) := by simpa using c7))
      clear c7
      obtain rfl := Option.some.inj H
      go_enter Try.func4, Try.ntmps4
      go_wp2_with (first | ((with_reducible refine gate_callee (f := 11) rfl ?_); refine goesL_ (some 4) rfl rfl Try.func11 (by kernel_rfl) rfl #[.int .i64 a0] rfl (by (try simp only [List.map_toArray, List.map_cons, List.map_nil]); first | done | rfl | (simp only [List.length_drop, List.length_take]; rfl)) ?_; (with_reducible refine (impl_IsU32Bit.calls a0 t109 _ A2.out).mono ?_); rintro e w' ⟨rfl, ⟨nd, rfl⟩⟩; refine ⟨_, rfl, ?_⟩) | ((with_reducible refine gate_callee (f := 12) rfl ?_); refine goesL_ (some 6) rfl rfl Try.func12 (by kernel_rfl) rfl #[.int .i64 a0, .int .u64 32] rfl (by (try simp only [List.map_toArray, List.map_cons, List.map_nil]); first | done | rfl | (simp only [List.length_drop, List.length_take]; rfl)) ?_; (with_reducible refine (spec_FitsU.calls a0 32 t110 _ A3.out).mono ?_); rintro e w' ⟨rfl, ⟨nd, rfl⟩⟩; refine ⟨_, rfl, ?_⟩) | (go_at_call 13; (with_reducible refine (impl_IsU16Bit.calls a0 t111 _ A5.out).mono ?_); rintro e w' ⟨rfl, ⟨nd, rfl⟩⟩) | (go_at_call 12; (with_reducible refine (spec_FitsU.calls a0 16 t112 _ A6.out).mono ?_); rintro e w' ⟨rfl, ⟨nd, rfl⟩⟩))
      go_ret
      exact ⟨by first | rfl | (simp; done) | (simp [*]; done), by repeat (first | exact Drawn0.refl _ | apply Drawn0.step)⟩
  · rw [if_neg c4] at H
    have c4b0 : (t109 == t110) = false := by simpa using c4
    (try (have c4b1 : decide (t109 = t110) = false := by simpa using c4))
    (try (have c4b2 : (t109 == t110) = false := by simpa using c4))
    (try (have c4b3 : ¬ (t109 = t110) := by simpa using c4))
    clear c4
    obtain rfl := Option.some.inj H
    go_enter Try.func4, Try.ntmps4
    go_wp2_with (first | ((with_reducible refine gate_callee (f := 11) rfl ?_); refine goesL_ (some 4) rfl rfl Try.func11 (by kernel_rfl) rfl #[.int .i64 a0] rfl (by (try simp only [List.map_toArray, List.map_cons, List.map_nil]); first | done | rfl | (simp only [List.length_drop, List.length_take]; rfl)) ?_; (with_reducible refine (impl_IsU32Bit.calls a0 t109 _ A2.out).mono ?_); rintro e w' ⟨rfl, ⟨nd, rfl⟩⟩; refine ⟨_, rfl, ?_⟩) | ((with_reducible refine gate_callee (f := 12) rfl ?_); refine goesL_ (some 6) rfl rfl Try.func12 (by kernel_rfl) rfl #[.int .i64 a0, .int .u64 32] rfl (by (try simp only [List.map_toArray, List.map_cons, List.map_nil]); first | done | rfl | (simp only [List.length_drop, List.length_take]; rfl)) ?_; (with_reducible refine (spec_FitsU.calls a0 32 t110 _ A3.out).mono ?_); rintro e w' ⟨rfl, ⟨nd, rfl⟩⟩; refine ⟨_, rfl, ?_⟩))
    go_ret
    exact ⟨by first | rfl | (simp; done) | (simp [*]; done), by repeat (first | exact Drawn0.refl _ | apply Drawn0.step)⟩

/-- THE ONE PURE STATEMENT of laws_FnUnsigned: yours. -/
def laws_FnUnsigned.Pure : Prop := ∀ (a0 : Int), (Lit.int .i64 a0).wf = true → laws_FnUnsigned.f a0 = some true
theorem laws_FnUnsigned.walk (P : laws_FnUnsigned.Pure) (a0 : Int) (w : World) (w0 : (Lit.int .i64 a0).wf = true) :
    Calls Try.prog 4 #[.int .i64 a0] w fun e w' => e = .returned (.bool true) ∧ Below w.heap.size w w' := by
  have h := P a0 w0
  refine (laws_FnUnsigned.calls a0 true w h).mono ?_
  rintro e w' ⟨rfl, hd⟩
  exact ⟨rfl, hd.below⟩

end Go.Proofs.Ytcihkjjejckicaa.PFnUnsigned
