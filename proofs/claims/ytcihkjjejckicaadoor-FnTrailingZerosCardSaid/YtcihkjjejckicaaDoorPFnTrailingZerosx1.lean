-- Written by a program of this session out of the translation (wip/pp.py): Lean checks it.
import Derived.Test.YtcihkjjejckicaaDoorPFnTrailingZerosx0
namespace Go.Proofs.YtcihkjjejckicaaDoor.PFnTrailingZeros
open Go.RowKit Go.Proofs.YtcihkjjejckicaaDoorW.PrintWords Go.Proofs.YtcihkjjejckicaaDoorW.PrintLast Go.Proofs.YtcihkjjejckicaaDoorW.PrintMore
attribute [local go_sem] max2_int min2_int max_two min_two max_three min_three max_four min_four   -- for this text's walks alone
set_option linter.unusedVariables false
set_option linter.unusedSimpArgs false

/-! ### bits_TrailingZeros64: function 30 -/
def bits_TrailingZeros64.f (a0 : Int) : Option (Int) := if 0 ≤ a0 ∧ a0 ≤ 18446744073709551615 then some (Lib.ctz 64 a0.toNat : Int) else none
theorem bits_TrailingZeros64.calls (a0 : Int) (r : Int) (w : World) (hT : Tab0 w) (h : bits_TrailingZeros64.f a0 = some r) :
    Calls Tryd.prog 30 #[.int .u64 a0] w fun e w' => e = .returned (.int .i64 r) ∧ Drawn0 w w' := by
  unfold bits_TrailingZeros64.f at h
  split at h
  · rename_i hb
    obtain rfl := Option.some.inj h
    obtain ⟨x, rfl⟩ := Int.eq_ofNat_of_zero_le hb.1
    refine (tz64 x (by omega) w hT).mono ?_
    rintro e w' ⟨rfl, rfl⟩
    exact ⟨by first | rfl | (simp; done) | (congr 2; omega), Drawn0.refl _⟩
  · cases h

attribute [local go_sem] signed_u32 max_u32 signed_u64 max_u64
/-! ### ssarewrite_ntz64: function 24 -/
def ssarewrite_ntz64.f (a0 : Int) : Option (Int) := (bits_TrailingZeros64.f (IntKind.u64.wrap (a0))).bind fun t101 => (some t101)
set_option maxHeartbeats 8000000 in
set_option maxRecDepth 100000 in
theorem ssarewrite_ntz64.calls (a0 : Int) (r : Int) (w : World) (hT : Tab0 w) (h : ssarewrite_ntz64.f a0 = some r) :
    Calls Tryd.prog 24 #[.int .i64 a0] w fun e w' => e = .returned (.int .i64 r) ∧ Drawn0 w w' := by
  have H : ((bits_TrailingZeros64.f (IntKind.u64.wrap (a0))).bind fun t101 => (some t101)) = some r := h
  clear h
  replace H := Option.bind_eq_some_iff.mp H
  obtain ⟨t101, A20, H⟩ := H
  replace H : (some t101) = some r := H
  have A2 := Aside0.mk A20
  clear A20
  obtain rfl := Option.some.inj H
  go_enter Tryd.func24, Tryd.ntmps24
  go_wp2_with (first | ((with_reducible refine gate_callee (f := 30) rfl ?_); refine goesL_ (some 5) rfl rfl Tryd.func30 (by kernel_rfl) rfl #[.int .u64 (IntKind.u64.wrap (a0))] rfl (by (try simp only [List.map_toArray, List.map_cons, List.map_nil]); first | done | rfl | (simp only [List.length_drop, List.length_take]; rfl)) ?_; (with_reducible refine (bits_TrailingZeros64.calls (IntKind.u64.wrap (a0)) t101 _ (by first | exact hT | exact hT.drewN _ | exact (hT.drewN _).drewN _ | exact ((hT.drewN _).drewN _).drewN _) A2.out).mono ?_); rintro e w' ⟨rfl, ⟨nd, rfl⟩⟩; refine ⟨_, rfl, ?_⟩))
  go_ret
  exact ⟨by first | rfl | (simp; done) | (simp [*]; done), by repeat (first | exact Drawn0.refl _ | apply Drawn0.step)⟩

attribute [local go_sem] signed_u32 max_u32 signed_u64 max_u64
/-! ### ssarewrite_ZZNtz64: function 17 -/
def ssarewrite_ZZNtz64.f (a0 : Int) : Option (Int) := (ssarewrite_ntz64.f a0).bind fun t102 => (some t102)
set_option maxHeartbeats 8000000 in
set_option maxRecDepth 100000 in
theorem ssarewrite_ZZNtz64.calls (a0 : Int) (r : Int) (w : World) (hT : Tab0 w) (h : ssarewrite_ZZNtz64.f a0 = some r) :
    Calls Tryd.prog 17 #[.int .i64 a0] w fun e w' => e = .returned (.int .i64 r) ∧ Drawn0 w w' := by
  have H : ((ssarewrite_ntz64.f a0).bind fun t102 => (some t102)) = some r := h
  clear h
  replace H := Option.bind_eq_some_iff.mp H
  obtain ⟨t102, A20, H⟩ := H
  replace H : (some t102) = some r := H
  have A2 := Aside0.mk A20
  clear A20
  obtain rfl := Option.some.inj H
  go_enter Tryd.func17, Tryd.ntmps17
  go_wp2_with (first | ((with_reducible refine gate_callee (f := 24) rfl ?_); refine goesL_ (some 4) rfl rfl Tryd.func24 (by kernel_rfl) rfl #[.int .i64 a0] rfl (by (try simp only [List.map_toArray, List.map_cons, List.map_nil]); first | done | rfl | (simp only [List.length_drop, List.length_take]; rfl)) ?_; (with_reducible refine (ssarewrite_ntz64.calls a0 t102 _ (by first | exact hT | exact hT.drewN _ | exact (hT.drewN _).drewN _ | exact ((hT.drewN _).drewN _).drewN _) A2.out).mono ?_); rintro e w' ⟨rfl, ⟨nd, rfl⟩⟩; refine ⟨_, rfl, ?_⟩))
  go_ret
  exact ⟨by first | rfl | (simp; done) | (simp [*]; done), by repeat (first | exact Drawn0.refl _ | apply Drawn0.step)⟩

attribute [local go_sem] signed_u32 max_u32 signed_u64 max_u64
/-! ### impl_Ntz64: function 10 -/
def impl_Ntz64.f (a0 : Int) : Option (Int) := (ssarewrite_ZZNtz64.f a0).bind fun t103 => (some t103)
set_option maxHeartbeats 8000000 in
set_option maxRecDepth 100000 in
theorem impl_Ntz64.calls (a0 : Int) (r : Int) (w : World) (hT : Tab0 w) (h : impl_Ntz64.f a0 = some r) :
    Calls Tryd.prog 10 #[.int .i64 a0] w fun e w' => e = .returned (.int .i64 r) ∧ Drawn0 w w' := by
  have H : ((ssarewrite_ZZNtz64.f a0).bind fun t103 => (some t103)) = some r := h
  clear h
  replace H := Option.bind_eq_some_iff.mp H
  obtain ⟨t103, A20, H⟩ := H
  replace H : (some t103) = some r := H
  have A2 := Aside0.mk A20
  clear A20
  obtain rfl := Option.some.inj H
  go_enter Tryd.func10, Tryd.ntmps10
  go_wp2_with (first | ((with_reducible refine gate_callee (f := 17) rfl ?_); refine goesL_ (some 4) rfl rfl Tryd.func17 (by kernel_rfl) rfl #[.int .i64 a0] rfl (by (try simp only [List.map_toArray, List.map_cons, List.map_nil]); first | done | rfl | (simp only [List.length_drop, List.length_take]; rfl)) ?_; (with_reducible refine (ssarewrite_ZZNtz64.calls a0 t103 _ (by first | exact hT | exact hT.drewN _ | exact (hT.drewN _).drewN _ | exact ((hT.drewN _).drewN _).drewN _) A2.out).mono ?_); rintro e w' ⟨rfl, ⟨nd, rfl⟩⟩; refine ⟨_, rfl, ?_⟩))
  go_ret
  exact ⟨by first | rfl | (simp; done) | (simp [*]; done), by repeat (first | exact Drawn0.refl _ | apply Drawn0.step)⟩

attribute [local go_sem] signed_u32 max_u32 signed_u64 max_u64
/-! ### spec_bit: function 19 -/
def spec_bit.f (a0 : Int) (a1 : Int) : Option (Int) := if 0 ≤ a1 then (some (Int.tmod (shr .u64 a0 a1) 2)) else (none)
set_option maxHeartbeats 8000000 in
set_option maxRecDepth 100000 in
theorem spec_bit.calls (a0 : Int) (a1 : Int) (r : Int) (w : World) (h : spec_bit.f a0 a1 = some r) :
    Calls Tryd.prog 19 #[.int .u64 a0, .int .u64 a1] w fun e w' => e = .returned (.int .u64 r) ∧ Drawn0 w w' := by
  have H : (if 0 ≤ a1 then (some (Int.tmod (shr .u64 a0 a1) 2)) else (none)) = some r := h
  clear h
  by_cases c3 : 0 ≤ a1
  · rw [if_pos c3] at H
    have c3b0 := eq_true c3
    have c3b1 : decide (0 ≤ a1) = true := decide_eq_true c3
    clear c3
    obtain ⟨ji4, hji4⟩ : ∃ j_ : Int, (shr .u64 a0 a1) = j_ := ⟨_, rfl⟩
    replace H : (some (Int.tmod (ji4) 2)) = some r := by first | (rw [hji4] at H; exact H) | (simp only [hji4] at H ⊢; exact H)
    have hji4_ : (a0 / 2 ^ min a1.toNat 64) = ji4 := hji4
    have hji4z : a1 ≤ 64 → (a0 / 2 ^ a1.toNat) = ji4 := shr_small hji4
    obtain rfl := Option.some.inj H
    go_enter Tryd.func19, Tryd.ntmps19
    go_wp2
    go_ret
    exact ⟨by first | rfl | (simp; done) | (simp only [← hji4] <;> (first | rfl | simp)) | (simp [*]; done), by repeat (first | exact Drawn0.refl _ | apply Drawn0.step)⟩
  · rw [if_neg c3] at H
    exact absurd H (by simp)

attribute [local go_sem] signed_u32 max_u32 signed_u64 max_u64
/-! ### spec_Trailing: function 12 -/
def spec_Trailing.l0 : Nat → Int → Int → Int → Option (Int)
  | 0, _, _, _ => none
  | k + 1, x0, x1, x5 => if (IntKind.u64.wrap (x5)) < x1 then ((spec_bit.f x0 (IntKind.u64.wrap (x5))).bind fun t104 => (if t104 = 0 then (spec_Trailing.l0 k x0 x1 (wrap64 (x5 + 1))) else (some x5))) else (some x5)
def spec_Trailing.f (k : Nat) (a0 : Int) (a1 : Int) : Option (Int) := spec_Trailing.l0 k a0 a1 0
theorem spec_Trailing.mono_l : ∀ k, (∀ y0 y1 y2, LeO (spec_Trailing.l0 k y0 y1 y2) (spec_Trailing.l0 (k + 1) y0 y1 y2))
  | 0 => fun _ _ _ r h => by simp [spec_Trailing.l0] at h
  | k + 1 => by
    have ih0 := spec_Trailing.mono_l k
    · intro y0 y1 y2
      unfold spec_Trailing.l0
      repeat' first
      | (with_reducible exact ih0 _ _ _)
      | (with_reducible exact LeO.refl _)
      | (with_reducible exact LeO.none _)
      | (with_reducible refine LeO.ite ?_ ?_)
      | (with_reducible refine LeO.bind ?_ (fun _ => ?_))
      | exact ih0 _ _ _
      | exact LeO.none _
      | refine LeO.ite ?_ ?_
      | refine LeO.bind ?_ (fun _ => ?_)
theorem spec_Trailing.mono : ∀ a0 a1 k, LeO (spec_Trailing.f k a0 a1) (spec_Trailing.f (k + 1) a0 a1) := by
  intro a0 a1 k
  have ih0 := spec_Trailing.mono_l k
  unfold spec_Trailing.f
  repeat' first
      | (with_reducible exact ih0 _ _ _)
      | (with_reducible exact LeO.refl _)
      | (with_reducible exact LeO.none _)
      | (with_reducible refine LeO.ite ?_ ?_)
      | (with_reducible refine LeO.bind ?_ (fun _ => ?_))
      | exact ih0 _ _ _
      | exact LeO.none _
      | refine LeO.ite ?_ ?_
      | refine LeO.bind ?_ (fun _ => ?_)
set_option maxHeartbeats 8000000 in
set_option maxRecDepth 100000 in
theorem spec_Trailing.calls (k : Nat) (a0 : Int) (a1 : Int) (r : Int) (w : World) (h : spec_Trailing.f k a0 a1 = some r) :
    Calls Tryd.prog 12 #[.int .u64 a0, .int .u64 a1] w fun e w' => e = .returned (.int .i64 r) ∧ Drawn0 w w' := by
  have H : (spec_Trailing.l0 k a0 a1 0) = some r := h
  clear h
  have H' := Aside0.mk H
  clear H
  go_enter Tryd.func12, Tryd.ntmps12
  go_wp2
  go_loopg [5] k (fun kq v5 w' => ∃ (x5_1 : Int), v5 = .int .i64 x5_1 ∧ Aside0 (spec_Trailing.l0 kq a0 a1 x5_1 = some r) ∧ Aside0 (kq ≤ k) ∧ Drawn0 w w')
  case atStart => exact ⟨(0), (by first | rfl | (simp; done) | (simp [*]; done)), H', ⟨Nat.le_refl _⟩, by repeat (first | exact Drawn0.refl _ | apply Drawn0.step)⟩
  case round =>
    clear H'
    try clear c1
    try clear p2
    obtain ⟨x5_1, rfl, HA, HK1, ⟨m1, rfl⟩⟩ := hrel
    cases gk with
    | zero => exact absurd HA.out (by simp [spec_Trailing.l0])
    | succ k1 =>
      have H := HA.out
      clear HA
      simp only [spec_Trailing.l0] at H
      by_cases c3 : (IntKind.u64.wrap (x5_1)) < a1
      · rw [if_pos c3] at H
        have c3b0 : decide ((IntKind.u64.wrap (x5_1)) < a1) = true := decide_eq_true c3
        clear c3
        replace H := Option.bind_eq_some_iff.mp H
        obtain ⟨t104, A40, H⟩ := H
        replace H : (if t104 = 0 then (spec_Trailing.l0 k1 a0 a1 (wrap64 (x5_1 + 1))) else (some x5_1)) = some r := H
        have A4 := Aside0.mk A40
        clear A40
        by_cases c5 : t104 = 0
        · rw [if_pos c5] at H
          have c5b0 : (t104 == 0) = true := beq_iff_eq.mpr c5
          have c5b1 : (t104 != 0) = false := bne_eq_false_iff_eq.mpr c5
          clear c5
          have H' := Aside0.mk H
          clear H
          go_wp2_with (first | (go_at_call 19; (with_reducible refine (spec_bit.calls a0 (IntKind.u64.wrap (x5_1)) t104 _ A4.out).mono ?_); rintro e w' ⟨rfl, ⟨nd, rfl⟩⟩))
          go_roundg k1
          case measure => have := HK1.out; omega
          case rel => exact ⟨(wrap64 (x5_1 + 1)), (by first | rfl | (simp; done) | (simp [*]; done)), H', ⟨by have := HK1.out; omega⟩, by repeat (first | exact Drawn0.refl _ | apply Drawn0.step)⟩
        · rw [if_neg c5] at H
          have c5b0 : (t104 == 0) = false := beq_eq_false_iff_ne.mpr c5
          have c5b1 : (t104 != 0) = true := bne_iff_ne.mpr c5
          obtain rfl := Option.some.inj H
          go_wp2_with (first | (go_at_call 19; (with_reducible refine (spec_bit.calls a0 (IntKind.u64.wrap (x5_1)) t104 _ A4.out).mono ?_); rintro e w' ⟨rfl, ⟨nd, rfl⟩⟩))
          go_ret
          exact ⟨by first | rfl | (simp; done) | (simp [*]; done), by repeat (first | exact Drawn0.refl _ | apply Drawn0.step)⟩
      · rw [if_neg c3] at H
        have c3b0 : decide ((IntKind.u64.wrap (x5_1)) < a1) = false := decide_eq_false c3
        clear c3
        obtain rfl := Option.some.inj H
        go_wp2
        go_ret
        exact ⟨by first | rfl | (simp; done) | (simp [*]; done), by repeat (first | exact Drawn0.refl _ | apply Drawn0.step)⟩

/-! ### bits_TrailingZeros32: function 32 -/
def bits_TrailingZeros32.f (a0 : Int) : Option (Int) := if 0 ≤ a0 ∧ a0 ≤ 4294967295 then some (Lib.ctz 32 a0.toNat : Int) else none
theorem bits_TrailingZeros32.calls (a0 : Int) (r : Int) (w : World) (hT : Tab0 w) (h : bits_TrailingZeros32.f a0 = some r) :
    Calls Tryd.prog 32 #[.int .u32 a0] w fun e w' => e = .returned (.int .i64 r) ∧ Drawn0 w w' := by
  unfold bits_TrailingZeros32.f at h
  split at h
  · rename_i hb
    obtain rfl := Option.some.inj h
    obtain ⟨x, rfl⟩ := Int.eq_ofNat_of_zero_le hb.1
    refine (tz32 x (by omega) w hT).mono ?_
    rintro e w' ⟨rfl, rfl⟩
    exact ⟨by first | rfl | (simp; done) | (congr 2; omega), Drawn0.refl _⟩
  · cases h

attribute [local go_sem] signed_u32 max_u32 signed_u64 max_u64
/-! ### ssarewrite_ntz32: function 26 -/
def ssarewrite_ntz32.f (a0 : Int) : Option (Int) := (bits_TrailingZeros32.f ((a0) % 4294967296)).bind fun t105 => (some t105)
set_option maxHeartbeats 8000000 in
set_option maxRecDepth 100000 in
theorem ssarewrite_ntz32.calls (a0 : Int) (r : Int) (w : World) (hT : Tab0 w) (h : ssarewrite_ntz32.f a0 = some r) :
    Calls Tryd.prog 26 #[.int .i32 a0] w fun e w' => e = .returned (.int .i64 r) ∧ Drawn0 w w' := by
  have H : ((bits_TrailingZeros32.f ((a0) % 4294967296)).bind fun t105 => (some t105)) = some r := h
  clear h
  replace H := Option.bind_eq_some_iff.mp H
  obtain ⟨t105, A20, H⟩ := H
  replace H : (some t105) = some r := H
  have A2 := Aside0.mk A20
  clear A20
  obtain rfl := Option.some.inj H
  go_enter Tryd.func26, Tryd.ntmps26
  go_wp2_with (first | ((with_reducible refine gate_callee (f := 32) rfl ?_); refine goesL_ (some 5) rfl rfl Tryd.func32 (by kernel_rfl) rfl #[.int .u32 ((a0) % 4294967296)] rfl (by (try simp only [List.map_toArray, List.map_cons, List.map_nil]); first | done | rfl | (simp only [List.length_drop, List.length_take]; rfl)) ?_; (with_reducible refine (bits_TrailingZeros32.calls ((a0) % 4294967296) t105 _ (by first | exact hT | exact hT.drewN _ | exact (hT.drewN _).drewN _ | exact ((hT.drewN _).drewN _).drewN _) A2.out).mono ?_); rintro e w' ⟨rfl, ⟨nd, rfl⟩⟩; refine ⟨_, rfl, ?_⟩))
  go_ret
  exact ⟨by first | rfl | (simp; done) | (simp [*]; done), by repeat (first | exact Drawn0.refl _ | apply Drawn0.step)⟩

attribute [local go_sem] signed_u32 max_u32 signed_u64 max_u64
/-! ### ssarewrite_ZZNtz32: function 20 -/
def ssarewrite_ZZNtz32.f (a0 : Int) : Option (Int) := (ssarewrite_ntz32.f a0).bind fun t106 => (some t106)
set_option maxHeartbeats 8000000 in
set_option maxRecDepth 100000 in
theorem ssarewrite_ZZNtz32.calls (a0 : Int) (r : Int) (w : World) (hT : Tab0 w) (h : ssarewrite_ZZNtz32.f a0 = some r) :
    Calls Tryd.prog 20 #[.int .i32 a0] w fun e w' => e = .returned (.int .i64 r) ∧ Drawn0 w w' := by
  have H : ((ssarewrite_ntz32.f a0).bind fun t106 => (some t106)) = some r := h
  clear h
  replace H := Option.bind_eq_some_iff.mp H
  obtain ⟨t106, A20, H⟩ := H
  replace H : (some t106) = some r := H
  have A2 := Aside0.mk A20
  clear A20
  obtain rfl := Option.some.inj H
  go_enter Tryd.func20, Tryd.ntmps20
  go_wp2_with (first | ((with_reducible refine gate_callee (f := 26) rfl ?_); refine goesL_ (some 4) rfl rfl Tryd.func26 (by kernel_rfl) rfl #[.int .i32 a0] rfl (by (try simp only [List.map_toArray, List.map_cons, List.map_nil]); first | done | rfl | (simp only [List.length_drop, List.length_take]; rfl)) ?_; (with_reducible refine (ssarewrite_ntz32.calls a0 t106 _ (by first | exact hT | exact hT.drewN _ | exact (hT.drewN _).drewN _ | exact ((hT.drewN _).drewN _).drewN _) A2.out).mono ?_); rintro e w' ⟨rfl, ⟨nd, rfl⟩⟩; refine ⟨_, rfl, ?_⟩))
  go_ret
  exact ⟨by first | rfl | (simp; done) | (simp [*]; done), by repeat (first | exact Drawn0.refl _ | apply Drawn0.step)⟩

attribute [local go_sem] signed_u32 max_u32 signed_u64 max_u64
/-! ### impl_Ntz32: function 13 -/
def impl_Ntz32.f (a0 : Int) : Option (Int) := (ssarewrite_ZZNtz32.f a0).bind fun t107 => (some t107)
set_option maxHeartbeats 8000000 in
set_option maxRecDepth 100000 in
theorem impl_Ntz32.calls (a0 : Int) (r : Int) (w : World) (hT : Tab0 w) (h : impl_Ntz32.f a0 = some r) :
    Calls Tryd.prog 13 #[.int .i32 a0] w fun e w' => e = .returned (.int .i64 r) ∧ Drawn0 w w' := by
  have H : ((ssarewrite_ZZNtz32.f a0).bind fun t107 => (some t107)) = some r := h
  clear h
  replace H := Option.bind_eq_some_iff.mp H
  obtain ⟨t107, A20, H⟩ := H
  replace H : (some t107) = some r := H
  have A2 := Aside0.mk A20
  clear A20
  obtain rfl := Option.some.inj H
  go_enter Tryd.func13, Tryd.ntmps13
  go_wp2_with (first | ((with_reducible refine gate_callee (f := 20) rfl ?_); refine goesL_ (some 4) rfl rfl Tryd.func20 (by kernel_rfl) rfl #[.int .i32 a0] rfl (by (try simp only [List.map_toArray, List.map_cons, List.map_nil]); first | done | rfl | (simp only [List.length_drop, List.length_take]; rfl)) ?_; (with_reducible refine (ssarewrite_ZZNtz32.calls a0 t107 _ (by first | exact hT | exact hT.drewN _ | exact (hT.drewN _).drewN _ | exact ((hT.drewN _).drewN _).drewN _) A2.out).mono ?_); rintro e w' ⟨rfl, ⟨nd, rfl⟩⟩; refine ⟨_, rfl, ?_⟩))
  go_ret
  exact ⟨by first | rfl | (simp; done) | (simp [*]; done), by repeat (first | exact Drawn0.refl _ | apply Drawn0.step)⟩

/-! ### bits_TrailingZeros16: function 33 -/
def bits_TrailingZeros16.f (a0 : Int) : Option (Int) := if 0 ≤ a0 ∧ a0 ≤ 65535 then some (Lib.ctz 16 a0.toNat : Int) else none
theorem bits_TrailingZeros16.calls (a0 : Int) (r : Int) (w : World) (hT : Tab0 w) (h : bits_TrailingZeros16.f a0 = some r) :
    Calls Tryd.prog 33 #[.int .u16 a0] w fun e w' => e = .returned (.int .i64 r) ∧ Drawn0 w w' := by
  unfold bits_TrailingZeros16.f at h
  split at h
  · rename_i hb
    obtain rfl := Option.some.inj h
    obtain ⟨x, rfl⟩ := Int.eq_ofNat_of_zero_le hb.1
    refine (tz16 x (by omega) w hT).mono ?_
    rintro e w' ⟨rfl, rfl⟩
    exact ⟨by first | rfl | (simp; done) | (congr 2; omega), Drawn0.refl _⟩
  · cases h

attribute [local go_sem] signed_u32 max_u32 signed_u64 max_u64
/-! ### ssarewrite_ntz16: function 27 -/
def ssarewrite_ntz16.f (a0 : Int) : Option (Int) := (bits_TrailingZeros16.f (IntKind.u16.wrap (a0))).bind fun t108 => (some t108)
set_option maxHeartbeats 8000000 in
set_option maxRecDepth 100000 in
theorem ssarewrite_ntz16.calls (a0 : Int) (r : Int) (w : World) (hT : Tab0 w) (h : ssarewrite_ntz16.f a0 = some r) :
    Calls Tryd.prog 27 #[.int .i16 a0] w fun e w' => e = .returned (.int .i64 r) ∧ Drawn0 w w' := by
  have H : ((bits_TrailingZeros16.f (IntKind.u16.wrap (a0))).bind fun t108 => (some t108)) = some r := h
  clear h
  replace H := Option.bind_eq_some_iff.mp H
  obtain ⟨t108, A20, H⟩ := H
  replace H : (some t108) = some r := H
  have A2 := Aside0.mk A20
  clear A20
  obtain rfl := Option.some.inj H
  go_enter Tryd.func27, Tryd.ntmps27
  go_wp2_with (first | ((with_reducible refine gate_callee (f := 33) rfl ?_); refine goesL_ (some 5) rfl rfl Tryd.func33 (by kernel_rfl) rfl #[.int .u16 (IntKind.u16.wrap (a0))] rfl (by (try simp only [List.map_toArray, List.map_cons, List.map_nil]); first | done | rfl | (simp only [List.length_drop, List.length_take]; rfl)) ?_; (with_reducible refine (bits_TrailingZeros16.calls (IntKind.u16.wrap (a0)) t108 _ (by first | exact hT | exact hT.drewN _ | exact (hT.drewN _).drewN _ | exact ((hT.drewN _).drewN _).drewN _) A2.out).mono ?_); rintro e w' ⟨rfl, ⟨nd, rfl⟩⟩; refine ⟨_, rfl, ?_⟩))
  go_ret
  exact ⟨by first | rfl | (simp; done) | (simp [*]; done), by repeat (first | exact Drawn0.refl _ | apply Drawn0.step)⟩

attribute [local go_sem] signed_u32 max_u32 signed_u64 max_u64
/-! ### ssarewrite_ZZNtz16: function 21 -/
def ssarewrite_ZZNtz16.f (a0 : Int) : Option (Int) := (ssarewrite_ntz16.f a0).bind fun t109 => (some t109)
set_option maxHeartbeats 8000000 in
set_option maxRecDepth 100000 in
theorem ssarewrite_ZZNtz16.calls (a0 : Int) (r : Int) (w : World) (hT : Tab0 w) (h : ssarewrite_ZZNtz16.f a0 = some r) :
    Calls Tryd.prog 21 #[.int .i16 a0] w fun e w' => e = .returned (.int .i64 r) ∧ Drawn0 w w' := by
  have H : ((ssarewrite_ntz16.f a0).bind fun t109 => (some t109)) = some r := h
  clear h
  replace H := Option.bind_eq_some_iff.mp H
  obtain ⟨t109, A20, H⟩ := H
  replace H : (some t109) = some r := H
  have A2 := Aside0.mk A20
  clear A20
  obtain rfl := Option.some.inj H
  go_enter Tryd.func21, Tryd.ntmps21
  go_wp2_with (first | ((with_reducible refine gate_callee (f := 27) rfl ?_); refine goesL_ (some 4) rfl rfl Tryd.func27 (by kernel_rfl) rfl #[.int .i16 a0] rfl (by (try simp only [List.map_toArray, List.map_cons, List.map_nil]); first | done | rfl | (simp only [List.length_drop, List.length_take]; rfl)) ?_; (with_reducible refine (ssarewrite_ntz16.calls a0 t109 _ (by first | exact hT | exact hT.drewN _ | exact (hT.drewN _).drewN _ | exact ((hT.drewN _).drewN _).drewN _) A2.out).mono ?_); rintro e w' ⟨rfl, ⟨nd, rfl⟩⟩; refine ⟨_, rfl, ?_⟩))
  go_ret
  exact ⟨by first | rfl | (simp; done) | (simp [*]; done), by repeat (first | exact Drawn0.refl _ | apply Drawn0.step)⟩

attribute [local go_sem] signed_u32 max_u32 signed_u64 max_u64
/-! ### impl_Ntz16: function 14 -/
def impl_Ntz16.f (a0 : Int) : Option (Int) := (ssarewrite_ZZNtz16.f a0).bind fun t110 => (some t110)
set_option maxHeartbeats 8000000 in
set_option maxRecDepth 100000 in
theorem impl_Ntz16.calls (a0 : Int) (r : Int) (w : World) (hT : Tab0 w) (h : impl_Ntz16.f a0 = some r) :
    Calls Tryd.prog 14 #[.int .i16 a0] w fun e w' => e = .returned (.int .i64 r) ∧ Drawn0 w w' := by
  have H : ((ssarewrite_ZZNtz16.f a0).bind fun t110 => (some t110)) = some r := h
  clear h
  replace H := Option.bind_eq_some_iff.mp H
  obtain ⟨t110, A20, H⟩ := H
  replace H : (some t110) = some r := H
  have A2 := Aside0.mk A20
  clear A20
  obtain rfl := Option.some.inj H
  go_enter Tryd.func14, Tryd.ntmps14
  go_wp2_with (first | ((with_reducible refine gate_callee (f := 21) rfl ?_); refine goesL_ (some 4) rfl rfl Tryd.func21 (by kernel_rfl) rfl #[.int .i16 a0] rfl (by (try simp only [List.map_toArray, List.map_cons, List.map_nil]); first | done | rfl | (simp only [List.length_drop, List.length_take]; rfl)) ?_; (with_reducible refine (ssarewrite_ZZNtz16.calls a0 t110 _ (by first | exact hT | exact hT.drewN _ | exact (hT.drewN _).drewN _ | exact ((hT.drewN _).drewN _).drewN _) A2.out).mono ?_); rintro e w' ⟨rfl, ⟨nd, rfl⟩⟩; refine ⟨_, rfl, ?_⟩))
  go_ret
  exact ⟨by first | rfl | (simp; done) | (simp [*]; done), by repeat (first | exact Drawn0.refl _ | apply Drawn0.step)⟩

/-! ### bits_TrailingZeros8: function 34 -/
def bits_TrailingZeros8.f (a0 : Int) : Option (Int) := if 0 ≤ a0 ∧ a0 ≤ 255 then some (Lib.trailingZeros8 a0.toNat : Int) else none
theorem bits_TrailingZeros8.calls (a0 : Int) (r : Int) (w : World) (h : bits_TrailingZeros8.f a0 = some r) :
    Calls Tryd.prog 34 #[.int .u8 a0] w fun e w' => e = .returned (.int .i64 r) ∧ Drawn0 w w' := by
  unfold bits_TrailingZeros8.f at h
  split at h
  · rename_i hb
    obtain rfl := Option.some.inj h
    refine (Tryd.bits_TrailingZeros8 a0 w hb.1 hb.2).mono ?_
    rintro e w' ⟨rfl, rfl⟩
    exact ⟨by first | rfl | (simp; done) | (congr 2; omega), Drawn0.refl _⟩
  · cases h

attribute [local go_sem] signed_u32 max_u32 signed_u64 max_u64
/-! ### ssarewrite_ntz8: function 28 -/
def ssarewrite_ntz8.f (a0 : Int) : Option (Int) := (bits_TrailingZeros8.f ((a0) % 256)).bind fun t111 => (some t111)
set_option maxHeartbeats 8000000 in
set_option maxRecDepth 100000 in
theorem ssarewrite_ntz8.calls (a0 : Int) (r : Int) (w : World) (h : ssarewrite_ntz8.f a0 = some r) :
    Calls Tryd.prog 28 #[.int .i8 a0] w fun e w' => e = .returned (.int .i64 r) ∧ Drawn0 w w' := by
  have H : ((bits_TrailingZeros8.f ((a0) % 256)).bind fun t111 => (some t111)) = some r := h
  clear h
  replace H := Option.bind_eq_some_iff.mp H
  obtain ⟨t111, A20, H⟩ := H
  replace H : (some t111) = some r := H
  have A2 := Aside0.mk A20
  clear A20
  obtain rfl := Option.some.inj H
  go_enter Tryd.func28, Tryd.ntmps28
  go_wp2_with (first | ((with_reducible refine gate_callee (f := 34) rfl ?_); refine goesL_ (some 5) rfl rfl Tryd.func34 (by kernel_rfl) rfl #[.int .u8 ((a0) % 256)] rfl (by (try simp only [List.map_toArray, List.map_cons, List.map_nil]); first | done | rfl | (simp only [List.length_drop, List.length_take]; rfl)) ?_; (with_reducible refine (bits_TrailingZeros8.calls ((a0) % 256) t111 _ A2.out).mono ?_); rintro e w' ⟨rfl, ⟨nd, rfl⟩⟩; refine ⟨_, rfl, ?_⟩))
  go_ret
  exact ⟨by first | rfl | (simp; done) | (simp [*]; done), by repeat (first | exact Drawn0.refl _ | apply Drawn0.step)⟩

attribute [local go_sem] signed_u32 max_u32 signed_u64 max_u64
/-! ### ssarewrite_ZZNtz8: function 22 -/
def ssarewrite_ZZNtz8.f (a0 : Int) : Option (Int) := (ssarewrite_ntz8.f a0).bind fun t112 => (some t112)
set_option maxHeartbeats 8000000 in
set_option maxRecDepth 100000 in
theorem ssarewrite_ZZNtz8.calls (a0 : Int) (r : Int) (w : World) (h : ssarewrite_ZZNtz8.f a0 = some r) :
    Calls Tryd.prog 22 #[.int .i8 a0] w fun e w' => e = .returned (.int .i64 r) ∧ Drawn0 w w' := by
  have H : ((ssarewrite_ntz8.f a0).bind fun t112 => (some t112)) = some r := h
  clear h
  replace H := Option.bind_eq_some_iff.mp H
  obtain ⟨t112, A20, H⟩ := H
  replace H : (some t112) = some r := H
  have A2 := Aside0.mk A20
  clear A20
  obtain rfl := Option.some.inj H
  go_enter Tryd.func22, Tryd.ntmps22
  go_wp2_with (first | ((with_reducible refine gate_callee (f := 28) rfl ?_); refine goesL_ (some 4) rfl rfl Tryd.func28 (by kernel_rfl) rfl #[.int .i8 a0] rfl (by (try simp only [List.map_toArray, List.map_cons, List.map_nil]); first | done | rfl | (simp only [List.length_drop, List.length_take]; rfl)) ?_; (with_reducible refine (ssarewrite_ntz8.calls a0 t112 _ A2.out).mono ?_); rintro e w' ⟨rfl, ⟨nd, rfl⟩⟩; refine ⟨_, rfl, ?_⟩))
  go_ret
  exact ⟨by first | rfl | (simp; done) | (simp [*]; done), by repeat (first | exact Drawn0.refl _ | apply Drawn0.step)⟩

attribute [local go_sem] signed_u32 max_u32 signed_u64 max_u64
/-! ### impl_Ntz8: function 15 -/
def impl_Ntz8.f (a0 : Int) : Option (Int) := (ssarewrite_ZZNtz8.f a0).bind fun t113 => (some t113)
set_option maxHeartbeats 8000000 in
set_option maxRecDepth 100000 in
theorem impl_Ntz8.calls (a0 : Int) (r : Int) (w : World) (h : impl_Ntz8.f a0 = some r) :
    Calls Tryd.prog 15 #[.int .i8 a0] w fun e w' => e = .returned (.int .i64 r) ∧ Drawn0 w w' := by
  have H : ((ssarewrite_ZZNtz8.f a0).bind fun t113 => (some t113)) = some r := h
  clear h
  replace H := Option.bind_eq_some_iff.mp H
  obtain ⟨t113, A20, H⟩ := H
  replace H : (some t113) = some r := H
  have A2 := Aside0.mk A20
  clear A20
  obtain rfl := Option.some.inj H
  go_enter Tryd.func15, Tryd.ntmps15
  go_wp2_with (first | ((with_reducible refine gate_callee (f := 22) rfl ?_); refine goesL_ (some 4) rfl rfl Tryd.func22 (by kernel_rfl) rfl #[.int .i8 a0] rfl (by (try simp only [List.map_toArray, List.map_cons, List.map_nil]); first | done | rfl | (simp only [List.length_drop, List.length_take]; rfl)) ?_; (with_reducible refine (ssarewrite_ZZNtz8.calls a0 t113 _ A2.out).mono ?_); rintro e w' ⟨rfl, ⟨nd, rfl⟩⟩; refine ⟨_, rfl, ?_⟩))
  go_ret
  exact ⟨by first | rfl | (simp; done) | (simp [*]; done), by repeat (first | exact Drawn0.refl _ | apply Drawn0.step)⟩

attribute [local go_sem] signed_u32 max_u32 signed_u64 max_u64
/-! ### laws_FnTrailingZeros: function 5 -/
def laws_FnTrailingZeros.f (k : Nat) (a0 : Int) : Option (Bool) := (impl_Ntz64.f a0).bind fun t114 => ((spec_Trailing.f k (IntKind.u64.wrap (a0)) 64).bind fun t115 => (if t114 = t115 then ((impl_Ntz32.f (wrap32 (a0))).bind fun t116 => ((spec_Trailing.f k (IntKind.u64.wrap (a0)) 32).bind fun t117 => (if t116 = t117 then ((impl_Ntz16.f (IntKind.i16.wrap (a0))).bind fun t118 => ((spec_Trailing.f k (IntKind.u64.wrap (a0)) 16).bind fun t119 => (if t118 = t119 then ((impl_Ntz8.f (IntKind.i8.wrap (a0))).bind fun t120 => ((spec_Trailing.f k (IntKind.u64.wrap (a0)) 8).bind fun t121 => (if t120 = t121 then ((impl_Ntz64.f 4).bind fun t122 => (some (t122 == 2))) else (some false)))) else (some false)))) else (some false)))) else (some false)))
theorem laws_FnTrailingZeros.mono : ∀ a0 k, LeO (laws_FnTrailingZeros.f k a0) (laws_FnTrailingZeros.f (k + 1) a0) := by
  intro a0 k
  unfold laws_FnTrailingZeros.f
  repeat' first
      | (with_reducible exact spec_Trailing.mono _ _ _)
      | (with_reducible exact LeO.refl _)
      | (with_reducible exact LeO.none _)
      | (with_reducible refine LeO.ite ?_ ?_)
      | (with_reducible refine LeO.bind ?_ (fun _ => ?_))
      | exact spec_Trailing.mono _ _ _
      | exact LeO.none _
      | refine LeO.ite ?_ ?_
      | refine LeO.bind ?_ (fun _ => ?_)
set_option maxHeartbeats 8000000 in
set_option maxRecDepth 100000 in
theorem laws_FnTrailingZeros.calls (k : Nat) (a0 : Int) (r : Bool) (w : World) (hT : Tab0 w) (h : laws_FnTrailingZeros.f k a0 = some r) :
    Calls Tryd.prog 5 #[.int .i64 a0] w fun e w' => e = .returned (.bool r) ∧ Drawn0 w w' := by
  have H : ((impl_Ntz64.f a0).bind fun t114 => ((spec_Trailing.f k (IntKind.u64.wrap (a0)) 64).bind fun t115 => (if t114 = t115 then ((impl_Ntz32.f (wrap32 (a0))).bind fun t116 => ((spec_Trailing.f k (IntKind.u64.wrap (a0)) 32).bind fun t117 => (if t116 = t117 then ((impl_Ntz16.f (IntKind.i16.wrap (a0))).bind fun t118 => ((spec_Trailing.f k (IntKind.u64.wrap (a0)) 16).bind fun t119 => (if t118 = t119 then ((impl_Ntz8.f (IntKind.i8.wrap (a0))).bind fun t120 => ((spec_Trailing.f k (IntKind.u64.wrap (a0)) 8).bind fun t121 => (if t120 = t121 then ((impl_Ntz64.f 4).bind fun t122 => (some (t122 == 2))) else (some false)))) else (some false)))) else (some false)))) else (some false)))) = some r := h
  clear h
  replace H := Option.bind_eq_some_iff.mp H
  obtain ⟨t114, A20, H⟩ := H
  replace H : ((spec_Trailing.f k (IntKind.u64.wrap (a0)) 64).bind fun t115 => (if t114 = t115 then ((impl_Ntz32.f (wrap32 (a0))).bind fun t116 => ((spec_Trailing.f k (IntKind.u64.wrap (a0)) 32).bind fun t117 => (if t116 = t117 then ((impl_Ntz16.f (IntKind.i16.wrap (a0))).bind fun t118 => ((spec_Trailing.f k (IntKind.u64.wrap (a0)) 16).bind fun t119 => (if t118 = t119 then ((impl_Ntz8.f (IntKind.i8.wrap (a0))).bind fun t120 => ((spec_Trailing.f k (IntKind.u64.wrap (a0)) 8).bind fun t121 => (if t120 = t121 then ((impl_Ntz64.f 4).bind fun t122 => (some (t122 == 2))) else (some false)))) else (some false)))) else (some false)))) else (some false))) = some r := H
  have A2 := Aside0.mk A20
  clear A20
  replace H := Option.bind_eq_some_iff.mp H
  obtain ⟨t115, A30, H⟩ := H
  replace H : (if t114 = t115 then ((impl_Ntz32.f (wrap32 (a0))).bind fun t116 => ((spec_Trailing.f k (IntKind.u64.wrap (a0)) 32).bind fun t117 => (if t116 = t117 then ((impl_Ntz16.f (IntKind.i16.wrap (a0))).bind fun t118 => ((spec_Trailing.f k (IntKind.u64.wrap (a0)) 16).bind fun t119 => (if t118 = t119 then ((impl_Ntz8.f (IntKind.i8.wrap (a0))).bind fun t120 => ((spec_Trailing.f k (IntKind.u64.wrap (a0)) 8).bind fun t121 => (if t120 = t121 then ((impl_Ntz64.f 4).bind fun t122 => (some (t122 == 2))) else (some false)))) else (some false)))) else (some false)))) else (some false)) = some r := H
  have A3 := Aside0.mk A30
  clear A30
  by_cases c4 : t114 = t115
  · rw [if_pos c4] at H
    have c4b0 : (t114 == t115) = true := beq_iff_eq.mpr c4
    have c4b1 : (t114 != t115) = false := bne_eq_false_iff_eq.mpr c4
    clear c4
    replace H := Option.bind_eq_some_iff.mp H
    obtain ⟨t116, A50, H⟩ := H
    replace H : ((spec_Trailing.f k (IntKind.u64.wrap (a0)) 32).bind fun t117 => (if t116 = t117 then ((impl_Ntz16.f (IntKind.i16.wrap (a0))).bind fun t118 => ((spec_Trailing.f k (IntKind.u64.wrap (a0)) 16).bind fun t119 => (if t118 = t119 then ((impl_Ntz8.f (IntKind.i8.wrap (a0))).bind fun t120 => ((spec_Trailing.f k (IntKind.u64.wrap (a0)) 8).bind fun t121 => (if t120 = t121 then ((impl_Ntz64.f 4).bind fun t122 => (some (t122 == 2))) else (some false)))) else (some false)))) else (some false))) = some r := H
    have A5 := Aside0.mk A50
    clear A50
    replace H := Option.bind_eq_some_iff.mp H
    obtain ⟨t117, A60, H⟩ := H
    replace H : (if t116 = t117 then ((impl_Ntz16.f (IntKind.i16.wrap (a0))).bind fun t118 => ((spec_Trailing.f k (IntKind.u64.wrap (a0)) 16).bind fun t119 => (if t118 = t119 then ((impl_Ntz8.f (IntKind.i8.wrap (a0))).bind fun t120 => ((spec_Trailing.f k (IntKind.u64.wrap (a0)) 8).bind fun t121 => (if t120 = t121 then ((impl_Ntz64.f 4).bind fun t122 => (some (t122 == 2))) else (some false)))) else (some false)))) else (some false)) = some r := H
    have A6 := Aside0.mk A60
    clear A60
    by_cases c7 : t116 = t117
    · rw [if_pos c7] at H
      have c7b0 : (t116 == t117) = true := beq_iff_eq.mpr c7
      have c7b1 : (t116 != t117) = false := bne_eq_false_iff_eq.mpr c7
      clear c7
      replace H := Option.bind_eq_some_iff.mp H
      obtain ⟨t118, A80, H⟩ := H
      replace H : ((spec_Trailing.f k (IntKind.u64.wrap (a0)) 16).bind fun t119 => (if t118 = t119 then ((impl_Ntz8.f (IntKind.i8.wrap (a0))).bind fun t120 => ((spec_Trailing.f k (IntKind.u64.wrap (a0)) 8).bind fun t121 => (if t120 = t121 then ((impl_Ntz64.f 4).bind fun t122 => (some (t122 == 2))) else (some false)))) else (some false))) = some r := H
      have A8 := Aside0.mk A80
      clear A80
      replace H := Option.bind_eq_some_iff.mp H
      obtain ⟨t119, A90, H⟩ := H
      replace H : (if t118 = t119 then ((impl_Ntz8.f (IntKind.i8.wrap (a0))).bind fun t120 => ((spec_Trailing.f k (IntKind.u64.wrap (a0)) 8).bind fun t121 => (if t120 = t121 then ((impl_Ntz64.f 4).bind fun t122 => (some (t122 == 2))) else (some false)))) else (some false)) = some r := H
      have A9 := Aside0.mk A90
      clear A90
      by_cases c10 : t118 = t119
      · rw [if_pos c10] at H
        have c10b0 : (t118 == t119) = true := beq_iff_eq.mpr c10
        have c10b1 : (t118 != t119) = false := bne_eq_false_iff_eq.mpr c10
        clear c10
        replace H := Option.bind_eq_some_iff.mp H
        obtain ⟨t120, A110, H⟩ := H
        replace H : ((spec_Trailing.f k (IntKind.u64.wrap (a0)) 8).bind fun t121 => (if t120 = t121 then ((impl_Ntz64.f 4).bind fun t122 => (some (t122 == 2))) else (some false))) = some r := H
        have A11 := Aside0.mk A110
        clear A110
        replace H := Option.bind_eq_some_iff.mp H
        obtain ⟨t121, A120, H⟩ := H
        replace H : (if t120 = t121 then ((impl_Ntz64.f 4).bind fun t122 => (some (t122 == 2))) else (some false)) = some r := H
        have A12 := Aside0.mk A120
        clear A120
        by_cases c13 : t120 = t121
        · rw [if_pos c13] at H
          have c13b0 : (t120 == t121) = true := beq_iff_eq.mpr c13
          have c13b1 : (t120 != t121) = false := bne_eq_false_iff_eq.mpr c13
          clear c13
          replace H := Option.bind_eq_some_iff.mp H
          obtain ⟨t122, A140, H⟩ := H
          replace H : (some (t122 == 2)) = some r := H
          have A14 := Aside0.mk A140
          clear A140
          obtain rfl := Option.some.inj H
          go_enter Tryd.func5, Tryd.ntmps5
          go_wp2_with (first | ((with_reducible refine gate_callee (f := 10) rfl ?_); refine goesL_ (some 7) rfl rfl Tryd.func10 (by kernel_rfl) rfl #[.int .i64 a0] rfl (by (try simp only [List.map_toArray, List.map_cons, List.map_nil]); first | done | rfl | (simp only [List.length_drop, List.length_take]; rfl)) ?_; (with_reducible refine (impl_Ntz64.calls a0 t114 _ (by first | exact hT | exact hT.drewN _ | exact (hT.drewN _).drewN _ | exact ((hT.drewN _).drewN _).drewN _) A2.out).mono ?_); rintro e w' ⟨rfl, ⟨nd, rfl⟩⟩; refine ⟨_, rfl, ?_⟩) | ((with_reducible refine gate_callee (f := 12) rfl ?_); refine goesL_ (some 9) rfl rfl Tryd.func12 (by kernel_rfl) rfl #[.int .u64 (IntKind.u64.wrap (a0)), .int .u64 64] rfl (by (try simp only [List.map_toArray, List.map_cons, List.map_nil]); first | done | rfl | (simp only [List.length_drop, List.length_take]; rfl)) ?_; (with_reducible refine (spec_Trailing.calls k (IntKind.u64.wrap (a0)) 64 t115 _ A3.out).mono ?_); rintro e w' ⟨rfl, ⟨nd, rfl⟩⟩; refine ⟨_, rfl, ?_⟩) | (go_at_call 13; (with_reducible refine (impl_Ntz32.calls (wrap32 (a0)) t116 _ (by first | exact hT | exact hT.drewN _ | exact (hT.drewN _).drewN _ | exact ((hT.drewN _).drewN _).drewN _) A5.out).mono ?_); rintro e w' ⟨rfl, ⟨nd, rfl⟩⟩) | (go_at_call 12; (with_reducible refine (spec_Trailing.calls k (IntKind.u64.wrap (a0)) 32 t117 _ A6.out).mono ?_); rintro e w' ⟨rfl, ⟨nd, rfl⟩⟩) | (go_at_call 14; (with_reducible refine (impl_Ntz16.calls (IntKind.i16.wrap (a0)) t118 _ (by first | exact hT | exact hT.drewN _ | exact (hT.drewN _).drewN _ | exact ((hT.drewN _).drewN _).drewN _) A8.out).mono ?_); rintro e w' ⟨rfl, ⟨nd, rfl⟩⟩) | (go_at_call 12; (with_reducible refine (spec_Trailing.calls k (IntKind.u64.wrap (a0)) 16 t119 _ A9.out).mono ?_); rintro e w' ⟨rfl, ⟨nd, rfl⟩⟩) | (go_at_call 15; (with_reducible refine (impl_Ntz8.calls (IntKind.i8.wrap (a0)) t120 _ A11.out).mono ?_); rintro e w' ⟨rfl, ⟨nd, rfl⟩⟩) | (go_at_call 12; (with_reducible refine (spec_Trailing.calls k (IntKind.u64.wrap (a0)) 8 t121 _ A12.out).mono ?_); rintro e w' ⟨rfl, ⟨nd, rfl⟩⟩) | (go_at_call 10; (with_reducible refine (impl_Ntz64.calls 4 t122 _ (by first | exact hT | exact hT.drewN _ | exact (hT.drewN _).drewN _ | exact ((hT.drewN _).drewN _).drewN _) A14.out).mono ?_); rintro e w' ⟨rfl, ⟨nd, rfl⟩⟩))
          go_ret
          exact ⟨by first | rfl | (simp; done) | (simp [*]; done), by repeat (first | exact Drawn0.refl _ | apply Drawn0.step)⟩
        · rw [if_neg c13] at H
          have c13b0 : (t120 == t121) = false := beq_eq_false_iff_ne.mpr c13
          have c13b1 : (t120 != t121) = true := bne_iff_ne.mpr c13
          obtain rfl := Option.some.inj H
          go_enter Tryd.func5, Tryd.ntmps5
          go_wp2_with (first | ((with_reducible refine gate_callee (f := 10) rfl ?_); refine goesL_ (some 7) rfl rfl Tryd.func10 (by kernel_rfl) rfl #[.int .i64 a0] rfl (by (try simp only [List.map_toArray, List.map_cons, List.map_nil]); first | done | rfl | (simp only [List.length_drop, List.length_take]; rfl)) ?_; (with_reducible refine (impl_Ntz64.calls a0 t114 _ (by first | exact hT | exact hT.drewN _ | exact (hT.drewN _).drewN _ | exact ((hT.drewN _).drewN _).drewN _) A2.out).mono ?_); rintro e w' ⟨rfl, ⟨nd, rfl⟩⟩; refine ⟨_, rfl, ?_⟩) | ((with_reducible refine gate_callee (f := 12) rfl ?_); refine goesL_ (some 9) rfl rfl Tryd.func12 (by kernel_rfl) rfl #[.int .u64 (IntKind.u64.wrap (a0)), .int .u64 64] rfl (by (try simp only [List.map_toArray, List.map_cons, List.map_nil]); first | done | rfl | (simp only [List.length_drop, List.length_take]; rfl)) ?_; (with_reducible refine (spec_Trailing.calls k (IntKind.u64.wrap (a0)) 64 t115 _ A3.out).mono ?_); rintro e w' ⟨rfl, ⟨nd, rfl⟩⟩; refine ⟨_, rfl, ?_⟩) | (go_at_call 13; (with_reducible refine (impl_Ntz32.calls (wrap32 (a0)) t116 _ (by first | exact hT | exact hT.drewN _ | exact (hT.drewN _).drewN _ | exact ((hT.drewN _).drewN _).drewN _) A5.out).mono ?_); rintro e w' ⟨rfl, ⟨nd, rfl⟩⟩) | (go_at_call 12; (with_reducible refine (spec_Trailing.calls k (IntKind.u64.wrap (a0)) 32 t117 _ A6.out).mono ?_); rintro e w' ⟨rfl, ⟨nd, rfl⟩⟩) | (go_at_call 14; (with_reducible refine (impl_Ntz16.calls (IntKind.i16.wrap (a0)) t118 _ (by first | exact hT | exact hT.drewN _ | exact (hT.drewN _).drewN _ | exact ((hT.drewN _).drewN _).drewN _) A8.out).mono ?_); rintro e w' ⟨rfl, ⟨nd, rfl⟩⟩) | (go_at_call 12; (with_reducible refine (spec_Trailing.calls k (IntKind.u64.wrap (a0)) 16 t119 _ A9.out).mono ?_); rintro e w' ⟨rfl, ⟨nd, rfl⟩⟩) | (go_at_call 15; (with_reducible refine (impl_Ntz8.calls (IntKind.i8.wrap (a0)) t120 _ A11.out).mono ?_); rintro e w' ⟨rfl, ⟨nd, rfl⟩⟩) | (go_at_call 12; (with_reducible refine (spec_Trailing.calls k (IntKind.u64.wrap (a0)) 8 t121 _ A12.out).mono ?_); rintro e w' ⟨rfl, ⟨nd, rfl⟩⟩))
          go_ret
          exact ⟨by first | rfl | (simp; done) | (simp [*]; done), by repeat (first | exact Drawn0.refl _ | apply Drawn0.step)⟩
      · rw [if_neg c10] at H
        have c10b0 : (t118 == t119) = false := beq_eq_false_iff_ne.mpr c10
        have c10b1 : (t118 != t119) = true := bne_iff_ne.mpr c10
        obtain rfl := Option.some.inj H
        go_enter Tryd.func5, Tryd.ntmps5
        go_wp2_with (first | ((with_reducible refine gate_callee (f := 10) rfl ?_); refine goesL_ (some 7) rfl rfl Tryd.func10 (by kernel_rfl) rfl #[.int .i64 a0] rfl (by (try simp only [List.map_toArray, List.map_cons, List.map_nil]); first | done | rfl | (simp only [List.length_drop, List.length_take]; rfl)) ?_; (with_reducible refine (impl_Ntz64.calls a0 t114 _ (by first | exact hT | exact hT.drewN _ | exact (hT.drewN _).drewN _ | exact ((hT.drewN _).drewN _).drewN _) A2.out).mono ?_); rintro e w' ⟨rfl, ⟨nd, rfl⟩⟩; refine ⟨_, rfl, ?_⟩) | ((with_reducible refine gate_callee (f := 12) rfl ?_); refine goesL_ (some 9) rfl rfl Tryd.func12 (by kernel_rfl) rfl #[.int .u64 (IntKind.u64.wrap (a0)), .int .u64 64] rfl (by (try simp only [List.map_toArray, List.map_cons, List.map_nil]); first | done | rfl | (simp only [List.length_drop, List.length_take]; rfl)) ?_; (with_reducible refine (spec_Trailing.calls k (IntKind.u64.wrap (a0)) 64 t115 _ A3.out).mono ?_); rintro e w' ⟨rfl, ⟨nd, rfl⟩⟩; refine ⟨_, rfl, ?_⟩) | (go_at_call 13; (with_reducible refine (impl_Ntz32.calls (wrap32 (a0)) t116 _ (by first | exact hT | exact hT.drewN _ | exact (hT.drewN _).drewN _ | exact ((hT.drewN _).drewN _).drewN _) A5.out).mono ?_); rintro e w' ⟨rfl, ⟨nd, rfl⟩⟩) | (go_at_call 12; (with_reducible refine (spec_Trailing.calls k (IntKind.u64.wrap (a0)) 32 t117 _ A6.out).mono ?_); rintro e w' ⟨rfl, ⟨nd, rfl⟩⟩) | (go_at_call 14; (with_reducible refine (impl_Ntz16.calls (IntKind.i16.wrap (a0)) t118 _ (by first | exact hT | exact hT.drewN _ | exact (hT.drewN _).drewN _ | exact ((hT.drewN _).drewN _).drewN _) A8.out).mono ?_); rintro e w' ⟨rfl, ⟨nd, rfl⟩⟩) | (go_at_call 12; (with_reducible refine (spec_Trailing.calls k (IntKind.u64.wrap (a0)) 16 t119 _ A9.out).mono ?_); rintro e w' ⟨rfl, ⟨nd, rfl⟩⟩))
        go_ret
        exact ⟨by first | rfl | (simp; done) | (simp [*]; done), by repeat (first | exact Drawn0.refl _ | apply Drawn0.step)⟩
    · rw [if_neg c7] at H
      have c7b0 : (t116 == t117) = false := beq_eq_false_iff_ne.mpr c7
      have c7b1 : (t116 != t117) = true := bne_iff_ne.mpr c7
      obtain rfl := Option.some.inj H
      go_enter Tryd.func5, Tryd.ntmps5
      go_wp2_with (first | ((with_reducible refine gate_callee (f := 10) rfl ?_); refine goesL_ (some 7) rfl rfl Tryd.func10 (by kernel_rfl) rfl #[.int .i64 a0] rfl (by (try simp only [List.map_toArray, List.map_cons, List.map_nil]); first | done | rfl | (simp only [List.length_drop, List.length_take]; rfl)) ?_; (with_reducible refine (impl_Ntz64.calls a0 t114 _ (by first | exact hT | exact hT.drewN _ | exact (hT.drewN _).drewN _ | exact ((hT.drewN _).drewN _).drewN _) A2.out).mono ?_); rintro e w' ⟨rfl, ⟨nd, rfl⟩⟩; refine ⟨_, rfl, ?_⟩) | ((with_reducible refine gate_callee (f := 12) rfl ?_); refine goesL_ (some 9) rfl rfl Tryd.func12 (by kernel_rfl) rfl #[.int .u64 (IntKind.u64.wrap (a0)), .int .u64 64] rfl (by (try simp only [List.map_toArray, List.map_cons, List.map_nil]); first | done | rfl | (simp only [List.length_drop, List.length_take]; rfl)) ?_; (with_reducible refine (spec_Trailing.calls k (IntKind.u64.wrap (a0)) 64 t115 _ A3.out).mono ?_); rintro e w' ⟨rfl, ⟨nd, rfl⟩⟩; refine ⟨_, rfl, ?_⟩) | (go_at_call 13; (with_reducible refine (impl_Ntz32.calls (wrap32 (a0)) t116 _ (by first | exact hT | exact hT.drewN _ | exact (hT.drewN _).drewN _ | exact ((hT.drewN _).drewN _).drewN _) A5.out).mono ?_); rintro e w' ⟨rfl, ⟨nd, rfl⟩⟩) | (go_at_call 12; (with_reducible refine (spec_Trailing.calls k (IntKind.u64.wrap (a0)) 32 t117 _ A6.out).mono ?_); rintro e w' ⟨rfl, ⟨nd, rfl⟩⟩))
      go_ret
      exact ⟨by first | rfl | (simp; done) | (simp [*]; done), by repeat (first | exact Drawn0.refl _ | apply Drawn0.step)⟩
  · rw [if_neg c4] at H
    have c4b0 : (t114 == t115) = false := beq_eq_false_iff_ne.mpr c4
    have c4b1 : (t114 != t115) = true := bne_iff_ne.mpr c4
    obtain rfl := Option.some.inj H
    go_enter Tryd.func5, Tryd.ntmps5
    go_wp2_with (first | ((with_reducible refine gate_callee (f := 10) rfl ?_); refine goesL_ (some 7) rfl rfl Tryd.func10 (by kernel_rfl) rfl #[.int .i64 a0] rfl (by (try simp only [List.map_toArray, List.map_cons, List.map_nil]); first | done | rfl | (simp only [List.length_drop, List.length_take]; rfl)) ?_; (with_reducible refine (impl_Ntz64.calls a0 t114 _ (by first | exact hT | exact hT.drewN _ | exact (hT.drewN _).drewN _ | exact ((hT.drewN _).drewN _).drewN _) A2.out).mono ?_); rintro e w' ⟨rfl, ⟨nd, rfl⟩⟩; refine ⟨_, rfl, ?_⟩) | ((with_reducible refine gate_callee (f := 12) rfl ?_); refine goesL_ (some 9) rfl rfl Tryd.func12 (by kernel_rfl) rfl #[.int .u64 (IntKind.u64.wrap (a0)), .int .u64 64] rfl (by (try simp only [List.map_toArray, List.map_cons, List.map_nil]); first | done | rfl | (simp only [List.length_drop, List.length_take]; rfl)) ?_; (with_reducible refine (spec_Trailing.calls k (IntKind.u64.wrap (a0)) 64 t115 _ A3.out).mono ?_); rintro e w' ⟨rfl, ⟨nd, rfl⟩⟩; refine ⟨_, rfl, ?_⟩))
    go_ret
    exact ⟨by first | rfl | (simp; done) | (simp [*]; done), by repeat (first | exact Drawn0.refl _ | apply Drawn0.step)⟩

/-- THE ONE PURE STATEMENT of laws_FnTrailingZeros: yours. -/
def laws_FnTrailingZeros.Pure : Prop := ∀ (a0 : Int), (Lit.int .i64 a0).wf = true → ∃ k, laws_FnTrailingZeros.f k a0 = some true
theorem laws_FnTrailingZeros.walk (P : laws_FnTrailingZeros.Pure) (a0 : Int) (w : World) (hT : Tab0 w) (w0 : (Lit.int .i64 a0).wf = true) :
    Calls Tryd.prog 5 #[.int .i64 a0] w fun e w' => e = .returned (.bool true) ∧ Below w.heap.size w w' := by
  obtain ⟨k, h⟩ := P a0 w0
  refine (laws_FnTrailingZeros.calls k a0 true w hT h).mono ?_
  rintro e w' ⟨rfl, hd⟩
  exact ⟨rfl, hd.below⟩

end Go.Proofs.YtcihkjjejckicaaDoor.PFnTrailingZeros
