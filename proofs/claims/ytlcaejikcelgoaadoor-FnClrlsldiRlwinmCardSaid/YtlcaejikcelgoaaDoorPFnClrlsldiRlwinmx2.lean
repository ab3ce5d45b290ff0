-- Written by a program of this session out of the translation (wip/pp.py): Lean checks it.
import Derived.Test.YtlcaejikcelgoaaDoorPFnClrlsldiRlwinmx0
import Derived.Test.YtlcaejikcelgoaaDoorPFnClrlsldiRlwinmx1
namespace Go.Proofs.YtlcaejikcelgoaaDoor.PFnClrlsldiRlwinm
open Go.RowKit Go.Proofs.YtlcaejikcelgoaaDoorW.PrintWords Go.Proofs.YtlcaejikcelgoaaDoorW.PrintLast Go.Proofs.YtlcaejikcelgoaaDoorW.PrintMore
attribute [local go_sem] max2_int min2_int max_two min_two max_three min_three max_four min_four   -- for this text's walks alone
set_option linter.unusedVariables false
set_option linter.unusedSimpArgs false

attribute [local go_sem] signed_i64 signed_i32 signed_u32 max_u32 signed_u64 max_u64
/-! ### laws_mkGood: function 23 -/
def laws_mkGood.j0 : Nat → Int → Int → Int → Int → Bool → Option (Bool)
  | 0, _, _, _, _, _ => none
  | k + 1, x1, x2, x7, x10, x34 => if x34 = true then (some false) else ((spec_IsRun.f k x10).bind fun t119 => (if t119 = true then ((spec_Rotated.f x1 32 (IntKind.u64.wrap (x7)) x10).bind fun t120 => (some (t120 == x2))) else ((spec_Low.f x2 32).bind fun t121 => ((spec_Rotated.f x1 32 (IntKind.u64.wrap (x7)) x10).bind fun t122 => (some (t122 == t121))))))
def laws_mkGood.f (k : Nat) (a0 : Int) (a1 : Int) (a2 : Int) : Option (Bool) := (impl_DecodeRotateMask.f a0).bind fun bt115 => (if (Go.bits .and .i64 (a0 / 16777216) 255) = 32 then (if bt115.1 < 0 then (laws_mkGood.j0 k a1 a2 bt115.1 bt115.2.2.2 true) else (if bt115.1 ≥ 32 then (laws_mkGood.j0 k a1 a2 bt115.1 bt115.2.2.2 true) else (laws_mkGood.j0 k a1 a2 bt115.1 bt115.2.2.2 ((bt115.2.2.2 / 4294967296) != 0)))) else (laws_mkGood.j0 k a1 a2 bt115.1 bt115.2.2.2 true))
theorem laws_mkGood.mono_l : ∀ k, (∀ y0 y1 y2 y3 y4, LeO (laws_mkGood.j0 k y0 y1 y2 y3 y4) (laws_mkGood.j0 (k + 1) y0 y1 y2 y3 y4))
  | 0 => fun _ _ _ _ _ r h => by simp [laws_mkGood.j0] at h
  | k + 1 => by
    have ih0 := laws_mkGood.mono_l k
    · intro y0 y1 y2 y3 y4
      unfold laws_mkGood.j0
      repeat' first
      | (with_reducible exact ih0 _ _ _ _ _)
      | (with_reducible exact spec_IsRun.mono _ _)
      | (with_reducible exact LeO.refl _)
      | (with_reducible exact LeO.none _)
      | (with_reducible refine LeO.ite ?_ ?_)
      | (with_reducible refine LeO.bind ?_ (fun _ => ?_))
      | exact ih0 _ _ _ _ _
      | exact spec_IsRun.mono _ _
      | exact LeO.none _
      | refine LeO.ite ?_ ?_
      | refine LeO.bind ?_ (fun _ => ?_)
theorem laws_mkGood.mono : ∀ a0 a1 a2 k, LeO (laws_mkGood.f k a0 a1 a2) (laws_mkGood.f (k + 1) a0 a1 a2) := by
  intro a0 a1 a2 k
  have ih0 := laws_mkGood.mono_l k
  unfold laws_mkGood.f
  repeat' first
      | (with_reducible exact ih0 _ _ _ _ _)
      | (with_reducible exact spec_IsRun.mono _ _)
      | (with_reducible exact LeO.refl _)
      | (with_reducible exact LeO.none _)
      | (with_reducible refine LeO.ite ?_ ?_)
      | (with_reducible refine LeO.bind ?_ (fun _ => ?_))
      | exact ih0 _ _ _ _ _
      | exact spec_IsRun.mono _ _
      | exact LeO.none _
      | refine LeO.ite ?_ ?_
      | refine LeO.bind ?_ (fun _ => ?_)
set_option maxHeartbeats 8000000 in
set_option maxRecDepth 100000 in
theorem laws_mkGood.calls (k : Nat) (a0 : Int) (a1 : Int) (a2 : Int) (r : Bool) (w : World) (h : laws_mkGood.f k a0 a1 a2 = some r) :
    Calls Tryd.prog 23 #[.int .i64 a0, .int .u64 a1, .int .u64 a2] w fun e w' => e = .returned (.bool r) ∧ Drawn0 w w' := by
  have H : ((impl_DecodeRotateMask.f a0).bind fun bt115 => (if (Go.bits .and .i64 (a0 / 16777216) 255) = 32 then (if bt115.1 < 0 then (laws_mkGood.j0 k a1 a2 bt115.1 bt115.2.2.2 true) else (if bt115.1 ≥ 32 then (laws_mkGood.j0 k a1 a2 bt115.1 bt115.2.2.2 true) else (laws_mkGood.j0 k a1 a2 bt115.1 bt115.2.2.2 ((bt115.2.2.2 / 4294967296) != 0)))) else (laws_mkGood.j0 k a1 a2 bt115.1 bt115.2.2.2 true))) = some r := h
  clear h
  replace H := Option.bind_eq_some_iff.mp H
  obtain ⟨⟨t115, t116, t117, t118⟩, A40, H⟩ := H
  replace H : (if (Go.bits .and .i64 (a0 / 16777216) 255) = 32 then (if t115 < 0 then (laws_mkGood.j0 k a1 a2 t115 t118 true) else (if t115 ≥ 32 then (laws_mkGood.j0 k a1 a2 t115 t118 true) else (laws_mkGood.j0 k a1 a2 t115 t118 ((t118 / 4294967296) != 0)))) else (laws_mkGood.j0 k a1 a2 t115 t118 true)) = some r := H
  have A4 := Aside0.mk A40
  clear A40
  have HC5 := Aside0.mk H
  clear H
  go_enter Tryd.func23, Tryd.ntmps23
  go_upto_region 2 with (first | ((with_reducible refine gate_callee (f := 15) rfl ?_); refine goesL_ (some 13) rfl rfl Tryd.func15 (by kernel_rfl) rfl #[.int .i64 a0] rfl (by (try simp only [List.map_toArray, List.map_cons, List.map_nil]); first | done | rfl | (simp only [List.length_drop, List.length_take]; rfl)) ?_; (with_reducible refine (impl_DecodeRotateMask.calls a0 t115 t116 t117 t118 _ A4.out).mono ?_); rintro e w' ⟨rfl, ⟨nd, rfl⟩⟩; refine ⟨_, rfl, ?_⟩))
  (try simp only [Act.put, List.setIfInBounds_toArray, List.set_cons_zero, List.set_cons_succ])
  go_cut [34] (fun v34 wc => ∃ (kq : Nat) (x34_4 : Bool), v34 = .bool x34_4 ∧ Aside0 (laws_mkGood.j0 kq a1 a2 t115 t118 x34_4 = some r) ∧ Aside0 (kq ≤ k) ∧ Drawn0 w wc)
  case first =>
    have H := HC5.out
    clear HC5
    by_cases c6 : (Go.bits .and .i64 (a0 / 16777216) 255) = 32
    · rw [if_pos c6] at H
      have c6b0 : ((Go.bits .and .i64 (a0 / 16777216) 255) == 32) = true := beq_iff_eq.mpr c6
      have c6b1 : ((Go.bits .and .i64 (a0 / 16777216) 255) != 32) = false := bne_eq_false_iff_eq.mpr c6
      clear c6
      (first | rw [c6b0] | (simp only [i64_w, i32_w]; rw [c6b0]) | skip)
      by_cases c7 : t115 < 0
      · rw [if_pos c7] at H
        have c7b0 : decide (t115 < 0) = true := decide_eq_true c7
        clear c7
        have H' := Aside0.mk H
        clear H
        go_wp2
        go_meet
        case rel => exact ⟨_, (true), (by first | rfl | (simp; done) | (simp [*]; done)), H', ⟨by first | omega | exact Nat.le_refl _⟩, by repeat (first | exact Drawn0.refl _ | apply Drawn0.step)⟩
      · rw [if_neg c7] at H
        have c7b0 : decide (t115 < 0) = false := decide_eq_false c7
        clear c7
        by_cases c8 : t115 ≥ 32
        · rw [if_pos c8] at H
          have c8b0 : decide (32 ≤ t115) = true := decide_eq_true c8
          clear c8
          have H' := Aside0.mk H
          clear H
          go_wp2
          go_meet
          case rel => exact ⟨_, (true), (by first | rfl | (simp; done) | (simp [*]; done)), H', ⟨by first | omega | exact Nat.le_refl _⟩, by repeat (first | exact Drawn0.refl _ | apply Drawn0.step)⟩
        · rw [if_neg c8] at H
          have c8b0 : decide (32 ≤ t115) = false := decide_eq_false c8
          clear c8
          have H' := Aside0.mk H
          clear H
          go_wp2
          go_meet
          case rel => exact ⟨_, (((t118 / 4294967296) != 0)), (by first | rfl | (simp; done) | (simp [*]; done)), H', ⟨by first | omega | exact Nat.le_refl _⟩, by repeat (first | exact Drawn0.refl _ | apply Drawn0.step)⟩
    · rw [if_neg c6] at H
      have c6b0 : ((Go.bits .and .i64 (a0 / 16777216) 255) == 32) = false := beq_eq_false_iff_ne.mpr c6
      have c6b1 : ((Go.bits .and .i64 (a0 / 16777216) 255) != 32) = true := bne_iff_ne.mpr c6
      (first | rw [c6b0] | (simp only [i64_w, i32_w]; rw [c6b0]) | skip)
      have H' := Aside0.mk H
      clear H
      go_wp2
      go_meet
      case rel => exact ⟨_, (true), (by first | rfl | (simp; done) | (simp [*]; done)), H', ⟨by first | omega | exact Nat.le_refl _⟩, by repeat (first | exact Drawn0.refl _ | apply Drawn0.step)⟩
  case rest =>
    clear HC5
    try clear c1
    try clear c2
    try clear p2
    try clear c6
    try clear c6b0
    try clear c6b1
    try clear c7
    try clear c7b0
    try clear c8
    try clear c8b0
    obtain ⟨kq, x34_4, rfl, HA, HJ4, ⟨mc4, rfl⟩⟩ := hcut
    cases kq with
    | zero => exact absurd HA.out (by simp [laws_mkGood.j0])
    | succ kj4 =>
      have H := HA.out
      clear HA
      simp only [laws_mkGood.j0] at H
      by_cases c9 : x34_4 = true
      · subst c9
        have H1 : (some false) = some r := by rw [if_pos rfl] at H; exact H
        clear H
        have H := H1
        clear H1
        obtain rfl := Option.some.inj H
        go_wp2
        go_ret
        exact ⟨by first | rfl | (simp; done) | (simp [*]; done), by repeat (first | exact Drawn0.refl _ | apply Drawn0.step)⟩
      · replace c9 := Bool.eq_false_iff.mpr c9
        subst c9
        have H1 : ((spec_IsRun.f kj4 t118).bind fun t119 => (if t119 = true then ((spec_Rotated.f a1 32 (IntKind.u64.wrap (t115)) t118).bind fun t120 => (some (t120 == a2))) else ((spec_Low.f a2 32).bind fun t121 => ((spec_Rotated.f a1 32 (IntKind.u64.wrap (t115)) t118).bind fun t122 => (some (t122 == t121)))))) = some r := by rw [if_neg (show ¬ (false = true) by decide)] at H; exact H
        clear H
        have H := H1
        clear H1
        replace H := Option.bind_eq_some_iff.mp H
        obtain ⟨t119, A100, H⟩ := H
        replace H : (if t119 = true then ((spec_Rotated.f a1 32 (IntKind.u64.wrap (t115)) t118).bind fun t120 => (some (t120 == a2))) else ((spec_Low.f a2 32).bind fun t121 => ((spec_Rotated.f a1 32 (IntKind.u64.wrap (t115)) t118).bind fun t122 => (some (t122 == t121))))) = some r := H
        have A10 := Aside0.mk A100
        clear A100
        by_cases c11 : t119 = true
        · subst c11
          have H1 : ((spec_Rotated.f a1 32 (IntKind.u64.wrap (t115)) t118).bind fun t120 => (some (t120 == a2))) = some r := by rw [if_pos rfl] at H; exact H
          clear H
          have H := H1
          clear H1
          replace H := Option.bind_eq_some_iff.mp H
          obtain ⟨t120, A120, H⟩ := H
          replace H : (some (t120 == a2)) = some r := H
          have A12 := Aside0.mk A120
          clear A120
          obtain rfl := Option.some.inj H
          go_wp2_with (first | ((with_reducible refine gate_callee (f := 39) rfl ?_); refine goesL_ (some 36) rfl rfl Tryd.func39 (by kernel_rfl) rfl #[.int .u64 t118] rfl (by (try simp only [List.map_toArray, List.map_cons, List.map_nil]); first | done | rfl | (simp only [List.length_drop, List.length_take]; rfl)) ?_; (with_reducible refine (spec_IsRun.calls kj4 t118 true _ A10.out).mono ?_); rintro e w' ⟨rfl, ⟨nd, rfl⟩⟩; refine ⟨_, rfl, ?_⟩) | ((with_reducible refine gate_callee (f := 18) rfl ?_); refine goesL_ (some 44) rfl rfl Tryd.func18 (by kernel_rfl) rfl #[.int .u64 a1, .int .u64 32, .int .u64 (IntKind.u64.wrap (t115)), .int .u64 t118] rfl (by (try simp only [List.map_toArray, List.map_cons, List.map_nil]); first | done | rfl | (simp only [List.length_drop, List.length_take]; rfl)) ?_; (with_reducible refine (spec_Rotated.calls a1 32 (IntKind.u64.wrap (t115)) t118 t120 _ A12.out).mono ?_); rintro e w' ⟨rfl, ⟨nd, rfl⟩⟩; refine ⟨_, rfl, ?_⟩))
          go_ret
          exact ⟨by first | rfl | (simp; done) | (simp [*]; done), by repeat (first | exact Drawn0.refl _ | apply Drawn0.step)⟩
        · replace c11 := Bool.eq_false_iff.mpr c11
          subst c11
          have H1 : ((spec_Low.f a2 32).bind fun t121 => ((spec_Rotated.f a1 32 (IntKind.u64.wrap (t115)) t118).bind fun t122 => (some (t122 == t121)))) = some r := by rw [if_neg (show ¬ (false = true) by decide)] at H; exact H
          clear H
          have H := H1
          clear H1
          replace H := Option.bind_eq_some_iff.mp H
          obtain ⟨t121, A130, H⟩ := H
          replace H : ((spec_Rotated.f a1 32 (IntKind.u64.wrap (t115)) t118).bind fun t122 => (some (t122 == t121))) = some r := H
          have A13 := Aside0.mk A130
          clear A130
          replace H := Option.bind_eq_some_iff.mp H
          obtain ⟨t122, A140, H⟩ := H
          replace H : (some (t122 == t121)) = some r := H
          have A14 := Aside0.mk A140
          clear A140
          obtain rfl := Option.some.inj H
          go_wp2_with (first | ((with_reducible refine gate_callee (f := 39) rfl ?_); refine goesL_ (some 36) rfl rfl Tryd.func39 (by kernel_rfl) rfl #[.int .u64 t118] rfl (by (try simp only [List.map_toArray, List.map_cons, List.map_nil]); first | done | rfl | (simp only [List.length_drop, List.length_take]; rfl)) ?_; (with_reducible refine (spec_IsRun.calls kj4 t118 false _ A10.out).mono ?_); rintro e w' ⟨rfl, ⟨nd, rfl⟩⟩; refine ⟨_, rfl, ?_⟩) | ((with_reducible refine gate_callee (f := 19) rfl ?_); refine goesL_ (some 39) rfl rfl Tryd.func19 (by kernel_rfl) rfl #[.int .u64 a2, .int .u64 32] rfl (by (try simp only [List.map_toArray, List.map_cons, List.map_nil]); first | done | rfl | (simp only [List.length_drop, List.length_take]; rfl)) ?_; (with_reducible refine (spec_Low.calls a2 32 t121 _ A13.out).mono ?_); rintro e w' ⟨rfl, ⟨nd, rfl⟩⟩; refine ⟨_, rfl, ?_⟩) | ((with_reducible refine gate_callee (f := 18) rfl ?_); refine goesL_ (some 44) rfl rfl Tryd.func18 (by kernel_rfl) rfl #[.int .u64 a1, .int .u64 32, .int .u64 (IntKind.u64.wrap (t115)), .int .u64 t118] rfl (by (try simp only [List.map_toArray, List.map_cons, List.map_nil]); first | done | rfl | (simp only [List.length_drop, List.length_take]; rfl)) ?_; (with_reducible refine (spec_Rotated.calls a1 32 (IntKind.u64.wrap (t115)) t118 t122 _ A14.out).mono ?_); rintro e w' ⟨rfl, ⟨nd, rfl⟩⟩; refine ⟨_, rfl, ?_⟩))
          go_ret
          exact ⟨by first | rfl | (simp; done) | (simp [*]; done), by repeat (first | exact Drawn0.refl _ | apply Drawn0.step)⟩

/-! ### bits_Len32: function 68 -/
def bits_Len32.f (a0 : Int) : Option (Int) := if 0 ≤ a0 ∧ a0 ≤ 4294967295 then some (Lib.bitLen a0.toNat : Int) else none
theorem bits_Len32.calls (a0 : Int) (r : Int) (w : World) (h : bits_Len32.f a0 = some r) :
    Calls Tryd.prog 68 #[.int .u32 a0] w fun e w' => e = .returned (.int .i64 r) ∧ Drawn0 w w' := by
  unfold bits_Len32.f at h
  split at h
  · rename_i hb
    obtain rfl := Option.some.inj h
    refine (Tryd.bits_Len32 a0 w hb.1 hb.2).mono ?_
    rintro e w' ⟨rfl, rfl⟩
    exact ⟨by first | rfl | (simp; done) | (congr 2; omega), Drawn0.refl _⟩
  · cases h

/-! ### bits_LeadingZeros32: function 57 -/
def bits_LeadingZeros32.f (a0 : Int) : Option (Int) := if 0 ≤ a0 ∧ a0 ≤ 4294967295 then some (32 - (Lib.bitLen a0.toNat : Int)) else none
theorem bits_LeadingZeros32.calls (a0 : Int) (r : Int) (w : World) (h : bits_LeadingZeros32.f a0 = some r) :
    Calls Tryd.prog 57 #[.int .u32 a0] w fun e w' => e = .returned (.int .i64 r) ∧ Drawn0 w w' := by
  unfold bits_LeadingZeros32.f at h
  split at h
  · rename_i hb
    obtain rfl := Option.some.inj h
    refine (Tryd.bits_LeadingZeros32 a0 w hb.1 hb.2).mono ?_
    rintro e w' ⟨rfl, rfl⟩
    exact ⟨by first | rfl | (simp; done) | (congr 2; omega), Drawn0.refl _⟩
  · cases h

/-! ### bits_TrailingZeros32: function 58 -/
def bits_TrailingZeros32.f (a0 : Int) : Option (Int) := if 0 ≤ a0 ∧ a0 ≤ 4294967295 then some (Lib.ctz 32 a0.toNat : Int) else none
theorem bits_TrailingZeros32.calls (a0 : Int) (r : Int) (w : World) (hT : Tab0 w) (h : bits_TrailingZeros32.f a0 = some r) :
    Calls Tryd.prog 58 #[.int .u32 a0] w fun e w' => e = .returned (.int .i64 r) ∧ Drawn0 w w' := by
  unfold bits_TrailingZeros32.f at h
  split at h
  · rename_i hb
    obtain rfl := Option.some.inj h
    obtain ⟨x, rfl⟩ := Int.eq_ofNat_of_zero_le hb.1
    refine (tz32 x (by omega) w hT).mono ?_
    rintro e w' ⟨rfl, rfl⟩
    exact ⟨by first | rfl | (simp; done) | (congr 2; omega), Drawn0.refl _⟩
  · cases h

/-! ### bits_Len64: function 69 -/
def bits_Len64.f (a0 : Int) : Option (Int) := if 0 ≤ a0 ∧ a0 ≤ 18446744073709551615 then some (Lib.bitLen a0.toNat : Int) else none
theorem bits_Len64.calls (a0 : Int) (r : Int) (w : World) (h : bits_Len64.f a0 = some r) :
    Calls Tryd.prog 69 #[.int .u64 a0] w fun e w' => e = .returned (.int .i64 r) ∧ Drawn0 w w' := by
  unfold bits_Len64.f at h
  split at h
  · rename_i hb
    obtain rfl := Option.some.inj h
    refine (Tryd.bits_Len64 a0 w hb.1 hb.2).mono ?_
    rintro e w' ⟨rfl, rfl⟩
    exact ⟨by first | rfl | (simp; done) | (congr 2; omega), Drawn0.refl _⟩
  · cases h

/-! ### bits_LeadingZeros64: function 59 -/
def bits_LeadingZeros64.f (a0 : Int) : Option (Int) := if 0 ≤ a0 ∧ a0 ≤ 18446744073709551615 then some (64 - (Lib.bitLen a0.toNat : Int)) else none
theorem bits_LeadingZeros64.calls (a0 : Int) (r : Int) (w : World) (h : bits_LeadingZeros64.f a0 = some r) :
    Calls Tryd.prog 59 #[.int .u64 a0] w fun e w' => e = .returned (.int .i64 r) ∧ Drawn0 w w' := by
  unfold bits_LeadingZeros64.f at h
  split at h
  · rename_i hb
    obtain rfl := Option.some.inj h
    refine (Tryd.bits_LeadingZeros64 a0 w hb.1 hb.2).mono ?_
    rintro e w' ⟨rfl, rfl⟩
    exact ⟨by first | rfl | (simp; done) | (congr 2; omega), Drawn0.refl _⟩
  · cases h

/-! ### bits_TrailingZeros64: function 60 -/
def bits_TrailingZeros64.f (a0 : Int) : Option (Int) := if 0 ≤ a0 ∧ a0 ≤ 18446744073709551615 then some (Lib.ctz 64 a0.toNat : Int) else none
theorem bits_TrailingZeros64.calls (a0 : Int) (r : Int) (w : World) (hT : Tab0 w) (h : bits_TrailingZeros64.f a0 = some r) :
    Calls Tryd.prog 60 #[.int .u64 a0] w fun e w' => e = .returned (.int .i64 r) ∧ Drawn0 w w' := by
  unfold bits_TrailingZeros64.f at h
  split at h
  · rename_i hb
    obtain rfl := Option.some.inj h
    obtain ⟨x, rfl⟩ := Int.eq_ofNat_of_zero_le hb.1
    refine (tz64 x (by omega) w hT).mono ?_
    rintro e w' ⟨rfl, rfl⟩
    exact ⟨by first | rfl | (simp; done) | (congr 2; omega), Drawn0.refl _⟩
  · cases h

attribute [local go_sem] signed_i64 signed_i32 signed_u32 max_u32 signed_u64 max_u64
/-! ### ssarewrite_encodePPC64RotateMask: function 46 -/
def ssarewrite_encodePPC64RotateMask.j0 : Nat → Int → Int → Int → Bool → Option (Int)
  | 0, _, _, _, _ => none
  | k + 1, x0, x1, x2, x22 => if x22 = true then (none) else (if x2 = 32 then ((bits_LeadingZeros32.f ((x1) % 4294967296)).bind fun t123 => ((bits_TrailingZeros32.f ((x1) % 4294967296)).bind fun t124 => ((bits_LeadingZeros32.f (Go.bits .xor .u32 4294967295 ((x1) % 4294967296))).bind fun t125 => ((bits_TrailingZeros32.f (Go.bits .xor .u32 4294967295 ((x1) % 4294967296))).bind fun t126 => (if t123 = 0 then (if (wrap64 (32 - t124)) = x2 then (some (Go.bits .or .i64 (Go.bits .or .i64 (Go.bits .or .i64 t125 (wrap64 ((wrap64 (32 - t126)) * 256))) (wrap64 (x0 * 65536))) (wrap64 (x2 * 16777216)))) else (some (Go.bits .or .i64 (Go.bits .or .i64 (Go.bits .or .i64 (wrap64 (32 - t124)) (wrap64 (t123 * 256))) (wrap64 (x0 * 65536))) (wrap64 (x2 * 16777216))))) else (some (Go.bits .or .i64 (Go.bits .or .i64 (Go.bits .or .i64 (wrap64 (32 - t124)) (wrap64 (t123 * 256))) (wrap64 (x0 * 65536))) (wrap64 (x2 * 16777216))))))))) else ((bits_LeadingZeros64.f (IntKind.u64.wrap (x1))).bind fun t127 => ((bits_TrailingZeros64.f (IntKind.u64.wrap (x1))).bind fun t128 => ((bits_LeadingZeros64.f (Go.bits .xor .u64 18446744073709551615 (IntKind.u64.wrap (x1)))).bind fun t129 => ((bits_TrailingZeros64.f (Go.bits .xor .u64 18446744073709551615 (IntKind.u64.wrap (x1)))).bind fun t130 => (if t127 = 0 then (if (wrap64 (64 - t128)) = x2 then (some (Go.bits .or .i64 (Go.bits .or .i64 (Go.bits .or .i64 t129 (wrap64 ((wrap64 (64 - t130)) * 256))) (wrap64 (x0 * 65536))) (wrap64 (x2 * 16777216)))) else (some (Go.bits .or .i64 (Go.bits .or .i64 (Go.bits .or .i64 (wrap64 (64 - t128)) (wrap64 (t127 * 256))) (wrap64 (x0 * 65536))) (wrap64 (x2 * 16777216))))) else (some (Go.bits .or .i64 (Go.bits .or .i64 (Go.bits .or .i64 (wrap64 (64 - t128)) (wrap64 (t127 * 256))) (wrap64 (x0 * 65536))) (wrap64 (x2 * 16777216))))))))))
def ssarewrite_encodePPC64RotateMask.f (k : Nat) (a0 : Int) (a1 : Int) (a2 : Int) : Option (Int) := if a1 = 0 then (ssarewrite_encodePPC64RotateMask.j0 k a0 a1 a2 true) else (if (Go.bits .xor .i64 (-1) a1) = 0 then (ssarewrite_encodePPC64RotateMask.j0 k a0 a1 a2 true) else (ssarewrite_encodePPC64RotateMask.j0 k a0 a1 a2 (decide (a0 ≥ a2))))
theorem ssarewrite_encodePPC64RotateMask.mono_l : ∀ k, (∀ y0 y1 y2 y3, LeO (ssarewrite_encodePPC64RotateMask.j0 k y0 y1 y2 y3) (ssarewrite_encodePPC64RotateMask.j0 (k + 1) y0 y1 y2 y3))
  | 0 => fun _ _ _ _ r h => by simp [ssarewrite_encodePPC64RotateMask.j0] at h
  | k + 1 => by
    have ih0 := ssarewrite_encodePPC64RotateMask.mono_l k
    · intro y0 y1 y2 y3
      unfold ssarewrite_encodePPC64RotateMask.j0
      repeat' first
      | (with_reducible exact ih0 _ _ _ _)
      | (with_reducible exact LeO.refl _)
      | (with_reducible exact LeO.none _)
      | (with_reducible refine LeO.ite ?_ ?_)
      | (with_reducible refine LeO.bind ?_ (fun _ => ?_))
      | exact ih0 _ _ _ _
      | exact LeO.none _
      | refine LeO.ite ?_ ?_
      | refine LeO.bind ?_ (fun _ => ?_)
theorem ssarewrite_encodePPC64RotateMask.mono : ∀ a0 a1 a2 k, LeO (ssarewrite_encodePPC64RotateMask.f k a0 a1 a2) (ssarewrite_encodePPC64RotateMask.f (k + 1) a0 a1 a2) := by
  intro a0 a1 a2 k
  have ih0 := ssarewrite_encodePPC64RotateMask.mono_l k
  unfold ssarewrite_encodePPC64RotateMask.f
  repeat' first
      | (with_reducible exact ih0 _ _ _ _)
      | (with_reducible exact LeO.refl _)
      | (with_reducible exact LeO.none _)
      | (with_reducible refine LeO.ite ?_ ?_)
      | (with_reducible refine LeO.bind ?_ (fun _ => ?_))
      | exact ih0 _ _ _ _
      | exact LeO.none _
      | refine LeO.ite ?_ ?_
      | refine LeO.bind ?_ (fun _ => ?_)
set_option maxHeartbeats 8000000 in
set_option maxRecDepth 100000 in
theorem ssarewrite_encodePPC64RotateMask.calls (k : Nat) (a0 : Int) (a1 : Int) (a2 : Int) (r : Int) (w : World) (hT : Tab0 w) (h : ssarewrite_encodePPC64RotateMask.f k a0 a1 a2 = some r) :
    Calls Tryd.prog 46 #[.int .i64 a0, .int .i64 a1, .int .i64 a2] w fun e w' => e = .returned (.int .i64 r) ∧ Drawn0 w w' := by
  have H : (if a1 = 0 then (ssarewrite_encodePPC64RotateMask.j0 k a0 a1 a2 true) else (if (Go.bits .xor .i64 (-1) a1) = 0 then (ssarewrite_encodePPC64RotateMask.j0 k a0 a1 a2 true) else (ssarewrite_encodePPC64RotateMask.j0 k a0 a1 a2 (decide (a0 ≥ a2))))) = some r := h
  clear h
  have HC4 := Aside0.mk H
  clear H
  go_enter Tryd.func46, Tryd.ntmps46
  go_upto_region 2 with (fail)
  go_cut [22] (fun v22 wc => ∃ (kq : Nat) (x22_3 : Bool), v22 = .bool x22_3 ∧ Aside0 (ssarewrite_encodePPC64RotateMask.j0 kq a0 a1 a2 x22_3 = some r) ∧ Aside0 (kq ≤ k) ∧ Drawn0 w wc)
  case first =>
    have H := HC4.out
    clear HC4
    by_cases c5 : a1 = 0
    · rw [if_pos c5] at H
      have c5b0 : (a1 == 0) = true := beq_iff_eq.mpr c5
      have c5b1 : (a1 != 0) = false := bne_eq_false_iff_eq.mpr c5
      clear c5
      (first | rw [c5b0] | (simp only [i64_w, i32_w]; rw [c5b0]) | skip)
      have H' := Aside0.mk H
      clear H
      go_wp2
      go_meet
      case rel => exact ⟨_, (true), (by first | rfl | (simp; done) | (simp [*]; done)), H', ⟨by first | omega | exact Nat.le_refl _⟩, by repeat (first | exact Drawn0.refl _ | apply Drawn0.step)⟩
    · rw [if_neg c5] at H
      have c5b0 : (a1 == 0) = false := beq_eq_false_iff_ne.mpr c5
      have c5b1 : (a1 != 0) = true := bne_iff_ne.mpr c5
      (first | rw [c5b0] | (simp only [i64_w, i32_w]; rw [c5b0]) | skip)
      by_cases c6 : (Go.bits .xor .i64 (-1) a1) = 0
      · rw [if_pos c6] at H
        have c6b0 : ((Go.bits .xor .i64 (-1) a1) == 0) = true := beq_iff_eq.mpr c6
        have c6b1 : ((Go.bits .xor .i64 (-1) a1) != 0) = false := bne_eq_false_iff_eq.mpr c6
        clear c6
        have H' := Aside0.mk H
        clear H
        go_wp2
        go_meet
        case rel => exact ⟨_, (true), (by first | rfl | (simp; done) | (simp [*]; done)), H', ⟨by first | omega | exact Nat.le_refl _⟩, by repeat (first | exact Drawn0.refl _ | apply Drawn0.step)⟩
      · rw [if_neg c6] at H
        have c6b0 : ((Go.bits .xor .i64 (-1) a1) == 0) = false := beq_eq_false_iff_ne.mpr c6
        have c6b1 : ((Go.bits .xor .i64 (-1) a1) != 0) = true := bne_iff_ne.mpr c6
        have H' := Aside0.mk H
        clear H
        go_wp2
        go_meet
        case rel => exact ⟨_, (decide (a0 ≥ a2)), (by first | rfl | (simp; done) | (simp [*]; done)), H', ⟨by first | omega | exact Nat.le_refl _⟩, by repeat (first | exact Drawn0.refl _ | apply Drawn0.step)⟩
  case rest =>
    clear HC4
    try clear p2
    try clear c4
    try clear c5
    try clear c5b0
    try clear c5b1
    try clear c6
    try clear c6b0
    try clear c6b1
    obtain ⟨kq, x22_3, rfl, HA, HJ3, ⟨mc3, rfl⟩⟩ := hcut
    cases kq with
    | zero => exact absurd HA.out (by simp [ssarewrite_encodePPC64RotateMask.j0])
    | succ kj3 =>
      have H := HA.out
      clear HA
      simp only [ssarewrite_encodePPC64RotateMask.j0] at H
      by_cases c7 : x22_3 = true
      · subst c7
        have H1 : (none) = some r := by rw [if_pos rfl] at H; exact H
        clear H
        have H := H1
        clear H1
        exact absurd H (by simp)
      · replace c7 := Bool.eq_false_iff.mpr c7
        subst c7
        have H1 : (if a2 = 32 then ((bits_LeadingZeros32.f ((a1) % 4294967296)).bind fun t123 => ((bits_TrailingZeros32.f ((a1) % 4294967296)).bind fun t124 => ((bits_LeadingZeros32.f (Go.bits .xor .u32 4294967295 ((a1) % 4294967296))).bind fun t125 => ((bits_TrailingZeros32.f (Go.bits .xor .u32 4294967295 ((a1) % 4294967296))).bind fun t126 => (if t123 = 0 then (if (wrap64 (32 - t124)) = a2 then (some (Go.bits .or .i64 (Go.bits .or .i64 (Go.bits .or .i64 t125 (wrap64 ((wrap64 (32 - t126)) * 256))) (wrap64 (a0 * 65536))) (wrap64 (a2 * 16777216)))) else (some (Go.bits .or .i64 (Go.bits .or .i64 (Go.bits .or .i64 (wrap64 (32 - t124)) (wrap64 (t123 * 256))) (wrap64 (a0 * 65536))) (wrap64 (a2 * 16777216))))) else (some (Go.bits .or .i64 (Go.bits .or .i64 (Go.bits .or .i64 (wrap64 (32 - t124)) (wrap64 (t123 * 256))) (wrap64 (a0 * 65536))) (wrap64 (a2 * 16777216))))))))) else ((bits_LeadingZeros64.f (IntKind.u64.wrap (a1))).bind fun t127 => ((bits_TrailingZeros64.f (IntKind.u64.wrap (a1))).bind fun t128 => ((bits_LeadingZeros64.f (Go.bits .xor .u64 18446744073709551615 (IntKind.u64.wrap (a1)))).bind fun t129 => ((bits_TrailingZeros64.f (Go.bits .xor .u64 18446744073709551615 (IntKind.u64.wrap (a1)))).bind fun t130 => (if t127 = 0 then (if (wrap64 (64 - t128)) = a2 then (some (Go.bits .or .i64 (Go.bits .or .i64 (Go.bits .or .i64 t129 (wrap64 ((wrap64 (64 - t130)) * 256))) (wrap64 (a0 * 65536))) (wrap64 (a2 * 16777216)))) else (some (Go.bits .or .i64 (Go.bits .or .i64 (Go.bits .or .i64 (wrap64 (64 - t128)) (wrap64 (t127 * 256))) (wrap64 (a0 * 65536))) (wrap64 (a2 * 16777216))))) else (some (Go.bits .or .i64 (Go.bits .or .i64 (Go.bits .or .i64 (wrap64 (64 - t128)) (wrap64 (t127 * 256))) (wrap64 (a0 * 65536))) (wrap64 (a2 * 16777216)))))))))) = some r := by rw [if_neg (show ¬ (false = true) by decide)] at H; exact H
        clear H
        have H := H1
        clear H1
        by_cases c8 : a2 = 32
        · rw [if_pos c8] at H
          have c8b0 : (a2 == 32) = true := beq_iff_eq.mpr c8
          have c8b1 : (a2 != 32) = false := bne_eq_false_iff_eq.mpr c8
          clear c8
          replace H := Option.bind_eq_some_iff.mp H
          obtain ⟨t123, A90, H⟩ := H
          replace H : ((bits_TrailingZeros32.f ((a1) % 4294967296)).bind fun t124 => ((bits_LeadingZeros32.f (Go.bits .xor .u32 4294967295 ((a1) % 4294967296))).bind fun t125 => ((bits_TrailingZeros32.f (Go.bits .xor .u32 4294967295 ((a1) % 4294967296))).bind fun t126 => (if t123 = 0 then (if (wrap64 (32 - t124)) = a2 then (some (Go.bits .or .i64 (Go.bits .or .i64 (Go.bits .or .i64 t125 (wrap64 ((wrap64 (32 - t126)) * 256))) (wrap64 (a0 * 65536))) (wrap64 (a2 * 16777216)))) else (some (Go.bits .or .i64 (Go.bits .or .i64 (Go.bits .or .i64 (wrap64 (32 - t124)) (wrap64 (t123 * 256))) (wrap64 (a0 * 65536))) (wrap64 (a2 * 16777216))))) else (some (Go.bits .or .i64 (Go.bits .or .i64 (Go.bits .or .i64 (wrap64 (32 - t124)) (wrap64 (t123 * 256))) (wrap64 (a0 * 65536))) (wrap64 (a2 * 16777216)))))))) = some r := H
          have A9 := Aside0.mk A90
          clear A90
          replace H := Option.bind_eq_some_iff.mp H
          obtain ⟨t124, A100, H⟩ := H
          replace H : ((bits_LeadingZeros32.f (Go.bits .xor .u32 4294967295 ((a1) % 4294967296))).bind fun t125 => ((bits_TrailingZeros32.f (Go.bits .xor .u32 4294967295 ((a1) % 4294967296))).bind fun t126 => (if t123 = 0 then (if (wrap64 (32 - t124)) = a2 then (some (Go.bits .or .i64 (Go.bits .or .i64 (Go.bits .or .i64 t125 (wrap64 ((wrap64 (32 - t126)) * 256))) (wrap64 (a0 * 65536))) (wrap64 (a2 * 16777216)))) else (some (Go.bits .or .i64 (Go.bits .or .i64 (Go.bits .or .i64 (wrap64 (32 - t124)) (wrap64 (t123 * 256))) (wrap64 (a0 * 65536))) (wrap64 (a2 * 16777216))))) else (some (Go.bits .or .i64 (Go.bits .or .i64 (Go.bits .or .i64 (wrap64 (32 - t124)) (wrap64 (t123 * 256))) (wrap64 (a0 * 65536))) (wrap64 (a2 * 16777216))))))) = some r := H
          have A10 := Aside0.mk A100
          clear A100
          replace H := Option.bind_eq_some_iff.mp H
          obtain ⟨t125, A110, H⟩ := H
          replace H : ((bits_TrailingZeros32.f (Go.bits .xor .u32 4294967295 ((a1) % 4294967296))).bind fun t126 => (if t123 = 0 then (if (wrap64 (32 - t124)) = a2 then (some (Go.bits .or .i64 (Go.bits .or .i64 (Go.bits .or .i64 t125 (wrap64 ((wrap64 (32 - t126)) * 256))) (wrap64 (a0 * 65536))) (wrap64 (a2 * 16777216)))) else (some (Go.bits .or .i64 (Go.bits .or .i64 (Go.bits .or .i64 (wrap64 (32 - t124)) (wrap64 (t123 * 256))) (wrap64 (a0 * 65536))) (wrap64 (a2 * 16777216))))) else (some (Go.bits .or .i64 (Go.bits .or .i64 (Go.bits .or .i64 (wrap64 (32 - t124)) (wrap64 (t123 * 256))) (wrap64 (a0 * 65536))) (wrap64 (a2 * 16777216)))))) = some r := H
          have A11 := Aside0.mk A110
          clear A110
          replace H := Option.bind_eq_some_iff.mp H
          obtain ⟨t126, A120, H⟩ := H
          replace H : (if t123 = 0 then (if (wrap64 (32 - t124)) = a2 then (some (Go.bits .or .i64 (Go.bits .or .i64 (Go.bits .or .i64 t125 (wrap64 ((wrap64 (32 - t126)) * 256))) (wrap64 (a0 * 65536))) (wrap64 (a2 * 16777216)))) else (some (Go.bits .or .i64 (Go.bits .or .i64 (Go.bits .or .i64 (wrap64 (32 - t124)) (wrap64 (t123 * 256))) (wrap64 (a0 * 65536))) (wrap64 (a2 * 16777216))))) else (some (Go.bits .or .i64 (Go.bits .or .i64 (Go.bits .or .i64 (wrap64 (32 - t124)) (wrap64 (t123 * 256))) (wrap64 (a0 * 65536))) (wrap64 (a2 * 16777216))))) = some r := H
          have A12 := Aside0.mk A120
          clear A120
          by_cases c13 : t123 = 0
          · rw [if_pos c13] at H
            have c13b0 : (t123 == 0) = true := beq_iff_eq.mpr c13
            have c13b1 : (t123 != 0) = false := bne_eq_false_iff_eq.mpr c13
            clear c13
            by_cases c14 : (wrap64 (32 - t124)) = a2
            · rw [if_pos c14] at H
              have c14b0 : ((wrap64 (32 - t124)) == a2) = true := beq_iff_eq.mpr c14
              have c14b1 : ((wrap64 (32 - t124)) != a2) = false := bne_eq_false_iff_eq.mpr c14
              clear c14
              obtain rfl := Option.some.inj H
              go_wp2_with (first | ((with_reducible refine gate_callee (f := 57) rfl ?_); refine goesL_ (some 28) rfl rfl Tryd.func57 (by kernel_rfl) rfl #[.int .u32 ((a1) % 4294967296)] rfl (by (try simp only [List.map_toArray, List.map_cons, List.map_nil]); first | done | rfl | (simp only [List.length_drop, List.length_take]; rfl)) ?_; (with_reducible refine (bits_LeadingZeros32.calls ((a1) % 4294967296) t123 _ A9.out).mono ?_); rintro e w' ⟨rfl, ⟨nd, rfl⟩⟩; refine ⟨_, rfl, ?_⟩) | ((with_reducible refine gate_callee (f := 58) rfl ?_); refine goesL_ (some 31) rfl rfl Tryd.func58 (by kernel_rfl) rfl #[.int .u32 ((a1) % 4294967296)] rfl (by (try simp only [List.map_toArray, List.map_cons, List.map_nil]); first | done | rfl | (simp only [List.length_drop, List.length_take]; rfl)) ?_; (with_reducible refine (bits_TrailingZeros32.calls ((a1) % 4294967296) t124 _ (by first | exact hT | exact hT.drewN _ | exact (hT.drewN _).drewN _ | exact ((hT.drewN _).drewN _).drewN _ | exact hT.below HB.out | exact (hT.below HB.out).drewN _ | exact ((hT.below HB.out).drewN _).drewN _) A10.out).mono ?_); rintro e w' ⟨rfl, ⟨nd, rfl⟩⟩; refine ⟨_, rfl, ?_⟩) | ((with_reducible refine gate_callee (f := 57) rfl ?_); refine goesL_ (some 36) rfl rfl Tryd.func57 (by kernel_rfl) rfl #[.int .u32 (Go.bits .xor .u32 4294967295 ((a1) % 4294967296))] rfl (by (try simp only [List.map_toArray, List.map_cons, List.map_nil]); first | done | rfl | (simp only [List.length_drop, List.length_take]; rfl)) ?_; (with_reducible refine (bits_LeadingZeros32.calls (Go.bits .xor .u32 4294967295 ((a1) % 4294967296)) t125 _ A11.out).mono ?_); rintro e w' ⟨rfl, ⟨nd, rfl⟩⟩; refine ⟨_, rfl, ?_⟩) | ((with_reducible refine gate_callee (f := 58) rfl ?_); refine goesL_ (some 40) rfl rfl Tryd.func58 (by kernel_rfl) rfl #[.int .u32 (Go.bits .xor .u32 4294967295 ((a1) % 4294967296))] rfl (by (try simp only [List.map_toArray, List.map_cons, List.map_nil]); first | done | rfl | (simp only [List.length_drop, List.length_take]; rfl)) ?_; (with_reducible refine (bits_TrailingZeros32.calls (Go.bits .xor .u32 4294967295 ((a1) % 4294967296)) t126 _ (by first | exact hT | exact hT.drewN _ | exact (hT.drewN _).drewN _ | exact ((hT.drewN _).drewN _).drewN _ | exact hT.below HB.out | exact (hT.below HB.out).drewN _ | exact ((hT.below HB.out).drewN _).drewN _) A12.out).mono ?_); rintro e w' ⟨rfl, ⟨nd, rfl⟩⟩; refine ⟨_, rfl, ?_⟩))
              go_ret
              exact ⟨by first | rfl | (simp; done) | (simp [*]; done), by repeat (first | exact Drawn0.refl _ | apply Drawn0.step)⟩
            · rw [if_neg c14] at H
              have c14b0 : ((wrap64 (32 - t124)) == a2) = false := beq_eq_false_iff_ne.mpr c14
              have c14b1 : ((wrap64 (32 - t124)) != a2) = true := bne_iff_ne.mpr c14
              obtain rfl := Option.some.inj H
              go_wp2_with (first | ((with_reducible refine gate_callee (f := 57) rfl ?_); refine goesL_ (some 28) rfl rfl Tryd.func57 (by kernel_rfl) rfl #[.int .u32 ((a1) % 4294967296)] rfl (by (try simp only [List.map_toArray, List.map_cons, List.map_nil]); first | done | rfl | (simp only [List.length_drop, List.length_take]; rfl)) ?_; (with_reducible refine (bits_LeadingZeros32.calls ((a1) % 4294967296) t123 _ A9.out).mono ?_); rintro e w' ⟨rfl, ⟨nd, rfl⟩⟩; refine ⟨_, rfl, ?_⟩) | ((with_reducible refine gate_callee (f := 58) rfl ?_); refine goesL_ (some 31) rfl rfl Tryd.func58 (by kernel_rfl) rfl #[.int .u32 ((a1) % 4294967296)] rfl (by (try simp only [List.map_toArray, List.map_cons, List.map_nil]); first | done | rfl | (simp only [List.length_drop, List.length_take]; rfl)) ?_; (with_reducible refine (bits_TrailingZeros32.calls ((a1) % 4294967296) t124 _ (by first | exact hT | exact hT.drewN _ | exact (hT.drewN _).drewN _ | exact ((hT.drewN _).drewN _).drewN _ | exact hT.below HB.out | exact (hT.below HB.out).drewN _ | exact ((hT.below HB.out).drewN _).drewN _) A10.out).mono ?_); rintro e w' ⟨rfl, ⟨nd, rfl⟩⟩; refine ⟨_, rfl, ?_⟩) | ((with_reducible refine gate_callee (f := 57) rfl ?_); refine goesL_ (some 36) rfl rfl Tryd.func57 (by kernel_rfl) rfl #[.int .u32 (Go.bits .xor .u32 4294967295 ((a1) % 4294967296))] rfl (by (try simp only [List.map_toArray, List.map_cons, List.map_nil]); first | done | rfl | (simp only [List.length_drop, List.length_take]; rfl)) ?_; (with_reducible refine (bits_LeadingZeros32.calls (Go.bits .xor .u32 4294967295 ((a1) % 4294967296)) t125 _ A11.out).mono ?_); rintro e w' ⟨rfl, ⟨nd, rfl⟩⟩; refine ⟨_, rfl, ?_⟩) | ((with_reducible refine gate_callee (f := 58) rfl ?_); refine goesL_ (some 40) rfl rfl Tryd.func58 (by kernel_rfl) rfl #[.int .u32 (Go.bits .xor .u32 4294967295 ((a1) % 4294967296))] rfl (by (try simp only [List.map_toArray, List.map_cons, List.map_nil]); first | done | rfl | (simp only [List.length_drop, List.length_take]; rfl)) ?_; (with_reducible refine (bits_TrailingZeros32.calls (Go.bits .xor .u32 4294967295 ((a1) % 4294967296)) t126 _ (by first | exact hT | exact hT.drewN _ | exact (hT.drewN _).drewN _ | exact ((hT.drewN _).drewN _).drewN _ | exact hT.below HB.out | exact (hT.below HB.out).drewN _ | exact ((hT.below HB.out).drewN _).drewN _) A12.out).mono ?_); rintro e w' ⟨rfl, ⟨nd, rfl⟩⟩; refine ⟨_, rfl, ?_⟩))
              go_ret
              exact ⟨by first | rfl | (simp; done) | (simp [*]; done), by repeat (first | exact Drawn0.refl _ | apply Drawn0.step)⟩
          · rw [if_neg c13] at H
            have c13b0 : (t123 == 0) = false := beq_eq_false_iff_ne.mpr c13
            have c13b1 : (t123 != 0) = true := bne_iff_ne.mpr c13
            obtain rfl := Option.some.inj H
            go_wp2_with (first | ((with_reducible refine gate_callee (f := 57) rfl ?_); refine goesL_ (some 28) rfl rfl Tryd.func57 (by kernel_rfl) rfl #[.int .u32 ((a1) % 4294967296)] rfl (by (try simp only [List.map_toArray, List.map_cons, List.map_nil]); first | done | rfl | (simp only [List.length_drop, List.length_take]; rfl)) ?_; (with_reducible refine (bits_LeadingZeros32.calls ((a1) % 4294967296) t123 _ A9.out).mono ?_); rintro e w' ⟨rfl, ⟨nd, rfl⟩⟩; refine ⟨_, rfl, ?_⟩) | ((with_reducible refine gate_callee (f := 58) rfl ?_); refine goesL_ (some 31) rfl rfl Tryd.func58 (by kernel_rfl) rfl #[.int .u32 ((a1) % 4294967296)] rfl (by (try simp only [List.map_toArray, List.map_cons, List.map_nil]); first | done | rfl | (simp only [List.length_drop, List.length_take]; rfl)) ?_; (with_reducible refine (bits_TrailingZeros32.calls ((a1) % 4294967296) t124 _ (by first | exact hT | exact hT.drewN _ | exact (hT.drewN _).drewN _ | exact ((hT.drewN _).drewN _).drewN _ | exact hT.below HB.out | exact (hT.below HB.out).drewN _ | exact ((hT.below HB.out).drewN _).drewN _) A10.out).mono ?_); rintro e w' ⟨rfl, ⟨nd, rfl⟩⟩; refine ⟨_, rfl, ?_⟩) | ((with_reducible refine gate_callee (f := 57) rfl ?_); refine goesL_ (some 36) rfl rfl Tryd.func57 (by kernel_rfl) rfl #[.int .u32 (Go.bits .xor .u32 4294967295 ((a1) % 4294967296))] rfl (by (try simp only [List.map_toArray, List.map_cons, List.map_nil]); first | done | rfl | (simp only [List.length_drop, List.length_take]; rfl)) ?_; (with_reducible refine (bits_LeadingZeros32.calls (Go.bits .xor .u32 4294967295 ((a1) % 4294967296)) t125 _ A11.out).mono ?_); rintro e w' ⟨rfl, ⟨nd, rfl⟩⟩; refine ⟨_, rfl, ?_⟩) | ((with_reducible refine gate_callee (f := 58) rfl ?_); refine goesL_ (some 40) rfl rfl Tryd.func58 (by kernel_rfl) rfl #[.int .u32 (Go.bits .xor .u32 4294967295 ((a1) % 4294967296))] rfl (by (try simp only [List.map_toArray, List.map_cons, List.map_nil]); first | done | rfl | (simp only [List.length_drop, List.length_take]; rfl)) ?_; (with_reducible refine (bits_TrailingZeros32.calls (Go.bits .xor .u32 4294967295 ((a1) % 4294967296)) t126 _ (by first | exact hT | exact hT.drewN _ | exact (hT.drewN _).drewN _ | exact ((hT.drewN _).drewN _).drewN _ | exact hT.below HB.out | exact (hT.below HB.out).drewN _ | exact ((hT.below HB.out).drewN _).drewN _) A12.out).mono ?_); rintro e w' ⟨rfl, ⟨nd, rfl⟩⟩; refine ⟨_, rfl, ?_⟩))
            go_ret
            exact ⟨by first | rfl | (simp; done) | (simp [*]; done), by repeat (first | exact Drawn0.refl _ | apply Drawn0.step)⟩
        · rw [if_neg c8] at H
          have c8b0 : (a2 == 32) = false := beq_eq_false_iff_ne.mpr c8
          have c8b1 : (a2 != 32) = true := bne_iff_ne.mpr c8
          replace H := Option.bind_eq_some_iff.mp H
          obtain ⟨t127, A150, H⟩ := H
          replace H : ((bits_TrailingZeros64.f (IntKind.u64.wrap (a1))).bind fun t128 => ((bits_LeadingZeros64.f (Go.bits .xor .u64 18446744073709551615 (IntKind.u64.wrap (a1)))).bind fun t129 => ((bits_TrailingZeros64.f (Go.bits .xor .u64 18446744073709551615 (IntKind.u64.wrap (a1)))).bind fun t130 => (if t127 = 0 then (if (wrap64 (64 - t128)) = a2 then (some (Go.bits .or .i64 (Go.bits .or .i64 (Go.bits .or .i64 t129 (wrap64 ((wrap64 (64 - t130)) * 256))) (wrap64 (a0 * 65536))) (wrap64 (a2 * 16777216)))) else (some (Go.bits .or .i64 (Go.bits .or .i64 (Go.bits .or .i64 (wrap64 (64 - t128)) (wrap64 (t127 * 256))) (wrap64 (a0 * 65536))) (wrap64 (a2 * 16777216))))) else (some (Go.bits .or .i64 (Go.bits .or .i64 (Go.bits .or .i64 (wrap64 (64 - t128)) (wrap64 (t127 * 256))) (wrap64 (a0 * 65536))) (wrap64 (a2 * 16777216)))))))) = some r := H
          have A15 := Aside0.mk A150
          clear A150
          replace H := Option.bind_eq_some_iff.mp H
          obtain ⟨t128, A160, H⟩ := H
          replace H : ((bits_LeadingZeros64.f (Go.bits .xor .u64 18446744073709551615 (IntKind.u64.wrap (a1)))).bind fun t129 => ((bits_TrailingZeros64.f (Go.bits .xor .u64 18446744073709551615 (IntKind.u64.wrap (a1)))).bind fun t130 => (if t127 = 0 then (if (wrap64 (64 - t128)) = a2 then (some (Go.bits .or .i64 (Go.bits .or .i64 (Go.bits .or .i64 t129 (wrap64 ((wrap64 (64 - t130)) * 256))) (wrap64 (a0 * 65536))) (wrap64 (a2 * 16777216)))) else (some (Go.bits .or .i64 (Go.bits .or .i64 (Go.bits .or .i64 (wrap64 (64 - t128)) (wrap64 (t127 * 256))) (wrap64 (a0 * 65536))) (wrap64 (a2 * 16777216))))) else (some (Go.bits .or .i64 (Go.bits .or .i64 (Go.bits .or .i64 (wrap64 (64 - t128)) (wrap64 (t127 * 256))) (wrap64 (a0 * 65536))) (wrap64 (a2 * 16777216))))))) = some r := H
          have A16 := Aside0.mk A160
          clear A160
          replace H := Option.bind_eq_some_iff.mp H
          obtain ⟨t129, A170, H⟩ := H
          replace H : ((bits_TrailingZeros64.f (Go.bits .xor .u64 18446744073709551615 (IntKind.u64.wrap (a1)))).bind fun t130 => (if t127 = 0 then (if (wrap64 (64 - t128)) = a2 then (some (Go.bits .or .i64 (Go.bits .or .i64 (Go.bits .or .i64 t129 (wrap64 ((wrap64 (64 - t130)) * 256))) (wrap64 (a0 * 65536))) (wrap64 (a2 * 16777216)))) else (some (Go.bits .or .i64 (Go.bits .or .i64 (Go.bits .or .i64 (wrap64 (64 - t128)) (wrap64 (t127 * 256))) (wrap64 (a0 * 65536))) (wrap64 (a2 * 16777216))))) else (some (Go.bits .or .i64 (Go.bits .or .i64 (Go.bits .or .i64 (wrap64 (64 - t128)) (wrap64 (t127 * 256))) (wrap64 (a0 * 65536))) (wrap64 (a2 * 16777216)))))) = some r := H
          have A17 := Aside0.mk A170
          clear A170
          replace H := Option.bind_eq_some_iff.mp H
          obtain ⟨t130, A180, H⟩ := H
          replace H : (if t127 = 0 then (if (wrap64 (64 - t128)) = a2 then (some (Go.bits .or .i64 (Go.bits .or .i64 (Go.bits .or .i64 t129 (wrap64 ((wrap64 (64 - t130)) * 256))) (wrap64 (a0 * 65536))) (wrap64 (a2 * 16777216)))) else (some (Go.bits .or .i64 (Go.bits .or .i64 (Go.bits .or .i64 (wrap64 (64 - t128)) (wrap64 (t127 * 256))) (wrap64 (a0 * 65536))) (wrap64 (a2 * 16777216))))) else (some (Go.bits .or .i64 (Go.bits .or .i64 (Go.bits .or .i64 (wrap64 (64 - t128)) (wrap64 (t127 * 256))) (wrap64 (a0 * 65536))) (wrap64 (a2 * 16777216))))) = some r := H
          have A18 := Aside0.mk A180
          clear A180
          by_cases c19 : t127 = 0
          · rw [if_pos c19] at H
            have c19b0 : (t127 == 0) = true := beq_iff_eq.mpr c19
            have c19b1 : (t127 != 0) = false := bne_eq_false_iff_eq.mpr c19
            clear c19
            by_cases c20 : (wrap64 (64 - t128)) = a2
            · rw [if_pos c20] at H
              have c20b0 : ((wrap64 (64 - t128)) == a2) = true := beq_iff_eq.mpr c20
              have c20b1 : ((wrap64 (64 - t128)) != a2) = false := bne_eq_false_iff_eq.mpr c20
              clear c20
              obtain rfl := Option.some.inj H
              go_wp2_with (first | ((with_reducible refine gate_callee (f := 59) rfl ?_); refine goesL_ (some 44) rfl rfl Tryd.func59 (by kernel_rfl) rfl #[.int .u64 (IntKind.u64.wrap (a1))] rfl (by (try simp only [List.map_toArray, List.map_cons, List.map_nil]); first | done | rfl | (simp only [List.length_drop, List.length_take]; rfl)) ?_; (with_reducible refine (bits_LeadingZeros64.calls (IntKind.u64.wrap (a1)) t127 _ A15.out).mono ?_); rintro e w' ⟨rfl, ⟨nd, rfl⟩⟩; refine ⟨_, rfl, ?_⟩) | ((with_reducible refine gate_callee (f := 60) rfl ?_); refine goesL_ (some 47) rfl rfl Tryd.func60 (by kernel_rfl) rfl #[.int .u64 (IntKind.u64.wrap (a1))] rfl (by (try simp only [List.map_toArray, List.map_cons, List.map_nil]); first | done | rfl | (simp only [List.length_drop, List.length_take]; rfl)) ?_; (with_reducible refine (bits_TrailingZeros64.calls (IntKind.u64.wrap (a1)) t128 _ (by first | exact hT | exact hT.drewN _ | exact (hT.drewN _).drewN _ | exact ((hT.drewN _).drewN _).drewN _ | exact hT.below HB.out | exact (hT.below HB.out).drewN _ | exact ((hT.below HB.out).drewN _).drewN _) A16.out).mono ?_); rintro e w' ⟨rfl, ⟨nd, rfl⟩⟩; refine ⟨_, rfl, ?_⟩) | ((with_reducible refine gate_callee (f := 59) rfl ?_); refine goesL_ (some 52) rfl rfl Tryd.func59 (by kernel_rfl) rfl #[.int .u64 (Go.bits .xor .u64 18446744073709551615 (IntKind.u64.wrap (a1)))] rfl (by (try simp only [List.map_toArray, List.map_cons, List.map_nil]); first | done | rfl | (simp only [List.length_drop, List.length_take]; rfl)) ?_; (with_reducible refine (bits_LeadingZeros64.calls (Go.bits .xor .u64 18446744073709551615 (IntKind.u64.wrap (a1))) t129 _ A17.out).mono ?_); rintro e w' ⟨rfl, ⟨nd, rfl⟩⟩; refine ⟨_, rfl, ?_⟩) | ((with_reducible refine gate_callee (f := 60) rfl ?_); refine goesL_ (some 56) rfl rfl Tryd.func60 (by kernel_rfl) rfl #[.int .u64 (Go.bits .xor .u64 18446744073709551615 (IntKind.u64.wrap (a1)))] rfl (by (try simp only [List.map_toArray, List.map_cons, List.map_nil]); first | done | rfl | (simp only [List.length_drop, List.length_take]; rfl)) ?_; (with_reducible refine (bits_TrailingZeros64.calls (Go.bits .xor .u64 18446744073709551615 (IntKind.u64.wrap (a1))) t130 _ (by first | exact hT | exact hT.drewN _ | exact (hT.drewN _).drewN _ | exact ((hT.drewN _).drewN _).drewN _ | exact hT.below HB.out | exact (hT.below HB.out).drewN _ | exact ((hT.below HB.out).drewN _).drewN _) A18.out).mono ?_); rintro e w' ⟨rfl, ⟨nd, rfl⟩⟩; refine ⟨_, rfl, ?_⟩))
              go_ret
              exact ⟨by first | rfl | (simp; done) | (simp [*]; done), by repeat (first | exact Drawn0.refl _ | apply Drawn0.step)⟩
            · rw [if_neg c20] at H
              have c20b0 : ((wrap64 (64 - t128)) == a2) = false := beq_eq_false_iff_ne.mpr c20
              have c20b1 : ((wrap64 (64 - t128)) != a2) = true := bne_iff_ne.mpr c20
              obtain rfl := Option.some.inj H
              go_wp2_with (first | ((with_reducible refine gate_callee (f := 59) rfl ?_); refine goesL_ (some 44) rfl rfl Tryd.func59 (by kernel_rfl) rfl #[.int .u64 (IntKind.u64.wrap (a1))] rfl (by (try simp only [List.map_toArray, List.map_cons, List.map_nil]); first | done | rfl | (simp only [List.length_drop, List.length_take]; rfl)) ?_; (with_reducible refine (bits_LeadingZeros64.calls (IntKind.u64.wrap (a1)) t127 _ A15.out).mono ?_); rintro e w' ⟨rfl, ⟨nd, rfl⟩⟩; refine ⟨_, rfl, ?_⟩) | ((with_reducible refine gate_callee (f := 60) rfl ?_); refine goesL_ (some 47) rfl rfl Tryd.func60 (by kernel_rfl) rfl #[.int .u64 (IntKind.u64.wrap (a1))] rfl (by (try simp only [List.map_toArray, List.map_cons, List.map_nil]); first | done | rfl | (simp only [List.length_drop, List.length_take]; rfl)) ?_; (with_reducible refine (bits_TrailingZeros64.calls (IntKind.u64.wrap (a1)) t128 _ (by first | exact hT | exact hT.drewN _ | exact (hT.drewN _).drewN _ | exact ((hT.drewN _).drewN _).drewN _ | exact hT.below HB.out | exact (hT.below HB.out).drewN _ | exact ((hT.below HB.out).drewN _).drewN _) A16.out).mono ?_); rintro e w' ⟨rfl, ⟨nd, rfl⟩⟩; refine ⟨_, rfl, ?_⟩) | ((with_reducible refine gate_callee (f := 59) rfl ?_); refine goesL_ (some 52) rfl rfl Tryd.func59 (by kernel_rfl) rfl #[.int .u64 (Go.bits .xor .u64 18446744073709551615 (IntKind.u64.wrap (a1)))] rfl (by (try simp only [List.map_toArray, List.map_cons, List.map_nil]); first | done | rfl | (simp only [List.length_drop, List.length_take]; rfl)) ?_; (with_reducible refine (bits_LeadingZeros64.calls (Go.bits .xor .u64 18446744073709551615 (IntKind.u64.wrap (a1))) t129 _ A17.out).mono ?_); rintro e w' ⟨rfl, ⟨nd, rfl⟩⟩; refine ⟨_, rfl, ?_⟩) | ((with_reducible refine gate_callee (f := 60) rfl ?_); refine goesL_ (some 56) rfl rfl Tryd.func60 (by kernel_rfl) rfl #[.int .u64 (Go.bits .xor .u64 18446744073709551615 (IntKind.u64.wrap (a1)))] rfl (by (try simp only [List.map_toArray, List.map_cons, List.map_nil]); first | done | rfl | (simp only [List.length_drop, List.length_take]; rfl)) ?_; (with_reducible refine (bits_TrailingZeros64.calls (Go.bits .xor .u64 18446744073709551615 (IntKind.u64.wrap (a1))) t130 _ (by first | exact hT | exact hT.drewN _ | exact (hT.drewN _).drewN _ | exact ((hT.drewN _).drewN _).drewN _ | exact hT.below HB.out | exact (hT.below HB.out).drewN _ | exact ((hT.below HB.out).drewN _).drewN _) A18.out).mono ?_); rintro e w' ⟨rfl, ⟨nd, rfl⟩⟩; refine ⟨_, rfl, ?_⟩))
              go_ret
              exact ⟨by first | rfl | (simp; done) | (simp [*]; done), by repeat (first | exact Drawn0.refl _ | apply Drawn0.step)⟩
          · rw [if_neg c19] at H
            have c19b0 : (t127 == 0) = false := beq_eq_false_iff_ne.mpr c19
            have c19b1 : (t127 != 0) = true := bne_iff_ne.mpr c19
            obtain rfl := Option.some.inj H
            go_wp2_with (first | ((with_reducible refine gate_callee (f := 59) rfl ?_); refine goesL_ (some 44) rfl rfl Tryd.func59 (by kernel_rfl) rfl #[.int .u64 (IntKind.u64.wrap (a1))] rfl (by (try simp only [List.map_toArray, List.map_cons, List.map_nil]); first | done | rfl | (simp only [List.length_drop, List.length_take]; rfl)) ?_; (with_reducible refine (bits_LeadingZeros64.calls (IntKind.u64.wrap (a1)) t127 _ A15.out).mono ?_); rintro e w' ⟨rfl, ⟨nd, rfl⟩⟩; refine ⟨_, rfl, ?_⟩) | ((with_reducible refine gate_callee (f := 60) rfl ?_); refine goesL_ (some 47) rfl rfl Tryd.func60 (by kernel_rfl) rfl #[.int .u64 (IntKind.u64.wrap (a1))] rfl (by (try simp only [List.map_toArray, List.map_cons, List.map_nil]); first | done | rfl | (simp only [List.length_drop, List.length_take]; rfl)) ?_; (with_reducible refine (bits_TrailingZeros64.calls (IntKind.u64.wrap (a1)) t128 _ (by first | exact hT | exact hT.drewN _ | exact (hT.drewN _).drewN _ | exact ((hT.drewN _).drewN _).drewN _ | exact hT.below HB.out | exact (hT.below HB.out).drewN _ | exact ((hT.below HB.out).drewN _).drewN _) A16.out).mono ?_); rintro e w' ⟨rfl, ⟨nd, rfl⟩⟩; refine ⟨_, rfl, ?_⟩) | ((with_reducible refine gate_callee (f := 59) rfl ?_); refine goesL_ (some 52) rfl rfl Tryd.func59 (by kernel_rfl) rfl #[.int .u64 (Go.bits .xor .u64 18446744073709551615 (IntKind.u64.wrap (a1)))] rfl (by (try simp only [List.map_toArray, List.map_cons, List.map_nil]); first | done | rfl | (simp only [List.length_drop, List.length_take]; rfl)) ?_; (with_reducible refine (bits_LeadingZeros64.calls (Go.bits .xor .u64 18446744073709551615 (IntKind.u64.wrap (a1))) t129 _ A17.out).mono ?_); rintro e w' ⟨rfl, ⟨nd, rfl⟩⟩; refine ⟨_, rfl, ?_⟩) | ((with_reducible refine gate_callee (f := 60) rfl ?_); refine goesL_ (some 56) rfl rfl Tryd.func60 (by kernel_rfl) rfl #[.int .u64 (Go.bits .xor .u64 18446744073709551615 (IntKind.u64.wrap (a1)))] rfl (by (try simp only [List.map_toArray, List.map_cons, List.map_nil]); first | done | rfl | (simp only [List.length_drop, List.length_take]; rfl)) ?_; (with_reducible refine (bits_TrailingZeros64.calls (Go.bits .xor .u64 18446744073709551615 (IntKind.u64.wrap (a1))) t130 _ (by first | exact hT | exact hT.drewN _ | exact (hT.drewN _).drewN _ | exact ((hT.drewN _).drewN _).drewN _ | exact hT.below HB.out | exact (hT.below HB.out).drewN _ | exact ((hT.below HB.out).drewN _).drewN _) A18.out).mono ?_); rintro e w' ⟨rfl, ⟨nd, rfl⟩⟩; refine ⟨_, rfl, ?_⟩))
            go_ret
            exact ⟨by first | rfl | (simp; done) | (simp [*]; done), by repeat (first | exact Drawn0.refl _ | apply Drawn0.step)⟩

attribute [local go_sem] signed_i64 signed_i32 signed_u32 max_u32 signed_u64 max_u64
/-! ### ssarewrite_ZZEncodePPC64RotateMask: function 31 -/
def ssarewrite_ZZEncodePPC64RotateMask.f (k : Nat) (a0 : Int) (a1 : Int) (a2 : Int) : Option (Int) := (ssarewrite_encodePPC64RotateMask.f k a0 a1 a2).bind fun t131 => (some t131)
theorem ssarewrite_ZZEncodePPC64RotateMask.mono : ∀ a0 a1 a2 k, LeO (ssarewrite_ZZEncodePPC64RotateMask.f k a0 a1 a2) (ssarewrite_ZZEncodePPC64RotateMask.f (k + 1) a0 a1 a2) := by
  intro a0 a1 a2 k
  unfold ssarewrite_ZZEncodePPC64RotateMask.f
  repeat' first
      | (with_reducible exact ssarewrite_encodePPC64RotateMask.mono _ _ _ _)
      | (with_reducible exact LeO.refl _)
      | (with_reducible exact LeO.none _)
      | (with_reducible refine LeO.ite ?_ ?_)
      | (with_reducible refine LeO.bind ?_ (fun _ => ?_))
      | exact ssarewrite_encodePPC64RotateMask.mono _ _ _ _
      | exact LeO.none _
      | refine LeO.ite ?_ ?_
      | refine LeO.bind ?_ (fun _ => ?_)
set_option maxHeartbeats 8000000 in
set_option maxRecDepth 100000 in
theorem ssarewrite_ZZEncodePPC64RotateMask.calls (k : Nat) (a0 : Int) (a1 : Int) (a2 : Int) (r : Int) (w : World) (hT : Tab0 w) (h : ssarewrite_ZZEncodePPC64RotateMask.f k a0 a1 a2 = some r) :
    Calls Tryd.prog 31 #[.int .i64 a0, .int .i64 a1, .int .i64 a2] w fun e w' => e = .returned (.int .i64 r) ∧ Drawn0 w w' := by
  have H : ((ssarewrite_encodePPC64RotateMask.f k a0 a1 a2).bind fun t131 => (some t131)) = some r := h
  clear h
  replace H := Option.bind_eq_some_iff.mp H
  obtain ⟨t131, A40, H⟩ := H
  replace H : (some t131) = some r := H
  have A4 := Aside0.mk A40
  clear A40
  obtain rfl := Option.some.inj H
  go_enter Tryd.func31, Tryd.ntmps31
  go_wp2_with (first | ((with_reducible refine gate_callee (f := 46) rfl ?_); refine goesL_ (some 10) rfl rfl Tryd.func46 (by kernel_rfl) rfl #[.int .i64 a0, .int .i64 a1, .int .i64 a2] rfl (by (try simp only [List.map_toArray, List.map_cons, List.map_nil]); first | done | rfl | (simp only [List.length_drop, List.length_take]; rfl)) ?_; (with_reducible refine (ssarewrite_encodePPC64RotateMask.calls k a0 a1 a2 t131 _ (by first | exact hT | exact hT.drewN _ | exact (hT.drewN _).drewN _ | exact ((hT.drewN _).drewN _).drewN _ | exact hT.below HB.out | exact (hT.below HB.out).drewN _ | exact ((hT.below HB.out).drewN _).drewN _) A4.out).mono ?_); rintro e w' ⟨rfl, ⟨nd, rfl⟩⟩; refine ⟨_, rfl, ?_⟩))
  go_ret
  exact ⟨by first | rfl | (simp; done) | (simp [*]; done), by repeat (first | exact Drawn0.refl _ | apply Drawn0.step)⟩

attribute [local go_sem] signed_i64 signed_i32 signed_u32 max_u32 signed_u64 max_u64
/-! ### impl_EncodeRotateMask: function 13 -/
def impl_EncodeRotateMask.f (k : Nat) (a0 : Int) (a1 : Int) (a2 : Int) : Option (Int) := (ssarewrite_ZZEncodePPC64RotateMask.f k a0 a1 a2).bind fun t132 => (some t132)
theorem impl_EncodeRotateMask.mono : ∀ a0 a1 a2 k, LeO (impl_EncodeRotateMask.f k a0 a1 a2) (impl_EncodeRotateMask.f (k + 1) a0 a1 a2) := by
  intro a0 a1 a2 k
  unfold impl_EncodeRotateMask.f
  repeat' first
      | (with_reducible exact ssarewrite_ZZEncodePPC64RotateMask.mono _ _ _ _)
      | (with_reducible exact LeO.refl _)
      | (with_reducible exact LeO.none _)
      | (with_reducible refine LeO.ite ?_ ?_)
      | (with_reducible refine LeO.bind ?_ (fun _ => ?_))
      | exact ssarewrite_ZZEncodePPC64RotateMask.mono _ _ _ _
      | exact LeO.none _
      | refine LeO.ite ?_ ?_
      | refine LeO.bind ?_ (fun _ => ?_)
set_option maxHeartbeats 8000000 in
set_option maxRecDepth 100000 in
theorem impl_EncodeRotateMask.calls (k : Nat) (a0 : Int) (a1 : Int) (a2 : Int) (r : Int) (w : World) (hT : Tab0 w) (h : impl_EncodeRotateMask.f k a0 a1 a2 = some r) :
    Calls Tryd.prog 13 #[.int .i64 a0, .int .i64 a1, .int .i64 a2] w fun e w' => e = .returned (.int .i64 r) ∧ Drawn0 w w' := by
  have H : ((ssarewrite_ZZEncodePPC64RotateMask.f k a0 a1 a2).bind fun t132 => (some t132)) = some r := h
  clear h
  replace H := Option.bind_eq_some_iff.mp H
  obtain ⟨t132, A40, H⟩ := H
  replace H : (some t132) = some r := H
  have A4 := Aside0.mk A40
  clear A40
  obtain rfl := Option.some.inj H
  go_enter Tryd.func13, Tryd.ntmps13
  go_wp2_with (first | ((with_reducible refine gate_callee (f := 31) rfl ?_); refine goesL_ (some 10) rfl rfl Tryd.func31 (by kernel_rfl) rfl #[.int .i64 a0, .int .i64 a1, .int .i64 a2] rfl (by (try simp only [List.map_toArray, List.map_cons, List.map_nil]); first | done | rfl | (simp only [List.length_drop, List.length_take]; rfl)) ?_; (with_reducible refine (ssarewrite_ZZEncodePPC64RotateMask.calls k a0 a1 a2 t132 _ (by first | exact hT | exact hT.drewN _ | exact (hT.drewN _).drewN _ | exact ((hT.drewN _).drewN _).drewN _ | exact hT.below HB.out | exact (hT.below HB.out).drewN _ | exact ((hT.below HB.out).drewN _).drewN _) A4.out).mono ?_); rintro e w' ⟨rfl, ⟨nd, rfl⟩⟩; refine ⟨_, rfl, ?_⟩))
  go_ret
  exact ⟨by first | rfl | (simp; done) | (simp [*]; done), by repeat (first | exact Drawn0.refl _ | apply Drawn0.step)⟩

attribute [local go_sem] signed_i64 signed_i32 signed_u32 max_u32 signed_u64 max_u64
/-! ### spec_Mask: function 16 -/
def spec_Mask.l0 : Nat → Int → Int → Int → Int → Option (Int)
  | 0, _, _, _, _ => none
  | k + 1, x1, x2, x7, x8 => if 0 ≤ (IntKind.u64.wrap ((IntKind.u64.wrap (x2 - 1)) - x8)) then (if x2 = 0 then (none) else (if x8 = (Int.tmod x1 x2) then (some (Go.bits .or .u64 x7 (shl .u64 1 (IntKind.u64.wrap ((IntKind.u64.wrap (x2 - 1)) - x8))))) else (spec_Mask.l0 k x1 x2 (Go.bits .or .u64 x7 (shl .u64 1 (IntKind.u64.wrap ((IntKind.u64.wrap (x2 - 1)) - x8)))) (Int.tmod (IntKind.u64.wrap (x8 + 1)) x2)))) else (none)
def spec_Mask.f (k : Nat) (a0 : Int) (a1 : Int) (a2 : Int) : Option (Int) := if a2 = 0 then (none) else (spec_Mask.l0 k a1 a2 0 (Int.tmod a0 a2))
theorem spec_Mask.mono_l : ∀ k, (∀ y0 y1 y2 y3, LeO (spec_Mask.l0 k y0 y1 y2 y3) (spec_Mask.l0 (k + 1) y0 y1 y2 y3))
  | 0 => fun _ _ _ _ r h => by simp [spec_Mask.l0] at h
  | k + 1 => by
    have ih0 := spec_Mask.mono_l k
    · intro y0 y1 y2 y3
      unfold spec_Mask.l0
      repeat' first
      | (with_reducible exact ih0 _ _ _ _)
      | (with_reducible exact LeO.refl _)
      | (with_reducible exact LeO.none _)
      | (with_reducible refine LeO.ite ?_ ?_)
      | (with_reducible refine LeO.bind ?_ (fun _ => ?_))
      | exact ih0 _ _ _ _
      | exact LeO.none _
      | refine LeO.ite ?_ ?_
      | refine LeO.bind ?_ (fun _ => ?_)
theorem spec_Mask.mono : ∀ a0 a1 a2 k, LeO (spec_Mask.f k a0 a1 a2) (spec_Mask.f (k + 1) a0 a1 a2) := by
  intro a0 a1 a2 k
  have ih0 := spec_Mask.mono_l k
  unfold spec_Mask.f
  repeat' first
      | (with_reducible exact ih0 _ _ _ _)
      | (with_reducible exact LeO.refl _)
      | (with_reducible exact LeO.none _)
      | (with_reducible refine LeO.ite ?_ ?_)
      | (with_reducible refine LeO.bind ?_ (fun _ => ?_))
      | exact ih0 _ _ _ _
      | exact LeO.none _
      | refine LeO.ite ?_ ?_
      | refine LeO.bind ?_ (fun _ => ?_)
set_option maxHeartbeats 8000000 in
set_option maxRecDepth 100000 in
theorem spec_Mask.calls (k : Nat) (a0 : Int) (a1 : Int) (a2 : Int) (r : Int) (w : World) (h : spec_Mask.f k a0 a1 a2 = some r) :
    Calls Tryd.prog 16 #[.int .u64 a0, .int .u64 a1, .int .u64 a2] w fun e w' => e = .returned (.int .u64 r) ∧ Drawn0 w w' := by
  have H : (if a2 = 0 then (none) else (spec_Mask.l0 k a1 a2 0 (Int.tmod a0 a2))) = some r := h
  clear h
  by_cases c4 : a2 = 0
  · rw [if_pos c4] at H
    exact absurd H (by simp)
  · rw [if_neg c4] at H
    have c4b0 : (a2 == 0) = false := beq_eq_false_iff_ne.mpr c4
    have c4b1 : (a2 != 0) = true := bne_iff_ne.mpr c4
    have H' := Aside0.mk H
    clear H
    go_enter Tryd.func16, Tryd.ntmps16
    go_wp2
    go_loopg [7, 8] k (fun kq v7 v8 w' => ∃ (x7_1 : Int) (x8_1 : Int), v7 = .int .u64 x7_1 ∧ v8 = .int .u64 x8_1 ∧ Aside0 (spec_Mask.l0 kq a1 a2 x7_1 x8_1 = some r) ∧ Aside0 (kq ≤ k) ∧ Drawn0 w w')
    case atStart => exact ⟨(0), (Int.tmod a0 a2), (by first | rfl | (simp; done) | (simp [*]; done)), (by first | rfl | (simp; done) | (simp [*]; done)), H', ⟨Nat.le_refl _⟩, by repeat (first | exact Drawn0.refl _ | apply Drawn0.step)⟩
    case round =>
      clear H'
      try clear c1
      try clear p2
      try clear c4
      try clear c4b0
      try clear c4b1
      obtain ⟨x7_1, x8_1, rfl, rfl, HA, HK1, ⟨m1, rfl⟩⟩ := hrel
      cases gk with
      | zero => exact absurd HA.out (by simp [spec_Mask.l0])
      | succ k1 =>
        have H := HA.out
        clear HA
        simp only [spec_Mask.l0] at H
        obtain ⟨ji5, hji5⟩ : ∃ j_ : Int, (IntKind.u64.wrap ((IntKind.u64.wrap (a2 - 1)) - x8_1)) = j_ := ⟨_, rfl⟩
        replace H : (if 0 ≤ (ji5) then (if a2 = 0 then (none) else (if x8_1 = (Int.tmod a1 a2) then (some (Go.bits .or .u64 x7_1 (shl .u64 1 (ji5)))) else (spec_Mask.l0 k1 a1 a2 (Go.bits .or .u64 x7_1 (shl .u64 1 (ji5))) (Int.tmod (IntKind.u64.wrap (x8_1 + 1)) a2)))) else (none)) = some r := by first | (rw [hji5] at H; exact H) | (simp only [hji5] at H ⊢; exact H)
        by_cases c6 : 0 ≤ (ji5)
        · rw [if_pos c6] at H
          have c6b0 := eq_true c6
          have c6b1 : decide (0 ≤ (ji5)) = true := decide_eq_true c6
          clear c6
          obtain ⟨ji7, hji7⟩ : ∃ j_ : Int, (shl .u64 1 (ji5)) = j_ := ⟨_, rfl⟩
          replace H : (if a2 = 0 then (none) else (if x8_1 = (Int.tmod a1 a2) then (some (Go.bits .or .u64 x7_1 (ji7))) else (spec_Mask.l0 k1 a1 a2 (Go.bits .or .u64 x7_1 (ji7)) (Int.tmod (IntKind.u64.wrap (x8_1 + 1)) a2)))) = some r := by first | (rw [hji7] at H; exact H) | (simp only [hji7] at H ⊢; exact H)
          have hji7_ : (IntKind.u64.wrap (1 * 2 ^ min (ji5).toNat 64)) = ji7 := hji7
          have hji7z : (ji5) ≤ 64 → (IntKind.u64.wrap (1 * 2 ^ (ji5).toNat)) = ji7 := shl_small hji7
          have hji7u : (IntKind.u64.wrap (2 ^ min (ji5).toNat 64)) = ji7 := by have h_ := hji7_; rw [Int.one_mul] at h_; exact h_
          have hji7v : (ji5) ≤ 64 → (IntKind.u64.wrap (2 ^ (ji5).toNat)) = ji7 := fun hle_ => by have h_ := hji7z hle_; rw [Int.one_mul] at h_; exact h_
          by_cases c8 : a2 = 0
          · rw [if_pos c8] at H
            exact absurd H (by simp)
          · rw [if_neg c8] at H
            have c8b0 : (a2 == 0) = false := beq_eq_false_iff_ne.mpr c8
            have c8b1 : (a2 != 0) = true := bne_iff_ne.mpr c8
            by_cases c9 : x8_1 = (Int.tmod a1 a2)
            · rw [if_pos c9] at H
              have c9b0 : (x8_1 == (Int.tmod a1 a2)) = true := beq_iff_eq.mpr c9
              have c9b1 : (x8_1 != (Int.tmod a1 a2)) = false := bne_eq_false_iff_eq.mpr c9
              clear c9
              obtain rfl := Option.some.inj H
              go_wp2
              go_ret
              exact ⟨by first | rfl | (simp; done) | (simp only [← hji5, ← hji7] <;> (first | rfl | simp)) | (simp [*]; done), by repeat (first | exact Drawn0.refl _ | apply Drawn0.step)⟩
            · rw [if_neg c9] at H
              have c9b0 : (x8_1 == (Int.tmod a1 a2)) = false := beq_eq_false_iff_ne.mpr c9
              have c9b1 : (x8_1 != (Int.tmod a1 a2)) = true := bne_iff_ne.mpr c9
              have H' := Aside0.mk H
              clear H
              go_wp2
              go_roundg k1
              case measure => have := HK1.out; omega
              case rel => exact ⟨(Go.bits .or .u64 x7_1 (ji7)), (Int.tmod (IntKind.u64.wrap (x8_1 + 1)) a2), (by first | rfl | (simp; done) | (simp only [← hji7] <;> (first | rfl | simp)) | (simp [*]; done)), (by first | rfl | (simp; done) | (simp [*]; done)), H', ⟨by have := HK1.out; omega⟩, by repeat (first | exact Drawn0.refl _ | apply Drawn0.step)⟩
        · rw [if_neg c6] at H
          exact absurd H (by simp)

attribute [local go_sem] signed_i64 signed_i32 signed_u32 max_u32 signed_u64 max_u64
/-! ### laws_mkMask: function 40 -/
def laws_mkMask.f (k : Nat) (a0 : Int) (a1 : Int) : Option (Int) := (laws_rwAt.f a0 32).bind fun t133 => ((laws_rwAt.f a1 32).bind fun t134 => ((spec_Mask.f k (mn (IntKind.u64.wrap (t133)) (IntKind.u64.wrap (t134))) (mx (IntKind.u64.wrap (t133)) (IntKind.u64.wrap (t134))) 32).bind fun t135 => (some t135)))
theorem laws_mkMask.mono : ∀ a0 a1 k, LeO (laws_mkMask.f k a0 a1) (laws_mkMask.f (k + 1) a0 a1) := by
  intro a0 a1 k
  unfold laws_mkMask.f
  repeat' first
      | (with_reducible exact spec_Mask.mono _ _ _ _)
      | (with_reducible exact LeO.refl _)
      | (with_reducible exact LeO.none _)
      | (with_reducible refine LeO.ite ?_ ?_)
      | (with_reducible refine LeO.bind ?_ (fun _ => ?_))
      | exact spec_Mask.mono _ _ _ _
      | exact LeO.none _
      | refine LeO.ite ?_ ?_
      | refine LeO.bind ?_ (fun _ => ?_)
set_option maxHeartbeats 8000000 in
set_option maxRecDepth 100000 in
theorem laws_mkMask.calls (k : Nat) (a0 : Int) (a1 : Int) (r : Int) (w : World) (h : laws_mkMask.f k a0 a1 = some r) :
    Calls Tryd.prog 40 #[.int .i64 a0, .int .i64 a1] w fun e w' => e = .returned (.int .u64 r) ∧ Below w.heap.size w w' := by
  have HB := Aside0.mk (Below.refl w.heap.size w)
  have H : ((laws_rwAt.f a0 32).bind fun t133 => ((laws_rwAt.f a1 32).bind fun t134 => ((spec_Mask.f k (mn (IntKind.u64.wrap (t133)) (IntKind.u64.wrap (t134))) (mx (IntKind.u64.wrap (t133)) (IntKind.u64.wrap (t134))) 32).bind fun t135 => (some t135)))) = some r := h
  clear h
  replace H := Option.bind_eq_some_iff.mp H
  obtain ⟨t133, A30, H⟩ := H
  replace H : ((laws_rwAt.f a1 32).bind fun t134 => ((spec_Mask.f k (mn (IntKind.u64.wrap (t133)) (IntKind.u64.wrap (t134))) (mx (IntKind.u64.wrap (t133)) (IntKind.u64.wrap (t134))) 32).bind fun t135 => (some t135))) = some r := H
  have A3 := Aside0.mk A30
  clear A30
  replace H := Option.bind_eq_some_iff.mp H
  obtain ⟨t134, A40, H⟩ := H
  replace H : ((spec_Mask.f k (mn (IntKind.u64.wrap (t133)) (IntKind.u64.wrap (t134))) (mx (IntKind.u64.wrap (t133)) (IntKind.u64.wrap (t134))) 32).bind fun t135 => (some t135)) = some r := H
  have A4 := Aside0.mk A40
  clear A40
  obtain ⟨ji5, hji5⟩ : ∃ j_ : Int, (mn (IntKind.u64.wrap (t133)) (IntKind.u64.wrap (t134))) = j_ := ⟨_, rfl⟩
  replace H : ((spec_Mask.f k (ji5) (mx (IntKind.u64.wrap (t133)) (IntKind.u64.wrap (t134))) 32).bind fun t135 => (some t135)) = some r := by first | (rw [hji5] at H; exact H) | (simp only [hji5] at H ⊢; exact H)
  (try rw [hji5] at A3)
  (try rw [hji5] at A4)
  have hji5_ : (if (IntKind.u64.wrap (t134)) < (IntKind.u64.wrap (t133)) then (IntKind.u64.wrap (t134)) else (IntKind.u64.wrap (t133))) = ji5 := hji5
  obtain ⟨ji6, hji6⟩ : ∃ j_ : Int, (mx (IntKind.u64.wrap (t133)) (IntKind.u64.wrap (t134))) = j_ := ⟨_, rfl⟩
  replace H : ((spec_Mask.f k (ji5) (ji6) 32).bind fun t135 => (some t135)) = some r := by first | (rw [hji6] at H; exact H) | (simp only [hji6] at H ⊢; exact H)
  (try rw [hji6] at A3)
  (try rw [hji6] at A4)
  have hji6_ : (if (IntKind.u64.wrap (t133)) < (IntKind.u64.wrap (t134)) then (IntKind.u64.wrap (t134)) else (IntKind.u64.wrap (t133))) = ji6 := hji6
  replace H := Option.bind_eq_some_iff.mp H
  obtain ⟨t135, A70, H⟩ := H
  replace H : (some t135) = some r := H
  have A7 := Aside0.mk A70
  clear A70
  obtain rfl := Option.some.inj H
  go_enter Tryd.func40, Tryd.ntmps40
  go_wp2_with (first | ((with_reducible refine gate_callee (f := 12) rfl ?_); refine goesL_ (some 8) rfl rfl Tryd.func12 (by kernel_rfl) rfl #[.int .i64 a0, .int .i64 32] rfl (by (try simp only [List.map_toArray, List.map_cons, List.map_nil]); first | done | rfl | (simp only [List.length_drop, List.length_take]; rfl)) ?_; (with_reducible refine (laws_rwAt.calls a0 32 t133 _ A3.out).mono ?_); rintro e w' ⟨rfl, ⟨nd, rfl⟩⟩; refine ⟨_, rfl, ?_⟩) | ((with_reducible refine gate_callee (f := 12) rfl ?_); refine goesL_ (some 11) rfl rfl Tryd.func12 (by kernel_rfl) rfl #[.int .i64 a1, .int .i64 32] rfl (by (try simp only [List.map_toArray, List.map_cons, List.map_nil]); first | done | rfl | (simp only [List.length_drop, List.length_take]; rfl)) ?_; (with_reducible refine (laws_rwAt.calls a1 32 t134 _ A4.out).mono ?_); rintro e w' ⟨rfl, ⟨nd, rfl⟩⟩; refine ⟨_, rfl, ?_⟩) | ((with_reducible refine gate_callee (f := 16) rfl ?_); refine goesL_ (some 19) rfl rfl Tryd.func16 (by kernel_rfl) rfl #[.int .u64 ji5, .int .u64 ji6, .int .u64 32] rfl (by (try simp only [List.map_toArray, List.map_cons, List.map_nil]); first | done | (simp only [hji5, hji6]; rfl) | rfl | (simp only [List.length_drop, List.length_take]; rfl)) ?_; (with_reducible refine (spec_Mask.calls k ji5 ji6 32 t135 _ A7.out).mono ?_); rintro e w' ⟨rfl, ⟨nd, rfl⟩⟩; refine ⟨_, rfl, ?_⟩))
  go_ret
  exact ⟨by first | rfl | (simp [errW_none, errW_some] <;> rfl) | (simp only [← hji5, ← hji6]; first | rfl | (simp [errW_none, errW_some] <;> rfl)) | (simp [*, errW_none, errW_some] <;> rfl), by repeat (first | (with_reducible first | exact HB.out | apply below_alloc | apply pw_below_drewN | apply below_drew1) | exact HB.out)⟩

attribute [local go_sem] signed_i64 signed_i32 signed_u32 max_u32 signed_u64 max_u64
/-! ### laws_mkCode: function 24 -/
def laws_mkCode.f (k : Nat) (a0 : Int) (a1 : Int) (a2 : Int) : Option (Int) := (laws_rwAt.f a0 32).bind fun t136 => ((laws_mkMask.f k a1 a2).bind fun t137 => ((impl_EncodeRotateMask.f k t136 (wrap64 (t137)) 32).bind fun t138 => (some t138)))
theorem laws_mkCode.mono : ∀ a0 a1 a2 k, LeO (laws_mkCode.f k a0 a1 a2) (laws_mkCode.f (k + 1) a0 a1 a2) := by
  intro a0 a1 a2 k
  unfold laws_mkCode.f
  repeat' first
      | (with_reducible exact impl_EncodeRotateMask.mono _ _ _ _)
      | (with_reducible exact laws_mkMask.mono _ _ _)
      | (with_reducible exact LeO.refl _)
      | (with_reducible exact LeO.none _)
      | (with_reducible refine LeO.ite ?_ ?_)
      | (with_reducible refine LeO.bind ?_ (fun _ => ?_))
      | exact impl_EncodeRotateMask.mono _ _ _ _
      | exact laws_mkMask.mono _ _ _
      | exact LeO.none _
      | refine LeO.ite ?_ ?_
      | refine LeO.bind ?_ (fun _ => ?_)
set_option maxHeartbeats 8000000 in
set_option maxRecDepth 100000 in
theorem laws_mkCode.calls (k : Nat) (a0 : Int) (a1 : Int) (a2 : Int) (r : Int) (w : World) (hT : Tab0 w) (h : laws_mkCode.f k a0 a1 a2 = some r) :
    Calls Tryd.prog 24 #[.int .i64 a0, .int .i64 a1, .int .i64 a2] w fun e w' => e = .returned (.int .i64 r) ∧ Below w.heap.size w w' := by
  have HB := Aside0.mk (Below.refl w.heap.size w)
  have H : ((laws_rwAt.f a0 32).bind fun t136 => ((laws_mkMask.f k a1 a2).bind fun t137 => ((impl_EncodeRotateMask.f k t136 (wrap64 (t137)) 32).bind fun t138 => (some t138)))) = some r := h
  clear h
  replace H := Option.bind_eq_some_iff.mp H
  obtain ⟨t136, A40, H⟩ := H
  replace H : ((laws_mkMask.f k a1 a2).bind fun t137 => ((impl_EncodeRotateMask.f k t136 (wrap64 (t137)) 32).bind fun t138 => (some t138))) = some r := H
  have A4 := Aside0.mk A40
  clear A40
  replace H := Option.bind_eq_some_iff.mp H
  obtain ⟨t137, A50, H⟩ := H
  replace H : ((impl_EncodeRotateMask.f k t136 (wrap64 (t137)) 32).bind fun t138 => (some t138)) = some r := H
  have A5 := Aside0.mk A50
  clear A50
  replace H := Option.bind_eq_some_iff.mp H
  obtain ⟨t138, A60, H⟩ := H
  replace H : (some t138) = some r := H
  have A6 := Aside0.mk A60
  clear A60
  obtain rfl := Option.some.inj H
  go_enter Tryd.func24, Tryd.ntmps24
  go_wp2_with (first | ((with_reducible refine gate_callee (f := 12) rfl ?_); refine goesL_ (some 8) rfl rfl Tryd.func12 (by kernel_rfl) rfl #[.int .i64 a0, .int .i64 32] rfl (by (try simp only [List.map_toArray, List.map_cons, List.map_nil]); first | done | rfl | (simp only [List.length_drop, List.length_take]; rfl)) ?_; (with_reducible refine (laws_rwAt.calls a0 32 t136 _ A4.out).mono ?_); rintro e w' ⟨rfl, ⟨nd, rfl⟩⟩; refine ⟨_, rfl, ?_⟩) | ((with_reducible refine gate_callee (f := 40) rfl ?_); refine goesL_ (some 11) rfl rfl Tryd.func40 (by kernel_rfl) rfl #[.int .i64 a1, .int .i64 a2] rfl (by (try simp only [List.map_toArray, List.map_cons, List.map_nil]); first | done | rfl | (simp only [List.length_drop, List.length_take]; rfl)) ?_; (with_reducible refine (laws_mkMask.calls k a1 a2 t137 _ A5.out).mono ?_); rintro e w7 ⟨rfl, hb⟩; refine ⟨_, rfl, ?_⟩; have n0_ := Aside0.mk (below_step (by repeat (first | (with_reducible first | exact HB.out | apply below_alloc | apply pw_below_drewN | apply below_drew1) | exact HB.out)) hb); clear HB; have HB := n0_; clear n0_; (try clear hb); (try clear hb2); (try clear hk); (try clear hi)) | ((with_reducible refine gate_callee (f := 13) rfl ?_); refine goesL_ (some 13) rfl rfl Tryd.func13 (by kernel_rfl) rfl #[.int .i64 t136, .int .i64 (wrap64 (t137)), .int .i64 32] rfl (by (try simp only [List.map_toArray, List.map_cons, List.map_nil]); first | done | rfl | (simp only [List.length_drop, List.length_take]; rfl)) ?_; (with_reducible refine (impl_EncodeRotateMask.calls k t136 (wrap64 (t137)) 32 t138 _ (by first | exact hT | exact hT.drewN _ | exact (hT.drewN _).drewN _ | exact ((hT.drewN _).drewN _).drewN _ | exact hT.below HB.out | exact (hT.below HB.out).drewN _ | exact ((hT.below HB.out).drewN _).drewN _) A6.out).mono ?_); rintro e w' ⟨rfl, ⟨nd, rfl⟩⟩; refine ⟨_, rfl, ?_⟩))
  go_ret
  exact ⟨by first | rfl | (simp [errW_none, errW_some] <;> rfl) | (simp [*, errW_none, errW_some] <;> rfl), by repeat (first | (with_reducible first | exact HB.out | apply below_alloc | apply pw_below_drewN | apply below_drew1) | exact HB.out)⟩

attribute [local go_sem] signed_i64 signed_i32 signed_u32 max_u32 signed_u64 max_u64
/-! ### ssarewrite_GetPPC64Shiftmb: function 62 -/
def ssarewrite_GetPPC64Shiftmb.f (a0 : Int) : Option (Int) := some (wrap64 (IntKind.i8.wrap (a0 / 256)))
set_option maxHeartbeats 8000000 in
set_option maxRecDepth 100000 in
theorem ssarewrite_GetPPC64Shiftmb.calls (a0 : Int) (r : Int) (w : World) (h : ssarewrite_GetPPC64Shiftmb.f a0 = some r) :
    Calls Tryd.prog 62 #[.int .i64 a0] w fun e w' => e = .returned (.int .i64 r) ∧ Drawn0 w w' := by
  have H : (some (wrap64 (IntKind.i8.wrap (a0 / 256)))) = some r := h
  clear h
  obtain rfl := Option.some.inj H
  go_enter Tryd.func62, Tryd.ntmps62
  go_wp2
  go_ret
  exact ⟨by first | rfl | (simp; done) | (simp [*]; done), by repeat (first | exact Drawn0.refl _ | apply Drawn0.step)⟩

attribute [local go_sem] signed_i64 signed_i32 signed_u32 max_u32 signed_u64 max_u64
/-! ### ssarewrite_GetPPC64Shiftsh: function 63 -/
def ssarewrite_GetPPC64Shiftsh.f (a0 : Int) : Option (Int) := some (wrap64 (IntKind.i8.wrap (a0 / 65536)))
set_option maxHeartbeats 8000000 in
set_option maxRecDepth 100000 in
theorem ssarewrite_GetPPC64Shiftsh.calls (a0 : Int) (r : Int) (w : World) (h : ssarewrite_GetPPC64Shiftsh.f a0 = some r) :
    Calls Tryd.prog 63 #[.int .i64 a0] w fun e w' => e = .returned (.int .i64 r) ∧ Drawn0 w w' := by
  have H : (some (wrap64 (IntKind.i8.wrap (a0 / 65536)))) = some r := h
  clear h
  obtain rfl := Option.some.inj H
  go_enter Tryd.func63, Tryd.ntmps63
  go_wp2
  go_ret
  exact ⟨by first | rfl | (simp; done) | (simp [*]; done), by repeat (first | exact Drawn0.refl _ | apply Drawn0.step)⟩

attribute [local go_sem] signed_i64 signed_i32 signed_u32 max_u32 signed_u64 max_u64
/-! ### ssarewrite_mergePPC64ClrlsldiRlwinm: function 52 -/
def ssarewrite_mergePPC64ClrlsldiRlwinm.f (k : Nat) (a0 : Int) (a1 : Int) : Option (Int) := (ssarewrite_DecodePPC64RotateMask.f a1).bind fun bt139 => ((ssarewrite_GetPPC64Shiftmb.f (wrap64 (a0))).bind fun t143 => (if 0 ≤ (IntKind.u64.wrap (t143)) then ((ssarewrite_GetPPC64Shiftsh.f (wrap64 (a0))).bind fun t144 => (if 0 ≤ (IntKind.u64.wrap (t144)) then ((ssarewrite_GetPPC64Shiftsh.f (wrap64 (a0))).bind fun t145 => ((ssarewrite_isPPC64WordRotateMask.f (wrap64 (shl .u64 (Go.bits .and .u64 bt139.2.2.2 (shr .u64 18446744073709551615 (IntKind.u64.wrap (t143)))) (IntKind.u64.wrap (t144))))).bind fun t146 => (if t146 = true then (if ((shl .u64 (Go.bits .and .u64 bt139.2.2.2 (shr .u64 18446744073709551615 (IntKind.u64.wrap (t143)))) (IntKind.u64.wrap (t144))) % 4294967296) = (shl .u64 (Go.bits .and .u64 bt139.2.2.2 (shr .u64 18446744073709551615 (IntKind.u64.wrap (t143)))) (IntKind.u64.wrap (t144))) then ((ssarewrite_encodePPC64RotateMask.f k (Go.bits .and .i64 (wrap64 (bt139.1 + t145)) 31) (wrap64 (shl .u64 (Go.bits .and .u64 bt139.2.2.2 (shr .u64 18446744073709551615 (IntKind.u64.wrap (t143)))) (IntKind.u64.wrap (t144)))) 32).bind fun t147 => (some t147)) else (some 0)) else (some 0)))) else (none))) else (none)))
theorem ssarewrite_mergePPC64ClrlsldiRlwinm.mono : ∀ a0 a1 k, LeO (ssarewrite_mergePPC64ClrlsldiRlwinm.f k a0 a1) (ssarewrite_mergePPC64ClrlsldiRlwinm.f (k + 1) a0 a1) := by
  intro a0 a1 k
  unfold ssarewrite_mergePPC64ClrlsldiRlwinm.f
  repeat' first
      | (with_reducible exact ssarewrite_encodePPC64RotateMask.mono _ _ _ _)
      | (with_reducible exact LeO.refl _)
      | (with_reducible exact LeO.none _)
      | (with_reducible refine LeO.ite ?_ ?_)
      | (with_reducible refine LeO.bind ?_ (fun _ => ?_))
      | exact ssarewrite_encodePPC64RotateMask.mono _ _ _ _
      | exact LeO.none _
      | refine LeO.ite ?_ ?_
      | refine LeO.bind ?_ (fun _ => ?_)
set_option maxHeartbeats 8000000 in
set_option maxRecDepth 100000 in
theorem ssarewrite_mergePPC64ClrlsldiRlwinm.calls (k : Nat) (a0 : Int) (a1 : Int) (r : Int) (w : World) (hT : Tab0 w) (h : ssarewrite_mergePPC64ClrlsldiRlwinm.f k a0 a1 = some r) :
    Calls Tryd.prog 52 #[.int .i32 a0, .int .i64 a1] w fun e w' => e = .returned (.int .i64 r) ∧ Drawn0 w w' := by
  have H : ((ssarewrite_DecodePPC64RotateMask.f a1).bind fun bt139 => ((ssarewrite_GetPPC64Shiftmb.f (wrap64 (a0))).bind fun t143 => (if 0 ≤ (IntKind.u64.wrap (t143)) then ((ssarewrite_GetPPC64Shiftsh.f (wrap64 (a0))).bind fun t144 => (if 0 ≤ (IntKind.u64.wrap (t144)) then ((ssarewrite_GetPPC64Shiftsh.f (wrap64 (a0))).bind fun t145 => ((ssarewrite_isPPC64WordRotateMask.f (wrap64 (shl .u64 (Go.bits .and .u64 bt139.2.2.2 (shr .u64 18446744073709551615 (IntKind.u64.wrap (t143)))) (IntKind.u64.wrap (t144))))).bind fun t146 => (if t146 = true then (if ((shl .u64 (Go.bits .and .u64 bt139.2.2.2 (shr .u64 18446744073709551615 (IntKind.u64.wrap (t143)))) (IntKind.u64.wrap (t144))) % 4294967296) = (shl .u64 (Go.bits .and .u64 bt139.2.2.2 (shr .u64 18446744073709551615 (IntKind.u64.wrap (t143)))) (IntKind.u64.wrap (t144))) then ((ssarewrite_encodePPC64RotateMask.f k (Go.bits .and .i64 (wrap64 (bt139.1 + t145)) 31) (wrap64 (shl .u64 (Go.bits .and .u64 bt139.2.2.2 (shr .u64 18446744073709551615 (IntKind.u64.wrap (t143)))) (IntKind.u64.wrap (t144)))) 32).bind fun t147 => (some t147)) else (some 0)) else (some 0)))) else (none))) else (none)))) = some r := h
  clear h
  replace H := Option.bind_eq_some_iff.mp H
  obtain ⟨⟨t139, t140, t141, t142⟩, A30, H⟩ := H
  replace H : ((ssarewrite_GetPPC64Shiftmb.f (wrap64 (a0))).bind fun t143 => (if 0 ≤ (IntKind.u64.wrap (t143)) then ((ssarewrite_GetPPC64Shiftsh.f (wrap64 (a0))).bind fun t144 => (if 0 ≤ (IntKind.u64.wrap (t144)) then ((ssarewrite_GetPPC64Shiftsh.f (wrap64 (a0))).bind fun t145 => ((ssarewrite_isPPC64WordRotateMask.f (wrap64 (shl .u64 (Go.bits .and .u64 t142 (shr .u64 18446744073709551615 (IntKind.u64.wrap (t143)))) (IntKind.u64.wrap (t144))))).bind fun t146 => (if t146 = true then (if ((shl .u64 (Go.bits .and .u64 t142 (shr .u64 18446744073709551615 (IntKind.u64.wrap (t143)))) (IntKind.u64.wrap (t144))) % 4294967296) = (shl .u64 (Go.bits .and .u64 t142 (shr .u64 18446744073709551615 (IntKind.u64.wrap (t143)))) (IntKind.u64.wrap (t144))) then ((ssarewrite_encodePPC64RotateMask.f k (Go.bits .and .i64 (wrap64 (t139 + t145)) 31) (wrap64 (shl .u64 (Go.bits .and .u64 t142 (shr .u64 18446744073709551615 (IntKind.u64.wrap (t143)))) (IntKind.u64.wrap (t144)))) 32).bind fun t147 => (some t147)) else (some 0)) else (some 0)))) else (none))) else (none))) = some r := H
  have A3 := Aside0.mk A30
  clear A30
  replace H := Option.bind_eq_some_iff.mp H
  obtain ⟨t143, A40, H⟩ := H
  replace H : (if 0 ≤ (IntKind.u64.wrap (t143)) then ((ssarewrite_GetPPC64Shiftsh.f (wrap64 (a0))).bind fun t144 => (if 0 ≤ (IntKind.u64.wrap (t144)) then ((ssarewrite_GetPPC64Shiftsh.f (wrap64 (a0))).bind fun t145 => ((ssarewrite_isPPC64WordRotateMask.f (wrap64 (shl .u64 (Go.bits .and .u64 t142 (shr .u64 18446744073709551615 (IntKind.u64.wrap (t143)))) (IntKind.u64.wrap (t144))))).bind fun t146 => (if t146 = true then (if ((shl .u64 (Go.bits .and .u64 t142 (shr .u64 18446744073709551615 (IntKind.u64.wrap (t143)))) (IntKind.u64.wrap (t144))) % 4294967296) = (shl .u64 (Go.bits .and .u64 t142 (shr .u64 18446744073709551615 (IntKind.u64.wrap (t143)))) (IntKind.u64.wrap (t144))) then ((ssarewrite_encodePPC64RotateMask.f k (Go.bits .and .i64 (wrap64 (t139 + t145)) 31) (wrap64 (shl .u64 (Go.bits .and .u64 t142 (shr .u64 18446744073709551615 (IntKind.u64.wrap (t143)))) (IntKind.u64.wrap (t144)))) 32).bind fun t147 => (some t147)) else (some 0)) else (some 0)))) else (none))) else (none)) = some r := H
  have A4 := Aside0.mk A40
  clear A40
  obtain ⟨ji5, hji5⟩ : ∃ j_ : Int, (IntKind.u64.wrap (t143)) = j_ := ⟨_, rfl⟩
  replace H : (if 0 ≤ (ji5) then ((ssarewrite_GetPPC64Shiftsh.f (wrap64 (a0))).bind fun t144 => (if 0 ≤ (IntKind.u64.wrap (t144)) then ((ssarewrite_GetPPC64Shiftsh.f (wrap64 (a0))).bind fun t145 => ((ssarewrite_isPPC64WordRotateMask.f (wrap64 (shl .u64 (Go.bits .and .u64 t142 (shr .u64 18446744073709551615 (ji5))) (IntKind.u64.wrap (t144))))).bind fun t146 => (if t146 = true then (if ((shl .u64 (Go.bits .and .u64 t142 (shr .u64 18446744073709551615 (ji5))) (IntKind.u64.wrap (t144))) % 4294967296) = (shl .u64 (Go.bits .and .u64 t142 (shr .u64 18446744073709551615 (ji5))) (IntKind.u64.wrap (t144))) then ((ssarewrite_encodePPC64RotateMask.f k (Go.bits .and .i64 (wrap64 (t139 + t145)) 31) (wrap64 (shl .u64 (Go.bits .and .u64 t142 (shr .u64 18446744073709551615 (ji5))) (IntKind.u64.wrap (t144)))) 32).bind fun t147 => (some t147)) else (some 0)) else (some 0)))) else (none))) else (none)) = some r := by first | (rw [hji5] at H; exact H) | (simp only [hji5] at H ⊢; exact H)
  (try rw [hji5] at A3)
  (try rw [hji5] at A4)
  by_cases c6 : 0 ≤ (ji5)
  · rw [if_pos c6] at H
    have c6b0 := eq_true c6
    have c6b1 : decide (0 ≤ (ji5)) = true := decide_eq_true c6
    clear c6
    obtain ⟨ji7, hji7⟩ : ∃ j_ : Int, (shr .u64 18446744073709551615 (ji5)) = j_ := ⟨_, rfl⟩
    replace H : ((ssarewrite_GetPPC64Shiftsh.f (wrap64 (a0))).bind fun t144 => (if 0 ≤ (IntKind.u64.wrap (t144)) then ((ssarewrite_GetPPC64Shiftsh.f (wrap64 (a0))).bind fun t145 => ((ssarewrite_isPPC64WordRotateMask.f (wrap64 (shl .u64 (Go.bits .and .u64 t142 (ji7)) (IntKind.u64.wrap (t144))))).bind fun t146 => (if t146 = true then (if ((shl .u64 (Go.bits .and .u64 t142 (ji7)) (IntKind.u64.wrap (t144))) % 4294967296) = (shl .u64 (Go.bits .and .u64 t142 (ji7)) (IntKind.u64.wrap (t144))) then ((ssarewrite_encodePPC64RotateMask.f k (Go.bits .and .i64 (wrap64 (t139 + t145)) 31) (wrap64 (shl .u64 (Go.bits .and .u64 t142 (ji7)) (IntKind.u64.wrap (t144)))) 32).bind fun t147 => (some t147)) else (some 0)) else (some 0)))) else (none))) = some r := by first | (rw [hji7] at H; exact H) | (simp only [hji7] at H ⊢; exact H)
    (try rw [hji7] at A3)
    (try rw [hji7] at A4)
    have hji7_ : (18446744073709551615 / 2 ^ min (ji5).toNat 64) = ji7 := hji7
    have hji7z : (ji5) ≤ 64 → (18446744073709551615 / 2 ^ (ji5).toNat) = ji7 := shr_small hji7
    replace H := Option.bind_eq_some_iff.mp H
    obtain ⟨t144, A80, H⟩ := H
    replace H : (if 0 ≤ (IntKind.u64.wrap (t144)) then ((ssarewrite_GetPPC64Shiftsh.f (wrap64 (a0))).bind fun t145 => ((ssarewrite_isPPC64WordRotateMask.f (wrap64 (shl .u64 (Go.bits .and .u64 t142 (ji7)) (IntKind.u64.wrap (t144))))).bind fun t146 => (if t146 = true then (if ((shl .u64 (Go.bits .and .u64 t142 (ji7)) (IntKind.u64.wrap (t144))) % 4294967296) = (shl .u64 (Go.bits .and .u64 t142 (ji7)) (IntKind.u64.wrap (t144))) then ((ssarewrite_encodePPC64RotateMask.f k (Go.bits .and .i64 (wrap64 (t139 + t145)) 31) (wrap64 (shl .u64 (Go.bits .and .u64 t142 (ji7)) (IntKind.u64.wrap (t144)))) 32).bind fun t147 => (some t147)) else (some 0)) else (some 0)))) else (none)) = some r := H
    have A8 := Aside0.mk A80
    clear A80
    obtain ⟨ji9, hji9⟩ : ∃ j_ : Int, (IntKind.u64.wrap (t144)) = j_ := ⟨_, rfl⟩
    replace H : (if 0 ≤ (ji9) then ((ssarewrite_GetPPC64Shiftsh.f (wrap64 (a0))).bind fun t145 => ((ssarewrite_isPPC64WordRotateMask.f (wrap64 (shl .u64 (Go.bits .and .u64 t142 (ji7)) (ji9)))).bind fun t146 => (if t146 = true then (if ((shl .u64 (Go.bits .and .u64 t142 (ji7)) (ji9)) % 4294967296) = (shl .u64 (Go.bits .and .u64 t142 (ji7)) (ji9)) then ((ssarewrite_encodePPC64RotateMask.f k (Go.bits .and .i64 (wrap64 (t139 + t145)) 31) (wrap64 (shl .u64 (Go.bits .and .u64 t142 (ji7)) (ji9))) 32).bind fun t147 => (some t147)) else (some 0)) else (some 0)))) else (none)) = some r := by first | (rw [hji9] at H; exact H) | (simp only [hji9] at H ⊢; exact H)
    (try rw [hji9] at A3)
    (try rw [hji9] at A4)
    (try rw [hji9] at A8)
    by_cases c10 : 0 ≤ (ji9)
    · rw [if_pos c10] at H
      have c10b0 := eq_true c10
      have c10b1 : decide (0 ≤ (ji9)) = true := decide_eq_true c10
      clear c10
      obtain ⟨ji11, hji11⟩ : ∃ j_ : Int, (shl .u64 (Go.bits .and .u64 t142 (ji7)) (ji9)) = j_ := ⟨_, rfl⟩
      replace H : ((ssarewrite_GetPPC64Shiftsh.f (wrap64 (a0))).bind fun t145 => ((ssarewrite_isPPC64WordRotateMask.f (wrap64 (ji11))).bind fun t146 => (if t146 = true then (if ((ji11) % 4294967296) = (ji11) then ((ssarewrite_encodePPC64RotateMask.f k (Go.bits .and .i64 (wrap64 (t139 + t145)) 31) (wrap64 (ji11)) 32).bind fun t147 => (some t147)) else (some 0)) else (some 0)))) = some r := by first | (rw [hji11] at H; exact H) | (simp only [hji11] at H ⊢; exact H)
      (try rw [hji11] at A3)
      (try rw [hji11] at A4)
      (try rw [hji11] at A8)
      have hji11_ : (IntKind.u64.wrap ((Go.bits .and .u64 t142 (ji7)) * 2 ^ min (ji9).toNat 64)) = ji11 := hji11
      have hji11z : (ji9) ≤ 64 → (IntKind.u64.wrap ((Go.bits .and .u64 t142 (ji7)) * 2 ^ (ji9).toNat)) = ji11 := shl_small hji11
      replace H := Option.bind_eq_some_iff.mp H
      obtain ⟨t145, A120, H⟩ := H
      replace H : ((ssarewrite_isPPC64WordRotateMask.f (wrap64 (ji11))).bind fun t146 => (if t146 = true then (if ((ji11) % 4294967296) = (ji11) then ((ssarewrite_encodePPC64RotateMask.f k (Go.bits .and .i64 (wrap64 (t139 + t145)) 31) (wrap64 (ji11)) 32).bind fun t147 => (some t147)) else (some 0)) else (some 0))) = some r := H
      have A12 := Aside0.mk A120
      clear A120
      replace H := Option.bind_eq_some_iff.mp H
      obtain ⟨t146, A130, H⟩ := H
      replace H : (if t146 = true then (if ((ji11) % 4294967296) = (ji11) then ((ssarewrite_encodePPC64RotateMask.f k (Go.bits .and .i64 (wrap64 (t139 + t145)) 31) (wrap64 (ji11)) 32).bind fun t147 => (some t147)) else (some 0)) else (some 0)) = some r := H
      have A13 := Aside0.mk A130
      clear A130
      by_cases c14 : t146 = true
      · subst c14
        have H1 : (if ((ji11) % 4294967296) = (ji11) then ((ssarewrite_encodePPC64RotateMask.f k (Go.bits .and .i64 (wrap64 (t139 + t145)) 31) (wrap64 (ji11)) 32).bind fun t147 => (some t147)) else (some 0)) = some r := by rw [if_pos rfl] at H; exact H
        clear H
        have H := H1
        clear H1
        by_cases c15 : ((ji11) % 4294967296) = (ji11)
        · rw [if_pos c15] at H
          have c15b0 : (((ji11) % 4294967296) == (ji11)) = true := beq_iff_eq.mpr c15
          have c15b1 : (((ji11) % 4294967296) != (ji11)) = false := bne_eq_false_iff_eq.mpr c15
          clear c15
          replace H := Option.bind_eq_some_iff.mp H
          obtain ⟨t147, A160, H⟩ := H
          replace H : (some t147) = some r := H
          have A16 := Aside0.mk A160
          clear A160
          obtain rfl := Option.some.inj H
          go_enter Tryd.func52, Tryd.ntmps52
          go_wp2_with (first | ((with_reducible refine gate_callee (f := 32) rfl ?_); refine goesL_ (some 15) rfl rfl Tryd.func32 (by kernel_rfl) rfl #[.int .i64 a1] rfl (by (try simp only [List.map_toArray, List.map_cons, List.map_nil]); first | done | rfl | (simp only [List.length_drop, List.length_take]; rfl)) ?_; (with_reducible refine (ssarewrite_DecodePPC64RotateMask.calls a1 t139 t140 t141 t142 _ A3.out).mono ?_); rintro e w' ⟨rfl, ⟨nd, rfl⟩⟩; refine ⟨_, rfl, ?_⟩) | ((with_reducible refine gate_callee (f := 62) rfl ?_); refine goesL_ (some 22) rfl rfl Tryd.func62 (by kernel_rfl) rfl #[.int .i64 (wrap64 (a0))] rfl (by (try simp only [List.map_toArray, List.map_cons, List.map_nil]); first | done | rfl | (simp only [List.length_drop, List.length_take]; rfl)) ?_; (with_reducible refine (ssarewrite_GetPPC64Shiftmb.calls (wrap64 (a0)) t143 _ A4.out).mono ?_); rintro e w' ⟨rfl, ⟨nd, rfl⟩⟩; refine ⟨_, rfl, ?_⟩) | ((with_reducible refine gate_callee (f := 63) rfl ?_); refine goesL_ (some 30) rfl rfl Tryd.func63 (by kernel_rfl) rfl #[.int .i64 (wrap64 (a0))] rfl (by (try simp only [List.map_toArray, List.map_cons, List.map_nil]); first | done | rfl | (simp only [List.length_drop, List.length_take]; rfl)) ?_; (with_reducible refine (ssarewrite_GetPPC64Shiftsh.calls (wrap64 (a0)) t144 _ A8.out).mono ?_); rintro e w' ⟨rfl, ⟨nd, rfl⟩⟩; refine ⟨_, rfl, ?_⟩) | ((with_reducible refine gate_callee (f := 63) rfl ?_); refine goesL_ (some 35) rfl rfl Tryd.func63 (by kernel_rfl) rfl #[.int .i64 (wrap64 (a0))] rfl (by (try simp only [List.map_toArray, List.map_cons, List.map_nil]); first | done | rfl | (simp only [List.length_drop, List.length_take]; rfl)) ?_; (with_reducible refine (ssarewrite_GetPPC64Shiftsh.calls (wrap64 (a0)) t145 _ A12.out).mono ?_); rintro e w' ⟨rfl, ⟨nd, rfl⟩⟩; refine ⟨_, rfl, ?_⟩) | ((with_reducible refine gate_callee (f := 64) rfl ?_); refine goesL_ (some 42) rfl rfl Tryd.func64 (by kernel_rfl) rfl #[.int .i64 (wrap64 (ji11))] rfl (by (try simp only [List.map_toArray, List.map_cons, List.map_nil]); first | done | (simp only [hji11]; rfl) | rfl | (simp only [List.length_drop, List.length_take]; rfl)) ?_; (with_reducible refine (ssarewrite_isPPC64WordRotateMask.calls (wrap64 (ji11)) true _ A13.out).mono ?_); rintro e w' ⟨rfl, ⟨nd, rfl⟩⟩; refine ⟨_, rfl, ?_⟩) | ((with_reducible refine gate_callee (f := 46) rfl ?_); refine goesL_ (some 54) rfl rfl Tryd.func46 (by kernel_rfl) rfl #[.int .i64 (Go.bits .and .i64 (wrap64 (t139 + t145)) 31), .int .i64 (wrap64 (ji11)), .int .i64 32] rfl (by (try simp only [List.map_toArray, List.map_cons, List.map_nil]); first | done | (simp only [hji11]; rfl) | rfl | (simp only [List.length_drop, List.length_take]; rfl)) ?_; (with_reducible refine (ssarewrite_encodePPC64RotateMask.calls k (Go.bits .and .i64 (wrap64 (t139 + t145)) 31) (wrap64 (ji11)) 32 t147 _ (by first | exact hT | exact hT.drewN _ | exact (hT.drewN _).drewN _ | exact ((hT.drewN _).drewN _).drewN _ | exact hT.below HB.out | exact (hT.below HB.out).drewN _ | exact ((hT.below HB.out).drewN _).drewN _) A16.out).mono ?_); rintro e w' ⟨rfl, ⟨nd, rfl⟩⟩; refine ⟨_, rfl, ?_⟩))
          go_ret
          exact ⟨by first | rfl | (simp; done) | (simp only [← hji5, ← hji7, ← hji9, ← hji11] <;> (first | rfl | simp)) | (simp [*]; done), by repeat (first | exact Drawn0.refl _ | apply Drawn0.step)⟩
        · rw [if_neg c15] at H
          have c15b0 : (((ji11) % 4294967296) == (ji11)) = false := beq_eq_false_iff_ne.mpr c15
          have c15b1 : (((ji11) % 4294967296) != (ji11)) = true := bne_iff_ne.mpr c15
          obtain rfl := Option.some.inj H
          go_enter Tryd.func52, Tryd.ntmps52
          go_wp2_with (first | ((with_reducible refine gate_callee (f := 32) rfl ?_); refine goesL_ (some 15) rfl rfl Tryd.func32 (by kernel_rfl) rfl #[.int .i64 a1] rfl (by (try simp only [List.map_toArray, List.map_cons, List.map_nil]); first | done | rfl | (simp only [List.length_drop, List.length_take]; rfl)) ?_; (with_reducible refine (ssarewrite_DecodePPC64RotateMask.calls a1 t139 t140 t141 t142 _ A3.out).mono ?_); rintro e w' ⟨rfl, ⟨nd, rfl⟩⟩; refine ⟨_, rfl, ?_⟩) | ((with_reducible refine gate_callee (f := 62) rfl ?_); refine goesL_ (some 22) rfl rfl Tryd.func62 (by kernel_rfl) rfl #[.int .i64 (wrap64 (a0))] rfl (by (try simp only [List.map_toArray, List.map_cons, List.map_nil]); first | done | rfl | (simp only [List.length_drop, List.length_take]; rfl)) ?_; (with_reducible refine (ssarewrite_GetPPC64Shiftmb.calls (wrap64 (a0)) t143 _ A4.out).mono ?_); rintro e w' ⟨rfl, ⟨nd, rfl⟩⟩; refine ⟨_, rfl, ?_⟩) | ((with_reducible refine gate_callee (f := 63) rfl ?_); refine goesL_ (some 30) rfl rfl Tryd.func63 (by kernel_rfl) rfl #[.int .i64 (wrap64 (a0))] rfl (by (try simp only [List.map_toArray, List.map_cons, List.map_nil]); first | done | rfl | (simp only [List.length_drop, List.length_take]; rfl)) ?_; (with_reducible refine (ssarewrite_GetPPC64Shiftsh.calls (wrap64 (a0)) t144 _ A8.out).mono ?_); rintro e w' ⟨rfl, ⟨nd, rfl⟩⟩; refine ⟨_, rfl, ?_⟩) | ((with_reducible refine gate_callee (f := 63) rfl ?_); refine goesL_ (some 35) rfl rfl Tryd.func63 (by kernel_rfl) rfl #[.int .i64 (wrap64 (a0))] rfl (by (try simp only [List.map_toArray, List.map_cons, List.map_nil]); first | done | rfl | (simp only [List.length_drop, List.length_take]; rfl)) ?_; (with_reducible refine (ssarewrite_GetPPC64Shiftsh.calls (wrap64 (a0)) t145 _ A12.out).mono ?_); rintro e w' ⟨rfl, ⟨nd, rfl⟩⟩; refine ⟨_, rfl, ?_⟩) | ((with_reducible refine gate_callee (f := 64) rfl ?_); refine goesL_ (some 42) rfl rfl Tryd.func64 (by kernel_rfl) rfl #[.int .i64 (wrap64 (ji11))] rfl (by (try simp only [List.map_toArray, List.map_cons, List.map_nil]); first | done | (simp only [hji11]; rfl) | rfl | (simp only [List.length_drop, List.length_take]; rfl)) ?_; (with_reducible refine (ssarewrite_isPPC64WordRotateMask.calls (wrap64 (ji11)) true _ A13.out).mono ?_); rintro e w' ⟨rfl, ⟨nd, rfl⟩⟩; refine ⟨_, rfl, ?_⟩))
          go_ret
          exact ⟨by first | rfl | (simp; done) | (simp only [← hji5, ← hji7, ← hji9, ← hji11] <;> (first | rfl | simp)) | (simp [*]; done), by repeat (first | exact Drawn0.refl _ | apply Drawn0.step)⟩
      · replace c14 := Bool.eq_false_iff.mpr c14
        subst c14
        have H1 : (some 0) = some r := by rw [if_neg (show ¬ (false = true) by decide)] at H; exact H
        clear H
        have H := H1
        clear H1
        obtain rfl := Option.some.inj H
        go_enter Tryd.func52, Tryd.ntmps52
        go_wp2_with (first | ((with_reducible refine gate_callee (f := 32) rfl ?_); refine goesL_ (some 15) rfl rfl Tryd.func32 (by kernel_rfl) rfl #[.int .i64 a1] rfl (by (try simp only [List.map_toArray, List.map_cons, List.map_nil]); first | done | rfl | (simp only [List.length_drop, List.length_take]; rfl)) ?_; (with_reducible refine (ssarewrite_DecodePPC64RotateMask.calls a1 t139 t140 t141 t142 _ A3.out).mono ?_); rintro e w' ⟨rfl, ⟨nd, rfl⟩⟩; refine ⟨_, rfl, ?_⟩) | ((with_reducible refine gate_callee (f := 62) rfl ?_); refine goesL_ (some 22) rfl rfl Tryd.func62 (by kernel_rfl) rfl #[.int .i64 (wrap64 (a0))] rfl (by (try simp only [List.map_toArray, List.map_cons, List.map_nil]); first | done | rfl | (simp only [List.length_drop, List.length_take]; rfl)) ?_; (with_reducible refine (ssarewrite_GetPPC64Shiftmb.calls (wrap64 (a0)) t143 _ A4.out).mono ?_); rintro e w' ⟨rfl, ⟨nd, rfl⟩⟩; refine ⟨_, rfl, ?_⟩) | ((with_reducible refine gate_callee (f := 63) rfl ?_); refine goesL_ (some 30) rfl rfl Tryd.func63 (by kernel_rfl) rfl #[.int .i64 (wrap64 (a0))] rfl (by (try simp only [List.map_toArray, List.map_cons, List.map_nil]); first | done | rfl | (simp only [List.length_drop, List.length_take]; rfl)) ?_; (with_reducible refine (ssarewrite_GetPPC64Shiftsh.calls (wrap64 (a0)) t144 _ A8.out).mono ?_); rintro e w' ⟨rfl, ⟨nd, rfl⟩⟩; refine ⟨_, rfl, ?_⟩) | ((with_reducible refine gate_callee (f := 63) rfl ?_); refine goesL_ (some 35) rfl rfl Tryd.func63 (by kernel_rfl) rfl #[.int .i64 (wrap64 (a0))] rfl (by (try simp only [List.map_toArray, List.map_cons, List.map_nil]); first | done | rfl | (simp only [List.length_drop, List.length_take]; rfl)) ?_; (with_reducible refine (ssarewrite_GetPPC64Shiftsh.calls (wrap64 (a0)) t145 _ A12.out).mono ?_); rintro e w' ⟨rfl, ⟨nd, rfl⟩⟩; refine ⟨_, rfl, ?_⟩) | ((with_reducible refine gate_callee (f := 64) rfl ?_); refine goesL_ (some 42) rfl rfl Tryd.func64 (by kernel_rfl) rfl #[.int .i64 (wrap64 (ji11))] rfl (by (try simp only [List.map_toArray, List.map_cons, List.map_nil]); first | done | (simp only [hji11]; rfl) | rfl | (simp only [List.length_drop, List.length_take]; rfl)) ?_; (with_reducible refine (ssarewrite_isPPC64WordRotateMask.calls (wrap64 (ji11)) false _ A13.out).mono ?_); rintro e w' ⟨rfl, ⟨nd, rfl⟩⟩; refine ⟨_, rfl, ?_⟩))
        go_ret
        exact ⟨by first | rfl | (simp; done) | (simp only [← hji5, ← hji7, ← hji9, ← hji11] <;> (first | rfl | simp)) | (simp [*]; done), by repeat (first | exact Drawn0.refl _ | apply Drawn0.step)⟩
    · rw [if_neg c10] at H
      exact absurd H (by simp)
  · rw [if_neg c6] at H
    exact absurd H (by simp)

end Go.Proofs.YtlcaejikcelgoaaDoor.PFnClrlsldiRlwinm
