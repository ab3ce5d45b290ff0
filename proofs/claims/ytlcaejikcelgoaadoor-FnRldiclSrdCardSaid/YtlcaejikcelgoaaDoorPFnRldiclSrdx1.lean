-- Written by a program of this session out of the translation (wip/pp.py): Lean checks it.
import Derived.Test.YtlcaejikcelgoaaDoorPFnRldiclSrdx0
namespace Go.Proofs.YtlcaejikcelgoaaDoor.PFnRldiclSrd
open Go.RowKit Go.Proofs.YtlcaejikcelgoaaDoorW.PrintWords Go.Proofs.YtlcaejikcelgoaaDoorW.PrintLast Go.Proofs.YtlcaejikcelgoaaDoorW.PrintMore
attribute [local go_sem] max2_int min2_int max_two min_two max_three min_three max_four min_four   -- for this text's walks alone
set_option linter.unusedVariables false
set_option linter.unusedSimpArgs false

attribute [local go_sem] signed_i64 signed_i32 signed_u32 max_u32 signed_u64 max_u64
/-! ### laws_rwAt: function 12 -/
def laws_rwAt.f (a0 : Int) (a1 : Int) : Option (Int) := if a1 = 0 then (none) else (some (Int.tmod (wrap64 ((Int.tmod a0 a1) + a1)) a1))
set_option maxHeartbeats 8000000 in
set_option maxRecDepth 100000 in
theorem laws_rwAt.calls (a0 : Int) (a1 : Int) (r : Int) (w : World) (h : laws_rwAt.f a0 a1 = some r) :
    Calls Tryd.prog 12 #[.int .i64 a0, .int .i64 a1] w fun e w' => e = .returned (.int .i64 r) ∧ Drawn0 w w' := by
  have H : (if a1 = 0 then (none) else (some (Int.tmod (wrap64 ((Int.tmod a0 a1) + a1)) a1))) = some r := h
  clear h
  by_cases c3 : a1 = 0
  · rw [if_pos c3] at H
    exact absurd H (by simp)
  · rw [if_neg c3] at H
    have c3b0 : (a1 == 0) = false := beq_eq_false_iff_ne.mpr c3
    have c3b1 : (a1 != 0) = true := bne_iff_ne.mpr c3
    obtain rfl := Option.some.inj H
    go_enter Tryd.func12, Tryd.ntmps12
    go_wp2
    go_ret
    exact ⟨by first | rfl | (simp; done) | (simp [*]; done), by repeat (first | exact Drawn0.refl _ | apply Drawn0.step)⟩

/-! ### bits_Len32: function 68 -/
def bits_Len32.f (a0 : Int) : Option (Int) := if 0 ≤ a0 ∧ a0 ≤ 4294967295 then some (Lib.bitLen a0.toNat : Int) else none
theorem bits_Len32.calls (a0 : Int) (r : Int) (w : World) (h : bits_Len32.f a0 = some r) :
    Calls Tryd.prog 68 #[.int .u32 a0] w fun e w' => e = .returned (.int .i64 r) ∧ Drawn0 w w' := by
  unfold bits_Len32.f at h
  split at h
  · rename_i hb
    obtain rfl := Option.some.inj h
    refine (Tryd.bits_Len32 a0 w hb.1 hb.2).mono ?_
    rintro e w' ⟨rfl, rfl⟩
    exact ⟨by first | rfl | (simp; done) | (congr 2; omega), Drawn0.refl _⟩
  · cases h

/-! ### bits_LeadingZeros32: function 57 -/
def bits_LeadingZeros32.f (a0 : Int) : Option (Int) := if 0 ≤ a0 ∧ a0 ≤ 4294967295 then some (32 - (Lib.bitLen a0.toNat : Int)) else none
theorem bits_LeadingZeros32.calls (a0 : Int) (r : Int) (w : World) (h : bits_LeadingZeros32.f a0 = some r) :
    Calls Tryd.prog 57 #[.int .u32 a0] w fun e w' => e = .returned (.int .i64 r) ∧ Drawn0 w w' := by
  unfold bits_LeadingZeros32.f at h
  split at h
  · rename_i hb
    obtain rfl := Option.some.inj h
    refine (Tryd.bits_LeadingZeros32 a0 w hb.1 hb.2).mono ?_
    rintro e w' ⟨rfl, rfl⟩
    exact ⟨by first | rfl | (simp; done) | (congr 2; omega), Drawn0.refl _⟩
  · cases h

/-! ### bits_TrailingZeros32: function 58 -/
def bits_TrailingZeros32.f (a0 : Int) : Option (Int) := if 0 ≤ a0 ∧ a0 ≤ 4294967295 then some (Lib.ctz 32 a0.toNat : Int) else none
theorem bits_TrailingZeros32.calls (a0 : Int) (r : Int) (w : World) (hT : Tab0 w) (h : bits_TrailingZeros32.f a0 = some r) :
    Calls Tryd.prog 58 #[.int .u32 a0] w fun e w' => e = .returned (.int .i64 r) ∧ Drawn0 w w' := by
  unfold bits_TrailingZeros32.f at h
  split at h
  · rename_i hb
    obtain rfl := Option.some.inj h
    obtain ⟨x, rfl⟩ := Int.eq_ofNat_of_zero_le hb.1
    refine (tz32 x (by omega) w hT).mono ?_
    rintro e w' ⟨rfl, rfl⟩
    exact ⟨by first | rfl | (simp; done) | (congr 2; omega), Drawn0.refl _⟩
  · cases h

/-! ### bits_Len64: function 69 -/
def bits_Len64.f (a0 : Int) : Option (Int) := if 0 ≤ a0 ∧ a0 ≤ 18446744073709551615 then some (Lib.bitLen a0.toNat : Int) else none
theorem bits_Len64.calls (a0 : Int) (r : Int) (w : World) (h : bits_Len64.f a0 = some r) :
    Calls Tryd.prog 69 #[.int .u64 a0] w fun e w' => e = .returned (.int .i64 r) ∧ Drawn0 w w' := by
  unfold bits_Len64.f at h
  split at h
  · rename_i hb
    obtain rfl := Option.some.inj h
    refine (Tryd.bits_Len64 a0 w hb.1 hb.2).mono ?_
    rintro e w' ⟨rfl, rfl⟩
    exact ⟨by first | rfl | (simp; done) | (congr 2; omega), Drawn0.refl _⟩
  · cases h

/-! ### bits_LeadingZeros64: function 59 -/
def bits_LeadingZeros64.f (a0 : Int) : Option (Int) := if 0 ≤ a0 ∧ a0 ≤ 18446744073709551615 then some (64 - (Lib.bitLen a0.toNat : Int)) else none
theorem bits_LeadingZeros64.calls (a0 : Int) (r : Int) (w : World) (h : bits_LeadingZeros64.f a0 = some r) :
    Calls Tryd.prog 59 #[.int .u64 a0] w fun e w' => e = .returned (.int .i64 r) ∧ Drawn0 w w' := by
  unfold bits_LeadingZeros64.f at h
  split at h
  · rename_i hb
    obtain rfl := Option.some.inj h
    refine (Tryd.bits_LeadingZeros64 a0 w hb.1 hb.2).mono ?_
    rintro e w' ⟨rfl, rfl⟩
    exact ⟨by first | rfl | (simp; done) | (congr 2; omega), Drawn0.refl _⟩
  · cases h

/-! ### bits_TrailingZeros64: function 60 -/
def bits_TrailingZeros64.f (a0 : Int) : Option (Int) := if 0 ≤ a0 ∧ a0 ≤ 18446744073709551615 then some (Lib.ctz 64 a0.toNat : Int) else none
theorem bits_TrailingZeros64.calls (a0 : Int) (r : Int) (w : World) (hT : Tab0 w) (h : bits_TrailingZeros64.f a0 = some r) :
    Calls Tryd.prog 60 #[.int .u64 a0] w fun e w' => e = .returned (.int .i64 r) ∧ Drawn0 w w' := by
  unfold bits_TrailingZeros64.f at h
  split at h
  · rename_i hb
    obtain rfl := Option.some.inj h
    obtain ⟨x, rfl⟩ := Int.eq_ofNat_of_zero_le hb.1
    refine (tz64 x (by omega) w hT).mono ?_
    rintro e w' ⟨rfl, rfl⟩
    exact ⟨by first | rfl | (simp; done) | (congr 2; omega), Drawn0.refl _⟩
  · cases h

attribute [local go_sem] signed_i64 signed_i32 signed_u32 max_u32 signed_u64 max_u64
/-! ### ssarewrite_encodePPC64RotateMask: function 46 -/
def ssarewrite_encodePPC64RotateMask.j0 : Nat → Int → Int → Int → Bool → Option (Int)
  | 0, _, _, _, _ => none
  | k + 1, x0, x1, x2, x22 => if x22 = true then (none) else (if x2 = 32 then ((bits_LeadingZeros32.f ((x1) % 4294967296)).bind fun t101 => ((bits_TrailingZeros32.f ((x1) % 4294967296)).bind fun t102 => ((bits_LeadingZeros32.f (Go.bits .xor .u32 4294967295 ((x1) % 4294967296))).bind fun t103 => ((bits_TrailingZeros32.f (Go.bits .xor .u32 4294967295 ((x1) % 4294967296))).bind fun t104 => (if t101 = 0 then (if (wrap64 (32 - t102)) = x2 then (some (Go.bits .or .i64 (Go.bits .or .i64 (Go.bits .or .i64 t103 (wrap64 ((wrap64 (32 - t104)) * 256))) (wrap64 (x0 * 65536))) (wrap64 (x2 * 16777216)))) else (some (Go.bits .or .i64 (Go.bits .or .i64 (Go.bits .or .i64 (wrap64 (32 - t102)) (wrap64 (t101 * 256))) (wrap64 (x0 * 65536))) (wrap64 (x2 * 16777216))))) else (some (Go.bits .or .i64 (Go.bits .or .i64 (Go.bits .or .i64 (wrap64 (32 - t102)) (wrap64 (t101 * 256))) (wrap64 (x0 * 65536))) (wrap64 (x2 * 16777216))))))))) else ((bits_LeadingZeros64.f (IntKind.u64.wrap (x1))).bind fun t105 => ((bits_TrailingZeros64.f (IntKind.u64.wrap (x1))).bind fun t106 => ((bits_LeadingZeros64.f (Go.bits .xor .u64 18446744073709551615 (IntKind.u64.wrap (x1)))).bind fun t107 => ((bits_TrailingZeros64.f (Go.bits .xor .u64 18446744073709551615 (IntKind.u64.wrap (x1)))).bind fun t108 => (if t105 = 0 then (if (wrap64 (64 - t106)) = x2 then (some (Go.bits .or .i64 (Go.bits .or .i64 (Go.bits .or .i64 t107 (wrap64 ((wrap64 (64 - t108)) * 256))) (wrap64 (x0 * 65536))) (wrap64 (x2 * 16777216)))) else (some (Go.bits .or .i64 (Go.bits .or .i64 (Go.bits .or .i64 (wrap64 (64 - t106)) (wrap64 (t105 * 256))) (wrap64 (x0 * 65536))) (wrap64 (x2 * 16777216))))) else (some (Go.bits .or .i64 (Go.bits .or .i64 (Go.bits .or .i64 (wrap64 (64 - t106)) (wrap64 (t105 * 256))) (wrap64 (x0 * 65536))) (wrap64 (x2 * 16777216))))))))))
def ssarewrite_encodePPC64RotateMask.f (k : Nat) (a0 : Int) (a1 : Int) (a2 : Int) : Option (Int) := if a1 = 0 then (ssarewrite_encodePPC64RotateMask.j0 k a0 a1 a2 true) else (if (Go.bits .xor .i64 (-1) a1) = 0 then (ssarewrite_encodePPC64RotateMask.j0 k a0 a1 a2 true) else (ssarewrite_encodePPC64RotateMask.j0 k a0 a1 a2 (decide (a0 ≥ a2))))
theorem ssarewrite_encodePPC64RotateMask.mono_l : ∀ k, (∀ y0 y1 y2 y3, LeO (ssarewrite_encodePPC64RotateMask.j0 k y0 y1 y2 y3) (ssarewrite_encodePPC64RotateMask.j0 (k + 1) y0 y1 y2 y3))
  | 0 => fun _ _ _ _ r h => by simp [ssarewrite_encodePPC64RotateMask.j0] at h
  | k + 1 => by
    have ih0 := ssarewrite_encodePPC64RotateMask.mono_l k
    · intro y0 y1 y2 y3
      unfold ssarewrite_encodePPC64RotateMask.j0
      repeat' first
      | (with_reducible exact ih0 _ _ _ _)
      | (with_reducible exact LeO.refl _)
      | (with_reducible exact LeO.none _)
      | (with_reducible refine LeO.ite ?_ ?_)
      | (with_reducible refine LeO.bind ?_ (fun _ => ?_))
      | exact ih0 _ _ _ _
      | exact LeO.none _
      | refine LeO.ite ?_ ?_
      | refine LeO.bind ?_ (fun _ => ?_)
theorem ssarewrite_encodePPC64RotateMask.mono : ∀ a0 a1 a2 k, LeO (ssarewrite_encodePPC64RotateMask.f k a0 a1 a2) (ssarewrite_encodePPC64RotateMask.f (k + 1) a0 a1 a2) := by
  intro a0 a1 a2 k
  have ih0 := ssarewrite_encodePPC64RotateMask.mono_l k
  unfold ssarewrite_encodePPC64RotateMask.f
  repeat' first
      | (with_reducible exact ih0 _ _ _ _)
      | (with_reducible exact LeO.refl _)
      | (with_reducible exact LeO.none _)
      | (with_reducible refine LeO.ite ?_ ?_)
      | (with_reducible refine LeO.bind ?_ (fun _ => ?_))
      | exact ih0 _ _ _ _
      | exact LeO.none _
      | refine LeO.ite ?_ ?_
      | refine LeO.bind ?_ (fun _ => ?_)
set_option maxHeartbeats 8000000 in
set_option maxRecDepth 100000 in
theorem ssarewrite_encodePPC64RotateMask.calls (k : Nat) (a0 : Int) (a1 : Int) (a2 : Int) (r : Int) (w : World) (hT : Tab0 w) (h : ssarewrite_encodePPC64RotateMask.f k a0 a1 a2 = some r) :
    Calls Tryd.prog 46 #[.int .i64 a0, .int .i64 a1, .int .i64 a2] w fun e w' => e = .returned (.int .i64 r) ∧ Drawn0 w w' := by
  have H : (if a1 = 0 then (ssarewrite_encodePPC64RotateMask.j0 k a0 a1 a2 true) else (if (Go.bits .xor .i64 (-1) a1) = 0 then (ssarewrite_encodePPC64RotateMask.j0 k a0 a1 a2 true) else (ssarewrite_encodePPC64RotateMask.j0 k a0 a1 a2 (decide (a0 ≥ a2))))) = some r := h
  clear h
  have HC4 := Aside0.mk H
  clear H
  go_enter Tryd.func46, Tryd.ntmps46
  go_upto_region 2 with (fail)
  go_cut [22] (fun v22 wc => ∃ (kq : Nat) (x22_3 : Bool), v22 = .bool x22_3 ∧ Aside0 (ssarewrite_encodePPC64RotateMask.j0 kq a0 a1 a2 x22_3 = some r) ∧ Aside0 (kq ≤ k) ∧ Drawn0 w wc)
  case first =>
    have H := HC4.out
    clear HC4
    by_cases c5 : a1 = 0
    · rw [if_pos c5] at H
      have c5b0 : (a1 == 0) = true := beq_iff_eq.mpr c5
      have c5b1 : (a1 != 0) = false := bne_eq_false_iff_eq.mpr c5
      clear c5
      (first | rw [c5b0] | (simp only [i64_w, i32_w]; rw [c5b0]) | skip)
      have H' := Aside0.mk H
      clear H
      go_wp2
      go_meet
      case rel => exact ⟨_, (true), (by first | rfl | (simp; done) | (simp [*]; done)), H', ⟨by first | omega | exact Nat.le_refl _⟩, by repeat (first | exact Drawn0.refl _ | apply Drawn0.step)⟩
    · rw [if_neg c5] at H
      have c5b0 : (a1 == 0) = false := beq_eq_false_iff_ne.mpr c5
      have c5b1 : (a1 != 0) = true := bne_iff_ne.mpr c5
      (first | rw [c5b0] | (simp only [i64_w, i32_w]; rw [c5b0]) | skip)
      by_cases c6 : (Go.bits .xor .i64 (-1) a1) = 0
      · rw [if_pos c6] at H
        have c6b0 : ((Go.bits .xor .i64 (-1) a1) == 0) = true := beq_iff_eq.mpr c6
        have c6b1 : ((Go.bits .xor .i64 (-1) a1) != 0) = false := bne_eq_false_iff_eq.mpr c6
        clear c6
        have H' := Aside0.mk H
        clear H
        go_wp2
        go_meet
        case rel => exact ⟨_, (true), (by first | rfl | (simp; done) | (simp [*]; done)), H', ⟨by first | omega | exact Nat.le_refl _⟩, by repeat (first | exact Drawn0.refl _ | apply Drawn0.step)⟩
      · rw [if_neg c6] at H
        have c6b0 : ((Go.bits .xor .i64 (-1) a1) == 0) = false := beq_eq_false_iff_ne.mpr c6
        have c6b1 : ((Go.bits .xor .i64 (-1) a1) != 0) = true := bne_iff_ne.mpr c6
        have H' := Aside0.mk H
        clear H
        go_wp2
        go_meet
        case rel => exact ⟨_, (decide (a0 ≥ a2)), (by first | rfl | (simp; done) | (simp [*]; done)), H', ⟨by first | omega | exact Nat.le_refl _⟩, by repeat (first | exact Drawn0.refl _ | apply Drawn0.step)⟩
  case rest =>
    clear HC4
    try clear p2
    try clear c4
    try clear c5
    try clear c5b0
    try clear c5b1
    try clear c6
    try clear c6b0
    try clear c6b1
    obtain ⟨kq, x22_3, rfl, HA, HJ3, ⟨mc3, rfl⟩⟩ := hcut
    cases kq with
    | zero => exact absurd HA.out (by simp [ssarewrite_encodePPC64RotateMask.j0])
    | succ kj3 =>
      have H := HA.out
      clear HA
      simp only [ssarewrite_encodePPC64RotateMask.j0] at H
      by_cases c7 : x22_3 = true
      · subst c7
        have H1 : (none) = some r := by rw [if_pos rfl] at H; exact H
        clear H
        have H := H1
        clear H1
        exact absurd H (by simp)
      · replace c7 := Bool.eq_false_iff.mpr c7
        subst c7
        have H1 : (if a2 = 32 then ((bits_LeadingZeros32.f ((a1) % 4294967296)).bind fun t101 => ((bits_TrailingZeros32.f ((a1) % 4294967296)).bind fun t102 => ((bits_LeadingZeros32.f (Go.bits .xor .u32 4294967295 ((a1) % 4294967296))).bind fun t103 => ((bits_TrailingZeros32.f (Go.bits .xor .u32 4294967295 ((a1) % 4294967296))).bind fun t104 => (if t101 = 0 then (if (wrap64 (32 - t102)) = a2 then (some (Go.bits .or .i64 (Go.bits .or .i64 (Go.bits .or .i64 t103 (wrap64 ((wrap64 (32 - t104)) * 256))) (wrap64 (a0 * 65536))) (wrap64 (a2 * 16777216)))) else (some (Go.bits .or .i64 (Go.bits .or .i64 (Go.bits .or .i64 (wrap64 (32 - t102)) (wrap64 (t101 * 256))) (wrap64 (a0 * 65536))) (wrap64 (a2 * 16777216))))) else (some (Go.bits .or .i64 (Go.bits .or .i64 (Go.bits .or .i64 (wrap64 (32 - t102)) (wrap64 (t101 * 256))) (wrap64 (a0 * 65536))) (wrap64 (a2 * 16777216))))))))) else ((bits_LeadingZeros64.f (IntKind.u64.wrap (a1))).bind fun t105 => ((bits_TrailingZeros64.f (IntKind.u64.wrap (a1))).bind fun t106 => ((bits_LeadingZeros64.f (Go.bits .xor .u64 18446744073709551615 (IntKind.u64.wrap (a1)))).bind fun t107 => ((bits_TrailingZeros64.f (Go.bits .xor .u64 18446744073709551615 (IntKind.u64.wrap (a1)))).bind fun t108 => (if t105 = 0 then (if (wrap64 (64 - t106)) = a2 then (some (Go.bits .or .i64 (Go.bits .or .i64 (Go.bits .or .i64 t107 (wrap64 ((wrap64 (64 - t108)) * 256))) (wrap64 (a0 * 65536))) (wrap64 (a2 * 16777216)))) else (some (Go.bits .or .i64 (Go.bits .or .i64 (Go.bits .or .i64 (wrap64 (64 - t106)) (wrap64 (t105 * 256))) (wrap64 (a0 * 65536))) (wrap64 (a2 * 16777216))))) else (some (Go.bits .or .i64 (Go.bits .or .i64 (Go.bits .or .i64 (wrap64 (64 - t106)) (wrap64 (t105 * 256))) (wrap64 (a0 * 65536))) (wrap64 (a2 * 16777216)))))))))) = some r := by rw [if_neg (show ¬ (false = true) by decide)] at H; exact H
        clear H
        have H := H1
        clear H1
        by_cases c8 : a2 = 32
        · rw [if_pos c8] at H
          have c8b0 : (a2 == 32) = true := beq_iff_eq.mpr c8
          have c8b1 : (a2 != 32) = false := bne_eq_false_iff_eq.mpr c8
          clear c8
          replace H := Option.bind_eq_some_iff.mp H
          obtain ⟨t101, A90, H⟩ := H
          replace H : ((bits_TrailingZeros32.f ((a1) % 4294967296)).bind fun t102 => ((bits_LeadingZeros32.f (Go.bits .xor .u32 4294967295 ((a1) % 4294967296))).bind fun t103 => ((bits_TrailingZeros32.f (Go.bits .xor .u32 4294967295 ((a1) % 4294967296))).bind fun t104 => (if t101 = 0 then (if (wrap64 (32 - t102)) = a2 then (some (Go.bits .or .i64 (Go.bits .or .i64 (Go.bits .or .i64 t103 (wrap64 ((wrap64 (32 - t104)) * 256))) (wrap64 (a0 * 65536))) (wrap64 (a2 * 16777216)))) else (some (Go.bits .or .i64 (Go.bits .or .i64 (Go.bits .or .i64 (wrap64 (32 - t102)) (wrap64 (t101 * 256))) (wrap64 (a0 * 65536))) (wrap64 (a2 * 16777216))))) else (some (Go.bits .or .i64 (Go.bits .or .i64 (Go.bits .or .i64 (wrap64 (32 - t102)) (wrap64 (t101 * 256))) (wrap64 (a0 * 65536))) (wrap64 (a2 * 16777216)))))))) = some r := H
          have A9 := Aside0.mk A90
          clear A90
          replace H := Option.bind_eq_some_iff.mp H
          obtain ⟨t102, A100, H⟩ := H
          replace H : ((bits_LeadingZeros32.f (Go.bits .xor .u32 4294967295 ((a1) % 4294967296))).bind fun t103 => ((bits_TrailingZeros32.f (Go.bits .xor .u32 4294967295 ((a1) % 4294967296))).bind fun t104 => (if t101 = 0 then (if (wrap64 (32 - t102)) = a2 then (some (Go.bits .or .i64 (Go.bits .or .i64 (Go.bits .or .i64 t103 (wrap64 ((wrap64 (32 - t104)) * 256))) (wrap64 (a0 * 65536))) (wrap64 (a2 * 16777216)))) else (some (Go.bits .or .i64 (Go.bits .or .i64 (Go.bits .or .i64 (wrap64 (32 - t102)) (wrap64 (t101 * 256))) (wrap64 (a0 * 65536))) (wrap64 (a2 * 16777216))))) else (some (Go.bits .or .i64 (Go.bits .or .i64 (Go.bits .or .i64 (wrap64 (32 - t102)) (wrap64 (t101 * 256))) (wrap64 (a0 * 65536))) (wrap64 (a2 * 16777216))))))) = some r := H
          have A10 := Aside0.mk A100
          clear A100
          replace H := Option.bind_eq_some_iff.mp H
          obtain ⟨t103, A110, H⟩ := H
          replace H : ((bits_TrailingZeros32.f (Go.bits .xor .u32 4294967295 ((a1) % 4294967296))).bind fun t104 => (if t101 = 0 then (if (wrap64 (32 - t102)) = a2 then (some (Go.bits .or .i64 (Go.bits .or .i64 (Go.bits .or .i64 t103 (wrap64 ((wrap64 (32 - t104)) * 256))) (wrap64 (a0 * 65536))) (wrap64 (a2 * 16777216)))) else (some (Go.bits .or .i64 (Go.bits .or .i64 (Go.bits .or .i64 (wrap64 (32 - t102)) (wrap64 (t101 * 256))) (wrap64 (a0 * 65536))) (wrap64 (a2 * 16777216))))) else (some (Go.bits .or .i64 (Go.bits .or .i64 (Go.bits .or .i64 (wrap64 (32 - t102)) (wrap64 (t101 * 256))) (wrap64 (a0 * 65536))) (wrap64 (a2 * 16777216)))))) = some r := H
          have A11 := Aside0.mk A110
          clear A110
          replace H := Option.bind_eq_some_iff.mp H
          obtain ⟨t104, A120, H⟩ := H
          replace H : (if t101 = 0 then (if (wrap64 (32 - t102)) = a2 then (some (Go.bits .or .i64 (Go.bits .or .i64 (Go.bits .or .i64 t103 (wrap64 ((wrap64 (32 - t104)) * 256))) (wrap64 (a0 * 65536))) (wrap64 (a2 * 16777216)))) else (some (Go.bits .or .i64 (Go.bits .or .i64 (Go.bits .or .i64 (wrap64 (32 - t102)) (wrap64 (t101 * 256))) (wrap64 (a0 * 65536))) (wrap64 (a2 * 16777216))))) else (some (Go.bits .or .i64 (Go.bits .or .i64 (Go.bits .or .i64 (wrap64 (32 - t102)) (wrap64 (t101 * 256))) (wrap64 (a0 * 65536))) (wrap64 (a2 * 16777216))))) = some r := H
          have A12 := Aside0.mk A120
          clear A120
          by_cases c13 : t101 = 0
          · rw [if_pos c13] at H
            have c13b0 : (t101 == 0) = true := beq_iff_eq.mpr c13
            have c13b1 : (t101 != 0) = false := bne_eq_false_iff_eq.mpr c13
            clear c13
            by_cases c14 : (wrap64 (32 - t102)) = a2
            · rw [if_pos c14] at H
              have c14b0 : ((wrap64 (32 - t102)) == a2) = true := beq_iff_eq.mpr c14
              have c14b1 : ((wrap64 (32 - t102)) != a2) = false := bne_eq_false_iff_eq.mpr c14
              clear c14
              obtain rfl := Option.some.inj H
              go_wp2_with (first | ((with_reducible refine gate_callee (f := 57) rfl ?_); refine goesL_ (some 28) rfl rfl Tryd.func57 (by kernel_rfl) rfl #[.int .u32 ((a1) % 4294967296)] rfl (by (try simp only [List.map_toArray, List.map_cons, List.map_nil]); first | done | rfl | (simp only [List.length_drop, List.length_take]; rfl)) ?_; (with_reducible refine (bits_LeadingZeros32.calls ((a1) % 4294967296) t101 _ A9.out).mono ?_); rintro e w' ⟨rfl, ⟨nd, rfl⟩⟩; refine ⟨_, rfl, ?_⟩) | ((with_reducible refine gate_callee (f := 58) rfl ?_); refine goesL_ (some 31) rfl rfl Tryd.func58 (by kernel_rfl) rfl #[.int .u32 ((a1) % 4294967296)] rfl (by (try simp only [List.map_toArray, List.map_cons, List.map_nil]); first | done | rfl | (simp only [List.length_drop, List.length_take]; rfl)) ?_; (with_reducible refine (bits_TrailingZeros32.calls ((a1) % 4294967296) t102 _ (by first | exact hT | exact hT.drewN _ | exact (hT.drewN _).drewN _ | exact ((hT.drewN _).drewN _).drewN _ | exact hT.below HB.out | exact (hT.below HB.out).drewN _ | exact ((hT.below HB.out).drewN _).drewN _) A10.out).mono ?_); rintro e w' ⟨rfl, ⟨nd, rfl⟩⟩; refine ⟨_, rfl, ?_⟩) | ((with_reducible refine gate_callee (f := 57) rfl ?_); refine goesL_ (some 36) rfl rfl Tryd.func57 (by kernel_rfl) rfl #[.int .u32 (Go.bits .xor .u32 4294967295 ((a1) % 4294967296))] rfl (by (try simp only [List.map_toArray, List.map_cons, List.map_nil]); first | done | rfl | (simp only [List.length_drop, List.length_take]; rfl)) ?_; (with_reducible refine (bits_LeadingZeros32.calls (Go.bits .xor .u32 4294967295 ((a1) % 4294967296)) t103 _ A11.out).mono ?_); rintro e w' ⟨rfl, ⟨nd, rfl⟩⟩; refine ⟨_, rfl, ?_⟩) | ((with_reducible refine gate_callee (f := 58) rfl ?_); refine goesL_ (some 40) rfl rfl Tryd.func58 (by kernel_rfl) rfl #[.int .u32 (Go.bits .xor .u32 4294967295 ((a1) % 4294967296))] rfl (by (try simp only [List.map_toArray, List.map_cons, List.map_nil]); first | done | rfl | (simp only [List.length_drop, List.length_take]; rfl)) ?_; (with_reducible refine (bits_TrailingZeros32.calls (Go.bits .xor .u32 4294967295 ((a1) % 4294967296)) t104 _ (by first | exact hT | exact hT.drewN _ | exact (hT.drewN _).drewN _ | exact ((hT.drewN _).drewN _).drewN _ | exact hT.below HB.out | exact (hT.below HB.out).drewN _ | exact ((hT.below HB.out).drewN _).drewN _) A12.out).mono ?_); rintro e w' ⟨rfl, ⟨nd, rfl⟩⟩; refine ⟨_, rfl, ?_⟩))
              go_ret
              exact ⟨by first | rfl | (simp; done) | (simp [*]; done), by repeat (first | exact Drawn0.refl _ | apply Drawn0.step)⟩
            · rw [if_neg c14] at H
              have c14b0 : ((wrap64 (32 - t102)) == a2) = false := beq_eq_false_iff_ne.mpr c14
              have c14b1 : ((wrap64 (32 - t102)) != a2) = true := bne_iff_ne.mpr c14
              obtain rfl := Option.some.inj H
              go_wp2_with (first | ((with_reducible refine gate_callee (f := 57) rfl ?_); refine goesL_ (some 28) rfl rfl Tryd.func57 (by kernel_rfl) rfl #[.int .u32 ((a1) % 4294967296)] rfl (by (try simp only [List.map_toArray, List.map_cons, List.map_nil]); first | done | rfl | (simp only [List.length_drop, List.length_take]; rfl)) ?_; (with_reducible refine (bits_LeadingZeros32.calls ((a1) % 4294967296) t101 _ A9.out).mono ?_); rintro e w' ⟨rfl, ⟨nd, rfl⟩⟩; refine ⟨_, rfl, ?_⟩) | ((with_reducible refine gate_callee (f := 58) rfl ?_); refine goesL_ (some 31) rfl rfl Tryd.func58 (by kernel_rfl) rfl #[.int .u32 ((a1) % 4294967296)] rfl (by (try simp only [List.map_toArray, List.map_cons, List.map_nil]); first | done | rfl | (simp only [List.length_drop, List.length_take]; rfl)) ?_; (with_reducible refine (bits_TrailingZeros32.calls ((a1) % 4294967296) t102 _ (by first | exact hT | exact hT.drewN _ | exact (hT.drewN _).drewN _ | exact ((hT.drewN _).drewN _).drewN _ | exact hT.below HB.out | exact (hT.below HB.out).drewN _ | exact ((hT.below HB.out).drewN _).drewN _) A10.out).mono ?_); rintro e w' ⟨rfl, ⟨nd, rfl⟩⟩; refine ⟨_, rfl, ?_⟩) | ((with_reducible refine gate_callee (f := 57) rfl ?_); refine goesL_ (some 36) rfl rfl Tryd.func57 (by kernel_rfl) rfl #[.int .u32 (Go.bits .xor .u32 4294967295 ((a1) % 4294967296))] rfl (by (try simp only [List.map_toArray, List.map_cons, List.map_nil]); first | done | rfl | (simp only [List.length_drop, List.length_take]; rfl)) ?_; (with_reducible refine (bits_LeadingZeros32.calls (Go.bits .xor .u32 4294967295 ((a1) % 4294967296)) t103 _ A11.out).mono ?_); rintro e w' ⟨rfl, ⟨nd, rfl⟩⟩; refine ⟨_, rfl, ?_⟩) | ((with_reducible refine gate_callee (f := 58) rfl ?_); refine goesL_ (some 40) rfl rfl Tryd.func58 (by kernel_rfl) rfl #[.int .u32 (Go.bits .xor .u32 4294967295 ((a1) % 4294967296))] rfl (by (try simp only [List.map_toArray, List.map_cons, List.map_nil]); first | done | rfl | (simp only [List.length_drop, List.length_take]; rfl)) ?_; (with_reducible refine (bits_TrailingZeros32.calls (Go.bits .xor .u32 4294967295 ((a1) % 4294967296)) t104 _ (by first | exact hT | exact hT.drewN _ | exact (hT.drewN _).drewN _ | exact ((hT.drewN _).drewN _).drewN _ | exact hT.below HB.out | exact (hT.below HB.out).drewN _ | exact ((hT.below HB.out).drewN _).drewN _) A12.out).mono ?_); rintro e w' ⟨rfl, ⟨nd, rfl⟩⟩; refine ⟨_, rfl, ?_⟩))
              go_ret
              exact ⟨by first | rfl | (simp; done) | (simp [*]; done), by repeat (first | exact Drawn0.refl _ | apply Drawn0.step)⟩
          · rw [if_neg c13] at H
            have c13b0 : (t101 == 0) = false := beq_eq_false_iff_ne.mpr c13
            have c13b1 : (t101 != 0) = true := bne_iff_ne.mpr c13
            obtain rfl := Option.some.inj H
            go_wp2_with (first | ((with_reducible refine gate_callee (f := 57) rfl ?_); refine goesL_ (some 28) rfl rfl Tryd.func57 (by kernel_rfl) rfl #[.int .u32 ((a1) % 4294967296)] rfl (by (try simp only [List.map_toArray, List.map_cons, List.map_nil]); first | done | rfl | (simp only [List.length_drop, List.length_take]; rfl)) ?_; (with_reducible refine (bits_LeadingZeros32.calls ((a1) % 4294967296) t101 _ A9.out).mono ?_); rintro e w' ⟨rfl, ⟨nd, rfl⟩⟩; refine ⟨_, rfl, ?_⟩) | ((with_reducible refine gate_callee (f := 58) rfl ?_); refine goesL_ (some 31) rfl rfl Tryd.func58 (by kernel_rfl) rfl #[.int .u32 ((a1) % 4294967296)] rfl (by (try simp only [List.map_toArray, List.map_cons, List.map_nil]); first | done | rfl | (simp only [List.length_drop, List.length_take]; rfl)) ?_; (with_reducible refine (bits_TrailingZeros32.calls ((a1) % 4294967296) t102 _ (by first | exact hT | exact hT.drewN _ | exact (hT.drewN _).drewN _ | exact ((hT.drewN _).drewN _).drewN _ | exact hT.below HB.out | exact (hT.below HB.out).drewN _ | exact ((hT.below HB.out).drewN _).drewN _) A10.out).mono ?_); rintro e w' ⟨rfl, ⟨nd, rfl⟩⟩; refine ⟨_, rfl, ?_⟩) | ((with_reducible refine gate_callee (f := 57) rfl ?_); refine goesL_ (some 36) rfl rfl Tryd.func57 (by kernel_rfl) rfl #[.int .u32 (Go.bits .xor .u32 4294967295 ((a1) % 4294967296))] rfl (by (try simp only [List.map_toArray, List.map_cons, List.map_nil]); first | done | rfl | (simp only [List.length_drop, List.length_take]; rfl)) ?_; (with_reducible refine (bits_LeadingZeros32.calls (Go.bits .xor .u32 4294967295 ((a1) % 4294967296)) t103 _ A11.out).mono ?_); rintro e w' ⟨rfl, ⟨nd, rfl⟩⟩; refine ⟨_, rfl, ?_⟩) | ((with_reducible refine gate_callee (f := 58) rfl ?_); refine goesL_ (some 40) rfl rfl Tryd.func58 (by kernel_rfl) rfl #[.int .u32 (Go.bits .xor .u32 4294967295 ((a1) % 4294967296))] rfl (by (try simp only [List.map_toArray, List.map_cons, List.map_nil]); first | done | rfl | (simp only [List.length_drop, List.length_take]; rfl)) ?_; (with_reducible refine (bits_TrailingZeros32.calls (Go.bits .xor .u32 4294967295 ((a1) % 4294967296)) t104 _ (by first | exact hT | exact hT.drewN _ | exact (hT.drewN _).drewN _ | exact ((hT.drewN _).drewN _).drewN _ | exact hT.below HB.out | exact (hT.below HB.out).drewN _ | exact ((hT.below HB.out).drewN _).drewN _) A12.out).mono ?_); rintro e w' ⟨rfl, ⟨nd, rfl⟩⟩; refine ⟨_, rfl, ?_⟩))
            go_ret
            exact ⟨by first | rfl | (simp; done) | (simp [*]; done), by repeat (first | exact Drawn0.refl _ | apply Drawn0.step)⟩
        · rw [if_neg c8] at H
          have c8b0 : (a2 == 32) = false := beq_eq_false_iff_ne.mpr c8
          have c8b1 : (a2 != 32) = true := bne_iff_ne.mpr c8
          replace H := Option.bind_eq_some_iff.mp H
          obtain ⟨t105, A150, H⟩ := H
          replace H : ((bits_TrailingZeros64.f (IntKind.u64.wrap (a1))).bind fun t106 => ((bits_LeadingZeros64.f (Go.bits .xor .u64 18446744073709551615 (IntKind.u64.wrap (a1)))).bind fun t107 => ((bits_TrailingZeros64.f (Go.bits .xor .u64 18446744073709551615 (IntKind.u64.wrap (a1)))).bind fun t108 => (if t105 = 0 then (if (wrap64 (64 - t106)) = a2 then (some (Go.bits .or .i64 (Go.bits .or .i64 (Go.bits .or .i64 t107 (wrap64 ((wrap64 (64 - t108)) * 256))) (wrap64 (a0 * 65536))) (wrap64 (a2 * 16777216)))) else (some (Go.bits .or .i64 (Go.bits .or .i64 (Go.bits .or .i64 (wrap64 (64 - t106)) (wrap64 (t105 * 256))) (wrap64 (a0 * 65536))) (wrap64 (a2 * 16777216))))) else (some (Go.bits .or .i64 (Go.bits .or .i64 (Go.bits .or .i64 (wrap64 (64 - t106)) (wrap64 (t105 * 256))) (wrap64 (a0 * 65536))) (wrap64 (a2 * 16777216)))))))) = some r := H
          have A15 := Aside0.mk A150
          clear A150
          replace H := Option.bind_eq_some_iff.mp H
          obtain ⟨t106, A160, H⟩ := H
          replace H : ((bits_LeadingZeros64.f (Go.bits .xor .u64 18446744073709551615 (IntKind.u64.wrap (a1)))).bind fun t107 => ((bits_TrailingZeros64.f (Go.bits .xor .u64 18446744073709551615 (IntKind.u64.wrap (a1)))).bind fun t108 => (if t105 = 0 then (if (wrap64 (64 - t106)) = a2 then (some (Go.bits .or .i64 (Go.bits .or .i64 (Go.bits .or .i64 t107 (wrap64 ((wrap64 (64 - t108)) * 256))) (wrap64 (a0 * 65536))) (wrap64 (a2 * 16777216)))) else (some (Go.bits .or .i64 (Go.bits .or .i64 (Go.bits .or .i64 (wrap64 (64 - t106)) (wrap64 (t105 * 256))) (wrap64 (a0 * 65536))) (wrap64 (a2 * 16777216))))) else (some (Go.bits .or .i64 (Go.bits .or .i64 (Go.bits .or .i64 (wrap64 (64 - t106)) (wrap64 (t105 * 256))) (wrap64 (a0 * 65536))) (wrap64 (a2 * 16777216))))))) = some r := H
          have A16 := Aside0.mk A160
          clear A160
          replace H := Option.bind_eq_some_iff.mp H
          obtain ⟨t107, A170, H⟩ := H
          replace H : ((bits_TrailingZeros64.f (Go.bits .xor .u64 18446744073709551615 (IntKind.u64.wrap (a1)))).bind fun t108 => (if t105 = 0 then (if (wrap64 (64 - t106)) = a2 then (some (Go.bits .or .i64 (Go.bits .or .i64 (Go.bits .or .i64 t107 (wrap64 ((wrap64 (64 - t108)) * 256))) (wrap64 (a0 * 65536))) (wrap64 (a2 * 16777216)))) else (some (Go.bits .or .i64 (Go.bits .or .i64 (Go.bits .or .i64 (wrap64 (64 - t106)) (wrap64 (t105 * 256))) (wrap64 (a0 * 65536))) (wrap64 (a2 * 16777216))))) else (some (Go.bits .or .i64 (Go.bits .or .i64 (Go.bits .or .i64 (wrap64 (64 - t106)) (wrap64 (t105 * 256))) (wrap64 (a0 * 65536))) (wrap64 (a2 * 16777216)))))) = some r := H
          have A17 := Aside0.mk A170
          clear A170
          replace H := Option.bind_eq_some_iff.mp H
          obtain ⟨t108, A180, H⟩ := H
          replace H : (if t105 = 0 then (if (wrap64 (64 - t106)) = a2 then (some (Go.bits .or .i64 (Go.bits .or .i64 (Go.bits .or .i64 t107 (wrap64 ((wrap64 (64 - t108)) * 256))) (wrap64 (a0 * 65536))) (wrap64 (a2 * 16777216)))) else (some (Go.bits .or .i64 (Go.bits .or .i64 (Go.bits .or .i64 (wrap64 (64 - t106)) (wrap64 (t105 * 256))) (wrap64 (a0 * 65536))) (wrap64 (a2 * 16777216))))) else (some (Go.bits .or .i64 (Go.bits .or .i64 (Go.bits .or .i64 (wrap64 (64 - t106)) (wrap64 (t105 * 256))) (wrap64 (a0 * 65536))) (wrap64 (a2 * 16777216))))) = some r := H
          have A18 := Aside0.mk A180
          clear A180
          by_cases c19 : t105 = 0
          · rw [if_pos c19] at H
            have c19b0 : (t105 == 0) = true := beq_iff_eq.mpr c19
            have c19b1 : (t105 != 0) = false := bne_eq_false_iff_eq.mpr c19
            clear c19
            by_cases c20 : (wrap64 (64 - t106)) = a2
            · rw [if_pos c20] at H
              have c20b0 : ((wrap64 (64 - t106)) == a2) = true := beq_iff_eq.mpr c20
              have c20b1 : ((wrap64 (64 - t106)) != a2) = false := bne_eq_false_iff_eq.mpr c20
              clear c20
              obtain rfl := Option.some.inj H
              go_wp2_with (first | ((with_reducible refine gate_callee (f := 59) rfl ?_); refine goesL_ (some 44) rfl rfl Tryd.func59 (by kernel_rfl) rfl #[.int .u64 (IntKind.u64.wrap (a1))] rfl (by (try simp only [List.map_toArray, List.map_cons, List.map_nil]); first | done | rfl | (simp only [List.length_drop, List.length_take]; rfl)) ?_; (with_reducible refine (bits_LeadingZeros64.calls (IntKind.u64.wrap (a1)) t105 _ A15.out).mono ?_); rintro e w' ⟨rfl, ⟨nd, rfl⟩⟩; refine ⟨_, rfl, ?_⟩) | ((with_reducible refine gate_callee (f := 60) rfl ?_); refine goesL_ (some 47) rfl rfl Tryd.func60 (by kernel_rfl) rfl #[.int .u64 (IntKind.u64.wrap (a1))] rfl (by (try simp only [List.map_toArray, List.map_cons, List.map_nil]); first | done | rfl | (simp only [List.length_drop, List.length_take]; rfl)) ?_; (with_reducible refine (bits_TrailingZeros64.calls (IntKind.u64.wrap (a1)) t106 _ (by first | exact hT | exact hT.drewN _ | exact (hT.drewN _).drewN _ | exact ((hT.drewN _).drewN _).drewN _ | exact hT.below HB.out | exact (hT.below HB.out).drewN _ | exact ((hT.below HB.out).drewN _).drewN _) A16.out).mono ?_); rintro e w' ⟨rfl, ⟨nd, rfl⟩⟩; refine ⟨_, rfl, ?_⟩) | ((with_reducible refine gate_callee (f := 59) rfl ?_); refine goesL_ (some 52) rfl rfl Tryd.func59 (by kernel_rfl) rfl #[.int .u64 (Go.bits .xor .u64 18446744073709551615 (IntKind.u64.wrap (a1)))] rfl (by (try simp only [List.map_toArray, List.map_cons, List.map_nil]); first | done | rfl | (simp only [List.length_drop, List.length_take]; rfl)) ?_; (with_reducible refine (bits_LeadingZeros64.calls (Go.bits .xor .u64 18446744073709551615 (IntKind.u64.wrap (a1))) t107 _ A17.out).mono ?_); rintro e w' ⟨rfl, ⟨nd, rfl⟩⟩; refine ⟨_, rfl, ?_⟩) | ((with_reducible refine gate_callee (f := 60) rfl ?_); refine goesL_ (some 56) rfl rfl Tryd.func60 (by kernel_rfl) rfl #[.int .u64 (Go.bits .xor .u64 18446744073709551615 (IntKind.u64.wrap (a1)))] rfl (by (try simp only [List.map_toArray, List.map_cons, List.map_nil]); first | done | rfl | (simp only [List.length_drop, List.length_take]; rfl)) ?_; (with_reducible refine (bits_TrailingZeros64.calls (Go.bits .xor .u64 18446744073709551615 (IntKind.u64.wrap (a1))) t108 _ (by first | exact hT | exact hT.drewN _ | exact (hT.drewN _).drewN _ | exact ((hT.drewN _).drewN _).drewN _ | exact hT.below HB.out | exact (hT.below HB.out).drewN _ | exact ((hT.below HB.out).drewN _).drewN _) A18.out).mono ?_); rintro e w' ⟨rfl, ⟨nd, rfl⟩⟩; refine ⟨_, rfl, ?_⟩))
              go_ret
              exact ⟨by first | rfl | (simp; done) | (simp [*]; done), by repeat (first | exact Drawn0.refl _ | apply Drawn0.step)⟩
            · rw [if_neg c20] at H
              have c20b0 : ((wrap64 (64 - t106)) == a2) = false := beq_eq_false_iff_ne.mpr c20
              have c20b1 : ((wrap64 (64 - t106)) != a2) = true := bne_iff_ne.mpr c20
              obtain rfl := Option.some.inj H
              go_wp2_with (first | ((with_reducible refine gate_callee (f := 59) rfl ?_); refine goesL_ (some 44) rfl rfl Tryd.func59 (by kernel_rfl) rfl #[.int .u64 (IntKind.u64.wrap (a1))] rfl (by (try simp only [List.map_toArray, List.map_cons, List.map_nil]); first | done | rfl | (simp only [List.length_drop, List.length_take]; rfl)) ?_; (with_reducible refine (bits_LeadingZeros64.calls (IntKind.u64.wrap (a1)) t105 _ A15.out).mono ?_); rintro e w' ⟨rfl, ⟨nd, rfl⟩⟩; refine ⟨_, rfl, ?_⟩) | ((with_reducible refine gate_callee (f := 60) rfl ?_); refine goesL_ (some 47) rfl rfl Tryd.func60 (by kernel_rfl) rfl #[.int .u64 (IntKind.u64.wrap (a1))] rfl (by (try simp only [List.map_toArray, List.map_cons, List.map_nil]); first | done | rfl | (simp only [List.length_drop, List.length_take]; rfl)) ?_; (with_reducible refine (bits_TrailingZeros64.calls (IntKind.u64.wrap (a1)) t106 _ (by first | exact hT | exact hT.drewN _ | exact (hT.drewN _).drewN _ | exact ((hT.drewN _).drewN _).drewN _ | exact hT.below HB.out | exact (hT.below HB.out).drewN _ | exact ((hT.below HB.out).drewN _).drewN _) A16.out).mono ?_); rintro e w' ⟨rfl, ⟨nd, rfl⟩⟩; refine ⟨_, rfl, ?_⟩) | ((with_reducible refine gate_callee (f := 59) rfl ?_); refine goesL_ (some 52) rfl rfl Tryd.func59 (by kernel_rfl) rfl #[.int .u64 (Go.bits .xor .u64 18446744073709551615 (IntKind.u64.wrap (a1)))] rfl (by (try simp only [List.map_toArray, List.map_cons, List.map_nil]); first | done | rfl | (simp only [List.length_drop, List.length_take]; rfl)) ?_; (with_reducible refine (bits_LeadingZeros64.calls (Go.bits .xor .u64 18446744073709551615 (IntKind.u64.wrap (a1))) t107 _ A17.out).mono ?_); rintro e w' ⟨rfl, ⟨nd, rfl⟩⟩; refine ⟨_, rfl, ?_⟩) | ((with_reducible refine gate_callee (f := 60) rfl ?_); refine goesL_ (some 56) rfl rfl Tryd.func60 (by kernel_rfl) rfl #[.int .u64 (Go.bits .xor .u64 18446744073709551615 (IntKind.u64.wrap (a1)))] rfl (by (try simp only [List.map_toArray, List.map_cons, List.map_nil]); first | done | rfl | (simp only [List.length_drop, List.length_take]; rfl)) ?_; (with_reducible refine (bits_TrailingZeros64.calls (Go.bits .xor .u64 18446744073709551615 (IntKind.u64.wrap (a1))) t108 _ (by first | exact hT | exact hT.drewN _ | exact (hT.drewN _).drewN _ | exact ((hT.drewN _).drewN _).drewN _ | exact hT.below HB.out | exact (hT.below HB.out).drewN _ | exact ((hT.below HB.out).drewN _).drewN _) A18.out).mono ?_); rintro e w' ⟨rfl, ⟨nd, rfl⟩⟩; refine ⟨_, rfl, ?_⟩))
              go_ret
              exact ⟨by first | rfl | (simp; done) | (simp [*]; done), by repeat (first | exact Drawn0.refl _ | apply Drawn0.step)⟩
          · rw [if_neg c19] at H
            have c19b0 : (t105 == 0) = false := beq_eq_false_iff_ne.mpr c19
            have c19b1 : (t105 != 0) = true := bne_iff_ne.mpr c19
            obtain rfl := Option.some.inj H
            go_wp2_with (first | ((with_reducible refine gate_callee (f := 59) rfl ?_); refine goesL_ (some 44) rfl rfl Tryd.func59 (by kernel_rfl) rfl #[.int .u64 (IntKind.u64.wrap (a1))] rfl (by (try simp only [List.map_toArray, List.map_cons, List.map_nil]); first | done | rfl | (simp only [List.length_drop, List.length_take]; rfl)) ?_; (with_reducible refine (bits_LeadingZeros64.calls (IntKind.u64.wrap (a1)) t105 _ A15.out).mono ?_); rintro e w' ⟨rfl, ⟨nd, rfl⟩⟩; refine ⟨_, rfl, ?_⟩) | ((with_reducible refine gate_callee (f := 60) rfl ?_); refine goesL_ (some 47) rfl rfl Tryd.func60 (by kernel_rfl) rfl #[.int .u64 (IntKind.u64.wrap (a1))] rfl (by (try simp only [List.map_toArray, List.map_cons, List.map_nil]); first | done | rfl | (simp only [List.length_drop, List.length_take]; rfl)) ?_; (with_reducible refine (bits_TrailingZeros64.calls (IntKind.u64.wrap (a1)) t106 _ (by first | exact hT | exact hT.drewN _ | exact (hT.drewN _).drewN _ | exact ((hT.drewN _).drewN _).drewN _ | exact hT.below HB.out | exact (hT.below HB.out).drewN _ | exact ((hT.below HB.out).drewN _).drewN _) A16.out).mono ?_); rintro e w' ⟨rfl, ⟨nd, rfl⟩⟩; refine ⟨_, rfl, ?_⟩) | ((with_reducible refine gate_callee (f := 59) rfl ?_); refine goesL_ (some 52) rfl rfl Tryd.func59 (by kernel_rfl) rfl #[.int .u64 (Go.bits .xor .u64 18446744073709551615 (IntKind.u64.wrap (a1)))] rfl (by (try simp only [List.map_toArray, List.map_cons, List.map_nil]); first | done | rfl | (simp only [List.length_drop, List.length_take]; rfl)) ?_; (with_reducible refine (bits_LeadingZeros64.calls (Go.bits .xor .u64 18446744073709551615 (IntKind.u64.wrap (a1))) t107 _ A17.out).mono ?_); rintro e w' ⟨rfl, ⟨nd, rfl⟩⟩; refine ⟨_, rfl, ?_⟩) | ((with_reducible refine gate_callee (f := 60) rfl ?_); refine goesL_ (some 56) rfl rfl Tryd.func60 (by kernel_rfl) rfl #[.int .u64 (Go.bits .xor .u64 18446744073709551615 (IntKind.u64.wrap (a1)))] rfl (by (try simp only [List.map_toArray, List.map_cons, List.map_nil]); first | done | rfl | (simp only [List.length_drop, List.length_take]; rfl)) ?_; (with_reducible refine (bits_TrailingZeros64.calls (Go.bits .xor .u64 18446744073709551615 (IntKind.u64.wrap (a1))) t108 _ (by first | exact hT | exact hT.drewN _ | exact (hT.drewN _).drewN _ | exact ((hT.drewN _).drewN _).drewN _ | exact hT.below HB.out | exact (hT.below HB.out).drewN _ | exact ((hT.below HB.out).drewN _).drewN _) A18.out).mono ?_); rintro e w' ⟨rfl, ⟨nd, rfl⟩⟩; refine ⟨_, rfl, ?_⟩))
            go_ret
            exact ⟨by first | rfl | (simp; done) | (simp [*]; done), by repeat (first | exact Drawn0.refl _ | apply Drawn0.step)⟩

attribute [local go_sem] signed_i64 signed_i32 signed_u32 max_u32 signed_u64 max_u64
/-! ### ssarewrite_ZZEncodePPC64RotateMask: function 31 -/
def ssarewrite_ZZEncodePPC64RotateMask.f (k : Nat) (a0 : Int) (a1 : Int) (a2 : Int) : Option (Int) := (ssarewrite_encodePPC64RotateMask.f k a0 a1 a2).bind fun t109 => (some t109)
theorem ssarewrite_ZZEncodePPC64RotateMask.mono : ∀ a0 a1 a2 k, LeO (ssarewrite_ZZEncodePPC64RotateMask.f k a0 a1 a2) (ssarewrite_ZZEncodePPC64RotateMask.f (k + 1) a0 a1 a2) := by
  intro a0 a1 a2 k
  unfold ssarewrite_ZZEncodePPC64RotateMask.f
  repeat' first
      | (with_reducible exact ssarewrite_encodePPC64RotateMask.mono _ _ _ _)
      | (with_reducible exact LeO.refl _)
      | (with_reducible exact LeO.none _)
      | (with_reducible refine LeO.ite ?_ ?_)
      | (with_reducible refine LeO.bind ?_ (fun _ => ?_))
      | exact ssarewrite_encodePPC64RotateMask.mono _ _ _ _
      | exact LeO.none _
      | refine LeO.ite ?_ ?_
      | refine LeO.bind ?_ (fun _ => ?_)
set_option maxHeartbeats 8000000 in
set_option maxRecDepth 100000 in
theorem ssarewrite_ZZEncodePPC64RotateMask.calls (k : Nat) (a0 : Int) (a1 : Int) (a2 : Int) (r : Int) (w : World) (hT : Tab0 w) (h : ssarewrite_ZZEncodePPC64RotateMask.f k a0 a1 a2 = some r) :
    Calls Tryd.prog 31 #[.int .i64 a0, .int .i64 a1, .int .i64 a2] w fun e w' => e = .returned (.int .i64 r) ∧ Drawn0 w w' := by
  have H : ((ssarewrite_encodePPC64RotateMask.f k a0 a1 a2).bind fun t109 => (some t109)) = some r := h
  clear h
  replace H := Option.bind_eq_some_iff.mp H
  obtain ⟨t109, A40, H⟩ := H
  replace H : (some t109) = some r := H
  have A4 := Aside0.mk A40
  clear A40
  obtain rfl := Option.some.inj H
  go_enter Tryd.func31, Tryd.ntmps31
  go_wp2_with (first | ((with_reducible refine gate_callee (f := 46) rfl ?_); refine goesL_ (some 10) rfl rfl Tryd.func46 (by kernel_rfl) rfl #[.int .i64 a0, .int .i64 a1, .int .i64 a2] rfl (by (try simp only [List.map_toArray, List.map_cons, List.map_nil]); first | done | rfl | (simp only [List.length_drop, List.length_take]; rfl)) ?_; (with_reducible refine (ssarewrite_encodePPC64RotateMask.calls k a0 a1 a2 t109 _ (by first | exact hT | exact hT.drewN _ | exact (hT.drewN _).drewN _ | exact ((hT.drewN _).drewN _).drewN _ | exact hT.below HB.out | exact (hT.below HB.out).drewN _ | exact ((hT.below HB.out).drewN _).drewN _) A4.out).mono ?_); rintro e w' ⟨rfl, ⟨nd, rfl⟩⟩; refine ⟨_, rfl, ?_⟩))
  go_ret
  exact ⟨by first | rfl | (simp; done) | (simp [*]; done), by repeat (first | exact Drawn0.refl _ | apply Drawn0.step)⟩

attribute [local go_sem] signed_i64 signed_i32 signed_u32 max_u32 signed_u64 max_u64
/-! ### impl_EncodeRotateMask: function 13 -/
def impl_EncodeRotateMask.f (k : Nat) (a0 : Int) (a1 : Int) (a2 : Int) : Option (Int) := (ssarewrite_ZZEncodePPC64RotateMask.f k a0 a1 a2).bind fun t110 => (some t110)
theorem impl_EncodeRotateMask.mono : ∀ a0 a1 a2 k, LeO (impl_EncodeRotateMask.f k a0 a1 a2) (impl_EncodeRotateMask.f (k + 1) a0 a1 a2) := by
  intro a0 a1 a2 k
  unfold impl_EncodeRotateMask.f
  repeat' first
      | (with_reducible exact ssarewrite_ZZEncodePPC64RotateMask.mono _ _ _ _)
      | (with_reducible exact LeO.refl _)
      | (with_reducible exact LeO.none _)
      | (with_reducible refine LeO.ite ?_ ?_)
      | (with_reducible refine LeO.bind ?_ (fun _ => ?_))
      | exact ssarewrite_ZZEncodePPC64RotateMask.mono _ _ _ _
      | exact LeO.none _
      | refine LeO.ite ?_ ?_
      | refine LeO.bind ?_ (fun _ => ?_)
set_option maxHeartbeats 8000000 in
set_option maxRecDepth 100000 in
theorem impl_EncodeRotateMask.calls (k : Nat) (a0 : Int) (a1 : Int) (a2 : Int) (r : Int) (w : World) (hT : Tab0 w) (h : impl_EncodeRotateMask.f k a0 a1 a2 = some r) :
    Calls Tryd.prog 13 #[.int .i64 a0, .int .i64 a1, .int .i64 a2] w fun e w' => e = .returned (.int .i64 r) ∧ Drawn0 w w' := by
  have H : ((ssarewrite_ZZEncodePPC64RotateMask.f k a0 a1 a2).bind fun t110 => (some t110)) = some r := h
  clear h
  replace H := Option.bind_eq_some_iff.mp H
  obtain ⟨t110, A40, H⟩ := H
  replace H : (some t110) = some r := H
  have A4 := Aside0.mk A40
  clear A40
  obtain rfl := Option.some.inj H
  go_enter Tryd.func13, Tryd.ntmps13
  go_wp2_with (first | ((with_reducible refine gate_callee (f := 31) rfl ?_); refine goesL_ (some 10) rfl rfl Tryd.func31 (by kernel_rfl) rfl #[.int .i64 a0, .int .i64 a1, .int .i64 a2] rfl (by (try simp only [List.map_toArray, List.map_cons, List.map_nil]); first | done | rfl | (simp only [List.length_drop, List.length_take]; rfl)) ?_; (with_reducible refine (ssarewrite_ZZEncodePPC64RotateMask.calls k a0 a1 a2 t110 _ (by first | exact hT | exact hT.drewN _ | exact (hT.drewN _).drewN _ | exact ((hT.drewN _).drewN _).drewN _ | exact hT.below HB.out | exact (hT.below HB.out).drewN _ | exact ((hT.below HB.out).drewN _).drewN _) A4.out).mono ?_); rintro e w' ⟨rfl, ⟨nd, rfl⟩⟩; refine ⟨_, rfl, ?_⟩))
  go_ret
  exact ⟨by first | rfl | (simp; done) | (simp [*]; done), by repeat (first | exact Drawn0.refl _ | apply Drawn0.step)⟩

attribute [local go_sem] signed_i64 signed_i32 signed_u32 max_u32 signed_u64 max_u64
/-! ### spec_Run: function 14 -/
def spec_Run.f (a0 : Int) (a1 : Int) : Option (Int) := if a1 ≥ 64 then (some 18446744073709551615) else (if 0 ≤ a1 then (if 0 ≤ a0 then (some (shl .u64 (IntKind.u64.wrap ((shl .u64 1 a1) - 1)) a0)) else (none)) else (none))
set_option maxHeartbeats 8000000 in
set_option maxRecDepth 100000 in
theorem spec_Run.calls (a0 : Int) (a1 : Int) (r : Int) (w : World) (h : spec_Run.f a0 a1 = some r) :
    Calls Tryd.prog 14 #[.int .u64 a0, .int .u64 a1] w fun e w' => e = .returned (.int .u64 r) ∧ Drawn0 w w' := by
  have H : (if a1 ≥ 64 then (some 18446744073709551615) else (if 0 ≤ a1 then (if 0 ≤ a0 then (some (shl .u64 (IntKind.u64.wrap ((shl .u64 1 a1) - 1)) a0)) else (none)) else (none))) = some r := h
  clear h
  by_cases c3 : a1 ≥ 64
  · rw [if_pos c3] at H
    have c3b0 : decide (64 ≤ a1) = true := decide_eq_true c3
    clear c3
    obtain rfl := Option.some.inj H
    go_enter Tryd.func14, Tryd.ntmps14
    go_wp2
    go_ret
    exact ⟨by first | rfl | (simp; done) | (simp [*]; done), by repeat (first | exact Drawn0.refl _ | apply Drawn0.step)⟩
  · rw [if_neg c3] at H
    have c3b0 : decide (64 ≤ a1) = false := decide_eq_false c3
    clear c3
    by_cases c4 : 0 ≤ a1
    · rw [if_pos c4] at H
      have c4b0 := eq_true c4
      have c4b1 : decide (0 ≤ a1) = true := decide_eq_true c4
      clear c4
      obtain ⟨ji5, hji5⟩ : ∃ j_ : Int, (shl .u64 1 a1) = j_ := ⟨_, rfl⟩
      replace H : (if 0 ≤ a0 then (some (shl .u64 (IntKind.u64.wrap ((ji5) - 1)) a0)) else (none)) = some r := by first | (rw [hji5] at H; exact H) | (simp only [hji5] at H ⊢; exact H)
      have hji5_ : (IntKind.u64.wrap (1 * 2 ^ min a1.toNat 64)) = ji5 := hji5
      have hji5z : a1 ≤ 64 → (IntKind.u64.wrap (1 * 2 ^ a1.toNat)) = ji5 := shl_small hji5
      have hji5u : (IntKind.u64.wrap (2 ^ min a1.toNat 64)) = ji5 := by have h_ := hji5_; rw [Int.one_mul] at h_; exact h_
      have hji5v : a1 ≤ 64 → (IntKind.u64.wrap (2 ^ a1.toNat)) = ji5 := fun hle_ => by have h_ := hji5z hle_; rw [Int.one_mul] at h_; exact h_
      by_cases c6 : 0 ≤ a0
      · rw [if_pos c6] at H
        have c6b0 := eq_true c6
        have c6b1 : decide (0 ≤ a0) = true := decide_eq_true c6
        clear c6
        obtain ⟨ji7, hji7⟩ : ∃ j_ : Int, (shl .u64 (IntKind.u64.wrap ((ji5) - 1)) a0) = j_ := ⟨_, rfl⟩
        replace H : (some ji7) = some r := by first | (rw [hji7] at H; exact H) | (simp only [hji7] at H ⊢; exact H)
        have hji7_ : (IntKind.u64.wrap ((IntKind.u64.wrap ((ji5) - 1)) * 2 ^ min a0.toNat 64)) = ji7 := hji7
        have hji7z : a0 ≤ 64 → (IntKind.u64.wrap ((IntKind.u64.wrap ((ji5) - 1)) * 2 ^ a0.toNat)) = ji7 := shl_small hji7
        obtain rfl := Option.some.inj H
        go_enter Tryd.func14, Tryd.ntmps14
        go_wp2
        go_ret
        exact ⟨by first | rfl | (simp; done) | (simp only [← hji5, ← hji7] <;> (first | rfl | simp)) | (simp [*]; done), by repeat (first | exact Drawn0.refl _ | apply Drawn0.step)⟩
      · rw [if_neg c6] at H
        exact absurd H (by simp)
    · rw [if_neg c4] at H
      exact absurd H (by simp)

attribute [local go_sem] signed_i64 signed_i32 signed_u32 max_u32 signed_u64 max_u64
/-! ### ssarewrite_DecodePPC64RotateMask: function 32 -/
def ssarewrite_DecodePPC64RotateMask.f (a0 : Int) : Option (Int × Int × Int × Int) := if 0 ≤ (IntKind.u64.wrap (wrap64 ((wrap64 (Go.bits .and .u64 ((IntKind.u64.wrap (a0)) / 16777216) 255)) - (wrap64 (Go.bits .and .u64 ((IntKind.u64.wrap (a0)) / 256) 255))))) then (if 0 ≤ (IntKind.u64.wrap (wrap64 ((wrap64 (Go.bits .and .u64 ((IntKind.u64.wrap (a0)) / 16777216) 255)) - (wrap64 (Go.bits .and .u64 (IntKind.u64.wrap (a0)) 255))))) then (if (wrap64 (Go.bits .and .u64 ((IntKind.u64.wrap (a0)) / 256) 255)) > (wrap64 (Go.bits .and .u64 (IntKind.u64.wrap (a0)) 255)) then (if (wrap64 (Go.bits .and .u64 ((IntKind.u64.wrap (a0)) / 16777216) 255)) = 32 then (some (wrap64 (Go.bits .and .u64 ((IntKind.u64.wrap (a0)) / 65536) 255), wrap64 (Go.bits .and .u64 ((IntKind.u64.wrap (a0)) / 256) 255), Go.bits .and .i64 (wrap64 ((wrap64 (Go.bits .and .u64 (IntKind.u64.wrap (a0)) 255)) - 1)) (wrap64 ((wrap64 (Go.bits .and .u64 ((IntKind.u64.wrap (a0)) / 16777216) 255)) - 1)), (Go.bits .xor .u64 18446744073709551615 (Go.bits .xor .u64 (IntKind.u64.wrap ((shl .u64 1 (IntKind.u64.wrap (wrap64 ((wrap64 (Go.bits .and .u64 ((IntKind.u64.wrap (a0)) / 16777216) 255)) - (wrap64 (Go.bits .and .u64 ((IntKind.u64.wrap (a0)) / 256) 255)))))) - 1)) (IntKind.u64.wrap ((shl .u64 1 (IntKind.u64.wrap (wrap64 ((wrap64 (Go.bits .and .u64 ((IntKind.u64.wrap (a0)) / 16777216) 255)) - (wrap64 (Go.bits .and .u64 (IntKind.u64.wrap (a0)) 255)))))) - 1)))) % 4294967296)) else (some (wrap64 (Go.bits .and .u64 ((IntKind.u64.wrap (a0)) / 65536) 255), wrap64 (Go.bits .and .u64 ((IntKind.u64.wrap (a0)) / 256) 255), Go.bits .and .i64 (wrap64 ((wrap64 (Go.bits .and .u64 (IntKind.u64.wrap (a0)) 255)) - 1)) (wrap64 ((wrap64 (Go.bits .and .u64 ((IntKind.u64.wrap (a0)) / 16777216) 255)) - 1)), Go.bits .xor .u64 18446744073709551615 (Go.bits .xor .u64 (IntKind.u64.wrap ((shl .u64 1 (IntKind.u64.wrap (wrap64 ((wrap64 (Go.bits .and .u64 ((IntKind.u64.wrap (a0)) / 16777216) 255)) - (wrap64 (Go.bits .and .u64 ((IntKind.u64.wrap (a0)) / 256) 255)))))) - 1)) (IntKind.u64.wrap ((shl .u64 1 (IntKind.u64.wrap (wrap64 ((wrap64 (Go.bits .and .u64 ((IntKind.u64.wrap (a0)) / 16777216) 255)) - (wrap64 (Go.bits .and .u64 (IntKind.u64.wrap (a0)) 255)))))) - 1)))))) else (if (wrap64 (Go.bits .and .u64 ((IntKind.u64.wrap (a0)) / 16777216) 255)) = 32 then (some (wrap64 (Go.bits .and .u64 ((IntKind.u64.wrap (a0)) / 65536) 255), wrap64 (Go.bits .and .u64 ((IntKind.u64.wrap (a0)) / 256) 255), Go.bits .and .i64 (wrap64 ((wrap64 (Go.bits .and .u64 (IntKind.u64.wrap (a0)) 255)) - 1)) (wrap64 ((wrap64 (Go.bits .and .u64 ((IntKind.u64.wrap (a0)) / 16777216) 255)) - 1)), (Go.bits .xor .u64 (IntKind.u64.wrap ((shl .u64 1 (IntKind.u64.wrap (wrap64 ((wrap64 (Go.bits .and .u64 ((IntKind.u64.wrap (a0)) / 16777216) 255)) - (wrap64 (Go.bits .and .u64 ((IntKind.u64.wrap (a0)) / 256) 255)))))) - 1)) (IntKind.u64.wrap ((shl .u64 1 (IntKind.u64.wrap (wrap64 ((wrap64 (Go.bits .and .u64 ((IntKind.u64.wrap (a0)) / 16777216) 255)) - (wrap64 (Go.bits .and .u64 (IntKind.u64.wrap (a0)) 255)))))) - 1))) % 4294967296)) else (some (wrap64 (Go.bits .and .u64 ((IntKind.u64.wrap (a0)) / 65536) 255), wrap64 (Go.bits .and .u64 ((IntKind.u64.wrap (a0)) / 256) 255), Go.bits .and .i64 (wrap64 ((wrap64 (Go.bits .and .u64 (IntKind.u64.wrap (a0)) 255)) - 1)) (wrap64 ((wrap64 (Go.bits .and .u64 ((IntKind.u64.wrap (a0)) / 16777216) 255)) - 1)), Go.bits .xor .u64 (IntKind.u64.wrap ((shl .u64 1 (IntKind.u64.wrap (wrap64 ((wrap64 (Go.bits .and .u64 ((IntKind.u64.wrap (a0)) / 16777216) 255)) - (wrap64 (Go.bits .and .u64 ((IntKind.u64.wrap (a0)) / 256) 255)))))) - 1)) (IntKind.u64.wrap ((shl .u64 1 (IntKind.u64.wrap (wrap64 ((wrap64 (Go.bits .and .u64 ((IntKind.u64.wrap (a0)) / 16777216) 255)) - (wrap64 (Go.bits .and .u64 (IntKind.u64.wrap (a0)) 255)))))) - 1)))))) else (none)) else (none)
set_option maxHeartbeats 8000000 in
set_option maxRecDepth 100000 in
theorem ssarewrite_DecodePPC64RotateMask.calls (a0 : Int) (r1 : Int) (r2 : Int) (r3 : Int) (r4 : Int) (w : World) (h : ssarewrite_DecodePPC64RotateMask.f a0 = some (r1, r2, r3, r4)) :
    Calls Tryd.prog 32 #[.int .i64 a0] w fun e w' => e = .returned (.tuple #[.int .i64 r1, .int .i64 r2, .int .i64 r3, .int .u64 r4]) ∧ Drawn0 w w' := by
  have H : (if 0 ≤ (IntKind.u64.wrap (wrap64 ((wrap64 (Go.bits .and .u64 ((IntKind.u64.wrap (a0)) / 16777216) 255)) - (wrap64 (Go.bits .and .u64 ((IntKind.u64.wrap (a0)) / 256) 255))))) then (if 0 ≤ (IntKind.u64.wrap (wrap64 ((wrap64 (Go.bits .and .u64 ((IntKind.u64.wrap (a0)) / 16777216) 255)) - (wrap64 (Go.bits .and .u64 (IntKind.u64.wrap (a0)) 255))))) then (if (wrap64 (Go.bits .and .u64 ((IntKind.u64.wrap (a0)) / 256) 255)) > (wrap64 (Go.bits .and .u64 (IntKind.u64.wrap (a0)) 255)) then (if (wrap64 (Go.bits .and .u64 ((IntKind.u64.wrap (a0)) / 16777216) 255)) = 32 then (some (wrap64 (Go.bits .and .u64 ((IntKind.u64.wrap (a0)) / 65536) 255), wrap64 (Go.bits .and .u64 ((IntKind.u64.wrap (a0)) / 256) 255), Go.bits .and .i64 (wrap64 ((wrap64 (Go.bits .and .u64 (IntKind.u64.wrap (a0)) 255)) - 1)) (wrap64 ((wrap64 (Go.bits .and .u64 ((IntKind.u64.wrap (a0)) / 16777216) 255)) - 1)), (Go.bits .xor .u64 18446744073709551615 (Go.bits .xor .u64 (IntKind.u64.wrap ((shl .u64 1 (IntKind.u64.wrap (wrap64 ((wrap64 (Go.bits .and .u64 ((IntKind.u64.wrap (a0)) / 16777216) 255)) - (wrap64 (Go.bits .and .u64 ((IntKind.u64.wrap (a0)) / 256) 255)))))) - 1)) (IntKind.u64.wrap ((shl .u64 1 (IntKind.u64.wrap (wrap64 ((wrap64 (Go.bits .and .u64 ((IntKind.u64.wrap (a0)) / 16777216) 255)) - (wrap64 (Go.bits .and .u64 (IntKind.u64.wrap (a0)) 255)))))) - 1)))) % 4294967296)) else (some (wrap64 (Go.bits .and .u64 ((IntKind.u64.wrap (a0)) / 65536) 255), wrap64 (Go.bits .and .u64 ((IntKind.u64.wrap (a0)) / 256) 255), Go.bits .and .i64 (wrap64 ((wrap64 (Go.bits .and .u64 (IntKind.u64.wrap (a0)) 255)) - 1)) (wrap64 ((wrap64 (Go.bits .and .u64 ((IntKind.u64.wrap (a0)) / 16777216) 255)) - 1)), Go.bits .xor .u64 18446744073709551615 (Go.bits .xor .u64 (IntKind.u64.wrap ((shl .u64 1 (IntKind.u64.wrap (wrap64 ((wrap64 (Go.bits .and .u64 ((IntKind.u64.wrap (a0)) / 16777216) 255)) - (wrap64 (Go.bits .and .u64 ((IntKind.u64.wrap (a0)) / 256) 255)))))) - 1)) (IntKind.u64.wrap ((shl .u64 1 (IntKind.u64.wrap (wrap64 ((wrap64 (Go.bits .and .u64 ((IntKind.u64.wrap (a0)) / 16777216) 255)) - (wrap64 (Go.bits .and .u64 (IntKind.u64.wrap (a0)) 255)))))) - 1)))))) else (if (wrap64 (Go.bits .and .u64 ((IntKind.u64.wrap (a0)) / 16777216) 255)) = 32 then (some (wrap64 (Go.bits .and .u64 ((IntKind.u64.wrap (a0)) / 65536) 255), wrap64 (Go.bits .and .u64 ((IntKind.u64.wrap (a0)) / 256) 255), Go.bits .and .i64 (wrap64 ((wrap64 (Go.bits .and .u64 (IntKind.u64.wrap (a0)) 255)) - 1)) (wrap64 ((wrap64 (Go.bits .and .u64 ((IntKind.u64.wrap (a0)) / 16777216) 255)) - 1)), (Go.bits .xor .u64 (IntKind.u64.wrap ((shl .u64 1 (IntKind.u64.wrap (wrap64 ((wrap64 (Go.bits .and .u64 ((IntKind.u64.wrap (a0)) / 16777216) 255)) - (wrap64 (Go.bits .and .u64 ((IntKind.u64.wrap (a0)) / 256) 255)))))) - 1)) (IntKind.u64.wrap ((shl .u64 1 (IntKind.u64.wrap (wrap64 ((wrap64 (Go.bits .and .u64 ((IntKind.u64.wrap (a0)) / 16777216) 255)) - (wrap64 (Go.bits .and .u64 (IntKind.u64.wrap (a0)) 255)))))) - 1))) % 4294967296)) else (some (wrap64 (Go.bits .and .u64 ((IntKind.u64.wrap (a0)) / 65536) 255), wrap64 (Go.bits .and .u64 ((IntKind.u64.wrap (a0)) / 256) 255), Go.bits .and .i64 (wrap64 ((wrap64 (Go.bits .and .u64 (IntKind.u64.wrap (a0)) 255)) - 1)) (wrap64 ((wrap64 (Go.bits .and .u64 ((IntKind.u64.wrap (a0)) / 16777216) 255)) - 1)), Go.bits .xor .u64 (IntKind.u64.wrap ((shl .u64 1 (IntKind.u64.wrap (wrap64 ((wrap64 (Go.bits .and .u64 ((IntKind.u64.wrap (a0)) / 16777216) 255)) - (wrap64 (Go.bits .and .u64 ((IntKind.u64.wrap (a0)) / 256) 255)))))) - 1)) (IntKind.u64.wrap ((shl .u64 1 (IntKind.u64.wrap (wrap64 ((wrap64 (Go.bits .and .u64 ((IntKind.u64.wrap (a0)) / 16777216) 255)) - (wrap64 (Go.bits .and .u64 (IntKind.u64.wrap (a0)) 255)))))) - 1)))))) else (none)) else (none)) = some (r1, r2, r3, r4) := h
  clear h
  obtain ⟨ji2, hji2⟩ : ∃ j_ : Int, (IntKind.u64.wrap (wrap64 ((wrap64 (Go.bits .and .u64 ((IntKind.u64.wrap (a0)) / 16777216) 255)) - (wrap64 (Go.bits .and .u64 ((IntKind.u64.wrap (a0)) / 256) 255))))) = j_ := ⟨_, rfl⟩
  replace H : (if 0 ≤ (ji2) then (if 0 ≤ (IntKind.u64.wrap (wrap64 ((wrap64 (Go.bits .and .u64 ((IntKind.u64.wrap (a0)) / 16777216) 255)) - (wrap64 (Go.bits .and .u64 (IntKind.u64.wrap (a0)) 255))))) then (if (wrap64 (Go.bits .and .u64 ((IntKind.u64.wrap (a0)) / 256) 255)) > (wrap64 (Go.bits .and .u64 (IntKind.u64.wrap (a0)) 255)) then (if (wrap64 (Go.bits .and .u64 ((IntKind.u64.wrap (a0)) / 16777216) 255)) = 32 then (some (wrap64 (Go.bits .and .u64 ((IntKind.u64.wrap (a0)) / 65536) 255), wrap64 (Go.bits .and .u64 ((IntKind.u64.wrap (a0)) / 256) 255), Go.bits .and .i64 (wrap64 ((wrap64 (Go.bits .and .u64 (IntKind.u64.wrap (a0)) 255)) - 1)) (wrap64 ((wrap64 (Go.bits .and .u64 ((IntKind.u64.wrap (a0)) / 16777216) 255)) - 1)), (Go.bits .xor .u64 18446744073709551615 (Go.bits .xor .u64 (IntKind.u64.wrap ((shl .u64 1 (ji2)) - 1)) (IntKind.u64.wrap ((shl .u64 1 (IntKind.u64.wrap (wrap64 ((wrap64 (Go.bits .and .u64 ((IntKind.u64.wrap (a0)) / 16777216) 255)) - (wrap64 (Go.bits .and .u64 (IntKind.u64.wrap (a0)) 255)))))) - 1)))) % 4294967296)) else (some (wrap64 (Go.bits .and .u64 ((IntKind.u64.wrap (a0)) / 65536) 255), wrap64 (Go.bits .and .u64 ((IntKind.u64.wrap (a0)) / 256) 255), Go.bits .and .i64 (wrap64 ((wrap64 (Go.bits .and .u64 (IntKind.u64.wrap (a0)) 255)) - 1)) (wrap64 ((wrap64 (Go.bits .and .u64 ((IntKind.u64.wrap (a0)) / 16777216) 255)) - 1)), Go.bits .xor .u64 18446744073709551615 (Go.bits .xor .u64 (IntKind.u64.wrap ((shl .u64 1 (ji2)) - 1)) (IntKind.u64.wrap ((shl .u64 1 (IntKind.u64.wrap (wrap64 ((wrap64 (Go.bits .and .u64 ((IntKind.u64.wrap (a0)) / 16777216) 255)) - (wrap64 (Go.bits .and .u64 (IntKind.u64.wrap (a0)) 255)))))) - 1)))))) else (if (wrap64 (Go.bits .and .u64 ((IntKind.u64.wrap (a0)) / 16777216) 255)) = 32 then (some (wrap64 (Go.bits .and .u64 ((IntKind.u64.wrap (a0)) / 65536) 255), wrap64 (Go.bits .and .u64 ((IntKind.u64.wrap (a0)) / 256) 255), Go.bits .and .i64 (wrap64 ((wrap64 (Go.bits .and .u64 (IntKind.u64.wrap (a0)) 255)) - 1)) (wrap64 ((wrap64 (Go.bits .and .u64 ((IntKind.u64.wrap (a0)) / 16777216) 255)) - 1)), (Go.bits .xor .u64 (IntKind.u64.wrap ((shl .u64 1 (ji2)) - 1)) (IntKind.u64.wrap ((shl .u64 1 (IntKind.u64.wrap (wrap64 ((wrap64 (Go.bits .and .u64 ((IntKind.u64.wrap (a0)) / 16777216) 255)) - (wrap64 (Go.bits .and .u64 (IntKind.u64.wrap (a0)) 255)))))) - 1))) % 4294967296)) else (some (wrap64 (Go.bits .and .u64 ((IntKind.u64.wrap (a0)) / 65536) 255), wrap64 (Go.bits .and .u64 ((IntKind.u64.wrap (a0)) / 256) 255), Go.bits .and .i64 (wrap64 ((wrap64 (Go.bits .and .u64 (IntKind.u64.wrap (a0)) 255)) - 1)) (wrap64 ((wrap64 (Go.bits .and .u64 ((IntKind.u64.wrap (a0)) / 16777216) 255)) - 1)), Go.bits .xor .u64 (IntKind.u64.wrap ((shl .u64 1 (ji2)) - 1)) (IntKind.u64.wrap ((shl .u64 1 (IntKind.u64.wrap (wrap64 ((wrap64 (Go.bits .and .u64 ((IntKind.u64.wrap (a0)) / 16777216) 255)) - (wrap64 (Go.bits .and .u64 (IntKind.u64.wrap (a0)) 255)))))) - 1)))))) else (none)) else (none)) = some (r1, r2, r3, r4) := by first | (rw [hji2] at H; exact H) | (simp only [hji2] at H ⊢; exact H)
  by_cases c3 : 0 ≤ (ji2)
  · rw [if_pos c3] at H
    have c3b0 := eq_true c3
    have c3b1 : decide (0 ≤ (ji2)) = true := decide_eq_true c3
    clear c3
    obtain ⟨ji4, hji4⟩ : ∃ j_ : Int, (shl .u64 1 (ji2)) = j_ := ⟨_, rfl⟩
    replace H : (if 0 ≤ (IntKind.u64.wrap (wrap64 ((wrap64 (Go.bits .and .u64 ((IntKind.u64.wrap (a0)) / 16777216) 255)) - (wrap64 (Go.bits .and .u64 (IntKind.u64.wrap (a0)) 255))))) then (if (wrap64 (Go.bits .and .u64 ((IntKind.u64.wrap (a0)) / 256) 255)) > (wrap64 (Go.bits .and .u64 (IntKind.u64.wrap (a0)) 255)) then (if (wrap64 (Go.bits .and .u64 ((IntKind.u64.wrap (a0)) / 16777216) 255)) = 32 then (some (wrap64 (Go.bits .and .u64 ((IntKind.u64.wrap (a0)) / 65536) 255), wrap64 (Go.bits .and .u64 ((IntKind.u64.wrap (a0)) / 256) 255), Go.bits .and .i64 (wrap64 ((wrap64 (Go.bits .and .u64 (IntKind.u64.wrap (a0)) 255)) - 1)) (wrap64 ((wrap64 (Go.bits .and .u64 ((IntKind.u64.wrap (a0)) / 16777216) 255)) - 1)), (Go.bits .xor .u64 18446744073709551615 (Go.bits .xor .u64 (IntKind.u64.wrap ((ji4) - 1)) (IntKind.u64.wrap ((shl .u64 1 (IntKind.u64.wrap (wrap64 ((wrap64 (Go.bits .and .u64 ((IntKind.u64.wrap (a0)) / 16777216) 255)) - (wrap64 (Go.bits .and .u64 (IntKind.u64.wrap (a0)) 255)))))) - 1)))) % 4294967296)) else (some (wrap64 (Go.bits .and .u64 ((IntKind.u64.wrap (a0)) / 65536) 255), wrap64 (Go.bits .and .u64 ((IntKind.u64.wrap (a0)) / 256) 255), Go.bits .and .i64 (wrap64 ((wrap64 (Go.bits .and .u64 (IntKind.u64.wrap (a0)) 255)) - 1)) (wrap64 ((wrap64 (Go.bits .and .u64 ((IntKind.u64.wrap (a0)) / 16777216) 255)) - 1)), Go.bits .xor .u64 18446744073709551615 (Go.bits .xor .u64 (IntKind.u64.wrap ((ji4) - 1)) (IntKind.u64.wrap ((shl .u64 1 (IntKind.u64.wrap (wrap64 ((wrap64 (Go.bits .and .u64 ((IntKind.u64.wrap (a0)) / 16777216) 255)) - (wrap64 (Go.bits .and .u64 (IntKind.u64.wrap (a0)) 255)))))) - 1)))))) else (if (wrap64 (Go.bits .and .u64 ((IntKind.u64.wrap (a0)) / 16777216) 255)) = 32 then (some (wrap64 (Go.bits .and .u64 ((IntKind.u64.wrap (a0)) / 65536) 255), wrap64 (Go.bits .and .u64 ((IntKind.u64.wrap (a0)) / 256) 255), Go.bits .and .i64 (wrap64 ((wrap64 (Go.bits .and .u64 (IntKind.u64.wrap (a0)) 255)) - 1)) (wrap64 ((wrap64 (Go.bits .and .u64 ((IntKind.u64.wrap (a0)) / 16777216) 255)) - 1)), (Go.bits .xor .u64 (IntKind.u64.wrap ((ji4) - 1)) (IntKind.u64.wrap ((shl .u64 1 (IntKind.u64.wrap (wrap64 ((wrap64 (Go.bits .and .u64 ((IntKind.u64.wrap (a0)) / 16777216) 255)) - (wrap64 (Go.bits .and .u64 (IntKind.u64.wrap (a0)) 255)))))) - 1))) % 4294967296)) else (some (wrap64 (Go.bits .and .u64 ((IntKind.u64.wrap (a0)) / 65536) 255), wrap64 (Go.bits .and .u64 ((IntKind.u64.wrap (a0)) / 256) 255), Go.bits .and .i64 (wrap64 ((wrap64 (Go.bits .and .u64 (IntKind.u64.wrap (a0)) 255)) - 1)) (wrap64 ((wrap64 (Go.bits .and .u64 ((IntKind.u64.wrap (a0)) / 16777216) 255)) - 1)), Go.bits .xor .u64 (IntKind.u64.wrap ((ji4) - 1)) (IntKind.u64.wrap ((shl .u64 1 (IntKind.u64.wrap (wrap64 ((wrap64 (Go.bits .and .u64 ((IntKind.u64.wrap (a0)) / 16777216) 255)) - (wrap64 (Go.bits .and .u64 (IntKind.u64.wrap (a0)) 255)))))) - 1)))))) else (none)) = some (r1, r2, r3, r4) := by first | (rw [hji4] at H; exact H) | (simp only [hji4] at H ⊢; exact H)
    have hji4_ : (IntKind.u64.wrap (1 * 2 ^ min (ji2).toNat 64)) = ji4 := hji4
    have hji4z : (ji2) ≤ 64 → (IntKind.u64.wrap (1 * 2 ^ (ji2).toNat)) = ji4 := shl_small hji4
    have hji4u : (IntKind.u64.wrap (2 ^ min (ji2).toNat 64)) = ji4 := by have h_ := hji4_; rw [Int.one_mul] at h_; exact h_
    have hji4v : (ji2) ≤ 64 → (IntKind.u64.wrap (2 ^ (ji2).toNat)) = ji4 := fun hle_ => by have h_ := hji4z hle_; rw [Int.one_mul] at h_; exact h_
    obtain ⟨ji5, hji5⟩ : ∃ j_ : Int, (IntKind.u64.wrap (wrap64 ((wrap64 (Go.bits .and .u64 ((IntKind.u64.wrap (a0)) / 16777216) 255)) - (wrap64 (Go.bits .and .u64 (IntKind.u64.wrap (a0)) 255))))) = j_ := ⟨_, rfl⟩
    replace H : (if 0 ≤ (ji5) then (if (wrap64 (Go.bits .and .u64 ((IntKind.u64.wrap (a0)) / 256) 255)) > (wrap64 (Go.bits .and .u64 (IntKind.u64.wrap (a0)) 255)) then (if (wrap64 (Go.bits .and .u64 ((IntKind.u64.wrap (a0)) / 16777216) 255)) = 32 then (some (wrap64 (Go.bits .and .u64 ((IntKind.u64.wrap (a0)) / 65536) 255), wrap64 (Go.bits .and .u64 ((IntKind.u64.wrap (a0)) / 256) 255), Go.bits .and .i64 (wrap64 ((wrap64 (Go.bits .and .u64 (IntKind.u64.wrap (a0)) 255)) - 1)) (wrap64 ((wrap64 (Go.bits .and .u64 ((IntKind.u64.wrap (a0)) / 16777216) 255)) - 1)), (Go.bits .xor .u64 18446744073709551615 (Go.bits .xor .u64 (IntKind.u64.wrap ((ji4) - 1)) (IntKind.u64.wrap ((shl .u64 1 (ji5)) - 1)))) % 4294967296)) else (some (wrap64 (Go.bits .and .u64 ((IntKind.u64.wrap (a0)) / 65536) 255), wrap64 (Go.bits .and .u64 ((IntKind.u64.wrap (a0)) / 256) 255), Go.bits .and .i64 (wrap64 ((wrap64 (Go.bits .and .u64 (IntKind.u64.wrap (a0)) 255)) - 1)) (wrap64 ((wrap64 (Go.bits .and .u64 ((IntKind.u64.wrap (a0)) / 16777216) 255)) - 1)), Go.bits .xor .u64 18446744073709551615 (Go.bits .xor .u64 (IntKind.u64.wrap ((ji4) - 1)) (IntKind.u64.wrap ((shl .u64 1 (ji5)) - 1)))))) else (if (wrap64 (Go.bits .and .u64 ((IntKind.u64.wrap (a0)) / 16777216) 255)) = 32 then (some (wrap64 (Go.bits .and .u64 ((IntKind.u64.wrap (a0)) / 65536) 255), wrap64 (Go.bits .and .u64 ((IntKind.u64.wrap (a0)) / 256) 255), Go.bits .and .i64 (wrap64 ((wrap64 (Go.bits .and .u64 (IntKind.u64.wrap (a0)) 255)) - 1)) (wrap64 ((wrap64 (Go.bits .and .u64 ((IntKind.u64.wrap (a0)) / 16777216) 255)) - 1)), (Go.bits .xor .u64 (IntKind.u64.wrap ((ji4) - 1)) (IntKind.u64.wrap ((shl .u64 1 (ji5)) - 1))) % 4294967296)) else (some (wrap64 (Go.bits .and .u64 ((IntKind.u64.wrap (a0)) / 65536) 255), wrap64 (Go.bits .and .u64 ((IntKind.u64.wrap (a0)) / 256) 255), Go.bits .and .i64 (wrap64 ((wrap64 (Go.bits .and .u64 (IntKind.u64.wrap (a0)) 255)) - 1)) (wrap64 ((wrap64 (Go.bits .and .u64 ((IntKind.u64.wrap (a0)) / 16777216) 255)) - 1)), Go.bits .xor .u64 (IntKind.u64.wrap ((ji4) - 1)) (IntKind.u64.wrap ((shl .u64 1 (ji5)) - 1)))))) else (none)) = some (r1, r2, r3, r4) := by first | (rw [hji5] at H; exact H) | (simp only [hji5] at H ⊢; exact H)
    by_cases c6 : 0 ≤ (ji5)
    · rw [if_pos c6] at H
      have c6b0 := eq_true c6
      have c6b1 : decide (0 ≤ (ji5)) = true := decide_eq_true c6
      clear c6
      obtain ⟨ji7, hji7⟩ : ∃ j_ : Int, (shl .u64 1 (ji5)) = j_ := ⟨_, rfl⟩
      replace H : (if (wrap64 (Go.bits .and .u64 ((IntKind.u64.wrap (a0)) / 256) 255)) > (wrap64 (Go.bits .and .u64 (IntKind.u64.wrap (a0)) 255)) then (if (wrap64 (Go.bits .and .u64 ((IntKind.u64.wrap (a0)) / 16777216) 255)) = 32 then (some (wrap64 (Go.bits .and .u64 ((IntKind.u64.wrap (a0)) / 65536) 255), wrap64 (Go.bits .and .u64 ((IntKind.u64.wrap (a0)) / 256) 255), Go.bits .and .i64 (wrap64 ((wrap64 (Go.bits .and .u64 (IntKind.u64.wrap (a0)) 255)) - 1)) (wrap64 ((wrap64 (Go.bits .and .u64 ((IntKind.u64.wrap (a0)) / 16777216) 255)) - 1)), (Go.bits .xor .u64 18446744073709551615 (Go.bits .xor .u64 (IntKind.u64.wrap ((ji4) - 1)) (IntKind.u64.wrap ((ji7) - 1)))) % 4294967296)) else (some (wrap64 (Go.bits .and .u64 ((IntKind.u64.wrap (a0)) / 65536) 255), wrap64 (Go.bits .and .u64 ((IntKind.u64.wrap (a0)) / 256) 255), Go.bits .and .i64 (wrap64 ((wrap64 (Go.bits .and .u64 (IntKind.u64.wrap (a0)) 255)) - 1)) (wrap64 ((wrap64 (Go.bits .and .u64 ((IntKind.u64.wrap (a0)) / 16777216) 255)) - 1)), Go.bits .xor .u64 18446744073709551615 (Go.bits .xor .u64 (IntKind.u64.wrap ((ji4) - 1)) (IntKind.u64.wrap ((ji7) - 1)))))) else (if (wrap64 (Go.bits .and .u64 ((IntKind.u64.wrap (a0)) / 16777216) 255)) = 32 then (some (wrap64 (Go.bits .and .u64 ((IntKind.u64.wrap (a0)) / 65536) 255), wrap64 (Go.bits .and .u64 ((IntKind.u64.wrap (a0)) / 256) 255), Go.bits .and .i64 (wrap64 ((wrap64 (Go.bits .and .u64 (IntKind.u64.wrap (a0)) 255)) - 1)) (wrap64 ((wrap64 (Go.bits .and .u64 ((IntKind.u64.wrap (a0)) / 16777216) 255)) - 1)), (Go.bits .xor .u64 (IntKind.u64.wrap ((ji4) - 1)) (IntKind.u64.wrap ((ji7) - 1))) % 4294967296)) else (some (wrap64 (Go.bits .and .u64 ((IntKind.u64.wrap (a0)) / 65536) 255), wrap64 (Go.bits .and .u64 ((IntKind.u64.wrap (a0)) / 256) 255), Go.bits .and .i64 (wrap64 ((wrap64 (Go.bits .and .u64 (IntKind.u64.wrap (a0)) 255)) - 1)) (wrap64 ((wrap64 (Go.bits .and .u64 ((IntKind.u64.wrap (a0)) / 16777216) 255)) - 1)), Go.bits .xor .u64 (IntKind.u64.wrap ((ji4) - 1)) (IntKind.u64.wrap ((ji7) - 1)))))) = some (r1, r2, r3, r4) := by first | (rw [hji7] at H; exact H) | (simp only [hji7] at H ⊢; exact H)
      have hji7_ : (IntKind.u64.wrap (1 * 2 ^ min (ji5).toNat 64)) = ji7 := hji7
      have hji7z : (ji5) ≤ 64 → (IntKind.u64.wrap (1 * 2 ^ (ji5).toNat)) = ji7 := shl_small hji7
      have hji7u : (IntKind.u64.wrap (2 ^ min (ji5).toNat 64)) = ji7 := by have h_ := hji7_; rw [Int.one_mul] at h_; exact h_
      have hji7v : (ji5) ≤ 64 → (IntKind.u64.wrap (2 ^ (ji5).toNat)) = ji7 := fun hle_ => by have h_ := hji7z hle_; rw [Int.one_mul] at h_; exact h_
      by_cases c8 : (wrap64 (Go.bits .and .u64 ((IntKind.u64.wrap (a0)) / 256) 255)) > (wrap64 (Go.bits .and .u64 (IntKind.u64.wrap (a0)) 255))
      · rw [if_pos c8] at H
        have c8b0 : decide ((wrap64 (Go.bits .and .u64 (IntKind.u64.wrap (a0)) 255)) < (wrap64 (Go.bits .and .u64 ((IntKind.u64.wrap (a0)) / 256) 255))) = true := decide_eq_true c8
        clear c8
        by_cases c9 : (wrap64 (Go.bits .and .u64 ((IntKind.u64.wrap (a0)) / 16777216) 255)) = 32
        · rw [if_pos c9] at H
          have c9b0 : ((wrap64 (Go.bits .and .u64 ((IntKind.u64.wrap (a0)) / 16777216) 255)) == 32) = true := beq_iff_eq.mpr c9
          have c9b1 : ((wrap64 (Go.bits .and .u64 ((IntKind.u64.wrap (a0)) / 16777216) 255)) != 32) = false := bne_eq_false_iff_eq.mpr c9
          clear c9
          simp only [Option.some.injEq, Prod.mk.injEq] at H
          obtain ⟨rfl, rfl, rfl, rfl⟩ := H
          go_enter Tryd.func32, Tryd.ntmps32
          go_wp2
          refine bodyPost_ret (results_list (rs := [.tmp 2, .tmp 3, .tmp 4, .tmp 5]) rfl (by simp) (.tmp (.tmp (.tmp (.tmp .nil))))) rfl ?_
          exact ⟨by first | rfl | (simp; done) | (simp only [← hji2, ← hji4, ← hji5, ← hji7] <;> (first | rfl | simp)) | (simp [*]; done), by repeat (first | exact Drawn0.refl _ | apply Drawn0.step)⟩
        · rw [if_neg c9] at H
          have c9b0 : ((wrap64 (Go.bits .and .u64 ((IntKind.u64.wrap (a0)) / 16777216) 255)) == 32) = false := beq_eq_false_iff_ne.mpr c9
          have c9b1 : ((wrap64 (Go.bits .and .u64 ((IntKind.u64.wrap (a0)) / 16777216) 255)) != 32) = true := bne_iff_ne.mpr c9
          simp only [Option.some.injEq, Prod.mk.injEq] at H
          obtain ⟨rfl, rfl, rfl, rfl⟩ := H
          go_enter Tryd.func32, Tryd.ntmps32
          go_wp2
          refine bodyPost_ret (results_list (rs := [.tmp 2, .tmp 3, .tmp 4, .tmp 5]) rfl (by simp) (.tmp (.tmp (.tmp (.tmp .nil))))) rfl ?_
          exact ⟨by first | rfl | (simp; done) | (simp only [← hji2, ← hji4, ← hji5, ← hji7] <;> (first | rfl | simp)) | (simp [*]; done), by repeat (first | exact Drawn0.refl _ | apply Drawn0.step)⟩
      · rw [if_neg c8] at H
        have c8b0 : decide ((wrap64 (Go.bits .and .u64 (IntKind.u64.wrap (a0)) 255)) < (wrap64 (Go.bits .and .u64 ((IntKind.u64.wrap (a0)) / 256) 255))) = false := decide_eq_false c8
        clear c8
        by_cases c10 : (wrap64 (Go.bits .and .u64 ((IntKind.u64.wrap (a0)) / 16777216) 255)) = 32
        · rw [if_pos c10] at H
          have c10b0 : ((wrap64 (Go.bits .and .u64 ((IntKind.u64.wrap (a0)) / 16777216) 255)) == 32) = true := beq_iff_eq.mpr c10
          have c10b1 : ((wrap64 (Go.bits .and .u64 ((IntKind.u64.wrap (a0)) / 16777216) 255)) != 32) = false := bne_eq_false_iff_eq.mpr c10
          clear c10
          simp only [Option.some.injEq, Prod.mk.injEq] at H
          obtain ⟨rfl, rfl, rfl, rfl⟩ := H
          go_enter Tryd.func32, Tryd.ntmps32
          go_wp2
          refine bodyPost_ret (results_list (rs := [.tmp 2, .tmp 3, .tmp 4, .tmp 5]) rfl (by simp) (.tmp (.tmp (.tmp (.tmp .nil))))) rfl ?_
          exact ⟨by first | rfl | (simp; done) | (simp only [← hji2, ← hji4, ← hji5, ← hji7] <;> (first | rfl | simp)) | (simp [*]; done), by repeat (first | exact Drawn0.refl _ | apply Drawn0.step)⟩
        · rw [if_neg c10] at H
          have c10b0 : ((wrap64 (Go.bits .and .u64 ((IntKind.u64.wrap (a0)) / 16777216) 255)) == 32) = false := beq_eq_false_iff_ne.mpr c10
          have c10b1 : ((wrap64 (Go.bits .and .u64 ((IntKind.u64.wrap (a0)) / 16777216) 255)) != 32) = true := bne_iff_ne.mpr c10
          simp only [Option.some.injEq, Prod.mk.injEq] at H
          obtain ⟨rfl, rfl, rfl, rfl⟩ := H
          go_enter Tryd.func32, Tryd.ntmps32
          go_wp2
          refine bodyPost_ret (results_list (rs := [.tmp 2, .tmp 3, .tmp 4, .tmp 5]) rfl (by simp) (.tmp (.tmp (.tmp (.tmp .nil))))) rfl ?_
          exact ⟨by first | rfl | (simp; done) | (simp only [← hji2, ← hji4, ← hji5, ← hji7] <;> (first | rfl | simp)) | (simp [*]; done), by repeat (first | exact Drawn0.refl _ | apply Drawn0.step)⟩
    · rw [if_neg c6] at H
      exact absurd H (by simp)
  · rw [if_neg c3] at H
    exact absurd H (by simp)

attribute [local go_sem] signed_i64 signed_i32 signed_u32 max_u32 signed_u64 max_u64
/-! ### impl_DecodeRotateMask: function 15 -/
def impl_DecodeRotateMask.f (a0 : Int) : Option (Int × Int × Int × Int) := (ssarewrite_DecodePPC64RotateMask.f a0).bind fun bt111 => (some (bt111.1, bt111.2.1, bt111.2.2.1, bt111.2.2.2))
set_option maxHeartbeats 8000000 in
set_option maxRecDepth 100000 in
theorem impl_DecodeRotateMask.calls (a0 : Int) (r1 : Int) (r2 : Int) (r3 : Int) (r4 : Int) (w : World) (h : impl_DecodeRotateMask.f a0 = some (r1, r2, r3, r4)) :
    Calls Tryd.prog 15 #[.int .i64 a0] w fun e w' => e = .returned (.tuple #[.int .i64 r1, .int .i64 r2, .int .i64 r3, .int .u64 r4]) ∧ Drawn0 w w' := by
  have H : ((ssarewrite_DecodePPC64RotateMask.f a0).bind fun bt111 => (some (bt111.1, bt111.2.1, bt111.2.2.1, bt111.2.2.2))) = some (r1, r2, r3, r4) := h
  clear h
  replace H := Option.bind_eq_some_iff.mp H
  obtain ⟨⟨t111, t112, t113, t114⟩, A20, H⟩ := H
  replace H : (some (t111, t112, t113, t114)) = some (r1, r2, r3, r4) := H
  have A2 := Aside0.mk A20
  clear A20
  simp only [Option.some.injEq, Prod.mk.injEq] at H
  obtain ⟨rfl, rfl, rfl, rfl⟩ := H
  go_enter Tryd.func15, Tryd.ntmps15
  go_wp2_with (first | ((with_reducible refine gate_callee (f := 32) rfl ?_); refine goesL_ (some 7) rfl rfl Tryd.func32 (by kernel_rfl) rfl #[.int .i64 a0] rfl (by (try simp only [List.map_toArray, List.map_cons, List.map_nil]); first | done | rfl | (simp only [List.length_drop, List.length_take]; rfl)) ?_; (with_reducible refine (ssarewrite_DecodePPC64RotateMask.calls a0 t111 t112 t113 t114 _ A2.out).mono ?_); rintro e w' ⟨rfl, ⟨nd, rfl⟩⟩; refine ⟨_, rfl, ?_⟩))
  refine bodyPost_ret (results_list (rs := [.tmp 2, .tmp 3, .tmp 4, .tmp 5]) rfl (by simp) (.tmp (.tmp (.tmp (.tmp .nil))))) rfl ?_
  exact ⟨by first | rfl | (simp; done) | (simp [*]; done), by repeat (first | exact Drawn0.refl _ | apply Drawn0.step)⟩

attribute [local go_sem] signed_i64 signed_i32 signed_u32 max_u32 signed_u64 max_u64
/-! ### ssarewrite_mergePPC64RLDICLandSRDconst: function 47 -/
def ssarewrite_mergePPC64RLDICLandSRDconst.f (a0 : Int) (a1 : Int) : Option (Int) := if (Go.bits .and .i64 (a0 / 256) 255) < a1 then (if (Go.bits .and .i64 (Go.bits .or .i64 (Go.bits .andNot .i64 a0 65280) (wrap64 (a1 * 256))) 16711680) = 0 then (some (Go.bits .or .i64 (Go.bits .or .i64 (Go.bits .andNot .i64 a0 65280) (wrap64 (a1 * 256))) (wrap64 ((wrap64 (64 - a1)) * 65536)))) else (none)) else (if (Go.bits .and .i64 a0 16711680) = 0 then (some (Go.bits .or .i64 a0 (wrap64 ((wrap64 (64 - a1)) * 65536)))) else (none))
set_option maxHeartbeats 8000000 in
set_option maxRecDepth 100000 in
theorem ssarewrite_mergePPC64RLDICLandSRDconst.calls (a0 : Int) (a1 : Int) (r : Int) (w : World) (h : ssarewrite_mergePPC64RLDICLandSRDconst.f a0 a1 = some r) :
    Calls Tryd.prog 47 #[.int .i64 a0, .int .i64 a1] w fun e w' => e = .returned (.int .i64 r) ∧ Drawn0 w w' := by
  have H : (if (Go.bits .and .i64 (a0 / 256) 255) < a1 then (if (Go.bits .and .i64 (Go.bits .or .i64 (Go.bits .andNot .i64 a0 65280) (wrap64 (a1 * 256))) 16711680) = 0 then (some (Go.bits .or .i64 (Go.bits .or .i64 (Go.bits .andNot .i64 a0 65280) (wrap64 (a1 * 256))) (wrap64 ((wrap64 (64 - a1)) * 65536)))) else (none)) else (if (Go.bits .and .i64 a0 16711680) = 0 then (some (Go.bits .or .i64 a0 (wrap64 ((wrap64 (64 - a1)) * 65536)))) else (none))) = some r := h
  clear h
  by_cases c3 : (Go.bits .and .i64 (a0 / 256) 255) < a1
  · rw [if_pos c3] at H
    have c3b0 : decide ((Go.bits .and .i64 (a0 / 256) 255) < a1) = true := decide_eq_true c3
    clear c3
    by_cases c4 : (Go.bits .and .i64 (Go.bits .or .i64 (Go.bits .andNot .i64 a0 65280) (wrap64 (a1 * 256))) 16711680) = 0
    · rw [if_pos c4] at H
      have c4b0 : ((Go.bits .and .i64 (Go.bits .or .i64 (Go.bits .andNot .i64 a0 65280) (wrap64 (a1 * 256))) 16711680) == 0) = true := beq_iff_eq.mpr c4
      have c4b1 : ((Go.bits .and .i64 (Go.bits .or .i64 (Go.bits .andNot .i64 a0 65280) (wrap64 (a1 * 256))) 16711680) != 0) = false := bne_eq_false_iff_eq.mpr c4
      clear c4
      obtain rfl := Option.some.inj H
      go_enter Tryd.func47, Tryd.ntmps47
      go_wp2
      go_ret
      exact ⟨by first | rfl | (simp; done) | (simp [*]; done), by repeat (first | exact Drawn0.refl _ | apply Drawn0.step)⟩
    · rw [if_neg c4] at H
      exact absurd H (by simp)
  · rw [if_neg c3] at H
    have c3b0 : decide ((Go.bits .and .i64 (a0 / 256) 255) < a1) = false := decide_eq_false c3
    clear c3
    by_cases c5 : (Go.bits .and .i64 a0 16711680) = 0
    · rw [if_pos c5] at H
      have c5b0 : ((Go.bits .and .i64 a0 16711680) == 0) = true := beq_iff_eq.mpr c5
      have c5b1 : ((Go.bits .and .i64 a0 16711680) != 0) = false := bne_eq_false_iff_eq.mpr c5
      clear c5
      obtain rfl := Option.some.inj H
      go_enter Tryd.func47, Tryd.ntmps47
      go_wp2
      go_ret
      exact ⟨by first | rfl | (simp; done) | (simp [*]; done), by repeat (first | exact Drawn0.refl _ | apply Drawn0.step)⟩
    · rw [if_neg c5] at H
      exact absurd H (by simp)

attribute [local go_sem] signed_i64 signed_i32 signed_u32 max_u32 signed_u64 max_u64
/-! ### ssarewrite_ZZMergePPC64RLDICLandSRDconst: function 33 -/
def ssarewrite_ZZMergePPC64RLDICLandSRDconst.f (a0 : Int) (a1 : Int) : Option (Int) := (ssarewrite_mergePPC64RLDICLandSRDconst.f a0 a1).bind fun t115 => (some t115)
set_option maxHeartbeats 8000000 in
set_option maxRecDepth 100000 in
theorem ssarewrite_ZZMergePPC64RLDICLandSRDconst.calls (a0 : Int) (a1 : Int) (r : Int) (w : World) (h : ssarewrite_ZZMergePPC64RLDICLandSRDconst.f a0 a1 = some r) :
    Calls Tryd.prog 33 #[.int .i64 a0, .int .i64 a1] w fun e w' => e = .returned (.int .i64 r) ∧ Drawn0 w w' := by
  have H : ((ssarewrite_mergePPC64RLDICLandSRDconst.f a0 a1).bind fun t115 => (some t115)) = some r := h
  clear h
  replace H := Option.bind_eq_some_iff.mp H
  obtain ⟨t115, A30, H⟩ := H
  replace H : (some t115) = some r := H
  have A3 := Aside0.mk A30
  clear A30
  obtain rfl := Option.some.inj H
  go_enter Tryd.func33, Tryd.ntmps33
  go_wp2_with (first | ((with_reducible refine gate_callee (f := 47) rfl ?_); refine goesL_ (some 7) rfl rfl Tryd.func47 (by kernel_rfl) rfl #[.int .i64 a0, .int .i64 a1] rfl (by (try simp only [List.map_toArray, List.map_cons, List.map_nil]); first | done | rfl | (simp only [List.length_drop, List.length_take]; rfl)) ?_; (with_reducible refine (ssarewrite_mergePPC64RLDICLandSRDconst.calls a0 a1 t115 _ A3.out).mono ?_); rintro e w' ⟨rfl, ⟨nd, rfl⟩⟩; refine ⟨_, rfl, ?_⟩))
  go_ret
  exact ⟨by first | rfl | (simp; done) | (simp [*]; done), by repeat (first | exact Drawn0.refl _ | apply Drawn0.step)⟩

attribute [local go_sem] signed_i64 signed_i32 signed_u32 max_u32 signed_u64 max_u64
/-! ### impl_RldiclSrd: function 17 -/
def impl_RldiclSrd.f (a0 : Int) (a1 : Int) : Option (Int) := (ssarewrite_ZZMergePPC64RLDICLandSRDconst.f a0 a1).bind fun t116 => (some t116)
set_option maxHeartbeats 8000000 in
set_option maxRecDepth 100000 in
theorem impl_RldiclSrd.calls (a0 : Int) (a1 : Int) (r : Int) (w : World) (h : impl_RldiclSrd.f a0 a1 = some r) :
    Calls Tryd.prog 17 #[.int .i64 a0, .int .i64 a1] w fun e w' => e = .returned (.int .i64 r) ∧ Drawn0 w w' := by
  have H : ((ssarewrite_ZZMergePPC64RLDICLandSRDconst.f a0 a1).bind fun t116 => (some t116)) = some r := h
  clear h
  replace H := Option.bind_eq_some_iff.mp H
  obtain ⟨t116, A30, H⟩ := H
  replace H : (some t116) = some r := H
  have A3 := Aside0.mk A30
  clear A30
  obtain rfl := Option.some.inj H
  go_enter Tryd.func17, Tryd.ntmps17
  go_wp2_with (first | ((with_reducible refine gate_callee (f := 33) rfl ?_); refine goesL_ (some 7) rfl rfl Tryd.func33 (by kernel_rfl) rfl #[.int .i64 a0, .int .i64 a1] rfl (by (try simp only [List.map_toArray, List.map_cons, List.map_nil]); first | done | rfl | (simp only [List.length_drop, List.length_take]; rfl)) ?_; (with_reducible refine (ssarewrite_ZZMergePPC64RLDICLandSRDconst.calls a0 a1 t116 _ A3.out).mono ?_); rintro e w' ⟨rfl, ⟨nd, rfl⟩⟩; refine ⟨_, rfl, ?_⟩))
  go_ret
  exact ⟨by first | rfl | (simp; done) | (simp [*]; done), by repeat (first | exact Drawn0.refl _ | apply Drawn0.step)⟩

attribute [local go_sem] signed_i64 signed_i32 signed_u32 max_u32 signed_u64 max_u64
/-! ### spec_Low: function 19 -/
def spec_Low.f (a0 : Int) (a1 : Int) : Option (Int) := if a1 ≥ 64 then (some a0) else (if 0 ≤ a1 then (if (shl .u64 1 a1) = 0 then (none) else (some (Int.tmod a0 (shl .u64 1 a1)))) else (none))
set_option maxHeartbeats 8000000 in
set_option maxRecDepth 100000 in
theorem spec_Low.calls (a0 : Int) (a1 : Int) (r : Int) (w : World) (h : spec_Low.f a0 a1 = some r) :
    Calls Tryd.prog 19 #[.int .u64 a0, .int .u64 a1] w fun e w' => e = .returned (.int .u64 r) ∧ Drawn0 w w' := by
  have H : (if a1 ≥ 64 then (some a0) else (if 0 ≤ a1 then (if (shl .u64 1 a1) = 0 then (none) else (some (Int.tmod a0 (shl .u64 1 a1)))) else (none))) = some r := h
  clear h
  by_cases c3 : a1 ≥ 64
  · rw [if_pos c3] at H
    have c3b0 : decide (64 ≤ a1) = true := decide_eq_true c3
    clear c3
    obtain rfl := Option.some.inj H
    go_enter Tryd.func19, Tryd.ntmps19
    go_wp2
    go_ret
    exact ⟨by first | rfl | (simp; done) | (simp [*]; done), by repeat (first | exact Drawn0.refl _ | apply Drawn0.step)⟩
  · rw [if_neg c3] at H
    have c3b0 : decide (64 ≤ a1) = false := decide_eq_false c3
    clear c3
    by_cases c4 : 0 ≤ a1
    · rw [if_pos c4] at H
      have c4b0 := eq_true c4
      have c4b1 : decide (0 ≤ a1) = true := decide_eq_true c4
      clear c4
      obtain ⟨ji5, hji5⟩ : ∃ j_ : Int, (shl .u64 1 a1) = j_ := ⟨_, rfl⟩
      replace H : (if (ji5) = 0 then (none) else (some (Int.tmod a0 (ji5)))) = some r := by first | (rw [hji5] at H; exact H) | (simp only [hji5] at H ⊢; exact H)
      have hji5_ : (IntKind.u64.wrap (1 * 2 ^ min a1.toNat 64)) = ji5 := hji5
      have hji5z : a1 ≤ 64 → (IntKind.u64.wrap (1 * 2 ^ a1.toNat)) = ji5 := shl_small hji5
      have hji5u : (IntKind.u64.wrap (2 ^ min a1.toNat 64)) = ji5 := by have h_ := hji5_; rw [Int.one_mul] at h_; exact h_
      have hji5v : a1 ≤ 64 → (IntKind.u64.wrap (2 ^ a1.toNat)) = ji5 := fun hle_ => by have h_ := hji5z hle_; rw [Int.one_mul] at h_; exact h_
      by_cases c6 : (ji5) = 0
      · rw [if_pos c6] at H
        exact absurd H (by simp)
      · rw [if_neg c6] at H
        have c6b0 : ((ji5) == 0) = false := beq_eq_false_iff_ne.mpr c6
        have c6b1 : ((ji5) != 0) = true := bne_iff_ne.mpr c6
        obtain rfl := Option.some.inj H
        go_enter Tryd.func19, Tryd.ntmps19
        go_wp2
        go_ret
        exact ⟨by first | rfl | (simp; done) | (simp only [← hji5] <;> (first | rfl | simp)) | (simp [*]; done), by repeat (first | exact Drawn0.refl _ | apply Drawn0.step)⟩
    · rw [if_neg c4] at H
      exact absurd H (by simp)

attribute [local go_sem] signed_i64 signed_i32 signed_u32 max_u32 signed_u64 max_u64
/-! ### spec_Turn: function 34 -/
def spec_Turn.f (a0 : Int) (a1 : Int) (a2 : Int) : Option (Int) := if a1 = 0 then (none) else ((spec_Low.f a0 a1).bind fun t117 => (if 0 ≤ (Int.tmod a2 a1) then (if 0 ≤ (IntKind.u64.wrap (a1 - (Int.tmod a2 a1))) then ((spec_Low.f (Go.bits .or .u64 (shl .u64 t117 (Int.tmod a2 a1)) (shr .u64 t117 (IntKind.u64.wrap (a1 - (Int.tmod a2 a1))))) a1).bind fun t118 => (some t118)) else (none)) else (none)))
set_option maxHeartbeats 8000000 in
set_option maxRecDepth 100000 in
theorem spec_Turn.calls (a0 : Int) (a1 : Int) (a2 : Int) (r : Int) (w : World) (h : spec_Turn.f a0 a1 a2 = some r) :
    Calls Tryd.prog 34 #[.int .u64 a0, .int .u64 a1, .int .u64 a2] w fun e w' => e = .returned (.int .u64 r) ∧ Drawn0 w w' := by
  have H : (if a1 = 0 then (none) else ((spec_Low.f a0 a1).bind fun t117 => (if 0 ≤ (Int.tmod a2 a1) then (if 0 ≤ (IntKind.u64.wrap (a1 - (Int.tmod a2 a1))) then ((spec_Low.f (Go.bits .or .u64 (shl .u64 t117 (Int.tmod a2 a1)) (shr .u64 t117 (IntKind.u64.wrap (a1 - (Int.tmod a2 a1))))) a1).bind fun t118 => (some t118)) else (none)) else (none)))) = some r := h
  clear h
  by_cases c4 : a1 = 0
  · rw [if_pos c4] at H
    exact absurd H (by simp)
  · rw [if_neg c4] at H
    have c4b0 : (a1 == 0) = false := beq_eq_false_iff_ne.mpr c4
    have c4b1 : (a1 != 0) = true := bne_iff_ne.mpr c4
    replace H := Option.bind_eq_some_iff.mp H
    obtain ⟨t117, A50, H⟩ := H
    replace H : (if 0 ≤ (Int.tmod a2 a1) then (if 0 ≤ (IntKind.u64.wrap (a1 - (Int.tmod a2 a1))) then ((spec_Low.f (Go.bits .or .u64 (shl .u64 t117 (Int.tmod a2 a1)) (shr .u64 t117 (IntKind.u64.wrap (a1 - (Int.tmod a2 a1))))) a1).bind fun t118 => (some t118)) else (none)) else (none)) = some r := H
    have A5 := Aside0.mk A50
    clear A50
    obtain ⟨ji6, hji6⟩ : ∃ j_ : Int, (Int.tmod a2 a1) = j_ := ⟨_, rfl⟩
    replace H : (if 0 ≤ (ji6) then (if 0 ≤ (IntKind.u64.wrap (a1 - (ji6))) then ((spec_Low.f (Go.bits .or .u64 (shl .u64 t117 (ji6)) (shr .u64 t117 (IntKind.u64.wrap (a1 - (ji6))))) a1).bind fun t118 => (some t118)) else (none)) else (none)) = some r := by first | (rw [hji6] at H; exact H) | (simp only [hji6] at H ⊢; exact H)
    (try rw [hji6] at A5)
    by_cases c7 : 0 ≤ (ji6)
    · rw [if_pos c7] at H
      have c7b0 := eq_true c7
      have c7b1 : decide (0 ≤ (ji6)) = true := decide_eq_true c7
      clear c7
      obtain ⟨ji8, hji8⟩ : ∃ j_ : Int, (shl .u64 t117 (ji6)) = j_ := ⟨_, rfl⟩
      replace H : (if 0 ≤ (IntKind.u64.wrap (a1 - (ji6))) then ((spec_Low.f (Go.bits .or .u64 (ji8) (shr .u64 t117 (IntKind.u64.wrap (a1 - (ji6))))) a1).bind fun t118 => (some t118)) else (none)) = some r := by first | (rw [hji8] at H; exact H) | (simp only [hji8] at H ⊢; exact H)
      (try rw [hji8] at A5)
      have hji8_ : (IntKind.u64.wrap (t117 * 2 ^ min (ji6).toNat 64)) = ji8 := hji8
      have hji8z : (ji6) ≤ 64 → (IntKind.u64.wrap (t117 * 2 ^ (ji6).toNat)) = ji8 := shl_small hji8
      obtain ⟨ji9, hji9⟩ : ∃ j_ : Int, (IntKind.u64.wrap (a1 - (ji6))) = j_ := ⟨_, rfl⟩
      replace H : (if 0 ≤ (ji9) then ((spec_Low.f (Go.bits .or .u64 (ji8) (shr .u64 t117 (ji9))) a1).bind fun t118 => (some t118)) else (none)) = some r := by first | (rw [hji9] at H; exact H) | (simp only [hji9] at H ⊢; exact H)
      (try rw [hji9] at A5)
      by_cases c10 : 0 ≤ (ji9)
      · rw [if_pos c10] at H
        have c10b0 := eq_true c10
        have c10b1 : decide (0 ≤ (ji9)) = true := decide_eq_true c10
        clear c10
        obtain ⟨ji11, hji11⟩ : ∃ j_ : Int, (shr .u64 t117 (ji9)) = j_ := ⟨_, rfl⟩
        replace H : ((spec_Low.f (Go.bits .or .u64 (ji8) (ji11)) a1).bind fun t118 => (some t118)) = some r := by first | (rw [hji11] at H; exact H) | (simp only [hji11] at H ⊢; exact H)
        (try rw [hji11] at A5)
        have hji11_ : (t117 / 2 ^ min (ji9).toNat 64) = ji11 := hji11
        have hji11z : (ji9) ≤ 64 → (t117 / 2 ^ (ji9).toNat) = ji11 := shr_small hji11
        replace H := Option.bind_eq_some_iff.mp H
        obtain ⟨t118, A120, H⟩ := H
        replace H : (some t118) = some r := H
        have A12 := Aside0.mk A120
        clear A120
        obtain rfl := Option.some.inj H
        go_enter Tryd.func34, Tryd.ntmps34
        go_wp2_with (first | ((with_reducible refine gate_callee (f := 19) rfl ?_); refine goesL_ (some 12) rfl rfl Tryd.func19 (by kernel_rfl) rfl #[.int .u64 a0, .int .u64 a1] rfl (by (try simp only [List.map_toArray, List.map_cons, List.map_nil]); first | done | rfl | (simp only [List.length_drop, List.length_take]; rfl)) ?_; (with_reducible refine (spec_Low.calls a0 a1 t117 _ A5.out).mono ?_); rintro e w' ⟨rfl, ⟨nd, rfl⟩⟩; refine ⟨_, rfl, ?_⟩) | ((with_reducible refine gate_callee (f := 19) rfl ?_); refine goesL_ (some 23) rfl rfl Tryd.func19 (by kernel_rfl) rfl #[.int .u64 (Go.bits .or .u64 (ji8) (ji11)), .int .u64 a1] rfl (by (try simp only [List.map_toArray, List.map_cons, List.map_nil]); first | done | (simp only [hji11, hji8]; rfl) | rfl | (simp only [List.length_drop, List.length_take]; rfl)) ?_; (with_reducible refine (spec_Low.calls (Go.bits .or .u64 (ji8) (ji11)) a1 t118 _ A12.out).mono ?_); rintro e w' ⟨rfl, ⟨nd, rfl⟩⟩; refine ⟨_, rfl, ?_⟩))
        go_ret
        exact ⟨by first | rfl | (simp; done) | (simp only [← hji6, ← hji8, ← hji9, ← hji11] <;> (first | rfl | simp)) | (simp [*]; done), by repeat (first | exact Drawn0.refl _ | apply Drawn0.step)⟩
      · rw [if_neg c10] at H
        exact absurd H (by simp)
    · rw [if_neg c7] at H
      exact absurd H (by simp)

attribute [local go_sem] signed_i64 signed_i32 signed_u32 max_u32 signed_u64 max_u64
/-! ### spec_Rotated: function 18 -/
def spec_Rotated.f (a0 : Int) (a1 : Int) (a2 : Int) (a3 : Int) : Option (Int) := (spec_Turn.f a0 a1 a2).bind fun t119 => (some (Go.bits .and .u64 t119 a3))
set_option maxHeartbeats 8000000 in
set_option maxRecDepth 100000 in
theorem spec_Rotated.calls (a0 : Int) (a1 : Int) (a2 : Int) (a3 : Int) (r : Int) (w : World) (h : spec_Rotated.f a0 a1 a2 a3 = some r) :
    Calls Tryd.prog 18 #[.int .u64 a0, .int .u64 a1, .int .u64 a2, .int .u64 a3] w fun e w' => e = .returned (.int .u64 r) ∧ Drawn0 w w' := by
  have H : ((spec_Turn.f a0 a1 a2).bind fun t119 => (some (Go.bits .and .u64 t119 a3))) = some r := h
  clear h
  replace H := Option.bind_eq_some_iff.mp H
  obtain ⟨t119, A50, H⟩ := H
  replace H : (some (Go.bits .and .u64 t119 a3)) = some r := H
  have A5 := Aside0.mk A50
  clear A50
  obtain rfl := Option.some.inj H
  go_enter Tryd.func18, Tryd.ntmps18
  go_wp2_with (first | ((with_reducible refine gate_callee (f := 34) rfl ?_); refine goesL_ (some 12) rfl rfl Tryd.func34 (by kernel_rfl) rfl #[.int .u64 a0, .int .u64 a1, .int .u64 a2] rfl (by (try simp only [List.map_toArray, List.map_cons, List.map_nil]); first | done | rfl | (simp only [List.length_drop, List.length_take]; rfl)) ?_; (with_reducible refine (spec_Turn.calls a0 a1 a2 t119 _ A5.out).mono ?_); rintro e w' ⟨rfl, ⟨nd, rfl⟩⟩; refine ⟨_, rfl, ?_⟩))
  go_ret
  exact ⟨by first | rfl | (simp; done) | (simp [*]; done), by repeat (first | exact Drawn0.refl _ | apply Drawn0.step)⟩

attribute [local go_sem] signed_i64 signed_i32 signed_u32 max_u32 signed_u64 max_u64
/-! ### laws_FnRldiclSrd: function 5 -/
def laws_FnRldiclSrd.f (k : Nat) (a0 : Int) (a1 : Int) (a2 : Int) : Option (Bool) := (laws_rwAt.f a0 63).bind fun t120 => ((laws_rwAt.f a1 64).bind fun t121 => ((spec_Run.f 0 (IntKind.u64.wrap (1 + (IntKind.u64.wrap (t120))))).bind fun t122 => ((impl_EncodeRotateMask.f k 0 (wrap64 (t122)) 64).bind fun t123 => ((impl_RldiclSrd.f t123 t121).bind fun t124 => ((impl_DecodeRotateMask.f t124).bind fun bt125 => (if (Go.bits .and .i64 (t124 / 16777216) 255) = 64 then ((spec_Rotated.f a2 64 (Int.tmod (IntKind.u64.wrap (bt125.1)) 64) bt125.2.2.2).bind fun t129 => (if 0 ≤ t121 then ((spec_Low.f (shr .u64 a2 t121) (IntKind.u64.wrap (1 + (IntKind.u64.wrap (t120))))).bind fun t130 => (some (t129 == t130))) else (none))) else (some false)))))))
theorem laws_FnRldiclSrd.mono : ∀ a0 a1 a2 k, LeO (laws_FnRldiclSrd.f k a0 a1 a2) (laws_FnRldiclSrd.f (k + 1) a0 a1 a2) := by
  intro a0 a1 a2 k
  unfold laws_FnRldiclSrd.f
  repeat' first
      | (with_reducible exact impl_EncodeRotateMask.mono _ _ _ _)
      | (with_reducible exact LeO.refl _)
      | (with_reducible exact LeO.none _)
      | (with_reducible refine LeO.ite ?_ ?_)
      | (with_reducible refine LeO.bind ?_ (fun _ => ?_))
      | exact impl_EncodeRotateMask.mono _ _ _ _
      | exact LeO.none _
      | refine LeO.ite ?_ ?_
      | refine LeO.bind ?_ (fun _ => ?_)
set_option maxHeartbeats 8000000 in
set_option maxRecDepth 100000 in
theorem laws_FnRldiclSrd.calls (k : Nat) (a0 : Int) (a1 : Int) (a2 : Int) (r : Bool) (w : World) (hT : Tab0 w) (h : laws_FnRldiclSrd.f k a0 a1 a2 = some r) :
    Calls Tryd.prog 5 #[.int .i64 a0, .int .i64 a1, .int .u64 a2] w fun e w' => e = .returned (.bool r) ∧ Drawn0 w w' := by
  have H : ((laws_rwAt.f a0 63).bind fun t120 => ((laws_rwAt.f a1 64).bind fun t121 => ((spec_Run.f 0 (IntKind.u64.wrap (1 + (IntKind.u64.wrap (t120))))).bind fun t122 => ((impl_EncodeRotateMask.f k 0 (wrap64 (t122)) 64).bind fun t123 => ((impl_RldiclSrd.f t123 t121).bind fun t124 => ((impl_DecodeRotateMask.f t124).bind fun bt125 => (if (Go.bits .and .i64 (t124 / 16777216) 255) = 64 then ((spec_Rotated.f a2 64 (Int.tmod (IntKind.u64.wrap (bt125.1)) 64) bt125.2.2.2).bind fun t129 => (if 0 ≤ t121 then ((spec_Low.f (shr .u64 a2 t121) (IntKind.u64.wrap (1 + (IntKind.u64.wrap (t120))))).bind fun t130 => (some (t129 == t130))) else (none))) else (some false)))))))) = some r := h
  clear h
  replace H := Option.bind_eq_some_iff.mp H
  obtain ⟨t120, A40, H⟩ := H
  replace H : ((laws_rwAt.f a1 64).bind fun t121 => ((spec_Run.f 0 (IntKind.u64.wrap (1 + (IntKind.u64.wrap (t120))))).bind fun t122 => ((impl_EncodeRotateMask.f k 0 (wrap64 (t122)) 64).bind fun t123 => ((impl_RldiclSrd.f t123 t121).bind fun t124 => ((impl_DecodeRotateMask.f t124).bind fun bt125 => (if (Go.bits .and .i64 (t124 / 16777216) 255) = 64 then ((spec_Rotated.f a2 64 (Int.tmod (IntKind.u64.wrap (bt125.1)) 64) bt125.2.2.2).bind fun t129 => (if 0 ≤ t121 then ((spec_Low.f (shr .u64 a2 t121) (IntKind.u64.wrap (1 + (IntKind.u64.wrap (t120))))).bind fun t130 => (some (t129 == t130))) else (none))) else (some false))))))) = some r := H
  have A4 := Aside0.mk A40
  clear A40
  replace H := Option.bind_eq_some_iff.mp H
  obtain ⟨t121, A50, H⟩ := H
  replace H : ((spec_Run.f 0 (IntKind.u64.wrap (1 + (IntKind.u64.wrap (t120))))).bind fun t122 => ((impl_EncodeRotateMask.f k 0 (wrap64 (t122)) 64).bind fun t123 => ((impl_RldiclSrd.f t123 t121).bind fun t124 => ((impl_DecodeRotateMask.f t124).bind fun bt125 => (if (Go.bits .and .i64 (t124 / 16777216) 255) = 64 then ((spec_Rotated.f a2 64 (Int.tmod (IntKind.u64.wrap (bt125.1)) 64) bt125.2.2.2).bind fun t129 => (if 0 ≤ t121 then ((spec_Low.f (shr .u64 a2 t121) (IntKind.u64.wrap (1 + (IntKind.u64.wrap (t120))))).bind fun t130 => (some (t129 == t130))) else (none))) else (some false)))))) = some r := H
  have A5 := Aside0.mk A50
  clear A50
  replace H := Option.bind_eq_some_iff.mp H
  obtain ⟨t122, A60, H⟩ := H
  replace H : ((impl_EncodeRotateMask.f k 0 (wrap64 (t122)) 64).bind fun t123 => ((impl_RldiclSrd.f t123 t121).bind fun t124 => ((impl_DecodeRotateMask.f t124).bind fun bt125 => (if (Go.bits .and .i64 (t124 / 16777216) 255) = 64 then ((spec_Rotated.f a2 64 (Int.tmod (IntKind.u64.wrap (bt125.1)) 64) bt125.2.2.2).bind fun t129 => (if 0 ≤ t121 then ((spec_Low.f (shr .u64 a2 t121) (IntKind.u64.wrap (1 + (IntKind.u64.wrap (t120))))).bind fun t130 => (some (t129 == t130))) else (none))) else (some false))))) = some r := H
  have A6 := Aside0.mk A60
  clear A60
  replace H := Option.bind_eq_some_iff.mp H
  obtain ⟨t123, A70, H⟩ := H
  replace H : ((impl_RldiclSrd.f t123 t121).bind fun t124 => ((impl_DecodeRotateMask.f t124).bind fun bt125 => (if (Go.bits .and .i64 (t124 / 16777216) 255) = 64 then ((spec_Rotated.f a2 64 (Int.tmod (IntKind.u64.wrap (bt125.1)) 64) bt125.2.2.2).bind fun t129 => (if 0 ≤ t121 then ((spec_Low.f (shr .u64 a2 t121) (IntKind.u64.wrap (1 + (IntKind.u64.wrap (t120))))).bind fun t130 => (some (t129 == t130))) else (none))) else (some false)))) = some r := H
  have A7 := Aside0.mk A70
  clear A70
  replace H := Option.bind_eq_some_iff.mp H
  obtain ⟨t124, A80, H⟩ := H
  replace H : ((impl_DecodeRotateMask.f t124).bind fun bt125 => (if (Go.bits .and .i64 (t124 / 16777216) 255) = 64 then ((spec_Rotated.f a2 64 (Int.tmod (IntKind.u64.wrap (bt125.1)) 64) bt125.2.2.2).bind fun t129 => (if 0 ≤ t121 then ((spec_Low.f (shr .u64 a2 t121) (IntKind.u64.wrap (1 + (IntKind.u64.wrap (t120))))).bind fun t130 => (some (t129 == t130))) else (none))) else (some false))) = some r := H
  have A8 := Aside0.mk A80
  clear A80
  replace H := Option.bind_eq_some_iff.mp H
  obtain ⟨⟨t125, t126, t127, t128⟩, A90, H⟩ := H
  replace H : (if (Go.bits .and .i64 (t124 / 16777216) 255) = 64 then ((spec_Rotated.f a2 64 (Int.tmod (IntKind.u64.wrap (t125)) 64) t128).bind fun t129 => (if 0 ≤ t121 then ((spec_Low.f (shr .u64 a2 t121) (IntKind.u64.wrap (1 + (IntKind.u64.wrap (t120))))).bind fun t130 => (some (t129 == t130))) else (none))) else (some false)) = some r := H
  have A9 := Aside0.mk A90
  clear A90
  by_cases c10 : (Go.bits .and .i64 (t124 / 16777216) 255) = 64
  · rw [if_pos c10] at H
    have c10b0 : ((Go.bits .and .i64 (t124 / 16777216) 255) == 64) = true := beq_iff_eq.mpr c10
    have c10b1 : ((Go.bits .and .i64 (t124 / 16777216) 255) != 64) = false := bne_eq_false_iff_eq.mpr c10
    clear c10
    replace H := Option.bind_eq_some_iff.mp H
    obtain ⟨t129, A110, H⟩ := H
    replace H : (if 0 ≤ t121 then ((spec_Low.f (shr .u64 a2 t121) (IntKind.u64.wrap (1 + (IntKind.u64.wrap (t120))))).bind fun t130 => (some (t129 == t130))) else (none)) = some r := H
    have A11 := Aside0.mk A110
    clear A110
    by_cases c12 : 0 ≤ t121
    · rw [if_pos c12] at H
      have c12b0 := eq_true c12
      have c12b1 : decide (0 ≤ t121) = true := decide_eq_true c12
      clear c12
      obtain ⟨ji13, hji13⟩ : ∃ j_ : Int, (shr .u64 a2 t121) = j_ := ⟨_, rfl⟩
      replace H : ((spec_Low.f (ji13) (IntKind.u64.wrap (1 + (IntKind.u64.wrap (t120))))).bind fun t130 => (some (t129 == t130))) = some r := by first | (rw [hji13] at H; exact H) | (simp only [hji13] at H ⊢; exact H)
      (try rw [hji13] at A4)
      (try rw [hji13] at A5)
      (try rw [hji13] at A6)
      (try rw [hji13] at A7)
      (try rw [hji13] at A8)
      (try rw [hji13] at A9)
      (try rw [hji13] at A11)
      have hji13_ : (a2 / 2 ^ min t121.toNat 64) = ji13 := hji13
      have hji13z : t121 ≤ 64 → (a2 / 2 ^ t121.toNat) = ji13 := shr_small hji13
      replace H := Option.bind_eq_some_iff.mp H
      obtain ⟨t130, A140, H⟩ := H
      replace H : (some (t129 == t130)) = some r := H
      have A14 := Aside0.mk A140
      clear A140
      obtain rfl := Option.some.inj H
      go_enter Tryd.func5, Tryd.ntmps5
      go_wp2_with (first | (go_at_call 12; (with_reducible refine (laws_rwAt.calls a0 63 t120 _ A4.out).mono ?_); rintro e w' ⟨rfl, ⟨nd, rfl⟩⟩; (try first | exact ⟨rfl, _, World.drewN_drewN _ _ _⟩ | exact ⟨rfl, _, Eq.trans (World.drewN_drewN _ _ _) (congrArg (World.drewN _) (Nat.add_assoc _ _ _))⟩)) | (go_at_call 12; (with_reducible refine (laws_rwAt.calls a1 64 t121 _ A5.out).mono ?_); rintro e w' ⟨rfl, ⟨nd, rfl⟩⟩; (try first | exact ⟨rfl, _, World.drewN_drewN _ _ _⟩ | exact ⟨rfl, _, Eq.trans (World.drewN_drewN _ _ _) (congrArg (World.drewN _) (Nat.add_assoc _ _ _))⟩)) | (go_at_call 14; (with_reducible refine (spec_Run.calls 0 (IntKind.u64.wrap (1 + (IntKind.u64.wrap (t120)))) t122 _ A6.out).mono ?_); rintro e w' ⟨rfl, ⟨nd, rfl⟩⟩; (try first | exact ⟨rfl, _, World.drewN_drewN _ _ _⟩ | exact ⟨rfl, _, Eq.trans (World.drewN_drewN _ _ _) (congrArg (World.drewN _) (Nat.add_assoc _ _ _))⟩)) | (go_at_call 13; (with_reducible refine (impl_EncodeRotateMask.calls k 0 (wrap64 (t122)) 64 t123 _ (by first | exact hT | exact hT.drewN _ | exact (hT.drewN _).drewN _ | exact ((hT.drewN _).drewN _).drewN _ | exact hT.below HB.out | exact (hT.below HB.out).drewN _ | exact ((hT.below HB.out).drewN _).drewN _) A7.out).mono ?_); rintro e w' ⟨rfl, ⟨nd, rfl⟩⟩; (try first | exact ⟨rfl, _, World.drewN_drewN _ _ _⟩ | exact ⟨rfl, _, Eq.trans (World.drewN_drewN _ _ _) (congrArg (World.drewN _) (Nat.add_assoc _ _ _))⟩)) | (go_at_call 17; (with_reducible refine (impl_RldiclSrd.calls t123 t121 t124 _ A8.out).mono ?_); rintro e w' ⟨rfl, ⟨nd, rfl⟩⟩; (try first | exact ⟨rfl, _, World.drewN_drewN _ _ _⟩ | exact ⟨rfl, _, Eq.trans (World.drewN_drewN _ _ _) (congrArg (World.drewN _) (Nat.add_assoc _ _ _))⟩)) | (go_at_call 15; (with_reducible refine (impl_DecodeRotateMask.calls t124 t125 t126 t127 t128 _ A9.out).mono ?_); rintro e w' ⟨rfl, ⟨nd, rfl⟩⟩; (try first | exact ⟨rfl, _, World.drewN_drewN _ _ _⟩ | exact ⟨rfl, _, Eq.trans (World.drewN_drewN _ _ _) (congrArg (World.drewN _) (Nat.add_assoc _ _ _))⟩)) | (go_at_call 18; (with_reducible refine (spec_Rotated.calls a2 64 (Int.tmod (IntKind.u64.wrap (t125)) 64) t128 t129 _ A11.out).mono ?_); rintro e w' ⟨rfl, ⟨nd, rfl⟩⟩; (try first | exact ⟨rfl, _, World.drewN_drewN _ _ _⟩ | exact ⟨rfl, _, Eq.trans (World.drewN_drewN _ _ _) (congrArg (World.drewN _) (Nat.add_assoc _ _ _))⟩)) | (go_at_call 19; (with_reducible refine (spec_Low.calls ji13 (IntKind.u64.wrap (1 + (IntKind.u64.wrap (t120)))) t130 _ A14.out).mono ?_); rintro e w' ⟨rfl, ⟨nd, rfl⟩⟩; (try first | exact ⟨rfl, _, World.drewN_drewN _ _ _⟩ | exact ⟨rfl, _, Eq.trans (World.drewN_drewN _ _ _) (congrArg (World.drewN _) (Nat.add_assoc _ _ _))⟩)))
      repeat (go_quiet (first | (go_at_call 12; (with_reducible refine (laws_rwAt.calls a0 63 t120 _ A4.out).mono ?_); rintro e w' ⟨rfl, ⟨nd, rfl⟩⟩; (try first | exact ⟨rfl, _, World.drewN_drewN _ _ _⟩ | exact ⟨rfl, _, Eq.trans (World.drewN_drewN _ _ _) (congrArg (World.drewN _) (Nat.add_assoc _ _ _))⟩)) | (go_at_call 12; (with_reducible refine (laws_rwAt.calls a1 64 t121 _ A5.out).mono ?_); rintro e w' ⟨rfl, ⟨nd, rfl⟩⟩; (try first | exact ⟨rfl, _, World.drewN_drewN _ _ _⟩ | exact ⟨rfl, _, Eq.trans (World.drewN_drewN _ _ _) (congrArg (World.drewN _) (Nat.add_assoc _ _ _))⟩)) | (go_at_call 14; (with_reducible refine (spec_Run.calls 0 (IntKind.u64.wrap (1 + (IntKind.u64.wrap (t120)))) t122 _ A6.out).mono ?_); rintro e w' ⟨rfl, ⟨nd, rfl⟩⟩; (try first | exact ⟨rfl, _, World.drewN_drewN _ _ _⟩ | exact ⟨rfl, _, Eq.trans (World.drewN_drewN _ _ _) (congrArg (World.drewN _) (Nat.add_assoc _ _ _))⟩)) | (go_at_call 13; (with_reducible refine (impl_EncodeRotateMask.calls k 0 (wrap64 (t122)) 64 t123 _ (by first | exact hT | exact hT.drewN _ | exact (hT.drewN _).drewN _ | exact ((hT.drewN _).drewN _).drewN _ | exact hT.below HB.out | exact (hT.below HB.out).drewN _ | exact ((hT.below HB.out).drewN _).drewN _) A7.out).mono ?_); rintro e w' ⟨rfl, ⟨nd, rfl⟩⟩; (try first | exact ⟨rfl, _, World.drewN_drewN _ _ _⟩ | exact ⟨rfl, _, Eq.trans (World.drewN_drewN _ _ _) (congrArg (World.drewN _) (Nat.add_assoc _ _ _))⟩)) | (go_at_call 17; (with_reducible refine (impl_RldiclSrd.calls t123 t121 t124 _ A8.out).mono ?_); rintro e w' ⟨rfl, ⟨nd, rfl⟩⟩; (try first | exact ⟨rfl, _, World.drewN_drewN _ _ _⟩ | exact ⟨rfl, _, Eq.trans (World.drewN_drewN _ _ _) (congrArg (World.drewN _) (Nat.add_assoc _ _ _))⟩)) | (go_at_call 15; (with_reducible refine (impl_DecodeRotateMask.calls t124 t125 t126 t127 t128 _ A9.out).mono ?_); rintro e w' ⟨rfl, ⟨nd, rfl⟩⟩; (try first | exact ⟨rfl, _, World.drewN_drewN _ _ _⟩ | exact ⟨rfl, _, Eq.trans (World.drewN_drewN _ _ _) (congrArg (World.drewN _) (Nat.add_assoc _ _ _))⟩)) | (go_at_call 18; (with_reducible refine (spec_Rotated.calls a2 64 (Int.tmod (IntKind.u64.wrap (t125)) 64) t128 t129 _ A11.out).mono ?_); rintro e w' ⟨rfl, ⟨nd, rfl⟩⟩; (try first | exact ⟨rfl, _, World.drewN_drewN _ _ _⟩ | exact ⟨rfl, _, Eq.trans (World.drewN_drewN _ _ _) (congrArg (World.drewN _) (Nat.add_assoc _ _ _))⟩)) | (go_at_call 19; (with_reducible refine (spec_Low.calls ji13 (IntKind.u64.wrap (1 + (IntKind.u64.wrap (t120)))) t130 _ A14.out).mono ?_); rintro e w' ⟨rfl, ⟨nd, rfl⟩⟩; (try first | exact ⟨rfl, _, World.drewN_drewN _ _ _⟩ | exact ⟨rfl, _, Eq.trans (World.drewN_drewN _ _ _) (congrArg (World.drewN _) (Nat.add_assoc _ _ _))⟩))); try go_wp2_with (first | (go_at_call 12; (with_reducible refine (laws_rwAt.calls a0 63 t120 _ A4.out).mono ?_); rintro e w' ⟨rfl, ⟨nd, rfl⟩⟩; (try first | exact ⟨rfl, _, World.drewN_drewN _ _ _⟩ | exact ⟨rfl, _, Eq.trans (World.drewN_drewN _ _ _) (congrArg (World.drewN _) (Nat.add_assoc _ _ _))⟩)) | (go_at_call 12; (with_reducible refine (laws_rwAt.calls a1 64 t121 _ A5.out).mono ?_); rintro e w' ⟨rfl, ⟨nd, rfl⟩⟩; (try first | exact ⟨rfl, _, World.drewN_drewN _ _ _⟩ | exact ⟨rfl, _, Eq.trans (World.drewN_drewN _ _ _) (congrArg (World.drewN _) (Nat.add_assoc _ _ _))⟩)) | (go_at_call 14; (with_reducible refine (spec_Run.calls 0 (IntKind.u64.wrap (1 + (IntKind.u64.wrap (t120)))) t122 _ A6.out).mono ?_); rintro e w' ⟨rfl, ⟨nd, rfl⟩⟩; (try first | exact ⟨rfl, _, World.drewN_drewN _ _ _⟩ | exact ⟨rfl, _, Eq.trans (World.drewN_drewN _ _ _) (congrArg (World.drewN _) (Nat.add_assoc _ _ _))⟩)) | (go_at_call 13; (with_reducible refine (impl_EncodeRotateMask.calls k 0 (wrap64 (t122)) 64 t123 _ (by first | exact hT | exact hT.drewN _ | exact (hT.drewN _).drewN _ | exact ((hT.drewN _).drewN _).drewN _ | exact hT.below HB.out | exact (hT.below HB.out).drewN _ | exact ((hT.below HB.out).drewN _).drewN _) A7.out).mono ?_); rintro e w' ⟨rfl, ⟨nd, rfl⟩⟩; (try first | exact ⟨rfl, _, World.drewN_drewN _ _ _⟩ | exact ⟨rfl, _, Eq.trans (World.drewN_drewN _ _ _) (congrArg (World.drewN _) (Nat.add_assoc _ _ _))⟩)) | (go_at_call 17; (with_reducible refine (impl_RldiclSrd.calls t123 t121 t124 _ A8.out).mono ?_); rintro e w' ⟨rfl, ⟨nd, rfl⟩⟩; (try first | exact ⟨rfl, _, World.drewN_drewN _ _ _⟩ | exact ⟨rfl, _, Eq.trans (World.drewN_drewN _ _ _) (congrArg (World.drewN _) (Nat.add_assoc _ _ _))⟩)) | (go_at_call 15; (with_reducible refine (impl_DecodeRotateMask.calls t124 t125 t126 t127 t128 _ A9.out).mono ?_); rintro e w' ⟨rfl, ⟨nd, rfl⟩⟩; (try first | exact ⟨rfl, _, World.drewN_drewN _ _ _⟩ | exact ⟨rfl, _, Eq.trans (World.drewN_drewN _ _ _) (congrArg (World.drewN _) (Nat.add_assoc _ _ _))⟩)) | (go_at_call 18; (with_reducible refine (spec_Rotated.calls a2 64 (Int.tmod (IntKind.u64.wrap (t125)) 64) t128 t129 _ A11.out).mono ?_); rintro e w' ⟨rfl, ⟨nd, rfl⟩⟩; (try first | exact ⟨rfl, _, World.drewN_drewN _ _ _⟩ | exact ⟨rfl, _, Eq.trans (World.drewN_drewN _ _ _) (congrArg (World.drewN _) (Nat.add_assoc _ _ _))⟩)) | (go_at_call 19; (with_reducible refine (spec_Low.calls ji13 (IntKind.u64.wrap (1 + (IntKind.u64.wrap (t120)))) t130 _ A14.out).mono ?_); rintro e w' ⟨rfl, ⟨nd, rfl⟩⟩; (try first | exact ⟨rfl, _, World.drewN_drewN _ _ _⟩ | exact ⟨rfl, _, Eq.trans (World.drewN_drewN _ _ _) (congrArg (World.drewN _) (Nat.add_assoc _ _ _))⟩))))
      go_ret
      exact ⟨by first | rfl | (simp; done) | (simp only [← hji13] <;> (first | rfl | simp)) | (simp [*]; done), by repeat (first | exact Drawn0.refl _ | apply Drawn0.step)⟩
    · rw [if_neg c12] at H
      exact absurd H (by simp)
  · rw [if_neg c10] at H
    have c10b0 : ((Go.bits .and .i64 (t124 / 16777216) 255) == 64) = false := beq_eq_false_iff_ne.mpr c10
    have c10b1 : ((Go.bits .and .i64 (t124 / 16777216) 255) != 64) = true := bne_iff_ne.mpr c10
    obtain rfl := Option.some.inj H
    go_enter Tryd.func5, Tryd.ntmps5
    go_wp2_with (first | (go_at_call 12; (with_reducible refine (laws_rwAt.calls a0 63 t120 _ A4.out).mono ?_); rintro e w' ⟨rfl, ⟨nd, rfl⟩⟩; (try first | exact ⟨rfl, _, World.drewN_drewN _ _ _⟩ | exact ⟨rfl, _, Eq.trans (World.drewN_drewN _ _ _) (congrArg (World.drewN _) (Nat.add_assoc _ _ _))⟩)) | (go_at_call 12; (with_reducible refine (laws_rwAt.calls a1 64 t121 _ A5.out).mono ?_); rintro e w' ⟨rfl, ⟨nd, rfl⟩⟩; (try first | exact ⟨rfl, _, World.drewN_drewN _ _ _⟩ | exact ⟨rfl, _, Eq.trans (World.drewN_drewN _ _ _) (congrArg (World.drewN _) (Nat.add_assoc _ _ _))⟩)) | (go_at_call 14; (with_reducible refine (spec_Run.calls 0 (IntKind.u64.wrap (1 + (IntKind.u64.wrap (t120)))) t122 _ A6.out).mono ?_); rintro e w' ⟨rfl, ⟨nd, rfl⟩⟩; (try first | exact ⟨rfl, _, World.drewN_drewN _ _ _⟩ | exact ⟨rfl, _, Eq.trans (World.drewN_drewN _ _ _) (congrArg (World.drewN _) (Nat.add_assoc _ _ _))⟩)) | (go_at_call 13; (with_reducible refine (impl_EncodeRotateMask.calls k 0 (wrap64 (t122)) 64 t123 _ (by first | exact hT | exact hT.drewN _ | exact (hT.drewN _).drewN _ | exact ((hT.drewN _).drewN _).drewN _ | exact hT.below HB.out | exact (hT.below HB.out).drewN _ | exact ((hT.below HB.out).drewN _).drewN _) A7.out).mono ?_); rintro e w' ⟨rfl, ⟨nd, rfl⟩⟩; (try first | exact ⟨rfl, _, World.drewN_drewN _ _ _⟩ | exact ⟨rfl, _, Eq.trans (World.drewN_drewN _ _ _) (congrArg (World.drewN _) (Nat.add_assoc _ _ _))⟩)) | (go_at_call 17; (with_reducible refine (impl_RldiclSrd.calls t123 t121 t124 _ A8.out).mono ?_); rintro e w' ⟨rfl, ⟨nd, rfl⟩⟩; (try first | exact ⟨rfl, _, World.drewN_drewN _ _ _⟩ | exact ⟨rfl, _, Eq.trans (World.drewN_drewN _ _ _) (congrArg (World.drewN _) (Nat.add_assoc _ _ _))⟩)) | (go_at_call 15; (with_reducible refine (impl_DecodeRotateMask.calls t124 t125 t126 t127 t128 _ A9.out).mono ?_); rintro e w' ⟨rfl, ⟨nd, rfl⟩⟩; (try first | exact ⟨rfl, _, World.drewN_drewN _ _ _⟩ | exact ⟨rfl, _, Eq.trans (World.drewN_drewN _ _ _) (congrArg (World.drewN _) (Nat.add_assoc _ _ _))⟩)))
    repeat (go_quiet (first | (go_at_call 12; (with_reducible refine (laws_rwAt.calls a0 63 t120 _ A4.out).mono ?_); rintro e w' ⟨rfl, ⟨nd, rfl⟩⟩; (try first | exact ⟨rfl, _, World.drewN_drewN _ _ _⟩ | exact ⟨rfl, _, Eq.trans (World.drewN_drewN _ _ _) (congrArg (World.drewN _) (Nat.add_assoc _ _ _))⟩)) | (go_at_call 12; (with_reducible refine (laws_rwAt.calls a1 64 t121 _ A5.out).mono ?_); rintro e w' ⟨rfl, ⟨nd, rfl⟩⟩; (try first | exact ⟨rfl, _, World.drewN_drewN _ _ _⟩ | exact ⟨rfl, _, Eq.trans (World.drewN_drewN _ _ _) (congrArg (World.drewN _) (Nat.add_assoc _ _ _))⟩)) | (go_at_call 14; (with_reducible refine (spec_Run.calls 0 (IntKind.u64.wrap (1 + (IntKind.u64.wrap (t120)))) t122 _ A6.out).mono ?_); rintro e w' ⟨rfl, ⟨nd, rfl⟩⟩; (try first | exact ⟨rfl, _, World.drewN_drewN _ _ _⟩ | exact ⟨rfl, _, Eq.trans (World.drewN_drewN _ _ _) (congrArg (World.drewN _) (Nat.add_assoc _ _ _))⟩)) | (go_at_call 13; (with_reducible refine (impl_EncodeRotateMask.calls k 0 (wrap64 (t122)) 64 t123 _ (by first | exact hT | exact hT.drewN _ | exact (hT.drewN _).drewN _ | exact ((hT.drewN _).drewN _).drewN _ | exact hT.below HB.out | exact (hT.below HB.out).drewN _ | exact ((hT.below HB.out).drewN _).drewN _) A7.out).mono ?_); rintro e w' ⟨rfl, ⟨nd, rfl⟩⟩; (try first | exact ⟨rfl, _, World.drewN_drewN _ _ _⟩ | exact ⟨rfl, _, Eq.trans (World.drewN_drewN _ _ _) (congrArg (World.drewN _) (Nat.add_assoc _ _ _))⟩)) | (go_at_call 17; (with_reducible refine (impl_RldiclSrd.calls t123 t121 t124 _ A8.out).mono ?_); rintro e w' ⟨rfl, ⟨nd, rfl⟩⟩; (try first | exact ⟨rfl, _, World.drewN_drewN _ _ _⟩ | exact ⟨rfl, _, Eq.trans (World.drewN_drewN _ _ _) (congrArg (World.drewN _) (Nat.add_assoc _ _ _))⟩)) | (go_at_call 15; (with_reducible refine (impl_DecodeRotateMask.calls t124 t125 t126 t127 t128 _ A9.out).mono ?_); rintro e w' ⟨rfl, ⟨nd, rfl⟩⟩; (try first | exact ⟨rfl, _, World.drewN_drewN _ _ _⟩ | exact ⟨rfl, _, Eq.trans (World.drewN_drewN _ _ _) (congrArg (World.drewN _) (Nat.add_assoc _ _ _))⟩))); try go_wp2_with (first | (go_at_call 12; (with_reducible refine (laws_rwAt.calls a0 63 t120 _ A4.out).mono ?_); rintro e w' ⟨rfl, ⟨nd, rfl⟩⟩; (try first | exact ⟨rfl, _, World.drewN_drewN _ _ _⟩ | exact ⟨rfl, _, Eq.trans (World.drewN_drewN _ _ _) (congrArg (World.drewN _) (Nat.add_assoc _ _ _))⟩)) | (go_at_call 12; (with_reducible refine (laws_rwAt.calls a1 64 t121 _ A5.out).mono ?_); rintro e w' ⟨rfl, ⟨nd, rfl⟩⟩; (try first | exact ⟨rfl, _, World.drewN_drewN _ _ _⟩ | exact ⟨rfl, _, Eq.trans (World.drewN_drewN _ _ _) (congrArg (World.drewN _) (Nat.add_assoc _ _ _))⟩)) | (go_at_call 14; (with_reducible refine (spec_Run.calls 0 (IntKind.u64.wrap (1 + (IntKind.u64.wrap (t120)))) t122 _ A6.out).mono ?_); rintro e w' ⟨rfl, ⟨nd, rfl⟩⟩; (try first | exact ⟨rfl, _, World.drewN_drewN _ _ _⟩ | exact ⟨rfl, _, Eq.trans (World.drewN_drewN _ _ _) (congrArg (World.drewN _) (Nat.add_assoc _ _ _))⟩)) | (go_at_call 13; (with_reducible refine (impl_EncodeRotateMask.calls k 0 (wrap64 (t122)) 64 t123 _ (by first | exact hT | exact hT.drewN _ | exact (hT.drewN _).drewN _ | exact ((hT.drewN _).drewN _).drewN _ | exact hT.below HB.out | exact (hT.below HB.out).drewN _ | exact ((hT.below HB.out).drewN _).drewN _) A7.out).mono ?_); rintro e w' ⟨rfl, ⟨nd, rfl⟩⟩; (try first | exact ⟨rfl, _, World.drewN_drewN _ _ _⟩ | exact ⟨rfl, _, Eq.trans (World.drewN_drewN _ _ _) (congrArg (World.drewN _) (Nat.add_assoc _ _ _))⟩)) | (go_at_call 17; (with_reducible refine (impl_RldiclSrd.calls t123 t121 t124 _ A8.out).mono ?_); rintro e w' ⟨rfl, ⟨nd, rfl⟩⟩; (try first | exact ⟨rfl, _, World.drewN_drewN _ _ _⟩ | exact ⟨rfl, _, Eq.trans (World.drewN_drewN _ _ _) (congrArg (World.drewN _) (Nat.add_assoc _ _ _))⟩)) | (go_at_call 15; (with_reducible refine (impl_DecodeRotateMask.calls t124 t125 t126 t127 t128 _ A9.out).mono ?_); rintro e w' ⟨rfl, ⟨nd, rfl⟩⟩; (try first | exact ⟨rfl, _, World.drewN_drewN _ _ _⟩ | exact ⟨rfl, _, Eq.trans (World.drewN_drewN _ _ _) (congrArg (World.drewN _) (Nat.add_assoc _ _ _))⟩))))
    go_ret
    exact ⟨by first | rfl | (simp; done) | (simp [*]; done), by repeat (first | exact Drawn0.refl _ | apply Drawn0.step)⟩

/-- THE ONE PURE STATEMENT of laws_FnRldiclSrd: yours. -/
def laws_FnRldiclSrd.Pure : Prop := ∀ (a0 : Int) (a1 : Int) (a2 : Int), (Lit.int .i64 a0).wf = true → (Lit.int .i64 a1).wf = true → (Lit.int .u64 a2).wf = true → ∃ k, laws_FnRldiclSrd.f k a0 a1 a2 = some true
theorem laws_FnRldiclSrd.walk (P : laws_FnRldiclSrd.Pure) (a0 : Int) (a1 : Int) (a2 : Int) (w : World) (hT : Tab0 w) (w0 : (Lit.int .i64 a0).wf = true) (w1 : (Lit.int .i64 a1).wf = true) (w2 : (Lit.int .u64 a2).wf = true) :
    Calls Tryd.prog 5 #[.int .i64 a0, .int .i64 a1, .int .u64 a2] w fun e w' => e = .returned (.bool true) ∧ Below w.heap.size w w' := by
  obtain ⟨k, h⟩ := P a0 a1 a2 w0 w1 w2
  refine (laws_FnRldiclSrd.calls k a0 a1 a2 true w hT h).mono ?_
  rintro e w' ⟨rfl, hd⟩
  exact ⟨rfl, hd.below⟩

end Go.Proofs.YtlcaejikcelgoaaDoor.PFnRldiclSrd
