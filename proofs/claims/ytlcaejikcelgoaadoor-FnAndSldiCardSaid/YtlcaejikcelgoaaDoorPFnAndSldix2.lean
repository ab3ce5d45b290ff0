-- Written by a program of this session out of the translation (wip/pp.py): Lean checks it.
import Derived.Test.YtlcaejikcelgoaaDoorPFnAndSldix0
import Derived.Test.YtlcaejikcelgoaaDoorPFnAndSldix1
namespace Go.Proofs.YtlcaejikcelgoaaDoor.PFnAndSldi
open Go.RowKit Go.Proofs.YtlcaejikcelgoaaDoorW.PrintWords Go.Proofs.YtlcaejikcelgoaaDoorW.PrintLast Go.Proofs.YtlcaejikcelgoaaDoorW.PrintMore
attribute [local go_sem] max2_int min2_int max_two min_two max_three min_three max_four min_four   -- for this text's walks alone
set_option linter.unusedVariables false
set_option linter.unusedSimpArgs false

attribute [local go_sem] signed_i64 signed_i32 signed_u32 max_u32 signed_u64 max_u64
/-! ### ssarewrite_encodePPC64RotateMask: function 46 -/
def ssarewrite_encodePPC64RotateMask.j0 : Nat → Int → Int → Int → Bool → Option (Int)
  | 0, _, _, _, _ => none
  | k + 1, x0, x1, x2, x22 => if x22 = true then (none) else (if x2 = 32 then ((bits_LeadingZeros32.f ((x1) % 4294967296)).bind fun t121 => ((bits_TrailingZeros32.f ((x1) % 4294967296)).bind fun t122 => ((bits_LeadingZeros32.f (Go.bits .xor .u32 4294967295 ((x1) % 4294967296))).bind fun t123 => ((bits_TrailingZeros32.f (Go.bits .xor .u32 4294967295 ((x1) % 4294967296))).bind fun t124 => (if t121 = 0 then (if (wrap64 (32 - t122)) = x2 then (some (Go.bits .or .i64 (Go.bits .or .i64 (Go.bits .or .i64 t123 (wrap64 ((wrap64 (32 - t124)) * 256))) (wrap64 (x0 * 65536))) (wrap64 (x2 * 16777216)))) else (some (Go.bits .or .i64 (Go.bits .or .i64 (Go.bits .or .i64 (wrap64 (32 - t122)) (wrap64 (t121 * 256))) (wrap64 (x0 * 65536))) (wrap64 (x2 * 16777216))))) else (some (Go.bits .or .i64 (Go.bits .or .i64 (Go.bits .or .i64 (wrap64 (32 - t122)) (wrap64 (t121 * 256))) (wrap64 (x0 * 65536))) (wrap64 (x2 * 16777216))))))))) else ((bits_LeadingZeros64.f (IntKind.u64.wrap (x1))).bind fun t125 => ((bits_TrailingZeros64.f (IntKind.u64.wrap (x1))).bind fun t126 => ((bits_LeadingZeros64.f (Go.bits .xor .u64 18446744073709551615 (IntKind.u64.wrap (x1)))).bind fun t127 => ((bits_TrailingZeros64.f (Go.bits .xor .u64 18446744073709551615 (IntKind.u64.wrap (x1)))).bind fun t128 => (if t125 = 0 then (if (wrap64 (64 - t126)) = x2 then (some (Go.bits .or .i64 (Go.bits .or .i64 (Go.bits .or .i64 t127 (wrap64 ((wrap64 (64 - t128)) * 256))) (wrap64 (x0 * 65536))) (wrap64 (x2 * 16777216)))) else (some (Go.bits .or .i64 (Go.bits .or .i64 (Go.bits .or .i64 (wrap64 (64 - t126)) (wrap64 (t125 * 256))) (wrap64 (x0 * 65536))) (wrap64 (x2 * 16777216))))) else (some (Go.bits .or .i64 (Go.bits .or .i64 (Go.bits .or .i64 (wrap64 (64 - t126)) (wrap64 (t125 * 256))) (wrap64 (x0 * 65536))) (wrap64 (x2 * 16777216))))))))))
def ssarewrite_encodePPC64RotateMask.f (k : Nat) (a0 : Int) (a1 : Int) (a2 : Int) : Option (Int) := if a1 = 0 then (ssarewrite_encodePPC64RotateMask.j0 k a0 a1 a2 true) else (if (Go.bits .xor .i64 (-1) a1) = 0 then (ssarewrite_encodePPC64RotateMask.j0 k a0 a1 a2 true) else (ssarewrite_encodePPC64RotateMask.j0 k a0 a1 a2 (decide (a0 ≥ a2))))
theorem ssarewrite_encodePPC64RotateMask.mono_l : ∀ k, (∀ y0 y1 y2 y3, LeO (ssarewrite_encodePPC64RotateMask.j0 k y0 y1 y2 y3) (ssarewrite_encodePPC64RotateMask.j0 (k + 1) y0 y1 y2 y3))
  | 0 => fun _ _ _ _ r h => by simp [ssarewrite_encodePPC64RotateMask.j0] at h
  | k + 1 => by
    have ih0 := ssarewrite_encodePPC64RotateMask.mono_l k
    · intro y0 y1 y2 y3
      unfold ssarewrite_encodePPC64RotateMask.j0
      repeat' first
      | (with_reducible exact ih0 _ _ _ _)
      | (with_reducible exact LeO.refl _)
      | (with_reducible exact LeO.none _)
      | (with_reducible refine LeO.ite ?_ ?_)
      | (with_reducible refine LeO.bind ?_ (fun _ => ?_))
      | exact ih0 _ _ _ _
      | exact LeO.none _
      | refine LeO.ite ?_ ?_
      | refine LeO.bind ?_ (fun _ => ?_)
theorem ssarewrite_encodePPC64RotateMask.mono : ∀ a0 a1 a2 k, LeO (ssarewrite_encodePPC64RotateMask.f k a0 a1 a2) (ssarewrite_encodePPC64RotateMask.f (k + 1) a0 a1 a2) := by
  intro a0 a1 a2 k
  have ih0 := ssarewrite_encodePPC64RotateMask.mono_l k
  unfold ssarewrite_encodePPC64RotateMask.f
  repeat' first
      | (with_reducible exact ih0 _ _ _ _)
      | (with_reducible exact LeO.refl _)
      | (with_reducible exact LeO.none _)
      | (with_reducible refine LeO.ite ?_ ?_)
      | (with_reducible refine LeO.bind ?_ (fun _ => ?_))
      | exact ih0 _ _ _ _
      | exact LeO.none _
      | refine LeO.ite ?_ ?_
      | refine LeO.bind ?_ (fun _ => ?_)
set_option maxHeartbeats 8000000 in
set_option maxRecDepth 100000 in
theorem ssarewrite_encodePPC64RotateMask.calls (k : Nat) (a0 : Int) (a1 : Int) (a2 : Int) (r : Int) (w : World) (hT : Tab0 w) (h : ssarewrite_encodePPC64RotateMask.f k a0 a1 a2 = some r) :
    Calls Tryd.prog 46 #[.int .i64 a0, .int .i64 a1, .int .i64 a2] w fun e w' => e = .returned (.int .i64 r) ∧ Drawn0 w w' := by
  have H : (if a1 = 0 then (ssarewrite_encodePPC64RotateMask.j0 k a0 a1 a2 true) else (if (Go.bits .xor .i64 (-1) a1) = 0 then (ssarewrite_encodePPC64RotateMask.j0 k a0 a1 a2 true) else (ssarewrite_encodePPC64RotateMask.j0 k a0 a1 a2 (decide (a0 ≥ a2))))) = some r := h
  clear h
  have HC4 := Aside0.mk H
  clear H
  go_enter Tryd.func46, Tryd.ntmps46
  go_upto_region 2 with (fail)
  go_cut [22] (fun v22 wc => ∃ (kq : Nat) (x22_3 : Bool), v22 = .bool x22_3 ∧ Aside0 (ssarewrite_encodePPC64RotateMask.j0 kq a0 a1 a2 x22_3 = some r) ∧ Aside0 (kq ≤ k) ∧ Drawn0 w wc)
  case first =>
    have H := HC4.out
    clear HC4
    by_cases c5 : a1 = 0
    · rw [if_pos c5] at H
      have c5b0 : (a1 == 0) = true := beq_iff_eq.mpr c5
      have c5b1 : (a1 != 0) = false := bne_eq_false_iff_eq.mpr c5
      clear c5
      (first | rw [c5b0] | (simp only [i64_w, i32_w]; rw [c5b0]) | skip)
      have H' := Aside0.mk H
      clear H
      go_wp2
      go_meet
      case rel => exact ⟨_, (true), (by first | rfl | (simp; done) | (simp [*]; done)), H', ⟨by first | omega | exact Nat.le_refl _⟩, by repeat (first | exact Drawn0.refl _ | apply Drawn0.step)⟩
    · rw [if_neg c5] at H
      have c5b0 : (a1 == 0) = false := beq_eq_false_iff_ne.mpr c5
      have c5b1 : (a1 != 0) = true := bne_iff_ne.mpr c5
      (first | rw [c5b0] | (simp only [i64_w, i32_w]; rw [c5b0]) | skip)
      by_cases c6 : (Go.bits .xor .i64 (-1) a1) = 0
      · rw [if_pos c6] at H
        have c6b0 : ((Go.bits .xor .i64 (-1) a1) == 0) = true := beq_iff_eq.mpr c6
        have c6b1 : ((Go.bits .xor .i64 (-1) a1) != 0) = false := bne_eq_false_iff_eq.mpr c6
        clear c6
        have H' := Aside0.mk H
        clear H
        go_wp2
        go_meet
        case rel => exact ⟨_, (true), (by first | rfl | (simp; done) | (simp [*]; done)), H', ⟨by first | omega | exact Nat.le_refl _⟩, by repeat (first | exact Drawn0.refl _ | apply Drawn0.step)⟩
      · rw [if_neg c6] at H
        have c6b0 : ((Go.bits .xor .i64 (-1) a1) == 0) = false := beq_eq_false_iff_ne.mpr c6
        have c6b1 : ((Go.bits .xor .i64 (-1) a1) != 0) = true := bne_iff_ne.mpr c6
        have H' := Aside0.mk H
        clear H
        go_wp2
        go_meet
        case rel => exact ⟨_, (decide (a0 ≥ a2)), (by first | rfl | (simp; done) | (simp [*]; done)), H', ⟨by first | omega | exact Nat.le_refl _⟩, by repeat (first | exact Drawn0.refl _ | apply Drawn0.step)⟩
  case rest =>
    clear HC4
    try clear p2
    try clear c4
    try clear c5
    try clear c5b0
    try clear c5b1
    try clear c6
    try clear c6b0
    try clear c6b1
    obtain ⟨kq, x22_3, rfl, HA, HJ3, ⟨mc3, rfl⟩⟩ := hcut
    cases kq with
    | zero => exact absurd HA.out (by simp [ssarewrite_encodePPC64RotateMask.j0])
    | succ kj3 =>
      have H := HA.out
      clear HA
      simp only [ssarewrite_encodePPC64RotateMask.j0] at H
      by_cases c7 : x22_3 = true
      · subst c7
        have H1 : (none) = some r := by rw [if_pos rfl] at H; exact H
        clear H
        have H := H1
        clear H1
        exact absurd H (by simp)
      · replace c7 := Bool.eq_false_iff.mpr c7
        subst c7
        have H1 : (if a2 = 32 then ((bits_LeadingZeros32.f ((a1) % 4294967296)).bind fun t121 => ((bits_TrailingZeros32.f ((a1) % 4294967296)).bind fun t122 => ((bits_LeadingZeros32.f (Go.bits .xor .u32 4294967295 ((a1) % 4294967296))).bind fun t123 => ((bits_TrailingZeros32.f (Go.bits .xor .u32 4294967295 ((a1) % 4294967296))).bind fun t124 => (if t121 = 0 then (if (wrap64 (32 - t122)) = a2 then (some (Go.bits .or .i64 (Go.bits .or .i64 (Go.bits .or .i64 t123 (wrap64 ((wrap64 (32 - t124)) * 256))) (wrap64 (a0 * 65536))) (wrap64 (a2 * 16777216)))) else (some (Go.bits .or .i64 (Go.bits .or .i64 (Go.bits .or .i64 (wrap64 (32 - t122)) (wrap64 (t121 * 256))) (wrap64 (a0 * 65536))) (wrap64 (a2 * 16777216))))) else (some (Go.bits .or .i64 (Go.bits .or .i64 (Go.bits .or .i64 (wrap64 (32 - t122)) (wrap64 (t121 * 256))) (wrap64 (a0 * 65536))) (wrap64 (a2 * 16777216))))))))) else ((bits_LeadingZeros64.f (IntKind.u64.wrap (a1))).bind fun t125 => ((bits_TrailingZeros64.f (IntKind.u64.wrap (a1))).bind fun t126 => ((bits_LeadingZeros64.f (Go.bits .xor .u64 18446744073709551615 (IntKind.u64.wrap (a1)))).bind fun t127 => ((bits_TrailingZeros64.f (Go.bits .xor .u64 18446744073709551615 (IntKind.u64.wrap (a1)))).bind fun t128 => (if t125 = 0 then (if (wrap64 (64 - t126)) = a2 then (some (Go.bits .or .i64 (Go.bits .or .i64 (Go.bits .or .i64 t127 (wrap64 ((wrap64 (64 - t128)) * 256))) (wrap64 (a0 * 65536))) (wrap64 (a2 * 16777216)))) else (some (Go.bits .or .i64 (Go.bits .or .i64 (Go.bits .or .i64 (wrap64 (64 - t126)) (wrap64 (t125 * 256))) (wrap64 (a0 * 65536))) (wrap64 (a2 * 16777216))))) else (some (Go.bits .or .i64 (Go.bits .or .i64 (Go.bits .or .i64 (wrap64 (64 - t126)) (wrap64 (t125 * 256))) (wrap64 (a0 * 65536))) (wrap64 (a2 * 16777216)))))))))) = some r := by rw [if_neg (show ¬ (false = true) by decide)] at H; exact H
        clear H
        have H := H1
        clear H1
        by_cases c8 : a2 = 32
        · rw [if_pos c8] at H
          have c8b0 : (a2 == 32) = true := beq_iff_eq.mpr c8
          have c8b1 : (a2 != 32) = false := bne_eq_false_iff_eq.mpr c8
          clear c8
          replace H := Option.bind_eq_some_iff.mp H
          obtain ⟨t121, A90, H⟩ := H
          replace H : ((bits_TrailingZeros32.f ((a1) % 4294967296)).bind fun t122 => ((bits_LeadingZeros32.f (Go.bits .xor .u32 4294967295 ((a1) % 4294967296))).bind fun t123 => ((bits_TrailingZeros32.f (Go.bits .xor .u32 4294967295 ((a1) % 4294967296))).bind fun t124 => (if t121 = 0 then (if (wrap64 (32 - t122)) = a2 then (some (Go.bits .or .i64 (Go.bits .or .i64 (Go.bits .or .i64 t123 (wrap64 ((wrap64 (32 - t124)) * 256))) (wrap64 (a0 * 65536))) (wrap64 (a2 * 16777216)))) else (some (Go.bits .or .i64 (Go.bits .or .i64 (Go.bits .or .i64 (wrap64 (32 - t122)) (wrap64 (t121 * 256))) (wrap64 (a0 * 65536))) (wrap64 (a2 * 16777216))))) else (some (Go.bits .or .i64 (Go.bits .or .i64 (Go.bits .or .i64 (wrap64 (32 - t122)) (wrap64 (t121 * 256))) (wrap64 (a0 * 65536))) (wrap64 (a2 * 16777216)))))))) = some r := H
          have A9 := Aside0.mk A90
          clear A90
          replace H := Option.bind_eq_some_iff.mp H
          obtain ⟨t122, A100, H⟩ := H
          replace H : ((bits_LeadingZeros32.f (Go.bits .xor .u32 4294967295 ((a1) % 4294967296))).bind fun t123 => ((bits_TrailingZeros32.f (Go.bits .xor .u32 4294967295 ((a1) % 4294967296))).bind fun t124 => (if t121 = 0 then (if (wrap64 (32 - t122)) = a2 then (some (Go.bits .or .i64 (Go.bits .or .i64 (Go.bits .or .i64 t123 (wrap64 ((wrap64 (32 - t124)) * 256))) (wrap64 (a0 * 65536))) (wrap64 (a2 * 16777216)))) else (some (Go.bits .or .i64 (Go.bits .or .i64 (Go.bits .or .i64 (wrap64 (32 - t122)) (wrap64 (t121 * 256))) (wrap64 (a0 * 65536))) (wrap64 (a2 * 16777216))))) else (some (Go.bits .or .i64 (Go.bits .or .i64 (Go.bits .or .i64 (wrap64 (32 - t122)) (wrap64 (t121 * 256))) (wrap64 (a0 * 65536))) (wrap64 (a2 * 16777216))))))) = some r := H
          have A10 := Aside0.mk A100
          clear A100
          replace H := Option.bind_eq_some_iff.mp H
          obtain ⟨t123, A110, H⟩ := H
          replace H : ((bits_TrailingZeros32.f (Go.bits .xor .u32 4294967295 ((a1) % 4294967296))).bind fun t124 => (if t121 = 0 then (if (wrap64 (32 - t122)) = a2 then (some (Go.bits .or .i64 (Go.bits .or .i64 (Go.bits .or .i64 t123 (wrap64 ((wrap64 (32 - t124)) * 256))) (wrap64 (a0 * 65536))) (wrap64 (a2 * 16777216)))) else (some (Go.bits .or .i64 (Go.bits .or .i64 (Go.bits .or .i64 (wrap64 (32 - t122)) (wrap64 (t121 * 256))) (wrap64 (a0 * 65536))) (wrap64 (a2 * 16777216))))) else (some (Go.bits .or .i64 (Go.bits .or .i64 (Go.bits .or .i64 (wrap64 (32 - t122)) (wrap64 (t121 * 256))) (wrap64 (a0 * 65536))) (wrap64 (a2 * 16777216)))))) = some r := H
          have A11 := Aside0.mk A110
          clear A110
          replace H := Option.bind_eq_some_iff.mp H
          obtain ⟨t124, A120, H⟩ := H
          replace H : (if t121 = 0 then (if (wrap64 (32 - t122)) = a2 then (some (Go.bits .or .i64 (Go.bits .or .i64 (Go.bits .or .i64 t123 (wrap64 ((wrap64 (32 - t124)) * 256))) (wrap64 (a0 * 65536))) (wrap64 (a2 * 16777216)))) else (some (Go.bits .or .i64 (Go.bits .or .i64 (Go.bits .or .i64 (wrap64 (32 - t122)) (wrap64 (t121 * 256))) (wrap64 (a0 * 65536))) (wrap64 (a2 * 16777216))))) else (some (Go.bits .or .i64 (Go.bits .or .i64 (Go.bits .or .i64 (wrap64 (32 - t122)) (wrap64 (t121 * 256))) (wrap64 (a0 * 65536))) (wrap64 (a2 * 16777216))))) = some r := H
          have A12 := Aside0.mk A120
          clear A120
          by_cases c13 : t121 = 0
          · rw [if_pos c13] at H
            have c13b0 : (t121 == 0) = true := beq_iff_eq.mpr c13
            have c13b1 : (t121 != 0) = false := bne_eq_false_iff_eq.mpr c13
            clear c13
            by_cases c14 : (wrap64 (32 - t122)) = a2
            · rw [if_pos c14] at H
              have c14b0 : ((wrap64 (32 - t122)) == a2) = true := beq_iff_eq.mpr c14
              have c14b1 : ((wrap64 (32 - t122)) != a2) = false := bne_eq_false_iff_eq.mpr c14
              clear c14
              obtain rfl := Option.some.inj H
              go_wp2_with (first | ((with_reducible refine gate_callee (f := 57) rfl ?_); refine goesL_ (some 28) rfl rfl Tryd.func57 (by kernel_rfl) rfl #[.int .u32 ((a1) % 4294967296)] rfl (by (try simp only [List.map_toArray, List.map_cons, List.map_nil]); first | done | rfl | (simp only [List.length_drop, List.length_take]; rfl)) ?_; (with_reducible refine (bits_LeadingZeros32.calls ((a1) % 4294967296) t121 _ A9.out).mono ?_); rintro e w' ⟨rfl, ⟨nd, rfl⟩⟩; refine ⟨_, rfl, ?_⟩) | ((with_reducible refine gate_callee (f := 58) rfl ?_); refine goesL_ (some 31) rfl rfl Tryd.func58 (by kernel_rfl) rfl #[.int .u32 ((a1) % 4294967296)] rfl (by (try simp only [List.map_toArray, List.map_cons, List.map_nil]); first | done | rfl | (simp only [List.length_drop, List.length_take]; rfl)) ?_; (with_reducible refine (bits_TrailingZeros32.calls ((a1) % 4294967296) t122 _ (by first | exact hT | exact hT.drewN _ | exact (hT.drewN _).drewN _ | exact ((hT.drewN _).drewN _).drewN _ | exact hT.below HB.out | exact (hT.below HB.out).drewN _ | exact ((hT.below HB.out).drewN _).drewN _) A10.out).mono ?_); rintro e w' ⟨rfl, ⟨nd, rfl⟩⟩; refine ⟨_, rfl, ?_⟩) | ((with_reducible refine gate_callee (f := 57) rfl ?_); refine goesL_ (some 36) rfl rfl Tryd.func57 (by kernel_rfl) rfl #[.int .u32 (Go.bits .xor .u32 4294967295 ((a1) % 4294967296))] rfl (by (try simp only [List.map_toArray, List.map_cons, List.map_nil]); first | done | rfl | (simp only [List.length_drop, List.length_take]; rfl)) ?_; (with_reducible refine (bits_LeadingZeros32.calls (Go.bits .xor .u32 4294967295 ((a1) % 4294967296)) t123 _ A11.out).mono ?_); rintro e w' ⟨rfl, ⟨nd, rfl⟩⟩; refine ⟨_, rfl, ?_⟩) | ((with_reducible refine gate_callee (f := 58) rfl ?_); refine goesL_ (some 40) rfl rfl Tryd.func58 (by kernel_rfl) rfl #[.int .u32 (Go.bits .xor .u32 4294967295 ((a1) % 4294967296))] rfl (by (try simp only [List.map_toArray, List.map_cons, List.map_nil]); first | done | rfl | (simp only [List.length_drop, List.length_take]; rfl)) ?_; (with_reducible refine (bits_TrailingZeros32.calls (Go.bits .xor .u32 4294967295 ((a1) % 4294967296)) t124 _ (by first | exact hT | exact hT.drewN _ | exact (hT.drewN _).drewN _ | exact ((hT.drewN _).drewN _).drewN _ | exact hT.below HB.out | exact (hT.below HB.out).drewN _ | exact ((hT.below HB.out).drewN _).drewN _) A12.out).mono ?_); rintro e w' ⟨rfl, ⟨nd, rfl⟩⟩; refine ⟨_, rfl, ?_⟩))
              go_ret
              exact ⟨by first | rfl | (simp; done) | (simp [*]; done), by repeat (first | exact Drawn0.refl _ | apply Drawn0.step)⟩
            · rw [if_neg c14] at H
              have c14b0 : ((wrap64 (32 - t122)) == a2) = false := beq_eq_false_iff_ne.mpr c14
              have c14b1 : ((wrap64 (32 - t122)) != a2) = true := bne_iff_ne.mpr c14
              obtain rfl := Option.some.inj H
              go_wp2_with (first | ((with_reducible refine gate_callee (f := 57) rfl ?_); refine goesL_ (some 28) rfl rfl Tryd.func57 (by kernel_rfl) rfl #[.int .u32 ((a1) % 4294967296)] rfl (by (try simp only [List.map_toArray, List.map_cons, List.map_nil]); first | done | rfl | (simp only [List.length_drop, List.length_take]; rfl)) ?_; (with_reducible refine (bits_LeadingZeros32.calls ((a1) % 4294967296) t121 _ A9.out).mono ?_); rintro e w' ⟨rfl, ⟨nd, rfl⟩⟩; refine ⟨_, rfl, ?_⟩) | ((with_reducible refine gate_callee (f := 58) rfl ?_); refine goesL_ (some 31) rfl rfl Tryd.func58 (by kernel_rfl) rfl #[.int .u32 ((a1) % 4294967296)] rfl (by (try simp only [List.map_toArray, List.map_cons, List.map_nil]); first | done | rfl | (simp only [List.length_drop, List.length_take]; rfl)) ?_; (with_reducible refine (bits_TrailingZeros32.calls ((a1) % 4294967296) t122 _ (by first | exact hT | exact hT.drewN _ | exact (hT.drewN _).drewN _ | exact ((hT.drewN _).drewN _).drewN _ | exact hT.below HB.out | exact (hT.below HB.out).drewN _ | exact ((hT.below HB.out).drewN _).drewN _) A10.out).mono ?_); rintro e w' ⟨rfl, ⟨nd, rfl⟩⟩; refine ⟨_, rfl, ?_⟩) | ((with_reducible refine gate_callee (f := 57) rfl ?_); refine goesL_ (some 36) rfl rfl Tryd.func57 (by kernel_rfl) rfl #[.int .u32 (Go.bits .xor .u32 4294967295 ((a1) % 4294967296))] rfl (by (try simp only [List.map_toArray, List.map_cons, List.map_nil]); first | done | rfl | (simp only [List.length_drop, List.length_take]; rfl)) ?_; (with_reducible refine (bits_LeadingZeros32.calls (Go.bits .xor .u32 4294967295 ((a1) % 4294967296)) t123 _ A11.out).mono ?_); rintro e w' ⟨rfl, ⟨nd, rfl⟩⟩; refine ⟨_, rfl, ?_⟩) | ((with_reducible refine gate_callee (f := 58) rfl ?_); refine goesL_ (some 40) rfl rfl Tryd.func58 (by kernel_rfl) rfl #[.int .u32 (Go.bits .xor .u32 4294967295 ((a1) % 4294967296))] rfl (by (try simp only [List.map_toArray, List.map_cons, List.map_nil]); first | done | rfl | (simp only [List.length_drop, List.length_take]; rfl)) ?_; (with_reducible refine (bits_TrailingZeros32.calls (Go.bits .xor .u32 4294967295 ((a1) % 4294967296)) t124 _ (by first | exact hT | exact hT.drewN _ | exact (hT.drewN _).drewN _ | exact ((hT.drewN _).drewN _).drewN _ | exact hT.below HB.out | exact (hT.below HB.out).drewN _ | exact ((hT.below HB.out).drewN _).drewN _) A12.out).mono ?_); rintro e w' ⟨rfl, ⟨nd, rfl⟩⟩; refine ⟨_, rfl, ?_⟩))
              go_ret
              exact ⟨by first | rfl | (simp; done) | (simp [*]; done), by repeat (first | exact Drawn0.refl _ | apply Drawn0.step)⟩
          · rw [if_neg c13] at H
            have c13b0 : (t121 == 0) = false := beq_eq_false_iff_ne.mpr c13
            have c13b1 : (t121 != 0) = true := bne_iff_ne.mpr c13
            obtain rfl := Option.some.inj H
            go_wp2_with (first | ((with_reducible refine gate_callee (f := 57) rfl ?_); refine goesL_ (some 28) rfl rfl Tryd.func57 (by kernel_rfl) rfl #[.int .u32 ((a1) % 4294967296)] rfl (by (try simp only [List.map_toArray, List.map_cons, List.map_nil]); first | done | rfl | (simp only [List.length_drop, List.length_take]; rfl)) ?_; (with_reducible refine (bits_LeadingZeros32.calls ((a1) % 4294967296) t121 _ A9.out).mono ?_); rintro e w' ⟨rfl, ⟨nd, rfl⟩⟩; refine ⟨_, rfl, ?_⟩) | ((with_reducible refine gate_callee (f := 58) rfl ?_); refine goesL_ (some 31) rfl rfl Tryd.func58 (by kernel_rfl) rfl #[.int .u32 ((a1) % 4294967296)] rfl (by (try simp only [List.map_toArray, List.map_cons, List.map_nil]); first | done | rfl | (simp only [List.length_drop, List.length_take]; rfl)) ?_; (with_reducible refine (bits_TrailingZeros32.calls ((a1) % 4294967296) t122 _ (by first | exact hT | exact hT.drewN _ | exact (hT.drewN _).drewN _ | exact ((hT.drewN _).drewN _).drewN _ | exact hT.below HB.out | exact (hT.below HB.out).drewN _ | exact ((hT.below HB.out).drewN _).drewN _) A10.out).mono ?_); rintro e w' ⟨rfl, ⟨nd, rfl⟩⟩; refine ⟨_, rfl, ?_⟩) | ((with_reducible refine gate_callee (f := 57) rfl ?_); refine goesL_ (some 36) rfl rfl Tryd.func57 (by kernel_rfl) rfl #[.int .u32 (Go.bits .xor .u32 4294967295 ((a1) % 4294967296))] rfl (by (try simp only [List.map_toArray, List.map_cons, List.map_nil]); first | done | rfl | (simp only [List.length_drop, List.length_take]; rfl)) ?_; (with_reducible refine (bits_LeadingZeros32.calls (Go.bits .xor .u32 4294967295 ((a1) % 4294967296)) t123 _ A11.out).mono ?_); rintro e w' ⟨rfl, ⟨nd, rfl⟩⟩; refine ⟨_, rfl, ?_⟩) | ((with_reducible refine gate_callee (f := 58) rfl ?_); refine goesL_ (some 40) rfl rfl Tryd.func58 (by kernel_rfl) rfl #[.int .u32 (Go.bits .xor .u32 4294967295 ((a1) % 4294967296))] rfl (by (try simp only [List.map_toArray, List.map_cons, List.map_nil]); first | done | rfl | (simp only [List.length_drop, List.length_take]; rfl)) ?_; (with_reducible refine (bits_TrailingZeros32.calls (Go.bits .xor .u32 4294967295 ((a1) % 4294967296)) t124 _ (by first | exact hT | exact hT.drewN _ | exact (hT.drewN _).drewN _ | exact ((hT.drewN _).drewN _).drewN _ | exact hT.below HB.out | exact (hT.below HB.out).drewN _ | exact ((hT.below HB.out).drewN _).drewN _) A12.out).mono ?_); rintro e w' ⟨rfl, ⟨nd, rfl⟩⟩; refine ⟨_, rfl, ?_⟩))
            go_ret
            exact ⟨by first | rfl | (simp; done) | (simp [*]; done), by repeat (first | exact Drawn0.refl _ | apply Drawn0.step)⟩
        · rw [if_neg c8] at H
          have c8b0 : (a2 == 32) = false := beq_eq_false_iff_ne.mpr c8
          have c8b1 : (a2 != 32) = true := bne_iff_ne.mpr c8
          replace H := Option.bind_eq_some_iff.mp H
          obtain ⟨t125, A150, H⟩ := H
          replace H : ((bits_TrailingZeros64.f (IntKind.u64.wrap (a1))).bind fun t126 => ((bits_LeadingZeros64.f (Go.bits .xor .u64 18446744073709551615 (IntKind.u64.wrap (a1)))).bind fun t127 => ((bits_TrailingZeros64.f (Go.bits .xor .u64 18446744073709551615 (IntKind.u64.wrap (a1)))).bind fun t128 => (if t125 = 0 then (if (wrap64 (64 - t126)) = a2 then (some (Go.bits .or .i64 (Go.bits .or .i64 (Go.bits .or .i64 t127 (wrap64 ((wrap64 (64 - t128)) * 256))) (wrap64 (a0 * 65536))) (wrap64 (a2 * 16777216)))) else (some (Go.bits .or .i64 (Go.bits .or .i64 (Go.bits .or .i64 (wrap64 (64 - t126)) (wrap64 (t125 * 256))) (wrap64 (a0 * 65536))) (wrap64 (a2 * 16777216))))) else (some (Go.bits .or .i64 (Go.bits .or .i64 (Go.bits .or .i64 (wrap64 (64 - t126)) (wrap64 (t125 * 256))) (wrap64 (a0 * 65536))) (wrap64 (a2 * 16777216)))))))) = some r := H
          have A15 := Aside0.mk A150
          clear A150
          replace H := Option.bind_eq_some_iff.mp H
          obtain ⟨t126, A160, H⟩ := H
          replace H : ((bits_LeadingZeros64.f (Go.bits .xor .u64 18446744073709551615 (IntKind.u64.wrap (a1)))).bind fun t127 => ((bits_TrailingZeros64.f (Go.bits .xor .u64 18446744073709551615 (IntKind.u64.wrap (a1)))).bind fun t128 => (if t125 = 0 then (if (wrap64 (64 - t126)) = a2 then (some (Go.bits .or .i64 (Go.bits .or .i64 (Go.bits .or .i64 t127 (wrap64 ((wrap64 (64 - t128)) * 256))) (wrap64 (a0 * 65536))) (wrap64 (a2 * 16777216)))) else (some (Go.bits .or .i64 (Go.bits .or .i64 (Go.bits .or .i64 (wrap64 (64 - t126)) (wrap64 (t125 * 256))) (wrap64 (a0 * 65536))) (wrap64 (a2 * 16777216))))) else (some (Go.bits .or .i64 (Go.bits .or .i64 (Go.bits .or .i64 (wrap64 (64 - t126)) (wrap64 (t125 * 256))) (wrap64 (a0 * 65536))) (wrap64 (a2 * 16777216))))))) = some r := H
          have A16 := Aside0.mk A160
          clear A160
          replace H := Option.bind_eq_some_iff.mp H
          obtain ⟨t127, A170, H⟩ := H
          replace H : ((bits_TrailingZeros64.f (Go.bits .xor .u64 18446744073709551615 (IntKind.u64.wrap (a1)))).bind fun t128 => (if t125 = 0 then (if (wrap64 (64 - t126)) = a2 then (some (Go.bits .or .i64 (Go.bits .or .i64 (Go.bits .or .i64 t127 (wrap64 ((wrap64 (64 - t128)) * 256))) (wrap64 (a0 * 65536))) (wrap64 (a2 * 16777216)))) else (some (Go.bits .or .i64 (Go.bits .or .i64 (Go.bits .or .i64 (wrap64 (64 - t126)) (wrap64 (t125 * 256))) (wrap64 (a0 * 65536))) (wrap64 (a2 * 16777216))))) else (some (Go.bits .or .i64 (Go.bits .or .i64 (Go.bits .or .i64 (wrap64 (64 - t126)) (wrap64 (t125 * 256))) (wrap64 (a0 * 65536))) (wrap64 (a2 * 16777216)))))) = some r := H
          have A17 := Aside0.mk A170
          clear A170
          replace H := Option.bind_eq_some_iff.mp H
          obtain ⟨t128, A180, H⟩ := H
          replace H : (if t125 = 0 then (if (wrap64 (64 - t126)) = a2 then (some (Go.bits .or .i64 (Go.bits .or .i64 (Go.bits .or .i64 t127 (wrap64 ((wrap64 (64 - t128)) * 256))) (wrap64 (a0 * 65536))) (wrap64 (a2 * 16777216)))) else (some (Go.bits .or .i64 (Go.bits .or .i64 (Go.bits .or .i64 (wrap64 (64 - t126)) (wrap64 (t125 * 256))) (wrap64 (a0 * 65536))) (wrap64 (a2 * 16777216))))) else (some (Go.bits .or .i64 (Go.bits .or .i64 (Go.bits .or .i64 (wrap64 (64 - t126)) (wrap64 (t125 * 256))) (wrap64 (a0 * 65536))) (wrap64 (a2 * 16777216))))) = some r := H
          have A18 := Aside0.mk A180
          clear A180
          by_cases c19 : t125 = 0
          · rw [if_pos c19] at H
            have c19b0 : (t125 == 0) = true := beq_iff_eq.mpr c19
            have c19b1 : (t125 != 0) = false := bne_eq_false_iff_eq.mpr c19
            clear c19
            by_cases c20 : (wrap64 (64 - t126)) = a2
            · rw [if_pos c20] at H
              have c20b0 : ((wrap64 (64 - t126)) == a2) = true := beq_iff_eq.mpr c20
              have c20b1 : ((wrap64 (64 - t126)) != a2) = false := bne_eq_false_iff_eq.mpr c20
              clear c20
              obtain rfl := Option.some.inj H
              go_wp2_with (first | ((with_reducible refine gate_callee (f := 59) rfl ?_); refine goesL_ (some 44) rfl rfl Tryd.func59 (by kernel_rfl) rfl #[.int .u64 (IntKind.u64.wrap (a1))] rfl (by (try simp only [List.map_toArray, List.map_cons, List.map_nil]); first | done | rfl | (simp only [List.length_drop, List.length_take]; rfl)) ?_; (with_reducible refine (bits_LeadingZeros64.calls (IntKind.u64.wrap (a1)) t125 _ A15.out).mono ?_); rintro e w' ⟨rfl, ⟨nd, rfl⟩⟩; refine ⟨_, rfl, ?_⟩) | ((with_reducible refine gate_callee (f := 60) rfl ?_); refine goesL_ (some 47) rfl rfl Tryd.func60 (by kernel_rfl) rfl #[.int .u64 (IntKind.u64.wrap (a1))] rfl (by (try simp only [List.map_toArray, List.map_cons, List.map_nil]); first | done | rfl | (simp only [List.length_drop, List.length_take]; rfl)) ?_; (with_reducible refine (bits_TrailingZeros64.calls (IntKind.u64.wrap (a1)) t126 _ (by first | exact hT | exact hT.drewN _ | exact (hT.drewN _).drewN _ | exact ((hT.drewN _).drewN _).drewN _ | exact hT.below HB.out | exact (hT.below HB.out).drewN _ | exact ((hT.below HB.out).drewN _).drewN _) A16.out).mono ?_); rintro e w' ⟨rfl, ⟨nd, rfl⟩⟩; refine ⟨_, rfl, ?_⟩) | ((with_reducible refine gate_callee (f := 59) rfl ?_); refine goesL_ (some 52) rfl rfl Tryd.func59 (by kernel_rfl) rfl #[.int .u64 (Go.bits .xor .u64 18446744073709551615 (IntKind.u64.wrap (a1)))] rfl (by (try simp only [List.map_toArray, List.map_cons, List.map_nil]); first | done | rfl | (simp only [List.length_drop, List.length_take]; rfl)) ?_; (with_reducible refine (bits_LeadingZeros64.calls (Go.bits .xor .u64 18446744073709551615 (IntKind.u64.wrap (a1))) t127 _ A17.out).mono ?_); rintro e w' ⟨rfl, ⟨nd, rfl⟩⟩; refine ⟨_, rfl, ?_⟩) | ((with_reducible refine gate_callee (f := 60) rfl ?_); refine goesL_ (some 56) rfl rfl Tryd.func60 (by kernel_rfl) rfl #[.int .u64 (Go.bits .xor .u64 18446744073709551615 (IntKind.u64.wrap (a1)))] rfl (by (try simp only [List.map_toArray, List.map_cons, List.map_nil]); first | done | rfl | (simp only [List.length_drop, List.length_take]; rfl)) ?_; (with_reducible refine (bits_TrailingZeros64.calls (Go.bits .xor .u64 18446744073709551615 (IntKind.u64.wrap (a1))) t128 _ (by first | exact hT | exact hT.drewN _ | exact (hT.drewN _).drewN _ | exact ((hT.drewN _).drewN _).drewN _ | exact hT.below HB.out | exact (hT.below HB.out).drewN _ | exact ((hT.below HB.out).drewN _).drewN _) A18.out).mono ?_); rintro e w' ⟨rfl, ⟨nd, rfl⟩⟩; refine ⟨_, rfl, ?_⟩))
              go_ret
              exact ⟨by first | rfl | (simp; done) | (simp [*]; done), by repeat (first | exact Drawn0.refl _ | apply Drawn0.step)⟩
            · rw [if_neg c20] at H
              have c20b0 : ((wrap64 (64 - t126)) == a2) = false := beq_eq_false_iff_ne.mpr c20
              have c20b1 : ((wrap64 (64 - t126)) != a2) = true := bne_iff_ne.mpr c20
              obtain rfl := Option.some.inj H
              go_wp2_with (first | ((with_reducible refine gate_callee (f := 59) rfl ?_); refine goesL_ (some 44) rfl rfl Tryd.func59 (by kernel_rfl) rfl #[.int .u64 (IntKind.u64.wrap (a1))] rfl (by (try simp only [List.map_toArray, List.map_cons, List.map_nil]); first | done | rfl | (simp only [List.length_drop, List.length_take]; rfl)) ?_; (with_reducible refine (bits_LeadingZeros64.calls (IntKind.u64.wrap (a1)) t125 _ A15.out).mono ?_); rintro e w' ⟨rfl, ⟨nd, rfl⟩⟩; refine ⟨_, rfl, ?_⟩) | ((with_reducible refine gate_callee (f := 60) rfl ?_); refine goesL_ (some 47) rfl rfl Tryd.func60 (by kernel_rfl) rfl #[.int .u64 (IntKind.u64.wrap (a1))] rfl (by (try simp only [List.map_toArray, List.map_cons, List.map_nil]); first | done | rfl | (simp only [List.length_drop, List.length_take]; rfl)) ?_; (with_reducible refine (bits_TrailingZeros64.calls (IntKind.u64.wrap (a1)) t126 _ (by first | exact hT | exact hT.drewN _ | exact (hT.drewN _).drewN _ | exact ((hT.drewN _).drewN _).drewN _ | exact hT.below HB.out | exact (hT.below HB.out).drewN _ | exact ((hT.below HB.out).drewN _).drewN _) A16.out).mono ?_); rintro e w' ⟨rfl, ⟨nd, rfl⟩⟩; refine ⟨_, rfl, ?_⟩) | ((with_reducible refine gate_callee (f := 59) rfl ?_); refine goesL_ (some 52) rfl rfl Tryd.func59 (by kernel_rfl) rfl #[.int .u64 (Go.bits .xor .u64 18446744073709551615 (IntKind.u64.wrap (a1)))] rfl (by (try simp only [List.map_toArray, List.map_cons, List.map_nil]); first | done | rfl | (simp only [List.length_drop, List.length_take]; rfl)) ?_; (with_reducible refine (bits_LeadingZeros64.calls (Go.bits .xor .u64 18446744073709551615 (IntKind.u64.wrap (a1))) t127 _ A17.out).mono ?_); rintro e w' ⟨rfl, ⟨nd, rfl⟩⟩; refine ⟨_, rfl, ?_⟩) | ((with_reducible refine gate_callee (f := 60) rfl ?_); refine goesL_ (some 56) rfl rfl Tryd.func60 (by kernel_rfl) rfl #[.int .u64 (Go.bits .xor .u64 18446744073709551615 (IntKind.u64.wrap (a1)))] rfl (by (try simp only [List.map_toArray, List.map_cons, List.map_nil]); first | done | rfl | (simp only [List.length_drop, List.length_take]; rfl)) ?_; (with_reducible refine (bits_TrailingZeros64.calls (Go.bits .xor .u64 18446744073709551615 (IntKind.u64.wrap (a1))) t128 _ (by first | exact hT | exact hT.drewN _ | exact (hT.drewN _).drewN _ | exact ((hT.drewN _).drewN _).drewN _ | exact hT.below HB.out | exact (hT.below HB.out).drewN _ | exact ((hT.below HB.out).drewN _).drewN _) A18.out).mono ?_); rintro e w' ⟨rfl, ⟨nd, rfl⟩⟩; refine ⟨_, rfl, ?_⟩))
              go_ret
              exact ⟨by first | rfl | (simp; done) | (simp [*]; done), by repeat (first | exact Drawn0.refl _ | apply Drawn0.step)⟩
          · rw [if_neg c19] at H
            have c19b0 : (t125 == 0) = false := beq_eq_false_iff_ne.mpr c19
            have c19b1 : (t125 != 0) = true := bne_iff_ne.mpr c19
            obtain rfl := Option.some.inj H
            go_wp2_with (first | ((with_reducible refine gate_callee (f := 59) rfl ?_); refine goesL_ (some 44) rfl rfl Tryd.func59 (by kernel_rfl) rfl #[.int .u64 (IntKind.u64.wrap (a1))] rfl (by (try simp only [List.map_toArray, List.map_cons, List.map_nil]); first | done | rfl | (simp only [List.length_drop, List.length_take]; rfl)) ?_; (with_reducible refine (bits_LeadingZeros64.calls (IntKind.u64.wrap (a1)) t125 _ A15.out).mono ?_); rintro e w' ⟨rfl, ⟨nd, rfl⟩⟩; refine ⟨_, rfl, ?_⟩) | ((with_reducible refine gate_callee (f := 60) rfl ?_); refine goesL_ (some 47) rfl rfl Tryd.func60 (by kernel_rfl) rfl #[.int .u64 (IntKind.u64.wrap (a1))] rfl (by (try simp only [List.map_toArray, List.map_cons, List.map_nil]); first | done | rfl | (simp only [List.length_drop, List.length_take]; rfl)) ?_; (with_reducible refine (bits_TrailingZeros64.calls (IntKind.u64.wrap (a1)) t126 _ (by first | exact hT | exact hT.drewN _ | exact (hT.drewN _).drewN _ | exact ((hT.drewN _).drewN _).drewN _ | exact hT.below HB.out | exact (hT.below HB.out).drewN _ | exact ((hT.below HB.out).drewN _).drewN _) A16.out).mono ?_); rintro e w' ⟨rfl, ⟨nd, rfl⟩⟩; refine ⟨_, rfl, ?_⟩) | ((with_reducible refine gate_callee (f := 59) rfl ?_); refine goesL_ (some 52) rfl rfl Tryd.func59 (by kernel_rfl) rfl #[.int .u64 (Go.bits .xor .u64 18446744073709551615 (IntKind.u64.wrap (a1)))] rfl (by (try simp only [List.map_toArray, List.map_cons, List.map_nil]); first | done | rfl | (simp only [List.length_drop, List.length_take]; rfl)) ?_; (with_reducible refine (bits_LeadingZeros64.calls (Go.bits .xor .u64 18446744073709551615 (IntKind.u64.wrap (a1))) t127 _ A17.out).mono ?_); rintro e w' ⟨rfl, ⟨nd, rfl⟩⟩; refine ⟨_, rfl, ?_⟩) | ((with_reducible refine gate_callee (f := 60) rfl ?_); refine goesL_ (some 56) rfl rfl Tryd.func60 (by kernel_rfl) rfl #[.int .u64 (Go.bits .xor .u64 18446744073709551615 (IntKind.u64.wrap (a1)))] rfl (by (try simp only [List.map_toArray, List.map_cons, List.map_nil]); first | done | rfl | (simp only [List.length_drop, List.length_take]; rfl)) ?_; (with_reducible refine (bits_TrailingZeros64.calls (Go.bits .xor .u64 18446744073709551615 (IntKind.u64.wrap (a1))) t128 _ (by first | exact hT | exact hT.drewN _ | exact (hT.drewN _).drewN _ | exact ((hT.drewN _).drewN _).drewN _ | exact hT.below HB.out | exact (hT.below HB.out).drewN _ | exact ((hT.below HB.out).drewN _).drewN _) A18.out).mono ?_); rintro e w' ⟨rfl, ⟨nd, rfl⟩⟩; refine ⟨_, rfl, ?_⟩))
            go_ret
            exact ⟨by first | rfl | (simp; done) | (simp [*]; done), by repeat (first | exact Drawn0.refl _ | apply Drawn0.step)⟩

attribute [local go_sem] signed_i64 signed_i32 signed_u32 max_u32 signed_u64 max_u64
/-! ### bits_RotateLeft64: function 66 -/
def bits_RotateLeft64.f (a0 : Int) (a1 : Int) : Option (Int) := if 0 ≤ (Go.bits .and .u64 (IntKind.u64.wrap (a1)) 63) then (if 0 ≤ (IntKind.u64.wrap (64 - (Go.bits .and .u64 (IntKind.u64.wrap (a1)) 63))) then (some (Go.bits .or .u64 (shl .u64 a0 (Go.bits .and .u64 (IntKind.u64.wrap (a1)) 63)) (shr .u64 a0 (IntKind.u64.wrap (64 - (Go.bits .and .u64 (IntKind.u64.wrap (a1)) 63)))))) else (none)) else (none)
set_option maxHeartbeats 8000000 in
set_option maxRecDepth 100000 in
theorem bits_RotateLeft64.calls (a0 : Int) (a1 : Int) (r : Int) (w : World) (h : bits_RotateLeft64.f a0 a1 = some r) :
    Calls Tryd.prog 66 #[.int .u64 a0, .int .i64 a1] w fun e w' => e = .returned (.int .u64 r) ∧ Drawn0 w w' := by
  have H : (if 0 ≤ (Go.bits .and .u64 (IntKind.u64.wrap (a1)) 63) then (if 0 ≤ (IntKind.u64.wrap (64 - (Go.bits .and .u64 (IntKind.u64.wrap (a1)) 63))) then (some (Go.bits .or .u64 (shl .u64 a0 (Go.bits .and .u64 (IntKind.u64.wrap (a1)) 63)) (shr .u64 a0 (IntKind.u64.wrap (64 - (Go.bits .and .u64 (IntKind.u64.wrap (a1)) 63)))))) else (none)) else (none)) = some r := h
  clear h
  obtain ⟨ji3, hji3⟩ : ∃ j_ : Int, (Go.bits .and .u64 (IntKind.u64.wrap (a1)) 63) = j_ := ⟨_, rfl⟩
  replace H : (if 0 ≤ (ji3) then (if 0 ≤ (IntKind.u64.wrap (64 - (ji3))) then (some (Go.bits .or .u64 (shl .u64 a0 (ji3)) (shr .u64 a0 (IntKind.u64.wrap (64 - (ji3)))))) else (none)) else (none)) = some r := by first | (rw [hji3] at H; exact H) | (simp only [hji3] at H ⊢; exact H)
  by_cases c4 : 0 ≤ (ji3)
  · rw [if_pos c4] at H
    have c4b0 := eq_true c4
    have c4b1 : decide (0 ≤ (ji3)) = true := decide_eq_true c4
    clear c4
    obtain ⟨ji5, hji5⟩ : ∃ j_ : Int, (shl .u64 a0 (ji3)) = j_ := ⟨_, rfl⟩
    replace H : (if 0 ≤ (IntKind.u64.wrap (64 - (ji3))) then (some (Go.bits .or .u64 (ji5) (shr .u64 a0 (IntKind.u64.wrap (64 - (ji3)))))) else (none)) = some r := by first | (rw [hji5] at H; exact H) | (simp only [hji5] at H ⊢; exact H)
    have hji5_ : (IntKind.u64.wrap (a0 * 2 ^ min (ji3).toNat 64)) = ji5 := hji5
    have hji5z : (ji3) ≤ 64 → (IntKind.u64.wrap (a0 * 2 ^ (ji3).toNat)) = ji5 := shl_small hji5
    obtain ⟨ji6, hji6⟩ : ∃ j_ : Int, (IntKind.u64.wrap (64 - (ji3))) = j_ := ⟨_, rfl⟩
    replace H : (if 0 ≤ (ji6) then (some (Go.bits .or .u64 (ji5) (shr .u64 a0 (ji6)))) else (none)) = some r := by first | (rw [hji6] at H; exact H) | (simp only [hji6] at H ⊢; exact H)
    by_cases c7 : 0 ≤ (ji6)
    · rw [if_pos c7] at H
      have c7b0 := eq_true c7
      have c7b1 : decide (0 ≤ (ji6)) = true := decide_eq_true c7
      clear c7
      obtain ⟨ji8, hji8⟩ : ∃ j_ : Int, (shr .u64 a0 (ji6)) = j_ := ⟨_, rfl⟩
      replace H : (some (Go.bits .or .u64 (ji5) (ji8))) = some r := by first | (rw [hji8] at H; exact H) | (simp only [hji8] at H ⊢; exact H)
      have hji8_ : (a0 / 2 ^ min (ji6).toNat 64) = ji8 := hji8
      have hji8z : (ji6) ≤ 64 → (a0 / 2 ^ (ji6).toNat) = ji8 := shr_small hji8
      obtain rfl := Option.some.inj H
      go_enter Tryd.func66, Tryd.ntmps66
      go_wp2
      go_ret
      exact ⟨by first | rfl | (simp; done) | (simp only [← hji3, ← hji5, ← hji6, ← hji8] <;> (first | rfl | simp)) | (simp [*]; done), by repeat (first | exact Drawn0.refl _ | apply Drawn0.step)⟩
    · rw [if_neg c7] at H
      exact absurd H (by simp)
  · rw [if_neg c4] at H
    exact absurd H (by simp)

attribute [local go_sem] signed_i64 signed_i32 signed_u32 max_u32 signed_u64 max_u64
/-! ### ssarewrite_isPPC64WordRotateMaskNonWrapping: function 67 -/
def ssarewrite_isPPC64WordRotateMaskNonWrapping.f (a0 : Int) : Option (Bool) := if (Go.bits .and .u32 ((a0) % 4294967296) (((Go.bits .and .u32 ((a0) % 4294967296) ((-((a0) % 4294967296)) % 4294967296)) + (a0)) % 4294967296)) = 0 then (if ((a0) % 4294967296) = 0 then (some false) else (some (((a0) % 4294967296) == (IntKind.u64.wrap (a0))))) else (some false)
set_option maxHeartbeats 8000000 in
set_option maxRecDepth 100000 in
theorem ssarewrite_isPPC64WordRotateMaskNonWrapping.calls (a0 : Int) (r : Bool) (w : World) (h : ssarewrite_isPPC64WordRotateMaskNonWrapping.f a0 = some r) :
    Calls Tryd.prog 67 #[.int .i64 a0] w fun e w' => e = .returned (.bool r) ∧ Drawn0 w w' := by
  have H : (if (Go.bits .and .u32 ((a0) % 4294967296) (((Go.bits .and .u32 ((a0) % 4294967296) ((-((a0) % 4294967296)) % 4294967296)) + (a0)) % 4294967296)) = 0 then (if ((a0) % 4294967296) = 0 then (some false) else (some (((a0) % 4294967296) == (IntKind.u64.wrap (a0))))) else (some false)) = some r := h
  clear h
  by_cases c2 : (Go.bits .and .u32 ((a0) % 4294967296) (((Go.bits .and .u32 ((a0) % 4294967296) ((-((a0) % 4294967296)) % 4294967296)) + (a0)) % 4294967296)) = 0
  · rw [if_pos c2] at H
    have c2b0 : ((Go.bits .and .u32 ((a0) % 4294967296) (((Go.bits .and .u32 ((a0) % 4294967296) ((-((a0) % 4294967296)) % 4294967296)) + (a0)) % 4294967296)) == 0) = true := beq_iff_eq.mpr c2
    have c2b1 : ((Go.bits .and .u32 ((a0) % 4294967296) (((Go.bits .and .u32 ((a0) % 4294967296) ((-((a0) % 4294967296)) % 4294967296)) + (a0)) % 4294967296)) != 0) = false := bne_eq_false_iff_eq.mpr c2
    clear c2
    by_cases c3 : ((a0) % 4294967296) = 0
    · rw [if_pos c3] at H
      have c3b0 : (((a0) % 4294967296) == 0) = true := beq_iff_eq.mpr c3
      have c3b1 : (((a0) % 4294967296) != 0) = false := bne_eq_false_iff_eq.mpr c3
      clear c3
      obtain rfl := Option.some.inj H
      go_enter Tryd.func67, Tryd.ntmps67
      go_wp2
      go_ret
      exact ⟨by first | rfl | (simp; done) | (simp [*]; done), by repeat (first | exact Drawn0.refl _ | apply Drawn0.step)⟩
    · rw [if_neg c3] at H
      have c3b0 : (((a0) % 4294967296) == 0) = false := beq_eq_false_iff_ne.mpr c3
      have c3b1 : (((a0) % 4294967296) != 0) = true := bne_iff_ne.mpr c3
      obtain rfl := Option.some.inj H
      go_enter Tryd.func67, Tryd.ntmps67
      go_wp2
      go_ret
      exact ⟨by first | rfl | (simp; done) | (simp [*]; done), by repeat (first | exact Drawn0.refl _ | apply Drawn0.step)⟩
  · rw [if_neg c2] at H
    have c2b0 : ((Go.bits .and .u32 ((a0) % 4294967296) (((Go.bits .and .u32 ((a0) % 4294967296) ((-((a0) % 4294967296)) % 4294967296)) + (a0)) % 4294967296)) == 0) = false := beq_eq_false_iff_ne.mpr c2
    have c2b1 : ((Go.bits .and .u32 ((a0) % 4294967296) (((Go.bits .and .u32 ((a0) % 4294967296) ((-((a0) % 4294967296)) % 4294967296)) + (a0)) % 4294967296)) != 0) = true := bne_iff_ne.mpr c2
    obtain rfl := Option.some.inj H
    go_enter Tryd.func67, Tryd.ntmps67
    go_wp2
    go_ret
    exact ⟨by first | rfl | (simp; done) | (simp [*]; done), by repeat (first | exact Drawn0.refl _ | apply Drawn0.step)⟩

attribute [local go_sem] signed_i64 signed_i32 signed_u32 max_u32 signed_u64 max_u64
/-! ### ssarewrite_mergePPC64AndSldi: function 56 -/
def ssarewrite_mergePPC64AndSldi.f (k : Nat) (a0 : Int) (a1 : Int) : Option (Int) := if 0 ≤ a1 then ((bits_RotateLeft64.f 18446744069414584320 a1).bind fun t129 => (if (Go.bits .and .u64 t129 (IntKind.u64.wrap (Go.bits .and .i64 (shl .i64 (-1) a1) a0))) = 0 then ((ssarewrite_isPPC64WordRotateMaskNonWrapping.f (Go.bits .and .i64 (shl .i64 (-1) a1) a0)).bind fun t130 => (if t130 = true then ((ssarewrite_encodePPC64RotateMask.f k (Go.bits .and .i64 a1 31) (Go.bits .and .i64 (shl .i64 (-1) a1) a0) 32).bind fun t131 => (some t131)) else (some 0))) else (some 0))) else (none)
theorem ssarewrite_mergePPC64AndSldi.mono : ∀ a0 a1 k, LeO (ssarewrite_mergePPC64AndSldi.f k a0 a1) (ssarewrite_mergePPC64AndSldi.f (k + 1) a0 a1) := by
  intro a0 a1 k
  unfold ssarewrite_mergePPC64AndSldi.f
  repeat' first
      | (with_reducible exact ssarewrite_encodePPC64RotateMask.mono _ _ _ _)
      | (with_reducible exact LeO.refl _)
      | (with_reducible exact LeO.none _)
      | (with_reducible refine LeO.ite ?_ ?_)
      | (with_reducible refine LeO.bind ?_ (fun _ => ?_))
      | exact ssarewrite_encodePPC64RotateMask.mono _ _ _ _
      | exact LeO.none _
      | refine LeO.ite ?_ ?_
      | refine LeO.bind ?_ (fun _ => ?_)
set_option maxHeartbeats 8000000 in
set_option maxRecDepth 100000 in
theorem ssarewrite_mergePPC64AndSldi.calls (k : Nat) (a0 : Int) (a1 : Int) (r : Int) (w : World) (hT : Tab0 w) (h : ssarewrite_mergePPC64AndSldi.f k a0 a1 = some r) :
    Calls Tryd.prog 56 #[.int .i64 a0, .int .i64 a1] w fun e w' => e = .returned (.int .i64 r) ∧ Drawn0 w w' := by
  have H : (if 0 ≤ a1 then ((bits_RotateLeft64.f 18446744069414584320 a1).bind fun t129 => (if (Go.bits .and .u64 t129 (IntKind.u64.wrap (Go.bits .and .i64 (shl .i64 (-1) a1) a0))) = 0 then ((ssarewrite_isPPC64WordRotateMaskNonWrapping.f (Go.bits .and .i64 (shl .i64 (-1) a1) a0)).bind fun t130 => (if t130 = true then ((ssarewrite_encodePPC64RotateMask.f k (Go.bits .and .i64 a1 31) (Go.bits .and .i64 (shl .i64 (-1) a1) a0) 32).bind fun t131 => (some t131)) else (some 0))) else (some 0))) else (none)) = some r := h
  clear h
  by_cases c3 : 0 ≤ a1
  · rw [if_pos c3] at H
    have c3b0 := eq_true c3
    have c3b1 : decide (0 ≤ a1) = true := decide_eq_true c3
    clear c3
    obtain ⟨ji4, hji4⟩ : ∃ j_ : Int, (shl .i64 (-1) a1) = j_ := ⟨_, rfl⟩
    replace H : ((bits_RotateLeft64.f 18446744069414584320 a1).bind fun t129 => (if (Go.bits .and .u64 t129 (IntKind.u64.wrap (Go.bits .and .i64 (ji4) a0))) = 0 then ((ssarewrite_isPPC64WordRotateMaskNonWrapping.f (Go.bits .and .i64 (ji4) a0)).bind fun t130 => (if t130 = true then ((ssarewrite_encodePPC64RotateMask.f k (Go.bits .and .i64 a1 31) (Go.bits .and .i64 (ji4) a0) 32).bind fun t131 => (some t131)) else (some 0))) else (some 0))) = some r := by first | (rw [hji4] at H; exact H) | (simp only [hji4] at H ⊢; exact H)
    have hji4_ : (IntKind.i64.wrap ((-1) * 2 ^ min a1.toNat 64)) = ji4 := hji4
    have hji4z : a1 ≤ 64 → (IntKind.i64.wrap ((-1) * 2 ^ a1.toNat)) = ji4 := shl_small hji4
    have hji4y : (wrap64 ((-1) * 2 ^ min a1.toNat 64)) = ji4 := (i64_w _).symm.trans hji4_
    have hji4w : (wrap64 (-2 ^ min a1.toNat 64)) = ji4 := by simpa using hji4y
    have hji4x : a1 ≤ 64 → (wrap64 ((-1) * 2 ^ a1.toNat)) = ji4 := fun h_ => (i64_w _).symm.trans (hji4z h_)
    replace H := Option.bind_eq_some_iff.mp H
    obtain ⟨t129, A50, H⟩ := H
    replace H : (if (Go.bits .and .u64 t129 (IntKind.u64.wrap (Go.bits .and .i64 (ji4) a0))) = 0 then ((ssarewrite_isPPC64WordRotateMaskNonWrapping.f (Go.bits .and .i64 (ji4) a0)).bind fun t130 => (if t130 = true then ((ssarewrite_encodePPC64RotateMask.f k (Go.bits .and .i64 a1 31) (Go.bits .and .i64 (ji4) a0) 32).bind fun t131 => (some t131)) else (some 0))) else (some 0)) = some r := H
    have A5 := Aside0.mk A50
    clear A50
    by_cases c6 : (Go.bits .and .u64 t129 (IntKind.u64.wrap (Go.bits .and .i64 (ji4) a0))) = 0
    · rw [if_pos c6] at H
      have c6b0 : ((Go.bits .and .u64 t129 (IntKind.u64.wrap (Go.bits .and .i64 (ji4) a0))) == 0) = true := beq_iff_eq.mpr c6
      have c6b1 : ((Go.bits .and .u64 t129 (IntKind.u64.wrap (Go.bits .and .i64 (ji4) a0))) != 0) = false := bne_eq_false_iff_eq.mpr c6
      clear c6
      replace H := Option.bind_eq_some_iff.mp H
      obtain ⟨t130, A70, H⟩ := H
      replace H : (if t130 = true then ((ssarewrite_encodePPC64RotateMask.f k (Go.bits .and .i64 a1 31) (Go.bits .and .i64 (ji4) a0) 32).bind fun t131 => (some t131)) else (some 0)) = some r := H
      have A7 := Aside0.mk A70
      clear A70
      by_cases c8 : t130 = true
      · subst c8
        have H1 : ((ssarewrite_encodePPC64RotateMask.f k (Go.bits .and .i64 a1 31) (Go.bits .and .i64 (ji4) a0) 32).bind fun t131 => (some t131)) = some r := by rw [if_pos rfl] at H; exact H
        clear H
        have H := H1
        clear H1
        replace H := Option.bind_eq_some_iff.mp H
        obtain ⟨t131, A90, H⟩ := H
        replace H : (some t131) = some r := H
        have A9 := Aside0.mk A90
        clear A90
        obtain rfl := Option.some.inj H
        go_enter Tryd.func56, Tryd.ntmps56
        go_wp2_with (first | ((with_reducible refine gate_callee (f := 66) rfl ?_); refine goesL_ (some 12) rfl rfl Tryd.func66 (by kernel_rfl) rfl #[.int .u64 18446744069414584320, .int .i64 a1] rfl (by (try simp only [List.map_toArray, List.map_cons, List.map_nil]); first | done | rfl | (simp only [List.length_drop, List.length_take]; rfl)) ?_; (with_reducible refine (bits_RotateLeft64.calls 18446744069414584320 a1 t129 _ A5.out).mono ?_); rintro e w' ⟨rfl, ⟨nd, rfl⟩⟩; refine ⟨_, rfl, ?_⟩) | ((with_reducible refine gate_callee (f := 67) rfl ?_); refine goesL_ (some 19) rfl rfl Tryd.func67 (by kernel_rfl) rfl #[.int .i64 (Go.bits .and .i64 (ji4) a0)] rfl (by (try simp only [List.map_toArray, List.map_cons, List.map_nil]); first | done | (simp only [hji4]; rfl) | (simp only [hji4w]; rfl) | rfl | (simp only [List.length_drop, List.length_take]; rfl)) ?_; (with_reducible refine (ssarewrite_isPPC64WordRotateMaskNonWrapping.calls (Go.bits .and .i64 (ji4) a0) true _ A7.out).mono ?_); rintro e w' ⟨rfl, ⟨nd, rfl⟩⟩; refine ⟨_, rfl, ?_⟩) | ((with_reducible refine gate_callee (f := 46) rfl ?_); refine goesL_ (some 24) rfl rfl Tryd.func46 (by kernel_rfl) rfl #[.int .i64 (Go.bits .and .i64 a1 31), .int .i64 (Go.bits .and .i64 (ji4) a0), .int .i64 32] rfl (by (try simp only [List.map_toArray, List.map_cons, List.map_nil]); first | done | (simp only [hji4]; rfl) | (simp only [hji4w]; rfl) | rfl | (simp only [List.length_drop, List.length_take]; rfl)) ?_; (with_reducible refine (ssarewrite_encodePPC64RotateMask.calls k (Go.bits .and .i64 a1 31) (Go.bits .and .i64 (ji4) a0) 32 t131 _ (by first | exact hT | exact hT.drewN _ | exact (hT.drewN _).drewN _ | exact ((hT.drewN _).drewN _).drewN _ | exact hT.below HB.out | exact (hT.below HB.out).drewN _ | exact ((hT.below HB.out).drewN _).drewN _) A9.out).mono ?_); rintro e w' ⟨rfl, ⟨nd, rfl⟩⟩; refine ⟨_, rfl, ?_⟩))
        go_ret
        exact ⟨by first | rfl | (simp; done) | (simp only [← hji4] <;> (first | rfl | simp)) | (simp [*]; done), by repeat (first | exact Drawn0.refl _ | apply Drawn0.step)⟩
      · replace c8 := Bool.eq_false_iff.mpr c8
        subst c8
        have H1 : (some 0) = some r := by rw [if_neg (show ¬ (false = true) by decide)] at H; exact H
        clear H
        have H := H1
        clear H1
        obtain rfl := Option.some.inj H
        go_enter Tryd.func56, Tryd.ntmps56
        go_wp2_with (first | ((with_reducible refine gate_callee (f := 66) rfl ?_); refine goesL_ (some 12) rfl rfl Tryd.func66 (by kernel_rfl) rfl #[.int .u64 18446744069414584320, .int .i64 a1] rfl (by (try simp only [List.map_toArray, List.map_cons, List.map_nil]); first | done | rfl | (simp only [List.length_drop, List.length_take]; rfl)) ?_; (with_reducible refine (bits_RotateLeft64.calls 18446744069414584320 a1 t129 _ A5.out).mono ?_); rintro e w' ⟨rfl, ⟨nd, rfl⟩⟩; refine ⟨_, rfl, ?_⟩) | ((with_reducible refine gate_callee (f := 67) rfl ?_); refine goesL_ (some 19) rfl rfl Tryd.func67 (by kernel_rfl) rfl #[.int .i64 (Go.bits .and .i64 (ji4) a0)] rfl (by (try simp only [List.map_toArray, List.map_cons, List.map_nil]); first | done | (simp only [hji4]; rfl) | (simp only [hji4w]; rfl) | rfl | (simp only [List.length_drop, List.length_take]; rfl)) ?_; (with_reducible refine (ssarewrite_isPPC64WordRotateMaskNonWrapping.calls (Go.bits .and .i64 (ji4) a0) false _ A7.out).mono ?_); rintro e w' ⟨rfl, ⟨nd, rfl⟩⟩; refine ⟨_, rfl, ?_⟩))
        go_ret
        exact ⟨by first | rfl | (simp; done) | (simp only [← hji4] <;> (first | rfl | simp)) | (simp [*]; done), by repeat (first | exact Drawn0.refl _ | apply Drawn0.step)⟩
    · rw [if_neg c6] at H
      have c6b0 : ((Go.bits .and .u64 t129 (IntKind.u64.wrap (Go.bits .and .i64 (ji4) a0))) == 0) = false := beq_eq_false_iff_ne.mpr c6
      have c6b1 : ((Go.bits .and .u64 t129 (IntKind.u64.wrap (Go.bits .and .i64 (ji4) a0))) != 0) = true := bne_iff_ne.mpr c6
      obtain rfl := Option.some.inj H
      go_enter Tryd.func56, Tryd.ntmps56
      go_wp2_with (first | ((with_reducible refine gate_callee (f := 66) rfl ?_); refine goesL_ (some 12) rfl rfl Tryd.func66 (by kernel_rfl) rfl #[.int .u64 18446744069414584320, .int .i64 a1] rfl (by (try simp only [List.map_toArray, List.map_cons, List.map_nil]); first | done | rfl | (simp only [List.length_drop, List.length_take]; rfl)) ?_; (with_reducible refine (bits_RotateLeft64.calls 18446744069414584320 a1 t129 _ A5.out).mono ?_); rintro e w' ⟨rfl, ⟨nd, rfl⟩⟩; refine ⟨_, rfl, ?_⟩))
      go_ret
      exact ⟨by first | rfl | (simp; done) | (simp only [← hji4] <;> (first | rfl | simp)) | (simp [*]; done), by repeat (first | exact Drawn0.refl _ | apply Drawn0.step)⟩
  · rw [if_neg c3] at H
    exact absurd H (by simp)

attribute [local go_sem] signed_i64 signed_i32 signed_u32 max_u32 signed_u64 max_u64
/-! ### ssarewrite_ZZMergePPC64AndSldi: function 45 -/
def ssarewrite_ZZMergePPC64AndSldi.f (k : Nat) (a0 : Int) (a1 : Int) : Option (Int) := (ssarewrite_mergePPC64AndSldi.f k a0 a1).bind fun t132 => (some t132)
theorem ssarewrite_ZZMergePPC64AndSldi.mono : ∀ a0 a1 k, LeO (ssarewrite_ZZMergePPC64AndSldi.f k a0 a1) (ssarewrite_ZZMergePPC64AndSldi.f (k + 1) a0 a1) := by
  intro a0 a1 k
  unfold ssarewrite_ZZMergePPC64AndSldi.f
  repeat' first
      | (with_reducible exact ssarewrite_mergePPC64AndSldi.mono _ _ _)
      | (with_reducible exact LeO.refl _)
      | (with_reducible exact LeO.none _)
      | (with_reducible refine LeO.ite ?_ ?_)
      | (with_reducible refine LeO.bind ?_ (fun _ => ?_))
      | exact ssarewrite_mergePPC64AndSldi.mono _ _ _
      | exact LeO.none _
      | refine LeO.ite ?_ ?_
      | refine LeO.bind ?_ (fun _ => ?_)
set_option maxHeartbeats 8000000 in
set_option maxRecDepth 100000 in
theorem ssarewrite_ZZMergePPC64AndSldi.calls (k : Nat) (a0 : Int) (a1 : Int) (r : Int) (w : World) (hT : Tab0 w) (h : ssarewrite_ZZMergePPC64AndSldi.f k a0 a1 = some r) :
    Calls Tryd.prog 45 #[.int .i64 a0, .int .i64 a1] w fun e w' => e = .returned (.int .i64 r) ∧ Drawn0 w w' := by
  have H : ((ssarewrite_mergePPC64AndSldi.f k a0 a1).bind fun t132 => (some t132)) = some r := h
  clear h
  replace H := Option.bind_eq_some_iff.mp H
  obtain ⟨t132, A30, H⟩ := H
  replace H : (some t132) = some r := H
  have A3 := Aside0.mk A30
  clear A30
  obtain rfl := Option.some.inj H
  go_enter Tryd.func45, Tryd.ntmps45
  go_wp2_with (first | ((with_reducible refine gate_callee (f := 56) rfl ?_); refine goesL_ (some 7) rfl rfl Tryd.func56 (by kernel_rfl) rfl #[.int .i64 a0, .int .i64 a1] rfl (by (try simp only [List.map_toArray, List.map_cons, List.map_nil]); first | done | rfl | (simp only [List.length_drop, List.length_take]; rfl)) ?_; (with_reducible refine (ssarewrite_mergePPC64AndSldi.calls k a0 a1 t132 _ (by first | exact hT | exact hT.drewN _ | exact (hT.drewN _).drewN _ | exact ((hT.drewN _).drewN _).drewN _ | exact hT.below HB.out | exact (hT.below HB.out).drewN _ | exact ((hT.below HB.out).drewN _).drewN _) A3.out).mono ?_); rintro e w' ⟨rfl, ⟨nd, rfl⟩⟩; refine ⟨_, rfl, ?_⟩))
  go_ret
  exact ⟨by first | rfl | (simp; done) | (simp [*]; done), by repeat (first | exact Drawn0.refl _ | apply Drawn0.step)⟩

attribute [local go_sem] signed_i64 signed_i32 signed_u32 max_u32 signed_u64 max_u64
/-! ### impl_AndSldi: function 30 -/
def impl_AndSldi.f (k : Nat) (a0 : Int) (a1 : Int) : Option (Int) := (ssarewrite_ZZMergePPC64AndSldi.f k a0 a1).bind fun t133 => (some t133)
theorem impl_AndSldi.mono : ∀ a0 a1 k, LeO (impl_AndSldi.f k a0 a1) (impl_AndSldi.f (k + 1) a0 a1) := by
  intro a0 a1 k
  unfold impl_AndSldi.f
  repeat' first
      | (with_reducible exact ssarewrite_ZZMergePPC64AndSldi.mono _ _ _)
      | (with_reducible exact LeO.refl _)
      | (with_reducible exact LeO.none _)
      | (with_reducible refine LeO.ite ?_ ?_)
      | (with_reducible refine LeO.bind ?_ (fun _ => ?_))
      | exact ssarewrite_ZZMergePPC64AndSldi.mono _ _ _
      | exact LeO.none _
      | refine LeO.ite ?_ ?_
      | refine LeO.bind ?_ (fun _ => ?_)
set_option maxHeartbeats 8000000 in
set_option maxRecDepth 100000 in
theorem impl_AndSldi.calls (k : Nat) (a0 : Int) (a1 : Int) (r : Int) (w : World) (hT : Tab0 w) (h : impl_AndSldi.f k a0 a1 = some r) :
    Calls Tryd.prog 30 #[.int .i64 a0, .int .i64 a1] w fun e w' => e = .returned (.int .i64 r) ∧ Drawn0 w w' := by
  have H : ((ssarewrite_ZZMergePPC64AndSldi.f k a0 a1).bind fun t133 => (some t133)) = some r := h
  clear h
  replace H := Option.bind_eq_some_iff.mp H
  obtain ⟨t133, A30, H⟩ := H
  replace H : (some t133) = some r := H
  have A3 := Aside0.mk A30
  clear A30
  obtain rfl := Option.some.inj H
  go_enter Tryd.func30, Tryd.ntmps30
  go_wp2_with (first | ((with_reducible refine gate_callee (f := 45) rfl ?_); refine goesL_ (some 7) rfl rfl Tryd.func45 (by kernel_rfl) rfl #[.int .i64 a0, .int .i64 a1] rfl (by (try simp only [List.map_toArray, List.map_cons, List.map_nil]); first | done | rfl | (simp only [List.length_drop, List.length_take]; rfl)) ?_; (with_reducible refine (ssarewrite_ZZMergePPC64AndSldi.calls k a0 a1 t133 _ (by first | exact hT | exact hT.drewN _ | exact (hT.drewN _).drewN _ | exact ((hT.drewN _).drewN _).drewN _ | exact hT.below HB.out | exact (hT.below HB.out).drewN _ | exact ((hT.below HB.out).drewN _).drewN _) A3.out).mono ?_); rintro e w' ⟨rfl, ⟨nd, rfl⟩⟩; refine ⟨_, rfl, ?_⟩))
  go_ret
  exact ⟨by first | rfl | (simp; done) | (simp [*]; done), by repeat (first | exact Drawn0.refl _ | apply Drawn0.step)⟩

attribute [local go_sem] signed_i64 signed_i32 signed_u32 max_u32 signed_u64 max_u64
/-! ### laws_FnAndSldi: function 11 -/
def laws_FnAndSldi.f (k : Nat) (a0 : Int) (a1 : Int) (a2 : Int) : Option (Bool) := (laws_rwAt.f a1 64).bind fun t134 => ((impl_AndSldi.f k a0 t134).bind fun t135 => ((laws_mkWorks.f).bind fun t136 => (if t136 = true then (if t135 = 0 then (some true) else (if 0 ≤ t134 then ((laws_mkGood.f k t135 a2 (Go.bits .and .u64 (IntKind.u64.wrap (a0)) (shl .u64 a2 t134))).bind fun t137 => (some t137)) else (none))) else (some false))))
theorem laws_FnAndSldi.mono : ∀ a0 a1 a2 k, LeO (laws_FnAndSldi.f k a0 a1 a2) (laws_FnAndSldi.f (k + 1) a0 a1 a2) := by
  intro a0 a1 a2 k
  unfold laws_FnAndSldi.f
  repeat' first
      | (with_reducible exact impl_AndSldi.mono _ _ _)
      | (with_reducible exact laws_mkGood.mono _ _ _ _)
      | (with_reducible exact LeO.refl _)
      | (with_reducible exact LeO.none _)
      | (with_reducible refine LeO.ite ?_ ?_)
      | (with_reducible refine LeO.bind ?_ (fun _ => ?_))
      | exact impl_AndSldi.mono _ _ _
      | exact laws_mkGood.mono _ _ _ _
      | exact LeO.none _
      | refine LeO.ite ?_ ?_
      | refine LeO.bind ?_ (fun _ => ?_)
set_option maxHeartbeats 8000000 in
set_option maxRecDepth 100000 in
theorem laws_FnAndSldi.calls (k : Nat) (a0 : Int) (a1 : Int) (a2 : Int) (r : Bool) (w : World) (hT : Tab0 w) (h : laws_FnAndSldi.f k a0 a1 a2 = some r) :
    Calls Tryd.prog 11 #[.int .i64 a0, .int .i64 a1, .int .u64 a2] w fun e w' => e = .returned (.bool r) ∧ Drawn0 w w' := by
  have H : ((laws_rwAt.f a1 64).bind fun t134 => ((impl_AndSldi.f k a0 t134).bind fun t135 => ((laws_mkWorks.f).bind fun t136 => (if t136 = true then (if t135 = 0 then (some true) else (if 0 ≤ t134 then ((laws_mkGood.f k t135 a2 (Go.bits .and .u64 (IntKind.u64.wrap (a0)) (shl .u64 a2 t134))).bind fun t137 => (some t137)) else (none))) else (some false))))) = some r := h
  clear h
  replace H := Option.bind_eq_some_iff.mp H
  obtain ⟨t134, A40, H⟩ := H
  replace H : ((impl_AndSldi.f k a0 t134).bind fun t135 => ((laws_mkWorks.f).bind fun t136 => (if t136 = true then (if t135 = 0 then (some true) else (if 0 ≤ t134 then ((laws_mkGood.f k t135 a2 (Go.bits .and .u64 (IntKind.u64.wrap (a0)) (shl .u64 a2 t134))).bind fun t137 => (some t137)) else (none))) else (some false)))) = some r := H
  have A4 := Aside0.mk A40
  clear A40
  replace H := Option.bind_eq_some_iff.mp H
  obtain ⟨t135, A50, H⟩ := H
  replace H : ((laws_mkWorks.f).bind fun t136 => (if t136 = true then (if t135 = 0 then (some true) else (if 0 ≤ t134 then ((laws_mkGood.f k t135 a2 (Go.bits .and .u64 (IntKind.u64.wrap (a0)) (shl .u64 a2 t134))).bind fun t137 => (some t137)) else (none))) else (some false))) = some r := H
  have A5 := Aside0.mk A50
  clear A50
  replace H := Option.bind_eq_some_iff.mp H
  obtain ⟨t136, A60, H⟩ := H
  replace H : (if t136 = true then (if t135 = 0 then (some true) else (if 0 ≤ t134 then ((laws_mkGood.f k t135 a2 (Go.bits .and .u64 (IntKind.u64.wrap (a0)) (shl .u64 a2 t134))).bind fun t137 => (some t137)) else (none))) else (some false)) = some r := H
  have A6 := Aside0.mk A60
  clear A60
  by_cases c7 : t136 = true
  · subst c7
    have H1 : (if t135 = 0 then (some true) else (if 0 ≤ t134 then ((laws_mkGood.f k t135 a2 (Go.bits .and .u64 (IntKind.u64.wrap (a0)) (shl .u64 a2 t134))).bind fun t137 => (some t137)) else (none))) = some r := by rw [if_pos rfl] at H; exact H
    clear H
    have H := H1
    clear H1
    by_cases c8 : t135 = 0
    · rw [if_pos c8] at H
      have c8b0 : (t135 == 0) = true := beq_iff_eq.mpr c8
      have c8b1 : (t135 != 0) = false := bne_eq_false_iff_eq.mpr c8
      clear c8
      obtain rfl := Option.some.inj H
      go_enter Tryd.func11, Tryd.ntmps11
      go_wp2_with (first | ((with_reducible refine gate_callee (f := 12) rfl ?_); refine goesL_ (some 10) rfl rfl Tryd.func12 (by kernel_rfl) rfl #[.int .i64 a1, .int .i64 64] rfl (by (try simp only [List.map_toArray, List.map_cons, List.map_nil]); first | done | rfl | (simp only [List.length_drop, List.length_take]; rfl)) ?_; (with_reducible refine (laws_rwAt.calls a1 64 t134 _ A4.out).mono ?_); rintro e w' ⟨rfl, ⟨nd, rfl⟩⟩; refine ⟨_, rfl, ?_⟩) | ((with_reducible refine gate_callee (f := 30) rfl ?_); refine goesL_ (some 13) rfl rfl Tryd.func30 (by kernel_rfl) rfl #[.int .i64 a0, .int .i64 t134] rfl (by (try simp only [List.map_toArray, List.map_cons, List.map_nil]); first | done | rfl | (simp only [List.length_drop, List.length_take]; rfl)) ?_; (with_reducible refine (impl_AndSldi.calls k a0 t134 t135 _ (by first | exact hT | exact hT.drewN _ | exact (hT.drewN _).drewN _ | exact ((hT.drewN _).drewN _).drewN _ | exact hT.below HB.out | exact (hT.below HB.out).drewN _ | exact ((hT.below HB.out).drewN _).drewN _) A5.out).mono ?_); rintro e w' ⟨rfl, ⟨nd, rfl⟩⟩; refine ⟨_, rfl, ?_⟩) | ((with_reducible refine gate_callee (f := 22) rfl ?_); refine goesL_ (some 14) rfl rfl Tryd.func22 (by kernel_rfl) rfl #[] rfl (by (try simp only [List.map_toArray, List.map_cons, List.map_nil]); first | done | rfl | (simp only [List.length_drop, List.length_take]; rfl)) ?_; (with_reducible refine (laws_mkWorks.calls  true _ A6.out).mono ?_); rintro e w' ⟨rfl, ⟨nd, rfl⟩⟩; refine ⟨_, rfl, ?_⟩))
      go_ret
      exact ⟨by first | rfl | (simp; done) | (simp [*]; done), by repeat (first | exact Drawn0.refl _ | apply Drawn0.step)⟩
    · rw [if_neg c8] at H
      have c8b0 : (t135 == 0) = false := beq_eq_false_iff_ne.mpr c8
      have c8b1 : (t135 != 0) = true := bne_iff_ne.mpr c8
      by_cases c9 : 0 ≤ t134
      · rw [if_pos c9] at H
        have c9b0 := eq_true c9
        have c9b1 : decide (0 ≤ t134) = true := decide_eq_true c9
        clear c9
        obtain ⟨ji10, hji10⟩ : ∃ j_ : Int, (shl .u64 a2 t134) = j_ := ⟨_, rfl⟩
        replace H : ((laws_mkGood.f k t135 a2 (Go.bits .and .u64 (IntKind.u64.wrap (a0)) (ji10))).bind fun t137 => (some t137)) = some r := by first | (rw [hji10] at H; exact H) | (simp only [hji10] at H ⊢; exact H)
        (try rw [hji10] at A4)
        (try rw [hji10] at A5)
        (try rw [hji10] at A6)
        have hji10_ : (IntKind.u64.wrap (a2 * 2 ^ min t134.toNat 64)) = ji10 := hji10
        have hji10z : t134 ≤ 64 → (IntKind.u64.wrap (a2 * 2 ^ t134.toNat)) = ji10 := shl_small hji10
        replace H := Option.bind_eq_some_iff.mp H
        obtain ⟨t137, A110, H⟩ := H
        replace H : (some t137) = some r := H
        have A11 := Aside0.mk A110
        clear A110
        obtain rfl := Option.some.inj H
        go_enter Tryd.func11, Tryd.ntmps11
        go_wp2_with (first | ((with_reducible refine gate_callee (f := 12) rfl ?_); refine goesL_ (some 10) rfl rfl Tryd.func12 (by kernel_rfl) rfl #[.int .i64 a1, .int .i64 64] rfl (by (try simp only [List.map_toArray, List.map_cons, List.map_nil]); first | done | rfl | (simp only [List.length_drop, List.length_take]; rfl)) ?_; (with_reducible refine (laws_rwAt.calls a1 64 t134 _ A4.out).mono ?_); rintro e w' ⟨rfl, ⟨nd, rfl⟩⟩; refine ⟨_, rfl, ?_⟩) | ((with_reducible refine gate_callee (f := 30) rfl ?_); refine goesL_ (some 13) rfl rfl Tryd.func30 (by kernel_rfl) rfl #[.int .i64 a0, .int .i64 t134] rfl (by (try simp only [List.map_toArray, List.map_cons, List.map_nil]); first | done | rfl | (simp only [List.length_drop, List.length_take]; rfl)) ?_; (with_reducible refine (impl_AndSldi.calls k a0 t134 t135 _ (by first | exact hT | exact hT.drewN _ | exact (hT.drewN _).drewN _ | exact ((hT.drewN _).drewN _).drewN _ | exact hT.below HB.out | exact (hT.below HB.out).drewN _ | exact ((hT.below HB.out).drewN _).drewN _) A5.out).mono ?_); rintro e w' ⟨rfl, ⟨nd, rfl⟩⟩; refine ⟨_, rfl, ?_⟩) | ((with_reducible refine gate_callee (f := 22) rfl ?_); refine goesL_ (some 14) rfl rfl Tryd.func22 (by kernel_rfl) rfl #[] rfl (by (try simp only [List.map_toArray, List.map_cons, List.map_nil]); first | done | rfl | (simp only [List.length_drop, List.length_take]; rfl)) ?_; (with_reducible refine (laws_mkWorks.calls  true _ A6.out).mono ?_); rintro e w' ⟨rfl, ⟨nd, rfl⟩⟩; refine ⟨_, rfl, ?_⟩) | (go_at_call 23; (with_reducible refine (laws_mkGood.calls k t135 a2 (Go.bits .and .u64 (IntKind.u64.wrap (a0)) (ji10)) t137 _ A11.out).mono ?_); rintro e w' ⟨rfl, ⟨nd, rfl⟩⟩))
        go_ret
        exact ⟨by first | rfl | (simp; done) | (simp only [← hji10] <;> (first | rfl | simp)) | (simp [*]; done), by repeat (first | exact Drawn0.refl _ | apply Drawn0.step)⟩
      · rw [if_neg c9] at H
        exact absurd H (by simp)
  · replace c7 := Bool.eq_false_iff.mpr c7
    subst c7
    have H1 : (some false) = some r := by rw [if_neg (show ¬ (false = true) by decide)] at H; exact H
    clear H
    have H := H1
    clear H1
    obtain rfl := Option.some.inj H
    go_enter Tryd.func11, Tryd.ntmps11
    go_wp2_with (first | ((with_reducible refine gate_callee (f := 12) rfl ?_); refine goesL_ (some 10) rfl rfl Tryd.func12 (by kernel_rfl) rfl #[.int .i64 a1, .int .i64 64] rfl (by (try simp only [List.map_toArray, List.map_cons, List.map_nil]); first | done | rfl | (simp only [List.length_drop, List.length_take]; rfl)) ?_; (with_reducible refine (laws_rwAt.calls a1 64 t134 _ A4.out).mono ?_); rintro e w' ⟨rfl, ⟨nd, rfl⟩⟩; refine ⟨_, rfl, ?_⟩) | ((with_reducible refine gate_callee (f := 30) rfl ?_); refine goesL_ (some 13) rfl rfl Tryd.func30 (by kernel_rfl) rfl #[.int .i64 a0, .int .i64 t134] rfl (by (try simp only [List.map_toArray, List.map_cons, List.map_nil]); first | done | rfl | (simp only [List.length_drop, List.length_take]; rfl)) ?_; (with_reducible refine (impl_AndSldi.calls k a0 t134 t135 _ (by first | exact hT | exact hT.drewN _ | exact (hT.drewN _).drewN _ | exact ((hT.drewN _).drewN _).drewN _ | exact hT.below HB.out | exact (hT.below HB.out).drewN _ | exact ((hT.below HB.out).drewN _).drewN _) A5.out).mono ?_); rintro e w' ⟨rfl, ⟨nd, rfl⟩⟩; refine ⟨_, rfl, ?_⟩) | ((with_reducible refine gate_callee (f := 22) rfl ?_); refine goesL_ (some 14) rfl rfl Tryd.func22 (by kernel_rfl) rfl #[] rfl (by (try simp only [List.map_toArray, List.map_cons, List.map_nil]); first | done | rfl | (simp only [List.length_drop, List.length_take]; rfl)) ?_; (with_reducible refine (laws_mkWorks.calls  false _ A6.out).mono ?_); rintro e w' ⟨rfl, ⟨nd, rfl⟩⟩; refine ⟨_, rfl, ?_⟩))
    go_ret
    exact ⟨by first | rfl | (simp; done) | (simp [*]; done), by repeat (first | exact Drawn0.refl _ | apply Drawn0.step)⟩

/-- THE ONE PURE STATEMENT of laws_FnAndSldi: yours. -/
def laws_FnAndSldi.Pure : Prop := ∀ (a0 : Int) (a1 : Int) (a2 : Int), (Lit.int .i64 a0).wf = true → (Lit.int .i64 a1).wf = true → (Lit.int .u64 a2).wf = true → ∃ k, laws_FnAndSldi.f k a0 a1 a2 = some true
theorem laws_FnAndSldi.walk (P : laws_FnAndSldi.Pure) (a0 : Int) (a1 : Int) (a2 : Int) (w : World) (hT : Tab0 w) (w0 : (Lit.int .i64 a0).wf = true) (w1 : (Lit.int .i64 a1).wf = true) (w2 : (Lit.int .u64 a2).wf = true) :
    Calls Tryd.prog 11 #[.int .i64 a0, .int .i64 a1, .int .u64 a2] w fun e w' => e = .returned (.bool true) ∧ Below w.heap.size w w' := by
  obtain ⟨k, h⟩ := P a0 a1 a2 w0 w1 w2
  refine (laws_FnAndSldi.calls k a0 a1 a2 true w hT h).mono ?_
  rintro e w' ⟨rfl, hd⟩
  exact ⟨rfl, hd.below⟩

end Go.Proofs.YtlcaejikcelgoaaDoor.PFnAndSldi
