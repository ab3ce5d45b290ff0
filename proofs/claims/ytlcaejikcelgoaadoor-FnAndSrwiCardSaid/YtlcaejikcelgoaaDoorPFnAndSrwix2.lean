-- Written by a program of this session out of the translation (wip/pp.py): Lean checks it.
import Derived.Test.YtlcaejikcelgoaaDoorPFnAndSrwix0
import Derived.Test.YtlcaejikcelgoaaDoorPFnAndSrwix1
namespace Go.Proofs.YtlcaejikcelgoaaDoor.PFnAndSrwi
open Go.RowKit Go.Proofs.YtlcaejikcelgoaaDoorW.PrintWords Go.Proofs.YtlcaejikcelgoaaDoorW.PrintLast Go.Proofs.YtlcaejikcelgoaaDoorW.PrintMore
attribute [local go_sem] max2_int min2_int max_two min_two max_three min_three max_four min_four   -- for this text's walks alone
set_option linter.unusedVariables false
set_option linter.unusedSimpArgs false

attribute [local go_sem] signed_i64 signed_i32 signed_u32 max_u32 signed_u64 max_u64
/-! ### ssarewrite_encodePPC64RotateMask: function 46 -/
def ssarewrite_encodePPC64RotateMask.j0 : Nat → Int → Int → Int → Bool → Option (Int)
  | 0, _, _, _, _ => none
  | k + 1, x0, x1, x2, x22 => if x22 = true then (none) else (if x2 = 32 then ((bits_LeadingZeros32.f ((x1) % 4294967296)).bind fun t121 => ((bits_TrailingZeros32.f ((x1) % 4294967296)).bind fun t122 => ((bits_LeadingZeros32.f (Go.bits .xor .u32 4294967295 ((x1) % 4294967296))).bind fun t123 => ((bits_TrailingZeros32.f (Go.bits .xor .u32 4294967295 ((x1) % 4294967296))).bind fun t124 => (if t121 = 0 then (if (wrap64 (32 - t122)) = x2 then (some (Go.bits .or .i64 (Go.bits .or .i64 (Go.bits .or .i64 t123 (wrap64 ((wrap64 (32 - t124)) * 256))) (wrap64 (x0 * 65536))) (wrap64 (x2 * 16777216)))) else (some (Go.bits .or .i64 (Go.bits .or .i64 (Go.bits .or .i64 (wrap64 (32 - t122)) (wrap64 (t121 * 256))) (wrap64 (x0 * 65536))) (wrap64 (x2 * 16777216))))) else (some (Go.bits .or .i64 (Go.bits .or .i64 (Go.bits .or .i64 (wrap64 (32 - t122)) (wrap64 (t121 * 256))) (wrap64 (x0 * 65536))) (wrap64 (x2 * 16777216))))))))) else ((bits_LeadingZeros64.f (IntKind.u64.wrap (x1))).bind fun t125 => ((bits_TrailingZeros64.f (IntKind.u64.wrap (x1))).bind fun t126 => ((bits_LeadingZeros64.f (Go.bits .xor .u64 18446744073709551615 (IntKind.u64.wrap (x1)))).bind fun t127 => ((bits_TrailingZeros64.f (Go.bits .xor .u64 18446744073709551615 (IntKind.u64.wrap (x1)))).bind fun t128 => (if t125 = 0 then (if (wrap64 (64 - t126)) = x2 then (some (Go.bits .or .i64 (Go.bits .or .i64 (Go.bits .or .i64 t127 (wrap64 ((wrap64 (64 - t128)) * 256))) (wrap64 (x0 * 65536))) (wrap64 (x2 * 16777216)))) else (some (Go.bits .or .i64 (Go.bits .or .i64 (Go.bits .or .i64 (wrap64 (64 - t126)) (wrap64 (t125 * 256))) (wrap64 (x0 * 65536))) (wrap64 (x2 * 16777216))))) else (some (Go.bits .or .i64 (Go.bits .or .i64 (Go.bits .or .i64 (wrap64 (64 - t126)) (wrap64 (t125 * 256))) (wrap64 (x0 * 65536))) (wrap64 (x2 * 16777216))))))))))
def ssarewrite_encodePPC64RotateMask.f (k : Nat) (a0 : Int) (a1 : Int) (a2 : Int) : Option (Int) := if a1 = 0 then (ssarewrite_encodePPC64RotateMask.j0 k a0 a1 a2 true) else (if (Go.bits .xor .i64 (-1) a1) = 0 then (ssarewrite_encodePPC64RotateMask.j0 k a0 a1 a2 true) else (ssarewrite_encodePPC64RotateMask.j0 k a0 a1 a2 (decide (a0 ≥ a2))))
theorem ssarewrite_encodePPC64RotateMask.mono_l : ∀ k, (∀ y0 y1 y2 y3, LeO (ssarewrite_encodePPC64RotateMask.j0 k y0 y1 y2 y3) (ssarewrite_encodePPC64RotateMask.j0 (k + 1) y0 y1 y2 y3))
  | 0 => fun _ _ _ _ r h => by simp [ssarewrite_encodePPC64RotateMask.j0] at h
  | k + 1 => by
    have ih0 := ssarewrite_encodePPC64RotateMask.mono_l k
    · intro y0 y1 y2 y3
      unfold ssarewrite_encodePPC64RotateMask.j0
      repeat' first
      | (with_reducible exact ih0 _ _ _ _)
      | (with_reducible exact LeO.refl _)
      | (with_reducible exact LeO.none _)
      | (with_reducible refine LeO.ite ?_ ?_)
      | (with_reducible refine LeO.bind ?_ (fun _ => ?_))
      | exact ih0 _ _ _ _
      | exact LeO.none _
      | refine LeO.ite ?_ ?_
      | refine LeO.bind ?_ (fun _ => ?_)
theorem ssarewrite_encodePPC64RotateMask.mono : ∀ a0 a1 a2 k, LeO (ssarewrite_encodePPC64RotateMask.f k a0 a1 a2) (ssarewrite_encodePPC64RotateMask.f (k + 1) a0 a1 a2) := by
  intro a0 a1 a2 k
  have ih0 := ssarewrite_encodePPC64RotateMask.mono_l k
  unfold ssarewrite_encodePPC64RotateMask.f
  repeat' first
      | (with_reducible exact ih0 _ _ _ _)
      | (with_reducible exact LeO.refl _)
      | (with_reducible exact LeO.none _)
      | (with_reducible refine LeO.ite ?_ ?_)
      | (with_reducible refine LeO.bind ?_ (fun _ => ?_))
      | exact ih0 _ _ _ _
      | exact LeO.none _
      | refine LeO.ite ?_ ?_
      | refine LeO.bind ?_ (fun _ => ?_)
set_option maxHeartbeats 8000000 in
set_option maxRecDepth 100000 in
theorem ssarewrite_encodePPC64RotateMask.calls (k : Nat) (a0 : Int) (a1 : Int) (a2 : Int) (r : Int) (w : World) (hT : Tab0 w) (h : ssarewrite_encodePPC64RotateMask.f k a0 a1 a2 = some r) :
    Calls Tryd.prog 46 #[.int .i64 a0, .int .i64 a1, .int .i64 a2] w fun e w' => e = .returned (.int .i64 r) ∧ Drawn0 w w' := by
  have H : (if a1 = 0 then (ssarewrite_encodePPC64RotateMask.j0 k a0 a1 a2 true) else (if (Go.bits .xor .i64 (-1) a1) = 0 then (ssarewrite_encodePPC64RotateMask.j0 k a0 a1 a2 true) else (ssarewrite_encodePPC64RotateMask.j0 k a0 a1 a2 (decide (a0 ≥ a2))))) = some r := h
  clear h
  have HC4 := Aside0.mk H
  clear H
  go_enter Tryd.func46, Tryd.ntmps46
  go_upto_region 2 with (fail)
  go_cut [22] (fun v22 wc => ∃ (kq : Nat) (x22_3 : Bool), v22 = .bool x22_3 ∧ Aside0 (ssarewrite_encodePPC64RotateMask.j0 kq a0 a1 a2 x22_3 = some r) ∧ Aside0 (kq ≤ k) ∧ Drawn0 w wc)
  case first =>
    have H := HC4.out
    clear HC4
    by_cases c5 : a1 = 0
    · rw [if_pos c5] at H
      have c5b0 : (a1 == 0) = true := beq_iff_eq.mpr c5
      have c5b1 : (a1 != 0) = false := bne_eq_false_iff_eq.mpr c5
      clear c5
      (first | rw [c5b0] | (simp only [i64_w, i32_w]; rw [c5b0]) | skip)
      have H' := Aside0.mk H
      clear H
      go_wp2
      go_meet
      case rel => exact ⟨_, (true), (by first | rfl | (simp; done) | (simp [*]; done)), H', ⟨by first | omega | exact Nat.le_refl _⟩, by repeat (first | exact Drawn0.refl _ | apply Drawn0.step)⟩
    · rw [if_neg c5] at H
      have c5b0 : (a1 == 0) = false := beq_eq_false_iff_ne.mpr c5
      have c5b1 : (a1 != 0) = true := bne_iff_ne.mpr c5
      (first | rw [c5b0] | (simp only [i64_w, i32_w]; rw [c5b0]) | skip)
      by_cases c6 : (Go.bits .xor .i64 (-1) a1) = 0
      · rw [if_pos c6] at H
        have c6b0 : ((Go.bits .xor .i64 (-1) a1) == 0) = true := beq_iff_eq.mpr c6
        have c6b1 : ((Go.bits .xor .i64 (-1) a1) != 0) = false := bne_eq_false_iff_eq.mpr c6
        clear c6
        have H' := Aside0.mk H
        clear H
        go_wp2
        go_meet
        case rel => exact ⟨_, (true), (by first | rfl | (simp; done) | (simp [*]; done)), H', ⟨by first | omega | exact Nat.le_refl _⟩, by repeat (first | exact Drawn0.refl _ | apply Drawn0.step)⟩
      · rw [if_neg c6] at H
        have c6b0 : ((Go.bits .xor .i64 (-1) a1) == 0) = false := beq_eq_false_iff_ne.mpr c6
        have c6b1 : ((Go.bits .xor .i64 (-1) a1) != 0) = true := bne_iff_ne.mpr c6
        have H' := Aside0.mk H
        clear H
        go_wp2
        go_meet
        case rel => exact ⟨_, (decide (a0 ≥ a2)), (by first | rfl | (simp; done) | (simp [*]; done)), H', ⟨by first | omega | exact Nat.le_refl _⟩, by repeat (first | exact Drawn0.refl _ | apply Drawn0.step)⟩
  case rest =>
    clear HC4
    try clear p2
    try clear c4
    try clear c5
    try clear c5b0
    try clear c5b1
    try clear c6
    try clear c6b0
    try clear c6b1
    obtain ⟨kq, x22_3, rfl, HA, HJ3, ⟨mc3, rfl⟩⟩ := hcut
    cases kq with
    | zero => exact absurd HA.out (by simp [ssarewrite_encodePPC64RotateMask.j0])
    | succ kj3 =>
      have H := HA.out
      clear HA
      simp only [ssarewrite_encodePPC64RotateMask.j0] at H
      by_cases c7 : x22_3 = true
      · subst c7
        have H1 : (none) = some r := by rw [if_pos rfl] at H; exact H
        clear H
        have H := H1
        clear H1
        exact absurd H (by simp)
      · replace c7 := Bool.eq_false_iff.mpr c7
        subst c7
        have H1 : (if a2 = 32 then ((bits_LeadingZeros32.f ((a1) % 4294967296)).bind fun t121 => ((bits_TrailingZeros32.f ((a1) % 4294967296)).bind fun t122 => ((bits_LeadingZeros32.f (Go.bits .xor .u32 4294967295 ((a1) % 4294967296))).bind fun t123 => ((bits_TrailingZeros32.f (Go.bits .xor .u32 4294967295 ((a1) % 4294967296))).bind fun t124 => (if t121 = 0 then (if (wrap64 (32 - t122)) = a2 then (some (Go.bits .or .i64 (Go.bits .or .i64 (Go.bits .or .i64 t123 (wrap64 ((wrap64 (32 - t124)) * 256))) (wrap64 (a0 * 65536))) (wrap64 (a2 * 16777216)))) else (some (Go.bits .or .i64 (Go.bits .or .i64 (Go.bits .or .i64 (wrap64 (32 - t122)) (wrap64 (t121 * 256))) (wrap64 (a0 * 65536))) (wrap64 (a2 * 16777216))))) else (some (Go.bits .or .i64 (Go.bits .or .i64 (Go.bits .or .i64 (wrap64 (32 - t122)) (wrap64 (t121 * 256))) (wrap64 (a0 * 65536))) (wrap64 (a2 * 16777216))))))))) else ((bits_LeadingZeros64.f (IntKind.u64.wrap (a1))).bind fun t125 => ((bits_TrailingZeros64.f (IntKind.u64.wrap (a1))).bind fun t126 => ((bits_LeadingZeros64.f (Go.bits .xor .u64 18446744073709551615 (IntKind.u64.wrap (a1)))).bind fun t127 => ((bits_TrailingZeros64.f (Go.bits .xor .u64 18446744073709551615 (IntKind.u64.wrap (a1)))).bind fun t128 => (if t125 = 0 then (if (wrap64 (64 - t126)) = a2 then (some (Go.bits .or .i64 (Go.bits .or .i64 (Go.bits .or .i64 t127 (wrap64 ((wrap64 (64 - t128)) * 256))) (wrap64 (a0 * 65536))) (wrap64 (a2 * 16777216)))) else (some (Go.bits .or .i64 (Go.bits .or .i64 (Go.bits .or .i64 (wrap64 (64 - t126)) (wrap64 (t125 * 256))) (wrap64 (a0 * 65536))) (wrap64 (a2 * 16777216))))) else (some (Go.bits .or .i64 (Go.bits .or .i64 (Go.bits .or .i64 (wrap64 (64 - t126)) (wrap64 (t125 * 256))) (wrap64 (a0 * 65536))) (wrap64 (a2 * 16777216)))))))))) = some r := by rw [if_neg (show ¬ (false = true) by decide)] at H; exact H
        clear H
        have H := H1
        clear H1
        by_cases c8 : a2 = 32
        · rw [if_pos c8] at H
          have c8b0 : (a2 == 32) = true := beq_iff_eq.mpr c8
          have c8b1 : (a2 != 32) = false := bne_eq_false_iff_eq.mpr c8
          clear c8
          replace H := Option.bind_eq_some_iff.mp H
          obtain ⟨t121, A90, H⟩ := H
          replace H : ((bits_TrailingZeros32.f ((a1) % 4294967296)).bind fun t122 => ((bits_LeadingZeros32.f (Go.bits .xor .u32 4294967295 ((a1) % 4294967296))).bind fun t123 => ((bits_TrailingZeros32.f (Go.bits .xor .u32 4294967295 ((a1) % 4294967296))).bind fun t124 => (if t121 = 0 then (if (wrap64 (32 - t122)) = a2 then (some (Go.bits .or .i64 (Go.bits .or .i64 (Go.bits .or .i64 t123 (wrap64 ((wrap64 (32 - t124)) * 256))) (wrap64 (a0 * 65536))) (wrap64 (a2 * 16777216)))) else (some (Go.bits .or .i64 (Go.bits .or .i64 (Go.bits .or .i64 (wrap64 (32 - t122)) (wrap64 (t121 * 256))) (wrap64 (a0 * 65536))) (wrap64 (a2 * 16777216))))) else (some (Go.bits .or .i64 (Go.bits .or .i64 (Go.bits .or .i64 (wrap64 (32 - t122)) (wrap64 (t121 * 256))) (wrap64 (a0 * 65536))) (wrap64 (a2 * 16777216)))))))) = some r := H
          have A9 := Aside0.mk A90
          clear A90
          replace H := Option.bind_eq_some_iff.mp H
          obtain ⟨t122, A100, H⟩ := H
          replace H : ((bits_LeadingZeros32.f (Go.bits .xor .u32 4294967295 ((a1) % 4294967296))).bind fun t123 => ((bits_TrailingZeros32.f (Go.bits .xor .u32 4294967295 ((a1) % 4294967296))).bind fun t124 => (if t121 = 0 then (if (wrap64 (32 - t122)) = a2 then (some (Go.bits .or .i64 (Go.bits .or .i64 (Go.bits .or .i64 t123 (wrap64 ((wrap64 (32 - t124)) * 256))) (wrap64 (a0 * 65536))) (wrap64 (a2 * 16777216)))) else (some (Go.bits .or .i64 (Go.bits .or .i64 (Go.bits .or .i64 (wrap64 (32 - t122)) (wrap64 (t121 * 256))) (wrap64 (a0 * 65536))) (wrap64 (a2 * 16777216))))) else (some (Go.bits .or .i64 (Go.bits .or .i64 (Go.bits .or .i64 (wrap64 (32 - t122)) (wrap64 (t121 * 256))) (wrap64 (a0 * 65536))) (wrap64 (a2 * 16777216))))))) = some r := H
          have A10 := Aside0.mk A100
          clear A100
          replace H := Option.bind_eq_some_iff.mp H
          obtain ⟨t123, A110, H⟩ := H
          replace H : ((bits_TrailingZeros32.f (Go.bits .xor .u32 4294967295 ((a1) % 4294967296))).bind fun t124 => (if t121 = 0 then (if (wrap64 (32 - t122)) = a2 then (some (Go.bits .or .i64 (Go.bits .or .i64 (Go.bits .or .i64 t123 (wrap64 ((wrap64 (32 - t124)) * 256))) (wrap64 (a0 * 65536))) (wrap64 (a2 * 16777216)))) else (some (Go.bits .or .i64 (Go.bits .or .i64 (Go.bits .or .i64 (wrap64 (32 - t122)) (wrap64 (t121 * 256))) (wrap64 (a0 * 65536))) (wrap64 (a2 * 16777216))))) else (some (Go.bits .or .i64 (Go.bits .or .i64 (Go.bits .or .i64 (wrap64 (32 - t122)) (wrap64 (t121 * 256))) (wrap64 (a0 * 65536))) (wrap64 (a2 * 16777216)))))) = some r := H
          have A11 := Aside0.mk A110
          clear A110
          replace H := Option.bind_eq_some_iff.mp H
          obtain ⟨t124, A120, H⟩ := H
          replace H : (if t121 = 0 then (if (wrap64 (32 - t122)) = a2 then (some (Go.bits .or .i64 (Go.bits .or .i64 (Go.bits .or .i64 t123 (wrap64 ((wrap64 (32 - t124)) * 256))) (wrap64 (a0 * 65536))) (wrap64 (a2 * 16777216)))) else (some (Go.bits .or .i64 (Go.bits .or .i64 (Go.bits .or .i64 (wrap64 (32 - t122)) (wrap64 (t121 * 256))) (wrap64 (a0 * 65536))) (wrap64 (a2 * 16777216))))) else (some (Go.bits .or .i64 (Go.bits .or .i64 (Go.bits .or .i64 (wrap64 (32 - t122)) (wrap64 (t121 * 256))) (wrap64 (a0 * 65536))) (wrap64 (a2 * 16777216))))) = some r := H
          have A12 := Aside0.mk A120
          clear A120
          by_cases c13 : t121 = 0
          · rw [if_pos c13] at H
            have c13b0 : (t121 == 0) = true := beq_iff_eq.mpr c13
            have c13b1 : (t121 != 0) = false := bne_eq_false_iff_eq.mpr c13
            clear c13
            by_cases c14 : (wrap64 (32 - t122)) = a2
            · rw [if_pos c14] at H
              have c14b0 : ((wrap64 (32 - t122)) == a2) = true := beq_iff_eq.mpr c14
              have c14b1 : ((wrap64 (32 - t122)) != a2) = false := bne_eq_false_iff_eq.mpr c14
              clear c14
              obtain rfl := Option.some.inj H
              go_wp2_with (first | ((with_reducible refine gate_callee (f := 57) rfl ?_); refine goesL_ (some 28) rfl rfl Tryd.func57 (by kernel_rfl) rfl #[.int .u32 ((a1) % 4294967296)] rfl (by (try simp only [List.map_toArray, List.map_cons, List.map_nil]); first | done | rfl | (simp only [List.length_drop, List.length_take]; rfl)) ?_; (with_reducible refine (bits_LeadingZeros32.calls ((a1) % 4294967296) t121 _ A9.out).mono ?_); rintro e w' ⟨rfl, ⟨nd, rfl⟩⟩; refine ⟨_, rfl, ?_⟩) | ((with_reducible refine gate_callee (f := 58) rfl ?_); refine goesL_ (some 31) rfl rfl Tryd.func58 (by kernel_rfl) rfl #[.int .u32 ((a1) % 4294967296)] rfl (by (try simp only [List.map_toArray, List.map_cons, List.map_nil]); first | done | rfl | (simp only [List.length_drop, List.length_take]; rfl)) ?_; (with_reducible refine (bits_TrailingZeros32.calls ((a1) % 4294967296) t122 _ (by first | exact hT | exact hT.drewN _ | exact (hT.drewN _).drewN _ | exact ((hT.drewN _).drewN _).drewN _ | exact hT.below HB.out | exact (hT.below HB.out).drewN _ | exact ((hT.below HB.out).drewN _).drewN _) A10.out).mono ?_); rintro e w' ⟨rfl, ⟨nd, rfl⟩⟩; refine ⟨_, rfl, ?_⟩) | ((with_reducible refine gate_callee (f := 57) rfl ?_); refine goesL_ (some 36) rfl rfl Tryd.func57 (by kernel_rfl) rfl #[.int .u32 (Go.bits .xor .u32 4294967295 ((a1) % 4294967296))] rfl (by (try simp only [List.map_toArray, List.map_cons, List.map_nil]); first | done | rfl | (simp only [List.length_drop, List.length_take]; rfl)) ?_; (with_reducible refine (bits_LeadingZeros32.calls (Go.bits .xor .u32 4294967295 ((a1) % 4294967296)) t123 _ A11.out).mono ?_); rintro e w' ⟨rfl, ⟨nd, rfl⟩⟩; refine ⟨_, rfl, ?_⟩) | ((with_reducible refine gate_callee (f := 58) rfl ?_); refine goesL_ (some 40) rfl rfl Tryd.func58 (by kernel_rfl) rfl #[.int .u32 (Go.bits .xor .u32 4294967295 ((a1) % 4294967296))] rfl (by (try simp only [List.map_toArray, List.map_cons, List.map_nil]); first | done | rfl | (simp only [List.length_drop, List.length_take]; rfl)) ?_; (with_reducible refine (bits_TrailingZeros32.calls (Go.bits .xor .u32 4294967295 ((a1) % 4294967296)) t124 _ (by first | exact hT | exact hT.drewN _ | exact (hT.drewN _).drewN _ | exact ((hT.drewN _).drewN _).drewN _ | exact hT.below HB.out | exact (hT.below HB.out).drewN _ | exact ((hT.below HB.out).drewN _).drewN _) A12.out).mono ?_); rintro e w' ⟨rfl, ⟨nd, rfl⟩⟩; refine ⟨_, rfl, ?_⟩))
              go_ret
              exact ⟨by first | rfl | (simp; done) | (simp [*]; done), by repeat (first | exact Drawn0.refl _ | apply Drawn0.step)⟩
            · rw [if_neg c14] at H
              have c14b0 : ((wrap64 (32 - t122)) == a2) = false := beq_eq_false_iff_ne.mpr c14
              have c14b1 : ((wrap64 (32 - t122)) != a2) = true := bne_iff_ne.mpr c14
              obtain rfl := Option.some.inj H
              go_wp2_with (first | ((with_reducible refine gate_callee (f := 57) rfl ?_); refine goesL_ (some 28) rfl rfl Tryd.func57 (by kernel_rfl) rfl #[.int .u32 ((a1) % 4294967296)] rfl (by (try simp only [List.map_toArray, List.map_cons, List.map_nil]); first | done | rfl | (simp only [List.length_drop, List.length_take]; rfl)) ?_; (with_reducible refine (bits_LeadingZeros32.calls ((a1) % 4294967296) t121 _ A9.out).mono ?_); rintro e w' ⟨rfl, ⟨nd, rfl⟩⟩; refine ⟨_, rfl, ?_⟩) | ((with_reducible refine gate_callee (f := 58) rfl ?_); refine goesL_ (some 31) rfl rfl Tryd.func58 (by kernel_rfl) rfl #[.int .u32 ((a1) % 4294967296)] rfl (by (try simp only [List.map_toArray, List.map_cons, List.map_nil]); first | done | rfl | (simp only [List.length_drop, List.length_take]; rfl)) ?_; (with_reducible refine (bits_TrailingZeros32.calls ((a1) % 4294967296) t122 _ (by first | exact hT | exact hT.drewN _ | exact (hT.drewN _).drewN _ | exact ((hT.drewN _).drewN _).drewN _ | exact hT.below HB.out | exact (hT.below HB.out).drewN _ | exact ((hT.below HB.out).drewN _).drewN _) A10.out).mono ?_); rintro e w' ⟨rfl, ⟨nd, rfl⟩⟩; refine ⟨_, rfl, ?_⟩) | ((with_reducible refine gate_callee (f := 57) rfl ?_); refine goesL_ (some 36) rfl rfl Tryd.func57 (by kernel_rfl) rfl #[.int .u32 (Go.bits .xor .u32 4294967295 ((a1) % 4294967296))] rfl (by (try simp only [List.map_toArray, List.map_cons, List.map_nil]); first | done | rfl | (simp only [List.length_drop, List.length_take]; rfl)) ?_; (with_reducible refine (bits_LeadingZeros32.calls (Go.bits .xor .u32 4294967295 ((a1) % 4294967296)) t123 _ A11.out).mono ?_); rintro e w' ⟨rfl, ⟨nd, rfl⟩⟩; refine ⟨_, rfl, ?_⟩) | ((with_reducible refine gate_callee (f := 58) rfl ?_); refine goesL_ (some 40) rfl rfl Tryd.func58 (by kernel_rfl) rfl #[.int .u32 (Go.bits .xor .u32 4294967295 ((a1) % 4294967296))] rfl (by (try simp only [List.map_toArray, List.map_cons, List.map_nil]); first | done | rfl | (simp only [List.length_drop, List.length_take]; rfl)) ?_; (with_reducible refine (bits_TrailingZeros32.calls (Go.bits .xor .u32 4294967295 ((a1) % 4294967296)) t124 _ (by first | exact hT | exact hT.drewN _ | exact (hT.drewN _).drewN _ | exact ((hT.drewN _).drewN _).drewN _ | exact hT.below HB.out | exact (hT.below HB.out).drewN _ | exact ((hT.below HB.out).drewN _).drewN _) A12.out).mono ?_); rintro e w' ⟨rfl, ⟨nd, rfl⟩⟩; refine ⟨_, rfl, ?_⟩))
              go_ret
              exact ⟨by first | rfl | (simp; done) | (simp [*]; done), by repeat (first | exact Drawn0.refl _ | apply Drawn0.step)⟩
          · rw [if_neg c13] at H
            have c13b0 : (t121 == 0) = false := beq_eq_false_iff_ne.mpr c13
            have c13b1 : (t121 != 0) = true := bne_iff_ne.mpr c13
            obtain rfl := Option.some.inj H
            go_wp2_with (first | ((with_reducible refine gate_callee (f := 57) rfl ?_); refine goesL_ (some 28) rfl rfl Tryd.func57 (by kernel_rfl) rfl #[.int .u32 ((a1) % 4294967296)] rfl (by (try simp only [List.map_toArray, List.map_cons, List.map_nil]); first | done | rfl | (simp only [List.length_drop, List.length_take]; rfl)) ?_; (with_reducible refine (bits_LeadingZeros32.calls ((a1) % 4294967296) t121 _ A9.out).mono ?_); rintro e w' ⟨rfl, ⟨nd, rfl⟩⟩; refine ⟨_, rfl, ?_⟩) | ((with_reducible refine gate_callee (f := 58) rfl ?_); refine goesL_ (some 31) rfl rfl Tryd.func58 (by kernel_rfl) rfl #[.int .u32 ((a1) % 4294967296)] rfl (by (try simp only [List.map_toArray, List.map_cons, List.map_nil]); first | done | rfl | (simp only [List.length_drop, List.length_take]; rfl)) ?_; (with_reducible refine (bits_TrailingZeros32.calls ((a1) % 4294967296) t122 _ (by first | exact hT | exact hT.drewN _ | exact (hT.drewN _).drewN _ | exact ((hT.drewN _).drewN _).drewN _ | exact hT.below HB.out | exact (hT.below HB.out).drewN _ | exact ((hT.below HB.out).drewN _).drewN _) A10.out).mono ?_); rintro e w' ⟨rfl, ⟨nd, rfl⟩⟩; refine ⟨_, rfl, ?_⟩) | ((with_reducible refine gate_callee (f := 57) rfl ?_); refine goesL_ (some 36) rfl rfl Tryd.func57 (by kernel_rfl) rfl #[.int .u32 (Go.bits .xor .u32 4294967295 ((a1) % 4294967296))] rfl (by (try simp only [List.map_toArray, List.map_cons, List.map_nil]); first | done | rfl | (simp only [List.length_drop, List.length_take]; rfl)) ?_; (with_reducible refine (bits_LeadingZeros32.calls (Go.bits .xor .u32 4294967295 ((a1) % 4294967296)) t123 _ A11.out).mono ?_); rintro e w' ⟨rfl, ⟨nd, rfl⟩⟩; refine ⟨_, rfl, ?_⟩) | ((with_reducible refine gate_callee (f := 58) rfl ?_); refine goesL_ (some 40) rfl rfl Tryd.func58 (by kernel_rfl) rfl #[.int .u32 (Go.bits .xor .u32 4294967295 ((a1) % 4294967296))] rfl (by (try simp only [List.map_toArray, List.map_cons, List.map_nil]); first | done | rfl | (simp only [List.length_drop, List.length_take]; rfl)) ?_; (with_reducible refine (bits_TrailingZeros32.calls (Go.bits .xor .u32 4294967295 ((a1) % 4294967296)) t124 _ (by first | exact hT | exact hT.drewN _ | exact (hT.drewN _).drewN _ | exact ((hT.drewN _).drewN _).drewN _ | exact hT.below HB.out | exact (hT.below HB.out).drewN _ | exact ((hT.below HB.out).drewN _).drewN _) A12.out).mono ?_); rintro e w' ⟨rfl, ⟨nd, rfl⟩⟩; refine ⟨_, rfl, ?_⟩))
            go_ret
            exact ⟨by first | rfl | (simp; done) | (simp [*]; done), by repeat (first | exact Drawn0.refl _ | apply Drawn0.step)⟩
        · rw [if_neg c8] at H
          have c8b0 : (a2 == 32) = false := beq_eq_false_iff_ne.mpr c8
          have c8b1 : (a2 != 32) = true := bne_iff_ne.mpr c8
          replace H := Option.bind_eq_some_iff.mp H
          obtain ⟨t125, A150, H⟩ := H
          replace H : ((bits_TrailingZeros64.f (IntKind.u64.wrap (a1))).bind fun t126 => ((bits_LeadingZeros64.f (Go.bits .xor .u64 18446744073709551615 (IntKind.u64.wrap (a1)))).bind fun t127 => ((bits_TrailingZeros64.f (Go.bits .xor .u64 18446744073709551615 (IntKind.u64.wrap (a1)))).bind fun t128 => (if t125 = 0 then (if (wrap64 (64 - t126)) = a2 then (some (Go.bits .or .i64 (Go.bits .or .i64 (Go.bits .or .i64 t127 (wrap64 ((wrap64 (64 - t128)) * 256))) (wrap64 (a0 * 65536))) (wrap64 (a2 * 16777216)))) else (some (Go.bits .or .i64 (Go.bits .or .i64 (Go.bits .or .i64 (wrap64 (64 - t126)) (wrap64 (t125 * 256))) (wrap64 (a0 * 65536))) (wrap64 (a2 * 16777216))))) else (some (Go.bits .or .i64 (Go.bits .or .i64 (Go.bits .or .i64 (wrap64 (64 - t126)) (wrap64 (t125 * 256))) (wrap64 (a0 * 65536))) (wrap64 (a2 * 16777216)))))))) = some r := H
          have A15 := Aside0.mk A150
          clear A150
          replace H := Option.bind_eq_some_iff.mp H
          obtain ⟨t126, A160, H⟩ := H
          replace H : ((bits_LeadingZeros64.f (Go.bits .xor .u64 18446744073709551615 (IntKind.u64.wrap (a1)))).bind fun t127 => ((bits_TrailingZeros64.f (Go.bits .xor .u64 18446744073709551615 (IntKind.u64.wrap (a1)))).bind fun t128 => (if t125 = 0 then (if (wrap64 (64 - t126)) = a2 then (some (Go.bits .or .i64 (Go.bits .or .i64 (Go.bits .or .i64 t127 (wrap64 ((wrap64 (64 - t128)) * 256))) (wrap64 (a0 * 65536))) (wrap64 (a2 * 16777216)))) else (some (Go.bits .or .i64 (Go.bits .or .i64 (Go.bits .or .i64 (wrap64 (64 - t126)) (wrap64 (t125 * 256))) (wrap64 (a0 * 65536))) (wrap64 (a2 * 16777216))))) else (some (Go.bits .or .i64 (Go.bits .or .i64 (Go.bits .or .i64 (wrap64 (64 - t126)) (wrap64 (t125 * 256))) (wrap64 (a0 * 65536))) (wrap64 (a2 * 16777216))))))) = some r := H
          have A16 := Aside0.mk A160
          clear A160
          replace H := Option.bind_eq_some_iff.mp H
          obtain ⟨t127, A170, H⟩ := H
          replace H : ((bits_TrailingZeros64.f (Go.bits .xor .u64 18446744073709551615 (IntKind.u64.wrap (a1)))).bind fun t128 => (if t125 = 0 then (if (wrap64 (64 - t126)) = a2 then (some (Go.bits .or .i64 (Go.bits .or .i64 (Go.bits .or .i64 t127 (wrap64 ((wrap64 (64 - t128)) * 256))) (wrap64 (a0 * 65536))) (wrap64 (a2 * 16777216)))) else (some (Go.bits .or .i64 (Go.bits .or .i64 (Go.bits .or .i64 (wrap64 (64 - t126)) (wrap64 (t125 * 256))) (wrap64 (a0 * 65536))) (wrap64 (a2 * 16777216))))) else (some (Go.bits .or .i64 (Go.bits .or .i64 (Go.bits .or .i64 (wrap64 (64 - t126)) (wrap64 (t125 * 256))) (wrap64 (a0 * 65536))) (wrap64 (a2 * 16777216)))))) = some r := H
          have A17 := Aside0.mk A170
          clear A170
          replace H := Option.bind_eq_some_iff.mp H
          obtain ⟨t128, A180, H⟩ := H
          replace H : (if t125 = 0 then (if (wrap64 (64 - t126)) = a2 then (some (Go.bits .or .i64 (Go.bits .or .i64 (Go.bits .or .i64 t127 (wrap64 ((wrap64 (64 - t128)) * 256))) (wrap64 (a0 * 65536))) (wrap64 (a2 * 16777216)))) else (some (Go.bits .or .i64 (Go.bits .or .i64 (Go.bits .or .i64 (wrap64 (64 - t126)) (wrap64 (t125 * 256))) (wrap64 (a0 * 65536))) (wrap64 (a2 * 16777216))))) else (some (Go.bits .or .i64 (Go.bits .or .i64 (Go.bits .or .i64 (wrap64 (64 - t126)) (wrap64 (t125 * 256))) (wrap64 (a0 * 65536))) (wrap64 (a2 * 16777216))))) = some r := H
          have A18 := Aside0.mk A180
          clear A180
          by_cases c19 : t125 = 0
          · rw [if_pos c19] at H
            have c19b0 : (t125 == 0) = true := beq_iff_eq.mpr c19
            have c19b1 : (t125 != 0) = false := bne_eq_false_iff_eq.mpr c19
            clear c19
            by_cases c20 : (wrap64 (64 - t126)) = a2
            · rw [if_pos c20] at H
              have c20b0 : ((wrap64 (64 - t126)) == a2) = true := beq_iff_eq.mpr c20
              have c20b1 : ((wrap64 (64 - t126)) != a2) = false := bne_eq_false_iff_eq.mpr c20
              clear c20
              obtain rfl := Option.some.inj H
              go_wp2_with (first | ((with_reducible refine gate_callee (f := 59) rfl ?_); refine goesL_ (some 44) rfl rfl Tryd.func59 (by kernel_rfl) rfl #[.int .u64 (IntKind.u64.wrap (a1))] rfl (by (try simp only [List.map_toArray, List.map_cons, List.map_nil]); first | done | rfl | (simp only [List.length_drop, List.length_take]; rfl)) ?_; (with_reducible refine (bits_LeadingZeros64.calls (IntKind.u64.wrap (a1)) t125 _ A15.out).mono ?_); rintro e w' ⟨rfl, ⟨nd, rfl⟩⟩; refine ⟨_, rfl, ?_⟩) | ((with_reducible refine gate_callee (f := 60) rfl ?_); refine goesL_ (some 47) rfl rfl Tryd.func60 (by kernel_rfl) rfl #[.int .u64 (IntKind.u64.wrap (a1))] rfl (by (try simp only [List.map_toArray, List.map_cons, List.map_nil]); first | done | rfl | (simp only [List.length_drop, List.length_take]; rfl)) ?_; (with_reducible refine (bits_TrailingZeros64.calls (IntKind.u64.wrap (a1)) t126 _ (by first | exact hT | exact hT.drewN _ | exact (hT.drewN _).drewN _ | exact ((hT.drewN _).drewN _).drewN _ | exact hT.below HB.out | exact (hT.below HB.out).drewN _ | exact ((hT.below HB.out).drewN _).drewN _) A16.out).mono ?_); rintro e w' ⟨rfl, ⟨nd, rfl⟩⟩; refine ⟨_, rfl, ?_⟩) | ((with_reducible refine gate_callee (f := 59) rfl ?_); refine goesL_ (some 52) rfl rfl Tryd.func59 (by kernel_rfl) rfl #[.int .u64 (Go.bits .xor .u64 18446744073709551615 (IntKind.u64.wrap (a1)))] rfl (by (try simp only [List.map_toArray, List.map_cons, List.map_nil]); first | done | rfl | (simp only [List.length_drop, List.length_take]; rfl)) ?_; (with_reducible refine (bits_LeadingZeros64.calls (Go.bits .xor .u64 18446744073709551615 (IntKind.u64.wrap (a1))) t127 _ A17.out).mono ?_); rintro e w' ⟨rfl, ⟨nd, rfl⟩⟩; refine ⟨_, rfl, ?_⟩) | ((with_reducible refine gate_callee (f := 60) rfl ?_); refine goesL_ (some 56) rfl rfl Tryd.func60 (by kernel_rfl) rfl #[.int .u64 (Go.bits .xor .u64 18446744073709551615 (IntKind.u64.wrap (a1)))] rfl (by (try simp only [List.map_toArray, List.map_cons, List.map_nil]); first | done | rfl | (simp only [List.length_drop, List.length_take]; rfl)) ?_; (with_reducible refine (bits_TrailingZeros64.calls (Go.bits .xor .u64 18446744073709551615 (IntKind.u64.wrap (a1))) t128 _ (by first | exact hT | exact hT.drewN _ | exact (hT.drewN _).drewN _ | exact ((hT.drewN _).drewN _).drewN _ | exact hT.below HB.out | exact (hT.below HB.out).drewN _ | exact ((hT.below HB.out).drewN _).drewN _) A18.out).mono ?_); rintro e w' ⟨rfl, ⟨nd, rfl⟩⟩; refine ⟨_, rfl, ?_⟩))
              go_ret
              exact ⟨by first | rfl | (simp; done) | (simp [*]; done), by repeat (first | exact Drawn0.refl _ | apply Drawn0.step)⟩
            · rw [if_neg c20] at H
              have c20b0 : ((wrap64 (64 - t126)) == a2) = false := beq_eq_false_iff_ne.mpr c20
              have c20b1 : ((wrap64 (64 - t126)) != a2) = true := bne_iff_ne.mpr c20
              obtain rfl := Option.some.inj H
              go_wp2_with (first | ((with_reducible refine gate_callee (f := 59) rfl ?_); refine goesL_ (some 44) rfl rfl Tryd.func59 (by kernel_rfl) rfl #[.int .u64 (IntKind.u64.wrap (a1))] rfl (by (try simp only [List.map_toArray, List.map_cons, List.map_nil]); first | done | rfl | (simp only [List.length_drop, List.length_take]; rfl)) ?_; (with_reducible refine (bits_LeadingZeros64.calls (IntKind.u64.wrap (a1)) t125 _ A15.out).mono ?_); rintro e w' ⟨rfl, ⟨nd, rfl⟩⟩; refine ⟨_, rfl, ?_⟩) | ((with_reducible refine gate_callee (f := 60) rfl ?_); refine goesL_ (some 47) rfl rfl Tryd.func60 (by kernel_rfl) rfl #[.int .u64 (IntKind.u64.wrap (a1))] rfl (by (try simp only [List.map_toArray, List.map_cons, List.map_nil]); first | done | rfl | (simp only [List.length_drop, List.length_take]; rfl)) ?_; (with_reducible refine (bits_TrailingZeros64.calls (IntKind.u64.wrap (a1)) t126 _ (by first | exact hT | exact hT.drewN _ | exact (hT.drewN _).drewN _ | exact ((hT.drewN _).drewN _).drewN _ | exact hT.below HB.out | exact (hT.below HB.out).drewN _ | exact ((hT.below HB.out).drewN _).drewN _) A16.out).mono ?_); rintro e w' ⟨rfl, ⟨nd, rfl⟩⟩; refine ⟨_, rfl, ?_⟩) | ((with_reducible refine gate_callee (f := 59) rfl ?_); refine goesL_ (some 52) rfl rfl Tryd.func59 (by kernel_rfl) rfl #[.int .u64 (Go.bits .xor .u64 18446744073709551615 (IntKind.u64.wrap (a1)))] rfl (by (try simp only [List.map_toArray, List.map_cons, List.map_nil]); first | done | rfl | (simp only [List.length_drop, List.length_take]; rfl)) ?_; (with_reducible refine (bits_LeadingZeros64.calls (Go.bits .xor .u64 18446744073709551615 (IntKind.u64.wrap (a1))) t127 _ A17.out).mono ?_); rintro e w' ⟨rfl, ⟨nd, rfl⟩⟩; refine ⟨_, rfl, ?_⟩) | ((with_reducible refine gate_callee (f := 60) rfl ?_); refine goesL_ (some 56) rfl rfl Tryd.func60 (by kernel_rfl) rfl #[.int .u64 (Go.bits .xor .u64 18446744073709551615 (IntKind.u64.wrap (a1)))] rfl (by (try simp only [List.map_toArray, List.map_cons, List.map_nil]); first | done | rfl | (simp only [List.length_drop, List.length_take]; rfl)) ?_; (with_reducible refine (bits_TrailingZeros64.calls (Go.bits .xor .u64 18446744073709551615 (IntKind.u64.wrap (a1))) t128 _ (by first | exact hT | exact hT.drewN _ | exact (hT.drewN _).drewN _ | exact ((hT.drewN _).drewN _).drewN _ | exact hT.below HB.out | exact (hT.below HB.out).drewN _ | exact ((hT.below HB.out).drewN _).drewN _) A18.out).mono ?_); rintro e w' ⟨rfl, ⟨nd, rfl⟩⟩; refine ⟨_, rfl, ?_⟩))
              go_ret
              exact ⟨by first | rfl | (simp; done) | (simp [*]; done), by repeat (first | exact Drawn0.refl _ | apply Drawn0.step)⟩
          · rw [if_neg c19] at H
            have c19b0 : (t125 == 0) = false := beq_eq_false_iff_ne.mpr c19
            have c19b1 : (t125 != 0) = true := bne_iff_ne.mpr c19
            obtain rfl := Option.some.inj H
            go_wp2_with (first | ((with_reducible refine gate_callee (f := 59) rfl ?_); refine goesL_ (some 44) rfl rfl Tryd.func59 (by kernel_rfl) rfl #[.int .u64 (IntKind.u64.wrap (a1))] rfl (by (try simp only [List.map_toArray, List.map_cons, List.map_nil]); first | done | rfl | (simp only [List.length_drop, List.length_take]; rfl)) ?_; (with_reducible refine (bits_LeadingZeros64.calls (IntKind.u64.wrap (a1)) t125 _ A15.out).mono ?_); rintro e w' ⟨rfl, ⟨nd, rfl⟩⟩; refine ⟨_, rfl, ?_⟩) | ((with_reducible refine gate_callee (f := 60) rfl ?_); refine goesL_ (some 47) rfl rfl Tryd.func60 (by kernel_rfl) rfl #[.int .u64 (IntKind.u64.wrap (a1))] rfl (by (try simp only [List.map_toArray, List.map_cons, List.map_nil]); first | done | rfl | (simp only [List.length_drop, List.length_take]; rfl)) ?_; (with_reducible refine (bits_TrailingZeros64.calls (IntKind.u64.wrap (a1)) t126 _ (by first | exact hT | exact hT.drewN _ | exact (hT.drewN _).drewN _ | exact ((hT.drewN _).drewN _).drewN _ | exact hT.below HB.out | exact (hT.below HB.out).drewN _ | exact ((hT.below HB.out).drewN _).drewN _) A16.out).mono ?_); rintro e w' ⟨rfl, ⟨nd, rfl⟩⟩; refine ⟨_, rfl, ?_⟩) | ((with_reducible refine gate_callee (f := 59) rfl ?_); refine goesL_ (some 52) rfl rfl Tryd.func59 (by kernel_rfl) rfl #[.int .u64 (Go.bits .xor .u64 18446744073709551615 (IntKind.u64.wrap (a1)))] rfl (by (try simp only [List.map_toArray, List.map_cons, List.map_nil]); first | done | rfl | (simp only [List.length_drop, List.length_take]; rfl)) ?_; (with_reducible refine (bits_LeadingZeros64.calls (Go.bits .xor .u64 18446744073709551615 (IntKind.u64.wrap (a1))) t127 _ A17.out).mono ?_); rintro e w' ⟨rfl, ⟨nd, rfl⟩⟩; refine ⟨_, rfl, ?_⟩) | ((with_reducible refine gate_callee (f := 60) rfl ?_); refine goesL_ (some 56) rfl rfl Tryd.func60 (by kernel_rfl) rfl #[.int .u64 (Go.bits .xor .u64 18446744073709551615 (IntKind.u64.wrap (a1)))] rfl (by (try simp only [List.map_toArray, List.map_cons, List.map_nil]); first | done | rfl | (simp only [List.length_drop, List.length_take]; rfl)) ?_; (with_reducible refine (bits_TrailingZeros64.calls (Go.bits .xor .u64 18446744073709551615 (IntKind.u64.wrap (a1))) t128 _ (by first | exact hT | exact hT.drewN _ | exact (hT.drewN _).drewN _ | exact ((hT.drewN _).drewN _).drewN _ | exact hT.below HB.out | exact (hT.below HB.out).drewN _ | exact ((hT.below HB.out).drewN _).drewN _) A18.out).mono ?_); rintro e w' ⟨rfl, ⟨nd, rfl⟩⟩; refine ⟨_, rfl, ?_⟩))
            go_ret
            exact ⟨by first | rfl | (simp; done) | (simp [*]; done), by repeat (first | exact Drawn0.refl _ | apply Drawn0.step)⟩

attribute [local go_sem] signed_i64 signed_i32 signed_u32 max_u32 signed_u64 max_u64
/-! ### ssarewrite_mergePPC64RShiftMask: function 65 -/
def ssarewrite_mergePPC64RShiftMask.f (a0 : Int) (a1 : Int) (a2 : Int) : Option (Int) := if 0 ≤ (IntKind.u64.wrap (a2)) then (if 0 ≤ (IntKind.u64.wrap (a1)) then (some (Go.bits .and .i64 a0 (wrap64 (shr .u64 (IntKind.u64.wrap ((shl .u64 1 (IntKind.u64.wrap (a2))) - 1)) (IntKind.u64.wrap (a1)))))) else (none)) else (none)
set_option maxHeartbeats 8000000 in
set_option maxRecDepth 100000 in
theorem ssarewrite_mergePPC64RShiftMask.calls (a0 : Int) (a1 : Int) (a2 : Int) (r : Int) (w : World) (h : ssarewrite_mergePPC64RShiftMask.f a0 a1 a2 = some r) :
    Calls Tryd.prog 65 #[.int .i64 a0, .int .i64 a1, .int .i64 a2] w fun e w' => e = .returned (.int .i64 r) ∧ Drawn0 w w' := by
  have H : (if 0 ≤ (IntKind.u64.wrap (a2)) then (if 0 ≤ (IntKind.u64.wrap (a1)) then (some (Go.bits .and .i64 a0 (wrap64 (shr .u64 (IntKind.u64.wrap ((shl .u64 1 (IntKind.u64.wrap (a2))) - 1)) (IntKind.u64.wrap (a1)))))) else (none)) else (none)) = some r := h
  clear h
  obtain ⟨ji4, hji4⟩ : ∃ j_ : Int, (IntKind.u64.wrap (a2)) = j_ := ⟨_, rfl⟩
  replace H : (if 0 ≤ (ji4) then (if 0 ≤ (IntKind.u64.wrap (a1)) then (some (Go.bits .and .i64 a0 (wrap64 (shr .u64 (IntKind.u64.wrap ((shl .u64 1 (ji4)) - 1)) (IntKind.u64.wrap (a1)))))) else (none)) else (none)) = some r := by first | (rw [hji4] at H; exact H) | (simp only [hji4] at H ⊢; exact H)
  by_cases c5 : 0 ≤ (ji4)
  · rw [if_pos c5] at H
    have c5b0 := eq_true c5
    have c5b1 : decide (0 ≤ (ji4)) = true := decide_eq_true c5
    clear c5
    obtain ⟨ji6, hji6⟩ : ∃ j_ : Int, (shl .u64 1 (ji4)) = j_ := ⟨_, rfl⟩
    replace H : (if 0 ≤ (IntKind.u64.wrap (a1)) then (some (Go.bits .and .i64 a0 (wrap64 (shr .u64 (IntKind.u64.wrap ((ji6) - 1)) (IntKind.u64.wrap (a1)))))) else (none)) = some r := by first | (rw [hji6] at H; exact H) | (simp only [hji6] at H ⊢; exact H)
    have hji6_ : (IntKind.u64.wrap (1 * 2 ^ min (ji4).toNat 64)) = ji6 := hji6
    have hji6z : (ji4) ≤ 64 → (IntKind.u64.wrap (1 * 2 ^ (ji4).toNat)) = ji6 := shl_small hji6
    have hji6u : (IntKind.u64.wrap (2 ^ min (ji4).toNat 64)) = ji6 := by have h_ := hji6_; rw [Int.one_mul] at h_; exact h_
    have hji6v : (ji4) ≤ 64 → (IntKind.u64.wrap (2 ^ (ji4).toNat)) = ji6 := fun hle_ => by have h_ := hji6z hle_; rw [Int.one_mul] at h_; exact h_
    obtain ⟨ji7, hji7⟩ : ∃ j_ : Int, (IntKind.u64.wrap (a1)) = j_ := ⟨_, rfl⟩
    replace H : (if 0 ≤ (ji7) then (some (Go.bits .and .i64 a0 (wrap64 (shr .u64 (IntKind.u64.wrap ((ji6) - 1)) (ji7))))) else (none)) = some r := by first | (rw [hji7] at H; exact H) | (simp only [hji7] at H ⊢; exact H)
    by_cases c8 : 0 ≤ (ji7)
    · rw [if_pos c8] at H
      have c8b0 := eq_true c8
      have c8b1 : decide (0 ≤ (ji7)) = true := decide_eq_true c8
      clear c8
      obtain ⟨ji9, hji9⟩ : ∃ j_ : Int, (shr .u64 (IntKind.u64.wrap ((ji6) - 1)) (ji7)) = j_ := ⟨_, rfl⟩
      replace H : (some (Go.bits .and .i64 a0 (wrap64 (ji9)))) = some r := by first | (rw [hji9] at H; exact H) | (simp only [hji9] at H ⊢; exact H)
      have hji9_ : ((IntKind.u64.wrap ((ji6) - 1)) / 2 ^ min (ji7).toNat 64) = ji9 := hji9
      have hji9z : (ji7) ≤ 64 → ((IntKind.u64.wrap ((ji6) - 1)) / 2 ^ (ji7).toNat) = ji9 := shr_small hji9
      obtain rfl := Option.some.inj H
      go_enter Tryd.func65, Tryd.ntmps65
      go_wp2
      go_ret
      exact ⟨by first | rfl | (simp; done) | (simp only [← hji4, ← hji6, ← hji7, ← hji9] <;> (first | rfl | simp)) | (simp [*]; done), by repeat (first | exact Drawn0.refl _ | apply Drawn0.step)⟩
    · rw [if_neg c8] at H
      exact absurd H (by simp)
  · rw [if_neg c5] at H
    exact absurd H (by simp)

attribute [local go_sem] signed_i64 signed_i32 signed_u32 max_u32 signed_u64 max_u64
/-! ### ssarewrite_mergePPC64AndSrwi: function 53 -/
def ssarewrite_mergePPC64AndSrwi.f (k : Nat) (a0 : Int) (a1 : Int) : Option (Int) := (ssarewrite_mergePPC64RShiftMask.f a0 a1 32).bind fun t129 => ((ssarewrite_isPPC64WordRotateMask.f t129).bind fun t130 => (if t130 = true then ((ssarewrite_encodePPC64RotateMask.f k (Go.bits .and .i64 (wrap64 (32 - a1)) 31) t129 32).bind fun t131 => (some t131)) else (some 0)))
theorem ssarewrite_mergePPC64AndSrwi.mono : ∀ a0 a1 k, LeO (ssarewrite_mergePPC64AndSrwi.f k a0 a1) (ssarewrite_mergePPC64AndSrwi.f (k + 1) a0 a1) := by
  intro a0 a1 k
  unfold ssarewrite_mergePPC64AndSrwi.f
  repeat' first
      | (with_reducible exact ssarewrite_encodePPC64RotateMask.mono _ _ _ _)
      | (with_reducible exact LeO.refl _)
      | (with_reducible exact LeO.none _)
      | (with_reducible refine LeO.ite ?_ ?_)
      | (with_reducible refine LeO.bind ?_ (fun _ => ?_))
      | exact ssarewrite_encodePPC64RotateMask.mono _ _ _ _
      | exact LeO.none _
      | refine LeO.ite ?_ ?_
      | refine LeO.bind ?_ (fun _ => ?_)
set_option maxHeartbeats 8000000 in
set_option maxRecDepth 100000 in
theorem ssarewrite_mergePPC64AndSrwi.calls (k : Nat) (a0 : Int) (a1 : Int) (r : Int) (w : World) (hT : Tab0 w) (h : ssarewrite_mergePPC64AndSrwi.f k a0 a1 = some r) :
    Calls Tryd.prog 53 #[.int .i64 a0, .int .i64 a1] w fun e w' => e = .returned (.int .i64 r) ∧ Drawn0 w w' := by
  have H : ((ssarewrite_mergePPC64RShiftMask.f a0 a1 32).bind fun t129 => ((ssarewrite_isPPC64WordRotateMask.f t129).bind fun t130 => (if t130 = true then ((ssarewrite_encodePPC64RotateMask.f k (Go.bits .and .i64 (wrap64 (32 - a1)) 31) t129 32).bind fun t131 => (some t131)) else (some 0)))) = some r := h
  clear h
  replace H := Option.bind_eq_some_iff.mp H
  obtain ⟨t129, A30, H⟩ := H
  replace H : ((ssarewrite_isPPC64WordRotateMask.f t129).bind fun t130 => (if t130 = true then ((ssarewrite_encodePPC64RotateMask.f k (Go.bits .and .i64 (wrap64 (32 - a1)) 31) t129 32).bind fun t131 => (some t131)) else (some 0))) = some r := H
  have A3 := Aside0.mk A30
  clear A30
  replace H := Option.bind_eq_some_iff.mp H
  obtain ⟨t130, A40, H⟩ := H
  replace H : (if t130 = true then ((ssarewrite_encodePPC64RotateMask.f k (Go.bits .and .i64 (wrap64 (32 - a1)) 31) t129 32).bind fun t131 => (some t131)) else (some 0)) = some r := H
  have A4 := Aside0.mk A40
  clear A40
  by_cases c5 : t130 = true
  · subst c5
    have H1 : ((ssarewrite_encodePPC64RotateMask.f k (Go.bits .and .i64 (wrap64 (32 - a1)) 31) t129 32).bind fun t131 => (some t131)) = some r := by rw [if_pos rfl] at H; exact H
    clear H
    have H := H1
    clear H1
    replace H := Option.bind_eq_some_iff.mp H
    obtain ⟨t131, A60, H⟩ := H
    replace H : (some t131) = some r := H
    have A6 := Aside0.mk A60
    clear A60
    obtain rfl := Option.some.inj H
    go_enter Tryd.func53, Tryd.ntmps53
    go_wp2_with (first | ((with_reducible refine gate_callee (f := 65) rfl ?_); refine goesL_ (some 8) rfl rfl Tryd.func65 (by kernel_rfl) rfl #[.int .i64 a0, .int .i64 a1, .int .i64 32] rfl (by (try simp only [List.map_toArray, List.map_cons, List.map_nil]); first | done | rfl | (simp only [List.length_drop, List.length_take]; rfl)) ?_; (with_reducible refine (ssarewrite_mergePPC64RShiftMask.calls a0 a1 32 t129 _ A3.out).mono ?_); rintro e w' ⟨rfl, ⟨nd, rfl⟩⟩; refine ⟨_, rfl, ?_⟩) | ((with_reducible refine gate_callee (f := 64) rfl ?_); refine goesL_ (some 10) rfl rfl Tryd.func64 (by kernel_rfl) rfl #[.int .i64 t129] rfl (by (try simp only [List.map_toArray, List.map_cons, List.map_nil]); first | done | rfl | (simp only [List.length_drop, List.length_take]; rfl)) ?_; (with_reducible refine (ssarewrite_isPPC64WordRotateMask.calls t129 true _ A4.out).mono ?_); rintro e w' ⟨rfl, ⟨nd, rfl⟩⟩; refine ⟨_, rfl, ?_⟩) | ((with_reducible refine gate_callee (f := 46) rfl ?_); refine goesL_ (some 16) rfl rfl Tryd.func46 (by kernel_rfl) rfl #[.int .i64 (Go.bits .and .i64 (wrap64 (32 - a1)) 31), .int .i64 t129, .int .i64 32] rfl (by (try simp only [List.map_toArray, List.map_cons, List.map_nil]); first | done | rfl | (simp only [List.length_drop, List.length_take]; rfl)) ?_; (with_reducible refine (ssarewrite_encodePPC64RotateMask.calls k (Go.bits .and .i64 (wrap64 (32 - a1)) 31) t129 32 t131 _ (by first | exact hT | exact hT.drewN _ | exact (hT.drewN _).drewN _ | exact ((hT.drewN _).drewN _).drewN _ | exact hT.below HB.out | exact (hT.below HB.out).drewN _ | exact ((hT.below HB.out).drewN _).drewN _) A6.out).mono ?_); rintro e w' ⟨rfl, ⟨nd, rfl⟩⟩; refine ⟨_, rfl, ?_⟩))
    go_ret
    exact ⟨by first | rfl | (simp; done) | (simp [*]; done), by repeat (first | exact Drawn0.refl _ | apply Drawn0.step)⟩
  · replace c5 := Bool.eq_false_iff.mpr c5
    subst c5
    have H1 : (some 0) = some r := by rw [if_neg (show ¬ (false = true) by decide)] at H; exact H
    clear H
    have H := H1
    clear H1
    obtain rfl := Option.some.inj H
    go_enter Tryd.func53, Tryd.ntmps53
    go_wp2_with (first | ((with_reducible refine gate_callee (f := 65) rfl ?_); refine goesL_ (some 8) rfl rfl Tryd.func65 (by kernel_rfl) rfl #[.int .i64 a0, .int .i64 a1, .int .i64 32] rfl (by (try simp only [List.map_toArray, List.map_cons, List.map_nil]); first | done | rfl | (simp only [List.length_drop, List.length_take]; rfl)) ?_; (with_reducible refine (ssarewrite_mergePPC64RShiftMask.calls a0 a1 32 t129 _ A3.out).mono ?_); rintro e w' ⟨rfl, ⟨nd, rfl⟩⟩; refine ⟨_, rfl, ?_⟩) | ((with_reducible refine gate_callee (f := 64) rfl ?_); refine goesL_ (some 10) rfl rfl Tryd.func64 (by kernel_rfl) rfl #[.int .i64 t129] rfl (by (try simp only [List.map_toArray, List.map_cons, List.map_nil]); first | done | rfl | (simp only [List.length_drop, List.length_take]; rfl)) ?_; (with_reducible refine (ssarewrite_isPPC64WordRotateMask.calls t129 false _ A4.out).mono ?_); rintro e w' ⟨rfl, ⟨nd, rfl⟩⟩; refine ⟨_, rfl, ?_⟩))
    go_ret
    exact ⟨by first | rfl | (simp; done) | (simp [*]; done), by repeat (first | exact Drawn0.refl _ | apply Drawn0.step)⟩

attribute [local go_sem] signed_i64 signed_i32 signed_u32 max_u32 signed_u64 max_u64
/-! ### ssarewrite_ZZMergePPC64AndSrwi: function 42 -/
def ssarewrite_ZZMergePPC64AndSrwi.f (k : Nat) (a0 : Int) (a1 : Int) : Option (Int) := (ssarewrite_mergePPC64AndSrwi.f k a0 a1).bind fun t132 => (some t132)
theorem ssarewrite_ZZMergePPC64AndSrwi.mono : ∀ a0 a1 k, LeO (ssarewrite_ZZMergePPC64AndSrwi.f k a0 a1) (ssarewrite_ZZMergePPC64AndSrwi.f (k + 1) a0 a1) := by
  intro a0 a1 k
  unfold ssarewrite_ZZMergePPC64AndSrwi.f
  repeat' first
      | (with_reducible exact ssarewrite_mergePPC64AndSrwi.mono _ _ _)
      | (with_reducible exact LeO.refl _)
      | (with_reducible exact LeO.none _)
      | (with_reducible refine LeO.ite ?_ ?_)
      | (with_reducible refine LeO.bind ?_ (fun _ => ?_))
      | exact ssarewrite_mergePPC64AndSrwi.mono _ _ _
      | exact LeO.none _
      | refine LeO.ite ?_ ?_
      | refine LeO.bind ?_ (fun _ => ?_)
set_option maxHeartbeats 8000000 in
set_option maxRecDepth 100000 in
theorem ssarewrite_ZZMergePPC64AndSrwi.calls (k : Nat) (a0 : Int) (a1 : Int) (r : Int) (w : World) (hT : Tab0 w) (h : ssarewrite_ZZMergePPC64AndSrwi.f k a0 a1 = some r) :
    Calls Tryd.prog 42 #[.int .i64 a0, .int .i64 a1] w fun e w' => e = .returned (.int .i64 r) ∧ Drawn0 w w' := by
  have H : ((ssarewrite_mergePPC64AndSrwi.f k a0 a1).bind fun t132 => (some t132)) = some r := h
  clear h
  replace H := Option.bind_eq_some_iff.mp H
  obtain ⟨t132, A30, H⟩ := H
  replace H : (some t132) = some r := H
  have A3 := Aside0.mk A30
  clear A30
  obtain rfl := Option.some.inj H
  go_enter Tryd.func42, Tryd.ntmps42
  go_wp2_with (first | ((with_reducible refine gate_callee (f := 53) rfl ?_); refine goesL_ (some 7) rfl rfl Tryd.func53 (by kernel_rfl) rfl #[.int .i64 a0, .int .i64 a1] rfl (by (try simp only [List.map_toArray, List.map_cons, List.map_nil]); first | done | rfl | (simp only [List.length_drop, List.length_take]; rfl)) ?_; (with_reducible refine (ssarewrite_mergePPC64AndSrwi.calls k a0 a1 t132 _ (by first | exact hT | exact hT.drewN _ | exact (hT.drewN _).drewN _ | exact ((hT.drewN _).drewN _).drewN _ | exact hT.below HB.out | exact (hT.below HB.out).drewN _ | exact ((hT.below HB.out).drewN _).drewN _) A3.out).mono ?_); rintro e w' ⟨rfl, ⟨nd, rfl⟩⟩; refine ⟨_, rfl, ?_⟩))
  go_ret
  exact ⟨by first | rfl | (simp; done) | (simp [*]; done), by repeat (first | exact Drawn0.refl _ | apply Drawn0.step)⟩

attribute [local go_sem] signed_i64 signed_i32 signed_u32 max_u32 signed_u64 max_u64
/-! ### impl_AndSrwi: function 27 -/
def impl_AndSrwi.f (k : Nat) (a0 : Int) (a1 : Int) : Option (Int) := (ssarewrite_ZZMergePPC64AndSrwi.f k a0 a1).bind fun t133 => (some t133)
theorem impl_AndSrwi.mono : ∀ a0 a1 k, LeO (impl_AndSrwi.f k a0 a1) (impl_AndSrwi.f (k + 1) a0 a1) := by
  intro a0 a1 k
  unfold impl_AndSrwi.f
  repeat' first
      | (with_reducible exact ssarewrite_ZZMergePPC64AndSrwi.mono _ _ _)
      | (with_reducible exact LeO.refl _)
      | (with_reducible exact LeO.none _)
      | (with_reducible refine LeO.ite ?_ ?_)
      | (with_reducible refine LeO.bind ?_ (fun _ => ?_))
      | exact ssarewrite_ZZMergePPC64AndSrwi.mono _ _ _
      | exact LeO.none _
      | refine LeO.ite ?_ ?_
      | refine LeO.bind ?_ (fun _ => ?_)
set_option maxHeartbeats 8000000 in
set_option maxRecDepth 100000 in
theorem impl_AndSrwi.calls (k : Nat) (a0 : Int) (a1 : Int) (r : Int) (w : World) (hT : Tab0 w) (h : impl_AndSrwi.f k a0 a1 = some r) :
    Calls Tryd.prog 27 #[.int .i64 a0, .int .i64 a1] w fun e w' => e = .returned (.int .i64 r) ∧ Drawn0 w w' := by
  have H : ((ssarewrite_ZZMergePPC64AndSrwi.f k a0 a1).bind fun t133 => (some t133)) = some r := h
  clear h
  replace H := Option.bind_eq_some_iff.mp H
  obtain ⟨t133, A30, H⟩ := H
  replace H : (some t133) = some r := H
  have A3 := Aside0.mk A30
  clear A30
  obtain rfl := Option.some.inj H
  go_enter Tryd.func27, Tryd.ntmps27
  go_wp2_with (first | ((with_reducible refine gate_callee (f := 42) rfl ?_); refine goesL_ (some 7) rfl rfl Tryd.func42 (by kernel_rfl) rfl #[.int .i64 a0, .int .i64 a1] rfl (by (try simp only [List.map_toArray, List.map_cons, List.map_nil]); first | done | rfl | (simp only [List.length_drop, List.length_take]; rfl)) ?_; (with_reducible refine (ssarewrite_ZZMergePPC64AndSrwi.calls k a0 a1 t133 _ (by first | exact hT | exact hT.drewN _ | exact (hT.drewN _).drewN _ | exact ((hT.drewN _).drewN _).drewN _ | exact hT.below HB.out | exact (hT.below HB.out).drewN _ | exact ((hT.below HB.out).drewN _).drewN _) A3.out).mono ?_); rintro e w' ⟨rfl, ⟨nd, rfl⟩⟩; refine ⟨_, rfl, ?_⟩))
  go_ret
  exact ⟨by first | rfl | (simp; done) | (simp [*]; done), by repeat (first | exact Drawn0.refl _ | apply Drawn0.step)⟩

attribute [local go_sem] signed_i64 signed_i32 signed_u32 max_u32 signed_u64 max_u64
/-! ### laws_FnAndSrwi: function 8 -/
def laws_FnAndSrwi.f (k : Nat) (a0 : Int) (a1 : Int) (a2 : Int) : Option (Bool) := (laws_rwAt.f a1 32).bind fun t134 => ((impl_AndSrwi.f k a0 t134).bind fun t135 => ((laws_mkWorks.f).bind fun t136 => (if t136 = true then (if t135 = 0 then (some true) else ((spec_Low.f a2 32).bind fun t137 => (if 0 ≤ t134 then ((laws_mkGood.f k t135 a2 (Go.bits .and .u64 (IntKind.u64.wrap (a0)) (shr .u64 t137 t134))).bind fun t138 => (some t138)) else (none)))) else (some false))))
theorem laws_FnAndSrwi.mono : ∀ a0 a1 a2 k, LeO (laws_FnAndSrwi.f k a0 a1 a2) (laws_FnAndSrwi.f (k + 1) a0 a1 a2) := by
  intro a0 a1 a2 k
  unfold laws_FnAndSrwi.f
  repeat' first
      | (with_reducible exact impl_AndSrwi.mono _ _ _)
      | (with_reducible exact laws_mkGood.mono _ _ _ _)
      | (with_reducible exact LeO.refl _)
      | (with_reducible exact LeO.none _)
      | (with_reducible refine LeO.ite ?_ ?_)
      | (with_reducible refine LeO.bind ?_ (fun _ => ?_))
      | exact impl_AndSrwi.mono _ _ _
      | exact laws_mkGood.mono _ _ _ _
      | exact LeO.none _
      | refine LeO.ite ?_ ?_
      | refine LeO.bind ?_ (fun _ => ?_)
set_option maxHeartbeats 8000000 in
set_option maxRecDepth 100000 in
theorem laws_FnAndSrwi.calls (k : Nat) (a0 : Int) (a1 : Int) (a2 : Int) (r : Bool) (w : World) (hT : Tab0 w) (h : laws_FnAndSrwi.f k a0 a1 a2 = some r) :
    Calls Tryd.prog 8 #[.int .i64 a0, .int .i64 a1, .int .u64 a2] w fun e w' => e = .returned (.bool r) ∧ Drawn0 w w' := by
  have H : ((laws_rwAt.f a1 32).bind fun t134 => ((impl_AndSrwi.f k a0 t134).bind fun t135 => ((laws_mkWorks.f).bind fun t136 => (if t136 = true then (if t135 = 0 then (some true) else ((spec_Low.f a2 32).bind fun t137 => (if 0 ≤ t134 then ((laws_mkGood.f k t135 a2 (Go.bits .and .u64 (IntKind.u64.wrap (a0)) (shr .u64 t137 t134))).bind fun t138 => (some t138)) else (none)))) else (some false))))) = some r := h
  clear h
  replace H := Option.bind_eq_some_iff.mp H
  obtain ⟨t134, A40, H⟩ := H
  replace H : ((impl_AndSrwi.f k a0 t134).bind fun t135 => ((laws_mkWorks.f).bind fun t136 => (if t136 = true then (if t135 = 0 then (some true) else ((spec_Low.f a2 32).bind fun t137 => (if 0 ≤ t134 then ((laws_mkGood.f k t135 a2 (Go.bits .and .u64 (IntKind.u64.wrap (a0)) (shr .u64 t137 t134))).bind fun t138 => (some t138)) else (none)))) else (some false)))) = some r := H
  have A4 := Aside0.mk A40
  clear A40
  replace H := Option.bind_eq_some_iff.mp H
  obtain ⟨t135, A50, H⟩ := H
  replace H : ((laws_mkWorks.f).bind fun t136 => (if t136 = true then (if t135 = 0 then (some true) else ((spec_Low.f a2 32).bind fun t137 => (if 0 ≤ t134 then ((laws_mkGood.f k t135 a2 (Go.bits .and .u64 (IntKind.u64.wrap (a0)) (shr .u64 t137 t134))).bind fun t138 => (some t138)) else (none)))) else (some false))) = some r := H
  have A5 := Aside0.mk A50
  clear A50
  replace H := Option.bind_eq_some_iff.mp H
  obtain ⟨t136, A60, H⟩ := H
  replace H : (if t136 = true then (if t135 = 0 then (some true) else ((spec_Low.f a2 32).bind fun t137 => (if 0 ≤ t134 then ((laws_mkGood.f k t135 a2 (Go.bits .and .u64 (IntKind.u64.wrap (a0)) (shr .u64 t137 t134))).bind fun t138 => (some t138)) else (none)))) else (some false)) = some r := H
  have A6 := Aside0.mk A60
  clear A60
  by_cases c7 : t136 = true
  · subst c7
    have H1 : (if t135 = 0 then (some true) else ((spec_Low.f a2 32).bind fun t137 => (if 0 ≤ t134 then ((laws_mkGood.f k t135 a2 (Go.bits .and .u64 (IntKind.u64.wrap (a0)) (shr .u64 t137 t134))).bind fun t138 => (some t138)) else (none)))) = some r := by rw [if_pos rfl] at H; exact H
    clear H
    have H := H1
    clear H1
    by_cases c8 : t135 = 0
    · rw [if_pos c8] at H
      have c8b0 : (t135 == 0) = true := beq_iff_eq.mpr c8
      have c8b1 : (t135 != 0) = false := bne_eq_false_iff_eq.mpr c8
      clear c8
      obtain rfl := Option.some.inj H
      go_enter Tryd.func8, Tryd.ntmps8
      go_wp2_with (first | ((with_reducible refine gate_callee (f := 12) rfl ?_); refine goesL_ (some 10) rfl rfl Tryd.func12 (by kernel_rfl) rfl #[.int .i64 a1, .int .i64 32] rfl (by (try simp only [List.map_toArray, List.map_cons, List.map_nil]); first | done | rfl | (simp only [List.length_drop, List.length_take]; rfl)) ?_; (with_reducible refine (laws_rwAt.calls a1 32 t134 _ A4.out).mono ?_); rintro e w' ⟨rfl, ⟨nd, rfl⟩⟩; refine ⟨_, rfl, ?_⟩) | ((with_reducible refine gate_callee (f := 27) rfl ?_); refine goesL_ (some 13) rfl rfl Tryd.func27 (by kernel_rfl) rfl #[.int .i64 a0, .int .i64 t134] rfl (by (try simp only [List.map_toArray, List.map_cons, List.map_nil]); first | done | rfl | (simp only [List.length_drop, List.length_take]; rfl)) ?_; (with_reducible refine (impl_AndSrwi.calls k a0 t134 t135 _ (by first | exact hT | exact hT.drewN _ | exact (hT.drewN _).drewN _ | exact ((hT.drewN _).drewN _).drewN _ | exact hT.below HB.out | exact (hT.below HB.out).drewN _ | exact ((hT.below HB.out).drewN _).drewN _) A5.out).mono ?_); rintro e w' ⟨rfl, ⟨nd, rfl⟩⟩; refine ⟨_, rfl, ?_⟩) | ((with_reducible refine gate_callee (f := 22) rfl ?_); refine goesL_ (some 14) rfl rfl Tryd.func22 (by kernel_rfl) rfl #[] rfl (by (try simp only [List.map_toArray, List.map_cons, List.map_nil]); first | done | rfl | (simp only [List.length_drop, List.length_take]; rfl)) ?_; (with_reducible refine (laws_mkWorks.calls  true _ A6.out).mono ?_); rintro e w' ⟨rfl, ⟨nd, rfl⟩⟩; refine ⟨_, rfl, ?_⟩))
      go_ret
      exact ⟨by first | rfl | (simp; done) | (simp [*]; done), by repeat (first | exact Drawn0.refl _ | apply Drawn0.step)⟩
    · rw [if_neg c8] at H
      have c8b0 : (t135 == 0) = false := beq_eq_false_iff_ne.mpr c8
      have c8b1 : (t135 != 0) = true := bne_iff_ne.mpr c8
      replace H := Option.bind_eq_some_iff.mp H
      obtain ⟨t137, A90, H⟩ := H
      replace H : (if 0 ≤ t134 then ((laws_mkGood.f k t135 a2 (Go.bits .and .u64 (IntKind.u64.wrap (a0)) (shr .u64 t137 t134))).bind fun t138 => (some t138)) else (none)) = some r := H
      have A9 := Aside0.mk A90
      clear A90
      by_cases c10 : 0 ≤ t134
      · rw [if_pos c10] at H
        have c10b0 := eq_true c10
        have c10b1 : decide (0 ≤ t134) = true := decide_eq_true c10
        clear c10
        obtain ⟨ji11, hji11⟩ : ∃ j_ : Int, (shr .u64 t137 t134) = j_ := ⟨_, rfl⟩
        replace H : ((laws_mkGood.f k t135 a2 (Go.bits .and .u64 (IntKind.u64.wrap (a0)) (ji11))).bind fun t138 => (some t138)) = some r := by first | (rw [hji11] at H; exact H) | (simp only [hji11] at H ⊢; exact H)
        (try rw [hji11] at A4)
        (try rw [hji11] at A5)
        (try rw [hji11] at A6)
        (try rw [hji11] at A9)
        have hji11_ : (t137 / 2 ^ min t134.toNat 64) = ji11 := hji11
        have hji11z : t134 ≤ 64 → (t137 / 2 ^ t134.toNat) = ji11 := shr_small hji11
        replace H := Option.bind_eq_some_iff.mp H
        obtain ⟨t138, A120, H⟩ := H
        replace H : (some t138) = some r := H
        have A12 := Aside0.mk A120
        clear A120
        obtain rfl := Option.some.inj H
        go_enter Tryd.func8, Tryd.ntmps8
        go_wp2_with (first | ((with_reducible refine gate_callee (f := 12) rfl ?_); refine goesL_ (some 10) rfl rfl Tryd.func12 (by kernel_rfl) rfl #[.int .i64 a1, .int .i64 32] rfl (by (try simp only [List.map_toArray, List.map_cons, List.map_nil]); first | done | rfl | (simp only [List.length_drop, List.length_take]; rfl)) ?_; (with_reducible refine (laws_rwAt.calls a1 32 t134 _ A4.out).mono ?_); rintro e w' ⟨rfl, ⟨nd, rfl⟩⟩; refine ⟨_, rfl, ?_⟩) | ((with_reducible refine gate_callee (f := 27) rfl ?_); refine goesL_ (some 13) rfl rfl Tryd.func27 (by kernel_rfl) rfl #[.int .i64 a0, .int .i64 t134] rfl (by (try simp only [List.map_toArray, List.map_cons, List.map_nil]); first | done | rfl | (simp only [List.length_drop, List.length_take]; rfl)) ?_; (with_reducible refine (impl_AndSrwi.calls k a0 t134 t135 _ (by first | exact hT | exact hT.drewN _ | exact (hT.drewN _).drewN _ | exact ((hT.drewN _).drewN _).drewN _ | exact hT.below HB.out | exact (hT.below HB.out).drewN _ | exact ((hT.below HB.out).drewN _).drewN _) A5.out).mono ?_); rintro e w' ⟨rfl, ⟨nd, rfl⟩⟩; refine ⟨_, rfl, ?_⟩) | ((with_reducible refine gate_callee (f := 22) rfl ?_); refine goesL_ (some 14) rfl rfl Tryd.func22 (by kernel_rfl) rfl #[] rfl (by (try simp only [List.map_toArray, List.map_cons, List.map_nil]); first | done | rfl | (simp only [List.length_drop, List.length_take]; rfl)) ?_; (with_reducible refine (laws_mkWorks.calls  true _ A6.out).mono ?_); rintro e w' ⟨rfl, ⟨nd, rfl⟩⟩; refine ⟨_, rfl, ?_⟩) | (go_at_call 19; (with_reducible refine (spec_Low.calls a2 32 t137 _ A9.out).mono ?_); rintro e w' ⟨rfl, ⟨nd, rfl⟩⟩) | (go_at_call 23; (with_reducible refine (laws_mkGood.calls k t135 a2 (Go.bits .and .u64 (IntKind.u64.wrap (a0)) (ji11)) t138 _ A12.out).mono ?_); rintro e w' ⟨rfl, ⟨nd, rfl⟩⟩))
        go_ret
        exact ⟨by first | rfl | (simp; done) | (simp only [← hji11] <;> (first | rfl | simp)) | (simp [*]; done), by repeat (first | exact Drawn0.refl _ | apply Drawn0.step)⟩
      · rw [if_neg c10] at H
        exact absurd H (by simp)
  · replace c7 := Bool.eq_false_iff.mpr c7
    subst c7
    have H1 : (some false) = some r := by rw [if_neg (show ¬ (false = true) by decide)] at H; exact H
    clear H
    have H := H1
    clear H1
    obtain rfl := Option.some.inj H
    go_enter Tryd.func8, Tryd.ntmps8
    go_wp2_with (first | ((with_reducible refine gate_callee (f := 12) rfl ?_); refine goesL_ (some 10) rfl rfl Tryd.func12 (by kernel_rfl) rfl #[.int .i64 a1, .int .i64 32] rfl (by (try simp only [List.map_toArray, List.map_cons, List.map_nil]); first | done | rfl | (simp only [List.length_drop, List.length_take]; rfl)) ?_; (with_reducible refine (laws_rwAt.calls a1 32 t134 _ A4.out).mono ?_); rintro e w' ⟨rfl, ⟨nd, rfl⟩⟩; refine ⟨_, rfl, ?_⟩) | ((with_reducible refine gate_callee (f := 27) rfl ?_); refine goesL_ (some 13) rfl rfl Tryd.func27 (by kernel_rfl) rfl #[.int .i64 a0, .int .i64 t134] rfl (by (try simp only [List.map_toArray, List.map_cons, List.map_nil]); first | done | rfl | (simp only [List.length_drop, List.length_take]; rfl)) ?_; (with_reducible refine (impl_AndSrwi.calls k a0 t134 t135 _ (by first | exact hT | exact hT.drewN _ | exact (hT.drewN _).drewN _ | exact ((hT.drewN _).drewN _).drewN _ | exact hT.below HB.out | exact (hT.below HB.out).drewN _ | exact ((hT.below HB.out).drewN _).drewN _) A5.out).mono ?_); rintro e w' ⟨rfl, ⟨nd, rfl⟩⟩; refine ⟨_, rfl, ?_⟩) | ((with_reducible refine gate_callee (f := 22) rfl ?_); refine goesL_ (some 14) rfl rfl Tryd.func22 (by kernel_rfl) rfl #[] rfl (by (try simp only [List.map_toArray, List.map_cons, List.map_nil]); first | done | rfl | (simp only [List.length_drop, List.length_take]; rfl)) ?_; (with_reducible refine (laws_mkWorks.calls  false _ A6.out).mono ?_); rintro e w' ⟨rfl, ⟨nd, rfl⟩⟩; refine ⟨_, rfl, ?_⟩))
    go_ret
    exact ⟨by first | rfl | (simp; done) | (simp [*]; done), by repeat (first | exact Drawn0.refl _ | apply Drawn0.step)⟩

/-- THE ONE PURE STATEMENT of laws_FnAndSrwi: yours. -/
def laws_FnAndSrwi.Pure : Prop := ∀ (a0 : Int) (a1 : Int) (a2 : Int), (Lit.int .i64 a0).wf = true → (Lit.int .i64 a1).wf = true → (Lit.int .u64 a2).wf = true → ∃ k, laws_FnAndSrwi.f k a0 a1 a2 = some true
theorem laws_FnAndSrwi.walk (P : laws_FnAndSrwi.Pure) (a0 : Int) (a1 : Int) (a2 : Int) (w : World) (hT : Tab0 w) (w0 : (Lit.int .i64 a0).wf = true) (w1 : (Lit.int .i64 a1).wf = true) (w2 : (Lit.int .u64 a2).wf = true) :
    Calls Tryd.prog 8 #[.int .i64 a0, .int .i64 a1, .int .u64 a2] w fun e w' => e = .returned (.bool true) ∧ Below w.heap.size w w' := by
  obtain ⟨k, h⟩ := P a0 a1 a2 w0 w1 w2
  refine (laws_FnAndSrwi.calls k a0 a1 a2 true w hT h).mono ?_
  rintro e w' ⟨rfl, hd⟩
  exact ⟨rfl, hd.below⟩

end Go.Proofs.YtlcaejikcelgoaaDoor.PFnAndSrwi
