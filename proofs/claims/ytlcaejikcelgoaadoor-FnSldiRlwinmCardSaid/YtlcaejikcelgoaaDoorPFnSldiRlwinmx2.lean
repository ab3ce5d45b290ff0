-- Written by a program of this session out of the translation (wip/pp.py): Lean checks it.
import Derived.Test.YtlcaejikcelgoaaDoorPFnSldiRlwinmx0
import Derived.Test.YtlcaejikcelgoaaDoorPFnSldiRlwinmx1
namespace Go.Proofs.YtlcaejikcelgoaaDoor.PFnSldiRlwinm
open Go.RowKit Go.Proofs.YtlcaejikcelgoaaDoorW.PrintWords Go.Proofs.YtlcaejikcelgoaaDoorW.PrintLast Go.Proofs.YtlcaejikcelgoaaDoorW.PrintMore
attribute [local go_sem] max2_int min2_int max_two min_two max_three min_three max_four min_four   -- for this text's walks alone
set_option linter.unusedVariables false
set_option linter.unusedSimpArgs false

attribute [local go_sem] signed_i64 signed_i32 signed_u32 max_u32 signed_u64 max_u64
/-! ### ssarewrite_encodePPC64RotateMask: function 46 -/
def ssarewrite_encodePPC64RotateMask.j0 : Nat → Int → Int → Int → Bool → Option (Int)
  | 0, _, _, _, _ => none
  | k + 1, x0, x1, x2, x22 => if x22 = true then (none) else (if x2 = 32 then ((bits_LeadingZeros32.f ((x1) % 4294967296)).bind fun t121 => ((bits_TrailingZeros32.f ((x1) % 4294967296)).bind fun t122 => ((bits_LeadingZeros32.f (Go.bits .xor .u32 4294967295 ((x1) % 4294967296))).bind fun t123 => ((bits_TrailingZeros32.f (Go.bits .xor .u32 4294967295 ((x1) % 4294967296))).bind fun t124 => (if t121 = 0 then (if (wrap64 (32 - t122)) = x2 then (some (Go.bits .or .i64 (Go.bits .or .i64 (Go.bits .or .i64 t123 (wrap64 ((wrap64 (32 - t124)) * 256))) (wrap64 (x0 * 65536))) (wrap64 (x2 * 16777216)))) else (some (Go.bits .or .i64 (Go.bits .or .i64 (Go.bits .or .i64 (wrap64 (32 - t122)) (wrap64 (t121 * 256))) (wrap64 (x0 * 65536))) (wrap64 (x2 * 16777216))))) else (some (Go.bits .or .i64 (Go.bits .or .i64 (Go.bits .or .i64 (wrap64 (32 - t122)) (wrap64 (t121 * 256))) (wrap64 (x0 * 65536))) (wrap64 (x2 * 16777216))))))))) else ((bits_LeadingZeros64.f (IntKind.u64.wrap (x1))).bind fun t125 => ((bits_TrailingZeros64.f (IntKind.u64.wrap (x1))).bind fun t126 => ((bits_LeadingZeros64.f (Go.bits .xor .u64 18446744073709551615 (IntKind.u64.wrap (x1)))).bind fun t127 => ((bits_TrailingZeros64.f (Go.bits .xor .u64 18446744073709551615 (IntKind.u64.wrap (x1)))).bind fun t128 => (if t125 = 0 then (if (wrap64 (64 - t126)) = x2 then (some (Go.bits .or .i64 (Go.bits .or .i64 (Go.bits .or .i64 t127 (wrap64 ((wrap64 (64 - t128)) * 256))) (wrap64 (x0 * 65536))) (wrap64 (x2 * 16777216)))) else (some (Go.bits .or .i64 (Go.bits .or .i64 (Go.bits .or .i64 (wrap64 (64 - t126)) (wrap64 (t125 * 256))) (wrap64 (x0 * 65536))) (wrap64 (x2 * 16777216))))) else (some (Go.bits .or .i64 (Go.bits .or .i64 (Go.bits .or .i64 (wrap64 (64 - t126)) (wrap64 (t125 * 256))) (wrap64 (x0 * 65536))) (wrap64 (x2 * 16777216))))))))))
def ssarewrite_encodePPC64RotateMask.f (k : Nat) (a0 : Int) (a1 : Int) (a2 : Int) : Option (Int) := if a1 = 0 then (ssarewrite_encodePPC64RotateMask.j0 k a0 a1 a2 true) else (if (Go.bits .xor .i64 (-1) a1) = 0 then (ssarewrite_encodePPC64RotateMask.j0 k a0 a1 a2 true) else (ssarewrite_encodePPC64RotateMask.j0 k a0 a1 a2 (decide (a0 ≥ a2))))
theorem ssarewrite_encodePPC64RotateMask.mono_l : ∀ k, (∀ y0 y1 y2 y3, LeO (ssarewrite_encodePPC64RotateMask.j0 k y0 y1 y2 y3) (ssarewrite_encodePPC64RotateMask.j0 (k + 1) y0 y1 y2 y3))
  | 0 => fun _ _ _ _ r h => by simp [ssarewrite_encodePPC64RotateMask.j0] at h
  | k + 1 => by
    have ih0 := ssarewrite_encodePPC64RotateMask.mono_l k
    · intro y0 y1 y2 y3
      unfold ssarewrite_encodePPC64RotateMask.j0
      repeat' first
      | (with_reducible exact ih0 _ _ _ _)
      | (with_reducible exact LeO.refl _)
      | (with_reducible exact LeO.none _)
      | (with_reducible refine LeO.ite ?_ ?_)
      | (with_reducible refine LeO.bind ?_ (fun _ => ?_))
      | exact ih0 _ _ _ _
      | exact LeO.none _
      | refine LeO.ite ?_ ?_
      | refine LeO.bind ?_ (fun _ => ?_)
theorem ssarewrite_encodePPC64RotateMask.mono : ∀ a0 a1 a2 k, LeO (ssarewrite_encodePPC64RotateMask.f k a0 a1 a2) (ssarewrite_encodePPC64RotateMask.f (k + 1) a0 a1 a2) := by
  intro a0 a1 a2 k
  have ih0 := ssarewrite_encodePPC64RotateMask.mono_l k
  unfold ssarewrite_encodePPC64RotateMask.f
  repeat' first
      | (with_reducible exact ih0 _ _ _ _)
      | (with_reducible exact LeO.refl _)
      | (with_reducible exact LeO.none _)
      | (with_reducible refine LeO.ite ?_ ?_)
      | (with_reducible refine LeO.bind ?_ (fun _ => ?_))
      | exact ih0 _ _ _ _
      | exact LeO.none _
      | refine LeO.ite ?_ ?_
      | refine LeO.bind ?_ (fun _ => ?_)
set_option maxHeartbeats 8000000 in
set_option maxRecDepth 100000 in
theorem ssarewrite_encodePPC64RotateMask.calls (k : Nat) (a0 : Int) (a1 : Int) (a2 : Int) (r : Int) (w : World) (hT : Tab0 w) (h : ssarewrite_encodePPC64RotateMask.f k a0 a1 a2 = some r) :
    Calls Tryd.prog 46 #[.int .i64 a0, .int .i64 a1, .int .i64 a2] w fun e w' => e = .returned (.int .i64 r) ∧ Drawn0 w w' := by
  have H : (if a1 = 0 then (ssarewrite_encodePPC64RotateMask.j0 k a0 a1 a2 true) else (if (Go.bits .xor .i64 (-1) a1) = 0 then (ssarewrite_encodePPC64RotateMask.j0 k a0 a1 a2 true) else (ssarewrite_encodePPC64RotateMask.j0 k a0 a1 a2 (decide (a0 ≥ a2))))) = some r := h
  clear h
  have HC4 := Aside0.mk H
  clear H
  go_enter Tryd.func46, Tryd.ntmps46
  go_upto_region 2 with (fail)
  go_cut [22] (fun v22 wc => ∃ (kq : Nat) (x22_3 : Bool), v22 = .bool x22_3 ∧ Aside0 (ssarewrite_encodePPC64RotateMask.j0 kq a0 a1 a2 x22_3 = some r) ∧ Aside0 (kq ≤ k) ∧ Drawn0 w wc)
  case first =>
    have H := HC4.out
    clear HC4
    by_cases c5 : a1 = 0
    · rw [if_pos c5] at H
      have c5b0 : (a1 == 0) = true := beq_iff_eq.mpr c5
      have c5b1 : (a1 != 0) = false := bne_eq_false_iff_eq.mpr c5
      clear c5
      (first | rw [c5b0] | (simp only [i64_w, i32_w]; rw [c5b0]) | skip)
      have H' := Aside0.mk H
      clear H
      go_wp2
      go_meet
      case rel => exact ⟨_, (true), (by first | rfl | (simp; done) | (simp [*]; done)), H', ⟨by first | omega | exact Nat.le_refl _⟩, by repeat (first | exact Drawn0.refl _ | apply Drawn0.step)⟩
    · rw [if_neg c5] at H
      have c5b0 : (a1 == 0) = false := beq_eq_false_iff_ne.mpr c5
      have c5b1 : (a1 != 0) = true := bne_iff_ne.mpr c5
      (first | rw [c5b0] | (simp only [i64_w, i32_w]; rw [c5b0]) | skip)
      by_cases c6 : (Go.bits .xor .i64 (-1) a1) = 0
      · rw [if_pos c6] at H
        have c6b0 : ((Go.bits .xor .i64 (-1) a1) == 0) = true := beq_iff_eq.mpr c6
        have c6b1 : ((Go.bits .xor .i64 (-1) a1) != 0) = false := bne_eq_false_iff_eq.mpr c6
        clear c6
        have H' := Aside0.mk H
        clear H
        go_wp2
        go_meet
        case rel => exact ⟨_, (true), (by first | rfl | (simp; done) | (simp [*]; done)), H', ⟨by first | omega | exact Nat.le_refl _⟩, by repeat (first | exact Drawn0.refl _ | apply Drawn0.step)⟩
      · rw [if_neg c6] at H
        have c6b0 : ((Go.bits .xor .i64 (-1) a1) == 0) = false := beq_eq_false_iff_ne.mpr c6
        have c6b1 : ((Go.bits .xor .i64 (-1) a1) != 0) = true := bne_iff_ne.mpr c6
        have H' := Aside0.mk H
        clear H
        go_wp2
        go_meet
        case rel => exact ⟨_, (decide (a0 ≥ a2)), (by first | rfl | (simp; done) | (simp [*]; done)), H', ⟨by first | omega | exact Nat.le_refl _⟩, by repeat (first | exact Drawn0.refl _ | apply Drawn0.step)⟩
  case rest =>
    clear HC4
    try clear p2
    try clear c4
    try clear c5
    try clear c5b0
    try clear c5b1
    try clear c6
    try clear c6b0
    try clear c6b1
    obtain ⟨kq, x22_3, rfl, HA, HJ3, ⟨mc3, rfl⟩⟩ := hcut
    cases kq with
    | zero => exact absurd HA.out (by simp [ssarewrite_encodePPC64RotateMask.j0])
    | succ kj3 =>
      have H := HA.out
      clear HA
      simp only [ssarewrite_encodePPC64RotateMask.j0] at H
      by_cases c7 : x22_3 = true
      · subst c7
        have H1 : (none) = some r := by rw [if_pos rfl] at H; exact H
        clear H
        have H := H1
        clear H1
        exact absurd H (by simp)
      · replace c7 := Bool.eq_false_iff.mpr c7
        subst c7
        have H1 : (if a2 = 32 then ((bits_LeadingZeros32.f ((a1) % 4294967296)).bind fun t121 => ((bits_TrailingZeros32.f ((a1) % 4294967296)).bind fun t122 => ((bits_LeadingZeros32.f (Go.bits .xor .u32 4294967295 ((a1) % 4294967296))).bind fun t123 => ((bits_TrailingZeros32.f (Go.bits .xor .u32 4294967295 ((a1) % 4294967296))).bind fun t124 => (if t121 = 0 then (if (wrap64 (32 - t122)) = a2 then (some (Go.bits .or .i64 (Go.bits .or .i64 (Go.bits .or .i64 t123 (wrap64 ((wrap64 (32 - t124)) * 256))) (wrap64 (a0 * 65536))) (wrap64 (a2 * 16777216)))) else (some (Go.bits .or .i64 (Go.bits .or .i64 (Go.bits .or .i64 (wrap64 (32 - t122)) (wrap64 (t121 * 256))) (wrap64 (a0 * 65536))) (wrap64 (a2 * 16777216))))) else (some (Go.bits .or .i64 (Go.bits .or .i64 (Go.bits .or .i64 (wrap64 (32 - t122)) (wrap64 (t121 * 256))) (wrap64 (a0 * 65536))) (wrap64 (a2 * 16777216))))))))) else ((bits_LeadingZeros64.f (IntKind.u64.wrap (a1))).bind fun t125 => ((bits_TrailingZeros64.f (IntKind.u64.wrap (a1))).bind fun t126 => ((bits_LeadingZeros64.f (Go.bits .xor .u64 18446744073709551615 (IntKind.u64.wrap (a1)))).bind fun t127 => ((bits_TrailingZeros64.f (Go.bits .xor .u64 18446744073709551615 (IntKind.u64.wrap (a1)))).bind fun t128 => (if t125 = 0 then (if (wrap64 (64 - t126)) = a2 then (some (Go.bits .or .i64 (Go.bits .or .i64 (Go.bits .or .i64 t127 (wrap64 ((wrap64 (64 - t128)) * 256))) (wrap64 (a0 * 65536))) (wrap64 (a2 * 16777216)))) else (some (Go.bits .or .i64 (Go.bits .or .i64 (Go.bits .or .i64 (wrap64 (64 - t126)) (wrap64 (t125 * 256))) (wrap64 (a0 * 65536))) (wrap64 (a2 * 16777216))))) else (some (Go.bits .or .i64 (Go.bits .or .i64 (Go.bits .or .i64 (wrap64 (64 - t126)) (wrap64 (t125 * 256))) (wrap64 (a0 * 65536))) (wrap64 (a2 * 16777216)))))))))) = some r := by rw [if_neg (show ¬ (false = true) by decide)] at H; exact H
        clear H
        have H := H1
        clear H1
        by_cases c8 : a2 = 32
        · rw [if_pos c8] at H
          have c8b0 : (a2 == 32) = true := beq_iff_eq.mpr c8
          have c8b1 : (a2 != 32) = false := bne_eq_false_iff_eq.mpr c8
          clear c8
          replace H := Option.bind_eq_some_iff.mp H
          obtain ⟨t121, A90, H⟩ := H
          replace H : ((bits_TrailingZeros32.f ((a1) % 4294967296)).bind fun t122 => ((bits_LeadingZeros32.f (Go.bits .xor .u32 4294967295 ((a1) % 4294967296))).bind fun t123 => ((bits_TrailingZeros32.f (Go.bits .xor .u32 4294967295 ((a1) % 4294967296))).bind fun t124 => (if t121 = 0 then (if (wrap64 (32 - t122)) = a2 then (some (Go.bits .or .i64 (Go.bits .or .i64 (Go.bits .or .i64 t123 (wrap64 ((wrap64 (32 - t124)) * 256))) (wrap64 (a0 * 65536))) (wrap64 (a2 * 16777216)))) else (some (Go.bits .or .i64 (Go.bits .or .i64 (Go.bits .or .i64 (wrap64 (32 - t122)) (wrap64 (t121 * 256))) (wrap64 (a0 * 65536))) (wrap64 (a2 * 16777216))))) else (some (Go.bits .or .i64 (Go.bits .or .i64 (Go.bits .or .i64 (wrap64 (32 - t122)) (wrap64 (t121 * 256))) (wrap64 (a0 * 65536))) (wrap64 (a2 * 16777216)))))))) = some r := H
          have A9 := Aside0.mk A90
          clear A90
          replace H := Option.bind_eq_some_iff.mp H
          obtain ⟨t122, A100, H⟩ := H
          replace H : ((bits_LeadingZeros32.f (Go.bits .xor .u32 4294967295 ((a1) % 4294967296))).bind fun t123 => ((bits_TrailingZeros32.f (Go.bits .xor .u32 4294967295 ((a1) % 4294967296))).bind fun t124 => (if t121 = 0 then (if (wrap64 (32 - t122)) = a2 then (some (Go.bits .or .i64 (Go.bits .or .i64 (Go.bits .or .i64 t123 (wrap64 ((wrap64 (32 - t124)) * 256))) (wrap64 (a0 * 65536))) (wrap64 (a2 * 16777216)))) else (some (Go.bits .or .i64 (Go.bits .or .i64 (Go.bits .or .i64 (wrap64 (32 - t122)) (wrap64 (t121 * 256))) (wrap64 (a0 * 65536))) (wrap64 (a2 * 16777216))))) else (some (Go.bits .or .i64 (Go.bits .or .i64 (Go.bits .or .i64 (wrap64 (32 - t122)) (wrap64 (t121 * 256))) (wrap64 (a0 * 65536))) (wrap64 (a2 * 16777216))))))) = some r := H
          have A10 := Aside0.mk A100
          clear A100
          replace H := Option.bind_eq_some_iff.mp H
          obtain ⟨t123, A110, H⟩ := H
          replace H : ((bits_TrailingZeros32.f (Go.bits .xor .u32 4294967295 ((a1) % 4294967296))).bind fun t124 => (if t121 = 0 then (if (wrap64 (32 - t122)) = a2 then (some (Go.bits .or .i64 (Go.bits .or .i64 (Go.bits .or .i64 t123 (wrap64 ((wrap64 (32 - t124)) * 256))) (wrap64 (a0 * 65536))) (wrap64 (a2 * 16777216)))) else (some (Go.bits .or .i64 (Go.bits .or .i64 (Go.bits .or .i64 (wrap64 (32 - t122)) (wrap64 (t121 * 256))) (wrap64 (a0 * 65536))) (wrap64 (a2 * 16777216))))) else (some (Go.bits .or .i64 (Go.bits .or .i64 (Go.bits .or .i64 (wrap64 (32 - t122)) (wrap64 (t121 * 256))) (wrap64 (a0 * 65536))) (wrap64 (a2 * 16777216)))))) = some r := H
          have A11 := Aside0.mk A110
          clear A110
          replace H := Option.bind_eq_some_iff.mp H
          obtain ⟨t124, A120, H⟩ := H
          replace H : (if t121 = 0 then (if (wrap64 (32 - t122)) = a2 then (some (Go.bits .or .i64 (Go.bits .or .i64 (Go.bits .or .i64 t123 (wrap64 ((wrap64 (32 - t124)) * 256))) (wrap64 (a0 * 65536))) (wrap64 (a2 * 16777216)))) else (some (Go.bits .or .i64 (Go.bits .or .i64 (Go.bits .or .i64 (wrap64 (32 - t122)) (wrap64 (t121 * 256))) (wrap64 (a0 * 65536))) (wrap64 (a2 * 16777216))))) else (some (Go.bits .or .i64 (Go.bits .or .i64 (Go.bits .or .i64 (wrap64 (32 - t122)) (wrap64 (t121 * 256))) (wrap64 (a0 * 65536))) (wrap64 (a2 * 16777216))))) = some r := H
          have A12 := Aside0.mk A120
          clear A120
          by_cases c13 : t121 = 0
          · rw [if_pos c13] at H
            have c13b0 : (t121 == 0) = true := beq_iff_eq.mpr c13
            have c13b1 : (t121 != 0) = false := bne_eq_false_iff_eq.mpr c13
            clear c13
            by_cases c14 : (wrap64 (32 - t122)) = a2
            · rw [if_pos c14] at H
              have c14b0 : ((wrap64 (32 - t122)) == a2) = true := beq_iff_eq.mpr c14
              have c14b1 : ((wrap64 (32 - t122)) != a2) = false := bne_eq_false_iff_eq.mpr c14
              clear c14
              obtain rfl := Option.some.inj H
              go_wp2_with (first | ((with_reducible refine gate_callee (f := 57) rfl ?_); refine goesL_ (some 28) rfl rfl Tryd.func57 (by kernel_rfl) rfl #[.int .u32 ((a1) % 4294967296)] rfl (by (try simp only [List.map_toArray, List.map_cons, List.map_nil]); first | done | rfl | (simp only [List.length_drop, List.length_take]; rfl)) ?_; (with_reducible refine (bits_LeadingZeros32.calls ((a1) % 4294967296) t121 _ A9.out).mono ?_); rintro e w' ⟨rfl, ⟨nd, rfl⟩⟩; refine ⟨_, rfl, ?_⟩) | ((with_reducible refine gate_callee (f := 58) rfl ?_); refine goesL_ (some 31) rfl rfl Tryd.func58 (by kernel_rfl) rfl #[.int .u32 ((a1) % 4294967296)] rfl (by (try simp only [List.map_toArray, List.map_cons, List.map_nil]); first | done | rfl | (simp only [List.length_drop, List.length_take]; rfl)) ?_; (with_reducible refine (bits_TrailingZeros32.calls ((a1) % 4294967296) t122 _ (by first | exact hT | exact hT.drewN _ | exact (hT.drewN _).drewN _ | exact ((hT.drewN _).drewN _).drewN _ | exact hT.below HB.out | exact (hT.below HB.out).drewN _ | exact ((hT.below HB.out).drewN _).drewN _) A10.out).mono ?_); rintro e w' ⟨rfl, ⟨nd, rfl⟩⟩; refine ⟨_, rfl, ?_⟩) | ((with_reducible refine gate_callee (f := 57) rfl ?_); refine goesL_ (some 36) rfl rfl Tryd.func57 (by kernel_rfl) rfl #[.int .u32 (Go.bits .xor .u32 4294967295 ((a1) % 4294967296))] rfl (by (try simp only [List.map_toArray, List.map_cons, List.map_nil]); first | done | rfl | (simp only [List.length_drop, List.length_take]; rfl)) ?_; (with_reducible refine (bits_LeadingZeros32.calls (Go.bits .xor .u32 4294967295 ((a1) % 4294967296)) t123 _ A11.out).mono ?_); rintro e w' ⟨rfl, ⟨nd, rfl⟩⟩; refine ⟨_, rfl, ?_⟩) | ((with_reducible refine gate_callee (f := 58) rfl ?_); refine goesL_ (some 40) rfl rfl Tryd.func58 (by kernel_rfl) rfl #[.int .u32 (Go.bits .xor .u32 4294967295 ((a1) % 4294967296))] rfl (by (try simp only [List.map_toArray, List.map_cons, List.map_nil]); first | done | rfl | (simp only [List.length_drop, List.length_take]; rfl)) ?_; (with_reducible refine (bits_TrailingZeros32.calls (Go.bits .xor .u32 4294967295 ((a1) % 4294967296)) t124 _ (by first | exact hT | exact hT.drewN _ | exact (hT.drewN _).drewN _ | exact ((hT.drewN _).drewN _).drewN _ | exact hT.below HB.out | exact (hT.below HB.out).drewN _ | exact ((hT.below HB.out).drewN _).drewN _) A12.out).mono ?_); rintro e w' ⟨rfl, ⟨nd, rfl⟩⟩; refine ⟨_, rfl, ?_⟩))
              go_ret
              exact ⟨by first | rfl | (simp; done) | (simp [*]; done), by repeat (first | exact Drawn0.refl _ | apply Drawn0.step)⟩
            · rw [if_neg c14] at H
              have c14b0 : ((wrap64 (32 - t122)) == a2) = false := beq_eq_false_iff_ne.mpr c14
              have c14b1 : ((wrap64 (32 - t122)) != a2) = true := bne_iff_ne.mpr c14
              obtain rfl := Option.some.inj H
              go_wp2_with (first | ((with_reducible refine gate_callee (f := 57) rfl ?_); refine goesL_ (some 28) rfl rfl Tryd.func57 (by kernel_rfl) rfl #[.int .u32 ((a1) % 4294967296)] rfl (by (try simp only [List.map_toArray, List.map_cons, List.map_nil]); first | done | rfl | (simp only [List.length_drop, List.length_take]; rfl)) ?_; (with_reducible refine (bits_LeadingZeros32.calls ((a1) % 4294967296) t121 _ A9.out).mono ?_); rintro e w' ⟨rfl, ⟨nd, rfl⟩⟩; refine ⟨_, rfl, ?_⟩) | ((with_reducible refine gate_callee (f := 58) rfl ?_); refine goesL_ (some 31) rfl rfl Tryd.func58 (by kernel_rfl) rfl #[.int .u32 ((a1) % 4294967296)] rfl (by (try simp only [List.map_toArray, List.map_cons, List.map_nil]); first | done | rfl | (simp only [List.length_drop, List.length_take]; rfl)) ?_; (with_reducible refine (bits_TrailingZeros32.calls ((a1) % 4294967296) t122 _ (by first | exact hT | exact hT.drewN _ | exact (hT.drewN _).drewN _ | exact ((hT.drewN _).drewN _).drewN _ | exact hT.below HB.out | exact (hT.below HB.out).drewN _ | exact ((hT.below HB.out).drewN _).drewN _) A10.out).mono ?_); rintro e w' ⟨rfl, ⟨nd, rfl⟩⟩; refine ⟨_, rfl, ?_⟩) | ((with_reducible refine gate_callee (f := 57) rfl ?_); refine goesL_ (some 36) rfl rfl Tryd.func57 (by kernel_rfl) rfl #[.int .u32 (Go.bits .xor .u32 4294967295 ((a1) % 4294967296))] rfl (by (try simp only [List.map_toArray, List.map_cons, List.map_nil]); first | done | rfl | (simp only [List.length_drop, List.length_take]; rfl)) ?_; (with_reducible refine (bits_LeadingZeros32.calls (Go.bits .xor .u32 4294967295 ((a1) % 4294967296)) t123 _ A11.out).mono ?_); rintro e w' ⟨rfl, ⟨nd, rfl⟩⟩; refine ⟨_, rfl, ?_⟩) | ((with_reducible refine gate_callee (f := 58) rfl ?_); refine goesL_ (some 40) rfl rfl Tryd.func58 (by kernel_rfl) rfl #[.int .u32 (Go.bits .xor .u32 4294967295 ((a1) % 4294967296))] rfl (by (try simp only [List.map_toArray, List.map_cons, List.map_nil]); first | done | rfl | (simp only [List.length_drop, List.length_take]; rfl)) ?_; (with_reducible refine (bits_TrailingZeros32.calls (Go.bits .xor .u32 4294967295 ((a1) % 4294967296)) t124 _ (by first | exact hT | exact hT.drewN _ | exact (hT.drewN _).drewN _ | exact ((hT.drewN _).drewN _).drewN _ | exact hT.below HB.out | exact (hT.below HB.out).drewN _ | exact ((hT.below HB.out).drewN _).drewN _) A12.out).mono ?_); rintro e w' ⟨rfl, ⟨nd, rfl⟩⟩; refine ⟨_, rfl, ?_⟩))
              go_ret
              exact ⟨by first | rfl | (simp; done) | (simp [*]; done), by repeat (first | exact Drawn0.refl _ | apply Drawn0.step)⟩
          · rw [if_neg c13] at H
            have c13b0 : (t121 == 0) = false := beq_eq_false_iff_ne.mpr c13
            have c13b1 : (t121 != 0) = true := bne_iff_ne.mpr c13
            obtain rfl := Option.some.inj H
            go_wp2_with (first | ((with_reducible refine gate_callee (f := 57) rfl ?_); refine goesL_ (some 28) rfl rfl Tryd.func57 (by kernel_rfl) rfl #[.int .u32 ((a1) % 4294967296)] rfl (by (try simp only [List.map_toArray, List.map_cons, List.map_nil]); first | done | rfl | (simp only [List.length_drop, List.length_take]; rfl)) ?_; (with_reducible refine (bits_LeadingZeros32.calls ((a1) % 4294967296) t121 _ A9.out).mono ?_); rintro e w' ⟨rfl, ⟨nd, rfl⟩⟩; refine ⟨_, rfl, ?_⟩) | ((with_reducible refine gate_callee (f := 58) rfl ?_); refine goesL_ (some 31) rfl rfl Tryd.func58 (by kernel_rfl) rfl #[.int .u32 ((a1) % 4294967296)] rfl (by (try simp only [List.map_toArray, List.map_cons, List.map_nil]); first | done | rfl | (simp only [List.length_drop, List.length_take]; rfl)) ?_; (with_reducible refine (bits_TrailingZeros32.calls ((a1) % 4294967296) t122 _ (by first | exact hT | exact hT.drewN _ | exact (hT.drewN _).drewN _ | exact ((hT.drewN _).drewN _).drewN _ | exact hT.below HB.out | exact (hT.below HB.out).drewN _ | exact ((hT.below HB.out).drewN _).drewN _) A10.out).mono ?_); rintro e w' ⟨rfl, ⟨nd, rfl⟩⟩; refine ⟨_, rfl, ?_⟩) | ((with_reducible refine gate_callee (f := 57) rfl ?_); refine goesL_ (some 36) rfl rfl Tryd.func57 (by kernel_rfl) rfl #[.int .u32 (Go.bits .xor .u32 4294967295 ((a1) % 4294967296))] rfl (by (try simp only [List.map_toArray, List.map_cons, List.map_nil]); first | done | rfl | (simp only [List.length_drop, List.length_take]; rfl)) ?_; (with_reducible refine (bits_LeadingZeros32.calls (Go.bits .xor .u32 4294967295 ((a1) % 4294967296)) t123 _ A11.out).mono ?_); rintro e w' ⟨rfl, ⟨nd, rfl⟩⟩; refine ⟨_, rfl, ?_⟩) | ((with_reducible refine gate_callee (f := 58) rfl ?_); refine goesL_ (some 40) rfl rfl Tryd.func58 (by kernel_rfl) rfl #[.int .u32 (Go.bits .xor .u32 4294967295 ((a1) % 4294967296))] rfl (by (try simp only [List.map_toArray, List.map_cons, List.map_nil]); first | done | rfl | (simp only [List.length_drop, List.length_take]; rfl)) ?_; (with_reducible refine (bits_TrailingZeros32.calls (Go.bits .xor .u32 4294967295 ((a1) % 4294967296)) t124 _ (by first | exact hT | exact hT.drewN _ | exact (hT.drewN _).drewN _ | exact ((hT.drewN _).drewN _).drewN _ | exact hT.below HB.out | exact (hT.below HB.out).drewN _ | exact ((hT.below HB.out).drewN _).drewN _) A12.out).mono ?_); rintro e w' ⟨rfl, ⟨nd, rfl⟩⟩; refine ⟨_, rfl, ?_⟩))
            go_ret
            exact ⟨by first | rfl | (simp; done) | (simp [*]; done), by repeat (first | exact Drawn0.refl _ | apply Drawn0.step)⟩
        · rw [if_neg c8] at H
          have c8b0 : (a2 == 32) = false := beq_eq_false_iff_ne.mpr c8
          have c8b1 : (a2 != 32) = true := bne_iff_ne.mpr c8
          replace H := Option.bind_eq_some_iff.mp H
          obtain ⟨t125, A150, H⟩ := H
          replace H : ((bits_TrailingZeros64.f (IntKind.u64.wrap (a1))).bind fun t126 => ((bits_LeadingZeros64.f (Go.bits .xor .u64 18446744073709551615 (IntKind.u64.wrap (a1)))).bind fun t127 => ((bits_TrailingZeros64.f (Go.bits .xor .u64 18446744073709551615 (IntKind.u64.wrap (a1)))).bind fun t128 => (if t125 = 0 then (if (wrap64 (64 - t126)) = a2 then (some (Go.bits .or .i64 (Go.bits .or .i64 (Go.bits .or .i64 t127 (wrap64 ((wrap64 (64 - t128)) * 256))) (wrap64 (a0 * 65536))) (wrap64 (a2 * 16777216)))) else (some (Go.bits .or .i64 (Go.bits .or .i64 (Go.bits .or .i64 (wrap64 (64 - t126)) (wrap64 (t125 * 256))) (wrap64 (a0 * 65536))) (wrap64 (a2 * 16777216))))) else (some (Go.bits .or .i64 (Go.bits .or .i64 (Go.bits .or .i64 (wrap64 (64 - t126)) (wrap64 (t125 * 256))) (wrap64 (a0 * 65536))) (wrap64 (a2 * 16777216)))))))) = some r := H
          have A15 := Aside0.mk A150
          clear A150
          replace H := Option.bind_eq_some_iff.mp H
          obtain ⟨t126, A160, H⟩ := H
          replace H : ((bits_LeadingZeros64.f (Go.bits .xor .u64 18446744073709551615 (IntKind.u64.wrap (a1)))).bind fun t127 => ((bits_TrailingZeros64.f (Go.bits .xor .u64 18446744073709551615 (IntKind.u64.wrap (a1)))).bind fun t128 => (if t125 = 0 then (if (wrap64 (64 - t126)) = a2 then (some (Go.bits .or .i64 (Go.bits .or .i64 (Go.bits .or .i64 t127 (wrap64 ((wrap64 (64 - t128)) * 256))) (wrap64 (a0 * 65536))) (wrap64 (a2 * 16777216)))) else (some (Go.bits .or .i64 (Go.bits .or .i64 (Go.bits .or .i64 (wrap64 (64 - t126)) (wrap64 (t125 * 256))) (wrap64 (a0 * 65536))) (wrap64 (a2 * 16777216))))) else (some (Go.bits .or .i64 (Go.bits .or .i64 (Go.bits .or .i64 (wrap64 (64 - t126)) (wrap64 (t125 * 256))) (wrap64 (a0 * 65536))) (wrap64 (a2 * 16777216))))))) = some r := H
          have A16 := Aside0.mk A160
          clear A160
          replace H := Option.bind_eq_some_iff.mp H
          obtain ⟨t127, A170, H⟩ := H
          replace H : ((bits_TrailingZeros64.f (Go.bits .xor .u64 18446744073709551615 (IntKind.u64.wrap (a1)))).bind fun t128 => (if t125 = 0 then (if (wrap64 (64 - t126)) = a2 then (some (Go.bits .or .i64 (Go.bits .or .i64 (Go.bits .or .i64 t127 (wrap64 ((wrap64 (64 - t128)) * 256))) (wrap64 (a0 * 65536))) (wrap64 (a2 * 16777216)))) else (some (Go.bits .or .i64 (Go.bits .or .i64 (Go.bits .or .i64 (wrap64 (64 - t126)) (wrap64 (t125 * 256))) (wrap64 (a0 * 65536))) (wrap64 (a2 * 16777216))))) else (some (Go.bits .or .i64 (Go.bits .or .i64 (Go.bits .or .i64 (wrap64 (64 - t126)) (wrap64 (t125 * 256))) (wrap64 (a0 * 65536))) (wrap64 (a2 * 16777216)))))) = some r := H
          have A17 := Aside0.mk A170
          clear A170
          replace H := Option.bind_eq_some_iff.mp H
          obtain ⟨t128, A180, H⟩ := H
          replace H : (if t125 = 0 then (if (wrap64 (64 - t126)) = a2 then (some (Go.bits .or .i64 (Go.bits .or .i64 (Go.bits .or .i64 t127 (wrap64 ((wrap64 (64 - t128)) * 256))) (wrap64 (a0 * 65536))) (wrap64 (a2 * 16777216)))) else (some (Go.bits .or .i64 (Go.bits .or .i64 (Go.bits .or .i64 (wrap64 (64 - t126)) (wrap64 (t125 * 256))) (wrap64 (a0 * 65536))) (wrap64 (a2 * 16777216))))) else (some (Go.bits .or .i64 (Go.bits .or .i64 (Go.bits .or .i64 (wrap64 (64 - t126)) (wrap64 (t125 * 256))) (wrap64 (a0 * 65536))) (wrap64 (a2 * 16777216))))) = some r := H
          have A18 := Aside0.mk A180
          clear A180
          by_cases c19 : t125 = 0
          · rw [if_pos c19] at H
            have c19b0 : (t125 == 0) = true := beq_iff_eq.mpr c19
            have c19b1 : (t125 != 0) = false := bne_eq_false_iff_eq.mpr c19
            clear c19
            by_cases c20 : (wrap64 (64 - t126)) = a2
            · rw [if_pos c20] at H
              have c20b0 : ((wrap64 (64 - t126)) == a2) = true := beq_iff_eq.mpr c20
              have c20b1 : ((wrap64 (64 - t126)) != a2) = false := bne_eq_false_iff_eq.mpr c20
              clear c20
              obtain rfl := Option.some.inj H
              go_wp2_with (first | ((with_reducible refine gate_callee (f := 59) rfl ?_); refine goesL_ (some 44) rfl rfl Tryd.func59 (by kernel_rfl) rfl #[.int .u64 (IntKind.u64.wrap (a1))] rfl (by (try simp only [List.map_toArray, List.map_cons, List.map_nil]); first | done | rfl | (simp only [List.length_drop, List.length_take]; rfl)) ?_; (with_reducible refine (bits_LeadingZeros64.calls (IntKind.u64.wrap (a1)) t125 _ A15.out).mono ?_); rintro e w' ⟨rfl, ⟨nd, rfl⟩⟩; refine ⟨_, rfl, ?_⟩) | ((with_reducible refine gate_callee (f := 60) rfl ?_); refine goesL_ (some 47) rfl rfl Tryd.func60 (by kernel_rfl) rfl #[.int .u64 (IntKind.u64.wrap (a1))] rfl (by (try simp only [List.map_toArray, List.map_cons, List.map_nil]); first | done | rfl | (simp only [List.length_drop, List.length_take]; rfl)) ?_; (with_reducible refine (bits_TrailingZeros64.calls (IntKind.u64.wrap (a1)) t126 _ (by first | exact hT | exact hT.drewN _ | exact (hT.drewN _).drewN _ | exact ((hT.drewN _).drewN _).drewN _ | exact hT.below HB.out | exact (hT.below HB.out).drewN _ | exact ((hT.below HB.out).drewN _).drewN _) A16.out).mono ?_); rintro e w' ⟨rfl, ⟨nd, rfl⟩⟩; refine ⟨_, rfl, ?_⟩) | ((with_reducible refine gate_callee (f := 59) rfl ?_); refine goesL_ (some 52) rfl rfl Tryd.func59 (by kernel_rfl) rfl #[.int .u64 (Go.bits .xor .u64 18446744073709551615 (IntKind.u64.wrap (a1)))] rfl (by (try simp only [List.map_toArray, List.map_cons, List.map_nil]); first | done | rfl | (simp only [List.length_drop, List.length_take]; rfl)) ?_; (with_reducible refine (bits_LeadingZeros64.calls (Go.bits .xor .u64 18446744073709551615 (IntKind.u64.wrap (a1))) t127 _ A17.out).mono ?_); rintro e w' ⟨rfl, ⟨nd, rfl⟩⟩; refine ⟨_, rfl, ?_⟩) | ((with_reducible refine gate_callee (f := 60) rfl ?_); refine goesL_ (some 56) rfl rfl Tryd.func60 (by kernel_rfl) rfl #[.int .u64 (Go.bits .xor .u64 18446744073709551615 (IntKind.u64.wrap (a1)))] rfl (by (try simp only [List.map_toArray, List.map_cons, List.map_nil]); first | done | rfl | (simp only [List.length_drop, List.length_take]; rfl)) ?_; (with_reducible refine (bits_TrailingZeros64.calls (Go.bits .xor .u64 18446744073709551615 (IntKind.u64.wrap (a1))) t128 _ (by first | exact hT | exact hT.drewN _ | exact (hT.drewN _).drewN _ | exact ((hT.drewN _).drewN _).drewN _ | exact hT.below HB.out | exact (hT.below HB.out).drewN _ | exact ((hT.below HB.out).drewN _).drewN _) A18.out).mono ?_); rintro e w' ⟨rfl, ⟨nd, rfl⟩⟩; refine ⟨_, rfl, ?_⟩))
              go_ret
              exact ⟨by first | rfl | (simp; done) | (simp [*]; done), by repeat (first | exact Drawn0.refl _ | apply Drawn0.step)⟩
            · rw [if_neg c20] at H
              have c20b0 : ((wrap64 (64 - t126)) == a2) = false := beq_eq_false_iff_ne.mpr c20
              have c20b1 : ((wrap64 (64 - t126)) != a2) = true := bne_iff_ne.mpr c20
              obtain rfl := Option.some.inj H
              go_wp2_with (first | ((with_reducible refine gate_callee (f := 59) rfl ?_); refine goesL_ (some 44) rfl rfl Tryd.func59 (by kernel_rfl) rfl #[.int .u64 (IntKind.u64.wrap (a1))] rfl (by (try simp only [List.map_toArray, List.map_cons, List.map_nil]); first | done | rfl | (simp only [List.length_drop, List.length_take]; rfl)) ?_; (with_reducible refine (bits_LeadingZeros64.calls (IntKind.u64.wrap (a1)) t125 _ A15.out).mono ?_); rintro e w' ⟨rfl, ⟨nd, rfl⟩⟩; refine ⟨_, rfl, ?_⟩) | ((with_reducible refine gate_callee (f := 60) rfl ?_); refine goesL_ (some 47) rfl rfl Tryd.func60 (by kernel_rfl) rfl #[.int .u64 (IntKind.u64.wrap (a1))] rfl (by (try simp only [List.map_toArray, List.map_cons, List.map_nil]); first | done | rfl | (simp only [List.length_drop, List.length_take]; rfl)) ?_; (with_reducible refine (bits_TrailingZeros64.calls (IntKind.u64.wrap (a1)) t126 _ (by first | exact hT | exact hT.drewN _ | exact (hT.drewN _).drewN _ | exact ((hT.drewN _).drewN _).drewN _ | exact hT.below HB.out | exact (hT.below HB.out).drewN _ | exact ((hT.below HB.out).drewN _).drewN _) A16.out).mono ?_); rintro e w' ⟨rfl, ⟨nd, rfl⟩⟩; refine ⟨_, rfl, ?_⟩) | ((with_reducible refine gate_callee (f := 59) rfl ?_); refine goesL_ (some 52) rfl rfl Tryd.func59 (by kernel_rfl) rfl #[.int .u64 (Go.bits .xor .u64 18446744073709551615 (IntKind.u64.wrap (a1)))] rfl (by (try simp only [List.map_toArray, List.map_cons, List.map_nil]); first | done | rfl | (simp only [List.length_drop, List.length_take]; rfl)) ?_; (with_reducible refine (bits_LeadingZeros64.calls (Go.bits .xor .u64 18446744073709551615 (IntKind.u64.wrap (a1))) t127 _ A17.out).mono ?_); rintro e w' ⟨rfl, ⟨nd, rfl⟩⟩; refine ⟨_, rfl, ?_⟩) | ((with_reducible refine gate_callee (f := 60) rfl ?_); refine goesL_ (some 56) rfl rfl Tryd.func60 (by kernel_rfl) rfl #[.int .u64 (Go.bits .xor .u64 18446744073709551615 (IntKind.u64.wrap (a1)))] rfl (by (try simp only [List.map_toArray, List.map_cons, List.map_nil]); first | done | rfl | (simp only [List.length_drop, List.length_take]; rfl)) ?_; (with_reducible refine (bits_TrailingZeros64.calls (Go.bits .xor .u64 18446744073709551615 (IntKind.u64.wrap (a1))) t128 _ (by first | exact hT | exact hT.drewN _ | exact (hT.drewN _).drewN _ | exact ((hT.drewN _).drewN _).drewN _ | exact hT.below HB.out | exact (hT.below HB.out).drewN _ | exact ((hT.below HB.out).drewN _).drewN _) A18.out).mono ?_); rintro e w' ⟨rfl, ⟨nd, rfl⟩⟩; refine ⟨_, rfl, ?_⟩))
              go_ret
              exact ⟨by first | rfl | (simp; done) | (simp [*]; done), by repeat (first | exact Drawn0.refl _ | apply Drawn0.step)⟩
          · rw [if_neg c19] at H
            have c19b0 : (t125 == 0) = false := beq_eq_false_iff_ne.mpr c19
            have c19b1 : (t125 != 0) = true := bne_iff_ne.mpr c19
            obtain rfl := Option.some.inj H
            go_wp2_with (first | ((with_reducible refine gate_callee (f := 59) rfl ?_); refine goesL_ (some 44) rfl rfl Tryd.func59 (by kernel_rfl) rfl #[.int .u64 (IntKind.u64.wrap (a1))] rfl (by (try simp only [List.map_toArray, List.map_cons, List.map_nil]); first | done | rfl | (simp only [List.length_drop, List.length_take]; rfl)) ?_; (with_reducible refine (bits_LeadingZeros64.calls (IntKind.u64.wrap (a1)) t125 _ A15.out).mono ?_); rintro e w' ⟨rfl, ⟨nd, rfl⟩⟩; refine ⟨_, rfl, ?_⟩) | ((with_reducible refine gate_callee (f := 60) rfl ?_); refine goesL_ (some 47) rfl rfl Tryd.func60 (by kernel_rfl) rfl #[.int .u64 (IntKind.u64.wrap (a1))] rfl (by (try simp only [List.map_toArray, List.map_cons, List.map_nil]); first | done | rfl | (simp only [List.length_drop, List.length_take]; rfl)) ?_; (with_reducible refine (bits_TrailingZeros64.calls (IntKind.u64.wrap (a1)) t126 _ (by first | exact hT | exact hT.drewN _ | exact (hT.drewN _).drewN _ | exact ((hT.drewN _).drewN _).drewN _ | exact hT.below HB.out | exact (hT.below HB.out).drewN _ | exact ((hT.below HB.out).drewN _).drewN _) A16.out).mono ?_); rintro e w' ⟨rfl, ⟨nd, rfl⟩⟩; refine ⟨_, rfl, ?_⟩) | ((with_reducible refine gate_callee (f := 59) rfl ?_); refine goesL_ (some 52) rfl rfl Tryd.func59 (by kernel_rfl) rfl #[.int .u64 (Go.bits .xor .u64 18446744073709551615 (IntKind.u64.wrap (a1)))] rfl (by (try simp only [List.map_toArray, List.map_cons, List.map_nil]); first | done | rfl | (simp only [List.length_drop, List.length_take]; rfl)) ?_; (with_reducible refine (bits_LeadingZeros64.calls (Go.bits .xor .u64 18446744073709551615 (IntKind.u64.wrap (a1))) t127 _ A17.out).mono ?_); rintro e w' ⟨rfl, ⟨nd, rfl⟩⟩; refine ⟨_, rfl, ?_⟩) | ((with_reducible refine gate_callee (f := 60) rfl ?_); refine goesL_ (some 56) rfl rfl Tryd.func60 (by kernel_rfl) rfl #[.int .u64 (Go.bits .xor .u64 18446744073709551615 (IntKind.u64.wrap (a1)))] rfl (by (try simp only [List.map_toArray, List.map_cons, List.map_nil]); first | done | rfl | (simp only [List.length_drop, List.length_take]; rfl)) ?_; (with_reducible refine (bits_TrailingZeros64.calls (Go.bits .xor .u64 18446744073709551615 (IntKind.u64.wrap (a1))) t128 _ (by first | exact hT | exact hT.drewN _ | exact (hT.drewN _).drewN _ | exact ((hT.drewN _).drewN _).drewN _ | exact hT.below HB.out | exact (hT.below HB.out).drewN _ | exact ((hT.below HB.out).drewN _).drewN _) A18.out).mono ?_); rintro e w' ⟨rfl, ⟨nd, rfl⟩⟩; refine ⟨_, rfl, ?_⟩))
            go_ret
            exact ⟨by first | rfl | (simp; done) | (simp [*]; done), by repeat (first | exact Drawn0.refl _ | apply Drawn0.step)⟩

attribute [local go_sem] signed_i64 signed_i32 signed_u32 max_u32 signed_u64 max_u64
/-! ### ssarewrite_ZZEncodePPC64RotateMask: function 31 -/
def ssarewrite_ZZEncodePPC64RotateMask.f (k : Nat) (a0 : Int) (a1 : Int) (a2 : Int) : Option (Int) := (ssarewrite_encodePPC64RotateMask.f k a0 a1 a2).bind fun t129 => (some t129)
theorem ssarewrite_ZZEncodePPC64RotateMask.mono : ∀ a0 a1 a2 k, LeO (ssarewrite_ZZEncodePPC64RotateMask.f k a0 a1 a2) (ssarewrite_ZZEncodePPC64RotateMask.f (k + 1) a0 a1 a2) := by
  intro a0 a1 a2 k
  unfold ssarewrite_ZZEncodePPC64RotateMask.f
  repeat' first
      | (with_reducible exact ssarewrite_encodePPC64RotateMask.mono _ _ _ _)
      | (with_reducible exact LeO.refl _)
      | (with_reducible exact LeO.none _)
      | (with_reducible refine LeO.ite ?_ ?_)
      | (with_reducible refine LeO.bind ?_ (fun _ => ?_))
      | exact ssarewrite_encodePPC64RotateMask.mono _ _ _ _
      | exact LeO.none _
      | refine LeO.ite ?_ ?_
      | refine LeO.bind ?_ (fun _ => ?_)
set_option maxHeartbeats 8000000 in
set_option maxRecDepth 100000 in
theorem ssarewrite_ZZEncodePPC64RotateMask.calls (k : Nat) (a0 : Int) (a1 : Int) (a2 : Int) (r : Int) (w : World) (hT : Tab0 w) (h : ssarewrite_ZZEncodePPC64RotateMask.f k a0 a1 a2 = some r) :
    Calls Tryd.prog 31 #[.int .i64 a0, .int .i64 a1, .int .i64 a2] w fun e w' => e = .returned (.int .i64 r) ∧ Drawn0 w w' := by
  have H : ((ssarewrite_encodePPC64RotateMask.f k a0 a1 a2).bind fun t129 => (some t129)) = some r := h
  clear h
  replace H := Option.bind_eq_some_iff.mp H
  obtain ⟨t129, A40, H⟩ := H
  replace H : (some t129) = some r := H
  have A4 := Aside0.mk A40
  clear A40
  obtain rfl := Option.some.inj H
  go_enter Tryd.func31, Tryd.ntmps31
  go_wp2_with (first | ((with_reducible refine gate_callee (f := 46) rfl ?_); refine goesL_ (some 10) rfl rfl Tryd.func46 (by kernel_rfl) rfl #[.int .i64 a0, .int .i64 a1, .int .i64 a2] rfl (by (try simp only [List.map_toArray, List.map_cons, List.map_nil]); first | done | rfl | (simp only [List.length_drop, List.length_take]; rfl)) ?_; (with_reducible refine (ssarewrite_encodePPC64RotateMask.calls k a0 a1 a2 t129 _ (by first | exact hT | exact hT.drewN _ | exact (hT.drewN _).drewN _ | exact ((hT.drewN _).drewN _).drewN _ | exact hT.below HB.out | exact (hT.below HB.out).drewN _ | exact ((hT.below HB.out).drewN _).drewN _) A4.out).mono ?_); rintro e w' ⟨rfl, ⟨nd, rfl⟩⟩; refine ⟨_, rfl, ?_⟩))
  go_ret
  exact ⟨by first | rfl | (simp; done) | (simp [*]; done), by repeat (first | exact Drawn0.refl _ | apply Drawn0.step)⟩

attribute [local go_sem] signed_i64 signed_i32 signed_u32 max_u32 signed_u64 max_u64
/-! ### impl_EncodeRotateMask: function 13 -/
def impl_EncodeRotateMask.f (k : Nat) (a0 : Int) (a1 : Int) (a2 : Int) : Option (Int) := (ssarewrite_ZZEncodePPC64RotateMask.f k a0 a1 a2).bind fun t130 => (some t130)
theorem impl_EncodeRotateMask.mono : ∀ a0 a1 a2 k, LeO (impl_EncodeRotateMask.f k a0 a1 a2) (impl_EncodeRotateMask.f (k + 1) a0 a1 a2) := by
  intro a0 a1 a2 k
  unfold impl_EncodeRotateMask.f
  repeat' first
      | (with_reducible exact ssarewrite_ZZEncodePPC64RotateMask.mono _ _ _ _)
      | (with_reducible exact LeO.refl _)
      | (with_reducible exact LeO.none _)
      | (with_reducible refine LeO.ite ?_ ?_)
      | (with_reducible refine LeO.bind ?_ (fun _ => ?_))
      | exact ssarewrite_ZZEncodePPC64RotateMask.mono _ _ _ _
      | exact LeO.none _
      | refine LeO.ite ?_ ?_
      | refine LeO.bind ?_ (fun _ => ?_)
set_option maxHeartbeats 8000000 in
set_option maxRecDepth 100000 in
theorem impl_EncodeRotateMask.calls (k : Nat) (a0 : Int) (a1 : Int) (a2 : Int) (r : Int) (w : World) (hT : Tab0 w) (h : impl_EncodeRotateMask.f k a0 a1 a2 = some r) :
    Calls Tryd.prog 13 #[.int .i64 a0, .int .i64 a1, .int .i64 a2] w fun e w' => e = .returned (.int .i64 r) ∧ Drawn0 w w' := by
  have H : ((ssarewrite_ZZEncodePPC64RotateMask.f k a0 a1 a2).bind fun t130 => (some t130)) = some r := h
  clear h
  replace H := Option.bind_eq_some_iff.mp H
  obtain ⟨t130, A40, H⟩ := H
  replace H : (some t130) = some r := H
  have A4 := Aside0.mk A40
  clear A40
  obtain rfl := Option.some.inj H
  go_enter Tryd.func13, Tryd.ntmps13
  go_wp2_with (first | ((with_reducible refine gate_callee (f := 31) rfl ?_); refine goesL_ (some 10) rfl rfl Tryd.func31 (by kernel_rfl) rfl #[.int .i64 a0, .int .i64 a1, .int .i64 a2] rfl (by (try simp only [List.map_toArray, List.map_cons, List.map_nil]); first | done | rfl | (simp only [List.length_drop, List.length_take]; rfl)) ?_; (with_reducible refine (ssarewrite_ZZEncodePPC64RotateMask.calls k a0 a1 a2 t130 _ (by first | exact hT | exact hT.drewN _ | exact (hT.drewN _).drewN _ | exact ((hT.drewN _).drewN _).drewN _ | exact hT.below HB.out | exact (hT.below HB.out).drewN _ | exact ((hT.below HB.out).drewN _).drewN _) A4.out).mono ?_); rintro e w' ⟨rfl, ⟨nd, rfl⟩⟩; refine ⟨_, rfl, ?_⟩))
  go_ret
  exact ⟨by first | rfl | (simp; done) | (simp [*]; done), by repeat (first | exact Drawn0.refl _ | apply Drawn0.step)⟩

attribute [local go_sem] signed_i64 signed_i32 signed_u32 max_u32 signed_u64 max_u64
/-! ### spec_Mask: function 16 -/
def spec_Mask.l0 : Nat → Int → Int → Int → Int → Option (Int)
  | 0, _, _, _, _ => none
  | k + 1, x1, x2, x7, x8 => if 0 ≤ (IntKind.u64.wrap ((IntKind.u64.wrap (x2 - 1)) - x8)) then (if x2 = 0 then (none) else (if x8 = (Int.tmod x1 x2) then (some (Go.bits .or .u64 x7 (shl .u64 1 (IntKind.u64.wrap ((IntKind.u64.wrap (x2 - 1)) - x8))))) else (spec_Mask.l0 k x1 x2 (Go.bits .or .u64 x7 (shl .u64 1 (IntKind.u64.wrap ((IntKind.u64.wrap (x2 - 1)) - x8)))) (Int.tmod (IntKind.u64.wrap (x8 + 1)) x2)))) else (none)
def spec_Mask.f (k : Nat) (a0 : Int) (a1 : Int) (a2 : Int) : Option (Int) := if a2 = 0 then (none) else (spec_Mask.l0 k a1 a2 0 (Int.tmod a0 a2))
theorem spec_Mask.mono_l : ∀ k, (∀ y0 y1 y2 y3, LeO (spec_Mask.l0 k y0 y1 y2 y3) (spec_Mask.l0 (k + 1) y0 y1 y2 y3))
  | 0 => fun _ _ _ _ r h => by simp [spec_Mask.l0] at h
  | k + 1 => by
    have ih0 := spec_Mask.mono_l k
    · intro y0 y1 y2 y3
      unfold spec_Mask.l0
      repeat' first
      | (with_reducible exact ih0 _ _ _ _)
      | (with_reducible exact LeO.refl _)
      | (with_reducible exact LeO.none _)
      | (with_reducible refine LeO.ite ?_ ?_)
      | (with_reducible refine LeO.bind ?_ (fun _ => ?_))
      | exact ih0 _ _ _ _
      | exact LeO.none _
      | refine LeO.ite ?_ ?_
      | refine LeO.bind ?_ (fun _ => ?_)
theorem spec_Mask.mono : ∀ a0 a1 a2 k, LeO (spec_Mask.f k a0 a1 a2) (spec_Mask.f (k + 1) a0 a1 a2) := by
  intro a0 a1 a2 k
  have ih0 := spec_Mask.mono_l k
  unfold spec_Mask.f
  repeat' first
      | (with_reducible exact ih0 _ _ _ _)
      | (with_reducible exact LeO.refl _)
      | (with_reducible exact LeO.none _)
      | (with_reducible refine LeO.ite ?_ ?_)
      | (with_reducible refine LeO.bind ?_ (fun _ => ?_))
      | exact ih0 _ _ _ _
      | exact LeO.none _
      | refine LeO.ite ?_ ?_
      | refine LeO.bind ?_ (fun _ => ?_)
set_option maxHeartbeats 8000000 in
set_option maxRecDepth 100000 in
theorem spec_Mask.calls (k : Nat) (a0 : Int) (a1 : Int) (a2 : Int) (r : Int) (w : World) (h : spec_Mask.f k a0 a1 a2 = some r) :
    Calls Tryd.prog 16 #[.int .u64 a0, .int .u64 a1, .int .u64 a2] w fun e w' => e = .returned (.int .u64 r) ∧ Drawn0 w w' := by
  have H : (if a2 = 0 then (none) else (spec_Mask.l0 k a1 a2 0 (Int.tmod a0 a2))) = some r := h
  clear h
  by_cases c4 : a2 = 0
  · rw [if_pos c4] at H
    exact absurd H (by simp)
  · rw [if_neg c4] at H
    have c4b0 : (a2 == 0) = false := beq_eq_false_iff_ne.mpr c4
    have c4b1 : (a2 != 0) = true := bne_iff_ne.mpr c4
    have H' := Aside0.mk H
    clear H
    go_enter Tryd.func16, Tryd.ntmps16
    go_wp2
    go_loopg [7, 8] k (fun kq v7 v8 w' => ∃ (x7_1 : Int) (x8_1 : Int), v7 = .int .u64 x7_1 ∧ v8 = .int .u64 x8_1 ∧ Aside0 (spec_Mask.l0 kq a1 a2 x7_1 x8_1 = some r) ∧ Aside0 (kq ≤ k) ∧ Drawn0 w w')
    case atStart => exact ⟨(0), (Int.tmod a0 a2), (by first | rfl | (simp; done) | (simp [*]; done)), (by first | rfl | (simp; done) | (simp [*]; done)), H', ⟨Nat.le_refl _⟩, by repeat (first | exact Drawn0.refl _ | apply Drawn0.step)⟩
    case round =>
      clear H'
      try clear c1
      try clear p2
      try clear c4
      try clear c4b0
      try clear c4b1
      obtain ⟨x7_1, x8_1, rfl, rfl, HA, HK1, ⟨m1, rfl⟩⟩ := hrel
      cases gk with
      | zero => exact absurd HA.out (by simp [spec_Mask.l0])
      | succ k1 =>
        have H := HA.out
        clear HA
        simp only [spec_Mask.l0] at H
        obtain ⟨ji5, hji5⟩ : ∃ j_ : Int, (IntKind.u64.wrap ((IntKind.u64.wrap (a2 - 1)) - x8_1)) = j_ := ⟨_, rfl⟩
        replace H : (if 0 ≤ (ji5) then (if a2 = 0 then (none) else (if x8_1 = (Int.tmod a1 a2) then (some (Go.bits .or .u64 x7_1 (shl .u64 1 (ji5)))) else (spec_Mask.l0 k1 a1 a2 (Go.bits .or .u64 x7_1 (shl .u64 1 (ji5))) (Int.tmod (IntKind.u64.wrap (x8_1 + 1)) a2)))) else (none)) = some r := by first | (rw [hji5] at H; exact H) | (simp only [hji5] at H ⊢; exact H)
        by_cases c6 : 0 ≤ (ji5)
        · rw [if_pos c6] at H
          have c6b0 := eq_true c6
          have c6b1 : decide (0 ≤ (ji5)) = true := decide_eq_true c6
          clear c6
          obtain ⟨ji7, hji7⟩ : ∃ j_ : Int, (shl .u64 1 (ji5)) = j_ := ⟨_, rfl⟩
          replace H : (if a2 = 0 then (none) else (if x8_1 = (Int.tmod a1 a2) then (some (Go.bits .or .u64 x7_1 (ji7))) else (spec_Mask.l0 k1 a1 a2 (Go.bits .or .u64 x7_1 (ji7)) (Int.tmod (IntKind.u64.wrap (x8_1 + 1)) a2)))) = some r := by first | (rw [hji7] at H; exact H) | (simp only [hji7] at H ⊢; exact H)
          have hji7_ : (IntKind.u64.wrap (1 * 2 ^ min (ji5).toNat 64)) = ji7 := hji7
          have hji7z : (ji5) ≤ 64 → (IntKind.u64.wrap (1 * 2 ^ (ji5).toNat)) = ji7 := shl_small hji7
          have hji7u : (IntKind.u64.wrap (2 ^ min (ji5).toNat 64)) = ji7 := by have h_ := hji7_; rw [Int.one_mul] at h_; exact h_
          have hji7v : (ji5) ≤ 64 → (IntKind.u64.wrap (2 ^ (ji5).toNat)) = ji7 := fun hle_ => by have h_ := hji7z hle_; rw [Int.one_mul] at h_; exact h_
          by_cases c8 : a2 = 0
          · rw [if_pos c8] at H
            exact absurd H (by simp)
          · rw [if_neg c8] at H
            have c8b0 : (a2 == 0) = false := beq_eq_false_iff_ne.mpr c8
            have c8b1 : (a2 != 0) = true := bne_iff_ne.mpr c8
            by_cases c9 : x8_1 = (Int.tmod a1 a2)
            · rw [if_pos c9] at H
              have c9b0 : (x8_1 == (Int.tmod a1 a2)) = true := beq_iff_eq.mpr c9
              have c9b1 : (x8_1 != (Int.tmod a1 a2)) = false := bne_eq_false_iff_eq.mpr c9
              clear c9
              obtain rfl := Option.some.inj H
              go_wp2
              go_ret
              exact ⟨by first | rfl | (simp; done) | (simp only [← hji5, ← hji7] <;> (first | rfl | simp)) | (simp [*]; done), by repeat (first | exact Drawn0.refl _ | apply Drawn0.step)⟩
            · rw [if_neg c9] at H
              have c9b0 : (x8_1 == (Int.tmod a1 a2)) = false := beq_eq_false_iff_ne.mpr c9
              have c9b1 : (x8_1 != (Int.tmod a1 a2)) = true := bne_iff_ne.mpr c9
              have H' := Aside0.mk H
              clear H
              go_wp2
              go_roundg k1
              case measure => have := HK1.out; omega
              case rel => exact ⟨(Go.bits .or .u64 x7_1 (ji7)), (Int.tmod (IntKind.u64.wrap (x8_1 + 1)) a2), (by first | rfl | (simp; done) | (simp only [← hji7] <;> (first | rfl | simp)) | (simp [*]; done)), (by first | rfl | (simp; done) | (simp [*]; done)), H', ⟨by have := HK1.out; omega⟩, by repeat (first | exact Drawn0.refl _ | apply Drawn0.step)⟩
        · rw [if_neg c6] at H
          exact absurd H (by simp)

attribute [local go_sem] signed_i64 signed_i32 signed_u32 max_u32 signed_u64 max_u64
/-! ### laws_mkMask: function 40 -/
def laws_mkMask.f (k : Nat) (a0 : Int) (a1 : Int) : Option (Int) := (laws_rwAt.f a0 32).bind fun t131 => ((laws_rwAt.f a1 32).bind fun t132 => ((spec_Mask.f k (mn (IntKind.u64.wrap (t131)) (IntKind.u64.wrap (t132))) (mx (IntKind.u64.wrap (t131)) (IntKind.u64.wrap (t132))) 32).bind fun t133 => (some t133)))
theorem laws_mkMask.mono : ∀ a0 a1 k, LeO (laws_mkMask.f k a0 a1) (laws_mkMask.f (k + 1) a0 a1) := by
  intro a0 a1 k
  unfold laws_mkMask.f
  repeat' first
      | (with_reducible exact spec_Mask.mono _ _ _ _)
      | (with_reducible exact LeO.refl _)
      | (with_reducible exact LeO.none _)
      | (with_reducible refine LeO.ite ?_ ?_)
      | (with_reducible refine LeO.bind ?_ (fun _ => ?_))
      | exact spec_Mask.mono _ _ _ _
      | exact LeO.none _
      | refine LeO.ite ?_ ?_
      | refine LeO.bind ?_ (fun _ => ?_)
set_option maxHeartbeats 8000000 in
set_option maxRecDepth 100000 in
theorem laws_mkMask.calls (k : Nat) (a0 : Int) (a1 : Int) (r : Int) (w : World) (h : laws_mkMask.f k a0 a1 = some r) :
    Calls Tryd.prog 40 #[.int .i64 a0, .int .i64 a1] w fun e w' => e = .returned (.int .u64 r) ∧ Below w.heap.size w w' := by
  have HB := Aside0.mk (Below.refl w.heap.size w)
  have H : ((laws_rwAt.f a0 32).bind fun t131 => ((laws_rwAt.f a1 32).bind fun t132 => ((spec_Mask.f k (mn (IntKind.u64.wrap (t131)) (IntKind.u64.wrap (t132))) (mx (IntKind.u64.wrap (t131)) (IntKind.u64.wrap (t132))) 32).bind fun t133 => (some t133)))) = some r := h
  clear h
  replace H := Option.bind_eq_some_iff.mp H
  obtain ⟨t131, A30, H⟩ := H
  replace H : ((laws_rwAt.f a1 32).bind fun t132 => ((spec_Mask.f k (mn (IntKind.u64.wrap (t131)) (IntKind.u64.wrap (t132))) (mx (IntKind.u64.wrap (t131)) (IntKind.u64.wrap (t132))) 32).bind fun t133 => (some t133))) = some r := H
  have A3 := Aside0.mk A30
  clear A30
  replace H := Option.bind_eq_some_iff.mp H
  obtain ⟨t132, A40, H⟩ := H
  replace H : ((spec_Mask.f k (mn (IntKind.u64.wrap (t131)) (IntKind.u64.wrap (t132))) (mx (IntKind.u64.wrap (t131)) (IntKind.u64.wrap (t132))) 32).bind fun t133 => (some t133)) = some r := H
  have A4 := Aside0.mk A40
  clear A40
  obtain ⟨ji5, hji5⟩ : ∃ j_ : Int, (mn (IntKind.u64.wrap (t131)) (IntKind.u64.wrap (t132))) = j_ := ⟨_, rfl⟩
  replace H : ((spec_Mask.f k (ji5) (mx (IntKind.u64.wrap (t131)) (IntKind.u64.wrap (t132))) 32).bind fun t133 => (some t133)) = some r := by first | (rw [hji5] at H; exact H) | (simp only [hji5] at H ⊢; exact H)
  (try rw [hji5] at A3)
  (try rw [hji5] at A4)
  have hji5_ : (if (IntKind.u64.wrap (t132)) < (IntKind.u64.wrap (t131)) then (IntKind.u64.wrap (t132)) else (IntKind.u64.wrap (t131))) = ji5 := hji5
  obtain ⟨ji6, hji6⟩ : ∃ j_ : Int, (mx (IntKind.u64.wrap (t131)) (IntKind.u64.wrap (t132))) = j_ := ⟨_, rfl⟩
  replace H : ((spec_Mask.f k (ji5) (ji6) 32).bind fun t133 => (some t133)) = some r := by first | (rw [hji6] at H; exact H) | (simp only [hji6] at H ⊢; exact H)
  (try rw [hji6] at A3)
  (try rw [hji6] at A4)
  have hji6_ : (if (IntKind.u64.wrap (t131)) < (IntKind.u64.wrap (t132)) then (IntKind.u64.wrap (t132)) else (IntKind.u64.wrap (t131))) = ji6 := hji6
  replace H := Option.bind_eq_some_iff.mp H
  obtain ⟨t133, A70, H⟩ := H
  replace H : (some t133) = some r := H
  have A7 := Aside0.mk A70
  clear A70
  obtain rfl := Option.some.inj H
  go_enter Tryd.func40, Tryd.ntmps40
  go_wp2_with (first | ((with_reducible refine gate_callee (f := 12) rfl ?_); refine goesL_ (some 8) rfl rfl Tryd.func12 (by kernel_rfl) rfl #[.int .i64 a0, .int .i64 32] rfl (by (try simp only [List.map_toArray, List.map_cons, List.map_nil]); first | done | rfl | (simp only [List.length_drop, List.length_take]; rfl)) ?_; (with_reducible refine (laws_rwAt.calls a0 32 t131 _ A3.out).mono ?_); rintro e w' ⟨rfl, ⟨nd, rfl⟩⟩; refine ⟨_, rfl, ?_⟩) | ((with_reducible refine gate_callee (f := 12) rfl ?_); refine goesL_ (some 11) rfl rfl Tryd.func12 (by kernel_rfl) rfl #[.int .i64 a1, .int .i64 32] rfl (by (try simp only [List.map_toArray, List.map_cons, List.map_nil]); first | done | rfl | (simp only [List.length_drop, List.length_take]; rfl)) ?_; (with_reducible refine (laws_rwAt.calls a1 32 t132 _ A4.out).mono ?_); rintro e w' ⟨rfl, ⟨nd, rfl⟩⟩; refine ⟨_, rfl, ?_⟩) | ((with_reducible refine gate_callee (f := 16) rfl ?_); refine goesL_ (some 19) rfl rfl Tryd.func16 (by kernel_rfl) rfl #[.int .u64 ji5, .int .u64 ji6, .int .u64 32] rfl (by (try simp only [List.map_toArray, List.map_cons, List.map_nil]); first | done | (simp only [hji5, hji6]; rfl) | rfl | (simp only [List.length_drop, List.length_take]; rfl)) ?_; (with_reducible refine (spec_Mask.calls k ji5 ji6 32 t133 _ A7.out).mono ?_); rintro e w' ⟨rfl, ⟨nd, rfl⟩⟩; refine ⟨_, rfl, ?_⟩))
  go_ret
  exact ⟨by first | rfl | (simp [errW_none, errW_some] <;> rfl) | (simp only [← hji5, ← hji6]; first | rfl | (simp [errW_none, errW_some] <;> rfl)) | (simp [*, errW_none, errW_some] <;> rfl), by repeat (first | (with_reducible first | exact HB.out | apply below_alloc | apply pw_below_drewN | apply below_drew1) | exact HB.out)⟩

attribute [local go_sem] signed_i64 signed_i32 signed_u32 max_u32 signed_u64 max_u64
/-! ### laws_mkCode: function 24 -/
def laws_mkCode.f (k : Nat) (a0 : Int) (a1 : Int) (a2 : Int) : Option (Int) := (laws_rwAt.f a0 32).bind fun t134 => ((laws_mkMask.f k a1 a2).bind fun t135 => ((impl_EncodeRotateMask.f k t134 (wrap64 (t135)) 32).bind fun t136 => (some t136)))
theorem laws_mkCode.mono : ∀ a0 a1 a2 k, LeO (laws_mkCode.f k a0 a1 a2) (laws_mkCode.f (k + 1) a0 a1 a2) := by
  intro a0 a1 a2 k
  unfold laws_mkCode.f
  repeat' first
      | (with_reducible exact impl_EncodeRotateMask.mono _ _ _ _)
      | (with_reducible exact laws_mkMask.mono _ _ _)
      | (with_reducible exact LeO.refl _)
      | (with_reducible exact LeO.none _)
      | (with_reducible refine LeO.ite ?_ ?_)
      | (with_reducible refine LeO.bind ?_ (fun _ => ?_))
      | exact impl_EncodeRotateMask.mono _ _ _ _
      | exact laws_mkMask.mono _ _ _
      | exact LeO.none _
      | refine LeO.ite ?_ ?_
      | refine LeO.bind ?_ (fun _ => ?_)
set_option maxHeartbeats 8000000 in
set_option maxRecDepth 100000 in
theorem laws_mkCode.calls (k : Nat) (a0 : Int) (a1 : Int) (a2 : Int) (r : Int) (w : World) (hT : Tab0 w) (h : laws_mkCode.f k a0 a1 a2 = some r) :
    Calls Tryd.prog 24 #[.int .i64 a0, .int .i64 a1, .int .i64 a2] w fun e w' => e = .returned (.int .i64 r) ∧ Below w.heap.size w w' := by
  have HB := Aside0.mk (Below.refl w.heap.size w)
  have H : ((laws_rwAt.f a0 32).bind fun t134 => ((laws_mkMask.f k a1 a2).bind fun t135 => ((impl_EncodeRotateMask.f k t134 (wrap64 (t135)) 32).bind fun t136 => (some t136)))) = some r := h
  clear h
  replace H := Option.bind_eq_some_iff.mp H
  obtain ⟨t134, A40, H⟩ := H
  replace H : ((laws_mkMask.f k a1 a2).bind fun t135 => ((impl_EncodeRotateMask.f k t134 (wrap64 (t135)) 32).bind fun t136 => (some t136))) = some r := H
  have A4 := Aside0.mk A40
  clear A40
  replace H := Option.bind_eq_some_iff.mp H
  obtain ⟨t135, A50, H⟩ := H
  replace H : ((impl_EncodeRotateMask.f k t134 (wrap64 (t135)) 32).bind fun t136 => (some t136)) = some r := H
  have A5 := Aside0.mk A50
  clear A50
  replace H := Option.bind_eq_some_iff.mp H
  obtain ⟨t136, A60, H⟩ := H
  replace H : (some t136) = some r := H
  have A6 := Aside0.mk A60
  clear A60
  obtain rfl := Option.some.inj H
  go_enter Tryd.func24, Tryd.ntmps24
  go_wp2_with (first | ((with_reducible refine gate_callee (f := 12) rfl ?_); refine goesL_ (some 8) rfl rfl Tryd.func12 (by kernel_rfl) rfl #[.int .i64 a0, .int .i64 32] rfl (by (try simp only [List.map_toArray, List.map_cons, List.map_nil]); first | done | rfl | (simp only [List.length_drop, List.length_take]; rfl)) ?_; (with_reducible refine (laws_rwAt.calls a0 32 t134 _ A4.out).mono ?_); rintro e w' ⟨rfl, ⟨nd, rfl⟩⟩; refine ⟨_, rfl, ?_⟩) | ((with_reducible refine gate_callee (f := 40) rfl ?_); refine goesL_ (some 11) rfl rfl Tryd.func40 (by kernel_rfl) rfl #[.int .i64 a1, .int .i64 a2] rfl (by (try simp only [List.map_toArray, List.map_cons, List.map_nil]); first | done | rfl | (simp only [List.length_drop, List.length_take]; rfl)) ?_; (with_reducible refine (laws_mkMask.calls k a1 a2 t135 _ A5.out).mono ?_); rintro e w7 ⟨rfl, hb⟩; refine ⟨_, rfl, ?_⟩; have n0_ := Aside0.mk (below_step (by repeat (first | (with_reducible first | exact HB.out | apply below_alloc | apply pw_below_drewN | apply below_drew1) | exact HB.out)) hb); clear HB; have HB := n0_; clear n0_; (try clear hb); (try clear hb2); (try clear hk); (try clear hi)) | ((with_reducible refine gate_callee (f := 13) rfl ?_); refine goesL_ (some 13) rfl rfl Tryd.func13 (by kernel_rfl) rfl #[.int .i64 t134, .int .i64 (wrap64 (t135)), .int .i64 32] rfl (by (try simp only [List.map_toArray, List.map_cons, List.map_nil]); first | done | rfl | (simp only [List.length_drop, List.length_take]; rfl)) ?_; (with_reducible refine (impl_EncodeRotateMask.calls k t134 (wrap64 (t135)) 32 t136 _ (by first | exact hT | exact hT.drewN _ | exact (hT.drewN _).drewN _ | exact ((hT.drewN _).drewN _).drewN _ | exact hT.below HB.out | exact (hT.below HB.out).drewN _ | exact ((hT.below HB.out).drewN _).drewN _) A6.out).mono ?_); rintro e w' ⟨rfl, ⟨nd, rfl⟩⟩; refine ⟨_, rfl, ?_⟩))
  go_ret
  exact ⟨by first | rfl | (simp [errW_none, errW_some] <;> rfl) | (simp [*, errW_none, errW_some] <;> rfl), by repeat (first | (with_reducible first | exact HB.out | apply below_alloc | apply pw_below_drewN | apply below_drew1) | exact HB.out)⟩

attribute [local go_sem] signed_i64 signed_i32 signed_u32 max_u32 signed_u64 max_u64
/-! ### laws_mkDoes: function 26 -/
def laws_mkDoes.f (k : Nat) (a0 : Int) (a1 : Int) (a2 : Int) (a3 : Int) : Option (Int) := (laws_rwAt.f a0 32).bind fun t137 => ((laws_mkMask.f k a1 a2).bind fun t138 => ((spec_Rotated.f a3 32 (IntKind.u64.wrap (t137)) t138).bind fun t139 => (some t139)))
theorem laws_mkDoes.mono : ∀ a0 a1 a2 a3 k, LeO (laws_mkDoes.f k a0 a1 a2 a3) (laws_mkDoes.f (k + 1) a0 a1 a2 a3) := by
  intro a0 a1 a2 a3 k
  unfold laws_mkDoes.f
  repeat' first
      | (with_reducible exact laws_mkMask.mono _ _ _)
      | (with_reducible exact LeO.refl _)
      | (with_reducible exact LeO.none _)
      | (with_reducible refine LeO.ite ?_ ?_)
      | (with_reducible refine LeO.bind ?_ (fun _ => ?_))
      | exact laws_mkMask.mono _ _ _
      | exact LeO.none _
      | refine LeO.ite ?_ ?_
      | refine LeO.bind ?_ (fun _ => ?_)
set_option maxHeartbeats 8000000 in
set_option maxRecDepth 100000 in
theorem laws_mkDoes.calls (k : Nat) (a0 : Int) (a1 : Int) (a2 : Int) (a3 : Int) (r : Int) (w : World) (h : laws_mkDoes.f k a0 a1 a2 a3 = some r) :
    Calls Tryd.prog 26 #[.int .i64 a0, .int .i64 a1, .int .i64 a2, .int .u64 a3] w fun e w' => e = .returned (.int .u64 r) ∧ Below w.heap.size w w' := by
  have HB := Aside0.mk (Below.refl w.heap.size w)
  have H : ((laws_rwAt.f a0 32).bind fun t137 => ((laws_mkMask.f k a1 a2).bind fun t138 => ((spec_Rotated.f a3 32 (IntKind.u64.wrap (t137)) t138).bind fun t139 => (some t139)))) = some r := h
  clear h
  replace H := Option.bind_eq_some_iff.mp H
  obtain ⟨t137, A50, H⟩ := H
  replace H : ((laws_mkMask.f k a1 a2).bind fun t138 => ((spec_Rotated.f a3 32 (IntKind.u64.wrap (t137)) t138).bind fun t139 => (some t139))) = some r := H
  have A5 := Aside0.mk A50
  clear A50
  replace H := Option.bind_eq_some_iff.mp H
  obtain ⟨t138, A60, H⟩ := H
  replace H : ((spec_Rotated.f a3 32 (IntKind.u64.wrap (t137)) t138).bind fun t139 => (some t139)) = some r := H
  have A6 := Aside0.mk A60
  clear A60
  replace H := Option.bind_eq_some_iff.mp H
  obtain ⟨t139, A70, H⟩ := H
  replace H : (some t139) = some r := H
  have A7 := Aside0.mk A70
  clear A70
  obtain rfl := Option.some.inj H
  go_enter Tryd.func26, Tryd.ntmps26
  go_wp2_with (first | ((with_reducible refine gate_callee (f := 12) rfl ?_); refine goesL_ (some 11) rfl rfl Tryd.func12 (by kernel_rfl) rfl #[.int .i64 a0, .int .i64 32] rfl (by (try simp only [List.map_toArray, List.map_cons, List.map_nil]); first | done | rfl | (simp only [List.length_drop, List.length_take]; rfl)) ?_; (with_reducible refine (laws_rwAt.calls a0 32 t137 _ A5.out).mono ?_); rintro e w' ⟨rfl, ⟨nd, rfl⟩⟩; refine ⟨_, rfl, ?_⟩) | ((with_reducible refine gate_callee (f := 40) rfl ?_); refine goesL_ (some 15) rfl rfl Tryd.func40 (by kernel_rfl) rfl #[.int .i64 a1, .int .i64 a2] rfl (by (try simp only [List.map_toArray, List.map_cons, List.map_nil]); first | done | rfl | (simp only [List.length_drop, List.length_take]; rfl)) ?_; (with_reducible refine (laws_mkMask.calls k a1 a2 t138 _ A6.out).mono ?_); rintro e w8 ⟨rfl, hb⟩; refine ⟨_, rfl, ?_⟩; have n0_ := Aside0.mk (below_step (by repeat (first | (with_reducible first | exact HB.out | apply below_alloc | apply pw_below_drewN | apply below_drew1) | exact HB.out)) hb); clear HB; have HB := n0_; clear n0_; (try clear hb); (try clear hb2); (try clear hk); (try clear hi)) | ((with_reducible refine gate_callee (f := 18) rfl ?_); refine goesL_ (some 16) rfl rfl Tryd.func18 (by kernel_rfl) rfl #[.int .u64 a3, .int .u64 32, .int .u64 (IntKind.u64.wrap (t137)), .int .u64 t138] rfl (by (try simp only [List.map_toArray, List.map_cons, List.map_nil]); first | done | rfl | (simp only [List.length_drop, List.length_take]; rfl)) ?_; (with_reducible refine (spec_Rotated.calls a3 32 (IntKind.u64.wrap (t137)) t138 t139 _ A7.out).mono ?_); rintro e w' ⟨rfl, ⟨nd, rfl⟩⟩; refine ⟨_, rfl, ?_⟩))
  go_ret
  exact ⟨by first | rfl | (simp [errW_none, errW_some] <;> rfl) | (simp [*, errW_none, errW_some] <;> rfl), by repeat (first | (with_reducible first | exact HB.out | apply below_alloc | apply pw_below_drewN | apply below_drew1) | exact HB.out)⟩

attribute [local go_sem] signed_i64 signed_i32 signed_u32 max_u32 signed_u64 max_u64
/-! ### ssarewrite_mergePPC64SldiRlwinm: function 55 -/
def ssarewrite_mergePPC64SldiRlwinm.j0 : Nat → Int → Int → Int → Bool → Option (Int)
  | 0, _, _, _, _ => none
  | k + 1, x0, x5, x8, x25 => if x25 = true then (some 0) else (if 0 ≤ x0 then (if ((shl .u64 x8 x0) % 4294967296) = (shl .u64 x8 x0) then ((ssarewrite_encodePPC64RotateMask.f k (Go.bits .and .i64 (wrap64 (x5 + x0)) 31) (wrap64 (shl .u64 x8 x0)) 32).bind fun t144 => (some t144)) else (some 0)) else (none))
def ssarewrite_mergePPC64SldiRlwinm.f (k : Nat) (a0 : Int) (a1 : Int) : Option (Int) := (ssarewrite_DecodePPC64RotateMask.f a1).bind fun bt140 => (if bt140.2.1 > bt140.2.2.1 then (ssarewrite_mergePPC64SldiRlwinm.j0 k a0 bt140.1 bt140.2.2.2 true) else (ssarewrite_mergePPC64SldiRlwinm.j0 k a0 bt140.1 bt140.2.2.2 (decide (bt140.2.1 < a0))))
theorem ssarewrite_mergePPC64SldiRlwinm.mono_l : ∀ k, (∀ y0 y1 y2 y3, LeO (ssarewrite_mergePPC64SldiRlwinm.j0 k y0 y1 y2 y3) (ssarewrite_mergePPC64SldiRlwinm.j0 (k + 1) y0 y1 y2 y3))
  | 0 => fun _ _ _ _ r h => by simp [ssarewrite_mergePPC64SldiRlwinm.j0] at h
  | k + 1 => by
    have ih0 := ssarewrite_mergePPC64SldiRlwinm.mono_l k
    · intro y0 y1 y2 y3
      unfold ssarewrite_mergePPC64SldiRlwinm.j0
      repeat' first
      | (with_reducible exact ih0 _ _ _ _)
      | (with_reducible exact ssarewrite_encodePPC64RotateMask.mono _ _ _ _)
      | (with_reducible exact LeO.refl _)
      | (with_reducible exact LeO.none _)
      | (with_reducible refine LeO.ite ?_ ?_)
      | (with_reducible refine LeO.bind ?_ (fun _ => ?_))
      | exact ih0 _ _ _ _
      | exact ssarewrite_encodePPC64RotateMask.mono _ _ _ _
      | exact LeO.none _
      | refine LeO.ite ?_ ?_
      | refine LeO.bind ?_ (fun _ => ?_)
theorem ssarewrite_mergePPC64SldiRlwinm.mono : ∀ a0 a1 k, LeO (ssarewrite_mergePPC64SldiRlwinm.f k a0 a1) (ssarewrite_mergePPC64SldiRlwinm.f (k + 1) a0 a1) := by
  intro a0 a1 k
  have ih0 := ssarewrite_mergePPC64SldiRlwinm.mono_l k
  unfold ssarewrite_mergePPC64SldiRlwinm.f
  repeat' first
      | (with_reducible exact ih0 _ _ _ _)
      | (with_reducible exact ssarewrite_encodePPC64RotateMask.mono _ _ _ _)
      | (with_reducible exact LeO.refl _)
      | (with_reducible exact LeO.none _)
      | (with_reducible refine LeO.ite ?_ ?_)
      | (with_reducible refine LeO.bind ?_ (fun _ => ?_))
      | exact ih0 _ _ _ _
      | exact ssarewrite_encodePPC64RotateMask.mono _ _ _ _
      | exact LeO.none _
      | refine LeO.ite ?_ ?_
      | refine LeO.bind ?_ (fun _ => ?_)
set_option maxHeartbeats 8000000 in
set_option maxRecDepth 100000 in
theorem ssarewrite_mergePPC64SldiRlwinm.calls (k : Nat) (a0 : Int) (a1 : Int) (r : Int) (w : World) (hT : Tab0 w) (h : ssarewrite_mergePPC64SldiRlwinm.f k a0 a1 = some r) :
    Calls Tryd.prog 55 #[.int .i64 a0, .int .i64 a1] w fun e w' => e = .returned (.int .i64 r) ∧ Drawn0 w w' := by
  have H : ((ssarewrite_DecodePPC64RotateMask.f a1).bind fun bt140 => (if bt140.2.1 > bt140.2.2.1 then (ssarewrite_mergePPC64SldiRlwinm.j0 k a0 bt140.1 bt140.2.2.2 true) else (ssarewrite_mergePPC64SldiRlwinm.j0 k a0 bt140.1 bt140.2.2.2 (decide (bt140.2.1 < a0))))) = some r := h
  clear h
  replace H := Option.bind_eq_some_iff.mp H
  obtain ⟨⟨t140, t141, t142, t143⟩, A30, H⟩ := H
  replace H : (if t141 > t142 then (ssarewrite_mergePPC64SldiRlwinm.j0 k a0 t140 t143 true) else (ssarewrite_mergePPC64SldiRlwinm.j0 k a0 t140 t143 (decide (t141 < a0)))) = some r := H
  have A3 := Aside0.mk A30
  clear A30
  have HC4 := Aside0.mk H
  clear H
  go_enter Tryd.func55, Tryd.ntmps55
  go_upto_region 2 with (first | ((with_reducible refine gate_callee (f := 32) rfl ?_); refine goesL_ (some 13) rfl rfl Tryd.func32 (by kernel_rfl) rfl #[.int .i64 a1] rfl (by (try simp only [List.map_toArray, List.map_cons, List.map_nil]); first | done | rfl | (simp only [List.length_drop, List.length_take]; rfl)) ?_; (with_reducible refine (ssarewrite_DecodePPC64RotateMask.calls a1 t140 t141 t142 t143 _ A3.out).mono ?_); rintro e w' ⟨rfl, ⟨nd, rfl⟩⟩; refine ⟨_, rfl, ?_⟩))
  (try simp only [Act.put, List.setIfInBounds_toArray, List.set_cons_zero, List.set_cons_succ])
  go_cut [25] (fun v25 wc => ∃ (kq : Nat) (x25_3 : Bool), v25 = .bool x25_3 ∧ Aside0 (ssarewrite_mergePPC64SldiRlwinm.j0 kq a0 t140 t143 x25_3 = some r) ∧ Aside0 (kq ≤ k) ∧ Drawn0 w wc)
  case first =>
    have H := HC4.out
    clear HC4
    by_cases c5 : t141 > t142
    · rw [if_pos c5] at H
      have c5b0 : decide (t142 < t141) = true := decide_eq_true c5
      clear c5
      (first | rw [c5b0] | (simp only [i64_w, i32_w]; rw [c5b0]) | skip)
      have H' := Aside0.mk H
      clear H
      go_wp2
      go_meet
      case rel => exact ⟨_, (true), (by first | rfl | (simp; done) | (simp [*]; done)), H', ⟨by first | omega | exact Nat.le_refl _⟩, by repeat (first | exact Drawn0.refl _ | apply Drawn0.step)⟩
    · rw [if_neg c5] at H
      have c5b0 : decide (t142 < t141) = false := decide_eq_false c5
      clear c5
      (first | rw [c5b0] | (simp only [i64_w, i32_w]; rw [c5b0]) | skip)
      have H' := Aside0.mk H
      clear H
      go_wp2
      go_meet
      case rel => exact ⟨_, (decide (t141 < a0)), (by first | rfl | (simp; done) | (simp [*]; done)), H', ⟨by first | omega | exact Nat.le_refl _⟩, by repeat (first | exact Drawn0.refl _ | apply Drawn0.step)⟩
  case rest =>
    clear HC4
    try clear p2
    try clear c3
    try clear c5
    try clear c5b0
    obtain ⟨kq, x25_3, rfl, HA, HJ3, ⟨mc3, rfl⟩⟩ := hcut
    cases kq with
    | zero => exact absurd HA.out (by simp [ssarewrite_mergePPC64SldiRlwinm.j0])
    | succ kj3 =>
      have H := HA.out
      clear HA
      simp only [ssarewrite_mergePPC64SldiRlwinm.j0] at H
      by_cases c6 : x25_3 = true
      · subst c6
        have H1 : (some 0) = some r := by rw [if_pos rfl] at H; exact H
        clear H
        have H := H1
        clear H1
        obtain rfl := Option.some.inj H
        go_wp2
        go_ret
        exact ⟨by first | rfl | (simp; done) | (simp [*]; done), by repeat (first | exact Drawn0.refl _ | apply Drawn0.step)⟩
      · replace c6 := Bool.eq_false_iff.mpr c6
        subst c6
        have H1 : (if 0 ≤ a0 then (if ((shl .u64 t143 a0) % 4294967296) = (shl .u64 t143 a0) then ((ssarewrite_encodePPC64RotateMask.f kj3 (Go.bits .and .i64 (wrap64 (t140 + a0)) 31) (wrap64 (shl .u64 t143 a0)) 32).bind fun t144 => (some t144)) else (some 0)) else (none)) = some r := by rw [if_neg (show ¬ (false = true) by decide)] at H; exact H
        clear H
        have H := H1
        clear H1
        by_cases c7 : 0 ≤ a0
        · rw [if_pos c7] at H
          have c7b0 := eq_true c7
          have c7b1 : decide (0 ≤ a0) = true := decide_eq_true c7
          clear c7
          obtain ⟨ji8, hji8⟩ : ∃ j_ : Int, (shl .u64 t143 a0) = j_ := ⟨_, rfl⟩
          replace H : (if ((ji8) % 4294967296) = (ji8) then ((ssarewrite_encodePPC64RotateMask.f kj3 (Go.bits .and .i64 (wrap64 (t140 + a0)) 31) (wrap64 (ji8)) 32).bind fun t144 => (some t144)) else (some 0)) = some r := by first | (rw [hji8] at H; exact H) | (simp only [hji8] at H ⊢; exact H)
          have hji8_ : (IntKind.u64.wrap (t143 * 2 ^ min a0.toNat 64)) = ji8 := hji8
          have hji8z : a0 ≤ 64 → (IntKind.u64.wrap (t143 * 2 ^ a0.toNat)) = ji8 := shl_small hji8
          by_cases c9 : ((ji8) % 4294967296) = (ji8)
          · rw [if_pos c9] at H
            have c9b0 : (((ji8) % 4294967296) == (ji8)) = true := beq_iff_eq.mpr c9
            have c9b1 : (((ji8) % 4294967296) != (ji8)) = false := bne_eq_false_iff_eq.mpr c9
            clear c9
            replace H := Option.bind_eq_some_iff.mp H
            obtain ⟨t144, A100, H⟩ := H
            replace H : (some t144) = some r := H
            have A10 := Aside0.mk A100
            clear A100
            obtain rfl := Option.some.inj H
            go_wp2_with (first | ((with_reducible refine gate_callee (f := 46) rfl ?_); refine goesL_ (some 41) rfl rfl Tryd.func46 (by kernel_rfl) rfl #[.int .i64 (Go.bits .and .i64 (wrap64 (t140 + a0)) 31), .int .i64 (wrap64 (ji8)), .int .i64 32] rfl (by (try simp only [List.map_toArray, List.map_cons, List.map_nil]); first | done | (simp only [hji8]; rfl) | rfl | (simp only [List.length_drop, List.length_take]; rfl)) ?_; (with_reducible refine (ssarewrite_encodePPC64RotateMask.calls kj3 (Go.bits .and .i64 (wrap64 (t140 + a0)) 31) (wrap64 (ji8)) 32 t144 _ (by first | exact hT | exact hT.drewN _ | exact (hT.drewN _).drewN _ | exact ((hT.drewN _).drewN _).drewN _ | exact hT.below HB.out | exact (hT.below HB.out).drewN _ | exact ((hT.below HB.out).drewN _).drewN _) A10.out).mono ?_); rintro e w' ⟨rfl, ⟨nd, rfl⟩⟩; refine ⟨_, rfl, ?_⟩))
            go_ret
            exact ⟨by first | rfl | (simp; done) | (simp only [← hji8] <;> (first | rfl | simp)) | (simp [*]; done), by repeat (first | exact Drawn0.refl _ | apply Drawn0.step)⟩
          · rw [if_neg c9] at H
            have c9b0 : (((ji8) % 4294967296) == (ji8)) = false := beq_eq_false_iff_ne.mpr c9
            have c9b1 : (((ji8) % 4294967296) != (ji8)) = true := bne_iff_ne.mpr c9
            obtain rfl := Option.some.inj H
            go_wp2
            go_ret
            exact ⟨by first | rfl | (simp; done) | (simp only [← hji8] <;> (first | rfl | simp)) | (simp [*]; done), by repeat (first | exact Drawn0.refl _ | apply Drawn0.step)⟩
        · rw [if_neg c7] at H
          exact absurd H (by simp)

attribute [local go_sem] signed_i64 signed_i32 signed_u32 max_u32 signed_u64 max_u64
/-! ### ssarewrite_ZZMergePPC64SldiRlwinm: function 44 -/
def ssarewrite_ZZMergePPC64SldiRlwinm.f (k : Nat) (a0 : Int) (a1 : Int) : Option (Int) := (ssarewrite_mergePPC64SldiRlwinm.f k a0 a1).bind fun t145 => (some t145)
theorem ssarewrite_ZZMergePPC64SldiRlwinm.mono : ∀ a0 a1 k, LeO (ssarewrite_ZZMergePPC64SldiRlwinm.f k a0 a1) (ssarewrite_ZZMergePPC64SldiRlwinm.f (k + 1) a0 a1) := by
  intro a0 a1 k
  unfold ssarewrite_ZZMergePPC64SldiRlwinm.f
  repeat' first
      | (with_reducible exact ssarewrite_mergePPC64SldiRlwinm.mono _ _ _)
      | (with_reducible exact LeO.refl _)
      | (with_reducible exact LeO.none _)
      | (with_reducible refine LeO.ite ?_ ?_)
      | (with_reducible refine LeO.bind ?_ (fun _ => ?_))
      | exact ssarewrite_mergePPC64SldiRlwinm.mono _ _ _
      | exact LeO.none _
      | refine LeO.ite ?_ ?_
      | refine LeO.bind ?_ (fun _ => ?_)
set_option maxHeartbeats 8000000 in
set_option maxRecDepth 100000 in
theorem ssarewrite_ZZMergePPC64SldiRlwinm.calls (k : Nat) (a0 : Int) (a1 : Int) (r : Int) (w : World) (hT : Tab0 w) (h : ssarewrite_ZZMergePPC64SldiRlwinm.f k a0 a1 = some r) :
    Calls Tryd.prog 44 #[.int .i64 a0, .int .i64 a1] w fun e w' => e = .returned (.int .i64 r) ∧ Drawn0 w w' := by
  have H : ((ssarewrite_mergePPC64SldiRlwinm.f k a0 a1).bind fun t145 => (some t145)) = some r := h
  clear h
  replace H := Option.bind_eq_some_iff.mp H
  obtain ⟨t145, A30, H⟩ := H
  replace H : (some t145) = some r := H
  have A3 := Aside0.mk A30
  clear A30
  obtain rfl := Option.some.inj H
  go_enter Tryd.func44, Tryd.ntmps44
  go_wp2_with (first | ((with_reducible refine gate_callee (f := 55) rfl ?_); refine goesL_ (some 7) rfl rfl Tryd.func55 (by kernel_rfl) rfl #[.int .i64 a0, .int .i64 a1] rfl (by (try simp only [List.map_toArray, List.map_cons, List.map_nil]); first | done | rfl | (simp only [List.length_drop, List.length_take]; rfl)) ?_; (with_reducible refine (ssarewrite_mergePPC64SldiRlwinm.calls k a0 a1 t145 _ (by first | exact hT | exact hT.drewN _ | exact (hT.drewN _).drewN _ | exact ((hT.drewN _).drewN _).drewN _ | exact hT.below HB.out | exact (hT.below HB.out).drewN _ | exact ((hT.below HB.out).drewN _).drewN _) A3.out).mono ?_); rintro e w' ⟨rfl, ⟨nd, rfl⟩⟩; refine ⟨_, rfl, ?_⟩))
  go_ret
  exact ⟨by first | rfl | (simp; done) | (simp [*]; done), by repeat (first | exact Drawn0.refl _ | apply Drawn0.step)⟩

attribute [local go_sem] signed_i64 signed_i32 signed_u32 max_u32 signed_u64 max_u64
/-! ### impl_SldiRlwinm: function 29 -/
def impl_SldiRlwinm.f (k : Nat) (a0 : Int) (a1 : Int) : Option (Int) := (ssarewrite_ZZMergePPC64SldiRlwinm.f k a0 a1).bind fun t146 => (some t146)
theorem impl_SldiRlwinm.mono : ∀ a0 a1 k, LeO (impl_SldiRlwinm.f k a0 a1) (impl_SldiRlwinm.f (k + 1) a0 a1) := by
  intro a0 a1 k
  unfold impl_SldiRlwinm.f
  repeat' first
      | (with_reducible exact ssarewrite_ZZMergePPC64SldiRlwinm.mono _ _ _)
      | (with_reducible exact LeO.refl _)
      | (with_reducible exact LeO.none _)
      | (with_reducible refine LeO.ite ?_ ?_)
      | (with_reducible refine LeO.bind ?_ (fun _ => ?_))
      | exact ssarewrite_ZZMergePPC64SldiRlwinm.mono _ _ _
      | exact LeO.none _
      | refine LeO.ite ?_ ?_
      | refine LeO.bind ?_ (fun _ => ?_)
set_option maxHeartbeats 8000000 in
set_option maxRecDepth 100000 in
theorem impl_SldiRlwinm.calls (k : Nat) (a0 : Int) (a1 : Int) (r : Int) (w : World) (hT : Tab0 w) (h : impl_SldiRlwinm.f k a0 a1 = some r) :
    Calls Tryd.prog 29 #[.int .i64 a0, .int .i64 a1] w fun e w' => e = .returned (.int .i64 r) ∧ Drawn0 w w' := by
  have H : ((ssarewrite_ZZMergePPC64SldiRlwinm.f k a0 a1).bind fun t146 => (some t146)) = some r := h
  clear h
  replace H := Option.bind_eq_some_iff.mp H
  obtain ⟨t146, A30, H⟩ := H
  replace H : (some t146) = some r := H
  have A3 := Aside0.mk A30
  clear A30
  obtain rfl := Option.some.inj H
  go_enter Tryd.func29, Tryd.ntmps29
  go_wp2_with (first | ((with_reducible refine gate_callee (f := 44) rfl ?_); refine goesL_ (some 7) rfl rfl Tryd.func44 (by kernel_rfl) rfl #[.int .i64 a0, .int .i64 a1] rfl (by (try simp only [List.map_toArray, List.map_cons, List.map_nil]); first | done | rfl | (simp only [List.length_drop, List.length_take]; rfl)) ?_; (with_reducible refine (ssarewrite_ZZMergePPC64SldiRlwinm.calls k a0 a1 t146 _ (by first | exact hT | exact hT.drewN _ | exact (hT.drewN _).drewN _ | exact ((hT.drewN _).drewN _).drewN _ | exact hT.below HB.out | exact (hT.below HB.out).drewN _ | exact ((hT.below HB.out).drewN _).drewN _) A3.out).mono ?_); rintro e w' ⟨rfl, ⟨nd, rfl⟩⟩; refine ⟨_, rfl, ?_⟩))
  go_ret
  exact ⟨by first | rfl | (simp; done) | (simp [*]; done), by repeat (first | exact Drawn0.refl _ | apply Drawn0.step)⟩

attribute [local go_sem] signed_i64 signed_i32 signed_u32 max_u32 signed_u64 max_u64
/-! ### laws_FnSldiRlwinm: function 10 -/
def laws_FnSldiRlwinm.f (k : Nat) (a0 : Int) (a1 : Int) (a2 : Int) (a3 : Int) (a4 : Int) : Option (Bool) := (laws_mkCode.f k a1 a2 a3).bind fun t147 => ((laws_rwAt.f a0 64).bind fun t148 => ((impl_SldiRlwinm.f k t148 t147).bind fun t149 => ((laws_mkWorks.f).bind fun t150 => (if t150 = true then (if t149 = 0 then (some true) else ((laws_mkDoes.f k a1 a2 a3 a4).bind fun t151 => (if 0 ≤ t148 then ((laws_mkGood.f k t149 a4 (shl .u64 t151 t148)).bind fun t152 => (some t152)) else (none)))) else (some false)))))
theorem laws_FnSldiRlwinm.mono : ∀ a0 a1 a2 a3 a4 k, LeO (laws_FnSldiRlwinm.f k a0 a1 a2 a3 a4) (laws_FnSldiRlwinm.f (k + 1) a0 a1 a2 a3 a4) := by
  intro a0 a1 a2 a3 a4 k
  unfold laws_FnSldiRlwinm.f
  repeat' first
      | (with_reducible exact impl_SldiRlwinm.mono _ _ _)
      | (with_reducible exact laws_mkCode.mono _ _ _ _)
      | (with_reducible exact laws_mkDoes.mono _ _ _ _ _)
      | (with_reducible exact laws_mkGood.mono _ _ _ _)
      | (with_reducible exact LeO.refl _)
      | (with_reducible exact LeO.none _)
      | (with_reducible refine LeO.ite ?_ ?_)
      | (with_reducible refine LeO.bind ?_ (fun _ => ?_))
      | exact impl_SldiRlwinm.mono _ _ _
      | exact laws_mkCode.mono _ _ _ _
      | exact laws_mkDoes.mono _ _ _ _ _
      | exact laws_mkGood.mono _ _ _ _
      | exact LeO.none _
      | refine LeO.ite ?_ ?_
      | refine LeO.bind ?_ (fun _ => ?_)
set_option maxHeartbeats 8000000 in
set_option maxRecDepth 100000 in
theorem laws_FnSldiRlwinm.calls (k : Nat) (a0 : Int) (a1 : Int) (a2 : Int) (a3 : Int) (a4 : Int) (r : Bool) (w : World) (hT : Tab0 w) (h : laws_FnSldiRlwinm.f k a0 a1 a2 a3 a4 = some r) :
    Calls Tryd.prog 10 #[.int .i64 a0, .int .i64 a1, .int .i64 a2, .int .i64 a3, .int .u64 a4] w fun e w' => e = .returned (.bool r) ∧ Below w.heap.size w w' := by
  have HB := Aside0.mk (Below.refl w.heap.size w)
  have H : ((laws_mkCode.f k a1 a2 a3).bind fun t147 => ((laws_rwAt.f a0 64).bind fun t148 => ((impl_SldiRlwinm.f k t148 t147).bind fun t149 => ((laws_mkWorks.f).bind fun t150 => (if t150 = true then (if t149 = 0 then (some true) else ((laws_mkDoes.f k a1 a2 a3 a4).bind fun t151 => (if 0 ≤ t148 then ((laws_mkGood.f k t149 a4 (shl .u64 t151 t148)).bind fun t152 => (some t152)) else (none)))) else (some false)))))) = some r := h
  clear h
  replace H := Option.bind_eq_some_iff.mp H
  obtain ⟨t147, A60, H⟩ := H
  replace H : ((laws_rwAt.f a0 64).bind fun t148 => ((impl_SldiRlwinm.f k t148 t147).bind fun t149 => ((laws_mkWorks.f).bind fun t150 => (if t150 = true then (if t149 = 0 then (some true) else ((laws_mkDoes.f k a1 a2 a3 a4).bind fun t151 => (if 0 ≤ t148 then ((laws_mkGood.f k t149 a4 (shl .u64 t151 t148)).bind fun t152 => (some t152)) else (none)))) else (some false))))) = some r := H
  have A6 := Aside0.mk A60
  clear A60
  replace H := Option.bind_eq_some_iff.mp H
  obtain ⟨t148, A70, H⟩ := H
  replace H : ((impl_SldiRlwinm.f k t148 t147).bind fun t149 => ((laws_mkWorks.f).bind fun t150 => (if t150 = true then (if t149 = 0 then (some true) else ((laws_mkDoes.f k a1 a2 a3 a4).bind fun t151 => (if 0 ≤ t148 then ((laws_mkGood.f k t149 a4 (shl .u64 t151 t148)).bind fun t152 => (some t152)) else (none)))) else (some false)))) = some r := H
  have A7 := Aside0.mk A70
  clear A70
  replace H := Option.bind_eq_some_iff.mp H
  obtain ⟨t149, A80, H⟩ := H
  replace H : ((laws_mkWorks.f).bind fun t150 => (if t150 = true then (if t149 = 0 then (some true) else ((laws_mkDoes.f k a1 a2 a3 a4).bind fun t151 => (if 0 ≤ t148 then ((laws_mkGood.f k t149 a4 (shl .u64 t151 t148)).bind fun t152 => (some t152)) else (none)))) else (some false))) = some r := H
  have A8 := Aside0.mk A80
  clear A80
  replace H := Option.bind_eq_some_iff.mp H
  obtain ⟨t150, A90, H⟩ := H
  replace H : (if t150 = true then (if t149 = 0 then (some true) else ((laws_mkDoes.f k a1 a2 a3 a4).bind fun t151 => (if 0 ≤ t148 then ((laws_mkGood.f k t149 a4 (shl .u64 t151 t148)).bind fun t152 => (some t152)) else (none)))) else (some false)) = some r := H
  have A9 := Aside0.mk A90
  clear A90
  by_cases c10 : t150 = true
  · subst c10
    have H1 : (if t149 = 0 then (some true) else ((laws_mkDoes.f k a1 a2 a3 a4).bind fun t151 => (if 0 ≤ t148 then ((laws_mkGood.f k t149 a4 (shl .u64 t151 t148)).bind fun t152 => (some t152)) else (none)))) = some r := by rw [if_pos rfl] at H; exact H
    clear H
    have H := H1
    clear H1
    by_cases c11 : t149 = 0
    · rw [if_pos c11] at H
      have c11b0 : (t149 == 0) = true := beq_iff_eq.mpr c11
      have c11b1 : (t149 != 0) = false := bne_eq_false_iff_eq.mpr c11
      clear c11
      obtain rfl := Option.some.inj H
      go_enter Tryd.func10, Tryd.ntmps10
      go_wp2_with (first | ((with_reducible refine gate_callee (f := 24) rfl ?_); refine goesL_ (some 17) rfl rfl Tryd.func24 (by kernel_rfl) rfl #[.int .i64 a1, .int .i64 a2, .int .i64 a3] rfl (by (try simp only [List.map_toArray, List.map_cons, List.map_nil]); first | done | rfl | (simp only [List.length_drop, List.length_take]; rfl)) ?_; (with_reducible refine (laws_mkCode.calls k a1 a2 a3 t147 _ (by first | exact hT | exact hT.drewN _ | exact (hT.drewN _).drewN _ | exact ((hT.drewN _).drewN _).drewN _ | exact hT.below HB.out | exact (hT.below HB.out).drewN _ | exact ((hT.below HB.out).drewN _).drewN _) A6.out).mono ?_); rintro e w12 ⟨rfl, hb⟩; refine ⟨_, rfl, ?_⟩; have n0_ := Aside0.mk (below_step (by repeat (first | (with_reducible first | exact HB.out | apply below_alloc | apply pw_below_drewN | apply below_drew1) | exact HB.out)) hb); clear HB; have HB := n0_; clear n0_; (try clear hb); (try clear hb2); (try clear hk); (try clear hi)) | ((with_reducible refine gate_callee (f := 12) rfl ?_); refine goesL_ (some 19) rfl rfl Tryd.func12 (by kernel_rfl) rfl #[.int .i64 a0, .int .i64 64] rfl (by (try simp only [List.map_toArray, List.map_cons, List.map_nil]); first | done | rfl | (simp only [List.length_drop, List.length_take]; rfl)) ?_; (with_reducible refine (laws_rwAt.calls a0 64 t148 _ A7.out).mono ?_); rintro e w' ⟨rfl, ⟨nd, rfl⟩⟩; refine ⟨_, rfl, ?_⟩) | ((with_reducible refine gate_callee (f := 29) rfl ?_); refine goesL_ (some 22) rfl rfl Tryd.func29 (by kernel_rfl) rfl #[.int .i64 t148, .int .i64 t147] rfl (by (try simp only [List.map_toArray, List.map_cons, List.map_nil]); first | done | rfl | (simp only [List.length_drop, List.length_take]; rfl)) ?_; (with_reducible refine (impl_SldiRlwinm.calls k t148 t147 t149 _ (by first | exact hT | exact hT.drewN _ | exact (hT.drewN _).drewN _ | exact ((hT.drewN _).drewN _).drewN _ | exact hT.below HB.out | exact (hT.below HB.out).drewN _ | exact ((hT.below HB.out).drewN _).drewN _) A8.out).mono ?_); rintro e w' ⟨rfl, ⟨nd, rfl⟩⟩; refine ⟨_, rfl, ?_⟩) | ((with_reducible refine gate_callee (f := 22) rfl ?_); refine goesL_ (some 23) rfl rfl Tryd.func22 (by kernel_rfl) rfl #[] rfl (by (try simp only [List.map_toArray, List.map_cons, List.map_nil]); first | done | rfl | (simp only [List.length_drop, List.length_take]; rfl)) ?_; (with_reducible refine (laws_mkWorks.calls  true _ A9.out).mono ?_); rintro e w' ⟨rfl, ⟨nd, rfl⟩⟩; refine ⟨_, rfl, ?_⟩))
      go_ret
      exact ⟨by first | rfl | (simp [errW_none, errW_some] <;> rfl) | (simp [*, errW_none, errW_some] <;> rfl), by repeat (first | (with_reducible first | exact HB.out | apply below_alloc | apply pw_below_drewN | apply below_drew1) | exact HB.out)⟩
    · rw [if_neg c11] at H
      have c11b0 : (t149 == 0) = false := beq_eq_false_iff_ne.mpr c11
      have c11b1 : (t149 != 0) = true := bne_iff_ne.mpr c11
      replace H := Option.bind_eq_some_iff.mp H
      obtain ⟨t151, A130, H⟩ := H
      replace H : (if 0 ≤ t148 then ((laws_mkGood.f k t149 a4 (shl .u64 t151 t148)).bind fun t152 => (some t152)) else (none)) = some r := H
      have A13 := Aside0.mk A130
      clear A130
      by_cases c14 : 0 ≤ t148
      · rw [if_pos c14] at H
        have c14b0 := eq_true c14
        have c14b1 : decide (0 ≤ t148) = true := decide_eq_true c14
        clear c14
        obtain ⟨ji15, hji15⟩ : ∃ j_ : Int, (shl .u64 t151 t148) = j_ := ⟨_, rfl⟩
        replace H : ((laws_mkGood.f k t149 a4 (ji15)).bind fun t152 => (some t152)) = some r := by first | (rw [hji15] at H; exact H) | (simp only [hji15] at H ⊢; exact H)
        (try rw [hji15] at A6)
        (try rw [hji15] at A7)
        (try rw [hji15] at A8)
        (try rw [hji15] at A9)
        (try rw [hji15] at A13)
        have hji15_ : (IntKind.u64.wrap (t151 * 2 ^ min t148.toNat 64)) = ji15 := hji15
        have hji15z : t148 ≤ 64 → (IntKind.u64.wrap (t151 * 2 ^ t148.toNat)) = ji15 := shl_small hji15
        replace H := Option.bind_eq_some_iff.mp H
        obtain ⟨t152, A160, H⟩ := H
        replace H : (some t152) = some r := H
        have A16 := Aside0.mk A160
        clear A160
        obtain rfl := Option.some.inj H
        go_enter Tryd.func10, Tryd.ntmps10
        go_wp2_with (first | ((with_reducible refine gate_callee (f := 24) rfl ?_); refine goesL_ (some 17) rfl rfl Tryd.func24 (by kernel_rfl) rfl #[.int .i64 a1, .int .i64 a2, .int .i64 a3] rfl (by (try simp only [List.map_toArray, List.map_cons, List.map_nil]); first | done | rfl | (simp only [List.length_drop, List.length_take]; rfl)) ?_; (with_reducible refine (laws_mkCode.calls k a1 a2 a3 t147 _ (by first | exact hT | exact hT.drewN _ | exact (hT.drewN _).drewN _ | exact ((hT.drewN _).drewN _).drewN _ | exact hT.below HB.out | exact (hT.below HB.out).drewN _ | exact ((hT.below HB.out).drewN _).drewN _) A6.out).mono ?_); rintro e w17 ⟨rfl, hb⟩; refine ⟨_, rfl, ?_⟩; have n0_ := Aside0.mk (below_step (by repeat (first | (with_reducible first | exact HB.out | apply below_alloc | apply pw_below_drewN | apply below_drew1) | exact HB.out)) hb); clear HB; have HB := n0_; clear n0_; (try clear hb); (try clear hb2); (try clear hk); (try clear hi)) | ((with_reducible refine gate_callee (f := 12) rfl ?_); refine goesL_ (some 19) rfl rfl Tryd.func12 (by kernel_rfl) rfl #[.int .i64 a0, .int .i64 64] rfl (by (try simp only [List.map_toArray, List.map_cons, List.map_nil]); first | done | rfl | (simp only [List.length_drop, List.length_take]; rfl)) ?_; (with_reducible refine (laws_rwAt.calls a0 64 t148 _ A7.out).mono ?_); rintro e w' ⟨rfl, ⟨nd, rfl⟩⟩; refine ⟨_, rfl, ?_⟩) | ((with_reducible refine gate_callee (f := 29) rfl ?_); refine goesL_ (some 22) rfl rfl Tryd.func29 (by kernel_rfl) rfl #[.int .i64 t148, .int .i64 t147] rfl (by (try simp only [List.map_toArray, List.map_cons, List.map_nil]); first | done | rfl | (simp only [List.length_drop, List.length_take]; rfl)) ?_; (with_reducible refine (impl_SldiRlwinm.calls k t148 t147 t149 _ (by first | exact hT | exact hT.drewN _ | exact (hT.drewN _).drewN _ | exact ((hT.drewN _).drewN _).drewN _ | exact hT.below HB.out | exact (hT.below HB.out).drewN _ | exact ((hT.below HB.out).drewN _).drewN _) A8.out).mono ?_); rintro e w' ⟨rfl, ⟨nd, rfl⟩⟩; refine ⟨_, rfl, ?_⟩) | ((with_reducible refine gate_callee (f := 22) rfl ?_); refine goesL_ (some 23) rfl rfl Tryd.func22 (by kernel_rfl) rfl #[] rfl (by (try simp only [List.map_toArray, List.map_cons, List.map_nil]); first | done | rfl | (simp only [List.length_drop, List.length_take]; rfl)) ?_; (with_reducible refine (laws_mkWorks.calls  true _ A9.out).mono ?_); rintro e w' ⟨rfl, ⟨nd, rfl⟩⟩; refine ⟨_, rfl, ?_⟩) | (go_at_call 26; (with_reducible refine (laws_mkDoes.calls k a1 a2 a3 a4 t151 _ A13.out).mono ?_); rintro e w18 ⟨rfl, hb⟩; have n0_ := Aside0.mk (below_step (by repeat (first | (with_reducible first | exact HB.out | apply below_alloc | apply pw_below_drewN | apply below_drew1) | exact HB.out)) hb); clear HB; have HB := n0_; clear n0_; (try clear hb); (try clear hb2); (try clear hk); (try clear hi)) | (go_at_call 23; (with_reducible refine (laws_mkGood.calls k t149 a4 ji15 t152 _ A16.out).mono ?_); rintro e w' ⟨rfl, ⟨nd, rfl⟩⟩))
        go_ret
        exact ⟨by first | rfl | (simp [errW_none, errW_some] <;> rfl) | (simp only [← hji15]; first | rfl | (simp [errW_none, errW_some] <;> rfl)) | (simp [*, errW_none, errW_some] <;> rfl), by repeat (first | (with_reducible first | exact HB.out | apply below_alloc | apply pw_below_drewN | apply below_drew1) | exact HB.out)⟩
      · rw [if_neg c14] at H
        exact absurd H (by simp)
  · replace c10 := Bool.eq_false_iff.mpr c10
    subst c10
    have H1 : (some false) = some r := by rw [if_neg (show ¬ (false = true) by decide)] at H; exact H
    clear H
    have H := H1
    clear H1
    obtain rfl := Option.some.inj H
    go_enter Tryd.func10, Tryd.ntmps10
    go_wp2_with (first | ((with_reducible refine gate_callee (f := 24) rfl ?_); refine goesL_ (some 17) rfl rfl Tryd.func24 (by kernel_rfl) rfl #[.int .i64 a1, .int .i64 a2, .int .i64 a3] rfl (by (try simp only [List.map_toArray, List.map_cons, List.map_nil]); first | done | rfl | (simp only [List.length_drop, List.length_take]; rfl)) ?_; (with_reducible refine (laws_mkCode.calls k a1 a2 a3 t147 _ (by first | exact hT | exact hT.drewN _ | exact (hT.drewN _).drewN _ | exact ((hT.drewN _).drewN _).drewN _ | exact hT.below HB.out | exact (hT.below HB.out).drewN _ | exact ((hT.below HB.out).drewN _).drewN _) A6.out).mono ?_); rintro e w19 ⟨rfl, hb⟩; refine ⟨_, rfl, ?_⟩; have n0_ := Aside0.mk (below_step (by repeat (first | (with_reducible first | exact HB.out | apply below_alloc | apply pw_below_drewN | apply below_drew1) | exact HB.out)) hb); clear HB; have HB := n0_; clear n0_; (try clear hb); (try clear hb2); (try clear hk); (try clear hi)) | ((with_reducible refine gate_callee (f := 12) rfl ?_); refine goesL_ (some 19) rfl rfl Tryd.func12 (by kernel_rfl) rfl #[.int .i64 a0, .int .i64 64] rfl (by (try simp only [List.map_toArray, List.map_cons, List.map_nil]); first | done | rfl | (simp only [List.length_drop, List.length_take]; rfl)) ?_; (with_reducible refine (laws_rwAt.calls a0 64 t148 _ A7.out).mono ?_); rintro e w' ⟨rfl, ⟨nd, rfl⟩⟩; refine ⟨_, rfl, ?_⟩) | ((with_reducible refine gate_callee (f := 29) rfl ?_); refine goesL_ (some 22) rfl rfl Tryd.func29 (by kernel_rfl) rfl #[.int .i64 t148, .int .i64 t147] rfl (by (try simp only [List.map_toArray, List.map_cons, List.map_nil]); first | done | rfl | (simp only [List.length_drop, List.length_take]; rfl)) ?_; (with_reducible refine (impl_SldiRlwinm.calls k t148 t147 t149 _ (by first | exact hT | exact hT.drewN _ | exact (hT.drewN _).drewN _ | exact ((hT.drewN _).drewN _).drewN _ | exact hT.below HB.out | exact (hT.below HB.out).drewN _ | exact ((hT.below HB.out).drewN _).drewN _) A8.out).mono ?_); rintro e w' ⟨rfl, ⟨nd, rfl⟩⟩; refine ⟨_, rfl, ?_⟩) | ((with_reducible refine gate_callee (f := 22) rfl ?_); refine goesL_ (some 23) rfl rfl Tryd.func22 (by kernel_rfl) rfl #[] rfl (by (try simp only [List.map_toArray, List.map_cons, List.map_nil]); first | done | rfl | (simp only [List.length_drop, List.length_take]; rfl)) ?_; (with_reducible refine (laws_mkWorks.calls  false _ A9.out).mono ?_); rintro e w' ⟨rfl, ⟨nd, rfl⟩⟩; refine ⟨_, rfl, ?_⟩))
    go_ret
    exact ⟨by first | rfl | (simp [errW_none, errW_some] <;> rfl) | (simp [*, errW_none, errW_some] <;> rfl), by repeat (first | (with_reducible first | exact HB.out | apply below_alloc | apply pw_below_drewN | apply below_drew1) | exact HB.out)⟩

/-- THE ONE PURE STATEMENT of laws_FnSldiRlwinm: yours. -/
def laws_FnSldiRlwinm.Pure : Prop := ∀ (a0 : Int) (a1 : Int) (a2 : Int) (a3 : Int) (a4 : Int), (Lit.int .i64 a0).wf = true → (Lit.int .i64 a1).wf = true → (Lit.int .i64 a2).wf = true → (Lit.int .i64 a3).wf = true → (Lit.int .u64 a4).wf = true → ∃ k, laws_FnSldiRlwinm.f k a0 a1 a2 a3 a4 = some true
theorem laws_FnSldiRlwinm.walk (P : laws_FnSldiRlwinm.Pure) (a0 : Int) (a1 : Int) (a2 : Int) (a3 : Int) (a4 : Int) (w : World) (hT : Tab0 w) (w0 : (Lit.int .i64 a0).wf = true) (w1 : (Lit.int .i64 a1).wf = true) (w2 : (Lit.int .i64 a2).wf = true) (w3 : (Lit.int .i64 a3).wf = true) (w4 : (Lit.int .u64 a4).wf = true) :
    Calls Tryd.prog 10 #[.int .i64 a0, .int .i64 a1, .int .i64 a2, .int .i64 a3, .int .u64 a4] w fun e w' => e = .returned (.bool true) ∧ Below w.heap.size w w' := by
  obtain ⟨k, h⟩ := P a0 a1 a2 a3 a4 w0 w1 w2 w3 w4
  refine (laws_FnSldiRlwinm.calls k a0 a1 a2 a3 a4 true w hT h).mono ?_
  rintro e w' ⟨rfl, hd⟩
  exact ⟨rfl, hd⟩

end Go.Proofs.YtlcaejikcelgoaaDoor.PFnSldiRlwinm
