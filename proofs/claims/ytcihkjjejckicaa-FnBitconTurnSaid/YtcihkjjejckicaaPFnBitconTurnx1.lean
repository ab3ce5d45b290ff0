-- Written by a program of this session out of the translation (wip/pp.py): Lean checks it.
import Derived.Test.YtcihkjjejckicaaPFnBitconTurnx0
namespace Go.Proofs.Ytcihkjjejckicaa.PFnBitconTurn
open Go.RowKit Go.Proofs.YtcihkjjejckicaaW.PrintWords Go.Proofs.YtcihkjjejckicaaW.PrintLast Go.Proofs.YtcihkjjejckicaaW.PrintMore
attribute [local go_sem] max2_int min2_int max_two min_two max_three min_three max_four min_four   -- for this text's walks alone
set_option linter.unusedVariables false
set_option linter.unusedSimpArgs false

attribute [local go_sem] signed_u32 max_u32 signed_u64 max_u64
/-! ### ssarewrite_sequenceOfOnes: function 62 -/
def ssarewrite_sequenceOfOnes.f (a0 : Int) : Option (Bool) := some ((Go.bits .and .u64 (IntKind.u64.wrap ((IntKind.u64.wrap ((Go.bits .and .u64 a0 (IntKind.u64.wrap (-a0))) + a0)) - 1)) (IntKind.u64.wrap ((Go.bits .and .u64 a0 (IntKind.u64.wrap (-a0))) + a0))) == 0)
set_option maxHeartbeats 8000000 in
set_option maxRecDepth 100000 in
theorem ssarewrite_sequenceOfOnes.calls (a0 : Int) (r : Bool) (w : World) (h : ssarewrite_sequenceOfOnes.f a0 = some r) :
    Calls Try.prog 62 #[.int .u64 a0] w fun e w' => e = .returned (.bool r) ∧ Drawn0 w w' := by
  have H : (some ((Go.bits .and .u64 (IntKind.u64.wrap ((IntKind.u64.wrap ((Go.bits .and .u64 a0 (IntKind.u64.wrap (-a0))) + a0)) - 1)) (IntKind.u64.wrap ((Go.bits .and .u64 a0 (IntKind.u64.wrap (-a0))) + a0))) == 0)) = some r := h
  clear h
  obtain rfl := Option.some.inj H
  go_enter Try.func62, Try.ntmps62
  go_wp2
  go_ret
  exact ⟨by first | rfl | (simp; done) | (simp [*]; done), by repeat (first | exact Drawn0.refl _ | apply Drawn0.step)⟩

attribute [local go_sem] signed_u32 max_u32 signed_u64 max_u64
/-! ### ssarewrite_isARM64bitcon: function 52 -/
def ssarewrite_isARM64bitcon.j0 : Nat → Int → Bool → Option (Bool)
  | 0, _, _ => none
  | k + 1, x0, x8 => if x8 = true then (some false) else (if x0 = (Go.bits .or .u64 (x0 / 4294967296) (IntKind.u64.wrap (x0 * 4294967296))) then (if x0 = (Go.bits .or .u64 (x0 / 65536) (IntKind.u64.wrap (x0 * 281474976710656))) then (if x0 = (Go.bits .or .u64 (x0 / 256) (IntKind.u64.wrap (x0 * 72057594037927936))) then (if x0 = (Go.bits .or .u64 (x0 / 16) (IntKind.u64.wrap (x0 * 1152921504606846976))) then (some true) else ((ssarewrite_sequenceOfOnes.f (IntKind.u64.wrap (wrap64 (IntKind.i8.wrap (x0))))).bind fun t101 => (if t101 = true then (some true) else ((ssarewrite_sequenceOfOnes.f (Go.bits .xor .u64 18446744073709551615 (IntKind.u64.wrap (wrap64 (IntKind.i8.wrap (x0)))))).bind fun t102 => (some t102))))) else ((ssarewrite_sequenceOfOnes.f (IntKind.u64.wrap (wrap64 (IntKind.i16.wrap (x0))))).bind fun t103 => (if t103 = true then (some true) else ((ssarewrite_sequenceOfOnes.f (Go.bits .xor .u64 18446744073709551615 (IntKind.u64.wrap (wrap64 (IntKind.i16.wrap (x0)))))).bind fun t104 => (some t104))))) else ((ssarewrite_sequenceOfOnes.f (IntKind.u64.wrap (wrap64 (wrap32 (x0))))).bind fun t105 => (if t105 = true then (some true) else ((ssarewrite_sequenceOfOnes.f (Go.bits .xor .u64 18446744073709551615 (IntKind.u64.wrap (wrap64 (wrap32 (x0)))))).bind fun t106 => (some t106))))) else ((ssarewrite_sequenceOfOnes.f x0).bind fun t107 => (if t107 = true then (some true) else ((ssarewrite_sequenceOfOnes.f (Go.bits .xor .u64 18446744073709551615 x0)).bind fun t108 => (some t108)))))
def ssarewrite_isARM64bitcon.f (k : Nat) (a0 : Int) : Option (Bool) := if a0 = 18446744073709551615 then (ssarewrite_isARM64bitcon.j0 k a0 true) else (ssarewrite_isARM64bitcon.j0 k a0 (a0 == 0))
theorem ssarewrite_isARM64bitcon.mono_l : ∀ k, (∀ y0 y1, LeO (ssarewrite_isARM64bitcon.j0 k y0 y1) (ssarewrite_isARM64bitcon.j0 (k + 1) y0 y1))
  | 0 => fun _ _ r h => by simp [ssarewrite_isARM64bitcon.j0] at h
  | k + 1 => by
    have ih0 := ssarewrite_isARM64bitcon.mono_l k
    · intro y0 y1
      unfold ssarewrite_isARM64bitcon.j0
      repeat' first
      | (with_reducible exact ih0 _ _)
      | (with_reducible exact LeO.refl _)
      | (with_reducible exact LeO.none _)
      | (with_reducible refine LeO.ite ?_ ?_)
      | (with_reducible refine LeO.bind ?_ (fun _ => ?_))
      | exact ih0 _ _
      | exact LeO.none _
      | refine LeO.ite ?_ ?_
      | refine LeO.bind ?_ (fun _ => ?_)
theorem ssarewrite_isARM64bitcon.mono : ∀ a0 k, LeO (ssarewrite_isARM64bitcon.f k a0) (ssarewrite_isARM64bitcon.f (k + 1) a0) := by
  intro a0 k
  have ih0 := ssarewrite_isARM64bitcon.mono_l k
  unfold ssarewrite_isARM64bitcon.f
  repeat' first
      | (with_reducible exact ih0 _ _)
      | (with_reducible exact LeO.refl _)
      | (with_reducible exact LeO.none _)
      | (with_reducible refine LeO.ite ?_ ?_)
      | (with_reducible refine LeO.bind ?_ (fun _ => ?_))
      | exact ih0 _ _
      | exact LeO.none _
      | refine LeO.ite ?_ ?_
      | refine LeO.bind ?_ (fun _ => ?_)
set_option maxHeartbeats 8000000 in
set_option maxRecDepth 100000 in
theorem ssarewrite_isARM64bitcon.calls (k : Nat) (a0 : Int) (r : Bool) (w : World) (h : ssarewrite_isARM64bitcon.f k a0 = some r) :
    Calls Try.prog 52 #[.int .u64 a0] w fun e w' => e = .returned (.bool r) ∧ Drawn0 w w' := by
  have H : (if a0 = 18446744073709551615 then (ssarewrite_isARM64bitcon.j0 k a0 true) else (ssarewrite_isARM64bitcon.j0 k a0 (a0 == 0))) = some r := h
  clear h
  have HC2 := Aside0.mk H
  clear H
  go_enter Try.func52, Try.ntmps52
  go_upto_region 1 with (fail)
  go_cut [8] (fun v8 wc => ∃ (kq : Nat) (x8_1 : Bool), v8 = .bool x8_1 ∧ Aside0 (ssarewrite_isARM64bitcon.j0 kq a0 x8_1 = some r) ∧ Aside0 (kq ≤ k) ∧ Drawn0 w wc)
  case first =>
    have H := HC2.out
    clear HC2
    by_cases c3 : a0 = 18446744073709551615
    · rw [if_pos c3] at H
      have c3b0 : (a0 == 18446744073709551615) = true := beq_iff_eq.mpr c3
      have c3b1 : (a0 != 18446744073709551615) = false := bne_eq_false_iff_eq.mpr c3
      clear c3
      (first | rw [c3b0] | (simp only [i64_w, i32_w]; rw [c3b0]) | skip)
      have H' := Aside0.mk H
      clear H
      go_wp2
      go_meet
      case rel => exact ⟨_, (true), (by first | rfl | (simp; done) | (simp [*]; done)), H', ⟨by first | omega | exact Nat.le_refl _⟩, by repeat (first | exact Drawn0.refl _ | apply Drawn0.step)⟩
    · rw [if_neg c3] at H
      have c3b0 : (a0 == 18446744073709551615) = false := beq_eq_false_iff_ne.mpr c3
      have c3b1 : (a0 != 18446744073709551615) = true := bne_iff_ne.mpr c3
      (first | rw [c3b0] | (simp only [i64_w, i32_w]; rw [c3b0]) | skip)
      have H' := Aside0.mk H
      clear H
      go_wp2
      go_meet
      case rel => exact ⟨_, ((a0 == 0)), (by first | rfl | (simp; done) | (simp [*]; done)), H', ⟨by first | omega | exact Nat.le_refl _⟩, by repeat (first | exact Drawn0.refl _ | apply Drawn0.step)⟩
  case rest =>
    clear HC2
    try clear p2
    try clear c3
    try clear c3b0
    try clear c3b1
    obtain ⟨kq, x8_1, rfl, HA, HJ1, ⟨mc1, rfl⟩⟩ := hcut
    cases kq with
    | zero => exact absurd HA.out (by simp [ssarewrite_isARM64bitcon.j0])
    | succ kj1 =>
      have H := HA.out
      clear HA
      simp only [ssarewrite_isARM64bitcon.j0] at H
      by_cases c4 : x8_1 = true
      · subst c4
        have H1 : (some false) = some r := by rw [if_pos rfl] at H; exact H
        clear H
        have H := H1
        clear H1
        obtain rfl := Option.some.inj H
        go_wp2
        go_ret
        exact ⟨by first | rfl | (simp; done) | (simp [*]; done), by repeat (first | exact Drawn0.refl _ | apply Drawn0.step)⟩
      · replace c4 := Bool.eq_false_iff.mpr c4
        subst c4
        have H1 : (if a0 = (Go.bits .or .u64 (a0 / 4294967296) (IntKind.u64.wrap (a0 * 4294967296))) then (if a0 = (Go.bits .or .u64 (a0 / 65536) (IntKind.u64.wrap (a0 * 281474976710656))) then (if a0 = (Go.bits .or .u64 (a0 / 256) (IntKind.u64.wrap (a0 * 72057594037927936))) then (if a0 = (Go.bits .or .u64 (a0 / 16) (IntKind.u64.wrap (a0 * 1152921504606846976))) then (some true) else ((ssarewrite_sequenceOfOnes.f (IntKind.u64.wrap (wrap64 (IntKind.i8.wrap (a0))))).bind fun t101 => (if t101 = true then (some true) else ((ssarewrite_sequenceOfOnes.f (Go.bits .xor .u64 18446744073709551615 (IntKind.u64.wrap (wrap64 (IntKind.i8.wrap (a0)))))).bind fun t102 => (some t102))))) else ((ssarewrite_sequenceOfOnes.f (IntKind.u64.wrap (wrap64 (IntKind.i16.wrap (a0))))).bind fun t103 => (if t103 = true then (some true) else ((ssarewrite_sequenceOfOnes.f (Go.bits .xor .u64 18446744073709551615 (IntKind.u64.wrap (wrap64 (IntKind.i16.wrap (a0)))))).bind fun t104 => (some t104))))) else ((ssarewrite_sequenceOfOnes.f (IntKind.u64.wrap (wrap64 (wrap32 (a0))))).bind fun t105 => (if t105 = true then (some true) else ((ssarewrite_sequenceOfOnes.f (Go.bits .xor .u64 18446744073709551615 (IntKind.u64.wrap (wrap64 (wrap32 (a0)))))).bind fun t106 => (some t106))))) else ((ssarewrite_sequenceOfOnes.f a0).bind fun t107 => (if t107 = true then (some true) else ((ssarewrite_sequenceOfOnes.f (Go.bits .xor .u64 18446744073709551615 a0)).bind fun t108 => (some t108))))) = some r := by rw [if_neg (show ¬ (false = true) by decide)] at H; exact H
        clear H
        have H := H1
        clear H1
        by_cases c5 : a0 = (Go.bits .or .u64 (a0 / 4294967296) (IntKind.u64.wrap (a0 * 4294967296)))
        · rw [if_pos c5] at H
          have c5b0 : (a0 == (Go.bits .or .u64 (a0 / 4294967296) (IntKind.u64.wrap (a0 * 4294967296)))) = true := beq_iff_eq.mpr c5
          have c5b1 : (a0 != (Go.bits .or .u64 (a0 / 4294967296) (IntKind.u64.wrap (a0 * 4294967296)))) = false := bne_eq_false_iff_eq.mpr c5
          clear c5
          by_cases c6 : a0 = (Go.bits .or .u64 (a0 / 65536) (IntKind.u64.wrap (a0 * 281474976710656)))
          · rw [if_pos c6] at H
            have c6b0 : (a0 == (Go.bits .or .u64 (a0 / 65536) (IntKind.u64.wrap (a0 * 281474976710656)))) = true := beq_iff_eq.mpr c6
            have c6b1 : (a0 != (Go.bits .or .u64 (a0 / 65536) (IntKind.u64.wrap (a0 * 281474976710656)))) = false := bne_eq_false_iff_eq.mpr c6
            clear c6
            by_cases c7 : a0 = (Go.bits .or .u64 (a0 / 256) (IntKind.u64.wrap (a0 * 72057594037927936)))
            · rw [if_pos c7] at H
              have c7b0 : (a0 == (Go.bits .or .u64 (a0 / 256) (IntKind.u64.wrap (a0 * 72057594037927936)))) = true := beq_iff_eq.mpr c7
              have c7b1 : (a0 != (Go.bits .or .u64 (a0 / 256) (IntKind.u64.wrap (a0 * 72057594037927936)))) = false := bne_eq_false_iff_eq.mpr c7
              clear c7
              by_cases c8 : a0 = (Go.bits .or .u64 (a0 / 16) (IntKind.u64.wrap (a0 * 1152921504606846976)))
              · rw [if_pos c8] at H
                have c8b0 : (a0 == (Go.bits .or .u64 (a0 / 16) (IntKind.u64.wrap (a0 * 1152921504606846976)))) = true := beq_iff_eq.mpr c8
                have c8b1 : (a0 != (Go.bits .or .u64 (a0 / 16) (IntKind.u64.wrap (a0 * 1152921504606846976)))) = false := bne_eq_false_iff_eq.mpr c8
                clear c8
                obtain rfl := Option.some.inj H
                go_wp2
                go_ret
                exact ⟨by first | rfl | (simp; done) | (simp [*]; done), by repeat (first | exact Drawn0.refl _ | apply Drawn0.step)⟩
              · rw [if_neg c8] at H
                have c8b0 : (a0 == (Go.bits .or .u64 (a0 / 16) (IntKind.u64.wrap (a0 * 1152921504606846976)))) = false := beq_eq_false_iff_ne.mpr c8
                have c8b1 : (a0 != (Go.bits .or .u64 (a0 / 16) (IntKind.u64.wrap (a0 * 1152921504606846976)))) = true := bne_iff_ne.mpr c8
                replace H := Option.bind_eq_some_iff.mp H
                obtain ⟨t101, A90, H⟩ := H
                replace H : (if t101 = true then (some true) else ((ssarewrite_sequenceOfOnes.f (Go.bits .xor .u64 18446744073709551615 (IntKind.u64.wrap (wrap64 (IntKind.i8.wrap (a0)))))).bind fun t102 => (some t102))) = some r := H
                have A9 := Aside0.mk A90
                clear A90
                by_cases c10 : t101 = true
                · subst c10
                  have H1 : (some true) = some r := by rw [if_pos rfl] at H; exact H
                  clear H
                  have H := H1
                  clear H1
                  obtain rfl := Option.some.inj H
                  go_wp2_with (first | ((with_reducible refine gate_callee (f := 62) rfl ?_); refine goesL_ (some 54) rfl rfl Try.func62 (by kernel_rfl) rfl #[.int .u64 (IntKind.u64.wrap (wrap64 (IntKind.i8.wrap (a0))))] rfl (by (try simp only [List.map_toArray, List.map_cons, List.map_nil]); first | done | rfl | (simp only [List.length_drop, List.length_take]; rfl)) ?_; (with_reducible refine (ssarewrite_sequenceOfOnes.calls (IntKind.u64.wrap (wrap64 (IntKind.i8.wrap (a0)))) true _ A9.out).mono ?_); rintro e w' ⟨rfl, ⟨nd, rfl⟩⟩; refine ⟨_, rfl, ?_⟩))
                  go_ret
                  exact ⟨by first | rfl | (simp; done) | (simp [*]; done), by repeat (first | exact Drawn0.refl _ | apply Drawn0.step)⟩
                · replace c10 := Bool.eq_false_iff.mpr c10
                  subst c10
                  have H1 : ((ssarewrite_sequenceOfOnes.f (Go.bits .xor .u64 18446744073709551615 (IntKind.u64.wrap (wrap64 (IntKind.i8.wrap (a0)))))).bind fun t102 => (some t102)) = some r := by rw [if_neg (show ¬ (false = true) by decide)] at H; exact H
                  clear H
                  have H := H1
                  clear H1
                  replace H := Option.bind_eq_some_iff.mp H
                  obtain ⟨t102, A110, H⟩ := H
                  replace H : (some t102) = some r := H
                  have A11 := Aside0.mk A110
                  clear A110
                  obtain rfl := Option.some.inj H
                  go_wp2_with (first | ((with_reducible refine gate_callee (f := 62) rfl ?_); refine goesL_ (some 54) rfl rfl Try.func62 (by kernel_rfl) rfl #[.int .u64 (IntKind.u64.wrap (wrap64 (IntKind.i8.wrap (a0))))] rfl (by (try simp only [List.map_toArray, List.map_cons, List.map_nil]); first | done | rfl | (simp only [List.length_drop, List.length_take]; rfl)) ?_; (with_reducible refine (ssarewrite_sequenceOfOnes.calls (IntKind.u64.wrap (wrap64 (IntKind.i8.wrap (a0)))) false _ A9.out).mono ?_); rintro e w' ⟨rfl, ⟨nd, rfl⟩⟩; refine ⟨_, rfl, ?_⟩) | (go_at_call 62; (with_reducible refine (ssarewrite_sequenceOfOnes.calls (Go.bits .xor .u64 18446744073709551615 (IntKind.u64.wrap (wrap64 (IntKind.i8.wrap (a0))))) t102 _ A11.out).mono ?_); rintro e w' ⟨rfl, ⟨nd, rfl⟩⟩))
                  go_ret
                  exact ⟨by first | rfl | (simp; done) | (simp [*]; done), by repeat (first | exact Drawn0.refl _ | apply Drawn0.step)⟩
            · rw [if_neg c7] at H
              have c7b0 : (a0 == (Go.bits .or .u64 (a0 / 256) (IntKind.u64.wrap (a0 * 72057594037927936)))) = false := beq_eq_false_iff_ne.mpr c7
              have c7b1 : (a0 != (Go.bits .or .u64 (a0 / 256) (IntKind.u64.wrap (a0 * 72057594037927936)))) = true := bne_iff_ne.mpr c7
              replace H := Option.bind_eq_some_iff.mp H
              obtain ⟨t103, A120, H⟩ := H
              replace H : (if t103 = true then (some true) else ((ssarewrite_sequenceOfOnes.f (Go.bits .xor .u64 18446744073709551615 (IntKind.u64.wrap (wrap64 (IntKind.i16.wrap (a0)))))).bind fun t104 => (some t104))) = some r := H
              have A12 := Aside0.mk A120
              clear A120
              by_cases c13 : t103 = true
              · subst c13
                have H1 : (some true) = some r := by rw [if_pos rfl] at H; exact H
                clear H
                have H := H1
                clear H1
                obtain rfl := Option.some.inj H
                go_wp2_with (first | ((with_reducible refine gate_callee (f := 62) rfl ?_); refine goesL_ (some 54) rfl rfl Try.func62 (by kernel_rfl) rfl #[.int .u64 (IntKind.u64.wrap (wrap64 (IntKind.i16.wrap (a0))))] rfl (by (try simp only [List.map_toArray, List.map_cons, List.map_nil]); first | done | rfl | (simp only [List.length_drop, List.length_take]; rfl)) ?_; (with_reducible refine (ssarewrite_sequenceOfOnes.calls (IntKind.u64.wrap (wrap64 (IntKind.i16.wrap (a0)))) true _ A12.out).mono ?_); rintro e w' ⟨rfl, ⟨nd, rfl⟩⟩; refine ⟨_, rfl, ?_⟩))
                go_ret
                exact ⟨by first | rfl | (simp; done) | (simp [*]; done), by repeat (first | exact Drawn0.refl _ | apply Drawn0.step)⟩
              · replace c13 := Bool.eq_false_iff.mpr c13
                subst c13
                have H1 : ((ssarewrite_sequenceOfOnes.f (Go.bits .xor .u64 18446744073709551615 (IntKind.u64.wrap (wrap64 (IntKind.i16.wrap (a0)))))).bind fun t104 => (some t104)) = some r := by rw [if_neg (show ¬ (false = true) by decide)] at H; exact H
                clear H
                have H := H1
                clear H1
                replace H := Option.bind_eq_some_iff.mp H
                obtain ⟨t104, A140, H⟩ := H
                replace H : (some t104) = some r := H
                have A14 := Aside0.mk A140
                clear A140
                obtain rfl := Option.some.inj H
                go_wp2_with (first | ((with_reducible refine gate_callee (f := 62) rfl ?_); refine goesL_ (some 54) rfl rfl Try.func62 (by kernel_rfl) rfl #[.int .u64 (IntKind.u64.wrap (wrap64 (IntKind.i16.wrap (a0))))] rfl (by (try simp only [List.map_toArray, List.map_cons, List.map_nil]); first | done | rfl | (simp only [List.length_drop, List.length_take]; rfl)) ?_; (with_reducible refine (ssarewrite_sequenceOfOnes.calls (IntKind.u64.wrap (wrap64 (IntKind.i16.wrap (a0)))) false _ A12.out).mono ?_); rintro e w' ⟨rfl, ⟨nd, rfl⟩⟩; refine ⟨_, rfl, ?_⟩) | (go_at_call 62; (with_reducible refine (ssarewrite_sequenceOfOnes.calls (Go.bits .xor .u64 18446744073709551615 (IntKind.u64.wrap (wrap64 (IntKind.i16.wrap (a0))))) t104 _ A14.out).mono ?_); rintro e w' ⟨rfl, ⟨nd, rfl⟩⟩))
                go_ret
                exact ⟨by first | rfl | (simp; done) | (simp [*]; done), by repeat (first | exact Drawn0.refl _ | apply Drawn0.step)⟩
          · rw [if_neg c6] at H
            have c6b0 : (a0 == (Go.bits .or .u64 (a0 / 65536) (IntKind.u64.wrap (a0 * 281474976710656)))) = false := beq_eq_false_iff_ne.mpr c6
            have c6b1 : (a0 != (Go.bits .or .u64 (a0 / 65536) (IntKind.u64.wrap (a0 * 281474976710656)))) = true := bne_iff_ne.mpr c6
            replace H := Option.bind_eq_some_iff.mp H
            obtain ⟨t105, A150, H⟩ := H
            replace H : (if t105 = true then (some true) else ((ssarewrite_sequenceOfOnes.f (Go.bits .xor .u64 18446744073709551615 (IntKind.u64.wrap (wrap64 (wrap32 (a0)))))).bind fun t106 => (some t106))) = some r := H
            have A15 := Aside0.mk A150
            clear A150
            by_cases c16 : t105 = true
            · subst c16
              have H1 : (some true) = some r := by rw [if_pos rfl] at H; exact H
              clear H
              have H := H1
              clear H1
              obtain rfl := Option.some.inj H
              go_wp2_with (first | ((with_reducible refine gate_callee (f := 62) rfl ?_); refine goesL_ (some 54) rfl rfl Try.func62 (by kernel_rfl) rfl #[.int .u64 (IntKind.u64.wrap (wrap64 (wrap32 (a0))))] rfl (by (try simp only [List.map_toArray, List.map_cons, List.map_nil]); first | done | rfl | (simp only [List.length_drop, List.length_take]; rfl)) ?_; (with_reducible refine (ssarewrite_sequenceOfOnes.calls (IntKind.u64.wrap (wrap64 (wrap32 (a0)))) true _ A15.out).mono ?_); rintro e w' ⟨rfl, ⟨nd, rfl⟩⟩; refine ⟨_, rfl, ?_⟩))
              go_ret
              exact ⟨by first | rfl | (simp; done) | (simp [*]; done), by repeat (first | exact Drawn0.refl _ | apply Drawn0.step)⟩
            · replace c16 := Bool.eq_false_iff.mpr c16
              subst c16
              have H1 : ((ssarewrite_sequenceOfOnes.f (Go.bits .xor .u64 18446744073709551615 (IntKind.u64.wrap (wrap64 (wrap32 (a0)))))).bind fun t106 => (some t106)) = some r := by rw [if_neg (show ¬ (false = true) by decide)] at H; exact H
              clear H
              have H := H1
              clear H1
              replace H := Option.bind_eq_some_iff.mp H
              obtain ⟨t106, A170, H⟩ := H
              replace H : (some t106) = some r := H
              have A17 := Aside0.mk A170
              clear A170
              obtain rfl := Option.some.inj H
              go_wp2_with (first | ((with_reducible refine gate_callee (f := 62) rfl ?_); refine goesL_ (some 54) rfl rfl Try.func62 (by kernel_rfl) rfl #[.int .u64 (IntKind.u64.wrap (wrap64 (wrap32 (a0))))] rfl (by (try simp only [List.map_toArray, List.map_cons, List.map_nil]); first | done | rfl | (simp only [List.length_drop, List.length_take]; rfl)) ?_; (with_reducible refine (ssarewrite_sequenceOfOnes.calls (IntKind.u64.wrap (wrap64 (wrap32 (a0)))) false _ A15.out).mono ?_); rintro e w' ⟨rfl, ⟨nd, rfl⟩⟩; refine ⟨_, rfl, ?_⟩) | (go_at_call 62; (with_reducible refine (ssarewrite_sequenceOfOnes.calls (Go.bits .xor .u64 18446744073709551615 (IntKind.u64.wrap (wrap64 (wrap32 (a0))))) t106 _ A17.out).mono ?_); rintro e w' ⟨rfl, ⟨nd, rfl⟩⟩))
              go_ret
              exact ⟨by first | rfl | (simp; done) | (simp [*]; done), by repeat (first | exact Drawn0.refl _ | apply Drawn0.step)⟩
        · rw [if_neg c5] at H
          have c5b0 : (a0 == (Go.bits .or .u64 (a0 / 4294967296) (IntKind.u64.wrap (a0 * 4294967296)))) = false := beq_eq_false_iff_ne.mpr c5
          have c5b1 : (a0 != (Go.bits .or .u64 (a0 / 4294967296) (IntKind.u64.wrap (a0 * 4294967296)))) = true := bne_iff_ne.mpr c5
          replace H := Option.bind_eq_some_iff.mp H
          obtain ⟨t107, A180, H⟩ := H
          replace H : (if t107 = true then (some true) else ((ssarewrite_sequenceOfOnes.f (Go.bits .xor .u64 18446744073709551615 a0)).bind fun t108 => (some t108))) = some r := H
          have A18 := Aside0.mk A180
          clear A180
          by_cases c19 : t107 = true
          · subst c19
            have H1 : (some true) = some r := by rw [if_pos rfl] at H; exact H
            clear H
            have H := H1
            clear H1
            obtain rfl := Option.some.inj H
            go_wp2_with (first | ((with_reducible refine gate_callee (f := 62) rfl ?_); refine goesL_ (some 54) rfl rfl Try.func62 (by kernel_rfl) rfl #[.int .u64 a0] rfl (by (try simp only [List.map_toArray, List.map_cons, List.map_nil]); first | done | rfl | (simp only [List.length_drop, List.length_take]; rfl)) ?_; (with_reducible refine (ssarewrite_sequenceOfOnes.calls a0 true _ A18.out).mono ?_); rintro e w' ⟨rfl, ⟨nd, rfl⟩⟩; refine ⟨_, rfl, ?_⟩))
            go_ret
            exact ⟨by first | rfl | (simp; done) | (simp [*]; done), by repeat (first | exact Drawn0.refl _ | apply Drawn0.step)⟩
          · replace c19 := Bool.eq_false_iff.mpr c19
            subst c19
            have H1 : ((ssarewrite_sequenceOfOnes.f (Go.bits .xor .u64 18446744073709551615 a0)).bind fun t108 => (some t108)) = some r := by rw [if_neg (show ¬ (false = true) by decide)] at H; exact H
            clear H
            have H := H1
            clear H1
            replace H := Option.bind_eq_some_iff.mp H
            obtain ⟨t108, A200, H⟩ := H
            replace H : (some t108) = some r := H
            have A20 := Aside0.mk A200
            clear A200
            obtain rfl := Option.some.inj H
            go_wp2_with (first | ((with_reducible refine gate_callee (f := 62) rfl ?_); refine goesL_ (some 54) rfl rfl Try.func62 (by kernel_rfl) rfl #[.int .u64 a0] rfl (by (try simp only [List.map_toArray, List.map_cons, List.map_nil]); first | done | rfl | (simp only [List.length_drop, List.length_take]; rfl)) ?_; (with_reducible refine (ssarewrite_sequenceOfOnes.calls a0 false _ A18.out).mono ?_); rintro e w' ⟨rfl, ⟨nd, rfl⟩⟩; refine ⟨_, rfl, ?_⟩) | (go_at_call 62; (with_reducible refine (ssarewrite_sequenceOfOnes.calls (Go.bits .xor .u64 18446744073709551615 a0) t108 _ A20.out).mono ?_); rintro e w' ⟨rfl, ⟨nd, rfl⟩⟩))
            go_ret
            exact ⟨by first | rfl | (simp; done) | (simp [*]; done), by repeat (first | exact Drawn0.refl _ | apply Drawn0.step)⟩

attribute [local go_sem] signed_u32 max_u32 signed_u64 max_u64
/-! ### ssarewrite_ZZIsARM64bitcon: function 35 -/
def ssarewrite_ZZIsARM64bitcon.f (k : Nat) (a0 : Int) : Option (Bool) := (ssarewrite_isARM64bitcon.f k a0).bind fun t109 => (some t109)
theorem ssarewrite_ZZIsARM64bitcon.mono : ∀ a0 k, LeO (ssarewrite_ZZIsARM64bitcon.f k a0) (ssarewrite_ZZIsARM64bitcon.f (k + 1) a0) := by
  intro a0 k
  unfold ssarewrite_ZZIsARM64bitcon.f
  repeat' first
      | (with_reducible exact ssarewrite_isARM64bitcon.mono _ _)
      | (with_reducible exact LeO.refl _)
      | (with_reducible exact LeO.none _)
      | (with_reducible refine LeO.ite ?_ ?_)
      | (with_reducible refine LeO.bind ?_ (fun _ => ?_))
      | exact ssarewrite_isARM64bitcon.mono _ _
      | exact LeO.none _
      | refine LeO.ite ?_ ?_
      | refine LeO.bind ?_ (fun _ => ?_)
set_option maxHeartbeats 8000000 in
set_option maxRecDepth 100000 in
theorem ssarewrite_ZZIsARM64bitcon.calls (k : Nat) (a0 : Int) (r : Bool) (w : World) (h : ssarewrite_ZZIsARM64bitcon.f k a0 = some r) :
    Calls Try.prog 35 #[.int .u64 a0] w fun e w' => e = .returned (.bool r) ∧ Drawn0 w w' := by
  have H : ((ssarewrite_isARM64bitcon.f k a0).bind fun t109 => (some t109)) = some r := h
  clear h
  replace H := Option.bind_eq_some_iff.mp H
  obtain ⟨t109, A20, H⟩ := H
  replace H : (some t109) = some r := H
  have A2 := Aside0.mk A20
  clear A20
  obtain rfl := Option.some.inj H
  go_enter Try.func35, Try.ntmps35
  go_wp2_with (first | ((with_reducible refine gate_callee (f := 52) rfl ?_); refine goesL_ (some 4) rfl rfl Try.func52 (by kernel_rfl) rfl #[.int .u64 a0] rfl (by (try simp only [List.map_toArray, List.map_cons, List.map_nil]); first | done | rfl | (simp only [List.length_drop, List.length_take]; rfl)) ?_; (with_reducible refine (ssarewrite_isARM64bitcon.calls k a0 t109 _ A2.out).mono ?_); rintro e w' ⟨rfl, ⟨nd, rfl⟩⟩; refine ⟨_, rfl, ?_⟩))
  go_ret
  exact ⟨by first | rfl | (simp; done) | (simp [*]; done), by repeat (first | exact Drawn0.refl _ | apply Drawn0.step)⟩

attribute [local go_sem] signed_u32 max_u32 signed_u64 max_u64
/-! ### impl_IsBitcon: function 16 -/
def impl_IsBitcon.f (k : Nat) (a0 : Int) : Option (Bool) := (ssarewrite_ZZIsARM64bitcon.f k a0).bind fun t110 => (some t110)
theorem impl_IsBitcon.mono : ∀ a0 k, LeO (impl_IsBitcon.f k a0) (impl_IsBitcon.f (k + 1) a0) := by
  intro a0 k
  unfold impl_IsBitcon.f
  repeat' first
      | (with_reducible exact ssarewrite_ZZIsARM64bitcon.mono _ _)
      | (with_reducible exact LeO.refl _)
      | (with_reducible exact LeO.none _)
      | (with_reducible refine LeO.ite ?_ ?_)
      | (with_reducible refine LeO.bind ?_ (fun _ => ?_))
      | exact ssarewrite_ZZIsARM64bitcon.mono _ _
      | exact LeO.none _
      | refine LeO.ite ?_ ?_
      | refine LeO.bind ?_ (fun _ => ?_)
set_option maxHeartbeats 8000000 in
set_option maxRecDepth 100000 in
theorem impl_IsBitcon.calls (k : Nat) (a0 : Int) (r : Bool) (w : World) (h : impl_IsBitcon.f k a0 = some r) :
    Calls Try.prog 16 #[.int .u64 a0] w fun e w' => e = .returned (.bool r) ∧ Drawn0 w w' := by
  have H : ((ssarewrite_ZZIsARM64bitcon.f k a0).bind fun t110 => (some t110)) = some r := h
  clear h
  replace H := Option.bind_eq_some_iff.mp H
  obtain ⟨t110, A20, H⟩ := H
  replace H : (some t110) = some r := H
  have A2 := Aside0.mk A20
  clear A20
  obtain rfl := Option.some.inj H
  go_enter Try.func16, Try.ntmps16
  go_wp2_with (first | ((with_reducible refine gate_callee (f := 35) rfl ?_); refine goesL_ (some 4) rfl rfl Try.func35 (by kernel_rfl) rfl #[.int .u64 a0] rfl (by (try simp only [List.map_toArray, List.map_cons, List.map_nil]); first | done | rfl | (simp only [List.length_drop, List.length_take]; rfl)) ?_; (with_reducible refine (ssarewrite_ZZIsARM64bitcon.calls k a0 t110 _ A2.out).mono ?_); rintro e w' ⟨rfl, ⟨nd, rfl⟩⟩; refine ⟨_, rfl, ?_⟩))
  go_ret
  exact ⟨by first | rfl | (simp; done) | (simp [*]; done), by repeat (first | exact Drawn0.refl _ | apply Drawn0.step)⟩

attribute [local go_sem] signed_u32 max_u32 signed_u64 max_u64
/-! ### spec_Low: function 29 -/
def spec_Low.f (a0 : Int) (a1 : Int) : Option (Int) := if a1 ≥ 64 then (some a0) else (if 0 ≤ a1 then (if (shl .u64 1 a1) = 0 then (none) else (some (Int.tmod a0 (shl .u64 1 a1)))) else (none))
set_option maxHeartbeats 8000000 in
set_option maxRecDepth 100000 in
theorem spec_Low.calls (a0 : Int) (a1 : Int) (r : Int) (w : World) (h : spec_Low.f a0 a1 = some r) :
    Calls Try.prog 29 #[.int .u64 a0, .int .u64 a1] w fun e w' => e = .returned (.int .u64 r) ∧ Drawn0 w w' := by
  have H : (if a1 ≥ 64 then (some a0) else (if 0 ≤ a1 then (if (shl .u64 1 a1) = 0 then (none) else (some (Int.tmod a0 (shl .u64 1 a1)))) else (none))) = some r := h
  clear h
  by_cases c3 : a1 ≥ 64
  · rw [if_pos c3] at H
    have c3b0 : decide (64 ≤ a1) = true := decide_eq_true c3
    clear c3
    obtain rfl := Option.some.inj H
    go_enter Try.func29, Try.ntmps29
    go_wp2
    go_ret
    exact ⟨by first | rfl | (simp; done) | (simp [*]; done), by repeat (first | exact Drawn0.refl _ | apply Drawn0.step)⟩
  · rw [if_neg c3] at H
    have c3b0 : decide (64 ≤ a1) = false := decide_eq_false c3
    clear c3
    by_cases c4 : 0 ≤ a1
    · rw [if_pos c4] at H
      have c4b0 := eq_true c4
      have c4b1 : decide (0 ≤ a1) = true := decide_eq_true c4
      clear c4
      obtain ⟨ji5, hji5⟩ : ∃ j_ : Int, (shl .u64 1 a1) = j_ := ⟨_, rfl⟩
      replace H : (if (ji5) = 0 then (none) else (some (Int.tmod a0 (ji5)))) = some r := by first | (rw [hji5] at H; exact H) | (simp only [hji5] at H ⊢; exact H)
      have hji5_ : (IntKind.u64.wrap (1 * 2 ^ min a1.toNat 64)) = ji5 := hji5
      have hji5z : a1 ≤ 64 → (IntKind.u64.wrap (1 * 2 ^ a1.toNat)) = ji5 := shl_small hji5
      have hji5u : (IntKind.u64.wrap (2 ^ min a1.toNat 64)) = ji5 := by have h_ := hji5_; rw [Int.one_mul] at h_; exact h_
      have hji5v : a1 ≤ 64 → (IntKind.u64.wrap (2 ^ a1.toNat)) = ji5 := fun hle_ => by have h_ := hji5z hle_; rw [Int.one_mul] at h_; exact h_
      by_cases c6 : (ji5) = 0
      · rw [if_pos c6] at H
        exact absurd H (by simp)
      · rw [if_neg c6] at H
        have c6b0 : ((ji5) == 0) = false := beq_eq_false_iff_ne.mpr c6
        have c6b1 : ((ji5) != 0) = true := bne_iff_ne.mpr c6
        obtain rfl := Option.some.inj H
        go_enter Try.func29, Try.ntmps29
        go_wp2
        go_ret
        exact ⟨by first | rfl | (simp; done) | (simp only [← hji5] <;> (first | rfl | simp)) | (simp [*]; done), by repeat (first | exact Drawn0.refl _ | apply Drawn0.step)⟩
    · rw [if_neg c4] at H
      exact absurd H (by simp)

attribute [local go_sem] signed_u32 max_u32 signed_u64 max_u64
/-! ### spec_Turn: function 18 -/
def spec_Turn.f (a0 : Int) (a1 : Int) (a2 : Int) : Option (Int) := if a1 = 0 then (none) else ((spec_Low.f a0 a1).bind fun t111 => (if 0 ≤ (Int.tmod a2 a1) then (if 0 ≤ (IntKind.u64.wrap (a1 - (Int.tmod a2 a1))) then ((spec_Low.f (Go.bits .or .u64 (shl .u64 t111 (Int.tmod a2 a1)) (shr .u64 t111 (IntKind.u64.wrap (a1 - (Int.tmod a2 a1))))) a1).bind fun t112 => (some t112)) else (none)) else (none)))
set_option maxHeartbeats 8000000 in
set_option maxRecDepth 100000 in
theorem spec_Turn.calls (a0 : Int) (a1 : Int) (a2 : Int) (r : Int) (w : World) (h : spec_Turn.f a0 a1 a2 = some r) :
    Calls Try.prog 18 #[.int .u64 a0, .int .u64 a1, .int .u64 a2] w fun e w' => e = .returned (.int .u64 r) ∧ Drawn0 w w' := by
  have H : (if a1 = 0 then (none) else ((spec_Low.f a0 a1).bind fun t111 => (if 0 ≤ (Int.tmod a2 a1) then (if 0 ≤ (IntKind.u64.wrap (a1 - (Int.tmod a2 a1))) then ((spec_Low.f (Go.bits .or .u64 (shl .u64 t111 (Int.tmod a2 a1)) (shr .u64 t111 (IntKind.u64.wrap (a1 - (Int.tmod a2 a1))))) a1).bind fun t112 => (some t112)) else (none)) else (none)))) = some r := h
  clear h
  by_cases c4 : a1 = 0
  · rw [if_pos c4] at H
    exact absurd H (by simp)
  · rw [if_neg c4] at H
    have c4b0 : (a1 == 0) = false := beq_eq_false_iff_ne.mpr c4
    have c4b1 : (a1 != 0) = true := bne_iff_ne.mpr c4
    replace H := Option.bind_eq_some_iff.mp H
    obtain ⟨t111, A50, H⟩ := H
    replace H : (if 0 ≤ (Int.tmod a2 a1) then (if 0 ≤ (IntKind.u64.wrap (a1 - (Int.tmod a2 a1))) then ((spec_Low.f (Go.bits .or .u64 (shl .u64 t111 (Int.tmod a2 a1)) (shr .u64 t111 (IntKind.u64.wrap (a1 - (Int.tmod a2 a1))))) a1).bind fun t112 => (some t112)) else (none)) else (none)) = some r := H
    have A5 := Aside0.mk A50
    clear A50
    obtain ⟨ji6, hji6⟩ : ∃ j_ : Int, (Int.tmod a2 a1) = j_ := ⟨_, rfl⟩
    replace H : (if 0 ≤ (ji6) then (if 0 ≤ (IntKind.u64.wrap (a1 - (ji6))) then ((spec_Low.f (Go.bits .or .u64 (shl .u64 t111 (ji6)) (shr .u64 t111 (IntKind.u64.wrap (a1 - (ji6))))) a1).bind fun t112 => (some t112)) else (none)) else (none)) = some r := by first | (rw [hji6] at H; exact H) | (simp only [hji6] at H ⊢; exact H)
    (try rw [hji6] at A5)
    by_cases c7 : 0 ≤ (ji6)
    · rw [if_pos c7] at H
      have c7b0 := eq_true c7
      have c7b1 : decide (0 ≤ (ji6)) = true := decide_eq_true c7
      clear c7
      obtain ⟨ji8, hji8⟩ : ∃ j_ : Int, (shl .u64 t111 (ji6)) = j_ := ⟨_, rfl⟩
      replace H : (if 0 ≤ (IntKind.u64.wrap (a1 - (ji6))) then ((spec_Low.f (Go.bits .or .u64 (ji8) (shr .u64 t111 (IntKind.u64.wrap (a1 - (ji6))))) a1).bind fun t112 => (some t112)) else (none)) = some r := by first | (rw [hji8] at H; exact H) | (simp only [hji8] at H ⊢; exact H)
      (try rw [hji8] at A5)
      have hji8_ : (IntKind.u64.wrap (t111 * 2 ^ min (ji6).toNat 64)) = ji8 := hji8
      have hji8z : (ji6) ≤ 64 → (IntKind.u64.wrap (t111 * 2 ^ (ji6).toNat)) = ji8 := shl_small hji8
      obtain ⟨ji9, hji9⟩ : ∃ j_ : Int, (IntKind.u64.wrap (a1 - (ji6))) = j_ := ⟨_, rfl⟩
      replace H : (if 0 ≤ (ji9) then ((spec_Low.f (Go.bits .or .u64 (ji8) (shr .u64 t111 (ji9))) a1).bind fun t112 => (some t112)) else (none)) = some r := by first | (rw [hji9] at H; exact H) | (simp only [hji9] at H ⊢; exact H)
      (try rw [hji9] at A5)
      by_cases c10 : 0 ≤ (ji9)
      · rw [if_pos c10] at H
        have c10b0 := eq_true c10
        have c10b1 : decide (0 ≤ (ji9)) = true := decide_eq_true c10
        clear c10
        obtain ⟨ji11, hji11⟩ : ∃ j_ : Int, (shr .u64 t111 (ji9)) = j_ := ⟨_, rfl⟩
        replace H : ((spec_Low.f (Go.bits .or .u64 (ji8) (ji11)) a1).bind fun t112 => (some t112)) = some r := by first | (rw [hji11] at H; exact H) | (simp only [hji11] at H ⊢; exact H)
        (try rw [hji11] at A5)
        have hji11_ : (t111 / 2 ^ min (ji9).toNat 64) = ji11 := hji11
        have hji11z : (ji9) ≤ 64 → (t111 / 2 ^ (ji9).toNat) = ji11 := shr_small hji11
        replace H := Option.bind_eq_some_iff.mp H
        obtain ⟨t112, A120, H⟩ := H
        replace H : (some t112) = some r := H
        have A12 := Aside0.mk A120
        clear A120
        obtain rfl := Option.some.inj H
        go_enter Try.func18, Try.ntmps18
        go_wp2_with (first | ((with_reducible refine gate_callee (f := 29) rfl ?_); refine goesL_ (some 12) rfl rfl Try.func29 (by kernel_rfl) rfl #[.int .u64 a0, .int .u64 a1] rfl (by (try simp only [List.map_toArray, List.map_cons, List.map_nil]); first | done | rfl | (simp only [List.length_drop, List.length_take]; rfl)) ?_; (with_reducible refine (spec_Low.calls a0 a1 t111 _ A5.out).mono ?_); rintro e w' ⟨rfl, ⟨nd, rfl⟩⟩; refine ⟨_, rfl, ?_⟩) | ((with_reducible refine gate_callee (f := 29) rfl ?_); refine goesL_ (some 23) rfl rfl Try.func29 (by kernel_rfl) rfl #[.int .u64 (Go.bits .or .u64 (ji8) (ji11)), .int .u64 a1] rfl (by (try simp only [List.map_toArray, List.map_cons, List.map_nil]); first | done | (simp only [hji11, hji8]; rfl) | rfl | (simp only [List.length_drop, List.length_take]; rfl)) ?_; (with_reducible refine (spec_Low.calls (Go.bits .or .u64 (ji8) (ji11)) a1 t112 _ A12.out).mono ?_); rintro e w' ⟨rfl, ⟨nd, rfl⟩⟩; refine ⟨_, rfl, ?_⟩))
        go_ret
        exact ⟨by first | rfl | (simp; done) | (simp only [← hji6, ← hji8, ← hji9, ← hji11] <;> (first | rfl | simp)) | (simp [*]; done), by repeat (first | exact Drawn0.refl _ | apply Drawn0.step)⟩
      · rw [if_neg c10] at H
        exact absurd H (by simp)
    · rw [if_neg c7] at H
      exact absurd H (by simp)

attribute [local go_sem] signed_u32 max_u32 signed_u64 max_u64
/-! ### laws_rwAt: function 19 -/
def laws_rwAt.f (a0 : Int) (a1 : Int) : Option (Int) := if a1 = 0 then (none) else (some (Int.tmod (wrap64 ((Int.tmod a0 a1) + a1)) a1))
set_option maxHeartbeats 8000000 in
set_option maxRecDepth 100000 in
theorem laws_rwAt.calls (a0 : Int) (a1 : Int) (r : Int) (w : World) (h : laws_rwAt.f a0 a1 = some r) :
    Calls Try.prog 19 #[.int .i64 a0, .int .i64 a1] w fun e w' => e = .returned (.int .i64 r) ∧ Drawn0 w w' := by
  have H : (if a1 = 0 then (none) else (some (Int.tmod (wrap64 ((Int.tmod a0 a1) + a1)) a1))) = some r := h
  clear h
  by_cases c3 : a1 = 0
  · rw [if_pos c3] at H
    exact absurd H (by simp)
  · rw [if_neg c3] at H
    have c3b0 : (a1 == 0) = false := beq_eq_false_iff_ne.mpr c3
    have c3b1 : (a1 != 0) = true := bne_iff_ne.mpr c3
    obtain rfl := Option.some.inj H
    go_enter Try.func19, Try.ntmps19
    go_wp2
    go_ret
    exact ⟨by first | rfl | (simp; done) | (simp [*]; done), by repeat (first | exact Drawn0.refl _ | apply Drawn0.step)⟩

attribute [local go_sem] signed_u32 max_u32 signed_u64 max_u64
/-! ### laws_FnBitconTurn: function 6 -/
def laws_FnBitconTurn.f (k : Nat) (a0 : Int) (a1 : Int) : Option (Bool) := (impl_IsBitcon.f k a0).bind fun t113 => ((impl_IsBitcon.f k (Go.bits .xor .u64 18446744073709551615 a0)).bind fun t114 => (if (t114 == t113) = true then ((laws_rwAt.f a1 64).bind fun t115 => ((spec_Turn.f a0 64 (IntKind.u64.wrap (t115))).bind fun t116 => ((impl_IsBitcon.f k t116).bind fun t117 => (if (t117 == t113) = true then ((impl_IsBitcon.f k 6).bind fun t118 => (some t118)) else (some false))))) else (some false)))
theorem laws_FnBitconTurn.mono : ∀ a0 a1 k, LeO (laws_FnBitconTurn.f k a0 a1) (laws_FnBitconTurn.f (k + 1) a0 a1) := by
  intro a0 a1 k
  unfold laws_FnBitconTurn.f
  repeat' first
      | (with_reducible exact impl_IsBitcon.mono _ _)
      | (with_reducible exact LeO.refl _)
      | (with_reducible exact LeO.none _)
      | (with_reducible refine LeO.ite ?_ ?_)
      | (with_reducible refine LeO.bind ?_ (fun _ => ?_))
      | exact impl_IsBitcon.mono _ _
      | exact LeO.none _
      | refine LeO.ite ?_ ?_
      | refine LeO.bind ?_ (fun _ => ?_)
set_option maxHeartbeats 8000000 in
set_option maxRecDepth 100000 in
theorem laws_FnBitconTurn.calls (k : Nat) (a0 : Int) (a1 : Int) (r : Bool) (w : World) (h : laws_FnBitconTurn.f k a0 a1 = some r) :
    Calls Try.prog 6 #[.int .u64 a0, .int .i64 a1] w fun e w' => e = .returned (.bool r) ∧ Drawn0 w w' := by
  have H : ((impl_IsBitcon.f k a0).bind fun t113 => ((impl_IsBitcon.f k (Go.bits .xor .u64 18446744073709551615 a0)).bind fun t114 => (if (t114 == t113) = true then ((laws_rwAt.f a1 64).bind fun t115 => ((spec_Turn.f a0 64 (IntKind.u64.wrap (t115))).bind fun t116 => ((impl_IsBitcon.f k t116).bind fun t117 => (if (t117 == t113) = true then ((impl_IsBitcon.f k 6).bind fun t118 => (some t118)) else (some false))))) else (some false)))) = some r := h
  clear h
  replace H := Option.bind_eq_some_iff.mp H
  obtain ⟨t113, A30, H⟩ := H
  replace H : ((impl_IsBitcon.f k (Go.bits .xor .u64 18446744073709551615 a0)).bind fun t114 => (if (t114 == t113) = true then ((laws_rwAt.f a1 64).bind fun t115 => ((spec_Turn.f a0 64 (IntKind.u64.wrap (t115))).bind fun t116 => ((impl_IsBitcon.f k t116).bind fun t117 => (if (t117 == t113) = true then ((impl_IsBitcon.f k 6).bind fun t118 => (some t118)) else (some false))))) else (some false))) = some r := H
  have A3 := Aside0.mk A30
  clear A30
  replace H := Option.bind_eq_some_iff.mp H
  obtain ⟨t114, A40, H⟩ := H
  replace H : (if (t114 == t113) = true then ((laws_rwAt.f a1 64).bind fun t115 => ((spec_Turn.f a0 64 (IntKind.u64.wrap (t115))).bind fun t116 => ((impl_IsBitcon.f k t116).bind fun t117 => (if (t117 == t113) = true then ((impl_IsBitcon.f k 6).bind fun t118 => (some t118)) else (some false))))) else (some false)) = some r := H
  have A4 := Aside0.mk A40
  clear A40
  by_cases c5 : (t114 == t113) = true
  · rw [if_pos c5] at H
    have c5b0 : (t114 == t113) = true := c5
    (try (have c5b1 : decide (t114 = t113) = true := by simpa using c5))
    (try (have c5b2 : (t114 == t113) = true := by simpa using c5))
    clear c5
    replace H := Option.bind_eq_some_iff.mp H
    obtain ⟨t115, A60, H⟩ := H
    replace H : ((spec_Turn.f a0 64 (IntKind.u64.wrap (t115))).bind fun t116 => ((impl_IsBitcon.f k t116).bind fun t117 => (if (t117 == t113) = true then ((impl_IsBitcon.f k 6).bind fun t118 => (some t118)) else (some false)))) = some r := H
    have A6 := Aside0.mk A60
    clear A60
    replace H := Option.bind_eq_some_iff.mp H
    obtain ⟨t116, A70, H⟩ := H
    replace H : ((impl_IsBitcon.f k t116).bind fun t117 => (if (t117 == t113) = true then ((impl_IsBitcon.f k 6).bind fun t118 => (some t118)) else (some false))) = some r := H
    have A7 := Aside0.mk A70
    clear A70
    replace H := Option.bind_eq_some_iff.mp H
    obtain ⟨t117, A80, H⟩ := H
    replace H : (if (t117 == t113) = true then ((impl_IsBitcon.f k 6).bind fun t118 => (some t118)) else (some false)) = some r := H
    have A8 := Aside0.mk A80
    clear A80
    by_cases c9 : (t117 == t113) = true
    · rw [if_pos c9] at H
      have c9b0 : (t117 == t113) = true := c9
      (try (have c9b1 : decide (t117 = t113) = true := by simpa using c9))
      (try (have c9b2 : (t117 == t113) = true := by simpa using c9))
      clear c9
      replace H := Option.bind_eq_some_iff.mp H
      obtain ⟨t118, A100, H⟩ := H
      replace H : (some t118) = some r := H
      have A10 := Aside0.mk A100
      clear A100
      obtain rfl := Option.some.inj H
      go_enter Try.func6, Try.ntmps6
      go_wp2_with (first | ((with_reducible refine gate_callee (f := 16) rfl ?_); refine goesL_ (some 7) rfl rfl Try.func16 (by kernel_rfl) rfl #[.int .u64 a0] rfl (by (try simp only [List.map_toArray, List.map_cons, List.map_nil]); first | done | rfl | (simp only [List.length_drop, List.length_take]; rfl)) ?_; (with_reducible refine (impl_IsBitcon.calls k a0 t113 _ A3.out).mono ?_); rintro e w' ⟨rfl, ⟨nd, rfl⟩⟩; refine ⟨_, rfl, ?_⟩) | ((with_reducible refine gate_callee (f := 16) rfl ?_); refine goesL_ (some 10) rfl rfl Try.func16 (by kernel_rfl) rfl #[.int .u64 (Go.bits .xor .u64 18446744073709551615 a0)] rfl (by (try simp only [List.map_toArray, List.map_cons, List.map_nil]); first | done | rfl | (simp only [List.length_drop, List.length_take]; rfl)) ?_; (with_reducible refine (impl_IsBitcon.calls k (Go.bits .xor .u64 18446744073709551615 a0) t114 _ A4.out).mono ?_); rintro e w' ⟨rfl, ⟨nd, rfl⟩⟩; refine ⟨_, rfl, ?_⟩) | (go_at_call 19; (with_reducible refine (laws_rwAt.calls a1 64 t115 _ A6.out).mono ?_); rintro e w' ⟨rfl, ⟨nd, rfl⟩⟩) | (go_at_call 18; (with_reducible refine (spec_Turn.calls a0 64 (IntKind.u64.wrap (t115)) t116 _ A7.out).mono ?_); rintro e w' ⟨rfl, ⟨nd, rfl⟩⟩) | (go_at_call 16; (with_reducible refine (impl_IsBitcon.calls k t116 t117 _ A8.out).mono ?_); rintro e w' ⟨rfl, ⟨nd, rfl⟩⟩) | (go_at_call 16; (with_reducible refine (impl_IsBitcon.calls k 6 t118 _ A10.out).mono ?_); rintro e w' ⟨rfl, ⟨nd, rfl⟩⟩))
      go_ret
      exact ⟨by first | rfl | (simp; done) | (simp [*]; done), by repeat (first | exact Drawn0.refl _ | apply Drawn0.step)⟩
    · rw [if_neg c9] at H
      have c9b0 : (t117 == t113) = false := by simpa using c9
      (try (have c9b1 : decide (t117 = t113) = false := by simpa using c9))
      (try (have c9b2 : (t117 == t113) = false := by simpa using c9))
      (try (have c9b3 : ¬ (t117 = t113) := by simpa using c9))
      clear c9
      obtain rfl := Option.some.inj H
      go_enter Try.func6, Try.ntmps6
      go_wp2_with (first | ((with_reducible refine gate_callee (f := 16) rfl ?_); refine goesL_ (some 7) rfl rfl Try.func16 (by kernel_rfl) rfl #[.int .u64 a0] rfl (by (try simp only [List.map_toArray, List.map_cons, List.map_nil]); first | done | rfl | (simp only [List.length_drop, List.length_take]; rfl)) ?_; (with_reducible refine (impl_IsBitcon.calls k a0 t113 _ A3.out).mono ?_); rintro e w' ⟨rfl, ⟨nd, rfl⟩⟩; refine ⟨_, rfl, ?_⟩) | ((with_reducible refine gate_callee (f := 16) rfl ?_); refine goesL_ (some 10) rfl rfl Try.func16 (by kernel_rfl) rfl #[.int .u64 (Go.bits .xor .u64 18446744073709551615 a0)] rfl (by (try simp only [List.map_toArray, List.map_cons, List.map_nil]); first | done | rfl | (simp only [List.length_drop, List.length_take]; rfl)) ?_; (with_reducible refine (impl_IsBitcon.calls k (Go.bits .xor .u64 18446744073709551615 a0) t114 _ A4.out).mono ?_); rintro e w' ⟨rfl, ⟨nd, rfl⟩⟩; refine ⟨_, rfl, ?_⟩) | (go_at_call 19; (with_reducible refine (laws_rwAt.calls a1 64 t115 _ A6.out).mono ?_); rintro e w' ⟨rfl, ⟨nd, rfl⟩⟩) | (go_at_call 18; (with_reducible refine (spec_Turn.calls a0 64 (IntKind.u64.wrap (t115)) t116 _ A7.out).mono ?_); rintro e w' ⟨rfl, ⟨nd, rfl⟩⟩) | (go_at_call 16; (with_reducible refine (impl_IsBitcon.calls k t116 t117 _ A8.out).mono ?_); rintro e w' ⟨rfl, ⟨nd, rfl⟩⟩))
      go_ret
      exact ⟨by first | rfl | (simp; done) | (simp [*]; done), by repeat (first | exact Drawn0.refl _ | apply Drawn0.step)⟩
  · rw [if_neg c5] at H
    have c5b0 : (t114 == t113) = false := by simpa using c5
    (try (have c5b1 : decide (t114 = t113) = false := by simpa using c5))
    (try (have c5b2 : (t114 == t113) = false := by simpa using c5))
    (try (have c5b3 : ¬ (t114 = t113) := by simpa using c5))
    clear c5
    obtain rfl := Option.some.inj H
    go_enter Try.func6, Try.ntmps6
    go_wp2_with (first | ((with_reducible refine gate_callee (f := 16) rfl ?_); refine goesL_ (some 7) rfl rfl Try.func16 (by kernel_rfl) rfl #[.int .u64 a0] rfl (by (try simp only [List.map_toArray, List.map_cons, List.map_nil]); first | done | rfl | (simp only [List.length_drop, List.length_take]; rfl)) ?_; (with_reducible refine (impl_IsBitcon.calls k a0 t113 _ A3.out).mono ?_); rintro e w' ⟨rfl, ⟨nd, rfl⟩⟩; refine ⟨_, rfl, ?_⟩) | ((with_reducible refine gate_callee (f := 16) rfl ?_); refine goesL_ (some 10) rfl rfl Try.func16 (by kernel_rfl) rfl #[.int .u64 (Go.bits .xor .u64 18446744073709551615 a0)] rfl (by (try simp only [List.map_toArray, List.map_cons, List.map_nil]); first | done | rfl | (simp only [List.length_drop, List.length_take]; rfl)) ?_; (with_reducible refine (impl_IsBitcon.calls k (Go.bits .xor .u64 18446744073709551615 a0) t114 _ A4.out).mono ?_); rintro e w' ⟨rfl, ⟨nd, rfl⟩⟩; refine ⟨_, rfl, ?_⟩))
    go_ret
    exact ⟨by first | rfl | (simp; done) | (simp [*]; done), by repeat (first | exact Drawn0.refl _ | apply Drawn0.step)⟩

/-- THE ONE PURE STATEMENT of laws_FnBitconTurn: yours. -/
def laws_FnBitconTurn.Pure : Prop := ∀ (a0 : Int) (a1 : Int), (Lit.int .u64 a0).wf = true → (Lit.int .i64 a1).wf = true → ∃ k, laws_FnBitconTurn.f k a0 a1 = some true
theorem laws_FnBitconTurn.walk (P : laws_FnBitconTurn.Pure) (a0 : Int) (a1 : Int) (w : World) (w0 : (Lit.int .u64 a0).wf = true) (w1 : (Lit.int .i64 a1).wf = true) :
    Calls Try.prog 6 #[.int .u64 a0, .int .i64 a1] w fun e w' => e = .returned (.bool true) ∧ Below w.heap.size w w' := by
  obtain ⟨k, h⟩ := P a0 a1 w0 w1
  refine (laws_FnBitconTurn.calls k a0 a1 true w h).mono ?_
  rintro e w' ⟨rfl, hd⟩
  exact ⟨rfl, hd.below⟩

end Go.Proofs.Ytcihkjjejckicaa.PFnBitconTurn
