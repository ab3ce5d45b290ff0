-- Written by a program of this session out of the translation (wip/pp.py): Lean checks it.
import Derived.Test.YtcihkjjejckicaaPFnBitconIsx0
namespace Go.Proofs.Ytcihkjjejckicaa.PFnBitconIs
open Go.RowKit Go.Proofs.YtcihkjjejckicaaW.PrintWords Go.Proofs.YtcihkjjejckicaaW.PrintLast Go.Proofs.YtcihkjjejckicaaW.PrintMore
attribute [local go_sem] max2_int min2_int max_two min_two max_three min_three max_four min_four   -- for this text's walks alone
set_option linter.unusedVariables false
set_option linter.unusedSimpArgs false

attribute [local go_sem] signed_u32 max_u32 signed_u64 max_u64
/-! ### ssarewrite_sequenceOfOnes: function 62 -/
def ssarewrite_sequenceOfOnes.f (a0 : Int) : Option (Bool) := some ((Go.bits .and .u64 (IntKind.u64.wrap ((IntKind.u64.wrap ((Go.bits .and .u64 a0 (IntKind.u64.wrap (-a0))) + a0)) - 1)) (IntKind.u64.wrap ((Go.bits .and .u64 a0 (IntKind.u64.wrap (-a0))) + a0))) == 0)
set_option maxHeartbeats 8000000 in
set_option maxRecDepth 100000 in
theorem ssarewrite_sequenceOfOnes.calls (a0 : Int) (r : Bool) (w : World) (h : ssarewrite_sequenceOfOnes.f a0 = some r) :
    Calls Try.prog 62 #[.int .u64 a0] w fun e w' => e = .returned (.bool r) ∧ Drawn0 w w' := by
  have H : (some ((Go.bits .and .u64 (IntKind.u64.wrap ((IntKind.u64.wrap ((Go.bits .and .u64 a0 (IntKind.u64.wrap (-a0))) + a0)) - 1)) (IntKind.u64.wrap ((Go.bits .and .u64 a0 (IntKind.u64.wrap (-a0))) + a0))) == 0)) = some r := h
  clear h
  obtain rfl := Option.some.inj H
  go_enter Try.func62, Try.ntmps62
  go_wp2
  go_ret
  exact ⟨by first | rfl | (simp; done) | (simp [*]; done), by repeat (first | exact Drawn0.refl _ | apply Drawn0.step)⟩

attribute [local go_sem] signed_u32 max_u32 signed_u64 max_u64
/-! ### ssarewrite_isARM64bitcon: function 52 -/
def ssarewrite_isARM64bitcon.j0 : Nat → Int → Bool → Option (Bool)
  | 0, _, _ => none
  | k + 1, x0, x8 => if x8 = true then (some false) else (if x0 = (Go.bits .or .u64 (x0 / 4294967296) (IntKind.u64.wrap (x0 * 4294967296))) then (if x0 = (Go.bits .or .u64 (x0 / 65536) (IntKind.u64.wrap (x0 * 281474976710656))) then (if x0 = (Go.bits .or .u64 (x0 / 256) (IntKind.u64.wrap (x0 * 72057594037927936))) then (if x0 = (Go.bits .or .u64 (x0 / 16) (IntKind.u64.wrap (x0 * 1152921504606846976))) then (some true) else ((ssarewrite_sequenceOfOnes.f (IntKind.u64.wrap (wrap64 (IntKind.i8.wrap (x0))))).bind fun t101 => (if t101 = true then (some true) else ((ssarewrite_sequenceOfOnes.f (Go.bits .xor .u64 18446744073709551615 (IntKind.u64.wrap (wrap64 (IntKind.i8.wrap (x0)))))).bind fun t102 => (some t102))))) else ((ssarewrite_sequenceOfOnes.f (IntKind.u64.wrap (wrap64 (IntKind.i16.wrap (x0))))).bind fun t103 => (if t103 = true then (some true) else ((ssarewrite_sequenceOfOnes.f (Go.bits .xor .u64 18446744073709551615 (IntKind.u64.wrap (wrap64 (IntKind.i16.wrap (x0)))))).bind fun t104 => (some t104))))) else ((ssarewrite_sequenceOfOnes.f (IntKind.u64.wrap (wrap64 (wrap32 (x0))))).bind fun t105 => (if t105 = true then (some true) else ((ssarewrite_sequenceOfOnes.f (Go.bits .xor .u64 18446744073709551615 (IntKind.u64.wrap (wrap64 (wrap32 (x0)))))).bind fun t106 => (some t106))))) else ((ssarewrite_sequenceOfOnes.f x0).bind fun t107 => (if t107 = true then (some true) else ((ssarewrite_sequenceOfOnes.f (Go.bits .xor .u64 18446744073709551615 x0)).bind fun t108 => (some t108)))))
def ssarewrite_isARM64bitcon.f (k : Nat) (a0 : Int) : Option (Bool) := if a0 = 18446744073709551615 then (ssarewrite_isARM64bitcon.j0 k a0 true) else (ssarewrite_isARM64bitcon.j0 k a0 (a0 == 0))
theorem ssarewrite_isARM64bitcon.mono_l : ∀ k, (∀ y0 y1, LeO (ssarewrite_isARM64bitcon.j0 k y0 y1) (ssarewrite_isARM64bitcon.j0 (k + 1) y0 y1))
  | 0 => fun _ _ r h => by simp [ssarewrite_isARM64bitcon.j0] at h
  | k + 1 => by
    have ih0 := ssarewrite_isARM64bitcon.mono_l k
    · intro y0 y1
      unfold ssarewrite_isARM64bitcon.j0
      repeat' first
      | (with_reducible exact ih0 _ _)
      | (with_reducible exact LeO.refl _)
      | (with_reducible exact LeO.none _)
      | (with_reducible refine LeO.ite ?_ ?_)
      | (with_reducible refine LeO.bind ?_ (fun _ => ?_))
      | exact ih0 _ _
      | exact LeO.none _
      | refine LeO.ite ?_ ?_
      | refine LeO.bind ?_ (fun _ => ?_)
theorem ssarewrite_isARM64bitcon.mono : ∀ a0 k, LeO (ssarewrite_isARM64bitcon.f k a0) (ssarewrite_isARM64bitcon.f (k + 1) a0) := by
  intro a0 k
  have ih0 := ssarewrite_isARM64bitcon.mono_l k
  unfold ssarewrite_isARM64bitcon.f
  repeat' first
      | (with_reducible exact ih0 _ _)
      | (with_reducible exact LeO.refl _)
      | (with_reducible exact LeO.none _)
      | (with_reducible refine LeO.ite ?_ ?_)
      | (with_reducible refine LeO.bind ?_ (fun _ => ?_))
      | exact ih0 _ _
      | exact LeO.none _
      | refine LeO.ite ?_ ?_
      | refine LeO.bind ?_ (fun _ => ?_)
set_option maxHeartbeats 8000000 in
set_option maxRecDepth 100000 in
theorem ssarewrite_isARM64bitcon.calls (k : Nat) (a0 : Int) (r : Bool) (w : World) (h : ssarewrite_isARM64bitcon.f k a0 = some r) :
    Calls Try.prog 52 #[.int .u64 a0] w fun e w' => e = .returned (.bool r) ∧ Drawn0 w w' := by
  have H : (if a0 = 18446744073709551615 then (ssarewrite_isARM64bitcon.j0 k a0 true) else (ssarewrite_isARM64bitcon.j0 k a0 (a0 == 0))) = some r := h
  clear h
  have HC2 := Aside0.mk H
  clear H
  go_enter Try.func52, Try.ntmps52
  go_upto_region 1 with (fail)
  go_cut [8] (fun v8 wc => ∃ (kq : Nat) (x8_1 : Bool), v8 = .bool x8_1 ∧ Aside0 (ssarewrite_isARM64bitcon.j0 kq a0 x8_1 = some r) ∧ Aside0 (kq ≤ k) ∧ Drawn0 w wc)
  case first =>
    have H := HC2.out
    clear HC2
    by_cases c3 : a0 = 18446744073709551615
    · rw [if_pos c3] at H
      have c3b0 : (a0 == 18446744073709551615) = true := beq_iff_eq.mpr c3
      have c3b1 : (a0 != 18446744073709551615) = false := bne_eq_false_iff_eq.mpr c3
      clear c3
      (first | rw [c3b0] | (simp only [i64_w, i32_w]; rw [c3b0]) | skip)
      have H' := Aside0.mk H
      clear H
      go_wp2
      go_meet
      case rel => exact ⟨_, (true), (by first | rfl | (simp; done) | (simp [*]; done)), H', ⟨by first | omega | exact Nat.le_refl _⟩, by repeat (first | exact Drawn0.refl _ | apply Drawn0.step)⟩
    · rw [if_neg c3] at H
      have c3b0 : (a0 == 18446744073709551615) = false := beq_eq_false_iff_ne.mpr c3
      have c3b1 : (a0 != 18446744073709551615) = true := bne_iff_ne.mpr c3
      (first | rw [c3b0] | (simp only [i64_w, i32_w]; rw [c3b0]) | skip)
      have H' := Aside0.mk H
      clear H
      go_wp2
      go_meet
      case rel => exact ⟨_, ((a0 == 0)), (by first | rfl | (simp; done) | (simp [*]; done)), H', ⟨by first | omega | exact Nat.le_refl _⟩, by repeat (first | exact Drawn0.refl _ | apply Drawn0.step)⟩
  case rest =>
    clear HC2
    try clear p2
    try clear c3
    try clear c3b0
    try clear c3b1
    obtain ⟨kq, x8_1, rfl, HA, HJ1, ⟨mc1, rfl⟩⟩ := hcut
    cases kq with
    | zero => exact absurd HA.out (by simp [ssarewrite_isARM64bitcon.j0])
    | succ kj1 =>
      have H := HA.out
      clear HA
      simp only [ssarewrite_isARM64bitcon.j0] at H
      by_cases c4 : x8_1 = true
      · subst c4
        have H1 : (some false) = some r := by rw [if_pos rfl] at H; exact H
        clear H
        have H := H1
        clear H1
        obtain rfl := Option.some.inj H
        go_wp2
        go_ret
        exact ⟨by first | rfl | (simp; done) | (simp [*]; done), by repeat (first | exact Drawn0.refl _ | apply Drawn0.step)⟩
      · replace c4 := Bool.eq_false_iff.mpr c4
        subst c4
        have H1 : (if a0 = (Go.bits .or .u64 (a0 / 4294967296) (IntKind.u64.wrap (a0 * 4294967296))) then (if a0 = (Go.bits .or .u64 (a0 / 65536) (IntKind.u64.wrap (a0 * 281474976710656))) then (if a0 = (Go.bits .or .u64 (a0 / 256) (IntKind.u64.wrap (a0 * 72057594037927936))) then (if a0 = (Go.bits .or .u64 (a0 / 16) (IntKind.u64.wrap (a0 * 1152921504606846976))) then (some true) else ((ssarewrite_sequenceOfOnes.f (IntKind.u64.wrap (wrap64 (IntKind.i8.wrap (a0))))).bind fun t101 => (if t101 = true then (some true) else ((ssarewrite_sequenceOfOnes.f (Go.bits .xor .u64 18446744073709551615 (IntKind.u64.wrap (wrap64 (IntKind.i8.wrap (a0)))))).bind fun t102 => (some t102))))) else ((ssarewrite_sequenceOfOnes.f (IntKind.u64.wrap (wrap64 (IntKind.i16.wrap (a0))))).bind fun t103 => (if t103 = true then (some true) else ((ssarewrite_sequenceOfOnes.f (Go.bits .xor .u64 18446744073709551615 (IntKind.u64.wrap (wrap64 (IntKind.i16.wrap (a0)))))).bind fun t104 => (some t104))))) else ((ssarewrite_sequenceOfOnes.f (IntKind.u64.wrap (wrap64 (wrap32 (a0))))).bind fun t105 => (if t105 = true then (some true) else ((ssarewrite_sequenceOfOnes.f (Go.bits .xor .u64 18446744073709551615 (IntKind.u64.wrap (wrap64 (wrap32 (a0)))))).bind fun t106 => (some t106))))) else ((ssarewrite_sequenceOfOnes.f a0).bind fun t107 => (if t107 = true then (some true) else ((ssarewrite_sequenceOfOnes.f (Go.bits .xor .u64 18446744073709551615 a0)).bind fun t108 => (some t108))))) = some r := by rw [if_neg (show ¬ (false = true) by decide)] at H; exact H
        clear H
        have H := H1
        clear H1
        by_cases c5 : a0 = (Go.bits .or .u64 (a0 / 4294967296) (IntKind.u64.wrap (a0 * 4294967296)))
        · rw [if_pos c5] at H
          have c5b0 : (a0 == (Go.bits .or .u64 (a0 / 4294967296) (IntKind.u64.wrap (a0 * 4294967296)))) = true := beq_iff_eq.mpr c5
          have c5b1 : (a0 != (Go.bits .or .u64 (a0 / 4294967296) (IntKind.u64.wrap (a0 * 4294967296)))) = false := bne_eq_false_iff_eq.mpr c5
          clear c5
          by_cases c6 : a0 = (Go.bits .or .u64 (a0 / 65536) (IntKind.u64.wrap (a0 * 281474976710656)))
          · rw [if_pos c6] at H
            have c6b0 : (a0 == (Go.bits .or .u64 (a0 / 65536) (IntKind.u64.wrap (a0 * 281474976710656)))) = true := beq_iff_eq.mpr c6
            have c6b1 : (a0 != (Go.bits .or .u64 (a0 / 65536) (IntKind.u64.wrap (a0 * 281474976710656)))) = false := bne_eq_false_iff_eq.mpr c6
            clear c6
            by_cases c7 : a0 = (Go.bits .or .u64 (a0 / 256) (IntKind.u64.wrap (a0 * 72057594037927936)))
            · rw [if_pos c7] at H
              have c7b0 : (a0 == (Go.bits .or .u64 (a0 / 256) (IntKind.u64.wrap (a0 * 72057594037927936)))) = true := beq_iff_eq.mpr c7
              have c7b1 : (a0 != (Go.bits .or .u64 (a0 / 256) (IntKind.u64.wrap (a0 * 72057594037927936)))) = false := bne_eq_false_iff_eq.mpr c7
              clear c7
              by_cases c8 : a0 = (Go.bits .or .u64 (a0 / 16) (IntKind.u64.wrap (a0 * 1152921504606846976)))
              · rw [if_pos c8] at H
                have c8b0 : (a0 == (Go.bits .or .u64 (a0 / 16) (IntKind.u64.wrap (a0 * 1152921504606846976)))) = true := beq_iff_eq.mpr c8
                have c8b1 : (a0 != (Go.bits .or .u64 (a0 / 16) (IntKind.u64.wrap (a0 * 1152921504606846976)))) = false := bne_eq_false_iff_eq.mpr c8
                clear c8
                obtain rfl := Option.some.inj H
                go_wp2
                go_ret
                exact ⟨by first | rfl | (simp; done) | (simp [*]; done), by repeat (first | exact Drawn0.refl _ | apply Drawn0.step)⟩
              · rw [if_neg c8] at H
                have c8b0 : (a0 == (Go.bits .or .u64 (a0 / 16) (IntKind.u64.wrap (a0 * 1152921504606846976)))) = false := beq_eq_false_iff_ne.mpr c8
                have c8b1 : (a0 != (Go.bits .or .u64 (a0 / 16) (IntKind.u64.wrap (a0 * 1152921504606846976)))) = true := bne_iff_ne.mpr c8
                replace H := Option.bind_eq_some_iff.mp H
                obtain ⟨t101, A90, H⟩ := H
                replace H : (if t101 = true then (some true) else ((ssarewrite_sequenceOfOnes.f (Go.bits .xor .u64 18446744073709551615 (IntKind.u64.wrap (wrap64 (IntKind.i8.wrap (a0)))))).bind fun t102 => (some t102))) = some r := H
                have A9 := Aside0.mk A90
                clear A90
                by_cases c10 : t101 = true
                · subst c10
                  have H1 : (some true) = some r := by rw [if_pos rfl] at H; exact H
                  clear H
                  have H := H1
                  clear H1
                  obtain rfl := Option.some.inj H
                  go_wp2_with (first | ((with_reducible refine gate_callee (f := 62) rfl ?_); refine goesL_ (some 54) rfl rfl Try.func62 (by kernel_rfl) rfl #[.int .u64 (IntKind.u64.wrap (wrap64 (IntKind.i8.wrap (a0))))] rfl (by (try simp only [List.map_toArray, List.map_cons, List.map_nil]); first | done | rfl | (simp only [List.length_drop, List.length_take]; rfl)) ?_; (with_reducible refine (ssarewrite_sequenceOfOnes.calls (IntKind.u64.wrap (wrap64 (IntKind.i8.wrap (a0)))) true _ A9.out).mono ?_); rintro e w' ⟨rfl, ⟨nd, rfl⟩⟩; refine ⟨_, rfl, ?_⟩))
                  go_ret
                  exact ⟨by first | rfl | (simp; done) | (simp [*]; done), by repeat (first | exact Drawn0.refl _ | apply Drawn0.step)⟩
                · replace c10 := Bool.eq_false_iff.mpr c10
                  subst c10
                  have H1 : ((ssarewrite_sequenceOfOnes.f (Go.bits .xor .u64 18446744073709551615 (IntKind.u64.wrap (wrap64 (IntKind.i8.wrap (a0)))))).bind fun t102 => (some t102)) = some r := by rw [if_neg (show ¬ (false = true) by decide)] at H; exact H
                  clear H
                  have H := H1
                  clear H1
                  replace H := Option.bind_eq_some_iff.mp H
                  obtain ⟨t102, A110, H⟩ := H
                  replace H : (some t102) = some r := H
                  have A11 := Aside0.mk A110
                  clear A110
                  obtain rfl := Option.some.inj H
                  go_wp2_with (first | ((with_reducible refine gate_callee (f := 62) rfl ?_); refine goesL_ (some 54) rfl rfl Try.func62 (by kernel_rfl) rfl #[.int .u64 (IntKind.u64.wrap (wrap64 (IntKind.i8.wrap (a0))))] rfl (by (try simp only [List.map_toArray, List.map_cons, List.map_nil]); first | done | rfl | (simp only [List.length_drop, List.length_take]; rfl)) ?_; (with_reducible refine (ssarewrite_sequenceOfOnes.calls (IntKind.u64.wrap (wrap64 (IntKind.i8.wrap (a0)))) false _ A9.out).mono ?_); rintro e w' ⟨rfl, ⟨nd, rfl⟩⟩; refine ⟨_, rfl, ?_⟩) | (go_at_call 62; (with_reducible refine (ssarewrite_sequenceOfOnes.calls (Go.bits .xor .u64 18446744073709551615 (IntKind.u64.wrap (wrap64 (IntKind.i8.wrap (a0))))) t102 _ A11.out).mono ?_); rintro e w' ⟨rfl, ⟨nd, rfl⟩⟩))
                  go_ret
                  exact ⟨by first | rfl | (simp; done) | (simp [*]; done), by repeat (first | exact Drawn0.refl _ | apply Drawn0.step)⟩
            · rw [if_neg c7] at H
              have c7b0 : (a0 == (Go.bits .or .u64 (a0 / 256) (IntKind.u64.wrap (a0 * 72057594037927936)))) = false := beq_eq_false_iff_ne.mpr c7
              have c7b1 : (a0 != (Go.bits .or .u64 (a0 / 256) (IntKind.u64.wrap (a0 * 72057594037927936)))) = true := bne_iff_ne.mpr c7
              replace H := Option.bind_eq_some_iff.mp H
              obtain ⟨t103, A120, H⟩ := H
              replace H : (if t103 = true then (some true) else ((ssarewrite_sequenceOfOnes.f (Go.bits .xor .u64 18446744073709551615 (IntKind.u64.wrap (wrap64 (IntKind.i16.wrap (a0)))))).bind fun t104 => (some t104))) = some r := H
              have A12 := Aside0.mk A120
              clear A120
              by_cases c13 : t103 = true
              · subst c13
                have H1 : (some true) = some r := by rw [if_pos rfl] at H; exact H
                clear H
                have H := H1
                clear H1
                obtain rfl := Option.some.inj H
                go_wp2_with (first | ((with_reducible refine gate_callee (f := 62) rfl ?_); refine goesL_ (some 54) rfl rfl Try.func62 (by kernel_rfl) rfl #[.int .u64 (IntKind.u64.wrap (wrap64 (IntKind.i16.wrap (a0))))] rfl (by (try simp only [List.map_toArray, List.map_cons, List.map_nil]); first | done | rfl | (simp only [List.length_drop, List.length_take]; rfl)) ?_; (with_reducible refine (ssarewrite_sequenceOfOnes.calls (IntKind.u64.wrap (wrap64 (IntKind.i16.wrap (a0)))) true _ A12.out).mono ?_); rintro e w' ⟨rfl, ⟨nd, rfl⟩⟩; refine ⟨_, rfl, ?_⟩))
                go_ret
                exact ⟨by first | rfl | (simp; done) | (simp [*]; done), by repeat (first | exact Drawn0.refl _ | apply Drawn0.step)⟩
              · replace c13 := Bool.eq_false_iff.mpr c13
                subst c13
                have H1 : ((ssarewrite_sequenceOfOnes.f (Go.bits .xor .u64 18446744073709551615 (IntKind.u64.wrap (wrap64 (IntKind.i16.wrap (a0)))))).bind fun t104 => (some t104)) = some r := by rw [if_neg (show ¬ (false = true) by decide)] at H; exact H
                clear H
                have H := H1
                clear H1
                replace H := Option.bind_eq_some_iff.mp H
                obtain ⟨t104, A140, H⟩ := H
                replace H : (some t104) = some r := H
                have A14 := Aside0.mk A140
                clear A140
                obtain rfl := Option.some.inj H
                go_wp2_with (first | ((with_reducible refine gate_callee (f := 62) rfl ?_); refine goesL_ (some 54) rfl rfl Try.func62 (by kernel_rfl) rfl #[.int .u64 (IntKind.u64.wrap (wrap64 (IntKind.i16.wrap (a0))))] rfl (by (try simp only [List.map_toArray, List.map_cons, List.map_nil]); first | done | rfl | (simp only [List.length_drop, List.length_take]; rfl)) ?_; (with_reducible refine (ssarewrite_sequenceOfOnes.calls (IntKind.u64.wrap (wrap64 (IntKind.i16.wrap (a0)))) false _ A12.out).mono ?_); rintro e w' ⟨rfl, ⟨nd, rfl⟩⟩; refine ⟨_, rfl, ?_⟩) | (go_at_call 62; (with_reducible refine (ssarewrite_sequenceOfOnes.calls (Go.bits .xor .u64 18446744073709551615 (IntKind.u64.wrap (wrap64 (IntKind.i16.wrap (a0))))) t104 _ A14.out).mono ?_); rintro e w' ⟨rfl, ⟨nd, rfl⟩⟩))
                go_ret
                exact ⟨by first | rfl | (simp; done) | (simp [*]; done), by repeat (first | exact Drawn0.refl _ | apply Drawn0.step)⟩
          · rw [if_neg c6] at H
            have c6b0 : (a0 == (Go.bits .or .u64 (a0 / 65536) (IntKind.u64.wrap (a0 * 281474976710656)))) = false := beq_eq_false_iff_ne.mpr c6
            have c6b1 : (a0 != (Go.bits .or .u64 (a0 / 65536) (IntKind.u64.wrap (a0 * 281474976710656)))) = true := bne_iff_ne.mpr c6
            replace H := Option.bind_eq_some_iff.mp H
            obtain ⟨t105, A150, H⟩ := H
            replace H : (if t105 = true then (some true) else ((ssarewrite_sequenceOfOnes.f (Go.bits .xor .u64 18446744073709551615 (IntKind.u64.wrap (wrap64 (wrap32 (a0)))))).bind fun t106 => (some t106))) = some r := H
            have A15 := Aside0.mk A150
            clear A150
            by_cases c16 : t105 = true
            · subst c16
              have H1 : (some true) = some r := by rw [if_pos rfl] at H; exact H
              clear H
              have H := H1
              clear H1
              obtain rfl := Option.some.inj H
              go_wp2_with (first | ((with_reducible refine gate_callee (f := 62) rfl ?_); refine goesL_ (some 54) rfl rfl Try.func62 (by kernel_rfl) rfl #[.int .u64 (IntKind.u64.wrap (wrap64 (wrap32 (a0))))] rfl (by (try simp only [List.map_toArray, List.map_cons, List.map_nil]); first | done | rfl | (simp only [List.length_drop, List.length_take]; rfl)) ?_; (with_reducible refine (ssarewrite_sequenceOfOnes.calls (IntKind.u64.wrap (wrap64 (wrap32 (a0)))) true _ A15.out).mono ?_); rintro e w' ⟨rfl, ⟨nd, rfl⟩⟩; refine ⟨_, rfl, ?_⟩))
              go_ret
              exact ⟨by first | rfl | (simp; done) | (simp [*]; done), by repeat (first | exact Drawn0.refl _ | apply Drawn0.step)⟩
            · replace c16 := Bool.eq_false_iff.mpr c16
              subst c16
              have H1 : ((ssarewrite_sequenceOfOnes.f (Go.bits .xor .u64 18446744073709551615 (IntKind.u64.wrap (wrap64 (wrap32 (a0)))))).bind fun t106 => (some t106)) = some r := by rw [if_neg (show ¬ (false = true) by decide)] at H; exact H
              clear H
              have H := H1
              clear H1
              replace H := Option.bind_eq_some_iff.mp H
              obtain ⟨t106, A170, H⟩ := H
              replace H : (some t106) = some r := H
              have A17 := Aside0.mk A170
              clear A170
              obtain rfl := Option.some.inj H
              go_wp2_with (first | ((with_reducible refine gate_callee (f := 62) rfl ?_); refine goesL_ (some 54) rfl rfl Try.func62 (by kernel_rfl) rfl #[.int .u64 (IntKind.u64.wrap (wrap64 (wrap32 (a0))))] rfl (by (try simp only [List.map_toArray, List.map_cons, List.map_nil]); first | done | rfl | (simp only [List.length_drop, List.length_take]; rfl)) ?_; (with_reducible refine (ssarewrite_sequenceOfOnes.calls (IntKind.u64.wrap (wrap64 (wrap32 (a0)))) false _ A15.out).mono ?_); rintro e w' ⟨rfl, ⟨nd, rfl⟩⟩; refine ⟨_, rfl, ?_⟩) | (go_at_call 62; (with_reducible refine (ssarewrite_sequenceOfOnes.calls (Go.bits .xor .u64 18446744073709551615 (IntKind.u64.wrap (wrap64 (wrap32 (a0))))) t106 _ A17.out).mono ?_); rintro e w' ⟨rfl, ⟨nd, rfl⟩⟩))
              go_ret
              exact ⟨by first | rfl | (simp; done) | (simp [*]; done), by repeat (first | exact Drawn0.refl _ | apply Drawn0.step)⟩
        · rw [if_neg c5] at H
          have c5b0 : (a0 == (Go.bits .or .u64 (a0 / 4294967296) (IntKind.u64.wrap (a0 * 4294967296)))) = false := beq_eq_false_iff_ne.mpr c5
          have c5b1 : (a0 != (Go.bits .or .u64 (a0 / 4294967296) (IntKind.u64.wrap (a0 * 4294967296)))) = true := bne_iff_ne.mpr c5
          replace H := Option.bind_eq_some_iff.mp H
          obtain ⟨t107, A180, H⟩ := H
          replace H : (if t107 = true then (some true) else ((ssarewrite_sequenceOfOnes.f (Go.bits .xor .u64 18446744073709551615 a0)).bind fun t108 => (some t108))) = some r := H
          have A18 := Aside0.mk A180
          clear A180
          by_cases c19 : t107 = true
          · subst c19
            have H1 : (some true) = some r := by rw [if_pos rfl] at H; exact H
            clear H
            have H := H1
            clear H1
            obtain rfl := Option.some.inj H
            go_wp2_with (first | ((with_reducible refine gate_callee (f := 62) rfl ?_); refine goesL_ (some 54) rfl rfl Try.func62 (by kernel_rfl) rfl #[.int .u64 a0] rfl (by (try simp only [List.map_toArray, List.map_cons, List.map_nil]); first | done | rfl | (simp only [List.length_drop, List.length_take]; rfl)) ?_; (with_reducible refine (ssarewrite_sequenceOfOnes.calls a0 true _ A18.out).mono ?_); rintro e w' ⟨rfl, ⟨nd, rfl⟩⟩; refine ⟨_, rfl, ?_⟩))
            go_ret
            exact ⟨by first | rfl | (simp; done) | (simp [*]; done), by repeat (first | exact Drawn0.refl _ | apply Drawn0.step)⟩
          · replace c19 := Bool.eq_false_iff.mpr c19
            subst c19
            have H1 : ((ssarewrite_sequenceOfOnes.f (Go.bits .xor .u64 18446744073709551615 a0)).bind fun t108 => (some t108)) = some r := by rw [if_neg (show ¬ (false = true) by decide)] at H; exact H
            clear H
            have H := H1
            clear H1
            replace H := Option.bind_eq_some_iff.mp H
            obtain ⟨t108, A200, H⟩ := H
            replace H : (some t108) = some r := H
            have A20 := Aside0.mk A200
            clear A200
            obtain rfl := Option.some.inj H
            go_wp2_with (first | ((with_reducible refine gate_callee (f := 62) rfl ?_); refine goesL_ (some 54) rfl rfl Try.func62 (by kernel_rfl) rfl #[.int .u64 a0] rfl (by (try simp only [List.map_toArray, List.map_cons, List.map_nil]); first | done | rfl | (simp only [List.length_drop, List.length_take]; rfl)) ?_; (with_reducible refine (ssarewrite_sequenceOfOnes.calls a0 false _ A18.out).mono ?_); rintro e w' ⟨rfl, ⟨nd, rfl⟩⟩; refine ⟨_, rfl, ?_⟩) | (go_at_call 62; (with_reducible refine (ssarewrite_sequenceOfOnes.calls (Go.bits .xor .u64 18446744073709551615 a0) t108 _ A20.out).mono ?_); rintro e w' ⟨rfl, ⟨nd, rfl⟩⟩))
            go_ret
            exact ⟨by first | rfl | (simp; done) | (simp [*]; done), by repeat (first | exact Drawn0.refl _ | apply Drawn0.step)⟩

attribute [local go_sem] signed_u32 max_u32 signed_u64 max_u64
/-! ### ssarewrite_ZZIsARM64bitcon: function 35 -/
def ssarewrite_ZZIsARM64bitcon.f (k : Nat) (a0 : Int) : Option (Bool) := (ssarewrite_isARM64bitcon.f k a0).bind fun t109 => (some t109)
theorem ssarewrite_ZZIsARM64bitcon.mono : ∀ a0 k, LeO (ssarewrite_ZZIsARM64bitcon.f k a0) (ssarewrite_ZZIsARM64bitcon.f (k + 1) a0) := by
  intro a0 k
  unfold ssarewrite_ZZIsARM64bitcon.f
  repeat' first
      | (with_reducible exact ssarewrite_isARM64bitcon.mono _ _)
      | (with_reducible exact LeO.refl _)
      | (with_reducible exact LeO.none _)
      | (with_reducible refine LeO.ite ?_ ?_)
      | (with_reducible refine LeO.bind ?_ (fun _ => ?_))
      | exact ssarewrite_isARM64bitcon.mono _ _
      | exact LeO.none _
      | refine LeO.ite ?_ ?_
      | refine LeO.bind ?_ (fun _ => ?_)
set_option maxHeartbeats 8000000 in
set_option maxRecDepth 100000 in
theorem ssarewrite_ZZIsARM64bitcon.calls (k : Nat) (a0 : Int) (r : Bool) (w : World) (h : ssarewrite_ZZIsARM64bitcon.f k a0 = some r) :
    Calls Try.prog 35 #[.int .u64 a0] w fun e w' => e = .returned (.bool r) ∧ Drawn0 w w' := by
  have H : ((ssarewrite_isARM64bitcon.f k a0).bind fun t109 => (some t109)) = some r := h
  clear h
  replace H := Option.bind_eq_some_iff.mp H
  obtain ⟨t109, A20, H⟩ := H
  replace H : (some t109) = some r := H
  have A2 := Aside0.mk A20
  clear A20
  obtain rfl := Option.some.inj H
  go_enter Try.func35, Try.ntmps35
  go_wp2_with (first | ((with_reducible refine gate_callee (f := 52) rfl ?_); refine goesL_ (some 4) rfl rfl Try.func52 (by kernel_rfl) rfl #[.int .u64 a0] rfl (by (try simp only [List.map_toArray, List.map_cons, List.map_nil]); first | done | rfl | (simp only [List.length_drop, List.length_take]; rfl)) ?_; (with_reducible refine (ssarewrite_isARM64bitcon.calls k a0 t109 _ A2.out).mono ?_); rintro e w' ⟨rfl, ⟨nd, rfl⟩⟩; refine ⟨_, rfl, ?_⟩))
  go_ret
  exact ⟨by first | rfl | (simp; done) | (simp [*]; done), by repeat (first | exact Drawn0.refl _ | apply Drawn0.step)⟩

attribute [local go_sem] signed_u32 max_u32 signed_u64 max_u64
/-! ### impl_IsBitcon: function 16 -/
def impl_IsBitcon.f (k : Nat) (a0 : Int) : Option (Bool) := (ssarewrite_ZZIsARM64bitcon.f k a0).bind fun t110 => (some t110)
theorem impl_IsBitcon.mono : ∀ a0 k, LeO (impl_IsBitcon.f k a0) (impl_IsBitcon.f (k + 1) a0) := by
  intro a0 k
  unfold impl_IsBitcon.f
  repeat' first
      | (with_reducible exact ssarewrite_ZZIsARM64bitcon.mono _ _)
      | (with_reducible exact LeO.refl _)
      | (with_reducible exact LeO.none _)
      | (with_reducible refine LeO.ite ?_ ?_)
      | (with_reducible refine LeO.bind ?_ (fun _ => ?_))
      | exact ssarewrite_ZZIsARM64bitcon.mono _ _
      | exact LeO.none _
      | refine LeO.ite ?_ ?_
      | refine LeO.bind ?_ (fun _ => ?_)
set_option maxHeartbeats 8000000 in
set_option maxRecDepth 100000 in
theorem impl_IsBitcon.calls (k : Nat) (a0 : Int) (r : Bool) (w : World) (h : impl_IsBitcon.f k a0 = some r) :
    Calls Try.prog 16 #[.int .u64 a0] w fun e w' => e = .returned (.bool r) ∧ Drawn0 w w' := by
  have H : ((ssarewrite_ZZIsARM64bitcon.f k a0).bind fun t110 => (some t110)) = some r := h
  clear h
  replace H := Option.bind_eq_some_iff.mp H
  obtain ⟨t110, A20, H⟩ := H
  replace H : (some t110) = some r := H
  have A2 := Aside0.mk A20
  clear A20
  obtain rfl := Option.some.inj H
  go_enter Try.func16, Try.ntmps16
  go_wp2_with (first | ((with_reducible refine gate_callee (f := 35) rfl ?_); refine goesL_ (some 4) rfl rfl Try.func35 (by kernel_rfl) rfl #[.int .u64 a0] rfl (by (try simp only [List.map_toArray, List.map_cons, List.map_nil]); first | done | rfl | (simp only [List.length_drop, List.length_take]; rfl)) ?_; (with_reducible refine (ssarewrite_ZZIsARM64bitcon.calls k a0 t110 _ A2.out).mono ?_); rintro e w' ⟨rfl, ⟨nd, rfl⟩⟩; refine ⟨_, rfl, ?_⟩))
  go_ret
  exact ⟨by first | rfl | (simp; done) | (simp [*]; done), by repeat (first | exact Drawn0.refl _ | apply Drawn0.step)⟩

attribute [local go_sem] signed_u32 max_u32 signed_u64 max_u64
/-! ### spec_Low: function 29 -/
def spec_Low.f (a0 : Int) (a1 : Int) : Option (Int) := if a1 ≥ 64 then (some a0) else (if 0 ≤ a1 then (if (shl .u64 1 a1) = 0 then (none) else (some (Int.tmod a0 (shl .u64 1 a1)))) else (none))
set_option maxHeartbeats 8000000 in
set_option maxRecDepth 100000 in
theorem spec_Low.calls (a0 : Int) (a1 : Int) (r : Int) (w : World) (h : spec_Low.f a0 a1 = some r) :
    Calls Try.prog 29 #[.int .u64 a0, .int .u64 a1] w fun e w' => e = .returned (.int .u64 r) ∧ Drawn0 w w' := by
  have H : (if a1 ≥ 64 then (some a0) else (if 0 ≤ a1 then (if (shl .u64 1 a1) = 0 then (none) else (some (Int.tmod a0 (shl .u64 1 a1)))) else (none))) = some r := h
  clear h
  by_cases c3 : a1 ≥ 64
  · rw [if_pos c3] at H
    have c3b0 : decide (64 ≤ a1) = true := decide_eq_true c3
    clear c3
    obtain rfl := Option.some.inj H
    go_enter Try.func29, Try.ntmps29
    go_wp2
    go_ret
    exact ⟨by first | rfl | (simp; done) | (simp [*]; done), by repeat (first | exact Drawn0.refl _ | apply Drawn0.step)⟩
  · rw [if_neg c3] at H
    have c3b0 : decide (64 ≤ a1) = false := decide_eq_false c3
    clear c3
    by_cases c4 : 0 ≤ a1
    · rw [if_pos c4] at H
      have c4b0 := eq_true c4
      have c4b1 : decide (0 ≤ a1) = true := decide_eq_true c4
      clear c4
      obtain ⟨ji5, hji5⟩ : ∃ j_ : Int, (shl .u64 1 a1) = j_ := ⟨_, rfl⟩
      replace H : (if (ji5) = 0 then (none) else (some (Int.tmod a0 (ji5)))) = some r := by first | (rw [hji5] at H; exact H) | (simp only [hji5] at H ⊢; exact H)
      have hji5_ : (IntKind.u64.wrap (1 * 2 ^ min a1.toNat 64)) = ji5 := hji5
      have hji5z : a1 ≤ 64 → (IntKind.u64.wrap (1 * 2 ^ a1.toNat)) = ji5 := shl_small hji5
      have hji5u : (IntKind.u64.wrap (2 ^ min a1.toNat 64)) = ji5 := by have h_ := hji5_; rw [Int.one_mul] at h_; exact h_
      have hji5v : a1 ≤ 64 → (IntKind.u64.wrap (2 ^ a1.toNat)) = ji5 := fun hle_ => by have h_ := hji5z hle_; rw [Int.one_mul] at h_; exact h_
      by_cases c6 : (ji5) = 0
      · rw [if_pos c6] at H
        exact absurd H (by simp)
      · rw [if_neg c6] at H
        have c6b0 : ((ji5) == 0) = false := beq_eq_false_iff_ne.mpr c6
        have c6b1 : ((ji5) != 0) = true := bne_iff_ne.mpr c6
        obtain rfl := Option.some.inj H
        go_enter Try.func29, Try.ntmps29
        go_wp2
        go_ret
        exact ⟨by first | rfl | (simp; done) | (simp only [← hji5] <;> (first | rfl | simp)) | (simp [*]; done), by repeat (first | exact Drawn0.refl _ | apply Drawn0.step)⟩
    · rw [if_neg c4] at H
      exact absurd H (by simp)

attribute [local go_sem] signed_u32 max_u32 signed_u64 max_u64
/-! ### spec_Repeat: function 36 -/
def spec_Repeat.l0 : Nat → Int → Int → Int → Int → Option (Int)
  | 0, _, _, _, _ => none
  | k + 1, x0, x1, x5, x6 => if x6 < 64 then ((spec_Low.f x0 x1).bind fun t111 => (if 0 ≤ x6 then (spec_Repeat.l0 k x0 x1 (Go.bits .or .u64 x5 (shl .u64 t111 x6)) (IntKind.u64.wrap (x6 + x1))) else (none))) else (some x5)
def spec_Repeat.f (k : Nat) (a0 : Int) (a1 : Int) : Option (Int) := spec_Repeat.l0 k a0 a1 0 0
theorem spec_Repeat.mono_l : ∀ k, (∀ y0 y1 y2 y3, LeO (spec_Repeat.l0 k y0 y1 y2 y3) (spec_Repeat.l0 (k + 1) y0 y1 y2 y3))
  | 0 => fun _ _ _ _ r h => by simp [spec_Repeat.l0] at h
  | k + 1 => by
    have ih0 := spec_Repeat.mono_l k
    · intro y0 y1 y2 y3
      unfold spec_Repeat.l0
      repeat' first
      | (with_reducible exact ih0 _ _ _ _)
      | (with_reducible exact LeO.refl _)
      | (with_reducible exact LeO.none _)
      | (with_reducible refine LeO.ite ?_ ?_)
      | (with_reducible refine LeO.bind ?_ (fun _ => ?_))
      | exact ih0 _ _ _ _
      | exact LeO.none _
      | refine LeO.ite ?_ ?_
      | refine LeO.bind ?_ (fun _ => ?_)
theorem spec_Repeat.mono : ∀ a0 a1 k, LeO (spec_Repeat.f k a0 a1) (spec_Repeat.f (k + 1) a0 a1) := by
  intro a0 a1 k
  have ih0 := spec_Repeat.mono_l k
  unfold spec_Repeat.f
  repeat' first
      | (with_reducible exact ih0 _ _ _ _)
      | (with_reducible exact LeO.refl _)
      | (with_reducible exact LeO.none _)
      | (with_reducible refine LeO.ite ?_ ?_)
      | (with_reducible refine LeO.bind ?_ (fun _ => ?_))
      | exact ih0 _ _ _ _
      | exact LeO.none _
      | refine LeO.ite ?_ ?_
      | refine LeO.bind ?_ (fun _ => ?_)
set_option maxHeartbeats 8000000 in
set_option maxRecDepth 100000 in
theorem spec_Repeat.calls (k : Nat) (a0 : Int) (a1 : Int) (r : Int) (w : World) (h : spec_Repeat.f k a0 a1 = some r) :
    Calls Try.prog 36 #[.int .u64 a0, .int .u64 a1] w fun e w' => e = .returned (.int .u64 r) ∧ Drawn0 w w' := by
  have H : (spec_Repeat.l0 k a0 a1 0 0) = some r := h
  clear h
  have H' := Aside0.mk H
  clear H
  go_enter Try.func36, Try.ntmps36
  go_wp2
  go_loopg [5, 6] k (fun kq v5 v6 w' => ∃ (x5_1 : Int) (x6_1 : Int), v5 = .int .u64 x5_1 ∧ v6 = .int .u64 x6_1 ∧ Aside0 (spec_Repeat.l0 kq a0 a1 x5_1 x6_1 = some r) ∧ Aside0 (kq ≤ k) ∧ Drawn0 w w')
  case atStart => exact ⟨(0), (0), (by first | rfl | (simp; done) | (simp [*]; done)), (by first | rfl | (simp; done) | (simp [*]; done)), H', ⟨Nat.le_refl _⟩, by repeat (first | exact Drawn0.refl _ | apply Drawn0.step)⟩
  case round =>
    clear H'
    try clear p2
    obtain ⟨x5_1, x6_1, rfl, rfl, HA, HK1, ⟨m1, rfl⟩⟩ := hrel
    cases gk with
    | zero => exact absurd HA.out (by simp [spec_Repeat.l0])
    | succ k1 =>
      have H := HA.out
      clear HA
      simp only [spec_Repeat.l0] at H
      by_cases c3 : x6_1 < 64
      · rw [if_pos c3] at H
        have c3b0 : decide (x6_1 < 64) = true := decide_eq_true c3
        clear c3
        replace H := Option.bind_eq_some_iff.mp H
        obtain ⟨t111, A40, H⟩ := H
        replace H : (if 0 ≤ x6_1 then (spec_Repeat.l0 k1 a0 a1 (Go.bits .or .u64 x5_1 (shl .u64 t111 x6_1)) (IntKind.u64.wrap (x6_1 + a1))) else (none)) = some r := H
        have A4 := Aside0.mk A40
        clear A40
        by_cases c5 : 0 ≤ x6_1
        · rw [if_pos c5] at H
          have c5b0 := eq_true c5
          have c5b1 : decide (0 ≤ x6_1) = true := decide_eq_true c5
          clear c5
          obtain ⟨ji6, hji6⟩ : ∃ j_ : Int, (shl .u64 t111 x6_1) = j_ := ⟨_, rfl⟩
          replace H : (spec_Repeat.l0 k1 a0 a1 (Go.bits .or .u64 x5_1 (ji6)) (IntKind.u64.wrap (x6_1 + a1))) = some r := by first | (rw [hji6] at H; exact H) | (simp only [hji6] at H ⊢; exact H)
          (try rw [hji6] at A4)
          have hji6_ : (IntKind.u64.wrap (t111 * 2 ^ min x6_1.toNat 64)) = ji6 := hji6
          have hji6z : x6_1 ≤ 64 → (IntKind.u64.wrap (t111 * 2 ^ x6_1.toNat)) = ji6 := shl_small hji6
          have H' := Aside0.mk H
          clear H
          go_wp2_with (first | ((with_reducible refine gate_callee (f := 29) rfl ?_); refine goesL_ (some 15) rfl rfl Try.func29 (by kernel_rfl) rfl #[.int .u64 a0, .int .u64 a1] rfl (by (try simp only [List.map_toArray, List.map_cons, List.map_nil]); first | done | rfl | (simp only [List.length_drop, List.length_take]; rfl)) ?_; (with_reducible refine (spec_Low.calls a0 a1 t111 _ A4.out).mono ?_); rintro e w' ⟨rfl, ⟨nd, rfl⟩⟩; refine ⟨_, rfl, ?_⟩))
          go_roundg k1
          case measure => have := HK1.out; omega
          case rel => exact ⟨(Go.bits .or .u64 x5_1 (ji6)), (IntKind.u64.wrap (x6_1 + a1)), (by first | rfl | (simp; done) | (simp only [← hji6] <;> (first | rfl | simp)) | (simp [*]; done)), (by first | rfl | (simp; done) | (simp [*]; done)), H', ⟨by have := HK1.out; omega⟩, by repeat (first | exact Drawn0.refl _ | apply Drawn0.step)⟩
        · rw [if_neg c5] at H
          exact absurd H (by simp)
      · rw [if_neg c3] at H
        have c3b0 : decide (x6_1 < 64) = false := decide_eq_false c3
        clear c3
        obtain rfl := Option.some.inj H
        go_wp2
        go_ret
        exact ⟨by first | rfl | (simp; done) | (simp [*]; done), by repeat (first | exact Drawn0.refl _ | apply Drawn0.step)⟩

attribute [local go_sem] signed_u32 max_u32 signed_u64 max_u64
/-! ### spec_bit: function 37 -/
def spec_bit.f (a0 : Int) (a1 : Int) : Option (Int) := if 0 ≤ a1 then (some (Int.tmod (shr .u64 a0 a1) 2)) else (none)
set_option maxHeartbeats 8000000 in
set_option maxRecDepth 100000 in
theorem spec_bit.calls (a0 : Int) (a1 : Int) (r : Int) (w : World) (h : spec_bit.f a0 a1 = some r) :
    Calls Try.prog 37 #[.int .u64 a0, .int .u64 a1] w fun e w' => e = .returned (.int .u64 r) ∧ Drawn0 w w' := by
  have H : (if 0 ≤ a1 then (some (Int.tmod (shr .u64 a0 a1) 2)) else (none)) = some r := h
  clear h
  by_cases c3 : 0 ≤ a1
  · rw [if_pos c3] at H
    have c3b0 := eq_true c3
    have c3b1 : decide (0 ≤ a1) = true := decide_eq_true c3
    clear c3
    obtain ⟨ji4, hji4⟩ : ∃ j_ : Int, (shr .u64 a0 a1) = j_ := ⟨_, rfl⟩
    replace H : (some (Int.tmod (ji4) 2)) = some r := by first | (rw [hji4] at H; exact H) | (simp only [hji4] at H ⊢; exact H)
    have hji4_ : (a0 / 2 ^ min a1.toNat 64) = ji4 := hji4
    have hji4z : a1 ≤ 64 → (a0 / 2 ^ a1.toNat) = ji4 := shr_small hji4
    obtain rfl := Option.some.inj H
    go_enter Try.func37, Try.ntmps37
    go_wp2
    go_ret
    exact ⟨by first | rfl | (simp; done) | (simp only [← hji4] <;> (first | rfl | simp)) | (simp [*]; done), by repeat (first | exact Drawn0.refl _ | apply Drawn0.step)⟩
  · rw [if_neg c3] at H
    exact absurd H (by simp)

attribute [local go_sem] signed_u32 max_u32 signed_u64 max_u64
/-! ### spec_IsPattern: function 17 -/
mutual
def spec_IsPattern.l0 : Nat → Int → Int → Option (Bool)
  | 0, _, _ => none
  | k + 1, x0, x3 => if x3 ≤ 64 then ((spec_Repeat.f k x0 x3).bind fun t112 => (if t112 = x0 then (spec_IsPattern.l1 k x0 x3 0 x3 0) else (spec_IsPattern.l0 k x0 (IntKind.u64.wrap (x3 * 2))))) else (some false)
def spec_IsPattern.l1 : Nat → Int → Int → Int → Int → Int → Option (Bool)
  | 0, _, _, _, _, _ => none
  | k + 1, x0, x3, x4, x15, x16 => if x16 < x15 then ((spec_bit.f x0 x16).bind fun t113 => (if t113 = 1 then (if x3 = 0 then (none) else ((spec_bit.f x0 (Int.tmod (IntKind.u64.wrap ((IntKind.u64.wrap (x16 + x3)) - 1)) x3)).bind fun t114 => (if t114 = 0 then (spec_IsPattern.l1 k x0 x3 (wrap64 (x4 + 1)) x15 (IntKind.u64.wrap (x16 + 1))) else (spec_IsPattern.l1 k x0 x3 x4 x15 (IntKind.u64.wrap (x16 + 1)))))) else (spec_IsPattern.l1 k x0 x3 x4 x15 (IntKind.u64.wrap (x16 + 1))))) else (if x4 = 1 then (some true) else (spec_IsPattern.l0 k x0 (IntKind.u64.wrap (x3 * 2))))
end
def spec_IsPattern.f (k : Nat) (a0 : Int) : Option (Bool) := spec_IsPattern.l0 k a0 2
theorem spec_IsPattern.mono_l : ∀ k, (∀ y0 y1, LeO (spec_IsPattern.l0 k y0 y1) (spec_IsPattern.l0 (k + 1) y0 y1)) ∧ (∀ y0 y1 y2 y3 y4, LeO (spec_IsPattern.l1 k y0 y1 y2 y3 y4) (spec_IsPattern.l1 (k + 1) y0 y1 y2 y3 y4))
  | 0 => ⟨fun _ _ r h => by simp [spec_IsPattern.l0] at h, fun _ _ _ _ _ r h => by simp [spec_IsPattern.l1] at h⟩
  | k + 1 => by
    obtain ⟨ih0, ih1⟩ := spec_IsPattern.mono_l k
    refine ⟨?_, ?_⟩
    · intro y0 y1
      unfold spec_IsPattern.l0
      repeat' first
      | (with_reducible exact ih0 _ _)
      | (with_reducible exact ih1 _ _ _ _ _)
      | (with_reducible exact spec_Repeat.mono _ _ _)
      | (with_reducible exact LeO.refl _)
      | (with_reducible exact LeO.none _)
      | (with_reducible refine LeO.ite ?_ ?_)
      | (with_reducible refine LeO.bind ?_ (fun _ => ?_))
      | exact ih0 _ _
      | exact ih1 _ _ _ _ _
      | exact spec_Repeat.mono _ _ _
      | exact LeO.none _
      | refine LeO.ite ?_ ?_
      | refine LeO.bind ?_ (fun _ => ?_)
    · intro y0 y1 y2 y3 y4
      unfold spec_IsPattern.l1
      repeat' first
      | (with_reducible exact ih0 _ _)
      | (with_reducible exact ih1 _ _ _ _ _)
      | (with_reducible exact spec_Repeat.mono _ _ _)
      | (with_reducible exact LeO.refl _)
      | (with_reducible exact LeO.none _)
      | (with_reducible refine LeO.ite ?_ ?_)
      | (with_reducible refine LeO.bind ?_ (fun _ => ?_))
      | exact ih0 _ _
      | exact ih1 _ _ _ _ _
      | exact spec_Repeat.mono _ _ _
      | exact LeO.none _
      | refine LeO.ite ?_ ?_
      | refine LeO.bind ?_ (fun _ => ?_)
theorem spec_IsPattern.mono : ∀ a0 k, LeO (spec_IsPattern.f k a0) (spec_IsPattern.f (k + 1) a0) := by
  intro a0 k
  obtain ⟨ih0, ih1⟩ := spec_IsPattern.mono_l k
  unfold spec_IsPattern.f
  repeat' first
      | (with_reducible exact ih0 _ _)
      | (with_reducible exact ih1 _ _ _ _ _)
      | (with_reducible exact spec_Repeat.mono _ _ _)
      | (with_reducible exact LeO.refl _)
      | (with_reducible exact LeO.none _)
      | (with_reducible refine LeO.ite ?_ ?_)
      | (with_reducible refine LeO.bind ?_ (fun _ => ?_))
      | exact ih0 _ _
      | exact ih1 _ _ _ _ _
      | exact spec_Repeat.mono _ _ _
      | exact LeO.none _
      | refine LeO.ite ?_ ?_
      | refine LeO.bind ?_ (fun _ => ?_)
set_option maxHeartbeats 8000000 in
set_option maxRecDepth 100000 in
theorem spec_IsPattern.calls (k : Nat) (a0 : Int) (r : Bool) (w : World) (h : spec_IsPattern.f k a0 = some r) :
    Calls Try.prog 17 #[.int .u64 a0] w fun e w' => e = .returned (.bool r) ∧ Drawn0 w w' := by
  have H : (spec_IsPattern.l0 k a0 2) = some r := h
  clear h
  have H' := Aside0.mk H
  clear H
  go_enter Try.func17, Try.ntmps17
  go_wp2
  go_loopg [3] k (fun kq v3 w' => ∃ (x3_1 : Int), v3 = .int .u64 x3_1 ∧ Aside0 (spec_IsPattern.l0 kq a0 x3_1 = some r) ∧ Aside0 (kq ≤ k) ∧ Drawn0 w w')
  case atStart => exact ⟨(2), (by first | rfl | (simp; done) | (simp [*]; done)), H', ⟨Nat.le_refl _⟩, by repeat (first | exact Drawn0.refl _ | apply Drawn0.step)⟩
  case round =>
    clear H'
    try clear c1
    obtain ⟨x3_1, rfl, HA, HK1, ⟨m1, rfl⟩⟩ := hrel
    cases gk with
    | zero => exact absurd HA.out (by simp [spec_IsPattern.l0])
    | succ k1 =>
      have H := HA.out
      clear HA
      simp only [spec_IsPattern.l0] at H
      by_cases c2 : x3_1 ≤ 64
      · rw [if_pos c2] at H
        have c2b0 : decide (x3_1 ≤ 64) = true := decide_eq_true c2
        clear c2
        replace H := Option.bind_eq_some_iff.mp H
        obtain ⟨t112, A30, H⟩ := H
        replace H : (if t112 = a0 then (spec_IsPattern.l1 k1 a0 x3_1 0 x3_1 0) else (spec_IsPattern.l0 k1 a0 (IntKind.u64.wrap (x3_1 * 2)))) = some r := H
        have A3 := Aside0.mk A30
        clear A30
        by_cases c4 : t112 = a0
        · rw [if_pos c4] at H
          have c4b0 : (t112 == a0) = true := beq_iff_eq.mpr c4
          have c4b1 : (t112 != a0) = false := bne_eq_false_iff_eq.mpr c4
          clear c4
          have H' := Aside0.mk H
          clear H
          go_wp2_with (first | ((with_reducible refine gate_callee (f := 36) rfl ?_); refine goesL_ (some 12) rfl rfl Try.func36 (by kernel_rfl) rfl #[.int .u64 a0, .int .u64 x3_1] rfl (by (try simp only [List.map_toArray, List.map_cons, List.map_nil]); first | done | rfl | (simp only [List.length_drop, List.length_take]; rfl)) ?_; (with_reducible refine (spec_Repeat.calls k1 a0 x3_1 t112 _ A3.out).mono ?_); rintro e w' ⟨rfl, ⟨nd, rfl⟩⟩; refine ⟨_, rfl, ?_⟩))
          go_loopg [4, 16] k1 (fun kq v4 v16 w' => ∃ (x4_2 : Int) (x16_2 : Int), v4 = .int .i64 x4_2 ∧ v16 = .int .u64 x16_2 ∧ Aside0 (spec_IsPattern.l1 kq a0 x3_1 x4_2 x3_1 x16_2 = some r) ∧ Aside0 (kq ≤ k1) ∧ Drawn0 w w')
          case atStart => exact ⟨(0), (0), (by first | rfl | (simp; done) | (simp [*]; done)), (by first | rfl | (simp; done) | (simp [*]; done)), H', ⟨Nat.le_refl _⟩, by repeat (first | exact Drawn0.refl _ | apply Drawn0.step)⟩
          case round =>
            clear H'
            try clear c1
            try clear c2
            try clear c2b0
            try clear p2
            try clear c3
            try clear c4
            try clear c4b0
            try clear c4b1
            obtain ⟨x4_2, x16_2, rfl, rfl, HA, HK2, ⟨m2, rfl⟩⟩ := hrel
            cases gk with
            | zero => exact absurd HA.out (by simp [spec_IsPattern.l1])
            | succ k2 =>
              have H := HA.out
              clear HA
              simp only [spec_IsPattern.l1] at H
              by_cases c5 : x16_2 < x3_1
              · rw [if_pos c5] at H
                have c5b0 : decide (x16_2 < x3_1) = true := decide_eq_true c5
                clear c5
                replace H := Option.bind_eq_some_iff.mp H
                obtain ⟨t113, A60, H⟩ := H
                replace H : (if t113 = 1 then (if x3_1 = 0 then (none) else ((spec_bit.f a0 (Int.tmod (IntKind.u64.wrap ((IntKind.u64.wrap (x16_2 + x3_1)) - 1)) x3_1)).bind fun t114 => (if t114 = 0 then (spec_IsPattern.l1 k2 a0 x3_1 (wrap64 (x4_2 + 1)) x3_1 (IntKind.u64.wrap (x16_2 + 1))) else (spec_IsPattern.l1 k2 a0 x3_1 x4_2 x3_1 (IntKind.u64.wrap (x16_2 + 1)))))) else (spec_IsPattern.l1 k2 a0 x3_1 x4_2 x3_1 (IntKind.u64.wrap (x16_2 + 1)))) = some r := H
                have A6 := Aside0.mk A60
                clear A60
                by_cases c7 : t113 = 1
                · rw [if_pos c7] at H
                  have c7b0 : (t113 == 1) = true := beq_iff_eq.mpr c7
                  have c7b1 : (t113 != 1) = false := bne_eq_false_iff_eq.mpr c7
                  clear c7
                  by_cases c8 : x3_1 = 0
                  · rw [if_pos c8] at H
                    exact absurd H (by simp)
                  · rw [if_neg c8] at H
                    have c8b0 : (x3_1 == 0) = false := beq_eq_false_iff_ne.mpr c8
                    have c8b1 : (x3_1 != 0) = true := bne_iff_ne.mpr c8
                    replace H := Option.bind_eq_some_iff.mp H
                    obtain ⟨t114, A90, H⟩ := H
                    replace H : (if t114 = 0 then (spec_IsPattern.l1 k2 a0 x3_1 (wrap64 (x4_2 + 1)) x3_1 (IntKind.u64.wrap (x16_2 + 1))) else (spec_IsPattern.l1 k2 a0 x3_1 x4_2 x3_1 (IntKind.u64.wrap (x16_2 + 1)))) = some r := H
                    have A9 := Aside0.mk A90
                    clear A90
                    by_cases c10 : t114 = 0
                    · rw [if_pos c10] at H
                      have c10b0 : (t114 == 0) = true := beq_iff_eq.mpr c10
                      have c10b1 : (t114 != 0) = false := bne_eq_false_iff_eq.mpr c10
                      clear c10
                      have H' := Aside0.mk H
                      clear H
                      go_wp2_with (first | ((with_reducible refine gate_callee (f := 37) rfl ?_); refine goesL_ (some 21) rfl rfl Try.func37 (by kernel_rfl) rfl #[.int .u64 a0, .int .u64 x16_2] rfl (by (try simp only [List.map_toArray, List.map_cons, List.map_nil]); first | done | rfl | (simp only [List.length_drop, List.length_take]; rfl)) ?_; (with_reducible refine (spec_bit.calls a0 x16_2 t113 _ A6.out).mono ?_); rintro e w' ⟨rfl, ⟨nd, rfl⟩⟩; refine ⟨_, rfl, ?_⟩) | (go_at_call 37; (with_reducible refine (spec_bit.calls a0 (Int.tmod (IntKind.u64.wrap ((IntKind.u64.wrap (x16_2 + x3_1)) - 1)) x3_1) t114 _ A9.out).mono ?_); rintro e w' ⟨rfl, ⟨nd, rfl⟩⟩))
                      go_roundg k2
                      case measure => have := HK1.out; have := HK2.out; omega
                      case rel => exact ⟨(wrap64 (x4_2 + 1)), (IntKind.u64.wrap (x16_2 + 1)), (by first | rfl | (simp; done) | (simp [*]; done)), (by first | rfl | (simp; done) | (simp [*]; done)), H', ⟨by have := HK1.out; have := HK2.out; omega⟩, by repeat (first | exact Drawn0.refl _ | apply Drawn0.step)⟩
                    · rw [if_neg c10] at H
                      have c10b0 : (t114 == 0) = false := beq_eq_false_iff_ne.mpr c10
                      have c10b1 : (t114 != 0) = true := bne_iff_ne.mpr c10
                      have H' := Aside0.mk H
                      clear H
                      go_wp2_with (first | ((with_reducible refine gate_callee (f := 37) rfl ?_); refine goesL_ (some 21) rfl rfl Try.func37 (by kernel_rfl) rfl #[.int .u64 a0, .int .u64 x16_2] rfl (by (try simp only [List.map_toArray, List.map_cons, List.map_nil]); first | done | rfl | (simp only [List.length_drop, List.length_take]; rfl)) ?_; (with_reducible refine (spec_bit.calls a0 x16_2 t113 _ A6.out).mono ?_); rintro e w' ⟨rfl, ⟨nd, rfl⟩⟩; refine ⟨_, rfl, ?_⟩) | (go_at_call 37; (with_reducible refine (spec_bit.calls a0 (Int.tmod (IntKind.u64.wrap ((IntKind.u64.wrap (x16_2 + x3_1)) - 1)) x3_1) t114 _ A9.out).mono ?_); rintro e w' ⟨rfl, ⟨nd, rfl⟩⟩))
                      go_roundg k2
                      case measure => have := HK1.out; have := HK2.out; omega
                      case rel => exact ⟨(x4_2), (IntKind.u64.wrap (x16_2 + 1)), (by first | rfl | (simp; done) | (simp [*]; done)), (by first | rfl | (simp; done) | (simp [*]; done)), H', ⟨by have := HK1.out; have := HK2.out; omega⟩, by repeat (first | exact Drawn0.refl _ | apply Drawn0.step)⟩
                · rw [if_neg c7] at H
                  have c7b0 : (t113 == 1) = false := beq_eq_false_iff_ne.mpr c7
                  have c7b1 : (t113 != 1) = true := bne_iff_ne.mpr c7
                  have H' := Aside0.mk H
                  clear H
                  go_wp2_with (first | ((with_reducible refine gate_callee (f := 37) rfl ?_); refine goesL_ (some 21) rfl rfl Try.func37 (by kernel_rfl) rfl #[.int .u64 a0, .int .u64 x16_2] rfl (by (try simp only [List.map_toArray, List.map_cons, List.map_nil]); first | done | rfl | (simp only [List.length_drop, List.length_take]; rfl)) ?_; (with_reducible refine (spec_bit.calls a0 x16_2 t113 _ A6.out).mono ?_); rintro e w' ⟨rfl, ⟨nd, rfl⟩⟩; refine ⟨_, rfl, ?_⟩))
                  go_roundg k2
                  case measure => have := HK1.out; have := HK2.out; omega
                  case rel => exact ⟨(x4_2), (IntKind.u64.wrap (x16_2 + 1)), (by first | rfl | (simp; done) | (simp [*]; done)), (by first | rfl | (simp; done) | (simp [*]; done)), H', ⟨by have := HK1.out; have := HK2.out; omega⟩, by repeat (first | exact Drawn0.refl _ | apply Drawn0.step)⟩
              · rw [if_neg c5] at H
                have c5b0 : decide (x16_2 < x3_1) = false := decide_eq_false c5
                clear c5
                by_cases c11 : x4_2 = 1
                · rw [if_pos c11] at H
                  have c11b0 : (x4_2 == 1) = true := beq_iff_eq.mpr c11
                  have c11b1 : (x4_2 != 1) = false := bne_eq_false_iff_eq.mpr c11
                  clear c11
                  obtain rfl := Option.some.inj H
                  go_wp2
                  go_ret
                  exact ⟨by first | rfl | (simp; done) | (simp [*]; done), by repeat (first | exact Drawn0.refl _ | apply Drawn0.step)⟩
                · rw [if_neg c11] at H
                  have c11b0 : (x4_2 == 1) = false := beq_eq_false_iff_ne.mpr c11
                  have c11b1 : (x4_2 != 1) = true := bne_iff_ne.mpr c11
                  have H' := Aside0.mk H
                  clear H
                  go_wp2
                  go_roundg k2
                  case measure => have := HK1.out; have := HK2.out; omega
                  case rel => exact ⟨(IntKind.u64.wrap (x3_1 * 2)), (by first | rfl | (simp; done) | (simp [*]; done)), H', ⟨by have := HK1.out; have := HK2.out; omega⟩, by repeat (first | exact Drawn0.refl _ | apply Drawn0.step)⟩
        · rw [if_neg c4] at H
          have c4b0 : (t112 == a0) = false := beq_eq_false_iff_ne.mpr c4
          have c4b1 : (t112 != a0) = true := bne_iff_ne.mpr c4
          have H' := Aside0.mk H
          clear H
          go_wp2_with (first | ((with_reducible refine gate_callee (f := 36) rfl ?_); refine goesL_ (some 12) rfl rfl Try.func36 (by kernel_rfl) rfl #[.int .u64 a0, .int .u64 x3_1] rfl (by (try simp only [List.map_toArray, List.map_cons, List.map_nil]); first | done | rfl | (simp only [List.length_drop, List.length_take]; rfl)) ?_; (with_reducible refine (spec_Repeat.calls k1 a0 x3_1 t112 _ A3.out).mono ?_); rintro e w' ⟨rfl, ⟨nd, rfl⟩⟩; refine ⟨_, rfl, ?_⟩))
          go_roundg k1
          case measure => have := HK1.out; omega
          case rel => exact ⟨(IntKind.u64.wrap (x3_1 * 2)), (by first | rfl | (simp; done) | (simp [*]; done)), H', ⟨by have := HK1.out; omega⟩, by repeat (first | exact Drawn0.refl _ | apply Drawn0.step)⟩
      · rw [if_neg c2] at H
        have c2b0 : decide (x3_1 ≤ 64) = false := decide_eq_false c2
        clear c2
        obtain rfl := Option.some.inj H
        go_wp2
        go_ret
        exact ⟨by first | rfl | (simp; done) | (simp [*]; done), by repeat (first | exact Drawn0.refl _ | apply Drawn0.step)⟩

attribute [local go_sem] signed_u32 max_u32 signed_u64 max_u64
/-! ### laws_FnBitconIs: function 5 -/
def laws_FnBitconIs.f (k : Nat) (a0 : Int) : Option (Bool) := (impl_IsBitcon.f k a0).bind fun t115 => ((spec_IsPattern.f k a0).bind fun t116 => (if (t115 == t116) = true then ((impl_IsBitcon.f k 6).bind fun t117 => (some t117)) else (some false)))
theorem laws_FnBitconIs.mono : ∀ a0 k, LeO (laws_FnBitconIs.f k a0) (laws_FnBitconIs.f (k + 1) a0) := by
  intro a0 k
  unfold laws_FnBitconIs.f
  repeat' first
      | (with_reducible exact impl_IsBitcon.mono _ _)
      | (with_reducible exact spec_IsPattern.mono _ _)
      | (with_reducible exact LeO.refl _)
      | (with_reducible exact LeO.none _)
      | (with_reducible refine LeO.ite ?_ ?_)
      | (with_reducible refine LeO.bind ?_ (fun _ => ?_))
      | exact impl_IsBitcon.mono _ _
      | exact spec_IsPattern.mono _ _
      | exact LeO.none _
      | refine LeO.ite ?_ ?_
      | refine LeO.bind ?_ (fun _ => ?_)
set_option maxHeartbeats 8000000 in
set_option maxRecDepth 100000 in
theorem laws_FnBitconIs.calls (k : Nat) (a0 : Int) (r : Bool) (w : World) (h : laws_FnBitconIs.f k a0 = some r) :
    Calls Try.prog 5 #[.int .u64 a0] w fun e w' => e = .returned (.bool r) ∧ Drawn0 w w' := by
  have H : ((impl_IsBitcon.f k a0).bind fun t115 => ((spec_IsPattern.f k a0).bind fun t116 => (if (t115 == t116) = true then ((impl_IsBitcon.f k 6).bind fun t117 => (some t117)) else (some false)))) = some r := h
  clear h
  replace H := Option.bind_eq_some_iff.mp H
  obtain ⟨t115, A20, H⟩ := H
  replace H : ((spec_IsPattern.f k a0).bind fun t116 => (if (t115 == t116) = true then ((impl_IsBitcon.f k 6).bind fun t117 => (some t117)) else (some false))) = some r := H
  have A2 := Aside0.mk A20
  clear A20
  replace H := Option.bind_eq_some_iff.mp H
  obtain ⟨t116, A30, H⟩ := H
  replace H : (if (t115 == t116) = true then ((impl_IsBitcon.f k 6).bind fun t117 => (some t117)) else (some false)) = some r := H
  have A3 := Aside0.mk A30
  clear A30
  by_cases c4 : (t115 == t116) = true
  · rw [if_pos c4] at H
    have c4b0 : (t115 == t116) = true := c4
    (try (have c4b1 : decide (t115 = t116) = true := by simpa using c4))
    (try (have c4b2 : (t115 == t116) = true := by simpa using c4))
    clear c4
    replace H := Option.bind_eq_some_iff.mp H
    obtain ⟨t117, A50, H⟩ := H
    replace H : (some t117) = some r := H
    have A5 := Aside0.mk A50
    clear A50
    obtain rfl := Option.some.inj H
    go_enter Try.func5, Try.ntmps5
    go_wp2_with (first | ((with_reducible refine gate_callee (f := 16) rfl ?_); refine goesL_ (some 4) rfl rfl Try.func16 (by kernel_rfl) rfl #[.int .u64 a0] rfl (by (try simp only [List.map_toArray, List.map_cons, List.map_nil]); first | done | rfl | (simp only [List.length_drop, List.length_take]; rfl)) ?_; (with_reducible refine (impl_IsBitcon.calls k a0 t115 _ A2.out).mono ?_); rintro e w' ⟨rfl, ⟨nd, rfl⟩⟩; refine ⟨_, rfl, ?_⟩) | ((with_reducible refine gate_callee (f := 17) rfl ?_); refine goesL_ (some 6) rfl rfl Try.func17 (by kernel_rfl) rfl #[.int .u64 a0] rfl (by (try simp only [List.map_toArray, List.map_cons, List.map_nil]); first | done | rfl | (simp only [List.length_drop, List.length_take]; rfl)) ?_; (with_reducible refine (spec_IsPattern.calls k a0 t116 _ A3.out).mono ?_); rintro e w' ⟨rfl, ⟨nd, rfl⟩⟩; refine ⟨_, rfl, ?_⟩) | (go_at_call 16; (with_reducible refine (impl_IsBitcon.calls k 6 t117 _ A5.out).mono ?_); rintro e w' ⟨rfl, ⟨nd, rfl⟩⟩))
    go_ret
    exact ⟨by first | rfl | (simp; done) | (simp [*]; done), by repeat (first | exact Drawn0.refl _ | apply Drawn0.step)⟩
  · rw [if_neg c4] at H
    have c4b0 : (t115 == t116) = false := by simpa using c4
    (try (have c4b1 : decide (t115 = t116) = false := by simpa using c4))
    (try (have c4b2 : (t115 == t116) = false := by simpa using c4))
    (try (have c4b3 : ¬ (t115 = t116) := by simpa using c4))
    clear c4
    obtain rfl := Option.some.inj H
    go_enter Try.func5, Try.ntmps5
    go_wp2_with (first | ((with_reducible refine gate_callee (f := 16) rfl ?_); refine goesL_ (some 4) rfl rfl Try.func16 (by kernel_rfl) rfl #[.int .u64 a0] rfl (by (try simp only [List.map_toArray, List.map_cons, List.map_nil]); first | done | rfl | (simp only [List.length_drop, List.length_take]; rfl)) ?_; (with_reducible refine (impl_IsBitcon.calls k a0 t115 _ A2.out).mono ?_); rintro e w' ⟨rfl, ⟨nd, rfl⟩⟩; refine ⟨_, rfl, ?_⟩) | ((with_reducible refine gate_callee (f := 17) rfl ?_); refine goesL_ (some 6) rfl rfl Try.func17 (by kernel_rfl) rfl #[.int .u64 a0] rfl (by (try simp only [List.map_toArray, List.map_cons, List.map_nil]); first | done | rfl | (simp only [List.length_drop, List.length_take]; rfl)) ?_; (with_reducible refine (spec_IsPattern.calls k a0 t116 _ A3.out).mono ?_); rintro e w' ⟨rfl, ⟨nd, rfl⟩⟩; refine ⟨_, rfl, ?_⟩))
    go_ret
    exact ⟨by first | rfl | (simp; done) | (simp [*]; done), by repeat (first | exact Drawn0.refl _ | apply Drawn0.step)⟩

/-- THE ONE PURE STATEMENT of laws_FnBitconIs: yours. -/
def laws_FnBitconIs.Pure : Prop := ∀ (a0 : Int), (Lit.int .u64 a0).wf = true → ∃ k, laws_FnBitconIs.f k a0 = some true
theorem laws_FnBitconIs.walk (P : laws_FnBitconIs.Pure) (a0 : Int) (w : World) (w0 : (Lit.int .u64 a0).wf = true) :
    Calls Try.prog 5 #[.int .u64 a0] w fun e w' => e = .returned (.bool true) ∧ Below w.heap.size w w' := by
  obtain ⟨k, h⟩ := P a0 w0
  refine (laws_FnBitconIs.calls k a0 true w h).mono ?_
  rintro e w' ⟨rfl, hd⟩
  exact ⟨rfl, hd.below⟩

end Go.Proofs.Ytcihkjjejckicaa.PFnBitconIs
