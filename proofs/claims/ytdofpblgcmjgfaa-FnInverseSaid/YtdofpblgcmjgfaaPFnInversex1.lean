-- Written by a program of this session out of the translation (wip/pp.py): Lean checks it.
import Derived.Test.YtdofpblgcmjgfaaPFnInversex0
namespace Go.Proofs.Ytdofpblgcmjgfaa.PFnInverse
open Go.RowKit Go.Proofs.YtdofpblgcmjgfaaW.PrintWords Go.Proofs.YtdofpblgcmjgfaaW.PrintLast Go.Proofs.YtdofpblgcmjgfaaW.PrintMore
attribute [local go_sem] max2_int min2_int max_two min_two max_three min_three max_four min_four   -- for this text's walks alone
set_option linter.unusedVariables false
set_option linter.unusedSimpArgs false

/-! ### ssarewrite_modularMultiplicativeInverse: function 56 -/
def ssarewrite_modularMultiplicativeInverse.f (a0 : Int) : Option (Int) := if (Int.tmod a0 2) = 1 then (some (IntKind.u64.wrap ((IntKind.u64.wrap ((IntKind.u64.wrap ((IntKind.u64.wrap ((IntKind.u64.wrap (a0 * (IntKind.u64.wrap (2 - (IntKind.u64.wrap (a0 * a0)))))) * (IntKind.u64.wrap (2 - (IntKind.u64.wrap (a0 * (IntKind.u64.wrap (a0 * (IntKind.u64.wrap (2 - (IntKind.u64.wrap (a0 * a0)))))))))))) * (IntKind.u64.wrap (2 - (IntKind.u64.wrap (a0 * (IntKind.u64.wrap ((IntKind.u64.wrap (a0 * (IntKind.u64.wrap (2 - (IntKind.u64.wrap (a0 * a0)))))) * (IntKind.u64.wrap (2 - (IntKind.u64.wrap (a0 * (IntKind.u64.wrap (a0 * (IntKind.u64.wrap (2 - (IntKind.u64.wrap (a0 * a0)))))))))))))))))) * (IntKind.u64.wrap (2 - (IntKind.u64.wrap (a0 * (IntKind.u64.wrap ((IntKind.u64.wrap ((IntKind.u64.wrap (a0 * (IntKind.u64.wrap (2 - (IntKind.u64.wrap (a0 * a0)))))) * (IntKind.u64.wrap (2 - (IntKind.u64.wrap (a0 * (IntKind.u64.wrap (a0 * (IntKind.u64.wrap (2 - (IntKind.u64.wrap (a0 * a0)))))))))))) * (IntKind.u64.wrap (2 - (IntKind.u64.wrap (a0 * (IntKind.u64.wrap ((IntKind.u64.wrap (a0 * (IntKind.u64.wrap (2 - (IntKind.u64.wrap (a0 * a0)))))) * (IntKind.u64.wrap (2 - (IntKind.u64.wrap (a0 * (IntKind.u64.wrap (a0 * (IntKind.u64.wrap (2 - (IntKind.u64.wrap (a0 * a0)))))))))))))))))))))))) * (IntKind.u64.wrap (2 - (IntKind.u64.wrap (a0 * (IntKind.u64.wrap ((IntKind.u64.wrap ((IntKind.u64.wrap ((IntKind.u64.wrap (a0 * (IntKind.u64.wrap (2 - (IntKind.u64.wrap (a0 * a0)))))) * (IntKind.u64.wrap (2 - (IntKind.u64.wrap (a0 * (IntKind.u64.wrap (a0 * (IntKind.u64.wrap (2 - (IntKind.u64.wrap (a0 * a0)))))))))))) * (IntKind.u64.wrap (2 - (IntKind.u64.wrap (a0 * (IntKind.u64.wrap ((IntKind.u64.wrap (a0 * (IntKind.u64.wrap (2 - (IntKind.u64.wrap (a0 * a0)))))) * (IntKind.u64.wrap (2 - (IntKind.u64.wrap (a0 * (IntKind.u64.wrap (a0 * (IntKind.u64.wrap (2 - (IntKind.u64.wrap (a0 * a0)))))))))))))))))) * (IntKind.u64.wrap (2 - (IntKind.u64.wrap (a0 * (IntKind.u64.wrap ((IntKind.u64.wrap ((IntKind.u64.wrap (a0 * (IntKind.u64.wrap (2 - (IntKind.u64.wrap (a0 * a0)))))) * (IntKind.u64.wrap (2 - (IntKind.u64.wrap (a0 * (IntKind.u64.wrap (a0 * (IntKind.u64.wrap (2 - (IntKind.u64.wrap (a0 * a0)))))))))))) * (IntKind.u64.wrap (2 - (IntKind.u64.wrap (a0 * (IntKind.u64.wrap ((IntKind.u64.wrap (a0 * (IntKind.u64.wrap (2 - (IntKind.u64.wrap (a0 * a0)))))) * (IntKind.u64.wrap (2 - (IntKind.u64.wrap (a0 * (IntKind.u64.wrap (a0 * (IntKind.u64.wrap (2 - (IntKind.u64.wrap (a0 * a0))))))))))))))))))))))))))))))) else (none)
set_option maxHeartbeats 8000000 in
set_option maxRecDepth 100000 in
theorem ssarewrite_modularMultiplicativeInverse.calls (a0 : Int) (r : Int) (w : World) (h : ssarewrite_modularMultiplicativeInverse.f a0 = some r) :
    Calls Try.prog 56 #[.int .u64 a0] w fun e w' => e = .returned (.int .u64 r) ∧ Drawn0 w w' := by
  have H : (if (Int.tmod a0 2) = 1 then (some (IntKind.u64.wrap ((IntKind.u64.wrap ((IntKind.u64.wrap ((IntKind.u64.wrap ((IntKind.u64.wrap (a0 * (IntKind.u64.wrap (2 - (IntKind.u64.wrap (a0 * a0)))))) * (IntKind.u64.wrap (2 - (IntKind.u64.wrap (a0 * (IntKind.u64.wrap (a0 * (IntKind.u64.wrap (2 - (IntKind.u64.wrap (a0 * a0)))))))))))) * (IntKind.u64.wrap (2 - (IntKind.u64.wrap (a0 * (IntKind.u64.wrap ((IntKind.u64.wrap (a0 * (IntKind.u64.wrap (2 - (IntKind.u64.wrap (a0 * a0)))))) * (IntKind.u64.wrap (2 - (IntKind.u64.wrap (a0 * (IntKind.u64.wrap (a0 * (IntKind.u64.wrap (2 - (IntKind.u64.wrap (a0 * a0)))))))))))))))))) * (IntKind.u64.wrap (2 - (IntKind.u64.wrap (a0 * (IntKind.u64.wrap ((IntKind.u64.wrap ((IntKind.u64.wrap (a0 * (IntKind.u64.wrap (2 - (IntKind.u64.wrap (a0 * a0)))))) * (IntKind.u64.wrap (2 - (IntKind.u64.wrap (a0 * (IntKind.u64.wrap (a0 * (IntKind.u64.wrap (2 - (IntKind.u64.wrap (a0 * a0)))))))))))) * (IntKind.u64.wrap (2 - (IntKind.u64.wrap (a0 * (IntKind.u64.wrap ((IntKind.u64.wrap (a0 * (IntKind.u64.wrap (2 - (IntKind.u64.wrap (a0 * a0)))))) * (IntKind.u64.wrap (2 - (IntKind.u64.wrap (a0 * (IntKind.u64.wrap (a0 * (IntKind.u64.wrap (2 - (IntKind.u64.wrap (a0 * a0)))))))))))))))))))))))) * (IntKind.u64.wrap (2 - (IntKind.u64.wrap (a0 * (IntKind.u64.wrap ((IntKind.u64.wrap ((IntKind.u64.wrap ((IntKind.u64.wrap (a0 * (IntKind.u64.wrap (2 - (IntKind.u64.wrap (a0 * a0)))))) * (IntKind.u64.wrap (2 - (IntKind.u64.wrap (a0 * (IntKind.u64.wrap (a0 * (IntKind.u64.wrap (2 - (IntKind.u64.wrap (a0 * a0)))))))))))) * (IntKind.u64.wrap (2 - (IntKind.u64.wrap (a0 * (IntKind.u64.wrap ((IntKind.u64.wrap (a0 * (IntKind.u64.wrap (2 - (IntKind.u64.wrap (a0 * a0)))))) * (IntKind.u64.wrap (2 - (IntKind.u64.wrap (a0 * (IntKind.u64.wrap (a0 * (IntKind.u64.wrap (2 - (IntKind.u64.wrap (a0 * a0)))))))))))))))))) * (IntKind.u64.wrap (2 - (IntKind.u64.wrap (a0 * (IntKind.u64.wrap ((IntKind.u64.wrap ((IntKind.u64.wrap (a0 * (IntKind.u64.wrap (2 - (IntKind.u64.wrap (a0 * a0)))))) * (IntKind.u64.wrap (2 - (IntKind.u64.wrap (a0 * (IntKind.u64.wrap (a0 * (IntKind.u64.wrap (2 - (IntKind.u64.wrap (a0 * a0)))))))))))) * (IntKind.u64.wrap (2 - (IntKind.u64.wrap (a0 * (IntKind.u64.wrap ((IntKind.u64.wrap (a0 * (IntKind.u64.wrap (2 - (IntKind.u64.wrap (a0 * a0)))))) * (IntKind.u64.wrap (2 - (IntKind.u64.wrap (a0 * (IntKind.u64.wrap (a0 * (IntKind.u64.wrap (2 - (IntKind.u64.wrap (a0 * a0))))))))))))))))))))))))))))))) else (none)) = some r := h
  clear h
  by_cases c2 : (Int.tmod a0 2) = 1
  · rw [if_pos c2] at H
    have c2b0 : ((Int.tmod a0 2) == 1) = true := beq_iff_eq.mpr c2
    have c2b1 : ((Int.tmod a0 2) != 1) = false := bne_eq_false_iff_eq.mpr c2
    clear c2
    obtain rfl := Option.some.inj H
    go_enter Try.func56, Try.ntmps56
    go_wp2
    go_ret
    exact ⟨by first | rfl | (simp; done) | (simp [*]; done), by repeat (first | exact Drawn0.refl _ | apply Drawn0.step)⟩
  · rw [if_neg c2] at H
    exact absurd H (by simp)

/-! ### ssarewrite_ZZModularMultiplicativeInverse: function 43 -/
def ssarewrite_ZZModularMultiplicativeInverse.f (a0 : Int) : Option (Int) := (ssarewrite_modularMultiplicativeInverse.f a0).bind fun t101 => (some t101)
set_option maxHeartbeats 8000000 in
set_option maxRecDepth 100000 in
theorem ssarewrite_ZZModularMultiplicativeInverse.calls (a0 : Int) (r : Int) (w : World) (h : ssarewrite_ZZModularMultiplicativeInverse.f a0 = some r) :
    Calls Try.prog 43 #[.int .u64 a0] w fun e w' => e = .returned (.int .u64 r) ∧ Drawn0 w w' := by
  have H : ((ssarewrite_modularMultiplicativeInverse.f a0).bind fun t101 => (some t101)) = some r := h
  clear h
  replace H := Option.bind_eq_some_iff.mp H
  obtain ⟨t101, A20, H⟩ := H
  replace H : (some t101) = some r := H
  have A2 := Aside0.mk A20
  clear A20
  obtain rfl := Option.some.inj H
  go_enter Try.func43, Try.ntmps43
  go_wp2_with (first | ((with_reducible refine gate_callee (f := 56) rfl ?_); refine goesL_ (some 4) rfl rfl Try.func56 (by kernel_rfl) rfl #[.int .u64 a0] rfl (by (try simp only [List.map_toArray, List.map_cons, List.map_nil]); first | done | rfl | (simp only [List.length_drop, List.length_take]; rfl)) ?_; (with_reducible refine (ssarewrite_modularMultiplicativeInverse.calls a0 t101 _ A2.out).mono ?_); rintro e w' ⟨rfl, ⟨nd, rfl⟩⟩; refine ⟨_, rfl, ?_⟩))
  go_ret
  exact ⟨by first | rfl | (simp; done) | (simp [*]; done), by repeat (first | exact Drawn0.refl _ | apply Drawn0.step)⟩

/-! ### impl_Inverse: function 28 -/
def impl_Inverse.f (a0 : Int) : Option (Int) := (ssarewrite_ZZModularMultiplicativeInverse.f a0).bind fun t102 => (some t102)
set_option maxHeartbeats 8000000 in
set_option maxRecDepth 100000 in
theorem impl_Inverse.calls (a0 : Int) (r : Int) (w : World) (h : impl_Inverse.f a0 = some r) :
    Calls Try.prog 28 #[.int .u64 a0] w fun e w' => e = .returned (.int .u64 r) ∧ Drawn0 w w' := by
  have H : ((ssarewrite_ZZModularMultiplicativeInverse.f a0).bind fun t102 => (some t102)) = some r := h
  clear h
  replace H := Option.bind_eq_some_iff.mp H
  obtain ⟨t102, A20, H⟩ := H
  replace H : (some t102) = some r := H
  have A2 := Aside0.mk A20
  clear A20
  obtain rfl := Option.some.inj H
  go_enter Try.func28, Try.ntmps28
  go_wp2_with (first | ((with_reducible refine gate_callee (f := 43) rfl ?_); refine goesL_ (some 4) rfl rfl Try.func43 (by kernel_rfl) rfl #[.int .u64 a0] rfl (by (try simp only [List.map_toArray, List.map_cons, List.map_nil]); first | done | rfl | (simp only [List.length_drop, List.length_take]; rfl)) ?_; (with_reducible refine (ssarewrite_ZZModularMultiplicativeInverse.calls a0 t102 _ A2.out).mono ?_); rintro e w' ⟨rfl, ⟨nd, rfl⟩⟩; refine ⟨_, rfl, ?_⟩))
  go_ret
  exact ⟨by first | rfl | (simp; done) | (simp [*]; done), by repeat (first | exact Drawn0.refl _ | apply Drawn0.step)⟩

/-! ### laws_FnInverse: function 10 -/
def laws_FnInverse.f (a0 : Int) : Option (Bool) := (impl_Inverse.f (Go.bits .or .u64 a0 1)).bind fun t103 => (if (IntKind.u64.wrap ((Go.bits .or .u64 a0 1) * t103)) = 1 then ((impl_Inverse.f t103).bind fun t104 => (some (t104 == (Go.bits .or .u64 a0 1)))) else (some false))
set_option maxHeartbeats 8000000 in
set_option maxRecDepth 100000 in
theorem laws_FnInverse.calls (a0 : Int) (r : Bool) (w : World) (h : laws_FnInverse.f a0 = some r) :
    Calls Try.prog 10 #[.int .u64 a0] w fun e w' => e = .returned (.bool r) ∧ Drawn0 w w' := by
  have H : ((impl_Inverse.f (Go.bits .or .u64 a0 1)).bind fun t103 => (if (IntKind.u64.wrap ((Go.bits .or .u64 a0 1) * t103)) = 1 then ((impl_Inverse.f t103).bind fun t104 => (some (t104 == (Go.bits .or .u64 a0 1)))) else (some false))) = some r := h
  clear h
  replace H := Option.bind_eq_some_iff.mp H
  obtain ⟨t103, A20, H⟩ := H
  replace H : (if (IntKind.u64.wrap ((Go.bits .or .u64 a0 1) * t103)) = 1 then ((impl_Inverse.f t103).bind fun t104 => (some (t104 == (Go.bits .or .u64 a0 1)))) else (some false)) = some r := H
  have A2 := Aside0.mk A20
  clear A20
  by_cases c3 : (IntKind.u64.wrap ((Go.bits .or .u64 a0 1) * t103)) = 1
  · rw [if_pos c3] at H
    have c3b0 : ((IntKind.u64.wrap ((Go.bits .or .u64 a0 1) * t103)) == 1) = true := beq_iff_eq.mpr c3
    have c3b1 : ((IntKind.u64.wrap ((Go.bits .or .u64 a0 1) * t103)) != 1) = false := bne_eq_false_iff_eq.mpr c3
    clear c3
    replace H := Option.bind_eq_some_iff.mp H
    obtain ⟨t104, A40, H⟩ := H
    replace H : (some (t104 == (Go.bits .or .u64 a0 1))) = some r := H
    have A4 := Aside0.mk A40
    clear A40
    obtain rfl := Option.some.inj H
    go_enter Try.func10, Try.ntmps10
    go_wp2_with (first | ((with_reducible refine gate_callee (f := 28) rfl ?_); refine goesL_ (some 8) rfl rfl Try.func28 (by kernel_rfl) rfl #[.int .u64 (Go.bits .or .u64 a0 1)] rfl (by (try simp only [List.map_toArray, List.map_cons, List.map_nil]); first | done | rfl | (simp only [List.length_drop, List.length_take]; rfl)) ?_; (with_reducible refine (impl_Inverse.calls (Go.bits .or .u64 a0 1) t103 _ A2.out).mono ?_); rintro e w' ⟨rfl, ⟨nd, rfl⟩⟩; refine ⟨_, rfl, ?_⟩) | (go_at_call 28; (with_reducible refine (impl_Inverse.calls t103 t104 _ A4.out).mono ?_); rintro e w' ⟨rfl, ⟨nd, rfl⟩⟩))
    go_ret
    exact ⟨by first | rfl | (simp; done) | (simp [*]; done), by repeat (first | exact Drawn0.refl _ | apply Drawn0.step)⟩
  · rw [if_neg c3] at H
    have c3b0 : ((IntKind.u64.wrap ((Go.bits .or .u64 a0 1) * t103)) == 1) = false := beq_eq_false_iff_ne.mpr c3
    have c3b1 : ((IntKind.u64.wrap ((Go.bits .or .u64 a0 1) * t103)) != 1) = true := bne_iff_ne.mpr c3
    obtain rfl := Option.some.inj H
    go_enter Try.func10, Try.ntmps10
    go_wp2_with (first | ((with_reducible refine gate_callee (f := 28) rfl ?_); refine goesL_ (some 8) rfl rfl Try.func28 (by kernel_rfl) rfl #[.int .u64 (Go.bits .or .u64 a0 1)] rfl (by (try simp only [List.map_toArray, List.map_cons, List.map_nil]); first | done | rfl | (simp only [List.length_drop, List.length_take]; rfl)) ?_; (with_reducible refine (impl_Inverse.calls (Go.bits .or .u64 a0 1) t103 _ A2.out).mono ?_); rintro e w' ⟨rfl, ⟨nd, rfl⟩⟩; refine ⟨_, rfl, ?_⟩))
    go_ret
    exact ⟨by first | rfl | (simp; done) | (simp [*]; done), by repeat (first | exact Drawn0.refl _ | apply Drawn0.step)⟩

/-- THE ONE PURE STATEMENT of laws_FnInverse: yours. -/
def laws_FnInverse.Pure : Prop := ∀ (a0 : Int), (Lit.int .u64 a0).wf = true → laws_FnInverse.f a0 = some true
theorem laws_FnInverse.walk (P : laws_FnInverse.Pure) (a0 : Int) (w : World) (w0 : (Lit.int .u64 a0).wf = true) :
    Calls Try.prog 10 #[.int .u64 a0] w fun e w' => e = .returned (.bool true) ∧ Below w.heap.size w w' := by
  have h := P a0 w0
  refine (laws_FnInverse.calls a0 true w h).mono ?_
  rintro e w' ⟨rfl, hd⟩
  exact ⟨rfl, hd.below⟩

end Go.Proofs.Ytdofpblgcmjgfaa.PFnInverse
