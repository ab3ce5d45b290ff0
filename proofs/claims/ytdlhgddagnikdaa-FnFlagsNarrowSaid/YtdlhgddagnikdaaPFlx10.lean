-- Written by a program of this session out of the translation (wip/pp.py): Lean checks it.
import Derived.Test.YtdlhgddagnikdaaPFlx0
import Derived.Test.YtdlhgddagnikdaaPFlx9
namespace Go.Proofs.Ytdlhgddagnikdaa.PFl
open Go.RowKit Go.Proofs.YtdlhgddagnikdaaW.PrintWords Go.Proofs.YtdlhgddagnikdaaW.PrintLast Go.Proofs.YtdlhgddagnikdaaW.PrintMore
attribute [local go_sem] max2_int min2_int max_two min_two max_three min_three max_four min_four   -- for this text's walks alone
set_option linter.unusedVariables false
set_option linter.unusedSimpArgs false

attribute [local go_sem] signed_i64 signed_i32 signed_u32 max_u32 signed_u64 max_u64
/-! ### ssarewrite_flagConstant_Ugt: function 33 -/
def ssarewrite_flagConstant_Ugt.f (a0 : Int) : Option (Bool) := (ssarewrite_flagConstant_ugt.f a0).bind fun t125 => (some t125)
set_option maxHeartbeats 8000000 in
set_option maxRecDepth 100000 in
theorem ssarewrite_flagConstant_Ugt.calls (a0 : Int) (r : Bool) (w : World) (h : ssarewrite_flagConstant_Ugt.f a0 = some r) :
    Calls Try.prog 33 #[.int .u8 a0] w fun e w' => e = .returned (.bool r) ∧ Drawn0 w w' := by
  have H : ((ssarewrite_flagConstant_ugt.f a0).bind fun t125 => (some t125)) = some r := h
  clear h
  replace H := Option.bind_eq_some_iff.mp H
  obtain ⟨t125, A20, H⟩ := H
  replace H : (some t125) = some r := H
  have A2 := Aside0.mk A20
  clear A20
  obtain rfl := Option.some.inj H
  go_enter Try.func33, Try.ntmps33
  go_wp2_with (first | ((with_reducible refine gate_callee (f := 52) rfl ?_); refine goesL_ (some 4) rfl rfl Try.func52 (by kernel_rfl) rfl #[.int .u8 a0] rfl (by (try simp only [List.map_toArray, List.map_cons, List.map_nil]); first | done | rfl | (simp only [List.length_drop, List.length_take]; rfl)) ?_; (with_reducible refine (ssarewrite_flagConstant_ugt.calls a0 t125 _ A2.out).mono ?_); rintro e w' ⟨rfl, ⟨nd, rfl⟩⟩; refine ⟨_, rfl, ?_⟩))
  go_ret
  exact ⟨by first | rfl | (simp; done) | (simp [*]; done), by repeat (first | exact Drawn0.refl _ | apply Drawn0.step)⟩

attribute [local go_sem] signed_i64 signed_i32 signed_u32 max_u32 signed_u64 max_u64
/-! ### ssarewrite_flagConstant_Uge: function 34 -/
def ssarewrite_flagConstant_Uge.f (a0 : Int) : Option (Bool) := (ssarewrite_flagConstant_uge.f a0).bind fun t126 => (some t126)
set_option maxHeartbeats 8000000 in
set_option maxRecDepth 100000 in
theorem ssarewrite_flagConstant_Uge.calls (a0 : Int) (r : Bool) (w : World) (h : ssarewrite_flagConstant_Uge.f a0 = some r) :
    Calls Try.prog 34 #[.int .u8 a0] w fun e w' => e = .returned (.bool r) ∧ Drawn0 w w' := by
  have H : ((ssarewrite_flagConstant_uge.f a0).bind fun t126 => (some t126)) = some r := h
  clear h
  replace H := Option.bind_eq_some_iff.mp H
  obtain ⟨t126, A20, H⟩ := H
  replace H : (some t126) = some r := H
  have A2 := Aside0.mk A20
  clear A20
  obtain rfl := Option.some.inj H
  go_enter Try.func34, Try.ntmps34
  go_wp2_with (first | ((with_reducible refine gate_callee (f := 53) rfl ?_); refine goesL_ (some 4) rfl rfl Try.func53 (by kernel_rfl) rfl #[.int .u8 a0] rfl (by (try simp only [List.map_toArray, List.map_cons, List.map_nil]); first | done | rfl | (simp only [List.length_drop, List.length_take]; rfl)) ?_; (with_reducible refine (ssarewrite_flagConstant_uge.calls a0 t126 _ A2.out).mono ?_); rintro e w' ⟨rfl, ⟨nd, rfl⟩⟩; refine ⟨_, rfl, ?_⟩))
  go_ret
  exact ⟨by first | rfl | (simp; done) | (simp [*]; done), by repeat (first | exact Drawn0.refl _ | apply Drawn0.step)⟩

end Go.Proofs.Ytdlhgddagnikdaa.PFl
