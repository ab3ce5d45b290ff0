-- Written by a program of this session out of the translation (wip/pp.py): Lean checks it.
import Derived.Test.YtdlhgddagnikdaaPFlx0
namespace Go.Proofs.Ytdlhgddagnikdaa.PFl
open Go.RowKit Go.Proofs.YtdlhgddagnikdaaW.PrintWords Go.Proofs.YtdlhgddagnikdaaW.PrintLast Go.Proofs.YtdlhgddagnikdaaW.PrintMore
attribute [local go_sem] max2_int min2_int max_two min_two max_three min_three max_four min_four   -- for this text's walks alone
set_option linter.unusedVariables false
set_option linter.unusedSimpArgs false

attribute [local go_sem] signed_i64 signed_i32 signed_u32 max_u32 signed_u64 max_u64
/-! ### ssarewrite_flagConstant_N: function 21 -/
def ssarewrite_flagConstant_N.f (a0 : Int) : Option (Bool) := some ((Go.bits .and .u8 a0 1) != 0)
set_option maxHeartbeats 8000000 in
set_option maxRecDepth 100000 in
theorem ssarewrite_flagConstant_N.calls (a0 : Int) (r : Bool) (w : World) (h : ssarewrite_flagConstant_N.f a0 = some r) :
    Calls Try.prog 21 #[.int .u8 a0] w fun e w' => e = .returned (.bool r) ∧ Drawn0 w w' := by
  have H : (some ((Go.bits .and .u8 a0 1) != 0)) = some r := h
  clear h
  obtain rfl := Option.some.inj H
  go_enter Try.func21, Try.ntmps21
  go_wp2
  go_ret
  exact ⟨by first | rfl | (simp; done) | (simp [*]; done), by repeat (first | exact Drawn0.refl _ | apply Drawn0.step)⟩

attribute [local go_sem] signed_i64 signed_i32 signed_u32 max_u32 signed_u64 max_u64
/-! ### ssarewrite_flagConstant_Z: function 22 -/
def ssarewrite_flagConstant_Z.f (a0 : Int) : Option (Bool) := some ((Go.bits .and .u8 a0 2) != 0)
set_option maxHeartbeats 8000000 in
set_option maxRecDepth 100000 in
theorem ssarewrite_flagConstant_Z.calls (a0 : Int) (r : Bool) (w : World) (h : ssarewrite_flagConstant_Z.f a0 = some r) :
    Calls Try.prog 22 #[.int .u8 a0] w fun e w' => e = .returned (.bool r) ∧ Drawn0 w w' := by
  have H : (some ((Go.bits .and .u8 a0 2) != 0)) = some r := h
  clear h
  obtain rfl := Option.some.inj H
  go_enter Try.func22, Try.ntmps22
  go_wp2
  go_ret
  exact ⟨by first | rfl | (simp; done) | (simp [*]; done), by repeat (first | exact Drawn0.refl _ | apply Drawn0.step)⟩

attribute [local go_sem] signed_i64 signed_i32 signed_u32 max_u32 signed_u64 max_u64
/-! ### ssarewrite_flagConstant_C: function 23 -/
def ssarewrite_flagConstant_C.f (a0 : Int) : Option (Bool) := some ((Go.bits .and .u8 a0 4) != 0)
set_option maxHeartbeats 8000000 in
set_option maxRecDepth 100000 in
theorem ssarewrite_flagConstant_C.calls (a0 : Int) (r : Bool) (w : World) (h : ssarewrite_flagConstant_C.f a0 = some r) :
    Calls Try.prog 23 #[.int .u8 a0] w fun e w' => e = .returned (.bool r) ∧ Drawn0 w w' := by
  have H : (some ((Go.bits .and .u8 a0 4) != 0)) = some r := h
  clear h
  obtain rfl := Option.some.inj H
  go_enter Try.func23, Try.ntmps23
  go_wp2
  go_ret
  exact ⟨by first | rfl | (simp; done) | (simp [*]; done), by repeat (first | exact Drawn0.refl _ | apply Drawn0.step)⟩

attribute [local go_sem] signed_i64 signed_i32 signed_u32 max_u32 signed_u64 max_u64
/-! ### ssarewrite_flagConstant_V: function 24 -/
def ssarewrite_flagConstant_V.f (a0 : Int) : Option (Bool) := some ((Go.bits .and .u8 a0 8) != 0)
set_option maxHeartbeats 8000000 in
set_option maxRecDepth 100000 in
theorem ssarewrite_flagConstant_V.calls (a0 : Int) (r : Bool) (w : World) (h : ssarewrite_flagConstant_V.f a0 = some r) :
    Calls Try.prog 24 #[.int .u8 a0] w fun e w' => e = .returned (.bool r) ∧ Drawn0 w w' := by
  have H : (some ((Go.bits .and .u8 a0 8) != 0)) = some r := h
  clear h
  obtain rfl := Option.some.inj H
  go_enter Try.func24, Try.ntmps24
  go_wp2
  go_ret
  exact ⟨by first | rfl | (simp; done) | (simp [*]; done), by repeat (first | exact Drawn0.refl _ | apply Drawn0.step)⟩

end Go.Proofs.Ytdlhgddagnikdaa.PFl
