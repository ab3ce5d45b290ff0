-- Written by a program of this session out of the translation (wip/pp.py): Lean checks it.
import Derived.Test.YtdlhgddagnikdaaPFlx0
import Derived.Test.YtdlhgddagnikdaaPFlx1
import Derived.Test.YtdlhgddagnikdaaPFlx5
namespace Go.Proofs.Ytdlhgddagnikdaa.PFl
open Go.RowKit Go.Proofs.YtdlhgddagnikdaaW.PrintWords Go.Proofs.YtdlhgddagnikdaaW.PrintLast Go.Proofs.YtdlhgddagnikdaaW.PrintMore
attribute [local go_sem] max2_int min2_int max_two min_two max_three min_three max_four min_four   -- for this text's walks alone
set_option linter.unusedVariables false
set_option linter.unusedSimpArgs false

attribute [local go_sem] signed_i64 signed_i32 signed_u32 max_u32 signed_u64 max_u64
/-! ### ssarewrite_flagConstant_Ge: function 30 -/
def ssarewrite_flagConstant_Ge.f (a0 : Int) : Option (Bool) := (ssarewrite_flagConstant_ge.f a0).bind fun t116 => (some t116)
set_option maxHeartbeats 8000000 in
set_option maxRecDepth 100000 in
theorem ssarewrite_flagConstant_Ge.calls (a0 : Int) (r : Bool) (w : World) (h : ssarewrite_flagConstant_Ge.f a0 = some r) :
    Calls Try.prog 30 #[.int .u8 a0] w fun e w' => e = .returned (.bool r) ∧ Drawn0 w w' := by
  have H : ((ssarewrite_flagConstant_ge.f a0).bind fun t116 => (some t116)) = some r := h
  clear h
  replace H := Option.bind_eq_some_iff.mp H
  obtain ⟨t116, A20, H⟩ := H
  replace H : (some t116) = some r := H
  have A2 := Aside0.mk A20
  clear A20
  obtain rfl := Option.some.inj H
  go_enter Try.func30, Try.ntmps30
  go_wp2_with (first | ((with_reducible refine gate_callee (f := 49) rfl ?_); refine goesL_ (some 4) rfl rfl Try.func49 (by kernel_rfl) rfl #[.int .u8 a0] rfl (by (try simp only [List.map_toArray, List.map_cons, List.map_nil]); first | done | rfl | (simp only [List.length_drop, List.length_take]; rfl)) ?_; (with_reducible refine (ssarewrite_flagConstant_ge.calls a0 t116 _ A2.out).mono ?_); rintro e w' ⟨rfl, ⟨nd, rfl⟩⟩; refine ⟨_, rfl, ?_⟩))
  go_ret
  exact ⟨by first | rfl | (simp; done) | (simp [*]; done), by repeat (first | exact Drawn0.refl _ | apply Drawn0.step)⟩

attribute [local go_sem] signed_i64 signed_i32 signed_u32 max_u32 signed_u64 max_u64
/-! ### ssarewrite_flagConstant_ult: function 50 -/
def ssarewrite_flagConstant_ult.f (a0 : Int) : Option (Bool) := (ssarewrite_flagConstant_C.f a0).bind fun t117 => (some (!t117))
set_option maxHeartbeats 8000000 in
set_option maxRecDepth 100000 in
theorem ssarewrite_flagConstant_ult.calls (a0 : Int) (r : Bool) (w : World) (h : ssarewrite_flagConstant_ult.f a0 = some r) :
    Calls Try.prog 50 #[.int .u8 a0] w fun e w' => e = .returned (.bool r) ∧ Drawn0 w w' := by
  have H : ((ssarewrite_flagConstant_C.f a0).bind fun t117 => (some (!t117))) = some r := h
  clear h
  replace H := Option.bind_eq_some_iff.mp H
  obtain ⟨t117, A20, H⟩ := H
  replace H : (some (!t117)) = some r := H
  have A2 := Aside0.mk A20
  clear A20
  obtain rfl := Option.some.inj H
  go_enter Try.func50, Try.ntmps50
  go_wp2_with (first | ((with_reducible refine gate_callee (f := 23) rfl ?_); refine goesL_ (some 4) rfl rfl Try.func23 (by kernel_rfl) rfl #[.int .u8 a0] rfl (by (try simp only [List.map_toArray, List.map_cons, List.map_nil]); first | done | rfl | (simp only [List.length_drop, List.length_take]; rfl)) ?_; (with_reducible refine (ssarewrite_flagConstant_C.calls a0 t117 _ A2.out).mono ?_); rintro e w' ⟨rfl, ⟨nd, rfl⟩⟩; refine ⟨_, rfl, ?_⟩))
  go_ret
  exact ⟨by first | rfl | (simp; done) | (simp [*]; done), by repeat (first | exact Drawn0.refl _ | apply Drawn0.step)⟩

attribute [local go_sem] signed_i64 signed_i32 signed_u32 max_u32 signed_u64 max_u64
/-! ### ssarewrite_flagConstant_Ult: function 31 -/
def ssarewrite_flagConstant_Ult.f (a0 : Int) : Option (Bool) := (ssarewrite_flagConstant_ult.f a0).bind fun t118 => (some t118)
set_option maxHeartbeats 8000000 in
set_option maxRecDepth 100000 in
theorem ssarewrite_flagConstant_Ult.calls (a0 : Int) (r : Bool) (w : World) (h : ssarewrite_flagConstant_Ult.f a0 = some r) :
    Calls Try.prog 31 #[.int .u8 a0] w fun e w' => e = .returned (.bool r) ∧ Drawn0 w w' := by
  have H : ((ssarewrite_flagConstant_ult.f a0).bind fun t118 => (some t118)) = some r := h
  clear h
  replace H := Option.bind_eq_some_iff.mp H
  obtain ⟨t118, A20, H⟩ := H
  replace H : (some t118) = some r := H
  have A2 := Aside0.mk A20
  clear A20
  obtain rfl := Option.some.inj H
  go_enter Try.func31, Try.ntmps31
  go_wp2_with (first | ((with_reducible refine gate_callee (f := 50) rfl ?_); refine goesL_ (some 4) rfl rfl Try.func50 (by kernel_rfl) rfl #[.int .u8 a0] rfl (by (try simp only [List.map_toArray, List.map_cons, List.map_nil]); first | done | rfl | (simp only [List.length_drop, List.length_take]; rfl)) ?_; (with_reducible refine (ssarewrite_flagConstant_ult.calls a0 t118 _ A2.out).mono ?_); rintro e w' ⟨rfl, ⟨nd, rfl⟩⟩; refine ⟨_, rfl, ?_⟩))
  go_ret
  exact ⟨by first | rfl | (simp; done) | (simp [*]; done), by repeat (first | exact Drawn0.refl _ | apply Drawn0.step)⟩

end Go.Proofs.Ytdlhgddagnikdaa.PFl
