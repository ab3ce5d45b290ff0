-- Written by a program of this session out of the translation (wip/pp.py): Lean checks it.
import Derived.Test.YtlcaejikcelgoaaDoorPFnClrlsldiSrwx0
import Derived.Test.YtlcaejikcelgoaaDoorPFnClrlsldiSrwx1
namespace Go.Proofs.YtlcaejikcelgoaaDoor.PFnClrlsldiSrw
open Go.RowKit Go.Proofs.YtlcaejikcelgoaaDoorW.PrintWords Go.Proofs.YtlcaejikcelgoaaDoorW.PrintLast Go.Proofs.YtlcaejikcelgoaaDoorW.PrintMore
attribute [local go_sem] max2_int min2_int max_two min_two max_three min_three max_four min_four   -- for this text's walks alone
set_option linter.unusedVariables false
set_option linter.unusedSimpArgs false

attribute [local go_sem] signed_i64 signed_i32 signed_u32 max_u32 signed_u64 max_u64
/-! ### laws_mkWorks: function 22 -/
def laws_mkWorks.f  : Option (Bool) := (impl_IsWordRotateMask.f 6).bind fun t119 => (some t119)
set_option maxHeartbeats 8000000 in
set_option maxRecDepth 100000 in
theorem laws_mkWorks.calls  (r : Bool) (w : World) (h : laws_mkWorks.f  = some r) :
    Calls Tryd.prog 22 #[] w fun e w' => e = .returned (.bool r) ∧ Drawn0 w w' := by
  have H : ((impl_IsWordRotateMask.f 6).bind fun t119 => (some t119)) = some r := h
  clear h
  replace H := Option.bind_eq_some_iff.mp H
  obtain ⟨t119, A10, H⟩ := H
  replace H : (some t119) = some r := H
  have A1 := Aside0.mk A10
  clear A10
  obtain rfl := Option.some.inj H
  go_enter Tryd.func22, Tryd.ntmps22
  go_wp2_with (first | ((with_reducible refine gate_callee (f := 38) rfl ?_); refine goesL_ (some 1) rfl rfl Tryd.func38 (by kernel_rfl) rfl #[.int .i64 6] rfl (by (try simp only [List.map_toArray, List.map_cons, List.map_nil]); first | done | rfl | (simp only [List.length_drop, List.length_take]; rfl)) ?_; (with_reducible refine (impl_IsWordRotateMask.calls 6 t119 _ A1.out).mono ?_); rintro e w' ⟨rfl, ⟨nd, rfl⟩⟩; refine ⟨_, rfl, ?_⟩))
  go_ret
  exact ⟨by first | rfl | (simp; done) | (simp [*]; done), by repeat (first | exact Drawn0.refl _ | apply Drawn0.step)⟩

attribute [local go_sem] signed_i64 signed_i32 signed_u32 max_u32 signed_u64 max_u64
/-! ### ssarewrite_DecodePPC64RotateMask: function 32 -/
def ssarewrite_DecodePPC64RotateMask.f (a0 : Int) : Option (Int × Int × Int × Int) := if 0 ≤ (IntKind.u64.wrap (wrap64 ((wrap64 (Go.bits .and .u64 ((IntKind.u64.wrap (a0)) / 16777216) 255)) - (wrap64 (Go.bits .and .u64 ((IntKind.u64.wrap (a0)) / 256) 255))))) then (if 0 ≤ (IntKind.u64.wrap (wrap64 ((wrap64 (Go.bits .and .u64 ((IntKind.u64.wrap (a0)) / 16777216) 255)) - (wrap64 (Go.bits .and .u64 (IntKind.u64.wrap (a0)) 255))))) then (if (wrap64 (Go.bits .and .u64 ((IntKind.u64.wrap (a0)) / 256) 255)) > (wrap64 (Go.bits .and .u64 (IntKind.u64.wrap (a0)) 255)) then (if (wrap64 (Go.bits .and .u64 ((IntKind.u64.wrap (a0)) / 16777216) 255)) = 32 then (some (wrap64 (Go.bits .and .u64 ((IntKind.u64.wrap (a0)) / 65536) 255), wrap64 (Go.bits .and .u64 ((IntKind.u64.wrap (a0)) / 256) 255), Go.bits .and .i64 (wrap64 ((wrap64 (Go.bits .and .u64 (IntKind.u64.wrap (a0)) 255)) - 1)) (wrap64 ((wrap64 (Go.bits .and .u64 ((IntKind.u64.wrap (a0)) / 16777216) 255)) - 1)), (Go.bits .xor .u64 18446744073709551615 (Go.bits .xor .u64 (IntKind.u64.wrap ((shl .u64 1 (IntKind.u64.wrap (wrap64 ((wrap64 (Go.bits .and .u64 ((IntKind.u64.wrap (a0)) / 16777216) 255)) - (wrap64 (Go.bits .and .u64 ((IntKind.u64.wrap (a0)) / 256) 255)))))) - 1)) (IntKind.u64.wrap ((shl .u64 1 (IntKind.u64.wrap (wrap64 ((wrap64 (Go.bits .and .u64 ((IntKind.u64.wrap (a0)) / 16777216) 255)) - (wrap64 (Go.bits .and .u64 (IntKind.u64.wrap (a0)) 255)))))) - 1)))) % 4294967296)) else (some (wrap64 (Go.bits .and .u64 ((IntKind.u64.wrap (a0)) / 65536) 255), wrap64 (Go.bits .and .u64 ((IntKind.u64.wrap (a0)) / 256) 255), Go.bits .and .i64 (wrap64 ((wrap64 (Go.bits .and .u64 (IntKind.u64.wrap (a0)) 255)) - 1)) (wrap64 ((wrap64 (Go.bits .and .u64 ((IntKind.u64.wrap (a0)) / 16777216) 255)) - 1)), Go.bits .xor .u64 18446744073709551615 (Go.bits .xor .u64 (IntKind.u64.wrap ((shl .u64 1 (IntKind.u64.wrap (wrap64 ((wrap64 (Go.bits .and .u64 ((IntKind.u64.wrap (a0)) / 16777216) 255)) - (wrap64 (Go.bits .and .u64 ((IntKind.u64.wrap (a0)) / 256) 255)))))) - 1)) (IntKind.u64.wrap ((shl .u64 1 (IntKind.u64.wrap (wrap64 ((wrap64 (Go.bits .and .u64 ((IntKind.u64.wrap (a0)) / 16777216) 255)) - (wrap64 (Go.bits .and .u64 (IntKind.u64.wrap (a0)) 255)))))) - 1)))))) else (if (wrap64 (Go.bits .and .u64 ((IntKind.u64.wrap (a0)) / 16777216) 255)) = 32 then (some (wrap64 (Go.bits .and .u64 ((IntKind.u64.wrap (a0)) / 65536) 255), wrap64 (Go.bits .and .u64 ((IntKind.u64.wrap (a0)) / 256) 255), Go.bits .and .i64 (wrap64 ((wrap64 (Go.bits .and .u64 (IntKind.u64.wrap (a0)) 255)) - 1)) (wrap64 ((wrap64 (Go.bits .and .u64 ((IntKind.u64.wrap (a0)) / 16777216) 255)) - 1)), (Go.bits .xor .u64 (IntKind.u64.wrap ((shl .u64 1 (IntKind.u64.wrap (wrap64 ((wrap64 (Go.bits .and .u64 ((IntKind.u64.wrap (a0)) / 16777216) 255)) - (wrap64 (Go.bits .and .u64 ((IntKind.u64.wrap (a0)) / 256) 255)))))) - 1)) (IntKind.u64.wrap ((shl .u64 1 (IntKind.u64.wrap (wrap64 ((wrap64 (Go.bits .and .u64 ((IntKind.u64.wrap (a0)) / 16777216) 255)) - (wrap64 (Go.bits .and .u64 (IntKind.u64.wrap (a0)) 255)))))) - 1))) % 4294967296)) else (some (wrap64 (Go.bits .and .u64 ((IntKind.u64.wrap (a0)) / 65536) 255), wrap64 (Go.bits .and .u64 ((IntKind.u64.wrap (a0)) / 256) 255), Go.bits .and .i64 (wrap64 ((wrap64 (Go.bits .and .u64 (IntKind.u64.wrap (a0)) 255)) - 1)) (wrap64 ((wrap64 (Go.bits .and .u64 ((IntKind.u64.wrap (a0)) / 16777216) 255)) - 1)), Go.bits .xor .u64 (IntKind.u64.wrap ((shl .u64 1 (IntKind.u64.wrap (wrap64 ((wrap64 (Go.bits .and .u64 ((IntKind.u64.wrap (a0)) / 16777216) 255)) - (wrap64 (Go.bits .and .u64 ((IntKind.u64.wrap (a0)) / 256) 255)))))) - 1)) (IntKind.u64.wrap ((shl .u64 1 (IntKind.u64.wrap (wrap64 ((wrap64 (Go.bits .and .u64 ((IntKind.u64.wrap (a0)) / 16777216) 255)) - (wrap64 (Go.bits .and .u64 (IntKind.u64.wrap (a0)) 255)))))) - 1)))))) else (none)) else (none)
set_option maxHeartbeats 8000000 in
set_option maxRecDepth 100000 in
theorem ssarewrite_DecodePPC64RotateMask.calls (a0 : Int) (r1 : Int) (r2 : Int) (r3 : Int) (r4 : Int) (w : World) (h : ssarewrite_DecodePPC64RotateMask.f a0 = some (r1, r2, r3, r4)) :
    Calls Tryd.prog 32 #[.int .i64 a0] w fun e w' => e = .returned (.tuple #[.int .i64 r1, .int .i64 r2, .int .i64 r3, .int .u64 r4]) ∧ Drawn0 w w' := by
  have H : (if 0 ≤ (IntKind.u64.wrap (wrap64 ((wrap64 (Go.bits .and .u64 ((IntKind.u64.wrap (a0)) / 16777216) 255)) - (wrap64 (Go.bits .and .u64 ((IntKind.u64.wrap (a0)) / 256) 255))))) then (if 0 ≤ (IntKind.u64.wrap (wrap64 ((wrap64 (Go.bits .and .u64 ((IntKind.u64.wrap (a0)) / 16777216) 255)) - (wrap64 (Go.bits .and .u64 (IntKind.u64.wrap (a0)) 255))))) then (if (wrap64 (Go.bits .and .u64 ((IntKind.u64.wrap (a0)) / 256) 255)) > (wrap64 (Go.bits .and .u64 (IntKind.u64.wrap (a0)) 255)) then (if (wrap64 (Go.bits .and .u64 ((IntKind.u64.wrap (a0)) / 16777216) 255)) = 32 then (some (wrap64 (Go.bits .and .u64 ((IntKind.u64.wrap (a0)) / 65536) 255), wrap64 (Go.bits .and .u64 ((IntKind.u64.wrap (a0)) / 256) 255), Go.bits .and .i64 (wrap64 ((wrap64 (Go.bits .and .u64 (IntKind.u64.wrap (a0)) 255)) - 1)) (wrap64 ((wrap64 (Go.bits .and .u64 ((IntKind.u64.wrap (a0)) / 16777216) 255)) - 1)), (Go.bits .xor .u64 18446744073709551615 (Go.bits .xor .u64 (IntKind.u64.wrap ((shl .u64 1 (IntKind.u64.wrap (wrap64 ((wrap64 (Go.bits .and .u64 ((IntKind.u64.wrap (a0)) / 16777216) 255)) - (wrap64 (Go.bits .and .u64 ((IntKind.u64.wrap (a0)) / 256) 255)))))) - 1)) (IntKind.u64.wrap ((shl .u64 1 (IntKind.u64.wrap (wrap64 ((wrap64 (Go.bits .and .u64 ((IntKind.u64.wrap (a0)) / 16777216) 255)) - (wrap64 (Go.bits .and .u64 (IntKind.u64.wrap (a0)) 255)))))) - 1)))) % 4294967296)) else (some (wrap64 (Go.bits .and .u64 ((IntKind.u64.wrap (a0)) / 65536) 255), wrap64 (Go.bits .and .u64 ((IntKind.u64.wrap (a0)) / 256) 255), Go.bits .and .i64 (wrap64 ((wrap64 (Go.bits .and .u64 (IntKind.u64.wrap (a0)) 255)) - 1)) (wrap64 ((wrap64 (Go.bits .and .u64 ((IntKind.u64.wrap (a0)) / 16777216) 255)) - 1)), Go.bits .xor .u64 18446744073709551615 (Go.bits .xor .u64 (IntKind.u64.wrap ((shl .u64 1 (IntKind.u64.wrap (wrap64 ((wrap64 (Go.bits .and .u64 ((IntKind.u64.wrap (a0)) / 16777216) 255)) - (wrap64 (Go.bits .and .u64 ((IntKind.u64.wrap (a0)) / 256) 255)))))) - 1)) (IntKind.u64.wrap ((shl .u64 1 (IntKind.u64.wrap (wrap64 ((wrap64 (Go.bits .and .u64 ((IntKind.u64.wrap (a0)) / 16777216) 255)) - (wrap64 (Go.bits .and .u64 (IntKind.u64.wrap (a0)) 255)))))) - 1)))))) else (if (wrap64 (Go.bits .and .u64 ((IntKind.u64.wrap (a0)) / 16777216) 255)) = 32 then (some (wrap64 (Go.bits .and .u64 ((IntKind.u64.wrap (a0)) / 65536) 255), wrap64 (Go.bits .and .u64 ((IntKind.u64.wrap (a0)) / 256) 255), Go.bits .and .i64 (wrap64 ((wrap64 (Go.bits .and .u64 (IntKind.u64.wrap (a0)) 255)) - 1)) (wrap64 ((wrap64 (Go.bits .and .u64 ((IntKind.u64.wrap (a0)) / 16777216) 255)) - 1)), (Go.bits .xor .u64 (IntKind.u64.wrap ((shl .u64 1 (IntKind.u64.wrap (wrap64 ((wrap64 (Go.bits .and .u64 ((IntKind.u64.wrap (a0)) / 16777216) 255)) - (wrap64 (Go.bits .and .u64 ((IntKind.u64.wrap (a0)) / 256) 255)))))) - 1)) (IntKind.u64.wrap ((shl .u64 1 (IntKind.u64.wrap (wrap64 ((wrap64 (Go.bits .and .u64 ((IntKind.u64.wrap (a0)) / 16777216) 255)) - (wrap64 (Go.bits .and .u64 (IntKind.u64.wrap (a0)) 255)))))) - 1))) % 4294967296)) else (some (wrap64 (Go.bits .and .u64 ((IntKind.u64.wrap (a0)) / 65536) 255), wrap64 (Go.bits .and .u64 ((IntKind.u64.wrap (a0)) / 256) 255), Go.bits .and .i64 (wrap64 ((wrap64 (Go.bits .and .u64 (IntKind.u64.wrap (a0)) 255)) - 1)) (wrap64 ((wrap64 (Go.bits .and .u64 ((IntKind.u64.wrap (a0)) / 16777216) 255)) - 1)), Go.bits .xor .u64 (IntKind.u64.wrap ((shl .u64 1 (IntKind.u64.wrap (wrap64 ((wrap64 (Go.bits .and .u64 ((IntKind.u64.wrap (a0)) / 16777216) 255)) - (wrap64 (Go.bits .and .u64 ((IntKind.u64.wrap (a0)) / 256) 255)))))) - 1)) (IntKind.u64.wrap ((shl .u64 1 (IntKind.u64.wrap (wrap64 ((wrap64 (Go.bits .and .u64 ((IntKind.u64.wrap (a0)) / 16777216) 255)) - (wrap64 (Go.bits .and .u64 (IntKind.u64.wrap (a0)) 255)))))) - 1)))))) else (none)) else (none)) = some (r1, r2, r3, r4) := h
  clear h
  obtain ⟨ji2, hji2⟩ : ∃ j_ : Int, (IntKind.u64.wrap (wrap64 ((wrap64 (Go.bits .and .u64 ((IntKind.u64.wrap (a0)) / 16777216) 255)) - (wrap64 (Go.bits .and .u64 ((IntKind.u64.wrap (a0)) / 256) 255))))) = j_ := ⟨_, rfl⟩
  replace H : (if 0 ≤ (ji2) then (if 0 ≤ (IntKind.u64.wrap (wrap64 ((wrap64 (Go.bits .and .u64 ((IntKind.u64.wrap (a0)) / 16777216) 255)) - (wrap64 (Go.bits .and .u64 (IntKind.u64.wrap (a0)) 255))))) then (if (wrap64 (Go.bits .and .u64 ((IntKind.u64.wrap (a0)) / 256) 255)) > (wrap64 (Go.bits .and .u64 (IntKind.u64.wrap (a0)) 255)) then (if (wrap64 (Go.bits .and .u64 ((IntKind.u64.wrap (a0)) / 16777216) 255)) = 32 then (some (wrap64 (Go.bits .and .u64 ((IntKind.u64.wrap (a0)) / 65536) 255), wrap64 (Go.bits .and .u64 ((IntKind.u64.wrap (a0)) / 256) 255), Go.bits .and .i64 (wrap64 ((wrap64 (Go.bits .and .u64 (IntKind.u64.wrap (a0)) 255)) - 1)) (wrap64 ((wrap64 (Go.bits .and .u64 ((IntKind.u64.wrap (a0)) / 16777216) 255)) - 1)), (Go.bits .xor .u64 18446744073709551615 (Go.bits .xor .u64 (IntKind.u64.wrap ((shl .u64 1 (ji2)) - 1)) (IntKind.u64.wrap ((shl .u64 1 (IntKind.u64.wrap (wrap64 ((wrap64 (Go.bits .and .u64 ((IntKind.u64.wrap (a0)) / 16777216) 255)) - (wrap64 (Go.bits .and .u64 (IntKind.u64.wrap (a0)) 255)))))) - 1)))) % 4294967296)) else (some (wrap64 (Go.bits .and .u64 ((IntKind.u64.wrap (a0)) / 65536) 255), wrap64 (Go.bits .and .u64 ((IntKind.u64.wrap (a0)) / 256) 255), Go.bits .and .i64 (wrap64 ((wrap64 (Go.bits .and .u64 (IntKind.u64.wrap (a0)) 255)) - 1)) (wrap64 ((wrap64 (Go.bits .and .u64 ((IntKind.u64.wrap (a0)) / 16777216) 255)) - 1)), Go.bits .xor .u64 18446744073709551615 (Go.bits .xor .u64 (IntKind.u64.wrap ((shl .u64 1 (ji2)) - 1)) (IntKind.u64.wrap ((shl .u64 1 (IntKind.u64.wrap (wrap64 ((wrap64 (Go.bits .and .u64 ((IntKind.u64.wrap (a0)) / 16777216) 255)) - (wrap64 (Go.bits .and .u64 (IntKind.u64.wrap (a0)) 255)))))) - 1)))))) else (if (wrap64 (Go.bits .and .u64 ((IntKind.u64.wrap (a0)) / 16777216) 255)) = 32 then (some (wrap64 (Go.bits .and .u64 ((IntKind.u64.wrap (a0)) / 65536) 255), wrap64 (Go.bits .and .u64 ((IntKind.u64.wrap (a0)) / 256) 255), Go.bits .and .i64 (wrap64 ((wrap64 (Go.bits .and .u64 (IntKind.u64.wrap (a0)) 255)) - 1)) (wrap64 ((wrap64 (Go.bits .and .u64 ((IntKind.u64.wrap (a0)) / 16777216) 255)) - 1)), (Go.bits .xor .u64 (IntKind.u64.wrap ((shl .u64 1 (ji2)) - 1)) (IntKind.u64.wrap ((shl .u64 1 (IntKind.u64.wrap (wrap64 ((wrap64 (Go.bits .and .u64 ((IntKind.u64.wrap (a0)) / 16777216) 255)) - (wrap64 (Go.bits .and .u64 (IntKind.u64.wrap (a0)) 255)))))) - 1))) % 4294967296)) else (some (wrap64 (Go.bits .and .u64 ((IntKind.u64.wrap (a0)) / 65536) 255), wrap64 (Go.bits .and .u64 ((IntKind.u64.wrap (a0)) / 256) 255), Go.bits .and .i64 (wrap64 ((wrap64 (Go.bits .and .u64 (IntKind.u64.wrap (a0)) 255)) - 1)) (wrap64 ((wrap64 (Go.bits .and .u64 ((IntKind.u64.wrap (a0)) / 16777216) 255)) - 1)), Go.bits .xor .u64 (IntKind.u64.wrap ((shl .u64 1 (ji2)) - 1)) (IntKind.u64.wrap ((shl .u64 1 (IntKind.u64.wrap (wrap64 ((wrap64 (Go.bits .and .u64 ((IntKind.u64.wrap (a0)) / 16777216) 255)) - (wrap64 (Go.bits .and .u64 (IntKind.u64.wrap (a0)) 255)))))) - 1)))))) else (none)) else (none)) = some (r1, r2, r3, r4) := by first | (rw [hji2] at H; exact H) | (simp only [hji2] at H ⊢; exact H)
  by_cases c3 : 0 ≤ (ji2)
  · rw [if_pos c3] at H
    have c3b0 := eq_true c3
    have c3b1 : decide (0 ≤ (ji2)) = true := decide_eq_true c3
    clear c3
    obtain ⟨ji4, hji4⟩ : ∃ j_ : Int, (shl .u64 1 (ji2)) = j_ := ⟨_, rfl⟩
    replace H : (if 0 ≤ (IntKind.u64.wrap (wrap64 ((wrap64 (Go.bits .and .u64 ((IntKind.u64.wrap (a0)) / 16777216) 255)) - (wrap64 (Go.bits .and .u64 (IntKind.u64.wrap (a0)) 255))))) then (if (wrap64 (Go.bits .and .u64 ((IntKind.u64.wrap (a0)) / 256) 255)) > (wrap64 (Go.bits .and .u64 (IntKind.u64.wrap (a0)) 255)) then (if (wrap64 (Go.bits .and .u64 ((IntKind.u64.wrap (a0)) / 16777216) 255)) = 32 then (some (wrap64 (Go.bits .and .u64 ((IntKind.u64.wrap (a0)) / 65536) 255), wrap64 (Go.bits .and .u64 ((IntKind.u64.wrap (a0)) / 256) 255), Go.bits .and .i64 (wrap64 ((wrap64 (Go.bits .and .u64 (IntKind.u64.wrap (a0)) 255)) - 1)) (wrap64 ((wrap64 (Go.bits .and .u64 ((IntKind.u64.wrap (a0)) / 16777216) 255)) - 1)), (Go.bits .xor .u64 18446744073709551615 (Go.bits .xor .u64 (IntKind.u64.wrap ((ji4) - 1)) (IntKind.u64.wrap ((shl .u64 1 (IntKind.u64.wrap (wrap64 ((wrap64 (Go.bits .and .u64 ((IntKind.u64.wrap (a0)) / 16777216) 255)) - (wrap64 (Go.bits .and .u64 (IntKind.u64.wrap (a0)) 255)))))) - 1)))) % 4294967296)) else (some (wrap64 (Go.bits .and .u64 ((IntKind.u64.wrap (a0)) / 65536) 255), wrap64 (Go.bits .and .u64 ((IntKind.u64.wrap (a0)) / 256) 255), Go.bits .and .i64 (wrap64 ((wrap64 (Go.bits .and .u64 (IntKind.u64.wrap (a0)) 255)) - 1)) (wrap64 ((wrap64 (Go.bits .and .u64 ((IntKind.u64.wrap (a0)) / 16777216) 255)) - 1)), Go.bits .xor .u64 18446744073709551615 (Go.bits .xor .u64 (IntKind.u64.wrap ((ji4) - 1)) (IntKind.u64.wrap ((shl .u64 1 (IntKind.u64.wrap (wrap64 ((wrap64 (Go.bits .and .u64 ((IntKind.u64.wrap (a0)) / 16777216) 255)) - (wrap64 (Go.bits .and .u64 (IntKind.u64.wrap (a0)) 255)))))) - 1)))))) else (if (wrap64 (Go.bits .and .u64 ((IntKind.u64.wrap (a0)) / 16777216) 255)) = 32 then (some (wrap64 (Go.bits .and .u64 ((IntKind.u64.wrap (a0)) / 65536) 255), wrap64 (Go.bits .and .u64 ((IntKind.u64.wrap (a0)) / 256) 255), Go.bits .and .i64 (wrap64 ((wrap64 (Go.bits .and .u64 (IntKind.u64.wrap (a0)) 255)) - 1)) (wrap64 ((wrap64 (Go.bits .and .u64 ((IntKind.u64.wrap (a0)) / 16777216) 255)) - 1)), (Go.bits .xor .u64 (IntKind.u64.wrap ((ji4) - 1)) (IntKind.u64.wrap ((shl .u64 1 (IntKind.u64.wrap (wrap64 ((wrap64 (Go.bits .and .u64 ((IntKind.u64.wrap (a0)) / 16777216) 255)) - (wrap64 (Go.bits .and .u64 (IntKind.u64.wrap (a0)) 255)))))) - 1))) % 4294967296)) else (some (wrap64 (Go.bits .and .u64 ((IntKind.u64.wrap (a0)) / 65536) 255), wrap64 (Go.bits .and .u64 ((IntKind.u64.wrap (a0)) / 256) 255), Go.bits .and .i64 (wrap64 ((wrap64 (Go.bits .and .u64 (IntKind.u64.wrap (a0)) 255)) - 1)) (wrap64 ((wrap64 (Go.bits .and .u64 ((IntKind.u64.wrap (a0)) / 16777216) 255)) - 1)), Go.bits .xor .u64 (IntKind.u64.wrap ((ji4) - 1)) (IntKind.u64.wrap ((shl .u64 1 (IntKind.u64.wrap (wrap64 ((wrap64 (Go.bits .and .u64 ((IntKind.u64.wrap (a0)) / 16777216) 255)) - (wrap64 (Go.bits .and .u64 (IntKind.u64.wrap (a0)) 255)))))) - 1)))))) else (none)) = some (r1, r2, r3, r4) := by first | (rw [hji4] at H; exact H) | (simp only [hji4] at H ⊢; exact H)
    have hji4_ : (IntKind.u64.wrap (1 * 2 ^ min (ji2).toNat 64)) = ji4 := hji4
    have hji4z : (ji2) ≤ 64 → (IntKind.u64.wrap (1 * 2 ^ (ji2).toNat)) = ji4 := shl_small hji4
    have hji4u : (IntKind.u64.wrap (2 ^ min (ji2).toNat 64)) = ji4 := by have h_ := hji4_; rw [Int.one_mul] at h_; exact h_
    have hji4v : (ji2) ≤ 64 → (IntKind.u64.wrap (2 ^ (ji2).toNat)) = ji4 := fun hle_ => by have h_ := hji4z hle_; rw [Int.one_mul] at h_; exact h_
    obtain ⟨ji5, hji5⟩ : ∃ j_ : Int, (IntKind.u64.wrap (wrap64 ((wrap64 (Go.bits .and .u64 ((IntKind.u64.wrap (a0)) / 16777216) 255)) - (wrap64 (Go.bits .and .u64 (IntKind.u64.wrap (a0)) 255))))) = j_ := ⟨_, rfl⟩
    replace H : (if 0 ≤ (ji5) then (if (wrap64 (Go.bits .and .u64 ((IntKind.u64.wrap (a0)) / 256) 255)) > (wrap64 (Go.bits .and .u64 (IntKind.u64.wrap (a0)) 255)) then (if (wrap64 (Go.bits .and .u64 ((IntKind.u64.wrap (a0)) / 16777216) 255)) = 32 then (some (wrap64 (Go.bits .and .u64 ((IntKind.u64.wrap (a0)) / 65536) 255), wrap64 (Go.bits .and .u64 ((IntKind.u64.wrap (a0)) / 256) 255), Go.bits .and .i64 (wrap64 ((wrap64 (Go.bits .and .u64 (IntKind.u64.wrap (a0)) 255)) - 1)) (wrap64 ((wrap64 (Go.bits .and .u64 ((IntKind.u64.wrap (a0)) / 16777216) 255)) - 1)), (Go.bits .xor .u64 18446744073709551615 (Go.bits .xor .u64 (IntKind.u64.wrap ((ji4) - 1)) (IntKind.u64.wrap ((shl .u64 1 (ji5)) - 1)))) % 4294967296)) else (some (wrap64 (Go.bits .and .u64 ((IntKind.u64.wrap (a0)) / 65536) 255), wrap64 (Go.bits .and .u64 ((IntKind.u64.wrap (a0)) / 256) 255), Go.bits .and .i64 (wrap64 ((wrap64 (Go.bits .and .u64 (IntKind.u64.wrap (a0)) 255)) - 1)) (wrap64 ((wrap64 (Go.bits .and .u64 ((IntKind.u64.wrap (a0)) / 16777216) 255)) - 1)), Go.bits .xor .u64 18446744073709551615 (Go.bits .xor .u64 (IntKind.u64.wrap ((ji4) - 1)) (IntKind.u64.wrap ((shl .u64 1 (ji5)) - 1)))))) else (if (wrap64 (Go.bits .and .u64 ((IntKind.u64.wrap (a0)) / 16777216) 255)) = 32 then (some (wrap64 (Go.bits .and .u64 ((IntKind.u64.wrap (a0)) / 65536) 255), wrap64 (Go.bits .and .u64 ((IntKind.u64.wrap (a0)) / 256) 255), Go.bits .and .i64 (wrap64 ((wrap64 (Go.bits .and .u64 (IntKind.u64.wrap (a0)) 255)) - 1)) (wrap64 ((wrap64 (Go.bits .and .u64 ((IntKind.u64.wrap (a0)) / 16777216) 255)) - 1)), (Go.bits .xor .u64 (IntKind.u64.wrap ((ji4) - 1)) (IntKind.u64.wrap ((shl .u64 1 (ji5)) - 1))) % 4294967296)) else (some (wrap64 (Go.bits .and .u64 ((IntKind.u64.wrap (a0)) / 65536) 255), wrap64 (Go.bits .and .u64 ((IntKind.u64.wrap (a0)) / 256) 255), Go.bits .and .i64 (wrap64 ((wrap64 (Go.bits .and .u64 (IntKind.u64.wrap (a0)) 255)) - 1)) (wrap64 ((wrap64 (Go.bits .and .u64 ((IntKind.u64.wrap (a0)) / 16777216) 255)) - 1)), Go.bits .xor .u64 (IntKind.u64.wrap ((ji4) - 1)) (IntKind.u64.wrap ((shl .u64 1 (ji5)) - 1)))))) else (none)) = some (r1, r2, r3, r4) := by first | (rw [hji5] at H; exact H) | (simp only [hji5] at H ⊢; exact H)
    by_cases c6 : 0 ≤ (ji5)
    · rw [if_pos c6] at H
      have c6b0 := eq_true c6
      have c6b1 : decide (0 ≤ (ji5)) = true := decide_eq_true c6
      clear c6
      obtain ⟨ji7, hji7⟩ : ∃ j_ : Int, (shl .u64 1 (ji5)) = j_ := ⟨_, rfl⟩
      replace H : (if (wrap64 (Go.bits .and .u64 ((IntKind.u64.wrap (a0)) / 256) 255)) > (wrap64 (Go.bits .and .u64 (IntKind.u64.wrap (a0)) 255)) then (if (wrap64 (Go.bits .and .u64 ((IntKind.u64.wrap (a0)) / 16777216) 255)) = 32 then (some (wrap64 (Go.bits .and .u64 ((IntKind.u64.wrap (a0)) / 65536) 255), wrap64 (Go.bits .and .u64 ((IntKind.u64.wrap (a0)) / 256) 255), Go.bits .and .i64 (wrap64 ((wrap64 (Go.bits .and .u64 (IntKind.u64.wrap (a0)) 255)) - 1)) (wrap64 ((wrap64 (Go.bits .and .u64 ((IntKind.u64.wrap (a0)) / 16777216) 255)) - 1)), (Go.bits .xor .u64 18446744073709551615 (Go.bits .xor .u64 (IntKind.u64.wrap ((ji4) - 1)) (IntKind.u64.wrap ((ji7) - 1)))) % 4294967296)) else (some (wrap64 (Go.bits .and .u64 ((IntKind.u64.wrap (a0)) / 65536) 255), wrap64 (Go.bits .and .u64 ((IntKind.u64.wrap (a0)) / 256) 255), Go.bits .and .i64 (wrap64 ((wrap64 (Go.bits .and .u64 (IntKind.u64.wrap (a0)) 255)) - 1)) (wrap64 ((wrap64 (Go.bits .and .u64 ((IntKind.u64.wrap (a0)) / 16777216) 255)) - 1)), Go.bits .xor .u64 18446744073709551615 (Go.bits .xor .u64 (IntKind.u64.wrap ((ji4) - 1)) (IntKind.u64.wrap ((ji7) - 1)))))) else (if (wrap64 (Go.bits .and .u64 ((IntKind.u64.wrap (a0)) / 16777216) 255)) = 32 then (some (wrap64 (Go.bits .and .u64 ((IntKind.u64.wrap (a0)) / 65536) 255), wrap64 (Go.bits .and .u64 ((IntKind.u64.wrap (a0)) / 256) 255), Go.bits .and .i64 (wrap64 ((wrap64 (Go.bits .and .u64 (IntKind.u64.wrap (a0)) 255)) - 1)) (wrap64 ((wrap64 (Go.bits .and .u64 ((IntKind.u64.wrap (a0)) / 16777216) 255)) - 1)), (Go.bits .xor .u64 (IntKind.u64.wrap ((ji4) - 1)) (IntKind.u64.wrap ((ji7) - 1))) % 4294967296)) else (some (wrap64 (Go.bits .and .u64 ((IntKind.u64.wrap (a0)) / 65536) 255), wrap64 (Go.bits .and .u64 ((IntKind.u64.wrap (a0)) / 256) 255), Go.bits .and .i64 (wrap64 ((wrap64 (Go.bits .and .u64 (IntKind.u64.wrap (a0)) 255)) - 1)) (wrap64 ((wrap64 (Go.bits .and .u64 ((IntKind.u64.wrap (a0)) / 16777216) 255)) - 1)), Go.bits .xor .u64 (IntKind.u64.wrap ((ji4) - 1)) (IntKind.u64.wrap ((ji7) - 1)))))) = some (r1, r2, r3, r4) := by first | (rw [hji7] at H; exact H) | (simp only [hji7] at H ⊢; exact H)
      have hji7_ : (IntKind.u64.wrap (1 * 2 ^ min (ji5).toNat 64)) = ji7 := hji7
      have hji7z : (ji5) ≤ 64 → (IntKind.u64.wrap (1 * 2 ^ (ji5).toNat)) = ji7 := shl_small hji7
      have hji7u : (IntKind.u64.wrap (2 ^ min (ji5).toNat 64)) = ji7 := by have h_ := hji7_; rw [Int.one_mul] at h_; exact h_
      have hji7v : (ji5) ≤ 64 → (IntKind.u64.wrap (2 ^ (ji5).toNat)) = ji7 := fun hle_ => by have h_ := hji7z hle_; rw [Int.one_mul] at h_; exact h_
      by_cases c8 : (wrap64 (Go.bits .and .u64 ((IntKind.u64.wrap (a0)) / 256) 255)) > (wrap64 (Go.bits .and .u64 (IntKind.u64.wrap (a0)) 255))
      · rw [if_pos c8] at H
        have c8b0 : decide ((wrap64 (Go.bits .and .u64 (IntKind.u64.wrap (a0)) 255)) < (wrap64 (Go.bits .and .u64 ((IntKind.u64.wrap (a0)) / 256) 255))) = true := decide_eq_true c8
        clear c8
        by_cases c9 : (wrap64 (Go.bits .and .u64 ((IntKind.u64.wrap (a0)) / 16777216) 255)) = 32
        · rw [if_pos c9] at H
          have c9b0 : ((wrap64 (Go.bits .and .u64 ((IntKind.u64.wrap (a0)) / 16777216) 255)) == 32) = true := beq_iff_eq.mpr c9
          have c9b1 : ((wrap64 (Go.bits .and .u64 ((IntKind.u64.wrap (a0)) / 16777216) 255)) != 32) = false := bne_eq_false_iff_eq.mpr c9
          clear c9
          simp only [Option.some.injEq, Prod.mk.injEq] at H
          obtain ⟨rfl, rfl, rfl, rfl⟩ := H
          go_enter Tryd.func32, Tryd.ntmps32
          go_wp2
          refine bodyPost_ret (results_list (rs := [.tmp 2, .tmp 3, .tmp 4, .tmp 5]) rfl (by simp) (.tmp (.tmp (.tmp (.tmp .nil))))) rfl ?_
          exact ⟨by first | rfl | (simp; done) | (simp only [← hji2, ← hji4, ← hji5, ← hji7] <;> (first | rfl | simp)) | (simp [*]; done), by repeat (first | exact Drawn0.refl _ | apply Drawn0.step)⟩
        · rw [if_neg c9] at H
          have c9b0 : ((wrap64 (Go.bits .and .u64 ((IntKind.u64.wrap (a0)) / 16777216) 255)) == 32) = false := beq_eq_false_iff_ne.mpr c9
          have c9b1 : ((wrap64 (Go.bits .and .u64 ((IntKind.u64.wrap (a0)) / 16777216) 255)) != 32) = true := bne_iff_ne.mpr c9
          simp only [Option.some.injEq, Prod.mk.injEq] at H
          obtain ⟨rfl, rfl, rfl, rfl⟩ := H
          go_enter Tryd.func32, Tryd.ntmps32
          go_wp2
          refine bodyPost_ret (results_list (rs := [.tmp 2, .tmp 3, .tmp 4, .tmp 5]) rfl (by simp) (.tmp (.tmp (.tmp (.tmp .nil))))) rfl ?_
          exact ⟨by first | rfl | (simp; done) | (simp only [← hji2, ← hji4, ← hji5, ← hji7] <;> (first | rfl | simp)) | (simp [*]; done), by repeat (first | exact Drawn0.refl _ | apply Drawn0.step)⟩
      · rw [if_neg c8] at H
        have c8b0 : decide ((wrap64 (Go.bits .and .u64 (IntKind.u64.wrap (a0)) 255)) < (wrap64 (Go.bits .and .u64 ((IntKind.u64.wrap (a0)) / 256) 255))) = false := decide_eq_false c8
        clear c8
        by_cases c10 : (wrap64 (Go.bits .and .u64 ((IntKind.u64.wrap (a0)) / 16777216) 255)) = 32
        · rw [if_pos c10] at H
          have c10b0 : ((wrap64 (Go.bits .and .u64 ((IntKind.u64.wrap (a0)) / 16777216) 255)) == 32) = true := beq_iff_eq.mpr c10
          have c10b1 : ((wrap64 (Go.bits .and .u64 ((IntKind.u64.wrap (a0)) / 16777216) 255)) != 32) = false := bne_eq_false_iff_eq.mpr c10
          clear c10
          simp only [Option.some.injEq, Prod.mk.injEq] at H
          obtain ⟨rfl, rfl, rfl, rfl⟩ := H
          go_enter Tryd.func32, Tryd.ntmps32
          go_wp2
          refine bodyPost_ret (results_list (rs := [.tmp 2, .tmp 3, .tmp 4, .tmp 5]) rfl (by simp) (.tmp (.tmp (.tmp (.tmp .nil))))) rfl ?_
          exact ⟨by first | rfl | (simp; done) | (simp only [← hji2, ← hji4, ← hji5, ← hji7] <;> (first | rfl | simp)) | (simp [*]; done), by repeat (first | exact Drawn0.refl _ | apply Drawn0.step)⟩
        · rw [if_neg c10] at H
          have c10b0 : ((wrap64 (Go.bits .and .u64 ((IntKind.u64.wrap (a0)) / 16777216) 255)) == 32) = false := beq_eq_false_iff_ne.mpr c10
          have c10b1 : ((wrap64 (Go.bits .and .u64 ((IntKind.u64.wrap (a0)) / 16777216) 255)) != 32) = true := bne_iff_ne.mpr c10
          simp only [Option.some.injEq, Prod.mk.injEq] at H
          obtain ⟨rfl, rfl, rfl, rfl⟩ := H
          go_enter Tryd.func32, Tryd.ntmps32
          go_wp2
          refine bodyPost_ret (results_list (rs := [.tmp 2, .tmp 3, .tmp 4, .tmp 5]) rfl (by simp) (.tmp (.tmp (.tmp (.tmp .nil))))) rfl ?_
          exact ⟨by first | rfl | (simp; done) | (simp only [← hji2, ← hji4, ← hji5, ← hji7] <;> (first | rfl | simp)) | (simp [*]; done), by repeat (first | exact Drawn0.refl _ | apply Drawn0.step)⟩
    · rw [if_neg c6] at H
      exact absurd H (by simp)
  · rw [if_neg c3] at H
    exact absurd H (by simp)

attribute [local go_sem] signed_i64 signed_i32 signed_u32 max_u32 signed_u64 max_u64
/-! ### impl_DecodeRotateMask: function 15 -/
def impl_DecodeRotateMask.f (a0 : Int) : Option (Int × Int × Int × Int) := (ssarewrite_DecodePPC64RotateMask.f a0).bind fun bt120 => (some (bt120.1, bt120.2.1, bt120.2.2.1, bt120.2.2.2))
set_option maxHeartbeats 8000000 in
set_option maxRecDepth 100000 in
theorem impl_DecodeRotateMask.calls (a0 : Int) (r1 : Int) (r2 : Int) (r3 : Int) (r4 : Int) (w : World) (h : impl_DecodeRotateMask.f a0 = some (r1, r2, r3, r4)) :
    Calls Tryd.prog 15 #[.int .i64 a0] w fun e w' => e = .returned (.tuple #[.int .i64 r1, .int .i64 r2, .int .i64 r3, .int .u64 r4]) ∧ Drawn0 w w' := by
  have H : ((ssarewrite_DecodePPC64RotateMask.f a0).bind fun bt120 => (some (bt120.1, bt120.2.1, bt120.2.2.1, bt120.2.2.2))) = some (r1, r2, r3, r4) := h
  clear h
  replace H := Option.bind_eq_some_iff.mp H
  obtain ⟨⟨t120, t121, t122, t123⟩, A20, H⟩ := H
  replace H : (some (t120, t121, t122, t123)) = some (r1, r2, r3, r4) := H
  have A2 := Aside0.mk A20
  clear A20
  simp only [Option.some.injEq, Prod.mk.injEq] at H
  obtain ⟨rfl, rfl, rfl, rfl⟩ := H
  go_enter Tryd.func15, Tryd.ntmps15
  go_wp2_with (first | ((with_reducible refine gate_callee (f := 32) rfl ?_); refine goesL_ (some 7) rfl rfl Tryd.func32 (by kernel_rfl) rfl #[.int .i64 a0] rfl (by (try simp only [List.map_toArray, List.map_cons, List.map_nil]); first | done | rfl | (simp only [List.length_drop, List.length_take]; rfl)) ?_; (with_reducible refine (ssarewrite_DecodePPC64RotateMask.calls a0 t120 t121 t122 t123 _ A2.out).mono ?_); rintro e w' ⟨rfl, ⟨nd, rfl⟩⟩; refine ⟨_, rfl, ?_⟩))
  refine bodyPost_ret (results_list (rs := [.tmp 2, .tmp 3, .tmp 4, .tmp 5]) rfl (by simp) (.tmp (.tmp (.tmp (.tmp .nil))))) rfl ?_
  exact ⟨by first | rfl | (simp; done) | (simp [*]; done), by repeat (first | exact Drawn0.refl _ | apply Drawn0.step)⟩

attribute [local go_sem] signed_i64 signed_i32 signed_u32 max_u32 signed_u64 max_u64
/-! ### spec_Turn: function 34 -/
def spec_Turn.f (a0 : Int) (a1 : Int) (a2 : Int) : Option (Int) := if a1 = 0 then (none) else ((spec_Low.f a0 a1).bind fun t124 => (if 0 ≤ (Int.tmod a2 a1) then (if 0 ≤ (IntKind.u64.wrap (a1 - (Int.tmod a2 a1))) then ((spec_Low.f (Go.bits .or .u64 (shl .u64 t124 (Int.tmod a2 a1)) (shr .u64 t124 (IntKind.u64.wrap (a1 - (Int.tmod a2 a1))))) a1).bind fun t125 => (some t125)) else (none)) else (none)))
set_option maxHeartbeats 8000000 in
set_option maxRecDepth 100000 in
theorem spec_Turn.calls (a0 : Int) (a1 : Int) (a2 : Int) (r : Int) (w : World) (h : spec_Turn.f a0 a1 a2 = some r) :
    Calls Tryd.prog 34 #[.int .u64 a0, .int .u64 a1, .int .u64 a2] w fun e w' => e = .returned (.int .u64 r) ∧ Drawn0 w w' := by
  have H : (if a1 = 0 then (none) else ((spec_Low.f a0 a1).bind fun t124 => (if 0 ≤ (Int.tmod a2 a1) then (if 0 ≤ (IntKind.u64.wrap (a1 - (Int.tmod a2 a1))) then ((spec_Low.f (Go.bits .or .u64 (shl .u64 t124 (Int.tmod a2 a1)) (shr .u64 t124 (IntKind.u64.wrap (a1 - (Int.tmod a2 a1))))) a1).bind fun t125 => (some t125)) else (none)) else (none)))) = some r := h
  clear h
  by_cases c4 : a1 = 0
  · rw [if_pos c4] at H
    exact absurd H (by simp)
  · rw [if_neg c4] at H
    have c4b0 : (a1 == 0) = false := beq_eq_false_iff_ne.mpr c4
    have c4b1 : (a1 != 0) = true := bne_iff_ne.mpr c4
    replace H := Option.bind_eq_some_iff.mp H
    obtain ⟨t124, A50, H⟩ := H
    replace H : (if 0 ≤ (Int.tmod a2 a1) then (if 0 ≤ (IntKind.u64.wrap (a1 - (Int.tmod a2 a1))) then ((spec_Low.f (Go.bits .or .u64 (shl .u64 t124 (Int.tmod a2 a1)) (shr .u64 t124 (IntKind.u64.wrap (a1 - (Int.tmod a2 a1))))) a1).bind fun t125 => (some t125)) else (none)) else (none)) = some r := H
    have A5 := Aside0.mk A50
    clear A50
    obtain ⟨ji6, hji6⟩ : ∃ j_ : Int, (Int.tmod a2 a1) = j_ := ⟨_, rfl⟩
    replace H : (if 0 ≤ (ji6) then (if 0 ≤ (IntKind.u64.wrap (a1 - (ji6))) then ((spec_Low.f (Go.bits .or .u64 (shl .u64 t124 (ji6)) (shr .u64 t124 (IntKind.u64.wrap (a1 - (ji6))))) a1).bind fun t125 => (some t125)) else (none)) else (none)) = some r := by first | (rw [hji6] at H; exact H) | (simp only [hji6] at H ⊢; exact H)
    (try rw [hji6] at A5)
    by_cases c7 : 0 ≤ (ji6)
    · rw [if_pos c7] at H
      have c7b0 := eq_true c7
      have c7b1 : decide (0 ≤ (ji6)) = true := decide_eq_true c7
      clear c7
      obtain ⟨ji8, hji8⟩ : ∃ j_ : Int, (shl .u64 t124 (ji6)) = j_ := ⟨_, rfl⟩
      replace H : (if 0 ≤ (IntKind.u64.wrap (a1 - (ji6))) then ((spec_Low.f (Go.bits .or .u64 (ji8) (shr .u64 t124 (IntKind.u64.wrap (a1 - (ji6))))) a1).bind fun t125 => (some t125)) else (none)) = some r := by first | (rw [hji8] at H; exact H) | (simp only [hji8] at H ⊢; exact H)
      (try rw [hji8] at A5)
      have hji8_ : (IntKind.u64.wrap (t124 * 2 ^ min (ji6).toNat 64)) = ji8 := hji8
      have hji8z : (ji6) ≤ 64 → (IntKind.u64.wrap (t124 * 2 ^ (ji6).toNat)) = ji8 := shl_small hji8
      obtain ⟨ji9, hji9⟩ : ∃ j_ : Int, (IntKind.u64.wrap (a1 - (ji6))) = j_ := ⟨_, rfl⟩
      replace H : (if 0 ≤ (ji9) then ((spec_Low.f (Go.bits .or .u64 (ji8) (shr .u64 t124 (ji9))) a1).bind fun t125 => (some t125)) else (none)) = some r := by first | (rw [hji9] at H; exact H) | (simp only [hji9] at H ⊢; exact H)
      (try rw [hji9] at A5)
      by_cases c10 : 0 ≤ (ji9)
      · rw [if_pos c10] at H
        have c10b0 := eq_true c10
        have c10b1 : decide (0 ≤ (ji9)) = true := decide_eq_true c10
        clear c10
        obtain ⟨ji11, hji11⟩ : ∃ j_ : Int, (shr .u64 t124 (ji9)) = j_ := ⟨_, rfl⟩
        replace H : ((spec_Low.f (Go.bits .or .u64 (ji8) (ji11)) a1).bind fun t125 => (some t125)) = some r := by first | (rw [hji11] at H; exact H) | (simp only [hji11] at H ⊢; exact H)
        (try rw [hji11] at A5)
        have hji11_ : (t124 / 2 ^ min (ji9).toNat 64) = ji11 := hji11
        have hji11z : (ji9) ≤ 64 → (t124 / 2 ^ (ji9).toNat) = ji11 := shr_small hji11
        replace H := Option.bind_eq_some_iff.mp H
        obtain ⟨t125, A120, H⟩ := H
        replace H : (some t125) = some r := H
        have A12 := Aside0.mk A120
        clear A120
        obtain rfl := Option.some.inj H
        go_enter Tryd.func34, Tryd.ntmps34
        go_wp2_with (first | ((with_reducible refine gate_callee (f := 19) rfl ?_); refine goesL_ (some 12) rfl rfl Tryd.func19 (by kernel_rfl) rfl #[.int .u64 a0, .int .u64 a1] rfl (by (try simp only [List.map_toArray, List.map_cons, List.map_nil]); first | done | rfl | (simp only [List.length_drop, List.length_take]; rfl)) ?_; (with_reducible refine (spec_Low.calls a0 a1 t124 _ A5.out).mono ?_); rintro e w' ⟨rfl, ⟨nd, rfl⟩⟩; refine ⟨_, rfl, ?_⟩) | ((with_reducible refine gate_callee (f := 19) rfl ?_); refine goesL_ (some 23) rfl rfl Tryd.func19 (by kernel_rfl) rfl #[.int .u64 (Go.bits .or .u64 (ji8) (ji11)), .int .u64 a1] rfl (by (try simp only [List.map_toArray, List.map_cons, List.map_nil]); first | done | (simp only [hji11, hji8]; rfl) | rfl | (simp only [List.length_drop, List.length_take]; rfl)) ?_; (with_reducible refine (spec_Low.calls (Go.bits .or .u64 (ji8) (ji11)) a1 t125 _ A12.out).mono ?_); rintro e w' ⟨rfl, ⟨nd, rfl⟩⟩; refine ⟨_, rfl, ?_⟩))
        go_ret
        exact ⟨by first | rfl | (simp; done) | (simp only [← hji6, ← hji8, ← hji9, ← hji11] <;> (first | rfl | simp)) | (simp [*]; done), by repeat (first | exact Drawn0.refl _ | apply Drawn0.step)⟩
      · rw [if_neg c10] at H
        exact absurd H (by simp)
    · rw [if_neg c7] at H
      exact absurd H (by simp)

attribute [local go_sem] signed_i64 signed_i32 signed_u32 max_u32 signed_u64 max_u64
/-! ### spec_Rotated: function 18 -/
def spec_Rotated.f (a0 : Int) (a1 : Int) (a2 : Int) (a3 : Int) : Option (Int) := (spec_Turn.f a0 a1 a2).bind fun t126 => (some (Go.bits .and .u64 t126 a3))
set_option maxHeartbeats 8000000 in
set_option maxRecDepth 100000 in
theorem spec_Rotated.calls (a0 : Int) (a1 : Int) (a2 : Int) (a3 : Int) (r : Int) (w : World) (h : spec_Rotated.f a0 a1 a2 a3 = some r) :
    Calls Tryd.prog 18 #[.int .u64 a0, .int .u64 a1, .int .u64 a2, .int .u64 a3] w fun e w' => e = .returned (.int .u64 r) ∧ Drawn0 w w' := by
  have H : ((spec_Turn.f a0 a1 a2).bind fun t126 => (some (Go.bits .and .u64 t126 a3))) = some r := h
  clear h
  replace H := Option.bind_eq_some_iff.mp H
  obtain ⟨t126, A50, H⟩ := H
  replace H : (some (Go.bits .and .u64 t126 a3)) = some r := H
  have A5 := Aside0.mk A50
  clear A50
  obtain rfl := Option.some.inj H
  go_enter Tryd.func18, Tryd.ntmps18
  go_wp2_with (first | ((with_reducible refine gate_callee (f := 34) rfl ?_); refine goesL_ (some 12) rfl rfl Tryd.func34 (by kernel_rfl) rfl #[.int .u64 a0, .int .u64 a1, .int .u64 a2] rfl (by (try simp only [List.map_toArray, List.map_cons, List.map_nil]); first | done | rfl | (simp only [List.length_drop, List.length_take]; rfl)) ?_; (with_reducible refine (spec_Turn.calls a0 a1 a2 t126 _ A5.out).mono ?_); rintro e w' ⟨rfl, ⟨nd, rfl⟩⟩; refine ⟨_, rfl, ?_⟩))
  go_ret
  exact ⟨by first | rfl | (simp; done) | (simp [*]; done), by repeat (first | exact Drawn0.refl _ | apply Drawn0.step)⟩

attribute [local go_sem] signed_i64 signed_i32 signed_u32 max_u32 signed_u64 max_u64
/-! ### spec_bit: function 51 -/
def spec_bit.f (a0 : Int) (a1 : Int) : Option (Int) := if 0 ≤ a1 then (some (Int.tmod (shr .u64 a0 a1) 2)) else (none)
set_option maxHeartbeats 8000000 in
set_option maxRecDepth 100000 in
theorem spec_bit.calls (a0 : Int) (a1 : Int) (r : Int) (w : World) (h : spec_bit.f a0 a1 = some r) :
    Calls Tryd.prog 51 #[.int .u64 a0, .int .u64 a1] w fun e w' => e = .returned (.int .u64 r) ∧ Drawn0 w w' := by
  have H : (if 0 ≤ a1 then (some (Int.tmod (shr .u64 a0 a1) 2)) else (none)) = some r := h
  clear h
  by_cases c3 : 0 ≤ a1
  · rw [if_pos c3] at H
    have c3b0 := eq_true c3
    have c3b1 : decide (0 ≤ a1) = true := decide_eq_true c3
    clear c3
    obtain ⟨ji4, hji4⟩ : ∃ j_ : Int, (shr .u64 a0 a1) = j_ := ⟨_, rfl⟩
    replace H : (some (Int.tmod (ji4) 2)) = some r := by first | (rw [hji4] at H; exact H) | (simp only [hji4] at H ⊢; exact H)
    have hji4_ : (a0 / 2 ^ min a1.toNat 64) = ji4 := hji4
    have hji4z : a1 ≤ 64 → (a0 / 2 ^ a1.toNat) = ji4 := shr_small hji4
    obtain rfl := Option.some.inj H
    go_enter Tryd.func51, Tryd.ntmps51
    go_wp2
    go_ret
    exact ⟨by first | rfl | (simp; done) | (simp only [← hji4] <;> (first | rfl | simp)) | (simp [*]; done), by repeat (first | exact Drawn0.refl _ | apply Drawn0.step)⟩
  · rw [if_neg c3] at H
    exact absurd H (by simp)

attribute [local go_sem] signed_i64 signed_i32 signed_u32 max_u32 signed_u64 max_u64
/-! ### spec_IsRun: function 39 -/
def spec_IsRun.l0 : Nat → Int → Int → Int → Option (Bool)
  | 0, _, _, _ => none
  | k + 1, x0, x3, x5 => if x5 < 64 then ((spec_bit.f x0 x5).bind fun t127 => (if t127 = 1 then (if x5 = 0 then (spec_IsRun.l0 k x0 (wrap64 (x3 + 1)) (IntKind.u64.wrap (x5 + 1))) else ((spec_bit.f x0 (IntKind.u64.wrap (x5 - 1))).bind fun t128 => (if t128 = 0 then (spec_IsRun.l0 k x0 (wrap64 (x3 + 1)) (IntKind.u64.wrap (x5 + 1))) else (spec_IsRun.l0 k x0 x3 (IntKind.u64.wrap (x5 + 1)))))) else (spec_IsRun.l0 k x0 x3 (IntKind.u64.wrap (x5 + 1))))) else (some (x3 == 1))
def spec_IsRun.f (k : Nat) (a0 : Int) : Option (Bool) := spec_IsRun.l0 k a0 0 0
theorem spec_IsRun.mono_l : ∀ k, (∀ y0 y1 y2, LeO (spec_IsRun.l0 k y0 y1 y2) (spec_IsRun.l0 (k + 1) y0 y1 y2))
  | 0 => fun _ _ _ r h => by simp [spec_IsRun.l0] at h
  | k + 1 => by
    have ih0 := spec_IsRun.mono_l k
    · intro y0 y1 y2
      unfold spec_IsRun.l0
      repeat' first
      | (with_reducible exact ih0 _ _ _)
      | (with_reducible exact LeO.refl _)
      | (with_reducible exact LeO.none _)
      | (with_reducible refine LeO.ite ?_ ?_)
      | (with_reducible refine LeO.bind ?_ (fun _ => ?_))
      | exact ih0 _ _ _
      | exact LeO.none _
      | refine LeO.ite ?_ ?_
      | refine LeO.bind ?_ (fun _ => ?_)
theorem spec_IsRun.mono : ∀ a0 k, LeO (spec_IsRun.f k a0) (spec_IsRun.f (k + 1) a0) := by
  intro a0 k
  have ih0 := spec_IsRun.mono_l k
  unfold spec_IsRun.f
  repeat' first
      | (with_reducible exact ih0 _ _ _)
      | (with_reducible exact LeO.refl _)
      | (with_reducible exact LeO.none _)
      | (with_reducible refine LeO.ite ?_ ?_)
      | (with_reducible refine LeO.bind ?_ (fun _ => ?_))
      | exact ih0 _ _ _
      | exact LeO.none _
      | refine LeO.ite ?_ ?_
      | refine LeO.bind ?_ (fun _ => ?_)
set_option maxHeartbeats 8000000 in
set_option maxRecDepth 100000 in
theorem spec_IsRun.calls (k : Nat) (a0 : Int) (r : Bool) (w : World) (h : spec_IsRun.f k a0 = some r) :
    Calls Tryd.prog 39 #[.int .u64 a0] w fun e w' => e = .returned (.bool r) ∧ Drawn0 w w' := by
  have H : (spec_IsRun.l0 k a0 0 0) = some r := h
  clear h
  have H' := Aside0.mk H
  clear H
  go_enter Tryd.func39, Tryd.ntmps39
  go_wp2
  go_loopg [3, 5] k (fun kq v3 v5 w' => ∃ (x3_1 : Int) (x5_1 : Int), v3 = .int .i64 x3_1 ∧ v5 = .int .u64 x5_1 ∧ Aside0 (spec_IsRun.l0 kq a0 x3_1 x5_1 = some r) ∧ Aside0 (kq ≤ k) ∧ Drawn0 w w')
  case atStart => exact ⟨(0), (0), (by first | rfl | (simp; done) | (simp [*]; done)), (by first | rfl | (simp; done) | (simp [*]; done)), H', ⟨Nat.le_refl _⟩, by repeat (first | exact Drawn0.refl _ | apply Drawn0.step)⟩
  case round =>
    clear H'
    obtain ⟨x3_1, x5_1, rfl, rfl, HA, HK1, ⟨m1, rfl⟩⟩ := hrel
    cases gk with
    | zero => exact absurd HA.out (by simp [spec_IsRun.l0])
    | succ k1 =>
      have H := HA.out
      clear HA
      simp only [spec_IsRun.l0] at H
      by_cases c2 : x5_1 < 64
      · rw [if_pos c2] at H
        have c2b0 : decide (x5_1 < 64) = true := decide_eq_true c2
        clear c2
        replace H := Option.bind_eq_some_iff.mp H
        obtain ⟨t127, A30, H⟩ := H
        replace H : (if t127 = 1 then (if x5_1 = 0 then (spec_IsRun.l0 k1 a0 (wrap64 (x3_1 + 1)) (IntKind.u64.wrap (x5_1 + 1))) else ((spec_bit.f a0 (IntKind.u64.wrap (x5_1 - 1))).bind fun t128 => (if t128 = 0 then (spec_IsRun.l0 k1 a0 (wrap64 (x3_1 + 1)) (IntKind.u64.wrap (x5_1 + 1))) else (spec_IsRun.l0 k1 a0 x3_1 (IntKind.u64.wrap (x5_1 + 1)))))) else (spec_IsRun.l0 k1 a0 x3_1 (IntKind.u64.wrap (x5_1 + 1)))) = some r := H
        have A3 := Aside0.mk A30
        clear A30
        by_cases c4 : t127 = 1
        · rw [if_pos c4] at H
          have c4b0 : (t127 == 1) = true := beq_iff_eq.mpr c4
          have c4b1 : (t127 != 1) = false := bne_eq_false_iff_eq.mpr c4
          clear c4
          by_cases c5 : x5_1 = 0
          · rw [if_pos c5] at H
            have c5b0 : (x5_1 == 0) = true := beq_iff_eq.mpr c5
            have c5b1 : (x5_1 != 0) = false := bne_eq_false_iff_eq.mpr c5
            clear c5
            have H' := Aside0.mk H
            clear H
            go_wp2_with (first | ((with_reducible refine gate_callee (f := 51) rfl ?_); refine goesL_ (some 10) rfl rfl Tryd.func51 (by kernel_rfl) rfl #[.int .u64 a0, .int .u64 x5_1] rfl (by (try simp only [List.map_toArray, List.map_cons, List.map_nil]); first | done | rfl | (simp only [List.length_drop, List.length_take]; rfl)) ?_; (with_reducible refine (spec_bit.calls a0 x5_1 t127 _ A3.out).mono ?_); rintro e w' ⟨rfl, ⟨nd, rfl⟩⟩; refine ⟨_, rfl, ?_⟩))
            go_roundg k1
            case measure => have := HK1.out; omega
            case rel => exact ⟨(wrap64 (x3_1 + 1)), (IntKind.u64.wrap (x5_1 + 1)), (by first | rfl | (simp; done) | (simp [*]; done)), (by first | rfl | (simp; done) | (simp [*]; done)), H', ⟨by have := HK1.out; omega⟩, by repeat (first | exact Drawn0.refl _ | apply Drawn0.step)⟩
          · rw [if_neg c5] at H
            have c5b0 : (x5_1 == 0) = false := beq_eq_false_iff_ne.mpr c5
            have c5b1 : (x5_1 != 0) = true := bne_iff_ne.mpr c5
            replace H := Option.bind_eq_some_iff.mp H
            obtain ⟨t128, A60, H⟩ := H
            replace H : (if t128 = 0 then (spec_IsRun.l0 k1 a0 (wrap64 (x3_1 + 1)) (IntKind.u64.wrap (x5_1 + 1))) else (spec_IsRun.l0 k1 a0 x3_1 (IntKind.u64.wrap (x5_1 + 1)))) = some r := H
            have A6 := Aside0.mk A60
            clear A60
            by_cases c7 : t128 = 0
            · rw [if_pos c7] at H
              have c7b0 : (t128 == 0) = true := beq_iff_eq.mpr c7
              have c7b1 : (t128 != 0) = false := bne_eq_false_iff_eq.mpr c7
              clear c7
              have H' := Aside0.mk H
              clear H
              go_wp2_with (first | ((with_reducible refine gate_callee (f := 51) rfl ?_); refine goesL_ (some 10) rfl rfl Tryd.func51 (by kernel_rfl) rfl #[.int .u64 a0, .int .u64 x5_1] rfl (by (try simp only [List.map_toArray, List.map_cons, List.map_nil]); first | done | rfl | (simp only [List.length_drop, List.length_take]; rfl)) ?_; (with_reducible refine (spec_bit.calls a0 x5_1 t127 _ A3.out).mono ?_); rintro e w' ⟨rfl, ⟨nd, rfl⟩⟩; refine ⟨_, rfl, ?_⟩) | (go_at_call 51; (with_reducible refine (spec_bit.calls a0 (IntKind.u64.wrap (x5_1 - 1)) t128 _ A6.out).mono ?_); rintro e w' ⟨rfl, ⟨nd, rfl⟩⟩))
              go_roundg k1
              case measure => have := HK1.out; omega
              case rel => exact ⟨(wrap64 (x3_1 + 1)), (IntKind.u64.wrap (x5_1 + 1)), (by first | rfl | (simp; done) | (simp [*]; done)), (by first | rfl | (simp; done) | (simp [*]; done)), H', ⟨by have := HK1.out; omega⟩, by repeat (first | exact Drawn0.refl _ | apply Drawn0.step)⟩
            · rw [if_neg c7] at H
              have c7b0 : (t128 == 0) = false := beq_eq_false_iff_ne.mpr c7
              have c7b1 : (t128 != 0) = true := bne_iff_ne.mpr c7
              have H' := Aside0.mk H
              clear H
              go_wp2_with (first | ((with_reducible refine gate_callee (f := 51) rfl ?_); refine goesL_ (some 10) rfl rfl Tryd.func51 (by kernel_rfl) rfl #[.int .u64 a0, .int .u64 x5_1] rfl (by (try simp only [List.map_toArray, List.map_cons, List.map_nil]); first | done | rfl | (simp only [List.length_drop, List.length_take]; rfl)) ?_; (with_reducible refine (spec_bit.calls a0 x5_1 t127 _ A3.out).mono ?_); rintro e w' ⟨rfl, ⟨nd, rfl⟩⟩; refine ⟨_, rfl, ?_⟩) | (go_at_call 51; (with_reducible refine (spec_bit.calls a0 (IntKind.u64.wrap (x5_1 - 1)) t128 _ A6.out).mono ?_); rintro e w' ⟨rfl, ⟨nd, rfl⟩⟩))
              go_roundg k1
              case measure => have := HK1.out; omega
              case rel => exact ⟨(x3_1), (IntKind.u64.wrap (x5_1 + 1)), (by first | rfl | (simp; done) | (simp [*]; done)), (by first | rfl | (simp; done) | (simp [*]; done)), H', ⟨by have := HK1.out; omega⟩, by repeat (first | exact Drawn0.refl _ | apply Drawn0.step)⟩
        · rw [if_neg c4] at H
          have c4b0 : (t127 == 1) = false := beq_eq_false_iff_ne.mpr c4
          have c4b1 : (t127 != 1) = true := bne_iff_ne.mpr c4
          have H' := Aside0.mk H
          clear H
          go_wp2_with (first | ((with_reducible refine gate_callee (f := 51) rfl ?_); refine goesL_ (some 10) rfl rfl Tryd.func51 (by kernel_rfl) rfl #[.int .u64 a0, .int .u64 x5_1] rfl (by (try simp only [List.map_toArray, List.map_cons, List.map_nil]); first | done | rfl | (simp only [List.length_drop, List.length_take]; rfl)) ?_; (with_reducible refine (spec_bit.calls a0 x5_1 t127 _ A3.out).mono ?_); rintro e w' ⟨rfl, ⟨nd, rfl⟩⟩; refine ⟨_, rfl, ?_⟩))
          go_roundg k1
          case measure => have := HK1.out; omega
          case rel => exact ⟨(x3_1), (IntKind.u64.wrap (x5_1 + 1)), (by first | rfl | (simp; done) | (simp [*]; done)), (by first | rfl | (simp; done) | (simp [*]; done)), H', ⟨by have := HK1.out; omega⟩, by repeat (first | exact Drawn0.refl _ | apply Drawn0.step)⟩
      · rw [if_neg c2] at H
        have c2b0 : decide (x5_1 < 64) = false := decide_eq_false c2
        clear c2
        obtain rfl := Option.some.inj H
        go_wp2
        go_ret
        exact ⟨by first | rfl | (simp; done) | (simp [*]; done), by repeat (first | exact Drawn0.refl _ | apply Drawn0.step)⟩

attribute [local go_sem] signed_i64 signed_i32 signed_u32 max_u32 signed_u64 max_u64
/-! ### laws_mkGood: function 23 -/
def laws_mkGood.j0 : Nat → Int → Int → Int → Int → Bool → Option (Bool)
  | 0, _, _, _, _, _ => none
  | k + 1, x1, x2, x7, x10, x34 => if x34 = true then (some false) else ((spec_IsRun.f k x10).bind fun t133 => (if t133 = true then ((spec_Rotated.f x1 32 (IntKind.u64.wrap (x7)) x10).bind fun t134 => (some (t134 == x2))) else ((spec_Low.f x2 32).bind fun t135 => ((spec_Rotated.f x1 32 (IntKind.u64.wrap (x7)) x10).bind fun t136 => (some (t136 == t135))))))
def laws_mkGood.f (k : Nat) (a0 : Int) (a1 : Int) (a2 : Int) : Option (Bool) := (impl_DecodeRotateMask.f a0).bind fun bt129 => (if (Go.bits .and .i64 (a0 / 16777216) 255) = 32 then (if bt129.1 < 0 then (laws_mkGood.j0 k a1 a2 bt129.1 bt129.2.2.2 true) else (if bt129.1 ≥ 32 then (laws_mkGood.j0 k a1 a2 bt129.1 bt129.2.2.2 true) else (laws_mkGood.j0 k a1 a2 bt129.1 bt129.2.2.2 ((bt129.2.2.2 / 4294967296) != 0)))) else (laws_mkGood.j0 k a1 a2 bt129.1 bt129.2.2.2 true))
theorem laws_mkGood.mono_l : ∀ k, (∀ y0 y1 y2 y3 y4, LeO (laws_mkGood.j0 k y0 y1 y2 y3 y4) (laws_mkGood.j0 (k + 1) y0 y1 y2 y3 y4))
  | 0 => fun _ _ _ _ _ r h => by simp [laws_mkGood.j0] at h
  | k + 1 => by
    have ih0 := laws_mkGood.mono_l k
    · intro y0 y1 y2 y3 y4
      unfold laws_mkGood.j0
      repeat' first
      | (with_reducible exact ih0 _ _ _ _ _)
      | (with_reducible exact spec_IsRun.mono _ _)
      | (with_reducible exact LeO.refl _)
      | (with_reducible exact LeO.none _)
      | (with_reducible refine LeO.ite ?_ ?_)
      | (with_reducible refine LeO.bind ?_ (fun _ => ?_))
      | exact ih0 _ _ _ _ _
      | exact spec_IsRun.mono _ _
      | exact LeO.none _
      | refine LeO.ite ?_ ?_
      | refine LeO.bind ?_ (fun _ => ?_)
theorem laws_mkGood.mono : ∀ a0 a1 a2 k, LeO (laws_mkGood.f k a0 a1 a2) (laws_mkGood.f (k + 1) a0 a1 a2) := by
  intro a0 a1 a2 k
  have ih0 := laws_mkGood.mono_l k
  unfold laws_mkGood.f
  repeat' first
      | (with_reducible exact ih0 _ _ _ _ _)
      | (with_reducible exact spec_IsRun.mono _ _)
      | (with_reducible exact LeO.refl _)
      | (with_reducible exact LeO.none _)
      | (with_reducible refine LeO.ite ?_ ?_)
      | (with_reducible refine LeO.bind ?_ (fun _ => ?_))
      | exact ih0 _ _ _ _ _
      | exact spec_IsRun.mono _ _
      | exact LeO.none _
      | refine LeO.ite ?_ ?_
      | refine LeO.bind ?_ (fun _ => ?_)
set_option maxHeartbeats 8000000 in
set_option maxRecDepth 100000 in
theorem laws_mkGood.calls (k : Nat) (a0 : Int) (a1 : Int) (a2 : Int) (r : Bool) (w : World) (h : laws_mkGood.f k a0 a1 a2 = some r) :
    Calls Tryd.prog 23 #[.int .i64 a0, .int .u64 a1, .int .u64 a2] w fun e w' => e = .returned (.bool r) ∧ Drawn0 w w' := by
  have H : ((impl_DecodeRotateMask.f a0).bind fun bt129 => (if (Go.bits .and .i64 (a0 / 16777216) 255) = 32 then (if bt129.1 < 0 then (laws_mkGood.j0 k a1 a2 bt129.1 bt129.2.2.2 true) else (if bt129.1 ≥ 32 then (laws_mkGood.j0 k a1 a2 bt129.1 bt129.2.2.2 true) else (laws_mkGood.j0 k a1 a2 bt129.1 bt129.2.2.2 ((bt129.2.2.2 / 4294967296) != 0)))) else (laws_mkGood.j0 k a1 a2 bt129.1 bt129.2.2.2 true))) = some r := h
  clear h
  replace H := Option.bind_eq_some_iff.mp H
  obtain ⟨⟨t129, t130, t131, t132⟩, A40, H⟩ := H
  replace H : (if (Go.bits .and .i64 (a0 / 16777216) 255) = 32 then (if t129 < 0 then (laws_mkGood.j0 k a1 a2 t129 t132 true) else (if t129 ≥ 32 then (laws_mkGood.j0 k a1 a2 t129 t132 true) else (laws_mkGood.j0 k a1 a2 t129 t132 ((t132 / 4294967296) != 0)))) else (laws_mkGood.j0 k a1 a2 t129 t132 true)) = some r := H
  have A4 := Aside0.mk A40
  clear A40
  have HC5 := Aside0.mk H
  clear H
  go_enter Tryd.func23, Tryd.ntmps23
  go_upto_region 2 with (first | ((with_reducible refine gate_callee (f := 15) rfl ?_); refine goesL_ (some 13) rfl rfl Tryd.func15 (by kernel_rfl) rfl #[.int .i64 a0] rfl (by (try simp only [List.map_toArray, List.map_cons, List.map_nil]); first | done | rfl | (simp only [List.length_drop, List.length_take]; rfl)) ?_; (with_reducible refine (impl_DecodeRotateMask.calls a0 t129 t130 t131 t132 _ A4.out).mono ?_); rintro e w' ⟨rfl, ⟨nd, rfl⟩⟩; refine ⟨_, rfl, ?_⟩))
  (try simp only [Act.put, List.setIfInBounds_toArray, List.set_cons_zero, List.set_cons_succ])
  go_cut [34] (fun v34 wc => ∃ (kq : Nat) (x34_4 : Bool), v34 = .bool x34_4 ∧ Aside0 (laws_mkGood.j0 kq a1 a2 t129 t132 x34_4 = some r) ∧ Aside0 (kq ≤ k) ∧ Drawn0 w wc)
  case first =>
    have H := HC5.out
    clear HC5
    by_cases c6 : (Go.bits .and .i64 (a0 / 16777216) 255) = 32
    · rw [if_pos c6] at H
      have c6b0 : ((Go.bits .and .i64 (a0 / 16777216) 255) == 32) = true := beq_iff_eq.mpr c6
      have c6b1 : ((Go.bits .and .i64 (a0 / 16777216) 255) != 32) = false := bne_eq_false_iff_eq.mpr c6
      clear c6
      (first | rw [c6b0] | (simp only [i64_w, i32_w]; rw [c6b0]) | skip)
      by_cases c7 : t129 < 0
      · rw [if_pos c7] at H
        have c7b0 : decide (t129 < 0) = true := decide_eq_true c7
        clear c7
        have H' := Aside0.mk H
        clear H
        go_wp2
        go_meet
        case rel => exact ⟨_, (true), (by first | rfl | (simp; done) | (simp [*]; done)), H', ⟨by first | omega | exact Nat.le_refl _⟩, by repeat (first | exact Drawn0.refl _ | apply Drawn0.step)⟩
      · rw [if_neg c7] at H
        have c7b0 : decide (t129 < 0) = false := decide_eq_false c7
        clear c7
        by_cases c8 : t129 ≥ 32
        · rw [if_pos c8] at H
          have c8b0 : decide (32 ≤ t129) = true := decide_eq_true c8
          clear c8
          have H' := Aside0.mk H
          clear H
          go_wp2
          go_meet
          case rel => exact ⟨_, (true), (by first | rfl | (simp; done) | (simp [*]; done)), H', ⟨by first | omega | exact Nat.le_refl _⟩, by repeat (first | exact Drawn0.refl _ | apply Drawn0.step)⟩
        · rw [if_neg c8] at H
          have c8b0 : decide (32 ≤ t129) = false := decide_eq_false c8
          clear c8
          have H' := Aside0.mk H
          clear H
          go_wp2
          go_meet
          case rel => exact ⟨_, (((t132 / 4294967296) != 0)), (by first | rfl | (simp; done) | (simp [*]; done)), H', ⟨by first | omega | exact Nat.le_refl _⟩, by repeat (first | exact Drawn0.refl _ | apply Drawn0.step)⟩
    · rw [if_neg c6] at H
      have c6b0 : ((Go.bits .and .i64 (a0 / 16777216) 255) == 32) = false := beq_eq_false_iff_ne.mpr c6
      have c6b1 : ((Go.bits .and .i64 (a0 / 16777216) 255) != 32) = true := bne_iff_ne.mpr c6
      (first | rw [c6b0] | (simp only [i64_w, i32_w]; rw [c6b0]) | skip)
      have H' := Aside0.mk H
      clear H
      go_wp2
      go_meet
      case rel => exact ⟨_, (true), (by first | rfl | (simp; done) | (simp [*]; done)), H', ⟨by first | omega | exact Nat.le_refl _⟩, by repeat (first | exact Drawn0.refl _ | apply Drawn0.step)⟩
  case rest =>
    clear HC5
    try clear c1
    try clear c2
    try clear p2
    try clear c6
    try clear c6b0
    try clear c6b1
    try clear c7
    try clear c7b0
    try clear c8
    try clear c8b0
    obtain ⟨kq, x34_4, rfl, HA, HJ4, ⟨mc4, rfl⟩⟩ := hcut
    cases kq with
    | zero => exact absurd HA.out (by simp [laws_mkGood.j0])
    | succ kj4 =>
      have H := HA.out
      clear HA
      simp only [laws_mkGood.j0] at H
      by_cases c9 : x34_4 = true
      · subst c9
        have H1 : (some false) = some r := by rw [if_pos rfl] at H; exact H
        clear H
        have H := H1
        clear H1
        obtain rfl := Option.some.inj H
        go_wp2
        go_ret
        exact ⟨by first | rfl | (simp; done) | (simp [*]; done), by repeat (first | exact Drawn0.refl _ | apply Drawn0.step)⟩
      · replace c9 := Bool.eq_false_iff.mpr c9
        subst c9
        have H1 : ((spec_IsRun.f kj4 t132).bind fun t133 => (if t133 = true then ((spec_Rotated.f a1 32 (IntKind.u64.wrap (t129)) t132).bind fun t134 => (some (t134 == a2))) else ((spec_Low.f a2 32).bind fun t135 => ((spec_Rotated.f a1 32 (IntKind.u64.wrap (t129)) t132).bind fun t136 => (some (t136 == t135)))))) = some r := by rw [if_neg (show ¬ (false = true) by decide)] at H; exact H
        clear H
        have H := H1
        clear H1
        replace H := Option.bind_eq_some_iff.mp H
        obtain ⟨t133, A100, H⟩ := H
        replace H : (if t133 = true then ((spec_Rotated.f a1 32 (IntKind.u64.wrap (t129)) t132).bind fun t134 => (some (t134 == a2))) else ((spec_Low.f a2 32).bind fun t135 => ((spec_Rotated.f a1 32 (IntKind.u64.wrap (t129)) t132).bind fun t136 => (some (t136 == t135))))) = some r := H
        have A10 := Aside0.mk A100
        clear A100
        by_cases c11 : t133 = true
        · subst c11
          have H1 : ((spec_Rotated.f a1 32 (IntKind.u64.wrap (t129)) t132).bind fun t134 => (some (t134 == a2))) = some r := by rw [if_pos rfl] at H; exact H
          clear H
          have H := H1
          clear H1
          replace H := Option.bind_eq_some_iff.mp H
          obtain ⟨t134, A120, H⟩ := H
          replace H : (some (t134 == a2)) = some r := H
          have A12 := Aside0.mk A120
          clear A120
          obtain rfl := Option.some.inj H
          go_wp2_with (first | ((with_reducible refine gate_callee (f := 39) rfl ?_); refine goesL_ (some 36) rfl rfl Tryd.func39 (by kernel_rfl) rfl #[.int .u64 t132] rfl (by (try simp only [List.map_toArray, List.map_cons, List.map_nil]); first | done | rfl | (simp only [List.length_drop, List.length_take]; rfl)) ?_; (with_reducible refine (spec_IsRun.calls kj4 t132 true _ A10.out).mono ?_); rintro e w' ⟨rfl, ⟨nd, rfl⟩⟩; refine ⟨_, rfl, ?_⟩) | ((with_reducible refine gate_callee (f := 18) rfl ?_); refine goesL_ (some 44) rfl rfl Tryd.func18 (by kernel_rfl) rfl #[.int .u64 a1, .int .u64 32, .int .u64 (IntKind.u64.wrap (t129)), .int .u64 t132] rfl (by (try simp only [List.map_toArray, List.map_cons, List.map_nil]); first | done | rfl | (simp only [List.length_drop, List.length_take]; rfl)) ?_; (with_reducible refine (spec_Rotated.calls a1 32 (IntKind.u64.wrap (t129)) t132 t134 _ A12.out).mono ?_); rintro e w' ⟨rfl, ⟨nd, rfl⟩⟩; refine ⟨_, rfl, ?_⟩))
          go_ret
          exact ⟨by first | rfl | (simp; done) | (simp [*]; done), by repeat (first | exact Drawn0.refl _ | apply Drawn0.step)⟩
        · replace c11 := Bool.eq_false_iff.mpr c11
          subst c11
          have H1 : ((spec_Low.f a2 32).bind fun t135 => ((spec_Rotated.f a1 32 (IntKind.u64.wrap (t129)) t132).bind fun t136 => (some (t136 == t135)))) = some r := by rw [if_neg (show ¬ (false = true) by decide)] at H; exact H
          clear H
          have H := H1
          clear H1
          replace H := Option.bind_eq_some_iff.mp H
          obtain ⟨t135, A130, H⟩ := H
          replace H : ((spec_Rotated.f a1 32 (IntKind.u64.wrap (t129)) t132).bind fun t136 => (some (t136 == t135))) = some r := H
          have A13 := Aside0.mk A130
          clear A130
          replace H := Option.bind_eq_some_iff.mp H
          obtain ⟨t136, A140, H⟩ := H
          replace H : (some (t136 == t135)) = some r := H
          have A14 := Aside0.mk A140
          clear A140
          obtain rfl := Option.some.inj H
          go_wp2_with (first | ((with_reducible refine gate_callee (f := 39) rfl ?_); refine goesL_ (some 36) rfl rfl Tryd.func39 (by kernel_rfl) rfl #[.int .u64 t132] rfl (by (try simp only [List.map_toArray, List.map_cons, List.map_nil]); first | done | rfl | (simp only [List.length_drop, List.length_take]; rfl)) ?_; (with_reducible refine (spec_IsRun.calls kj4 t132 false _ A10.out).mono ?_); rintro e w' ⟨rfl, ⟨nd, rfl⟩⟩; refine ⟨_, rfl, ?_⟩) | ((with_reducible refine gate_callee (f := 19) rfl ?_); refine goesL_ (some 39) rfl rfl Tryd.func19 (by kernel_rfl) rfl #[.int .u64 a2, .int .u64 32] rfl (by (try simp only [List.map_toArray, List.map_cons, List.map_nil]); first | done | rfl | (simp only [List.length_drop, List.length_take]; rfl)) ?_; (with_reducible refine (spec_Low.calls a2 32 t135 _ A13.out).mono ?_); rintro e w' ⟨rfl, ⟨nd, rfl⟩⟩; refine ⟨_, rfl, ?_⟩) | ((with_reducible refine gate_callee (f := 18) rfl ?_); refine goesL_ (some 44) rfl rfl Tryd.func18 (by kernel_rfl) rfl #[.int .u64 a1, .int .u64 32, .int .u64 (IntKind.u64.wrap (t129)), .int .u64 t132] rfl (by (try simp only [List.map_toArray, List.map_cons, List.map_nil]); first | done | rfl | (simp only [List.length_drop, List.length_take]; rfl)) ?_; (with_reducible refine (spec_Rotated.calls a1 32 (IntKind.u64.wrap (t129)) t132 t136 _ A14.out).mono ?_); rintro e w' ⟨rfl, ⟨nd, rfl⟩⟩; refine ⟨_, rfl, ?_⟩))
          go_ret
          exact ⟨by first | rfl | (simp; done) | (simp [*]; done), by repeat (first | exact Drawn0.refl _ | apply Drawn0.step)⟩

-- NOT PRINTED: function 6 (laws_FnClrlsldiSrw)

end Go.Proofs.YtlcaejikcelgoaaDoor.PFnClrlsldiSrw
