/- A number is told to be an unsigned one of 32, 16, 12 or 8 bits exactly if it is: for all numbers. No condition. -/
import Derived.Test.YtcihkjjejckicaaPFnUnsignedx1
import Derived.Test.YtcihkjjejckicaaAt
import Derived.Test.YtcihkjjejckicaaBr
import Derived.Test.YtcihkjjejckicaaSh
import Derived.Test.YtcihkjjejckicaaUb
set_option linter.unusedVariables false
set_option linter.unusedSimpArgs false
namespace Go.Proofs.Ytcihkjjejckicaa.Pure
open Go.RowKit Go.Proofs.Ytcihkjjejckicaa.PFnUnsigned Go.Proofs.YtcihkjjejckicaaW.PrintWords Go.Proofs.YtcihkjjejckicaaW.PrintLast Go.Proofs.YtcihkjjejckicaaW.PrintMore
open Br
namespace CFnUnsigned
theorem fits_all (a : Int) : spec_FitsU.f a 32 = some (decide (0 ≤ a ∧ a < 4294967296)) ∧ spec_FitsU.f a 16 = some (decide (0 ≤ a ∧ a < 65536)) ∧ spec_FitsU.f a 12 = some (decide (0 ≤ a ∧ a < 4096)) ∧ spec_FitsU.f a 8 = some (decide (0 ≤ a ∧ a < 256)) := by
  have e1 : shl .i64 1 32 = 4294967296 := by decide +kernel
  have e2 : shl .i64 1 16 = 65536 := by decide +kernel
  have e3 : shl .i64 1 12 = 4096 := by decide +kernel
  have e4 : shl .i64 1 8 = 256 := by decide +kernel
  unfold spec_FitsU.f
  rw [e1, e2, e3, e4]
  by_cases h : 0 ≤ a <;> simp [h]
theorem main : laws_FnUnsigned.Pure := by
  intro a ha
  have ha := wf_i64 ha
  obtain ⟨f1, f2, f3, f4⟩ := fits_all a
  have h5 : impl_IsU8Bit.f 5 = some true := by decide +kernel
  have g1 : impl_IsU32Bit.f a = some (decide (0 ≤ a ∧ a < 4294967296)) := by
    unfold impl_IsU32Bit.f ssarewrite_ZZIsU32Bit.f ssarewrite_isU32Bit.f
    simp only [Option.bind_some, Option.some.injEq]
    rw [Bool.eq_iff_iff, beq_iff_eq, decide_eq_true_eq]; omega
  have g2 : impl_IsU16Bit.f a = some (decide (0 ≤ a ∧ a < 65536)) := by
    unfold impl_IsU16Bit.f ssarewrite_ZZIsU16Bit.f ssarewrite_isU16Bit.f
    simp only [Option.bind_some, Option.some.injEq]
    rw [Bool.eq_iff_iff, beq_iff_eq, decide_eq_true_eq, show IntKind.u16.wrap a = a % 65536 by simp [IntKind.wrap, IntKind.bits, IntKind.signed]]
    unfold wrap64; omega
  have g3 : impl_IsU12Bit.f a = some (decide (0 ≤ a ∧ a < 4096)) := by
    unfold impl_IsU12Bit.f ssarewrite_ZZIsU12Bit.f ssarewrite_isU12Bit.f
    by_cases h : 0 ≤ a <;> simp [h]
  have g4 : impl_IsU8Bit.f a = some (decide (0 ≤ a ∧ a < 256)) := by
    unfold impl_IsU8Bit.f ssarewrite_ZZIsU8Bit.f ssarewrite_isU8Bit.f
    simp only [Option.bind_some, Option.some.injEq]
    rw [Bool.eq_iff_iff, beq_iff_eq, decide_eq_true_eq]; omega
  unfold laws_FnUnsigned.f
  rw [f1, f2, f3, f4, g1, g2, g3, g4, h5]
  simp

end CFnUnsigned
theorem FnUnsigned : laws_FnUnsigned.Pure := CFnUnsigned.main
end Go.Proofs.Ytcihkjjejckicaa.Pure
