/- The remainder of at least 0 that the statements draw their numbers by; numbers of a kind. No condition. -/
import Derived.RowKit
set_option linter.unusedVariables false
namespace Go.Proofs.Ytdlhgddagnikdaa.Br
open Go Go.RowKit
/-- The remainder is one of 0 to n - 1. -/
theorem at_any (a n : Int) (h0 : 0 < n) (h1 : n ≤ 4611686018427387904) : ∃ r : Nat, (r : Int) < n ∧ Int.tmod (wrap64 (Int.tmod a n + n)) n = (r : Int) := by
  have l1 := Int.tmod_lt_of_pos a h0
  have l2 : -n < Int.tmod a n := Int.lt_tmod_of_pos a h0
  have e : wrap64 (Int.tmod a n + n) = Int.tmod a n + n := by unfold wrap64; omega
  rw [e]
  have l3 : 0 ≤ Int.tmod (Int.tmod a n + n) n := Int.tmod_nonneg _ (by omega)
  have l4 := Int.tmod_lt_of_pos (Int.tmod a n + n) h0
  exact ⟨(Int.tmod (Int.tmod a n + n) n).toNat, by omega, by omega⟩
theorem at_small (r n : Int) (hr : 0 ≤ r) (h : r < n) (h1 : n ≤ 4611686018427387904) : Int.tmod (wrap64 (Int.tmod r n + n)) n = r := by
  have e0 : Int.tmod r n = r := by rw [Int.tmod_eq_emod_of_nonneg hr, Int.emod_eq_of_lt hr h]
  rw [e0]
  have e : wrap64 (r + n) = r + n := by unfold wrap64; omega
  rw [e, Int.tmod_eq_emod_of_nonneg (by omega), Int.add_emod_right, Int.emod_eq_of_lt hr h]
theorem wf_i64 {a : Int} (h : (Lit.int .i64 a).wf = true) : -9223372036854775808 ≤ a ∧ a ≤ 9223372036854775807 := by
  simp [Lit.wf, IntKind.min, IntKind.max, IntKind.bits, IntKind.signed] at h; omega
theorem wf_u64 {a : Int} (h : (Lit.int .u64 a).wf = true) : 0 ≤ a ∧ a ≤ 18446744073709551615 := by
  simp [Lit.wf, IntKind.min, IntKind.max, IntKind.bits, IntKind.signed] at h; omega
theorem wf_i32 {a : Int} (h : (Lit.int .i32 a).wf = true) : -2147483648 ≤ a ∧ a ≤ 2147483647 := by
  simp [Lit.wf, IntKind.min, IntKind.max, IntKind.bits, IntKind.signed] at h; omega
theorem wf_u32 {a : Int} (h : (Lit.int .u32 a).wf = true) : 0 ≤ a ∧ a ≤ 4294967295 := by
  simp [Lit.wf, IntKind.min, IntKind.max, IntKind.bits, IntKind.signed] at h; omega
theorem wf_i8 {a : Int} (h : (Lit.int .i8 a).wf = true) : -128 ≤ a ∧ a ≤ 127 := by
  simp [Lit.wf, IntKind.min, IntKind.max, IntKind.bits, IntKind.signed] at h; omega
theorem wf_u8 {a : Int} (h : (Lit.int .u8 a).wf = true) : 0 ≤ a ∧ a ≤ 255 := by
  simp [Lit.wf, IntKind.min, IntKind.max, IntKind.bits, IntKind.signed] at h; omega
end Go.Proofs.Ytdlhgddagnikdaa.Br
