/- The flags behind a difference of two words of 64 bits tell how its parts compare, as signed and as unsigned numbers: for all pairs. No condition. -/
import Derived.Test.YtdlhgddagnikdaaPFnSubFlags64x2
import Derived.Test.YtdlhgddagnikdaaAt
set_option linter.unusedVariables false
set_option linter.unusedSimpArgs false
namespace Go.Proofs.Ytdlhgddagnikdaa.Pure
open Go.RowKit Go.Proofs.Ytdlhgddagnikdaa.PFnSubFlags64 Go.Proofs.YtdlhgddagnikdaaW.PrintWords Go.Proofs.YtdlhgddagnikdaaW.PrintLast
namespace CSubFlags64

def code (n z c v : Bool) : Int := (if n then 1 else 0) + (if z then 2 else 0) + (if c then 4 else 0) + (if v then 8 else 0)
theorem enc_all : ∀ n z c v : Bool, ssarewrite_flagConstantBuilder_encode.f 3 n z c v = some (code n z c v) := by decide +kernel
theorem flags_all : ∀ n z c v : Bool, impl_flags.f (code n z c v) = some (n, z, c, v, z, !z, n != v, z || (n != v), !z && (n == v), n == v, !c, z || !c, !z && c, c, (n != v) && !v, (z || (n != v)) && !v, (!z && (n == v)) && !v, (n == v) && !v) := by
  intro n z c v
  cases n <;> cases z <;> cases c <;> cases v <;> kernel_rfl
theorem u64w (n : Int) : IntKind.u64.wrap n = n % 18446744073709551616 := by simp [IntKind.wrap, IntKind.bits, IntKind.signed]

theorem at_SubFlags64 (a b : Int) : ∃ v : Bool, ssarewrite_subFlags64.f 3 a b = some (code (decide (wrap64 (a - b) < 0)) (wrap64 (a - b) == 0) (decide ((IntKind.u64.wrap (b)) ≤ (IntKind.u64.wrap (a)))) v) ∧ (v = true ↔ (a ≥ 0 ∧ b < 0 ∧ wrap64 (a - b) < 0) ∨ (a < 0 ∧ b ≥ 0 ∧ wrap64 (a - b) ≥ 0)) := by
  unfold ssarewrite_subFlags64.f
  simp only [enc_all, Option.bind_some]
  repeat' split
  all_goals (refine ⟨_, rfl, ?_⟩; simp only [Bool.false_eq_true, decide_eq_true_eq, true_iff, false_iff]; omega)
theorem of_SubFlags64 (a b : Int) : ∃ v : Bool, (v = true ↔ (a ≥ 0 ∧ b < 0 ∧ wrap64 (a - b) < 0) ∨ (a < 0 ∧ b ≥ 0 ∧ wrap64 (a - b) ≥ 0)) ∧ ∃ n z c : Bool, n = decide (wrap64 (a - b) < 0) ∧ z = (wrap64 (a - b) == 0) ∧ c = decide ((IntKind.u64.wrap (b)) ≤ (IntKind.u64.wrap (a))) ∧
    impl_SubFlags64.f 3 a b = some (n, z, c, v, z, !z, n != v, z || (n != v), !z && (n == v), n == v, !c, z || !c, !z && c, c, (n != v) && !v, (z || (n != v)) && !v, (!z && (n == v)) && !v, (n == v) && !v) := by
  obtain ⟨v, e, h⟩ := at_SubFlags64 a b
  refine ⟨v, h, _, _, _, rfl, rfl, rfl, ?_⟩
  unfold impl_SubFlags64.f ssarewrite_ZZSubFlags64.f
  rw [e]
  simp only [Option.bind_some, flags_all]
end CSubFlags64
open CSubFlags64

theorem FnSubFlags64 : laws_FnSubFlags64.Pure := by
  intro a b ha hb
  have ha := Br.wf_i64 ha
  have hb := Br.wf_i64 hb
  refine ⟨3, ?_⟩
  obtain ⟨v, hv, n, z, c, hn, hz, hc, e⟩ := of_SubFlags64 a b
  unfold laws_FnSubFlags64.f
  rw [e]
  simp only [Option.bind_some]
  have hn' : n = true ↔ wrap64 (a - b) < 0 := by rw [hn]; simp
  have hz' : z = true ↔ wrap64 (a - b) = 0 := by rw [hz]; simp
  have hc' : c = true ↔ IntKind.u64.wrap b ≤ IntKind.u64.wrap a := by rw [hc]; simp
  clear hn hz hc e
  simp only [u64w] at hc' ⊢
  unfold wrap64 at *
  have q1 : z = (a == b) := by rw [Bool.eq_iff_iff, hz', beq_iff_eq]; omega
  have q2 : c = decide (b % 18446744073709551616 ≤ a % 18446744073709551616) := by rw [Bool.eq_iff_iff, hc', decide_eq_true_eq]
  have q3 : (n != v) = decide (a < b) := by
    have q : (n != v) = true ↔ ¬ (n = true ↔ v = true) := by cases n <;> cases v <;> decide
    rw [Bool.eq_iff_iff, q, hn', hv, decide_eq_true_eq]; omega
  have q4 : (n == v) = !(decide (a < b)) := by rw [← q3]; cases n <;> cases v <;> rfl
  rw [q3, q4, q1, q2]
  have : (a != b) = (!(a == b)) := by first | rfl | (rw [Bool.eq_iff_iff]; simp only [Bool.not_eq_true', Bool.or_eq_true, Bool.and_eq_true, Bool.or_eq_false_iff, decide_eq_false_iff_not, decide_eq_true_eq, beq_iff_eq, bne_iff_ne, ne_eq, beq_eq_false_iff_ne] <;> omega)
  rw [this]; clear this
  have : decide (a ≤ b) = (decide (a < b) || (a == b)) := by first | rfl | (rw [Bool.eq_iff_iff]; simp only [Bool.not_eq_true', Bool.or_eq_true, Bool.and_eq_true, Bool.or_eq_false_iff, decide_eq_false_iff_not, decide_eq_true_eq, beq_iff_eq, bne_iff_ne, ne_eq, beq_eq_false_iff_ne] <;> omega)
  rw [this]; clear this
  have : decide (a > b) = (!decide (a < b) && !(a == b)) := by first | rfl | (rw [Bool.eq_iff_iff]; simp only [Bool.not_eq_true', Bool.or_eq_true, Bool.and_eq_true, Bool.or_eq_false_iff, decide_eq_false_iff_not, decide_eq_true_eq, beq_iff_eq, bne_iff_ne, ne_eq, beq_eq_false_iff_ne] <;> omega)
  rw [this]; clear this
  have : decide (a ≥ b) = (!decide (a < b)) := by first | rfl | (rw [Bool.eq_iff_iff]; simp only [Bool.not_eq_true', Bool.or_eq_true, Bool.and_eq_true, Bool.or_eq_false_iff, decide_eq_false_iff_not, decide_eq_true_eq, beq_iff_eq, bne_iff_ne, ne_eq, beq_eq_false_iff_ne] <;> omega)
  rw [this]; clear this
  have : decide (a % 18446744073709551616 < b % 18446744073709551616) = (!decide (b % 18446744073709551616 ≤ a % 18446744073709551616)) := by first | rfl | (rw [Bool.eq_iff_iff]; simp only [Bool.not_eq_true', Bool.or_eq_true, Bool.and_eq_true, Bool.or_eq_false_iff, decide_eq_false_iff_not, decide_eq_true_eq, beq_iff_eq, bne_iff_ne, ne_eq, beq_eq_false_iff_ne] <;> omega)
  rw [this]; clear this
  have : decide (a % 18446744073709551616 ≤ b % 18446744073709551616) = (!decide (b % 18446744073709551616 ≤ a % 18446744073709551616) || (a == b)) := by first | rfl | (rw [Bool.eq_iff_iff]; simp only [Bool.not_eq_true', Bool.or_eq_true, Bool.and_eq_true, Bool.or_eq_false_iff, decide_eq_false_iff_not, decide_eq_true_eq, beq_iff_eq, bne_iff_ne, ne_eq, beq_eq_false_iff_ne] <;> omega)
  rw [this]; clear this
  have : decide (a % 18446744073709551616 > b % 18446744073709551616) = (decide (b % 18446744073709551616 ≤ a % 18446744073709551616) && !(a == b)) := by first | rfl | (rw [Bool.eq_iff_iff]; simp only [Bool.not_eq_true', Bool.or_eq_true, Bool.and_eq_true, Bool.or_eq_false_iff, decide_eq_false_iff_not, decide_eq_true_eq, beq_iff_eq, bne_iff_ne, ne_eq, beq_eq_false_iff_ne] <;> omega)
  rw [this]; clear this
  have : decide (a % 18446744073709551616 ≥ b % 18446744073709551616) = (decide (b % 18446744073709551616 ≤ a % 18446744073709551616)) := by first | rfl | (rw [Bool.eq_iff_iff]; simp only [Bool.not_eq_true', Bool.or_eq_true, Bool.and_eq_true, Bool.or_eq_false_iff, decide_eq_false_iff_not, decide_eq_true_eq, beq_iff_eq, bne_iff_ne, ne_eq, beq_eq_false_iff_ne] <;> omega)
  rw [this]; clear this
  generalize decide (a < b) = p
  generalize (a == b) = q
  generalize decide (b % 18446744073709551616 ≤ a % 18446744073709551616) = r
  revert p q r
  decide

end Go.Proofs.Ytdlhgddagnikdaa.Pure
