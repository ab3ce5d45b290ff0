/- The four flags behind a difference of two words of 64 bits: negative, 0, no borrow, and an overflow of the signed difference: for all pairs. No condition. -/
import Derived.Test.YtdlhgddagnikdaaPFnSubBits64x2
import Derived.Test.YtdlhgddagnikdaaAt
set_option linter.unusedVariables false
set_option linter.unusedSimpArgs false
namespace Go.Proofs.Ytdlhgddagnikdaa.Pure
open Go.RowKit Go.Proofs.Ytdlhgddagnikdaa.PFnSubBits64 Go.Proofs.YtdlhgddagnikdaaW.PrintWords Go.Proofs.YtdlhgddagnikdaaW.PrintLast
namespace CSubBits64

def code (n z c v : Bool) : Int := (if n then 1 else 0) + (if z then 2 else 0) + (if c then 4 else 0) + (if v then 8 else 0)
theorem enc_all : ∀ n z c v : Bool, ssarewrite_flagConstantBuilder_encode.f 3 n z c v = some (code n z c v) := by decide +kernel
theorem flags_all : ∀ n z c v : Bool, impl_flags.f (code n z c v) = some (n, z, c, v, z, !z, n != v, z || (n != v), !z && (n == v), n == v, !c, z || !c, !z && c, c, (n != v) && !v, (z || (n != v)) && !v, (!z && (n == v)) && !v, (n == v) && !v) := by
  intro n z c v
  cases n <;> cases z <;> cases c <;> cases v <;> kernel_rfl
theorem u64w (n : Int) : IntKind.u64.wrap n = n % 18446744073709551616 := by simp [IntKind.wrap, IntKind.bits, IntKind.signed]

theorem at_SubFlags64 (a b : Int) : ∃ v : Bool, ssarewrite_subFlags64.f 3 a b = some (code (decide (wrap64 (a - b) < 0)) (wrap64 (a - b) == 0) (decide ((IntKind.u64.wrap (b)) ≤ (IntKind.u64.wrap (a)))) v) ∧ (v = true ↔ (a ≥ 0 ∧ b < 0 ∧ wrap64 (a - b) < 0) ∨ (a < 0 ∧ b ≥ 0 ∧ wrap64 (a - b) ≥ 0)) := by
  unfold ssarewrite_subFlags64.f
  simp only [enc_all, Option.bind_some]
  repeat' split
  all_goals (refine ⟨_, rfl, ?_⟩; simp only [Bool.false_eq_true, decide_eq_true_eq, true_iff, false_iff]; omega)
theorem of_SubFlags64 (a b : Int) : ∃ v : Bool, (v = true ↔ (a ≥ 0 ∧ b < 0 ∧ wrap64 (a - b) < 0) ∨ (a < 0 ∧ b ≥ 0 ∧ wrap64 (a - b) ≥ 0)) ∧ ∃ n z c : Bool, n = decide (wrap64 (a - b) < 0) ∧ z = (wrap64 (a - b) == 0) ∧ c = decide ((IntKind.u64.wrap (b)) ≤ (IntKind.u64.wrap (a))) ∧
    impl_SubFlags64.f 3 a b = some (n, z, c, v, z, !z, n != v, z || (n != v), !z && (n == v), n == v, !c, z || !c, !z && c, c, (n != v) && !v, (z || (n != v)) && !v, (!z && (n == v)) && !v, (n == v) && !v) := by
  obtain ⟨v, e, h⟩ := at_SubFlags64 a b
  refine ⟨v, h, _, _, _, rfl, rfl, rfl, ?_⟩
  unfold impl_SubFlags64.f ssarewrite_ZZSubFlags64.f
  rw [e]
  simp only [Option.bind_some, flags_all]
end CSubBits64
open CSubBits64

theorem FnSubBits64 : laws_FnSubBits64.Pure := by
  intro a b ha hb
  have ha := Br.wf_i64 ha
  have hb := Br.wf_i64 hb
  refine ⟨3, ?_⟩
  obtain ⟨v, hv, n, z, c, hn, hz, hc, e⟩ := of_SubFlags64 a b
  unfold laws_FnSubBits64.f
  rw [e]
  simp only [Option.bind_some]
  have qv : v = (decide (a < b) != decide (wrap64 (a - b) < 0)) := by
    have q : ∀ p q : Bool, (p != q) = true ↔ ¬ (p = true ↔ q = true) := by decide
    rw [Bool.eq_iff_iff, hv, q, decide_eq_true_eq, decide_eq_true_eq]
    unfold wrap64
    omega
  have qz : (wrap64 (a - b) == 0) = (a == b) := by
    rw [Bool.eq_iff_iff, beq_iff_eq, beq_iff_eq]; unfold wrap64; omega
  have h0 : ∀ p : Bool, (p == p) = true := by decide
  have h1 : ∀ p : Bool, ((!p) != p) = true := by decide
  rw [hn, hz, qz, hc, qv]
  simp only [ge_iff_le, h0, h1, if_true]

end Go.Proofs.Ytdlhgddagnikdaa.Pure
