/- The four flags behind a sum of two numbers of 32 bits: negative, 0, a carry, and an overflow of the signed sum: for all pairs. No condition. -/
import Derived.Test.YtdlhgddagnikdaaPFnAddBits32x2
import Derived.Test.YtdlhgddagnikdaaAt
set_option linter.unusedVariables false
set_option linter.unusedSimpArgs false
namespace Go.Proofs.Ytdlhgddagnikdaa.Pure
open Go.RowKit Go.Proofs.Ytdlhgddagnikdaa.PFnAddBits32 Go.Proofs.YtdlhgddagnikdaaW.PrintWords Go.Proofs.YtdlhgddagnikdaaW.PrintLast
namespace CAddBits32

def code (n z c v : Bool) : Int := (if n then 1 else 0) + (if z then 2 else 0) + (if c then 4 else 0) + (if v then 8 else 0)
theorem enc_all : ∀ n z c v : Bool, ssarewrite_flagConstantBuilder_encode.f 3 n z c v = some (code n z c v) := by decide +kernel
theorem flags_all : ∀ n z c v : Bool, impl_flags.f (code n z c v) = some (n, z, c, v, z, !z, n != v, z || (n != v), !z && (n == v), n == v, !c, z || !c, !z && c, c, (n != v) && !v, (z || (n != v)) && !v, (!z && (n == v)) && !v, (n == v) && !v) := by
  intro n z c v
  cases n <;> cases z <;> cases c <;> cases v <;> kernel_rfl
theorem u64w (n : Int) : IntKind.u64.wrap n = n % 18446744073709551616 := by simp [IntKind.wrap, IntKind.bits, IntKind.signed]

theorem at_AddFlags32 (a b : Int) : ∃ v : Bool, ssarewrite_addFlags32.f 3 a b = some (code (decide (wrap32 (a + b) < 0)) (wrap32 (a + b) == 0) (decide (((wrap32 (a + b)) % 4294967296) < ((a) % 4294967296))) v) ∧ (v = true ↔ (a ≥ 0 ∧ b ≥ 0 ∧ wrap32 (a + b) < 0) ∨ (a < 0 ∧ b < 0 ∧ wrap32 (a + b) ≥ 0)) := by
  unfold ssarewrite_addFlags32.f
  simp only [enc_all, Option.bind_some]
  repeat' split
  all_goals (refine ⟨_, rfl, ?_⟩; simp only [Bool.false_eq_true, decide_eq_true_eq, true_iff, false_iff]; omega)
theorem of_AddFlags32 (a b : Int) : ∃ v : Bool, (v = true ↔ (a ≥ 0 ∧ b ≥ 0 ∧ wrap32 (a + b) < 0) ∨ (a < 0 ∧ b < 0 ∧ wrap32 (a + b) ≥ 0)) ∧ ∃ n z c : Bool, n = decide (wrap32 (a + b) < 0) ∧ z = (wrap32 (a + b) == 0) ∧ c = decide (((wrap32 (a + b)) % 4294967296) < ((a) % 4294967296)) ∧
    impl_AddFlags32.f 3 a b = some (n, z, c, v, z, !z, n != v, z || (n != v), !z && (n == v), n == v, !c, z || !c, !z && c, c, (n != v) && !v, (z || (n != v)) && !v, (!z && (n == v)) && !v, (n == v) && !v) := by
  obtain ⟨v, e, h⟩ := at_AddFlags32 a b
  refine ⟨v, h, _, _, _, rfl, rfl, rfl, ?_⟩
  unfold impl_AddFlags32.f ssarewrite_ZZAddFlags32.f
  rw [e]
  simp only [Option.bind_some, flags_all]
end CAddBits32
open CAddBits32

theorem FnAddBits32 : laws_FnAddBits32.Pure := by
  intro a b ha hb
  have ha := Br.wf_i32 ha
  have hb := Br.wf_i32 hb
  refine ⟨3, ?_⟩
  obtain ⟨v, hv, n, z, c, hn, hz, hc, e⟩ := of_AddFlags32 a b
  unfold laws_FnAddBits32.f
  rw [e]
  simp only [Option.bind_some]
  have qv : v = (decide (b ≥ 0) != decide (wrap32 (a + b) ≥ a)) := by
    have q : ∀ p q : Bool, (p != q) = true ↔ ¬ (p = true ↔ q = true) := by decide
    rw [Bool.eq_iff_iff, hv, q, decide_eq_true_eq, decide_eq_true_eq]
    unfold wrap32
    omega

  have h0 : ∀ p : Bool, (p == p) = true := by decide
  have h1 : ∀ p : Bool, ((!p) != p) = true := by decide
  rw [hn, hz, hc, qv]
  simp only [ge_iff_le, h0, h1, if_true]

end Go.Proofs.Ytdlhgddagnikdaa.Pure
