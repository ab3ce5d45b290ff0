/- A run of 1 to 32 ones, turned within 32 bits, is told to be a mask of a rotate, whatever the upper 32 bits are, and no ones at all are none. No condition. -/
import Derived.Test.YtlcaejikcelgoaaPFnRotateMaskMadex1
import Derived.Test.YtlcaejikcelgoaaAt
import Derived.Test.YtlcaejikcelgoaaBr
import Derived.Test.YtlcaejikcelgoaaSh
import Derived.Test.YtlcaejikcelgoaaUb
set_option linter.unusedVariables false
set_option linter.unusedSimpArgs false
namespace Go.Proofs.Ytlcaejikcelgoaa.Pure
open Go.RowKit Go.Proofs.Ytlcaejikcelgoaa.PFnRotateMaskMade Go.Proofs.YtlcaejikcelgoaaW.PrintWords Go.Proofs.YtlcaejikcelgoaaW.PrintLast Go.Proofs.YtlcaejikcelgoaaW.PrintMore
open Br
namespace CFnRotateMaskMade
theorem at_f (a n : Int) (h0 : 0 < n) (h1 : n ≤ 4611686018427387904) : ∃ r : Nat, (r : Int) < n ∧ laws_rwAt.f a n = some (r : Int) := by
  obtain ⟨r, hr, e⟩ := at_any a n h0 h1
  refine ⟨r, hr, ?_⟩
  unfold laws_rwAt.f
  rw [e, if_neg (by omega)]
def G (n b : Int) : Option Int := (spec_Run.f 0 (IntKind.u64.wrap (1 + (IntKind.u64.wrap n)))).bind fun t106 => spec_Turn.f t106 32 (IntKind.u64.wrap b)
theorem G_all : ∀ n : Nat, n < 32 → ∀ b : Nat, b < 32 → (match G (n : Int) (b : Int) with | some t => decide (0 ≤ t ∧ t < 4294967296) && (impl_IsWordRotateMask.f t == some true) | none => false) = true := by decide +kernel
theorem low_f (a : Int) : impl_IsWordRotateMask.f a = impl_IsWordRotateMask.f (a % 4294967296) := by
  unfold impl_IsWordRotateMask.f ssarewrite_ZZIsPPC64WordRotateMask.f ssarewrite_isPPC64WordRotateMask.f
  simp
theorem main : laws_FnRotateMaskMade.Pure := by
  intro a b c _ _ hc
  have hc := wf_i32 hc
  obtain ⟨n, hn, en⟩ := at_f a 32 (by decide) (by decide)
  obtain ⟨r, hr, er⟩ := at_f b 32 (by decide) (by decide)
  have hg := G_all n (by omega) r (by omega)
  cases hG : G (n : Int) (r : Int) with
  | none => rw [hG] at hg; simp at hg
  | some t =>
    rw [hG] at hg
    simp only [Bool.and_eq_true, decide_eq_true_eq, beq_iff_eq] at hg
    obtain ⟨⟨t0, t1⟩, hm⟩ := hg
    unfold G at hG
    obtain ⟨q, hq, hG⟩ := Option.bind_eq_some_iff.1 hG
    have h0 : impl_IsWordRotateMask.f 0 = some false := by decide +kernel
    have ec : wrap64 c = c := by unfold wrap64; omega
    have et : wrap64 t = t := by unfold wrap64; omega
    have eh : wrap64 (c * 4294967296) = c * 4294967296 := by unfold wrap64; omega
    unfold laws_FnRotateMaskMade.f
    rw [en, er]
    simp only [Option.bind_some, hq, hG]
    rw [ec, et, eh]
    have e1 : Go.bits .or .i64 (c * 4294967296) t % 4294967296 = t := by
      obtain ⟨x, hx⟩ := of_i64 (c * 4294967296) (by omega) (by omega)
      obtain ⟨y, hy⟩ := of_i64 t (by omega) (by omega)
      have hxn : (x.toNat : Int) % 4294967296 = 0 := by have := toInt_mod32 x; rw [← hx] at this; omega
      have hyn : (y.toNat : Int) = t := by have := toInt_mod64 y; rw [← hy] at this; omega
      rw [hx, hy, ior64]
      have h1 : (x ||| y).toInt % 4294967296 = ((x ||| y).toNat % 4294967296 : Nat) := toInt_mod32 _
      rw [h1, BitVec.toNat_or]
      have h2 := Nat.or_mod_two_pow (a := x.toNat) (b := y.toNat) (n := 32)
      simp only [Nat.reducePow] at h2
      rw [h2, show x.toNat % 4294967296 = 0 by omega, Nat.zero_or, ← hy]
      omega
    have e2 : (c * 4294967296) % 4294967296 = 0 := by omega
    rw [low_f (Go.bits .or .i64 (c * 4294967296) t), e1, hm, low_f (c * 4294967296), e2, h0]
    rfl

end CFnRotateMaskMade
theorem FnRotateMaskMade : laws_FnRotateMaskMade.Pure := CFnRotateMaskMade.main
end Go.Proofs.Ytlcaejikcelgoaa.Pure
