/- The width of a bit field is told out of its mask and its lowest bit: for all widths, places and words below. No condition. -/
import Derived.Test.YtcihkjjejckicaaDoorPFnBFWidthx1
import Derived.Test.YtcihkjjejckicaaDoorAt
import Derived.Test.YtcihkjjejckicaaDoorBr
import Derived.Test.YtcihkjjejckicaaDoorSh
import Derived.Test.YtcihkjjejckicaaDoorUb
set_option linter.unusedVariables false
set_option linter.unusedSimpArgs false
namespace Go.Proofs.YtcihkjjejckicaaDoor.Pure
open Go.RowKit Go.Proofs.YtcihkjjejckicaaDoor.PFnBFWidth Go.Proofs.YtcihkjjejckicaaDoorW.PrintWords Go.Proofs.YtcihkjjejckicaaDoorW.PrintLast Go.Proofs.YtcihkjjejckicaaDoorW.PrintMore
open Br
namespace CFnBFWidth
theorem at_f (a n : Int) (h0 : 0 < n) (h1 : n ≤ 4611686018427387904) : ∃ r : Nat, (r : Int) < n ∧ laws_rwAt.f a n = some (r : Int) := by
  obtain ⟨r, hr, e⟩ := at_any a n h0 h1
  refine ⟨r, hr, ?_⟩
  unfold laws_rwAt.f
  rw [e, if_neg (by omega)]
theorem nto_all : ∀ n : Fin 63, ssarewrite_nto.f ((2 ^ n.val - 1 : Nat) : Int) = some (n.val : Int) := by decide +kernel
theorem pos_all : ∀ n : Fin 63, 0 < n.val → wrap64 ((2 ^ n.val - 1 : Nat) : Int) = ((2 ^ n.val - 1 : Nat) : Int) ∧ ¬ ((2 ^ n.val - 1 : Nat) : Int) = 0 := by decide +kernel
theorem runN (l n : Nat) (hl : l + n ≤ 64) (hn : n < 64) : spec_Run.f (l : Int) (n : Int) = some (((2 ^ n - 1) * 2 ^ l : Nat) : Int) := by
  unfold spec_Run.f
  have h2 : (2 ^ n - 1) * 2 ^ l < 2 ^ 64 := by
    have a : (2 ^ n - 1) * 2 ^ l < 2 ^ n * 2 ^ l := Nat.mul_lt_mul_of_pos_right (by have := Nat.two_pow_pos n; omega) (Nat.two_pow_pos l)
    rw [← Nat.pow_add] at a
    exact Nat.lt_of_lt_of_le a (Nat.pow_le_pow_right (by decide) (by omega))
  have h3 : 2 ^ n < 2 ^ 64 := Nat.pow_lt_pow_right (by decide) hn
  have pn := Nat.two_pow_pos n
  have e1 : shl .u64 1 (n : Int) = ((2 ^ n : Nat) : Int) := by
    rw [show (1 : Int) = ((1 : Nat) : Int) from rfl, shlN .u64 rfl 1 n (by simp only [IntKind.bits]; omega), Nat.one_mul]
    simp only [IntKind.bits]
    rw [Nat.mod_eq_of_lt h3]
  rw [if_neg (by omega), if_pos (by omega), if_pos (by omega), e1, show ((2 ^ n : Nat) : Int) - 1 = ((2 ^ n - 1 : Nat) : Int) by omega, wrap_lt .u64 rfl _ (by simp only [IntKind.bits]; omega), shlN .u64 rfl _ l (by simp only [IntKind.bits]; omega)]
  simp only [IntKind.bits]
  rw [Nat.mod_eq_of_lt h2]
theorem lowF (x b : Nat) (hb : b < 64) : spec_Low.f (x : Int) (b : Int) = some ((x % 2 ^ b : Nat) : Int) := by
  unfold spec_Low.f; exact lowN x b hb
theorem join (n l r : Nat) (hr : r < 2 ^ l) : ((2 ^ n - 1) * 2 ^ l ||| r) / 2 ^ l = 2 ^ n - 1 := by
  rw [← Nat.shiftRight_eq_div_pow, Nat.shiftRight_or_distrib, Nat.shiftRight_eq_div_pow, Nat.shiftRight_eq_div_pow, Nat.mul_div_cancel _ (Nat.two_pow_pos l), Nat.div_eq_of_lt hr, Nat.or_zero]
theorem width (v l n : Nat) (hv : v < 2 ^ 64) (hn : 0 < n) (hn' : n < 63) (hl : l < 64) (e : v / 2 ^ l = 2 ^ n - 1) : impl_BFWidth.f (wrap64 (v : Int)) (l : Int) = some (n : Int) := by
  unfold impl_BFWidth.f ssarewrite_ZZArm64BFWidth.f ssarewrite_arm64BFWidth.f
  have a1 : IntKind.u64.wrap (l : Int) = (l : Int) := wrap_lt .u64 rfl l (by simp only [IntKind.bits]; omega)
  have a2 : IntKind.u64.wrap (wrap64 (v : Int)) = (v : Int) := by
    rw [u64mod]; unfold wrap64
    have : (2 : Nat) ^ 64 = 18446744073709551616 := rfl
    omega
  rw [a1, a2, shrN .u64 v l (by simp only [IntKind.bits]; omega), e]
  have h := pos_all ⟨n, hn'⟩ hn
  rw [if_pos (by omega), h.1, if_neg h.2, nto_all ⟨n, hn'⟩]
  rfl
theorem run_ex (l n : Nat) (hl : l + n ≤ 64) (hn : n < 64) : ∃ A : Nat, A < 2 ^ 64 ∧ (∀ r, r < 2 ^ l → (A ||| r) / 2 ^ l = 2 ^ n - 1) ∧ spec_Run.f (l : Int) (n : Int) = some (A : Int) := by
  refine ⟨_, ?_, fun r hr => join n l r hr, runN l n hl hn⟩
  have a : (2 ^ n - 1) * 2 ^ l < 2 ^ n * 2 ^ l := Nat.mul_lt_mul_of_pos_right (by have := Nat.two_pow_pos n; omega) (Nat.two_pow_pos l)
  rw [← Nat.pow_add] at a
  exact Nat.lt_of_lt_of_le a (Nat.pow_le_pow_right (by decide) (by omega))
theorem low_ex (x l : Nat) (hl : l < 64) : ∃ B : Nat, B < 2 ^ 64 ∧ B < 2 ^ l ∧ spec_Low.f (x : Int) (l : Int) = some (B : Int) := by
  have hr : x % 2 ^ l < 2 ^ l := Nat.mod_lt _ (Nat.two_pow_pos l)
  exact ⟨_, Nat.lt_of_lt_of_le hr (Nat.pow_le_pow_right (by decide) (by omega)), hr, lowF x l hl⟩
theorem joined (A B l n : Nat) (hA : A < 2 ^ 64) (hB : B < 2 ^ 64) (hn : 0 < n) (hn' : n < 63) (hl : l < 64) (e : (A ||| B) / 2 ^ l = 2 ^ n - 1) :
    impl_BFWidth.f (wrap64 (Go.bits .or .u64 (A : Int) (B : Int))) (l : Int) = some (n : Int) := by
  rw [orN .u64 rfl A B hA hB]
  exact width _ l n (Nat.or_lt_two_pow hA hB) hn hn' hl e
theorem main : laws_FnBFWidth.Pure := by
  intro a b c ha hb hc
  obtain ⟨t, ht, e1⟩ := at_f a 62 (by omega) (by omega)
  obtain ⟨n, rfl⟩ : ∃ n, t + 1 = n := ⟨_, rfl⟩
  have w1 : wrap64 (1 + (t : Int)) = ((t + 1 : Nat) : Int) := by unfold wrap64; omega
  have w2 : wrap64 (63 - ((t + 1 : Nat) : Int)) = ((62 - t : Nat) : Int) := by unfold wrap64; omega
  obtain ⟨l, hl, e2⟩ := at_f b ((62 - t : Nat) : Int) (by omega) (by omega)
  obtain ⟨x, hx⟩ : ∃ x : Nat, IntKind.u64.wrap c = (x : Int) := ⟨(c % 18446744073709551616).toNat, by rw [u64mod]; omega⟩
  obtain ⟨A, hA, jA, rA⟩ := run_ex l (t + 1) (by omega) (by omega)
  obtain ⟨B, hB, hB', rB⟩ := low_ex x l (by omega)
  have u1 : IntKind.u64.wrap (l : Int) = (l : Int) := by rw [u64mod]; omega
  have u2 : IntKind.u64.wrap ((t + 1 : Nat) : Int) = ((t + 1 : Nat) : Int) := by rw [u64mod]; omega
  have j := joined A B l (t + 1) hA hB (by omega) (by omega) (by omega) (jA B hB')
  unfold laws_FnBFWidth.f
  rw [e1, Option.bind_some, w1, w2, e2, Option.bind_some, u1, u2, rA, Option.bind_some, hx, rB, Option.bind_some, j, Option.bind_some]
  rw [beq_self_eq_true]

end CFnBFWidth
theorem FnBFWidth : laws_FnBFWidth.Pure := CFnBFWidth.main
end Go.Proofs.YtcihkjjejckicaaDoor.Pure
