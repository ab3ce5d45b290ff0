/- A number shifted down by its trailing zeros is odd, and shifted up by its leading zeros has the highest bit: for all numbers. No condition. -/
import Derived.Test.YtcihkjjejckicaaDoorPFnZerosShiftx1
import Derived.Test.YtcihkjjejckicaaDoorAt
import Derived.Test.YtcihkjjejckicaaDoorBr
import Derived.Test.YtcihkjjejckicaaDoorSh
import Derived.Test.YtcihkjjejckicaaDoorUb
set_option linter.unusedVariables false
set_option linter.unusedSimpArgs false
namespace Go.Proofs.YtcihkjjejckicaaDoor.Pure
open Go.RowKit Go.Proofs.YtcihkjjejckicaaDoor.PFnZerosShift Go.Proofs.YtcihkjjejckicaaDoorW.PrintWords Go.Proofs.YtcihkjjejckicaaDoorW.PrintLast Go.Proofs.YtcihkjjejckicaaDoorW.PrintMore
open Br
namespace CFnZerosShift
theorem and_one (q : Int) (h0 : -9223372036854775808 ≤ q) (h1 : q ≤ 9223372036854775807) (ho : q % 2 = 1) : Go.bits .and .i64 q 1 = 1 := by
  obtain ⟨y, rfl⟩ := of_i64 q h0 h1
  have e1 : (1 : Int) = (1#64).toInt := by decide
  conv => lhs; arg 4; rw [e1]
  conv => rhs; rw [e1]
  rw [iand64, eqI]
  apply BitVec.eq_of_toNat_eq
  rw [BitVec.toNat_and, show (1#64).toNat = 1 from rfl, Nat.and_one_is_mod]
  have h := toInt_mod64 y
  omega
theorem len_of (x : Nat) (h0 : 0 < x) (h : x < 18446744073709551616) : ∃ k, k < 64 ∧ 2 ^ k ≤ x ∧ x < 2 ^ (k + 1) ∧ Lib.bitLen x = k + 1 := by
  have a := Nat.log2_self_le (n := x) (by omega)
  have b := Nat.lt_log2_self (n := x)
  refine ⟨x.log2, ?_, a, b, ?_⟩
  · rw [Nat.log2_lt (by omega)]; exact h
  · rw [Lib.bitLen_shift x.log2 x a h, show x / 2 ^ x.log2 = 1 by
      apply Nat.div_eq_of_lt_le
      · omega
      · rw [Nat.pow_succ] at b; omega]
    rfl
theorem n64 (a : Int) (x : Nat) (h : IntKind.u64.wrap a = (x : Int)) (hx : x < 18446744073709551616) : impl_Ntz64.f a = some ((Lib.ctz 64 x : Nat) : Int) := by
  unfold impl_Ntz64.f ssarewrite_ZZNtz64.f ssarewrite_ntz64.f bits_TrailingZeros64.f
  rw [h, if_pos (by omega)]
  rfl
theorem l64 (a : Int) (x k : Nat) (h : IntKind.u64.wrap a = (x : Int)) (hx : x < 18446744073709551616) (hk : k < 64) (hl : Lib.bitLen x = k + 1) : impl_Nlz64.f a = some ((63 - k : Nat) : Int) := by
  unfold impl_Nlz64.f ssarewrite_ZZNlz64.f ssarewrite_nlz64.f bits_LeadingZeros64.f
  rw [h, if_pos (by omega)]
  simp only [Option.bind_some, Int.toNat_natCast, hl, Option.some.injEq]
  omega
theorem odd_part (a : Int) (x c m : Nat) (h : IntKind.u64.wrap a = (x : Int)) (h0 : -9223372036854775808 ≤ a) (h1 : a ≤ 9223372036854775807) (hc : c < 64) (e : x = 2 ^ c * (2 * m + 1)) :
    ∃ q : Int, shr .i64 a (c : Int) = q ∧ -9223372036854775808 ≤ q ∧ q ≤ 9223372036854775807 ∧ q % 2 = 1 := by
  rw [u64mod] at h
  obtain ⟨d, hd⟩ : ∃ d : Nat, d + 1 + c = 64 := ⟨63 - c, by omega⟩
  have p : (2 : Nat) ^ c * (2 * 2 ^ d) = 18446744073709551616 := by
    rw [Nat.mul_comm 2, ← Nat.pow_succ, Nat.mul_comm, ← Nat.pow_add, Nat.succ_eq_add_one, hd]
  have pc : (0 : Int) < ((2 ^ c : Nat) : Int) := by have := Nat.two_pow_pos c; omega
  have s : shr .i64 a (c : Int) = a / ((2 ^ c : Nat) : Int) := by
    simp only [shr, Int.toNat_natCast, IntKind.bits]
    rw [Nat.min_eq_left (by omega), Int.natCast_pow]
    rfl
  -- a = 2^c q, q = 2m+1 or 2m+1 - 2 2^d
  have cases : a = (x : Int) ∨ a = (x : Int) - 18446744073709551616 := by omega
  have p' : ((2 ^ c : Nat) : Int) * (2 * ((2 ^ d : Nat) : Int)) = 18446744073709551616 := by
    have := congrArg (Nat.cast (R := Int)) p
    simpa only [Int.natCast_mul, Int.cast_ofNat_Int] using this
  have e' : (x : Int) = ((2 ^ c : Nat) : Int) * (2 * (m : Int) + 1) := by
    have := congrArg (Nat.cast (R := Int)) e
    simpa only [Int.natCast_mul, Int.natCast_add, Int.cast_ofNat_Int] using this
  have small : ∀ q : Int, a = ((2 ^ c : Nat) : Int) * q → -9223372036854775808 ≤ q ∧ q ≤ 9223372036854775807 := by
    intro q hq
    have one : (1 : Int) ≤ ((2 ^ c : Nat) : Int) := by omega
    constructor
    · rcases Int.lt_or_le q 0 with hn | hn
      · have : ((2 ^ c : Nat) : Int) * q ≤ 1 * q := Int.mul_le_mul_of_nonpos_right one (by omega)
        omega
      · omega
    · rcases Int.lt_or_le q 0 with hn | hn
      · omega
      · have : 1 * q ≤ ((2 ^ c : Nat) : Int) * q := Int.mul_le_mul_of_nonneg_right one hn
        omega
  rcases cases with hq | hq
  · have hq' : a = ((2 ^ c : Nat) : Int) * (2 * (m : Int) + 1) := by rw [hq, e']
    refine ⟨_, by rw [s, hq', Int.mul_ediv_cancel_left _ (by omega)], (small _ hq').1, (small _ hq').2, by omega⟩
  · have hq' : a = ((2 ^ c : Nat) : Int) * (2 * (m : Int) + 1 - 2 * ((2 ^ d : Nat) : Int)) := by rw [Int.mul_sub, ← e', p']; exact hq
    refine ⟨_, by rw [s, hq', Int.mul_ediv_cancel_left _ (by omega)], (small _ hq').1, (small _ hq').2, by omega⟩
theorem top (x k : Nat) (hk : k < 64) (h1 : 2 ^ k ≤ x) (h2 : x < 2 ^ (k + 1)) : x * 2 ^ (63 - k) % 2 ^ 64 / 9223372036854775808 = 1 := by
  have pp := Nat.two_pow_pos (63 - k)
  have a : 2 ^ k * 2 ^ (63 - k) ≤ x * 2 ^ (63 - k) := Nat.mul_le_mul_right _ h1
  have b : x * 2 ^ (63 - k) < 2 ^ (k + 1) * 2 ^ (63 - k) := Nat.mul_lt_mul_of_pos_right h2 pp
  rw [← Nat.pow_add, show k + (63 - k) = 63 by omega] at a
  rw [← Nat.pow_add, show k + 1 + (63 - k) = 64 by omega] at b
  generalize x * 2 ^ (63 - k) = z at a b
  have e63 : (2 : Nat) ^ 63 = 9223372036854775808 := rfl
  have e64 : (2 : Nat) ^ 64 = 18446744073709551616 := rfl
  rw [e63] at a
  rw [e64] at b ⊢
  omega
theorem main : laws_FnZerosShift.Pure := by
  intro a ha
  have ha := wf_i64 ha
  obtain ⟨x, hx⟩ : ∃ x : Nat, IntKind.u64.wrap a = (x : Int) := ⟨(a % 18446744073709551616).toNat, by rw [u64mod]; omega⟩
  have hx' := hx
  rw [u64mod] at hx'
  have hlt : x < 18446744073709551616 := by omega
  have i4 : impl_Ntz64.f 4 = some 2 := by decide +kernel
  have z0 : impl_Ntz64.f 0 = some 64 := by decide +kernel
  unfold laws_FnZerosShift.f
  by_cases h0 : a = 0
  · rw [if_pos h0, h0, z0]; rfl
  · rw [if_neg h0, n64 a x hx hlt]
    have hp : 0 < x := by omega
    obtain ⟨m, e, hc⟩ := Lib.ctzFrom_spec 64 x hp hlt
    have ec : Lib.ctz 64 x = Lib.ctzFrom 64 x := by unfold Lib.ctz; rw [if_neg (by omega)]
    rw [ec]
    generalize Lib.ctzFrom 64 x = c at e hc
    obtain ⟨q, hq, q0, q1, qo⟩ := odd_part a x c m hx ha.1 ha.2 hc e
    obtain ⟨k, hk, k1, k2, kl⟩ := len_of x hp hlt
    simp only [Option.bind_some]
    rw [if_pos (by omega), hq, and_one q q0 q1 qo, if_pos rfl, l64 a x k hx hlt hk kl]
    simp only [Option.bind_some]
    rw [if_pos (by omega), hx, shlN .u64 rfl x (63 - k) (by simp only [IntKind.bits]; omega), i4]
    have t := top x k hk k1 k2
    have e64 : (2 : Nat) ^ IntKind.u64.bits = 2 ^ 64 := rfl
    rw [e64]
    generalize x * 2 ^ (63 - k) % 2 ^ 64 = z at t
    have t' : (z : Int) / 9223372036854775808 = 1 := by omega
    rw [if_pos t']
    rfl

end CFnZerosShift
theorem FnZerosShift : laws_FnZerosShift.Pure := CFnZerosShift.main
end Go.Proofs.YtcihkjjejckicaaDoor.Pure
