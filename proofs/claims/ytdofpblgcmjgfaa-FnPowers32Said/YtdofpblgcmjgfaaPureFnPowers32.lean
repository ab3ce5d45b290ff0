/- A number of 32 bits, signed or not, is told to be a power of 2 exactly if it is one: for all of them. No condition. -/
import Derived.Test.YtdofpblgcmjgfaaPFnPowers32x1
import Derived.Test.YtdofpblgcmjgfaaAt
import Derived.Test.YtdofpblgcmjgfaaBr
namespace Go.Proofs.Ytdofpblgcmjgfaa.Pure
open Go.RowKit Go.Proofs.Ytdofpblgcmjgfaa.PFnPowers32 Go.Proofs.YtdofpblgcmjgfaaW.PrintWords Go.Proofs.YtdofpblgcmjgfaaW.PrintLast Go.Proofs.YtdofpblgcmjgfaaW.PrintMore
open Br
/-- What both report of a number below 2^32. -/
def pw (x : Nat) : Bool := decide (0 < x ∧ x &&& (x - 1) = 0)
theorem pw_shl (i : Nat) (hi : i < 64) : shl .u64 1 (i : Int) = ((2 ^ i : Nat) : Int) := by
  have : ∀ i : Nat, i < 64 → shl .u64 1 (i : Int) = ((2 ^ i : Nat) : Int) := by decide +kernel
  exact this i hi
theorem pw_loop (x : Nat) (hx : x < 4294967296) : ∀ d k i : Nat, i + d = 64 → d < k → (∀ j, j < i → x ≠ 2 ^ j) → spec_IsPower.l0 k (x : Int) (i : Int) = some (pw x) := by
  intro d
  induction d with
  | zero =>
    intro k i hi hk hn
    obtain ⟨k, rfl⟩ : ∃ m, k = m + 1 := ⟨k - 1, by omega⟩
    simp only [spec_IsPower.l0]
    rw [if_neg (by omega)]
    congr 1
    symm
    unfold pw
    rw [decide_eq_false_iff_not]
    rintro ⟨h0, h1⟩
    obtain ⟨j, hj⟩ := (Nat.and_sub_one_eq_zero_iff_isPowerOfTwo (by omega)).1 h1
    have hj' : j < 32 := by
      rcases Nat.lt_or_ge j 32 with h | h
      · exact h
      · have : 2 ^ 32 ≤ 2 ^ j := Nat.pow_le_pow_right (by decide) h
        omega
    exact hn j (by omega) hj
  | succ d ih =>
    intro k i hi hk hn
    obtain ⟨k, rfl⟩ : ∃ m, k = m + 1 := ⟨k - 1, by omega⟩
    simp only [spec_IsPower.l0]
    rw [if_pos (by omega), if_pos (by omega), pw_shl i (by omega)]
    by_cases h : x = 2 ^ i
    · rw [if_pos (by rw [h])]
      congr 1
      symm
      unfold pw
      rw [decide_eq_true_eq]
      have := Nat.one_le_two_pow (n := i)
      exact ⟨by omega, (Nat.and_sub_one_eq_zero_iff_isPowerOfTwo (by omega)).2 ⟨i, h⟩⟩
    · rw [if_neg (by omega), show wrap64 ((i : Int) + 1) = ((i + 1 : Nat) : Int) by unfold wrap64; omega]
      refine ih k (i + 1) (by omega) (by omega) fun j hj => ?_
      by_cases e : j = i
      · rw [e]; exact h
      · exact hn j (by omega)
theorem pw_spec (x : Nat) (hx : x < 4294967296) : spec_IsPower.f 66 (x : Int) = some (pw x) := pw_loop x hx 64 66 0 (by omega) (by omega) (fun j h => by omega)
theorem pw_i32 (x : Nat) (hx : x < 2147483648) : impl_IsPower32.f (x : Int) = some (pw x) := by
  unfold impl_IsPower32.f ssarewrite_ZZIsPowerOfTwo_int32.f ssarewrite_isPowerOfTwo_int32.f pw
  by_cases h : (x : Int) > 0
  · rw [if_pos h, show wrap32 ((x : Int) - 1) = ((x - 1 : Nat) : Int) by unfold wrap32; omega, (bits_nat .i32 31 (by decide) wraps_i32 _ _ (by omega) (by omega)).1]
    simp only [Option.bind_some, Option.some.injEq]
    rw [Bool.eq_iff_iff]; simp; omega
  · rw [if_neg h]
    simp only [Option.bind_some, Option.some.injEq]
    symm; rw [decide_eq_false_iff_not]; omega
theorem pw_u32 (x : Nat) (hx : x < 4294967296) : impl_IsPower32u.f (x : Int) = some (pw x) := by
  unfold impl_IsPower32u.f ssarewrite_ZZIsPowerOfTwo_uint32.f ssarewrite_isPowerOfTwo_uint32.f pw
  by_cases h : (x : Int) > 0
  · rw [if_pos h, show ((x : Int) - 1) % 4294967296 = ((x - 1 : Nat) : Int) by omega, (bits_nat .u32 32 (by decide) (fun n h0 h1 => by rw [IntKind.wrap_u32]; omega) _ _ (by omega) (by omega)).1]
    simp only [Option.bind_some, Option.some.injEq]
    rw [Bool.eq_iff_iff]; simp; omega
  · rw [if_neg h]
    simp only [Option.bind_some, Option.some.injEq]
    symm; rw [decide_eq_false_iff_not]; omega
theorem FnPowers32 : laws_FnPowers32.Pure := by
  intro a ha
  have ha := wf_i32 ha
  refine ⟨66, ?_⟩
  have h8 : impl_IsPower32.f 8 = some true := by decide +kernel
  have hu := pw_u32 (a % 4294967296).toNat (by omega)
  have hs := pw_spec (a % 4294967296).toNat (by omega)
  rw [show (((a % 4294967296).toNat : Nat) : Int) = a % 4294967296 by omega] at hu hs
  unfold laws_FnPowers32.f
  rw [hu, hs, h8]
  by_cases h : a > 0
  · have h1 := pw_i32 a.toNat (by omega)
    have h2 := pw_spec a.toNat (by omega)
    rw [show ((a.toNat : Nat) : Int) = a by omega] at h1 h2
    rw [show IntKind.u64.wrap a = a by rw [wu64, BitVec.toNat_ofInt]; omega, h1, h2]
    simp only [Option.bind_some, beq_self_eq_true, if_true]
    rw [if_pos h]
  · have h1 : impl_IsPower32.f a = some false := by
      unfold impl_IsPower32.f ssarewrite_ZZIsPowerOfTwo_int32.f ssarewrite_isPowerOfTwo_int32.f
      rw [if_neg h]; rfl
    rw [h1]
    simp only [Option.bind_some, beq_self_eq_true, if_true]
    rw [if_neg h]

end Go.Proofs.Ytdofpblgcmjgfaa.Pure
