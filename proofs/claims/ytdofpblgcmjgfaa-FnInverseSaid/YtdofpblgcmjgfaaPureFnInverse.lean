/- An odd word and its inverse have the product 1, and the inverse of the inverse is the word: for all words. No condition. -/
import Derived.Test.YtdofpblgcmjgfaaPFnInversex1
import Derived.Test.YtdofpblgcmjgfaaAt
import Derived.Test.YtdofpblgcmjgfaaBr
namespace Go.Proofs.Ytdofpblgcmjgfaa.Pure
open Go.RowKit Go.Proofs.Ytdofpblgcmjgfaa.PFnInverse Go.Proofs.YtdofpblgcmjgfaaW.PrintWords Go.Proofs.YtdofpblgcmjgfaaW.PrintLast
open Br
def step (x y : BitVec 64) : BitVec 64 := y * (BitVec.ofInt 64 2 - x * y)
def inv (x : BitVec 64) : BitVec 64 := step x (step x (step x (step x (step x x))))
theorem step_err (x y : BitVec 64) : 1#64 - x * step x y = (1#64 - x * y) * (1#64 - x * y) := by
  unfold step
  rw [show BitVec.ofInt 64 2 = 2#64 from by decide]
  generalize hp : x * y = p
  rw [← BitVec.mul_assoc, hp]
  grind
theorem err_mul (a c : BitVec 64) : (a * c) * (a * c) = (a * a) * (c * c) := by grind
theorem odd_sq (x : BitVec 64) (h : x.toNat % 2 = 1) : ∃ c, 1#64 - x * x = 8#64 * c := by
  obtain ⟨k, hk⟩ : ∃ k, x.toNat = 2 * k + 1 := ⟨x.toNat / 2, by omega⟩
  have hx : x = BitVec.ofInt 64 ((2 * k + 1 : Nat) : Int) := by rw [← hk, oN]
  obtain ⟨m, hm⟩ : ∃ m, k * (k + 1) = 2 * m := ⟨k * (k + 1) / 2, by have : k * (k + 1) % 2 = 0 := by rw [Nat.mul_mod]; rcases Nat.mod_two_eq_zero_or_one k with e | e <;> simp [e, Nat.add_mod]
                                                                    omega⟩
  refine ⟨BitVec.ofInt 64 (-(m : Int)), ?_⟩
  rw [hx, ← omul, show (1#64) = BitVec.ofInt 64 1 from by decide, show (8#64) = BitVec.ofInt 64 8 from by decide, ← omul, ← osub]
  congr 1
  have e : ((2 * k + 1 : Nat) : Int) * ((2 * k + 1 : Nat) : Int) = 4 * ((k * (k + 1) : Nat) : Int) + 1 := by
    push_cast
    grind
  rw [e, hm]; push_cast; omega
theorem inv_mul (x : BitVec 64) (h : x.toNat % 2 = 1) : x * inv x = 1#64 := by
  obtain ⟨c, h0⟩ := odd_sq x h
  have h1 := step_err x x
  have h2 := step_err x (step x x)
  have h3 := step_err x (step x (step x x))
  have h4 := step_err x (step x (step x (step x x)))
  have h5 := step_err x (step x (step x (step x (step x x))))
  rw [h0, err_mul, show (8#64 * 8#64) = 64#64 from by decide] at h1
  rw [h1, err_mul, show (64#64 * 64#64) = 4096#64 from by decide] at h2
  rw [h2, err_mul, show (4096#64 * 4096#64) = 16777216#64 from by decide] at h3
  rw [h3, err_mul, show (16777216#64 * 16777216#64) = 281474976710656#64 from by decide] at h4
  rw [h4, err_mul, show (281474976710656#64 * 281474976710656#64) = 0#64 from by decide, BitVec.zero_mul] at h5
  have : x * inv x = 1#64 - (1#64 - x * inv x) := by grind
  rw [this]
  unfold inv
  rw [h5]; decide
theorem inv_f (x : BitVec 64) (h : x.toNat % 2 = 1) : impl_Inverse.f (x.toNat : Int) = some ((inv x).toNat : Int) := by
  unfold impl_Inverse.f ssarewrite_ZZModularMultiplicativeInverse.f ssarewrite_modularMultiplicativeInverse.f
  rw [if_pos (by rw [Int.tmod_eq_emod_of_nonneg (by omega)]; omega)]
  simp only [Option.bind_some, wu64, omul, osub, oN]
  rfl
theorem odd_of_mul (x y : BitVec 64) (h : x * y = 1#64) : y.toNat % 2 = 1 := by
  have h1 : (x * y).toNat = 1 := by rw [h]; rfl
  rw [BitVec.toNat_mul] at h1
  rcases Nat.mod_two_eq_zero_or_one y.toNat with e | e
  · exfalso
    have : (x.toNat * y.toNat) % 2 = 0 := by rw [Nat.mul_mod, e]; simp
    omega
  · exact e
theorem FnInverse : laws_FnInverse.Pure := by
  intro a ha
  have ha := wf_u64 ha
  obtain ⟨v, rfl⟩ := of_u64 a ha.1 ha.2
  unfold laws_FnInverse.f
  rw [show (1 : Int) = ((1#64).toNat : Int) from rfl, or64]
  have hx : (v ||| 1#64).toNat % 2 = 1 := by
    rw [BitVec.toNat_or]
    simp
  generalize v ||| 1#64 = x at *
  rw [inv_f x hx]
  have h1 := inv_mul x hx
  have hy := odd_of_mul _ _ h1
  have h2 := inv_mul (inv x) hy
  have h3 : inv (inv x) = x := by
    calc inv (inv x) = x * inv x * inv (inv x) := by rw [h1, BitVec.one_mul]
      _ = x := by rw [BitVec.mul_assoc, h2, BitVec.mul_one]
  simp only [Option.bind_some, wu64, omul, oN, h1]
  rw [if_pos trivial, inv_f _ hy]
  simp only [Option.bind_some, h3, beq_self_eq_true]

end Go.Proofs.Ytdofpblgcmjgfaa.Pure
