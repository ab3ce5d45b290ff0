/- Words that are a run of ones, turned within an element that is repeated: how they are told by their least period, and by how often ones begin in an element. Plain Lean. -/
import Derived.Test.YtcihkjjejckicaaUb
set_option linter.unusedVariables false
set_option linter.unusedSimpArgs false
namespace Go.Proofs.Ytcihkjjejckicaa.Pat
open Go.Proofs.Ytcihkjjejckicaa.Ub

/-- How often ones begin within an element of b bits that goes round. -/
def st (b x : Nat) : Nat := ups b (x / 2 ^ (b - 1) % 2) x
/-- A word is an element of b bits again and again; m is the word in which each element is 1. -/
def per (b m x : Nat) : Prop := x = x % 2 ^ b * m
instance (b m x : Nat) : Decidable (per b m x) := inferInstanceAs (Decidable (x = _))
def p2 := per 2 6148914691236517205
def p4 := per 4 1229782938247303441
def p8 := per 8 72340172838076673
def p16 := per 16 281479271743489
def p32 := per 32 4294967297
/-- The reference's answer. -/
def pat (x : Nat) : Bool := (decide (per 2 6148914691236517205 x) && st 2 x == 1) || (decide (per 4 1229782938247303441 x) && st 4 x == 1) || (decide (per 8 72340172838076673 x) && st 8 x == 1) || (decide (per 16 281479271743489 x) && st 16 x == 1) || (decide (per 32 4294967297 x) && st 32 x == 1) || (st 64 x == 1)

/-! Periods. -/
theorem per_form (b m m' c x : Nat) (hm : m = (2 ^ b + 1) * m') (hc : m' = 1 + 2 ^ (2 * b) * c) (h : per b m x) :
    x = x % 2 ^ b * (2 ^ b + 1) * m' ∧ x % 2 ^ b * (2 ^ b + 1) < 2 ^ (2 * b) ∧ x = x % 2 ^ b + 2 ^ b * (x % 2 ^ b + 2 ^ b * (x % 2 ^ b * (2 ^ b + 1) * c)) := by
  unfold per at h
  have hr : x % 2 ^ b < 2 ^ b := Nat.mod_lt _ (two_pos b)
  generalize hq : x % 2 ^ b = r at *
  have h2 : 2 ^ (2 * b) = 2 ^ b * 2 ^ b := by rw [show 2 * b = b + b by omega, Nat.pow_add]
  have e1 : x = r * (2 ^ b + 1) * m' := by rw [Nat.mul_assoc, ← hm]; exact h
  refine ⟨e1, ?_, ?_⟩
  · rw [h2]
    have a : (r + 1) * 2 ^ b ≤ 2 ^ b * 2 ^ b := Nat.mul_le_mul_right _ hr
    rw [Nat.add_mul, Nat.one_mul] at a
    rw [Nat.mul_add, Nat.mul_one]
    omega
  · rw [hc, h2, Nat.mul_add, Nat.mul_one] at e1
    have e2 : r * (2 ^ b + 1) * (2 ^ b * 2 ^ b * c) = 2 ^ b * (2 ^ b * (r * (2 ^ b + 1) * c)) := by
      rw [← Nat.mul_assoc (2 ^ b) (2 ^ b), Nat.mul_left_comm]
    rw [e2] at e1
    have e3 : r * (2 ^ b + 1) = 2 ^ b * r + r := by rw [Nat.mul_add, Nat.mul_one, Nat.mul_comm r]
    rw [Nat.mul_add]
    omega
theorem per_up (b m m' c x : Nat) (hm : m = (2 ^ b + 1) * m') (hc : m' = 1 + 2 ^ (2 * b) * c) (h : per b m x) : per (2 * b) m' x := by
  obtain ⟨e1, e2, _⟩ := per_form b m m' c x hm hc h
  have e3 : x % 2 ^ (2 * b) = x % 2 ^ b * (2 ^ b + 1) := by
    generalize x % 2 ^ b * (2 ^ b + 1) = s at *
    rw [e1, hc, Nat.mul_add, Nat.mul_one, Nat.mul_left_comm, Nat.add_mul_mod_self_left, Nat.mod_eq_of_lt e2]
  unfold per
  rw [e3]; exact e1
theorem per_half (b m m' c x : Nat) (hm : m = (2 ^ b + 1) * m') (hc : m' = 1 + 2 ^ (2 * b) * c) (h : per b m x) : x / 2 ^ b % 2 ^ b = x % 2 ^ b := by
  obtain ⟨_, _, e⟩ := per_form b m m' c x hm hc h
  have hr : x % 2 ^ b < 2 ^ b := Nat.mod_lt _ (two_pos b)
  generalize x % 2 ^ b = r at *
  rw [e, Nat.add_mul_div_left _ _ (two_pos b), Nat.div_eq_of_lt hr, Nat.zero_add, Nat.add_mul_mod_self_left, Nat.mod_eq_of_lt hr]
theorem up2 (x : Nat) (h : per 2 6148914691236517205 x) : per 4 1229782938247303441 x := per_up 2 _ _ 76861433640456465 x rfl rfl h
theorem up4 (x : Nat) (h : per 4 1229782938247303441 x) : per 8 72340172838076673 x := per_up 4 _ _ 282578800148737 x rfl rfl h
theorem up8 (x : Nat) (h : per 8 72340172838076673 x) : per 16 281479271743489 x := per_up 8 _ _ 4295032833 x rfl rfl h
theorem up16 (x : Nat) (h : per 16 281479271743489 x) : per 32 4294967297 x := per_up 16 _ _ 1 x rfl rfl h
/-- Of a word that repeats its element of b bits, an element of twice as many bits begins ones twice as often. -/
theorem st_twice (b x : Nat) (hb : 1 ≤ b) (h : x / 2 ^ b % 2 ^ b = x % 2 ^ b) : st (2 * b) x = 2 * st b x := by
  obtain ⟨k, rfl⟩ : ∃ k, b = k + 1 := ⟨b - 1, by omega⟩
  have bit : ∀ y : Nat, y / 2 ^ k % 2 = (y % 2 ^ (k + 1)) / 2 ^ k := by
    intro y
    have := Nat.mod_mul_right_div_self y (2 ^ k) 2
    rw [← Nat.pow_succ] at this
    exact this.symm
  have hp : x / 2 ^ (2 * (k + 1) - 1) % 2 = x / 2 ^ k % 2 := by
    rw [show 2 * (k + 1) - 1 = (k + 1) + k by omega, Nat.pow_add, ← Nat.div_div_eq_div_mul, bit, bit, h]
  unfold st
  rw [hp, show 2 * (k + 1) = k + 1 + (k + 1) by omega, ups_add, Nat.add_sub_cancel, ← ups_mod (k + 1) _ (x / 2 ^ (k + 1)), h, ups_mod]
  omega
theorem half2 (x : Nat) (h : per 2 6148914691236517205 x) : st 4 x = 2 * st 2 x := st_twice 2 x (by decide) (per_half 2 _ 1229782938247303441 76861433640456465 x rfl rfl h)
theorem half4 (x : Nat) (h : per 4 1229782938247303441 x) : st 8 x = 2 * st 4 x := st_twice 4 x (by decide) (per_half 4 _ 72340172838076673 282578800148737 x rfl rfl h)
theorem half8 (x : Nat) (h : per 8 72340172838076673 x) : st 16 x = 2 * st 8 x := st_twice 8 x (by decide) (per_half 8 _ 281479271743489 4295032833 x rfl rfl h)
theorem half16 (x : Nat) (h : per 16 281479271743489 x) : st 32 x = 2 * st 16 x := st_twice 16 x (by decide) (per_half 16 _ 4294967297 1 x rfl rfl h)
theorem half32 (x : Nat) (h : per 32 4294967297 x) : st 64 x = 2 * st 32 x := st_twice 32 x (by decide) (per_half 32 _ 1 0 x rfl rfl h)

/-! A sequence of ones, with zeros around it or nothing at all. -/
def Seq (x : Nat) : Prop := x = 0 ∨ ∃ t n, 1 ≤ n ∧ t + n ≤ 64 ∧ x = 2 ^ t * (2 ^ n - 1)
theorem run_lo (t n : Nat) (h : 1 ≤ n) : 2 ^ (t + n - 1) ≤ 2 ^ t * (2 ^ n - 1) := by
  obtain ⟨m, rfl⟩ : ∃ m, n = m + 1 := ⟨n - 1, by omega⟩
  rw [show t + (m + 1) - 1 = t + m by omega, Nat.pow_add]
  have := two_pos m
  exact Nat.mul_le_mul_left _ (by rw [Nat.pow_succ]; omega)
theorem run_eq (t n : Nat) : 2 ^ t * (2 ^ n - 1) = 2 ^ (t + n) - 2 ^ t := by rw [Nat.mul_sub, ← Nat.pow_add, Nat.mul_one]
theorem run_hi (t n : Nat) : 2 ^ t * (2 ^ n - 1) < 2 ^ (t + n) := by
  rw [run_eq]; have := two_pos t; have := two_pos (t + n); omega
theorem pow_le {a b : Nat} (h : a ≤ b) : 2 ^ a ≤ 2 ^ b := Nat.pow_le_pow_right (by decide) h
theorem le_of_pow {a b : Nat} (h : 2 ^ a ≤ 2 ^ b) : a ≤ b := (Nat.pow_le_pow_iff_right (by decide)).1 h
theorem lt_of_pow {a b : Nat} (h : 2 ^ a < 2 ^ b) : a < b := (Nat.pow_lt_pow_iff_right (by decide)).1 h
/-- The number of 64 bits with the sign of an element of b bits. -/
def sext (b y : Nat) : Nat := if y < 2 ^ (b - 1) then y else y + 18446744073709551616 - 2 ^ b
theorem seq_st (b y : Nat) (hb : 1 ≤ b) (hb2 : b ≤ 64) (hy : y < 2 ^ b) (h0 : y ≠ 0) (h1 : y ≠ 2 ^ b - 1) :
    (Seq (sext b y) ∨ Seq (18446744073709551615 - sext b y)) ↔ st b y = 1 := by
  have hbb : 2 ^ b = 2 * 2 ^ (b - 1) := by
    obtain ⟨k, rfl⟩ : ∃ k, b = k + 1 := ⟨b - 1, by omega⟩
    rw [Nat.add_sub_cancel, Nat.pow_succ, Nat.mul_comm]
  have h64 : (18446744073709551616 : Nat) = 2 ^ 64 := rfl
  have h63 : (9223372036854775808 : Nat) = 2 ^ 63 := rfl
  have hle : 2 ^ b ≤ 2 ^ 64 := pow_le hb2
  have hp := two_pos (b - 1)
  have hm : y % 2 ^ b = y := Nat.mod_eq_of_lt hy
  unfold st sext
  by_cases hs : y < 2 ^ (b - 1)
  · rw [if_pos hs, Nat.div_eq_of_lt hs, Nat.zero_mod, ups01, hm]
    constructor
    · rintro ((h | ⟨t, n, g1, g2, g3⟩) | (h | ⟨t, n, g1, g2, g3⟩))
      · exact absurd h h0
      · refine ⟨t, n, g1, ?_, g3⟩
        have := run_lo t n g1
        have := lt_of_pow (show 2 ^ (t + n - 1) < 2 ^ b by omega)
        omega
      · exfalso; omega
      · have a1 := run_eq t n
        have a2 : 2 ^ 63 < 2 ^ (t + n) := by have := run_hi t n; omega
        have a3 : t + n = 64 := by have := lt_of_pow a2; omega
        rw [a3] at a1
        have a4 : y = 2 ^ t - 1 := by have := pow_le (show t ≤ 64 by omega); omega
        have a5 : 1 ≤ t := by
          rcases Nat.eq_zero_or_pos t with rfl | h
          · simp at a4; omega
          · exact h
        exact ⟨0, t, a5, by have := lt_of_pow (show 2 ^ t < 2 ^ (b + 1) by rw [Nat.pow_succ]; have := two_pos t; omega); omega, by simp; exact a4⟩
    · rintro ⟨t, n, g1, g2, g3⟩
      exact .inl (.inr ⟨t, n, g1, by omega, g3⟩)
  · have hd : y / 2 ^ (b - 1) % 2 = 1 := by
      have : y / 2 ^ (b - 1) = 1 := by
        rw [Nat.div_eq_iff (by omega)]
        omega
      rw [this]
    rw [if_neg hs, hd, ups11, hm]
    have hc : 18446744073709551615 - (y + 18446744073709551616 - 2 ^ b) = 2 ^ b - 1 - y := by omega
    rw [hc]
    constructor
    · rintro ((h | ⟨t, n, g1, g2, g3⟩) | (h | ⟨t, n, g1, g2, g3⟩))
      · exfalso; omega
      · have a1 := run_eq t n
        have a2 : 2 ^ 63 < 2 ^ (t + n) := by have := run_hi t n; omega
        have a3 : t + n = 64 := by have := lt_of_pow a2; omega
        rw [a3] at a1
        have a4 : y = 2 ^ b - 2 ^ t := by have := pow_le (show t ≤ 64 by omega); omega
        have a5 : 1 ≤ t := by
          rcases Nat.eq_zero_or_pos t with rfl | h
          · simp at a4; omega
          · exact h
        have a6 : t < b := by
          have := two_pos t
          exact lt_of_pow (by omega)
        refine ⟨0, t, b - t, a5, by omega, by omega, ?_⟩
        have := run_eq t (b - t)
        rw [show t + (b - t) = b by omega] at this
        simp only [Nat.zero_add, Nat.pow_zero, Nat.sub_self]
        omega
      · exfalso; omega
      · have a1 := run_lo t n g1
        have a2 := run_eq t n
        have a3 : t + n - 1 < b - 1 := lt_of_pow (by omega)
        refine ⟨t, n, b - (t + n), g1, by omega, by omega, ?_⟩
        have a4 := run_eq (t + n) (b - (t + n))
        rw [show t + n + (b - (t + n)) = b by omega] at a4
        have := pow_le (show t + n ≤ b by omega)
        have := pow_le (show t ≤ t + n by omega)
        have := two_pos t
        omega
    · rintro ⟨m, z, n, g1, g2, g3, g4⟩
      have a1 := run_eq (m + z) n
      have a2 : b - 1 < m + z + n := by
        apply lt_of_pow
        have := pow_le (show m ≤ m + z by omega)
        have := pow_le (show m + z ≤ m + z + n by omega)
        have := two_pos m
        omega
      have a3 : m + z + n = b := by omega
      rw [a3] at a1
      refine .inr (.inr ⟨m, z, g1, by omega, ?_⟩)
      have := run_eq m z
      have := pow_le (show m ≤ m + z by omega)
      have := pow_le (show m + z ≤ b by omega)
      have := two_pos m
      omega
/-- Only the low b bits count. -/
theorem st_mod (b x : Nat) (hb : 1 ≤ b) : st b (x % 2 ^ b) = st b x := by
  obtain ⟨k, rfl⟩ : ∃ k, b = k + 1 := ⟨b - 1, by omega⟩
  unfold st
  rw [ups_mod, Nat.add_sub_cancel]
  congr 1
  have := Nat.mod_mul_right_div_self x (2 ^ k) 2
  rw [← Nat.pow_succ] at this
  rw [this, Nat.mod_mod]

/-- The program's way: the least period, and the element with its sign. -/
def Tell (x : Nat) : Prop :=
  if per 32 4294967297 x then
    if per 16 281479271743489 x then
      if per 8 72340172838076673 x then
        if per 4 1229782938247303441 x then True
        else Seq (sext 8 (x % 256)) ∨ Seq (18446744073709551615 - sext 8 (x % 256))
      else Seq (sext 16 (x % 65536)) ∨ Seq (18446744073709551615 - sext 16 (x % 65536))
    else Seq (sext 32 (x % 4294967296)) ∨ Seq (18446744073709551615 - sext 32 (x % 4294967296))
  else Seq x ∨ Seq (18446744073709551615 - x)
theorem four_all : ∀ y, y < 16 → y ≠ 0 → y ≠ 15 → st 4 y = 1 ∨ (y = y % 4 * 5 ∧ st 2 y = 1) := by decide
theorem ne_of_half {a b : Nat} (h : a = 2 * b) : (a == 1) = false := by simp; omega
theorem pat_iff (x : Nat) (hx : x < 18446744073709551616) (h0 : x ≠ 0) (h1 : x ≠ 18446744073709551615) : pat x = true ↔ Tell x := by
  have nz : ∀ b m, per b m x → x % 2 ^ b ≠ 0 := by
    intro b m h e
    unfold per at h; rw [e, Nat.zero_mul] at h; exact h0 h
  unfold pat Tell
  by_cases q32 : per 32 4294967297 x
  · have s64 := ne_of_half (half32 x q32)
    by_cases q16 : per 16 281479271743489 x
    · have s32 := ne_of_half (half16 x q16)
      by_cases q8 : per 8 72340172838076673 x
      · have s16 := ne_of_half (half8 x q8)
        by_cases q4 : per 4 1229782938247303441 x
        · rw [if_pos q32, if_pos q16, if_pos q8, if_pos q4]
          have e := four_all (x % 16) (Nat.mod_lt _ (by decide)) (nz 4 _ q4) (fun e => h1 (q4.trans (by rw [show x % 2 ^ 4 = 15 from e])))
          have m4 := st_mod 4 x (by decide)
          have m2 := st_mod 2 (x % 16) (by decide)
          have m2' := st_mod 2 x (by decide)
          simp only [Nat.reducePow] at m4 m2 m2'
          rw [show x % 16 % 4 = x % 4 by omega, m2'] at m2
          rw [m4, ← m2] at e
          have : st 4 x = 1 ∨ per 2 6148914691236517205 x ∧ st 2 x = 1 := by
            rcases e with e | ⟨e, e2⟩
            · exact .inl e
            · refine .inr ⟨?_, e2⟩
              have q : x = x % 16 * 1229782938247303441 := q4
              show x = x % 4 * 6148914691236517205
              rw [e, show x % 16 % 4 = x % 4 by omega, Nat.mul_assoc] at q
              exact q
          simp only [q4, decide_true, Bool.true_and, Bool.or_eq_true, beq_iff_eq, Bool.and_eq_true, decide_eq_true_eq, iff_true]
          rcases this with h | h
          · exact .inl (.inl (.inl (.inl (.inr h))))
          · exact .inl (.inl (.inl (.inl (.inl h))))
        · have q2 : ¬ per 2 6148914691236517205 x := fun h => q4 (up2 x h)
          rw [if_pos q32, if_pos q16, if_pos q8, if_neg q4]
          have k := seq_st 8 (x % 256) (by decide) (by decide) (Nat.mod_lt _ (by decide)) (nz 8 _ q8) (fun e => h1 (q8.trans (by rw [show x % 2 ^ 8 = 255 from e])))
          rw [k, show st 8 (x % 256) = st 8 x from st_mod 8 x (by decide)]
          simp [q2, q4, q8, s16, s32, s64]
      · have q4 : ¬ per 4 1229782938247303441 x := fun h => q8 (up4 x h)
        have q2 : ¬ per 2 6148914691236517205 x := fun h => q4 (up2 x h)
        rw [if_pos q32, if_pos q16, if_neg q8]
        have k := seq_st 16 (x % 65536) (by decide) (by decide) (Nat.mod_lt _ (by decide)) (nz 16 _ q16) (fun e => h1 (q16.trans (by rw [show x % 2 ^ 16 = 65535 from e])))
        rw [k, show st 16 (x % 65536) = st 16 x from st_mod 16 x (by decide)]
        simp [q2, q4, q8, q16, s32, s64]
    · have q8 : ¬ per 8 72340172838076673 x := fun h => q16 (up8 x h)
      have q4 : ¬ per 4 1229782938247303441 x := fun h => q8 (up4 x h)
      have q2 : ¬ per 2 6148914691236517205 x := fun h => q4 (up2 x h)
      rw [if_pos q32, if_neg q16]
      have k := seq_st 32 (x % 4294967296) (by decide) (by decide) (Nat.mod_lt _ (by decide)) (nz 32 _ q32) (fun e => h1 (q32.trans (by rw [show x % 2 ^ 32 = 4294967295 from e])))
      rw [k, show st 32 (x % 4294967296) = st 32 x from st_mod 32 x (by decide)]
      simp [q2, q4, q8, q16, q32, s64]
  · have q16 : ¬ per 16 281479271743489 x := fun h => q32 (up16 x h)
    have q8 : ¬ per 8 72340172838076673 x := fun h => q16 (up8 x h)
    have q4 : ¬ per 4 1229782938247303441 x := fun h => q8 (up4 x h)
    have q2 : ¬ per 2 6148914691236517205 x := fun h => q4 (up2 x h)
    rw [if_neg q32]
    have k := seq_st 64 x (by decide) (by decide) hx h0 h1
    have e : sext 64 x = x := by
      unfold sext
      split
      · rfl
      · simp only [Nat.reducePow]; omega
    rw [e] at k
    rw [k]
    simp [q2, q4, q8, q16, q32]
end Go.Proofs.Ytcihkjjejckicaa.Pat
