/- Runs of ones: how often ones begin among the low bits of a number, and what a number is in which they begin once. Plain Lean. -/
set_option linter.unusedVariables false
namespace Go.Proofs.YtlcaejikcelgoaaDoor.Ub

/-- How often ones begin among the low k bits, p standing below them. -/
def ups : Nat → Nat → Nat → Nat
  | 0, _, _ => 0
  | k + 1, p, x => (if x % 2 = 1 ∧ p = 0 then 1 else 0) + ups k (x % 2) (x / 2)

theorem mod_succ (x k : Nat) : x % 2 ^ (k + 1) = x % 2 + 2 * (x / 2 % 2 ^ k) := by
  rw [Nat.pow_succ, Nat.mul_comm, Nat.mod_mul]
theorem two_pos (n : Nat) : 1 ≤ 2 ^ n := Nat.one_le_two_pow
theorem ups00 (k : Nat) : ∀ x, ups k 0 x = 0 ↔ x % 2 ^ k = 0 := by
  induction k with
  | zero => intro x; simp [ups, Nat.mod_one]
  | succ k ih =>
    intro x
    rw [mod_succ, ups]
    rcases Nat.mod_two_eq_zero_or_one x with h | h
    · rw [h]; simp only [Nat.zero_ne_one, false_and, if_false, Nat.zero_add]; rw [ih]; omega
    · rw [h]; simp
theorem ups10 (k : Nat) : ∀ x, ups k 1 x = 0 ↔ ∃ n, n ≤ k ∧ x % 2 ^ k = 2 ^ n - 1 := by
  induction k with
  | zero => intro x; simp [ups, Nat.mod_one]
  | succ k ih =>
    intro x
    rw [mod_succ, ups]
    simp only [Nat.one_ne_zero, and_false, if_false, Nat.zero_add]
    rcases Nat.mod_two_eq_zero_or_one x with h | h
    · rw [h, ups00]
      constructor
      · intro h0; exact ⟨0, by omega, by simp [h0]⟩
      · rintro ⟨n, _, h1⟩
        cases n with
        | zero => simp at h1; omega
        | succ n => have := two_pos n; rw [Nat.pow_succ] at h1; omega
    · rw [h, ih]
      constructor
      · rintro ⟨n, hn, h1⟩; exact ⟨n + 1, by omega, by have := two_pos n; rw [Nat.pow_succ]; omega⟩
      · rintro ⟨n, hn, h1⟩
        cases n with
        | zero => simp at h1
        | succ n => exact ⟨n, by omega, by have := two_pos n; rw [Nat.pow_succ] at h1; omega⟩
theorem shl_succ (t a : Nat) : 2 ^ (t + 1) * a = 2 * (2 ^ t * a) := by rw [Nat.pow_succ, Nat.mul_right_comm, Nat.mul_comm]
theorem run_pos (t n : Nat) (h : 1 ≤ n) : 1 ≤ 2 ^ t * (2 ^ n - 1) := by
  have h1 : 2 ≤ 2 ^ n := by calc 2 = 2 ^ 1 := rfl
                                 _ ≤ 2 ^ n := Nat.pow_le_pow_right (by decide) h
  exact Nat.mul_pos (two_pos t) (by omega)
theorem ups01 (k : Nat) : ∀ x, ups k 0 x = 1 ↔ ∃ t n, 1 ≤ n ∧ t + n ≤ k ∧ x % 2 ^ k = 2 ^ t * (2 ^ n - 1) := by
  induction k with
  | zero => intro x; simp [ups]; intro t n h1 h2; omega
  | succ k ih =>
    intro x
    rw [mod_succ, ups]
    rcases Nat.mod_two_eq_zero_or_one x with h | h
    · rw [h]
      simp only [Nat.zero_ne_one, false_and, if_false, Nat.zero_add]
      rw [ih]
      constructor
      · rintro ⟨t, n, h1, h2, h3⟩; exact ⟨t + 1, n, h1, by omega, by rw [shl_succ, h3]⟩
      · rintro ⟨t, n, h1, h2, h3⟩
        cases t with
        | zero =>
          exfalso
          obtain ⟨m, rfl⟩ : ∃ m, n = m + 1 := ⟨n - 1, by omega⟩
          have := two_pos m
          rw [Nat.pow_succ] at h3; simp at h3; omega
        | succ t => exact ⟨t, n, h1, by omega, by rw [shl_succ] at h3; omega⟩
    · rw [h]
      simp only [true_and, if_true]
      rw [show (1 + ups k 1 (x / 2) = 1) = (ups k 1 (x / 2) = 0) by simp, ups10]
      constructor
      · rintro ⟨n, hn, h1⟩; exact ⟨0, n + 1, by omega, by omega, by have := two_pos n; rw [Nat.pow_succ]; simp; omega⟩
      · rintro ⟨t, n, h1, h2, h3⟩
        cases t with
        | zero =>
          obtain ⟨m, rfl⟩ : ∃ m, n = m + 1 := ⟨n - 1, by omega⟩
          exact ⟨m, by omega, by have := two_pos m; rw [Nat.pow_succ] at h3; simp at h3; omega⟩
        | succ t => rw [shl_succ] at h3; omega
theorem ups11 (k : Nat) : ∀ x, ups k 1 x = 1 ↔ ∃ m z n, 1 ≤ z ∧ 1 ≤ n ∧ m + z + n ≤ k ∧ x % 2 ^ k = (2 ^ m - 1) + 2 ^ (m + z) * (2 ^ n - 1) := by
  induction k with
  | zero => intro x; simp [ups]; intro m z h1 n h2 h3; omega
  | succ k ih =>
    intro x
    rw [mod_succ, ups]
    simp only [Nat.one_ne_zero, and_false, if_false, Nat.zero_add]
    rcases Nat.mod_two_eq_zero_or_one x with h | h
    · rw [h, ups01]
      constructor
      · rintro ⟨t, n, h1, h2, h3⟩; exact ⟨0, t + 1, n, by omega, h1, by omega, by simp only [Nat.zero_add]; rw [shl_succ, h3]; simp⟩
      · rintro ⟨m, z, n, h1, h2, h3, h4⟩
        obtain ⟨z, rfl⟩ : ∃ y, z = y + 1 := ⟨z - 1, by omega⟩
        rw [show m + (z + 1) = (m + z) + 1 by omega, shl_succ] at h4
        cases m with
        | zero => exact ⟨z, n, h2, by omega, by simp at h4; omega⟩
        | succ m => have := two_pos m; rw [Nat.pow_succ 2 m] at h4; omega
    · rw [h, ih]
      constructor
      · rintro ⟨m, z, n, h1, h2, h3, h4⟩
        exact ⟨m + 1, z, n, h1, h2, by omega, by rw [show m + 1 + z = (m + z) + 1 by omega, shl_succ]; have := two_pos m; rw [Nat.pow_succ 2 m]; omega⟩
      · rintro ⟨m, z, n, h1, h2, h3, h4⟩
        cases m with
        | zero =>
          obtain ⟨z, rfl⟩ : ∃ y, z = y + 1 := ⟨z - 1, by omega⟩
          simp only [Nat.zero_add] at h4
          rw [shl_succ] at h4; simp at h4; omega
        | succ m =>
          exact ⟨m, z, n, h1, h2, by omega, by rw [show m + 1 + z = (m + z) + 1 by omega, shl_succ] at h4; have := two_pos m; rw [Nat.pow_succ 2 m] at h4; omega⟩

/-! Only the low bits count; two pieces. -/
theorem ups_mod (k : Nat) : ∀ p x, ups k p (x % 2 ^ k) = ups k p x := by
  induction k with
  | zero => intro p x; rfl
  | succ k ih =>
    intro p x
    have h1 : (x % 2 ^ (k + 1)) % 2 = x % 2 := by rw [mod_succ]; omega
    have h2 : (x % 2 ^ (k + 1)) / 2 = x / 2 % 2 ^ k := by rw [mod_succ]; omega
    rw [ups, ups, h1, h2, ih]
theorem ups_add (k l : Nat) : ∀ p x, ups (k + 1 + l) p x = ups (k + 1) p x + ups l (x / 2 ^ k % 2) (x / 2 ^ (k + 1)) := by
  induction k with
  | zero => intro p x; rw [show 0 + 1 + l = l + 1 by omega]; simp [ups]
  | succ k ih =>
    intro p x
    rw [show k + 1 + 1 + l = (k + 1 + l) + 1 by omega, ups, ih, show ups (k + 1 + 1) p x = _ from ups.eq_2 ..]
    rw [Nat.div_div_eq_div_mul, Nat.div_div_eq_div_mul, show 2 * 2 ^ k = 2 ^ (k + 1) by rw [Nat.pow_succ, Nat.mul_comm], show 2 * 2 ^ (k + 1) = 2 ^ (k + 1 + 1) by rw [Nat.pow_succ 2 (k + 1), Nat.mul_comm]]
    omega

/-! The lowest one. -/
theorem odd_low (m u : Nat) (ho : u % 2 = 1) (h : u < 2 ^ m) : u &&& (2 ^ m - u) = 1 := by
  obtain ⟨v, rfl⟩ : ∃ v, u = 2 * v + 1 := ⟨u / 2, by omega⟩
  apply Nat.eq_of_testBit_eq
  intro i
  rw [Nat.testBit_and, Nat.testBit_two_pow_sub_succ (by omega)]
  cases i with
  | zero =>
    have : m ≠ 0 := by rintro rfl; simp at h
    simp; omega
  | succ i =>
    have h1 : (2 * v + 1).testBit (i + 1) = v.testBit i := by rw [Nat.testBit_succ]; congr 1; omega
    have h2 : (2 * v).testBit (i + 1) = v.testBit i := by rw [Nat.testBit_succ]; congr 1; omega
    have h3 : (1 : Nat).testBit (i + 1) = false := by rw [Nat.testBit_succ]; simp
    rw [h1, h2, h3]
    cases v.testBit i <;> simp
theorem shl_and (t a b : Nat) : (2 ^ t * a) &&& (2 ^ t * b) = 2 ^ t * (a &&& b) := by
  apply Nat.eq_of_testBit_eq
  intro i
  simp only [Nat.testBit_and, Nat.testBit_two_pow_mul]
  cases decide (i ≥ t) <;> simp
/-- A number other than 0 is an odd one, some places up. -/
theorem odd_part (x : Nat) (h : x ≠ 0) : ∃ t u, u % 2 = 1 ∧ x = 2 ^ t * u := by
  induction x using Nat.strongRecOn with
  | _ x ih =>
    rcases Nat.mod_two_eq_zero_or_one x with e | e
    · obtain ⟨t, u, h1, h2⟩ := ih (x / 2) (by omega) (by omega)
      exact ⟨t + 1, u, h1, by rw [shl_succ, ← h2]; omega⟩
    · exact ⟨0, x, e, by simp⟩

section
variable {w : Nat} (x : BitVec w) (t u : Nat)
theorem low_bit (ht : t ≤ w) (hu : u % 2 = 1) (hx : x.toNat = 2 ^ t * u) : u < 2 ^ (w - t) ∧ (x &&& -x).toNat = 2 ^ t ∧ 2 ^ w = 2 ^ t * 2 ^ (w - t) := by
  have hw : 2 ^ w = 2 ^ t * 2 ^ (w - t) := by rw [← Nat.pow_add]; congr 1; omega
  have hlt := x.isLt
  have hu' : u < 2 ^ (w - t) := by
    rw [hx, hw] at hlt
    exact Nat.lt_of_mul_lt_mul_left hlt
  refine ⟨hu', ?_, hw⟩
  rw [BitVec.toNat_and, BitVec.toNat_neg, hx, Nat.mod_eq_of_lt (by have := two_pos t; have : 1 ≤ 2 ^ t * u := Nat.mul_pos this (by omega); omega), hw, ← Nat.mul_sub, shl_and, odd_low _ _ hu hu']
  simp
/-- x and the lowest one of x together. -/
theorem low_sum (ht : t ≤ w) (hu : u % 2 = 1) (hx : x.toNat = 2 ^ t * u) : ((x &&& -x) + x).toNat = if u + 1 = 2 ^ (w - t) then 0 else 2 ^ t * (u + 1) := by
  obtain ⟨h1, h2, h3⟩ := low_bit x t u ht hu hx
  rw [BitVec.toNat_add, h2, hx, h3, show 2 ^ t + 2 ^ t * u = 2 ^ t * (u + 1) by rw [Nat.mul_add]; omega, Nat.mul_mod_mul_left]
  split
  · rename_i h; rw [h]; simp
  · rw [Nat.mod_eq_of_lt (by omega)]
theorem pow_of_shl (n : Nat) (h : (2 ^ t * n).isPowerOfTwo) : ∃ k, n = 2 ^ k := by
  obtain ⟨k, hk⟩ := h
  have hle : t ≤ k := by
    have : 2 ^ t ≤ 2 ^ k := by
      rw [← hk]
      have : 0 < n := by
        rcases Nat.eq_zero_or_pos n with rfl | h0
        · have := two_pos k; simp at hk; omega
        · exact h0
      exact Nat.le_mul_of_pos_right _ this
    exact (Nat.pow_le_pow_iff_right (by decide)).1 this
  refine ⟨k - t, ?_⟩
  rw [show 2 ^ k = 2 ^ t * 2 ^ (k - t) by rw [← Nat.pow_add]; congr 1; omega] at hk
  exact Nat.eq_of_mul_eq_mul_left (two_pos t) hk
theorem seq_core (ht : t < w) (hu : u % 2 = 1) (hx : x.toNat = 2 ^ t * u) : (((x &&& -x) + x) - 1 &&& ((x &&& -x) + x) = 0#w) ↔ ∃ n, u + 1 = 2 ^ n := by
  have h0 := low_sum x t u (by omega) hu hx
  obtain ⟨h1, h2, h3⟩ := low_bit x t u (by omega) hu hx
  generalize hy : (x &&& -x) + x = y at *
  have one : (1#w).toNat = 1 := by
    have : 2 ≤ 2 ^ w := by calc 2 = 2 ^ 1 := rfl
                                _ ≤ 2 ^ w := Nat.pow_le_pow_right (by decide) (by omega)
    simp; omega
  by_cases e : u + 1 = 2 ^ (w - t)
  · rw [if_pos e] at h0
    have : y = 0#w := BitVec.eq_of_toNat_eq (by simpa using h0)
    subst this
    simp; exact ⟨_, e⟩
  · rw [if_neg e] at h0
    have hp : 1 ≤ 2 ^ t * (u + 1) := Nat.mul_pos (two_pos t) (by omega)
    have hy1 : (y - 1).toNat = 2 ^ t * (u + 1) - 1 := by
      have := y.isLt
      rw [show (1 : BitVec w) = 1#w from rfl, BitVec.toNat_sub, one, h0, show 2 ^ w - 1 + 2 ^ t * (u + 1) = (2 ^ t * (u + 1) - 1) + 2 ^ w by omega, Nat.add_mod_right, Nat.mod_eq_of_lt (by omega)]
    have key : (y - 1 &&& y = 0#w) ↔ (2 ^ t * (u + 1)) &&& (2 ^ t * (u + 1) - 1) = 0 := by
      rw [← BitVec.toNat_inj, BitVec.toNat_and, hy1, h0, Nat.and_comm]; simp
    rw [key, Nat.and_sub_one_eq_zero_iff_isPowerOfTwo (by omega)]
    constructor
    · exact pow_of_shl t (u + 1)
    · rintro ⟨n, h⟩; exact ⟨t + n, by rw [h, Nat.pow_add]⟩
theorem mask_core (ht : t < w) (hu : u % 2 = 1) (hx : x.toNat = 2 ^ t * u) : (x &&& ((x &&& -x) + x) = 0#w) ↔ ∃ n, u + 1 = 2 ^ n := by
  have h0 := low_sum x t u (by omega) hu hx
  obtain ⟨h1, h2, h3⟩ := low_bit x t u (by omega) hu hx
  generalize hy : (x &&& -x) + x = y at *
  by_cases e : u + 1 = 2 ^ (w - t)
  · rw [if_pos e] at h0
    have : y = 0#w := BitVec.eq_of_toNat_eq (by simpa using h0)
    subst this
    simp; exact ⟨_, e⟩
  · rw [if_neg e] at h0
    have key : (x &&& y = 0#w) ↔ (u + 1) &&& (u + 1 - 1) = 0 := by
      rw [← BitVec.toNat_inj, BitVec.toNat_and, h0, hx, shl_and, Nat.and_comm u]
      simp only [Nat.add_sub_cancel]
      show 2 ^ t * (u + 1 &&& u) = 0 ↔ _
      rw [Nat.mul_eq_zero]
      constructor
      · intro h; exact h.resolve_left (by have := two_pos t; omega)
      · exact .inr
    rw [key, Nat.and_sub_one_eq_zero_iff_isPowerOfTwo (by omega)]
    rfl
end
/-- A run of ones: n of them from place t on. -/
def Run (w : Nat) (x : BitVec w) : Prop := ∃ t n, 1 ≤ n ∧ t + n ≤ w ∧ x.toNat = 2 ^ t * (2 ^ n - 1)
theorem odd_run (n : Nat) (h : 1 ≤ n) : (2 ^ n - 1) % 2 = 1 := by
  obtain ⟨m, rfl⟩ : ∃ m, n = m + 1 := ⟨n - 1, by omega⟩
  have := two_pos m
  rw [Nat.pow_succ]; omega
theorem odd_place {w : Nat} (x : BitVec w) {t u : Nat} (hu : u % 2 = 1) (hx : x.toNat = 2 ^ t * u) : t < w := by
  have h := x.isLt
  have : 2 ^ t < 2 ^ w := by
    have : 2 ^ t * 1 ≤ 2 ^ t * u := Nat.mul_le_mul_left _ (by omega)
    omega
  exact (Nat.pow_lt_pow_iff_right (by decide)).1 this
theorem run_of {w : Nat} (x : BitVec w) {t u n : Nat} (hu : u % 2 = 1) (hx : x.toNat = 2 ^ t * u) (h : u + 1 = 2 ^ n) : Run w x := by
  have ht := odd_place x hu hx
  obtain ⟨h1, _, h3⟩ := low_bit x t u (by omega) hu hx
  have hn : 1 ≤ n := by
    rcases Nat.eq_zero_or_pos n with rfl | h0
    · simp at h; omega
    · exact h0
  refine ⟨t, n, hn, ?_, by rw [hx, ← h]; rfl⟩
  have : 2 ^ n ≤ 2 ^ (w - t) := by omega
  have := (Nat.pow_le_pow_iff_right (a := 2) (by decide)).1 this
  omega
theorem seq_iff {w : Nat} (x : BitVec w) (h : x ≠ 0#w) : (((x &&& -x) + x) - 1 &&& ((x &&& -x) + x) = 0#w) ↔ Run w x := by
  constructor
  · intro hs
    obtain ⟨t, u, hu, hx⟩ := odd_part x.toNat (fun e => h (BitVec.eq_of_toNat_eq (by simpa using e)))
    obtain ⟨n, hn⟩ := (seq_core x t u (odd_place x hu hx) hu hx).1 hs
    exact run_of x hu hx hn
  · rintro ⟨t, n, h1, h2, h3⟩
    have hu := odd_run n h1
    exact (seq_core x t _ (odd_place x hu h3) hu h3).2 ⟨n, by have := two_pos n; omega⟩
theorem mask_iff {w : Nat} (x : BitVec w) (h : x ≠ 0#w) : (x &&& ((x &&& -x) + x) = 0#w) ↔ Run w x := by
  constructor
  · intro hs
    obtain ⟨t, u, hu, hx⟩ := odd_part x.toNat (fun e => h (BitVec.eq_of_toNat_eq (by simpa using e)))
    obtain ⟨n, hn⟩ := (mask_core x t u (odd_place x hu hx) hu hx).1 hs
    exact run_of x hu hx hn
  · rintro ⟨t, n, h1, h2, h3⟩
    have hu := odd_run n h1
    exact (mask_core x t _ (odd_place x hu h3) hu h3).2 ⟨n, by have := two_pos n; omega⟩
end Go.Proofs.YtlcaejikcelgoaaDoor.Ub
