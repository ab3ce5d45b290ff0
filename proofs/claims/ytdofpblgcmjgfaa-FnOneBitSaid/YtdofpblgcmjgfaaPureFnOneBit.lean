/- Exactly one bit of a number of 64, 32, 16 or 8 bits is 1, that of the sign too: for all words. No condition. -/
import Derived.Test.YtdofpblgcmjgfaaPFnOneBitx1
import Derived.Test.YtdofpblgcmjgfaaAt
import Derived.Test.YtdofpblgcmjgfaaBr
import Derived.Test.YtdofpblgcmjgfaaSh
import Derived.Test.YtdofpblgcmjgfaaUb
set_option linter.unusedVariables false
set_option linter.unusedSimpArgs false
namespace Go.Proofs.Ytdofpblgcmjgfaa.Pure
open Go.RowKit Go.Proofs.Ytdofpblgcmjgfaa.PFnOneBit Go.Proofs.YtdofpblgcmjgfaaW.PrintWords Go.Proofs.YtdofpblgcmjgfaaW.PrintLast Go.Proofs.YtdofpblgcmjgfaaW.PrintMore
open Br
/-- How many of the low bits are ones. -/
def ones : Nat → Nat → Nat
  | 0, _ => 0
  | k + 1, x => x % 2 + ones k (x / 2)
theorem ones_le (k : Nat) : ∀ x, ones k x ≤ k := by
  induction k with
  | zero => intro x; simp [ones]
  | succ k ih => intro x; rw [ones]; have := ih (x / 2); omega
theorem ones0 (k : Nat) : ∀ x, ones k x = 0 ↔ x % 2 ^ k = 0 := by
  induction k with
  | zero => intro x; simp [ones, Nat.mod_one]
  | succ k ih => intro x; rw [Ub.mod_succ, ones]; have := ih (x / 2); omega
theorem ones1 (k : Nat) : ∀ x, ones k x = 1 ↔ ∃ t, t < k ∧ x % 2 ^ k = 2 ^ t := by
  induction k with
  | zero => intro x; simp [ones]
  | succ k ih =>
    intro x
    rw [Ub.mod_succ, ones]
    rcases Nat.mod_two_eq_zero_or_one x with h | h
    · rw [h, Nat.zero_add, ih]
      constructor
      · rintro ⟨t, ht, e⟩; exact ⟨t + 1, by omega, by rw [Nat.pow_succ]; omega⟩
      · rintro ⟨t, ht, e⟩
        cases t with
        | zero => simp at e; omega
        | succ t => exact ⟨t, by omega, by rw [Nat.pow_succ] at e; omega⟩
    · rw [h]
      have := ones0 k (x / 2)
      constructor
      · intro e; exact ⟨0, by omega, by simp; omega⟩
      · rintro ⟨t, ht, e⟩
        cases t with
        | zero => simp at e; omega
        | succ t => rw [Nat.pow_succ] at e; omega
def ob {w : Nat} (y : BitVec w) : Bool := decide (y &&& y - 1#w = 0#w) && !decide (y = 0#w)
theorem ob_iff {w : Nat} (hw : 0 < w) (y : BitVec w) : ob y = true ↔ ∃ t, t < w ∧ y.toNat = 2 ^ t := by
  have one : (1#w).toNat = 1 := by
    have : 2 ≤ 2 ^ w := by calc 2 = 2 ^ 1 := rfl
                                _ ≤ 2 ^ w := Nat.pow_le_pow_right (by decide) (by omega)
    simp; omega
  have hz : y = 0#w ↔ y.toNat = 0 := by rw [← BitVec.toNat_inj]; simp
  unfold ob
  rw [Bool.and_eq_true, decide_eq_true_eq, Bool.not_eq_true', decide_eq_false_iff_not, hz]
  by_cases h0 : y.toNat = 0
  · constructor
    · rintro ⟨_, h⟩; exact absurd h0 h
    · rintro ⟨t, _, h⟩; have := Nat.two_pow_pos t; omega
  · have hs : (y - 1#w).toNat = y.toNat - 1 := by
      have := y.isLt
      rw [BitVec.toNat_sub, one, show 2 ^ w - 1 + y.toNat = (y.toNat - 1) + 2 ^ w by omega, Nat.add_mod_right, Nat.mod_eq_of_lt (by omega)]
    rw [← BitVec.toNat_inj, BitVec.toNat_and, hs, show (0#w).toNat = 0 from by simp, Nat.and_sub_one_eq_zero_iff_isPowerOfTwo h0]
    constructor
    · rintro ⟨⟨t, ht⟩, _⟩
      refine ⟨t, ?_, ht⟩
      have := y.isLt
      rw [ht] at this
      exact (Nat.pow_lt_pow_iff_right (by decide)).1 this
    · rintro ⟨t, _, ht⟩; exact ⟨⟨t, ht⟩, h0⟩
theorem ob_64 (y : BitVec 64) : impl_OneBit64.f y.toInt = some (ob y) := by
  unfold impl_OneBit64.f ssarewrite_ZZOneBit_int64.f ssarewrite_oneBit_int64.f
  rw [w64, osub, oI, show BitVec.ofInt 64 1 = 1#64 from by decide, iand64]
  have e0 : (y.toInt != 0) = !decide (y = 0#64) := by
    rw [Bool.eq_iff_iff]; simp only [bne_iff_ne, ne_eq, Bool.not_eq_true', decide_eq_false_iff_not]
    rw [show (0 : Int) = (0#64).toInt from by decide, BitVec.toInt_inj]
  have e1 : ((y &&& y - 1#64).toInt = 0) = (y &&& y - 1#64 = 0#64) := by
    rw [show (0 : Int) = (0#64).toInt from by decide]; exact propext BitVec.toInt_inj
  rw [e0]
  simp only [e1]
  unfold ob
  by_cases h : y &&& y - 1#64 = 0#64
  · rw [if_pos h]; simp [h]
  · rw [if_neg h]; simp [h]
theorem ob_32 (y : BitVec 32) : impl_OneBit32.f y.toInt = some (ob y) := by
  unfold impl_OneBit32.f ssarewrite_ZZOneBit_int32.f ssarewrite_oneBit_int32.f
  rw [w32, osub, oI, show BitVec.ofInt 32 1 = 1#32 from by decide, iand32]
  have e0 : (y.toInt != 0) = !decide (y = 0#32) := by
    rw [Bool.eq_iff_iff]; simp only [bne_iff_ne, ne_eq, Bool.not_eq_true', decide_eq_false_iff_not]
    rw [show (0 : Int) = (0#32).toInt from by decide, BitVec.toInt_inj]
  have e1 : ((y &&& y - 1#32).toInt = 0) = (y &&& y - 1#32 = 0#32) := by
    rw [show (0 : Int) = (0#32).toInt from by decide]; exact propext BitVec.toInt_inj
  rw [e0]
  simp only [e1]
  unfold ob
  by_cases h : y &&& y - 1#32 = 0#32
  · rw [if_pos h]; simp [h]
  · rw [if_neg h]; simp [h]
theorem ob_16 (y : BitVec 16) : impl_OneBit16.f y.toInt = some (ob y) := by
  unfold impl_OneBit16.f ssarewrite_ZZOneBit_int16.f ssarewrite_oneBit_int16.f
  rw [wi16, osub, oI, show BitVec.ofInt 16 1 = 1#16 from by decide, iand16]
  have e0 : (y.toInt != 0) = !decide (y = 0#16) := by
    rw [Bool.eq_iff_iff]; simp only [bne_iff_ne, ne_eq, Bool.not_eq_true', decide_eq_false_iff_not]
    rw [show (0 : Int) = (0#16).toInt from by decide, BitVec.toInt_inj]
  have e1 : ((y &&& y - 1#16).toInt = 0) = (y &&& y - 1#16 = 0#16) := by
    rw [show (0 : Int) = (0#16).toInt from by decide]; exact propext BitVec.toInt_inj
  rw [e0]
  simp only [e1]
  unfold ob
  by_cases h : y &&& y - 1#16 = 0#16
  · rw [if_pos h]; simp [h]
  · rw [if_neg h]; simp [h]
theorem ob_8 (y : BitVec 8) : impl_OneBit8.f y.toInt = some (ob y) := by
  unfold impl_OneBit8.f ssarewrite_ZZOneBit_int8.f ssarewrite_oneBit_int8.f
  rw [wi8, osub, oI, show BitVec.ofInt 8 1 = 1#8 from by decide, iand8]
  have e0 : (y.toInt != 0) = !decide (y = 0#8) := by
    rw [Bool.eq_iff_iff]; simp only [bne_iff_ne, ne_eq, Bool.not_eq_true', decide_eq_false_iff_not]
    rw [show (0 : Int) = (0#8).toInt from by decide, BitVec.toInt_inj]
  have e1 : ((y &&& y - 1#8).toInt = 0) = (y &&& y - 1#8 = 0#8) := by
    rw [show (0 : Int) = (0#8).toInt from by decide]; exact propext BitVec.toInt_inj
  rw [e0]
  simp only [e1]
  unfold ob
  by_cases h : y &&& y - 1#8 = 0#8
  · rw [if_pos h]; simp [h]
  · rw [if_neg h]; simp [h]

theorem ones_loop (x b : Nat) (hx : x < 18446744073709551616) (hb : b ≤ 64) : ∀ d k i n : Nat, i + d = b → d < k → n ≤ i →
    spec_Ones.l0 k (x : Int) (n : Int) (b : Int) (i : Int) = some ((n + ones d (x / 2 ^ i) : Nat) : Int) := by
  intro d
  induction d with
  | zero =>
    intro k i n hi hk hn
    obtain ⟨k, rfl⟩ : ∃ m, k = m + 1 := ⟨k - 1, by omega⟩
    simp only [spec_Ones.l0]
    rw [if_neg (by omega)]
    simp [ones]
  | succ d ih =>
    intro k i n hi hk hn
    obtain ⟨k, rfl⟩ : ∃ m, k = m + 1 := ⟨k - 1, by omega⟩
    simp only [spec_Ones.l0]
    rw [if_pos (by omega)]
    have e1 : spec_bit.f (x : Int) (i : Int) = some ((x / 2 ^ i % 2 : Nat) : Int) := by
      unfold spec_bit.f
      rw [if_pos (by omega), shrN .u64 x i (by show i ≤ 64; omega), Int.tmod_eq_emod_of_nonneg (Int.natCast_nonneg _)]
      push_cast; rfl
    rw [e1]
    simp only [Option.bind_some]
    have hm : x / 2 ^ i % 2 < 2 := Nat.mod_lt _ (by decide)
    have e2 : wrap64 ((n : Int) + wrap64 ((x / 2 ^ i % 2 : Nat) : Int)) = ((n + x / 2 ^ i % 2 : Nat) : Int) := by
      generalize x / 2 ^ i % 2 = m at *
      unfold wrap64; omega
    have e3 : IntKind.u64.wrap ((i : Int) + 1) = ((i + 1 : Nat) : Int) := wrap_lt .u64 rfl (i + 1) (by show i + 1 < 2 ^ 64; omega)
    rw [e2, e3, ih k (i + 1) (n + x / 2 ^ i % 2) (by omega) (by omega) (by omega), ones, Nat.div_div_eq_div_mul, ← Nat.pow_succ, Nat.add_assoc]
theorem ones_f (x b : Nat) (hx : x < 18446744073709551616) (hb : b ≤ 64) : spec_Ones.f 66 (x : Int) (b : Int) = some ((ones b x : Nat) : Int) := by
  have := ones_loop x b hx hb b 66 0 0 (by omega) (by omega) (by omega)
  simpa [spec_Ones.f] using this
theorem agree {w : Nat} (hw : 0 < w) (x : Nat) (y : BitVec w) (h : y.toNat = x % 2 ^ w) : ob y = (((ones w x : Nat) : Int) == 1) := by
  rw [Bool.eq_iff_iff, ob_iff hw, beq_iff_eq, h, show (((ones w x : Nat) : Int) = 1) = (ones w x = 1) from by simp only [eq_iff_iff]; omega, ones1]
theorem FnOneBit : laws_FnOneBit.Pure := by
  intro a ha
  have ha := wf_i64 ha
  obtain ⟨x, rfl⟩ := of_i64 a ha.1 ha.2
  refine ⟨66, ?_⟩
  have h64 : impl_OneBit64.f (-9223372036854775808) = some true := by decide +kernel
  have hl : x.toNat < 18446744073709551616 := x.isLt
  unfold laws_FnOneBit.f
  rw [h64, ob_64, wu64, oI, show (64 : Int) = ((64 : Nat) : Int) from rfl, show (32 : Int) = ((32 : Nat) : Int) from rfl, show (16 : Int) = ((16 : Nat) : Int) from rfl, show (8 : Int) = ((8 : Nat) : Int) from rfl,
    ones_f _ 64 hl (by decide), ones_f _ 32 hl (by decide), ones_f _ 16 hl (by decide), ones_f _ 8 hl (by decide),
    w32, ob_32, wi16, ob_16, wi8, ob_8]
  rw [agree (by decide) x.toNat x (by rw [Nat.mod_eq_of_lt x.isLt]),
    agree (by decide) x.toNat (BitVec.ofInt 32 x.toInt) (by rw [oI_narrow (by decide), BitVec.toNat_setWidth]),
    agree (by decide) x.toNat (BitVec.ofInt 16 x.toInt) (by rw [oI_narrow (by decide), BitVec.toNat_setWidth]),
    agree (by decide) x.toNat (BitVec.ofInt 8 x.toInt) (by rw [oI_narrow (by decide), BitVec.toNat_setWidth])]
  simp

end Go.Proofs.Ytdofpblgcmjgfaa.Pure
