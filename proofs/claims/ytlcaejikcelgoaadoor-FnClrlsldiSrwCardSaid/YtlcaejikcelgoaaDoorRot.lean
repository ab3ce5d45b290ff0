/- Words that are turned, masks of 32 bits, and the value that stands for a turn and a mask: plain Lean, no program in sight. -/
import Derived.Test.YtlcaejikcelgoaaDoorAt
import Derived.Test.YtlcaejikcelgoaaDoorBr
import Derived.Test.YtlcaejikcelgoaaDoorSh
import Derived.Test.YtlcaejikcelgoaaDoorUb
import Derived.Laws.BitsLemmas
import Derived.Lib.BitFns
import Derived.Lib.TrailingZeros
set_option linter.unusedVariables false
set_option linter.unusedSimpArgs false
namespace Go.Proofs.YtlcaejikcelgoaaDoor.Rot
open Go.RowKit Br Pure
theorem k64 (n : Int) (h0 : 0 ≤ n) (h1 : n < 2 ^ 63) : IntKind.i64.wrap n = n := by
  have : (2 : Int) ^ 63 = 9223372036854775808 := rfl
  rw [k_i64]; omega
theorem iandN (a b : Nat) (ha : a < 2 ^ 63) (hb : b < 2 ^ 63) : Go.bits .and .i64 (a : Int) (b : Int) = ((a &&& b : Nat) : Int) := (bits_nat .i64 63 (by decide) k64 a b ha hb).1
theorem iorN (a b : Nat) (ha : a < 2 ^ 63) (hb : b < 2 ^ 63) : Go.bits .or .i64 (a : Int) (b : Int) = ((a ||| b : Nat) : Int) := (bits_nat .i64 63 (by decide) k64 a b ha hb).2
theorem and255 (n : Nat) (h : n < 2 ^ 64) : Go.bits .and .u64 (n : Int) 255 = ((n % 256 : Nat) : Int) := by
  have := andN .u64 rfl n 255 h (by decide)
  rw [show ((255 : Nat) : Int) = 255 from rfl] at this
  rw [this, show (255 : Nat) = 2 ^ 8 - 1 from rfl, Nat.and_two_pow_sub_one_eq_mod]
theorem iand255 (n : Nat) (h : n < 2 ^ 63) : Go.bits .and .i64 (n : Int) 255 = ((n % 256 : Nat) : Int) := by
  have := iandN n 255 h (by decide)
  rw [show ((255 : Nat) : Int) = 255 from rfl] at this
  rw [this, show (255 : Nat) = 2 ^ 8 - 1 from rfl, Nat.and_two_pow_sub_one_eq_mod]
theorem iand31 (n : Nat) (h : n < 2 ^ 63) : Go.bits .and .i64 (n : Int) 31 = ((n % 32 : Nat) : Int) := by
  have := iandN n 31 h (by decide)
  rw [show ((31 : Nat) : Int) = 31 from rfl] at this
  rw [this, show (31 : Nat) = 2 ^ 5 - 1 from rfl, Nat.and_two_pow_sub_one_eq_mod]
theorem w64N (n : Nat) (h : n < 9223372036854775808) : wrap64 (n : Int) = (n : Int) := by unfold wrap64; omega
theorem u64N (n : Nat) (h : n < 18446744073709551616) : IntKind.u64.wrap (n : Int) = (n : Int) := by rw [u64mod]; omega
theorem xor32 (x y : BitVec 32) : Go.bits .xor .u32 x.toNat y.toNat = ((x ^^^ y).toNat : Int) := by
  show IntKind.u32.wrap _ = _; rw [wu32]; show ((BitVec.ofInt 32 ((BitVec.ofInt 32 x.toNat ^^^ BitVec.ofInt 32 y.toNat).toNat : Int)).toNat : Int) = _; rw [oN, oN, oN]
theorem not32 (v : Nat) (h : v < 4294967296) : Go.bits .xor .u32 4294967295 (v : Int) = ((4294967295 - v : Nat) : Int) := by
  have := xor32 (4294967295#32) (BitVec.ofNat 32 v)
  rw [show (((4294967295#32).toNat : Nat) : Int) = 4294967295 from rfl, BitVec.toNat_ofNat, Nat.mod_eq_of_lt h] at this
  rw [this, show (4294967295#32) = BitVec.allOnes 32 by decide, BitVec.allOnes_xor, BitVec.toNat_not, BitVec.toNat_ofNat, Nat.mod_eq_of_lt h]
theorem not_ne (a : Int) (h0 : -9223372036854775808 ≤ a) (h1 : a ≤ 9223372036854775807) (h : a ≠ -1) : ¬ Go.bits .xor .i64 (-1) a = 0 := by
  obtain ⟨x, rfl⟩ := of_i64 a h0 h1
  have e1 : (-1 : Int) = (BitVec.allOnes 64).toInt := by decide
  intro e
  rw [e1, ixor64, show (0 : Int) = (0#64).toInt by decide, BitVec.toInt_inj, BitVec.allOnes_xor] at e
  apply h
  have : x = BitVec.allOnes 64 := by
    rw [← BitVec.not_not (b := x), e]; decide
  rw [this]; decide
/-- x, of b bits, turned by r. -/
def turn (b x r : Nat) : Nat := (x * 2 ^ r ||| x / 2 ^ (b - r)) % 2 ^ b
theorem turn_lt (b x r : Nat) : turn b x r < 2 ^ b := Nat.mod_lt _ (Nat.two_pow_pos b)
theorem bit_div (x k i : Nat) : (x / 2 ^ k).testBit i = x.testBit (k + i) := by rw [← Nat.shiftRight_eq_div_pow, Nat.testBit_shiftRight]
theorem turn_bit (b x r i : Nat) (hx : x < 2 ^ b) (hr : r < b) (hi : i < b) : (turn b x r).testBit i = x.testBit ((i + b - r) % b) := by
  unfold turn
  rw [Nat.testBit_mod_two_pow, Nat.testBit_or, bit_div, Nat.testBit_mul_two_pow]
  simp only [hi, decide_true, Bool.true_and]
  by_cases h : r ≤ i
  · rw [show (i + b - r) % b = i - r by rw [show i + b - r = i - r + b by omega, Nat.add_mod_right, Nat.mod_eq_of_lt (by omega)]]
    rw [Nat.testBit_lt_two_pow (x := x) (i := b - r + i) (Nat.lt_of_lt_of_le hx (Nat.pow_le_pow_right (by decide) (by omega)))]
    simp [h]
  · rw [show (i + b - r) % b = b - r + i by rw [Nat.mod_eq_of_lt (by omega)]; omega]
    simp [h]
/-- A run of n ones from place t on. -/
def run (t n : Nat) : Nat := 2 ^ t * (2 ^ n - 1)
theorem run_bit (t n i : Nat) : (run t n).testBit i = (decide (t ≤ i) && decide (i < t + n)) := by
  unfold run
  rw [Nat.mul_comm, Nat.testBit_mul_two_pow, Nat.testBit_two_pow_sub_one]
  by_cases h : t ≤ i
  · simp only [h, decide_true, Bool.true_and]
    congr 1
    exact propext ⟨fun _ => by omega, fun _ => by omega⟩
  · simp [h]
theorem run_lt (t n b : Nat) (h : t + n ≤ b) : run t n < 2 ^ b := by
  unfold run
  have a : 2 ^ t * (2 ^ n - 1) < 2 ^ t * 2 ^ n := Nat.mul_lt_mul_of_pos_left (by have := Nat.two_pow_pos n; omega) (Nat.two_pow_pos t)
  rw [← Nat.pow_add] at a
  exact Nat.lt_of_lt_of_le a (Nat.pow_le_pow_right (by decide) h)
theorem run_pos (t n : Nat) (h : 1 ≤ n) : 0 < run t n := by
  have : 2 ^ 1 ≤ 2 ^ n := Nat.pow_le_pow_right (by decide) h
  exact Nat.mul_pos (Nat.two_pow_pos t) (by omega)
/-- A mask of 32 bits: a run of ones, or what is left of the word without one. -/
def WM (v : Nat) : Prop := v ≠ 0 ∧ ∃ t n, 1 ≤ n ∧ t + n ≤ 32 ∧ (v = run t n ∨ v = 4294967295 - run t n)
theorem WM.lt {v : Nat} (h : WM v) : v < 4294967296 := by
  obtain ⟨_, t, n, h1, h2, h3⟩ := h
  have := run_lt t n 32 h2
  have e : (2 : Nat) ^ 32 = 4294967296 := rfl
  omega
theorem WM.run {t n : Nat} (h1 : 1 ≤ n) (h2 : t + n ≤ 32) : WM (run t n) := ⟨by have := run_pos t n h1; omega, t, n, h1, h2, .inl rfl⟩
theorem wm_of (x : BitVec 32) (h : x ≠ 0#32) (hm : x &&& ((x &&& -x) + x) = 0#32 ∨ ~~~x &&& ((~~~x &&& -(~~~x)) + ~~~x) = 0#32) : WM x.toNat := by
  have h0 : x.toNat ≠ 0 := fun e => h (BitVec.eq_of_toNat_eq (by simpa using e))
  rcases hm with hm | hm
  · obtain ⟨t, n, h1, h2, h3⟩ := (Ub.mask_iff x h).1 hm
    exact ⟨h0, t, n, h1, h2, .inl h3⟩
  · by_cases hn : ~~~x = 0#32
    · refine ⟨h0, 0, 32, by decide, by decide, .inl ?_⟩
      have e : x = BitVec.allOnes 32 := by rw [← BitVec.not_not (b := x), hn]; decide
      rw [e]; decide
    · obtain ⟨t, n, h1, h2, h3⟩ := (Ub.mask_iff (~~~x) hn).1 hm
      refine ⟨h0, t, n, h1, h2, .inr ?_⟩
      unfold run
      rw [← h3, BitVec.toNat_not]
      have := x.isLt
      omega
/-- The bounds that stand for a mask of 32 bits. -/
def pick (v : Nat) : Nat × Nat :=
  if 32 - Lib.bitLen v = 0 ∧ 32 - Lib.ctz 32 v = 32 then (32 - Lib.ctz 32 (4294967295 - v), 32 - Lib.bitLen (4294967295 - v)) else (32 - Lib.bitLen v, 32 - Lib.ctz 32 v)
/-- The mask for which bounds stand. -/
def maskOf (mb me : Nat) : Nat := if mb > me then 4294967295 - ((2 ^ (32 - mb) - 1) ^^^ (2 ^ (32 - me) - 1)) else (2 ^ (32 - mb) - 1) ^^^ (2 ^ (32 - me) - 1)
theorem pick_run : ∀ t, t < 32 → ∀ n, n < 33 → 1 ≤ n → t + n ≤ 32 → maskOf (pick (run t n)).1 (pick (run t n)).2 = run t n ∧ (pick (run t n)).1 = 32 - t - n ∧ (pick (run t n)).2 = 32 - t := by decide +kernel
theorem pick_not : ∀ t, t < 32 → ∀ n, n < 32 → 1 ≤ n ∧ t + n ≤ 32 → maskOf (pick (4294967295 - run t n)).1 (pick (4294967295 - run t n)).2 = 4294967295 - run t n ∧ (pick (4294967295 - run t n)).1 ≤ 32 ∧ (pick (4294967295 - run t n)).2 ≤ 32 := by decide +kernel
theorem WM.pick {v : Nat} (h : WM v) : maskOf (pick v).1 (pick v).2 = v ∧ (Rot.pick v).1 ≤ 32 ∧ (Rot.pick v).2 ≤ 32 := by
  obtain ⟨h0, t, n, h1, h2, rfl | rfl⟩ := h
  · have p := pick_run t (by omega) n (by omega) h1 h2
    exact ⟨p.1, by omega, by omega⟩
  · refine pick_not t (by omega) n ?_ ⟨h1, h2⟩
    rcases Nat.lt_or_ge n 32 with h | h
    · exact h
    · exfalso; apply h0
      obtain rfl : n = 32 := by omega
      obtain rfl : t = 0 := by omega
      rfl
/-- The value: the end of the mask, its beginning, the turn, the number of bits. -/
def val (mb me r b : Nat) : Nat := me + 256 * mb + 65536 * r + 16777216 * b
theorem or_add (a b k : Nat) (h : a < 2 ^ k) : a ||| b * 2 ^ k = a + b * 2 ^ k := by
  have := Nat.two_pow_add_eq_or_of_lt h b
  rw [Nat.mul_comm b, Nat.or_comm, ← this, Nat.add_comm]
theorem val_or (mb me r b : Nat) (h1 : me < 256) (h2 : mb < 256) (h3 : r < 256) (h4 : b < 128) :
    Go.bits .or .i64 (Go.bits .or .i64 (Go.bits .or .i64 (me : Int) (wrap64 ((mb : Int) * 256))) (wrap64 ((r : Int) * 65536))) (wrap64 ((b : Int) * 16777216)) = (val mb me r b : Int) := by
  have p63 : (2 : Nat) ^ 63 = 9223372036854775808 := rfl
  have e1 : wrap64 ((mb : Int) * 256) = ((mb * 2 ^ 8 : Nat) : Int) := by unfold wrap64; omega
  have e2 : wrap64 ((r : Int) * 65536) = ((r * 2 ^ 16 : Nat) : Int) := by unfold wrap64; omega
  have e3 : wrap64 ((b : Int) * 16777216) = ((b * 2 ^ 24 : Nat) : Int) := by unfold wrap64; omega
  rw [e1, e2, e3, iorN _ _ (by omega) (by omega), or_add me mb 8 h1, iorN _ _ (by omega) (by omega), or_add _ r 16 (by omega), iorN _ _ (by omega) (by omega), or_add _ b 24 (by omega)]
  unfold val
  congr 1; omega
theorem val_lt (mb me r b : Nat) (h1 : me < 256) (h2 : mb < 256) (h3 : r < 256) (h4 : b < 128) : val mb me r b < 2147483648 := by unfold val; omega
theorem val_0 (mb me r b : Nat) (h1 : me < 256) : val mb me r b % 256 = me := by unfold val; omega
theorem val_1 (mb me r b : Nat) (h1 : me < 256) (h2 : mb < 256) : val mb me r b / 256 % 256 = mb := by unfold val; omega
theorem val_2 (mb me r b : Nat) (h1 : me < 256) (h2 : mb < 256) (h3 : r < 256) : val mb me r b / 65536 % 256 = r := by unfold val; omega
theorem val_3 (mb me r b : Nat) (h1 : me < 256) (h2 : mb < 256) (h3 : r < 256) (h4 : b < 128) : val mb me r b / 16777216 % 256 = b := by unfold val; omega
section
variable (mb me r b : Nat) (h1 : me < 256) (h2 : mb < 256) (h3 : r < 256) (h4 : b < 128)
include h1 h2 h3 h4
theorem u_val : IntKind.u64.wrap (val mb me r b : Int) = (val mb me r b : Int) := u64N _ (by have := val_lt mb me r b h1 h2 h3 h4; omega)
theorem f0 : wrap64 (Go.bits .and .u64 (val mb me r b : Int) 255) = (me : Int) := by
  have l := val_lt mb me r b h1 h2 h3 h4
  rw [and255 _ (Nat.lt_trans l (by decide)), val_0 mb me r b h1, w64N me (by omega)]
theorem f1 : wrap64 (Go.bits .and .u64 ((val mb me r b : Int) / 256) 255) = (mb : Int) := by
  have l := val_lt mb me r b h1 h2 h3 h4
  rw [show ((val mb me r b : Int) / 256) = ((val mb me r b / 256 : Nat) : Int) by omega, and255 _ (Nat.lt_of_le_of_lt (Nat.div_le_self _ _) (Nat.lt_trans l (by decide))), val_1 mb me r b h1 h2, w64N mb (by omega)]
theorem f2 : wrap64 (Go.bits .and .u64 ((val mb me r b : Int) / 65536) 255) = (r : Int) := by
  have l := val_lt mb me r b h1 h2 h3 h4
  rw [show ((val mb me r b : Int) / 65536) = ((val mb me r b / 65536 : Nat) : Int) by omega, and255 _ (Nat.lt_of_le_of_lt (Nat.div_le_self _ _) (Nat.lt_trans l (by decide))), val_2 mb me r b h1 h2 h3, w64N r (by omega)]
theorem f3 : wrap64 (Go.bits .and .u64 ((val mb me r b : Int) / 16777216) 255) = (b : Int) := by
  have l := val_lt mb me r b h1 h2 h3 h4
  rw [show ((val mb me r b : Int) / 16777216) = ((val mb me r b / 16777216 : Nat) : Int) by omega, and255 _ (Nat.lt_of_le_of_lt (Nat.div_le_self _ _) (Nat.lt_trans l (by decide))), val_3 mb me r b h1 h2 h3 h4, w64N b (by omega)]
theorem g2 : Go.bits .and .i64 ((val mb me r b : Int) / 65536) 255 = (r : Int) := by
  have l := val_lt mb me r b h1 h2 h3 h4
  rw [show ((val mb me r b : Int) / 65536) = ((val mb me r b / 65536 : Nat) : Int) by omega, iand255 _ (Nat.lt_of_le_of_lt (Nat.div_le_self _ _) (Nat.lt_trans l (by decide))), val_2 mb me r b h1 h2 h3]
theorem g3 : Go.bits .and .i64 ((val mb me r b : Int) / 16777216) 255 = (b : Int) := by
  have l := val_lt mb me r b h1 h2 h3 h4
  rw [show ((val mb me r b : Int) / 16777216) = ((val mb me r b / 16777216 : Nat) : Int) by omega, iand255 _ (Nat.lt_of_le_of_lt (Nat.div_le_self _ _) (Nat.lt_trans l (by decide))), val_3 mb me r b h1 h2 h3 h4]
end
end Go.Proofs.YtlcaejikcelgoaaDoor.Rot
