/- A word is told to be an immediate of a logical instruction exactly if it is a run of ones, but not only ones, turned within an element of 2 to 64 bits that is repeated: for all words. No condition. -/
import Derived.Test.YtcihkjjejckicaaPFnBitconIsx1
import Derived.Test.YtcihkjjejckicaaAt
import Derived.Test.YtcihkjjejckicaaBr
import Derived.Test.YtcihkjjejckicaaSh
import Derived.Test.YtcihkjjejckicaaUb
import Derived.Test.YtcihkjjejckicaaPat
set_option linter.unusedVariables false
set_option linter.unusedSimpArgs false
namespace Go.Proofs.Ytcihkjjejckicaa.Pure
open Go.RowKit Go.Proofs.Ytcihkjjejckicaa.PFnBitconIs Go.Proofs.YtcihkjjejckicaaW.PrintWords Go.Proofs.YtcihkjjejckicaaW.PrintLast Go.Proofs.YtcihkjjejckicaaW.PrintMore
open Br
namespace CFnBitconIs
theorem bit_f (x i : Nat) (hi : i ≤ 64) : spec_bit.f (x : Int) (i : Int) = some ((x / 2 ^ i % 2 : Nat) : Int) := by
  unfold spec_bit.f
  rw [if_pos (by omega), shrN .u64 x i (by show i ≤ 64; omega), Int.tmod_eq_emod_of_nonneg (Int.natCast_nonneg _)]
  push_cast; rfl
open Ub Pat
theorem rot_e (x b : Nat) (hb : b ≤ 64) (hx : x < 18446744073709551616) : (x / 2 ^ b) ||| (x * 2 ^ (64 - b) % 18446744073709551616) = x / 2 ^ b + x % 2 ^ b * 2 ^ (64 - b) := by
  have h64 : (18446744073709551616 : Nat) = 2 ^ b * 2 ^ (64 - b) := by rw [← Nat.pow_add, show b + (64 - b) = 64 by omega]
  have h1 : x / 2 ^ b < 2 ^ (64 - b) := by rw [Nat.div_lt_iff_lt_mul (two_pos b), Nat.mul_comm, ← h64]; exact hx
  rw [h64, Nat.mul_mod_mul_right, Nat.or_comm, Nat.mul_comm (x % 2 ^ b), ← Nat.two_pow_add_eq_or_of_lt h1]
  omega
theorem rot_lt (x b : Nat) (hb : b ≤ 64) (hx : x < 18446744073709551616) : x / 2 ^ b < 18446744073709551616 ∧ x * 2 ^ (64 - b) % 18446744073709551616 < 18446744073709551616 :=
  ⟨Nat.lt_of_le_of_lt (Nat.div_le_self _ _) hx, Nat.mod_lt _ (by decide)⟩
theorem or64N (a b : Nat) (ha : a < 18446744073709551616) (hb : b < 18446744073709551616) : Go.bits .or .u64 (a : Int) (b : Int) = ((a ||| b : Nat) : Int) := orN .u64 rfl a b ha hb
theorem u64N (n : Nat) : IntKind.u64.wrap (n : Int) = ((n % 18446744073709551616 : Nat) : Int) := wrapN .u64 rfl n
theorem castEq (a b : Nat) : ((a : Int) = (b : Int)) = (a = b) := by simp only [eq_iff_iff]; omega
theorem c32 (x : Nat) (hx : x < 18446744073709551616) : ((x : Int) = Go.bits .or .u64 ((x : Int) / 4294967296) (IntKind.u64.wrap ((x : Int) * 4294967296))) = per 32 4294967297 x := by
  have h := rot_e x 32 (by decide) hx
  have l := rot_lt x 32 (by decide) hx
  simp only [Nat.reducePow, Nat.reduceSub] at h l
  rw [show (x : Int) / 4294967296 = ((x / 4294967296 : Nat) : Int) by omega, show (x : Int) * 4294967296 = ((x * 4294967296 : Nat) : Int) by omega, u64N, or64N _ _ l.1 l.2, h, castEq]
  show _ = (x = x % 4294967296 * 4294967297)
  rw [eq_iff_iff]
  have := Nat.div_add_mod x 4294967296
  generalize x / 4294967296 = q at *
  generalize x % 4294967296 = r at *
  omega
theorem c16 (x : Nat) (hx : x < 18446744073709551616) : ((x : Int) = Go.bits .or .u64 ((x : Int) / 65536) (IntKind.u64.wrap ((x : Int) * 281474976710656))) = per 16 281479271743489 x := by
  have h := rot_e x 16 (by decide) hx
  have l := rot_lt x 16 (by decide) hx
  simp only [Nat.reducePow, Nat.reduceSub] at h l
  rw [show (x : Int) / 65536 = ((x / 65536 : Nat) : Int) by omega, show (x : Int) * 281474976710656 = ((x * 281474976710656 : Nat) : Int) by omega, u64N, or64N _ _ l.1 l.2, h, castEq]
  show _ = (x = x % 65536 * 281479271743489)
  rw [eq_iff_iff]
  have := Nat.div_add_mod x 65536
  generalize x / 65536 = q at *
  generalize x % 65536 = r at *
  omega
theorem c8 (x : Nat) (hx : x < 18446744073709551616) : ((x : Int) = Go.bits .or .u64 ((x : Int) / 256) (IntKind.u64.wrap ((x : Int) * 72057594037927936))) = per 8 72340172838076673 x := by
  have h := rot_e x 8 (by decide) hx
  have l := rot_lt x 8 (by decide) hx
  simp only [Nat.reducePow, Nat.reduceSub] at h l
  rw [show (x : Int) / 256 = ((x / 256 : Nat) : Int) by omega, show (x : Int) * 72057594037927936 = ((x * 72057594037927936 : Nat) : Int) by omega, u64N, or64N _ _ l.1 l.2, h, castEq]
  show _ = (x = x % 256 * 72340172838076673)
  rw [eq_iff_iff]
  have := Nat.div_add_mod x 256
  generalize x / 256 = q at *
  generalize x % 256 = r at *
  omega
theorem c4 (x : Nat) (hx : x < 18446744073709551616) : ((x : Int) = Go.bits .or .u64 ((x : Int) / 16) (IntKind.u64.wrap ((x : Int) * 1152921504606846976))) = per 4 1229782938247303441 x := by
  have h := rot_e x 4 (by decide) hx
  have l := rot_lt x 4 (by decide) hx
  simp only [Nat.reducePow, Nat.reduceSub] at h l
  rw [show (x : Int) / 16 = ((x / 16 : Nat) : Int) by omega, show (x : Int) * 1152921504606846976 = ((x * 1152921504606846976 : Nat) : Int) by omega, u64N, or64N _ _ l.1 l.2, h, castEq]
  show _ = (x = x % 16 * 1229782938247303441)
  rw [eq_iff_iff]
  have := Nat.div_add_mod x 16
  generalize x / 16 = q at *
  generalize x % 16 = r at *
  omega
/-- Whether a number is told to be a sequence of ones. -/
noncomputable def seqB (x : Nat) : Bool := @decide (Pat.Seq x) (Classical.propDecidable _)
theorem seqB_iff (x : Nat) : seqB x = true ↔ Pat.Seq x := @decide_eq_true_iff (Pat.Seq x) (Classical.propDecidable _)
theorem seq_f (x : Nat) (hx : x < 18446744073709551616) : ssarewrite_sequenceOfOnes.f (x : Int) = some (seqB x) := by
  have hv : (x : Int) = ((BitVec.ofNat 64 x).toNat : Int) := by rw [BitVec.toNat_ofNat, Nat.mod_eq_of_lt hx]
  unfold ssarewrite_sequenceOfOnes.f
  generalize hy : BitVec.ofNat 64 x = y at hv
  have hn : y.toNat = x := by rw [← hy, BitVec.toNat_ofNat, Nat.mod_eq_of_lt hx]
  rw [hv]
  simp only [wu64, osub, oadd, oneg, oN, and64]
  rw [show BitVec.ofInt 64 1 = 1#64 from by decide]
  congr 1
  rw [Bool.eq_iff_iff, beq_iff_eq, seqB_iff, show (0 : Int) = ((0#64).toNat : Int) from rfl, eqN]
  by_cases h0 : y = 0#64
  · subst h0
    have : x = 0 := by rw [← hn]; rfl
    rw [this]
    exact ⟨fun _ => .inl rfl, fun _ => by decide⟩
  · have h1 := seq_iff y h0
    rw [show (1 : BitVec 64) = 1#64 from rfl] at h1
    rw [h1]
    unfold Run Pat.Seq
    rw [hn]
    constructor
    · exact .inr
    · rintro (h | h)
      · exact absurd (BitVec.eq_of_toNat_eq (by rw [hn, h]; rfl)) h0
      · exact h
theorem not_f (x : Nat) (hx : x < 18446744073709551616) : Go.bits .xor .u64 18446744073709551615 (x : Int) = ((18446744073709551615 - x : Nat) : Int) := by
  have hv : (x : Int) = ((BitVec.ofNat 64 x).toNat : Int) := by rw [BitVec.toNat_ofNat, Nat.mod_eq_of_lt hx]
  rw [hv, show (18446744073709551615 : Int) = ((BitVec.allOnes 64).toNat : Int) from by decide, xor64]
  congr 1
  rw [BitVec.allOnes_xor, BitVec.toNat_not, BitVec.toNat_ofNat, Nat.mod_eq_of_lt hx]
theorem two_f (x : Nat) (hx : x < 18446744073709551616) : ((ssarewrite_sequenceOfOnes.f (x : Int)).bind fun t => (if t = true then (some true) else ((ssarewrite_sequenceOfOnes.f (Go.bits .xor .u64 18446744073709551615 (x : Int))).bind fun t2 => (some t2)))) = some (seqB x || seqB (18446744073709551615 - x)) := by
  rw [not_f x hx, seq_f x hx, seq_f _ (by omega)]
  simp only [Option.bind_some]
  cases seqB x <;> simp
theorem s32 (x : Nat) (hx : x < 18446744073709551616) : IntKind.u64.wrap (wrap64 (wrap32 (x : Int))) = (sext 32 (x % 4294967296) : Int) := by
  rw [u64mod]; unfold wrap64 wrap32 sext; simp only [Nat.reducePow, Nat.reduceSub]; split <;> omega
theorem s16 (x : Nat) (hx : x < 18446744073709551616) : IntKind.u64.wrap (wrap64 (IntKind.i16.wrap (x : Int))) = (sext 16 (x % 65536) : Int) := by
  rw [u64mod, k_i16]; unfold wrap64 sext; simp only [Nat.reducePow, Nat.reduceSub]; split <;> omega
theorem s8 (x : Nat) (hx : x < 18446744073709551616) : IntKind.u64.wrap (wrap64 (IntKind.i8.wrap (x : Int))) = (sext 8 (x % 256) : Int) := by
  rw [u64mod, k_i8]; unfold wrap64 sext; simp only [Nat.reducePow, Nat.reduceSub]; split <;> omega
theorem sext_lt (b y : Nat) (hb : 1 ≤ b) (hb2 : b ≤ 64) (hy : y < 2 ^ b) : sext b y < 18446744073709551616 := by
  have : 2 ^ b ≤ 2 ^ 64 := pow_le hb2
  have h : (18446744073709551616 : Nat) = 2 ^ 64 := rfl
  have : 2 ^ (b - 1) ≤ 2 ^ b := pow_le (by omega)
  unfold sext; split <;> omega
theorem told (x : Nat) (hx : x < 18446744073709551616) (h0 : x ≠ 0) (h1 : x ≠ 18446744073709551615) : ssarewrite_isARM64bitcon.j0 3 (x : Int) false = some (pat x) := by
  simp only [ssarewrite_isARM64bitcon.j0]
  rw [if_neg (by decide)]
  simp only [c32 x hx, c16 x hx, c8 x hx, c4 x hx, s32 x hx, s16 x hx, s8 x hx]
  have key : ∀ P : Prop, (Tell x ↔ P) → (pat x = true ↔ P) := fun P h => (pat_iff x hx h0 h1).trans h
  have or_eq : ∀ y : Nat, (pat x = true ↔ (Pat.Seq y ∨ Pat.Seq (18446744073709551615 - y))) → some (seqB y || seqB (18446744073709551615 - y)) = some (pat x) := by
    intro y h
    congr 1
    rw [Bool.eq_iff_iff, Bool.or_eq_true, seqB_iff, seqB_iff, h]
  by_cases q32 : per 32 4294967297 x
  · rw [if_pos q32]
    by_cases q16 : per 16 281479271743489 x
    · rw [if_pos q16]
      by_cases q8 : per 8 72340172838076673 x
      · rw [if_pos q8]
        by_cases q4 : per 4 1229782938247303441 x
        · rw [if_pos q4]
          have := key True (by unfold Tell; rw [if_pos q32, if_pos q16, if_pos q8, if_pos q4])
          rw [this.2 trivial]
        · rw [if_neg q4, two_f _ (sext_lt 8 _ (by decide) (by decide) (Nat.mod_lt _ (by decide)))]
          exact or_eq _ (key _ (by unfold Tell; rw [if_pos q32, if_pos q16, if_pos q8, if_neg q4]))
      · rw [if_neg q8, two_f _ (sext_lt 16 _ (by decide) (by decide) (Nat.mod_lt _ (by decide)))]
        exact or_eq _ (key _ (by unfold Tell; rw [if_pos q32, if_pos q16, if_neg q8]))
    · rw [if_neg q16, two_f _ (sext_lt 32 _ (by decide) (by decide) (Nat.mod_lt _ (by decide)))]
      exact or_eq _ (key _ (by unfold Tell; rw [if_pos q32, if_neg q16]))
  · rw [if_neg q32, two_f _ hx]
    exact or_eq _ (key _ (by unfold Tell; rw [if_neg q32]))
theorem pat_0 : pat 0 = false := by decide +kernel
theorem pat_1 : pat 18446744073709551615 = false := by decide +kernel
theorem bitcon_3 (x : Nat) (hx : x < 18446744073709551616) : ssarewrite_isARM64bitcon.f 3 (x : Int) = some (pat x) := by
  by_cases h1 : x = 18446744073709551615
  · subst h1; rw [pat_1]; decide +kernel
  · by_cases h0 : x = 0
    · subst h0; rw [pat_0]; decide +kernel
    · unfold ssarewrite_isARM64bitcon.f
      rw [if_neg (by omega), show ((x : Int) == 0) = false by simp; omega]
      exact told x hx h0 h1
theorem bitcon_f (x k : Nat) (hx : x < 18446744073709551616) (hk : 3 ≤ k) : impl_IsBitcon.f k (x : Int) = some (pat x) := by
  obtain ⟨d, rfl⟩ : ∃ d, k = 3 + d := ⟨k - 3, by omega⟩
  have : ∀ d, ssarewrite_isARM64bitcon.f (3 + d) (x : Int) = some (pat x) := by
    intro d
    induction d with
    | zero => exact bitcon_3 x hx
    | succ d ih => exact ssarewrite_isARM64bitcon.mono _ _ _ ih
  unfold impl_IsBitcon.f ssarewrite_ZZIsARM64bitcon.f
  rw [this]
  rfl
/-- What repeating adds from a place on, in so many rounds. -/
def reps (b r : Nat) : Nat → Nat → Nat
  | 0, _ => 0
  | d + 1, i => r * 2 ^ i + reps b r d (i + b)
theorem low_f (x b : Nat) (hb : b ≤ 64) (hx : x < 18446744073709551616) : spec_Low.f (x : Int) (b : Int) = some ((x % 2 ^ b : Nat) : Int) := by
  by_cases h : b = 64
  · subst h
    unfold spec_Low.f
    rw [if_pos (by decide), Nat.mod_eq_of_lt hx]
  · exact lowN x b (by omega)
theorem rep_loop (x b : Nat) (hb1 : 1 ≤ b) (hb : b ≤ 64) (hx : x < 18446744073709551616) : ∀ d k i out : Nat, i + d * b = 64 → d < k → out < 2 ^ i →
    spec_Repeat.l0 k (x : Int) (b : Int) (out : Int) (i : Int) = some ((out + reps b (x % 2 ^ b) d i : Nat) : Int) := by
  intro d
  induction d with
  | zero =>
    intro k i out hi hk ho
    obtain ⟨k, rfl⟩ : ∃ m, k = m + 1 := ⟨k - 1, by omega⟩
    simp only [spec_Repeat.l0]
    rw [if_neg (by omega)]
    simp [reps]
  | succ d ih =>
    intro k i out hi hk ho
    obtain ⟨k, rfl⟩ : ∃ m, k = m + 1 := ⟨k - 1, by omega⟩
    have hib : i + b ≤ 64 := by rw [Nat.add_mul, Nat.one_mul] at hi; omega
    have hr : x % 2 ^ b < 2 ^ b := Nat.mod_lt _ (two_pos b)
    have hm : x % 2 ^ b * 2 ^ i < 2 ^ (i + b) := by rw [Nat.add_comm i b, Nat.pow_add]; exact (Nat.mul_lt_mul_right (two_pos i)).2 hr
    have h64 : 2 ^ (i + b) ≤ 18446744073709551616 := pow_le (b := 64) hib
    have hi64 : 2 ^ i ≤ 18446744073709551616 := pow_le (b := 64) (by omega)
    simp only [spec_Repeat.l0]
    rw [if_pos (by omega), low_f x b hb hx]
    simp only [Option.bind_some]
    rw [if_pos (by omega), shlN .u64 rfl _ i (by show i ≤ 64; omega)]
    have e1 : x % 2 ^ b * 2 ^ i % 2 ^ IntKind.u64.bits = x % 2 ^ b * 2 ^ i := Nat.mod_eq_of_lt (Nat.lt_of_lt_of_le hm h64)
    have e2 : IntKind.u64.wrap ((i : Int) + (b : Int)) = ((i + b : Nat) : Int) := wrap_lt .u64 rfl (i + b) (by show i + b < 2 ^ 64; omega)
    have e3 : out ||| x % 2 ^ b * 2 ^ i = out + x % 2 ^ b * 2 ^ i := by
      rw [Nat.or_comm, Nat.mul_comm, ← Nat.two_pow_add_eq_or_of_lt ho, Nat.mul_comm, Nat.add_comm]
    rw [e1, or64N out _ (by omega) (by omega), e2, e3, ih k (i + b) _ (by rw [Nat.add_mul, Nat.one_mul] at hi; omega) (by omega), reps, Nat.add_assoc]
    have : out + x % 2 ^ b * 2 ^ i < 2 ^ i + x % 2 ^ b * 2 ^ i := by omega
    have h2 : (x % 2 ^ b + 1) * 2 ^ i ≤ 2 ^ b * 2 ^ i := Nat.mul_le_mul_right _ hr
    rw [← Nat.pow_add, Nat.add_comm b i, Nat.add_mul, Nat.one_mul] at h2
    omega
theorem reps_mul (b r : Nat) (d : Nat) : ∀ i, reps b r d i = r * reps b 1 d i := by
  induction d with
  | zero => intro i; simp [reps]
  | succ d ih => intro i; rw [reps, reps, ih, Nat.mul_add, Nat.one_mul]
theorem rep_f (x b d m k : Nat) (hb1 : 1 ≤ b) (hb : b ≤ 64) (hx : x < 18446744073709551616) (hd : d * b = 64) (hm : reps b 1 d 0 = m) (hk : d < k) : spec_Repeat.f k (x : Int) (b : Int) = some ((x % 2 ^ b * m : Nat) : Int) := by
  have := rep_loop x b hb1 hb hx d k 0 0 (by omega) hk (by simp)
  unfold spec_Repeat.f
  rw [reps_mul, hm, Nat.zero_add] at this
  exact this
/-- The bit below a place, going round. -/
def under (b x i : Nat) : Nat := if i = 0 then x / 2 ^ (b - 1) % 2 else x / 2 ^ (i - 1) % 2
theorem under_succ (b x i : Nat) : under b x (i + 1) = x / 2 ^ i % 2 := by simp [under]
theorem st_loop (x b : Nat) (hb1 : 1 ≤ b) (hb : b ≤ 64) (hx : x < 18446744073709551616) : ∀ d k i n : Nat, i + d = b → d < k → n ≤ i →
    spec_IsPattern.l1 k (x : Int) (b : Int) (n : Int) (b : Int) (i : Int) = if n + ups d (under b x i) (x / 2 ^ i) = 1 then some true else spec_IsPattern.l0 (k - d - 1) (x : Int) (IntKind.u64.wrap ((b : Int) * 2)) := by
  intro d
  induction d with
  | zero =>
    intro k i n hi hk hn
    obtain ⟨k, rfl⟩ : ∃ m, k = m + 1 := ⟨k - 1, by omega⟩
    simp only [spec_IsPattern.l1]
    rw [if_neg (by omega)]
    simp only [ups, Nat.add_zero, Nat.sub_zero, Nat.add_sub_cancel]
    by_cases h : n = 1
    · rw [if_pos h, if_pos (by omega)]
    · rw [if_neg h, if_neg (by omega)]
  | succ d ih =>
    intro k i n hi hk hn
    obtain ⟨k, rfl⟩ : ∃ m, k = m + 1 := ⟨k - 1, by omega⟩
    have e2 : wrap64 ((n : Int) + 1) = ((n + 1 : Nat) : Int) := by unfold wrap64; omega
    have e3 : IntKind.u64.wrap ((i : Int) + 1) = ((i + 1 : Nat) : Int) := wrap_lt .u64 rfl (i + 1) (by show i + 1 < 2 ^ 64; omega)
    have e4 : x / 2 ^ i / 2 = x / 2 ^ (i + 1) := by rw [Nat.div_div_eq_div_mul, ← Nat.pow_succ]
    have h0 := ih k (i + 1) n (by omega) (by omega) (by omega)
    have h1 := ih k (i + 1) (n + 1) (by omega) (by omega) (by omega)
    rw [under_succ] at h0 h1
    have ek : k + 1 - (d + 1) - 1 = k - d - 1 := by omega
    have e5 : IntKind.u64.wrap (IntKind.u64.wrap ((i : Int) + (b : Int)) - 1) = ((i + b - 1 : Nat) : Int) := by
      rw [show (i : Int) + (b : Int) = ((i + b : Nat) : Int) by omega, wrap_lt .u64 rfl (i + b) (by show i + b < 2 ^ 64; omega), show ((i + b : Nat) : Int) - 1 = ((i + b - 1 : Nat) : Int) by omega]
      exact wrap_lt .u64 rfl _ (by show i + b - 1 < 2 ^ 64; omega)
    have e6 : spec_bit.f (x : Int) (Int.tmod (IntKind.u64.wrap (IntKind.u64.wrap ((i : Int) + (b : Int)) - 1)) (b : Int)) = some (under b x i : Int) := by
      rw [e5, Int.tmod_eq_emod_of_nonneg (Int.natCast_nonneg _), show ((i + b - 1 : Nat) : Int) % (b : Int) = (((i + b - 1) % b : Nat) : Int) by push_cast; rfl]
      by_cases hi0 : i = 0
      · subst hi0
        rw [Nat.zero_add, Nat.mod_eq_of_lt (by omega), bit_f x (b - 1) (by omega)]
        simp [under]
      · rw [show i + b - 1 = (i - 1) + b by omega, Nat.add_mod_right, Nat.mod_eq_of_lt (by omega), bit_f x (i - 1) (by omega)]
        simp [under, hi0]
    simp only [spec_IsPattern.l1]
    rw [if_pos (by omega), bit_f x i (by omega), ups, e4, ek]
    simp only [Option.bind_some]
    by_cases hbit : x / 2 ^ i % 2 = 1
    · rw [if_pos (by rw [hbit]; rfl), if_neg (by omega), e6]
      simp only [Option.bind_some]
      by_cases hp : under b x i = 0
      · rw [if_pos (by rw [hp]; rfl), e2, e3, h1, show (if x / 2 ^ i % 2 = 1 ∧ under b x i = 0 then (1 : Nat) else 0) = 1 from if_pos ⟨hbit, hp⟩, Nat.add_assoc]
      · rw [if_neg (by omega), e3, h0, show (if x / 2 ^ i % 2 = 1 ∧ under b x i = 0 then (1 : Nat) else 0) = 0 from if_neg (fun h => hp h.2), Nat.zero_add]
    · rw [if_neg (by omega), e3, h0, show (if x / 2 ^ i % 2 = 1 ∧ under b x i = 0 then (1 : Nat) else 0) = 0 from if_neg (fun h => hbit h.1), Nat.zero_add]
theorem step_f (x b m d k : Nat) (hb1 : 1 ≤ b) (hb : b ≤ 64) (hx : x < 18446744073709551616) (hd : d * b = 64) (hm : reps b 1 d 0 = m) (hk : 66 < k) :
    spec_IsPattern.l0 k (x : Int) (b : Int) = if per b m x then (if st b x = 1 then some true else spec_IsPattern.l0 (k - b - 2) (x : Int) (IntKind.u64.wrap ((b : Int) * 2))) else spec_IsPattern.l0 (k - 1) (x : Int) (IntKind.u64.wrap ((b : Int) * 2)) := by
  obtain ⟨k, rfl⟩ : ∃ m, k = m + 1 := ⟨k - 1, by omega⟩
  have hdk : d ≤ 64 := by
    have : d * 1 ≤ d * b := Nat.mul_le_mul_left _ hb1
    omega
  simp only [spec_IsPattern.l0]
  rw [if_pos (by omega), rep_f x b d m k hb1 hb hx hd hm (by omega)]
  simp only [Option.bind_some, castEq]
  by_cases h : x % 2 ^ b * m = x
  · have hp : per b m x := h.symm
    rw [if_pos h, if_pos hp]
    have := st_loop x b hb1 hb hx b k 0 0 (by omega) (by omega) (by omega)
    rw [show ((0 : Nat) : Int) = 0 from rfl] at this
    have e : 0 + ups b (under b x 0) (x / 2 ^ 0) = st b x := by simp [under, st]
    rw [this, e, show k + 1 - b - 2 = k - b - 1 by omega]
  · have hp : ¬ per b m x := fun e => h e.symm
    rw [if_neg h, if_neg hp]
    rfl
theorem dbl (b : Nat) (hb : b ≤ 64) : IntKind.u64.wrap ((b : Int) * 2) = ((2 * b : Nat) : Int) := by
  rw [show (b : Int) * 2 = ((2 * b : Nat) : Int) by omega]
  exact wrap_lt .u64 rfl _ (by show 2 * b < 2 ^ 64; omega)
theorem pattern_f (x : Nat) (hx : x < 18446744073709551616) (k : Nat) (hk : 1000 < k) : spec_IsPattern.f k (x : Int) = some (pat x) := by
  have last : ∀ k, 0 < k → spec_IsPattern.l0 k (x : Int) ((128 : Nat) : Int) = some false := by
    intro k hk
    obtain ⟨k, rfl⟩ : ∃ m, k = m + 1 := ⟨k - 1, by omega⟩
    simp only [spec_IsPattern.l0]
    rw [if_neg (by decide)]
  have p64 : per 64 1 x := by unfold per; rw [Nat.mul_one, Nat.mod_eq_of_lt hx]
  have f64 : ∀ k, 66 < k → spec_IsPattern.l0 k (x : Int) ((64 : Nat) : Int) = some (st 64 x == 1) := by
    intro k hk
    rw [step_f x 64 1 1 k (by decide) (by decide) hx (by decide) (by decide +kernel) hk, if_pos p64, dbl 64 (by decide)]
    by_cases h : st 64 x = 1
    · simp [h]
    · rw [if_neg h, last _ (by omega)]; simp [h]
  have gen : ∀ (b m d : Nat) (rest : Bool), 1 ≤ b → b ≤ 32 → d * b = 64 → reps b 1 d 0 = m → ∀ lim, (∀ k, lim < k → spec_IsPattern.l0 k (x : Int) ((2 * b : Nat) : Int) = some rest) →
      ∀ k, lim + 66 < k → spec_IsPattern.l0 k (x : Int) (b : Int) = some ((decide (per b m x) && st b x == 1) || rest) := by
    intro b m d rest h1 h2 h3 h4 lim h5 k hk
    rw [step_f x b m d k h1 (by omega) hx h3 h4 (by omega), dbl b (by omega)]
    by_cases hp : per b m x
    · rw [if_pos hp]
      by_cases hs : st b x = 1
      · simp [hp, hs]
      · rw [if_neg hs, h5 _ (by omega)]; simp [hs]
    · rw [if_neg hp, h5 _ (by omega)]; simp [hp]
  have f32 := gen 32 4294967297 2 _ (by decide) (by decide) (by decide) (by decide +kernel) 66 f64
  have f16 := gen 16 281479271743489 4 _ (by decide) (by decide) (by decide) (by decide +kernel) 132 f32
  have f8 := gen 8 72340172838076673 8 _ (by decide) (by decide) (by decide) (by decide +kernel) 198 f16
  have f4 := gen 4 1229782938247303441 16 _ (by decide) (by decide) (by decide) (by decide +kernel) 264 f8
  have f2 := gen 2 6148914691236517205 32 _ (by decide) (by decide) (by decide) (by decide +kernel) 330 f4
  have := f2 k (by omega)
  unfold spec_IsPattern.f pat
  simp only [Bool.or_assoc]
  exact this
theorem main : laws_FnBitconIs.Pure := by
  intro a ha
  have ha := wf_u64 ha
  obtain ⟨x, rfl⟩ := Int.eq_ofNat_of_zero_le ha.1
  have hx : x < 18446744073709551616 := by omega
  refine ⟨1001, ?_⟩
  have h6 : impl_IsBitcon.f 1001 6 = some true := by
    have := bitcon_f 6 1001 (by decide) (by decide)
    rw [show pat 6 = true by decide +kernel] at this
    exact this
  unfold laws_FnBitconIs.f
  rw [bitcon_f x 1001 hx (by decide), pattern_f x hx 1001 (by decide), h6]
  simp

end CFnBitconIs
theorem FnBitconIs : laws_FnBitconIs.Pure := CFnBitconIs.main
end Go.Proofs.Ytcihkjjejckicaa.Pure
