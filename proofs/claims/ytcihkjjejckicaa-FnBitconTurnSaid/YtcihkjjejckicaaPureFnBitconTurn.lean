/- If a word is told to be an immediate of a logical instruction, so are its complement and what it is turned to, and the other way round: for all words and turns. No condition. -/
import Derived.Test.YtcihkjjejckicaaPFnBitconTurnx1
import Derived.Test.YtcihkjjejckicaaAt
import Derived.Test.YtcihkjjejckicaaBr
import Derived.Test.YtcihkjjejckicaaSh
import Derived.Test.YtcihkjjejckicaaUb
import Derived.Test.YtcihkjjejckicaaPat
set_option linter.unusedVariables false
set_option linter.unusedSimpArgs false
namespace Go.Proofs.Ytcihkjjejckicaa.Pure
open Go.RowKit Go.Proofs.Ytcihkjjejckicaa.PFnBitconTurn Go.Proofs.YtcihkjjejckicaaW.PrintWords Go.Proofs.YtcihkjjejckicaaW.PrintLast Go.Proofs.YtcihkjjejckicaaW.PrintMore
open Br
namespace CFnBitconTurn
open Ub Pat
theorem rot_e (x b : Nat) (hb : b ≤ 64) (hx : x < 18446744073709551616) : (x / 2 ^ b) ||| (x * 2 ^ (64 - b) % 18446744073709551616) = x / 2 ^ b + x % 2 ^ b * 2 ^ (64 - b) := by
  have h64 : (18446744073709551616 : Nat) = 2 ^ b * 2 ^ (64 - b) := by rw [← Nat.pow_add, show b + (64 - b) = 64 by omega]
  have h1 : x / 2 ^ b < 2 ^ (64 - b) := by rw [Nat.div_lt_iff_lt_mul (two_pos b), Nat.mul_comm, ← h64]; exact hx
  rw [h64, Nat.mul_mod_mul_right, Nat.or_comm, Nat.mul_comm (x % 2 ^ b), ← Nat.two_pow_add_eq_or_of_lt h1]
  omega
theorem rot_lt (x b : Nat) (hb : b ≤ 64) (hx : x < 18446744073709551616) : x / 2 ^ b < 18446744073709551616 ∧ x * 2 ^ (64 - b) % 18446744073709551616 < 18446744073709551616 :=
  ⟨Nat.lt_of_le_of_lt (Nat.div_le_self _ _) hx, Nat.mod_lt _ (by decide)⟩
theorem or64N (a b : Nat) (ha : a < 18446744073709551616) (hb : b < 18446744073709551616) : Go.bits .or .u64 (a : Int) (b : Int) = ((a ||| b : Nat) : Int) := orN .u64 rfl a b ha hb
theorem u64N (n : Nat) : IntKind.u64.wrap (n : Int) = ((n % 18446744073709551616 : Nat) : Int) := wrapN .u64 rfl n
theorem castEq (a b : Nat) : ((a : Int) = (b : Int)) = (a = b) := by simp only [eq_iff_iff]; omega
theorem c32 (x : Nat) (hx : x < 18446744073709551616) : ((x : Int) = Go.bits .or .u64 ((x : Int) / 4294967296) (IntKind.u64.wrap ((x : Int) * 4294967296))) = per 32 4294967297 x := by
  have h := rot_e x 32 (by decide) hx
  have l := rot_lt x 32 (by decide) hx
  simp only [Nat.reducePow, Nat.reduceSub] at h l
  rw [show (x : Int) / 4294967296 = ((x / 4294967296 : Nat) : Int) by omega, show (x : Int) * 4294967296 = ((x * 4294967296 : Nat) : Int) by omega, u64N, or64N _ _ l.1 l.2, h, castEq]
  show _ = (x = x % 4294967296 * 4294967297)
  rw [eq_iff_iff]
  have := Nat.div_add_mod x 4294967296
  generalize x / 4294967296 = q at *
  generalize x % 4294967296 = r at *
  omega
theorem c16 (x : Nat) (hx : x < 18446744073709551616) : ((x : Int) = Go.bits .or .u64 ((x : Int) / 65536) (IntKind.u64.wrap ((x : Int) * 281474976710656))) = per 16 281479271743489 x := by
  have h := rot_e x 16 (by decide) hx
  have l := rot_lt x 16 (by decide) hx
  simp only [Nat.reducePow, Nat.reduceSub] at h l
  rw [show (x : Int) / 65536 = ((x / 65536 : Nat) : Int) by omega, show (x : Int) * 281474976710656 = ((x * 281474976710656 : Nat) : Int) by omega, u64N, or64N _ _ l.1 l.2, h, castEq]
  show _ = (x = x % 65536 * 281479271743489)
  rw [eq_iff_iff]
  have := Nat.div_add_mod x 65536
  generalize x / 65536 = q at *
  generalize x % 65536 = r at *
  omega
theorem c8 (x : Nat) (hx : x < 18446744073709551616) : ((x : Int) = Go.bits .or .u64 ((x : Int) / 256) (IntKind.u64.wrap ((x : Int) * 72057594037927936))) = per 8 72340172838076673 x := by
  have h := rot_e x 8 (by decide) hx
  have l := rot_lt x 8 (by decide) hx
  simp only [Nat.reducePow, Nat.reduceSub] at h l
  rw [show (x : Int) / 256 = ((x / 256 : Nat) : Int) by omega, show (x : Int) * 72057594037927936 = ((x * 72057594037927936 : Nat) : Int) by omega, u64N, or64N _ _ l.1 l.2, h, castEq]
  show _ = (x = x % 256 * 72340172838076673)
  rw [eq_iff_iff]
  have := Nat.div_add_mod x 256
  generalize x / 256 = q at *
  generalize x % 256 = r at *
  omega
theorem c4 (x : Nat) (hx : x < 18446744073709551616) : ((x : Int) = Go.bits .or .u64 ((x : Int) / 16) (IntKind.u64.wrap ((x : Int) * 1152921504606846976))) = per 4 1229782938247303441 x := by
  have h := rot_e x 4 (by decide) hx
  have l := rot_lt x 4 (by decide) hx
  simp only [Nat.reducePow, Nat.reduceSub] at h l
  rw [show (x : Int) / 16 = ((x / 16 : Nat) : Int) by omega, show (x : Int) * 1152921504606846976 = ((x * 1152921504606846976 : Nat) : Int) by omega, u64N, or64N _ _ l.1 l.2, h, castEq]
  show _ = (x = x % 16 * 1229782938247303441)
  rw [eq_iff_iff]
  have := Nat.div_add_mod x 16
  generalize x / 16 = q at *
  generalize x % 16 = r at *
  omega
/-- Whether a number is told to be a sequence of ones. -/
noncomputable def seqB (x : Nat) : Bool := @decide (Pat.Seq x) (Classical.propDecidable _)
theorem seqB_iff (x : Nat) : seqB x = true ↔ Pat.Seq x := @decide_eq_true_iff (Pat.Seq x) (Classical.propDecidable _)
theorem seq_f (x : Nat) (hx : x < 18446744073709551616) : ssarewrite_sequenceOfOnes.f (x : Int) = some (seqB x) := by
  have hv : (x : Int) = ((BitVec.ofNat 64 x).toNat : Int) := by rw [BitVec.toNat_ofNat, Nat.mod_eq_of_lt hx]
  unfold ssarewrite_sequenceOfOnes.f
  generalize hy : BitVec.ofNat 64 x = y at hv
  have hn : y.toNat = x := by rw [← hy, BitVec.toNat_ofNat, Nat.mod_eq_of_lt hx]
  rw [hv]
  simp only [wu64, osub, oadd, oneg, oN, and64]
  rw [show BitVec.ofInt 64 1 = 1#64 from by decide]
  congr 1
  rw [Bool.eq_iff_iff, beq_iff_eq, seqB_iff, show (0 : Int) = ((0#64).toNat : Int) from rfl, eqN]
  by_cases h0 : y = 0#64
  · subst h0
    have : x = 0 := by rw [← hn]; rfl
    rw [this]
    exact ⟨fun _ => .inl rfl, fun _ => by decide⟩
  · have h1 := seq_iff y h0
    rw [show (1 : BitVec 64) = 1#64 from rfl] at h1
    rw [h1]
    unfold Run Pat.Seq
    rw [hn]
    constructor
    · exact .inr
    · rintro (h | h)
      · exact absurd (BitVec.eq_of_toNat_eq (by rw [hn, h]; rfl)) h0
      · exact h
theorem not_f (x : Nat) (hx : x < 18446744073709551616) : Go.bits .xor .u64 18446744073709551615 (x : Int) = ((18446744073709551615 - x : Nat) : Int) := by
  have hv : (x : Int) = ((BitVec.ofNat 64 x).toNat : Int) := by rw [BitVec.toNat_ofNat, Nat.mod_eq_of_lt hx]
  rw [hv, show (18446744073709551615 : Int) = ((BitVec.allOnes 64).toNat : Int) from by decide, xor64]
  congr 1
  rw [BitVec.allOnes_xor, BitVec.toNat_not, BitVec.toNat_ofNat, Nat.mod_eq_of_lt hx]
theorem two_f (x : Nat) (hx : x < 18446744073709551616) : ((ssarewrite_sequenceOfOnes.f (x : Int)).bind fun t => (if t = true then (some true) else ((ssarewrite_sequenceOfOnes.f (Go.bits .xor .u64 18446744073709551615 (x : Int))).bind fun t2 => (some t2)))) = some (seqB x || seqB (18446744073709551615 - x)) := by
  rw [not_f x hx, seq_f x hx, seq_f _ (by omega)]
  simp only [Option.bind_some]
  cases seqB x <;> simp
theorem s32 (x : Nat) (hx : x < 18446744073709551616) : IntKind.u64.wrap (wrap64 (wrap32 (x : Int))) = (sext 32 (x % 4294967296) : Int) := by
  rw [u64mod]; unfold wrap64 wrap32 sext; simp only [Nat.reducePow, Nat.reduceSub]; split <;> omega
theorem s16 (x : Nat) (hx : x < 18446744073709551616) : IntKind.u64.wrap (wrap64 (IntKind.i16.wrap (x : Int))) = (sext 16 (x % 65536) : Int) := by
  rw [u64mod, k_i16]; unfold wrap64 sext; simp only [Nat.reducePow, Nat.reduceSub]; split <;> omega
theorem s8 (x : Nat) (hx : x < 18446744073709551616) : IntKind.u64.wrap (wrap64 (IntKind.i8.wrap (x : Int))) = (sext 8 (x % 256) : Int) := by
  rw [u64mod, k_i8]; unfold wrap64 sext; simp only [Nat.reducePow, Nat.reduceSub]; split <;> omega
theorem sext_lt (b y : Nat) (hb : 1 ≤ b) (hb2 : b ≤ 64) (hy : y < 2 ^ b) : sext b y < 18446744073709551616 := by
  have : 2 ^ b ≤ 2 ^ 64 := pow_le hb2
  have h : (18446744073709551616 : Nat) = 2 ^ 64 := rfl
  have : 2 ^ (b - 1) ≤ 2 ^ b := pow_le (by omega)
  unfold sext; split <;> omega
theorem told (x : Nat) (hx : x < 18446744073709551616) (h0 : x ≠ 0) (h1 : x ≠ 18446744073709551615) : ssarewrite_isARM64bitcon.j0 3 (x : Int) false = some (pat x) := by
  simp only [ssarewrite_isARM64bitcon.j0]
  rw [if_neg (by decide)]
  simp only [c32 x hx, c16 x hx, c8 x hx, c4 x hx, s32 x hx, s16 x hx, s8 x hx]
  have key : ∀ P : Prop, (Tell x ↔ P) → (pat x = true ↔ P) := fun P h => (pat_iff x hx h0 h1).trans h
  have or_eq : ∀ y : Nat, (pat x = true ↔ (Pat.Seq y ∨ Pat.Seq (18446744073709551615 - y))) → some (seqB y || seqB (18446744073709551615 - y)) = some (pat x) := by
    intro y h
    congr 1
    rw [Bool.eq_iff_iff, Bool.or_eq_true, seqB_iff, seqB_iff, h]
  by_cases q32 : per 32 4294967297 x
  · rw [if_pos q32]
    by_cases q16 : per 16 281479271743489 x
    · rw [if_pos q16]
      by_cases q8 : per 8 72340172838076673 x
      · rw [if_pos q8]
        by_cases q4 : per 4 1229782938247303441 x
        · rw [if_pos q4]
          have := key True (by unfold Tell; rw [if_pos q32, if_pos q16, if_pos q8, if_pos q4])
          rw [this.2 trivial]
        · rw [if_neg q4, two_f _ (sext_lt 8 _ (by decide) (by decide) (Nat.mod_lt _ (by decide)))]
          exact or_eq _ (key _ (by unfold Tell; rw [if_pos q32, if_pos q16, if_pos q8, if_neg q4]))
      · rw [if_neg q8, two_f _ (sext_lt 16 _ (by decide) (by decide) (Nat.mod_lt _ (by decide)))]
        exact or_eq _ (key _ (by unfold Tell; rw [if_pos q32, if_pos q16, if_neg q8]))
    · rw [if_neg q16, two_f _ (sext_lt 32 _ (by decide) (by decide) (Nat.mod_lt _ (by decide)))]
      exact or_eq _ (key _ (by unfold Tell; rw [if_pos q32, if_neg q16]))
  · rw [if_neg q32, two_f _ hx]
    exact or_eq _ (key _ (by unfold Tell; rw [if_neg q32]))
theorem pat_0 : pat 0 = false := by decide +kernel
theorem pat_1 : pat 18446744073709551615 = false := by decide +kernel
theorem bitcon_3 (x : Nat) (hx : x < 18446744073709551616) : ssarewrite_isARM64bitcon.f 3 (x : Int) = some (pat x) := by
  by_cases h1 : x = 18446744073709551615
  · subst h1; rw [pat_1]; decide +kernel
  · by_cases h0 : x = 0
    · subst h0; rw [pat_0]; decide +kernel
    · unfold ssarewrite_isARM64bitcon.f
      rw [if_neg (by omega), show ((x : Int) == 0) = false by simp; omega]
      exact told x hx h0 h1
theorem bitcon_f (x k : Nat) (hx : x < 18446744073709551616) (hk : 3 ≤ k) : impl_IsBitcon.f k (x : Int) = some (pat x) := by
  obtain ⟨d, rfl⟩ : ∃ d, k = 3 + d := ⟨k - 3, by omega⟩
  have : ∀ d, ssarewrite_isARM64bitcon.f (3 + d) (x : Int) = some (pat x) := by
    intro d
    induction d with
    | zero => exact bitcon_3 x hx
    | succ d ih => exact ssarewrite_isARM64bitcon.mono _ _ _ ih
  unfold impl_IsBitcon.f ssarewrite_ZZIsARM64bitcon.f
  rw [this]
  rfl
theorem at_f (a n : Int) (h0 : 0 < n) (h1 : n ≤ 4611686018427387904) : ∃ r : Nat, (r : Int) < n ∧ laws_rwAt.f a n = some (r : Int) := by
  obtain ⟨r, hr, e⟩ := at_any a n h0 h1
  refine ⟨r, hr, ?_⟩
  unfold laws_rwAt.f
  rw [e, if_neg (by omega)]
/-! The complement. -/
theorem per_not (b m c x : Nat) (hm : (2 ^ b - 1) * m = 18446744073709551615) (hc : m = 1 + 2 ^ b * c) (h : per b m x) : per b m (18446744073709551615 - x) := by
  have hr : x % 2 ^ b < 2 ^ b := Nat.mod_lt _ (two_pos b)
  unfold per at *
  generalize x % 2 ^ b = r at *
  have e : 18446744073709551615 - x = (2 ^ b - 1 - r) * m := by rw [Nat.sub_mul, hm, ← h]
  have e2 : (2 ^ b - 1 - r) * m % 2 ^ b = 2 ^ b - 1 - r := by
    rw [hc, Nat.mul_add, Nat.mul_one, Nat.mul_left_comm, Nat.add_mul_mod_self_left, Nat.mod_eq_of_lt (by omega)]
  rw [e, e2]
theorem sext_not (b y : Nat) (hb : 1 ≤ b) (hb2 : b ≤ 64) (hy : y < 2 ^ b) : sext b (2 ^ b - 1 - y) = 18446744073709551615 - sext b y := by
  have hbb : 2 ^ b = 2 * 2 ^ (b - 1) := by
    obtain ⟨k, rfl⟩ : ∃ k, b = k + 1 := ⟨b - 1, by omega⟩
    rw [Nat.add_sub_cancel, Nat.pow_succ, Nat.mul_comm]
  have h1 : 2 ^ b ≤ 2 ^ 64 := pow_le hb2
  have h2 : (18446744073709551616 : Nat) = 2 ^ 64 := rfl
  unfold sext
  split <;> split <;> omega
theorem tell_not (x : Nat) (hx : x < 18446744073709551616) (h : Tell x) : Tell (18446744073709551615 - x) := by
  have back : ∀ {b m c : Nat}, (2 ^ b - 1) * m = 18446744073709551615 → m = 1 + 2 ^ b * c → ¬ per b m x → ¬ per b m (18446744073709551615 - x) := by
    intro b m c h1 h2 h3 h4
    have := per_not b m c _ h1 h2 h4
    rw [show 18446744073709551615 - (18446744073709551615 - x) = x by omega] at this
    exact h3 this
  have c32 := per_not 32 4294967297 1 x (by decide) (by decide)
  have c16 := per_not 16 281479271743489 4295032833 x (by decide) (by decide)
  have c8 := per_not 8 72340172838076673 282578800148737 x (by decide) (by decide)
  have c4 := per_not 4 1229782938247303441 76861433640456465 x (by decide) (by decide)
  have d32 := back (b := 32) (m := 4294967297) (c := 1) (by decide) (by decide)
  have d16 := back (b := 16) (m := 281479271743489) (c := 4295032833) (by decide) (by decide)
  have d8 := back (b := 8) (m := 72340172838076673) (c := 282578800148737) (by decide) (by decide)
  have d4 := back (b := 4) (m := 1229782938247303441) (c := 76861433640456465) (by decide) (by decide)
  have m8 : (18446744073709551615 - x) % 256 = 2 ^ 8 - 1 - x % 256 := by simp only [Nat.reducePow]; omega
  have m16 : (18446744073709551615 - x) % 65536 = 2 ^ 16 - 1 - x % 65536 := by simp only [Nat.reducePow]; omega
  have m32 : (18446744073709551615 - x) % 4294967296 = 2 ^ 32 - 1 - x % 4294967296 := by simp only [Nat.reducePow]; omega
  have s8 := sext_not 8 (x % 256) (by decide) (by decide) (Nat.mod_lt _ (by decide))
  have s16 := sext_not 16 (x % 65536) (by decide) (by decide) (Nat.mod_lt _ (by decide))
  have s32 := sext_not 32 (x % 4294967296) (by decide) (by decide) (Nat.mod_lt _ (by decide))
  have l8 := sext_lt 8 (x % 256) (by decide) (by decide) (Nat.mod_lt _ (by decide))
  have l16 := sext_lt 16 (x % 65536) (by decide) (by decide) (Nat.mod_lt _ (by decide))
  have l32 := sext_lt 32 (x % 4294967296) (by decide) (by decide) (Nat.mod_lt _ (by decide))
  have inv : ∀ n, n < 18446744073709551616 → 18446744073709551615 - (18446744073709551615 - n) = n := fun n h => by omega
  unfold Tell at h ⊢
  rw [m8, m16, m32, s8, s16, s32, inv _ l8, inv _ l16, inv _ l32, inv x hx]
  by_cases q32 : per 32 4294967297 x
  · rw [if_pos q32] at h
    rw [if_pos (c32 q32)]
    by_cases q16 : per 16 281479271743489 x
    · rw [if_pos q16] at h
      rw [if_pos (c16 q16)]
      by_cases q8 : per 8 72340172838076673 x
      · rw [if_pos q8] at h
        rw [if_pos (c8 q8)]
        by_cases q4 : per 4 1229782938247303441 x
        · rw [if_pos (c4 q4)]; trivial
        · rw [if_neg q4] at h
          rw [if_neg (d4 q4)]
          exact h.symm
      · rw [if_neg q8] at h
        rw [if_neg (d8 q8)]
        exact h.symm
    · rw [if_neg q16] at h
      rw [if_neg (d16 q16)]
      exact h.symm
  · rw [if_neg q32] at h
    rw [if_neg (d32 q32)]
    exact h.symm
theorem pat_not (x : Nat) (hx : x < 18446744073709551616) : pat (18446744073709551615 - x) = pat x := by
  by_cases h0 : x = 0
  · subst h0; rw [pat_0]; exact pat_1
  by_cases h1 : x = 18446744073709551615
  · subst h1; rw [pat_1]; exact pat_0
  rw [Bool.eq_iff_iff, pat_iff x hx h0 h1, pat_iff _ (by omega) (by omega) (by omega)]
  constructor
  · intro h
    have := tell_not _ (by omega) h
    rwa [show 18446744073709551615 - (18446744073709551615 - x) = x by omega] at this
  · exact tell_not x hx
/-! Turning by one place. -/
def rot1 (x : Nat) : Nat := 2 * x % 18446744073709551616 + x / 9223372036854775808
def turn (b r : Nat) : Nat := if r < 2 ^ (b - 1) then 2 * r else 2 * r - 2 ^ b + 1
theorem rot1_lt (x : Nat) (hx : x < 18446744073709551616) : rot1 x < 18446744073709551616 := by unfold rot1; omega
theorem rot1_per (b m c x : Nat) (hb : 1 ≤ b) (hx : x < 18446744073709551616) (hm : (2 ^ b - 1) * m = 18446744073709551615) (hc : m = 1 + 2 ^ b * c) (h : per b m x) :
    rot1 x % 2 ^ b = turn b (x % 2 ^ b) ∧ per b m (rot1 x) := by
  have hr : x % 2 ^ b < 2 ^ b := Nat.mod_lt _ (two_pos b)
  have hbb : 2 ^ b = 2 * 2 ^ (b - 1) := by
    obtain ⟨k, rfl⟩ : ∃ k, b = k + 1 := ⟨b - 1, by omega⟩
    rw [Nat.add_sub_cancel, Nat.pow_succ, Nat.mul_comm]
  have key : ∀ s, s < 2 ^ b → s * m % 2 ^ b = s := by
    intro s hs
    rw [hc, Nat.mul_add, Nat.mul_one, Nat.mul_left_comm, Nat.add_mul_mod_self_left, Nat.mod_eq_of_lt hs]
  have e : rot1 x = turn b (x % 2 ^ b) * m ∧ turn b (x % 2 ^ b) < 2 ^ b := by
    unfold per at h
    unfold turn rot1
    generalize x % 2 ^ b = r at *
    have hm1 : 1 ≤ m := by omega
    by_cases hs : r < 2 ^ (b - 1)
    · rw [if_pos hs]
      refine ⟨?_, by omega⟩
      have h1 : (2 * r + 1) * m ≤ (2 ^ b - 1) * m := Nat.mul_le_mul_right _ (by omega)
      rw [Nat.add_mul, Nat.one_mul, hm, Nat.mul_assoc, ← h] at h1
      rw [Nat.mul_assoc, ← h]
      omega
    · rw [if_neg hs]
      refine ⟨?_, by omega⟩
      have h1 : 2 ^ b * m ≤ (2 * r) * m := Nat.mul_le_mul_right _ (by omega)
      have h2 : 2 ^ b * m = 18446744073709551615 + m := by
        have : 2 ^ b * m = (2 ^ b - 1) * m + 1 * m := by rw [← Nat.add_mul]; congr 1; have := two_pos b; omega
        rw [this, hm, Nat.one_mul]
      rw [h2, Nat.mul_assoc, ← h] at h1
      have h3 : (2 * r - 2 ^ b + 1) * m + 2 ^ b * m = 2 * r * m + m := by
        rw [← Nat.add_mul, show 2 * r - 2 ^ b + 1 + 2 ^ b = 2 * r + 1 by omega, Nat.add_mul, Nat.one_mul]
      rw [h2, Nat.mul_assoc 2 r, ← h] at h3
      omega
  have e2 := key _ e.2
  rw [← e.1] at e2
  exact ⟨e2, by unfold per; rw [e2]; exact e.1⟩
theorem turn_st (b r : Nat) (hb : 2 ≤ b) (hr : r < 2 ^ b) : st b (turn b r) = st b r := by
  obtain ⟨i, rfl⟩ : ∃ i, b = i + 1 + 1 := ⟨b - 2, by omega⟩
  have hbb : 2 ^ (i + 1 + 1) = 2 * 2 ^ (i + 1) := by rw [Nat.pow_succ, Nat.mul_comm]
  have hb2 : 2 ^ (i + 1) = 2 * 2 ^ i := by rw [Nat.pow_succ, Nat.mul_comm]
  have hp := two_pos i
  have e1 : turn (i + 1 + 1) r % 2 = r / 2 ^ (i + 1) ∧ turn (i + 1 + 1) r / 2 = r % 2 ^ (i + 1) ∧ r / 2 ^ (i + 1) < 2 := by
    unfold turn
    rw [show i + 1 + 1 - 1 = i + 1 by omega]
    by_cases hs : r < 2 ^ (i + 1)
    · rw [if_pos hs, Nat.div_eq_of_lt hs, Nat.mod_eq_of_lt hs]; omega
    · have h1 : r / 2 ^ (i + 1) = 1 := by rw [Nat.div_eq_iff (by omega)]; omega
      have h2 : r % 2 ^ (i + 1) = r - 2 ^ (i + 1) := by
        have := Nat.div_add_mod r (2 ^ (i + 1)); rw [h1] at this; omega
      rw [if_neg hs, h1, h2]; omega
  have e2 : turn (i + 1 + 1) r / 2 ^ (i + 1) % 2 = r / 2 ^ i % 2 := by
    rw [hb2, ← Nat.div_div_eq_div_mul, e1.2.1]
    have := Nat.mod_mul_right_div_self r (2 ^ i) 2
    rw [← Nat.pow_succ] at this
    rw [this, Nat.mod_mod]
  unfold st
  rw [show i + 1 + 1 - 1 = i + 1 by omega, e2, show ups (i + 1 + 1) (r / 2 ^ i % 2) (turn (i + 1 + 1) r) = _ from ups.eq_2 .., e1.1, e1.2.1, ups_mod, show i + 1 + 1 = i + 1 + 1 from rfl, ups_add i 1, Nat.mod_eq_of_lt e1.2.2]
  simp only [ups]
  rw [Nat.mod_eq_of_lt e1.2.2]
  omega
theorem rot1_st (b m c x : Nat) (hb : 2 ≤ b) (hx : x < 18446744073709551616) (hm : (2 ^ b - 1) * m = 18446744073709551615) (hc : m = 1 + 2 ^ b * c) (h : per b m x) :
    per b m (rot1 x) ∧ st b (rot1 x) = st b x := by
  obtain ⟨e1, e2⟩ := rot1_per b m c x (by omega) hx hm hc h
  refine ⟨e2, ?_⟩
  rw [← st_mod b (rot1 x) (by omega), e1, turn_st b _ hb (Nat.mod_lt _ (two_pos b)), st_mod b x (by omega)]
theorem pat_rot1 (x : Nat) (hx : x < 18446744073709551616) (h : pat x = true) : pat (rot1 x) = true := by
  have r2 := rot1_st 2 6148914691236517205 1537228672809129301 x (by decide) hx (by decide) (by decide)
  have r4 := rot1_st 4 1229782938247303441 76861433640456465 x (by decide) hx (by decide) (by decide)
  have r8 := rot1_st 8 72340172838076673 282578800148737 x (by decide) hx (by decide) (by decide)
  have r16 := rot1_st 16 281479271743489 4295032833 x (by decide) hx (by decide) (by decide)
  have r32 := rot1_st 32 4294967297 1 x (by decide) hx (by decide) (by decide)
  have r64 := rot1_st 64 1 0 x (by decide) hx (by decide) (by decide) (by unfold per; rw [Nat.mul_one]; exact (Nat.mod_eq_of_lt hx).symm)
  unfold pat at h ⊢
  simp only [Bool.or_eq_true, Bool.and_eq_true, decide_eq_true_eq, beq_iff_eq] at h ⊢
  rcases h with ((((h | h) | h) | h) | h) | h
  · exact .inl (.inl (.inl (.inl (.inl ⟨(r2 h.1).1, (r2 h.1).2.trans h.2⟩))))
  · exact .inl (.inl (.inl (.inl (.inr ⟨(r4 h.1).1, (r4 h.1).2.trans h.2⟩))))
  · exact .inl (.inl (.inl (.inr ⟨(r8 h.1).1, (r8 h.1).2.trans h.2⟩)))
  · exact .inl (.inl (.inr ⟨(r16 h.1).1, (r16 h.1).2.trans h.2⟩))
  · exact .inl (.inr ⟨(r32 h.1).1, (r32 h.1).2.trans h.2⟩)
  · exact .inr (r64.2.trans h)
/-- By r places to the left. -/
def rotl (x r : Nat) : Nat := x % 2 ^ (64 - r) * 2 ^ r + x / 2 ^ (64 - r)
theorem rotl_lt (x r : Nat) (hr : r ≤ 64) (hx : x < 18446744073709551616) : rotl x r < 18446744073709551616 := by
  have h64 : (18446744073709551616 : Nat) = 2 ^ (64 - r) * 2 ^ r := by rw [← Nat.pow_add, show 64 - r + r = 64 by omega]
  have h1 : x / 2 ^ (64 - r) < 2 ^ r := by rw [Nat.div_lt_iff_lt_mul (two_pos _), Nat.mul_comm, ← h64]; exact hx
  have h2 : (x % 2 ^ (64 - r) + 1) * 2 ^ r ≤ 2 ^ (64 - r) * 2 ^ r := Nat.mul_le_mul_right _ (Nat.mod_lt _ (two_pos _))
  rw [Nat.add_mul, Nat.one_mul, ← h64] at h2
  unfold rotl
  omega
theorem rotl_succ (x r : Nat) (hr : r < 64) (hx : x < 18446744073709551616) : rotl x (r + 1) = rot1 (rotl x r) := by
  obtain ⟨s, hs⟩ : ∃ s, 64 - r = s + 1 := ⟨63 - r, by omega⟩
  have hs2 : 64 - (r + 1) = s := by omega
  have h63 : 2 ^ s * 2 ^ r = 9223372036854775808 := by rw [← Nat.pow_add, show s + r = 63 by omega]
  have hsp : 2 ^ (s + 1) = 2 * 2 ^ s := by rw [Nat.pow_succ, Nat.mul_comm]
  have hr1 : 2 ^ (r + 1) = 2 * 2 ^ r := by rw [Nat.pow_succ, Nat.mul_comm]
  have hl : x % 2 ^ s < 2 ^ s := Nat.mod_lt _ (two_pos s)
  have hh : x / 2 ^ (s + 1) < 2 ^ r := by
    rw [Nat.div_lt_iff_lt_mul (two_pos _), Nat.mul_comm, hsp, Nat.mul_assoc, h63]; exact hx
  have e1 : x / 2 ^ s = 2 * (x / 2 ^ (s + 1)) + x / 2 ^ s % 2 := by
    rw [Nat.pow_succ, ← Nat.div_div_eq_div_mul]; omega
  have e2 : x % 2 ^ (s + 1) = x % 2 ^ s + 2 ^ s * (x / 2 ^ s % 2) := by rw [Nat.pow_succ, Nat.mod_mul]
  have ht : x / 2 ^ s % 2 < 2 := Nat.mod_lt _ (by decide)
  unfold rotl rot1
  rw [hs, hs2, e2, e1]
  generalize x / 2 ^ s % 2 = t at *
  generalize x / 2 ^ (s + 1) = h at *
  generalize x % 2 ^ s = l at *
  rw [Nat.add_mul, Nat.mul_right_comm, h63, hr1, Nat.mul_left_comm]
  have h2 : (l + 1) * 2 ^ r ≤ 2 ^ s * 2 ^ r := Nat.mul_le_mul_right _ hl
  rw [Nat.add_mul, Nat.one_mul, h63] at h2
  generalize l * 2 ^ r = a at *
  have : t = 0 ∨ t = 1 := by omega
  rcases this with rfl | rfl <;> omega
/-- Turned so many times. -/
def it : Nat → Nat → Nat
  | 0, x => x
  | n + 1, x => rot1 (it n x)
theorem it_lt (n x : Nat) (hx : x < 18446744073709551616) : it n x < 18446744073709551616 := by
  induction n with
  | zero => exact hx
  | succ n ih => exact rot1_lt _ ih
theorem it_add (m n x : Nat) : it (m + n) x = it m (it n x) := by
  induction m with
  | zero => rw [Nat.zero_add]; rfl
  | succ m ih => rw [Nat.succ_add, it, ih, it]
theorem it_rotl (x r : Nat) (hr : r ≤ 64) (hx : x < 18446744073709551616) : it r x = rotl x r := by
  induction r with
  | zero => unfold it rotl; rw [Nat.sub_zero, Nat.pow_zero, Nat.mul_one, Nat.mod_eq_of_lt (show x < 2 ^ 64 from hx), Nat.div_eq_of_lt (show x < 2 ^ 64 from hx), Nat.add_zero]
  | succ r ih => rw [it, ih (by omega), rotl_succ x r (by omega) hx]
theorem pat_it (n x : Nat) (hx : x < 18446744073709551616) (h : pat x = true) : pat (it n x) = true := by
  induction n with
  | zero => exact h
  | succ n ih => exact pat_rot1 _ (it_lt n x hx) ih
theorem pat_rotl (x r : Nat) (hr : r ≤ 64) (hx : x < 18446744073709551616) : pat (rotl x r) = pat x := by
  rw [← it_rotl x r hr hx, Bool.eq_iff_iff]
  constructor
  · intro h
    have h1 := pat_it (64 - r) _ (it_lt r x hx) h
    rw [← it_add, show 64 - r + r = 64 by omega, it_rotl x 64 (by decide) hx] at h1
    have : rotl x 64 = x := by unfold rotl; simp [Nat.mod_one]
    rwa [this] at h1
  · exact pat_it r x hx
theorem turn_f (x r : Nat) (hr : r < 64) (hx : x < 18446744073709551616) : spec_Turn.f (x : Int) 64 (IntKind.u64.wrap (r : Int)) = some (rotl x r : Int) := by
  have l64 : ∀ y : Int, spec_Low.f y 64 = some y := by
    intro y; unfold spec_Low.f; rw [if_pos (by decide)]
  have e0 : IntKind.u64.wrap (r : Int) = (r : Int) := wrap_lt .u64 rfl r (by show r < 2 ^ 64; omega)
  have e1 : Int.tmod (r : Int) 64 = (r : Int) := by rw [Int.tmod_eq_emod_of_nonneg (by omega)]; omega
  have e2 : IntKind.u64.wrap (64 - (r : Int)) = ((64 - r : Nat) : Int) := by
    rw [show (64 : Int) - (r : Int) = ((64 - r : Nat) : Int) by omega]
    exact wrap_lt .u64 rfl _ (by show 64 - r < 2 ^ 64; omega)
  unfold spec_Turn.f
  rw [if_neg (by decide), l64]
  simp only [Option.bind_some]
  rw [e0, e1, if_pos (by omega), e2, if_pos (by omega), shlN .u64 rfl x r (by show r ≤ 64; omega), shrN .u64 x (64 - r) (by show 64 - r ≤ 64; omega)]
  have h := rot_e x (64 - r) (by omega) hx
  have l := rot_lt x (64 - r) (by omega) hx
  rw [show 64 - (64 - r) = r by omega] at h l
  have e3 : Go.bits .or .u64 ((x * 2 ^ r % 2 ^ IntKind.u64.bits : Nat) : Int) ((x / 2 ^ (64 - r) : Nat) : Int) = ((rotl x r : Nat) : Int) := by
    have := or64N _ _ l.2 l.1
    rw [Nat.or_comm, h] at this
    unfold rotl
    rw [Nat.add_comm]
    exact this
  rw [e3, l64]
  rfl
theorem main : laws_FnBitconTurn.Pure := by
  intro a b ha _
  have ha := wf_u64 ha
  obtain ⟨x, rfl⟩ := Int.eq_ofNat_of_zero_le ha.1
  have hx : x < 18446744073709551616 := by omega
  obtain ⟨r, hr, er⟩ := at_f b 64 (by decide) (by decide)
  refine ⟨3, ?_⟩
  have h6 : impl_IsBitcon.f 3 6 = some true := by
    have := bitcon_f 6 3 (by decide) (by decide)
    rw [show pat 6 = true by decide +kernel] at this
    exact this
  have h1 := bitcon_f x 3 hx (by decide)
  have h2 := bitcon_f (18446744073709551615 - x) 3 (by omega) (by decide)
  rw [pat_not x hx] at h2
  have h3 := bitcon_f (rotl x r) 3 (rotl_lt x r (by omega) hx) (by decide)
  rw [pat_rotl x r (by omega) hx] at h3
  unfold laws_FnBitconTurn.f
  rw [h1, not_f x hx, h2, er, h6]
  simp only [Option.bind_some]
  rw [turn_f x r (by omega) hx]
  simp only [Option.bind_some]
  rw [h3]
  simp

end CFnBitconTurn
theorem FnBitconTurn : laws_FnBitconTurn.Pure := CFnBitconTurn.main
end Go.Proofs.Ytcihkjjejckicaa.Pure
