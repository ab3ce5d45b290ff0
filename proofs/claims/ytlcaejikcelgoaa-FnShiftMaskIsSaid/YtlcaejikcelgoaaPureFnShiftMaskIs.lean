/- A word is told to be a mask of a shift exactly if it is a run of ones from the lowest bit on, and its length is the number of these: for all words. No condition. -/
import Derived.Test.YtlcaejikcelgoaaPFnShiftMaskIsx1
import Derived.Test.YtlcaejikcelgoaaAt
import Derived.Test.YtlcaejikcelgoaaBr
import Derived.Test.YtlcaejikcelgoaaSh
import Derived.Test.YtlcaejikcelgoaaUb
set_option linter.unusedVariables false
set_option linter.unusedSimpArgs false
namespace Go.Proofs.Ytlcaejikcelgoaa.Pure
open Go.RowKit Go.Proofs.Ytlcaejikcelgoaa.PFnShiftMaskIs Go.Proofs.YtlcaejikcelgoaaW.PrintWords Go.Proofs.YtlcaejikcelgoaaW.PrintLast Go.Proofs.YtlcaejikcelgoaaW.PrintMore
open Br
namespace CFnShiftMaskIs
theorem bit_f (x i : Nat) (hi : i ≤ 64) : spec_bit.f (x : Int) (i : Int) = some ((x / 2 ^ i % 2 : Nat) : Int) := by
  unfold spec_bit.f
  rw [if_pos (by omega), shrN .u64 x i (by show i ≤ 64; omega), Int.tmod_eq_emod_of_nonneg (Int.natCast_nonneg _)]
  push_cast; rfl
/-- How many of the low bits are ones. -/
def ones : Nat → Nat → Nat
  | 0, _ => 0
  | k + 1, x => x % 2 + ones k (x / 2)
theorem ones_loop (x b : Nat) (hx : x < 18446744073709551616) (hb : b ≤ 64) : ∀ d k i n : Nat, i + d = b → d < k → n ≤ i →
    spec_Ones.l0 k (x : Int) (n : Int) (b : Int) (i : Int) = some ((n + ones d (x / 2 ^ i) : Nat) : Int) := by
  intro d
  induction d with
  | zero =>
    intro k i n hi hk hn
    obtain ⟨k, rfl⟩ : ∃ m, k = m + 1 := ⟨k - 1, by omega⟩
    simp only [spec_Ones.l0]
    rw [if_neg (by omega)]
    simp [ones]
  | succ d ih =>
    intro k i n hi hk hn
    obtain ⟨k, rfl⟩ : ∃ m, k = m + 1 := ⟨k - 1, by omega⟩
    simp only [spec_Ones.l0]
    rw [if_pos (by omega), bit_f x i (by omega)]
    simp only [Option.bind_some]
    have hm : x / 2 ^ i % 2 < 2 := Nat.mod_lt _ (by decide)
    have e2 : wrap64 ((n : Int) + wrap64 ((x / 2 ^ i % 2 : Nat) : Int)) = ((n + x / 2 ^ i % 2 : Nat) : Int) := by
      generalize x / 2 ^ i % 2 = m at *
      unfold wrap64; omega
    have e3 : IntKind.u64.wrap ((i : Int) + 1) = ((i + 1 : Nat) : Int) := wrap_lt .u64 rfl (i + 1) (by show i + 1 < 2 ^ 64; omega)
    rw [e2, e3, ih k (i + 1) (n + x / 2 ^ i % 2) (by omega) (by omega) (by omega), ones, Nat.div_div_eq_div_mul, ← Nat.pow_succ, Nat.add_assoc]
theorem ones_f (x b : Nat) (hx : x < 18446744073709551616) (hb : b ≤ 64) (k : Nat) (hk : 64 < k) : spec_Ones.f k (x : Int) (b : Int) = some ((ones b x : Nat) : Int) := by
  have := ones_loop x b hx hb b k 0 0 (by omega) (by omega) (by omega)
  simpa [spec_Ones.f] using this
/-- The bit below a place. -/
def below (x i : Nat) : Nat := if i = 0 then 0 else x / 2 ^ (i - 1) % 2
theorem below_succ (x i : Nat) : below x (i + 1) = x / 2 ^ i % 2 := by simp [below]
theorem isrun_loop (x : Nat) (hx : x < 18446744073709551616) : ∀ d k i n : Nat, i + d = 64 → d < k → n ≤ i →
    spec_IsRun.l0 k (x : Int) (n : Int) (i : Int) = some (((n + Ub.ups d (below x i) (x / 2 ^ i) : Nat) : Int) == 1) := by
  intro d
  induction d with
  | zero =>
    intro k i n hi hk hn
    obtain ⟨k, rfl⟩ : ∃ m, k = m + 1 := ⟨k - 1, by omega⟩
    simp only [spec_IsRun.l0]
    rw [if_neg (by omega)]
    simp [Ub.ups]
  | succ d ih =>
    intro k i n hi hk hn
    obtain ⟨k, rfl⟩ : ∃ m, k = m + 1 := ⟨k - 1, by omega⟩
    have e2 : wrap64 ((n : Int) + 1) = ((n + 1 : Nat) : Int) := by unfold wrap64; omega
    have e3 : IntKind.u64.wrap ((i : Int) + 1) = ((i + 1 : Nat) : Int) := wrap_lt .u64 rfl (i + 1) (by show i + 1 < 2 ^ 64; omega)
    have e4 : x / 2 ^ i / 2 = x / 2 ^ (i + 1) := by rw [Nat.div_div_eq_div_mul, ← Nat.pow_succ]
    have h0 := ih k (i + 1) n (by omega) (by omega) (by omega)
    have h1 := ih k (i + 1) (n + 1) (by omega) (by omega) (by omega)
    rw [below_succ] at h0 h1
    simp only [spec_IsRun.l0]
    rw [if_pos (by omega), bit_f x i (by omega), Ub.ups, e4]
    simp only [Option.bind_some]
    by_cases hb : x / 2 ^ i % 2 = 1
    · rw [if_pos (by rw [hb]; rfl)]
      by_cases hi0 : i = 0
      · rw [if_pos (by omega), e2, e3, h1]
        have : below x i = 0 := by simp [below, hi0]
        rw [if_pos ⟨hb, this⟩, Nat.add_assoc]
      · have e5 : IntKind.u64.wrap ((i : Int) - 1) = ((i - 1 : Nat) : Int) := by
          rw [show (i : Int) - 1 = ((i - 1 : Nat) : Int) by omega]
          exact wrap_lt .u64 rfl (i - 1) (by show i - 1 < 2 ^ 64; omega)
        have e6 : below x i = x / 2 ^ (i - 1) % 2 := by simp [below, hi0]
        rw [if_neg (by omega), e5, bit_f x (i - 1) (by omega), ← e6]
        simp only [Option.bind_some]
        by_cases hp : below x i = 0
        · rw [if_pos (by rw [hp]; rfl), e2, e3, h1, if_pos ⟨hb, hp⟩, Nat.add_assoc]
        · rw [if_neg (by omega), e3, h0, if_neg (fun h => hp h.2), Nat.zero_add]
    · rw [if_neg (by omega), e3, h0, if_neg (fun h => hb h.1), Nat.zero_add]
theorem isrun_f (x : Nat) (hx : x < 18446744073709551616) (k : Nat) (hk : 64 < k) : spec_IsRun.f k (x : Int) = some (((Ub.ups 64 0 x : Nat) : Int) == 1) := by
  have := isrun_loop x hx 64 k 0 0 (by omega) (by omega) (by omega)
  simpa [spec_IsRun.f, below] using this
theorem valid_iff (x : BitVec 64) : (x ≠ 0#64 ∧ (x + 1#64) &&& x = 0#64) ↔ ∃ n, 1 ≤ n ∧ n ≤ 64 ∧ x.toNat = 2 ^ n - 1 := by
  have hlt : x.toNat < 18446744073709551616 := x.isLt
  have hz : x = 0#64 ↔ x.toNat = 0 := by rw [← BitVec.toNat_inj]; simp
  by_cases hm : x.toNat = 18446744073709551615
  · constructor
    · intro _; exact ⟨64, by decide, by decide, hm⟩
    · intro _
      refine ⟨fun h => by rw [hz] at h; omega, ?_⟩
      have : x + 1#64 = 0#64 := BitVec.eq_of_toNat_eq (by rw [BitVec.toNat_add, hm]; rfl)
      rw [this]; simp
  · have e : ((x + 1#64) &&& x = 0#64) ↔ (x.toNat + 1) &&& (x.toNat + 1 - 1) = 0 := by
      rw [← BitVec.toNat_inj, BitVec.toNat_and, BitVec.toNat_add, show (1#64).toNat = 1 from rfl, Nat.mod_eq_of_lt (show x.toNat + 1 < 2 ^ 64 by omega)]
      rfl
    rw [e, Nat.and_sub_one_eq_zero_iff_isPowerOfTwo (by omega), ne_eq, hz]
    constructor
    · rintro ⟨h0, n, hn⟩
      refine ⟨n, ?_, ?_, by omega⟩
      · rcases Nat.eq_zero_or_pos n with rfl | h
        · simp at hn; omega
        · exact h
      · have : 2 ^ n ≤ 2 ^ 64 := by omega
        exact (Nat.pow_le_pow_iff_right (by decide)).1 this
    · rintro ⟨n, h1, h2, h3⟩
      have h2 : 2 ≤ 2 ^ n := by calc 2 = 2 ^ 1 := rfl
                                   _ ≤ 2 ^ n := Nat.pow_le_pow_right (by decide) h1
      exact ⟨by omega, n, by omega⟩
theorem run_iff (x : BitVec 64) : ((((Ub.ups 64 0 x.toNat : Nat) : Int) == 1) = true ∧ x.toNat % 2 = 1) ↔ ∃ n, 1 ≤ n ∧ n ≤ 64 ∧ x.toNat = 2 ^ n - 1 := by
  have hm : x.toNat % 2 ^ 64 = x.toNat := Nat.mod_eq_of_lt x.isLt
  rw [beq_iff_eq, show (((Ub.ups 64 0 x.toNat : Nat) : Int) = 1) = (Ub.ups 64 0 x.toNat = 1) from by simp only [eq_iff_iff]; omega, Ub.ups01, hm]
  constructor
  · rintro ⟨⟨t, n, h1, h2, h3⟩, ho⟩
    cases t with
    | zero => exact ⟨n, h1, by omega, by rw [h3]; simp⟩
    | succ t => rw [Ub.shl_succ] at h3; omega
  · rintro ⟨n, h1, h2, h3⟩
    exact ⟨⟨0, n, h1, by omega, by rw [h3]; simp⟩, by rw [h3]; exact Ub.odd_run n h1⟩
theorem len_all : ∀ n, n < 65 → Lib.bitLen (2 ^ n - 1) = ones 64 (2 ^ n - 1) := by decide +kernel
theorem main : laws_FnShiftMaskIs.Pure := by
  intro a ha
  have ha := wf_i64 ha
  obtain ⟨x, rfl⟩ := of_i64 a ha.1 ha.2
  refine ⟨70, ?_⟩
  have hl : x.toNat < 18446744073709551616 := x.isLt
  have eu : IntKind.u64.wrap x.toInt = (x.toNat : Int) := by rw [wu64, oI]
  have h7 : impl_IsValidShiftMask.f 7 = some true := by decide +kernel
  have hv : impl_IsValidShiftMask.f x.toInt = some (decide (x ≠ 0#64 ∧ (x + 1#64) &&& x = 0#64)) := by
    unfold impl_IsValidShiftMask.f ssarewrite_ZZIsPPC64ValidShiftMask.f ssarewrite_isPPC64ValidShiftMask.f
    have e0 : (x.toInt = 0) = (x = 0#64) := by rw [show (0 : Int) = (0#64).toInt from by decide]; exact propext BitVec.toInt_inj
    have e1 : (Go.bits .and .i64 (wrap64 (x.toInt + 1)) x.toInt = 0) = ((x + 1#64) &&& x = 0#64) := by
      rw [w64, oadd, oI, show BitVec.ofInt 64 1 = 1#64 from by decide, iand64, show (0 : Int) = (0#64).toInt from by decide]; exact propext BitVec.toInt_inj
    simp only [e0, e1]
    by_cases h0 : x = 0#64
    · rw [if_pos h0]; simp [h0]
    · rw [if_neg h0]
      by_cases h1 : (x + 1#64) &&& x = 0#64
      · rw [if_pos h1]; simp [h0, h1]
      · rw [if_neg h1]; simp [h1]
  have hs : (Go.bits .and .i64 x.toInt 1 == 1) = decide (x.toNat % 2 = 1) := by
    rw [show (1 : Int) = (1#64).toInt from by decide, iand64, Bool.eq_iff_iff, beq_iff_eq, BitVec.toInt_inj, decide_eq_true_eq, ← BitVec.toNat_inj, BitVec.toNat_and, show (1#64).toNat = 1 from rfl, Nat.and_one_is_mod]
  have hj : ∀ b : Bool, (b = true ↔ ∃ n, 1 ≤ n ∧ n ≤ 64 ∧ x.toNat = 2 ^ n - 1) → laws_FnShiftMaskIs.j0 70 x.toInt b = some true := by
    intro b hb
    have hq : decide (x ≠ 0#64 ∧ (x + 1#64) &&& x = 0#64) = b := by rw [Bool.eq_iff_iff, decide_eq_true_eq, valid_iff, hb]
    simp only [laws_FnShiftMaskIs.j0]
    rw [hv, hq, h7]
    simp only [Option.bind_some, beq_self_eq_true, if_true]
    cases b with
    | false => rfl
    | true =>
      obtain ⟨n, h1, h2, h3⟩ := hb.1 rfl
      have hlen : impl_ShiftMaskLength.f x.toInt = some ((Lib.bitLen x.toNat : Nat) : Int) := by
        unfold impl_ShiftMaskLength.f ssarewrite_ZZGetPPC64ShiftMaskLength.f ssarewrite_getPPC64ShiftMaskLength.f bits_Len64.f
        rw [eu, if_pos (by omega)]
        simp
      have ho := ones_f x.toNat 64 hl (by decide) 69 (by decide)
      rw [show ((64 : Nat) : Int) = 64 from rfl] at ho
      rw [hlen, eu, ho]
      simp only [Option.bind_some, if_true]
      rw [if_pos (by rw [h3, len_all n (by omega)])]
  unfold laws_FnShiftMaskIs.f
  rw [eu, isrun_f x.toNat hl 70 (by decide)]
  simp only [Option.bind_some]
  have hr := run_iff x
  by_cases h : (((Ub.ups 64 0 x.toNat : Nat) : Int) == 1) = true
  · rw [if_pos h, hs]
    refine hj _ ?_
    rw [decide_eq_true_eq, ← hr]
    exact ⟨fun e => ⟨h, e⟩, fun e => e.2⟩
  · rw [if_neg h]
    refine hj _ ?_
    rw [← hr]
    exact ⟨fun e => by simp at e, fun e => absurd e.1 h⟩

end CFnShiftMaskIs
theorem FnShiftMaskIs : laws_FnShiftMaskIs.Pure := CFnShiftMaskIs.main
end Go.Proofs.Ytlcaejikcelgoaa.Pure
