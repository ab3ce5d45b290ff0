/- The low 32 bits of a word are turned to the left by 0 to 31 places: for all words and turns. No condition. -/
import Derived.Test.YtdofpblgcmjgfaaPFnRotateLeft32x1
import Derived.Test.YtdofpblgcmjgfaaAt
import Derived.Test.YtdofpblgcmjgfaaBr
import Derived.Test.YtdofpblgcmjgfaaSh
set_option linter.unusedVariables false
namespace Go.Proofs.Ytdofpblgcmjgfaa.Pure
open Go.RowKit Go.Proofs.Ytdofpblgcmjgfaa.PFnRotateLeft32 Go.Proofs.YtdofpblgcmjgfaaW.PrintWords Go.Proofs.YtdofpblgcmjgfaaW.PrintLast Go.Proofs.YtdofpblgcmjgfaaW.PrintMore
open Br
theorem rl_at (a n : Int) (h0 : 0 < n) (h1 : n ≤ 4611686018427387904) : ∃ r : Nat, (r : Int) < n ∧ laws_rwAt.f a n = some (r : Int) := by
  obtain ⟨r, hr, e⟩ := at_any a n h0 h1
  refine ⟨r, hr, ?_⟩
  unfold laws_rwAt.f
  rw [e, if_neg (by omega)]
/-- Numbers: the low 32 bits, turned. -/
def rot (x r : Nat) : Nat := (x * 2 ^ r % 4294967296) ||| (x / 2 ^ (32 - r))
theorem rl_impl (x r : Nat) (hx : x < 4294967296) (hr : r < 32) : bits_RotateLeft32.f (x : Int) (r : Int) = some (rot x r : Int) := by
  unfold bits_RotateLeft32.f
  have e1 : Go.bits .and .u64 (IntKind.u64.wrap (r : Int)) 31 = (r : Int) := by
    have : ∀ r : Nat, r < 32 → Go.bits .and .u64 (IntKind.u64.wrap (r : Int)) 31 = (r : Int) := by decide +kernel
    exact this r hr
  have e2 : IntKind.u64.wrap (32 - (r : Int)) = ((32 - r : Nat) : Int) := by
    rw [wu64, BitVec.toNat_ofInt]; omega
  rw [e1, if_pos (by omega), e2, if_pos (by omega)]
  have e3 : shl .u32 (x : Int) (r : Int) = ((x * 2 ^ r % 4294967296 : Nat) : Int) := shlN .u32 rfl x r (by show r ≤ 32; omega)
  have e4 : shr .u32 (x : Int) ((32 - r : Nat) : Int) = ((x / 2 ^ (32 - r) : Nat) : Int) := shrN .u32 x (32 - r) (by show 32 - r ≤ 32; omega)
  rw [e3, e4]
  have h1 : x * 2 ^ r % 4294967296 < 2 ^ 32 := Nat.mod_lt _ (by decide)
  have h2 : x / 2 ^ (32 - r) < 2 ^ 32 := Nat.lt_of_le_of_lt (Nat.div_le_self _ _) hx
  rw [(bits_nat .u32 32 (by decide) (fun n h0 h1 => by rw [IntKind.wrap_u32]; omega) _ _ h1 h2).2]
  rfl
theorem low32 (x : Nat) (hx : x < 18446744073709551616) : spec_Low.f (x : Int) 32 = some ((x % 4294967296 : Nat) : Int) := lowN x 32 (by decide)
theorem rl_spec (x r : Nat) (hx : x < 18446744073709551616) (hr : r < 32) : ∃ y : Nat, y % 4294967296 = rot (x % 4294967296) r ∧ spec_Turn.f (x : Int) 32 (IntKind.u64.wrap (r : Int)) = some (y : Int) := by
  have e0 : IntKind.u64.wrap (r : Int) = (r : Int) := by rw [wu64, BitVec.toNat_ofInt]; omega
  have e1 : Int.tmod (r : Int) 32 = (r : Int) := by rw [Int.tmod_eq_emod_of_nonneg (by omega)]; omega
  have e2 : IntKind.u64.wrap (32 - (r : Int)) = ((32 - r : Nat) : Int) := by
    rw [wu64, BitVec.toNat_ofInt]; omega
  unfold spec_Turn.f
  rw [if_neg (by decide), low32 x hx]
  simp only [Option.bind_some]
  rw [e0, e1, if_pos (by omega), e2, if_pos (by omega)]
  generalize hz : x % 4294967296 = z
  have hz' : z < 4294967296 := by omega
  have hp : 2 ^ r ≤ 2 ^ 31 := Nat.pow_le_pow_right (by decide) (by omega)
  have hzr : z * 2 ^ r < 18446744073709551616 := by
    have : z * 2 ^ r ≤ z * 2 ^ 31 := Nat.mul_le_mul_left _ hp
    omega
  have e3 : shl .u64 (z : Int) (r : Int) = ((z * 2 ^ r : Nat) : Int) := by
    have := shlN .u64 rfl z r (by show r ≤ 64; omega)
    rwa [Nat.mod_eq_of_lt (show z * 2 ^ r < 2 ^ IntKind.u64.bits from hzr)] at this
  have e4 : shr .u64 (z : Int) ((32 - r : Nat) : Int) = ((z / 2 ^ (32 - r) : Nat) : Int) := shrN .u64 z (32 - r) (by show 32 - r ≤ 64; omega)
  rw [e3, e4]
  have h2 : z / 2 ^ (32 - r) < 2 ^ 64 := Nat.lt_of_le_of_lt (Nat.div_le_self _ _) (by omega)
  rw [(bits_nat .u64 64 (by decide) (fun n h0 h1 => by rw [wu64, BitVec.toNat_ofInt]; omega) _ _ (by simpa using hzr) h2).2, low32 _ (by simpa using Nat.or_lt_two_pow (n := 64) (by simpa using hzr) h2)]
  refine ⟨_, ?_, rfl⟩
  rw [Nat.mod_mod]
  unfold rot
  have := Nat.or_mod_two_pow (a := z * 2 ^ r) (b := z / 2 ^ (32 - r)) (n := 32)
  simp only [Nat.reducePow] at this
  rw [this, Nat.mod_eq_of_lt (a := z / 2 ^ (32 - r)) (Nat.lt_of_le_of_lt (Nat.div_le_self _ _) hz')]
theorem FnRotateLeft32 : laws_FnRotateLeft32.Pure := by
  intro a b ha _
  have ha := wf_i64 ha
  obtain ⟨r, hr, e⟩ := rl_at b 32 (by decide) (by decide)
  unfold laws_FnRotateLeft32.f
  rw [e]
  simp only [Option.bind_some]
  have h1 : impl_RotateLeft32.f a (r : Int) = some (rot (a % 4294967296).toNat r : Int) := by
    unfold impl_RotateLeft32.f ssarewrite_ZZRotateLeft32.f ssarewrite_rotateLeft32.f
    rw [show a % 4294967296 = ((a % 4294967296).toNat : Int) by omega, rl_impl _ r (by omega) (by omega)]
    have hlt : rot (a % 4294967296).toNat r < 2 ^ 32 := Nat.or_lt_two_pow (Nat.mod_lt _ (by decide)) (Nat.lt_of_le_of_lt (Nat.div_le_self _ _) (by omega))
    simp only [Option.bind_some, Int.toNat_natCast]
    congr 1
    unfold wrap64
    omega
  obtain ⟨y, hy, h2⟩ := rl_spec (a % 18446744073709551616).toNat r (by omega) (by omega)
  rw [show (((a % 18446744073709551616).toNat : Nat) : Int) = IntKind.u64.wrap a by rw [wu64, BitVec.toNat_ofInt]; rfl] at h2
  have h3 : impl_RotateLeft32.f 1 1 = some 2 := by decide +kernel
  rw [h1, h2, h3]
  simp only [Option.bind_some]
  rw [if_pos, beq_self_eq_true]
  have hm : (a % 18446744073709551616).toNat % 4294967296 = (a % 4294967296).toNat := by omega
  rw [hm] at hy
  have hlt : rot (a % 4294967296).toNat r < 2 ^ 32 := Nat.or_lt_two_pow (Nat.mod_lt _ (by decide)) (Nat.lt_of_le_of_lt (Nat.div_le_self _ _) (by omega))
  omega

end Go.Proofs.Ytdofpblgcmjgfaa.Pure
