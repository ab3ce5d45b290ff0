/- Shifts, bits and wraps of unsigned numbers as those of natural ones. No condition beyond their ranges. -/
import Derived.Test.YtlcaejikcelgoaaDoorWMore
import Derived.Laws.BitsLemmas
set_option linter.unusedVariables false
namespace Go.Proofs.YtlcaejikcelgoaaDoor.Br
open Go Go.RowKit Go.Proofs.YtlcaejikcelgoaaDoorW.PrintWords Go.Proofs.YtlcaejikcelgoaaDoorW.PrintMore
theorem wrapN (k : IntKind) (hk : k.signed = false) (n : Nat) : k.wrap (n : Int) = ((n % 2 ^ k.bits : Nat) : Int) := by
  unfold IntKind.wrap
  simp only [hk, Bool.false_and, Bool.false_eq_true, if_false]
  push_cast
  rfl
theorem wrap_lt (k : IntKind) (hk : k.signed = false) (n : Nat) (h : n < 2 ^ k.bits) : k.wrap (n : Int) = (n : Int) := by
  rw [wrapN k hk, Nat.mod_eq_of_lt h]
theorem wrap_any (k : IntKind) (hk : k.signed = false) (n : Int) : k.wrap n = n % 2 ^ k.bits := by
  unfold IntKind.wrap
  simp only [hk, Bool.false_and, Bool.false_eq_true, if_false]
theorem shlN (k : IntKind) (hk : k.signed = false) (x r : Nat) (hr : r ≤ k.bits) : shl k (x : Int) (r : Int) = ((x * 2 ^ r % 2 ^ k.bits : Nat) : Int) := by
  unfold shl
  rw [Int.toNat_natCast, Nat.min_eq_left hr, show (x : Int) * 2 ^ r = ((x * 2 ^ r : Nat) : Int) by push_cast; rfl, wrapN k hk]
theorem shrN (k : IntKind) (x r : Nat) (hr : r ≤ k.bits) : shr k (x : Int) (r : Int) = ((x / 2 ^ r : Nat) : Int) := by
  unfold shr
  rw [Int.toNat_natCast, Nat.min_eq_left hr]
  push_cast
  rfl
theorem andN (k : IntKind) (hk : k.signed = false) (a b : Nat) (ha : a < 2 ^ k.bits) (hb : b < 2 ^ k.bits) : Go.bits .and k (a : Int) (b : Int) = ((a &&& b : Nat) : Int) :=
  (bits_nat k k.bits (Nat.le_refl _) (fun n h0 h1 => by
    obtain ⟨m, rfl⟩ := Int.eq_ofNat_of_zero_le h0
    exact wrap_lt k hk m (by exact_mod_cast h1)) a b ha hb).1
theorem orN (k : IntKind) (hk : k.signed = false) (a b : Nat) (ha : a < 2 ^ k.bits) (hb : b < 2 ^ k.bits) : Go.bits .or k (a : Int) (b : Int) = ((a ||| b : Nat) : Int) :=
  (bits_nat k k.bits (Nat.le_refl _) (fun n h0 h1 => by
    obtain ⟨m, rfl⟩ := Int.eq_ofNat_of_zero_le h0
    exact wrap_lt k hk m (by exact_mod_cast h1)) a b ha hb).2
/-- The low bits of a word, as the reference takes them. -/
theorem lowN (x b : Nat) (hb : b < 64) : (if ((b : Nat) : Int) ≥ 64 then (some (x : Int)) else (if 0 ≤ ((b : Nat) : Int) then (if (shl .u64 1 ((b : Nat) : Int)) = 0 then (none) else (some (Int.tmod (x : Int) (shl .u64 1 ((b : Nat) : Int))))) else (none))) = some ((x % 2 ^ b : Nat) : Int) := by
  have e : shl .u64 1 ((b : Nat) : Int) = ((2 ^ b : Nat) : Int) := by
    have := shlN .u64 rfl 1 b (by show b ≤ 64; omega)
    rw [Nat.one_mul, Nat.mod_eq_of_lt (Nat.pow_lt_pow_right (by decide) (by show b < 64; exact hb))] at this
    exact this
  have hp := Nat.two_pow_pos b
  rw [if_neg (by omega), if_pos (by omega), e, if_neg (by omega), Int.tmod_eq_emod_of_nonneg (by omega)]
  push_cast
  rfl
end Go.Proofs.YtlcaejikcelgoaaDoor.Br
