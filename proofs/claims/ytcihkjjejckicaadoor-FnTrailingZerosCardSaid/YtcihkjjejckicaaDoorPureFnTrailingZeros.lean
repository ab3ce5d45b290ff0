/- The trailing zeros of a number, told by the library's tables, are as many as a count from below tells: for all numbers at each width. No condition. -/
import Derived.Test.YtcihkjjejckicaaDoorPFnTrailingZerosx1
import Derived.Test.YtcihkjjejckicaaDoorAt
import Derived.Test.YtcihkjjejckicaaDoorBr
import Derived.Test.YtcihkjjejckicaaDoorSh
import Derived.Test.YtcihkjjejckicaaDoorUb
set_option linter.unusedVariables false
set_option linter.unusedSimpArgs false
namespace Go.Proofs.YtcihkjjejckicaaDoor.Pure
open Go.RowKit Go.Proofs.YtcihkjjejckicaaDoor.PFnTrailingZeros Go.Proofs.YtcihkjjejckicaaDoorW.PrintWords Go.Proofs.YtcihkjjejckicaaDoorW.PrintLast Go.Proofs.YtcihkjjejckicaaDoorW.PrintMore
open Br
namespace CFnTrailingZeros
theorem ctz_step0 (n y : Nat) (hy : y % 2 = 0) (h : y < 2 ^ (n + 1)) : Lib.ctz (n + 1) y = 1 + Lib.ctz n (y / 2) := by
  unfold Lib.ctz
  by_cases h0 : y = 0
  · subst h0; simp; omega
  · rw [if_neg h0, if_neg (show ¬ y / 2 = 0 by omega)]
    conv => lhs; unfold Lib.ctzFrom
    rw [if_neg (by omega)]
theorem ctz_step1 (n y : Nat) (hy : y % 2 = 1) : Lib.ctz (n + 1) y = 0 := by
  unfold Lib.ctz
  rw [if_neg (by omega)]
  unfold Lib.ctzFrom
  rw [if_pos hy]
theorem cut (x i n : Nat) : x / 2 ^ i % 2 ^ (n + 1) / 2 = x / 2 ^ (i + 1) % 2 ^ n := by
  rw [Nat.pow_succ, Nat.mul_comm, Nat.mod_mul_right_div_self, Nat.div_div_eq_div_mul, Nat.pow_succ]
theorem cut2 (x i n : Nat) : x / 2 ^ i % 2 ^ (n + 1) % 2 = x / 2 ^ i % 2 := by
  rw [Nat.pow_succ, Nat.mul_comm, Nat.mod_mul_right_mod]
theorem bitN (x i : Nat) (hi : i ≤ 64) : spec_bit.f (x : Int) (i : Int) = some ((x / 2 ^ i % 2 : Nat) : Int) := by
  unfold spec_bit.f
  rw [if_pos (by omega), shrN .u64 x i hi]
  rfl
theorem trail (x w : Nat) (hw : w ≤ 64) : ∀ (n i k : Nat), i + n = w → n < k → spec_Trailing.l0 k (x : Int) (w : Int) (i : Int) = some (((i + Lib.ctz n (x / 2 ^ i % 2 ^ n) : Nat)) : Int)
  | 0, i, k + 1, h, _ => by
    unfold spec_Trailing.l0
    rw [wrap_lt .u64 rfl i (by simp [IntKind.bits]; omega), if_neg (by omega)]
    rw [show x / 2 ^ i % 2 ^ 0 = 0 by rw [Nat.pow_zero, Nat.mod_one]]
    rfl
  | n + 1, i, k + 1, h, hk => by
    unfold spec_Trailing.l0
    rw [wrap_lt .u64 rfl i (by simp [IntKind.bits]; omega), if_pos (by omega), bitN x i (by omega)]
    simp only [Option.bind_some]
    have hm := Nat.mod_two_eq_zero_or_one (x / 2 ^ i)
    rcases hm with hm | hm
    · rw [hm, if_pos (show ((0 : Nat) : Int) = 0 from rfl)]
      have e : wrap64 ((i : Int) + 1) = ((i + 1 : Nat) : Int) := by unfold wrap64; omega
      rw [e, trail x w hw n (i + 1) k (by omega) (by omega), ctz_step0 n _ (by rw [cut2]; exact hm) (Nat.mod_lt _ (Nat.two_pow_pos _)), cut]
      congr 2; omega
    · rw [hm, if_neg (by decide), ctz_step1 n _ (by rw [cut2]; exact hm)]
      rfl
theorem trail_f (x w : Nat) (hw : w ≤ 64) : spec_Trailing.f 65 (x : Int) (w : Int) = some ((Lib.ctz w (x % 2 ^ w) : Nat) : Int) := by
  unfold spec_Trailing.f
  have h := trail x w hw w 0 65 (by omega) (by omega)
  rw [Nat.pow_zero, Nat.div_one, Nat.zero_add] at h
  exact h
theorem z8 : ∀ n : Fin 256, Lib.trailingZeros8 n.val = Lib.ctz 8 n.val := by decide +kernel
theorem n64 (a : Int) (x : Nat) (h : IntKind.u64.wrap a = (x : Int)) (hx : x < 18446744073709551616) : impl_Ntz64.f a = some ((Lib.ctz 64 x : Nat) : Int) := by
  unfold impl_Ntz64.f ssarewrite_ZZNtz64.f ssarewrite_ntz64.f bits_TrailingZeros64.f
  rw [h, if_pos (by omega)]
  rfl
theorem n32 (a : Int) (x : Nat) (h : a % 4294967296 = (x : Int)) : impl_Ntz32.f a = some ((Lib.ctz 32 x : Nat) : Int) := by
  unfold impl_Ntz32.f ssarewrite_ZZNtz32.f ssarewrite_ntz32.f bits_TrailingZeros32.f
  rw [h, if_pos (by omega)]
  rfl
theorem n16 (a : Int) (x : Nat) (h : IntKind.u16.wrap a = (x : Int)) (hx : x < 65536) : impl_Ntz16.f a = some ((Lib.ctz 16 x : Nat) : Int) := by
  unfold impl_Ntz16.f ssarewrite_ZZNtz16.f ssarewrite_ntz16.f bits_TrailingZeros16.f
  rw [h, if_pos (by omega)]
  rfl
theorem n8 (a : Int) (x : Nat) (h : a % 256 = (x : Int)) : impl_Ntz8.f a = some ((Lib.ctz 8 x : Nat) : Int) := by
  unfold impl_Ntz8.f ssarewrite_ZZNtz8.f ssarewrite_ntz8.f bits_TrailingZeros8.f
  rw [h, if_pos (by omega)]
  rw [← z8 ⟨x, by omega⟩]
  rfl
theorem main : laws_FnTrailingZeros.Pure := by
  intro a ha
  have ha := wf_i64 ha
  obtain ⟨x, hx⟩ : ∃ x : Nat, IntKind.u64.wrap a = (x : Int) := ⟨(a % 18446744073709551616).toNat, by rw [u64mod]; omega⟩
  have hx' := hx
  rw [u64mod] at hx'
  have hlt : x < 18446744073709551616 := by omega
  have p32 : (2 : Nat) ^ 32 = 4294967296 := rfl
  have g32 : wrap32 a % 4294967296 = ((x % 2 ^ 32 : Nat) : Int) := by unfold wrap32; rw [p32]; omega
  have g16 : IntKind.u16.wrap (IntKind.i16.wrap a) = ((x % 2 ^ 16 : Nat) : Int) := by
    rw [wrap_any .u16 rfl, k_i16]; simp only [IntKind.bits]; omega
  have g8 : IntKind.i8.wrap a % 256 = ((x % 2 ^ 8 : Nat) : Int) := by rw [k_i8]; omega
  have m64 : x % 2 ^ 64 = x := Nat.mod_eq_of_lt hlt
  refine ⟨65, ?_⟩
  have t64 := trail_f x 64 (by omega)
  have t32 := trail_f x 32 (by omega)
  have t16 := trail_f x 16 (by omega)
  have t8 := trail_f x 8 (by omega)
  rw [m64] at t64
  have i64 := n64 a x hx hlt
  have i32 := n32 _ _ g32
  have i16 := n16 _ _ g16 (Nat.mod_lt _ (by decide))
  have i8 := n8 _ _ g8
  have i4 : impl_Ntz64.f 4 = some 2 := by decide +kernel
  unfold laws_FnTrailingZeros.f
  rw [hx, show ((64 : Int)) = ((64 : Nat) : Int) from rfl, show ((32 : Int)) = ((32 : Nat) : Int) from rfl, show ((16 : Int)) = ((16 : Nat) : Int) from rfl, show ((8 : Int)) = ((8 : Nat) : Int) from rfl, t64, t32, t16, t8, i64, i32, i16, i8, i4]
  simp

end CFnTrailingZeros
theorem FnTrailingZeros : laws_FnTrailingZeros.Pure := CFnTrailingZeros.main
end Go.Proofs.YtcihkjjejckicaaDoor.Pure
