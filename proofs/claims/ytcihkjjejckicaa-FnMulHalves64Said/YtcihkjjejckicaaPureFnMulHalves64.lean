/- A product of two words is told in its two halves: for all pairs of words. No condition. -/
import Derived.Test.YtcihkjjejckicaaPFnMulHalves64x1
import Derived.Test.YtcihkjjejckicaaAt
import Derived.Test.YtcihkjjejckicaaBr
import Derived.Test.YtcihkjjejckicaaSh
import Derived.Test.YtcihkjjejckicaaUb
set_option linter.unusedVariables false
set_option linter.unusedSimpArgs false
namespace Go.Proofs.Ytcihkjjejckicaa.Pure
open Go.RowKit Go.Proofs.Ytcihkjjejckicaa.PFnMulHalves64 Go.Proofs.YtcihkjjejckicaaW.PrintWords Go.Proofs.YtcihkjjejckicaaW.PrintLast Go.Proofs.YtcihkjjejckicaaW.PrintMore
open Br
namespace CFnMulHalves64
theorem and32_mod (x : Nat) (hx : x < 18446744073709551616) : Go.bits .and .u64 (x : Int) 4294967295 = ((x % 4294967296 : Nat) : Int) := by
  have := andN .u64 rfl x (2 ^ 32 - 1) hx (by decide)
  rw [Nat.and_two_pow_sub_one_eq_mod] at this
  exact this
theorem low32_f (x : Nat) : spec_Low.f (x : Int) 32 = some ((x % 4294967296 : Nat) : Int) := lowN x 32 (by decide)
theorem u64N (n : Nat) : IntKind.u64.wrap (n : Int) = ((n % 18446744073709551616 : Nat) : Int) := wrapN .u64 rfl n
theorem divN (x : Nat) : (x : Int) / 4294967296 = ((x / 4294967296 : Nat) : Int) := by omega
theorem mulN (x y : Nat) : (x : Int) * (y : Int) = ((x * y : Nat) : Int) := (Int.natCast_mul x y).symm
theorem addN (x y : Nat) : (x : Int) + (y : Int) = ((x + y : Nat) : Int) := (Int.natCast_add x y).symm
/-- The middle part, and the high half, as both reckon them. -/
def mid (x y : Nat) : Nat := (x / 4294967296 * (y % 4294967296) % 18446744073709551616 + x % 4294967296 * (y % 4294967296) % 18446744073709551616 / 4294967296) % 18446744073709551616
def high (x y : Nat) : Nat := ((x / 4294967296 * (y / 4294967296) % 18446744073709551616 + mid x y / 4294967296) % 18446744073709551616 + (x % 4294967296 * (y / 4294967296) % 18446744073709551616 + mid x y % 4294967296) % 18446744073709551616 / 4294967296) % 18446744073709551616
theorem mid_lt (x y : Nat) : mid x y < 18446744073709551616 := Nat.mod_lt _ (by decide)
theorem mid_e (x y : Nat) : IntKind.u64.wrap (IntKind.u64.wrap (((x / 4294967296 : Nat) : Int) * ((y % 4294967296 : Nat) : Int)) + IntKind.u64.wrap (((x % 4294967296 : Nat) : Int) * ((y % 4294967296 : Nat) : Int)) / 4294967296) = (mid x y : Int) := by
  rw [mulN, mulN, u64N, u64N, divN, addN, u64N]; unfold mid; with_reducible rfl
theorem mul_f (x y : Nat) (hx : x < 18446744073709551616) (hy : y < 18446744073709551616) : bits_Mul64.f (x : Int) (y : Int) = some ((high x y : Int), ((x * y % 18446744073709551616 : Nat) : Int)) := by
  unfold bits_Mul64.f
  rw [and32_mod x hx, and32_mod y hy, divN x, divN y, mid_e, and32_mod _ (mid_lt x y), mulN (x / 4294967296) (y / 4294967296), u64N, divN (mid x y), addN, u64N, mulN (x % 4294967296) (y / 4294967296), u64N, addN, u64N, divN, addN, u64N, mulN x y, u64N,
    Nat.add_comm (mid x y % 4294967296)]
  unfold high; with_reducible rfl
theorem high_f (x y : Nat) : spec_MulHigh.f (x : Int) (y : Int) = some (high x y : Int) := by
  unfold spec_MulHigh.f
  rw [low32_f, low32_f]
  simp only [Option.bind_some]
  rw [divN x, divN y, mid_e, low32_f]
  simp only [Option.bind_some]
  rw [mulN (x / 4294967296) (y / 4294967296), u64N, divN (mid x y), addN, u64N, mulN (x % 4294967296) (y / 4294967296), u64N, addN, u64N, divN, addN, u64N]
  unfold high; with_reducible rfl
theorem main : laws_FnMulHalves64.Pure := by
  intro a b ha hb
  have ha := wf_i64 ha
  have hb := wf_i64 hb
  obtain ⟨x, rfl⟩ := of_i64 a ha.1 ha.2
  obtain ⟨y, rfl⟩ := of_i64 b hb.1 hb.2
  have h1 : impl_UaddOvf.f (-1) 1 = some true := by decide +kernel
  have ex : IntKind.u64.wrap x.toInt = (x.toNat : Int) := by rw [wu64, oI]
  have ey : IntKind.u64.wrap y.toInt = (y.toNat : Int) := by rw [wu64, oI]
  have hlt : high x.toNat y.toNat < 18446744073709551616 := Nat.mod_lt _ (by decide)
  have hb : impl_BitsMulU64.f x.toInt y.toInt = some (wrap64 (high x.toNat y.toNat : Int), wrap64 ((x.toNat * y.toNat % 18446744073709551616 : Nat) : Int)) := by
    unfold impl_BitsMulU64.f ssarewrite_ZZBitsMulU64.f ssarewrite_bitsMulU64.f
    rw [ex, ey, mul_f _ _ x.isLt y.isLt]
    rfl
  have e2 : wrap64 ((x.toNat * y.toNat % 18446744073709551616 : Nat) : Int) = wrap64 (x.toInt * y.toInt) := by
    rw [w64, w64, omul, oI, oI]
    congr 1
    apply BitVec.eq_of_toNat_eq
    rw [oN_nat, BitVec.toNat_mul]
    exact Nat.mod_mod _ _
  have e3 : IntKind.u64.wrap (wrap64 (high x.toNat y.toNat : Int)) = (high x.toNat y.toNat : Int) := by
    rw [w64, wu64, oI, oN_nat, Nat.mod_eq_of_lt hlt]
  unfold laws_FnMulHalves64.f
  rw [hb, ex, ey, high_f, h1]
  simp only [Option.bind_some]
  rw [if_pos e2, if_pos e3]

end CFnMulHalves64
theorem FnMulHalves64 : laws_FnMulHalves64.Pure := CFnMulHalves64.main
end Go.Proofs.Ytcihkjjejckicaa.Pure
