/- A product of two words is told in its two halves: for all pairs of words. No condition. -/
import Derived.Test.YtcihkjjejckicaaPFnMulHalves64x1
import Derived.Test.YtcihkjjejckicaaAt
import Derived.Test.YtcihkjjejckicaaBr
import Derived.Test.YtcihkjjejckicaaSh
import Derived.Test.YtcihkjjejckicaaUb
set_option linter.unusedVariables false
set_option linter.unusedSimpArgs false
namespace Go.Proofs.Ytcihkjjejckicaa.Pure
open Go.RowKit Go.Proofs.Ytcihkjjejckicaa.PFnMulHalves64 Go.Proofs.YtcihkjjejckicaaW.PrintWords Go.Proofs.YtcihkjjejckicaaW.PrintLast Go.Proofs.YtcihkjjejckicaaW.PrintMore
open Br
namespace CFnMulHalves64
theorem and32_mod (x : Nat) (hx : x < 18446744073709551616) : Go.bits .and .u64 (x : Int) 4294967295 = ((x % 4294967296 : Nat) : Int) := by
  have := andN .u64 rfl x (2 ^ 32 - 1) hx (by decide)
  rw [Nat.and_two_pow_sub_one_eq_mod] at this
  exact this
theorem low32_f (x : Nat) : spec_Low.f (x : Int) 32 = some ((x % 4294967296 : Nat) : Int) := lowN x 32 (by decide)
theorem u64N (n : Nat) : IntKind.u64.wrap (n : Int) = ((n % 18446744073709551616 : Nat) : Int) := wrapN .u64 rfl n
theorem divN (x : Nat) : (x : Int) / 4294967296 = ((x / 4294967296 : Nat) : Int) := by omega
theorem mulN (x y : Nat) : (x : Int) * (y : Int) = ((x * y : Nat) : Int) := (Int.natCast_mul x y).symm
theorem addN (x y : Nat) : (x : Int) + (y : Int) = ((x + y : Nat) : Int) := (Int.natCast_add x y).symm
/-- The middle part, and the high half, as both reckon them. -/
def mid (x y : Nat) : Nat := (x / 4294967296 * (y % 4294967296) % 18446744073709551616 + x % 4294967296 * (y % 4294967296) % 18446744073709551616 / 4294967296) % 18446744073709551616
def high (x y : Nat) : Nat := ((x / 4294967296 * (y / 4294967296) % 18446744073709551616 + mid x y / 4294967296) % 18446744073709551616 + (x % 4294967296 * (y / 4294967296) % 18446744073709551616 + mid x y % 4294967296) % 18446744073709551616 / 4294967296) % 18446744073709551616
theorem mid_lt (x y : Nat) : mid x y < 18446744073709551616 := Nat.mod_lt _ (by decide)
theorem mid_e (x y : Nat) : IntKind.u64.wrap (IntKind.u64.wrap (((x / 4294967296 : Nat) : Int) * ((y % 4294967296 : Nat) : Int)) + IntKind.u64.wrap (((x % 4294967296 : Nat) : Int) * ((y % 4294967296 : Nat) : Int)) / 4294967296) = (mid x y : Int) := by
  rw [mulN, mulN, u64N, u64N, divN, addN, u64N]
  have hh : mid x y = (x / 4294967296 * (y % 4294967296) % 18446744073709551616 + x % 4294967296 * (y % 4294967296) % 18446744073709551616 / 4294967296) % 18446744073709551616 := by unfold mid; rfl
  rw [← hh]
theorem mul_f (x y : Nat) (hx : x < 18446744073709551616) (hy : y < 18446744073709551616) : bits_Mul64.f (x : Int) (y : Int) = some ((high x y : Int), ((x * y % 18446744073709551616 : Nat) : Int)) := by
  unfold bits_Mul64.f
  rw [and32_mod x hx, and32_mod y hy, divN x, divN y, mid_e, and32_mod _ (mid_lt x y), mulN (x / 4294967296) (y / 4294967296), u64N, divN (mid x y), addN, u64N, mulN (x % 4294967296) (y / 4294967296), u64N, addN, u64N, divN, addN, u64N, mulN x y, u64N,
    Nat.add_comm (mid x y % 4294967296)]
  have hh : high x y = ((x / 4294967296 * (y / 4294967296) % 18446744073709551616 + mid x y / 4294967296) % 18446744073709551616 + (x % 4294967296 * (y / 4294967296) % 18446744073709551616 + mid x y % 4294967296) % 18446744073709551616 / 4294967296) % 18446744073709551616 := by unfold high; rfl
  rw [← hh]
theorem high_f (x y : Nat) : spec_MulHigh.f (x : Int) (y : Int) = some (high x y : Int) := by
  unfold spec_MulHigh.f
  rw [low32_f, low32_f]
  simp only [Option.bind_some]
  rw [divN x, divN y, mid_e, low32_f]
  simp only [Option.bind_some]
  rw [mulN (x / 4294967296) (y / 4294967296), u64N, divN (mid x y), addN, u64N, mulN (x % 4294967296) (y / 4294967296), u64N, addN, u64N, divN, addN, u64N]
  have hh : high x y = ((x / 4294967296 * (y / 4294967296) % 18446744073709551616 + mid x y / 4294967296) % 18446744073709551616 + (x % 4294967296 * (y / 4294967296) % 18446744073709551616 + mid x y % 4294967296) % 18446744073709551616 / 4294967296) % 18446744073709551616 := by unfold high; rfl
  rw [← hh]
theorem hlt (x y : Nat) : high x y < 18446744073709551616 := by unfold high; exact Nat.mod_lt _ (by decide)
theorem lt64 (x : BitVec 64) : x.toNat < 18446744073709551616 := x.isLt
theorem oN64 (n : Nat) : (BitVec.ofInt 64 (n : Int)).toNat = n % 18446744073709551616 := oN_nat 64 n
theorem mulT (x y : BitVec 64) : (x * y).toNat = x.toNat * y.toNat % 18446744073709551616 := BitVec.toNat_mul x y
theorem e2 (x y : BitVec 64) : wrap64 ((x.toNat * y.toNat % 18446744073709551616 : Nat) : Int) = wrap64 (x.toInt * y.toInt) := by
  rw [w64, w64, omul, oI, oI]
  have : BitVec.ofInt 64 ((x.toNat * y.toNat % 18446744073709551616 : Nat) : Int) = x * y := by
    apply BitVec.eq_of_toNat_eq
    rw [oN64, mulT, Nat.mod_mod]
  rw [this]
theorem e3 (n : Nat) (h : n < 18446744073709551616) : IntKind.u64.wrap (wrap64 (n : Int)) = (n : Int) := by
  rw [w64, wu64, oI, oN64, Nat.mod_eq_of_lt h]
theorem hb (x y : BitVec 64) : impl_BitsMulU64.f x.toInt y.toInt = some (wrap64 (high x.toNat y.toNat : Int), wrap64 ((x.toNat * y.toNat % 18446744073709551616 : Nat) : Int)) := by
  have ex : IntKind.u64.wrap x.toInt = (x.toNat : Int) := by rw [wu64, oI]
  have ey : IntKind.u64.wrap y.toInt = (y.toNat : Int) := by rw [wu64, oI]
  unfold impl_BitsMulU64.f ssarewrite_ZZBitsMulU64.f ssarewrite_bitsMulU64.f
  rw [ex, ey, mul_f _ _ (lt64 x) (lt64 y)]
  simp only [Option.bind_some]
theorem main : laws_FnMulHalves64.Pure := by
  intro a b ha hb0
  have ha := wf_i64 ha
  have hb0 := wf_i64 hb0
  obtain ⟨x, rfl⟩ := of_i64 a ha.1 ha.2
  obtain ⟨y, rfl⟩ := of_i64 b hb0.1 hb0.2
  have h1 : impl_UaddOvf.f (-1) 1 = some true := by decide +kernel
  have ex : IntKind.u64.wrap x.toInt = (x.toNat : Int) := by rw [wu64, oI]
  have ey : IntKind.u64.wrap y.toInt = (y.toNat : Int) := by rw [wu64, oI]
  unfold laws_FnMulHalves64.f
  have h2 := e2 x y
  have h3 := e3 _ (hlt x.toNat y.toNat)
  rw [hb, ex, ey, high_f, h1]
  generalize high x.toNat y.toNat = H at *
  generalize ((x.toNat * y.toNat % 18446744073709551616 : Nat) : Int) = L at *
  simp only [Option.bind_some, h2, h3, if_true]

end CFnMulHalves64
theorem FnMulHalves64 : laws_FnMulHalves64.Pure := CFnMulHalves64.main
end Go.Proofs.Ytcihkjjejckicaa.Pure
