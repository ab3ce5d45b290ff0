/- The words of the print (whole numbers that wrap, bits, shifts) as bit vectors: what each operation on the numbers of two's complement is on the vectors. No condition. -/
import Derived.RowKit
import Derived.Laws.Entries
set_option linter.unusedVariables false
set_option linter.unusedSimpArgs false
namespace Go.Proofs.YtlcaejikcelgoaaDoor.Br
open Go Go.RowKit

theorem bmod64 (n : Int) : (BitVec.ofInt 64 n).toInt = (n + 9223372036854775808) % 18446744073709551616 - 9223372036854775808 := by
  rw [BitVec.toInt_ofInt, Int.bmod_def]; simp only [Nat.reducePow]; omega
theorem w64 (n : Int) : wrap64 n = (BitVec.ofInt 64 n).toInt := by rw [bmod64]; rfl
theorem k_i64 (n : Int) : IntKind.i64.wrap n = (n + 9223372036854775808) % 18446744073709551616 - 9223372036854775808 := by
  simp [IntKind.wrap, IntKind.bits, IntKind.signed]; split <;> omega
theorem k_i32 (n : Int) : IntKind.i32.wrap n = (n + 2147483648) % 4294967296 - 2147483648 := by
  simp [IntKind.wrap, IntKind.bits, IntKind.signed]; split <;> omega
theorem k_i16 (n : Int) : IntKind.i16.wrap n = (n + 32768) % 65536 - 32768 := by
  simp [IntKind.wrap, IntKind.bits, IntKind.signed]; split <;> omega
theorem k_i8 (n : Int) : IntKind.i8.wrap n = (n + 128) % 256 - 128 := by
  simp [IntKind.wrap, IntKind.bits, IntKind.signed]; split <;> omega
theorem wi64 (n : Int) : IntKind.i64.wrap n = (BitVec.ofInt 64 n).toInt := by rw [bmod64, k_i64]
theorem wi32 (n : Int) : IntKind.i32.wrap n = (BitVec.ofInt 32 n).toInt := by
  rw [k_i32, BitVec.toInt_ofInt, Int.bmod_def]; simp only [Nat.reducePow]; omega
theorem wi16 (n : Int) : IntKind.i16.wrap n = (BitVec.ofInt 16 n).toInt := by
  rw [k_i16, BitVec.toInt_ofInt, Int.bmod_def]; simp only [Nat.reducePow]; omega
theorem wi8 (n : Int) : IntKind.i8.wrap n = (BitVec.ofInt 8 n).toInt := by
  rw [k_i8, BitVec.toInt_ofInt, Int.bmod_def]; simp only [Nat.reducePow]; omega
theorem wu64 (n : Int) : IntKind.u64.wrap n = ((BitVec.ofInt 64 n).toNat : Int) := by
  simp [IntKind.wrap, IntKind.bits, IntKind.signed, BitVec.toNat_ofInt]; omega
theorem wu32 (n : Int) : IntKind.u32.wrap n = ((BitVec.ofInt 32 n).toNat : Int) := by
  simp [IntKind.wrap, IntKind.bits, IntKind.signed, BitVec.toNat_ofInt]; omega
theorem wu16 (n : Int) : IntKind.u16.wrap n = ((BitVec.ofInt 16 n).toNat : Int) := by
  simp [IntKind.wrap, IntKind.bits, IntKind.signed, BitVec.toNat_ofInt]; omega
theorem wu8 (n : Int) : IntKind.u8.wrap n = ((BitVec.ofInt 8 n).toNat : Int) := by
  simp [IntKind.wrap, IntKind.bits, IntKind.signed, BitVec.toNat_ofInt]; omega

theorem w32 (n : Int) : wrap32 n = (BitVec.ofInt 32 n).toInt := by
  rw [BitVec.toInt_ofInt, Int.bmod_def]; unfold wrap32; simp only [Nat.reducePow]; omega

/-! A number of a kind is that of a vector. -/
theorem of_i64 (a : Int) (h0 : -9223372036854775808 ≤ a) (h1 : a ≤ 9223372036854775807) : ∃ x : BitVec 64, a = x.toInt :=
  ⟨BitVec.ofInt 64 a, by rw [bmod64]; omega⟩
theorem of_u64 (a : Int) (h0 : 0 ≤ a) (h1 : a ≤ 18446744073709551615) : ∃ x : BitVec 64, a = (x.toNat : Int) :=
  ⟨BitVec.ofInt 64 a, by rw [BitVec.toNat_ofInt]; omega⟩
theorem of_i32 (a : Int) (h0 : -2147483648 ≤ a) (h1 : a ≤ 2147483647) : ∃ x : BitVec 32, a = x.toInt :=
  ⟨BitVec.ofInt 32 a, by rw [← wi32, k_i32]; omega⟩
theorem of_u32 (a : Int) (h0 : 0 ≤ a) (h1 : a ≤ 4294967295) : ∃ x : BitVec 32, a = (x.toNat : Int) :=
  ⟨BitVec.ofInt 32 a, by rw [BitVec.toNat_ofInt]; omega⟩
theorem of_i16 (a : Int) (h0 : -32768 ≤ a) (h1 : a ≤ 32767) : ∃ x : BitVec 16, a = x.toInt :=
  ⟨BitVec.ofInt 16 a, by rw [← wi16, k_i16]; omega⟩
theorem of_i8 (a : Int) (h0 : -128 ≤ a) (h1 : a ≤ 127) : ∃ x : BitVec 8, a = x.toInt :=
  ⟨BitVec.ofInt 8 a, by rw [← wi8, k_i8]; omega⟩
theorem of_u8 (a : Int) (h0 : 0 ≤ a) (h1 : a ≤ 255) : ∃ x : BitVec 8, a = (x.toNat : Int) :=
  ⟨BitVec.ofInt 8 a, by rw [BitVec.toNat_ofInt]; omega⟩

/-! Sums, products and the like, read back into vectors. -/
section
variable {w : Nat} (a b : Int) (x y : BitVec w)
theorem oN : BitVec.ofInt w (x.toNat : Int) = x := by simp
theorem oI : BitVec.ofInt w x.toInt = x := BitVec.ofInt_toInt
theorem oadd : BitVec.ofInt w (a + b) = BitVec.ofInt w a + BitVec.ofInt w b := BitVec.ofInt_add ..
theorem omul : BitVec.ofInt w (a * b) = BitVec.ofInt w a * BitVec.ofInt w b := BitVec.ofInt_mul ..
theorem oneg : BitVec.ofInt w (-a) = - BitVec.ofInt w a := BitVec.ofInt_neg
theorem osub : BitVec.ofInt w (a - b) = BitVec.ofInt w a - BitVec.ofInt w b := by
  rw [Int.sub_eq_add_neg, oadd, oneg, BitVec.sub_eq_add_neg]
end
/-- A narrower vector of a wider one's number. -/
theorem oI_narrow {v w : Nat} (h : v ≤ w) (x : BitVec w) : BitVec.ofInt v x.toInt = x.setWidth v := by
  apply BitVec.eq_of_toNat_eq
  rw [BitVec.toNat_ofInt, BitVec.toNat_setWidth, BitVec.toInt_eq_toNat_bmod]
  have hd : ((2 ^ v : Nat) : Int) ∣ ((2 ^ w : Nat) : Int) := Int.natCast_dvd_natCast.2 (Nat.pow_dvd_pow 2 h)
  have e : (((x.toNat : Int).bmod (2 ^ w)) % ((2 ^ v : Nat) : Int)) = (x.toNat : Int) % ((2 ^ v : Nat) : Int) := by
    rw [← Int.emod_emod_of_dvd _ hd, Int.bmod_emod, Int.emod_emod_of_dvd _ hd]
  rw [e]
  omega
theorem oN_any {v w : Nat} (x : BitVec w) : BitVec.ofInt v (x.toNat : Int) = x.setWidth v := by
  apply BitVec.eq_of_toNat_eq
  rw [BitVec.toNat_ofInt, BitVec.toNat_setWidth]
  omega
theorem oN_nat (w n : Nat) : (BitVec.ofInt w (n : Int)).toNat = n % 2 ^ w := by rw [BitVec.ofInt_natCast, BitVec.toNat_ofNat]
theorem oI_wide {v w : Nat} (x : BitVec w) : BitVec.ofInt v x.toInt = x.signExtend v := rfl

/-! Bits. -/
theorem and64 (x y : BitVec 64) : Go.bits .and .u64 x.toNat y.toNat = ((x &&& y).toNat : Int) := by
  show IntKind.u64.wrap _ = _; rw [wu64]; show ((BitVec.ofInt 64 ((BitVec.ofInt 64 x.toNat &&& BitVec.ofInt 64 y.toNat).toNat : Int)).toNat : Int) = _; rw [oN, oN, oN]
theorem or64 (x y : BitVec 64) : Go.bits .or .u64 x.toNat y.toNat = ((x ||| y).toNat : Int) := by
  show IntKind.u64.wrap _ = _; rw [wu64]; show ((BitVec.ofInt 64 ((BitVec.ofInt 64 x.toNat ||| BitVec.ofInt 64 y.toNat).toNat : Int)).toNat : Int) = _; rw [oN, oN, oN]
theorem xor64 (x y : BitVec 64) : Go.bits .xor .u64 x.toNat y.toNat = ((x ^^^ y).toNat : Int) := by
  show IntKind.u64.wrap _ = _; rw [wu64]; show ((BitVec.ofInt 64 ((BitVec.ofInt 64 x.toNat ^^^ BitVec.ofInt 64 y.toNat).toNat : Int)).toNat : Int) = _; rw [oN, oN, oN]
theorem anot64 (x y : BitVec 64) : Go.bits .andNot .u64 x.toNat y.toNat = ((x &&& ~~~y).toNat : Int) := by
  show IntKind.u64.wrap _ = _; rw [wu64]; show ((BitVec.ofInt 64 ((BitVec.ofInt 64 x.toNat &&& ~~~ BitVec.ofInt 64 y.toNat).toNat : Int)).toNat : Int) = _; rw [oN, oN, oN]
theorem iand64 (x y : BitVec 64) : Go.bits .and .i64 x.toInt y.toInt = (x &&& y).toInt := by
  show IntKind.i64.wrap _ = _; rw [wi64]; show (BitVec.ofInt 64 ((BitVec.ofInt 64 x.toInt &&& BitVec.ofInt 64 y.toInt).toNat : Int)).toInt = _; rw [oN, oI, oI]
theorem ior64 (x y : BitVec 64) : Go.bits .or .i64 x.toInt y.toInt = (x ||| y).toInt := by
  show IntKind.i64.wrap _ = _; rw [wi64]; show (BitVec.ofInt 64 ((BitVec.ofInt 64 x.toInt ||| BitVec.ofInt 64 y.toInt).toNat : Int)).toInt = _; rw [oN, oI, oI]
theorem ixor64 (x y : BitVec 64) : Go.bits .xor .i64 x.toInt y.toInt = (x ^^^ y).toInt := by
  show IntKind.i64.wrap _ = _; rw [wi64]; show (BitVec.ofInt 64 ((BitVec.ofInt 64 x.toInt ^^^ BitVec.ofInt 64 y.toInt).toNat : Int)).toInt = _; rw [oN, oI, oI]
theorem ianot64 (x y : BitVec 64) : Go.bits .andNot .i64 x.toInt y.toInt = (x &&& ~~~y).toInt := by
  show IntKind.i64.wrap _ = _; rw [wi64]; show (BitVec.ofInt 64 ((BitVec.ofInt 64 x.toInt &&& ~~~ BitVec.ofInt 64 y.toInt).toNat : Int)).toInt = _; rw [oN, oI, oI]
theorem and32 (x y : BitVec 32) : Go.bits .and .u32 x.toNat y.toNat = ((x &&& y).toNat : Int) := by
  show IntKind.u32.wrap _ = _; rw [wu32]; show ((BitVec.ofInt 32 ((BitVec.ofInt 32 x.toNat &&& BitVec.ofInt 32 y.toNat).toNat : Int)).toNat : Int) = _; rw [oN, oN, oN]
theorem or32 (x y : BitVec 32) : Go.bits .or .u32 x.toNat y.toNat = ((x ||| y).toNat : Int) := by
  show IntKind.u32.wrap _ = _; rw [wu32]; show ((BitVec.ofInt 32 ((BitVec.ofInt 32 x.toNat ||| BitVec.ofInt 32 y.toNat).toNat : Int)).toNat : Int) = _; rw [oN, oN, oN]
theorem iand32 (x y : BitVec 32) : Go.bits .and .i32 x.toInt y.toInt = (x &&& y).toInt := by
  show IntKind.i32.wrap _ = _; rw [wi32]; show (BitVec.ofInt 32 ((BitVec.ofInt 32 x.toInt &&& BitVec.ofInt 32 y.toInt).toNat : Int)).toInt = _; rw [oN, oI, oI]
theorem iand16 (x y : BitVec 16) : Go.bits .and .i16 x.toInt y.toInt = (x &&& y).toInt := by
  show IntKind.i16.wrap _ = _; rw [wi16]; show (BitVec.ofInt 16 ((BitVec.ofInt 16 x.toInt &&& BitVec.ofInt 16 y.toInt).toNat : Int)).toInt = _; rw [oN, oI, oI]
theorem iand8 (x y : BitVec 8) : Go.bits .and .i8 x.toInt y.toInt = (x &&& y).toInt := by
  show IntKind.i8.wrap _ = _; rw [wi8]; show (BitVec.ofInt 8 ((BitVec.ofInt 8 x.toInt &&& BitVec.ofInt 8 y.toInt).toNat : Int)).toInt = _; rw [oN, oI, oI]
theorem and8 (x y : BitVec 8) : Go.bits .and .u8 x.toNat y.toNat = ((x &&& y).toNat : Int) := by
  show IntKind.u8.wrap _ = _; rw [wu8]; show ((BitVec.ofInt 8 ((BitVec.ofInt 8 x.toNat &&& BitVec.ofInt 8 y.toNat).toNat : Int)).toNat : Int) = _; rw [oN, oN, oN]

theorem u64mod (n : Int) : IntKind.u64.wrap n = n % 18446744073709551616 := by simp [IntKind.wrap, IntKind.bits, IntKind.signed]
theorem toInt_mod64 (x : BitVec 64) : x.toInt % 18446744073709551616 = (x.toNat : Int) := by rw [← u64mod, wu64, oI]
theorem toInt_mod32 (x : BitVec 64) : x.toInt % 4294967296 = ((x.toNat % 4294967296 : Nat) : Int) := by
  have h := toInt_mod64 x
  omega

/-! Comparisons. -/
section
variable {w : Nat} (x y : BitVec w)
theorem eqI : (x.toInt = y.toInt) = (x = y) := propext BitVec.toInt_inj
theorem eqN : ((x.toNat : Int) = (y.toNat : Int)) = (x = y) := propext ⟨fun h => BitVec.eq_of_toNat_eq (by omega), fun h => by rw [h]⟩
end
end Go.Proofs.YtlcaejikcelgoaaDoor.Br
