/- The value that stands for a turn and a mask has the turn above 16 bits and the number of bits above 24: for all turns and runs. No condition. -/
import Derived.Test.YtlcaejikcelgoaaDoorPFnEncodeFormx1
import Derived.Test.YtlcaejikcelgoaaDoorAt
import Derived.Test.YtlcaejikcelgoaaDoorBr
import Derived.Test.YtlcaejikcelgoaaDoorSh
import Derived.Test.YtlcaejikcelgoaaDoorUb
import Derived.Test.YtlcaejikcelgoaaDoorRot
set_option linter.unusedVariables false
set_option linter.unusedSimpArgs false
namespace Go.Proofs.YtlcaejikcelgoaaDoor.Pure
open Go.RowKit Go.Proofs.YtlcaejikcelgoaaDoor.PFnEncodeForm Go.Proofs.YtlcaejikcelgoaaDoorW.PrintWords Go.Proofs.YtlcaejikcelgoaaDoorW.PrintLast Go.Proofs.YtlcaejikcelgoaaDoorW.PrintMore
open Br
namespace CFnEncodeForm
theorem at_f (a n : Int) (h0 : 0 < n) (h1 : n ≤ 4611686018427387904) : ∃ r : Nat, (r : Int) < n ∧ laws_rwAt.f a n = some (r : Int) := by
  obtain ⟨r, hr, e⟩ := at_any a n h0 h1
  refine ⟨r, hr, ?_⟩
  unfold laws_rwAt.f
  rw [e, if_neg (by omega)]
theorem lz32 (v : Nat) (hv : v < 4294967296) : bits_LeadingZeros32.f (v : Int) = some ((32 - Lib.bitLen v : Nat) : Int) := by
  unfold bits_LeadingZeros32.f
  have := Lib.bitLen_le v 32 (by decide) hv
  rw [if_pos (by omega), Int.toNat_natCast]
  congr 1; omega
theorem ctz_le (v : Nat) (hv : v < 4294967296) : Lib.ctz 32 v ≤ 32 := by
  unfold Lib.ctz
  by_cases h : v = 0
  · rw [if_pos h]; omega
  · rw [if_neg h]
    obtain ⟨m, _, h2⟩ := Lib.ctzFrom_spec 32 v (by omega) hv
    omega
theorem tz32 (v : Nat) (hv : v < 4294967296) : bits_TrailingZeros32.f (v : Int) = some (Lib.ctz 32 v : Int) := by
  unfold bits_TrailingZeros32.f
  rw [if_pos (by omega), Int.toNat_natCast]
theorem enc_f (v r k : Nat) (hv : v < 4294967296) (h0 : v ≠ 0) (hr : r < 32) : ssarewrite_encodePPC64RotateMask.f (k + 1) (r : Int) (v : Int) 32 = some (Rot.val (Rot.pick v).1 (Rot.pick v).2 r 32 : Int) := by
  unfold ssarewrite_encodePPC64RotateMask.f
  have hb := Lib.bitLen_le v 32 (by decide) hv
  have hb' := Lib.bitLen_le (4294967295 - v) 32 (by decide) (by omega)
  have hc := ctz_le v hv
  have hc' := ctz_le (4294967295 - v) (by omega)
  have em : (v : Int) % 4294967296 = (v : Int) := by omega
  rw [if_neg (by omega), if_neg (Rot.not_ne (v : Int) (by omega) (by omega) (by omega)), show decide ((r : Int) ≥ 32) = false by simp; omega]
  simp only [ssarewrite_encodePPC64RotateMask.j0]
  rw [if_neg (by decide), if_pos (by trivial), em, Rot.not32 v hv, lz32 v hv, tz32 v hv, lz32 _ (show 4294967295 - v < 4294967296 by omega), tz32 _ (show 4294967295 - v < 4294967296 by omega)]
  simp only [Option.bind_some]
  have e1 : wrap64 (32 - (Lib.ctz 32 v : Int)) = ((32 - Lib.ctz 32 v : Nat) : Int) := by unfold wrap64; omega
  have e2 : wrap64 (32 - (Lib.ctz 32 (4294967295 - v) : Int)) = ((32 - Lib.ctz 32 (4294967295 - v) : Nat) : Int) := by unfold wrap64; omega
  rw [e1, e2]
  have v1 := Rot.val_or (32 - Lib.ctz 32 (4294967295 - v)) (32 - Lib.bitLen (4294967295 - v)) r 32 (by omega) (by omega) (by omega) (by omega)
  have v2 := Rot.val_or (32 - Lib.bitLen v) (32 - Lib.ctz 32 v) r 32 (by omega) (by omega) (by omega) (by omega)
  rw [show ((32 : Nat) : Int) = 32 from rfl] at v1 v2
  unfold Rot.pick
  by_cases c1 : 32 - Lib.bitLen v = 0
  · rw [if_pos (by omega)]
    by_cases c2 : 32 - Lib.ctz 32 v = 32
    · rw [if_pos (by omega), if_pos ⟨c1, c2⟩, v1]
    · rw [if_neg (by omega), if_neg (fun h => c2 h.2), v2]
  · rw [if_neg (by omega), if_neg (fun h => c1 h.1), v2]
theorem lz64 (v : Nat) (hv : v < 18446744073709551616) : bits_LeadingZeros64.f (v : Int) = some ((64 - Lib.bitLen v : Nat) : Int) := by
  unfold bits_LeadingZeros64.f
  have := Lib.bitLen_le v 64 (by decide) hv
  rw [if_pos (by omega), Int.toNat_natCast]
  congr 1; omega
theorem ctz_le64 (v : Nat) (hv : v < 18446744073709551616) : Lib.ctz 64 v ≤ 64 := by
  unfold Lib.ctz
  by_cases h : v = 0
  · rw [if_pos h]; omega
  · rw [if_neg h]
    obtain ⟨m, _, h2⟩ := Lib.ctzFrom_spec 64 v (by omega) hv
    omega
theorem tz64 (v : Nat) (hv : v < 18446744073709551616) : bits_TrailingZeros64.f (v : Int) = some (Lib.ctz 64 v : Int) := by
  unfold bits_TrailingZeros64.f
  rw [if_pos (by omega), Int.toNat_natCast]
theorem not64 (v : Nat) (h : v < 18446744073709551616) : Go.bits .xor .u64 18446744073709551615 (v : Int) = ((18446744073709551615 - v : Nat) : Int) := by
  have := xor64 (18446744073709551615#64) (BitVec.ofNat 64 v)
  rw [show (((18446744073709551615#64).toNat : Nat) : Int) = 18446744073709551615 from rfl, BitVec.toNat_ofNat, Nat.mod_eq_of_lt h] at this
  rw [this, show (18446744073709551615#64) = BitVec.allOnes 64 by decide, BitVec.allOnes_xor, BitVec.toNat_not, BitVec.toNat_ofNat, Nat.mod_eq_of_lt h]
theorem enc64_f (v r k : Nat) (hv : v < 18446744073709551615) (h0 : v ≠ 0) (hr : r < 64) :
    ∃ mb me : Nat, mb ≤ 64 ∧ me ≤ 64 ∧ ssarewrite_encodePPC64RotateMask.f (k + 1) (r : Int) (wrap64 (v : Int)) 64 = some (Rot.val mb me r 64 : Int) := by
  unfold ssarewrite_encodePPC64RotateMask.f
  have hb := Lib.bitLen_le v 64 (by decide) (by show v < 18446744073709551616; omega)
  have hb' := Lib.bitLen_le (18446744073709551615 - v) 64 (by decide) (by show _ < 18446744073709551616; omega)
  have hc := ctz_le64 v (by omega)
  have hc' := ctz_le64 (18446744073709551615 - v) (by omega)
  have wr : -9223372036854775808 ≤ wrap64 (v : Int) ∧ wrap64 (v : Int) ≤ 9223372036854775807 ∧ wrap64 (v : Int) ≠ -1 ∧ wrap64 (v : Int) ≠ 0 ∧ IntKind.u64.wrap (wrap64 (v : Int)) = (v : Int) := by
    rw [u64mod]; unfold wrap64; omega
  rw [if_neg wr.2.2.2.1, if_neg (Rot.not_ne _ wr.1 wr.2.1 wr.2.2.1), show decide ((r : Int) ≥ 64) = false by simp; omega]
  simp only [ssarewrite_encodePPC64RotateMask.j0]
  rw [if_neg (by decide), if_neg (by decide), wr.2.2.2.2, not64 v (by omega), lz64 v (by omega), tz64 v (by omega), lz64 _ (show 18446744073709551615 - v < 18446744073709551616 by omega), tz64 _ (show 18446744073709551615 - v < 18446744073709551616 by omega)]
  simp only [Option.bind_some]
  generalize Lib.ctz 64 v = c at *
  generalize Lib.ctz 64 (18446744073709551615 - v) = c' at *
  generalize Lib.bitLen v = l at *
  generalize Lib.bitLen (18446744073709551615 - v) = l' at *
  have e1 : wrap64 (64 - (c : Int)) = ((64 - c : Nat) : Int) := by unfold wrap64; omega
  have e2 : wrap64 (64 - (c' : Int)) = ((64 - c' : Nat) : Int) := by unfold wrap64; omega
  rw [e1, e2]
  have v1 := Rot.val_or (64 - c') (64 - l') r 64 (by omega) (by omega) (by omega) (by omega)
  have v2 := Rot.val_or (64 - l) (64 - c) r 64 (by omega) (by omega) (by omega) (by omega)
  rw [show ((64 : Nat) : Int) = 64 from rfl] at v1 v2
  by_cases c1 : ((64 - l : Nat) : Int) = 0
  · rw [if_pos c1]
    by_cases c2 : ((64 - c : Nat) : Int) = 64
    · rw [if_pos c2, v1]; exact ⟨_, _, by omega, by omega, rfl⟩
    · rw [if_neg c2, v2]; exact ⟨_, _, by omega, by omega, rfl⟩
  · rw [if_neg c1, v2]; exact ⟨_, _, by omega, by omega, rfl⟩
theorem run_all : ∀ t : Nat, t < 32 → ∀ n : Nat, n < 33 → 1 ≤ n → t + n ≤ 32 → spec_Run.f (t : Int) (n : Int) = some (Rot.run t n : Int) := by decide +kernel
theorem run_all64 : ∀ t : Nat, t < 64 → ∀ n : Nat, n < 64 → 1 ≤ n ∧ t + n ≤ 64 → (match spec_Run.f (t : Int) (n : Int) with | some v => decide (0 < v ∧ v < 18446744073709551615) | none => false) = true := by decide +kernel
theorem fin (r e b : Nat) (h1 : Go.bits .and .i64 ((e : Int) / 65536) 255 = (r : Int)) (h2 : Go.bits .and .i64 ((e : Int) / 16777216) 255 = (b : Int)) :
    (if (Go.bits .and .i64 ((e : Int) / 65536) 255) = (r : Int) then (some ((Go.bits .and .i64 ((e : Int) / 16777216) 255) == (b : Int))) else (some false)) = some true := by
  rw [if_pos h1, h2, beq_self_eq_true]
theorem mn_is (a b : Int) : (mn a b = a ∨ mn a b = b) ∧ mn a b ≤ a ∧ mn a b ≤ b := by
  unfold mn; split <;> refine ⟨?_, ?_, ?_⟩ <;> first | omega | simp
theorem narrow (r t m z : Nat) (a b c : Int) (hr : r < 32) (h2 : t + (m + 1) ≤ 32) (e1 : laws_rwAt.f a 32 = some (r : Int)) (e2 : laws_rwAt.f b 32 = some (t : Int))
    (hz : mn (wrap64 (32 - (t : Int))) 63 = (z : Int)) (e3 : laws_rwAt.f c (z : Int) = some (m : Int)) : laws_FnEncodeForm.j0 70 a b c 32 = some true := by
  have un : IntKind.u64.wrap (1 + (m : Int)) = ((m + 1 : Nat) : Int) := by rw [u64mod]; omega
  have hw := Rot.WM.run (show 1 ≤ m + 1 by omega) h2
  have hl := hw.lt
  have p := hw.pick
  have he := enc_f (Rot.run t (m + 1)) r 68 hl hw.1 (by omega)
  have rn := run_all t (by omega) (m + 1) (by omega) (by omega) h2
  have q1 : (Rot.pick (Rot.run t (m + 1))).1 < 256 := Nat.lt_of_le_of_lt p.2.1 (by decide)
  have q2 : (Rot.pick (Rot.run t (m + 1))).2 < 256 := Nat.lt_of_le_of_lt p.2.2 (by decide)
  have g2 := Rot.g2 (Rot.pick (Rot.run t (m + 1))).1 (Rot.pick (Rot.run t (m + 1))).2 r 32 q2 q1 (Nat.lt_trans hr (by decide)) (by decide)
  have g3 := Rot.g3 (Rot.pick (Rot.run t (m + 1))).1 (Rot.pick (Rot.run t (m + 1))).2 r 32 q2 q1 (Nat.lt_trans hr (by decide)) (by decide)
  generalize Rot.val (Rot.pick (Rot.run t (m + 1))).1 (Rot.pick (Rot.run t (m + 1))).2 r 32 = e at he g2 g3
  generalize Rot.run t (m + 1) = v at he rn hl
  simp only [laws_FnEncodeForm.j0]
  rw [e1, Option.bind_some, e2, Option.bind_some, hz, e3, Option.bind_some, Rot.u64N t (by omega), Rot.u64N m (by omega), un, rn, Option.bind_some, Rot.w64N v (by omega)]
  unfold impl_EncodeRotateMask.f ssarewrite_ZZEncodePPC64RotateMask.f
  rw [he, Option.bind_some, Option.bind_some, Option.bind_some]
  exact fin r e 32 g2 g3
theorem wide (r t m z : Nat) (a b c : Int) (hr : r < 64) (h2 : t + (m + 1) ≤ 64) (h3 : m + 1 < 64) (e1 : laws_rwAt.f a 64 = some (r : Int)) (e2 : laws_rwAt.f b 64 = some (t : Int))
    (hz : mn (wrap64 (64 - (t : Int))) 63 = (z : Int)) (e3 : laws_rwAt.f c (z : Int) = some (m : Int)) : laws_FnEncodeForm.j0 70 a b c 64 = some true := by
  have un : IntKind.u64.wrap (1 + (m : Int)) = ((m + 1 : Nat) : Int) := by rw [u64mod]; omega
  have rn := run_all64 t (by omega) (m + 1) h3 (by omega)
  obtain ⟨y, hv, y0, y1⟩ : ∃ y : Nat, spec_Run.f (t : Int) ((m + 1 : Nat) : Int) = some (y : Int) ∧ y ≠ 0 ∧ y < 18446744073709551615 := by
    cases hv : spec_Run.f (t : Int) ((m + 1 : Nat) : Int) with
    | none => rw [hv] at rn; simp at rn
    | some v =>
      rw [hv] at rn
      simp only [decide_eq_true_eq] at rn
      obtain ⟨y, rfl⟩ := Int.eq_ofNat_of_zero_le (show 0 ≤ v by omega)
      exact ⟨y, rfl, by omega, by omega⟩
  obtain ⟨mb, me, hmb, hme, he⟩ := enc64_f y r 68 y1 y0 hr
  have g2 := Rot.g2 mb me r 64 (by omega) (by omega) (by omega) (by omega)
  have g3 := Rot.g3 mb me r 64 (by omega) (by omega) (by omega) (by omega)
  generalize Rot.val mb me r 64 = e at he g2 g3
  simp only [laws_FnEncodeForm.j0]
  rw [e1, Option.bind_some, e2, Option.bind_some, hz, e3, Option.bind_some, Rot.u64N t (by omega), Rot.u64N m (by omega), un, hv, Option.bind_some]
  unfold impl_EncodeRotateMask.f ssarewrite_ZZEncodePPC64RotateMask.f
  rw [he, Option.bind_some, Option.bind_some, Option.bind_some]
  exact fin r e 64 g2 g3
theorem main : laws_FnEncodeForm.Pure := by
  intro a b c d ha hb hc
  refine ⟨70, ?_⟩
  unfold laws_FnEncodeForm.f
  cases d with
  | false =>
    rw [if_neg (by decide)]
    obtain ⟨r, hr, e1⟩ := at_f a 32 (by omega) (by omega)
    obtain ⟨t, ht, e2⟩ := at_f b 32 (by omega) (by omega)
    have w : wrap64 (32 - (t : Int)) = ((32 - t : Nat) : Int) := by unfold wrap64; omega
    have q := mn_is (wrap64 (32 - (t : Int))) 63
    rw [w] at q
    obtain ⟨z, hz⟩ : ∃ z : Nat, mn ((32 - t : Nat) : Int) 63 = (z : Int) := ⟨(mn ((32 - t : Nat) : Int) 63).toNat, by omega⟩
    obtain ⟨m, hm, e3⟩ := at_f c (z : Int) (by omega) (by omega)
    exact narrow r t m z a b c (by omega) (by omega) e1 e2 (by rw [w]; exact hz) e3
  | true =>
    rw [if_pos rfl]
    obtain ⟨r, hr, e1⟩ := at_f a 64 (by omega) (by omega)
    obtain ⟨t, ht, e2⟩ := at_f b 64 (by omega) (by omega)
    have w : wrap64 (64 - (t : Int)) = ((64 - t : Nat) : Int) := by unfold wrap64; omega
    have q := mn_is (wrap64 (64 - (t : Int))) 63
    rw [w] at q
    obtain ⟨z, hz⟩ : ∃ z : Nat, mn ((64 - t : Nat) : Int) 63 = (z : Int) := ⟨(mn ((64 - t : Nat) : Int) 63).toNat, by omega⟩
    obtain ⟨m, hm, e3⟩ := at_f c (z : Int) (by omega) (by omega)
    exact wide r t m z a b c (by omega) (by omega) (by omega) e1 e2 (by rw [w]; exact hz) e3

end CFnEncodeForm
theorem FnEncodeForm : laws_FnEncodeForm.Pure := CFnEncodeForm.main
end Go.Proofs.YtlcaejikcelgoaaDoor.Pure
