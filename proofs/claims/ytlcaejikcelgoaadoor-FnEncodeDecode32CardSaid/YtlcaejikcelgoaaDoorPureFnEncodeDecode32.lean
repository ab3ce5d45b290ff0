/- A turn and a run of ones of 32 bits come back from the value that stands for them: for all turns and runs. No condition. -/
import Derived.Test.YtlcaejikcelgoaaDoorPFnEncodeDecode32x1
import Derived.Test.YtlcaejikcelgoaaDoorAt
import Derived.Test.YtlcaejikcelgoaaDoorBr
import Derived.Test.YtlcaejikcelgoaaDoorSh
import Derived.Test.YtlcaejikcelgoaaDoorUb
import Derived.Test.YtlcaejikcelgoaaDoorRot
set_option linter.unusedVariables false
set_option linter.unusedSimpArgs false
namespace Go.Proofs.YtlcaejikcelgoaaDoor.Pure
open Go.RowKit Go.Proofs.YtlcaejikcelgoaaDoor.PFnEncodeDecode32 Go.Proofs.YtlcaejikcelgoaaDoorW.PrintWords Go.Proofs.YtlcaejikcelgoaaDoorW.PrintLast Go.Proofs.YtlcaejikcelgoaaDoorW.PrintMore
open Br
namespace CFnEncodeDecode32
theorem at_f (a n : Int) (h0 : 0 < n) (h1 : n ≤ 4611686018427387904) : ∃ r : Nat, (r : Int) < n ∧ laws_rwAt.f a n = some (r : Int) := by
  obtain ⟨r, hr, e⟩ := at_any a n h0 h1
  refine ⟨r, hr, ?_⟩
  unfold laws_rwAt.f
  rw [e, if_neg (by omega)]
theorem lz32 (v : Nat) (hv : v < 4294967296) : bits_LeadingZeros32.f (v : Int) = some ((32 - Lib.bitLen v : Nat) : Int) := by
  unfold bits_LeadingZeros32.f
  have := Lib.bitLen_le v 32 (by decide) hv
  rw [if_pos (by omega), Int.toNat_natCast]
  congr 1; omega
theorem ctz_le (v : Nat) (hv : v < 4294967296) : Lib.ctz 32 v ≤ 32 := by
  unfold Lib.ctz
  by_cases h : v = 0
  · rw [if_pos h]; omega
  · rw [if_neg h]
    obtain ⟨m, _, h2⟩ := Lib.ctzFrom_spec 32 v (by omega) hv
    omega
theorem tz32 (v : Nat) (hv : v < 4294967296) : bits_TrailingZeros32.f (v : Int) = some (Lib.ctz 32 v : Int) := by
  unfold bits_TrailingZeros32.f
  rw [if_pos (by omega), Int.toNat_natCast]
theorem enc_f (v r k : Nat) (hv : v < 4294967296) (h0 : v ≠ 0) (hr : r < 32) : ssarewrite_encodePPC64RotateMask.f (k + 1) (r : Int) (v : Int) 32 = some (Rot.val (Rot.pick v).1 (Rot.pick v).2 r 32 : Int) := by
  unfold ssarewrite_encodePPC64RotateMask.f
  have hb := Lib.bitLen_le v 32 (by decide) hv
  have hb' := Lib.bitLen_le (4294967295 - v) 32 (by decide) (by omega)
  have hc := ctz_le v hv
  have hc' := ctz_le (4294967295 - v) (by omega)
  have em : (v : Int) % 4294967296 = (v : Int) := by omega
  rw [if_neg (by omega), if_neg (Rot.not_ne (v : Int) (by omega) (by omega) (by omega)), show decide ((r : Int) ≥ 32) = false by simp; omega]
  simp only [ssarewrite_encodePPC64RotateMask.j0]
  rw [if_neg (by decide), if_pos (by trivial), em, Rot.not32 v hv, lz32 v hv, tz32 v hv, lz32 _ (show 4294967295 - v < 4294967296 by omega), tz32 _ (show 4294967295 - v < 4294967296 by omega)]
  simp only [Option.bind_some]
  have e1 : wrap64 (32 - (Lib.ctz 32 v : Int)) = ((32 - Lib.ctz 32 v : Nat) : Int) := by unfold wrap64; omega
  have e2 : wrap64 (32 - (Lib.ctz 32 (4294967295 - v) : Int)) = ((32 - Lib.ctz 32 (4294967295 - v) : Nat) : Int) := by unfold wrap64; omega
  rw [e1, e2]
  have v1 := Rot.val_or (32 - Lib.ctz 32 (4294967295 - v)) (32 - Lib.bitLen (4294967295 - v)) r 32 (by omega) (by omega) (by omega) (by omega)
  have v2 := Rot.val_or (32 - Lib.bitLen v) (32 - Lib.ctz 32 v) r 32 (by omega) (by omega) (by omega) (by omega)
  rw [show ((32 : Nat) : Int) = 32 from rfl] at v1 v2
  unfold Rot.pick
  by_cases c1 : 32 - Lib.bitLen v = 0
  · rw [if_pos (by omega)]
    by_cases c2 : 32 - Lib.ctz 32 v = 32
    · rw [if_pos (by omega), if_pos ⟨c1, c2⟩, v1]
    · rw [if_neg (by omega), if_neg (fun h => c2 h.2), v2]
  · rw [if_neg (by omega), if_neg (fun h => c1 h.1), v2]
/-- The mask of a value, as the program reckons it. -/
def maskI (mb me : Nat) : Int :=
  if (mb : Int) > (me : Int) then (Go.bits .xor .u64 18446744073709551615 (Go.bits .xor .u64 (IntKind.u64.wrap ((shl .u64 1 (IntKind.u64.wrap (wrap64 (32 - (mb : Int))))) - 1)) (IntKind.u64.wrap ((shl .u64 1 (IntKind.u64.wrap (wrap64 (32 - (me : Int))))) - 1)))) % 4294967296
  else (Go.bits .xor .u64 (IntKind.u64.wrap ((shl .u64 1 (IntKind.u64.wrap (wrap64 (32 - (mb : Int))))) - 1)) (IntKind.u64.wrap ((shl .u64 1 (IntKind.u64.wrap (wrap64 (32 - (me : Int))))) - 1))) % 4294967296
theorem maskI_all : ∀ mb, mb < 33 → ∀ me, me < 33 → maskI mb me = (Rot.maskOf mb me : Int) := by decide +kernel
theorem dec_f (mb me r : Nat) (h1 : mb ≤ 32) (h2 : me ≤ 32) (h3 : r < 256) :
    ssarewrite_DecodePPC64RotateMask.f (Rot.val mb me r 32 : Int) = some ((r : Int), (mb : Int), Go.bits .and .i64 (wrap64 ((me : Int) - 1)) (wrap64 ((32 : Int) - 1)), (Rot.maskOf mb me : Int)) := by
  have a0 := Rot.f0 mb me r 32 (by omega) (by omega) h3 (by omega)
  have a1 := Rot.f1 mb me r 32 (by omega) (by omega) h3 (by omega)
  have a2 := Rot.f2 mb me r 32 (by omega) (by omega) h3 (by omega)
  have a3 := Rot.f3 mb me r 32 (by omega) (by omega) h3 (by omega)
  have u := Rot.u_val mb me r 32 (by omega) (by omega) h3 (by omega)
  rw [show ((32 : Nat) : Int) = 32 from rfl] at a3
  have m := maskI_all mb (by omega) me (by omega)
  unfold ssarewrite_DecodePPC64RotateMask.f
  rw [u, a0, a1, a2, a3]
  have p1 : 0 ≤ IntKind.u64.wrap (wrap64 (32 - (mb : Int))) := by rw [u64mod]; omega
  have p2 : 0 ≤ IntKind.u64.wrap (wrap64 (32 - (me : Int))) := by rw [u64mod]; omega
  rw [if_pos p1, if_pos p2, ← m]
  unfold maskI
  by_cases c : (mb : Int) > (me : Int)
  · simp only [if_pos c, if_true]
  · simp only [if_neg c, if_true]
theorem decoded (v r k : Nat) (hw : Rot.WM v) (hr : r < 32) : ∃ e : Nat, ssarewrite_encodePPC64RotateMask.f (k + 1) (r : Int) (v : Int) 32 = some (e : Int) ∧ (e : Int) ≠ 0 ∧ Go.bits .and .i64 ((e : Int) / 16777216) 255 = 32 ∧
    ∃ q : Int, ssarewrite_DecodePPC64RotateMask.f (e : Int) = some ((r : Int), ((Rot.pick v).1 : Int), q, (v : Int)) := by
  have p := hw.pick
  refine ⟨_, enc_f v r k hw.lt hw.1 hr, ?_, ?_, ?_⟩
  · unfold Rot.val; omega
  · exact Rot.g3 _ _ r 32 (by omega) (by omega) (by omega) (by omega)
  · have d := dec_f (Rot.pick v).1 (Rot.pick v).2 r p.2.1 p.2.2 (by omega)
    rw [p.1] at d
    exact ⟨_, d⟩
theorem mask_all : ∀ t : Nat, t < 32 → ∀ n : Nat, n < 33 → 1 ≤ n → t + n ≤ 32 → spec_Mask.f 70 ((32 - t - n : Nat) : Int) ((31 - t : Nat) : Int) 32 = some (Rot.run t n : Int) := by decide +kernel
theorem end_all : ∀ t : Nat, t < 32 → Go.bits .and .i64 (wrap64 (((32 - t : Nat) : Int) - 1)) (wrap64 ((32 : Int) - 1)) = ((31 - t : Nat) : Int) := by decide +kernel
theorem run_all : ∀ t : Nat, t < 32 → ∀ n : Nat, n < 33 → 1 ≤ n → t + n ≤ 32 → spec_Run.f (t : Int) (n : Int) = some (Rot.run t n : Int) := by decide +kernel
theorem main : laws_FnEncodeDecode32.Pure := by
  intro a b c ha hb hc
  obtain ⟨r, hr, e1⟩ := at_f a 32 (by omega) (by omega)
  obtain ⟨t, ht, e2⟩ := at_f b 32 (by omega) (by omega)
  have w1 : wrap64 (32 - (t : Int)) = ((32 - t : Nat) : Int) := by unfold wrap64; omega
  obtain ⟨m, hm, e3⟩ := at_f c ((32 - t : Nat) : Int) (by omega) (by omega)
  have h1 : 1 ≤ m + 1 := by omega
  have h2 : t + (m + 1) ≤ 32 := by omega
  have un : IntKind.u64.wrap (1 + (m : Int)) = ((m + 1 : Nat) : Int) := by rw [u64mod]; omega
  have hw := Rot.WM.run h1 h2
  have hl := hw.lt
  have p := Rot.pick_run t (by omega) (m + 1) (by omega) h1 h2
  have he := enc_f (Rot.run t (m + 1)) r 69 hl hw.1 (by omega)
  have d := dec_f (Rot.pick (Rot.run t (m + 1))).1 (Rot.pick (Rot.run t (m + 1))).2 r (by omega) (by omega) (by omega)
  have en := end_all t (by omega)
  have mk := mask_all t (by omega) (m + 1) (by omega) h1 h2
  have rn := run_all t (by omega) (m + 1) (by omega) h1 h2
  rw [p.1] at d
  rw [p.2.1, p.2.2, en] at d
  rw [p.2.1, p.2.2] at he
  generalize Rot.run t (m + 1) = v at *
  generalize Rot.val _ _ r 32 = e at *
  refine ⟨70, ?_⟩
  unfold laws_FnEncodeDecode32.f
  rw [e1, Option.bind_some, e2, Option.bind_some, w1, e3, Option.bind_some, Rot.u64N t (by omega), Rot.u64N m (by omega), un, rn, Option.bind_some, Rot.w64N v (by omega)]
  unfold impl_EncodeRotateMask.f ssarewrite_ZZEncodePPC64RotateMask.f
  rw [he, Option.bind_some, Option.bind_some, Option.bind_some]
  unfold impl_DecodeRotateMask.f
  rw [d, Option.bind_some, Option.bind_some]
  simp only
  rw [if_pos trivial, if_pos trivial, if_pos (by omega), if_pos (by omega), if_pos (by omega), Rot.u64N _ (by omega), Rot.u64N _ (by omega), mk, Option.bind_some, beq_self_eq_true]

end CFnEncodeDecode32
theorem FnEncodeDecode32 : laws_FnEncodeDecode32.Pure := CFnEncodeDecode32.main
end Go.Proofs.YtlcaejikcelgoaaDoor.Pure
