/- A shift to the left behind a turn and mask, as one turn and mask, does the same: for all shifts, turns and words. No condition. -/
import Derived.Test.YtlcaejikcelgoaaDoorPFnSldiRlwinmx2
import Derived.Test.YtlcaejikcelgoaaDoorAt
import Derived.Test.YtlcaejikcelgoaaDoorBr
import Derived.Test.YtlcaejikcelgoaaDoorSh
import Derived.Test.YtlcaejikcelgoaaDoorUb
import Derived.Test.YtlcaejikcelgoaaDoorRot
set_option linter.unusedVariables false
set_option linter.unusedSimpArgs false
namespace Go.Proofs.YtlcaejikcelgoaaDoor.Pure
open Go.RowKit Go.Proofs.YtlcaejikcelgoaaDoor.PFnSldiRlwinm Go.Proofs.YtlcaejikcelgoaaDoorW.PrintWords Go.Proofs.YtlcaejikcelgoaaDoorW.PrintLast Go.Proofs.YtlcaejikcelgoaaDoorW.PrintMore
open Br
namespace CFnSldiRlwinm
theorem at_f (a n : Int) (h0 : 0 < n) (h1 : n ≤ 4611686018427387904) : ∃ r : Nat, (r : Int) < n ∧ laws_rwAt.f a n = some (r : Int) := by
  obtain ⟨r, hr, e⟩ := at_any a n h0 h1
  refine ⟨r, hr, ?_⟩
  unfold laws_rwAt.f
  rw [e, if_neg (by omega)]
theorem lowF (x b : Nat) (hb : b < 64) : spec_Low.f (x : Int) (b : Int) = some ((x % 2 ^ b : Nat) : Int) := by
  unfold spec_Low.f; exact lowN x b hb
theorem low32 (x : Nat) : spec_Low.f (x : Int) 32 = some ((x % 2 ^ 32 : Nat) : Int) := lowF x 32 (by decide)
theorem turn_f (x r : Nat) (hr : r < 32) : spec_Turn.f (x : Int) 32 (r : Int) = some (Rot.turn 32 (x % 2 ^ 32) r : Int) := by
  unfold spec_Turn.f
  rw [if_neg (by decide), low32 x, Option.bind_some]
  have e1 : Int.tmod (r : Int) 32 = (r : Int) := by
    show ((r % 32 : Nat) : Int) = (r : Int)
    rw [Nat.mod_eq_of_lt hr]
  have e2 : IntKind.u64.wrap (32 - (r : Int)) = ((32 - r : Nat) : Int) := by rw [u64mod]; omega
  have hx : x % 2 ^ 32 < 2 ^ 32 := Nat.mod_lt _ (Nat.two_pow_pos _)
  have hm : x % 2 ^ 32 * 2 ^ r < 2 ^ 64 := by
    have a : x % 2 ^ 32 * 2 ^ r < 2 ^ 32 * 2 ^ r := Nat.mul_lt_mul_of_pos_right hx (Nat.two_pow_pos r)
    rw [← Nat.pow_add] at a
    exact Nat.lt_of_lt_of_le a (Nat.pow_le_pow_right (by decide) (by omega))
  have hd : x % 2 ^ 32 / 2 ^ (32 - r) < 2 ^ 64 := Nat.lt_of_le_of_lt (Nat.div_le_self _ _) (Nat.lt_of_lt_of_le hx (Nat.pow_le_pow_right (by decide) (by decide)))
  have s1 := shlN .u64 rfl (x % 2 ^ 32) r (by show r ≤ 64; omega)
  rw [show (2 : Nat) ^ IntKind.u64.bits = 2 ^ 64 from rfl, Nat.mod_eq_of_lt hm] at s1
  have s2 := shrN .u64 (x % 2 ^ 32) (32 - r) (by show 32 - r ≤ 64; omega)
  rw [e1, e2, if_pos (by omega), if_pos (by omega), s1, s2, orN .u64 rfl _ _ hm hd, low32, Option.bind_some]
  rfl
theorem rotated_f (x r v : Nat) (hr : r < 32) (hv : v < 4294967296) : spec_Rotated.f (x : Int) 32 (r : Int) (v : Int) = some ((Rot.turn 32 (x % 2 ^ 32) r &&& v : Nat) : Int) := by
  unfold spec_Rotated.f
  have ht := Rot.turn_lt 32 (x % 2 ^ 32) r
  rw [turn_f x r hr, Option.bind_some, andN .u64 rfl _ v (Nat.lt_of_lt_of_le ht (by decide)) (Nat.lt_of_lt_of_le hv (by decide))]
theorem lz32 (v : Nat) (hv : v < 4294967296) : bits_LeadingZeros32.f (v : Int) = some ((32 - Lib.bitLen v : Nat) : Int) := by
  unfold bits_LeadingZeros32.f
  have := Lib.bitLen_le v 32 (by decide) hv
  rw [if_pos (by omega), Int.toNat_natCast]
  congr 1; omega
theorem ctz_le (v : Nat) (hv : v < 4294967296) : Lib.ctz 32 v ≤ 32 := by
  unfold Lib.ctz
  by_cases h : v = 0
  · rw [if_pos h]; omega
  · rw [if_neg h]
    obtain ⟨m, _, h2⟩ := Lib.ctzFrom_spec 32 v (by omega) hv
    omega
theorem tz32 (v : Nat) (hv : v < 4294967296) : bits_TrailingZeros32.f (v : Int) = some (Lib.ctz 32 v : Int) := by
  unfold bits_TrailingZeros32.f
  rw [if_pos (by omega), Int.toNat_natCast]
theorem enc_f (v r k : Nat) (hv : v < 4294967296) (h0 : v ≠ 0) (hr : r < 32) : ssarewrite_encodePPC64RotateMask.f (k + 1) (r : Int) (v : Int) 32 = some (Rot.val (Rot.pick v).1 (Rot.pick v).2 r 32 : Int) := by
  unfold ssarewrite_encodePPC64RotateMask.f
  have hb := Lib.bitLen_le v 32 (by decide) hv
  have hb' := Lib.bitLen_le (4294967295 - v) 32 (by decide) (by omega)
  have hc := ctz_le v hv
  have hc' := ctz_le (4294967295 - v) (by omega)
  have em : (v : Int) % 4294967296 = (v : Int) := by omega
  rw [if_neg (by omega), if_neg (Rot.not_ne (v : Int) (by omega) (by omega) (by omega)), show decide ((r : Int) ≥ 32) = false by simp; omega]
  simp only [ssarewrite_encodePPC64RotateMask.j0]
  rw [if_neg (by decide), if_pos (by trivial), em, Rot.not32 v hv, lz32 v hv, tz32 v hv, lz32 _ (show 4294967295 - v < 4294967296 by omega), tz32 _ (show 4294967295 - v < 4294967296 by omega)]
  simp only [Option.bind_some]
  have e1 : wrap64 (32 - (Lib.ctz 32 v : Int)) = ((32 - Lib.ctz 32 v : Nat) : Int) := by unfold wrap64; omega
  have e2 : wrap64 (32 - (Lib.ctz 32 (4294967295 - v) : Int)) = ((32 - Lib.ctz 32 (4294967295 - v) : Nat) : Int) := by unfold wrap64; omega
  rw [e1, e2]
  have v1 := Rot.val_or (32 - Lib.ctz 32 (4294967295 - v)) (32 - Lib.bitLen (4294967295 - v)) r 32 (by omega) (by omega) (by omega) (by omega)
  have v2 := Rot.val_or (32 - Lib.bitLen v) (32 - Lib.ctz 32 v) r 32 (by omega) (by omega) (by omega) (by omega)
  rw [show ((32 : Nat) : Int) = 32 from rfl] at v1 v2
  unfold Rot.pick
  by_cases c1 : 32 - Lib.bitLen v = 0
  · rw [if_pos (by omega)]
    by_cases c2 : 32 - Lib.ctz 32 v = 32
    · rw [if_pos (by omega), if_pos ⟨c1, c2⟩, v1]
    · rw [if_neg (by omega), if_neg (fun h => c2 h.2), v2]
  · rw [if_neg (by omega), if_neg (fun h => c1 h.1), v2]
/-- The mask of a value, as the program reckons it. -/
def maskI (mb me : Nat) : Int :=
  if (mb : Int) > (me : Int) then (Go.bits .xor .u64 18446744073709551615 (Go.bits .xor .u64 (IntKind.u64.wrap ((shl .u64 1 (IntKind.u64.wrap (wrap64 (32 - (mb : Int))))) - 1)) (IntKind.u64.wrap ((shl .u64 1 (IntKind.u64.wrap (wrap64 (32 - (me : Int))))) - 1)))) % 4294967296
  else (Go.bits .xor .u64 (IntKind.u64.wrap ((shl .u64 1 (IntKind.u64.wrap (wrap64 (32 - (mb : Int))))) - 1)) (IntKind.u64.wrap ((shl .u64 1 (IntKind.u64.wrap (wrap64 (32 - (me : Int))))) - 1))) % 4294967296
theorem maskI_all : ∀ mb, mb < 33 → ∀ me, me < 33 → maskI mb me = (Rot.maskOf mb me : Int) := by decide +kernel
theorem dec_f (mb me r : Nat) (h1 : mb ≤ 32) (h2 : me ≤ 32) (h3 : r < 256) :
    ssarewrite_DecodePPC64RotateMask.f (Rot.val mb me r 32 : Int) = some ((r : Int), (mb : Int), Go.bits .and .i64 (wrap64 ((me : Int) - 1)) (wrap64 ((32 : Int) - 1)), (Rot.maskOf mb me : Int)) := by
  have a0 := Rot.f0 mb me r 32 (by omega) (by omega) h3 (by omega)
  have a1 := Rot.f1 mb me r 32 (by omega) (by omega) h3 (by omega)
  have a2 := Rot.f2 mb me r 32 (by omega) (by omega) h3 (by omega)
  have a3 := Rot.f3 mb me r 32 (by omega) (by omega) h3 (by omega)
  have u := Rot.u_val mb me r 32 (by omega) (by omega) h3 (by omega)
  rw [show ((32 : Nat) : Int) = 32 from rfl] at a3
  have m := maskI_all mb (by omega) me (by omega)
  unfold ssarewrite_DecodePPC64RotateMask.f
  rw [u, a0, a1, a2, a3]
  have p1 : 0 ≤ IntKind.u64.wrap (wrap64 (32 - (mb : Int))) := by rw [u64mod]; omega
  have p2 : 0 ≤ IntKind.u64.wrap (wrap64 (32 - (me : Int))) := by rw [u64mod]; omega
  rw [if_pos p1, if_pos p2, ← m]
  unfold maskI
  by_cases c : (mb : Int) > (me : Int)
  · simp only [if_pos c, if_true]
  · simp only [if_neg c, if_true]
theorem decoded (v r k : Nat) (hw : Rot.WM v) (hr : r < 32) : ∃ e : Nat, ssarewrite_encodePPC64RotateMask.f (k + 1) (r : Int) (v : Int) 32 = some (e : Int) ∧ (e : Int) ≠ 0 ∧ Go.bits .and .i64 ((e : Int) / 16777216) 255 = 32 ∧
    ∃ q : Int, ssarewrite_DecodePPC64RotateMask.f (e : Int) = some ((r : Int), ((Rot.pick v).1 : Int), q, (v : Int)) := by
  have p := hw.pick
  refine ⟨_, enc_f v r k hw.lt hw.1 hr, ?_, ?_, ?_⟩
  · unfold Rot.val; omega
  · exact Rot.g3 _ _ r 32 (by omega) (by omega) (by omega) (by omega)
  · have d := dec_f (Rot.pick v).1 (Rot.pick v).2 r p.2.1 p.2.2 (by omega)
    rw [p.1] at d
    exact ⟨_, d⟩
theorem bit_f (x i : Nat) (hi : i ≤ 64) : spec_bit.f (x : Int) (i : Int) = some ((x / 2 ^ i % 2 : Nat) : Int) := by
  unfold spec_bit.f
  rw [if_pos (by omega), shrN .u64 x i (by show i ≤ 64; omega), Int.tmod_eq_emod_of_nonneg (Int.natCast_nonneg _)]
  push_cast; rfl
/-- The bit below a place. -/
def below (x i : Nat) : Nat := if i = 0 then 0 else x / 2 ^ (i - 1) % 2
theorem below_succ (x i : Nat) : below x (i + 1) = x / 2 ^ i % 2 := by simp [below]
theorem isrun_loop (x : Nat) (hx : x < 18446744073709551616) : ∀ d k i n : Nat, i + d = 64 → d < k → n ≤ i →
    spec_IsRun.l0 k (x : Int) (n : Int) (i : Int) = some (((n + Ub.ups d (below x i) (x / 2 ^ i) : Nat) : Int) == 1) := by
  intro d
  induction d with
  | zero =>
    intro k i n hi hk hn
    obtain ⟨k, rfl⟩ : ∃ m, k = m + 1 := ⟨k - 1, by omega⟩
    simp only [spec_IsRun.l0]
    rw [if_neg (by omega)]
    simp [Ub.ups]
  | succ d ih =>
    intro k i n hi hk hn
    obtain ⟨k, rfl⟩ : ∃ m, k = m + 1 := ⟨k - 1, by omega⟩
    have e2 : wrap64 ((n : Int) + 1) = ((n + 1 : Nat) : Int) := by unfold wrap64; omega
    have e3 : IntKind.u64.wrap ((i : Int) + 1) = ((i + 1 : Nat) : Int) := wrap_lt .u64 rfl (i + 1) (by show i + 1 < 2 ^ 64; omega)
    have e4 : x / 2 ^ i / 2 = x / 2 ^ (i + 1) := by rw [Nat.div_div_eq_div_mul, ← Nat.pow_succ]
    have h0 := ih k (i + 1) n (by omega) (by omega) (by omega)
    have h1 := ih k (i + 1) (n + 1) (by omega) (by omega) (by omega)
    rw [below_succ] at h0 h1
    simp only [spec_IsRun.l0]
    rw [if_pos (by omega), bit_f x i (by omega), Ub.ups, e4]
    simp only [Option.bind_some]
    by_cases hb : x / 2 ^ i % 2 = 1
    · rw [if_pos (by rw [hb]; rfl)]
      by_cases hi0 : i = 0
      · rw [if_pos (by omega), e2, e3, h1]
        have : below x i = 0 := by simp [below, hi0]
        rw [if_pos ⟨hb, this⟩, Nat.add_assoc]
      · have e5 : IntKind.u64.wrap ((i : Int) - 1) = ((i - 1 : Nat) : Int) := by
          rw [show (i : Int) - 1 = ((i - 1 : Nat) : Int) by omega]
          exact wrap_lt .u64 rfl (i - 1) (by show i - 1 < 2 ^ 64; omega)
        have e6 : below x i = x / 2 ^ (i - 1) % 2 := by simp [below, hi0]
        rw [if_neg (by omega), e5, bit_f x (i - 1) (by omega), ← e6]
        simp only [Option.bind_some]
        by_cases hp : below x i = 0
        · rw [if_pos (by rw [hp]; rfl), e2, e3, h1, if_pos ⟨hb, hp⟩, Nat.add_assoc]
        · rw [if_neg (by omega), e3, h0, if_neg (fun h => hp h.2), Nat.zero_add]
    · rw [if_neg (by omega), e3, h0, if_neg (fun h => hb h.1), Nat.zero_add]
theorem isrun_f (x : Nat) (hx : x < 18446744073709551616) (k : Nat) (hk : 64 < k) : spec_IsRun.f k (x : Int) = some (((Ub.ups 64 0 x : Nat) : Int) == 1) := by
  have := isrun_loop x hx 64 k 0 0 (by omega) (by omega) (by omega)
  simpa [spec_IsRun.f, below] using this
theorem good_f (e x want r v k : Nat) (q1 q2 : Int) (hd : ssarewrite_DecodePPC64RotateMask.f (e : Int) = some ((r : Int), q1, q2, (v : Int))) (he : Go.bits .and .i64 ((e : Int) / 16777216) 255 = 32) (hr : r < 32) (hv : v < 4294967296) (hk : 65 < k)
    (hw : want < 4294967296) (h : Rot.turn 32 (x % 2 ^ 32) r &&& v = want) : laws_mkGood.f k (e : Int) (x : Int) (want : Int) = some true := by
  obtain ⟨k, rfl⟩ : ∃ m, k = m + 1 := ⟨k - 1, by omega⟩
  unfold laws_mkGood.f impl_DecodeRotateMask.f
  rw [hd]
  simp only [Option.bind_some]
  rw [he, if_pos rfl, if_neg (by omega), if_neg (by omega)]
  have e0 : ((v : Int) / 4294967296 != 0) = false := by
    rw [show (v : Int) / 4294967296 = 0 by omega]; rfl
  have u : IntKind.u64.wrap (r : Int) = (r : Int) := Rot.u64N r (by omega)
  have l : spec_Low.f (want : Int) 32 = some (want : Int) := by rw [low32, Nat.mod_eq_of_lt hw]
  rw [e0]
  simp only [laws_mkGood.j0]
  rw [if_neg (by decide), isrun_f v (by omega) k (by omega), u, rotated_f x r v hr hv, h, l]
  simp only [Option.bind_some]
  by_cases c : (((Ub.ups 64 0 v : Nat) : Int) == 1) = true
  · rw [if_pos c, beq_self_eq_true]
  · rw [if_neg c, beq_self_eq_true]
theorem works : laws_mkWorks.f = some true := by decide +kernel
theorem mask_all : ∀ p : Nat, p < 32 → ∀ q : Nat, q < 32 → spec_Mask.f 70 (mn (p : Int) (q : Int)) (mx (p : Int) (q : Int)) 32 = some (Rot.run (31 - max p q) (max p q - min p q + 1) : Int) := by decide +kernel
theorem end_all : ∀ t : Nat, t < 32 → Go.bits .and .i64 (wrap64 (((32 - t : Nat) : Int) - 1)) (wrap64 ((32 : Int) - 1)) = ((31 - t : Nat) : Int) := by decide +kernel
theorem mkMask_f (b c : Int) : ∃ t n : Nat, 1 ≤ n ∧ t + n ≤ 32 ∧ laws_mkMask.f 70 b c = some (Rot.run t n : Int) := by
  obtain ⟨p, hp, e1⟩ := at_f b 32 (by omega) (by omega)
  obtain ⟨q, hq, e2⟩ := at_f c 32 (by omega) (by omega)
  refine ⟨31 - max p q, max p q - min p q + 1, by omega, by omega, ?_⟩
  unfold laws_mkMask.f
  rw [e1, Option.bind_some, e2, Option.bind_some, Rot.u64N p (by omega), Rot.u64N q (by omega), mask_all p (by omega) q (by omega), Option.bind_some]
theorem mkCode_f (a b c : Int) : ∃ r t n e : Nat, r < 32 ∧ 1 ≤ n ∧ t + n ≤ 32 ∧ laws_rwAt.f a 32 = some (r : Int) ∧ laws_mkMask.f 70 b c = some (Rot.run t n : Int) ∧ laws_mkCode.f 70 a b c = some (e : Int) ∧
    ssarewrite_DecodePPC64RotateMask.f (e : Int) = some ((r : Int), ((32 - t - n : Nat) : Int), ((31 - t : Nat) : Int), (Rot.run t n : Int)) := by
  obtain ⟨r, hr, e1⟩ := at_f a 32 (by omega) (by omega)
  obtain ⟨t, n, h1, h2, e2⟩ := mkMask_f b c
  have hw := Rot.WM.run h1 h2
  have hl := hw.lt
  have p := Rot.pick_run t (by omega) n (by omega) h1 h2
  have he := enc_f (Rot.run t n) r 69 hl hw.1 (by omega)
  refine ⟨r, t, n, Rot.val (Rot.pick (Rot.run t n)).1 (Rot.pick (Rot.run t n)).2 r 32, by omega, h1, h2, e1, e2, ?_, ?_⟩
  · unfold laws_mkCode.f
    rw [e1, Option.bind_some, e2, Option.bind_some, Rot.w64N _ (Nat.lt_trans hl (by decide))]
    unfold impl_EncodeRotateMask.f ssarewrite_ZZEncodePPC64RotateMask.f
    rw [he]; rfl
  · have d := dec_f (Rot.pick (Rot.run t n)).1 (Rot.pick (Rot.run t n)).2 r (by omega) (by omega) (by omega)
    have en := end_all t (by omega)
    rw [p.1] at d
    rw [d, p.2.1, p.2.2, en]
theorem mkDoes_f (a b c : Int) (x r t n : Nat) (hr : r < 32) (hn : t + n ≤ 32) (e1 : laws_rwAt.f a 32 = some (r : Int)) (e2 : laws_mkMask.f 70 b c = some (Rot.run t n : Int)) :
    laws_mkDoes.f 70 a b c (x : Int) = some ((Rot.turn 32 (x % 2 ^ 32) r &&& Rot.run t n : Nat) : Int) := by
  unfold laws_mkDoes.f
  rw [e1, Option.bind_some, e2, Option.bind_some, Rot.u64N r (by omega), rotated_f x r _ hr (Rot.run_lt t n 32 hn)]
  rfl
theorem law (x r t n k : Nat) (hr : r < 32) (h : t + n + k ≤ 32) : Rot.turn 32 (x % 2 ^ 32) ((r + k) % 32) &&& Rot.run (t + k) n = (Rot.turn 32 (x % 2 ^ 32) r &&& Rot.run t n) * 2 ^ k := by
  apply Nat.eq_of_testBit_eq
  intro i
  have hx : x % 2 ^ 32 < 2 ^ 32 := Nat.mod_lt _ (Nat.two_pow_pos _)
  rw [Nat.testBit_and, Nat.testBit_mul_two_pow, Nat.testBit_and, Rot.run_bit, Rot.run_bit]
  by_cases c : t + k ≤ i ∧ i < t + k + n
  · rw [Rot.turn_bit 32 _ _ i hx (Nat.mod_lt _ (by decide)) (by omega), Rot.turn_bit 32 _ _ (i - k) hx hr (by omega)]
    have e : (i + 32 - (r + k) % 32) % 32 = (i - k + 32 - r) % 32 := by omega
    have c1 : t ≤ i - k := by omega
    have c2 : i - k < t + n := by omega
    have c3 : k ≤ i := by omega
    rw [e]
    simp [c.1, c.2, c1, c2, c3]
  · have : (decide (t + k ≤ i) && decide (i < t + k + n)) = false := by
      rw [Bool.eq_false_iff]; intro h'
      simp only [Bool.and_eq_true, decide_eq_true_eq] at h'
      exact c h'
    rw [this, Bool.and_false]
    by_cases hk : k ≤ i
    · have : (decide (t ≤ i - k) && decide (i - k < t + n)) = false := by
        rw [Bool.eq_false_iff]; intro h'
        simp only [Bool.and_eq_true, decide_eq_true_eq] at h'
        exact c (by omega)
      rw [this]; simp
    · simp [hk]
theorem run_shl (t n k : Nat) : Rot.run t n * 2 ^ k = Rot.run (t + k) n := by
  unfold Rot.run; rw [Nat.pow_add, Nat.mul_assoc, Nat.mul_comm (2 ^ n - 1), ← Nat.mul_assoc]
theorem merged (k r t n e0 : Nat) (hk : k < 64) (hr : r < 32) (h1 : 1 ≤ n) (h2 : t + n ≤ 32)
    (hd0 : ssarewrite_DecodePPC64RotateMask.f (e0 : Int) = some ((r : Int), ((32 - t - n : Nat) : Int), ((31 - t : Nat) : Int), (Rot.run t n : Int))) :
    impl_SldiRlwinm.f 71 (k : Int) (e0 : Int) = some 0 ∨ ∃ e : Nat, t + n + k ≤ 32 ∧ impl_SldiRlwinm.f 71 (k : Int) (e0 : Int) = some (e : Int) ∧ (e : Int) ≠ 0 ∧ Go.bits .and .i64 ((e : Int) / 16777216) 255 = 32 ∧
      ∃ q1 q2 : Int, ssarewrite_DecodePPC64RotateMask.f (e : Int) = some ((((r + k) % 32 : Nat) : Int), q1, q2, (Rot.run (t + k) n : Int)) := by
  unfold impl_SldiRlwinm.f ssarewrite_ZZMergePPC64SldiRlwinm.f ssarewrite_mergePPC64SldiRlwinm.f
  rw [hd0, Option.bind_some]
  simp only
  rw [if_neg (by omega)]
  simp only [ssarewrite_mergePPC64SldiRlwinm.j0]
  by_cases c : ((32 - t - n : Nat) : Int) < (k : Int)
  · left; rw [decide_eq_true c, if_pos rfl]; rfl
  · right
    have hs : t + k + n ≤ 32 := by omega
    have hw := Rot.WM.run h1 hs
    have hl := hw.lt
    have es : shl .u64 (Rot.run t n : Int) (k : Int) = (Rot.run (t + k) n : Int) := by
      rw [shlN .u64 rfl _ k (by show k ≤ 64; omega), run_shl]
      congr 1
      exact Nat.mod_eq_of_lt (Nat.lt_trans hl (by decide))
    have er : Go.bits .and .i64 (wrap64 ((r : Int) + (k : Int))) 31 = (((r + k) % 32 : Nat) : Int) := by
      rw [show wrap64 ((r : Int) + (k : Int)) = ((r + k : Nat) : Int) by unfold wrap64; omega, Rot.iand31 _ (by omega)]
    have eu : (Rot.run (t + k) n : Int) % 4294967296 = (Rot.run (t + k) n : Int) := by omega
    obtain ⟨e, he, he0, he3, q, hd⟩ := decoded (Rot.run (t + k) n) ((r + k) % 32) 69 hw (Nat.mod_lt _ (by decide))
    rw [decide_eq_false c, if_neg (by decide), if_pos (by omega), es, eu, if_pos rfl, er, Rot.w64N _ (Nat.lt_trans hl (by decide)), he]
    exact ⟨e, by omega, rfl, he0, he3, _, q, hd⟩
theorem main : laws_FnSldiRlwinm.Pure := by
  intro a b c d f ha hb hc hd hf
  have hf := wf_u64 hf
  obtain ⟨k, hk, ek⟩ := at_f a 64 (by omega) (by omega)
  obtain ⟨x, rfl⟩ := Int.eq_ofNat_of_zero_le hf.1
  obtain ⟨r, t, n, e0, hr, h1, h2, e1, e2, ec, ed⟩ := mkCode_f b c d
  have hdo := mkDoes_f b c d x r t n hr h2 e1 e2
  have ec1 := laws_mkCode.mono b c d 70 _ ec
  have hdo1 := laws_mkDoes.mono b c d x 70 _ hdo
  refine ⟨71, ?_⟩
  unfold laws_FnSldiRlwinm.f
  rw [ec1, Option.bind_some, ek, Option.bind_some, works, hdo1]
  obtain hz | ⟨e, hs, he, he0, he3, q1, q2, hd⟩ := merged k r t n e0 (by omega) hr h1 h2 ed
  · rw [hz]; rfl
  · have hl := law x r t n k hr hs
    obtain ⟨T, hT⟩ : ∃ T, Rot.turn 32 (x % 2 ^ 32) r &&& Rot.run t n = T := ⟨_, rfl⟩
    rw [hT] at hl
    have hv : Rot.run (t + k) n < 4294967296 := Rot.run_lt (t + k) n 32 (by omega)
    have hwant : T * 2 ^ k < 4294967296 := by rw [← hl]; exact Nat.lt_of_le_of_lt Nat.and_le_right hv
    have es : shl .u64 (T : Int) (k : Int) = ((T * 2 ^ k : Nat) : Int) := by
      rw [shlN .u64 rfl T k (by show k ≤ 64; omega)]
      congr 1
      exact Nat.mod_eq_of_lt (Nat.lt_trans hwant (by decide))
    have hg := good_f e x (T * 2 ^ k) _ _ 71 q1 q2 hd he3 (Nat.mod_lt _ (by decide)) hv (by decide) hwant hl
    rw [he, Option.bind_some, Option.bind_some, if_pos rfl, if_neg he0, Option.bind_some, if_pos (by omega), hT, es, hg]
    rfl

end CFnSldiRlwinm
theorem FnSldiRlwinm : laws_FnSldiRlwinm.Pure := CFnSldiRlwinm.main
end Go.Proofs.YtlcaejikcelgoaaDoor.Pure
