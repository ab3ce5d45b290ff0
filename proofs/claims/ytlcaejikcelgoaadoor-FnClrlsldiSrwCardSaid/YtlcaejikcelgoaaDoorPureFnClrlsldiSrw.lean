/- A clearing of bits at the high end and a shift to the left behind a shift to the right of 32 bits, as one turn and mask, does the same: for all of them and all words. No condition. -/
import Derived.Test.YtlcaejikcelgoaaDoorPFnClrlsldiSrwx2
import Derived.Test.YtlcaejikcelgoaaDoorAt
import Derived.Test.YtlcaejikcelgoaaDoorBr
import Derived.Test.YtlcaejikcelgoaaDoorSh
import Derived.Test.YtlcaejikcelgoaaDoorUb
import Derived.Test.YtlcaejikcelgoaaDoorRot
import Derived.Test.YtlcaejikcelgoaaDoorWkClrlsldiSrw
set_option linter.unusedVariables false
set_option linter.unusedSimpArgs false
namespace Go.Proofs.YtlcaejikcelgoaaDoor.Pure
open Go.RowKit Go.Proofs.YtlcaejikcelgoaaDoor.PFnClrlsldiSrw Go.Proofs.YtlcaejikcelgoaaDoorW.PrintWords Go.Proofs.YtlcaejikcelgoaaDoorW.PrintLast Go.Proofs.YtlcaejikcelgoaaDoorW.PrintMore
open Br
namespace CClrlsldiSrw
theorem at_f (a n : Int) (h0 : 0 < n) (h1 : n ≤ 4611686018427387904) : ∃ r : Nat, (r : Int) < n ∧ laws_rwAt.f a n = some (r : Int) := by
  obtain ⟨r, hr, e⟩ := at_any a n h0 h1
  refine ⟨r, hr, ?_⟩
  unfold laws_rwAt.f
  rw [e, if_neg (by omega)]
theorem lowF (x b : Nat) (hb : b < 64) : spec_Low.f (x : Int) (b : Int) = some ((x % 2 ^ b : Nat) : Int) := by
  unfold spec_Low.f; exact lowN x b hb
theorem low32 (x : Nat) : spec_Low.f (x : Int) 32 = some ((x % 2 ^ 32 : Nat) : Int) := lowF x 32 (by decide)
theorem turn_f (x r : Nat) (hr : r < 32) : spec_Turn.f (x : Int) 32 (r : Int) = some (Rot.turn 32 (x % 2 ^ 32) r : Int) := by
  unfold spec_Turn.f
  rw [if_neg (by decide), low32 x, Option.bind_some]
  have e1 : Int.tmod (r : Int) 32 = (r : Int) := by
    show ((r % 32 : Nat) : Int) = (r : Int)
    rw [Nat.mod_eq_of_lt hr]
  have e2 : IntKind.u64.wrap (32 - (r : Int)) = ((32 - r : Nat) : Int) := by rw [u64mod]; omega
  have hx : x % 2 ^ 32 < 2 ^ 32 := Nat.mod_lt _ (Nat.two_pow_pos _)
  have hm : x % 2 ^ 32 * 2 ^ r < 2 ^ 64 := by
    have a : x % 2 ^ 32 * 2 ^ r < 2 ^ 32 * 2 ^ r := Nat.mul_lt_mul_of_pos_right hx (Nat.two_pow_pos r)
    rw [← Nat.pow_add] at a
    exact Nat.lt_of_lt_of_le a (Nat.pow_le_pow_right (by decide) (by omega))
  have hd : x % 2 ^ 32 / 2 ^ (32 - r) < 2 ^ 64 := Nat.lt_of_le_of_lt (Nat.div_le_self _ _) (Nat.lt_of_lt_of_le hx (Nat.pow_le_pow_right (by decide) (by decide)))
  have s1 := shlN .u64 rfl (x % 2 ^ 32) r (by show r ≤ 64; omega)
  rw [show (2 : Nat) ^ IntKind.u64.bits = 2 ^ 64 from rfl, Nat.mod_eq_of_lt hm] at s1
  have s2 := shrN .u64 (x % 2 ^ 32) (32 - r) (by show 32 - r ≤ 64; omega)
  rw [e1, e2, if_pos (by omega), if_pos (by omega), s1, s2, orN .u64 rfl _ _ hm hd, low32, Option.bind_some]
  rfl
theorem rotated_f (x r v : Nat) (hr : r < 32) (hv : v < 4294967296) : spec_Rotated.f (x : Int) 32 (r : Int) (v : Int) = some ((Rot.turn 32 (x % 2 ^ 32) r &&& v : Nat) : Int) := by
  unfold spec_Rotated.f
  have ht := Rot.turn_lt 32 (x % 2 ^ 32) r
  rw [turn_f x r hr, Option.bind_some, andN .u64 rfl _ v (Nat.lt_of_lt_of_le ht (by decide)) (Nat.lt_of_lt_of_le hv (by decide))]
theorem lz32 (v : Nat) (hv : v < 4294967296) : bits_LeadingZeros32.f (v : Int) = some ((32 - Lib.bitLen v : Nat) : Int) := by
  unfold bits_LeadingZeros32.f
  have := Lib.bitLen_le v 32 (by decide) hv
  rw [if_pos (by omega), Int.toNat_natCast]
  congr 1; omega
theorem ctz_le (v : Nat) (hv : v < 4294967296) : Lib.ctz 32 v ≤ 32 := by
  unfold Lib.ctz
  by_cases h : v = 0
  · rw [if_pos h]; omega
  · rw [if_neg h]
    obtain ⟨m, _, h2⟩ := Lib.ctzFrom_spec 32 v (by omega) hv
    omega
theorem tz32 (v : Nat) (hv : v < 4294967296) : bits_TrailingZeros32.f (v : Int) = some (Lib.ctz 32 v : Int) := by
  unfold bits_TrailingZeros32.f
  rw [if_pos (by omega), Int.toNat_natCast]
theorem enc_f (v r k : Nat) (hv : v < 4294967296) (h0 : v ≠ 0) (hr : r < 32) : ssarewrite_encodePPC64RotateMask.f (k + 1) (r : Int) (v : Int) 32 = some (Rot.val (Rot.pick v).1 (Rot.pick v).2 r 32 : Int) := by
  unfold ssarewrite_encodePPC64RotateMask.f
  have hb := Lib.bitLen_le v 32 (by decide) hv
  have hb' := Lib.bitLen_le (4294967295 - v) 32 (by decide) (by omega)
  have hc := ctz_le v hv
  have hc' := ctz_le (4294967295 - v) (by omega)
  have em : (v : Int) % 4294967296 = (v : Int) := by omega
  rw [if_neg (by omega), if_neg (Rot.not_ne (v : Int) (by omega) (by omega) (by omega)), show decide ((r : Int) ≥ 32) = false by simp; omega]
  simp only [ssarewrite_encodePPC64RotateMask.j0]
  rw [if_neg (by decide), if_pos (by trivial), em, Rot.not32 v hv, lz32 v hv, tz32 v hv, lz32 _ (show 4294967295 - v < 4294967296 by omega), tz32 _ (show 4294967295 - v < 4294967296 by omega)]
  simp only [Option.bind_some]
  have e1 : wrap64 (32 - (Lib.ctz 32 v : Int)) = ((32 - Lib.ctz 32 v : Nat) : Int) := by unfold wrap64; omega
  have e2 : wrap64 (32 - (Lib.ctz 32 (4294967295 - v) : Int)) = ((32 - Lib.ctz 32 (4294967295 - v) : Nat) : Int) := by unfold wrap64; omega
  rw [e1, e2]
  have v1 := Rot.val_or (32 - Lib.ctz 32 (4294967295 - v)) (32 - Lib.bitLen (4294967295 - v)) r 32 (by omega) (by omega) (by omega) (by omega)
  have v2 := Rot.val_or (32 - Lib.bitLen v) (32 - Lib.ctz 32 v) r 32 (by omega) (by omega) (by omega) (by omega)
  rw [show ((32 : Nat) : Int) = 32 from rfl] at v1 v2
  unfold Rot.pick
  by_cases c1 : 32 - Lib.bitLen v = 0
  · rw [if_pos (by omega)]
    by_cases c2 : 32 - Lib.ctz 32 v = 32
    · rw [if_pos (by omega), if_pos ⟨c1, c2⟩, v1]
    · rw [if_neg (by omega), if_neg (fun h => c2 h.2), v2]
  · rw [if_neg (by omega), if_neg (fun h => c1 h.1), v2]
/-- The mask of a value, as the program reckons it. -/
def maskI (mb me : Nat) : Int :=
  if (mb : Int) > (me : Int) then (Go.bits .xor .u64 18446744073709551615 (Go.bits .xor .u64 (IntKind.u64.wrap ((shl .u64 1 (IntKind.u64.wrap (wrap64 (32 - (mb : Int))))) - 1)) (IntKind.u64.wrap ((shl .u64 1 (IntKind.u64.wrap (wrap64 (32 - (me : Int))))) - 1)))) % 4294967296
  else (Go.bits .xor .u64 (IntKind.u64.wrap ((shl .u64 1 (IntKind.u64.wrap (wrap64 (32 - (mb : Int))))) - 1)) (IntKind.u64.wrap ((shl .u64 1 (IntKind.u64.wrap (wrap64 (32 - (me : Int))))) - 1))) % 4294967296
theorem maskI_all : ∀ mb, mb < 33 → ∀ me, me < 33 → maskI mb me = (Rot.maskOf mb me : Int) := by decide +kernel
theorem dec_f (mb me r : Nat) (h1 : mb ≤ 32) (h2 : me ≤ 32) (h3 : r < 256) :
    ssarewrite_DecodePPC64RotateMask.f (Rot.val mb me r 32 : Int) = some ((r : Int), (mb : Int), Go.bits .and .i64 (wrap64 ((me : Int) - 1)) (wrap64 ((32 : Int) - 1)), (Rot.maskOf mb me : Int)) := by
  have a0 := Rot.f0 mb me r 32 (by omega) (by omega) h3 (by omega)
  have a1 := Rot.f1 mb me r 32 (by omega) (by omega) h3 (by omega)
  have a2 := Rot.f2 mb me r 32 (by omega) (by omega) h3 (by omega)
  have a3 := Rot.f3 mb me r 32 (by omega) (by omega) h3 (by omega)
  have u := Rot.u_val mb me r 32 (by omega) (by omega) h3 (by omega)
  rw [show ((32 : Nat) : Int) = 32 from rfl] at a3
  have m := maskI_all mb (by omega) me (by omega)
  unfold ssarewrite_DecodePPC64RotateMask.f
  rw [u, a0, a1, a2, a3]
  have p1 : 0 ≤ IntKind.u64.wrap (wrap64 (32 - (mb : Int))) := by rw [u64mod]; omega
  have p2 : 0 ≤ IntKind.u64.wrap (wrap64 (32 - (me : Int))) := by rw [u64mod]; omega
  rw [if_pos p1, if_pos p2, ← m]
  unfold maskI
  by_cases c : (mb : Int) > (me : Int)
  · simp only [if_pos c, if_true]
  · simp only [if_neg c, if_true]
theorem decoded (v r k : Nat) (hw : Rot.WM v) (hr : r < 32) : ∃ e : Nat, ssarewrite_encodePPC64RotateMask.f (k + 1) (r : Int) (v : Int) 32 = some (e : Int) ∧ (e : Int) ≠ 0 ∧ Go.bits .and .i64 ((e : Int) / 16777216) 255 = 32 ∧
    ∃ q : Int, ssarewrite_DecodePPC64RotateMask.f (e : Int) = some ((r : Int), ((Rot.pick v).1 : Int), q, (v : Int)) := by
  have p := hw.pick
  refine ⟨_, enc_f v r k hw.lt hw.1 hr, ?_, ?_, ?_⟩
  · unfold Rot.val; omega
  · exact Rot.g3 _ _ r 32 (by omega) (by omega) (by omega) (by omega)
  · have d := dec_f (Rot.pick v).1 (Rot.pick v).2 r p.2.1 p.2.2 (by omega)
    rw [p.1] at d
    exact ⟨_, d⟩
theorem bit_f (x i : Nat) (hi : i ≤ 64) : spec_bit.f (x : Int) (i : Int) = some ((x / 2 ^ i % 2 : Nat) : Int) := by
  unfold spec_bit.f
  rw [if_pos (by omega), shrN .u64 x i (by show i ≤ 64; omega), Int.tmod_eq_emod_of_nonneg (Int.natCast_nonneg _)]
  push_cast; rfl
/-- The bit below a place. -/
def below (x i : Nat) : Nat := if i = 0 then 0 else x / 2 ^ (i - 1) % 2
theorem below_succ (x i : Nat) : below x (i + 1) = x / 2 ^ i % 2 := by simp [below]
theorem isrun_loop (x : Nat) (hx : x < 18446744073709551616) : ∀ d k i n : Nat, i + d = 64 → d < k → n ≤ i →
    spec_IsRun.l0 k (x : Int) (n : Int) (i : Int) = some (((n + Ub.ups d (below x i) (x / 2 ^ i) : Nat) : Int) == 1) := by
  intro d
  induction d with
  | zero =>
    intro k i n hi hk hn
    obtain ⟨k, rfl⟩ : ∃ m, k = m + 1 := ⟨k - 1, by omega⟩
    simp only [spec_IsRun.l0]
    rw [if_neg (by omega)]
    simp [Ub.ups]
  | succ d ih =>
    intro k i n hi hk hn
    obtain ⟨k, rfl⟩ : ∃ m, k = m + 1 := ⟨k - 1, by omega⟩
    have e2 : wrap64 ((n : Int) + 1) = ((n + 1 : Nat) : Int) := by unfold wrap64; omega
    have e3 : IntKind.u64.wrap ((i : Int) + 1) = ((i + 1 : Nat) : Int) := wrap_lt .u64 rfl (i + 1) (by show i + 1 < 2 ^ 64; omega)
    have e4 : x / 2 ^ i / 2 = x / 2 ^ (i + 1) := by rw [Nat.div_div_eq_div_mul, ← Nat.pow_succ]
    have h0 := ih k (i + 1) n (by omega) (by omega) (by omega)
    have h1 := ih k (i + 1) (n + 1) (by omega) (by omega) (by omega)
    rw [below_succ] at h0 h1
    simp only [spec_IsRun.l0]
    rw [if_pos (by omega), bit_f x i (by omega), Ub.ups, e4]
    simp only [Option.bind_some]
    by_cases hb : x / 2 ^ i % 2 = 1
    · rw [if_pos (by rw [hb]; rfl)]
      by_cases hi0 : i = 0
      · rw [if_pos (by omega), e2, e3, h1]
        have : below x i = 0 := by simp [below, hi0]
        rw [if_pos ⟨hb, this⟩, Nat.add_assoc]
      · have e5 : IntKind.u64.wrap ((i : Int) - 1) = ((i - 1 : Nat) : Int) := by
          rw [show (i : Int) - 1 = ((i - 1 : Nat) : Int) by omega]
          exact wrap_lt .u64 rfl (i - 1) (by show i - 1 < 2 ^ 64; omega)
        have e6 : below x i = x / 2 ^ (i - 1) % 2 := by simp [below, hi0]
        rw [if_neg (by omega), e5, bit_f x (i - 1) (by omega), ← e6]
        simp only [Option.bind_some]
        by_cases hp : below x i = 0
        · rw [if_pos (by rw [hp]; rfl), e2, e3, h1, if_pos ⟨hb, hp⟩, Nat.add_assoc]
        · rw [if_neg (by omega), e3, h0, if_neg (fun h => hp h.2), Nat.zero_add]
    · rw [if_neg (by omega), e3, h0, if_neg (fun h => hb h.1), Nat.zero_add]
theorem isrun_f (x : Nat) (hx : x < 18446744073709551616) (k : Nat) (hk : 64 < k) : spec_IsRun.f k (x : Int) = some (((Ub.ups 64 0 x : Nat) : Int) == 1) := by
  have := isrun_loop x hx 64 k 0 0 (by omega) (by omega) (by omega)
  simpa [spec_IsRun.f, below] using this
theorem good_f (e x want r v k : Nat) (q1 q2 : Int) (hd : ssarewrite_DecodePPC64RotateMask.f (e : Int) = some ((r : Int), q1, q2, (v : Int))) (he : Go.bits .and .i64 ((e : Int) / 16777216) 255 = 32) (hr : r < 32) (hv : v < 4294967296) (hk : 65 < k)
    (hw : want < 4294967296) (h : Rot.turn 32 (x % 2 ^ 32) r &&& v = want) : laws_mkGood.f k (e : Int) (x : Int) (want : Int) = some true := by
  obtain ⟨k, rfl⟩ : ∃ m, k = m + 1 := ⟨k - 1, by omega⟩
  unfold laws_mkGood.f impl_DecodeRotateMask.f
  rw [hd]
  simp only [Option.bind_some]
  rw [he, if_pos rfl, if_neg (by omega), if_neg (by omega)]
  have e0 : ((v : Int) / 4294967296 != 0) = false := by
    rw [show (v : Int) / 4294967296 = 0 by omega]; rfl
  have u : IntKind.u64.wrap (r : Int) = (r : Int) := Rot.u64N r (by omega)
  have l : spec_Low.f (want : Int) 32 = some (want : Int) := by rw [low32, Nat.mod_eq_of_lt hw]
  rw [e0]
  simp only [laws_mkGood.j0]
  rw [if_neg (by decide), isrun_f v (by omega) k (by omega), u, rotated_f x r v hr hv, h, l]
  simp only [Option.bind_some]
  by_cases c : (((Ub.ups 64 0 v : Nat) : Int) == 1) = true
  · rw [if_pos c, beq_self_eq_true]
  · rw [if_neg c, beq_self_eq_true]
theorem works : laws_mkWorks.f = some true := by decide +kernel
/-- What the value of a clearing and shift tells. -/
def tells (s p : Nat) : Bool := match impl_NewShift.f 70 (s : Int) (p : Int) 63 64 with
  | none => false
  | some c => (wrap64 c == c) && (wrap32 c == c) && (ssarewrite_GetPPC64Shiftmb.f c == some (p : Int)) && (ssarewrite_GetPPC64Shiftsh.f c == some (s : Int))
theorem tells_all : ∀ p : Nat, p < 64 → ∀ s : Nat, s < 64 → (p < s ∨ tells s p = true) := by decide +kernel
theorem shift_ex (s p : Nat) (hp : p < 64) (hs : s ≤ p) : ∃ c : Int, impl_NewShift.f 70 (s : Int) (p : Int) 63 64 = some c ∧ wrap64 c = c ∧ wrap32 c = c ∧ ssarewrite_GetPPC64Shiftmb.f c = some (p : Int) ∧ ssarewrite_GetPPC64Shiftsh.f c = some (s : Int) := by
  have t := (tells_all p hp s (by omega)).resolve_left (by omega)
  unfold tells at t
  cases hc : impl_NewShift.f 70 (s : Int) (p : Int) 63 64 with
  | none => rw [hc] at t; cases t
  | some c =>
    rw [hc] at t
    simp only [Bool.and_eq_true, beq_iff_eq] at t
    exact ⟨c, rfl, t.1.1.1, t.1.1.2, t.1.2, t.2⟩
theorem does_f (x p s : Nat) (hp : p < 64) (hs : s ≤ p) : shl .u64 (shr .u64 (shl .u64 (x : Int) (p : Int)) (p : Int)) (s : Int) = (((x % 2 ^ (64 - p)) * 2 ^ s : Nat) : Int) := by
  rw [shlN .u64 rfl x p (by show p ≤ 64; omega), show (2 : Nat) ^ IntKind.u64.bits = 2 ^ 64 from rfl, shrN .u64 _ p (by show p ≤ 64; omega), shlN .u64 rfl _ s (by show s ≤ 64; omega), show (2 : Nat) ^ IntKind.u64.bits = 2 ^ 64 from rfl]
  have e : x * 2 ^ p % 2 ^ 64 / 2 ^ p = x % 2 ^ (64 - p) := by
    have h : 2 ^ 64 = 2 ^ (64 - p) * 2 ^ p := by rw [← Nat.pow_add]; congr 1; omega
    rw [h, Nat.mul_mod_mul_right, Nat.mul_div_cancel _ (Nat.two_pow_pos p)]
  rw [e]
  congr 1
  apply Nat.mod_eq_of_lt
  have h1 : x % 2 ^ (64 - p) < 2 ^ (64 - p) := Nat.mod_lt _ (Nat.two_pow_pos _)
  have h2 : x % 2 ^ (64 - p) * 2 ^ s < 2 ^ (64 - p) * 2 ^ s := Nat.mul_lt_mul_of_pos_right h1 (Nat.two_pow_pos s)
  rw [← Nat.pow_add] at h2
  exact Nat.lt_of_lt_of_le h2 (Nat.pow_le_pow_right (by decide) (by omega))
theorem ones_div (b k : Nat) (h : k ≤ b) : (2 ^ b - 1) / 2 ^ k = 2 ^ (b - k) - 1 := by
  obtain ⟨d, rfl⟩ : ∃ d, b = d + k := ⟨b - k, by omega⟩
  have hd := Nat.two_pow_pos d
  have hk := Nat.two_pow_pos k
  rw [Nat.add_sub_cancel, Nat.pow_add]
  apply Nat.div_eq_of_lt_le
  · rw [Nat.sub_mul, Nat.one_mul]; omega
  · rw [Nat.succ_mul, Nat.sub_mul, Nat.one_mul]
    have : 2 ^ k ≤ 2 ^ d * 2 ^ k := Nat.le_mul_of_pos_left _ hd
    omega
theorem shr64 (p : Nat) (h : p < 64) : shr .u64 18446744073709551615 (p : Int) = ((2 ^ (64 - p) - 1 : Nat) : Int) := by
  have := shrN .u64 (2 ^ 64 - 1) p (by show p ≤ 64; omega)
  rw [ones_div 64 p (by omega)] at this
  exact this
theorem two_lt (n b : Nat) (h : n ≤ b) : 2 ^ n - 1 < 2 ^ b := by
  have h1 : 2 ^ n ≤ 2 ^ b := Nat.pow_le_pow_right (by decide) h
  have := Nat.two_pow_pos n
  omega
theorem low_div (b n : Nat) (h : b < 2 ^ n) : b &&& (2 ^ n - 1) = b := by rw [Nat.and_two_pow_sub_one_eq_mod, Nat.mod_eq_of_lt h]
theorem shr32 (t : Nat) (h : t < 32) : shr .u64 4294967295 (t : Int) = ((2 ^ (32 - t) - 1 : Nat) : Int) := by
  have := shrN .u64 (2 ^ 32 - 1) t (by show t ≤ 64; omega)
  rw [ones_div 32 t (by omega)] at this
  exact this
theorem both (a b : Nat) : (2 ^ a - 1) &&& (2 ^ b - 1) = 2 ^ min a b - 1 := by
  apply Nat.eq_of_testBit_eq
  intro i
  rw [Nat.testBit_and, Nat.testBit_two_pow_sub_one, Nat.testBit_two_pow_sub_one, Nat.testBit_two_pow_sub_one, ← Bool.decide_and]
  congr 1
  exact propext ⟨fun h => by omega, fun h => by omega⟩
theorem run_of (n s : Nat) : (2 ^ n - 1) * 2 ^ s = Rot.run s n := by unfold Rot.run; rw [Nat.mul_comm]
theorem law (X t p s n : Nat) (ht : t < 32) (hp : p < 64) (hs : s ≤ p) (hn : n = min (32 - t) (64 - p)) (h32 : s + n ≤ 32) :
    Rot.turn 32 (X % 2 ^ 32) ((32 - t + s) % 32) &&& Rot.run s n = (X % 2 ^ 32 / 2 ^ t % 2 ^ (64 - p)) * 2 ^ s := by
  apply Nat.eq_of_testBit_eq
  intro i
  have hx : X % 2 ^ 32 < 2 ^ 32 := Nat.mod_lt _ (Nat.two_pow_pos _)
  rw [Nat.testBit_and, Rot.run_bit, Nat.testBit_mul_two_pow, Nat.testBit_mod_two_pow, Rot.bit_div]
  by_cases c : s ≤ i ∧ i < s + n
  · rw [Rot.turn_bit 32 _ _ i hx (Nat.mod_lt _ (by decide)) (by omega), show (i + 32 - (32 - t + s) % 32) % 32 = t + (i - s) by omega]
    have c3 : i - s < 64 - p := by omega
    simp [c.1, c.2, c3]
  · have : (decide (s ≤ i) && decide (i < s + n)) = false := by
      rw [Bool.eq_false_iff]; intro h'
      simp only [Bool.and_eq_true, decide_eq_true_eq] at h'
      exact c h'
    rw [this, Bool.and_false]
    by_cases c1 : s ≤ i
    · by_cases c2 : i - s < 64 - p
      · rw [Nat.testBit_lt_two_pow (x := X % 2 ^ 32) (i := t + (i - s)) (Nat.lt_of_lt_of_le hx (Nat.pow_le_pow_right (by decide) (by omega)))]
        simp
      · simp [c2]
    · simp [c1]
theorem merged (c : Int) (t p s n : Nat) (ht : t < 32) (hp : p < 64) (hs : s ≤ p) (hn : n = min (32 - t) (64 - p)) (hmb : ssarewrite_GetPPC64Shiftmb.f c = some (p : Int)) (hsh : ssarewrite_GetPPC64Shiftsh.f c = some (s : Int)) :
    impl_ClrlsldiSrw.f 70 c (t : Int) = some 0 ∨ ∃ e : Nat, s + n ≤ 32 ∧ impl_ClrlsldiSrw.f 70 c (t : Int) = some (e : Int) ∧ (e : Int) ≠ 0 ∧ Go.bits .and .i64 ((e : Int) / 16777216) 255 = 32 ∧
      ∃ q1 q2 : Int, ssarewrite_DecodePPC64RotateMask.f (e : Int) = some ((((32 - t + s) % 32 : Nat) : Int), q1, q2, (Rot.run s n : Int)) := by
  have u1 : IntKind.u64.wrap (t : Int) = (t : Int) := Rot.u64N t (by omega)
  have u2 : IntKind.u64.wrap (p : Int) = (p : Int) := Rot.u64N p (by omega)
  have u3 : IntKind.u64.wrap (s : Int) = (s : Int) := Rot.u64N s (by omega)
  have hrun := Rot.run_lt s n 64 (by omega)
  have hpos := Rot.run_pos s n (by omega)
  have em : shl .u64 (Go.bits .and .u64 (shr .u64 4294967295 (t : Int)) (shr .u64 18446744073709551615 (p : Int))) (s : Int) = (Rot.run s n : Int) := by
    rw [shr32 t ht, shr64 p hp, andN .u64 rfl _ _ (two_lt _ _ (by show 32 - t ≤ 64; omega)) (two_lt _ _ (by show 64 - p ≤ 64; omega)), both, ← hn, shlN .u64 rfl _ s (by show s ≤ 64; omega), run_of]
    congr 1
    exact Nat.mod_eq_of_lt hrun
  unfold impl_ClrlsldiSrw.f ssarewrite_ZZMergePPC64ClrlsldiSrw.f ssarewrite_mergePPC64ClrlsldiSrw.f
  rw [u1, if_pos (by omega), hmb, Option.bind_some, u2, if_pos (by omega), hsh, Option.bind_some, u3, if_pos (by omega), Option.bind_some, em]
  have p64 : (2 : Nat) ^ 64 = 18446744073709551616 := rfl
  by_cases h32 : s + n ≤ 32
  · right
    have hw := Rot.WM.run (show 1 ≤ n by omega) h32
    have hl := hw.lt
    have er : Go.bits .and .i64 (wrap64 (wrap64 (32 - (t : Int)) + (s : Int))) 31 = (((32 - t + s) % 32 : Nat) : Int) := by
      rw [show wrap64 (wrap64 (32 - (t : Int)) + (s : Int)) = ((32 - t + s : Nat) : Int) by unfold wrap64; omega, Rot.iand31 _ (by omega)]
    obtain ⟨e, he, he0, he3, q, hd⟩ := decoded (Rot.run s n) ((32 - t + s) % 32) 69 hw (Nat.mod_lt _ (by decide))
    generalize Rot.run s n = v at *
    rw [if_pos (by omega), if_neg (by omega), er, Rot.w64N v (by omega), he]
    exact ⟨e, h32, rfl, he0, he3, _, q, hd⟩
  · left
    have big : 4294967296 ≤ Rot.run s n := by
      have : (Rot.run s n).testBit (s + n - 1) = true := by rw [Rot.run_bit]; simp; omega
      have g := Nat.ge_two_pow_of_testBit this
      exact Nat.le_trans (Nat.pow_le_pow_right (n := 2) (by decide) (show 32 ≤ s + n - 1 by omega)) g
    generalize Rot.run s n = v at *
    rw [if_neg (by omega)]
    rfl
theorem walk (a0 a1 a2 a3 : Int) (w : World) (hT : Tab0 w) (h0 : (Lit.int .i64 a0).wf = true) (h1 : (Lit.int .i64 a1).wf = true) (h2 : (Lit.int .i64 a2).wf = true) (h3 : (Lit.int .u64 a3).wf = true) :
    Calls Tryd.prog 6 #[.int .i64 a0, .int .i64 a1, .int .i64 a2, .int .u64 a3] w fun e w' => e = .returned (.bool true) ∧ Below w.heap.size w w' := by
  have h3 := wf_u64 h3
  obtain ⟨X, rfl⟩ := Int.eq_ofNat_of_zero_le h3.1
  obtain ⟨p, hp, A1⟩ := at_f a1 64 (by omega) (by omega)
  have wp : wrap64 ((p : Int) + 1) = ((p + 1 : Nat) : Int) := by unfold wrap64; omega
  obtain ⟨s, hs, A2⟩ := at_f a0 ((p + 1 : Nat) : Int) (by omega) (by omega)
  rw [← wp] at A2
  obtain ⟨t, ht, A4⟩ := at_f a2 32 (by omega) (by omega)
  obtain ⟨c, A3, c64, c32, hmb, hsh⟩ := shift_ex s p (by omega) (by omega)
  obtain ⟨n, hn⟩ : ∃ n, n = min (32 - t) (64 - p) := ⟨_, rfl⟩
  obtain hz | ⟨e, h32, he, he0, he3, q1, q2, hd⟩ := merged c t p s n (by omega) (by omega) (by omega) hn hmb hsh
  · exact law_zero 70 a0 a1 a2 (X : Int) p s c t w hT A1 A2 A3 c64 A4 hz works
  · have hl := law X t p s n (by omega) (by omega) (by omega) hn h32
    have hx : shr .u64 ((X % 2 ^ 32 : Nat) : Int) (t : Int) = ((X % 2 ^ 32 / 2 ^ t : Nat) : Int) := shrN .u64 _ t (by show t ≤ 64; omega)
    have hdo := does_f (X % 2 ^ 32 / 2 ^ t) p s (by omega) (by omega)
    have hv : Rot.run s n < 4294967296 := Rot.run_lt s n 32 h32
    have hwant : (X % 2 ^ 32 / 2 ^ t % 2 ^ (64 - p)) * 2 ^ s < 4294967296 := by rw [← hl]; exact Nat.lt_of_le_of_lt Nat.and_le_right hv
    have hg := good_f e X _ _ _ 70 q1 q2 hd he3 (Nat.mod_lt _ (by decide)) hv (by decide) hwant hl
    rw [← hdo] at hg
    exact law_good 70 a0 a1 a2 (X : Int) p s c t e _ w hT A1 A2 A3 c64 A4 he works (beq_eq_false_iff_ne.2 he0) _ (low32 X) (by omega) hx (by omega) (by omega) hg

end CClrlsldiSrw
end Go.Proofs.YtlcaejikcelgoaaDoor.Pure
