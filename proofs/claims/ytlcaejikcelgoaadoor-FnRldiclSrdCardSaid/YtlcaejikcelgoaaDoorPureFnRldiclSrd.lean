/- A mask of ones from the lowest bit on behind a shift to the right, as one turn and mask of 64 bits, does the same: for all masks, shifts and words. No condition. -/
import Derived.Test.YtlcaejikcelgoaaDoorPFnRldiclSrdx1
import Derived.Test.YtlcaejikcelgoaaDoorAt
import Derived.Test.YtlcaejikcelgoaaDoorBr
import Derived.Test.YtlcaejikcelgoaaDoorSh
import Derived.Test.YtlcaejikcelgoaaDoorUb
import Derived.Test.YtlcaejikcelgoaaDoorRot
set_option linter.unusedVariables false
set_option linter.unusedSimpArgs false
namespace Go.Proofs.YtlcaejikcelgoaaDoor.Pure
open Go.RowKit Go.Proofs.YtlcaejikcelgoaaDoor.PFnRldiclSrd Go.Proofs.YtlcaejikcelgoaaDoorW.PrintWords Go.Proofs.YtlcaejikcelgoaaDoorW.PrintLast Go.Proofs.YtlcaejikcelgoaaDoorW.PrintMore
open Br
namespace CFnRldiclSrd
theorem at_f (a n : Int) (h0 : 0 < n) (h1 : n ≤ 4611686018427387904) : ∃ r : Nat, (r : Int) < n ∧ laws_rwAt.f a n = some (r : Int) := by
  obtain ⟨r, hr, e⟩ := at_any a n h0 h1
  refine ⟨r, hr, ?_⟩
  unfold laws_rwAt.f
  rw [e, if_neg (by omega)]
theorem lowF (x b : Nat) (hb : b < 64) : spec_Low.f (x : Int) (b : Int) = some ((x % 2 ^ b : Nat) : Int) := by
  unfold spec_Low.f; exact lowN x b hb
theorem low32 (x : Nat) : spec_Low.f (x : Int) 32 = some ((x % 2 ^ 32 : Nat) : Int) := lowF x 32 (by decide)
theorem turn64 (x r : Nat) (hx : x < 2 ^ 64) (hr : r < 64) : spec_Turn.f (x : Int) 64 (r : Int) = some (Rot.turn 64 x r : Int) := by
  unfold spec_Turn.f
  have l64 : ∀ y : Nat, spec_Low.f (y : Int) 64 = some (y : Int) := fun y => by
    unfold spec_Low.f; rw [if_pos (by decide)]
  rw [if_neg (by decide), l64, Option.bind_some]
  have e1 : Int.tmod (r : Int) 64 = (r : Int) := by
    show ((r % 64 : Nat) : Int) = (r : Int)
    rw [Nat.mod_eq_of_lt hr]
  have e2 : IntKind.u64.wrap (64 - (r : Int)) = ((64 - r : Nat) : Int) := by rw [u64mod]; omega
  have hd : x / 2 ^ (64 - r) < 2 ^ 64 := Nat.lt_of_le_of_lt (Nat.div_le_self _ _) hx
  have s1 := shlN .u64 rfl x r (by show r ≤ 64; omega)
  rw [show (2 : Nat) ^ IntKind.u64.bits = 2 ^ 64 from rfl] at s1
  have s2 := shrN .u64 x (64 - r) (by show 64 - r ≤ 64; omega)
  have hm : x * 2 ^ r % 2 ^ 64 < 2 ^ 64 := Nat.mod_lt _ (Nat.two_pow_pos _)
  rw [e1, e2, if_pos (by omega), if_pos (by omega), s1, s2, orN .u64 rfl _ _ hm hd, l64, Option.bind_some]
  unfold Rot.turn
  rw [Nat.or_mod_two_pow, Nat.mod_eq_of_lt hd]
theorem enc_all : ∀ n : Nat, n < 64 → 1 ≤ n → impl_EncodeRotateMask.f 1 0 (wrap64 ((2 ^ n - 1 : Nat) : Int)) 64 = some (1073741888 + 256 * (64 - (n : Int))) := by decide +kernel
/-- What the program reckons for n ones behind a shift by s. -/
def told (s : Nat) (M : Int) (e' : Int) (q : Int × Int × Int × Int) : Bool := (Go.bits .and .i64 (e' / 16777216) 255 == 64) && (Int.tmod (IntKind.u64.wrap q.1) 64 == (((64 - s) % 64 : Nat) : Int)) && (q.2.2.2 == M)
def look (E S : Int) (s : Nat) (M : Int) : Option Bool := (impl_RldiclSrd.f E S).bind fun e' => (impl_DecodeRotateMask.f e').bind fun q => some (told s M e' q)
def chk (n s : Nat) : Bool := look (1073741888 + 256 * (64 - (n : Int))) (s : Int) s ((2 ^ min n (64 - s) - 1 : Nat) : Int) == some true
theorem look_ex (E S : Int) (s : Nat) (M : Int) (h : look E S s M = some true) : ∃ e' : Int, ∃ q : Int × Int × Int × Int, impl_RldiclSrd.f E S = some e' ∧ impl_DecodeRotateMask.f e' = some q ∧
    Go.bits .and .i64 (e' / 16777216) 255 = 64 ∧ Int.tmod (IntKind.u64.wrap q.1) 64 = (((64 - s) % 64 : Nat) : Int) ∧ q.2.2.2 = M := by
  unfold look at h
  obtain ⟨e', h1, h⟩ := Option.bind_eq_some_iff.1 h
  obtain ⟨q, h2, h⟩ := Option.bind_eq_some_iff.1 h
  have h := Option.some.inj h
  unfold told at h
  simp only [Bool.and_eq_true, beq_iff_eq] at h
  exact ⟨e', q, h1, h2, h.1.1, h.1.2, h.2⟩
theorem chk_0 : ∀ n : Nat, n < 8 → ∀ s : Nat, s < 64 → (8 * 0 + n = 0 ∨ chk (8 * 0 + n) s = true) := by decide +kernel
theorem chk_1 : ∀ n : Nat, n < 8 → ∀ s : Nat, s < 64 → (8 * 1 + n = 0 ∨ chk (8 * 1 + n) s = true) := by decide +kernel
theorem chk_2 : ∀ n : Nat, n < 8 → ∀ s : Nat, s < 64 → (8 * 2 + n = 0 ∨ chk (8 * 2 + n) s = true) := by decide +kernel
theorem chk_3 : ∀ n : Nat, n < 8 → ∀ s : Nat, s < 64 → (8 * 3 + n = 0 ∨ chk (8 * 3 + n) s = true) := by decide +kernel
theorem chk_4 : ∀ n : Nat, n < 8 → ∀ s : Nat, s < 64 → (8 * 4 + n = 0 ∨ chk (8 * 4 + n) s = true) := by decide +kernel
theorem chk_5 : ∀ n : Nat, n < 8 → ∀ s : Nat, s < 64 → (8 * 5 + n = 0 ∨ chk (8 * 5 + n) s = true) := by decide +kernel
theorem chk_6 : ∀ n : Nat, n < 8 → ∀ s : Nat, s < 64 → (8 * 6 + n = 0 ∨ chk (8 * 6 + n) s = true) := by decide +kernel
theorem chk_7 : ∀ n : Nat, n < 8 → ∀ s : Nat, s < 64 → (8 * 7 + n = 0 ∨ chk (8 * 7 + n) s = true) := by decide +kernel
theorem chk_all (n s : Nat) (h1 : n < 64) (h2 : 1 ≤ n) (h3 : s < 64) : chk n s = true := by
  have e : n = 8 * (n / 8) + n % 8 := by omega
  have hd : n / 8 < 8 := by omega
  have hm : n % 8 < 8 := by omega
  rw [e]
  generalize hq : n / 8 = q at *
  match q, hd with
  | 0, _ => exact (chk_0 (n % 8) hm s h3).resolve_left (by omega)
  | 1, _ => exact (chk_1 (n % 8) hm s h3).resolve_left (by omega)
  | 2, _ => exact (chk_2 (n % 8) hm s h3).resolve_left (by omega)
  | 3, _ => exact (chk_3 (n % 8) hm s h3).resolve_left (by omega)
  | 4, _ => exact (chk_4 (n % 8) hm s h3).resolve_left (by omega)
  | 5, _ => exact (chk_5 (n % 8) hm s h3).resolve_left (by omega)
  | 6, _ => exact (chk_6 (n % 8) hm s h3).resolve_left (by omega)
  | 7, _ => exact (chk_7 (n % 8) hm s h3).resolve_left (by omega)
theorem run_all : ∀ n : Nat, n < 64 → 1 ≤ n → spec_Run.f 0 (n : Int) = some ((2 ^ n - 1 : Nat) : Int) := by decide +kernel
theorem law (x n s : Nat) (hx : x < 2 ^ 64) (hs : s < 64) (hn : n < 64) : Rot.turn 64 x ((64 - s) % 64) &&& (2 ^ min n (64 - s) - 1) = x / 2 ^ s % 2 ^ n := by
  apply Nat.eq_of_testBit_eq
  intro i
  rw [Nat.testBit_and, Nat.testBit_two_pow_sub_one, Nat.testBit_mod_two_pow, Rot.bit_div]
  by_cases h : i < min n (64 - s)
  · rw [Rot.turn_bit 64 x _ i hx (Nat.mod_lt _ (by decide)) (by omega), show (i + 64 - (64 - s) % 64) % 64 = s + i by omega]
    have h1 : i < n := by omega
    simp [h, h1]
  · rw [decide_eq_false h, Bool.and_false]
    by_cases h1 : i < n
    · rw [Nat.testBit_lt_two_pow (x := x) (i := s + i) (Nat.lt_of_lt_of_le hx (Nat.pow_le_pow_right (by decide) (by omega)))]
      simp
    · simp [h1]
theorem chk_ex (n s : Nat) (h1 : n < 64) (h2 : 1 ≤ n) (h3 : s < 64) : ∃ e e' : Int, ∃ q : Int × Int × Int × Int, impl_EncodeRotateMask.f 1 0 (wrap64 ((2 ^ n - 1 : Nat) : Int)) 64 = some e ∧ impl_RldiclSrd.f e (s : Int) = some e' ∧ impl_DecodeRotateMask.f e' = some q ∧
    Go.bits .and .i64 (e' / 16777216) 255 = 64 ∧ Int.tmod (IntKind.u64.wrap q.1) 64 = (((64 - s) % 64 : Nat) : Int) ∧ q.2.2.2 = ((2 ^ min n (64 - s) - 1 : Nat) : Int) := by
  have ck := chk_all n s h1 h2 h3
  have he := enc_all n h1 h2
  unfold chk at ck
  obtain ⟨e', q, h⟩ := look_ex _ _ s _ (beq_iff_eq.1 ck)
  exact ⟨_, e', q, he, h⟩
theorem pow_lt (n : Nat) (h : n ≤ 64) : 2 ^ n - 1 < 2 ^ 64 := Nat.lt_of_lt_of_le (Nat.sub_lt (Nat.two_pow_pos _) (by decide)) (Nat.pow_le_pow_right (by decide) h)
theorem rot_f (x n s : Nat) (hx : x < 2 ^ 64) (hs : s < 64) (hn : n < 64) : spec_Rotated.f (x : Int) 64 (((64 - s) % 64 : Nat) : Int) ((2 ^ min n (64 - s) - 1 : Nat) : Int) = some ((x / 2 ^ s % 2 ^ n : Nat) : Int) := by
  unfold spec_Rotated.f
  have hl := law x n s hx hs hn
  have hm := pow_lt (min n (64 - s)) (by omega)
  have ht := Rot.turn_lt 64 x ((64 - s) % 64)
  rw [turn64 x _ hx (Nat.mod_lt _ (by decide)), Option.bind_some]
  generalize 2 ^ min n (64 - s) - 1 = p at *
  generalize Rot.turn 64 x ((64 - s) % 64) = q at *
  rw [andN .u64 rfl q p ht hm, hl]
theorem fin (x n s : Nat) (A : Option Int) (B : Option Int) (hA : A = some ((x / 2 ^ s % 2 ^ n : Nat) : Int)) (hB : B = some ((x / 2 ^ s % 2 ^ n : Nat) : Int)) :
    (A.bind fun a => B.bind fun b => some (a == b)) = some true := by
  rw [hA, hB]; simp
theorem low_s (x n s : Nat) (hs : s < 64) (hn : n < 64) : spec_Low.f (shr .u64 (x : Int) (s : Int)) (n : Int) = some ((x / 2 ^ s % 2 ^ n : Nat) : Int) := by
  rw [shrN .u64 x s (by show s ≤ 64; omega), lowF _ n hn]
theorem main : laws_FnRldiclSrd.Pure := by
  intro a b c ha hb hc
  have hc := wf_u64 hc
  obtain ⟨m, hm, e1⟩ := at_f a 63 (by omega) (by omega)
  obtain ⟨s, hs, e2⟩ := at_f b 64 (by omega) (by omega)
  obtain ⟨x, rfl⟩ := Int.eq_ofNat_of_zero_le hc.1
  have hs' : s < 64 := by omega
  have hn : m + 1 < 64 := by omega
  have un : IntKind.u64.wrap (1 + IntKind.u64.wrap (m : Int)) = ((m + 1 : Nat) : Int) := by rw [u64mod, u64mod]; omega
  have hx : x < 2 ^ 64 := Int.ofNat_lt.1 (Int.lt_of_le_of_lt hc.2 (by decide))
  obtain ⟨e, e', q, he, he', hq, c1, c2, c3⟩ := chk_ex (m + 1) s hn (by omega) hs'
  have rn := run_all (m + 1) hn (by omega)
  have hr := rot_f x (m + 1) s hx hs' hn
  have hl := low_s x (m + 1) s hs' hn
  have hp : (0 : Int) ≤ (s : Int) := by omega
  clear hc hm hs
  generalize ((2 ^ min (m + 1) (64 - s) - 1 : Nat) : Int) = M at *
  generalize ((2 ^ (m + 1) - 1 : Nat) : Int) = R at *
  refine ⟨1, ?_⟩
  unfold laws_FnRldiclSrd.f
  rw [e1, Option.bind_some, e2, Option.bind_some, un, rn, Option.bind_some, he, Option.bind_some, he', Option.bind_some, hq, Option.bind_some, if_pos c1, c2, c3]
  simp only [if_pos hp]
  exact fin x (m + 1) s _ _ hr hl

end CFnRldiclSrd
theorem FnRldiclSrd : laws_FnRldiclSrd.Pure := CFnRldiclSrd.main
end Go.Proofs.YtlcaejikcelgoaaDoor.Pure
