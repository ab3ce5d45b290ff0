-- Written by a program of this session out of the translation (wip/pp.py): Lean checks it.
import Derived.Test.YtcihkjjejckicaaPFnLogsx0
import Derived.Test.YtcihkjjejckicaaPFnLogsx1
namespace Go.Proofs.Ytcihkjjejckicaa.PFnLogs
open Go.RowKit Go.Proofs.YtcihkjjejckicaaW.PrintWords Go.Proofs.YtcihkjjejckicaaW.PrintLast Go.Proofs.YtcihkjjejckicaaW.PrintMore
attribute [local go_sem] max2_int min2_int max_two min_two max_three min_three max_four min_four   -- for this text's walks alone
set_option linter.unusedVariables false
set_option linter.unusedSimpArgs false

attribute [local go_sem] signed_u32 max_u32 signed_u64 max_u64
/-! ### laws_FnLogs: function 7 -/
mutual
def laws_FnLogs.j0 : Nat → Int → Bool → Option (Bool)
  | 0, _, _ => none
  | k + 1, x3, x21 => if x21 = true then (some false) else (if x3 < 32 then (if 0 ≤ x3 then ((impl_Log32u.f (shl .u32 1 x3)).bind fun t128 => (if t128 = x3 then (if x3 < 31 then ((impl_Log32.f (shl .i32 1 x3)).bind fun t129 => (laws_FnLogs.j1 k x3 (t129 != x3))) else (laws_FnLogs.j1 k x3 false)) else (laws_FnLogs.j1 k x3 true))) else (none)) else (if x3 < 31 then (if 0 ≤ x3 then ((impl_Log32.f (shl .i32 1 x3)).bind fun t130 => (laws_FnLogs.j1 k x3 (t130 != x3))) else (none)) else (laws_FnLogs.j1 k x3 false)))
def laws_FnLogs.j1 : Nat → Int → Bool → Option (Bool)
  | 0, _, _ => none
  | k + 1, x3, x41 => if x41 = true then (some false) else (if x3 < 16 then (if 0 ≤ x3 then ((impl_Log16u.f (shl .u16 1 x3)).bind fun t131 => (if t131 = x3 then (if x3 < 15 then ((impl_Log16.f (shl .i16 1 x3)).bind fun t132 => (laws_FnLogs.j2 k x3 (t132 != x3))) else (laws_FnLogs.j2 k x3 false)) else (laws_FnLogs.j2 k x3 true))) else (none)) else (if x3 < 15 then (if 0 ≤ x3 then ((impl_Log16.f (shl .i16 1 x3)).bind fun t133 => (laws_FnLogs.j2 k x3 (t133 != x3))) else (none)) else (laws_FnLogs.j2 k x3 false)))
def laws_FnLogs.j2 : Nat → Int → Bool → Option (Bool)
  | 0, _, _ => none
  | k + 1, x3, x61 => if x61 = true then (some false) else (if x3 ≥ 8 then (if x3 ≥ 7 then ((impl_Log64.f 8).bind fun t134 => (some (t134 == 3))) else (if 0 ≤ x3 then ((impl_Log8.f (shl .i8 1 x3)).bind fun t135 => (if t135 = x3 then ((impl_Log64.f 8).bind fun t136 => (some (t136 == 3))) else (some false))) else (none))) else (if 0 ≤ x3 then ((impl_Log8u.f (shl .u8 1 x3)).bind fun t137 => (if t137 = x3 then (if x3 ≥ 7 then ((impl_Log64.f 8).bind fun t138 => (some (t138 == 3))) else ((impl_Log8.f (shl .i8 1 x3)).bind fun t139 => (if t139 = x3 then ((impl_Log64.f 8).bind fun t140 => (some (t140 == 3))) else (some false)))) else (some false))) else (none)))
end
def laws_FnLogs.f (k : Nat) (a0 : Int) : Option (Bool) := (laws_rwAt.f a0 64).bind fun t125 => (if 0 ≤ t125 then ((impl_Log64u.f (shl .u64 1 t125)).bind fun t126 => (if t126 = t125 then (if t125 < 63 then ((impl_Log64.f (shl .i64 1 t125)).bind fun t127 => (laws_FnLogs.j0 k t125 (t127 != t125))) else (laws_FnLogs.j0 k t125 false)) else (laws_FnLogs.j0 k t125 true))) else (none))
theorem laws_FnLogs.mono_l : ∀ k, (∀ y0 y1, LeO (laws_FnLogs.j0 k y0 y1) (laws_FnLogs.j0 (k + 1) y0 y1)) ∧ (∀ y0 y1, LeO (laws_FnLogs.j1 k y0 y1) (laws_FnLogs.j1 (k + 1) y0 y1)) ∧ (∀ y0 y1, LeO (laws_FnLogs.j2 k y0 y1) (laws_FnLogs.j2 (k + 1) y0 y1))
  | 0 => ⟨fun _ _ r h => by simp [laws_FnLogs.j0] at h, fun _ _ r h => by simp [laws_FnLogs.j1] at h, fun _ _ r h => by simp [laws_FnLogs.j2] at h⟩
  | k + 1 => by
    obtain ⟨ih0, ih1, ih2⟩ := laws_FnLogs.mono_l k
    refine ⟨?_, ?_, ?_⟩
    · intro y0 y1
      unfold laws_FnLogs.j0
      repeat' first
      | (with_reducible exact ih0 _ _)
      | (with_reducible exact ih1 _ _)
      | (with_reducible exact ih2 _ _)
      | (with_reducible exact LeO.refl _)
      | (with_reducible exact LeO.none _)
      | (with_reducible refine LeO.ite ?_ ?_)
      | (with_reducible refine LeO.bind ?_ (fun _ => ?_))
      | exact ih0 _ _
      | exact ih1 _ _
      | exact ih2 _ _
      | exact LeO.none _
      | refine LeO.ite ?_ ?_
      | refine LeO.bind ?_ (fun _ => ?_)
    · intro y0 y1
      unfold laws_FnLogs.j1
      repeat' first
      | (with_reducible exact ih0 _ _)
      | (with_reducible exact ih1 _ _)
      | (with_reducible exact ih2 _ _)
      | (with_reducible exact LeO.refl _)
      | (with_reducible exact LeO.none _)
      | (with_reducible refine LeO.ite ?_ ?_)
      | (with_reducible refine LeO.bind ?_ (fun _ => ?_))
      | exact ih0 _ _
      | exact ih1 _ _
      | exact ih2 _ _
      | exact LeO.none _
      | refine LeO.ite ?_ ?_
      | refine LeO.bind ?_ (fun _ => ?_)
    · intro y0 y1
      unfold laws_FnLogs.j2
      repeat' first
      | (with_reducible exact ih0 _ _)
      | (with_reducible exact ih1 _ _)
      | (with_reducible exact ih2 _ _)
      | (with_reducible exact LeO.refl _)
      | (with_reducible exact LeO.none _)
      | (with_reducible refine LeO.ite ?_ ?_)
      | (with_reducible refine LeO.bind ?_ (fun _ => ?_))
      | exact ih0 _ _
      | exact ih1 _ _
      | exact ih2 _ _
      | exact LeO.none _
      | refine LeO.ite ?_ ?_
      | refine LeO.bind ?_ (fun _ => ?_)
theorem laws_FnLogs.mono : ∀ a0 k, LeO (laws_FnLogs.f k a0) (laws_FnLogs.f (k + 1) a0) := by
  intro a0 k
  obtain ⟨ih0, ih1, ih2⟩ := laws_FnLogs.mono_l k
  unfold laws_FnLogs.f
  repeat' first
      | (with_reducible exact ih0 _ _)
      | (with_reducible exact ih1 _ _)
      | (with_reducible exact ih2 _ _)
      | (with_reducible exact LeO.refl _)
      | (with_reducible exact LeO.none _)
      | (with_reducible refine LeO.ite ?_ ?_)
      | (with_reducible refine LeO.bind ?_ (fun _ => ?_))
      | exact ih0 _ _
      | exact ih1 _ _
      | exact ih2 _ _
      | exact LeO.none _
      | refine LeO.ite ?_ ?_
      | refine LeO.bind ?_ (fun _ => ?_)
set_option maxHeartbeats 8000000 in
set_option maxRecDepth 100000 in
theorem laws_FnLogs.calls (k : Nat) (a0 : Int) (r : Bool) (w : World) (h : laws_FnLogs.f k a0 = some r) :
    Calls Try.prog 7 #[.int .i64 a0] w fun e w' => e = .returned (.bool r) ∧ Drawn0 w w' := by
  have H : ((laws_rwAt.f a0 64).bind fun t125 => (if 0 ≤ t125 then ((impl_Log64u.f (shl .u64 1 t125)).bind fun t126 => (if t126 = t125 then (if t125 < 63 then ((impl_Log64.f (shl .i64 1 t125)).bind fun t127 => (laws_FnLogs.j0 k t125 (t127 != t125))) else (laws_FnLogs.j0 k t125 false)) else (laws_FnLogs.j0 k t125 true))) else (none))) = some r := h
  clear h
  replace H := Option.bind_eq_some_iff.mp H
  obtain ⟨t125, A20, H⟩ := H
  replace H : (if 0 ≤ t125 then ((impl_Log64u.f (shl .u64 1 t125)).bind fun t126 => (if t126 = t125 then (if t125 < 63 then ((impl_Log64.f (shl .i64 1 t125)).bind fun t127 => (laws_FnLogs.j0 k t125 (t127 != t125))) else (laws_FnLogs.j0 k t125 false)) else (laws_FnLogs.j0 k t125 true))) else (none)) = some r := H
  have A2 := Aside0.mk A20
  clear A20
  have HC3 := Aside0.mk H
  clear H
  go_enter Try.func7, Try.ntmps7
  go_upto_region 2 with (first | ((with_reducible refine gate_callee (f := 19) rfl ?_); refine goesL_ (some 5) rfl rfl Try.func19 (by kernel_rfl) rfl #[.int .i64 a0, .int .i64 64] rfl (by (try simp only [List.map_toArray, List.map_cons, List.map_nil]); first | done | rfl | (simp only [List.length_drop, List.length_take]; rfl)) ?_; (with_reducible refine (laws_rwAt.calls a0 64 t125 _ A2.out).mono ?_); rintro e w' ⟨rfl, ⟨nd, rfl⟩⟩; refine ⟨_, rfl, ?_⟩))
  (try simp only [Act.put, List.setIfInBounds_toArray, List.set_cons_zero, List.set_cons_succ])
  go_cut [21] (fun v21 wc => ∃ (kq : Nat) (x21_2 : Bool), v21 = .bool x21_2 ∧ Aside0 (laws_FnLogs.j0 kq t125 x21_2 = some r) ∧ Aside0 (kq ≤ k) ∧ Drawn0 w wc)
  case first =>
    have H := HC3.out
    clear HC3
    by_cases c4 : 0 ≤ t125
    · rw [if_pos c4] at H
      have c4b0 := eq_true c4
      have c4b1 : decide (0 ≤ t125) = true := decide_eq_true c4
      clear c4
      obtain ⟨ji5, hji5⟩ : ∃ j_ : Int, (shl .u64 1 t125) = j_ := ⟨_, rfl⟩
      replace H : ((impl_Log64u.f (ji5)).bind fun t126 => (if t126 = t125 then (if t125 < 63 then ((impl_Log64.f (shl .i64 1 t125)).bind fun t127 => (laws_FnLogs.j0 k t125 (t127 != t125))) else (laws_FnLogs.j0 k t125 false)) else (laws_FnLogs.j0 k t125 true))) = some r := by first | (rw [hji5] at H; exact H) | (simp only [hji5] at H ⊢; exact H)
      have hji5_ : (IntKind.u64.wrap (1 * 2 ^ min t125.toNat 64)) = ji5 := hji5
      have hji5z : t125 ≤ 64 → (IntKind.u64.wrap (1 * 2 ^ t125.toNat)) = ji5 := shl_small hji5
      have hji5u : (IntKind.u64.wrap (2 ^ min t125.toNat 64)) = ji5 := by have h_ := hji5_; rw [Int.one_mul] at h_; exact h_
      have hji5v : t125 ≤ 64 → (IntKind.u64.wrap (2 ^ t125.toNat)) = ji5 := fun hle_ => by have h_ := hji5z hle_; rw [Int.one_mul] at h_; exact h_
      replace H := Option.bind_eq_some_iff.mp H
      obtain ⟨t126, A60, H⟩ := H
      replace H : (if t126 = t125 then (if t125 < 63 then ((impl_Log64.f (shl .i64 1 t125)).bind fun t127 => (laws_FnLogs.j0 k t125 (t127 != t125))) else (laws_FnLogs.j0 k t125 false)) else (laws_FnLogs.j0 k t125 true)) = some r := H
      have A6 := Aside0.mk A60
      clear A60
      by_cases c7 : t126 = t125
      · rw [if_pos c7] at H
        have c7b0 : (t126 == t125) = true := beq_iff_eq.mpr c7
        have c7b1 : (t126 != t125) = false := bne_eq_false_iff_eq.mpr c7
        clear c7
        (first | rw [c7b0] | (simp only [i64_w, i32_w]; rw [c7b0]) | skip)
        by_cases c8 : t125 < 63
        · rw [if_pos c8] at H
          have c8b0 : decide (t125 < 63) = true := decide_eq_true c8
          clear c8
          have c9b0 := eq_true (of_decide_eq_true (by first | (with_reducible assumption) | assumption) : 0 ≤ t125)
          obtain ⟨ji10, hji10⟩ : ∃ j_ : Int, (shl .i64 1 t125) = j_ := ⟨_, rfl⟩
          replace H : ((impl_Log64.f (ji10)).bind fun t127 => (laws_FnLogs.j0 k t125 (t127 != t125))) = some r := by first | (rw [hji10] at H; exact H) | (simp only [hji10] at H ⊢; exact H)
          (try rw [hji10] at A6)
          have hji10_ : (IntKind.i64.wrap (1 * 2 ^ min t125.toNat 64)) = ji10 := hji10
          have hji10z : t125 ≤ 64 → (IntKind.i64.wrap (1 * 2 ^ t125.toNat)) = ji10 := shl_small hji10
          have hji10u : (IntKind.i64.wrap (2 ^ min t125.toNat 64)) = ji10 := by have h_ := hji10_; rw [Int.one_mul] at h_; exact h_
          have hji10v : t125 ≤ 64 → (IntKind.i64.wrap (2 ^ t125.toNat)) = ji10 := fun hle_ => by have h_ := hji10z hle_; rw [Int.one_mul] at h_; exact h_
          have hji10y : (wrap64 (1 * 2 ^ min t125.toNat 64)) = ji10 := (i64_w _).symm.trans hji10_
          have hji10x : t125 ≤ 64 → (wrap64 (1 * 2 ^ t125.toNat)) = ji10 := fun h_ => (i64_w _).symm.trans (hji10z h_)
          replace H := Option.bind_eq_some_iff.mp H
          obtain ⟨t127, A110, H⟩ := H
          replace H : (laws_FnLogs.j0 k t125 (t127 != t125)) = some r := H
          have A11 := Aside0.mk A110
          clear A110
          have H' := Aside0.mk H
          clear H
          go_wp2_with (first | ((with_reducible refine gate_callee (f := 20) rfl ?_); refine goesL_ (some 8) rfl rfl Try.func20 (by kernel_rfl) rfl #[.int .u64 ji5] rfl (by (try simp only [List.map_toArray, List.map_cons, List.map_nil]); first | done | (simp only [hji5]; rfl) | rfl | (simp only [List.length_drop, List.length_take]; rfl)) ?_; (with_reducible refine (impl_Log64u.calls ji5 t126 _ A6.out).mono ?_); rintro e w' ⟨rfl, ⟨nd, rfl⟩⟩; refine ⟨_, rfl, ?_⟩) | (go_at_call 21; (with_reducible refine (impl_Log64.calls ji10 t127 _ A11.out).mono ?_); rintro e w' ⟨rfl, ⟨nd, rfl⟩⟩))
          go_meet
          case rel => exact ⟨_, ((t127 != t125)), (by first | rfl | (simp; done) | (simp [*]; done)), H', ⟨by first | omega | exact Nat.le_refl _⟩, by repeat (first | exact Drawn0.refl _ | apply Drawn0.step)⟩
        · rw [if_neg c8] at H
          have c8b0 : decide (t125 < 63) = false := decide_eq_false c8
          clear c8
          have H' := Aside0.mk H
          clear H
          go_wp2_with (first | ((with_reducible refine gate_callee (f := 20) rfl ?_); refine goesL_ (some 8) rfl rfl Try.func20 (by kernel_rfl) rfl #[.int .u64 ji5] rfl (by (try simp only [List.map_toArray, List.map_cons, List.map_nil]); first | done | (simp only [hji5]; rfl) | rfl | (simp only [List.length_drop, List.length_take]; rfl)) ?_; (with_reducible refine (impl_Log64u.calls ji5 t126 _ A6.out).mono ?_); rintro e w' ⟨rfl, ⟨nd, rfl⟩⟩; refine ⟨_, rfl, ?_⟩))
          go_meet
          case rel => exact ⟨_, (false), (by first | rfl | (simp; done) | (simp [*]; done)), H', ⟨by first | omega | exact Nat.le_refl _⟩, by repeat (first | exact Drawn0.refl _ | apply Drawn0.step)⟩
      · rw [if_neg c7] at H
        have c7b0 : (t126 == t125) = false := beq_eq_false_iff_ne.mpr c7
        have c7b1 : (t126 != t125) = true := bne_iff_ne.mpr c7
        (first | rw [c7b0] | (simp only [i64_w, i32_w]; rw [c7b0]) | skip)
        have H' := Aside0.mk H
        clear H
        go_wp2_with (first | ((with_reducible refine gate_callee (f := 20) rfl ?_); refine goesL_ (some 8) rfl rfl Try.func20 (by kernel_rfl) rfl #[.int .u64 ji5] rfl (by (try simp only [List.map_toArray, List.map_cons, List.map_nil]); first | done | (simp only [hji5]; rfl) | rfl | (simp only [List.length_drop, List.length_take]; rfl)) ?_; (with_reducible refine (impl_Log64u.calls ji5 t126 _ A6.out).mono ?_); rintro e w' ⟨rfl, ⟨nd, rfl⟩⟩; refine ⟨_, rfl, ?_⟩))
        go_meet
        case rel => exact ⟨_, (true), (by first | rfl | (simp; done) | (simp [*]; done)), H', ⟨by first | omega | exact Nat.le_refl _⟩, by repeat (first | exact Drawn0.refl _ | apply Drawn0.step)⟩
    · rw [if_neg c4] at H
      exact absurd H (by simp)
  case rest =>
    clear HC3
    try clear c1
    try clear c2
    try clear p2
    try clear c4
    try clear c4b0
    try clear c4b1
    try clear p6
    try clear c7
    try clear c7b0
    try clear c7b1
    try clear c8
    try clear c8b0
    try clear c9
    try clear c9b0
    obtain ⟨kq, x21_2, rfl, HA, HJ2, ⟨mc2, rfl⟩⟩ := hcut
    cases kq with
    | zero => exact absurd HA.out (by simp [laws_FnLogs.j0])
    | succ kj2 =>
      have H := HA.out
      clear HA
      simp only [laws_FnLogs.j0] at H
      by_cases c12 : x21_2 = true
      · subst c12
        have H1 : (some false) = some r := by rw [if_pos rfl] at H; exact H
        clear H
        have H := H1
        clear H1
        obtain rfl := Option.some.inj H
        go_wp2
        go_ret
        exact ⟨by first | rfl | (simp; done) | (simp [*]; done), by repeat (first | exact Drawn0.refl _ | apply Drawn0.step)⟩
      · replace c12 := Bool.eq_false_iff.mpr c12
        subst c12
        have H1 : (if t125 < 32 then (if 0 ≤ t125 then ((impl_Log32u.f (shl .u32 1 t125)).bind fun t128 => (if t128 = t125 then (if t125 < 31 then ((impl_Log32.f (shl .i32 1 t125)).bind fun t129 => (laws_FnLogs.j1 kj2 t125 (t129 != t125))) else (laws_FnLogs.j1 kj2 t125 false)) else (laws_FnLogs.j1 kj2 t125 true))) else (none)) else (if t125 < 31 then (if 0 ≤ t125 then ((impl_Log32.f (shl .i32 1 t125)).bind fun t130 => (laws_FnLogs.j1 kj2 t125 (t130 != t125))) else (none)) else (laws_FnLogs.j1 kj2 t125 false))) = some r := by rw [if_neg (show ¬ (false = true) by decide)] at H; exact H
        clear H
        have H := H1
        clear H1
        have HC13 := Aside0.mk H
        clear H
        go_upto_region 4 with (fail)
        go_cut [41] (fun v41 wc => ∃ (kq : Nat) (x41_12 : Bool), v41 = .bool x41_12 ∧ Aside0 (laws_FnLogs.j1 kq t125 x41_12 = some r) ∧ Aside0 (kq ≤ kj2) ∧ Drawn0 w wc)
        case first =>
          have H := HC13.out
          clear HC13
          by_cases c14 : t125 < 32
          · rw [if_pos c14] at H
            have c14b0 : decide (t125 < 32) = true := decide_eq_true c14
            clear c14
            (first | rw [c14b0] | (simp only [i64_w, i32_w]; rw [c14b0]) | skip)
            by_cases c15 : 0 ≤ t125
            · rw [if_pos c15] at H
              have c15b0 := eq_true c15
              have c15b1 : decide (0 ≤ t125) = true := decide_eq_true c15
              clear c15
              obtain ⟨ji16, hji16⟩ : ∃ j_ : Int, (shl .u32 1 t125) = j_ := ⟨_, rfl⟩
              replace H : ((impl_Log32u.f (ji16)).bind fun t128 => (if t128 = t125 then (if t125 < 31 then ((impl_Log32.f (shl .i32 1 t125)).bind fun t129 => (laws_FnLogs.j1 kj2 t125 (t129 != t125))) else (laws_FnLogs.j1 kj2 t125 false)) else (laws_FnLogs.j1 kj2 t125 true))) = some r := by first | (rw [hji16] at H; exact H) | (simp only [hji16] at H ⊢; exact H)
              have hji16_ : (IntKind.u32.wrap (1 * 2 ^ min t125.toNat 32)) = ji16 := hji16
              have hji16z : t125 ≤ 32 → (IntKind.u32.wrap (1 * 2 ^ t125.toNat)) = ji16 := shl_small hji16
              have hji16u : (IntKind.u32.wrap (2 ^ min t125.toNat 32)) = ji16 := by have h_ := hji16_; rw [Int.one_mul] at h_; exact h_
              have hji16v : t125 ≤ 32 → (IntKind.u32.wrap (2 ^ t125.toNat)) = ji16 := fun hle_ => by have h_ := hji16z hle_; rw [Int.one_mul] at h_; exact h_
              replace H := Option.bind_eq_some_iff.mp H
              obtain ⟨t128, A170, H⟩ := H
              replace H : (if t128 = t125 then (if t125 < 31 then ((impl_Log32.f (shl .i32 1 t125)).bind fun t129 => (laws_FnLogs.j1 kj2 t125 (t129 != t125))) else (laws_FnLogs.j1 kj2 t125 false)) else (laws_FnLogs.j1 kj2 t125 true)) = some r := H
              have A17 := Aside0.mk A170
              clear A170
              by_cases c18 : t128 = t125
              · rw [if_pos c18] at H
                have c18b0 : (t128 == t125) = true := beq_iff_eq.mpr c18
                have c18b1 : (t128 != t125) = false := bne_eq_false_iff_eq.mpr c18
                clear c18
                by_cases c19 : t125 < 31
                · rw [if_pos c19] at H
                  have c19b0 : decide (t125 < 31) = true := decide_eq_true c19
                  clear c19
                  have c20b0 := eq_true (of_decide_eq_true (by first | (with_reducible assumption) | assumption) : 0 ≤ t125)
                  obtain ⟨ji21, hji21⟩ : ∃ j_ : Int, (shl .i32 1 t125) = j_ := ⟨_, rfl⟩
                  replace H : ((impl_Log32.f (ji21)).bind fun t129 => (laws_FnLogs.j1 kj2 t125 (t129 != t125))) = some r := by first | (rw [hji21] at H; exact H) | (simp only [hji21] at H ⊢; exact H)
                  (try rw [hji21] at A17)
                  have hji21_ : (IntKind.i32.wrap (1 * 2 ^ min t125.toNat 32)) = ji21 := hji21
                  have hji21z : t125 ≤ 32 → (IntKind.i32.wrap (1 * 2 ^ t125.toNat)) = ji21 := shl_small hji21
                  have hji21u : (IntKind.i32.wrap (2 ^ min t125.toNat 32)) = ji21 := by have h_ := hji21_; rw [Int.one_mul] at h_; exact h_
                  have hji21v : t125 ≤ 32 → (IntKind.i32.wrap (2 ^ t125.toNat)) = ji21 := fun hle_ => by have h_ := hji21z hle_; rw [Int.one_mul] at h_; exact h_
                  have hji21y : (wrap32 (1 * 2 ^ min t125.toNat 32)) = ji21 := (i32_w _).symm.trans hji21_
                  have hji21x : t125 ≤ 32 → (wrap32 (1 * 2 ^ t125.toNat)) = ji21 := fun h_ => (i32_w _).symm.trans (hji21z h_)
                  replace H := Option.bind_eq_some_iff.mp H
                  obtain ⟨t129, A220, H⟩ := H
                  replace H : (laws_FnLogs.j1 kj2 t125 (t129 != t125)) = some r := H
                  have A22 := Aside0.mk A220
                  clear A220
                  have H' := Aside0.mk H
                  clear H
                  go_wp2_with (first | (go_at_call 22; (with_reducible refine (impl_Log32u.calls ji16 t128 _ A17.out).mono ?_); rintro e w' ⟨rfl, ⟨nd, rfl⟩⟩) | (go_at_call 23; (with_reducible refine (impl_Log32.calls ji21 t129 _ A22.out).mono ?_); rintro e w' ⟨rfl, ⟨nd, rfl⟩⟩))
                  go_meet
                  case rel => exact ⟨_, ((t129 != t125)), (by first | rfl | (simp; done) | (simp [*]; done)), H', ⟨by have := HJ2.out; first | omega | exact Nat.le_refl _⟩, by repeat (first | exact Drawn0.refl _ | apply Drawn0.step)⟩
                · rw [if_neg c19] at H
                  have c19b0 : decide (t125 < 31) = false := decide_eq_false c19
                  clear c19
                  have H' := Aside0.mk H
                  clear H
                  go_wp2_with (first | (go_at_call 22; (with_reducible refine (impl_Log32u.calls ji16 t128 _ A17.out).mono ?_); rintro e w' ⟨rfl, ⟨nd, rfl⟩⟩))
                  go_meet
                  case rel => exact ⟨_, (false), (by first | rfl | (simp; done) | (simp [*]; done)), H', ⟨by have := HJ2.out; first | omega | exact Nat.le_refl _⟩, by repeat (first | exact Drawn0.refl _ | apply Drawn0.step)⟩
              · rw [if_neg c18] at H
                have c18b0 : (t128 == t125) = false := beq_eq_false_iff_ne.mpr c18
                have c18b1 : (t128 != t125) = true := bne_iff_ne.mpr c18
                have H' := Aside0.mk H
                clear H
                go_wp2_with (first | (go_at_call 22; (with_reducible refine (impl_Log32u.calls ji16 t128 _ A17.out).mono ?_); rintro e w' ⟨rfl, ⟨nd, rfl⟩⟩))
                go_meet
                case rel => exact ⟨_, (true), (by first | rfl | (simp; done) | (simp [*]; done)), H', ⟨by have := HJ2.out; first | omega | exact Nat.le_refl _⟩, by repeat (first | exact Drawn0.refl _ | apply Drawn0.step)⟩
            · rw [if_neg c15] at H
              exact absurd H (by simp)
          · rw [if_neg c14] at H
            have c14b0 : decide (t125 < 32) = false := decide_eq_false c14
            clear c14
            (first | rw [c14b0] | (simp only [i64_w, i32_w]; rw [c14b0]) | skip)
            by_cases c23 : t125 < 31
            · rw [if_pos c23] at H
              have c23b0 : decide (t125 < 31) = true := decide_eq_true c23
              clear c23
              by_cases c24 : 0 ≤ t125
              · rw [if_pos c24] at H
                have c24b0 := eq_true c24
                have c24b1 : decide (0 ≤ t125) = true := decide_eq_true c24
                clear c24
                obtain ⟨ji25, hji25⟩ : ∃ j_ : Int, (shl .i32 1 t125) = j_ := ⟨_, rfl⟩
                replace H : ((impl_Log32.f (ji25)).bind fun t130 => (laws_FnLogs.j1 kj2 t125 (t130 != t125))) = some r := by first | (rw [hji25] at H; exact H) | (simp only [hji25] at H ⊢; exact H)
                have hji25_ : (IntKind.i32.wrap (1 * 2 ^ min t125.toNat 32)) = ji25 := hji25
                have hji25z : t125 ≤ 32 → (IntKind.i32.wrap (1 * 2 ^ t125.toNat)) = ji25 := shl_small hji25
                have hji25u : (IntKind.i32.wrap (2 ^ min t125.toNat 32)) = ji25 := by have h_ := hji25_; rw [Int.one_mul] at h_; exact h_
                have hji25v : t125 ≤ 32 → (IntKind.i32.wrap (2 ^ t125.toNat)) = ji25 := fun hle_ => by have h_ := hji25z hle_; rw [Int.one_mul] at h_; exact h_
                have hji25y : (wrap32 (1 * 2 ^ min t125.toNat 32)) = ji25 := (i32_w _).symm.trans hji25_
                have hji25x : t125 ≤ 32 → (wrap32 (1 * 2 ^ t125.toNat)) = ji25 := fun h_ => (i32_w _).symm.trans (hji25z h_)
                replace H := Option.bind_eq_some_iff.mp H
                obtain ⟨t130, A260, H⟩ := H
                replace H : (laws_FnLogs.j1 kj2 t125 (t130 != t125)) = some r := H
                have A26 := Aside0.mk A260
                clear A260
                have H' := Aside0.mk H
                clear H
                go_wp2_with (first | (go_at_call 23; (with_reducible refine (impl_Log32.calls ji25 t130 _ A26.out).mono ?_); rintro e w' ⟨rfl, ⟨nd, rfl⟩⟩))
                go_meet
                case rel => exact ⟨_, ((t130 != t125)), (by first | rfl | (simp; done) | (simp [*]; done)), H', ⟨by have := HJ2.out; first | omega | exact Nat.le_refl _⟩, by repeat (first | exact Drawn0.refl _ | apply Drawn0.step)⟩
              · rw [if_neg c24] at H
                exact absurd H (by simp)
            · rw [if_neg c23] at H
              have c23b0 : decide (t125 < 31) = false := decide_eq_false c23
              clear c23
              have H' := Aside0.mk H
              clear H
              go_wp2
              go_meet
              case rel => exact ⟨_, (false), (by first | rfl | (simp; done) | (simp [*]; done)), H', ⟨by have := HJ2.out; first | omega | exact Nat.le_refl _⟩, by repeat (first | exact Drawn0.refl _ | apply Drawn0.step)⟩
        case rest =>
          clear HC13
          try clear c1
          try clear c2
          try clear p2
          try clear p3
          try clear c4
          try clear c4b0
          try clear c4b1
          try clear p6
          try clear c7
          try clear c7b0
          try clear c7b1
          try clear c8
          try clear c8b0
          try clear c9
          try clear c9b0
          try clear c12
          try clear c14
          try clear c14b0
          try clear c15
          try clear c15b0
          try clear c15b1
          try clear c18
          try clear c18b0
          try clear c18b1
          try clear c19
          try clear c19b0
          try clear c20
          try clear c20b0
          try clear c23
          try clear c23b0
          try clear c24
          try clear c24b0
          try clear c24b1
          try clear p2
          try clear p6
          obtain ⟨kq, x41_12, rfl, HA, HJ12, ⟨mc12, rfl⟩⟩ := hcut
          cases kq with
          | zero => exact absurd HA.out (by simp [laws_FnLogs.j1])
          | succ kj12 =>
            have H := HA.out
            clear HA
            simp only [laws_FnLogs.j1] at H
            by_cases c27 : x41_12 = true
            · subst c27
              have H1 : (some false) = some r := by rw [if_pos rfl] at H; exact H
              clear H
              have H := H1
              clear H1
              obtain rfl := Option.some.inj H
              go_wp2
              go_ret
              exact ⟨by first | rfl | (simp; done) | (simp [*]; done), by repeat (first | exact Drawn0.refl _ | apply Drawn0.step)⟩
            · replace c27 := Bool.eq_false_iff.mpr c27
              subst c27
              have H1 : (if t125 < 16 then (if 0 ≤ t125 then ((impl_Log16u.f (shl .u16 1 t125)).bind fun t131 => (if t131 = t125 then (if t125 < 15 then ((impl_Log16.f (shl .i16 1 t125)).bind fun t132 => (laws_FnLogs.j2 kj12 t125 (t132 != t125))) else (laws_FnLogs.j2 kj12 t125 false)) else (laws_FnLogs.j2 kj12 t125 true))) else (none)) else (if t125 < 15 then (if 0 ≤ t125 then ((impl_Log16.f (shl .i16 1 t125)).bind fun t133 => (laws_FnLogs.j2 kj12 t125 (t133 != t125))) else (none)) else (laws_FnLogs.j2 kj12 t125 false))) = some r := by rw [if_neg (show ¬ (false = true) by decide)] at H; exact H
              clear H
              have H := H1
              clear H1
              have HC28 := Aside0.mk H
              clear H
              go_upto_region 6 with (fail)
              go_cut [61] (fun v61 wc => ∃ (kq : Nat) (x61_27 : Bool), v61 = .bool x61_27 ∧ Aside0 (laws_FnLogs.j2 kq t125 x61_27 = some r) ∧ Aside0 (kq ≤ kj12) ∧ Drawn0 w wc)
              case first =>
                have H := HC28.out
                clear HC28
                by_cases c29 : t125 < 16
                · rw [if_pos c29] at H
                  have c29b0 : decide (t125 < 16) = true := decide_eq_true c29
                  clear c29
                  (first | rw [c29b0] | (simp only [i64_w, i32_w]; rw [c29b0]) | skip)
                  by_cases c30 : 0 ≤ t125
                  · rw [if_pos c30] at H
                    have c30b0 := eq_true c30
                    have c30b1 : decide (0 ≤ t125) = true := decide_eq_true c30
                    clear c30
                    obtain ⟨ji31, hji31⟩ : ∃ j_ : Int, (shl .u16 1 t125) = j_ := ⟨_, rfl⟩
                    replace H : ((impl_Log16u.f (ji31)).bind fun t131 => (if t131 = t125 then (if t125 < 15 then ((impl_Log16.f (shl .i16 1 t125)).bind fun t132 => (laws_FnLogs.j2 kj12 t125 (t132 != t125))) else (laws_FnLogs.j2 kj12 t125 false)) else (laws_FnLogs.j2 kj12 t125 true))) = some r := by first | (rw [hji31] at H; exact H) | (simp only [hji31] at H ⊢; exact H)
                    have hji31_ : (IntKind.u16.wrap (1 * 2 ^ min t125.toNat 16)) = ji31 := hji31
                    have hji31z : t125 ≤ 16 → (IntKind.u16.wrap (1 * 2 ^ t125.toNat)) = ji31 := shl_small hji31
                    have hji31u : (IntKind.u16.wrap (2 ^ min t125.toNat 16)) = ji31 := by have h_ := hji31_; rw [Int.one_mul] at h_; exact h_
                    have hji31v : t125 ≤ 16 → (IntKind.u16.wrap (2 ^ t125.toNat)) = ji31 := fun hle_ => by have h_ := hji31z hle_; rw [Int.one_mul] at h_; exact h_
                    replace H := Option.bind_eq_some_iff.mp H
                    obtain ⟨t131, A320, H⟩ := H
                    replace H : (if t131 = t125 then (if t125 < 15 then ((impl_Log16.f (shl .i16 1 t125)).bind fun t132 => (laws_FnLogs.j2 kj12 t125 (t132 != t125))) else (laws_FnLogs.j2 kj12 t125 false)) else (laws_FnLogs.j2 kj12 t125 true)) = some r := H
                    have A32 := Aside0.mk A320
                    clear A320
                    by_cases c33 : t131 = t125
                    · rw [if_pos c33] at H
                      have c33b0 : (t131 == t125) = true := beq_iff_eq.mpr c33
                      have c33b1 : (t131 != t125) = false := bne_eq_false_iff_eq.mpr c33
                      clear c33
                      by_cases c34 : t125 < 15
                      · rw [if_pos c34] at H
                        have c34b0 : decide (t125 < 15) = true := decide_eq_true c34
                        clear c34
                        have c35b0 := eq_true (of_decide_eq_true (by first | (with_reducible assumption) | assumption) : 0 ≤ t125)
                        obtain ⟨ji36, hji36⟩ : ∃ j_ : Int, (shl .i16 1 t125) = j_ := ⟨_, rfl⟩
                        replace H : ((impl_Log16.f (ji36)).bind fun t132 => (laws_FnLogs.j2 kj12 t125 (t132 != t125))) = some r := by first | (rw [hji36] at H; exact H) | (simp only [hji36] at H ⊢; exact H)
                        (try rw [hji36] at A32)
                        have hji36_ : (IntKind.i16.wrap (1 * 2 ^ min t125.toNat 16)) = ji36 := hji36
                        have hji36z : t125 ≤ 16 → (IntKind.i16.wrap (1 * 2 ^ t125.toNat)) = ji36 := shl_small hji36
                        have hji36u : (IntKind.i16.wrap (2 ^ min t125.toNat 16)) = ji36 := by have h_ := hji36_; rw [Int.one_mul] at h_; exact h_
                        have hji36v : t125 ≤ 16 → (IntKind.i16.wrap (2 ^ t125.toNat)) = ji36 := fun hle_ => by have h_ := hji36z hle_; rw [Int.one_mul] at h_; exact h_
                        replace H := Option.bind_eq_some_iff.mp H
                        obtain ⟨t132, A370, H⟩ := H
                        replace H : (laws_FnLogs.j2 kj12 t125 (t132 != t125)) = some r := H
                        have A37 := Aside0.mk A370
                        clear A370
                        have H' := Aside0.mk H
                        clear H
                        go_wp2_with (first | (go_at_call 24; (with_reducible refine (impl_Log16u.calls ji31 t131 _ A32.out).mono ?_); rintro e w' ⟨rfl, ⟨nd, rfl⟩⟩) | (go_at_call 25; (with_reducible refine (impl_Log16.calls ji36 t132 _ A37.out).mono ?_); rintro e w' ⟨rfl, ⟨nd, rfl⟩⟩))
                        go_meet
                        case rel => exact ⟨_, ((t132 != t125)), (by first | rfl | (simp; done) | (simp [*]; done)), H', ⟨by have := HJ2.out; have := HJ12.out; first | omega | exact Nat.le_refl _⟩, by repeat (first | exact Drawn0.refl _ | apply Drawn0.step)⟩
                      · rw [if_neg c34] at H
                        have c34b0 : decide (t125 < 15) = false := decide_eq_false c34
                        clear c34
                        have H' := Aside0.mk H
                        clear H
                        go_wp2_with (first | (go_at_call 24; (with_reducible refine (impl_Log16u.calls ji31 t131 _ A32.out).mono ?_); rintro e w' ⟨rfl, ⟨nd, rfl⟩⟩))
                        go_meet
                        case rel => exact ⟨_, (false), (by first | rfl | (simp; done) | (simp [*]; done)), H', ⟨by have := HJ2.out; have := HJ12.out; first | omega | exact Nat.le_refl _⟩, by repeat (first | exact Drawn0.refl _ | apply Drawn0.step)⟩
                    · rw [if_neg c33] at H
                      have c33b0 : (t131 == t125) = false := beq_eq_false_iff_ne.mpr c33
                      have c33b1 : (t131 != t125) = true := bne_iff_ne.mpr c33
                      have H' := Aside0.mk H
                      clear H
                      go_wp2_with (first | (go_at_call 24; (with_reducible refine (impl_Log16u.calls ji31 t131 _ A32.out).mono ?_); rintro e w' ⟨rfl, ⟨nd, rfl⟩⟩))
                      go_meet
                      case rel => exact ⟨_, (true), (by first | rfl | (simp; done) | (simp [*]; done)), H', ⟨by have := HJ2.out; have := HJ12.out; first | omega | exact Nat.le_refl _⟩, by repeat (first | exact Drawn0.refl _ | apply Drawn0.step)⟩
                  · rw [if_neg c30] at H
                    exact absurd H (by simp)
                · rw [if_neg c29] at H
                  have c29b0 : decide (t125 < 16) = false := decide_eq_false c29
                  clear c29
                  (first | rw [c29b0] | (simp only [i64_w, i32_w]; rw [c29b0]) | skip)
                  by_cases c38 : t125 < 15
                  · rw [if_pos c38] at H
                    have c38b0 : decide (t125 < 15) = true := decide_eq_true c38
                    clear c38
                    by_cases c39 : 0 ≤ t125
                    · rw [if_pos c39] at H
                      have c39b0 := eq_true c39
                      have c39b1 : decide (0 ≤ t125) = true := decide_eq_true c39
                      clear c39
                      obtain ⟨ji40, hji40⟩ : ∃ j_ : Int, (shl .i16 1 t125) = j_ := ⟨_, rfl⟩
                      replace H : ((impl_Log16.f (ji40)).bind fun t133 => (laws_FnLogs.j2 kj12 t125 (t133 != t125))) = some r := by first | (rw [hji40] at H; exact H) | (simp only [hji40] at H ⊢; exact H)
                      have hji40_ : (IntKind.i16.wrap (1 * 2 ^ min t125.toNat 16)) = ji40 := hji40
                      have hji40z : t125 ≤ 16 → (IntKind.i16.wrap (1 * 2 ^ t125.toNat)) = ji40 := shl_small hji40
                      have hji40u : (IntKind.i16.wrap (2 ^ min t125.toNat 16)) = ji40 := by have h_ := hji40_; rw [Int.one_mul] at h_; exact h_
                      have hji40v : t125 ≤ 16 → (IntKind.i16.wrap (2 ^ t125.toNat)) = ji40 := fun hle_ => by have h_ := hji40z hle_; rw [Int.one_mul] at h_; exact h_
                      replace H := Option.bind_eq_some_iff.mp H
                      obtain ⟨t133, A410, H⟩ := H
                      replace H : (laws_FnLogs.j2 kj12 t125 (t133 != t125)) = some r := H
                      have A41 := Aside0.mk A410
                      clear A410
                      have H' := Aside0.mk H
                      clear H
                      go_wp2_with (first | (go_at_call 25; (with_reducible refine (impl_Log16.calls ji40 t133 _ A41.out).mono ?_); rintro e w' ⟨rfl, ⟨nd, rfl⟩⟩))
                      go_meet
                      case rel => exact ⟨_, ((t133 != t125)), (by first | rfl | (simp; done) | (simp [*]; done)), H', ⟨by have := HJ2.out; have := HJ12.out; first | omega | exact Nat.le_refl _⟩, by repeat (first | exact Drawn0.refl _ | apply Drawn0.step)⟩
                    · rw [if_neg c39] at H
                      exact absurd H (by simp)
                  · rw [if_neg c38] at H
                    have c38b0 : decide (t125 < 15) = false := decide_eq_false c38
                    clear c38
                    have H' := Aside0.mk H
                    clear H
                    go_wp2
                    go_meet
                    case rel => exact ⟨_, (false), (by first | rfl | (simp; done) | (simp [*]; done)), H', ⟨by have := HJ2.out; have := HJ12.out; first | omega | exact Nat.le_refl _⟩, by repeat (first | exact Drawn0.refl _ | apply Drawn0.step)⟩
              case rest =>
                clear HC28
                try clear c1
                try clear c2
                try clear p2
                try clear c3
                try clear p3
                try clear c4
                try clear c4b0
                try clear c4b1
                try clear p6
                try clear c7
                try clear c7b0
                try clear c7b1
                try clear c8
                try clear c8b0
                try clear c9
                try clear c9b0
                try clear c12
                try clear c14
                try clear c14b0
                try clear c15
                try clear c15b0
                try clear c15b1
                try clear c18
                try clear c18b0
                try clear c18b1
                try clear c19
                try clear c19b0
                try clear c20
                try clear c20b0
                try clear c23
                try clear c23b0
                try clear c24
                try clear c24b0
                try clear c24b1
                try clear c27
                try clear c29
                try clear c29b0
                try clear c30
                try clear c30b0
                try clear c30b1
                try clear p32
                try clear c33
                try clear c33b0
                try clear c33b1
                try clear c34
                try clear c34b0
                try clear c35
                try clear c35b0
                try clear c38
                try clear c38b0
                try clear c39
                try clear c39b0
                try clear c39b1
                try clear p2
                try clear p3
                try clear p6
                obtain ⟨kq, x61_27, rfl, HA, HJ27, ⟨mc27, rfl⟩⟩ := hcut
                cases kq with
                | zero => exact absurd HA.out (by simp [laws_FnLogs.j2])
                | succ kj27 =>
                  have H := HA.out
                  clear HA
                  simp only [laws_FnLogs.j2] at H
                  by_cases c42 : x61_27 = true
                  · subst c42
                    have H1 : (some false) = some r := by rw [if_pos rfl] at H; exact H
                    clear H
                    have H := H1
                    clear H1
                    obtain rfl := Option.some.inj H
                    go_wp2
                    go_ret
                    exact ⟨by first | rfl | (simp; done) | (simp [*]; done), by repeat (first | exact Drawn0.refl _ | apply Drawn0.step)⟩
                  · replace c42 := Bool.eq_false_iff.mpr c42
                    subst c42
                    have H1 : (if t125 ≥ 8 then (if t125 ≥ 7 then ((impl_Log64.f 8).bind fun t134 => (some (t134 == 3))) else (if 0 ≤ t125 then ((impl_Log8.f (shl .i8 1 t125)).bind fun t135 => (if t135 = t125 then ((impl_Log64.f 8).bind fun t136 => (some (t136 == 3))) else (some false))) else (none))) else (if 0 ≤ t125 then ((impl_Log8u.f (shl .u8 1 t125)).bind fun t137 => (if t137 = t125 then (if t125 ≥ 7 then ((impl_Log64.f 8).bind fun t138 => (some (t138 == 3))) else ((impl_Log8.f (shl .i8 1 t125)).bind fun t139 => (if t139 = t125 then ((impl_Log64.f 8).bind fun t140 => (some (t140 == 3))) else (some false)))) else (some false))) else (none))) = some r := by rw [if_neg (show ¬ (false = true) by decide)] at H; exact H
                    clear H
                    have H := H1
                    clear H1
                    by_cases c43 : t125 ≥ 8
                    · rw [if_pos c43] at H
                      have c43b0 : decide (8 ≤ t125) = true := decide_eq_true c43
                      clear c43
                      by_cases c44 : t125 ≥ 7
                      · rw [if_pos c44] at H
                        have c44b0 : decide (7 ≤ t125) = true := decide_eq_true c44
                        clear c44
                        replace H := Option.bind_eq_some_iff.mp H
                        obtain ⟨t134, A450, H⟩ := H
                        replace H : (some (t134 == 3)) = some r := H
                        have A45 := Aside0.mk A450
                        clear A450
                        obtain rfl := Option.some.inj H
                        go_wp2_with (first | (go_at_call 21; (with_reducible refine (impl_Log64.calls 8 t134 _ A45.out).mono ?_); rintro e w' ⟨rfl, ⟨nd, rfl⟩⟩))
                        go_ret
                        exact ⟨by first | rfl | (simp; done) | (simp [*]; done), by repeat (first | exact Drawn0.refl _ | apply Drawn0.step)⟩
                      · rw [if_neg c44] at H
                        have c44b0 : decide (7 ≤ t125) = false := decide_eq_false c44
                        clear c44
                        by_cases c46 : 0 ≤ t125
                        · rw [if_pos c46] at H
                          have c46b0 := eq_true c46
                          have c46b1 : decide (0 ≤ t125) = true := decide_eq_true c46
                          clear c46
                          obtain ⟨ji47, hji47⟩ : ∃ j_ : Int, (shl .i8 1 t125) = j_ := ⟨_, rfl⟩
                          replace H : ((impl_Log8.f (ji47)).bind fun t135 => (if t135 = t125 then ((impl_Log64.f 8).bind fun t136 => (some (t136 == 3))) else (some false))) = some r := by first | (rw [hji47] at H; exact H) | (simp only [hji47] at H ⊢; exact H)
                          have hji47_ : (IntKind.i8.wrap (1 * 2 ^ min t125.toNat 8)) = ji47 := hji47
                          have hji47z : t125 ≤ 8 → (IntKind.i8.wrap (1 * 2 ^ t125.toNat)) = ji47 := shl_small hji47
                          have hji47u : (IntKind.i8.wrap (2 ^ min t125.toNat 8)) = ji47 := by have h_ := hji47_; rw [Int.one_mul] at h_; exact h_
                          have hji47v : t125 ≤ 8 → (IntKind.i8.wrap (2 ^ t125.toNat)) = ji47 := fun hle_ => by have h_ := hji47z hle_; rw [Int.one_mul] at h_; exact h_
                          replace H := Option.bind_eq_some_iff.mp H
                          obtain ⟨t135, A480, H⟩ := H
                          replace H : (if t135 = t125 then ((impl_Log64.f 8).bind fun t136 => (some (t136 == 3))) else (some false)) = some r := H
                          have A48 := Aside0.mk A480
                          clear A480
                          by_cases c49 : t135 = t125
                          · rw [if_pos c49] at H
                            have c49b0 : (t135 == t125) = true := beq_iff_eq.mpr c49
                            have c49b1 : (t135 != t125) = false := bne_eq_false_iff_eq.mpr c49
                            clear c49
                            replace H := Option.bind_eq_some_iff.mp H
                            obtain ⟨t136, A500, H⟩ := H
                            replace H : (some (t136 == 3)) = some r := H
                            have A50 := Aside0.mk A500
                            clear A500
                            obtain rfl := Option.some.inj H
                            go_wp2_with (first | (go_at_call 27; (with_reducible refine (impl_Log8.calls ji47 t135 _ A48.out).mono ?_); rintro e w' ⟨rfl, ⟨nd, rfl⟩⟩) | (go_at_call 21; (with_reducible refine (impl_Log64.calls 8 t136 _ A50.out).mono ?_); rintro e w' ⟨rfl, ⟨nd, rfl⟩⟩))
                            go_ret
                            exact ⟨by first | rfl | (simp; done) | (simp only [← hji47] <;> (first | rfl | simp)) | (simp [*]; done), by repeat (first | exact Drawn0.refl _ | apply Drawn0.step)⟩
                          · rw [if_neg c49] at H
                            have c49b0 : (t135 == t125) = false := beq_eq_false_iff_ne.mpr c49
                            have c49b1 : (t135 != t125) = true := bne_iff_ne.mpr c49
                            obtain rfl := Option.some.inj H
                            go_wp2_with (first | (go_at_call 27; (with_reducible refine (impl_Log8.calls ji47 t135 _ A48.out).mono ?_); rintro e w' ⟨rfl, ⟨nd, rfl⟩⟩))
                            go_ret
                            exact ⟨by first | rfl | (simp; done) | (simp only [← hji47] <;> (first | rfl | simp)) | (simp [*]; done), by repeat (first | exact Drawn0.refl _ | apply Drawn0.step)⟩
                        · rw [if_neg c46] at H
                          exact absurd H (by simp)
                    · rw [if_neg c43] at H
                      have c43b0 : decide (8 ≤ t125) = false := decide_eq_false c43
                      clear c43
                      by_cases c51 : 0 ≤ t125
                      · rw [if_pos c51] at H
                        have c51b0 := eq_true c51
                        have c51b1 : decide (0 ≤ t125) = true := decide_eq_true c51
                        clear c51
                        obtain ⟨ji52, hji52⟩ : ∃ j_ : Int, (shl .u8 1 t125) = j_ := ⟨_, rfl⟩
                        replace H : ((impl_Log8u.f (ji52)).bind fun t137 => (if t137 = t125 then (if t125 ≥ 7 then ((impl_Log64.f 8).bind fun t138 => (some (t138 == 3))) else ((impl_Log8.f (shl .i8 1 t125)).bind fun t139 => (if t139 = t125 then ((impl_Log64.f 8).bind fun t140 => (some (t140 == 3))) else (some false)))) else (some false))) = some r := by first | (rw [hji52] at H; exact H) | (simp only [hji52] at H ⊢; exact H)
                        have hji52_ : (IntKind.u8.wrap (1 * 2 ^ min t125.toNat 8)) = ji52 := hji52
                        have hji52z : t125 ≤ 8 → (IntKind.u8.wrap (1 * 2 ^ t125.toNat)) = ji52 := shl_small hji52
                        have hji52u : (IntKind.u8.wrap (2 ^ min t125.toNat 8)) = ji52 := by have h_ := hji52_; rw [Int.one_mul] at h_; exact h_
                        have hji52v : t125 ≤ 8 → (IntKind.u8.wrap (2 ^ t125.toNat)) = ji52 := fun hle_ => by have h_ := hji52z hle_; rw [Int.one_mul] at h_; exact h_
                        replace H := Option.bind_eq_some_iff.mp H
                        obtain ⟨t137, A530, H⟩ := H
                        replace H : (if t137 = t125 then (if t125 ≥ 7 then ((impl_Log64.f 8).bind fun t138 => (some (t138 == 3))) else ((impl_Log8.f (shl .i8 1 t125)).bind fun t139 => (if t139 = t125 then ((impl_Log64.f 8).bind fun t140 => (some (t140 == 3))) else (some false)))) else (some false)) = some r := H
                        have A53 := Aside0.mk A530
                        clear A530
                        by_cases c54 : t137 = t125
                        · rw [if_pos c54] at H
                          have c54b0 : (t137 == t125) = true := beq_iff_eq.mpr c54
                          have c54b1 : (t137 != t125) = false := bne_eq_false_iff_eq.mpr c54
                          clear c54
                          by_cases c55 : t125 ≥ 7
                          · rw [if_pos c55] at H
                            have c55b0 : decide (7 ≤ t125) = true := decide_eq_true c55
                            clear c55
                            replace H := Option.bind_eq_some_iff.mp H
                            obtain ⟨t138, A560, H⟩ := H
                            replace H : (some (t138 == 3)) = some r := H
                            have A56 := Aside0.mk A560
                            clear A560
                            obtain rfl := Option.some.inj H
                            go_wp2_with (first | (go_at_call 26; (with_reducible refine (impl_Log8u.calls ji52 t137 _ A53.out).mono ?_); rintro e w' ⟨rfl, ⟨nd, rfl⟩⟩) | (go_at_call 21; (with_reducible refine (impl_Log64.calls 8 t138 _ A56.out).mono ?_); rintro e w' ⟨rfl, ⟨nd, rfl⟩⟩))
                            go_ret
                            exact ⟨by first | rfl | (simp; done) | (simp only [← hji52] <;> (first | rfl | simp)) | (simp [*]; done), by repeat (first | exact Drawn0.refl _ | apply Drawn0.step)⟩
                          · rw [if_neg c55] at H
                            have c55b0 : decide (7 ≤ t125) = false := decide_eq_false c55
                            clear c55
                            have c57b0 := eq_true (of_decide_eq_true (by first | (with_reducible assumption) | assumption) : 0 ≤ t125)
                            obtain ⟨ji58, hji58⟩ : ∃ j_ : Int, (shl .i8 1 t125) = j_ := ⟨_, rfl⟩
                            replace H : ((impl_Log8.f (ji58)).bind fun t139 => (if t139 = t125 then ((impl_Log64.f 8).bind fun t140 => (some (t140 == 3))) else (some false))) = some r := by first | (rw [hji58] at H; exact H) | (simp only [hji58] at H ⊢; exact H)
                            (try rw [hji58] at A53)
                            have hji58_ : (IntKind.i8.wrap (1 * 2 ^ min t125.toNat 8)) = ji58 := hji58
                            have hji58z : t125 ≤ 8 → (IntKind.i8.wrap (1 * 2 ^ t125.toNat)) = ji58 := shl_small hji58
                            have hji58u : (IntKind.i8.wrap (2 ^ min t125.toNat 8)) = ji58 := by have h_ := hji58_; rw [Int.one_mul] at h_; exact h_
                            have hji58v : t125 ≤ 8 → (IntKind.i8.wrap (2 ^ t125.toNat)) = ji58 := fun hle_ => by have h_ := hji58z hle_; rw [Int.one_mul] at h_; exact h_
                            replace H := Option.bind_eq_some_iff.mp H
                            obtain ⟨t139, A590, H⟩ := H
                            replace H : (if t139 = t125 then ((impl_Log64.f 8).bind fun t140 => (some (t140 == 3))) else (some false)) = some r := H
                            have A59 := Aside0.mk A590
                            clear A590
                            by_cases c60 : t139 = t125
                            · rw [if_pos c60] at H
                              have c60b0 : (t139 == t125) = true := beq_iff_eq.mpr c60
                              have c60b1 : (t139 != t125) = false := bne_eq_false_iff_eq.mpr c60
                              clear c60
                              replace H := Option.bind_eq_some_iff.mp H
                              obtain ⟨t140, A610, H⟩ := H
                              replace H : (some (t140 == 3)) = some r := H
                              have A61 := Aside0.mk A610
                              clear A610
                              obtain rfl := Option.some.inj H
                              go_wp2_with (first | (go_at_call 26; (with_reducible refine (impl_Log8u.calls ji52 t137 _ A53.out).mono ?_); rintro e w' ⟨rfl, ⟨nd, rfl⟩⟩) | (go_at_call 27; (with_reducible refine (impl_Log8.calls ji58 t139 _ A59.out).mono ?_); rintro e w' ⟨rfl, ⟨nd, rfl⟩⟩) | (go_at_call 21; (with_reducible refine (impl_Log64.calls 8 t140 _ A61.out).mono ?_); rintro e w' ⟨rfl, ⟨nd, rfl⟩⟩))
                              go_ret
                              exact ⟨by first | rfl | (simp; done) | (simp only [← hji52, ← hji58] <;> (first | rfl | simp)) | (simp [*]; done), by repeat (first | exact Drawn0.refl _ | apply Drawn0.step)⟩
                            · rw [if_neg c60] at H
                              have c60b0 : (t139 == t125) = false := beq_eq_false_iff_ne.mpr c60
                              have c60b1 : (t139 != t125) = true := bne_iff_ne.mpr c60
                              obtain rfl := Option.some.inj H
                              go_wp2_with (first | (go_at_call 26; (with_reducible refine (impl_Log8u.calls ji52 t137 _ A53.out).mono ?_); rintro e w' ⟨rfl, ⟨nd, rfl⟩⟩) | (go_at_call 27; (with_reducible refine (impl_Log8.calls ji58 t139 _ A59.out).mono ?_); rintro e w' ⟨rfl, ⟨nd, rfl⟩⟩))
                              go_ret
                              exact ⟨by first | rfl | (simp; done) | (simp only [← hji52, ← hji58] <;> (first | rfl | simp)) | (simp [*]; done), by repeat (first | exact Drawn0.refl _ | apply Drawn0.step)⟩
                        · rw [if_neg c54] at H
                          have c54b0 : (t137 == t125) = false := beq_eq_false_iff_ne.mpr c54
                          have c54b1 : (t137 != t125) = true := bne_iff_ne.mpr c54
                          obtain rfl := Option.some.inj H
                          go_wp2_with (first | (go_at_call 26; (with_reducible refine (impl_Log8u.calls ji52 t137 _ A53.out).mono ?_); rintro e w' ⟨rfl, ⟨nd, rfl⟩⟩))
                          go_ret
                          exact ⟨by first | rfl | (simp; done) | (simp only [← hji52] <;> (first | rfl | simp)) | (simp [*]; done), by repeat (first | exact Drawn0.refl _ | apply Drawn0.step)⟩
                      · rw [if_neg c51] at H
                        exact absurd H (by simp)

/-- THE ONE PURE STATEMENT of laws_FnLogs: yours. -/
def laws_FnLogs.Pure : Prop := ∀ (a0 : Int), (Lit.int .i64 a0).wf = true → ∃ k, laws_FnLogs.f k a0 = some true
theorem laws_FnLogs.walk (P : laws_FnLogs.Pure) (a0 : Int) (w : World) (w0 : (Lit.int .i64 a0).wf = true) :
    Calls Try.prog 7 #[.int .i64 a0] w fun e w' => e = .returned (.bool true) ∧ Below w.heap.size w w' := by
  obtain ⟨k, h⟩ := P a0 w0
  refine (laws_FnLogs.calls k a0 true w h).mono ?_
  rintro e w' ⟨rfl, hd⟩
  exact ⟨rfl, hd.below⟩

end Go.Proofs.Ytcihkjjejckicaa.PFnLogs
