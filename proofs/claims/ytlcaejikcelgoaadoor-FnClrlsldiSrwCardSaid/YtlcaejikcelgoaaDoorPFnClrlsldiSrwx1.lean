-- Written by a program of this session out of the translation (wip/pp.py): Lean checks it.
import Derived.Test.YtlcaejikcelgoaaDoorPFnClrlsldiSrwx0
namespace Go.Proofs.YtlcaejikcelgoaaDoor.PFnClrlsldiSrw
open Go.RowKit Go.Proofs.YtlcaejikcelgoaaDoorW.PrintWords Go.Proofs.YtlcaejikcelgoaaDoorW.PrintLast Go.Proofs.YtlcaejikcelgoaaDoorW.PrintMore
attribute [local go_sem] max2_int min2_int max_two min_two max_three min_three max_four min_four   -- for this text's walks alone
set_option linter.unusedVariables false
set_option linter.unusedSimpArgs false

attribute [local go_sem] signed_i64 signed_i32 signed_u32 max_u32 signed_u64 max_u64
/-! ### laws_rwAt: function 12 -/
def laws_rwAt.f (a0 : Int) (a1 : Int) : Option (Int) := if a1 = 0 then (none) else (some (Int.tmod (wrap64 ((Int.tmod a0 a1) + a1)) a1))
set_option maxHeartbeats 8000000 in
set_option maxRecDepth 100000 in
theorem laws_rwAt.calls (a0 : Int) (a1 : Int) (r : Int) (w : World) (h : laws_rwAt.f a0 a1 = some r) :
    Calls Tryd.prog 12 #[.int .i64 a0, .int .i64 a1] w fun e w' => e = .returned (.int .i64 r) ∧ Drawn0 w w' := by
  have H : (if a1 = 0 then (none) else (some (Int.tmod (wrap64 ((Int.tmod a0 a1) + a1)) a1))) = some r := h
  clear h
  by_cases c3 : a1 = 0
  · rw [if_pos c3] at H
    exact absurd H (by simp)
  · rw [if_neg c3] at H
    have c3b0 : (a1 == 0) = false := beq_eq_false_iff_ne.mpr c3
    have c3b1 : (a1 != 0) = true := bne_iff_ne.mpr c3
    obtain rfl := Option.some.inj H
    go_enter Tryd.func12, Tryd.ntmps12
    go_wp2
    go_ret
    exact ⟨by first | rfl | (simp; done) | (simp [*]; done), by repeat (first | exact Drawn0.refl _ | apply Drawn0.step)⟩

attribute [local go_sem] signed_i64 signed_i32 signed_u32 max_u32 signed_u64 max_u64
/-! ### spec_Low: function 19 -/
def spec_Low.f (a0 : Int) (a1 : Int) : Option (Int) := if a1 ≥ 64 then (some a0) else (if 0 ≤ a1 then (if (shl .u64 1 a1) = 0 then (none) else (some (Int.tmod a0 (shl .u64 1 a1)))) else (none))
set_option maxHeartbeats 8000000 in
set_option maxRecDepth 100000 in
theorem spec_Low.calls (a0 : Int) (a1 : Int) (r : Int) (w : World) (h : spec_Low.f a0 a1 = some r) :
    Calls Tryd.prog 19 #[.int .u64 a0, .int .u64 a1] w fun e w' => e = .returned (.int .u64 r) ∧ Drawn0 w w' := by
  have H : (if a1 ≥ 64 then (some a0) else (if 0 ≤ a1 then (if (shl .u64 1 a1) = 0 then (none) else (some (Int.tmod a0 (shl .u64 1 a1)))) else (none))) = some r := h
  clear h
  by_cases c3 : a1 ≥ 64
  · rw [if_pos c3] at H
    have c3b0 : decide (64 ≤ a1) = true := decide_eq_true c3
    clear c3
    obtain rfl := Option.some.inj H
    go_enter Tryd.func19, Tryd.ntmps19
    go_wp2
    go_ret
    exact ⟨by first | rfl | (simp; done) | (simp [*]; done), by repeat (first | exact Drawn0.refl _ | apply Drawn0.step)⟩
  · rw [if_neg c3] at H
    have c3b0 : decide (64 ≤ a1) = false := decide_eq_false c3
    clear c3
    by_cases c4 : 0 ≤ a1
    · rw [if_pos c4] at H
      have c4b0 := eq_true c4
      have c4b1 : decide (0 ≤ a1) = true := decide_eq_true c4
      clear c4
      obtain ⟨ji5, hji5⟩ : ∃ j_ : Int, (shl .u64 1 a1) = j_ := ⟨_, rfl⟩
      replace H : (if (ji5) = 0 then (none) else (some (Int.tmod a0 (ji5)))) = some r := by first | (rw [hji5] at H; exact H) | (simp only [hji5] at H ⊢; exact H)
      have hji5_ : (IntKind.u64.wrap (1 * 2 ^ min a1.toNat 64)) = ji5 := hji5
      have hji5z : a1 ≤ 64 → (IntKind.u64.wrap (1 * 2 ^ a1.toNat)) = ji5 := shl_small hji5
      have hji5u : (IntKind.u64.wrap (2 ^ min a1.toNat 64)) = ji5 := by have h_ := hji5_; rw [Int.one_mul] at h_; exact h_
      have hji5v : a1 ≤ 64 → (IntKind.u64.wrap (2 ^ a1.toNat)) = ji5 := fun hle_ => by have h_ := hji5z hle_; rw [Int.one_mul] at h_; exact h_
      by_cases c6 : (ji5) = 0
      · rw [if_pos c6] at H
        exact absurd H (by simp)
      · rw [if_neg c6] at H
        have c6b0 : ((ji5) == 0) = false := beq_eq_false_iff_ne.mpr c6
        have c6b1 : ((ji5) != 0) = true := bne_iff_ne.mpr c6
        obtain rfl := Option.some.inj H
        go_enter Tryd.func19, Tryd.ntmps19
        go_wp2
        go_ret
        exact ⟨by first | rfl | (simp; done) | (simp only [← hji5] <;> (first | rfl | simp)) | (simp [*]; done), by repeat (first | exact Drawn0.refl _ | apply Drawn0.step)⟩
    · rw [if_neg c4] at H
      exact absurd H (by simp)

attribute [local go_sem] signed_i64 signed_i32 signed_u32 max_u32 signed_u64 max_u64
/-! ### ssarewrite_newPPC64ShiftAuxInt: function 61 -/
mutual
def ssarewrite_newPPC64ShiftAuxInt.j0 : Nat → Int → Int → Int → Int → Bool → Option (Int)
  | 0, _, _, _, _, _ => none
  | k + 1, x0, x1, x2, x3, x15 => if x15 = true then (none) else (if x1 < 0 then (ssarewrite_newPPC64ShiftAuxInt.j1 k x0 x1 x2 x3 true) else (ssarewrite_newPPC64ShiftAuxInt.j1 k x0 x1 x2 x3 (decide (x1 ≥ x3))))
def ssarewrite_newPPC64ShiftAuxInt.j1 : Nat → Int → Int → Int → Int → Bool → Option (Int)
  | 0, _, _, _, _, _ => none
  | k + 1, x0, x1, x2, x3, x23 => if x23 = true then (none) else (if x2 < 0 then (none) else (if x2 ≥ x3 then (none) else (some (wrap32 (Go.bits .or .i64 (Go.bits .or .i64 (wrap64 (x0 * 65536)) (wrap64 (x1 * 256))) x2)))))
end
def ssarewrite_newPPC64ShiftAuxInt.f (k : Nat) (a0 : Int) (a1 : Int) (a2 : Int) (a3 : Int) : Option (Int) := if a0 < 0 then (ssarewrite_newPPC64ShiftAuxInt.j0 k a0 a1 a2 a3 true) else (ssarewrite_newPPC64ShiftAuxInt.j0 k a0 a1 a2 a3 (decide (a0 ≥ a3)))
theorem ssarewrite_newPPC64ShiftAuxInt.mono_l : ∀ k, (∀ y0 y1 y2 y3 y4, LeO (ssarewrite_newPPC64ShiftAuxInt.j0 k y0 y1 y2 y3 y4) (ssarewrite_newPPC64ShiftAuxInt.j0 (k + 1) y0 y1 y2 y3 y4)) ∧ (∀ y0 y1 y2 y3 y4, LeO (ssarewrite_newPPC64ShiftAuxInt.j1 k y0 y1 y2 y3 y4) (ssarewrite_newPPC64ShiftAuxInt.j1 (k + 1) y0 y1 y2 y3 y4))
  | 0 => ⟨fun _ _ _ _ _ r h => by simp [ssarewrite_newPPC64ShiftAuxInt.j0] at h, fun _ _ _ _ _ r h => by simp [ssarewrite_newPPC64ShiftAuxInt.j1] at h⟩
  | k + 1 => by
    obtain ⟨ih0, ih1⟩ := ssarewrite_newPPC64ShiftAuxInt.mono_l k
    refine ⟨?_, ?_⟩
    · intro y0 y1 y2 y3 y4
      unfold ssarewrite_newPPC64ShiftAuxInt.j0
      repeat' first
      | (with_reducible exact ih0 _ _ _ _ _)
      | (with_reducible exact ih1 _ _ _ _ _)
      | (with_reducible exact LeO.refl _)
      | (with_reducible exact LeO.none _)
      | (with_reducible refine LeO.ite ?_ ?_)
      | (with_reducible refine LeO.bind ?_ (fun _ => ?_))
      | exact ih0 _ _ _ _ _
      | exact ih1 _ _ _ _ _
      | exact LeO.none _
      | refine LeO.ite ?_ ?_
      | refine LeO.bind ?_ (fun _ => ?_)
    · intro y0 y1 y2 y3 y4
      unfold ssarewrite_newPPC64ShiftAuxInt.j1
      repeat' first
      | (with_reducible exact ih0 _ _ _ _ _)
      | (with_reducible exact ih1 _ _ _ _ _)
      | (with_reducible exact LeO.refl _)
      | (with_reducible exact LeO.none _)
      | (with_reducible refine LeO.ite ?_ ?_)
      | (with_reducible refine LeO.bind ?_ (fun _ => ?_))
      | exact ih0 _ _ _ _ _
      | exact ih1 _ _ _ _ _
      | exact LeO.none _
      | refine LeO.ite ?_ ?_
      | refine LeO.bind ?_ (fun _ => ?_)
theorem ssarewrite_newPPC64ShiftAuxInt.mono : ∀ a0 a1 a2 a3 k, LeO (ssarewrite_newPPC64ShiftAuxInt.f k a0 a1 a2 a3) (ssarewrite_newPPC64ShiftAuxInt.f (k + 1) a0 a1 a2 a3) := by
  intro a0 a1 a2 a3 k
  obtain ⟨ih0, ih1⟩ := ssarewrite_newPPC64ShiftAuxInt.mono_l k
  unfold ssarewrite_newPPC64ShiftAuxInt.f
  repeat' first
      | (with_reducible exact ih0 _ _ _ _ _)
      | (with_reducible exact ih1 _ _ _ _ _)
      | (with_reducible exact LeO.refl _)
      | (with_reducible exact LeO.none _)
      | (with_reducible refine LeO.ite ?_ ?_)
      | (with_reducible refine LeO.bind ?_ (fun _ => ?_))
      | exact ih0 _ _ _ _ _
      | exact ih1 _ _ _ _ _
      | exact LeO.none _
      | refine LeO.ite ?_ ?_
      | refine LeO.bind ?_ (fun _ => ?_)
set_option maxHeartbeats 8000000 in
set_option maxRecDepth 100000 in
theorem ssarewrite_newPPC64ShiftAuxInt.calls (k : Nat) (a0 : Int) (a1 : Int) (a2 : Int) (a3 : Int) (r : Int) (w : World) (h : ssarewrite_newPPC64ShiftAuxInt.f k a0 a1 a2 a3 = some r) :
    Calls Tryd.prog 61 #[.int .i64 a0, .int .i64 a1, .int .i64 a2, .int .i64 a3] w fun e w' => e = .returned (.int .i32 r) ∧ Drawn0 w w' := by
  have H : (if a0 < 0 then (ssarewrite_newPPC64ShiftAuxInt.j0 k a0 a1 a2 a3 true) else (ssarewrite_newPPC64ShiftAuxInt.j0 k a0 a1 a2 a3 (decide (a0 ≥ a3)))) = some r := h
  clear h
  have HC5 := Aside0.mk H
  clear H
  go_enter Tryd.func61, Tryd.ntmps61
  go_upto_region 1 with (fail)
  go_cut [15] (fun v15 wc => ∃ (kq : Nat) (x15_4 : Bool), v15 = .bool x15_4 ∧ Aside0 (ssarewrite_newPPC64ShiftAuxInt.j0 kq a0 a1 a2 a3 x15_4 = some r) ∧ Aside0 (kq ≤ k) ∧ Drawn0 w wc)
  case first =>
    have H := HC5.out
    clear HC5
    by_cases c6 : a0 < 0
    · rw [if_pos c6] at H
      have c6b0 : decide (a0 < 0) = true := decide_eq_true c6
      clear c6
      (first | rw [c6b0] | (simp only [i64_w, i32_w]; rw [c6b0]) | skip)
      have H' := Aside0.mk H
      clear H
      go_wp2
      go_meet
      case rel => exact ⟨_, (true), (by first | rfl | (simp; done) | (simp [*]; done)), H', ⟨by first | omega | exact Nat.le_refl _⟩, by repeat (first | exact Drawn0.refl _ | apply Drawn0.step)⟩
    · rw [if_neg c6] at H
      have c6b0 : decide (a0 < 0) = false := decide_eq_false c6
      clear c6
      (first | rw [c6b0] | (simp only [i64_w, i32_w]; rw [c6b0]) | skip)
      have H' := Aside0.mk H
      clear H
      go_wp2
      go_meet
      case rel => exact ⟨_, (decide (a0 ≥ a3)), (by first | rfl | (simp; done) | (simp [*]; done)), H', ⟨by first | omega | exact Nat.le_refl _⟩, by repeat (first | exact Drawn0.refl _ | apply Drawn0.step)⟩
  case rest =>
    clear HC5
    try clear p2
    try clear c6
    try clear c6b0
    obtain ⟨kq, x15_4, rfl, HA, HJ4, ⟨mc4, rfl⟩⟩ := hcut
    cases kq with
    | zero => exact absurd HA.out (by simp [ssarewrite_newPPC64ShiftAuxInt.j0])
    | succ kj4 =>
      have H := HA.out
      clear HA
      simp only [ssarewrite_newPPC64ShiftAuxInt.j0] at H
      by_cases c7 : x15_4 = true
      · subst c7
        have H1 : (none) = some r := by rw [if_pos rfl] at H; exact H
        clear H
        have H := H1
        clear H1
        exact absurd H (by simp)
      · replace c7 := Bool.eq_false_iff.mpr c7
        subst c7
        have H1 : (if a1 < 0 then (ssarewrite_newPPC64ShiftAuxInt.j1 kj4 a0 a1 a2 a3 true) else (ssarewrite_newPPC64ShiftAuxInt.j1 kj4 a0 a1 a2 a3 (decide (a1 ≥ a3)))) = some r := by rw [if_neg (show ¬ (false = true) by decide)] at H; exact H
        clear H
        have H := H1
        clear H1
        have HC8 := Aside0.mk H
        clear H
        go_upto_region 3 with (fail)
        go_cut [23] (fun v23 wc => ∃ (kq : Nat) (x23_7 : Bool), v23 = .bool x23_7 ∧ Aside0 (ssarewrite_newPPC64ShiftAuxInt.j1 kq a0 a1 a2 a3 x23_7 = some r) ∧ Aside0 (kq ≤ kj4) ∧ Drawn0 w wc)
        case first =>
          have H := HC8.out
          clear HC8
          by_cases c9 : a1 < 0
          · rw [if_pos c9] at H
            have c9b0 : decide (a1 < 0) = true := decide_eq_true c9
            clear c9
            (first | rw [c9b0] | (simp only [i64_w, i32_w]; rw [c9b0]) | skip)
            have H' := Aside0.mk H
            clear H
            go_wp2
            go_meet
            case rel => exact ⟨_, (true), (by first | rfl | (simp; done) | (simp [*]; done)), H', ⟨by have := HJ4.out; first | omega | exact Nat.le_refl _⟩, by repeat (first | exact Drawn0.refl _ | apply Drawn0.step)⟩
          · rw [if_neg c9] at H
            have c9b0 : decide (a1 < 0) = false := decide_eq_false c9
            clear c9
            (first | rw [c9b0] | (simp only [i64_w, i32_w]; rw [c9b0]) | skip)
            have H' := Aside0.mk H
            clear H
            go_wp2
            go_meet
            case rel => exact ⟨_, (decide (a1 ≥ a3)), (by first | rfl | (simp; done) | (simp [*]; done)), H', ⟨by have := HJ4.out; first | omega | exact Nat.le_refl _⟩, by repeat (first | exact Drawn0.refl _ | apply Drawn0.step)⟩
        case rest =>
          clear HC8
          try clear p2
          try clear c4
          try clear c6
          try clear c6b0
          try clear c7
          try clear c9
          try clear c9b0
          try clear p2
          obtain ⟨kq, x23_7, rfl, HA, HJ7, ⟨mc7, rfl⟩⟩ := hcut
          cases kq with
          | zero => exact absurd HA.out (by simp [ssarewrite_newPPC64ShiftAuxInt.j1])
          | succ kj7 =>
            have H := HA.out
            clear HA
            simp only [ssarewrite_newPPC64ShiftAuxInt.j1] at H
            by_cases c10 : x23_7 = true
            · subst c10
              have H1 : (none) = some r := by rw [if_pos rfl] at H; exact H
              clear H
              have H := H1
              clear H1
              exact absurd H (by simp)
            · replace c10 := Bool.eq_false_iff.mpr c10
              subst c10
              have H1 : (if a2 < 0 then (none) else (if a2 ≥ a3 then (none) else (some (wrap32 (Go.bits .or .i64 (Go.bits .or .i64 (wrap64 (a0 * 65536)) (wrap64 (a1 * 256))) a2))))) = some r := by rw [if_neg (show ¬ (false = true) by decide)] at H; exact H
              clear H
              have H := H1
              clear H1
              by_cases c11 : a2 < 0
              · rw [if_pos c11] at H
                exact absurd H (by simp)
              · rw [if_neg c11] at H
                have c11b0 : decide (a2 < 0) = false := decide_eq_false c11
                clear c11
                by_cases c12 : a2 ≥ a3
                · rw [if_pos c12] at H
                  exact absurd H (by simp)
                · rw [if_neg c12] at H
                  have c12b0 : decide (a3 ≤ a2) = false := decide_eq_false c12
                  clear c12
                  obtain rfl := Option.some.inj H
                  go_wp2
                  go_ret
                  exact ⟨by first | rfl | (simp; done) | (simp [*]; done), by repeat (first | exact Drawn0.refl _ | apply Drawn0.step)⟩

attribute [local go_sem] signed_i64 signed_i32 signed_u32 max_u32 signed_u64 max_u64
/-! ### ssarewrite_ZZNewPPC64ShiftAuxInt: function 48 -/
def ssarewrite_ZZNewPPC64ShiftAuxInt.f (k : Nat) (a0 : Int) (a1 : Int) (a2 : Int) (a3 : Int) : Option (Int) := (ssarewrite_newPPC64ShiftAuxInt.f k a0 a1 a2 a3).bind fun t101 => (some t101)
theorem ssarewrite_ZZNewPPC64ShiftAuxInt.mono : ∀ a0 a1 a2 a3 k, LeO (ssarewrite_ZZNewPPC64ShiftAuxInt.f k a0 a1 a2 a3) (ssarewrite_ZZNewPPC64ShiftAuxInt.f (k + 1) a0 a1 a2 a3) := by
  intro a0 a1 a2 a3 k
  unfold ssarewrite_ZZNewPPC64ShiftAuxInt.f
  repeat' first
      | (with_reducible exact ssarewrite_newPPC64ShiftAuxInt.mono _ _ _ _ _)
      | (with_reducible exact LeO.refl _)
      | (with_reducible exact LeO.none _)
      | (with_reducible refine LeO.ite ?_ ?_)
      | (with_reducible refine LeO.bind ?_ (fun _ => ?_))
      | exact ssarewrite_newPPC64ShiftAuxInt.mono _ _ _ _ _
      | exact LeO.none _
      | refine LeO.ite ?_ ?_
      | refine LeO.bind ?_ (fun _ => ?_)
set_option maxHeartbeats 8000000 in
set_option maxRecDepth 100000 in
theorem ssarewrite_ZZNewPPC64ShiftAuxInt.calls (k : Nat) (a0 : Int) (a1 : Int) (a2 : Int) (a3 : Int) (r : Int) (w : World) (h : ssarewrite_ZZNewPPC64ShiftAuxInt.f k a0 a1 a2 a3 = some r) :
    Calls Tryd.prog 48 #[.int .i64 a0, .int .i64 a1, .int .i64 a2, .int .i64 a3] w fun e w' => e = .returned (.int .i32 r) ∧ Drawn0 w w' := by
  have H : ((ssarewrite_newPPC64ShiftAuxInt.f k a0 a1 a2 a3).bind fun t101 => (some t101)) = some r := h
  clear h
  replace H := Option.bind_eq_some_iff.mp H
  obtain ⟨t101, A50, H⟩ := H
  replace H : (some t101) = some r := H
  have A5 := Aside0.mk A50
  clear A50
  obtain rfl := Option.some.inj H
  go_enter Tryd.func48, Tryd.ntmps48
  go_wp2_with (first | ((with_reducible refine gate_callee (f := 61) rfl ?_); refine goesL_ (some 13) rfl rfl Tryd.func61 (by kernel_rfl) rfl #[.int .i64 a0, .int .i64 a1, .int .i64 a2, .int .i64 a3] rfl (by (try simp only [List.map_toArray, List.map_cons, List.map_nil]); first | done | rfl | (simp only [List.length_drop, List.length_take]; rfl)) ?_; (with_reducible refine (ssarewrite_newPPC64ShiftAuxInt.calls k a0 a1 a2 a3 t101 _ A5.out).mono ?_); rintro e w' ⟨rfl, ⟨nd, rfl⟩⟩; refine ⟨_, rfl, ?_⟩))
  go_ret
  exact ⟨by first | rfl | (simp; done) | (simp [*]; done), by repeat (first | exact Drawn0.refl _ | apply Drawn0.step)⟩

attribute [local go_sem] signed_i64 signed_i32 signed_u32 max_u32 signed_u64 max_u64
/-! ### impl_NewShift: function 35 -/
def impl_NewShift.f (k : Nat) (a0 : Int) (a1 : Int) (a2 : Int) (a3 : Int) : Option (Int) := (ssarewrite_ZZNewPPC64ShiftAuxInt.f k a0 a1 a2 a3).bind fun t102 => (some t102)
theorem impl_NewShift.mono : ∀ a0 a1 a2 a3 k, LeO (impl_NewShift.f k a0 a1 a2 a3) (impl_NewShift.f (k + 1) a0 a1 a2 a3) := by
  intro a0 a1 a2 a3 k
  unfold impl_NewShift.f
  repeat' first
      | (with_reducible exact ssarewrite_ZZNewPPC64ShiftAuxInt.mono _ _ _ _ _)
      | (with_reducible exact LeO.refl _)
      | (with_reducible exact LeO.none _)
      | (with_reducible refine LeO.ite ?_ ?_)
      | (with_reducible refine LeO.bind ?_ (fun _ => ?_))
      | exact ssarewrite_ZZNewPPC64ShiftAuxInt.mono _ _ _ _ _
      | exact LeO.none _
      | refine LeO.ite ?_ ?_
      | refine LeO.bind ?_ (fun _ => ?_)
set_option maxHeartbeats 8000000 in
set_option maxRecDepth 100000 in
theorem impl_NewShift.calls (k : Nat) (a0 : Int) (a1 : Int) (a2 : Int) (a3 : Int) (r : Int) (w : World) (h : impl_NewShift.f k a0 a1 a2 a3 = some r) :
    Calls Tryd.prog 35 #[.int .i64 a0, .int .i64 a1, .int .i64 a2, .int .i64 a3] w fun e w' => e = .returned (.int .i32 r) ∧ Drawn0 w w' := by
  have H : ((ssarewrite_ZZNewPPC64ShiftAuxInt.f k a0 a1 a2 a3).bind fun t102 => (some t102)) = some r := h
  clear h
  replace H := Option.bind_eq_some_iff.mp H
  obtain ⟨t102, A50, H⟩ := H
  replace H : (some t102) = some r := H
  have A5 := Aside0.mk A50
  clear A50
  obtain rfl := Option.some.inj H
  go_enter Tryd.func35, Tryd.ntmps35
  go_wp2_with (first | ((with_reducible refine gate_callee (f := 48) rfl ?_); refine goesL_ (some 13) rfl rfl Tryd.func48 (by kernel_rfl) rfl #[.int .i64 a0, .int .i64 a1, .int .i64 a2, .int .i64 a3] rfl (by (try simp only [List.map_toArray, List.map_cons, List.map_nil]); first | done | rfl | (simp only [List.length_drop, List.length_take]; rfl)) ?_; (with_reducible refine (ssarewrite_ZZNewPPC64ShiftAuxInt.calls k a0 a1 a2 a3 t102 _ A5.out).mono ?_); rintro e w' ⟨rfl, ⟨nd, rfl⟩⟩; refine ⟨_, rfl, ?_⟩))
  go_ret
  exact ⟨by first | rfl | (simp; done) | (simp [*]; done), by repeat (first | exact Drawn0.refl _ | apply Drawn0.step)⟩

-- NOT PRINTED: function 20 (laws_mkClear)

/-! ### bits_Len32: function 68 -/
def bits_Len32.f (a0 : Int) : Option (Int) := if 0 ≤ a0 ∧ a0 ≤ 4294967295 then some (Lib.bitLen a0.toNat : Int) else none
theorem bits_Len32.calls (a0 : Int) (r : Int) (w : World) (h : bits_Len32.f a0 = some r) :
    Calls Tryd.prog 68 #[.int .u32 a0] w fun e w' => e = .returned (.int .i64 r) ∧ Drawn0 w w' := by
  unfold bits_Len32.f at h
  split at h
  · rename_i hb
    obtain rfl := Option.some.inj h
    refine (Tryd.bits_Len32 a0 w hb.1 hb.2).mono ?_
    rintro e w' ⟨rfl, rfl⟩
    exact ⟨by first | rfl | (simp; done) | (congr 2; omega), Drawn0.refl _⟩
  · cases h

/-! ### bits_LeadingZeros32: function 57 -/
def bits_LeadingZeros32.f (a0 : Int) : Option (Int) := if 0 ≤ a0 ∧ a0 ≤ 4294967295 then some (32 - (Lib.bitLen a0.toNat : Int)) else none
theorem bits_LeadingZeros32.calls (a0 : Int) (r : Int) (w : World) (h : bits_LeadingZeros32.f a0 = some r) :
    Calls Tryd.prog 57 #[.int .u32 a0] w fun e w' => e = .returned (.int .i64 r) ∧ Drawn0 w w' := by
  unfold bits_LeadingZeros32.f at h
  split at h
  · rename_i hb
    obtain rfl := Option.some.inj h
    refine (Tryd.bits_LeadingZeros32 a0 w hb.1 hb.2).mono ?_
    rintro e w' ⟨rfl, rfl⟩
    exact ⟨by first | rfl | (simp; done) | (congr 2; omega), Drawn0.refl _⟩
  · cases h

/-! ### bits_TrailingZeros32: function 58 -/
def bits_TrailingZeros32.f (a0 : Int) : Option (Int) := if 0 ≤ a0 ∧ a0 ≤ 4294967295 then some (Lib.ctz 32 a0.toNat : Int) else none
theorem bits_TrailingZeros32.calls (a0 : Int) (r : Int) (w : World) (hT : Tab0 w) (h : bits_TrailingZeros32.f a0 = some r) :
    Calls Tryd.prog 58 #[.int .u32 a0] w fun e w' => e = .returned (.int .i64 r) ∧ Drawn0 w w' := by
  unfold bits_TrailingZeros32.f at h
  split at h
  · rename_i hb
    obtain rfl := Option.some.inj h
    obtain ⟨x, rfl⟩ := Int.eq_ofNat_of_zero_le hb.1
    refine (tz32 x (by omega) w hT).mono ?_
    rintro e w' ⟨rfl, rfl⟩
    exact ⟨by first | rfl | (simp; done) | (congr 2; omega), Drawn0.refl _⟩
  · cases h

/-! ### bits_Len64: function 69 -/
def bits_Len64.f (a0 : Int) : Option (Int) := if 0 ≤ a0 ∧ a0 ≤ 18446744073709551615 then some (Lib.bitLen a0.toNat : Int) else none
theorem bits_Len64.calls (a0 : Int) (r : Int) (w : World) (h : bits_Len64.f a0 = some r) :
    Calls Tryd.prog 69 #[.int .u64 a0] w fun e w' => e = .returned (.int .i64 r) ∧ Drawn0 w w' := by
  unfold bits_Len64.f at h
  split at h
  · rename_i hb
    obtain rfl := Option.some.inj h
    refine (Tryd.bits_Len64 a0 w hb.1 hb.2).mono ?_
    rintro e w' ⟨rfl, rfl⟩
    exact ⟨by first | rfl | (simp; done) | (congr 2; omega), Drawn0.refl _⟩
  · cases h

/-! ### bits_LeadingZeros64: function 59 -/
def bits_LeadingZeros64.f (a0 : Int) : Option (Int) := if 0 ≤ a0 ∧ a0 ≤ 18446744073709551615 then some (64 - (Lib.bitLen a0.toNat : Int)) else none
theorem bits_LeadingZeros64.calls (a0 : Int) (r : Int) (w : World) (h : bits_LeadingZeros64.f a0 = some r) :
    Calls Tryd.prog 59 #[.int .u64 a0] w fun e w' => e = .returned (.int .i64 r) ∧ Drawn0 w w' := by
  unfold bits_LeadingZeros64.f at h
  split at h
  · rename_i hb
    obtain rfl := Option.some.inj h
    refine (Tryd.bits_LeadingZeros64 a0 w hb.1 hb.2).mono ?_
    rintro e w' ⟨rfl, rfl⟩
    exact ⟨by first | rfl | (simp; done) | (congr 2; omega), Drawn0.refl _⟩
  · cases h

/-! ### bits_TrailingZeros64: function 60 -/
def bits_TrailingZeros64.f (a0 : Int) : Option (Int) := if 0 ≤ a0 ∧ a0 ≤ 18446744073709551615 then some (Lib.ctz 64 a0.toNat : Int) else none
theorem bits_TrailingZeros64.calls (a0 : Int) (r : Int) (w : World) (hT : Tab0 w) (h : bits_TrailingZeros64.f a0 = some r) :
    Calls Tryd.prog 60 #[.int .u64 a0] w fun e w' => e = .returned (.int .i64 r) ∧ Drawn0 w w' := by
  unfold bits_TrailingZeros64.f at h
  split at h
  · rename_i hb
    obtain rfl := Option.some.inj h
    obtain ⟨x, rfl⟩ := Int.eq_ofNat_of_zero_le hb.1
    refine (tz64 x (by omega) w hT).mono ?_
    rintro e w' ⟨rfl, rfl⟩
    exact ⟨by first | rfl | (simp; done) | (congr 2; omega), Drawn0.refl _⟩
  · cases h

attribute [local go_sem] signed_i64 signed_i32 signed_u32 max_u32 signed_u64 max_u64
/-! ### ssarewrite_encodePPC64RotateMask: function 46 -/
def ssarewrite_encodePPC64RotateMask.j0 : Nat → Int → Int → Int → Bool → Option (Int)
  | 0, _, _, _, _ => none
  | k + 1, x0, x1, x2, x22 => if x22 = true then (none) else (if x2 = 32 then ((bits_LeadingZeros32.f ((x1) % 4294967296)).bind fun t103 => ((bits_TrailingZeros32.f ((x1) % 4294967296)).bind fun t104 => ((bits_LeadingZeros32.f (Go.bits .xor .u32 4294967295 ((x1) % 4294967296))).bind fun t105 => ((bits_TrailingZeros32.f (Go.bits .xor .u32 4294967295 ((x1) % 4294967296))).bind fun t106 => (if t103 = 0 then (if (wrap64 (32 - t104)) = x2 then (some (Go.bits .or .i64 (Go.bits .or .i64 (Go.bits .or .i64 t105 (wrap64 ((wrap64 (32 - t106)) * 256))) (wrap64 (x0 * 65536))) (wrap64 (x2 * 16777216)))) else (some (Go.bits .or .i64 (Go.bits .or .i64 (Go.bits .or .i64 (wrap64 (32 - t104)) (wrap64 (t103 * 256))) (wrap64 (x0 * 65536))) (wrap64 (x2 * 16777216))))) else (some (Go.bits .or .i64 (Go.bits .or .i64 (Go.bits .or .i64 (wrap64 (32 - t104)) (wrap64 (t103 * 256))) (wrap64 (x0 * 65536))) (wrap64 (x2 * 16777216))))))))) else ((bits_LeadingZeros64.f (IntKind.u64.wrap (x1))).bind fun t107 => ((bits_TrailingZeros64.f (IntKind.u64.wrap (x1))).bind fun t108 => ((bits_LeadingZeros64.f (Go.bits .xor .u64 18446744073709551615 (IntKind.u64.wrap (x1)))).bind fun t109 => ((bits_TrailingZeros64.f (Go.bits .xor .u64 18446744073709551615 (IntKind.u64.wrap (x1)))).bind fun t110 => (if t107 = 0 then (if (wrap64 (64 - t108)) = x2 then (some (Go.bits .or .i64 (Go.bits .or .i64 (Go.bits .or .i64 t109 (wrap64 ((wrap64 (64 - t110)) * 256))) (wrap64 (x0 * 65536))) (wrap64 (x2 * 16777216)))) else (some (Go.bits .or .i64 (Go.bits .or .i64 (Go.bits .or .i64 (wrap64 (64 - t108)) (wrap64 (t107 * 256))) (wrap64 (x0 * 65536))) (wrap64 (x2 * 16777216))))) else (some (Go.bits .or .i64 (Go.bits .or .i64 (Go.bits .or .i64 (wrap64 (64 - t108)) (wrap64 (t107 * 256))) (wrap64 (x0 * 65536))) (wrap64 (x2 * 16777216))))))))))
def ssarewrite_encodePPC64RotateMask.f (k : Nat) (a0 : Int) (a1 : Int) (a2 : Int) : Option (Int) := if a1 = 0 then (ssarewrite_encodePPC64RotateMask.j0 k a0 a1 a2 true) else (if (Go.bits .xor .i64 (-1) a1) = 0 then (ssarewrite_encodePPC64RotateMask.j0 k a0 a1 a2 true) else (ssarewrite_encodePPC64RotateMask.j0 k a0 a1 a2 (decide (a0 ≥ a2))))
theorem ssarewrite_encodePPC64RotateMask.mono_l : ∀ k, (∀ y0 y1 y2 y3, LeO (ssarewrite_encodePPC64RotateMask.j0 k y0 y1 y2 y3) (ssarewrite_encodePPC64RotateMask.j0 (k + 1) y0 y1 y2 y3))
  | 0 => fun _ _ _ _ r h => by simp [ssarewrite_encodePPC64RotateMask.j0] at h
  | k + 1 => by
    have ih0 := ssarewrite_encodePPC64RotateMask.mono_l k
    · intro y0 y1 y2 y3
      unfold ssarewrite_encodePPC64RotateMask.j0
      repeat' first
      | (with_reducible exact ih0 _ _ _ _)
      | (with_reducible exact LeO.refl _)
      | (with_reducible exact LeO.none _)
      | (with_reducible refine LeO.ite ?_ ?_)
      | (with_reducible refine LeO.bind ?_ (fun _ => ?_))
      | exact ih0 _ _ _ _
      | exact LeO.none _
      | refine LeO.ite ?_ ?_
      | refine LeO.bind ?_ (fun _ => ?_)
theorem ssarewrite_encodePPC64RotateMask.mono : ∀ a0 a1 a2 k, LeO (ssarewrite_encodePPC64RotateMask.f k a0 a1 a2) (ssarewrite_encodePPC64RotateMask.f (k + 1) a0 a1 a2) := by
  intro a0 a1 a2 k
  have ih0 := ssarewrite_encodePPC64RotateMask.mono_l k
  unfold ssarewrite_encodePPC64RotateMask.f
  repeat' first
      | (with_reducible exact ih0 _ _ _ _)
      | (with_reducible exact LeO.refl _)
      | (with_reducible exact LeO.none _)
      | (with_reducible refine LeO.ite ?_ ?_)
      | (with_reducible refine LeO.bind ?_ (fun _ => ?_))
      | exact ih0 _ _ _ _
      | exact LeO.none _
      | refine LeO.ite ?_ ?_
      | refine LeO.bind ?_ (fun _ => ?_)
set_option maxHeartbeats 8000000 in
set_option maxRecDepth 100000 in
theorem ssarewrite_encodePPC64RotateMask.calls (k : Nat) (a0 : Int) (a1 : Int) (a2 : Int) (r : Int) (w : World) (hT : Tab0 w) (h : ssarewrite_encodePPC64RotateMask.f k a0 a1 a2 = some r) :
    Calls Tryd.prog 46 #[.int .i64 a0, .int .i64 a1, .int .i64 a2] w fun e w' => e = .returned (.int .i64 r) ∧ Drawn0 w w' := by
  have H : (if a1 = 0 then (ssarewrite_encodePPC64RotateMask.j0 k a0 a1 a2 true) else (if (Go.bits .xor .i64 (-1) a1) = 0 then (ssarewrite_encodePPC64RotateMask.j0 k a0 a1 a2 true) else (ssarewrite_encodePPC64RotateMask.j0 k a0 a1 a2 (decide (a0 ≥ a2))))) = some r := h
  clear h
  have HC4 := Aside0.mk H
  clear H
  go_enter Tryd.func46, Tryd.ntmps46
  go_upto_region 2 with (fail)
  go_cut [22] (fun v22 wc => ∃ (kq : Nat) (x22_3 : Bool), v22 = .bool x22_3 ∧ Aside0 (ssarewrite_encodePPC64RotateMask.j0 kq a0 a1 a2 x22_3 = some r) ∧ Aside0 (kq ≤ k) ∧ Drawn0 w wc)
  case first =>
    have H := HC4.out
    clear HC4
    by_cases c5 : a1 = 0
    · rw [if_pos c5] at H
      have c5b0 : (a1 == 0) = true := beq_iff_eq.mpr c5
      have c5b1 : (a1 != 0) = false := bne_eq_false_iff_eq.mpr c5
      clear c5
      (first | rw [c5b0] | (simp only [i64_w, i32_w]; rw [c5b0]) | skip)
      have H' := Aside0.mk H
      clear H
      go_wp2
      go_meet
      case rel => exact ⟨_, (true), (by first | rfl | (simp; done) | (simp [*]; done)), H', ⟨by first | omega | exact Nat.le_refl _⟩, by repeat (first | exact Drawn0.refl _ | apply Drawn0.step)⟩
    · rw [if_neg c5] at H
      have c5b0 : (a1 == 0) = false := beq_eq_false_iff_ne.mpr c5
      have c5b1 : (a1 != 0) = true := bne_iff_ne.mpr c5
      (first | rw [c5b0] | (simp only [i64_w, i32_w]; rw [c5b0]) | skip)
      by_cases c6 : (Go.bits .xor .i64 (-1) a1) = 0
      · rw [if_pos c6] at H
        have c6b0 : ((Go.bits .xor .i64 (-1) a1) == 0) = true := beq_iff_eq.mpr c6
        have c6b1 : ((Go.bits .xor .i64 (-1) a1) != 0) = false := bne_eq_false_iff_eq.mpr c6
        clear c6
        have H' := Aside0.mk H
        clear H
        go_wp2
        go_meet
        case rel => exact ⟨_, (true), (by first | rfl | (simp; done) | (simp [*]; done)), H', ⟨by first | omega | exact Nat.le_refl _⟩, by repeat (first | exact Drawn0.refl _ | apply Drawn0.step)⟩
      · rw [if_neg c6] at H
        have c6b0 : ((Go.bits .xor .i64 (-1) a1) == 0) = false := beq_eq_false_iff_ne.mpr c6
        have c6b1 : ((Go.bits .xor .i64 (-1) a1) != 0) = true := bne_iff_ne.mpr c6
        have H' := Aside0.mk H
        clear H
        go_wp2
        go_meet
        case rel => exact ⟨_, (decide (a0 ≥ a2)), (by first | rfl | (simp; done) | (simp [*]; done)), H', ⟨by first | omega | exact Nat.le_refl _⟩, by repeat (first | exact Drawn0.refl _ | apply Drawn0.step)⟩
  case rest =>
    clear HC4
    try clear p2
    try clear c4
    try clear c5
    try clear c5b0
    try clear c5b1
    try clear c6
    try clear c6b0
    try clear c6b1
    obtain ⟨kq, x22_3, rfl, HA, HJ3, ⟨mc3, rfl⟩⟩ := hcut
    cases kq with
    | zero => exact absurd HA.out (by simp [ssarewrite_encodePPC64RotateMask.j0])
    | succ kj3 =>
      have H := HA.out
      clear HA
      simp only [ssarewrite_encodePPC64RotateMask.j0] at H
      by_cases c7 : x22_3 = true
      · subst c7
        have H1 : (none) = some r := by rw [if_pos rfl] at H; exact H
        clear H
        have H := H1
        clear H1
        exact absurd H (by simp)
      · replace c7 := Bool.eq_false_iff.mpr c7
        subst c7
        have H1 : (if a2 = 32 then ((bits_LeadingZeros32.f ((a1) % 4294967296)).bind fun t103 => ((bits_TrailingZeros32.f ((a1) % 4294967296)).bind fun t104 => ((bits_LeadingZeros32.f (Go.bits .xor .u32 4294967295 ((a1) % 4294967296))).bind fun t105 => ((bits_TrailingZeros32.f (Go.bits .xor .u32 4294967295 ((a1) % 4294967296))).bind fun t106 => (if t103 = 0 then (if (wrap64 (32 - t104)) = a2 then (some (Go.bits .or .i64 (Go.bits .or .i64 (Go.bits .or .i64 t105 (wrap64 ((wrap64 (32 - t106)) * 256))) (wrap64 (a0 * 65536))) (wrap64 (a2 * 16777216)))) else (some (Go.bits .or .i64 (Go.bits .or .i64 (Go.bits .or .i64 (wrap64 (32 - t104)) (wrap64 (t103 * 256))) (wrap64 (a0 * 65536))) (wrap64 (a2 * 16777216))))) else (some (Go.bits .or .i64 (Go.bits .or .i64 (Go.bits .or .i64 (wrap64 (32 - t104)) (wrap64 (t103 * 256))) (wrap64 (a0 * 65536))) (wrap64 (a2 * 16777216))))))))) else ((bits_LeadingZeros64.f (IntKind.u64.wrap (a1))).bind fun t107 => ((bits_TrailingZeros64.f (IntKind.u64.wrap (a1))).bind fun t108 => ((bits_LeadingZeros64.f (Go.bits .xor .u64 18446744073709551615 (IntKind.u64.wrap (a1)))).bind fun t109 => ((bits_TrailingZeros64.f (Go.bits .xor .u64 18446744073709551615 (IntKind.u64.wrap (a1)))).bind fun t110 => (if t107 = 0 then (if (wrap64 (64 - t108)) = a2 then (some (Go.bits .or .i64 (Go.bits .or .i64 (Go.bits .or .i64 t109 (wrap64 ((wrap64 (64 - t110)) * 256))) (wrap64 (a0 * 65536))) (wrap64 (a2 * 16777216)))) else (some (Go.bits .or .i64 (Go.bits .or .i64 (Go.bits .or .i64 (wrap64 (64 - t108)) (wrap64 (t107 * 256))) (wrap64 (a0 * 65536))) (wrap64 (a2 * 16777216))))) else (some (Go.bits .or .i64 (Go.bits .or .i64 (Go.bits .or .i64 (wrap64 (64 - t108)) (wrap64 (t107 * 256))) (wrap64 (a0 * 65536))) (wrap64 (a2 * 16777216)))))))))) = some r := by rw [if_neg (show ¬ (false = true) by decide)] at H; exact H
        clear H
        have H := H1
        clear H1
        by_cases c8 : a2 = 32
        · rw [if_pos c8] at H
          have c8b0 : (a2 == 32) = true := beq_iff_eq.mpr c8
          have c8b1 : (a2 != 32) = false := bne_eq_false_iff_eq.mpr c8
          clear c8
          replace H := Option.bind_eq_some_iff.mp H
          obtain ⟨t103, A90, H⟩ := H
          replace H : ((bits_TrailingZeros32.f ((a1) % 4294967296)).bind fun t104 => ((bits_LeadingZeros32.f (Go.bits .xor .u32 4294967295 ((a1) % 4294967296))).bind fun t105 => ((bits_TrailingZeros32.f (Go.bits .xor .u32 4294967295 ((a1) % 4294967296))).bind fun t106 => (if t103 = 0 then (if (wrap64 (32 - t104)) = a2 then (some (Go.bits .or .i64 (Go.bits .or .i64 (Go.bits .or .i64 t105 (wrap64 ((wrap64 (32 - t106)) * 256))) (wrap64 (a0 * 65536))) (wrap64 (a2 * 16777216)))) else (some (Go.bits .or .i64 (Go.bits .or .i64 (Go.bits .or .i64 (wrap64 (32 - t104)) (wrap64 (t103 * 256))) (wrap64 (a0 * 65536))) (wrap64 (a2 * 16777216))))) else (some (Go.bits .or .i64 (Go.bits .or .i64 (Go.bits .or .i64 (wrap64 (32 - t104)) (wrap64 (t103 * 256))) (wrap64 (a0 * 65536))) (wrap64 (a2 * 16777216)))))))) = some r := H
          have A9 := Aside0.mk A90
          clear A90
          replace H := Option.bind_eq_some_iff.mp H
          obtain ⟨t104, A100, H⟩ := H
          replace H : ((bits_LeadingZeros32.f (Go.bits .xor .u32 4294967295 ((a1) % 4294967296))).bind fun t105 => ((bits_TrailingZeros32.f (Go.bits .xor .u32 4294967295 ((a1) % 4294967296))).bind fun t106 => (if t103 = 0 then (if (wrap64 (32 - t104)) = a2 then (some (Go.bits .or .i64 (Go.bits .or .i64 (Go.bits .or .i64 t105 (wrap64 ((wrap64 (32 - t106)) * 256))) (wrap64 (a0 * 65536))) (wrap64 (a2 * 16777216)))) else (some (Go.bits .or .i64 (Go.bits .or .i64 (Go.bits .or .i64 (wrap64 (32 - t104)) (wrap64 (t103 * 256))) (wrap64 (a0 * 65536))) (wrap64 (a2 * 16777216))))) else (some (Go.bits .or .i64 (Go.bits .or .i64 (Go.bits .or .i64 (wrap64 (32 - t104)) (wrap64 (t103 * 256))) (wrap64 (a0 * 65536))) (wrap64 (a2 * 16777216))))))) = some r := H
          have A10 := Aside0.mk A100
          clear A100
          replace H := Option.bind_eq_some_iff.mp H
          obtain ⟨t105, A110, H⟩ := H
          replace H : ((bits_TrailingZeros32.f (Go.bits .xor .u32 4294967295 ((a1) % 4294967296))).bind fun t106 => (if t103 = 0 then (if (wrap64 (32 - t104)) = a2 then (some (Go.bits .or .i64 (Go.bits .or .i64 (Go.bits .or .i64 t105 (wrap64 ((wrap64 (32 - t106)) * 256))) (wrap64 (a0 * 65536))) (wrap64 (a2 * 16777216)))) else (some (Go.bits .or .i64 (Go.bits .or .i64 (Go.bits .or .i64 (wrap64 (32 - t104)) (wrap64 (t103 * 256))) (wrap64 (a0 * 65536))) (wrap64 (a2 * 16777216))))) else (some (Go.bits .or .i64 (Go.bits .or .i64 (Go.bits .or .i64 (wrap64 (32 - t104)) (wrap64 (t103 * 256))) (wrap64 (a0 * 65536))) (wrap64 (a2 * 16777216)))))) = some r := H
          have A11 := Aside0.mk A110
          clear A110
          replace H := Option.bind_eq_some_iff.mp H
          obtain ⟨t106, A120, H⟩ := H
          replace H : (if t103 = 0 then (if (wrap64 (32 - t104)) = a2 then (some (Go.bits .or .i64 (Go.bits .or .i64 (Go.bits .or .i64 t105 (wrap64 ((wrap64 (32 - t106)) * 256))) (wrap64 (a0 * 65536))) (wrap64 (a2 * 16777216)))) else (some (Go.bits .or .i64 (Go.bits .or .i64 (Go.bits .or .i64 (wrap64 (32 - t104)) (wrap64 (t103 * 256))) (wrap64 (a0 * 65536))) (wrap64 (a2 * 16777216))))) else (some (Go.bits .or .i64 (Go.bits .or .i64 (Go.bits .or .i64 (wrap64 (32 - t104)) (wrap64 (t103 * 256))) (wrap64 (a0 * 65536))) (wrap64 (a2 * 16777216))))) = some r := H
          have A12 := Aside0.mk A120
          clear A120
          by_cases c13 : t103 = 0
          · rw [if_pos c13] at H
            have c13b0 : (t103 == 0) = true := beq_iff_eq.mpr c13
            have c13b1 : (t103 != 0) = false := bne_eq_false_iff_eq.mpr c13
            clear c13
            by_cases c14 : (wrap64 (32 - t104)) = a2
            · rw [if_pos c14] at H
              have c14b0 : ((wrap64 (32 - t104)) == a2) = true := beq_iff_eq.mpr c14
              have c14b1 : ((wrap64 (32 - t104)) != a2) = false := bne_eq_false_iff_eq.mpr c14
              clear c14
              obtain rfl := Option.some.inj H
              go_wp2_with (first | ((with_reducible refine gate_callee (f := 57) rfl ?_); refine goesL_ (some 28) rfl rfl Tryd.func57 (by kernel_rfl) rfl #[.int .u32 ((a1) % 4294967296)] rfl (by (try simp only [List.map_toArray, List.map_cons, List.map_nil]); first | done | rfl | (simp only [List.length_drop, List.length_take]; rfl)) ?_; (with_reducible refine (bits_LeadingZeros32.calls ((a1) % 4294967296) t103 _ A9.out).mono ?_); rintro e w' ⟨rfl, ⟨nd, rfl⟩⟩; refine ⟨_, rfl, ?_⟩) | ((with_reducible refine gate_callee (f := 58) rfl ?_); refine goesL_ (some 31) rfl rfl Tryd.func58 (by kernel_rfl) rfl #[.int .u32 ((a1) % 4294967296)] rfl (by (try simp only [List.map_toArray, List.map_cons, List.map_nil]); first | done | rfl | (simp only [List.length_drop, List.length_take]; rfl)) ?_; (with_reducible refine (bits_TrailingZeros32.calls ((a1) % 4294967296) t104 _ (by first | exact hT | exact hT.drewN _ | exact (hT.drewN _).drewN _ | exact ((hT.drewN _).drewN _).drewN _ | exact hT.below HB.out | exact (hT.below HB.out).drewN _ | exact ((hT.below HB.out).drewN _).drewN _) A10.out).mono ?_); rintro e w' ⟨rfl, ⟨nd, rfl⟩⟩; refine ⟨_, rfl, ?_⟩) | ((with_reducible refine gate_callee (f := 57) rfl ?_); refine goesL_ (some 36) rfl rfl Tryd.func57 (by kernel_rfl) rfl #[.int .u32 (Go.bits .xor .u32 4294967295 ((a1) % 4294967296))] rfl (by (try simp only [List.map_toArray, List.map_cons, List.map_nil]); first | done | rfl | (simp only [List.length_drop, List.length_take]; rfl)) ?_; (with_reducible refine (bits_LeadingZeros32.calls (Go.bits .xor .u32 4294967295 ((a1) % 4294967296)) t105 _ A11.out).mono ?_); rintro e w' ⟨rfl, ⟨nd, rfl⟩⟩; refine ⟨_, rfl, ?_⟩) | ((with_reducible refine gate_callee (f := 58) rfl ?_); refine goesL_ (some 40) rfl rfl Tryd.func58 (by kernel_rfl) rfl #[.int .u32 (Go.bits .xor .u32 4294967295 ((a1) % 4294967296))] rfl (by (try simp only [List.map_toArray, List.map_cons, List.map_nil]); first | done | rfl | (simp only [List.length_drop, List.length_take]; rfl)) ?_; (with_reducible refine (bits_TrailingZeros32.calls (Go.bits .xor .u32 4294967295 ((a1) % 4294967296)) t106 _ (by first | exact hT | exact hT.drewN _ | exact (hT.drewN _).drewN _ | exact ((hT.drewN _).drewN _).drewN _ | exact hT.below HB.out | exact (hT.below HB.out).drewN _ | exact ((hT.below HB.out).drewN _).drewN _) A12.out).mono ?_); rintro e w' ⟨rfl, ⟨nd, rfl⟩⟩; refine ⟨_, rfl, ?_⟩))
              go_ret
              exact ⟨by first | rfl | (simp; done) | (simp [*]; done), by repeat (first | exact Drawn0.refl _ | apply Drawn0.step)⟩
            · rw [if_neg c14] at H
              have c14b0 : ((wrap64 (32 - t104)) == a2) = false := beq_eq_false_iff_ne.mpr c14
              have c14b1 : ((wrap64 (32 - t104)) != a2) = true := bne_iff_ne.mpr c14
              obtain rfl := Option.some.inj H
              go_wp2_with (first | ((with_reducible refine gate_callee (f := 57) rfl ?_); refine goesL_ (some 28) rfl rfl Tryd.func57 (by kernel_rfl) rfl #[.int .u32 ((a1) % 4294967296)] rfl (by (try simp only [List.map_toArray, List.map_cons, List.map_nil]); first | done | rfl | (simp only [List.length_drop, List.length_take]; rfl)) ?_; (with_reducible refine (bits_LeadingZeros32.calls ((a1) % 4294967296) t103 _ A9.out).mono ?_); rintro e w' ⟨rfl, ⟨nd, rfl⟩⟩; refine ⟨_, rfl, ?_⟩) | ((with_reducible refine gate_callee (f := 58) rfl ?_); refine goesL_ (some 31) rfl rfl Tryd.func58 (by kernel_rfl) rfl #[.int .u32 ((a1) % 4294967296)] rfl (by (try simp only [List.map_toArray, List.map_cons, List.map_nil]); first | done | rfl | (simp only [List.length_drop, List.length_take]; rfl)) ?_; (with_reducible refine (bits_TrailingZeros32.calls ((a1) % 4294967296) t104 _ (by first | exact hT | exact hT.drewN _ | exact (hT.drewN _).drewN _ | exact ((hT.drewN _).drewN _).drewN _ | exact hT.below HB.out | exact (hT.below HB.out).drewN _ | exact ((hT.below HB.out).drewN _).drewN _) A10.out).mono ?_); rintro e w' ⟨rfl, ⟨nd, rfl⟩⟩; refine ⟨_, rfl, ?_⟩) | ((with_reducible refine gate_callee (f := 57) rfl ?_); refine goesL_ (some 36) rfl rfl Tryd.func57 (by kernel_rfl) rfl #[.int .u32 (Go.bits .xor .u32 4294967295 ((a1) % 4294967296))] rfl (by (try simp only [List.map_toArray, List.map_cons, List.map_nil]); first | done | rfl | (simp only [List.length_drop, List.length_take]; rfl)) ?_; (with_reducible refine (bits_LeadingZeros32.calls (Go.bits .xor .u32 4294967295 ((a1) % 4294967296)) t105 _ A11.out).mono ?_); rintro e w' ⟨rfl, ⟨nd, rfl⟩⟩; refine ⟨_, rfl, ?_⟩) | ((with_reducible refine gate_callee (f := 58) rfl ?_); refine goesL_ (some 40) rfl rfl Tryd.func58 (by kernel_rfl) rfl #[.int .u32 (Go.bits .xor .u32 4294967295 ((a1) % 4294967296))] rfl (by (try simp only [List.map_toArray, List.map_cons, List.map_nil]); first | done | rfl | (simp only [List.length_drop, List.length_take]; rfl)) ?_; (with_reducible refine (bits_TrailingZeros32.calls (Go.bits .xor .u32 4294967295 ((a1) % 4294967296)) t106 _ (by first | exact hT | exact hT.drewN _ | exact (hT.drewN _).drewN _ | exact ((hT.drewN _).drewN _).drewN _ | exact hT.below HB.out | exact (hT.below HB.out).drewN _ | exact ((hT.below HB.out).drewN _).drewN _) A12.out).mono ?_); rintro e w' ⟨rfl, ⟨nd, rfl⟩⟩; refine ⟨_, rfl, ?_⟩))
              go_ret
              exact ⟨by first | rfl | (simp; done) | (simp [*]; done), by repeat (first | exact Drawn0.refl _ | apply Drawn0.step)⟩
          · rw [if_neg c13] at H
            have c13b0 : (t103 == 0) = false := beq_eq_false_iff_ne.mpr c13
            have c13b1 : (t103 != 0) = true := bne_iff_ne.mpr c13
            obtain rfl := Option.some.inj H
            go_wp2_with (first | ((with_reducible refine gate_callee (f := 57) rfl ?_); refine goesL_ (some 28) rfl rfl Tryd.func57 (by kernel_rfl) rfl #[.int .u32 ((a1) % 4294967296)] rfl (by (try simp only [List.map_toArray, List.map_cons, List.map_nil]); first | done | rfl | (simp only [List.length_drop, List.length_take]; rfl)) ?_; (with_reducible refine (bits_LeadingZeros32.calls ((a1) % 4294967296) t103 _ A9.out).mono ?_); rintro e w' ⟨rfl, ⟨nd, rfl⟩⟩; refine ⟨_, rfl, ?_⟩) | ((with_reducible refine gate_callee (f := 58) rfl ?_); refine goesL_ (some 31) rfl rfl Tryd.func58 (by kernel_rfl) rfl #[.int .u32 ((a1) % 4294967296)] rfl (by (try simp only [List.map_toArray, List.map_cons, List.map_nil]); first | done | rfl | (simp only [List.length_drop, List.length_take]; rfl)) ?_; (with_reducible refine (bits_TrailingZeros32.calls ((a1) % 4294967296) t104 _ (by first | exact hT | exact hT.drewN _ | exact (hT.drewN _).drewN _ | exact ((hT.drewN _).drewN _).drewN _ | exact hT.below HB.out | exact (hT.below HB.out).drewN _ | exact ((hT.below HB.out).drewN _).drewN _) A10.out).mono ?_); rintro e w' ⟨rfl, ⟨nd, rfl⟩⟩; refine ⟨_, rfl, ?_⟩) | ((with_reducible refine gate_callee (f := 57) rfl ?_); refine goesL_ (some 36) rfl rfl Tryd.func57 (by kernel_rfl) rfl #[.int .u32 (Go.bits .xor .u32 4294967295 ((a1) % 4294967296))] rfl (by (try simp only [List.map_toArray, List.map_cons, List.map_nil]); first | done | rfl | (simp only [List.length_drop, List.length_take]; rfl)) ?_; (with_reducible refine (bits_LeadingZeros32.calls (Go.bits .xor .u32 4294967295 ((a1) % 4294967296)) t105 _ A11.out).mono ?_); rintro e w' ⟨rfl, ⟨nd, rfl⟩⟩; refine ⟨_, rfl, ?_⟩) | ((with_reducible refine gate_callee (f := 58) rfl ?_); refine goesL_ (some 40) rfl rfl Tryd.func58 (by kernel_rfl) rfl #[.int .u32 (Go.bits .xor .u32 4294967295 ((a1) % 4294967296))] rfl (by (try simp only [List.map_toArray, List.map_cons, List.map_nil]); first | done | rfl | (simp only [List.length_drop, List.length_take]; rfl)) ?_; (with_reducible refine (bits_TrailingZeros32.calls (Go.bits .xor .u32 4294967295 ((a1) % 4294967296)) t106 _ (by first | exact hT | exact hT.drewN _ | exact (hT.drewN _).drewN _ | exact ((hT.drewN _).drewN _).drewN _ | exact hT.below HB.out | exact (hT.below HB.out).drewN _ | exact ((hT.below HB.out).drewN _).drewN _) A12.out).mono ?_); rintro e w' ⟨rfl, ⟨nd, rfl⟩⟩; refine ⟨_, rfl, ?_⟩))
            go_ret
            exact ⟨by first | rfl | (simp; done) | (simp [*]; done), by repeat (first | exact Drawn0.refl _ | apply Drawn0.step)⟩
        · rw [if_neg c8] at H
          have c8b0 : (a2 == 32) = false := beq_eq_false_iff_ne.mpr c8
          have c8b1 : (a2 != 32) = true := bne_iff_ne.mpr c8
          replace H := Option.bind_eq_some_iff.mp H
          obtain ⟨t107, A150, H⟩ := H
          replace H : ((bits_TrailingZeros64.f (IntKind.u64.wrap (a1))).bind fun t108 => ((bits_LeadingZeros64.f (Go.bits .xor .u64 18446744073709551615 (IntKind.u64.wrap (a1)))).bind fun t109 => ((bits_TrailingZeros64.f (Go.bits .xor .u64 18446744073709551615 (IntKind.u64.wrap (a1)))).bind fun t110 => (if t107 = 0 then (if (wrap64 (64 - t108)) = a2 then (some (Go.bits .or .i64 (Go.bits .or .i64 (Go.bits .or .i64 t109 (wrap64 ((wrap64 (64 - t110)) * 256))) (wrap64 (a0 * 65536))) (wrap64 (a2 * 16777216)))) else (some (Go.bits .or .i64 (Go.bits .or .i64 (Go.bits .or .i64 (wrap64 (64 - t108)) (wrap64 (t107 * 256))) (wrap64 (a0 * 65536))) (wrap64 (a2 * 16777216))))) else (some (Go.bits .or .i64 (Go.bits .or .i64 (Go.bits .or .i64 (wrap64 (64 - t108)) (wrap64 (t107 * 256))) (wrap64 (a0 * 65536))) (wrap64 (a2 * 16777216)))))))) = some r := H
          have A15 := Aside0.mk A150
          clear A150
          replace H := Option.bind_eq_some_iff.mp H
          obtain ⟨t108, A160, H⟩ := H
          replace H : ((bits_LeadingZeros64.f (Go.bits .xor .u64 18446744073709551615 (IntKind.u64.wrap (a1)))).bind fun t109 => ((bits_TrailingZeros64.f (Go.bits .xor .u64 18446744073709551615 (IntKind.u64.wrap (a1)))).bind fun t110 => (if t107 = 0 then (if (wrap64 (64 - t108)) = a2 then (some (Go.bits .or .i64 (Go.bits .or .i64 (Go.bits .or .i64 t109 (wrap64 ((wrap64 (64 - t110)) * 256))) (wrap64 (a0 * 65536))) (wrap64 (a2 * 16777216)))) else (some (Go.bits .or .i64 (Go.bits .or .i64 (Go.bits .or .i64 (wrap64 (64 - t108)) (wrap64 (t107 * 256))) (wrap64 (a0 * 65536))) (wrap64 (a2 * 16777216))))) else (some (Go.bits .or .i64 (Go.bits .or .i64 (Go.bits .or .i64 (wrap64 (64 - t108)) (wrap64 (t107 * 256))) (wrap64 (a0 * 65536))) (wrap64 (a2 * 16777216))))))) = some r := H
          have A16 := Aside0.mk A160
          clear A160
          replace H := Option.bind_eq_some_iff.mp H
          obtain ⟨t109, A170, H⟩ := H
          replace H : ((bits_TrailingZeros64.f (Go.bits .xor .u64 18446744073709551615 (IntKind.u64.wrap (a1)))).bind fun t110 => (if t107 = 0 then (if (wrap64 (64 - t108)) = a2 then (some (Go.bits .or .i64 (Go.bits .or .i64 (Go.bits .or .i64 t109 (wrap64 ((wrap64 (64 - t110)) * 256))) (wrap64 (a0 * 65536))) (wrap64 (a2 * 16777216)))) else (some (Go.bits .or .i64 (Go.bits .or .i64 (Go.bits .or .i64 (wrap64 (64 - t108)) (wrap64 (t107 * 256))) (wrap64 (a0 * 65536))) (wrap64 (a2 * 16777216))))) else (some (Go.bits .or .i64 (Go.bits .or .i64 (Go.bits .or .i64 (wrap64 (64 - t108)) (wrap64 (t107 * 256))) (wrap64 (a0 * 65536))) (wrap64 (a2 * 16777216)))))) = some r := H
          have A17 := Aside0.mk A170
          clear A170
          replace H := Option.bind_eq_some_iff.mp H
          obtain ⟨t110, A180, H⟩ := H
          replace H : (if t107 = 0 then (if (wrap64 (64 - t108)) = a2 then (some (Go.bits .or .i64 (Go.bits .or .i64 (Go.bits .or .i64 t109 (wrap64 ((wrap64 (64 - t110)) * 256))) (wrap64 (a0 * 65536))) (wrap64 (a2 * 16777216)))) else (some (Go.bits .or .i64 (Go.bits .or .i64 (Go.bits .or .i64 (wrap64 (64 - t108)) (wrap64 (t107 * 256))) (wrap64 (a0 * 65536))) (wrap64 (a2 * 16777216))))) else (some (Go.bits .or .i64 (Go.bits .or .i64 (Go.bits .or .i64 (wrap64 (64 - t108)) (wrap64 (t107 * 256))) (wrap64 (a0 * 65536))) (wrap64 (a2 * 16777216))))) = some r := H
          have A18 := Aside0.mk A180
          clear A180
          by_cases c19 : t107 = 0
          · rw [if_pos c19] at H
            have c19b0 : (t107 == 0) = true := beq_iff_eq.mpr c19
            have c19b1 : (t107 != 0) = false := bne_eq_false_iff_eq.mpr c19
            clear c19
            by_cases c20 : (wrap64 (64 - t108)) = a2
            · rw [if_pos c20] at H
              have c20b0 : ((wrap64 (64 - t108)) == a2) = true := beq_iff_eq.mpr c20
              have c20b1 : ((wrap64 (64 - t108)) != a2) = false := bne_eq_false_iff_eq.mpr c20
              clear c20
              obtain rfl := Option.some.inj H
              go_wp2_with (first | ((with_reducible refine gate_callee (f := 59) rfl ?_); refine goesL_ (some 44) rfl rfl Tryd.func59 (by kernel_rfl) rfl #[.int .u64 (IntKind.u64.wrap (a1))] rfl (by (try simp only [List.map_toArray, List.map_cons, List.map_nil]); first | done | rfl | (simp only [List.length_drop, List.length_take]; rfl)) ?_; (with_reducible refine (bits_LeadingZeros64.calls (IntKind.u64.wrap (a1)) t107 _ A15.out).mono ?_); rintro e w' ⟨rfl, ⟨nd, rfl⟩⟩; refine ⟨_, rfl, ?_⟩) | ((with_reducible refine gate_callee (f := 60) rfl ?_); refine goesL_ (some 47) rfl rfl Tryd.func60 (by kernel_rfl) rfl #[.int .u64 (IntKind.u64.wrap (a1))] rfl (by (try simp only [List.map_toArray, List.map_cons, List.map_nil]); first | done | rfl | (simp only [List.length_drop, List.length_take]; rfl)) ?_; (with_reducible refine (bits_TrailingZeros64.calls (IntKind.u64.wrap (a1)) t108 _ (by first | exact hT | exact hT.drewN _ | exact (hT.drewN _).drewN _ | exact ((hT.drewN _).drewN _).drewN _ | exact hT.below HB.out | exact (hT.below HB.out).drewN _ | exact ((hT.below HB.out).drewN _).drewN _) A16.out).mono ?_); rintro e w' ⟨rfl, ⟨nd, rfl⟩⟩; refine ⟨_, rfl, ?_⟩) | ((with_reducible refine gate_callee (f := 59) rfl ?_); refine goesL_ (some 52) rfl rfl Tryd.func59 (by kernel_rfl) rfl #[.int .u64 (Go.bits .xor .u64 18446744073709551615 (IntKind.u64.wrap (a1)))] rfl (by (try simp only [List.map_toArray, List.map_cons, List.map_nil]); first | done | rfl | (simp only [List.length_drop, List.length_take]; rfl)) ?_; (with_reducible refine (bits_LeadingZeros64.calls (Go.bits .xor .u64 18446744073709551615 (IntKind.u64.wrap (a1))) t109 _ A17.out).mono ?_); rintro e w' ⟨rfl, ⟨nd, rfl⟩⟩; refine ⟨_, rfl, ?_⟩) | ((with_reducible refine gate_callee (f := 60) rfl ?_); refine goesL_ (some 56) rfl rfl Tryd.func60 (by kernel_rfl) rfl #[.int .u64 (Go.bits .xor .u64 18446744073709551615 (IntKind.u64.wrap (a1)))] rfl (by (try simp only [List.map_toArray, List.map_cons, List.map_nil]); first | done | rfl | (simp only [List.length_drop, List.length_take]; rfl)) ?_; (with_reducible refine (bits_TrailingZeros64.calls (Go.bits .xor .u64 18446744073709551615 (IntKind.u64.wrap (a1))) t110 _ (by first | exact hT | exact hT.drewN _ | exact (hT.drewN _).drewN _ | exact ((hT.drewN _).drewN _).drewN _ | exact hT.below HB.out | exact (hT.below HB.out).drewN _ | exact ((hT.below HB.out).drewN _).drewN _) A18.out).mono ?_); rintro e w' ⟨rfl, ⟨nd, rfl⟩⟩; refine ⟨_, rfl, ?_⟩))
              go_ret
              exact ⟨by first | rfl | (simp; done) | (simp [*]; done), by repeat (first | exact Drawn0.refl _ | apply Drawn0.step)⟩
            · rw [if_neg c20] at H
              have c20b0 : ((wrap64 (64 - t108)) == a2) = false := beq_eq_false_iff_ne.mpr c20
              have c20b1 : ((wrap64 (64 - t108)) != a2) = true := bne_iff_ne.mpr c20
              obtain rfl := Option.some.inj H
              go_wp2_with (first | ((with_reducible refine gate_callee (f := 59) rfl ?_); refine goesL_ (some 44) rfl rfl Tryd.func59 (by kernel_rfl) rfl #[.int .u64 (IntKind.u64.wrap (a1))] rfl (by (try simp only [List.map_toArray, List.map_cons, List.map_nil]); first | done | rfl | (simp only [List.length_drop, List.length_take]; rfl)) ?_; (with_reducible refine (bits_LeadingZeros64.calls (IntKind.u64.wrap (a1)) t107 _ A15.out).mono ?_); rintro e w' ⟨rfl, ⟨nd, rfl⟩⟩; refine ⟨_, rfl, ?_⟩) | ((with_reducible refine gate_callee (f := 60) rfl ?_); refine goesL_ (some 47) rfl rfl Tryd.func60 (by kernel_rfl) rfl #[.int .u64 (IntKind.u64.wrap (a1))] rfl (by (try simp only [List.map_toArray, List.map_cons, List.map_nil]); first | done | rfl | (simp only [List.length_drop, List.length_take]; rfl)) ?_; (with_reducible refine (bits_TrailingZeros64.calls (IntKind.u64.wrap (a1)) t108 _ (by first | exact hT | exact hT.drewN _ | exact (hT.drewN _).drewN _ | exact ((hT.drewN _).drewN _).drewN _ | exact hT.below HB.out | exact (hT.below HB.out).drewN _ | exact ((hT.below HB.out).drewN _).drewN _) A16.out).mono ?_); rintro e w' ⟨rfl, ⟨nd, rfl⟩⟩; refine ⟨_, rfl, ?_⟩) | ((with_reducible refine gate_callee (f := 59) rfl ?_); refine goesL_ (some 52) rfl rfl Tryd.func59 (by kernel_rfl) rfl #[.int .u64 (Go.bits .xor .u64 18446744073709551615 (IntKind.u64.wrap (a1)))] rfl (by (try simp only [List.map_toArray, List.map_cons, List.map_nil]); first | done | rfl | (simp only [List.length_drop, List.length_take]; rfl)) ?_; (with_reducible refine (bits_LeadingZeros64.calls (Go.bits .xor .u64 18446744073709551615 (IntKind.u64.wrap (a1))) t109 _ A17.out).mono ?_); rintro e w' ⟨rfl, ⟨nd, rfl⟩⟩; refine ⟨_, rfl, ?_⟩) | ((with_reducible refine gate_callee (f := 60) rfl ?_); refine goesL_ (some 56) rfl rfl Tryd.func60 (by kernel_rfl) rfl #[.int .u64 (Go.bits .xor .u64 18446744073709551615 (IntKind.u64.wrap (a1)))] rfl (by (try simp only [List.map_toArray, List.map_cons, List.map_nil]); first | done | rfl | (simp only [List.length_drop, List.length_take]; rfl)) ?_; (with_reducible refine (bits_TrailingZeros64.calls (Go.bits .xor .u64 18446744073709551615 (IntKind.u64.wrap (a1))) t110 _ (by first | exact hT | exact hT.drewN _ | exact (hT.drewN _).drewN _ | exact ((hT.drewN _).drewN _).drewN _ | exact hT.below HB.out | exact (hT.below HB.out).drewN _ | exact ((hT.below HB.out).drewN _).drewN _) A18.out).mono ?_); rintro e w' ⟨rfl, ⟨nd, rfl⟩⟩; refine ⟨_, rfl, ?_⟩))
              go_ret
              exact ⟨by first | rfl | (simp; done) | (simp [*]; done), by repeat (first | exact Drawn0.refl _ | apply Drawn0.step)⟩
          · rw [if_neg c19] at H
            have c19b0 : (t107 == 0) = false := beq_eq_false_iff_ne.mpr c19
            have c19b1 : (t107 != 0) = true := bne_iff_ne.mpr c19
            obtain rfl := Option.some.inj H
            go_wp2_with (first | ((with_reducible refine gate_callee (f := 59) rfl ?_); refine goesL_ (some 44) rfl rfl Tryd.func59 (by kernel_rfl) rfl #[.int .u64 (IntKind.u64.wrap (a1))] rfl (by (try simp only [List.map_toArray, List.map_cons, List.map_nil]); first | done | rfl | (simp only [List.length_drop, List.length_take]; rfl)) ?_; (with_reducible refine (bits_LeadingZeros64.calls (IntKind.u64.wrap (a1)) t107 _ A15.out).mono ?_); rintro e w' ⟨rfl, ⟨nd, rfl⟩⟩; refine ⟨_, rfl, ?_⟩) | ((with_reducible refine gate_callee (f := 60) rfl ?_); refine goesL_ (some 47) rfl rfl Tryd.func60 (by kernel_rfl) rfl #[.int .u64 (IntKind.u64.wrap (a1))] rfl (by (try simp only [List.map_toArray, List.map_cons, List.map_nil]); first | done | rfl | (simp only [List.length_drop, List.length_take]; rfl)) ?_; (with_reducible refine (bits_TrailingZeros64.calls (IntKind.u64.wrap (a1)) t108 _ (by first | exact hT | exact hT.drewN _ | exact (hT.drewN _).drewN _ | exact ((hT.drewN _).drewN _).drewN _ | exact hT.below HB.out | exact (hT.below HB.out).drewN _ | exact ((hT.below HB.out).drewN _).drewN _) A16.out).mono ?_); rintro e w' ⟨rfl, ⟨nd, rfl⟩⟩; refine ⟨_, rfl, ?_⟩) | ((with_reducible refine gate_callee (f := 59) rfl ?_); refine goesL_ (some 52) rfl rfl Tryd.func59 (by kernel_rfl) rfl #[.int .u64 (Go.bits .xor .u64 18446744073709551615 (IntKind.u64.wrap (a1)))] rfl (by (try simp only [List.map_toArray, List.map_cons, List.map_nil]); first | done | rfl | (simp only [List.length_drop, List.length_take]; rfl)) ?_; (with_reducible refine (bits_LeadingZeros64.calls (Go.bits .xor .u64 18446744073709551615 (IntKind.u64.wrap (a1))) t109 _ A17.out).mono ?_); rintro e w' ⟨rfl, ⟨nd, rfl⟩⟩; refine ⟨_, rfl, ?_⟩) | ((with_reducible refine gate_callee (f := 60) rfl ?_); refine goesL_ (some 56) rfl rfl Tryd.func60 (by kernel_rfl) rfl #[.int .u64 (Go.bits .xor .u64 18446744073709551615 (IntKind.u64.wrap (a1)))] rfl (by (try simp only [List.map_toArray, List.map_cons, List.map_nil]); first | done | rfl | (simp only [List.length_drop, List.length_take]; rfl)) ?_; (with_reducible refine (bits_TrailingZeros64.calls (Go.bits .xor .u64 18446744073709551615 (IntKind.u64.wrap (a1))) t110 _ (by first | exact hT | exact hT.drewN _ | exact (hT.drewN _).drewN _ | exact ((hT.drewN _).drewN _).drewN _ | exact hT.below HB.out | exact (hT.below HB.out).drewN _ | exact ((hT.below HB.out).drewN _).drewN _) A18.out).mono ?_); rintro e w' ⟨rfl, ⟨nd, rfl⟩⟩; refine ⟨_, rfl, ?_⟩))
            go_ret
            exact ⟨by first | rfl | (simp; done) | (simp [*]; done), by repeat (first | exact Drawn0.refl _ | apply Drawn0.step)⟩

attribute [local go_sem] signed_i64 signed_i32 signed_u32 max_u32 signed_u64 max_u64
/-! ### ssarewrite_GetPPC64Shiftmb: function 62 -/
def ssarewrite_GetPPC64Shiftmb.f (a0 : Int) : Option (Int) := some (wrap64 (IntKind.i8.wrap (a0 / 256)))
set_option maxHeartbeats 8000000 in
set_option maxRecDepth 100000 in
theorem ssarewrite_GetPPC64Shiftmb.calls (a0 : Int) (r : Int) (w : World) (h : ssarewrite_GetPPC64Shiftmb.f a0 = some r) :
    Calls Tryd.prog 62 #[.int .i64 a0] w fun e w' => e = .returned (.int .i64 r) ∧ Drawn0 w w' := by
  have H : (some (wrap64 (IntKind.i8.wrap (a0 / 256)))) = some r := h
  clear h
  obtain rfl := Option.some.inj H
  go_enter Tryd.func62, Tryd.ntmps62
  go_wp2
  go_ret
  exact ⟨by first | rfl | (simp; done) | (simp [*]; done), by repeat (first | exact Drawn0.refl _ | apply Drawn0.step)⟩

attribute [local go_sem] signed_i64 signed_i32 signed_u32 max_u32 signed_u64 max_u64
/-! ### ssarewrite_GetPPC64Shiftsh: function 63 -/
def ssarewrite_GetPPC64Shiftsh.f (a0 : Int) : Option (Int) := some (wrap64 (IntKind.i8.wrap (a0 / 65536)))
set_option maxHeartbeats 8000000 in
set_option maxRecDepth 100000 in
theorem ssarewrite_GetPPC64Shiftsh.calls (a0 : Int) (r : Int) (w : World) (h : ssarewrite_GetPPC64Shiftsh.f a0 = some r) :
    Calls Tryd.prog 63 #[.int .i64 a0] w fun e w' => e = .returned (.int .i64 r) ∧ Drawn0 w w' := by
  have H : (some (wrap64 (IntKind.i8.wrap (a0 / 65536)))) = some r := h
  clear h
  obtain rfl := Option.some.inj H
  go_enter Tryd.func63, Tryd.ntmps63
  go_wp2
  go_ret
  exact ⟨by first | rfl | (simp; done) | (simp [*]; done), by repeat (first | exact Drawn0.refl _ | apply Drawn0.step)⟩

attribute [local go_sem] signed_i64 signed_i32 signed_u32 max_u32 signed_u64 max_u64
/-! ### ssarewrite_mergePPC64ClrlsldiSrw: function 49 -/
def ssarewrite_mergePPC64ClrlsldiSrw.f (k : Nat) (a0 : Int) (a1 : Int) : Option (Int) := if 0 ≤ (IntKind.u64.wrap (a1)) then ((ssarewrite_GetPPC64Shiftmb.f a0).bind fun t111 => (if 0 ≤ (IntKind.u64.wrap (t111)) then ((ssarewrite_GetPPC64Shiftsh.f a0).bind fun t112 => (if 0 ≤ (IntKind.u64.wrap (t112)) then ((ssarewrite_GetPPC64Shiftsh.f a0).bind fun t113 => (if ((shl .u64 (Go.bits .and .u64 (shr .u64 4294967295 (IntKind.u64.wrap (a1))) (shr .u64 18446744073709551615 (IntKind.u64.wrap (t111)))) (IntKind.u64.wrap (t112))) % 4294967296) = (shl .u64 (Go.bits .and .u64 (shr .u64 4294967295 (IntKind.u64.wrap (a1))) (shr .u64 18446744073709551615 (IntKind.u64.wrap (t111)))) (IntKind.u64.wrap (t112))) then (if (shl .u64 (Go.bits .and .u64 (shr .u64 4294967295 (IntKind.u64.wrap (a1))) (shr .u64 18446744073709551615 (IntKind.u64.wrap (t111)))) (IntKind.u64.wrap (t112))) = 0 then (some 0) else ((ssarewrite_encodePPC64RotateMask.f k (Go.bits .and .i64 (wrap64 ((wrap64 (32 - a1)) + t113)) 31) (wrap64 (shl .u64 (Go.bits .and .u64 (shr .u64 4294967295 (IntKind.u64.wrap (a1))) (shr .u64 18446744073709551615 (IntKind.u64.wrap (t111)))) (IntKind.u64.wrap (t112)))) 32).bind fun t114 => (some t114))) else (some 0))) else (none))) else (none))) else (none)
theorem ssarewrite_mergePPC64ClrlsldiSrw.mono : ∀ a0 a1 k, LeO (ssarewrite_mergePPC64ClrlsldiSrw.f k a0 a1) (ssarewrite_mergePPC64ClrlsldiSrw.f (k + 1) a0 a1) := by
  intro a0 a1 k
  unfold ssarewrite_mergePPC64ClrlsldiSrw.f
  repeat' first
      | (with_reducible exact ssarewrite_encodePPC64RotateMask.mono _ _ _ _)
      | (with_reducible exact LeO.refl _)
      | (with_reducible exact LeO.none _)
      | (with_reducible refine LeO.ite ?_ ?_)
      | (with_reducible refine LeO.bind ?_ (fun _ => ?_))
      | exact ssarewrite_encodePPC64RotateMask.mono _ _ _ _
      | exact LeO.none _
      | refine LeO.ite ?_ ?_
      | refine LeO.bind ?_ (fun _ => ?_)
set_option maxHeartbeats 8000000 in
set_option maxRecDepth 100000 in
theorem ssarewrite_mergePPC64ClrlsldiSrw.calls (k : Nat) (a0 : Int) (a1 : Int) (r : Int) (w : World) (hT : Tab0 w) (h : ssarewrite_mergePPC64ClrlsldiSrw.f k a0 a1 = some r) :
    Calls Tryd.prog 49 #[.int .i64 a0, .int .i64 a1] w fun e w' => e = .returned (.int .i64 r) ∧ Drawn0 w w' := by
  have H : (if 0 ≤ (IntKind.u64.wrap (a1)) then ((ssarewrite_GetPPC64Shiftmb.f a0).bind fun t111 => (if 0 ≤ (IntKind.u64.wrap (t111)) then ((ssarewrite_GetPPC64Shiftsh.f a0).bind fun t112 => (if 0 ≤ (IntKind.u64.wrap (t112)) then ((ssarewrite_GetPPC64Shiftsh.f a0).bind fun t113 => (if ((shl .u64 (Go.bits .and .u64 (shr .u64 4294967295 (IntKind.u64.wrap (a1))) (shr .u64 18446744073709551615 (IntKind.u64.wrap (t111)))) (IntKind.u64.wrap (t112))) % 4294967296) = (shl .u64 (Go.bits .and .u64 (shr .u64 4294967295 (IntKind.u64.wrap (a1))) (shr .u64 18446744073709551615 (IntKind.u64.wrap (t111)))) (IntKind.u64.wrap (t112))) then (if (shl .u64 (Go.bits .and .u64 (shr .u64 4294967295 (IntKind.u64.wrap (a1))) (shr .u64 18446744073709551615 (IntKind.u64.wrap (t111)))) (IntKind.u64.wrap (t112))) = 0 then (some 0) else ((ssarewrite_encodePPC64RotateMask.f k (Go.bits .and .i64 (wrap64 ((wrap64 (32 - a1)) + t113)) 31) (wrap64 (shl .u64 (Go.bits .and .u64 (shr .u64 4294967295 (IntKind.u64.wrap (a1))) (shr .u64 18446744073709551615 (IntKind.u64.wrap (t111)))) (IntKind.u64.wrap (t112)))) 32).bind fun t114 => (some t114))) else (some 0))) else (none))) else (none))) else (none)) = some r := h
  clear h
  obtain ⟨ji3, hji3⟩ : ∃ j_ : Int, (IntKind.u64.wrap (a1)) = j_ := ⟨_, rfl⟩
  replace H : (if 0 ≤ (ji3) then ((ssarewrite_GetPPC64Shiftmb.f a0).bind fun t111 => (if 0 ≤ (IntKind.u64.wrap (t111)) then ((ssarewrite_GetPPC64Shiftsh.f a0).bind fun t112 => (if 0 ≤ (IntKind.u64.wrap (t112)) then ((ssarewrite_GetPPC64Shiftsh.f a0).bind fun t113 => (if ((shl .u64 (Go.bits .and .u64 (shr .u64 4294967295 (ji3)) (shr .u64 18446744073709551615 (IntKind.u64.wrap (t111)))) (IntKind.u64.wrap (t112))) % 4294967296) = (shl .u64 (Go.bits .and .u64 (shr .u64 4294967295 (ji3)) (shr .u64 18446744073709551615 (IntKind.u64.wrap (t111)))) (IntKind.u64.wrap (t112))) then (if (shl .u64 (Go.bits .and .u64 (shr .u64 4294967295 (ji3)) (shr .u64 18446744073709551615 (IntKind.u64.wrap (t111)))) (IntKind.u64.wrap (t112))) = 0 then (some 0) else ((ssarewrite_encodePPC64RotateMask.f k (Go.bits .and .i64 (wrap64 ((wrap64 (32 - a1)) + t113)) 31) (wrap64 (shl .u64 (Go.bits .and .u64 (shr .u64 4294967295 (ji3)) (shr .u64 18446744073709551615 (IntKind.u64.wrap (t111)))) (IntKind.u64.wrap (t112)))) 32).bind fun t114 => (some t114))) else (some 0))) else (none))) else (none))) else (none)) = some r := by first | (rw [hji3] at H; exact H) | (simp only [hji3] at H ⊢; exact H)
  by_cases c4 : 0 ≤ (ji3)
  · rw [if_pos c4] at H
    have c4b0 := eq_true c4
    have c4b1 : decide (0 ≤ (ji3)) = true := decide_eq_true c4
    clear c4
    obtain ⟨ji5, hji5⟩ : ∃ j_ : Int, (shr .u64 4294967295 (ji3)) = j_ := ⟨_, rfl⟩
    replace H : ((ssarewrite_GetPPC64Shiftmb.f a0).bind fun t111 => (if 0 ≤ (IntKind.u64.wrap (t111)) then ((ssarewrite_GetPPC64Shiftsh.f a0).bind fun t112 => (if 0 ≤ (IntKind.u64.wrap (t112)) then ((ssarewrite_GetPPC64Shiftsh.f a0).bind fun t113 => (if ((shl .u64 (Go.bits .and .u64 (ji5) (shr .u64 18446744073709551615 (IntKind.u64.wrap (t111)))) (IntKind.u64.wrap (t112))) % 4294967296) = (shl .u64 (Go.bits .and .u64 (ji5) (shr .u64 18446744073709551615 (IntKind.u64.wrap (t111)))) (IntKind.u64.wrap (t112))) then (if (shl .u64 (Go.bits .and .u64 (ji5) (shr .u64 18446744073709551615 (IntKind.u64.wrap (t111)))) (IntKind.u64.wrap (t112))) = 0 then (some 0) else ((ssarewrite_encodePPC64RotateMask.f k (Go.bits .and .i64 (wrap64 ((wrap64 (32 - a1)) + t113)) 31) (wrap64 (shl .u64 (Go.bits .and .u64 (ji5) (shr .u64 18446744073709551615 (IntKind.u64.wrap (t111)))) (IntKind.u64.wrap (t112)))) 32).bind fun t114 => (some t114))) else (some 0))) else (none))) else (none))) = some r := by first | (rw [hji5] at H; exact H) | (simp only [hji5] at H ⊢; exact H)
    have hji5_ : (4294967295 / 2 ^ min (ji3).toNat 64) = ji5 := hji5
    have hji5z : (ji3) ≤ 64 → (4294967295 / 2 ^ (ji3).toNat) = ji5 := shr_small hji5
    replace H := Option.bind_eq_some_iff.mp H
    obtain ⟨t111, A60, H⟩ := H
    replace H : (if 0 ≤ (IntKind.u64.wrap (t111)) then ((ssarewrite_GetPPC64Shiftsh.f a0).bind fun t112 => (if 0 ≤ (IntKind.u64.wrap (t112)) then ((ssarewrite_GetPPC64Shiftsh.f a0).bind fun t113 => (if ((shl .u64 (Go.bits .and .u64 (ji5) (shr .u64 18446744073709551615 (IntKind.u64.wrap (t111)))) (IntKind.u64.wrap (t112))) % 4294967296) = (shl .u64 (Go.bits .and .u64 (ji5) (shr .u64 18446744073709551615 (IntKind.u64.wrap (t111)))) (IntKind.u64.wrap (t112))) then (if (shl .u64 (Go.bits .and .u64 (ji5) (shr .u64 18446744073709551615 (IntKind.u64.wrap (t111)))) (IntKind.u64.wrap (t112))) = 0 then (some 0) else ((ssarewrite_encodePPC64RotateMask.f k (Go.bits .and .i64 (wrap64 ((wrap64 (32 - a1)) + t113)) 31) (wrap64 (shl .u64 (Go.bits .and .u64 (ji5) (shr .u64 18446744073709551615 (IntKind.u64.wrap (t111)))) (IntKind.u64.wrap (t112)))) 32).bind fun t114 => (some t114))) else (some 0))) else (none))) else (none)) = some r := H
    have A6 := Aside0.mk A60
    clear A60
    obtain ⟨ji7, hji7⟩ : ∃ j_ : Int, (IntKind.u64.wrap (t111)) = j_ := ⟨_, rfl⟩
    replace H : (if 0 ≤ (ji7) then ((ssarewrite_GetPPC64Shiftsh.f a0).bind fun t112 => (if 0 ≤ (IntKind.u64.wrap (t112)) then ((ssarewrite_GetPPC64Shiftsh.f a0).bind fun t113 => (if ((shl .u64 (Go.bits .and .u64 (ji5) (shr .u64 18446744073709551615 (ji7))) (IntKind.u64.wrap (t112))) % 4294967296) = (shl .u64 (Go.bits .and .u64 (ji5) (shr .u64 18446744073709551615 (ji7))) (IntKind.u64.wrap (t112))) then (if (shl .u64 (Go.bits .and .u64 (ji5) (shr .u64 18446744073709551615 (ji7))) (IntKind.u64.wrap (t112))) = 0 then (some 0) else ((ssarewrite_encodePPC64RotateMask.f k (Go.bits .and .i64 (wrap64 ((wrap64 (32 - a1)) + t113)) 31) (wrap64 (shl .u64 (Go.bits .and .u64 (ji5) (shr .u64 18446744073709551615 (ji7))) (IntKind.u64.wrap (t112)))) 32).bind fun t114 => (some t114))) else (some 0))) else (none))) else (none)) = some r := by first | (rw [hji7] at H; exact H) | (simp only [hji7] at H ⊢; exact H)
    (try rw [hji7] at A6)
    by_cases c8 : 0 ≤ (ji7)
    · rw [if_pos c8] at H
      have c8b0 := eq_true c8
      have c8b1 : decide (0 ≤ (ji7)) = true := decide_eq_true c8
      clear c8
      obtain ⟨ji9, hji9⟩ : ∃ j_ : Int, (shr .u64 18446744073709551615 (ji7)) = j_ := ⟨_, rfl⟩
      replace H : ((ssarewrite_GetPPC64Shiftsh.f a0).bind fun t112 => (if 0 ≤ (IntKind.u64.wrap (t112)) then ((ssarewrite_GetPPC64Shiftsh.f a0).bind fun t113 => (if ((shl .u64 (Go.bits .and .u64 (ji5) (ji9)) (IntKind.u64.wrap (t112))) % 4294967296) = (shl .u64 (Go.bits .and .u64 (ji5) (ji9)) (IntKind.u64.wrap (t112))) then (if (shl .u64 (Go.bits .and .u64 (ji5) (ji9)) (IntKind.u64.wrap (t112))) = 0 then (some 0) else ((ssarewrite_encodePPC64RotateMask.f k (Go.bits .and .i64 (wrap64 ((wrap64 (32 - a1)) + t113)) 31) (wrap64 (shl .u64 (Go.bits .and .u64 (ji5) (ji9)) (IntKind.u64.wrap (t112)))) 32).bind fun t114 => (some t114))) else (some 0))) else (none))) = some r := by first | (rw [hji9] at H; exact H) | (simp only [hji9] at H ⊢; exact H)
      (try rw [hji9] at A6)
      have hji9_ : (18446744073709551615 / 2 ^ min (ji7).toNat 64) = ji9 := hji9
      have hji9z : (ji7) ≤ 64 → (18446744073709551615 / 2 ^ (ji7).toNat) = ji9 := shr_small hji9
      replace H := Option.bind_eq_some_iff.mp H
      obtain ⟨t112, A100, H⟩ := H
      replace H : (if 0 ≤ (IntKind.u64.wrap (t112)) then ((ssarewrite_GetPPC64Shiftsh.f a0).bind fun t113 => (if ((shl .u64 (Go.bits .and .u64 (ji5) (ji9)) (IntKind.u64.wrap (t112))) % 4294967296) = (shl .u64 (Go.bits .and .u64 (ji5) (ji9)) (IntKind.u64.wrap (t112))) then (if (shl .u64 (Go.bits .and .u64 (ji5) (ji9)) (IntKind.u64.wrap (t112))) = 0 then (some 0) else ((ssarewrite_encodePPC64RotateMask.f k (Go.bits .and .i64 (wrap64 ((wrap64 (32 - a1)) + t113)) 31) (wrap64 (shl .u64 (Go.bits .and .u64 (ji5) (ji9)) (IntKind.u64.wrap (t112)))) 32).bind fun t114 => (some t114))) else (some 0))) else (none)) = some r := H
      have A10 := Aside0.mk A100
      clear A100
      obtain ⟨ji11, hji11⟩ : ∃ j_ : Int, (IntKind.u64.wrap (t112)) = j_ := ⟨_, rfl⟩
      replace H : (if 0 ≤ (ji11) then ((ssarewrite_GetPPC64Shiftsh.f a0).bind fun t113 => (if ((shl .u64 (Go.bits .and .u64 (ji5) (ji9)) (ji11)) % 4294967296) = (shl .u64 (Go.bits .and .u64 (ji5) (ji9)) (ji11)) then (if (shl .u64 (Go.bits .and .u64 (ji5) (ji9)) (ji11)) = 0 then (some 0) else ((ssarewrite_encodePPC64RotateMask.f k (Go.bits .and .i64 (wrap64 ((wrap64 (32 - a1)) + t113)) 31) (wrap64 (shl .u64 (Go.bits .and .u64 (ji5) (ji9)) (ji11))) 32).bind fun t114 => (some t114))) else (some 0))) else (none)) = some r := by first | (rw [hji11] at H; exact H) | (simp only [hji11] at H ⊢; exact H)
      (try rw [hji11] at A6)
      (try rw [hji11] at A10)
      by_cases c12 : 0 ≤ (ji11)
      · rw [if_pos c12] at H
        have c12b0 := eq_true c12
        have c12b1 : decide (0 ≤ (ji11)) = true := decide_eq_true c12
        clear c12
        obtain ⟨ji13, hji13⟩ : ∃ j_ : Int, (shl .u64 (Go.bits .and .u64 (ji5) (ji9)) (ji11)) = j_ := ⟨_, rfl⟩
        replace H : ((ssarewrite_GetPPC64Shiftsh.f a0).bind fun t113 => (if ((ji13) % 4294967296) = (ji13) then (if (ji13) = 0 then (some 0) else ((ssarewrite_encodePPC64RotateMask.f k (Go.bits .and .i64 (wrap64 ((wrap64 (32 - a1)) + t113)) 31) (wrap64 (ji13)) 32).bind fun t114 => (some t114))) else (some 0))) = some r := by first | (rw [hji13] at H; exact H) | (simp only [hji13] at H ⊢; exact H)
        (try rw [hji13] at A6)
        (try rw [hji13] at A10)
        have hji13_ : (IntKind.u64.wrap ((Go.bits .and .u64 (ji5) (ji9)) * 2 ^ min (ji11).toNat 64)) = ji13 := hji13
        have hji13z : (ji11) ≤ 64 → (IntKind.u64.wrap ((Go.bits .and .u64 (ji5) (ji9)) * 2 ^ (ji11).toNat)) = ji13 := shl_small hji13
        replace H := Option.bind_eq_some_iff.mp H
        obtain ⟨t113, A140, H⟩ := H
        replace H : (if ((ji13) % 4294967296) = (ji13) then (if (ji13) = 0 then (some 0) else ((ssarewrite_encodePPC64RotateMask.f k (Go.bits .and .i64 (wrap64 ((wrap64 (32 - a1)) + t113)) 31) (wrap64 (ji13)) 32).bind fun t114 => (some t114))) else (some 0)) = some r := H
        have A14 := Aside0.mk A140
        clear A140
        obtain rfl : t112 = t113 := Option.some.inj (A10.out.symm.trans A14.out)
        by_cases c15 : ((ji13) % 4294967296) = (ji13)
        · rw [if_pos c15] at H
          have c15b0 : (((ji13) % 4294967296) == (ji13)) = true := beq_iff_eq.mpr c15
          have c15b1 : (((ji13) % 4294967296) != (ji13)) = false := bne_eq_false_iff_eq.mpr c15
          clear c15
          by_cases c16 : (ji13) = 0
          · rw [if_pos c16] at H
            have c16b0 : ((ji13) == 0) = true := beq_iff_eq.mpr c16
            have c16b1 : ((ji13) != 0) = false := bne_eq_false_iff_eq.mpr c16
            clear c16
            obtain rfl := Option.some.inj H
            go_enter Tryd.func49, Tryd.ntmps49
            go_wp2_with (first | ((with_reducible refine gate_callee (f := 62) rfl ?_); refine goesL_ (some 15) rfl rfl Tryd.func62 (by kernel_rfl) rfl #[.int .i64 a0] rfl (by (try simp only [List.map_toArray, List.map_cons, List.map_nil]); first | done | rfl | (simp only [List.length_drop, List.length_take]; rfl)) ?_; (with_reducible refine (ssarewrite_GetPPC64Shiftmb.calls a0 t111 _ A6.out).mono ?_); rintro e w' ⟨rfl, ⟨nd, rfl⟩⟩; refine ⟨_, rfl, ?_⟩) | ((with_reducible refine gate_callee (f := 63) rfl ?_); refine goesL_ (some 22) rfl rfl Tryd.func63 (by kernel_rfl) rfl #[.int .i64 a0] rfl (by (try simp only [List.map_toArray, List.map_cons, List.map_nil]); first | done | rfl | (simp only [List.length_drop, List.length_take]; rfl)) ?_; (with_reducible refine (ssarewrite_GetPPC64Shiftsh.calls a0 t112 _ A10.out).mono ?_); rintro e w' ⟨rfl, ⟨nd, rfl⟩⟩; refine ⟨_, rfl, ?_⟩) | ((with_reducible refine gate_callee (f := 63) rfl ?_); refine goesL_ (some 28) rfl rfl Tryd.func63 (by kernel_rfl) rfl #[.int .i64 a0] rfl (by (try simp only [List.map_toArray, List.map_cons, List.map_nil]); first | done | rfl | (simp only [List.length_drop, List.length_take]; rfl)) ?_; (with_reducible refine (ssarewrite_GetPPC64Shiftsh.calls a0 t112 _ A14.out).mono ?_); rintro e w' ⟨rfl, ⟨nd, rfl⟩⟩; refine ⟨_, rfl, ?_⟩))
            go_ret
            exact ⟨by first | rfl | (simp; done) | (simp only [← hji3, ← hji5, ← hji7, ← hji9, ← hji11, ← hji13] <;> (first | rfl | simp)) | (simp [*]; done), by repeat (first | exact Drawn0.refl _ | apply Drawn0.step)⟩
          · rw [if_neg c16] at H
            have c16b0 : ((ji13) == 0) = false := beq_eq_false_iff_ne.mpr c16
            have c16b1 : ((ji13) != 0) = true := bne_iff_ne.mpr c16
            replace H := Option.bind_eq_some_iff.mp H
            obtain ⟨t114, A170, H⟩ := H
            replace H : (some t114) = some r := H
            have A17 := Aside0.mk A170
            clear A170
            obtain rfl := Option.some.inj H
            go_enter Tryd.func49, Tryd.ntmps49
            go_wp2_with (first | ((with_reducible refine gate_callee (f := 62) rfl ?_); refine goesL_ (some 15) rfl rfl Tryd.func62 (by kernel_rfl) rfl #[.int .i64 a0] rfl (by (try simp only [List.map_toArray, List.map_cons, List.map_nil]); first | done | rfl | (simp only [List.length_drop, List.length_take]; rfl)) ?_; (with_reducible refine (ssarewrite_GetPPC64Shiftmb.calls a0 t111 _ A6.out).mono ?_); rintro e w' ⟨rfl, ⟨nd, rfl⟩⟩; refine ⟨_, rfl, ?_⟩) | ((with_reducible refine gate_callee (f := 63) rfl ?_); refine goesL_ (some 22) rfl rfl Tryd.func63 (by kernel_rfl) rfl #[.int .i64 a0] rfl (by (try simp only [List.map_toArray, List.map_cons, List.map_nil]); first | done | rfl | (simp only [List.length_drop, List.length_take]; rfl)) ?_; (with_reducible refine (ssarewrite_GetPPC64Shiftsh.calls a0 t112 _ A10.out).mono ?_); rintro e w' ⟨rfl, ⟨nd, rfl⟩⟩; refine ⟨_, rfl, ?_⟩) | ((with_reducible refine gate_callee (f := 63) rfl ?_); refine goesL_ (some 28) rfl rfl Tryd.func63 (by kernel_rfl) rfl #[.int .i64 a0] rfl (by (try simp only [List.map_toArray, List.map_cons, List.map_nil]); first | done | rfl | (simp only [List.length_drop, List.length_take]; rfl)) ?_; (with_reducible refine (ssarewrite_GetPPC64Shiftsh.calls a0 t112 _ A14.out).mono ?_); rintro e w' ⟨rfl, ⟨nd, rfl⟩⟩; refine ⟨_, rfl, ?_⟩) | ((with_reducible refine gate_callee (f := 46) rfl ?_); refine goesL_ (some 45) rfl rfl Tryd.func46 (by kernel_rfl) rfl #[.int .i64 (Go.bits .and .i64 (wrap64 ((wrap64 (32 - a1)) + t112)) 31), .int .i64 (wrap64 (ji13)), .int .i64 32] rfl (by (try simp only [List.map_toArray, List.map_cons, List.map_nil]); first | done | (simp only [hji13]; rfl) | rfl | (simp only [List.length_drop, List.length_take]; rfl)) ?_; (with_reducible refine (ssarewrite_encodePPC64RotateMask.calls k (Go.bits .and .i64 (wrap64 ((wrap64 (32 - a1)) + t112)) 31) (wrap64 (ji13)) 32 t114 _ (by first | exact hT | exact hT.drewN _ | exact (hT.drewN _).drewN _ | exact ((hT.drewN _).drewN _).drewN _ | exact hT.below HB.out | exact (hT.below HB.out).drewN _ | exact ((hT.below HB.out).drewN _).drewN _) A17.out).mono ?_); rintro e w' ⟨rfl, ⟨nd, rfl⟩⟩; refine ⟨_, rfl, ?_⟩))
            go_ret
            exact ⟨by first | rfl | (simp; done) | (simp only [← hji3, ← hji5, ← hji7, ← hji9, ← hji11, ← hji13] <;> (first | rfl | simp)) | (simp [*]; done), by repeat (first | exact Drawn0.refl _ | apply Drawn0.step)⟩
        · rw [if_neg c15] at H
          have c15b0 : (((ji13) % 4294967296) == (ji13)) = false := beq_eq_false_iff_ne.mpr c15
          have c15b1 : (((ji13) % 4294967296) != (ji13)) = true := bne_iff_ne.mpr c15
          obtain rfl := Option.some.inj H
          go_enter Tryd.func49, Tryd.ntmps49
          go_wp2_with (first | ((with_reducible refine gate_callee (f := 62) rfl ?_); refine goesL_ (some 15) rfl rfl Tryd.func62 (by kernel_rfl) rfl #[.int .i64 a0] rfl (by (try simp only [List.map_toArray, List.map_cons, List.map_nil]); first | done | rfl | (simp only [List.length_drop, List.length_take]; rfl)) ?_; (with_reducible refine (ssarewrite_GetPPC64Shiftmb.calls a0 t111 _ A6.out).mono ?_); rintro e w' ⟨rfl, ⟨nd, rfl⟩⟩; refine ⟨_, rfl, ?_⟩) | ((with_reducible refine gate_callee (f := 63) rfl ?_); refine goesL_ (some 22) rfl rfl Tryd.func63 (by kernel_rfl) rfl #[.int .i64 a0] rfl (by (try simp only [List.map_toArray, List.map_cons, List.map_nil]); first | done | rfl | (simp only [List.length_drop, List.length_take]; rfl)) ?_; (with_reducible refine (ssarewrite_GetPPC64Shiftsh.calls a0 t112 _ A10.out).mono ?_); rintro e w' ⟨rfl, ⟨nd, rfl⟩⟩; refine ⟨_, rfl, ?_⟩) | ((with_reducible refine gate_callee (f := 63) rfl ?_); refine goesL_ (some 28) rfl rfl Tryd.func63 (by kernel_rfl) rfl #[.int .i64 a0] rfl (by (try simp only [List.map_toArray, List.map_cons, List.map_nil]); first | done | rfl | (simp only [List.length_drop, List.length_take]; rfl)) ?_; (with_reducible refine (ssarewrite_GetPPC64Shiftsh.calls a0 t112 _ A14.out).mono ?_); rintro e w' ⟨rfl, ⟨nd, rfl⟩⟩; refine ⟨_, rfl, ?_⟩))
          go_ret
          exact ⟨by first | rfl | (simp; done) | (simp only [← hji3, ← hji5, ← hji7, ← hji9, ← hji11, ← hji13] <;> (first | rfl | simp)) | (simp [*]; done), by repeat (first | exact Drawn0.refl _ | apply Drawn0.step)⟩
      · rw [if_neg c12] at H
        exact absurd H (by simp)
    · rw [if_neg c8] at H
      exact absurd H (by simp)
  · rw [if_neg c4] at H
    exact absurd H (by simp)

attribute [local go_sem] signed_i64 signed_i32 signed_u32 max_u32 signed_u64 max_u64
/-! ### ssarewrite_ZZMergePPC64ClrlsldiSrw: function 37 -/
def ssarewrite_ZZMergePPC64ClrlsldiSrw.f (k : Nat) (a0 : Int) (a1 : Int) : Option (Int) := (ssarewrite_mergePPC64ClrlsldiSrw.f k a0 a1).bind fun t115 => (some t115)
theorem ssarewrite_ZZMergePPC64ClrlsldiSrw.mono : ∀ a0 a1 k, LeO (ssarewrite_ZZMergePPC64ClrlsldiSrw.f k a0 a1) (ssarewrite_ZZMergePPC64ClrlsldiSrw.f (k + 1) a0 a1) := by
  intro a0 a1 k
  unfold ssarewrite_ZZMergePPC64ClrlsldiSrw.f
  repeat' first
      | (with_reducible exact ssarewrite_mergePPC64ClrlsldiSrw.mono _ _ _)
      | (with_reducible exact LeO.refl _)
      | (with_reducible exact LeO.none _)
      | (with_reducible refine LeO.ite ?_ ?_)
      | (with_reducible refine LeO.bind ?_ (fun _ => ?_))
      | exact ssarewrite_mergePPC64ClrlsldiSrw.mono _ _ _
      | exact LeO.none _
      | refine LeO.ite ?_ ?_
      | refine LeO.bind ?_ (fun _ => ?_)
set_option maxHeartbeats 8000000 in
set_option maxRecDepth 100000 in
theorem ssarewrite_ZZMergePPC64ClrlsldiSrw.calls (k : Nat) (a0 : Int) (a1 : Int) (r : Int) (w : World) (hT : Tab0 w) (h : ssarewrite_ZZMergePPC64ClrlsldiSrw.f k a0 a1 = some r) :
    Calls Tryd.prog 37 #[.int .i64 a0, .int .i64 a1] w fun e w' => e = .returned (.int .i64 r) ∧ Drawn0 w w' := by
  have H : ((ssarewrite_mergePPC64ClrlsldiSrw.f k a0 a1).bind fun t115 => (some t115)) = some r := h
  clear h
  replace H := Option.bind_eq_some_iff.mp H
  obtain ⟨t115, A30, H⟩ := H
  replace H : (some t115) = some r := H
  have A3 := Aside0.mk A30
  clear A30
  obtain rfl := Option.some.inj H
  go_enter Tryd.func37, Tryd.ntmps37
  go_wp2_with (first | ((with_reducible refine gate_callee (f := 49) rfl ?_); refine goesL_ (some 7) rfl rfl Tryd.func49 (by kernel_rfl) rfl #[.int .i64 a0, .int .i64 a1] rfl (by (try simp only [List.map_toArray, List.map_cons, List.map_nil]); first | done | rfl | (simp only [List.length_drop, List.length_take]; rfl)) ?_; (with_reducible refine (ssarewrite_mergePPC64ClrlsldiSrw.calls k a0 a1 t115 _ (by first | exact hT | exact hT.drewN _ | exact (hT.drewN _).drewN _ | exact ((hT.drewN _).drewN _).drewN _ | exact hT.below HB.out | exact (hT.below HB.out).drewN _ | exact ((hT.below HB.out).drewN _).drewN _) A3.out).mono ?_); rintro e w' ⟨rfl, ⟨nd, rfl⟩⟩; refine ⟨_, rfl, ?_⟩))
  go_ret
  exact ⟨by first | rfl | (simp; done) | (simp [*]; done), by repeat (first | exact Drawn0.refl _ | apply Drawn0.step)⟩

attribute [local go_sem] signed_i64 signed_i32 signed_u32 max_u32 signed_u64 max_u64
/-! ### impl_ClrlsldiSrw: function 21 -/
def impl_ClrlsldiSrw.f (k : Nat) (a0 : Int) (a1 : Int) : Option (Int) := (ssarewrite_ZZMergePPC64ClrlsldiSrw.f k a0 a1).bind fun t116 => (some t116)
theorem impl_ClrlsldiSrw.mono : ∀ a0 a1 k, LeO (impl_ClrlsldiSrw.f k a0 a1) (impl_ClrlsldiSrw.f (k + 1) a0 a1) := by
  intro a0 a1 k
  unfold impl_ClrlsldiSrw.f
  repeat' first
      | (with_reducible exact ssarewrite_ZZMergePPC64ClrlsldiSrw.mono _ _ _)
      | (with_reducible exact LeO.refl _)
      | (with_reducible exact LeO.none _)
      | (with_reducible refine LeO.ite ?_ ?_)
      | (with_reducible refine LeO.bind ?_ (fun _ => ?_))
      | exact ssarewrite_ZZMergePPC64ClrlsldiSrw.mono _ _ _
      | exact LeO.none _
      | refine LeO.ite ?_ ?_
      | refine LeO.bind ?_ (fun _ => ?_)
set_option maxHeartbeats 8000000 in
set_option maxRecDepth 100000 in
theorem impl_ClrlsldiSrw.calls (k : Nat) (a0 : Int) (a1 : Int) (r : Int) (w : World) (hT : Tab0 w) (h : impl_ClrlsldiSrw.f k a0 a1 = some r) :
    Calls Tryd.prog 21 #[.int .i64 a0, .int .i64 a1] w fun e w' => e = .returned (.int .i64 r) ∧ Drawn0 w w' := by
  have H : ((ssarewrite_ZZMergePPC64ClrlsldiSrw.f k a0 a1).bind fun t116 => (some t116)) = some r := h
  clear h
  replace H := Option.bind_eq_some_iff.mp H
  obtain ⟨t116, A30, H⟩ := H
  replace H : (some t116) = some r := H
  have A3 := Aside0.mk A30
  clear A30
  obtain rfl := Option.some.inj H
  go_enter Tryd.func21, Tryd.ntmps21
  go_wp2_with (first | ((with_reducible refine gate_callee (f := 37) rfl ?_); refine goesL_ (some 7) rfl rfl Tryd.func37 (by kernel_rfl) rfl #[.int .i64 a0, .int .i64 a1] rfl (by (try simp only [List.map_toArray, List.map_cons, List.map_nil]); first | done | rfl | (simp only [List.length_drop, List.length_take]; rfl)) ?_; (with_reducible refine (ssarewrite_ZZMergePPC64ClrlsldiSrw.calls k a0 a1 t116 _ (by first | exact hT | exact hT.drewN _ | exact (hT.drewN _).drewN _ | exact ((hT.drewN _).drewN _).drewN _ | exact hT.below HB.out | exact (hT.below HB.out).drewN _ | exact ((hT.below HB.out).drewN _).drewN _) A3.out).mono ?_); rintro e w' ⟨rfl, ⟨nd, rfl⟩⟩; refine ⟨_, rfl, ?_⟩))
  go_ret
  exact ⟨by first | rfl | (simp; done) | (simp [*]; done), by repeat (first | exact Drawn0.refl _ | apply Drawn0.step)⟩

attribute [local go_sem] signed_i64 signed_i32 signed_u32 max_u32 signed_u64 max_u64
/-! ### ssarewrite_isPPC64WordRotateMask: function 64 -/
def ssarewrite_isPPC64WordRotateMask.f (a0 : Int) : Option (Bool) := if (Go.bits .and .u32 ((a0) % 4294967296) (((Go.bits .and .u32 ((a0) % 4294967296) ((-((a0) % 4294967296)) % 4294967296)) + (a0)) % 4294967296)) = 0 then (some (((a0) % 4294967296) != 0)) else (if (Go.bits .and .u32 (Go.bits .xor .u32 4294967295 ((a0) % 4294967296)) (((Go.bits .and .u32 (Go.bits .xor .u32 4294967295 ((a0) % 4294967296)) ((-(Go.bits .xor .u32 4294967295 ((a0) % 4294967296))) % 4294967296)) + (Go.bits .xor .u32 4294967295 ((a0) % 4294967296))) % 4294967296)) = 0 then (some (((a0) % 4294967296) != 0)) else (some false))
set_option maxHeartbeats 8000000 in
set_option maxRecDepth 100000 in
theorem ssarewrite_isPPC64WordRotateMask.calls (a0 : Int) (r : Bool) (w : World) (h : ssarewrite_isPPC64WordRotateMask.f a0 = some r) :
    Calls Tryd.prog 64 #[.int .i64 a0] w fun e w' => e = .returned (.bool r) ∧ Drawn0 w w' := by
  have H : (if (Go.bits .and .u32 ((a0) % 4294967296) (((Go.bits .and .u32 ((a0) % 4294967296) ((-((a0) % 4294967296)) % 4294967296)) + (a0)) % 4294967296)) = 0 then (some (((a0) % 4294967296) != 0)) else (if (Go.bits .and .u32 (Go.bits .xor .u32 4294967295 ((a0) % 4294967296)) (((Go.bits .and .u32 (Go.bits .xor .u32 4294967295 ((a0) % 4294967296)) ((-(Go.bits .xor .u32 4294967295 ((a0) % 4294967296))) % 4294967296)) + (Go.bits .xor .u32 4294967295 ((a0) % 4294967296))) % 4294967296)) = 0 then (some (((a0) % 4294967296) != 0)) else (some false))) = some r := h
  clear h
  by_cases c2 : (Go.bits .and .u32 ((a0) % 4294967296) (((Go.bits .and .u32 ((a0) % 4294967296) ((-((a0) % 4294967296)) % 4294967296)) + (a0)) % 4294967296)) = 0
  · rw [if_pos c2] at H
    have c2b0 : ((Go.bits .and .u32 ((a0) % 4294967296) (((Go.bits .and .u32 ((a0) % 4294967296) ((-((a0) % 4294967296)) % 4294967296)) + (a0)) % 4294967296)) == 0) = true := beq_iff_eq.mpr c2
    have c2b1 : ((Go.bits .and .u32 ((a0) % 4294967296) (((Go.bits .and .u32 ((a0) % 4294967296) ((-((a0) % 4294967296)) % 4294967296)) + (a0)) % 4294967296)) != 0) = false := bne_eq_false_iff_eq.mpr c2
    clear c2
    obtain rfl := Option.some.inj H
    go_enter Tryd.func64, Tryd.ntmps64
    go_wp2
    go_ret
    exact ⟨by first | rfl | (simp; done) | (simp [*]; done), by repeat (first | exact Drawn0.refl _ | apply Drawn0.step)⟩
  · rw [if_neg c2] at H
    have c2b0 : ((Go.bits .and .u32 ((a0) % 4294967296) (((Go.bits .and .u32 ((a0) % 4294967296) ((-((a0) % 4294967296)) % 4294967296)) + (a0)) % 4294967296)) == 0) = false := beq_eq_false_iff_ne.mpr c2
    have c2b1 : ((Go.bits .and .u32 ((a0) % 4294967296) (((Go.bits .and .u32 ((a0) % 4294967296) ((-((a0) % 4294967296)) % 4294967296)) + (a0)) % 4294967296)) != 0) = true := bne_iff_ne.mpr c2
    by_cases c3 : (Go.bits .and .u32 (Go.bits .xor .u32 4294967295 ((a0) % 4294967296)) (((Go.bits .and .u32 (Go.bits .xor .u32 4294967295 ((a0) % 4294967296)) ((-(Go.bits .xor .u32 4294967295 ((a0) % 4294967296))) % 4294967296)) + (Go.bits .xor .u32 4294967295 ((a0) % 4294967296))) % 4294967296)) = 0
    · rw [if_pos c3] at H
      have c3b0 : ((Go.bits .and .u32 (Go.bits .xor .u32 4294967295 ((a0) % 4294967296)) (((Go.bits .and .u32 (Go.bits .xor .u32 4294967295 ((a0) % 4294967296)) ((-(Go.bits .xor .u32 4294967295 ((a0) % 4294967296))) % 4294967296)) + (Go.bits .xor .u32 4294967295 ((a0) % 4294967296))) % 4294967296)) == 0) = true := beq_iff_eq.mpr c3
      have c3b1 : ((Go.bits .and .u32 (Go.bits .xor .u32 4294967295 ((a0) % 4294967296)) (((Go.bits .and .u32 (Go.bits .xor .u32 4294967295 ((a0) % 4294967296)) ((-(Go.bits .xor .u32 4294967295 ((a0) % 4294967296))) % 4294967296)) + (Go.bits .xor .u32 4294967295 ((a0) % 4294967296))) % 4294967296)) != 0) = false := bne_eq_false_iff_eq.mpr c3
      clear c3
      obtain rfl := Option.some.inj H
      go_enter Tryd.func64, Tryd.ntmps64
      go_wp2
      go_ret
      exact ⟨by first | rfl | (simp; done) | (simp [*]; done), by repeat (first | exact Drawn0.refl _ | apply Drawn0.step)⟩
    · rw [if_neg c3] at H
      have c3b0 : ((Go.bits .and .u32 (Go.bits .xor .u32 4294967295 ((a0) % 4294967296)) (((Go.bits .and .u32 (Go.bits .xor .u32 4294967295 ((a0) % 4294967296)) ((-(Go.bits .xor .u32 4294967295 ((a0) % 4294967296))) % 4294967296)) + (Go.bits .xor .u32 4294967295 ((a0) % 4294967296))) % 4294967296)) == 0) = false := beq_eq_false_iff_ne.mpr c3
      have c3b1 : ((Go.bits .and .u32 (Go.bits .xor .u32 4294967295 ((a0) % 4294967296)) (((Go.bits .and .u32 (Go.bits .xor .u32 4294967295 ((a0) % 4294967296)) ((-(Go.bits .xor .u32 4294967295 ((a0) % 4294967296))) % 4294967296)) + (Go.bits .xor .u32 4294967295 ((a0) % 4294967296))) % 4294967296)) != 0) = true := bne_iff_ne.mpr c3
      obtain rfl := Option.some.inj H
      go_enter Tryd.func64, Tryd.ntmps64
      go_wp2
      go_ret
      exact ⟨by first | rfl | (simp; done) | (simp [*]; done), by repeat (first | exact Drawn0.refl _ | apply Drawn0.step)⟩

attribute [local go_sem] signed_i64 signed_i32 signed_u32 max_u32 signed_u64 max_u64
/-! ### ssarewrite_ZZIsPPC64WordRotateMask: function 50 -/
def ssarewrite_ZZIsPPC64WordRotateMask.f (a0 : Int) : Option (Bool) := (ssarewrite_isPPC64WordRotateMask.f a0).bind fun t117 => (some t117)
set_option maxHeartbeats 8000000 in
set_option maxRecDepth 100000 in
theorem ssarewrite_ZZIsPPC64WordRotateMask.calls (a0 : Int) (r : Bool) (w : World) (h : ssarewrite_ZZIsPPC64WordRotateMask.f a0 = some r) :
    Calls Tryd.prog 50 #[.int .i64 a0] w fun e w' => e = .returned (.bool r) ∧ Drawn0 w w' := by
  have H : ((ssarewrite_isPPC64WordRotateMask.f a0).bind fun t117 => (some t117)) = some r := h
  clear h
  replace H := Option.bind_eq_some_iff.mp H
  obtain ⟨t117, A20, H⟩ := H
  replace H : (some t117) = some r := H
  have A2 := Aside0.mk A20
  clear A20
  obtain rfl := Option.some.inj H
  go_enter Tryd.func50, Tryd.ntmps50
  go_wp2_with (first | ((with_reducible refine gate_callee (f := 64) rfl ?_); refine goesL_ (some 4) rfl rfl Tryd.func64 (by kernel_rfl) rfl #[.int .i64 a0] rfl (by (try simp only [List.map_toArray, List.map_cons, List.map_nil]); first | done | rfl | (simp only [List.length_drop, List.length_take]; rfl)) ?_; (with_reducible refine (ssarewrite_isPPC64WordRotateMask.calls a0 t117 _ A2.out).mono ?_); rintro e w' ⟨rfl, ⟨nd, rfl⟩⟩; refine ⟨_, rfl, ?_⟩))
  go_ret
  exact ⟨by first | rfl | (simp; done) | (simp [*]; done), by repeat (first | exact Drawn0.refl _ | apply Drawn0.step)⟩

attribute [local go_sem] signed_i64 signed_i32 signed_u32 max_u32 signed_u64 max_u64
/-! ### impl_IsWordRotateMask: function 38 -/
def impl_IsWordRotateMask.f (a0 : Int) : Option (Bool) := (ssarewrite_ZZIsPPC64WordRotateMask.f a0).bind fun t118 => (some t118)
set_option maxHeartbeats 8000000 in
set_option maxRecDepth 100000 in
theorem impl_IsWordRotateMask.calls (a0 : Int) (r : Bool) (w : World) (h : impl_IsWordRotateMask.f a0 = some r) :
    Calls Tryd.prog 38 #[.int .i64 a0] w fun e w' => e = .returned (.bool r) ∧ Drawn0 w w' := by
  have H : ((ssarewrite_ZZIsPPC64WordRotateMask.f a0).bind fun t118 => (some t118)) = some r := h
  clear h
  replace H := Option.bind_eq_some_iff.mp H
  obtain ⟨t118, A20, H⟩ := H
  replace H : (some t118) = some r := H
  have A2 := Aside0.mk A20
  clear A20
  obtain rfl := Option.some.inj H
  go_enter Tryd.func38, Tryd.ntmps38
  go_wp2_with (first | ((with_reducible refine gate_callee (f := 50) rfl ?_); refine goesL_ (some 4) rfl rfl Tryd.func50 (by kernel_rfl) rfl #[.int .i64 a0] rfl (by (try simp only [List.map_toArray, List.map_cons, List.map_nil]); first | done | rfl | (simp only [List.length_drop, List.length_take]; rfl)) ?_; (with_reducible refine (ssarewrite_ZZIsPPC64WordRotateMask.calls a0 t118 _ A2.out).mono ?_); rintro e w' ⟨rfl, ⟨nd, rfl⟩⟩; refine ⟨_, rfl, ?_⟩))
  go_ret
  exact ⟨by first | rfl | (simp; done) | (simp [*]; done), by repeat (first | exact Drawn0.refl _ | apply Drawn0.step)⟩

end Go.Proofs.YtlcaejikcelgoaaDoor.PFnClrlsldiSrw
