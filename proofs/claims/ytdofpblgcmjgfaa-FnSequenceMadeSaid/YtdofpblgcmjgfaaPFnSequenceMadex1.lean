-- PRINTED BY print.sh 35421559b90ae4d0a3588c463048766b98c2df88dd9212a6774a882060cdf62d: not written by this session
import Derived.Test.YtdofpblgcmjgfaaPFnSequenceMadex0
namespace Go.Proofs.Ytdofpblgcmjgfaa.PFnSequenceMade
open Go.RowKit Go.Proofs.YtdofpblgcmjgfaaW.PrintWords Go.Proofs.YtdofpblgcmjgfaaW.PrintLast Go.Proofs.YtdofpblgcmjgfaaW.PrintMore
attribute [local go_sem] max2_int min2_int max_two min_two max_three min_three max_four min_four   -- for this text's walks alone
set_option linter.unusedVariables false
set_option linter.unusedSimpArgs false

/-! ### laws_rwAt: function 12 -/
def laws_rwAt.f (a0 : Int) (a1 : Int) : Option (Int) := if a1 = 0 then (none) else (some (Int.tmod (wrap64 ((Int.tmod a0 a1) + a1)) a1))
set_option maxHeartbeats 8000000 in
set_option maxRecDepth 100000 in
theorem laws_rwAt.calls (a0 : Int) (a1 : Int) (r : Int) (w : World) (h : laws_rwAt.f a0 a1 = some r) :
    Calls Try.prog 12 #[.int .i64 a0, .int .i64 a1] w fun e w' => e = .returned (.int .i64 r) ∧ Drawn0 w w' := by
  have H : (if a1 = 0 then (none) else (some (Int.tmod (wrap64 ((Int.tmod a0 a1) + a1)) a1))) = some r := h
  clear h
  by_cases c3 : a1 = 0
  · rw [if_pos c3] at H
    exact absurd H (by simp)
  · rw [if_neg c3] at H
    have c3b0 : (a1 == 0) = false := beq_eq_false_iff_ne.mpr c3
    have c3b1 : (a1 != 0) = true := bne_iff_ne.mpr c3
    obtain rfl := Option.some.inj H
    go_enter Try.func12, Try.ntmps12
    go_wp2
    go_ret
    exact ⟨by first | rfl | (simp; done) | (simp [*]; done), by repeat (first | exact Drawn0.refl _ | apply Drawn0.step)⟩

/-! ### spec_Run: function 13 -/
def spec_Run.f (a0 : Int) (a1 : Int) : Option (Int) := if a1 ≥ 64 then (some 18446744073709551615) else (if 0 ≤ a1 then (if 0 ≤ a0 then (some (shl .u64 (IntKind.u64.wrap ((shl .u64 1 a1) - 1)) a0)) else (none)) else (none))
set_option maxHeartbeats 8000000 in
set_option maxRecDepth 100000 in
theorem spec_Run.calls (a0 : Int) (a1 : Int) (r : Int) (w : World) (h : spec_Run.f a0 a1 = some r) :
    Calls Try.prog 13 #[.int .u64 a0, .int .u64 a1] w fun e w' => e = .returned (.int .u64 r) ∧ Drawn0 w w' := by
  have H : (if a1 ≥ 64 then (some 18446744073709551615) else (if 0 ≤ a1 then (if 0 ≤ a0 then (some (shl .u64 (IntKind.u64.wrap ((shl .u64 1 a1) - 1)) a0)) else (none)) else (none))) = some r := h
  clear h
  by_cases c3 : a1 ≥ 64
  · rw [if_pos c3] at H
    have c3b0 : decide (64 ≤ a1) = true := decide_eq_true c3
    clear c3
    obtain rfl := Option.some.inj H
    go_enter Try.func13, Try.ntmps13
    go_wp2
    go_ret
    exact ⟨by first | rfl | (simp; done) | (simp [*]; done), by repeat (first | exact Drawn0.refl _ | apply Drawn0.step)⟩
  · rw [if_neg c3] at H
    have c3b0 : decide (64 ≤ a1) = false := decide_eq_false c3
    clear c3
    by_cases c4 : 0 ≤ a1
    · rw [if_pos c4] at H
      have c4b0 := eq_true c4
      have c4b1 : decide (0 ≤ a1) = true := decide_eq_true c4
      clear c4
      obtain ⟨ji5, hji5⟩ : ∃ j_ : Int, (shl .u64 1 a1) = j_ := ⟨_, rfl⟩
      replace H : (if 0 ≤ a0 then (some (shl .u64 (IntKind.u64.wrap ((ji5) - 1)) a0)) else (none)) = some r := by first | (rw [hji5] at H; exact H) | (simp only [hji5] at H ⊢; exact H)
      have hji5_ : (IntKind.u64.wrap (1 * 2 ^ min a1.toNat 64)) = ji5 := hji5
      have hji5z : a1 ≤ 64 → (IntKind.u64.wrap (1 * 2 ^ a1.toNat)) = ji5 := shl_small hji5
      have hji5u : (IntKind.u64.wrap (2 ^ min a1.toNat 64)) = ji5 := by have h_ := hji5_; rw [Int.one_mul] at h_; exact h_
      have hji5v : a1 ≤ 64 → (IntKind.u64.wrap (2 ^ a1.toNat)) = ji5 := fun hle_ => by have h_ := hji5z hle_; rw [Int.one_mul] at h_; exact h_
      by_cases c6 : 0 ≤ a0
      · rw [if_pos c6] at H
        have c6b0 := eq_true c6
        have c6b1 : decide (0 ≤ a0) = true := decide_eq_true c6
        clear c6
        obtain ⟨ji7, hji7⟩ : ∃ j_ : Int, (shl .u64 (IntKind.u64.wrap ((ji5) - 1)) a0) = j_ := ⟨_, rfl⟩
        replace H : (some ji7) = some r := by first | (rw [hji7] at H; exact H) | (simp only [hji7] at H ⊢; exact H)
        have hji7_ : (IntKind.u64.wrap ((IntKind.u64.wrap ((ji5) - 1)) * 2 ^ min a0.toNat 64)) = ji7 := hji7
        have hji7z : a0 ≤ 64 → (IntKind.u64.wrap ((IntKind.u64.wrap ((ji5) - 1)) * 2 ^ a0.toNat)) = ji7 := shl_small hji7
        obtain rfl := Option.some.inj H
        go_enter Try.func13, Try.ntmps13
        go_wp2
        go_ret
        exact ⟨by first | rfl | (simp; done) | (simp only [← hji5, ← hji7] <;> (first | rfl | simp)) | (simp [*]; done), by repeat (first | exact Drawn0.refl _ | apply Drawn0.step)⟩
      · rw [if_neg c6] at H
        exact absurd H (by simp)
    · rw [if_neg c4] at H
      exact absurd H (by simp)

/-! ### ssarewrite_sequenceOfOnes: function 45 -/
def ssarewrite_sequenceOfOnes.f (a0 : Int) : Option (Bool) := some ((Go.bits .and .u64 (IntKind.u64.wrap ((IntKind.u64.wrap ((Go.bits .and .u64 a0 (IntKind.u64.wrap (-a0))) + a0)) - 1)) (IntKind.u64.wrap ((Go.bits .and .u64 a0 (IntKind.u64.wrap (-a0))) + a0))) == 0)
set_option maxHeartbeats 8000000 in
set_option maxRecDepth 100000 in
theorem ssarewrite_sequenceOfOnes.calls (a0 : Int) (r : Bool) (w : World) (h : ssarewrite_sequenceOfOnes.f a0 = some r) :
    Calls Try.prog 45 #[.int .u64 a0] w fun e w' => e = .returned (.bool r) ∧ Drawn0 w w' := by
  have H : (some ((Go.bits .and .u64 (IntKind.u64.wrap ((IntKind.u64.wrap ((Go.bits .and .u64 a0 (IntKind.u64.wrap (-a0))) + a0)) - 1)) (IntKind.u64.wrap ((Go.bits .and .u64 a0 (IntKind.u64.wrap (-a0))) + a0))) == 0)) = some r := h
  clear h
  obtain rfl := Option.some.inj H
  go_enter Try.func45, Try.ntmps45
  go_wp2
  go_ret
  exact ⟨by first | rfl | (simp; done) | (simp [*]; done), by repeat (first | exact Drawn0.refl _ | apply Drawn0.step)⟩

/-! ### ssarewrite_ZZSequenceOfOnes: function 30 -/
def ssarewrite_ZZSequenceOfOnes.f (a0 : Int) : Option (Bool) := (ssarewrite_sequenceOfOnes.f a0).bind fun t101 => (some t101)
set_option maxHeartbeats 8000000 in
set_option maxRecDepth 100000 in
theorem ssarewrite_ZZSequenceOfOnes.calls (a0 : Int) (r : Bool) (w : World) (h : ssarewrite_ZZSequenceOfOnes.f a0 = some r) :
    Calls Try.prog 30 #[.int .u64 a0] w fun e w' => e = .returned (.bool r) ∧ Drawn0 w w' := by
  have H : ((ssarewrite_sequenceOfOnes.f a0).bind fun t101 => (some t101)) = some r := h
  clear h
  replace H := Option.bind_eq_some_iff.mp H
  obtain ⟨t101, A20, H⟩ := H
  replace H : (some t101) = some r := H
  have A2 := Aside0.mk A20
  clear A20
  obtain rfl := Option.some.inj H
  go_enter Try.func30, Try.ntmps30
  go_wp2_with (first | ((with_reducible refine gate_callee (f := 45) rfl ?_); refine goesL_ (some 4) rfl rfl Try.func45 (by kernel_rfl) rfl #[.int .u64 a0] rfl (by (try simp only [List.map_toArray, List.map_cons, List.map_nil]); first | done | rfl | (simp only [List.length_drop, List.length_take]; rfl)) ?_; (with_reducible refine (ssarewrite_sequenceOfOnes.calls a0 t101 _ A2.out).mono ?_); rintro e w' ⟨rfl, ⟨nd, rfl⟩⟩; refine ⟨_, rfl, ?_⟩))
  go_ret
  exact ⟨by first | rfl | (simp; done) | (simp [*]; done), by repeat (first | exact Drawn0.refl _ | apply Drawn0.step)⟩

/-! ### impl_SequenceOfOnes: function 14 -/
def impl_SequenceOfOnes.f (a0 : Int) : Option (Bool) := (ssarewrite_ZZSequenceOfOnes.f a0).bind fun t102 => (some t102)
set_option maxHeartbeats 8000000 in
set_option maxRecDepth 100000 in
theorem impl_SequenceOfOnes.calls (a0 : Int) (r : Bool) (w : World) (h : impl_SequenceOfOnes.f a0 = some r) :
    Calls Try.prog 14 #[.int .u64 a0] w fun e w' => e = .returned (.bool r) ∧ Drawn0 w w' := by
  have H : ((ssarewrite_ZZSequenceOfOnes.f a0).bind fun t102 => (some t102)) = some r := h
  clear h
  replace H := Option.bind_eq_some_iff.mp H
  obtain ⟨t102, A20, H⟩ := H
  replace H : (some t102) = some r := H
  have A2 := Aside0.mk A20
  clear A20
  obtain rfl := Option.some.inj H
  go_enter Try.func14, Try.ntmps14
  go_wp2_with (first | ((with_reducible refine gate_callee (f := 30) rfl ?_); refine goesL_ (some 4) rfl rfl Try.func30 (by kernel_rfl) rfl #[.int .u64 a0] rfl (by (try simp only [List.map_toArray, List.map_cons, List.map_nil]); first | done | rfl | (simp only [List.length_drop, List.length_take]; rfl)) ?_; (with_reducible refine (ssarewrite_ZZSequenceOfOnes.calls a0 t102 _ A2.out).mono ?_); rintro e w' ⟨rfl, ⟨nd, rfl⟩⟩; refine ⟨_, rfl, ?_⟩))
  go_ret
  exact ⟨by first | rfl | (simp; done) | (simp [*]; done), by repeat (first | exact Drawn0.refl _ | apply Drawn0.step)⟩

/-! ### laws_FnSequenceMade: function 4 -/
def laws_FnSequenceMade.f (a0 : Int) (a1 : Int) (a2 : Int) : Option (Bool) := (laws_rwAt.f a0 40).bind fun t103 => ((laws_rwAt.f a1 12).bind fun t104 => ((spec_Run.f (IntKind.u64.wrap (t103)) (IntKind.u64.wrap (1 + (IntKind.u64.wrap (t104))))).bind fun t105 => ((impl_SequenceOfOnes.f t105).bind fun t106 => (if t106 = true then ((laws_rwAt.f a2 8).bind fun t107 => (if 0 ≤ (IntKind.u64.wrap ((IntKind.u64.wrap ((IntKind.u64.wrap ((IntKind.u64.wrap (t103)) + (IntKind.u64.wrap (1 + (IntKind.u64.wrap (t104)))))) + 1)) + (IntKind.u64.wrap (t107)))) then ((impl_SequenceOfOnes.f (Go.bits .or .u64 t105 (shl .u64 1 (IntKind.u64.wrap ((IntKind.u64.wrap ((IntKind.u64.wrap ((IntKind.u64.wrap (t103)) + (IntKind.u64.wrap (1 + (IntKind.u64.wrap (t104)))))) + 1)) + (IntKind.u64.wrap (t107))))))).bind fun t108 => (some (!t108))) else (none))) else (some false)))))
set_option maxHeartbeats 8000000 in
set_option maxRecDepth 100000 in
theorem laws_FnSequenceMade.calls (a0 : Int) (a1 : Int) (a2 : Int) (r : Bool) (w : World) (h : laws_FnSequenceMade.f a0 a1 a2 = some r) :
    Calls Try.prog 4 #[.int .i64 a0, .int .i64 a1, .int .i64 a2] w fun e w' => e = .returned (.bool r) ∧ Drawn0 w w' := by
  have H : ((laws_rwAt.f a0 40).bind fun t103 => ((laws_rwAt.f a1 12).bind fun t104 => ((spec_Run.f (IntKind.u64.wrap (t103)) (IntKind.u64.wrap (1 + (IntKind.u64.wrap (t104))))).bind fun t105 => ((impl_SequenceOfOnes.f t105).bind fun t106 => (if t106 = true then ((laws_rwAt.f a2 8).bind fun t107 => (if 0 ≤ (IntKind.u64.wrap ((IntKind.u64.wrap ((IntKind.u64.wrap ((IntKind.u64.wrap (t103)) + (IntKind.u64.wrap (1 + (IntKind.u64.wrap (t104)))))) + 1)) + (IntKind.u64.wrap (t107)))) then ((impl_SequenceOfOnes.f (Go.bits .or .u64 t105 (shl .u64 1 (IntKind.u64.wrap ((IntKind.u64.wrap ((IntKind.u64.wrap ((IntKind.u64.wrap (t103)) + (IntKind.u64.wrap (1 + (IntKind.u64.wrap (t104)))))) + 1)) + (IntKind.u64.wrap (t107))))))).bind fun t108 => (some (!t108))) else (none))) else (some false)))))) = some r := h
  clear h
  replace H := Option.bind_eq_some_iff.mp H
  obtain ⟨t103, A40, H⟩ := H
  replace H : ((laws_rwAt.f a1 12).bind fun t104 => ((spec_Run.f (IntKind.u64.wrap (t103)) (IntKind.u64.wrap (1 + (IntKind.u64.wrap (t104))))).bind fun t105 => ((impl_SequenceOfOnes.f t105).bind fun t106 => (if t106 = true then ((laws_rwAt.f a2 8).bind fun t107 => (if 0 ≤ (IntKind.u64.wrap ((IntKind.u64.wrap ((IntKind.u64.wrap ((IntKind.u64.wrap (t103)) + (IntKind.u64.wrap (1 + (IntKind.u64.wrap (t104)))))) + 1)) + (IntKind.u64.wrap (t107)))) then ((impl_SequenceOfOnes.f (Go.bits .or .u64 t105 (shl .u64 1 (IntKind.u64.wrap ((IntKind.u64.wrap ((IntKind.u64.wrap ((IntKind.u64.wrap (t103)) + (IntKind.u64.wrap (1 + (IntKind.u64.wrap (t104)))))) + 1)) + (IntKind.u64.wrap (t107))))))).bind fun t108 => (some (!t108))) else (none))) else (some false))))) = some r := H
  have A4 := Aside0.mk A40
  clear A40
  replace H := Option.bind_eq_some_iff.mp H
  obtain ⟨t104, A50, H⟩ := H
  replace H : ((spec_Run.f (IntKind.u64.wrap (t103)) (IntKind.u64.wrap (1 + (IntKind.u64.wrap (t104))))).bind fun t105 => ((impl_SequenceOfOnes.f t105).bind fun t106 => (if t106 = true then ((laws_rwAt.f a2 8).bind fun t107 => (if 0 ≤ (IntKind.u64.wrap ((IntKind.u64.wrap ((IntKind.u64.wrap ((IntKind.u64.wrap (t103)) + (IntKind.u64.wrap (1 + (IntKind.u64.wrap (t104)))))) + 1)) + (IntKind.u64.wrap (t107)))) then ((impl_SequenceOfOnes.f (Go.bits .or .u64 t105 (shl .u64 1 (IntKind.u64.wrap ((IntKind.u64.wrap ((IntKind.u64.wrap ((IntKind.u64.wrap (t103)) + (IntKind.u64.wrap (1 + (IntKind.u64.wrap (t104)))))) + 1)) + (IntKind.u64.wrap (t107))))))).bind fun t108 => (some (!t108))) else (none))) else (some false)))) = some r := H
  have A5 := Aside0.mk A50
  clear A50
  replace H := Option.bind_eq_some_iff.mp H
  obtain ⟨t105, A60, H⟩ := H
  replace H : ((impl_SequenceOfOnes.f t105).bind fun t106 => (if t106 = true then ((laws_rwAt.f a2 8).bind fun t107 => (if 0 ≤ (IntKind.u64.wrap ((IntKind.u64.wrap ((IntKind.u64.wrap ((IntKind.u64.wrap (t103)) + (IntKind.u64.wrap (1 + (IntKind.u64.wrap (t104)))))) + 1)) + (IntKind.u64.wrap (t107)))) then ((impl_SequenceOfOnes.f (Go.bits .or .u64 t105 (shl .u64 1 (IntKind.u64.wrap ((IntKind.u64.wrap ((IntKind.u64.wrap ((IntKind.u64.wrap (t103)) + (IntKind.u64.wrap (1 + (IntKind.u64.wrap (t104)))))) + 1)) + (IntKind.u64.wrap (t107))))))).bind fun t108 => (some (!t108))) else (none))) else (some false))) = some r := H
  have A6 := Aside0.mk A60
  clear A60
  replace H := Option.bind_eq_some_iff.mp H
  obtain ⟨t106, A70, H⟩ := H
  replace H : (if t106 = true then ((laws_rwAt.f a2 8).bind fun t107 => (if 0 ≤ (IntKind.u64.wrap ((IntKind.u64.wrap ((IntKind.u64.wrap ((IntKind.u64.wrap (t103)) + (IntKind.u64.wrap (1 + (IntKind.u64.wrap (t104)))))) + 1)) + (IntKind.u64.wrap (t107)))) then ((impl_SequenceOfOnes.f (Go.bits .or .u64 t105 (shl .u64 1 (IntKind.u64.wrap ((IntKind.u64.wrap ((IntKind.u64.wrap ((IntKind.u64.wrap (t103)) + (IntKind.u64.wrap (1 + (IntKind.u64.wrap (t104)))))) + 1)) + (IntKind.u64.wrap (t107))))))).bind fun t108 => (some (!t108))) else (none))) else (some false)) = some r := H
  have A7 := Aside0.mk A70
  clear A70
  by_cases c8 : t106 = true
  · subst c8
    have H1 : ((laws_rwAt.f a2 8).bind fun t107 => (if 0 ≤ (IntKind.u64.wrap ((IntKind.u64.wrap ((IntKind.u64.wrap ((IntKind.u64.wrap (t103)) + (IntKind.u64.wrap (1 + (IntKind.u64.wrap (t104)))))) + 1)) + (IntKind.u64.wrap (t107)))) then ((impl_SequenceOfOnes.f (Go.bits .or .u64 t105 (shl .u64 1 (IntKind.u64.wrap ((IntKind.u64.wrap ((IntKind.u64.wrap ((IntKind.u64.wrap (t103)) + (IntKind.u64.wrap (1 + (IntKind.u64.wrap (t104)))))) + 1)) + (IntKind.u64.wrap (t107))))))).bind fun t108 => (some (!t108))) else (none))) = some r := by rw [if_pos rfl] at H; exact H
    clear H
    have H := H1
    clear H1
    replace H := Option.bind_eq_some_iff.mp H
    obtain ⟨t107, A90, H⟩ := H
    replace H : (if 0 ≤ (IntKind.u64.wrap ((IntKind.u64.wrap ((IntKind.u64.wrap ((IntKind.u64.wrap (t103)) + (IntKind.u64.wrap (1 + (IntKind.u64.wrap (t104)))))) + 1)) + (IntKind.u64.wrap (t107)))) then ((impl_SequenceOfOnes.f (Go.bits .or .u64 t105 (shl .u64 1 (IntKind.u64.wrap ((IntKind.u64.wrap ((IntKind.u64.wrap ((IntKind.u64.wrap (t103)) + (IntKind.u64.wrap (1 + (IntKind.u64.wrap (t104)))))) + 1)) + (IntKind.u64.wrap (t107))))))).bind fun t108 => (some (!t108))) else (none)) = some r := H
    have A9 := Aside0.mk A90
    clear A90
    obtain ⟨ji10, hji10⟩ : ∃ j_ : Int, (IntKind.u64.wrap ((IntKind.u64.wrap ((IntKind.u64.wrap ((IntKind.u64.wrap (t103)) + (IntKind.u64.wrap (1 + (IntKind.u64.wrap (t104)))))) + 1)) + (IntKind.u64.wrap (t107)))) = j_ := ⟨_, rfl⟩
    replace H : (if 0 ≤ (ji10) then ((impl_SequenceOfOnes.f (Go.bits .or .u64 t105 (shl .u64 1 (ji10)))).bind fun t108 => (some (!t108))) else (none)) = some r := by first | (rw [hji10] at H; exact H) | (simp only [hji10] at H ⊢; exact H)
    (try rw [hji10] at A4)
    (try rw [hji10] at A5)
    (try rw [hji10] at A6)
    (try rw [hji10] at A7)
    (try rw [hji10] at A9)
    by_cases c11 : 0 ≤ (ji10)
    · rw [if_pos c11] at H
      have c11b0 := eq_true c11
      have c11b1 : decide (0 ≤ (ji10)) = true := decide_eq_true c11
      clear c11
      obtain ⟨ji12, hji12⟩ : ∃ j_ : Int, (shl .u64 1 (ji10)) = j_ := ⟨_, rfl⟩
      replace H : ((impl_SequenceOfOnes.f (Go.bits .or .u64 t105 (ji12))).bind fun t108 => (some (!t108))) = some r := by first | (rw [hji12] at H; exact H) | (simp only [hji12] at H ⊢; exact H)
      (try rw [hji12] at A4)
      (try rw [hji12] at A5)
      (try rw [hji12] at A6)
      (try rw [hji12] at A7)
      (try rw [hji12] at A9)
      have hji12_ : (IntKind.u64.wrap (1 * 2 ^ min (ji10).toNat 64)) = ji12 := hji12
      have hji12z : (ji10) ≤ 64 → (IntKind.u64.wrap (1 * 2 ^ (ji10).toNat)) = ji12 := shl_small hji12
      have hji12u : (IntKind.u64.wrap (2 ^ min (ji10).toNat 64)) = ji12 := by have h_ := hji12_; rw [Int.one_mul] at h_; exact h_
      have hji12v : (ji10) ≤ 64 → (IntKind.u64.wrap (2 ^ (ji10).toNat)) = ji12 := fun hle_ => by have h_ := hji12z hle_; rw [Int.one_mul] at h_; exact h_
      replace H := Option.bind_eq_some_iff.mp H
      obtain ⟨t108, A130, H⟩ := H
      replace H : (some (!t108)) = some r := H
      have A13 := Aside0.mk A130
      clear A130
      obtain rfl := Option.some.inj H
      go_enter Try.func4, Try.ntmps4
      go_wp2_with (first | ((with_reducible refine gate_callee (f := 12) rfl ?_); refine goesL_ (some 11) rfl rfl Try.func12 (by kernel_rfl) rfl #[.int .i64 a0, .int .i64 40] rfl (by (try simp only [List.map_toArray, List.map_cons, List.map_nil]); first | done | rfl | (simp only [List.length_drop, List.length_take]; rfl)) ?_; (with_reducible refine (laws_rwAt.calls a0 40 t103 _ A4.out).mono ?_); rintro e w' ⟨rfl, ⟨nd, rfl⟩⟩; refine ⟨_, rfl, ?_⟩) | ((with_reducible refine gate_callee (f := 12) rfl ?_); refine goesL_ (some 14) rfl rfl Try.func12 (by kernel_rfl) rfl #[.int .i64 a1, .int .i64 12] rfl (by (try simp only [List.map_toArray, List.map_cons, List.map_nil]); first | done | rfl | (simp only [List.length_drop, List.length_take]; rfl)) ?_; (with_reducible refine (laws_rwAt.calls a1 12 t104 _ A5.out).mono ?_); rintro e w' ⟨rfl, ⟨nd, rfl⟩⟩; refine ⟨_, rfl, ?_⟩) | ((with_reducible refine gate_callee (f := 13) rfl ?_); refine goesL_ (some 19) rfl rfl Try.func13 (by kernel_rfl) rfl #[.int .u64 (IntKind.u64.wrap (t103)), .int .u64 (IntKind.u64.wrap (1 + (IntKind.u64.wrap (t104))))] rfl (by (try simp only [List.map_toArray, List.map_cons, List.map_nil]); first | done | rfl | (simp only [List.length_drop, List.length_take]; rfl)) ?_; (with_reducible refine (spec_Run.calls (IntKind.u64.wrap (t103)) (IntKind.u64.wrap (1 + (IntKind.u64.wrap (t104)))) t105 _ A6.out).mono ?_); rintro e w' ⟨rfl, ⟨nd, rfl⟩⟩; refine ⟨_, rfl, ?_⟩) | ((with_reducible refine gate_callee (f := 14) rfl ?_); refine goesL_ (some 21) rfl rfl Try.func14 (by kernel_rfl) rfl #[.int .u64 t105] rfl (by (try simp only [List.map_toArray, List.map_cons, List.map_nil]); first | done | rfl | (simp only [List.length_drop, List.length_take]; rfl)) ?_; (with_reducible refine (impl_SequenceOfOnes.calls t105 true _ A7.out).mono ?_); rintro e w' ⟨rfl, ⟨nd, rfl⟩⟩; refine ⟨_, rfl, ?_⟩) | (go_at_call 12; (with_reducible refine (laws_rwAt.calls a2 8 t107 _ A9.out).mono ?_); rintro e w' ⟨rfl, ⟨nd, rfl⟩⟩) | (go_at_call 14; (with_reducible refine (impl_SequenceOfOnes.calls (Go.bits .or .u64 t105 (ji12)) t108 _ A13.out).mono ?_); rintro e w' ⟨rfl, ⟨nd, rfl⟩⟩))
      go_ret
      exact ⟨by first | rfl | (simp; done) | (simp only [← hji10, ← hji12] <;> (first | rfl | simp)) | (simp [*]; done), by repeat (first | exact Drawn0.refl _ | apply Drawn0.step)⟩
    · rw [if_neg c11] at H
      exact absurd H (by simp)
  · replace c8 := Bool.eq_false_iff.mpr c8
    subst c8
    have H1 : (some false) = some r := by rw [if_neg (show ¬ (false = true) by decide)] at H; exact H
    clear H
    have H := H1
    clear H1
    obtain rfl := Option.some.inj H
    go_enter Try.func4, Try.ntmps4
    go_wp2_with (first | ((with_reducible refine gate_callee (f := 12) rfl ?_); refine goesL_ (some 11) rfl rfl Try.func12 (by kernel_rfl) rfl #[.int .i64 a0, .int .i64 40] rfl (by (try simp only [List.map_toArray, List.map_cons, List.map_nil]); first | done | rfl | (simp only [List.length_drop, List.length_take]; rfl)) ?_; (with_reducible refine (laws_rwAt.calls a0 40 t103 _ A4.out).mono ?_); rintro e w' ⟨rfl, ⟨nd, rfl⟩⟩; refine ⟨_, rfl, ?_⟩) | ((with_reducible refine gate_callee (f := 12) rfl ?_); refine goesL_ (some 14) rfl rfl Try.func12 (by kernel_rfl) rfl #[.int .i64 a1, .int .i64 12] rfl (by (try simp only [List.map_toArray, List.map_cons, List.map_nil]); first | done | rfl | (simp only [List.length_drop, List.length_take]; rfl)) ?_; (with_reducible refine (laws_rwAt.calls a1 12 t104 _ A5.out).mono ?_); rintro e w' ⟨rfl, ⟨nd, rfl⟩⟩; refine ⟨_, rfl, ?_⟩) | ((with_reducible refine gate_callee (f := 13) rfl ?_); refine goesL_ (some 19) rfl rfl Try.func13 (by kernel_rfl) rfl #[.int .u64 (IntKind.u64.wrap (t103)), .int .u64 (IntKind.u64.wrap (1 + (IntKind.u64.wrap (t104))))] rfl (by (try simp only [List.map_toArray, List.map_cons, List.map_nil]); first | done | rfl | (simp only [List.length_drop, List.length_take]; rfl)) ?_; (with_reducible refine (spec_Run.calls (IntKind.u64.wrap (t103)) (IntKind.u64.wrap (1 + (IntKind.u64.wrap (t104)))) t105 _ A6.out).mono ?_); rintro e w' ⟨rfl, ⟨nd, rfl⟩⟩; refine ⟨_, rfl, ?_⟩) | ((with_reducible refine gate_callee (f := 14) rfl ?_); refine goesL_ (some 21) rfl rfl Try.func14 (by kernel_rfl) rfl #[.int .u64 t105] rfl (by (try simp only [List.map_toArray, List.map_cons, List.map_nil]); first | done | rfl | (simp only [List.length_drop, List.length_take]; rfl)) ?_; (with_reducible refine (impl_SequenceOfOnes.calls t105 false _ A7.out).mono ?_); rintro e w' ⟨rfl, ⟨nd, rfl⟩⟩; refine ⟨_, rfl, ?_⟩))
    go_ret
    exact ⟨by first | rfl | (simp; done) | (simp [*]; done), by repeat (first | exact Drawn0.refl _ | apply Drawn0.step)⟩

/-- THE ONE PURE STATEMENT of laws_FnSequenceMade: yours. -/
def laws_FnSequenceMade.Pure : Prop := ∀ (a0 : Int) (a1 : Int) (a2 : Int), (Lit.int .i64 a0).wf = true → (Lit.int .i64 a1).wf = true → (Lit.int .i64 a2).wf = true → laws_FnSequenceMade.f a0 a1 a2 = some true
theorem laws_FnSequenceMade.walk (P : laws_FnSequenceMade.Pure) (a0 : Int) (a1 : Int) (a2 : Int) (w : World) (w0 : (Lit.int .i64 a0).wf = true) (w1 : (Lit.int .i64 a1).wf = true) (w2 : (Lit.int .i64 a2).wf = true) :
    Calls Try.prog 4 #[.int .i64 a0, .int .i64 a1, .int .i64 a2] w fun e w' => e = .returned (.bool true) ∧ Below w.heap.size w w' := by
  have h := P a0 a1 a2 w0 w1 w2
  refine (laws_FnSequenceMade.calls a0 a1 a2 true w h).mono ?_
  rintro e w' ⟨rfl, hd⟩
  exact ⟨rfl, hd.below⟩

end Go.Proofs.Ytdofpblgcmjgfaa.PFnSequenceMade
