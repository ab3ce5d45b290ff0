-- Written by a program of this session out of the translation (wip/pp.py): Lean checks it.
import Derived.Test.YtlgdibeklelfgaaHBd
import Derived.Test.YtlgdibeklelfgaaPAllx0
import Derived.Test.YtlgdibeklelfgaaPAllxC
import Derived.Test.YtlgdibeklelfgaaPAllxA
namespace Go.Proofs.Ytlgdibeklelfgaa.PAll
open Go.RowKit Go.Proofs.YtlgdibeklelfgaaW.PrintWords Go.Proofs.YtlgdibeklelfgaaW.PrintLast Go.Proofs.YtlgdibeklelfgaaW.PrintMore
attribute [local go_sem] max2_int min2_int max_two min_two max_three min_three max_four min_four   -- for this text's walks alone
set_option linter.unusedVariables false
set_option linter.unusedSimpArgs false

attribute [local go_sem high] eqA23
attribute [local go_sem] signed_i64 signed_i32 signed_u32 max_u32 signed_u64 max_u64
/-! ### laws_FnBuildKill: function 13 -/
def laws_FnBuildKill.j0 : Nat → Int → Int → Bool → Option (Bool)
  | 0, _, _, _ => none
  | k + 1, x0, x1, x17 => if x17 = true then ((laws_ivWorks.f).bind fun t336 => (some t336)) else ((impl_Build.f (([(⟨x0, false⟩ : S47), (⟨x1, true⟩ : S47)] : List (S47)))).bind fun bt340 => (if bt340.2 = true then (if (bt340.1.length : Int) = 1 then (if 0 < (bt340.1.length : Int) then (some (((rd_T23 bt340.1 0).f0) == (wrap64 (x1 + 1)) && (((rd_T23 bt340.1 0).f1) == (wrap64 (x0 + 1))))) else (none)) else (some false)) else (some false)))
def laws_FnBuildKill.f (k : Nat) (a0 : Int) (a1 : Int) : Option (Bool) := if a1 < 0 then (laws_FnBuildKill.j0 k a0 a1 true) else (if a1 ≥ a0 then (laws_FnBuildKill.j0 k a0 a1 true) else (laws_FnBuildKill.j0 k a0 a1 (decide (a0 > 1099511627776))))
theorem laws_FnBuildKill.mono_l : ∀ k, (∀ y0 y1 y2, LeO (laws_FnBuildKill.j0 k y0 y1 y2) (laws_FnBuildKill.j0 (k + 1) y0 y1 y2))
  | 0 => fun _ _ _ r h => by simp [laws_FnBuildKill.j0] at h
  | k + 1 => by
    have ih0 := laws_FnBuildKill.mono_l k
    · intro y0 y1 y2
      unfold laws_FnBuildKill.j0
      repeat' first
      | (with_reducible exact ih0 _ _ _)
      | (with_reducible exact LeO.refl _)
      | (with_reducible exact LeO.none _)
      | (with_reducible refine LeO.ite ?_ ?_)
      | (with_reducible refine LeO.bind ?_ (fun _ => ?_))
      | exact ih0 _ _ _
      | exact LeO.none _
      | refine LeO.ite ?_ ?_
      | refine LeO.bind ?_ (fun _ => ?_)
theorem laws_FnBuildKill.mono : ∀ a0 a1 k, LeO (laws_FnBuildKill.f k a0 a1) (laws_FnBuildKill.f (k + 1) a0 a1) := by
  intro a0 a1 k
  have ih0 := laws_FnBuildKill.mono_l k
  unfold laws_FnBuildKill.f
  repeat' first
      | (with_reducible exact ih0 _ _ _)
      | (with_reducible exact LeO.refl _)
      | (with_reducible exact LeO.none _)
      | (with_reducible refine LeO.ite ?_ ?_)
      | (with_reducible refine LeO.bind ?_ (fun _ => ?_))
      | exact ih0 _ _ _
      | exact LeO.none _
      | refine LeO.ite ?_ ?_
      | refine LeO.bind ?_ (fun _ => ?_)
set_option maxHeartbeats 8000000 in
set_option maxRecDepth 100000 in
theorem laws_FnBuildKill.calls (k : Nat) (a0 : Int) (a1 : Int) (r : Bool) (w : World) (h : laws_FnBuildKill.f k a0 a1 = some r) :
    Calls Try.prog 13 #[.int .i64 a0, .int .i64 a1] w fun e w' => e = .returned (.bool r) ∧ Below w.heap.size w w' := by
  have hu47 := Try.underlying47
  have hu23 := Try.underlying23
  have HB := Aside0.mk (Below.refl w.heap.size w)
  have H : (if a1 < 0 then (laws_FnBuildKill.j0 k a0 a1 true) else (if a1 ≥ a0 then (laws_FnBuildKill.j0 k a0 a1 true) else (laws_FnBuildKill.j0 k a0 a1 (decide (a0 > 1099511627776))))) = some r := h
  clear h
  have HC3 := Aside0.mk H
  clear H
  go_enter Try.func13, Try.ntmps13
  go_upto_region 1 with (fail)
  go_cut [17] (fun v17 wc => ∃ (kq : Nat) (x17_2 : Bool), v17 = .bool x17_2 ∧ Aside0 (laws_FnBuildKill.j0 kq a0 a1 x17_2 = some r) ∧ Aside0 (kq ≤ k) ∧ Aside0 (Below w.heap.size w wc))
  case first =>
    have H := HC3.out
    clear HC3
    by_cases c4 : a1 < 0
    · rw [if_pos c4] at H
      have c4b0 : decide (a1 < 0) = true := decide_eq_true c4
      clear c4
      (first | rw [c4b0] | (simp only [i64_w, i32_w]; rw [c4b0]) | skip)
      have H' := Aside0.mk H
      clear H
      go_wp2
      go_meet
      case rel => exact ⟨_, (true), (by first | rfl | (simp; done) | (simp [*]; done)), H', ⟨by first | omega | exact Nat.le_refl _⟩, ⟨by repeat (first | (with_reducible first | exact HB.out | apply below_alloc | apply pw_below_drewN | apply below_drew1) | exact HB.out)⟩⟩
    · rw [if_neg c4] at H
      have c4b0 : decide (a1 < 0) = false := decide_eq_false c4
      clear c4
      (first | rw [c4b0] | (simp only [i64_w, i32_w]; rw [c4b0]) | skip)
      by_cases c5 : a1 ≥ a0
      · rw [if_pos c5] at H
        have c5b0 : decide (a0 ≤ a1) = true := decide_eq_true c5
        clear c5
        have H' := Aside0.mk H
        clear H
        go_wp2
        go_meet
        case rel => exact ⟨_, (true), (by first | rfl | (simp; done) | (simp [*]; done)), H', ⟨by first | omega | exact Nat.le_refl _⟩, ⟨by repeat (first | (with_reducible first | exact HB.out | apply below_alloc | apply pw_below_drewN | apply below_drew1) | exact HB.out)⟩⟩
      · rw [if_neg c5] at H
        have c5b0 : decide (a0 ≤ a1) = false := decide_eq_false c5
        clear c5
        have H' := Aside0.mk H
        clear H
        go_wp2
        go_meet
        case rel => exact ⟨_, (decide (a0 > 1099511627776)), (by first | rfl | (simp; done) | (simp [*]; done)), H', ⟨by first | omega | exact Nat.le_refl _⟩, ⟨by repeat (first | (with_reducible first | exact HB.out | apply below_alloc | apply pw_below_drewN | apply below_drew1) | exact HB.out)⟩⟩
  case rest =>
    clear HC3
    try clear c1
    try clear p2
    try clear c4
    try clear c4b0
    try clear c5
    try clear c5b0
    obtain ⟨kq, x17_2, rfl, HA, HJ2, HB⟩ := hcut
    cases kq with
    | zero => exact absurd HA.out (by simp [laws_FnBuildKill.j0])
    | succ kj2 =>
      have H := HA.out
      clear HA
      simp only [laws_FnBuildKill.j0] at H
      by_cases c6 : x17_2 = true
      · subst c6
        have H1 : ((laws_ivWorks.f).bind fun t336 => (some t336)) = some r := by rw [if_pos rfl] at H; exact H
        clear H
        have H := H1
        clear H1
        replace H := Option.bind_eq_some_iff.mp H
        obtain ⟨t336, A70, H⟩ := H
        replace H : (some t336) = some r := H
        have A7 := Aside0.mk A70
        clear A70
        obtain rfl := Option.some.inj H
        go_wp2_with (first | ((with_reducible refine gate_callee (f := 16) rfl ?_); refine goesL_ (some 18) rfl rfl Try.func16 (by kernel_rfl) rfl #[] rfl (by (try simp only [List.map_toArray, List.map_cons, List.map_nil]); first | done | rfl | (simp only [List.length_drop, List.length_take]; rfl)) ?_; (with_reducible refine (laws_ivWorks.calls  t336 _ A7.out).mono ?_); rintro e w8 ⟨rfl, hb⟩; refine ⟨_, rfl, ?_⟩; have n0_ := Aside0.mk (below_step (by repeat (first | (with_reducible first | exact HB.out | apply below_alloc | apply pw_below_drewN | apply below_drew1) | exact HB.out)) hb); clear HB; have HB := n0_; clear n0_; (try clear hb); (try clear hb2); (try clear hk); (try clear hi)))
        go_ret
        exact ⟨by first | rfl | (simp [errW_none, errW_some] <;> rfl) | (simp [*, errW_none, errW_some] <;> rfl), by repeat (first | (with_reducible first | exact HB.out | apply below_alloc | apply pw_below_drewN | apply below_drew1) | exact HB.out)⟩
      · replace c6 := Bool.eq_false_iff.mpr c6
        subst c6
        have H1 : ((impl_Build.f (([(⟨a0, false⟩ : S47), (⟨a1, true⟩ : S47)] : List (S47)))).bind fun bt340 => (if bt340.2 = true then (if (bt340.1.length : Int) = 1 then (if 0 < (bt340.1.length : Int) then (some (((rd_T23 bt340.1 0).f0) == (wrap64 (a1 + 1)) && (((rd_T23 bt340.1 0).f1) == (wrap64 (a0 + 1))))) else (none)) else (some false)) else (some false))) = some r := by rw [if_neg (show ¬ (false = true) by decide)] at H; exact H
        clear H
        have H := H1
        clear H1
        obtain ⟨y337, hy337⟩ : ∃ y_ : List (S47), y_ = (([(⟨a0, false⟩ : S47), (⟨a1, true⟩ : S47)] : List (S47))) := ⟨_, rfl⟩
        replace H : ((impl_Build.f y337).bind fun bt340 => (if bt340.2 = true then (if (bt340.1.length : Int) = 1 then (if 0 < (bt340.1.length : Int) then (some (((rd_T23 bt340.1 0).f0) == (wrap64 (a1 + 1)) && (((rd_T23 bt340.1 0).f1) == (wrap64 (a0 + 1))))) else (none)) else (some false)) else (some false))) = some r := by first | (rw [hy337]; with_reducible exact H) | (have H2_ := (Option.bind_some _ _).symm.trans H; rw [hy337]; with_reducible exact H2_) | (have H2_ := (Option.bind_some _ _).symm.trans H; with_reducible exact H2_) | with_reducible exact H | (rw [hy337]; exact H) | exact H
        have Ny337 := Aside0.mk hy337
        clear hy337
        replace H := Option.bind_eq_some_iff.mp H
        obtain ⟨⟨t340, t341⟩, A90, H⟩ := H
        replace H : (if t341 = true then (if (t340.length : Int) = 1 then (if 0 < (t340.length : Int) then (some (((rd_T23 t340 0).f0) == (wrap64 (a1 + 1)) && (((rd_T23 t340 0).f1) == (wrap64 (a0 + 1))))) else (none)) else (some false)) else (some false)) = some r := H
        have A9 := Aside0.mk A90
        clear A90
        by_cases c10 : t341 = true
        · subst c10
          have H1 : (if (t340.length : Int) = 1 then (if 0 < (t340.length : Int) then (some (((rd_T23 t340 0).f0) == (wrap64 (a1 + 1)) && (((rd_T23 t340 0).f1) == (wrap64 (a0 + 1))))) else (none)) else (some false)) = some r := by rw [if_pos rfl] at H; exact H
          clear H
          have H := H1
          clear H1
          by_cases c11 : (t340.length : Int) = 1
          · rw [if_pos c11] at H
            have c11b0 : ((t340.length : Int) == 1) = true := beq_iff_eq.mpr c11
            have c11b1 : ((t340.length : Int) != 1) = false := bne_eq_false_iff_eq.mpr c11
            clear c11
            by_cases c12 : 0 < (t340.length : Int)
            · rw [if_pos c12] at H
              have c12b0 : decide (0 < (t340.length : Int)) = true := decide_eq_true c12
              have c12b1 : decide (0 < t340.length) = true := decide_eq_true (by omega)
              clear c12
              obtain rfl := Option.some.inj H
              go_wp2_with (first | ((with_reducible refine gate_dst (N := 24) rfl ?_); (try (refine gate_guard (by rfl) ?_; dsimp only)); refine Kd.R_lit k47 _ 47 ?hg (N := 24) ?hd (xs := ([(⟨a0, false⟩ : S47), (⟨a1, true⟩ : S47)] : List (S47))) (inner := [.int .i64 a0, .bool false, .int .i64 a1, .bool true]) (ok := fun _ => True) (okp := fun _ => True) ?hr ?hp (fun _ hk => hk) trivial (Below.refl _ _) (Nat.le_refl _) (by simp) ?_; (case hd => rfl); (case hg => rfl); (case hr => first | (go_simp; done) | (go_simp; rfl)); (case hp => exact (Reps.c2 (show Kd.M k47 _ _ _ (⟨a0, false⟩ : S47) [.int .i64 a0, .bool false] from (k47_mkM _ _ _ (⟨a0, false⟩ : S47) )) (Reps.c2 (show Kd.M k47 _ _ _ (⟨a1, true⟩ : S47) [.int .i64 a1, .bool true] from (k47_mkM _ _ _ (⟨a1, true⟩ : S47) )) (Reps.none _ _)))); intro v338 w13 ho14 hb hg_ hnew_; clear hg_ hnew_; (first | rw [← Ny337.out] at ho14 | (simp only [Int.reduceToNat] at ho14; rw [← Ny337.out] at ho14)); have n0_ := Aside0.mk (Kd.R_lower ho14 (below_size (by repeat (first | (with_reducible first | exact HB.out | apply below_alloc | apply pw_below_drewN | apply below_drew1) | exact HB.out)))); have n1_ := Aside0.mk (below_step (by repeat (first | (with_reducible first | exact HB.out | apply below_alloc | apply pw_below_drewN | apply below_drew1) | exact HB.out)) hb); clear HB; have HO339 := n0_; have HB := n1_; clear n0_ n1_; clear hb ho14; obtain ⟨Ao15, co15, eo15⟩ := Kd.R_slice HO339.out; subst eo15) | ((with_reducible refine gate_callee (f := 28) rfl ?_); refine goesL_ (some 25) rfl rfl Try.func28 (by kernel_rfl) rfl #[.slice Ao15 y337.length co15] rfl (by (try simp only [List.map_toArray, List.map_cons, List.map_nil]); first | done | rfl | (simp only [List.length_drop, List.length_take]; rfl)) ?_; (with_reducible refine (impl_Build.calls _ _ y337 t340 true _ ?side1 ?side2 A9.out).mono ?_); (case side1 => repeat (first | exact (Kd.R_reads' HO339.out).2.2 | (with_reducible refine Kd.C_alloc ?_ _) | (with_reducible refine Kd.C_drewN ?_ _) | (with_reducible refine Kd.C_drew ?_))); (case side2 => exact (Kd.R_reads' HO339.out).2.1); rintro e w16 ⟨v342, rfl, ho0, hb⟩; refine ⟨_, rfl, ?_⟩; have n0_ := Aside0.mk (Kd.R_below (by (with_reducible repeat (first | apply Kd.R_alloc | apply Kd.R_drewN | apply Kd.R_drew)); exact HO339.out) hb); have n1_ := Aside0.mk (Kd.R_lower ho0 (below_size (by repeat (first | (with_reducible first | exact HB.out | apply below_alloc | apply pw_below_drewN | apply below_drew1) | exact HB.out)))); have n2_ := Aside0.mk (below_step (by repeat (first | (with_reducible first | exact HB.out | apply below_alloc | apply pw_below_drewN | apply below_drew1) | exact HB.out)) hb); clear HO339; clear HB; have HO339 := n0_; have HO343 := n1_; have HB := n2_; clear n0_ n1_ n2_; (try clear hb); (try clear hb2); (try clear hk); (try clear hi); (try clear ho0); obtain ⟨Ao17, co17, eo17⟩ := Kd.R_slice HO343.out; subst eo17; have p344 : 0 ≤ (0 : Int) := (by omega); have q344 : 0 < (t340.length : Int) := of_decide_eq_true (by first | (with_reducible assumption) | assumption); obtain ⟨ad344, e344, hx344_0, hx344_1⟩ := at_T23 (Kd.R_reads' HO343.out).2.2 0 p344 q344; cases e344; have qi344 : (0 < t340.length) = True := eq_true (by omega); (try rw [show ((0 : Int)).toNat = 0 from rfl] at hx344_0); (try rw [show 0 * 2 = 0 from rfl] at hx344_0); (try rw [Addr.add_zero'] at hx344_0); (try rw [show ((0 : Int)).toNat = 0 from rfl] at hx344_1); (try rw [show 0 * 2 = 0 from rfl] at hx344_1); (try rw [Addr.add_zero'] at hx344_1); replace p344 := eq_true p344; replace q344 := eq_true q344))
              go_ret
              exact ⟨by first | rfl | (simp [errW_none, errW_some] <;> rfl) | (simp [*, errW_none, errW_some] <;> rfl), by repeat (first | (with_reducible first | exact HB.out | apply below_alloc | apply pw_below_drewN | apply below_drew1) | exact HB.out)⟩
            · rw [if_neg c12] at H
              exact absurd H (by simp)
          · rw [if_neg c11] at H
            have c11b0 : ((t340.length : Int) == 1) = false := beq_eq_false_iff_ne.mpr c11
            have c11b1 : ((t340.length : Int) != 1) = true := bne_iff_ne.mpr c11
            obtain rfl := Option.some.inj H
            go_wp2_with (first | ((with_reducible refine gate_dst (N := 24) rfl ?_); (try (refine gate_guard (by rfl) ?_; dsimp only)); refine Kd.R_lit k47 _ 47 ?hg (N := 24) ?hd (xs := ([(⟨a0, false⟩ : S47), (⟨a1, true⟩ : S47)] : List (S47))) (inner := [.int .i64 a0, .bool false, .int .i64 a1, .bool true]) (ok := fun _ => True) (okp := fun _ => True) ?hr ?hp (fun _ hk => hk) trivial (Below.refl _ _) (Nat.le_refl _) (by simp) ?_; (case hd => rfl); (case hg => rfl); (case hr => first | (go_simp; done) | (go_simp; rfl)); (case hp => exact (Reps.c2 (show Kd.M k47 _ _ _ (⟨a0, false⟩ : S47) [.int .i64 a0, .bool false] from (k47_mkM _ _ _ (⟨a0, false⟩ : S47) )) (Reps.c2 (show Kd.M k47 _ _ _ (⟨a1, true⟩ : S47) [.int .i64 a1, .bool true] from (k47_mkM _ _ _ (⟨a1, true⟩ : S47) )) (Reps.none _ _)))); intro v338 w18 ho19 hb hg_ hnew_; clear hg_ hnew_; (first | rw [← Ny337.out] at ho19 | (simp only [Int.reduceToNat] at ho19; rw [← Ny337.out] at ho19)); have n0_ := Aside0.mk (Kd.R_lower ho19 (below_size (by repeat (first | (with_reducible first | exact HB.out | apply below_alloc | apply pw_below_drewN | apply below_drew1) | exact HB.out)))); have n1_ := Aside0.mk (below_step (by repeat (first | (with_reducible first | exact HB.out | apply below_alloc | apply pw_below_drewN | apply below_drew1) | exact HB.out)) hb); clear HB; have HO339 := n0_; have HB := n1_; clear n0_ n1_; clear hb ho19; obtain ⟨Ao20, co20, eo20⟩ := Kd.R_slice HO339.out; subst eo20) | ((with_reducible refine gate_callee (f := 28) rfl ?_); refine goesL_ (some 25) rfl rfl Try.func28 (by kernel_rfl) rfl #[.slice Ao20 y337.length co20] rfl (by (try simp only [List.map_toArray, List.map_cons, List.map_nil]); first | done | rfl | (simp only [List.length_drop, List.length_take]; rfl)) ?_; (with_reducible refine (impl_Build.calls _ _ y337 t340 true _ ?side1 ?side2 A9.out).mono ?_); (case side1 => repeat (first | exact (Kd.R_reads' HO339.out).2.2 | (with_reducible refine Kd.C_alloc ?_ _) | (with_reducible refine Kd.C_drewN ?_ _) | (with_reducible refine Kd.C_drew ?_))); (case side2 => exact (Kd.R_reads' HO339.out).2.1); rintro e w21 ⟨v342, rfl, ho0, hb⟩; refine ⟨_, rfl, ?_⟩; have n0_ := Aside0.mk (Kd.R_below (by (with_reducible repeat (first | apply Kd.R_alloc | apply Kd.R_drewN | apply Kd.R_drew)); exact HO339.out) hb); have n1_ := Aside0.mk (Kd.R_lower ho0 (below_size (by repeat (first | (with_reducible first | exact HB.out | apply below_alloc | apply pw_below_drewN | apply below_drew1) | exact HB.out)))); have n2_ := Aside0.mk (below_step (by repeat (first | (with_reducible first | exact HB.out | apply below_alloc | apply pw_below_drewN | apply below_drew1) | exact HB.out)) hb); clear HO339; clear HB; have HO339 := n0_; have HO343 := n1_; have HB := n2_; clear n0_ n1_ n2_; (try clear hb); (try clear hb2); (try clear hk); (try clear hi); (try clear ho0); obtain ⟨Ao22, co22, eo22⟩ := Kd.R_slice HO343.out; subst eo22))
            go_ret
            exact ⟨by first | rfl | (simp [errW_none, errW_some] <;> rfl) | (simp [*, errW_none, errW_some] <;> rfl), by repeat (first | (with_reducible first | exact HB.out | apply below_alloc | apply pw_below_drewN | apply below_drew1) | exact HB.out)⟩
        · replace c10 := Bool.eq_false_iff.mpr c10
          subst c10
          have H1 : (some false) = some r := by rw [if_neg (show ¬ (false = true) by decide)] at H; exact H
          clear H
          have H := H1
          clear H1
          obtain rfl := Option.some.inj H
          go_wp2_with (first | ((with_reducible refine gate_dst (N := 24) rfl ?_); (try (refine gate_guard (by rfl) ?_; dsimp only)); refine Kd.R_lit k47 _ 47 ?hg (N := 24) ?hd (xs := ([(⟨a0, false⟩ : S47), (⟨a1, true⟩ : S47)] : List (S47))) (inner := [.int .i64 a0, .bool false, .int .i64 a1, .bool true]) (ok := fun _ => True) (okp := fun _ => True) ?hr ?hp (fun _ hk => hk) trivial (Below.refl _ _) (Nat.le_refl _) (by simp) ?_; (case hd => rfl); (case hg => rfl); (case hr => first | (go_simp; done) | (go_simp; rfl)); (case hp => exact (Reps.c2 (show Kd.M k47 _ _ _ (⟨a0, false⟩ : S47) [.int .i64 a0, .bool false] from (k47_mkM _ _ _ (⟨a0, false⟩ : S47) )) (Reps.c2 (show Kd.M k47 _ _ _ (⟨a1, true⟩ : S47) [.int .i64 a1, .bool true] from (k47_mkM _ _ _ (⟨a1, true⟩ : S47) )) (Reps.none _ _)))); intro v338 w23 ho24 hb hg_ hnew_; clear hg_ hnew_; (first | rw [← Ny337.out] at ho24 | (simp only [Int.reduceToNat] at ho24; rw [← Ny337.out] at ho24)); have n0_ := Aside0.mk (Kd.R_lower ho24 (below_size (by repeat (first | (with_reducible first | exact HB.out | apply below_alloc | apply pw_below_drewN | apply below_drew1) | exact HB.out)))); have n1_ := Aside0.mk (below_step (by repeat (first | (with_reducible first | exact HB.out | apply below_alloc | apply pw_below_drewN | apply below_drew1) | exact HB.out)) hb); clear HB; have HO339 := n0_; have HB := n1_; clear n0_ n1_; clear hb ho24; obtain ⟨Ao25, co25, eo25⟩ := Kd.R_slice HO339.out; subst eo25) | ((with_reducible refine gate_callee (f := 28) rfl ?_); refine goesL_ (some 25) rfl rfl Try.func28 (by kernel_rfl) rfl #[.slice Ao25 y337.length co25] rfl (by (try simp only [List.map_toArray, List.map_cons, List.map_nil]); first | done | rfl | (simp only [List.length_drop, List.length_take]; rfl)) ?_; (with_reducible refine (impl_Build.calls _ _ y337 t340 false _ ?side1 ?side2 A9.out).mono ?_); (case side1 => repeat (first | exact (Kd.R_reads' HO339.out).2.2 | (with_reducible refine Kd.C_alloc ?_ _) | (with_reducible refine Kd.C_drewN ?_ _) | (with_reducible refine Kd.C_drew ?_))); (case side2 => exact (Kd.R_reads' HO339.out).2.1); rintro e w26 ⟨v342, rfl, ho0, hb⟩; refine ⟨_, rfl, ?_⟩; have n0_ := Aside0.mk (Kd.R_below (by (with_reducible repeat (first | apply Kd.R_alloc | apply Kd.R_drewN | apply Kd.R_drew)); exact HO339.out) hb); have n1_ := Aside0.mk (Kd.R_lower ho0 (below_size (by repeat (first | (with_reducible first | exact HB.out | apply below_alloc | apply pw_below_drewN | apply below_drew1) | exact HB.out)))); have n2_ := Aside0.mk (below_step (by repeat (first | (with_reducible first | exact HB.out | apply below_alloc | apply pw_below_drewN | apply below_drew1) | exact HB.out)) hb); clear HO339; clear HB; have HO339 := n0_; have HO343 := n1_; have HB := n2_; clear n0_ n1_ n2_; (try clear hb); (try clear hb2); (try clear hk); (try clear hi); (try clear ho0)))
          go_ret
          exact ⟨by first | rfl | (simp [errW_none, errW_some] <;> rfl) | (simp [*, errW_none, errW_some] <;> rfl), by repeat (first | (with_reducible first | exact HB.out | apply below_alloc | apply pw_below_drewN | apply below_drew1) | exact HB.out)⟩

/-- THE ONE PURE STATEMENT of laws_FnBuildKill: yours. -/
def laws_FnBuildKill.Pure : Prop := ∀ (a0 : Int) (a1 : Int), (Lit.int .i64 a0).wf = true → (Lit.int .i64 a1).wf = true → ∃ k, laws_FnBuildKill.f k a0 a1 = some true
theorem laws_FnBuildKill.walk (P : laws_FnBuildKill.Pure) (a0 : Int) (a1 : Int) (w : World) (w0 : (Lit.int .i64 a0).wf = true) (w1 : (Lit.int .i64 a1).wf = true) :
    Calls Try.prog 13 #[.int .i64 a0, .int .i64 a1] w fun e w' => e = .returned (.bool true) ∧ Below w.heap.size w w' := by
  obtain ⟨k, h⟩ := P a0 a1 w0 w1
  refine (laws_FnBuildKill.calls k a0 a1 true w h).mono ?_
  rintro e w' ⟨rfl, hd⟩
  exact ⟨rfl, hd⟩

end Go.Proofs.Ytlgdibeklelfgaa.PAll
