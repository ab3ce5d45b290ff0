/- MergeInto by hand, to the interval in an intWithIdx. -/
import Derived.Test.YtlgdibeklelfgaaHPv2
namespace Go.Proofs.Ytlgdibeklelfgaa.PAll
open Go.RowKit Go.Proofs.YtlgdibeklelfgaaW.PrintWords Go.Proofs.YtlgdibeklelfgaaW.PrintLast Go.Proofs.YtlgdibeklelfgaaW.PrintMore
attribute [local go_sem] max2_int min2_int max_two min_two max_three min_three max_four min_four
set_option linter.unusedVariables false
set_option linter.unusedSimpArgs false
set_option maxHeartbeats 4000000 in
set_option maxRecDepth 100000 in
theorem mi80_lap (s2 s0 s1 t0 t1 m M : Int) (b : Nat) (w : World) (hb : w.heap[b]? = some (.cells #[.int .i64 s0, .int .i64 s1, .int .i64 s2] 80 (0, 0))) (A1 : intervals_Interval_Overlaps.f s0 s1 t0 t1 = some true) (A3 : intervals_imin.f s0 t0 = some m) (A4 : intervals_imax.f s1 t1 = some M) :
    Calls Try.prog 33 #[.pointer (some ⟨b, 0, none⟩), .agg #[.int .i64 t0, .int .i64 t1]] w fun e w' => e = .returned .nilIface ∧ w'.heap[b]? = some (.cells #[.int .i64 m, .int .i64 M, .int .i64 s2] 80 (0, 0)) ∧ Only b w w' := by
  have hu53 := Try.underlying53
  have HB := Aside0.mk (Below.refl w.heap.size w)
  have HO := Aside0.mk (Only.refl b w)
  have BKb := Aside0.mk hb
  have hc0 : w.cell? ⟨b, 0, none⟩ = some (.int .i64 s0) := (blk_cell hb 0).trans rfl
  have hc1 : w.cell? ⟨b, 1, none⟩ = some (.int .i64 s1) := (blk_cell hb 1).trans rfl
  have HA1 := Aside0.mk A1
  have HA3 := Aside0.mk A3
  have HA4 := Aside0.mk A4
  clear A1 A3 A4
  go_enter Try.func33, Try.ntmps33
  go_wp2_with (first | ((with_reducible refine gate_dst (N := 3) rfl ?_); refine box_event ?hg (N := 3) ?hd (cs := #[.int .i64 t0, .int .i64 t1]) (t := 53) ?hr ?_; (case hd => rfl); (case hg => rfl); (case hr => first | (go_simp; done) | (go_simp; rfl)); intro gbp hg w3 hbox hb; have mb_ := Aside0.mk (blk_below (g := b) (o := .cells #[.int .i64 s0, .int .i64 s1, .int .i64 s2] 80 (0, 0)) (by apply heap_is; (focus (repeat (first | with_reducible exact BKb.out | with_reducible apply blk_drewN | with_reducible apply blk_drew | with_reducible apply blk_alloc | with_reducible apply blk_set | (with_reducible apply blk_aside; assumption)))); first | rfl | (simp; done)) hb); have o0_ := Aside0.mk (Only.step (by repeat (first | (with_reducible first | exact HO.out | apply Only.drewN | apply Only.drew | apply Only.alloc | apply Only.set) | exact HO.out)) hb); have o1_ := Aside0.mk ((by rw [hg]; exact (Only.size (b := b) (by repeat (first | (with_reducible first | exact HO.out | apply Only.drewN | apply Only.drew | apply Only.alloc | apply Only.set) | exact HO.out)))) : w.heap.size ≤ gbp); have qb_ := Aside0.mk ((by rw [hg]; exact Nat.ne_of_lt (blk_lt (g := b) (o := .cells #[.int .i64 s0, .int .i64 s1, .int .i64 s2] 80 (0, 0)) (by apply heap_is; (focus (repeat (first | with_reducible exact BKb.out | with_reducible apply blk_drewN | with_reducible apply blk_drew | with_reducible apply blk_alloc | with_reducible apply blk_set | (with_reducible apply blk_aside; assumption)))); first | rfl | (simp; done)))) : b ≠ gbp); have rb_ := Aside0.mk ((by rw [hg]; exact Nat.ne_of_gt (blk_lt (g := b) (o := .cells #[.int .i64 s0, .int .i64 s1, .int .i64 s2] 80 (0, 0)) (by apply heap_is; (focus (repeat (first | with_reducible exact BKb.out | with_reducible apply blk_drewN | with_reducible apply blk_drew | with_reducible apply blk_alloc | with_reducible apply blk_set | (with_reducible apply blk_aside; assumption)))); first | rfl | (simp; done)))) : gbp ≠ b); have n0_ := Aside0.mk (below_step (by repeat (first | (with_reducible first | exact HB.out | apply below_alloc | apply pw_below_drewN | apply below_drew1) | exact HB.out)) hb); have n1_ := Aside0.mk (hbox); have n2_ := Aside0.mk ((by rw [hg]; exact (below_size (by repeat (first | (with_reducible first | exact HB.out | apply below_alloc | apply pw_below_drewN | apply below_drew1) | exact HB.out))) : w.heap.size ≤ gbp)); clear BKb; clear HB; have BKb := mb_; have NBb_gbp := qb_.out; have NBgbp_b := rb_.out; clear mb_ qb_ rb_; have HB := n0_; have BKgbp := n1_; have GEgbp := n2_; clear n0_ n1_ n2_; clear hb hbox hg; clear HO; have HO := o0_; have GWgbp := o1_; clear o0_ o1_; have hczw3b_0 : w3.cell? ⟨b, 0, none⟩ = some (.int .i64 s0) := (blk_cell BKb.out 0).trans rfl; have hfzw3b_0 := blk_frozen BKb.out 0; have hczw3b_1 : w3.cell? ⟨b, 1, none⟩ = some (.int .i64 s1) := (blk_cell BKb.out 1).trans rfl; have hfzw3b_1 := blk_frozen BKb.out 1; have hczw3b_2 : w3.cell? ⟨b, 2, none⟩ = some (.int .i64 s2) := (blk_cell BKb.out 2).trans rfl; have hfzw3b_2 := blk_frozen BKb.out 2; have hczw3gbp_0 : w3.cell? ⟨gbp, 0, none⟩ = some (.int .i64 t0) := (blk_cell BKgbp.out 0).trans rfl; have hfzw3gbp_0 := blk_frozen BKgbp.out 0; have hczw3gbp_1 : w3.cell? ⟨gbp, 1, none⟩ = some (.int .i64 t1) := (blk_cell BKgbp.out 1).trans rfl; have hfzw3gbp_1 := blk_frozen BKgbp.out 1))
  clear hb hc0 hc1
  refine start_ (n := 14) (S := fun w' => w'.cell? ⟨b, 0, none⟩ = some (.int .i64 s0) ∧ w'.cell? ⟨b, 1, none⟩ = some (.int .i64 s1) ∧ w'.cell? ⟨b, 2, none⟩ = some (.int .i64 s2) ∧ w'.cell? ⟨gbp, 0, none⟩ = some (.int .i64 t0) ∧ w'.cell? ⟨gbp, 1, none⟩ = some (.int .i64 t1)) (ds := []) #[false, false, false, false, false, false, false, false, false, false, false, false, false, false] (by kernel_rfl) rfl rfl (⟨(blk_cell BKb.out 0).trans rfl, (blk_cell BKb.out 1).trans rfl, (blk_cell BKb.out 2).trans rfl, (blk_cell BKgbp.out 0).trans rfl, (blk_cell BKgbp.out 1).trans rfl⟩) (fun hHeld => ?_)
  refine pure_ (i := 0) (N := some 5) (v := ?_) (a' := ?_) #[true, false, false, false, false, false, false, false, false, false, false, false, false, false] rfl rfl (by kernel_rfl) (fun _ _ _ h => h) (Or.inl ⟨by rfl, ?_⟩) ?_ ?_
  rotate_left
  · intro w'
    go_simp
    with_reducible rfl
  rotate_left
  · simp only [Act.put, List.setIfInBounds_toArray, List.set_cons_zero, List.set_cons_succ, i64_w, i32_w]
    rfl
  refine pure_ (i := 1) (N := some 6) (v := ?_) (a' := ?_) #[true, true, false, false, false, false, false, false, false, false, false, false, false, false] rfl rfl (by kernel_rfl) (fun _ _ _ h => h) (Or.inl ⟨by rfl, ?_⟩) ?_ ?_
  rotate_left
  · intro w'
    go_simp
    with_reducible rfl
  rotate_left
  · simp only [Act.put, List.setIfInBounds_toArray, List.set_cons_zero, List.set_cons_succ, i64_w, i32_w]
    rfl
  refine take_ (i := 2) (N := some 7) (v := ?_) (a' := ?_) #[true, true, true, false, false, false, false, false, false, false, false, false, false, false] rfl rfl (by kernel_rfl) (fun _ _ _ h => h) (Or.inl ⟨by rfl, ?_⟩) hHeld ?_ ?_
  rotate_left
  · rintro w' hS_; (try dsimp only at hS_)
    go_simp
    with_reducible rfl
  rotate_left
  · simp only [Act.put, List.setIfInBounds_toArray, List.set_cons_zero, List.set_cons_succ, i64_w, i32_w]
    rfl
  refine take_ (i := 3) (N := some 8) (v := ?_) (a' := ?_) #[true, true, true, true, false, false, false, false, false, false, false, false, false, false] rfl rfl (by kernel_rfl) (fun _ _ _ h => h) (Or.inl ⟨by rfl, ?_⟩) hHeld ?_ ?_
  rotate_left
  · rintro w' hS_; (try dsimp only at hS_)
    go_simp
    with_reducible rfl
  rotate_left
  · simp only [Act.put, List.setIfInBounds_toArray, List.set_cons_zero, List.set_cons_succ, i64_w, i32_w]
    rfl
  refine one_ (i := 4) (N := some 9) #[true, true, true, true, true, false, false, false, false, false, false, false, false, false] rfl rfl (by kernel_rfl) (by decide) (fun K hK => ?_)
  refine goes_ Try.func46 (by kernel_rfl) rfl #[.agg #[.int .i64 s0, .int .i64 s1], .agg #[.int .i64 t0, .int .i64 t1]] (by rfl) rfl rfl (by (try simp only [List.map_toArray, List.map_cons, List.map_nil]); first | done | rfl) ?_
  with_reducible refine (intervals_Interval_Overlaps.calls s0 s1 t0 t1 true _ HA1.out).mono ?_
  rintro e w1 ⟨rfl, bel⟩
  refine ⟨_, rfl, ?_⟩
  have mb_ := Aside0.mk (blk_below (g := b) (o := .cells #[.int .i64 s0, .int .i64 s1, .int .i64 s2] 80 (0, 0)) (by apply heap_is; (focus (repeat (first | with_reducible exact BKb.out | with_reducible apply blk_drewN | with_reducible apply blk_drew | with_reducible apply blk_alloc | with_reducible apply blk_set | (with_reducible apply blk_aside; assumption)))); first | rfl | (simp; done)) bel); have mgbp_ := Aside0.mk (blk_below (g := gbp) (o := .cells #[.int .i64 t0, .int .i64 t1] 53 (0, 0)) (by apply heap_is; (focus (repeat (first | with_reducible exact BKgbp.out | with_reducible apply blk_drewN | with_reducible apply blk_drew | with_reducible apply blk_alloc | with_reducible apply blk_set | (with_reducible apply blk_aside; assumption)))); first | rfl | (simp; done)) bel); have n0_ := Aside0.mk (below_step (by repeat (first | (with_reducible first | exact HB.out | apply below_alloc | apply pw_below_drewN | apply below_drew1 | refine below_set ?_ GEgbp.out) | exact HB.out)) bel); have o0_ := Aside0.mk (Only.step (by repeat (first | (with_reducible first | exact HO.out | apply Only.drewN | apply Only.drew | apply Only.alloc | apply Only.set | refine Only.far ?_ GWgbp.out _ _) | exact HO.out)) bel); clear HO; have HO := o0_; clear o0_; clear BKb; clear BKgbp; clear HB; have BKb := mb_; clear mb_; have BKgbp := mgbp_; clear mgbp_; have HB := n0_; clear n0_ bel
  refine hK.out _ _ (⟨(blk_cell BKb.out 0).trans rfl, (blk_cell BKb.out 1).trans rfl, (blk_cell BKb.out 2).trans rfl, (blk_cell BKgbp.out 0).trans rfl, (blk_cell BKgbp.out 1).trans rfl⟩) (fun hHeld => ?_)
  clear hK K
  refine norm_ (a' := ?_) ?_ ?_
  rotate_left
  · show Act.put _ (some 9) _ = _
    simp only [Act.put, List.setIfInBounds_toArray, List.set_cons_zero, List.set_cons_succ, i64_w, i32_w]
    rfl
  refine pure_ (i := 5) (N := some 10) (v := ?_) (a' := ?_) #[true, true, true, true, true, true, false, false, false, false, false, false, false, false] rfl rfl (by kernel_rfl) (fun _ _ _ h => h) (Or.inl ⟨by rfl, ?_⟩) ?_ ?_
  rotate_left
  · intro w'
    go_simp
    with_reducible rfl
  rotate_left
  · simp only [Act.put, List.setIfInBounds_toArray, List.set_cons_zero, List.set_cons_succ, i64_w, i32_w]
    rfl
  refine pure_ (i := 6) (N := some 11) (v := ?_) (a' := ?_) #[true, true, true, true, true, true, true, false, false, false, false, false, false, false] rfl rfl (by kernel_rfl) (fun _ _ _ h => h) (Or.inl ⟨by rfl, ?_⟩) ?_ ?_
  rotate_left
  · intro w'
    go_simp
    with_reducible rfl
  rotate_left
  · simp only [Act.put, List.setIfInBounds_toArray, List.set_cons_zero, List.set_cons_succ, i64_w, i32_w]
    rfl
  refine pure_ (i := 7) (N := some 12) (v := undef) (a' := ?_) #[true, true, true, true, true, true, true, true, false, false, false, false, false, false] rfl rfl (by kernel_rfl) (fun _ _ _ h => h) (Or.inr ⟨by rfl, rfl⟩) ?_ ?_
  rotate_left
  · simp only [Act.put, List.setIfInBounds_toArray, List.set_cons_zero, List.set_cons_succ, i64_w, i32_w]
    rfl
  refine pure_ (i := 8) (N := some 13) (v := undef) (a' := ?_) #[true, true, true, true, true, true, true, true, true, false, false, false, false, false] rfl rfl (by kernel_rfl) (fun _ _ _ h => h) (Or.inr ⟨by rfl, rfl⟩) ?_ ?_
  rotate_left
  · simp only [Act.put, List.setIfInBounds_toArray, List.set_cons_zero, List.set_cons_succ, i64_w, i32_w]
    rfl
  refine pure_ (i := 9) (N := some 14) (v := undef) (a' := ?_) #[true, true, true, true, true, true, true, true, true, true, false, false, false, false] rfl rfl (by kernel_rfl) (fun _ _ _ h => h) (Or.inr ⟨by rfl, rfl⟩) ?_ ?_
  rotate_left
  · simp only [Act.put, List.setIfInBounds_toArray, List.set_cons_zero, List.set_cons_succ, i64_w, i32_w]
    rfl
  refine pure_ (i := 10) (N := some 15) (v := undef) (a' := ?_) #[true, true, true, true, true, true, true, true, true, true, true, false, false, false] rfl rfl (by kernel_rfl) (fun _ _ _ h => h) (Or.inr ⟨by rfl, rfl⟩) ?_ ?_
  rotate_left
  · simp only [Act.put, List.setIfInBounds_toArray, List.set_cons_zero, List.set_cons_succ, i64_w, i32_w]
    rfl
  refine pure_ (i := 11) (N := some 16) (v := undef) (a' := ?_) #[true, true, true, true, true, true, true, true, true, true, true, true, false, false] rfl rfl (by kernel_rfl) (fun _ _ _ h => h) (Or.inr ⟨by rfl, rfl⟩) ?_ ?_
  rotate_left
  · simp only [Act.put, List.setIfInBounds_toArray, List.set_cons_zero, List.set_cons_succ, i64_w, i32_w]
    rfl
  refine pure_ (i := 12) (N := some 17) (v := undef) (a' := ?_) #[true, true, true, true, true, true, true, true, true, true, true, true, true, false] rfl rfl (by kernel_rfl) (fun _ _ _ h => h) (Or.inr ⟨by rfl, rfl⟩) ?_ ?_
  rotate_left
  · simp only [Act.put, List.setIfInBounds_toArray, List.set_cons_zero, List.set_cons_succ, i64_w, i32_w]
    rfl
  refine pure_ (i := 13) (N := some 18) (v := ?_) (a' := ?_) #[true, true, true, true, true, true, true, true, true, true, true, true, true, true] rfl rfl (by kernel_rfl) (fun _ _ _ h => h) (Or.inl ⟨by rfl, ?_⟩) ?_ ?_
  rotate_left
  · intro w'
    go_simp
    with_reducible rfl
  rotate_left
  · simp only [Act.put, List.setIfInBounds_toArray, List.set_cons_zero, List.set_cons_succ, i64_w, i32_w]
    rfl
  refine done_ (by kernel_rfl) ?_
  go_wp2
  refine wp_world (fun w' => Below w.heap.size w w' ∧ Only b w w' ∧ w'.heap[b]? = some (.cells #[.int .i64 s0, .int .i64 s1, .int .i64 s2] 80 (0, 0)) ∧ w'.heap[gbp]? = some (.cells #[.int .i64 t0, .int .i64 t1] 53 (0, 0))) ⟨(by repeat (first | (with_reducible first | exact HB.out | apply below_alloc | apply pw_below_drewN | apply below_drew1 | refine below_set ?_ GEgbp.out) | exact HB.out)), (by repeat (first | (with_reducible first | exact HO.out | apply Only.drewN | apply Only.drew | apply Only.alloc | apply Only.set | refine Only.far ?_ GWgbp.out _ _) | exact HO.out)), (by apply heap_is; (focus (repeat (first | with_reducible exact BKb.out | with_reducible apply blk_drewN | with_reducible apply blk_drew | with_reducible apply blk_alloc | with_reducible apply blk_set | (with_reducible apply blk_aside; assumption)))); first | rfl | (simp; done)), (by apply heap_is; (focus (repeat (first | with_reducible exact BKgbp.out | with_reducible apply blk_drewN | with_reducible apply blk_drew | with_reducible apply blk_alloc | with_reducible apply blk_set | (with_reducible apply blk_aside; assumption)))); first | rfl | (simp; done))⟩ ?_
  rintro w4 ⟨n0_, o0_, mb_, mgbp_⟩
  clear HB BKb BKgbp
  have HB := Aside0.mk n0_; clear n0_
  clear HO; have HO := Aside0.mk o0_; clear o0_
  have BKb := Aside0.mk mb_; clear mb_
  have BKgbp := Aside0.mk mgbp_; clear mgbp_
  have hczw4b_0 : w4.cell? ⟨b, 0, none⟩ = some (.int .i64 s0) := (blk_cell BKb.out 0).trans rfl; have hfzw4b_0 := blk_frozen BKb.out 0
  have hczw4b_1 : w4.cell? ⟨b, 1, none⟩ = some (.int .i64 s1) := (blk_cell BKb.out 1).trans rfl; have hfzw4b_1 := blk_frozen BKb.out 1
  have hczw4b_2 : w4.cell? ⟨b, 2, none⟩ = some (.int .i64 s2) := (blk_cell BKb.out 2).trans rfl; have hfzw4b_2 := blk_frozen BKb.out 2
  have hczw4gbp_0 : w4.cell? ⟨gbp, 0, none⟩ = some (.int .i64 t0) := (blk_cell BKgbp.out 0).trans rfl; have hfzw4gbp_0 := blk_frozen BKgbp.out 0
  have hczw4gbp_1 : w4.cell? ⟨gbp, 1, none⟩ = some (.int .i64 t1) := (blk_cell BKgbp.out 1).trans rfl; have hfzw4gbp_1 := blk_frozen BKgbp.out 1
  refine start_ (n := 11) (S := fun w' => w'.cell? ⟨b, 0, none⟩ = some (.int .i64 s0) ∧ w'.cell? ⟨b, 1, none⟩ = some (.int .i64 s1) ∧ w'.cell? ⟨b, 2, none⟩ = some (.int .i64 s2) ∧ w'.cell? ⟨gbp, 0, none⟩ = some (.int .i64 t0) ∧ w'.cell? ⟨gbp, 1, none⟩ = some (.int .i64 t1)) (ds := [10]) #[false, false, false, false, false, false, false, false, false, false, false] (by kernel_rfl) rfl rfl (⟨(blk_cell BKb.out 0).trans rfl, (blk_cell BKb.out 1).trans rfl, (blk_cell BKb.out 2).trans rfl, (blk_cell BKgbp.out 0).trans rfl, (blk_cell BKgbp.out 1).trans rfl⟩) (fun hHeld => ?_)
  refine pure_ (i := 0) (N := some 20) (v := ?_) (a' := ?_) #[true, false, false, false, false, false, false, false, false, false, false] rfl rfl (by kernel_rfl) (fun _ _ _ h => h) (Or.inl ⟨by rfl, ?_⟩) ?_ ?_
  rotate_left
  · intro w'
    go_simp
    with_reducible rfl
  rotate_left
  · simp only [Act.put, List.setIfInBounds_toArray, List.set_cons_zero, List.set_cons_succ, i64_w, i32_w]
    rfl
  refine pure_ (i := 1) (N := some 21) (v := ?_) (a' := ?_) #[true, true, false, false, false, false, false, false, false, false, false] rfl rfl (by kernel_rfl) (fun _ _ _ h => h) (Or.inl ⟨by rfl, ?_⟩) ?_ ?_
  rotate_left
  · intro w'
    go_simp
    with_reducible rfl
  rotate_left
  · simp only [Act.put, List.setIfInBounds_toArray, List.set_cons_zero, List.set_cons_succ, i64_w, i32_w]
    rfl
  refine pure_ (i := 2) (N := some 22) (v := ?_) (a' := ?_) #[true, true, true, false, false, false, false, false, false, false, false] rfl rfl (by kernel_rfl) (fun _ _ _ h => h) (Or.inl ⟨by rfl, ?_⟩) ?_ ?_
  rotate_left
  · intro w'
    go_simp
    with_reducible rfl
  rotate_left
  · simp only [Act.put, List.setIfInBounds_toArray, List.set_cons_zero, List.set_cons_succ, i64_w, i32_w]
    rfl
  refine pure_ (i := 3) (N := some 23) (v := ?_) (a' := ?_) #[true, true, true, true, false, false, false, false, false, false, false] rfl rfl (by kernel_rfl) (fun _ _ _ h => h) (Or.inl ⟨by rfl, ?_⟩) ?_ ?_
  rotate_left
  · intro w'
    go_simp
    with_reducible rfl
  rotate_left
  · simp only [Act.put, List.setIfInBounds_toArray, List.set_cons_zero, List.set_cons_succ, i64_w, i32_w]
    rfl
  refine take_ (i := 4) (N := some 24) (v := ?_) (a' := ?_) #[true, true, true, true, true, false, false, false, false, false, false] rfl rfl (by kernel_rfl) (fun _ _ _ h => h) (Or.inl ⟨by rfl, ?_⟩) hHeld ?_ ?_
  rotate_left
  · rintro w' hS_; (try dsimp only at hS_)
    go_simp
    with_reducible rfl
  rotate_left
  · simp only [Act.put, List.setIfInBounds_toArray, List.set_cons_zero, List.set_cons_succ, i64_w, i32_w]
    rfl
  refine pure_ (i := 5) (N := some 25) (v := ?_) (a' := ?_) #[true, true, true, true, true, true, false, false, false, false, false] rfl rfl (by kernel_rfl) (fun _ _ _ h => h) (Or.inl ⟨by rfl, ?_⟩) ?_ ?_
  rotate_left
  · intro w'
    go_simp
    with_reducible rfl
  rotate_left
  · simp only [Act.put, List.setIfInBounds_toArray, List.set_cons_zero, List.set_cons_succ, i64_w, i32_w]
    rfl
  refine take_ (i := 6) (N := some 26) (v := ?_) (a' := ?_) #[true, true, true, true, true, true, true, false, false, false, false] rfl rfl (by kernel_rfl) (fun _ _ _ h => h) (Or.inl ⟨by rfl, ?_⟩) hHeld ?_ ?_
  rotate_left
  · rintro w' hS_; (try dsimp only at hS_)
    go_simp
    with_reducible rfl
  rotate_left
  · simp only [Act.put, List.setIfInBounds_toArray, List.set_cons_zero, List.set_cons_succ, i64_w, i32_w]
    rfl
  refine one_ (i := 7) (N := some 27) #[true, true, true, true, true, true, true, true, false, false, false] rfl rfl (by kernel_rfl) (by decide) (fun K hK => ?_)
  refine goes_ Try.func49 (by kernel_rfl) rfl #[.int .i64 s0, .int .i64 t0] (by rfl) rfl rfl (by (try simp only [List.map_toArray, List.map_cons, List.map_nil]); first | done | rfl) ?_
  with_reducible refine (intervals_imin.calls s0 t0 m _ HA3.out).mono ?_
  rintro e w1 ⟨rfl, ⟨nd1, rfl⟩⟩
  refine ⟨_, rfl, ?_⟩
  refine hK.out _ _ (⟨(blk_cell BKb.out 0).trans rfl, (blk_cell BKb.out 1).trans rfl, (blk_cell BKb.out 2).trans rfl, (blk_cell BKgbp.out 0).trans rfl, (blk_cell BKgbp.out 1).trans rfl⟩) (fun hHeld => ?_)
  clear hK K
  refine norm_ (a' := ?_) ?_ ?_
  rotate_left
  · show Act.put _ (some 27) _ = _
    simp only [Act.put, List.setIfInBounds_toArray, List.set_cons_zero, List.set_cons_succ, i64_w, i32_w]
    rfl
  refine pure_ (i := 8) (N := some 28) (v := ?_) (a' := ?_) #[true, true, true, true, true, true, true, true, true, false, false] rfl rfl (by kernel_rfl) (fun _ _ _ h => h) (Or.inl ⟨by rfl, ?_⟩) ?_ ?_
  rotate_left
  · intro w'
    go_simp
    with_reducible rfl
  rotate_left
  · simp only [Act.put, List.setIfInBounds_toArray, List.set_cons_zero, List.set_cons_succ, i64_w, i32_w]
    rfl
  refine pure_ (i := 9) (N := some 29) (v := ?_) (a' := ?_) #[true, true, true, true, true, true, true, true, true, true, false] rfl rfl (by kernel_rfl) (fun _ _ _ h => h) (Or.inl ⟨by rfl, ?_⟩) ?_ ?_
  rotate_left
  · intro w'
    go_simp
    with_reducible rfl
  rotate_left
  · simp only [Act.put, List.setIfInBounds_toArray, List.set_cons_zero, List.set_cons_succ, i64_w, i32_w]
    rfl
  refine last_ (i := 10) (N := none) #[true, true, true, true, true, true, true, true, true, true, true] rfl rfl (by kernel_rfl) (by decide) (fun K hK => ?_)
  refine skip_ (w1 := ?_) (by rfl) rfl ?_ ?_
  rotate_left
  · go_simp
    rfl
  refine hK.out _ _ ?_
  clear hK K
  refine done_ (by kernel_rfl) ?_
  go_wp2
  refine wp_world (fun w' => True ∧ Only b w w' ∧ w'.heap[b]? = some (.cells #[.int .i64 m, .int .i64 s1, .int .i64 s2] 80 (0, 0)) ∧ w'.heap[gbp]? = some (.cells #[.int .i64 t0, .int .i64 t1] 53 (0, 0))) ⟨trivial, (by repeat (first | (with_reducible first | exact HO.out | apply Only.drewN | apply Only.drew | apply Only.alloc | apply Only.set | refine Only.far ?_ GWgbp.out _ _) | exact HO.out)), (by apply heap_is; (focus (repeat (first | with_reducible exact BKb.out | with_reducible apply blk_drewN | with_reducible apply blk_drew | with_reducible apply blk_alloc | with_reducible apply blk_set | (with_reducible apply blk_aside; assumption)))); first | rfl | (simp; done)), (by apply heap_is; (focus (repeat (first | with_reducible exact BKgbp.out | with_reducible apply blk_drewN | with_reducible apply blk_drew | with_reducible apply blk_alloc | with_reducible apply blk_set | (with_reducible apply blk_aside; assumption)))); first | rfl | (simp; done))⟩ ?_
  rintro w5 ⟨n0_, o0_, mb_, mgbp_⟩
  clear HB BKb BKgbp
  have HB := Aside0.mk n0_; clear n0_
  clear HO; have HO := Aside0.mk o0_; clear o0_
  have BKb := Aside0.mk mb_; clear mb_
  have BKgbp := Aside0.mk mgbp_; clear mgbp_
  clear hczw4b_0 hfzw4b_0
  clear hczw4b_1 hfzw4b_1
  clear hczw4b_2 hfzw4b_2
  clear hczw4gbp_0 hfzw4gbp_0
  clear hczw4gbp_1 hfzw4gbp_1
  have hczw5b_0 : w5.cell? ⟨b, 0, none⟩ = some (.int .i64 m) := (blk_cell BKb.out 0).trans rfl; have hfzw5b_0 := blk_frozen BKb.out 0
  have hczw5b_1 : w5.cell? ⟨b, 1, none⟩ = some (.int .i64 s1) := (blk_cell BKb.out 1).trans rfl; have hfzw5b_1 := blk_frozen BKb.out 1
  have hczw5b_2 : w5.cell? ⟨b, 2, none⟩ = some (.int .i64 s2) := (blk_cell BKb.out 2).trans rfl; have hfzw5b_2 := blk_frozen BKb.out 2
  have hczw5gbp_0 : w5.cell? ⟨gbp, 0, none⟩ = some (.int .i64 t0) := (blk_cell BKgbp.out 0).trans rfl; have hfzw5gbp_0 := blk_frozen BKgbp.out 0
  have hczw5gbp_1 : w5.cell? ⟨gbp, 1, none⟩ = some (.int .i64 t1) := (blk_cell BKgbp.out 1).trans rfl; have hfzw5gbp_1 := blk_frozen BKgbp.out 1
  refine start_ (n := 11) (S := fun w' => w'.cell? ⟨b, 0, none⟩ = some (.int .i64 m) ∧ w'.cell? ⟨b, 1, none⟩ = some (.int .i64 s1) ∧ w'.cell? ⟨b, 2, none⟩ = some (.int .i64 s2) ∧ w'.cell? ⟨gbp, 0, none⟩ = some (.int .i64 t0) ∧ w'.cell? ⟨gbp, 1, none⟩ = some (.int .i64 t1)) (ds := [10]) #[false, false, false, false, false, false, false, false, false, false, false] (by kernel_rfl) rfl rfl (⟨(blk_cell BKb.out 0).trans rfl, (blk_cell BKb.out 1).trans rfl, (blk_cell BKb.out 2).trans rfl, (blk_cell BKgbp.out 0).trans rfl, (blk_cell BKgbp.out 1).trans rfl⟩) (fun hHeld => ?_)
  refine pure_ (i := 0) (N := some 30) (v := ?_) (a' := ?_) #[true, false, false, false, false, false, false, false, false, false, false] rfl rfl (by kernel_rfl) (fun _ _ _ h => h) (Or.inl ⟨by rfl, ?_⟩) ?_ ?_
  rotate_left
  · intro w'
    go_simp
    with_reducible rfl
  rotate_left
  · simp only [Act.put, List.setIfInBounds_toArray, List.set_cons_zero, List.set_cons_succ, i64_w, i32_w]
    rfl
  refine pure_ (i := 1) (N := some 31) (v := ?_) (a' := ?_) #[true, true, false, false, false, false, false, false, false, false, false] rfl rfl (by kernel_rfl) (fun _ _ _ h => h) (Or.inl ⟨by rfl, ?_⟩) ?_ ?_
  rotate_left
  · intro w'
    go_simp
    with_reducible rfl
  rotate_left
  · simp only [Act.put, List.setIfInBounds_toArray, List.set_cons_zero, List.set_cons_succ, i64_w, i32_w]
    rfl
  refine pure_ (i := 2) (N := some 32) (v := ?_) (a' := ?_) #[true, true, true, false, false, false, false, false, false, false, false] rfl rfl (by kernel_rfl) (fun _ _ _ h => h) (Or.inl ⟨by rfl, ?_⟩) ?_ ?_
  rotate_left
  · intro w'
    go_simp
    with_reducible rfl
  rotate_left
  · simp only [Act.put, List.setIfInBounds_toArray, List.set_cons_zero, List.set_cons_succ, i64_w, i32_w]
    rfl
  refine pure_ (i := 3) (N := some 33) (v := ?_) (a' := ?_) #[true, true, true, true, false, false, false, false, false, false, false] rfl rfl (by kernel_rfl) (fun _ _ _ h => h) (Or.inl ⟨by rfl, ?_⟩) ?_ ?_
  rotate_left
  · intro w'
    go_simp
    with_reducible rfl
  rotate_left
  · simp only [Act.put, List.setIfInBounds_toArray, List.set_cons_zero, List.set_cons_succ, i64_w, i32_w]
    rfl
  refine take_ (i := 4) (N := some 34) (v := ?_) (a' := ?_) #[true, true, true, true, true, false, false, false, false, false, false] rfl rfl (by kernel_rfl) (fun _ _ _ h => h) (Or.inl ⟨by rfl, ?_⟩) hHeld ?_ ?_
  rotate_left
  · rintro w' hS_; (try dsimp only at hS_)
    go_simp
    with_reducible rfl
  rotate_left
  · simp only [Act.put, List.setIfInBounds_toArray, List.set_cons_zero, List.set_cons_succ, i64_w, i32_w]
    rfl
  refine pure_ (i := 5) (N := some 35) (v := ?_) (a' := ?_) #[true, true, true, true, true, true, false, false, false, false, false] rfl rfl (by kernel_rfl) (fun _ _ _ h => h) (Or.inl ⟨by rfl, ?_⟩) ?_ ?_
  rotate_left
  · intro w'
    go_simp
    with_reducible rfl
  rotate_left
  · simp only [Act.put, List.setIfInBounds_toArray, List.set_cons_zero, List.set_cons_succ, i64_w, i32_w]
    rfl
  refine take_ (i := 6) (N := some 36) (v := ?_) (a' := ?_) #[true, true, true, true, true, true, true, false, false, false, false] rfl rfl (by kernel_rfl) (fun _ _ _ h => h) (Or.inl ⟨by rfl, ?_⟩) hHeld ?_ ?_
  rotate_left
  · rintro w' hS_; (try dsimp only at hS_)
    go_simp
    with_reducible rfl
  rotate_left
  · simp only [Act.put, List.setIfInBounds_toArray, List.set_cons_zero, List.set_cons_succ, i64_w, i32_w]
    rfl
  refine one_ (i := 7) (N := some 37) #[true, true, true, true, true, true, true, true, false, false, false] rfl rfl (by kernel_rfl) (by decide) (fun K hK => ?_)
  refine goes_ Try.func50 (by kernel_rfl) rfl #[.int .i64 s1, .int .i64 t1] (by rfl) rfl rfl (by (try simp only [List.map_toArray, List.map_cons, List.map_nil]); first | done | rfl) ?_
  with_reducible refine (intervals_imax.calls s1 t1 M _ HA4.out).mono ?_
  rintro e w1 ⟨rfl, ⟨nd2, rfl⟩⟩
  refine ⟨_, rfl, ?_⟩
  refine hK.out _ _ (⟨(blk_cell BKb.out 0).trans rfl, (blk_cell BKb.out 1).trans rfl, (blk_cell BKb.out 2).trans rfl, (blk_cell BKgbp.out 0).trans rfl, (blk_cell BKgbp.out 1).trans rfl⟩) (fun hHeld => ?_)
  clear hK K
  refine norm_ (a' := ?_) ?_ ?_
  rotate_left
  · show Act.put _ (some 37) _ = _
    simp only [Act.put, List.setIfInBounds_toArray, List.set_cons_zero, List.set_cons_succ, i64_w, i32_w]
    rfl
  refine pure_ (i := 8) (N := some 38) (v := ?_) (a' := ?_) #[true, true, true, true, true, true, true, true, true, false, false] rfl rfl (by kernel_rfl) (fun _ _ _ h => h) (Or.inl ⟨by rfl, ?_⟩) ?_ ?_
  rotate_left
  · intro w'
    go_simp
    with_reducible rfl
  rotate_left
  · simp only [Act.put, List.setIfInBounds_toArray, List.set_cons_zero, List.set_cons_succ, i64_w, i32_w]
    rfl
  refine pure_ (i := 9) (N := some 39) (v := ?_) (a' := ?_) #[true, true, true, true, true, true, true, true, true, true, false] rfl rfl (by kernel_rfl) (fun _ _ _ h => h) (Or.inl ⟨by rfl, ?_⟩) ?_ ?_
  rotate_left
  · intro w'
    go_simp
    with_reducible rfl
  rotate_left
  · simp only [Act.put, List.setIfInBounds_toArray, List.set_cons_zero, List.set_cons_succ, i64_w, i32_w]
    rfl
  refine last_ (i := 10) (N := none) #[true, true, true, true, true, true, true, true, true, true, true] rfl rfl (by kernel_rfl) (by decide) (fun K hK => ?_)
  refine skip_ (w1 := ?_) (by rfl) rfl ?_ ?_
  rotate_left
  · go_simp
    rfl
  refine hK.out _ _ ?_
  clear hK K
  refine done_ (by kernel_rfl) ?_
  go_wp2
  go_ret
  exact ⟨by first | rfl | (simp; done), (by apply heap_is; (focus (repeat (first | with_reducible exact BKb.out | with_reducible apply blk_drewN | with_reducible apply blk_drew | with_reducible apply blk_alloc | with_reducible apply blk_set | (with_reducible apply blk_aside; assumption)))); first | rfl | (simp; done)), by repeat (first | (with_reducible first | exact HO.out | apply Only.drewN | apply Only.drew | apply Only.alloc | apply Only.set | refine Only.far ?_ GWgbp.out _ _) | exact HO.out)⟩
set_option maxHeartbeats 4000000 in
set_option maxRecDepth 100000 in
theorem mi80_adj (s2 s0 s1 t0 t1 m M : Int) (b : Nat) (w : World) (hb : w.heap[b]? = some (.cells #[.int .i64 s0, .int .i64 s1, .int .i64 s2] 80 (0, 0))) (A1 : intervals_Interval_Overlaps.f s0 s1 t0 t1 = some false) (A2 : intervals_Interval_adjacent.f s0 s1 t0 t1 = some true) (A3 : intervals_imin.f s0 t0 = some m) (A4 : intervals_imax.f s1 t1 = some M) :
    Calls Try.prog 33 #[.pointer (some ⟨b, 0, none⟩), .agg #[.int .i64 t0, .int .i64 t1]] w fun e w' => e = .returned .nilIface ∧ w'.heap[b]? = some (.cells #[.int .i64 m, .int .i64 M, .int .i64 s2] 80 (0, 0)) ∧ Only b w w' := by
  have hu53 := Try.underlying53
  have HB := Aside0.mk (Below.refl w.heap.size w)
  have HO := Aside0.mk (Only.refl b w)
  have BKb := Aside0.mk hb
  have hc0 : w.cell? ⟨b, 0, none⟩ = some (.int .i64 s0) := (blk_cell hb 0).trans rfl
  have hc1 : w.cell? ⟨b, 1, none⟩ = some (.int .i64 s1) := (blk_cell hb 1).trans rfl
  have HA1 := Aside0.mk A1
  have HA2 := Aside0.mk A2
  have HA3 := Aside0.mk A3
  have HA4 := Aside0.mk A4
  clear A1 A2 A3 A4
  go_enter Try.func33, Try.ntmps33
  go_wp2_with (first | ((with_reducible refine gate_dst (N := 3) rfl ?_); refine box_event ?hg (N := 3) ?hd (cs := #[.int .i64 t0, .int .i64 t1]) (t := 53) ?hr ?_; (case hd => rfl); (case hg => rfl); (case hr => first | (go_simp; done) | (go_simp; rfl)); intro gbp hg w3 hbox hb; have mb_ := Aside0.mk (blk_below (g := b) (o := .cells #[.int .i64 s0, .int .i64 s1, .int .i64 s2] 80 (0, 0)) (by apply heap_is; (focus (repeat (first | with_reducible exact BKb.out | with_reducible apply blk_drewN | with_reducible apply blk_drew | with_reducible apply blk_alloc | with_reducible apply blk_set | (with_reducible apply blk_aside; assumption)))); first | rfl | (simp; done)) hb); have o0_ := Aside0.mk (Only.step (by repeat (first | (with_reducible first | exact HO.out | apply Only.drewN | apply Only.drew | apply Only.alloc | apply Only.set) | exact HO.out)) hb); have o1_ := Aside0.mk ((by rw [hg]; exact (Only.size (b := b) (by repeat (first | (with_reducible first | exact HO.out | apply Only.drewN | apply Only.drew | apply Only.alloc | apply Only.set) | exact HO.out)))) : w.heap.size ≤ gbp); have qb_ := Aside0.mk ((by rw [hg]; exact Nat.ne_of_lt (blk_lt (g := b) (o := .cells #[.int .i64 s0, .int .i64 s1, .int .i64 s2] 80 (0, 0)) (by apply heap_is; (focus (repeat (first | with_reducible exact BKb.out | with_reducible apply blk_drewN | with_reducible apply blk_drew | with_reducible apply blk_alloc | with_reducible apply blk_set | (with_reducible apply blk_aside; assumption)))); first | rfl | (simp; done)))) : b ≠ gbp); have rb_ := Aside0.mk ((by rw [hg]; exact Nat.ne_of_gt (blk_lt (g := b) (o := .cells #[.int .i64 s0, .int .i64 s1, .int .i64 s2] 80 (0, 0)) (by apply heap_is; (focus (repeat (first | with_reducible exact BKb.out | with_reducible apply blk_drewN | with_reducible apply blk_drew | with_reducible apply blk_alloc | with_reducible apply blk_set | (with_reducible apply blk_aside; assumption)))); first | rfl | (simp; done)))) : gbp ≠ b); have n0_ := Aside0.mk (below_step (by repeat (first | (with_reducible first | exact HB.out | apply below_alloc | apply pw_below_drewN | apply below_drew1) | exact HB.out)) hb); have n1_ := Aside0.mk (hbox); have n2_ := Aside0.mk ((by rw [hg]; exact (below_size (by repeat (first | (with_reducible first | exact HB.out | apply below_alloc | apply pw_below_drewN | apply below_drew1) | exact HB.out))) : w.heap.size ≤ gbp)); clear BKb; clear HB; have BKb := mb_; have NBb_gbp := qb_.out; have NBgbp_b := rb_.out; clear mb_ qb_ rb_; have HB := n0_; have BKgbp := n1_; have GEgbp := n2_; clear n0_ n1_ n2_; clear hb hbox hg; clear HO; have HO := o0_; have GWgbp := o1_; clear o0_ o1_; have hczw3b_0 : w3.cell? ⟨b, 0, none⟩ = some (.int .i64 s0) := (blk_cell BKb.out 0).trans rfl; have hfzw3b_0 := blk_frozen BKb.out 0; have hczw3b_1 : w3.cell? ⟨b, 1, none⟩ = some (.int .i64 s1) := (blk_cell BKb.out 1).trans rfl; have hfzw3b_1 := blk_frozen BKb.out 1; have hczw3b_2 : w3.cell? ⟨b, 2, none⟩ = some (.int .i64 s2) := (blk_cell BKb.out 2).trans rfl; have hfzw3b_2 := blk_frozen BKb.out 2; have hczw3gbp_0 : w3.cell? ⟨gbp, 0, none⟩ = some (.int .i64 t0) := (blk_cell BKgbp.out 0).trans rfl; have hfzw3gbp_0 := blk_frozen BKgbp.out 0; have hczw3gbp_1 : w3.cell? ⟨gbp, 1, none⟩ = some (.int .i64 t1) := (blk_cell BKgbp.out 1).trans rfl; have hfzw3gbp_1 := blk_frozen BKgbp.out 1))
  clear hb hc0 hc1
  refine start_ (n := 14) (S := fun w' => w'.cell? ⟨b, 0, none⟩ = some (.int .i64 s0) ∧ w'.cell? ⟨b, 1, none⟩ = some (.int .i64 s1) ∧ w'.cell? ⟨b, 2, none⟩ = some (.int .i64 s2) ∧ w'.cell? ⟨gbp, 0, none⟩ = some (.int .i64 t0) ∧ w'.cell? ⟨gbp, 1, none⟩ = some (.int .i64 t1)) (ds := []) #[false, false, false, false, false, false, false, false, false, false, false, false, false, false] (by kernel_rfl) rfl rfl (⟨(blk_cell BKb.out 0).trans rfl, (blk_cell BKb.out 1).trans rfl, (blk_cell BKb.out 2).trans rfl, (blk_cell BKgbp.out 0).trans rfl, (blk_cell BKgbp.out 1).trans rfl⟩) (fun hHeld => ?_)
  refine pure_ (i := 0) (N := some 5) (v := ?_) (a' := ?_) #[true, false, false, false, false, false, false, false, false, false, false, false, false, false] rfl rfl (by kernel_rfl) (fun _ _ _ h => h) (Or.inl ⟨by rfl, ?_⟩) ?_ ?_
  rotate_left
  · intro w'
    go_simp
    with_reducible rfl
  rotate_left
  · simp only [Act.put, List.setIfInBounds_toArray, List.set_cons_zero, List.set_cons_succ, i64_w, i32_w]
    rfl
  refine pure_ (i := 1) (N := some 6) (v := ?_) (a' := ?_) #[true, true, false, false, false, false, false, false, false, false, false, false, false, false] rfl rfl (by kernel_rfl) (fun _ _ _ h => h) (Or.inl ⟨by rfl, ?_⟩) ?_ ?_
  rotate_left
  · intro w'
    go_simp
    with_reducible rfl
  rotate_left
  · simp only [Act.put, List.setIfInBounds_toArray, List.set_cons_zero, List.set_cons_succ, i64_w, i32_w]
    rfl
  refine take_ (i := 2) (N := some 7) (v := ?_) (a' := ?_) #[true, true, true, false, false, false, false, false, false, false, false, false, false, false] rfl rfl (by kernel_rfl) (fun _ _ _ h => h) (Or.inl ⟨by rfl, ?_⟩) hHeld ?_ ?_
  rotate_left
  · rintro w' hS_; (try dsimp only at hS_)
    go_simp
    with_reducible rfl
  rotate_left
  · simp only [Act.put, List.setIfInBounds_toArray, List.set_cons_zero, List.set_cons_succ, i64_w, i32_w]
    rfl
  refine take_ (i := 3) (N := some 8) (v := ?_) (a' := ?_) #[true, true, true, true, false, false, false, false, false, false, false, false, false, false] rfl rfl (by kernel_rfl) (fun _ _ _ h => h) (Or.inl ⟨by rfl, ?_⟩) hHeld ?_ ?_
  rotate_left
  · rintro w' hS_; (try dsimp only at hS_)
    go_simp
    with_reducible rfl
  rotate_left
  · simp only [Act.put, List.setIfInBounds_toArray, List.set_cons_zero, List.set_cons_succ, i64_w, i32_w]
    rfl
  refine one_ (i := 4) (N := some 9) #[true, true, true, true, true, false, false, false, false, false, false, false, false, false] rfl rfl (by kernel_rfl) (by decide) (fun K hK => ?_)
  refine goes_ Try.func46 (by kernel_rfl) rfl #[.agg #[.int .i64 s0, .int .i64 s1], .agg #[.int .i64 t0, .int .i64 t1]] (by rfl) rfl rfl (by (try simp only [List.map_toArray, List.map_cons, List.map_nil]); first | done | rfl) ?_
  with_reducible refine (intervals_Interval_Overlaps.calls s0 s1 t0 t1 false _ HA1.out).mono ?_
  rintro e w1 ⟨rfl, bel⟩
  refine ⟨_, rfl, ?_⟩
  have mb_ := Aside0.mk (blk_below (g := b) (o := .cells #[.int .i64 s0, .int .i64 s1, .int .i64 s2] 80 (0, 0)) (by apply heap_is; (focus (repeat (first | with_reducible exact BKb.out | with_reducible apply blk_drewN | with_reducible apply blk_drew | with_reducible apply blk_alloc | with_reducible apply blk_set | (with_reducible apply blk_aside; assumption)))); first | rfl | (simp; done)) bel); have mgbp_ := Aside0.mk (blk_below (g := gbp) (o := .cells #[.int .i64 t0, .int .i64 t1] 53 (0, 0)) (by apply heap_is; (focus (repeat (first | with_reducible exact BKgbp.out | with_reducible apply blk_drewN | with_reducible apply blk_drew | with_reducible apply blk_alloc | with_reducible apply blk_set | (with_reducible apply blk_aside; assumption)))); first | rfl | (simp; done)) bel); have n0_ := Aside0.mk (below_step (by repeat (first | (with_reducible first | exact HB.out | apply below_alloc | apply pw_below_drewN | apply below_drew1 | refine below_set ?_ GEgbp.out) | exact HB.out)) bel); have o0_ := Aside0.mk (Only.step (by repeat (first | (with_reducible first | exact HO.out | apply Only.drewN | apply Only.drew | apply Only.alloc | apply Only.set | refine Only.far ?_ GWgbp.out _ _) | exact HO.out)) bel); clear HO; have HO := o0_; clear o0_; clear BKb; clear BKgbp; clear HB; have BKb := mb_; clear mb_; have BKgbp := mgbp_; clear mgbp_; have HB := n0_; clear n0_ bel
  refine hK.out _ _ (⟨(blk_cell BKb.out 0).trans rfl, (blk_cell BKb.out 1).trans rfl, (blk_cell BKb.out 2).trans rfl, (blk_cell BKgbp.out 0).trans rfl, (blk_cell BKgbp.out 1).trans rfl⟩) (fun hHeld => ?_)
  clear hK K
  refine norm_ (a' := ?_) ?_ ?_
  rotate_left
  · show Act.put _ (some 9) _ = _
    simp only [Act.put, List.setIfInBounds_toArray, List.set_cons_zero, List.set_cons_succ, i64_w, i32_w]
    rfl
  refine pure_ (i := 5) (N := some 10) (v := ?_) (a' := ?_) #[true, true, true, true, true, true, false, false, false, false, false, false, false, false] rfl rfl (by kernel_rfl) (fun _ _ _ h => h) (Or.inl ⟨by rfl, ?_⟩) ?_ ?_
  rotate_left
  · intro w'
    go_simp
    with_reducible rfl
  rotate_left
  · simp only [Act.put, List.setIfInBounds_toArray, List.set_cons_zero, List.set_cons_succ, i64_w, i32_w]
    rfl
  refine pure_ (i := 6) (N := some 11) (v := ?_) (a' := ?_) #[true, true, true, true, true, true, true, false, false, false, false, false, false, false] rfl rfl (by kernel_rfl) (fun _ _ _ h => h) (Or.inl ⟨by rfl, ?_⟩) ?_ ?_
  rotate_left
  · intro w'
    go_simp
    with_reducible rfl
  rotate_left
  · simp only [Act.put, List.setIfInBounds_toArray, List.set_cons_zero, List.set_cons_succ, i64_w, i32_w]
    rfl
  refine pure_ (i := 7) (N := some 12) (v := ?_) (a' := ?_) #[true, true, true, true, true, true, true, true, false, false, false, false, false, false] rfl rfl (by kernel_rfl) (fun _ _ _ h => h) (Or.inl ⟨by rfl, ?_⟩) ?_ ?_
  rotate_left
  · intro w'
    go_simp
    with_reducible rfl
  rotate_left
  · simp only [Act.put, List.setIfInBounds_toArray, List.set_cons_zero, List.set_cons_succ, i64_w, i32_w]
    rfl
  refine pure_ (i := 8) (N := some 13) (v := ?_) (a' := ?_) #[true, true, true, true, true, true, true, true, true, false, false, false, false, false] rfl rfl (by kernel_rfl) (fun _ _ _ h => h) (Or.inl ⟨by rfl, ?_⟩) ?_ ?_
  rotate_left
  · intro w'
    go_simp
    with_reducible rfl
  rotate_left
  · simp only [Act.put, List.setIfInBounds_toArray, List.set_cons_zero, List.set_cons_succ, i64_w, i32_w]
    rfl
  refine take_ (i := 9) (N := some 14) (v := ?_) (a' := ?_) #[true, true, true, true, true, true, true, true, true, true, false, false, false, false] rfl rfl (by kernel_rfl) (fun _ _ _ h => h) (Or.inl ⟨by rfl, ?_⟩) hHeld ?_ ?_
  rotate_left
  · rintro w' hS_; (try dsimp only at hS_)
    go_simp
    with_reducible rfl
  rotate_left
  · simp only [Act.put, List.setIfInBounds_toArray, List.set_cons_zero, List.set_cons_succ, i64_w, i32_w]
    rfl
  refine take_ (i := 10) (N := some 15) (v := ?_) (a' := ?_) #[true, true, true, true, true, true, true, true, true, true, true, false, false, false] rfl rfl (by kernel_rfl) (fun _ _ _ h => h) (Or.inl ⟨by rfl, ?_⟩) hHeld ?_ ?_
  rotate_left
  · rintro w' hS_; (try dsimp only at hS_)
    go_simp
    with_reducible rfl
  rotate_left
  · simp only [Act.put, List.setIfInBounds_toArray, List.set_cons_zero, List.set_cons_succ, i64_w, i32_w]
    rfl
  refine one_ (i := 11) (N := some 16) #[true, true, true, true, true, true, true, true, true, true, true, true, false, false] rfl rfl (by kernel_rfl) (by decide) (fun K hK => ?_)
  refine goes_ Try.func47 (by kernel_rfl) rfl #[.agg #[.int .i64 s0, .int .i64 s1], .agg #[.int .i64 t0, .int .i64 t1]] (by rfl) rfl rfl (by (try simp only [List.map_toArray, List.map_cons, List.map_nil]); first | done | rfl) ?_
  with_reducible refine (intervals_Interval_adjacent.calls s0 s1 t0 t1 true _ HA2.out).mono ?_
  rintro e w2 ⟨rfl, bel⟩
  refine ⟨_, rfl, ?_⟩
  have mb_ := Aside0.mk (blk_below (g := b) (o := .cells #[.int .i64 s0, .int .i64 s1, .int .i64 s2] 80 (0, 0)) (by apply heap_is; (focus (repeat (first | with_reducible exact BKb.out | with_reducible apply blk_drewN | with_reducible apply blk_drew | with_reducible apply blk_alloc | with_reducible apply blk_set | (with_reducible apply blk_aside; assumption)))); first | rfl | (simp; done)) bel); have mgbp_ := Aside0.mk (blk_below (g := gbp) (o := .cells #[.int .i64 t0, .int .i64 t1] 53 (0, 0)) (by apply heap_is; (focus (repeat (first | with_reducible exact BKgbp.out | with_reducible apply blk_drewN | with_reducible apply blk_drew | with_reducible apply blk_alloc | with_reducible apply blk_set | (with_reducible apply blk_aside; assumption)))); first | rfl | (simp; done)) bel); have n0_ := Aside0.mk (below_step (by repeat (first | (with_reducible first | exact HB.out | apply below_alloc | apply pw_below_drewN | apply below_drew1 | refine below_set ?_ GEgbp.out) | exact HB.out)) bel); have o0_ := Aside0.mk (Only.step (by repeat (first | (with_reducible first | exact HO.out | apply Only.drewN | apply Only.drew | apply Only.alloc | apply Only.set | refine Only.far ?_ GWgbp.out _ _) | exact HO.out)) bel); clear HO; have HO := o0_; clear o0_; clear BKb; clear BKgbp; clear HB; have BKb := mb_; clear mb_; have BKgbp := mgbp_; clear mgbp_; have HB := n0_; clear n0_ bel
  refine hK.out _ _ (⟨(blk_cell BKb.out 0).trans rfl, (blk_cell BKb.out 1).trans rfl, (blk_cell BKb.out 2).trans rfl, (blk_cell BKgbp.out 0).trans rfl, (blk_cell BKgbp.out 1).trans rfl⟩) (fun hHeld => ?_)
  clear hK K
  refine norm_ (a' := ?_) ?_ ?_
  rotate_left
  · show Act.put _ (some 16) _ = _
    simp only [Act.put, List.setIfInBounds_toArray, List.set_cons_zero, List.set_cons_succ, i64_w, i32_w]
    rfl
  refine pure_ (i := 12) (N := some 17) (v := ?_) (a' := ?_) #[true, true, true, true, true, true, true, true, true, true, true, true, true, false] rfl rfl (by kernel_rfl) (fun _ _ _ h => h) (Or.inl ⟨by rfl, ?_⟩) ?_ ?_
  rotate_left
  · intro w'
    go_simp
    with_reducible rfl
  rotate_left
  · simp only [Act.put, List.setIfInBounds_toArray, List.set_cons_zero, List.set_cons_succ, i64_w, i32_w]
    rfl
  refine pure_ (i := 13) (N := some 18) (v := ?_) (a' := ?_) #[true, true, true, true, true, true, true, true, true, true, true, true, true, true] rfl rfl (by kernel_rfl) (fun _ _ _ h => h) (Or.inl ⟨by rfl, ?_⟩) ?_ ?_
  rotate_left
  · intro w'
    go_simp
    with_reducible rfl
  rotate_left
  · simp only [Act.put, List.setIfInBounds_toArray, List.set_cons_zero, List.set_cons_succ, i64_w, i32_w]
    rfl
  refine done_ (by kernel_rfl) ?_
  go_wp2
  refine wp_world (fun w' => Below w.heap.size w w' ∧ Only b w w' ∧ w'.heap[b]? = some (.cells #[.int .i64 s0, .int .i64 s1, .int .i64 s2] 80 (0, 0)) ∧ w'.heap[gbp]? = some (.cells #[.int .i64 t0, .int .i64 t1] 53 (0, 0))) ⟨(by repeat (first | (with_reducible first | exact HB.out | apply below_alloc | apply pw_below_drewN | apply below_drew1 | refine below_set ?_ GEgbp.out) | exact HB.out)), (by repeat (first | (with_reducible first | exact HO.out | apply Only.drewN | apply Only.drew | apply Only.alloc | apply Only.set | refine Only.far ?_ GWgbp.out _ _) | exact HO.out)), (by apply heap_is; (focus (repeat (first | with_reducible exact BKb.out | with_reducible apply blk_drewN | with_reducible apply blk_drew | with_reducible apply blk_alloc | with_reducible apply blk_set | (with_reducible apply blk_aside; assumption)))); first | rfl | (simp; done)), (by apply heap_is; (focus (repeat (first | with_reducible exact BKgbp.out | with_reducible apply blk_drewN | with_reducible apply blk_drew | with_reducible apply blk_alloc | with_reducible apply blk_set | (with_reducible apply blk_aside; assumption)))); first | rfl | (simp; done))⟩ ?_
  rintro w4 ⟨n0_, o0_, mb_, mgbp_⟩
  clear HB BKb BKgbp
  have HB := Aside0.mk n0_; clear n0_
  clear HO; have HO := Aside0.mk o0_; clear o0_
  have BKb := Aside0.mk mb_; clear mb_
  have BKgbp := Aside0.mk mgbp_; clear mgbp_
  have hczw4b_0 : w4.cell? ⟨b, 0, none⟩ = some (.int .i64 s0) := (blk_cell BKb.out 0).trans rfl; have hfzw4b_0 := blk_frozen BKb.out 0
  have hczw4b_1 : w4.cell? ⟨b, 1, none⟩ = some (.int .i64 s1) := (blk_cell BKb.out 1).trans rfl; have hfzw4b_1 := blk_frozen BKb.out 1
  have hczw4b_2 : w4.cell? ⟨b, 2, none⟩ = some (.int .i64 s2) := (blk_cell BKb.out 2).trans rfl; have hfzw4b_2 := blk_frozen BKb.out 2
  have hczw4gbp_0 : w4.cell? ⟨gbp, 0, none⟩ = some (.int .i64 t0) := (blk_cell BKgbp.out 0).trans rfl; have hfzw4gbp_0 := blk_frozen BKgbp.out 0
  have hczw4gbp_1 : w4.cell? ⟨gbp, 1, none⟩ = some (.int .i64 t1) := (blk_cell BKgbp.out 1).trans rfl; have hfzw4gbp_1 := blk_frozen BKgbp.out 1
  refine start_ (n := 11) (S := fun w' => w'.cell? ⟨b, 0, none⟩ = some (.int .i64 s0) ∧ w'.cell? ⟨b, 1, none⟩ = some (.int .i64 s1) ∧ w'.cell? ⟨b, 2, none⟩ = some (.int .i64 s2) ∧ w'.cell? ⟨gbp, 0, none⟩ = some (.int .i64 t0) ∧ w'.cell? ⟨gbp, 1, none⟩ = some (.int .i64 t1)) (ds := [10]) #[false, false, false, false, false, false, false, false, false, false, false] (by kernel_rfl) rfl rfl (⟨(blk_cell BKb.out 0).trans rfl, (blk_cell BKb.out 1).trans rfl, (blk_cell BKb.out 2).trans rfl, (blk_cell BKgbp.out 0).trans rfl, (blk_cell BKgbp.out 1).trans rfl⟩) (fun hHeld => ?_)
  refine pure_ (i := 0) (N := some 20) (v := ?_) (a' := ?_) #[true, false, false, false, false, false, false, false, false, false, false] rfl rfl (by kernel_rfl) (fun _ _ _ h => h) (Or.inl ⟨by rfl, ?_⟩) ?_ ?_
  rotate_left
  · intro w'
    go_simp
    with_reducible rfl
  rotate_left
  · simp only [Act.put, List.setIfInBounds_toArray, List.set_cons_zero, List.set_cons_succ, i64_w, i32_w]
    rfl
  refine pure_ (i := 1) (N := some 21) (v := ?_) (a' := ?_) #[true, true, false, false, false, false, false, false, false, false, false] rfl rfl (by kernel_rfl) (fun _ _ _ h => h) (Or.inl ⟨by rfl, ?_⟩) ?_ ?_
  rotate_left
  · intro w'
    go_simp
    with_reducible rfl
  rotate_left
  · simp only [Act.put, List.setIfInBounds_toArray, List.set_cons_zero, List.set_cons_succ, i64_w, i32_w]
    rfl
  refine pure_ (i := 2) (N := some 22) (v := ?_) (a' := ?_) #[true, true, true, false, false, false, false, false, false, false, false] rfl rfl (by kernel_rfl) (fun _ _ _ h => h) (Or.inl ⟨by rfl, ?_⟩) ?_ ?_
  rotate_left
  · intro w'
    go_simp
    with_reducible rfl
  rotate_left
  · simp only [Act.put, List.setIfInBounds_toArray, List.set_cons_zero, List.set_cons_succ, i64_w, i32_w]
    rfl
  refine pure_ (i := 3) (N := some 23) (v := ?_) (a' := ?_) #[true, true, true, true, false, false, false, false, false, false, false] rfl rfl (by kernel_rfl) (fun _ _ _ h => h) (Or.inl ⟨by rfl, ?_⟩) ?_ ?_
  rotate_left
  · intro w'
    go_simp
    with_reducible rfl
  rotate_left
  · simp only [Act.put, List.setIfInBounds_toArray, List.set_cons_zero, List.set_cons_succ, i64_w, i32_w]
    rfl
  refine take_ (i := 4) (N := some 24) (v := ?_) (a' := ?_) #[true, true, true, true, true, false, false, false, false, false, false] rfl rfl (by kernel_rfl) (fun _ _ _ h => h) (Or.inl ⟨by rfl, ?_⟩) hHeld ?_ ?_
  rotate_left
  · rintro w' hS_; (try dsimp only at hS_)
    go_simp
    with_reducible rfl
  rotate_left
  · simp only [Act.put, List.setIfInBounds_toArray, List.set_cons_zero, List.set_cons_succ, i64_w, i32_w]
    rfl
  refine pure_ (i := 5) (N := some 25) (v := ?_) (a' := ?_) #[true, true, true, true, true, true, false, false, false, false, false] rfl rfl (by kernel_rfl) (fun _ _ _ h => h) (Or.inl ⟨by rfl, ?_⟩) ?_ ?_
  rotate_left
  · intro w'
    go_simp
    with_reducible rfl
  rotate_left
  · simp only [Act.put, List.setIfInBounds_toArray, List.set_cons_zero, List.set_cons_succ, i64_w, i32_w]
    rfl
  refine take_ (i := 6) (N := some 26) (v := ?_) (a' := ?_) #[true, true, true, true, true, true, true, false, false, false, false] rfl rfl (by kernel_rfl) (fun _ _ _ h => h) (Or.inl ⟨by rfl, ?_⟩) hHeld ?_ ?_
  rotate_left
  · rintro w' hS_; (try dsimp only at hS_)
    go_simp
    with_reducible rfl
  rotate_left
  · simp only [Act.put, List.setIfInBounds_toArray, List.set_cons_zero, List.set_cons_succ, i64_w, i32_w]
    rfl
  refine one_ (i := 7) (N := some 27) #[true, true, true, true, true, true, true, true, false, false, false] rfl rfl (by kernel_rfl) (by decide) (fun K hK => ?_)
  refine goes_ Try.func49 (by kernel_rfl) rfl #[.int .i64 s0, .int .i64 t0] (by rfl) rfl rfl (by (try simp only [List.map_toArray, List.map_cons, List.map_nil]); first | done | rfl) ?_
  with_reducible refine (intervals_imin.calls s0 t0 m _ HA3.out).mono ?_
  rintro e w1 ⟨rfl, ⟨nd1, rfl⟩⟩
  refine ⟨_, rfl, ?_⟩
  refine hK.out _ _ (⟨(blk_cell BKb.out 0).trans rfl, (blk_cell BKb.out 1).trans rfl, (blk_cell BKb.out 2).trans rfl, (blk_cell BKgbp.out 0).trans rfl, (blk_cell BKgbp.out 1).trans rfl⟩) (fun hHeld => ?_)
  clear hK K
  refine norm_ (a' := ?_) ?_ ?_
  rotate_left
  · show Act.put _ (some 27) _ = _
    simp only [Act.put, List.setIfInBounds_toArray, List.set_cons_zero, List.set_cons_succ, i64_w, i32_w]
    rfl
  refine pure_ (i := 8) (N := some 28) (v := ?_) (a' := ?_) #[true, true, true, true, true, true, true, true, true, false, false] rfl rfl (by kernel_rfl) (fun _ _ _ h => h) (Or.inl ⟨by rfl, ?_⟩) ?_ ?_
  rotate_left
  · intro w'
    go_simp
    with_reducible rfl
  rotate_left
  · simp only [Act.put, List.setIfInBounds_toArray, List.set_cons_zero, List.set_cons_succ, i64_w, i32_w]
    rfl
  refine pure_ (i := 9) (N := some 29) (v := ?_) (a' := ?_) #[true, true, true, true, true, true, true, true, true, true, false] rfl rfl (by kernel_rfl) (fun _ _ _ h => h) (Or.inl ⟨by rfl, ?_⟩) ?_ ?_
  rotate_left
  · intro w'
    go_simp
    with_reducible rfl
  rotate_left
  · simp only [Act.put, List.setIfInBounds_toArray, List.set_cons_zero, List.set_cons_succ, i64_w, i32_w]
    rfl
  refine last_ (i := 10) (N := none) #[true, true, true, true, true, true, true, true, true, true, true] rfl rfl (by kernel_rfl) (by decide) (fun K hK => ?_)
  refine skip_ (w1 := ?_) (by rfl) rfl ?_ ?_
  rotate_left
  · go_simp
    rfl
  refine hK.out _ _ ?_
  clear hK K
  refine done_ (by kernel_rfl) ?_
  go_wp2
  refine wp_world (fun w' => True ∧ Only b w w' ∧ w'.heap[b]? = some (.cells #[.int .i64 m, .int .i64 s1, .int .i64 s2] 80 (0, 0)) ∧ w'.heap[gbp]? = some (.cells #[.int .i64 t0, .int .i64 t1] 53 (0, 0))) ⟨trivial, (by repeat (first | (with_reducible first | exact HO.out | apply Only.drewN | apply Only.drew | apply Only.alloc | apply Only.set | refine Only.far ?_ GWgbp.out _ _) | exact HO.out)), (by apply heap_is; (focus (repeat (first | with_reducible exact BKb.out | with_reducible apply blk_drewN | with_reducible apply blk_drew | with_reducible apply blk_alloc | with_reducible apply blk_set | (with_reducible apply blk_aside; assumption)))); first | rfl | (simp; done)), (by apply heap_is; (focus (repeat (first | with_reducible exact BKgbp.out | with_reducible apply blk_drewN | with_reducible apply blk_drew | with_reducible apply blk_alloc | with_reducible apply blk_set | (with_reducible apply blk_aside; assumption)))); first | rfl | (simp; done))⟩ ?_
  rintro w5 ⟨n0_, o0_, mb_, mgbp_⟩
  clear HB BKb BKgbp
  have HB := Aside0.mk n0_; clear n0_
  clear HO; have HO := Aside0.mk o0_; clear o0_
  have BKb := Aside0.mk mb_; clear mb_
  have BKgbp := Aside0.mk mgbp_; clear mgbp_
  clear hczw4b_0 hfzw4b_0
  clear hczw4b_1 hfzw4b_1
  clear hczw4b_2 hfzw4b_2
  clear hczw4gbp_0 hfzw4gbp_0
  clear hczw4gbp_1 hfzw4gbp_1
  have hczw5b_0 : w5.cell? ⟨b, 0, none⟩ = some (.int .i64 m) := (blk_cell BKb.out 0).trans rfl; have hfzw5b_0 := blk_frozen BKb.out 0
  have hczw5b_1 : w5.cell? ⟨b, 1, none⟩ = some (.int .i64 s1) := (blk_cell BKb.out 1).trans rfl; have hfzw5b_1 := blk_frozen BKb.out 1
  have hczw5b_2 : w5.cell? ⟨b, 2, none⟩ = some (.int .i64 s2) := (blk_cell BKb.out 2).trans rfl; have hfzw5b_2 := blk_frozen BKb.out 2
  have hczw5gbp_0 : w5.cell? ⟨gbp, 0, none⟩ = some (.int .i64 t0) := (blk_cell BKgbp.out 0).trans rfl; have hfzw5gbp_0 := blk_frozen BKgbp.out 0
  have hczw5gbp_1 : w5.cell? ⟨gbp, 1, none⟩ = some (.int .i64 t1) := (blk_cell BKgbp.out 1).trans rfl; have hfzw5gbp_1 := blk_frozen BKgbp.out 1
  refine start_ (n := 11) (S := fun w' => w'.cell? ⟨b, 0, none⟩ = some (.int .i64 m) ∧ w'.cell? ⟨b, 1, none⟩ = some (.int .i64 s1) ∧ w'.cell? ⟨b, 2, none⟩ = some (.int .i64 s2) ∧ w'.cell? ⟨gbp, 0, none⟩ = some (.int .i64 t0) ∧ w'.cell? ⟨gbp, 1, none⟩ = some (.int .i64 t1)) (ds := [10]) #[false, false, false, false, false, false, false, false, false, false, false] (by kernel_rfl) rfl rfl (⟨(blk_cell BKb.out 0).trans rfl, (blk_cell BKb.out 1).trans rfl, (blk_cell BKb.out 2).trans rfl, (blk_cell BKgbp.out 0).trans rfl, (blk_cell BKgbp.out 1).trans rfl⟩) (fun hHeld => ?_)
  refine pure_ (i := 0) (N := some 30) (v := ?_) (a' := ?_) #[true, false, false, false, false, false, false, false, false, false, false] rfl rfl (by kernel_rfl) (fun _ _ _ h => h) (Or.inl ⟨by rfl, ?_⟩) ?_ ?_
  rotate_left
  · intro w'
    go_simp
    with_reducible rfl
  rotate_left
  · simp only [Act.put, List.setIfInBounds_toArray, List.set_cons_zero, List.set_cons_succ, i64_w, i32_w]
    rfl
  refine pure_ (i := 1) (N := some 31) (v := ?_) (a' := ?_) #[true, true, false, false, false, false, false, false, false, false, false] rfl rfl (by kernel_rfl) (fun _ _ _ h => h) (Or.inl ⟨by rfl, ?_⟩) ?_ ?_
  rotate_left
  · intro w'
    go_simp
    with_reducible rfl
  rotate_left
  · simp only [Act.put, List.setIfInBounds_toArray, List.set_cons_zero, List.set_cons_succ, i64_w, i32_w]
    rfl
  refine pure_ (i := 2) (N := some 32) (v := ?_) (a' := ?_) #[true, true, true, false, false, false, false, false, false, false, false] rfl rfl (by kernel_rfl) (fun _ _ _ h => h) (Or.inl ⟨by rfl, ?_⟩) ?_ ?_
  rotate_left
  · intro w'
    go_simp
    with_reducible rfl
  rotate_left
  · simp only [Act.put, List.setIfInBounds_toArray, List.set_cons_zero, List.set_cons_succ, i64_w, i32_w]
    rfl
  refine pure_ (i := 3) (N := some 33) (v := ?_) (a' := ?_) #[true, true, true, true, false, false, false, false, false, false, false] rfl rfl (by kernel_rfl) (fun _ _ _ h => h) (Or.inl ⟨by rfl, ?_⟩) ?_ ?_
  rotate_left
  · intro w'
    go_simp
    with_reducible rfl
  rotate_left
  · simp only [Act.put, List.setIfInBounds_toArray, List.set_cons_zero, List.set_cons_succ, i64_w, i32_w]
    rfl
  refine take_ (i := 4) (N := some 34) (v := ?_) (a' := ?_) #[true, true, true, true, true, false, false, false, false, false, false] rfl rfl (by kernel_rfl) (fun _ _ _ h => h) (Or.inl ⟨by rfl, ?_⟩) hHeld ?_ ?_
  rotate_left
  · rintro w' hS_; (try dsimp only at hS_)
    go_simp
    with_reducible rfl
  rotate_left
  · simp only [Act.put, List.setIfInBounds_toArray, List.set_cons_zero, List.set_cons_succ, i64_w, i32_w]
    rfl
  refine pure_ (i := 5) (N := some 35) (v := ?_) (a' := ?_) #[true, true, true, true, true, true, false, false, false, false, false] rfl rfl (by kernel_rfl) (fun _ _ _ h => h) (Or.inl ⟨by rfl, ?_⟩) ?_ ?_
  rotate_left
  · intro w'
    go_simp
    with_reducible rfl
  rotate_left
  · simp only [Act.put, List.setIfInBounds_toArray, List.set_cons_zero, List.set_cons_succ, i64_w, i32_w]
    rfl
  refine take_ (i := 6) (N := some 36) (v := ?_) (a' := ?_) #[true, true, true, true, true, true, true, false, false, false, false] rfl rfl (by kernel_rfl) (fun _ _ _ h => h) (Or.inl ⟨by rfl, ?_⟩) hHeld ?_ ?_
  rotate_left
  · rintro w' hS_; (try dsimp only at hS_)
    go_simp
    with_reducible rfl
  rotate_left
  · simp only [Act.put, List.setIfInBounds_toArray, List.set_cons_zero, List.set_cons_succ, i64_w, i32_w]
    rfl
  refine one_ (i := 7) (N := some 37) #[true, true, true, true, true, true, true, true, false, false, false] rfl rfl (by kernel_rfl) (by decide) (fun K hK => ?_)
  refine goes_ Try.func50 (by kernel_rfl) rfl #[.int .i64 s1, .int .i64 t1] (by rfl) rfl rfl (by (try simp only [List.map_toArray, List.map_cons, List.map_nil]); first | done | rfl) ?_
  with_reducible refine (intervals_imax.calls s1 t1 M _ HA4.out).mono ?_
  rintro e w1 ⟨rfl, ⟨nd2, rfl⟩⟩
  refine ⟨_, rfl, ?_⟩
  refine hK.out _ _ (⟨(blk_cell BKb.out 0).trans rfl, (blk_cell BKb.out 1).trans rfl, (blk_cell BKb.out 2).trans rfl, (blk_cell BKgbp.out 0).trans rfl, (blk_cell BKgbp.out 1).trans rfl⟩) (fun hHeld => ?_)
  clear hK K
  refine norm_ (a' := ?_) ?_ ?_
  rotate_left
  · show Act.put _ (some 37) _ = _
    simp only [Act.put, List.setIfInBounds_toArray, List.set_cons_zero, List.set_cons_succ, i64_w, i32_w]
    rfl
  refine pure_ (i := 8) (N := some 38) (v := ?_) (a' := ?_) #[true, true, true, true, true, true, true, true, true, false, false] rfl rfl (by kernel_rfl) (fun _ _ _ h => h) (Or.inl ⟨by rfl, ?_⟩) ?_ ?_
  rotate_left
  · intro w'
    go_simp
    with_reducible rfl
  rotate_left
  · simp only [Act.put, List.setIfInBounds_toArray, List.set_cons_zero, List.set_cons_succ, i64_w, i32_w]
    rfl
  refine pure_ (i := 9) (N := some 39) (v := ?_) (a' := ?_) #[true, true, true, true, true, true, true, true, true, true, false] rfl rfl (by kernel_rfl) (fun _ _ _ h => h) (Or.inl ⟨by rfl, ?_⟩) ?_ ?_
  rotate_left
  · intro w'
    go_simp
    with_reducible rfl
  rotate_left
  · simp only [Act.put, List.setIfInBounds_toArray, List.set_cons_zero, List.set_cons_succ, i64_w, i32_w]
    rfl
  refine last_ (i := 10) (N := none) #[true, true, true, true, true, true, true, true, true, true, true] rfl rfl (by kernel_rfl) (by decide) (fun K hK => ?_)
  refine skip_ (w1 := ?_) (by rfl) rfl ?_ ?_
  rotate_left
  · go_simp
    rfl
  refine hK.out _ _ ?_
  clear hK K
  refine done_ (by kernel_rfl) ?_
  go_wp2
  go_ret
  exact ⟨by first | rfl | (simp; done), (by apply heap_is; (focus (repeat (first | with_reducible exact BKb.out | with_reducible apply blk_drewN | with_reducible apply blk_drew | with_reducible apply blk_alloc | with_reducible apply blk_set | (with_reducible apply blk_aside; assumption)))); first | rfl | (simp; done)), by repeat (first | (with_reducible first | exact HO.out | apply Only.drewN | apply Only.drew | apply Only.alloc | apply Only.set | refine Only.far ?_ GWgbp.out _ _) | exact HO.out)⟩
end Go.Proofs.Ytlgdibeklelfgaa.PAll
