/- The builder of intervals: last, setLast, Live, Kill, Finish by hand. -/
import Derived.Test.YtlgdibeklelfgaaHRow
import Derived.Test.YtlgdibeklelfgaaHCk
namespace Go.Proofs.Ytlgdibeklelfgaa.PAll
open Go.RowKit Go.Proofs.YtlgdibeklelfgaaW.PrintWords Go.Proofs.YtlgdibeklelfgaaW.PrintLast Go.Proofs.YtlgdibeklelfgaaW.PrintMore
attribute [local go_sem] max2_int min2_int max_two min_two max_three min_three max_four min_four
set_option linter.unusedVariables false
set_option linter.unusedSimpArgs false
/-- The builder's state in the block cb: the row of the call's own, in the order in which it was appended; the place behind the last event, or 0. -/
def BSt (B cb : Nat) (R : List S53) (x : Int) (u : World) : Prop := ∃ v, u.heap[cb]? = some (.cells #[v, .int .i64 x] 70 (0, 0)) ∧ RV B v R u
def BPost (w : World) (cb : Nat) (R : List S53) (x : Int) (e : Ending) (w' : World) : Prop := e = .returned .nilIface ∧ BSt w.heap.size cb R x w' ∧ Below w.heap.size w w'
set_option maxHeartbeats 2000000 in
set_option maxRecDepth 100000 in
theorem last_c (v : Value) (x : Int) (cb : Nat) (u : World) (hb : u.heap[cb]? = some (.cells #[v, .int .i64 x] 70 (0, 0))) (h0 : 0 ≤ x) (h1 : x ≤ 1099511627777) :
    Calls Try.prog 55 #[.pointer (some ⟨cb, 0, none⟩)] u fun e w' => e = .returned (.int .i64 (x - 1)) ∧ u = w' := by
  have hu70 := Try.underlying70
  have hc1 : World.cell? u ⟨cb, 1, none⟩ = some (.int .i64 x) := (blk_cell hb 1).trans rfl
  clear hb
  go_enter Try.func55, Try.ntmps55
  go_wp2
  go_ret
  exact ⟨by first | rfl | (simp; done), rfl⟩
set_option maxHeartbeats 2000000 in
set_option maxRecDepth 100000 in
theorem setLast_c (v : Value) (x y : Int) (cb : Nat) (u : World) (hb : u.heap[cb]? = some (.cells #[v, .int .i64 x] 70 (0, 0))) (h0 : -1 ≤ y) (h1 : y ≤ 1099511627777) :
    Calls Try.prog 56 #[.pointer (some ⟨cb, 0, none⟩), .int .i64 y] u fun e w' => e = .returned (.tuple #[]) ∧ w' = u.setCell ⟨cb, 1, none⟩ (.int .i64 (y + 1)) := by
  have hu70 := Try.underlying70
  have hc1 : World.cell? u ⟨cb, 1, none⟩ = some (.int .i64 x) := (blk_cell hb 1).trans rfl
  have hf1 := blk_frozen hb 1
  clear hb
  go_enter Try.func56, Try.ntmps56
  go_wp2
  first | go_end0 | ((try simp only [Exit.inBlock, Exit.then]); refine bodyPost_ret (results_none rfl _ _ _) rfl ?_)
  exact ⟨by first | rfl | (simp; done), by first | rfl | (simp; done)⟩
theorem setLast_o (v : Value) (x y : Int) (cb : Nat) (u : World) (hb : u.heap[cb]? = some (.cells #[v, .int .i64 x] 70 (0, 0))) (h0 : -1 ≤ y) (h1 : y ≤ 1099511627777) :
    Calls Try.prog 56 #[.pointer (some ⟨cb, 0, none⟩), .int .i64 y] u fun e w' => e = .returned (.tuple #[]) ∧ w'.heap[cb]? = some (.cells #[v, .int .i64 (y + 1)] 70 (0, 0)) ∧ Only cb u w' := by
  refine (setLast_c v x y cb u hb h0 h1).mono ?_
  rintro e w' ⟨rfl, rfl⟩
  exact ⟨rfl, heap_is (blk_set hb 1 _) rfl, Only.set (Only.refl _ _) _ _⟩
set_option maxHeartbeats 2000000 in
set_option maxRecDepth 100000 in
theorem live0 (R : List S53) (p : Int) (cb : Nat) (w u : World) (hB : Below w.heap.size w u) (hg : w.heap.size ≤ cb) (hS : BSt w.heap.size cb R 0 u) (p0 : 0 ≤ p) (p1 : p ≤ 1099511627776) (hn : R.length ≤ 4294967296) :
    Calls Try.prog 43 #[.pointer (some ⟨cb, 0, none⟩), .int .i64 p] u (BPost w cb (R ++ [(⟨p, p + 1⟩ : S53)]) (p + 1)) := by
  have hu70 := Try.underlying70
  have hu53 := Try.underlying53
  have HB := Aside0.mk hB
  have GEcb := Aside0.mk hg
  obtain ⟨v, hb, hr⟩ := hS
  have pa : decide (p < 0) = false := decide_eq_false (by omega)
  have HR := Aside0.mk hr
  have BKcb := Aside0.mk hb
  have HLEN := Aside0.mk hn
  have hczucb_0 : World.cell? u ⟨cb, 0, none⟩ = some (v) := (blk_cell BKcb.out 0).trans rfl; have hfzucb_0 := blk_frozen BKcb.out 0
  have hczucb_1 : World.cell? u ⟨cb, 1, none⟩ = some (.int .i64 0) := (blk_cell BKcb.out 1).trans rfl; have hfzucb_1 := blk_frozen BKcb.out 1
  clear hb hr hB hg hn
  go_enter Try.func43, Try.ntmps43
  go_wp2_with (first | (go_at_call 55; (with_reducible refine (last_c _ 0 cb _ (by apply heap_is; (focus (repeat (first | with_reducible exact BKcb.out | with_reducible apply blk_drewN | with_reducible apply blk_drew | with_reducible apply blk_alloc | with_reducible apply blk_set | (with_reducible apply blk_aside; assumption)))); first | rfl | (simp; done)) (by omega) (by omega)).mono ?_); rintro e wl ⟨rfl, rfl⟩) | (go_at_call 56; (with_reducible refine (setLast_o _ 0 p cb _ (by apply heap_is; (focus (repeat (first | with_reducible exact BKcb.out | with_reducible apply blk_drewN | with_reducible apply blk_drew | with_reducible apply blk_alloc | with_reducible apply blk_set | (with_reducible apply blk_aside; assumption)))); first | rfl | (simp; done)) (by omega) (by omega)).mono ?_); rintro e wl ⟨rfl, hh, hO⟩; have xHR_ := Aside0.mk (RV.only (B := w.heap.size) (v := v) (R := R) hO (t := 70) (by decide) (by repeat (first | exact ⟨_, BKcb.out⟩ | with_reducible apply IsT.set | with_reducible apply IsT.drewN | with_reducible apply IsT.drew | with_reducible apply IsT.alloc)) (by repeat (first | with_reducible exact HR.out | with_reducible apply RV.drewN | with_reducible apply RV.drew | with_reducible apply RV.alloc | ((with_reducible refine RV.set (t := 70) (by decide) ?_ ?_); focus repeat (first | exact ⟨_, BKcb.out⟩ | with_reducible apply IsT.set | with_reducible apply IsT.drewN | with_reducible apply IsT.drew | with_reducible apply IsT.alloc))))); have n0_ := Aside0.mk (Only.below hO (by repeat (first | (with_reducible first | exact HB.out | apply below_alloc | apply pw_below_drewN | apply below_drew1 | refine below_set ?_ GEcb.out) | exact HB.out)) GEcb.out (below_size (by repeat (first | (with_reducible first | exact HB.out | apply below_alloc | apply pw_below_drewN | apply below_drew1 | refine below_set ?_ GEcb.out) | exact HB.out)))); clear HB HR BKcb; have HB := n0_; have HR := xHR_; have BKcb := Aside0.mk hh; clear n0_ xHR_ hh hO; have hczl_0 : World.cell? wl ⟨cb, 0, none⟩ = some v := (blk_cell BKcb.out 0).trans rfl; have hczl_1 : World.cell? wl ⟨cb, 1, none⟩ = some (.int .i64 (p + 1)) := (blk_cell BKcb.out 1).trans rfl) | ((with_reducible refine gate_builtin (b := .append) (xs := #[.tmp 18, .tmp 23]) rfl ?_); at_builtin; refine Kd.R_append k53 (w0 := w) w.heap.size rfl (.tmp 18) (.tmp 23) 62 53 (.agg #[(.int .i64 0), (.int .i64 0)]) 16 rfl Try.underlying62 info53 rfl (by decide) (by omega) v R (⟨p, (p + 1)⟩ : S53) [.int .i64 p, .int .i64 (p + 1)] (fun _ => True) (fun _ => False) rfl rfl ?aP1 (fun _ hk => hk.elim) ?aF1 ?aO1 ?aB1 ?aS1 ?aL1 ?_; (case aP1 => exact k53_mkM _ _ _ (⟨p, (p + 1)⟩ : S53)); (case aB1 => exact (by repeat (first | (with_reducible first | exact HB.out | apply below_alloc | apply pw_below_drewN | apply below_drew1 | refine below_set ?_ GEcb.out) | exact HB.out))); (case aF1 => exact (fun _ _ => trivial)); (case aO1 => exact (show RV w.heap.size v R _ from (by repeat (first | with_reducible exact HR.out | with_reducible apply RV.drewN | with_reducible apply RV.drew | with_reducible apply RV.alloc | ((with_reducible refine RV.set (t := 70) (by decide) ?_ ?_); focus repeat (first | exact ⟨_, BKcb.out⟩ | with_reducible apply IsT.set | with_reducible apply IsT.drewN | with_reducible apply IsT.drew | with_reducible apply IsT.alloc)))))); (case aS1 => exact (below_size (by repeat (first | (with_reducible first | exact HB.out | apply below_alloc | apply pw_below_drewN | apply below_drew1 | refine below_set ?_ GEcb.out) | exact HB.out)))); (case aL1 => have := HLEN.out; omega); intro v1 wb ho hb hg hat; have mcb_ := Aside0.mk (blk_grown (g := cb) (o := .cells #[v, .int .i64 (p + 1)] 70 (0, 0)) (by apply heap_is; (focus (repeat (first | with_reducible exact BKcb.out | with_reducible apply blk_drewN | with_reducible apply blk_drew | with_reducible apply blk_alloc | with_reducible apply blk_set | (with_reducible apply blk_aside; assumption)))); first | rfl | (simp; done)) hg (RV.ne (B := w.heap.size) (v := v) (R := R) (t := 70) (by repeat (first | with_reducible exact HR.out | with_reducible apply RV.drewN | with_reducible apply RV.drew | with_reducible apply RV.alloc | ((with_reducible refine RV.set (t := 70) (by decide) ?_ ?_); focus repeat (first | exact ⟨_, BKcb.out⟩ | with_reducible apply IsT.set | with_reducible apply IsT.drewN | with_reducible apply IsT.drew | with_reducible apply IsT.alloc)))) (by repeat (first | exact ⟨_, BKcb.out⟩ | with_reducible apply IsT.set | with_reducible apply IsT.drewN | with_reducible apply IsT.drew | with_reducible apply IsT.alloc)) (by decide))); clear BKcb; clear HB HR; have HB := Aside0.mk hb; have HR := Aside0.mk (show RV w.heap.size v1 (R ++ [(⟨p, (p + 1)⟩ : S53)]) wb from ho); clear hb hg hat ho; have BKcb := mcb_; clear mcb_; have hczwbcb_0 : World.cell? wb ⟨cb, 0, none⟩ = some (v) := (blk_cell BKcb.out 0).trans rfl; have hfzwbcb_0 := blk_frozen BKcb.out 0; have hczwbcb_1 : World.cell? wb ⟨cb, 1, none⟩ = some (.int .i64 (p + 1)) := (blk_cell BKcb.out 1).trans rfl; have hfzwbcb_1 := blk_frozen BKcb.out 1; obtain ⟨A9, c9, rfl⟩ : ∃ A c, v1 = Value.slice A (R.length + 1) c := by (obtain ⟨A, c, e⟩ := Kd.R_slice (show Kd.R k53 53 wb w.heap.size (fun _ => True) v1 _ from HR.out); exact ⟨A, c, by rw [e, List.length_append, List.length_singleton]⟩)))
  go_ret
  exact ⟨by first | rfl | (simp; done), ⟨_, (by apply heap_is; (focus (repeat (first | with_reducible exact BKcb.out | with_reducible apply blk_drewN | with_reducible apply blk_drew | with_reducible apply blk_alloc | with_reducible apply blk_set | (with_reducible apply blk_aside; assumption)))); first | rfl | (simp; done)), (by repeat (first | with_reducible exact HR.out | with_reducible apply RV.drewN | with_reducible apply RV.drew | with_reducible apply RV.alloc | ((with_reducible refine RV.set (t := 70) (by decide) ?_ ?_); focus repeat (first | exact ⟨_, BKcb.out⟩ | with_reducible apply IsT.set | with_reducible apply IsT.drewN | with_reducible apply IsT.drew | with_reducible apply IsT.alloc))))⟩, by repeat (first | (with_reducible first | exact HB.out | apply below_alloc | apply pw_below_drewN | apply below_drew1 | refine below_set ?_ GEcb.out) | exact HB.out)⟩
set_option maxHeartbeats 2000000 in
set_option maxRecDepth 100000 in
theorem kill0 (R : List S53) (p : Int) (cb : Nat) (w u : World) (hB : Below w.heap.size w u) (hg : w.heap.size ≤ cb) (hS : BSt w.heap.size cb R 0 u) (p0 : 0 ≤ p) (p1 : p ≤ 1099511627776) :
    Calls Try.prog 42 #[.pointer (some ⟨cb, 0, none⟩), .int .i64 p] u (BPost w cb R 0) := by
  have hu70 := Try.underlying70
  have hu53 := Try.underlying53
  have HB := Aside0.mk hB
  have GEcb := Aside0.mk hg
  obtain ⟨v, hb, hr⟩ := hS
  have pa : decide (p < 0) = false := decide_eq_false (by omega)
  have HR := Aside0.mk hr
  have BKcb := Aside0.mk hb
  have hczucb_0 : World.cell? u ⟨cb, 0, none⟩ = some (v) := (blk_cell BKcb.out 0).trans rfl; have hfzucb_0 := blk_frozen BKcb.out 0
  have hczucb_1 : World.cell? u ⟨cb, 1, none⟩ = some (.int .i64 0) := (blk_cell BKcb.out 1).trans rfl; have hfzucb_1 := blk_frozen BKcb.out 1
  clear hb hr hB hg
  go_enter Try.func42, Try.ntmps42
  go_wp2_with (first | (go_at_call 55; (with_reducible refine (last_c _ 0 cb _ (by apply heap_is; (focus (repeat (first | with_reducible exact BKcb.out | with_reducible apply blk_drewN | with_reducible apply blk_drew | with_reducible apply blk_alloc | with_reducible apply blk_set | (with_reducible apply blk_aside; assumption)))); first | rfl | (simp; done)) (by omega) (by omega)).mono ?_); rintro e wl ⟨rfl, rfl⟩))
  go_ret
  exact ⟨by first | rfl | (simp; done), ⟨v, (by apply heap_is; (focus (repeat (first | with_reducible exact BKcb.out | with_reducible apply blk_drewN | with_reducible apply blk_drew | with_reducible apply blk_alloc | with_reducible apply blk_set | (with_reducible apply blk_aside; assumption)))); first | rfl | (simp; done)), (by repeat (first | with_reducible exact HR.out | with_reducible apply RV.drewN | with_reducible apply RV.drew | with_reducible apply RV.alloc | ((with_reducible refine RV.set (t := 70) (by decide) ?_ ?_); focus repeat (first | exact ⟨_, BKcb.out⟩ | with_reducible apply IsT.set | with_reducible apply IsT.drewN | with_reducible apply IsT.drew | with_reducible apply IsT.alloc))))⟩, by repeat (first | (with_reducible first | exact HB.out | apply below_alloc | apply pw_below_drewN | apply below_drew1 | refine below_set ?_ GEcb.out) | exact HB.out)⟩
set_option maxHeartbeats 2000000 in
set_option maxRecDepth 100000 in
theorem live1 (R : List S53) (t : S53) (x : Int) (p : Int) (cb : Nat) (w u : World) (hB : Below w.heap.size w u) (hg : w.heap.size ≤ cb) (hS : BSt w.heap.size cb (R ++ [t]) x u) (p0 : 0 ≤ p) (p1 : p ≤ 1099511627776) (hn : R.length ≤ 4294967296) (hx0 : 0 < x) (hx : p < x - 1) (hx1 : x ≤ 1099511627777) :
    Calls Try.prog 43 #[.pointer (some ⟨cb, 0, none⟩), .int .i64 p] u (BPost w cb (R ++ [(⟨p, t.f1⟩ : S53)]) (p + 1)) := by
  have hu70 := Try.underlying70
  have hu53 := Try.underlying53
  have HB := Aside0.mk hB
  have GEcb := Aside0.mk hg
  obtain ⟨v, hb, hr⟩ := hS
  have pa : decide (p < 0) = false := decide_eq_false (by omega)
  obtain ⟨g, cap, rfl, hBg, hglt, hT, hcell, hfr, hset⟩ := RV.last (RV.drew hr)
  have NBcb_g : cb ≠ g := IsT.ne (w := u.drew) (g := cb) (g' := g) ⟨_, blk_drew hb⟩ hT (by decide)
  have NBg_cb : g ≠ cb := Ne.symm NBcb_g
  have GEg := Aside0.mk hBg
  have HSET := Aside0.mk (hset p)
  have BKcb := Aside0.mk hb
  obtain ⟨m, hm⟩ : ∃ m, m = R.length := ⟨_, rfl⟩
  rw [← hm] at hcell hfr hb
  have m1 : (m : Int) ≤ 4294967296 := by omega
  have m0 : (0 : Int) ≤ (m : Int) := by omega
  have b2 : -9223372036854775808 ≤ (m : Int) ∧ (m : Int) ≤ 9223372036854775807 := by omega
  have s20 : IntKind.i64.wrap (m : Int) = (m : Int) := IntWalk.i64_in _ b2
  have s21 : wrap64 (m : Int) = (m : Int) := IntWalk.wrap64_in _ b2
  have s22 : IntKind.i64.wrap (p + 1) = p + 1 := IntWalk.i64_in _ (by omega)
  have s23 : wrap64 (p + 1) = p + 1 := IntWalk.wrap64_in _ (by omega)
  have s24 : (((m + 1 : Nat) : Int) - 1) = (m : Int) := by omega
  have q0 : ((m : Int) < ((m + 1 : Nat) : Int)) = True := eq_true (by omega)
  have q1 : ((m : Int) < (m : Int) + 1) = True := eq_true (by omega)
  have e1 : (x - 1 == -1) = false := by simp; omega
  have e2 : decide (x - 1 ≤ p) = false := decide_eq_false (by omega)
  have HM := Aside0.mk hm
  have x0 : 0 ≤ x := by omega
  clear b2 hset hT hglt hm
  rw [← HM.out] at BKcb HSET
  have hczucb_0 : World.cell? u ⟨cb, 0, none⟩ = some (.slice (some ⟨g, 0, none⟩) (m + 1) cap) := (blk_cell BKcb.out 0).trans rfl; have hfzucb_0 := blk_frozen BKcb.out 0
  have hczucb_1 : World.cell? u ⟨cb, 1, none⟩ = some (.int .i64 x) := (blk_cell BKcb.out 1).trans rfl; have hfzucb_1 := blk_frozen BKcb.out 1
  have hcell' : World.cell? u ⟨g, m * 2, none⟩ = some (.int .i64 t.f0) := hcell
  have hfr' : World.frozen? u ⟨g, m * 2, none⟩ = false := hfr
  clear hcell hfr hb hr hB hg hn hx
  go_enter Try.func43, Try.ntmps43
  go_wp2_with (first | (go_at_call 55; (with_reducible refine (last_c _ x cb _ (by apply heap_is; (focus (repeat (first | with_reducible exact BKcb.out | with_reducible apply blk_drewN | with_reducible apply blk_drew | with_reducible apply blk_alloc | with_reducible apply blk_set | (with_reducible apply blk_aside; assumption)))); first | rfl | (simp; done)) x0 hx1).mono ?_); rintro e wl ⟨rfl, rfl⟩))
  refine start_ (n := 14) (S := fun w' => w'.cell? ⟨cb, 0, none⟩ = some (.slice (some ⟨g, 0, none⟩) (m + 1) cap) ∧ w'.cell? ⟨cb, 1, none⟩ = some (.int .i64 x)) (ds := [13]) #[false, false, false, false, false, false, false, false, false, false, false, false, false, false] (by kernel_rfl) rfl rfl (⟨(blk_cell BKcb.out 0).trans rfl, (blk_cell BKcb.out 1).trans rfl⟩) (fun hHeld => ?_)
  refine pure_ (i := 0) (N := some 32) (v := ?_) (a' := ?_) #[true, false, false, false, false, false, false, false, false, false, false, false, false, false] rfl rfl (by kernel_rfl) (fun _ _ _ h => h) (Or.inl ⟨by rfl, ?_⟩) ?_ ?_
  rotate_left
  · intro w'
    go_simp
    with_reducible rfl
  rotate_left
  · simp only [Act.put, List.setIfInBounds_toArray, List.set_cons_zero, List.set_cons_succ, i64_w, i32_w]
    rfl
  refine pure_ (i := 1) (N := some 33) (v := ?_) (a' := ?_) #[true, true, false, false, false, false, false, false, false, false, false, false, false, false] rfl rfl (by kernel_rfl) (fun _ _ _ h => h) (Or.inl ⟨by rfl, ?_⟩) ?_ ?_
  rotate_left
  · intro w'
    go_simp
    with_reducible rfl
  rotate_left
  · simp only [Act.put, List.setIfInBounds_toArray, List.set_cons_zero, List.set_cons_succ, i64_w, i32_w]
    rfl
  refine pure_ (i := 2) (N := some 34) (v := ?_) (a' := ?_) #[true, true, true, false, false, false, false, false, false, false, false, false, false, false] rfl rfl (by kernel_rfl) (fun _ _ _ h => h) (Or.inl ⟨by rfl, ?_⟩) ?_ ?_
  rotate_left
  · intro w'
    go_simp
    with_reducible rfl
  rotate_left
  · simp only [Act.put, List.setIfInBounds_toArray, List.set_cons_zero, List.set_cons_succ, i64_w, i32_w]
    rfl
  refine take_ (i := 3) (N := some 35) (v := ?_) (a' := ?_) #[true, true, true, true, false, false, false, false, false, false, false, false, false, false] rfl rfl (by kernel_rfl) (fun _ _ _ h => h) (Or.inl ⟨by rfl, ?_⟩) hHeld ?_ ?_
  rotate_left
  · rintro w' hS_; (try dsimp only at hS_)
    go_simp
    with_reducible rfl
  rotate_left
  · simp only [Act.put, List.setIfInBounds_toArray, List.set_cons_zero, List.set_cons_succ, i64_w, i32_w]
    rfl
  refine pure_ (i := 4) (N := some 36) (v := ?_) (a' := ?_) #[true, true, true, true, true, false, false, false, false, false, false, false, false, false] rfl rfl (by kernel_rfl) (fun _ _ _ h => h) (Or.inl ⟨by rfl, ?_⟩) ?_ ?_
  rotate_left
  · intro w'
    go_simp
    with_reducible rfl
  rotate_left
  · simp only [Act.put, List.setIfInBounds_toArray, List.set_cons_zero, List.set_cons_succ, i64_w, i32_w]
    rfl
  refine pure_ (i := 5) (N := some 37) (v := ?_) (a' := ?_) #[true, true, true, true, true, true, false, false, false, false, false, false, false, false] rfl rfl (by kernel_rfl) (fun _ _ _ h => h) (Or.inl ⟨by rfl, ?_⟩) ?_ ?_
  rotate_left
  · intro w'
    go_simp
    with_reducible rfl
  rotate_left
  · simp only [Act.put, List.setIfInBounds_toArray, List.set_cons_zero, List.set_cons_succ, i64_w, i32_w]
    rfl
  refine pure_ (i := 6) (N := some 38) (v := ?_) (a' := ?_) #[true, true, true, true, true, true, true, false, false, false, false, false, false, false] rfl rfl (by kernel_rfl) (fun _ _ _ h => h) (Or.inl ⟨by rfl, ?_⟩) ?_ ?_
  rotate_left
  · intro w'
    go_simp
    with_reducible rfl
  rotate_left
  · simp only [Act.put, List.setIfInBounds_toArray, List.set_cons_zero, List.set_cons_succ, i64_w, i32_w]
    rfl
  refine take_ (i := 7) (N := some 39) (v := ?_) (a' := ?_) #[true, true, true, true, true, true, true, true, false, false, false, false, false, false] rfl rfl (by kernel_rfl) (fun _ _ _ h => h) (Or.inl ⟨by rfl, ?_⟩) hHeld ?_ ?_
  rotate_left
  · rintro w' hS_; (try dsimp only at hS_)
    go_simp
    with_reducible rfl
  rotate_left
  · simp only [Act.put, List.setIfInBounds_toArray, List.set_cons_zero, List.set_cons_succ, i64_w, i32_w]
    rfl
  refine pure_ (i := 8) (N := some 40) (v := ?_) (a' := ?_) #[true, true, true, true, true, true, true, true, true, false, false, false, false, false] rfl rfl (by kernel_rfl) (fun _ _ _ h => h) (Or.inl ⟨by rfl, ?_⟩) ?_ ?_
  rotate_left
  · intro w'
    go_simp
    with_reducible rfl
  rotate_left
  · simp only [Act.put, List.setIfInBounds_toArray, List.set_cons_zero, List.set_cons_succ, i64_w, i32_w]
    rfl
  refine pure_ (i := 9) (N := some 41) (v := ?_) (a' := ?_) #[true, true, true, true, true, true, true, true, true, true, false, false, false, false] rfl rfl (by kernel_rfl) (fun _ _ _ h => h) (Or.inl ⟨by rfl, ?_⟩) ?_ ?_
  rotate_left
  · intro w'
    go_simp
    with_reducible rfl
  rotate_left
  · simp only [Act.put, List.setIfInBounds_toArray, List.set_cons_zero, List.set_cons_succ, i64_w, i32_w]
    rfl
  refine pure_ (i := 10) (N := some 42) (v := ?_) (a' := ?_) #[true, true, true, true, true, true, true, true, true, true, true, false, false, false] rfl rfl (by kernel_rfl) (fun _ _ _ h => h) (Or.inl ⟨by rfl, ?_⟩) ?_ ?_
  rotate_left
  · intro w'
    go_simp
    with_reducible rfl
  rotate_left
  · simp only [Act.put, List.setIfInBounds_toArray, List.set_cons_zero, List.set_cons_succ, i64_w, i32_w]
    rfl
  refine pure_ (i := 11) (N := some 43) (v := ?_) (a' := ?_) #[true, true, true, true, true, true, true, true, true, true, true, true, false, false] rfl rfl (by kernel_rfl) (fun _ _ _ h => h) (Or.inl ⟨by rfl, ?_⟩) ?_ ?_
  rotate_left
  · intro w'
    go_simp
    with_reducible rfl
  rotate_left
  · simp only [Act.put, List.setIfInBounds_toArray, List.set_cons_zero, List.set_cons_succ, i64_w, i32_w]
    rfl
  refine pure_ (i := 12) (N := some 44) (v := ?_) (a' := ?_) #[true, true, true, true, true, true, true, true, true, true, true, true, true, false] rfl rfl (by kernel_rfl) (fun _ _ _ h => h) (Or.inl ⟨by rfl, ?_⟩) ?_ ?_
  rotate_left
  · intro w'
    go_simp
    with_reducible rfl
  rotate_left
  · simp only [Act.put, List.setIfInBounds_toArray, List.set_cons_zero, List.set_cons_succ, i64_w, i32_w]
    rfl
  refine last_ (i := 13) (N := none) #[true, true, true, true, true, true, true, true, true, true, true, true, true, true] rfl rfl (by kernel_rfl) (by decide) (fun K hK => ?_)
  refine skip_ (w1 := ?_) (by rfl) rfl ?_ ?_
  rotate_left
  · go_simp
    rfl
  refine hK.out _ _ ?_
  clear hK K
  refine done_ (by kernel_rfl) ?_
  go_wp2_with (first | (go_at_call 56; (with_reducible refine (setLast_c _ x p cb _ (by apply heap_is; (focus (repeat (first | with_reducible exact BKcb.out | with_reducible apply blk_drewN | with_reducible apply blk_drew | with_reducible apply blk_alloc | with_reducible apply blk_set | (with_reducible apply blk_aside; assumption)))); first | rfl | (simp; done)) (by omega) (by omega)).mono ?_); rintro e wl ⟨rfl, rfl⟩))
  go_ret
  exact ⟨by first | rfl | (simp; done), ⟨_, (by apply heap_is; (focus (repeat (first | with_reducible exact BKcb.out | with_reducible apply blk_drewN | with_reducible apply blk_drew | with_reducible apply blk_alloc | with_reducible apply blk_set | (with_reducible apply blk_aside; assumption)))); first | rfl | (simp; done)), (by first | exact RV.set (t := 70) (by decide) (by repeat (first | exact ⟨_, BKcb.out⟩ | with_reducible apply IsT.set | with_reducible apply IsT.drewN | with_reducible apply IsT.drew | with_reducible apply IsT.alloc)) HSET.out | exact (by repeat (first | with_reducible exact HSET.out | with_reducible apply RV.drewN | with_reducible apply RV.drew | with_reducible apply RV.alloc | ((with_reducible refine RV.set (t := 70) (by decide) ?_ ?_); focus repeat (first | exact ⟨_, BKcb.out⟩ | with_reducible apply IsT.set | with_reducible apply IsT.drewN | with_reducible apply IsT.drew | with_reducible apply IsT.alloc)))))⟩, by repeat (first | (with_reducible first | exact HB.out | apply below_alloc | apply pw_below_drewN | apply below_drew1 | refine below_set ?_ GEcb.out | refine below_set ?_ GEg.out) | exact HB.out)⟩
set_option maxHeartbeats 2000000 in
set_option maxRecDepth 100000 in
theorem kill1 (R : List S53) (t : S53) (x : Int) (p : Int) (cb : Nat) (w u : World) (hB : Below w.heap.size w u) (hg : w.heap.size ≤ cb) (hS : BSt w.heap.size cb (R ++ [t]) x u) (p0 : 0 ≤ p) (p1 : p ≤ 1099511627776) (hn : R.length ≤ 4294967296) (hx0 : 0 < x) (hx : p < x - 1) (hx1 : x ≤ 1099511627777) :
    Calls Try.prog 42 #[.pointer (some ⟨cb, 0, none⟩), .int .i64 p] u (BPost w cb (R ++ [(⟨p + 1, t.f1⟩ : S53)]) 0) := by
  have hu70 := Try.underlying70
  have hu53 := Try.underlying53
  have HB := Aside0.mk hB
  have GEcb := Aside0.mk hg
  obtain ⟨v, hb, hr⟩ := hS
  have pa : decide (p < 0) = false := decide_eq_false (by omega)
  obtain ⟨g, cap, rfl, hBg, hglt, hT, hcell, hfr, hset⟩ := RV.last (RV.drew hr)
  have NBcb_g : cb ≠ g := IsT.ne (w := u.drew) (g := cb) (g' := g) ⟨_, blk_drew hb⟩ hT (by decide)
  have NBg_cb : g ≠ cb := Ne.symm NBcb_g
  have GEg := Aside0.mk hBg
  have HSET := Aside0.mk (hset (p + 1))
  have BKcb := Aside0.mk hb
  obtain ⟨m, hm⟩ : ∃ m, m = R.length := ⟨_, rfl⟩
  rw [← hm] at hcell hfr hb
  have m1 : (m : Int) ≤ 4294967296 := by omega
  have m0 : (0 : Int) ≤ (m : Int) := by omega
  have b2 : -9223372036854775808 ≤ (m : Int) ∧ (m : Int) ≤ 9223372036854775807 := by omega
  have s20 : IntKind.i64.wrap (m : Int) = (m : Int) := IntWalk.i64_in _ b2
  have s21 : wrap64 (m : Int) = (m : Int) := IntWalk.wrap64_in _ b2
  have s22 : IntKind.i64.wrap (p + 1) = p + 1 := IntWalk.i64_in _ (by omega)
  have s23 : wrap64 (p + 1) = p + 1 := IntWalk.wrap64_in _ (by omega)
  have s24 : (((m + 1 : Nat) : Int) - 1) = (m : Int) := by omega
  have q0 : ((m : Int) < ((m + 1 : Nat) : Int)) = True := eq_true (by omega)
  have q1 : ((m : Int) < (m : Int) + 1) = True := eq_true (by omega)
  have e1 : (x - 1 == -1) = false := by simp; omega
  have e2 : decide (x - 1 ≤ p) = false := decide_eq_false (by omega)
  have HM := Aside0.mk hm
  have x0 : 0 ≤ x := by omega
  clear b2 hset hT hglt hm
  rw [← HM.out] at BKcb HSET
  have hczucb_0 : World.cell? u ⟨cb, 0, none⟩ = some (.slice (some ⟨g, 0, none⟩) (m + 1) cap) := (blk_cell BKcb.out 0).trans rfl; have hfzucb_0 := blk_frozen BKcb.out 0
  have hczucb_1 : World.cell? u ⟨cb, 1, none⟩ = some (.int .i64 x) := (blk_cell BKcb.out 1).trans rfl; have hfzucb_1 := blk_frozen BKcb.out 1
  have hcell' : World.cell? u ⟨g, m * 2, none⟩ = some (.int .i64 t.f0) := hcell
  have hfr' : World.frozen? u ⟨g, m * 2, none⟩ = false := hfr
  clear hcell hfr hb hr hB hg hn hx
  go_enter Try.func42, Try.ntmps42
  go_wp2_with (first | (go_at_call 55; (with_reducible refine (last_c _ x cb _ (by apply heap_is; (focus (repeat (first | with_reducible exact BKcb.out | with_reducible apply blk_drewN | with_reducible apply blk_drew | with_reducible apply blk_alloc | with_reducible apply blk_set | (with_reducible apply blk_aside; assumption)))); first | rfl | (simp; done)) x0 hx1).mono ?_); rintro e wl ⟨rfl, rfl⟩))
  refine start_ (n := 15) (S := fun w' => w'.cell? ⟨cb, 0, none⟩ = some (.slice (some ⟨g, 0, none⟩) (m + 1) cap) ∧ w'.cell? ⟨cb, 1, none⟩ = some (.int .i64 x)) (ds := [14]) #[false, false, false, false, false, false, false, false, false, false, false, false, false, false, false] (by kernel_rfl) rfl rfl (⟨(blk_cell BKcb.out 0).trans rfl, (blk_cell BKcb.out 1).trans rfl⟩) (fun hHeld => ?_)
  refine pure_ (i := 0) (N := some 16) (v := ?_) (a' := ?_) #[true, false, false, false, false, false, false, false, false, false, false, false, false, false, false] rfl rfl (by kernel_rfl) (fun _ _ _ h => h) (Or.inl ⟨by rfl, ?_⟩) ?_ ?_
  rotate_left
  · intro w'
    go_simp
    with_reducible rfl
  rotate_left
  · simp only [Act.put, List.setIfInBounds_toArray, List.set_cons_zero, List.set_cons_succ, i64_w, i32_w]
    rfl
  refine pure_ (i := 1) (N := some 17) (v := ?_) (a' := ?_) #[true, true, false, false, false, false, false, false, false, false, false, false, false, false, false] rfl rfl (by kernel_rfl) (fun _ _ _ h => h) (Or.inl ⟨by rfl, ?_⟩) ?_ ?_
  rotate_left
  · intro w'
    go_simp
    with_reducible rfl
  rotate_left
  · simp only [Act.put, List.setIfInBounds_toArray, List.set_cons_zero, List.set_cons_succ, i64_w, i32_w]
    rfl
  refine pure_ (i := 2) (N := some 18) (v := ?_) (a' := ?_) #[true, true, true, false, false, false, false, false, false, false, false, false, false, false, false] rfl rfl (by kernel_rfl) (fun _ _ _ h => h) (Or.inl ⟨by rfl, ?_⟩) ?_ ?_
  rotate_left
  · intro w'
    go_simp
    with_reducible rfl
  rotate_left
  · simp only [Act.put, List.setIfInBounds_toArray, List.set_cons_zero, List.set_cons_succ, i64_w, i32_w]
    rfl
  refine take_ (i := 3) (N := some 19) (v := ?_) (a' := ?_) #[true, true, true, true, false, false, false, false, false, false, false, false, false, false, false] rfl rfl (by kernel_rfl) (fun _ _ _ h => h) (Or.inl ⟨by rfl, ?_⟩) hHeld ?_ ?_
  rotate_left
  · rintro w' hS_; (try dsimp only at hS_)
    go_simp
    with_reducible rfl
  rotate_left
  · simp only [Act.put, List.setIfInBounds_toArray, List.set_cons_zero, List.set_cons_succ, i64_w, i32_w]
    rfl
  refine pure_ (i := 4) (N := some 20) (v := ?_) (a' := ?_) #[true, true, true, true, true, false, false, false, false, false, false, false, false, false, false] rfl rfl (by kernel_rfl) (fun _ _ _ h => h) (Or.inl ⟨by rfl, ?_⟩) ?_ ?_
  rotate_left
  · intro w'
    go_simp
    with_reducible rfl
  rotate_left
  · simp only [Act.put, List.setIfInBounds_toArray, List.set_cons_zero, List.set_cons_succ, i64_w, i32_w]
    rfl
  refine pure_ (i := 5) (N := some 21) (v := ?_) (a' := ?_) #[true, true, true, true, true, true, false, false, false, false, false, false, false, false, false] rfl rfl (by kernel_rfl) (fun _ _ _ h => h) (Or.inl ⟨by rfl, ?_⟩) ?_ ?_
  rotate_left
  · intro w'
    go_simp
    with_reducible rfl
  rotate_left
  · simp only [Act.put, List.setIfInBounds_toArray, List.set_cons_zero, List.set_cons_succ, i64_w, i32_w]
    rfl
  refine pure_ (i := 6) (N := some 22) (v := ?_) (a' := ?_) #[true, true, true, true, true, true, true, false, false, false, false, false, false, false, false] rfl rfl (by kernel_rfl) (fun _ _ _ h => h) (Or.inl ⟨by rfl, ?_⟩) ?_ ?_
  rotate_left
  · intro w'
    go_simp
    with_reducible rfl
  rotate_left
  · simp only [Act.put, List.setIfInBounds_toArray, List.set_cons_zero, List.set_cons_succ, i64_w, i32_w]
    rfl
  refine take_ (i := 7) (N := some 23) (v := ?_) (a' := ?_) #[true, true, true, true, true, true, true, true, false, false, false, false, false, false, false] rfl rfl (by kernel_rfl) (fun _ _ _ h => h) (Or.inl ⟨by rfl, ?_⟩) hHeld ?_ ?_
  rotate_left
  · rintro w' hS_; (try dsimp only at hS_)
    go_simp
    with_reducible rfl
  rotate_left
  · simp only [Act.put, List.setIfInBounds_toArray, List.set_cons_zero, List.set_cons_succ, i64_w, i32_w]
    rfl
  refine pure_ (i := 8) (N := some 24) (v := ?_) (a' := ?_) #[true, true, true, true, true, true, true, true, true, false, false, false, false, false, false] rfl rfl (by kernel_rfl) (fun _ _ _ h => h) (Or.inl ⟨by rfl, ?_⟩) ?_ ?_
  rotate_left
  · intro w'
    go_simp
    with_reducible rfl
  rotate_left
  · simp only [Act.put, List.setIfInBounds_toArray, List.set_cons_zero, List.set_cons_succ, i64_w, i32_w]
    rfl
  refine pure_ (i := 9) (N := some 25) (v := ?_) (a' := ?_) #[true, true, true, true, true, true, true, true, true, true, false, false, false, false, false] rfl rfl (by kernel_rfl) (fun _ _ _ h => h) (Or.inl ⟨by rfl, ?_⟩) ?_ ?_
  rotate_left
  · intro w'
    go_simp
    with_reducible rfl
  rotate_left
  · simp only [Act.put, List.setIfInBounds_toArray, List.set_cons_zero, List.set_cons_succ, i64_w, i32_w]
    rfl
  refine pure_ (i := 10) (N := some 26) (v := ?_) (a' := ?_) #[true, true, true, true, true, true, true, true, true, true, true, false, false, false, false] rfl rfl (by kernel_rfl) (fun _ _ _ h => h) (Or.inl ⟨by rfl, ?_⟩) ?_ ?_
  rotate_left
  · intro w'
    go_simp
    with_reducible rfl
  rotate_left
  · simp only [Act.put, List.setIfInBounds_toArray, List.set_cons_zero, List.set_cons_succ, i64_w, i32_w]
    rfl
  refine pure_ (i := 11) (N := some 27) (v := ?_) (a' := ?_) #[true, true, true, true, true, true, true, true, true, true, true, true, false, false, false] rfl rfl (by kernel_rfl) (fun _ _ _ h => h) (Or.inl ⟨by rfl, ?_⟩) ?_ ?_
  rotate_left
  · intro w'
    go_simp
    with_reducible rfl
  rotate_left
  · simp only [Act.put, List.setIfInBounds_toArray, List.set_cons_zero, List.set_cons_succ, i64_w, i32_w]
    rfl
  refine pure_ (i := 12) (N := some 28) (v := ?_) (a' := ?_) #[true, true, true, true, true, true, true, true, true, true, true, true, true, false, false] rfl rfl (by kernel_rfl) (fun _ _ _ h => h) (Or.inl ⟨by rfl, ?_⟩) ?_ ?_
  rotate_left
  · intro w'
    go_simp
    with_reducible rfl
  rotate_left
  · simp only [Act.put, List.setIfInBounds_toArray, List.set_cons_zero, List.set_cons_succ, i64_w, i32_w]
    rfl
  refine pure_ (i := 13) (N := some 29) (v := ?_) (a' := ?_) #[true, true, true, true, true, true, true, true, true, true, true, true, true, true, false] rfl rfl (by kernel_rfl) (fun _ _ _ h => h) (Or.inl ⟨by rfl, ?_⟩) ?_ ?_
  rotate_left
  · intro w'
    go_simp
    with_reducible rfl
  rotate_left
  · simp only [Act.put, List.setIfInBounds_toArray, List.set_cons_zero, List.set_cons_succ, i64_w, i32_w]
    rfl
  refine last_ (i := 14) (N := none) #[true, true, true, true, true, true, true, true, true, true, true, true, true, true, true] rfl rfl (by kernel_rfl) (by decide) (fun K hK => ?_)
  refine skip_ (w1 := ?_) (by rfl) rfl ?_ ?_
  rotate_left
  · go_simp
    rfl
  refine hK.out _ _ ?_
  clear hK K
  refine done_ (by kernel_rfl) ?_
  go_wp2_with (first | (go_at_call 56; (with_reducible refine (setLast_c _ x (-1) cb _ (by apply heap_is; (focus (repeat (first | with_reducible exact BKcb.out | with_reducible apply blk_drewN | with_reducible apply blk_drew | with_reducible apply blk_alloc | with_reducible apply blk_set | (with_reducible apply blk_aside; assumption)))); first | rfl | (simp; done)) (by omega) (by omega)).mono ?_); rintro e wl ⟨rfl, rfl⟩))
  go_ret
  exact ⟨by first | rfl | (simp; done), ⟨_, (by apply heap_is; (focus (repeat (first | with_reducible exact BKcb.out | with_reducible apply blk_drewN | with_reducible apply blk_drew | with_reducible apply blk_alloc | with_reducible apply blk_set | (with_reducible apply blk_aside; assumption)))); first | rfl | (simp; done)), (by first | exact RV.set (t := 70) (by decide) (by repeat (first | exact ⟨_, BKcb.out⟩ | with_reducible apply IsT.set | with_reducible apply IsT.drewN | with_reducible apply IsT.drew | with_reducible apply IsT.alloc)) HSET.out | exact (by repeat (first | with_reducible exact HSET.out | with_reducible apply RV.drewN | with_reducible apply RV.drew | with_reducible apply RV.alloc | ((with_reducible refine RV.set (t := 70) (by decide) ?_ ?_); focus repeat (first | exact ⟨_, BKcb.out⟩ | with_reducible apply IsT.set | with_reducible apply IsT.drewN | with_reducible apply IsT.drew | with_reducible apply IsT.alloc)))))⟩, by repeat (first | (with_reducible first | exact HB.out | apply below_alloc | apply pw_below_drewN | apply below_drew1 | refine below_set ?_ GEcb.out | refine below_set ?_ GEg.out) | exact HB.out)⟩
set_option maxHeartbeats 2000000 in
set_option maxRecDepth 100000 in
/-- What Finish hands back. -/
def FPost (w : World) (R : List S53) (e : Ending) (w' : World) : Prop := ∃ v, e = .returned (.tuple #[v, .nilIface]) ∧ RV w.heap.size v R w' ∧ Below w.heap.size w w'
set_option maxHeartbeats 2000000 in
set_option maxRecDepth 100000 in
theorem finish_c (R : List S53) (x : Int) (cb : Nat) (w u : World) (hB : Below w.heap.size w u) (hg : w.heap.size ≤ cb) (hS : BSt w.heap.size cb R x u) (hn : R.length ≤ 4294967296) (hG : good (R.reverse.map i53) = true) :
    Calls Try.prog 44 #[.pointer (some ⟨cb, 0, none⟩)] u (FPost w R.reverse) := by
  have hu70 := Try.underlying70
  have HB := Aside0.mk hB
  have GEcb := Aside0.mk hg
  obtain ⟨v, hb, hr⟩ := hS
  have BKcb := Aside0.mk hb
  have hc0 : World.cell? u ⟨cb, 0, none⟩ = some v := (blk_cell hb 0).trans rfl
  have HRT : Aside0 (Kd.R k53 53 u w.heap.size (fun k => k ≠ cb) v R) := ⟨Kd.R_mono (Kd.R_types hr hb (fun q hq => by
    have : q = 53 := by simpa [k53, Kd.iso, Kd.pair, Kd.int, Kd.scalar] using hq
    omega)) (fun _ hk => hk.2)⟩
  have HF := Aside0.mk (rev_f R hn (R.length + 1) (by omega))
  have HG := Aside0.mk hG
  have HN : Aside0 (R.reverse.length ≤ 4294967296) := ⟨by rw [List.length_reverse]; exact hn⟩
  generalize hRR : R.reverse = RR at HF HG HN ⊢
  clear hb hr hB hg hn hG hRR
  go_enter Try.func44, Try.ntmps44
  go_wp2_with (fail)
  go_at_call 57
  (with_reducible refine (intervals_Interval.calls (R.length + 1) (fun k => k ≠ cb) v R RR w _ HB.out HRT.out HF.out).mono ?_)
  rintro e w1 ⟨rfl, hR, bel, hk⟩
  have hb1 : w1.heap[cb]? = some (.cells #[v, .int .i64 x] 70 (0, 0)) := blk_kept BKcb.out hk (fun h => h rfl)
  have HR := Aside0.mk (show RV w.heap.size v RR w1 from Kd.R_mono hR (fun _ _ => trivial))
  obtain ⟨A, c, rfl, hl, hC⟩ := Kd.R_reads hR
  have HC := Aside0.mk hC
  clear HB BKcb hc0 HRT hR hk hl hC
  have HB := Aside0.mk bel
  have BKcb := Aside0.mk hb1
  have hc1 : World.cell? w1 ⟨cb, 0, none⟩ = some (.slice A RR.length c) := (blk_cell hb1 0).trans rfl
  clear bel hb1
  go_wp2_with (fail)
  go_at_call 51
  (with_reducible refine (check_calls A c RR _ HC.out HN.out).mono ?_)
  rintro e w2 ⟨he, bel⟩
  rw [HG.out] at he
  obtain rfl : e = .returned .nilIface := he
  have hb2 := blk_below BKcb.out bel
  have HR2 := Aside0.mk (RV.below HR.out bel)
  have n0_ := Aside0.mk (below_step HB.out bel)
  clear HB HR BKcb hc1 bel
  have HB := n0_
  have hc2 : World.cell? w2 ⟨cb, 0, none⟩ = some (.slice A RR.length c) := (blk_cell hb2 0).trans rfl
  clear n0_ hb2
  go_wp2
  refine bodyPost_ret (results_list (rs := [.tmp 2, .tmp 3]) rfl (by simp) (.tmp (.tmp .nil))) rfl ?_
  exact ⟨_, by first | rfl | (simp; done), HR2.out, HB.out⟩
end Go.Proofs.Ytlgdibeklelfgaa.PAll
