/- NoovAgree: the ways where all tests hold. -/
import Derived.Test.YtdlhgddagnikdaaWkAid
import Derived.Test.YtdlhgddagnikdaaPFlx26
import Derived.Test.YtdlhgddagnikdaaWGuard
import Derived.Deep.DeepCutAuto
namespace Go.Proofs.Ytdlhgddagnikdaa.PFl
open Go.RowKit Go.Proofs.YtdlhgddagnikdaaW.PrintWords Go.Proofs.YtdlhgddagnikdaaW.PrintLast Go.Proofs.YtdlhgddagnikdaaW.PrintMore
attribute [local go_sem] max2_int min2_int max_two min_two max_three min_three max_four min_four
set_option linter.unusedVariables false
set_option linter.unusedSimpArgs false
attribute [local go_sem] signed_i64 signed_i32 signed_u32 max_u32 signed_u64 max_u64
theorem field6 (b0 b1 b2 b3 b4 b5 b6 b7 b8 b9 b10 b11 b12 b13 b14 b15 b16 b17 : Bool) (w : World) : (Instr.field 23 (.agg #[.bool b0, .bool b1, .bool b2, .bool b3, .bool b4, .bool b5, .bool b6, .bool b7, .bool b8, .bool b9, .bool b10, .bool b11, .bool b12, .bool b13, .bool b14, .bool b15, .bool b16, .bool b17]) 6).run Try.prog w = .ok (.bool b6) w := by kernel_rfl
attribute [local go_sem] field6
set_option maxHeartbeats 8000000 in
set_option maxRecDepth 100000 in
theorem nv_t (a0 a1 : Int) (f0 f1 f2 f4 f5 f6 f7 f8 f9 f10 f11 f12 f13 f14 f15 f16 f17 g0 g1 g2 g3 g4 g5 g7 g8 g9 g10 g11 g12 g13 g14 g15 g16 g17 : Bool) (w : World) (h1 : impl_SubFlags64.f 3 a0 a1 = some (f0, f1, f2, true, f4, f5, f6, f7, f8, f9, f10, f11, f12, f13, f14, f15, f16, f17)) (h2 : impl_SubFlags64.f 3 1 2 = some (g0, g1, g2, g3, g4, g5, true, g7, g8, g9, g10, g11, g12, g13, g14, g15, g16, g17)) :
    Calls Try.prog 4 #[.int .i64 a0, .int .i64 a1] w fun e w' => e = .returned (.bool true) ∧ Below w.heap.size w w' := by
  have hu23 := Try.underlying23
  have HB := Aside0.mk (Below.refl w.heap.size w)
  have H1 := Aside0.mk h1
  have H2 := Aside0.mk h2
  clear h1 h2
  go_enter Try.func4, Try.ntmps4
  go_upto_region 2 with (first | ((with_reducible refine gate_store (p := 5) rfl ?_); refine store_block (.tmp 5) (.tmp 8) 23 rfl rfl bf #[.bool f0, .bool f1, .bool f2, .bool true, .bool f4, .bool f5, .bool f6, .bool f7, .bool f8, .bool f9, .bool f10, .bool f11, .bool f12, .bool f13, .bool f14, .bool f15, .bool f16, .bool f17] #[.bool false, .bool false, .bool false, .bool false, .bool false, .bool false, .bool false, .bool false, .bool false, .bool false, .bool false, .bool false, .bool false, .bool false, .bool false, .bool false, .bool false, .bool false] rfl rfl (by apply heap_is; (focus (repeat (first | with_reducible exact BKbf.out | with_reducible apply blk_drewN | with_reducible apply blk_drew | with_reducible apply blk_alloc | with_reducible apply blk_set | (with_reducible apply blk_aside; assumption)))); first | rfl | (simp; done)) info23z rfl rfl (by simp [Value.oneCell']) (by repeat (first | (with_reducible first | exact HB.out | apply below_alloc | apply pw_below_drewN | apply below_drew1 | refine below_set ?_ GEbf.out) | exact HB.out)) GEbf.out ?_; intro w5 hbk hb hk; clear HB BKbf; have HB := Aside0.mk hb; have BKbf := Aside0.mk hbk; clear hbk hb hk) | (go_at_call 10; (with_reducible refine (impl_SubFlags64.calls 3 a0 a1 f0 f1 f2 true f4 f5 f6 f7 f8 f9 f10 f11 f12 f13 f14 f15 f16 f17 _ H1.out).mono ?_); rintro e w1 ⟨rfl, bel⟩; have n0_ := Aside0.mk (below_step (by repeat (first | (with_reducible first | exact HB.out | apply below_alloc | apply pw_below_drewN | apply below_drew1) | exact HB.out)) bel); clear HB; have HB := n0_; clear n0_ bel) | ((with_reducible refine gate_dst (N := 5) rfl ?_); refine box_event ?hg (N := 5) ?hd (cs := #[.bool false, .bool false, .bool false, .bool false, .bool false, .bool false, .bool false, .bool false, .bool false, .bool false, .bool false, .bool false, .bool false, .bool false, .bool false, .bool false, .bool false, .bool false]) (t := 23) ?hr ?_; (case hd => rfl); (case hg => rfl); (case hr => first | (go_simp; done) | (go_simp; rfl)); intro bf hg w3 hbox hb; have n0_ := Aside0.mk (below_step (by repeat (first | (with_reducible first | exact HB.out | apply below_alloc | apply pw_below_drewN | apply below_drew1) | exact HB.out)) hb); have n1_ := Aside0.mk (hbox); have n2_ := Aside0.mk ((by rw [hg]; exact (below_size (by repeat (first | (with_reducible first | exact HB.out | apply below_alloc | apply pw_below_drewN | apply below_drew1) | exact HB.out))) : w.heap.size ≤ bf)); clear HB; have HB := n0_; have BKbf := n1_; have GEbf := n2_; clear n0_ n1_ n2_; clear hb hbox hg))
  refine wp_world (fun w' => Below w.heap.size w w' ∧ w'.heap[bf]? = some (.cells #[.bool f0, .bool f1, .bool f2, .bool true, .bool f4, .bool f5, .bool f6, .bool f7, .bool f8, .bool f9, .bool f10, .bool f11, .bool f12, .bool f13, .bool f14, .bool f15, .bool f16, .bool f17] 23 (0, 0))) ⟨(by repeat (first | (with_reducible first | exact HB.out | apply below_alloc | apply pw_below_drewN | apply below_drew1 | refine below_set ?_ GEbf.out) | exact HB.out)), (by apply heap_is; (focus (repeat (first | with_reducible exact BKbf.out | with_reducible apply blk_drewN | with_reducible apply blk_drew | with_reducible apply blk_alloc | with_reducible apply blk_set | (with_reducible apply blk_aside; assumption)))); first | rfl | (simp; done))⟩ ?_
  rintro w9 ⟨n0_, mbf_⟩
  clear HB BKbf
  have HB := Aside0.mk n0_
  clear n0_
  have BKbf := Aside0.mk mbf_
  clear mbf_
  have hczw9bf_3 : World.cell? w9 ⟨bf, 3, none⟩ = some (.bool true) := (blk_cell BKbf.out 3).trans rfl
  have hfzw9bf_3 := blk_frozen BKbf.out 3
  have hczw9bf_6 : World.cell? w9 ⟨bf, 6, none⟩ = some (.bool f6) := (blk_cell BKbf.out 6).trans rfl
  have hfzw9bf_6 := blk_frozen BKbf.out 6
  have hczw9bf_7 : World.cell? w9 ⟨bf, 7, none⟩ = some (.bool f7) := (blk_cell BKbf.out 7).trans rfl
  have hfzw9bf_7 := blk_frozen BKbf.out 7
  have hczw9bf_8 : World.cell? w9 ⟨bf, 8, none⟩ = some (.bool f8) := (blk_cell BKbf.out 8).trans rfl
  have hfzw9bf_8 := blk_frozen BKbf.out 8
  have hczw9bf_9 : World.cell? w9 ⟨bf, 9, none⟩ = some (.bool f9) := (blk_cell BKbf.out 9).trans rfl
  have hfzw9bf_9 := blk_frozen BKbf.out 9
  have hczw9bf_14 : World.cell? w9 ⟨bf, 14, none⟩ = some (.bool f14) := (blk_cell BKbf.out 14).trans rfl
  have hfzw9bf_14 := blk_frozen BKbf.out 14
  have hczw9bf_15 : World.cell? w9 ⟨bf, 15, none⟩ = some (.bool f15) := (blk_cell BKbf.out 15).trans rfl
  have hfzw9bf_15 := blk_frozen BKbf.out 15
  have hczw9bf_16 : World.cell? w9 ⟨bf, 16, none⟩ = some (.bool f16) := (blk_cell BKbf.out 16).trans rfl
  have hfzw9bf_16 := blk_frozen BKbf.out 16
  have hczw9bf_17 : World.cell? w9 ⟨bf, 17, none⟩ = some (.bool f17) := (blk_cell BKbf.out 17).trans rfl
  have hfzw9bf_17 := blk_frozen BKbf.out 17
  go_wp2_with (first | (go_at_call 10; (with_reducible refine (impl_SubFlags64.calls 3 1 2 g0 g1 g2 g3 g4 g5 true g7 g8 g9 g10 g11 g12 g13 g14 g15 g16 g17 _ H2.out).mono ?_); rintro e w10 ⟨rfl, bel⟩; have mbf_ := Aside0.mk (blk_below (g := bf) (o := .cells #[.bool f0, .bool f1, .bool f2, .bool true, .bool f4, .bool f5, .bool f6, .bool f7, .bool f8, .bool f9, .bool f10, .bool f11, .bool f12, .bool f13, .bool f14, .bool f15, .bool f16, .bool f17] 23 (0, 0)) (by apply heap_is; (focus (repeat (first | with_reducible exact BKbf.out | with_reducible apply blk_drewN | with_reducible apply blk_drew | with_reducible apply blk_alloc | with_reducible apply blk_set | (with_reducible apply blk_aside; assumption)))); first | rfl | (simp; done)) bel); have n0_ := Aside0.mk (below_step (by repeat (first | (with_reducible first | exact HB.out | apply below_alloc | apply pw_below_drewN | apply below_drew1 | refine below_set ?_ GEbf.out) | exact HB.out)) bel); clear BKbf; clear HB; have BKbf := mbf_; clear mbf_; have HB := n0_; clear n0_ bel))
  go_ret
  exact ⟨by first | rfl | (simp; done) | (simp [*]; done), by repeat (first | (with_reducible first | exact HB.out | apply below_alloc | apply pw_below_drewN | apply below_drew1) | exact HB.out)⟩
set_option maxHeartbeats 8000000 in
set_option maxRecDepth 100000 in
theorem nv_f (a0 a1 : Int) (f0 f1 f2 f4 f5 f6 f7 f8 f9 f10 f11 f12 f13 g0 g1 g2 g3 g4 g5 g7 g8 g9 g10 g11 g12 g13 g14 g15 g16 g17 : Bool) (w : World) (h1 : impl_SubFlags64.f 3 a0 a1 = some (f0, f1, f2, false, f4, f5, f6, f7, f8, f9, f10, f11, f12, f13, f6, f7, f8, f9)) (h2 : impl_SubFlags64.f 3 1 2 = some (g0, g1, g2, g3, g4, g5, true, g7, g8, g9, g10, g11, g12, g13, g14, g15, g16, g17)) :
    Calls Try.prog 4 #[.int .i64 a0, .int .i64 a1] w fun e w' => e = .returned (.bool true) ∧ Below w.heap.size w w' := by
  have hu23 := Try.underlying23
  have HB := Aside0.mk (Below.refl w.heap.size w)
  have H1 := Aside0.mk h1
  have H2 := Aside0.mk h2
  clear h1 h2
  go_enter Try.func4, Try.ntmps4
  go_upto_region 2 with (first | ((with_reducible refine gate_store (p := 5) rfl ?_); refine store_block (.tmp 5) (.tmp 8) 23 rfl rfl bf #[.bool f0, .bool f1, .bool f2, .bool false, .bool f4, .bool f5, .bool f6, .bool f7, .bool f8, .bool f9, .bool f10, .bool f11, .bool f12, .bool f13, .bool f6, .bool f7, .bool f8, .bool f9] #[.bool false, .bool false, .bool false, .bool false, .bool false, .bool false, .bool false, .bool false, .bool false, .bool false, .bool false, .bool false, .bool false, .bool false, .bool false, .bool false, .bool false, .bool false] rfl rfl (by apply heap_is; (focus (repeat (first | with_reducible exact BKbf.out | with_reducible apply blk_drewN | with_reducible apply blk_drew | with_reducible apply blk_alloc | with_reducible apply blk_set | (with_reducible apply blk_aside; assumption)))); first | rfl | (simp; done)) info23z rfl rfl (by simp [Value.oneCell']) (by repeat (first | (with_reducible first | exact HB.out | apply below_alloc | apply pw_below_drewN | apply below_drew1 | refine below_set ?_ GEbf.out) | exact HB.out)) GEbf.out ?_; intro w5 hbk hb hk; clear HB BKbf; have HB := Aside0.mk hb; have BKbf := Aside0.mk hbk; clear hbk hb hk) | (go_at_call 10; (with_reducible refine (impl_SubFlags64.calls 3 a0 a1 f0 f1 f2 false f4 f5 f6 f7 f8 f9 f10 f11 f12 f13 f6 f7 f8 f9 _ H1.out).mono ?_); rintro e w1 ⟨rfl, bel⟩; have n0_ := Aside0.mk (below_step (by repeat (first | (with_reducible first | exact HB.out | apply below_alloc | apply pw_below_drewN | apply below_drew1) | exact HB.out)) bel); clear HB; have HB := n0_; clear n0_ bel) | ((with_reducible refine gate_dst (N := 5) rfl ?_); refine box_event ?hg (N := 5) ?hd (cs := #[.bool false, .bool false, .bool false, .bool false, .bool false, .bool false, .bool false, .bool false, .bool false, .bool false, .bool false, .bool false, .bool false, .bool false, .bool false, .bool false, .bool false, .bool false]) (t := 23) ?hr ?_; (case hd => rfl); (case hg => rfl); (case hr => first | (go_simp; done) | (go_simp; rfl)); intro bf hg w3 hbox hb; have n0_ := Aside0.mk (below_step (by repeat (first | (with_reducible first | exact HB.out | apply below_alloc | apply pw_below_drewN | apply below_drew1) | exact HB.out)) hb); have n1_ := Aside0.mk (hbox); have n2_ := Aside0.mk ((by rw [hg]; exact (below_size (by repeat (first | (with_reducible first | exact HB.out | apply below_alloc | apply pw_below_drewN | apply below_drew1) | exact HB.out))) : w.heap.size ≤ bf)); clear HB; have HB := n0_; have BKbf := n1_; have GEbf := n2_; clear n0_ n1_ n2_; clear hb hbox hg))
  refine wp_world (fun w' => Below w.heap.size w w' ∧ w'.heap[bf]? = some (.cells #[.bool f0, .bool f1, .bool f2, .bool false, .bool f4, .bool f5, .bool f6, .bool f7, .bool f8, .bool f9, .bool f10, .bool f11, .bool f12, .bool f13, .bool f6, .bool f7, .bool f8, .bool f9] 23 (0, 0))) ⟨(by repeat (first | (with_reducible first | exact HB.out | apply below_alloc | apply pw_below_drewN | apply below_drew1 | refine below_set ?_ GEbf.out) | exact HB.out)), (by apply heap_is; (focus (repeat (first | with_reducible exact BKbf.out | with_reducible apply blk_drewN | with_reducible apply blk_drew | with_reducible apply blk_alloc | with_reducible apply blk_set | (with_reducible apply blk_aside; assumption)))); first | rfl | (simp; done))⟩ ?_
  rintro w9 ⟨n0_, mbf_⟩
  clear HB BKbf
  have HB := Aside0.mk n0_
  clear n0_
  have BKbf := Aside0.mk mbf_
  clear mbf_
  have hczw9bf_3 : World.cell? w9 ⟨bf, 3, none⟩ = some (.bool false) := (blk_cell BKbf.out 3).trans rfl
  have hfzw9bf_3 := blk_frozen BKbf.out 3
  have hczw9bf_6 : World.cell? w9 ⟨bf, 6, none⟩ = some (.bool f6) := (blk_cell BKbf.out 6).trans rfl
  have hfzw9bf_6 := blk_frozen BKbf.out 6
  have hczw9bf_7 : World.cell? w9 ⟨bf, 7, none⟩ = some (.bool f7) := (blk_cell BKbf.out 7).trans rfl
  have hfzw9bf_7 := blk_frozen BKbf.out 7
  have hczw9bf_8 : World.cell? w9 ⟨bf, 8, none⟩ = some (.bool f8) := (blk_cell BKbf.out 8).trans rfl
  have hfzw9bf_8 := blk_frozen BKbf.out 8
  have hczw9bf_9 : World.cell? w9 ⟨bf, 9, none⟩ = some (.bool f9) := (blk_cell BKbf.out 9).trans rfl
  have hfzw9bf_9 := blk_frozen BKbf.out 9
  have hczw9bf_14 : World.cell? w9 ⟨bf, 14, none⟩ = some (.bool f6) := (blk_cell BKbf.out 14).trans rfl
  have hfzw9bf_14 := blk_frozen BKbf.out 14
  have hczw9bf_15 : World.cell? w9 ⟨bf, 15, none⟩ = some (.bool f7) := (blk_cell BKbf.out 15).trans rfl
  have hfzw9bf_15 := blk_frozen BKbf.out 15
  have hczw9bf_16 : World.cell? w9 ⟨bf, 16, none⟩ = some (.bool f8) := (blk_cell BKbf.out 16).trans rfl
  have hfzw9bf_16 := blk_frozen BKbf.out 16
  have hczw9bf_17 : World.cell? w9 ⟨bf, 17, none⟩ = some (.bool f9) := (blk_cell BKbf.out 17).trans rfl
  have hfzw9bf_17 := blk_frozen BKbf.out 17
  go_wp2_with (first | (go_at_call 10; (with_reducible refine (impl_SubFlags64.calls 3 1 2 g0 g1 g2 g3 g4 g5 true g7 g8 g9 g10 g11 g12 g13 g14 g15 g16 g17 _ H2.out).mono ?_); rintro e w10 ⟨rfl, bel⟩; have mbf_ := Aside0.mk (blk_below (g := bf) (o := .cells #[.bool f0, .bool f1, .bool f2, .bool false, .bool f4, .bool f5, .bool f6, .bool f7, .bool f8, .bool f9, .bool f10, .bool f11, .bool f12, .bool f13, .bool f6, .bool f7, .bool f8, .bool f9] 23 (0, 0)) (by apply heap_is; (focus (repeat (first | with_reducible exact BKbf.out | with_reducible apply blk_drewN | with_reducible apply blk_drew | with_reducible apply blk_alloc | with_reducible apply blk_set | (with_reducible apply blk_aside; assumption)))); first | rfl | (simp; done)) bel); have n0_ := Aside0.mk (below_step (by repeat (first | (with_reducible first | exact HB.out | apply below_alloc | apply pw_below_drewN | apply below_drew1 | refine below_set ?_ GEbf.out) | exact HB.out)) bel); clear BKbf; clear HB; have BKbf := mbf_; clear mbf_; have HB := n0_; clear n0_ bel))
  go_ret
  exact ⟨by first | rfl | (simp; done) | (simp [*]; done), by repeat (first | (with_reducible first | exact HB.out | apply below_alloc | apply pw_below_drewN | apply below_drew1) | exact HB.out)⟩

def code (n z c v : Bool) : Int := (if n then 1 else 0) + (if z then 2 else 0) + (if c then 4 else 0) + (if v then 8 else 0)
theorem enc_all : ∀ n z c v : Bool, ssarewrite_flagConstantBuilder_encode.f 3 n z c v = some (code n z c v) := by decide +kernel
theorem flags_all : ∀ n z c v : Bool, impl_flags.f (code n z c v) = some (n, z, c, v, z, !z, n != v, z || (n != v), !z && (n == v), n == v, !c, z || !c, !z && c, c, (n != v) && !v, (z || (n != v)) && !v, (!z && (n == v)) && !v, (n == v) && !v) := by
  intro n z c v
  cases n <;> cases z <;> cases c <;> cases v <;> kernel_rfl
theorem u64w (n : Int) : IntKind.u64.wrap n = n % 18446744073709551616 := by simp [IntKind.wrap, IntKind.bits, IntKind.signed]

theorem at_SubFlags64 (a b : Int) : ∃ v : Bool, ssarewrite_subFlags64.f 3 a b = some (code (decide (wrap64 (a - b) < 0)) (wrap64 (a - b) == 0) (decide ((IntKind.u64.wrap (b)) ≤ (IntKind.u64.wrap (a)))) v) ∧ (v = true ↔ (a ≥ 0 ∧ b < 0 ∧ wrap64 (a - b) < 0) ∨ (a < 0 ∧ b ≥ 0 ∧ wrap64 (a - b) ≥ 0)) := by
  unfold ssarewrite_subFlags64.f
  simp only [enc_all, Option.bind_some]
  repeat' split
  all_goals (refine ⟨_, rfl, ?_⟩; simp only [Bool.false_eq_true, decide_eq_true_eq, true_iff, false_iff]; omega)
theorem of_SubFlags64 (a b : Int) : ∃ v : Bool, (v = true ↔ (a ≥ 0 ∧ b < 0 ∧ wrap64 (a - b) < 0) ∨ (a < 0 ∧ b ≥ 0 ∧ wrap64 (a - b) ≥ 0)) ∧ ∃ n z c : Bool, n = decide (wrap64 (a - b) < 0) ∧ z = (wrap64 (a - b) == 0) ∧ c = decide ((IntKind.u64.wrap (b)) ≤ (IntKind.u64.wrap (a))) ∧
    impl_SubFlags64.f 3 a b = some (n, z, c, v, z, !z, n != v, z || (n != v), !z && (n == v), n == v, !c, z || !c, !z && c, c, (n != v) && !v, (z || (n != v)) && !v, (!z && (n == v)) && !v, (n == v) && !v) := by
  obtain ⟨v, e, h⟩ := at_SubFlags64 a b
  refine ⟨v, h, _, _, _, rfl, rfl, rfl, ?_⟩
  unfold impl_SubFlags64.f ssarewrite_ZZSubFlags64.f
  rw [e]
  simp only [Option.bind_some, flags_all]
theorem FnNoovAgree_walk (a b : Int) (w : World) (w0 : (Lit.int .i64 a).wf = true) (w1 : (Lit.int .i64 b).wf = true) : Calls Try.prog 4 #[.int .i64 a, .int .i64 b] w fun e w' => e = .returned (.bool true) ∧ Below w.heap.size w w' := by
  obtain ⟨v, hv, n, z, c, hn, hz, hc, e⟩ := of_SubFlags64 a b
  obtain ⟨v', hv', n', z', c', hn', hz', hc', e'⟩ := of_SubFlags64 1 2
  have h1 : n' = true := by rw [hn']; decide +kernel
  have h2 : v' = false := by
    rw [← Bool.not_eq_true, hv']; rintro (h | h) <;> omega
  subst h1 h2
  cases v with
  | true => exact nv_t a b _ _ _ _ _ _ _ _ _ _ _ _ _ _ _ _ _ _ _ _ _ _ _ _ _ _ _ _ _ _ _ _ _ _ w e e'
  | false =>
    simp only [Bool.not_false, Bool.and_true] at e
    exact nv_f a b _ _ _ _ _ _ _ _ _ _ _ _ _ _ _ _ _ _ _ _ _ _ _ _ _ _ _ _ _ _ w e e'
end Go.Proofs.Ytdlhgddagnikdaa.PFl
