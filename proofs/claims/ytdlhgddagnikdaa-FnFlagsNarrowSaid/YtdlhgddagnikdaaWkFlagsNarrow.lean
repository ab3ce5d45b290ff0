/- FlagsNarrow: the way where all tests hold. -/
import Derived.Test.YtdlhgddagnikdaaWkAid
import Derived.Test.YtdlhgddagnikdaaPFlx26
import Derived.Test.YtdlhgddagnikdaaPFlx30
import Derived.Test.YtdlhgddagnikdaaPFlx31
import Derived.Test.YtdlhgddagnikdaaWGuard
import Derived.Test.YtdlhgddagnikdaaAt
import Derived.Deep.DeepCutAuto
namespace Go.Proofs.Ytdlhgddagnikdaa.PFl
open Go.RowKit Go.Proofs.YtdlhgddagnikdaaW.PrintWords Go.Proofs.YtdlhgddagnikdaaW.PrintLast Go.Proofs.YtdlhgddagnikdaaW.PrintMore
attribute [local go_sem] max2_int min2_int max_two min_two max_three min_three max_four min_four
set_option linter.unusedVariables false
set_option linter.unusedSimpArgs false
attribute [local go_sem] signed_i64 signed_i32 signed_u32 max_u32 signed_u64 max_u64
set_option maxHeartbeats 8000000 in
set_option maxRecDepth 100000 in
theorem fn_walk (a0 a1 : Int) (f0 f1 f2 f3 f4 f5 f6 f7 f8 f9 f10 f11 f12 f13 f14 f15 f16 f17 g0 g1 g2 g3 g5 g11 g12 g14 g15 g16 g17 : Bool) (w : World) (h1 : impl_SubFlags32.f 3 a0 a1 = some (f0, f1, f2, f3, f4, f5, f6, f7, f8, f9, f10, f11, f12, f13, f14, f15, f16, f17)) (h2 : impl_SubFlags64.f 3 (wrap64 a0) (wrap64 a1) = some (g0, g1, g2, g3, f4, g5, f6, f7, f8, f9, f10, g11, g12, f13, g14, g15, g16, g17)) (h3 : spec_Fits.f (wrap64 a0) 32 = some true) (t8 : f5 = !f4) :
    Calls Try.prog 8 #[.int .i32 a0, .int .i32 a1] w fun e w' => e = .returned (.bool true) ∧ Below w.heap.size w w' := by
  have hu23 := Try.underlying23
  have HB := Aside0.mk (Below.refl w.heap.size w)
  have H1 := Aside0.mk h1
  have H2 := Aside0.mk h2
  have H3 := Aside0.mk h3
  have t9 : (!(f4 == f5)) = true := by rw [t8]; cases f4 <;> rfl
  clear h1 h2 h3 t8
  go_enter Try.func8, Try.ntmps8
  go_upto_region 2 with (first | ((with_reducible refine gate_store (p := 5) rfl ?_); refine store_block (.tmp 5) (.tmp 9) 23 rfl rfl bf #[.bool f0, .bool f1, .bool f2, .bool f3, .bool f4, .bool f5, .bool f6, .bool f7, .bool f8, .bool f9, .bool f10, .bool f11, .bool f12, .bool f13, .bool f14, .bool f15, .bool f16, .bool f17] #[.bool false, .bool false, .bool false, .bool false, .bool false, .bool false, .bool false, .bool false, .bool false, .bool false, .bool false, .bool false, .bool false, .bool false, .bool false, .bool false, .bool false, .bool false] rfl rfl (by apply heap_is; (focus (repeat (first | with_reducible exact BKbf.out | with_reducible apply blk_drewN | with_reducible apply blk_drew | with_reducible apply blk_alloc | with_reducible apply blk_set | (with_reducible apply blk_aside; assumption)))); first | rfl | (simp; done)) info23z rfl rfl (by simp [Value.oneCell']) (by repeat (first | (with_reducible first | exact HB.out | apply below_alloc | apply pw_below_drewN | apply below_drew1 | refine below_set ?_ GEbf.out | refine below_set ?_ GEbg.out) | exact HB.out)) GEbf.out ?_; intro w5 hbk hb hk; have mbg_ := Aside0.mk (hk _ _ (by assumption) BKbg.out); clear HB BKbf BKbg; have HB := Aside0.mk hb; have BKbf := Aside0.mk hbk; have BKbg := mbg_; clear mbg_; clear hbk hb hk) | ((with_reducible refine gate_store (p := 6) rfl ?_); refine store_block (.tmp 6) (.tmp 14) 23 rfl rfl bg #[.bool g0, .bool g1, .bool g2, .bool g3, .bool f4, .bool g5, .bool f6, .bool f7, .bool f8, .bool f9, .bool f10, .bool g11, .bool g12, .bool f13, .bool g14, .bool g15, .bool g16, .bool g17] #[.bool false, .bool false, .bool false, .bool false, .bool false, .bool false, .bool false, .bool false, .bool false, .bool false, .bool false, .bool false, .bool false, .bool false, .bool false, .bool false, .bool false, .bool false] rfl rfl (by apply heap_is; (focus (repeat (first | with_reducible exact BKbg.out | with_reducible apply blk_drewN | with_reducible apply blk_drew | with_reducible apply blk_alloc | with_reducible apply blk_set | (with_reducible apply blk_aside; assumption)))); first | rfl | (simp; done)) info23z rfl rfl (by simp [Value.oneCell']) (by repeat (first | (with_reducible first | exact HB.out | apply below_alloc | apply pw_below_drewN | apply below_drew1 | refine below_set ?_ GEbg.out | refine below_set ?_ GEbf.out) | exact HB.out)) GEbg.out ?_; intro w6 hbk hb hk; have mbf_ := Aside0.mk (hk _ _ (by assumption) BKbf.out); clear HB BKbg BKbf; have HB := Aside0.mk hb; have BKbg := Aside0.mk hbk; have BKbf := mbf_; clear mbf_; clear hbk hb hk) | (go_at_call 13; (with_reducible refine (impl_SubFlags32.calls 3 a0 a1 f0 f1 f2 f3 f4 f5 f6 f7 f8 f9 f10 f11 f12 f13 f14 f15 f16 f17 _ H1.out).mono ?_); rintro e w1 ⟨rfl, bel⟩; have n0_ := Aside0.mk (below_step (by repeat (first | (with_reducible first | exact HB.out | apply below_alloc | apply pw_below_drewN | apply below_drew1) | exact HB.out)) bel); clear HB; have HB := n0_; clear n0_ bel) | (go_at_call 10; (with_reducible refine (impl_SubFlags64.calls 3 (wrap64 a0) (wrap64 a1) g0 g1 g2 g3 f4 g5 f6 f7 f8 f9 f10 g11 g12 f13 g14 g15 g16 g17 _ H2.out).mono ?_); rintro e w2 ⟨rfl, bel⟩; have n0_ := Aside0.mk (below_step (by repeat (first | (with_reducible first | exact HB.out | apply below_alloc | apply pw_below_drewN | apply below_drew1) | exact HB.out)) bel); clear HB; have HB := n0_; clear n0_ bel) | ((with_reducible refine gate_dst (N := 5) rfl ?_); refine box_event ?hg (N := 5) ?hd (cs := #[.bool false, .bool false, .bool false, .bool false, .bool false, .bool false, .bool false, .bool false, .bool false, .bool false, .bool false, .bool false, .bool false, .bool false, .bool false, .bool false, .bool false, .bool false]) (t := 23) ?hr ?_; (case hd => rfl); (case hg => rfl); (case hr => first | (go_simp; done) | (go_simp; rfl)); intro bf hg w3 hbox hb; have n0_ := Aside0.mk (below_step (by repeat (first | (with_reducible first | exact HB.out | apply below_alloc | apply pw_below_drewN | apply below_drew1) | exact HB.out)) hb); have n1_ := Aside0.mk (hbox); have n2_ := Aside0.mk ((by rw [hg]; exact (below_size (by repeat (first | (with_reducible first | exact HB.out | apply below_alloc | apply pw_below_drewN | apply below_drew1) | exact HB.out))) : w.heap.size ≤ bf)); clear HB; have HB := n0_; have BKbf := n1_; have GEbf := n2_; clear n0_ n1_ n2_; clear hb hbox hg) | ((with_reducible refine gate_dst (N := 6) rfl ?_); refine box_event ?hg (N := 6) ?hd (cs := #[.bool false, .bool false, .bool false, .bool false, .bool false, .bool false, .bool false, .bool false, .bool false, .bool false, .bool false, .bool false, .bool false, .bool false, .bool false, .bool false, .bool false, .bool false]) (t := 23) ?hr ?_; (case hd => rfl); (case hg => rfl); (case hr => first | (go_simp; done) | (go_simp; rfl)); intro bg hg w4 hbox hb; have mbf_ := Aside0.mk (blk_below (g := bf) (o := .cells #[.bool false, .bool false, .bool false, .bool false, .bool false, .bool false, .bool false, .bool false, .bool false, .bool false, .bool false, .bool false, .bool false, .bool false, .bool false, .bool false, .bool false, .bool false] 23 (0, 0)) (by apply heap_is; (focus (repeat (first | with_reducible exact BKbf.out | with_reducible apply blk_drewN | with_reducible apply blk_drew | with_reducible apply blk_alloc | with_reducible apply blk_set | (with_reducible apply blk_aside; assumption)))); first | rfl | (simp; done)) hb); have qbf_ := Aside0.mk ((by rw [hg]; exact Nat.ne_of_lt (blk_lt (g := bf) (o := .cells #[.bool false, .bool false, .bool false, .bool false, .bool false, .bool false, .bool false, .bool false, .bool false, .bool false, .bool false, .bool false, .bool false, .bool false, .bool false, .bool false, .bool false, .bool false] 23 (0, 0)) (by apply heap_is; (focus (repeat (first | with_reducible exact BKbf.out | with_reducible apply blk_drewN | with_reducible apply blk_drew | with_reducible apply blk_alloc | with_reducible apply blk_set | (with_reducible apply blk_aside; assumption)))); first | rfl | (simp; done)))) : bf ≠ bg); have rbf_ := Aside0.mk ((by rw [hg]; exact Nat.ne_of_gt (blk_lt (g := bf) (o := .cells #[.bool false, .bool false, .bool false, .bool false, .bool false, .bool false, .bool false, .bool false, .bool false, .bool false, .bool false, .bool false, .bool false, .bool false, .bool false, .bool false, .bool false, .bool false] 23 (0, 0)) (by apply heap_is; (focus (repeat (first | with_reducible exact BKbf.out | with_reducible apply blk_drewN | with_reducible apply blk_drew | with_reducible apply blk_alloc | with_reducible apply blk_set | (with_reducible apply blk_aside; assumption)))); first | rfl | (simp; done)))) : bg ≠ bf); have n0_ := Aside0.mk (below_step (by repeat (first | (with_reducible first | exact HB.out | apply below_alloc | apply pw_below_drewN | apply below_drew1 | refine below_set ?_ GEbf.out) | exact HB.out)) hb); have n1_ := Aside0.mk (hbox); have n2_ := Aside0.mk ((by rw [hg]; exact (below_size (by repeat (first | (with_reducible first | exact HB.out | apply below_alloc | apply pw_below_drewN | apply below_drew1 | refine below_set ?_ GEbf.out) | exact HB.out))) : w.heap.size ≤ bg)); clear BKbf; clear HB; have BKbf := mbf_; have NBbf_bg := qbf_.out; have NBbg_bf := rbf_.out; clear mbf_ qbf_ rbf_; have HB := n0_; have BKbg := n1_; have GEbg := n2_; clear n0_ n1_ n2_; clear hb hbox hg))
  refine wp_world (fun w' => Below w.heap.size w w' ∧ w'.heap[bf]? = some (.cells #[.bool f0, .bool f1, .bool f2, .bool f3, .bool f4, .bool f5, .bool f6, .bool f7, .bool f8, .bool f9, .bool f10, .bool f11, .bool f12, .bool f13, .bool f14, .bool f15, .bool f16, .bool f17] 23 (0, 0)) ∧ w'.heap[bg]? = some (.cells #[.bool g0, .bool g1, .bool g2, .bool g3, .bool f4, .bool g5, .bool f6, .bool f7, .bool f8, .bool f9, .bool f10, .bool g11, .bool g12, .bool f13, .bool g14, .bool g15, .bool g16, .bool g17] 23 (0, 0))) ⟨(by repeat (first | (with_reducible first | exact HB.out | apply below_alloc | apply pw_below_drewN | apply below_drew1 | refine below_set ?_ GEbf.out | refine below_set ?_ GEbg.out) | exact HB.out)), (by apply heap_is; (focus (repeat (first | with_reducible exact BKbf.out | with_reducible apply blk_drewN | with_reducible apply blk_drew | with_reducible apply blk_alloc | with_reducible apply blk_set | (with_reducible apply blk_aside; assumption)))); first | rfl | (simp; done)), (by apply heap_is; (focus (repeat (first | with_reducible exact BKbg.out | with_reducible apply blk_drewN | with_reducible apply blk_drew | with_reducible apply blk_alloc | with_reducible apply blk_set | (with_reducible apply blk_aside; assumption)))); first | rfl | (simp; done))⟩ ?_
  rintro w9 ⟨n0_, mbf_, mbg_⟩
  clear HB BKbf BKbg
  have HB := Aside0.mk n0_
  clear n0_
  have BKbf := Aside0.mk mbf_
  clear mbf_
  have BKbg := Aside0.mk mbg_
  clear mbg_
  have hczw9bf_4 : World.cell? w9 ⟨bf, 4, none⟩ = some (.bool f4) := (blk_cell BKbf.out 4).trans rfl
  have hfzw9bf_4 := blk_frozen BKbf.out 4
  have hczw9bf_5 : World.cell? w9 ⟨bf, 5, none⟩ = some (.bool f5) := (blk_cell BKbf.out 5).trans rfl
  have hfzw9bf_5 := blk_frozen BKbf.out 5
  have hczw9bf_6 : World.cell? w9 ⟨bf, 6, none⟩ = some (.bool f6) := (blk_cell BKbf.out 6).trans rfl
  have hfzw9bf_6 := blk_frozen BKbf.out 6
  have hczw9bf_7 : World.cell? w9 ⟨bf, 7, none⟩ = some (.bool f7) := (blk_cell BKbf.out 7).trans rfl
  have hfzw9bf_7 := blk_frozen BKbf.out 7
  have hczw9bf_8 : World.cell? w9 ⟨bf, 8, none⟩ = some (.bool f8) := (blk_cell BKbf.out 8).trans rfl
  have hfzw9bf_8 := blk_frozen BKbf.out 8
  have hczw9bf_9 : World.cell? w9 ⟨bf, 9, none⟩ = some (.bool f9) := (blk_cell BKbf.out 9).trans rfl
  have hfzw9bf_9 := blk_frozen BKbf.out 9
  have hczw9bf_10 : World.cell? w9 ⟨bf, 10, none⟩ = some (.bool f10) := (blk_cell BKbf.out 10).trans rfl
  have hfzw9bf_10 := blk_frozen BKbf.out 10
  have hczw9bf_13 : World.cell? w9 ⟨bf, 13, none⟩ = some (.bool f13) := (blk_cell BKbf.out 13).trans rfl
  have hfzw9bf_13 := blk_frozen BKbf.out 13
  have hczw9bg_4 : World.cell? w9 ⟨bg, 4, none⟩ = some (.bool f4) := (blk_cell BKbg.out 4).trans rfl
  have hfzw9bg_4 := blk_frozen BKbg.out 4
  have hczw9bg_6 : World.cell? w9 ⟨bg, 6, none⟩ = some (.bool f6) := (blk_cell BKbg.out 6).trans rfl
  have hfzw9bg_6 := blk_frozen BKbg.out 6
  have hczw9bg_7 : World.cell? w9 ⟨bg, 7, none⟩ = some (.bool f7) := (blk_cell BKbg.out 7).trans rfl
  have hfzw9bg_7 := blk_frozen BKbg.out 7
  have hczw9bg_8 : World.cell? w9 ⟨bg, 8, none⟩ = some (.bool f8) := (blk_cell BKbg.out 8).trans rfl
  have hfzw9bg_8 := blk_frozen BKbg.out 8
  have hczw9bg_9 : World.cell? w9 ⟨bg, 9, none⟩ = some (.bool f9) := (blk_cell BKbg.out 9).trans rfl
  have hfzw9bg_9 := blk_frozen BKbg.out 9
  have hczw9bg_10 : World.cell? w9 ⟨bg, 10, none⟩ = some (.bool f10) := (blk_cell BKbg.out 10).trans rfl
  have hfzw9bg_10 := blk_frozen BKbg.out 10
  have hczw9bg_13 : World.cell? w9 ⟨bg, 13, none⟩ = some (.bool f13) := (blk_cell BKbg.out 13).trans rfl
  have hfzw9bg_13 := blk_frozen BKbg.out 13
  go_wp2_with (first | (go_at_call 14; (with_reducible refine (spec_Fits.calls (wrap64 a0) 32 true _ H3.out).mono ?_); rintro e w' ⟨rfl, ⟨nd, rfl⟩⟩))
  go_ret
  exact ⟨by first | rfl | (exact congrArg (fun x => Ending.returned (Value.bool x)) t9) | (simp; done) | (simp [*]; done), by repeat (first | (with_reducible first | exact HB.out | apply below_alloc | apply pw_below_drewN | apply below_drew1) | exact HB.out)⟩

def code (n z c v : Bool) : Int := (if n then 1 else 0) + (if z then 2 else 0) + (if c then 4 else 0) + (if v then 8 else 0)
theorem enc_all : ∀ n z c v : Bool, ssarewrite_flagConstantBuilder_encode.f 3 n z c v = some (code n z c v) := by decide +kernel
theorem flags_all : ∀ n z c v : Bool, impl_flags.f (code n z c v) = some (n, z, c, v, z, !z, n != v, z || (n != v), !z && (n == v), n == v, !c, z || !c, !z && c, c, (n != v) && !v, (z || (n != v)) && !v, (!z && (n == v)) && !v, (n == v) && !v) := by
  intro n z c v
  cases n <;> cases z <;> cases c <;> cases v <;> kernel_rfl
theorem u64w (n : Int) : IntKind.u64.wrap n = n % 18446744073709551616 := by simp [IntKind.wrap, IntKind.bits, IntKind.signed]

theorem at_SubFlags64 (a b : Int) : ∃ v : Bool, ssarewrite_subFlags64.f 3 a b = some (code (decide (wrap64 (a - b) < 0)) (wrap64 (a - b) == 0) (decide ((IntKind.u64.wrap (b)) ≤ (IntKind.u64.wrap (a)))) v) ∧ (v = true ↔ (a ≥ 0 ∧ b < 0 ∧ wrap64 (a - b) < 0) ∨ (a < 0 ∧ b ≥ 0 ∧ wrap64 (a - b) ≥ 0)) := by
  unfold ssarewrite_subFlags64.f
  simp only [enc_all, Option.bind_some]
  repeat' split
  all_goals (refine ⟨_, rfl, ?_⟩; simp only [Bool.false_eq_true, decide_eq_true_eq, true_iff, false_iff]; omega)
theorem of_SubFlags64 (a b : Int) : ∃ v : Bool, (v = true ↔ (a ≥ 0 ∧ b < 0 ∧ wrap64 (a - b) < 0) ∨ (a < 0 ∧ b ≥ 0 ∧ wrap64 (a - b) ≥ 0)) ∧ ∃ n z c : Bool, n = decide (wrap64 (a - b) < 0) ∧ z = (wrap64 (a - b) == 0) ∧ c = decide ((IntKind.u64.wrap (b)) ≤ (IntKind.u64.wrap (a))) ∧
    impl_SubFlags64.f 3 a b = some (n, z, c, v, z, !z, n != v, z || (n != v), !z && (n == v), n == v, !c, z || !c, !z && c, c, (n != v) && !v, (z || (n != v)) && !v, (!z && (n == v)) && !v, (n == v) && !v) := by
  obtain ⟨v, e, h⟩ := at_SubFlags64 a b
  refine ⟨v, h, _, _, _, rfl, rfl, rfl, ?_⟩
  unfold impl_SubFlags64.f ssarewrite_ZZSubFlags64.f
  rw [e]
  simp only [Option.bind_some, flags_all]

theorem at_SubFlags32 (a b : Int) : ∃ v : Bool, ssarewrite_subFlags32.f 3 a b = some (code (decide (wrap32 (a - b) < 0)) (wrap32 (a - b) == 0) (decide (((b) % 4294967296) ≤ ((a) % 4294967296))) v) ∧ (v = true ↔ (a ≥ 0 ∧ b < 0 ∧ wrap32 (a - b) < 0) ∨ (a < 0 ∧ b ≥ 0 ∧ wrap32 (a - b) ≥ 0)) := by
  unfold ssarewrite_subFlags32.f
  simp only [enc_all, Option.bind_some]
  repeat' split
  all_goals (refine ⟨_, rfl, ?_⟩; simp only [Bool.false_eq_true, decide_eq_true_eq, true_iff, false_iff]; omega)
theorem of_SubFlags32 (a b : Int) : ∃ v : Bool, (v = true ↔ (a ≥ 0 ∧ b < 0 ∧ wrap32 (a - b) < 0) ∨ (a < 0 ∧ b ≥ 0 ∧ wrap32 (a - b) ≥ 0)) ∧ ∃ n z c : Bool, n = decide (wrap32 (a - b) < 0) ∧ z = (wrap32 (a - b) == 0) ∧ c = decide (((b) % 4294967296) ≤ ((a) % 4294967296)) ∧
    impl_SubFlags32.f 3 a b = some (n, z, c, v, z, !z, n != v, z || (n != v), !z && (n == v), n == v, !c, z || !c, !z && c, c, (n != v) && !v, (z || (n != v)) && !v, (!z && (n == v)) && !v, (n == v) && !v) := by
  obtain ⟨v, e, h⟩ := at_SubFlags32 a b
  refine ⟨v, h, _, _, _, rfl, rfl, rfl, ?_⟩
  unfold impl_SubFlags32.f ssarewrite_ZZSubFlags32.f
  rw [e]
  simp only [Option.bind_some, flags_all]

theorem fits (a : Int) (ha : -2147483648 ≤ a ∧ a ≤ 2147483647) : spec_Fits.f a 32 = some true := by
  unfold spec_Fits.f
  have e1 : IntKind.u64.wrap (32 - 1) = 31 := by decide +kernel
  have e2 : shl .i64 (-1) 31 = -2147483648 := by decide +kernel
  have e3 : shl .i64 1 31 = 2147483648 := by decide +kernel
  rw [e1, e2, e3, if_pos (by decide), if_pos ha.1, decide_eq_true (by omega)]
theorem FnFlagsNarrow_walk (a b : Int) (w : World) (w0 : (Lit.int .i32 a).wf = true) (w1 : (Lit.int .i32 b).wf = true) : Calls Try.prog 8 #[.int .i32 a, .int .i32 b] w fun e w' => e = .returned (.bool true) ∧ Below w.heap.size w w' := by
  have ha := Br.wf_i32 w0
  have hb := Br.wf_i32 w1
  have ea : wrap64 a = a := by unfold wrap64; omega
  have eb : wrap64 b = b := by unfold wrap64; omega
  obtain ⟨v, hv, n, z, c, hn, hz, hc, e⟩ := of_SubFlags64 a b
  obtain ⟨v', hv', n', z', c', hn', hz', hc', e'⟩ := of_SubFlags32 a b
  have q1 : z' = z := by
    rw [hz, hz', Bool.eq_iff_iff, beq_iff_eq, beq_iff_eq]; unfold wrap64 wrap32; omega
  have q2 : c' = c := by
    rw [hc, hc', Bool.eq_iff_iff, decide_eq_true_eq, decide_eq_true_eq, u64w, u64w]; omega
  have q3 : (n' != v') = (n != v) := by
    have q : ∀ p q : Bool, (p != q) = true ↔ ¬ (p = true ↔ q = true) := by decide
    rw [Bool.eq_iff_iff, q, q, hv, hv', hn, hn', decide_eq_true_eq, decide_eq_true_eq]; unfold wrap64 wrap32; omega
  have q4 : (n' == v') = (n == v) := by
    have q : ∀ p q : Bool, (p == q) = !(p != q) := by decide
    rw [q, q, q3]
  subst q1 q2
  have e2 := e
  rw [← ea, ← eb, ← q3, ← q4] at e2
  exact fn_walk a b _ _ _ _ _ _ _ _ _ _ _ _ _ _ _ _ _ _ _ _ _ _ _ _ _ _ _ _ _ w e' e2 (by rw [ea]; exact fits a ha) rfl
end Go.Proofs.Ytdlhgddagnikdaa.PFl
