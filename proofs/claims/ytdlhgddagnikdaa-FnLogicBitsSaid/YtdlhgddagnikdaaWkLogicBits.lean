/- LogicBits: the way where all tests hold. -/
import Derived.Test.YtdlhgddagnikdaaWkAid
import Derived.Test.YtdlhgddagnikdaaPFlx19
import Derived.Test.YtdlhgddagnikdaaPFlx22
import Derived.Deep.DeepCutAuto
namespace Go.Proofs.Ytdlhgddagnikdaa.PFl
open Go.RowKit Go.Proofs.YtdlhgddagnikdaaW.PrintWords Go.Proofs.YtdlhgddagnikdaaW.PrintLast Go.Proofs.YtdlhgddagnikdaaW.PrintMore
attribute [local go_sem] max2_int min2_int max_two min_two max_three min_three max_four min_four
set_option linter.unusedVariables false
set_option linter.unusedSimpArgs false
attribute [local go_sem] signed_i64 signed_i32 signed_u32 max_u32 signed_u64 max_u64
set_option maxHeartbeats 8000000 in
set_option maxRecDepth 100000 in
theorem lb_walk (a0 : Int) (f0 f1 f2 f3 f4 f5 f6 f7 f8 f9 f10 f11 f12 f13 f14 f15 f16 f17 g0 g1 g2 g3 g4 g5 g6 g7 g8 g9 g10 g11 g12 g13 g14 g15 g16 g17 : Bool) (w : World) (h1 : impl_LogicFlags64.f 3 a0 = some (f0, f1, f2, f3, f4, f5, f6, f7, f8, f9, f10, f11, f12, f13, f14, f15, f16, f17)) (h2 : impl_LogicFlags32.f 3 (wrap32 a0) = some (g0, g1, g2, g3, g4, g5, g6, g7, g8, g9, g10, g11, g12, g13, g14, g15, g16, g17))
    (t0 : decide (a0 < 0) = f0) (t1 : (a0 == 0) = f1) (t2 : f2 = false) (t3 : f3 = false) (t4 : decide (wrap32 a0 < 0) = g0) (t5 : (wrap32 a0 == 0) = g1) (t6 : g2 = false) (t7 : g3 = false) (t8 : f5 = !f4) :
    Calls Try.prog 7 #[.int .i64 a0] w fun e w' => e = .returned (.bool true) ∧ Below w.heap.size w w' := by
  have hu23 := Try.underlying23
  have HB := Aside0.mk (Below.refl w.heap.size w)
  have H1 := Aside0.mk h1
  have H2 := Aside0.mk h2
  have t9 : (!(f5 == f4)) = true := by rw [t8]; cases f4 <;> rfl
  clear h1 h2 t8
  subst t2 t3 t6 t7
  go_enter Try.func7, Try.ntmps7
  go_upto_region 2 with (first | ((with_reducible refine gate_store (p := 3) rfl ?_); refine store_block (.tmp 3) (.tmp 6) 23 rfl rfl bf #[.bool f0, .bool f1, .bool false, .bool false, .bool f4, .bool f5, .bool f6, .bool f7, .bool f8, .bool f9, .bool f10, .bool f11, .bool f12, .bool f13, .bool f14, .bool f15, .bool f16, .bool f17] #[.bool false, .bool false, .bool false, .bool false, .bool false, .bool false, .bool false, .bool false, .bool false, .bool false, .bool false, .bool false, .bool false, .bool false, .bool false, .bool false, .bool false, .bool false] rfl rfl (by apply heap_is; (focus (repeat (first | with_reducible exact BKbf.out | with_reducible apply blk_drewN | with_reducible apply blk_drew | with_reducible apply blk_alloc | with_reducible apply blk_set | (with_reducible apply blk_aside; assumption)))); first | rfl | (simp; done)) info23z rfl rfl (by simp [Value.oneCell']) (by repeat (first | (with_reducible first | exact HB.out | apply below_alloc | apply pw_below_drewN | apply below_drew1 | refine below_set ?_ GEbf.out | refine below_set ?_ GEbg.out) | exact HB.out)) GEbf.out ?_; intro w5 hbk hb hk; have mbg_ := Aside0.mk (hk _ _ (by assumption) BKbg.out); clear HB BKbf BKbg; have HB := Aside0.mk hb; have BKbf := Aside0.mk hbk; have BKbg := mbg_; clear mbg_; clear hbk hb hk) | ((with_reducible refine gate_store (p := 4) rfl ?_); refine store_block (.tmp 4) (.tmp 9) 23 rfl rfl bg #[.bool g0, .bool g1, .bool false, .bool false, .bool g4, .bool g5, .bool g6, .bool g7, .bool g8, .bool g9, .bool g10, .bool g11, .bool g12, .bool g13, .bool g14, .bool g15, .bool g16, .bool g17] #[.bool false, .bool false, .bool false, .bool false, .bool false, .bool false, .bool false, .bool false, .bool false, .bool false, .bool false, .bool false, .bool false, .bool false, .bool false, .bool false, .bool false, .bool false] rfl rfl (by apply heap_is; (focus (repeat (first | with_reducible exact BKbg.out | with_reducible apply blk_drewN | with_reducible apply blk_drew | with_reducible apply blk_alloc | with_reducible apply blk_set | (with_reducible apply blk_aside; assumption)))); first | rfl | (simp; done)) info23z rfl rfl (by simp [Value.oneCell']) (by repeat (first | (with_reducible first | exact HB.out | apply below_alloc | apply pw_below_drewN | apply below_drew1 | refine below_set ?_ GEbg.out | refine below_set ?_ GEbf.out) | exact HB.out)) GEbg.out ?_; intro w6 hbk hb hk; have mbf_ := Aside0.mk (hk _ _ (by assumption) BKbf.out); clear HB BKbg BKbf; have HB := Aside0.mk hb; have BKbg := Aside0.mk hbk; have BKbf := mbf_; clear mbf_; clear hbk hb hk) | (go_at_call 11; (with_reducible refine (impl_LogicFlags64.calls 3 a0 f0 f1 false false f4 f5 f6 f7 f8 f9 f10 f11 f12 f13 f14 f15 f16 f17 _ H1.out).mono ?_); rintro e w1 ⟨rfl, bel⟩; have n0_ := Aside0.mk (below_step (by repeat (first | (with_reducible first | exact HB.out | apply below_alloc | apply pw_below_drewN | apply below_drew1) | exact HB.out)) bel); clear HB; have HB := n0_; clear n0_ bel) | (go_at_call 12; (with_reducible refine (impl_LogicFlags32.calls 3 (wrap32 a0) g0 g1 false false g4 g5 g6 g7 g8 g9 g10 g11 g12 g13 g14 g15 g16 g17 _ H2.out).mono ?_); rintro e w2 ⟨rfl, bel⟩; have n0_ := Aside0.mk (below_step (by repeat (first | (with_reducible first | exact HB.out | apply below_alloc | apply pw_below_drewN | apply below_drew1) | exact HB.out)) bel); clear HB; have HB := n0_; clear n0_ bel) | ((with_reducible refine gate_dst (N := 3) rfl ?_); refine box_event ?hg (N := 3) ?hd (cs := #[.bool false, .bool false, .bool false, .bool false, .bool false, .bool false, .bool false, .bool false, .bool false, .bool false, .bool false, .bool false, .bool false, .bool false, .bool false, .bool false, .bool false, .bool false]) (t := 23) ?hr ?_; (case hd => rfl); (case hg => rfl); (case hr => first | (go_simp; done) | (go_simp; rfl)); intro bf hg w3 hbox hb; have n0_ := Aside0.mk (below_step (by repeat (first | (with_reducible first | exact HB.out | apply below_alloc | apply pw_below_drewN | apply below_drew1) | exact HB.out)) hb); have n1_ := Aside0.mk (hbox); have n2_ := Aside0.mk ((by rw [hg]; exact (below_size (by repeat (first | (with_reducible first | exact HB.out | apply below_alloc | apply pw_below_drewN | apply below_drew1) | exact HB.out))) : w.heap.size ≤ bf)); clear HB; have HB := n0_; have BKbf := n1_; have GEbf := n2_; clear n0_ n1_ n2_; clear hb hbox hg) | ((with_reducible refine gate_dst (N := 4) rfl ?_); refine box_event ?hg (N := 4) ?hd (cs := #[.bool false, .bool false, .bool false, .bool false, .bool false, .bool false, .bool false, .bool false, .bool false, .bool false, .bool false, .bool false, .bool false, .bool false, .bool false, .bool false, .bool false, .bool false]) (t := 23) ?hr ?_; (case hd => rfl); (case hg => rfl); (case hr => first | (go_simp; done) | (go_simp; rfl)); intro bg hg w4 hbox hb; have mbf_ := Aside0.mk (blk_below (g := bf) (o := .cells #[.bool false, .bool false, .bool false, .bool false, .bool false, .bool false, .bool false, .bool false, .bool false, .bool false, .bool false, .bool false, .bool false, .bool false, .bool false, .bool false, .bool false, .bool false] 23 (0, 0)) (by apply heap_is; (focus (repeat (first | with_reducible exact BKbf.out | with_reducible apply blk_drewN | with_reducible apply blk_drew | with_reducible apply blk_alloc | with_reducible apply blk_set | (with_reducible apply blk_aside; assumption)))); first | rfl | (simp; done)) hb); have qbf_ := Aside0.mk ((by rw [hg]; exact Nat.ne_of_lt (blk_lt (g := bf) (o := .cells #[.bool false, .bool false, .bool false, .bool false, .bool false, .bool false, .bool false, .bool false, .bool false, .bool false, .bool false, .bool false, .bool false, .bool false, .bool false, .bool false, .bool false, .bool false] 23 (0, 0)) (by apply heap_is; (focus (repeat (first | with_reducible exact BKbf.out | with_reducible apply blk_drewN | with_reducible apply blk_drew | with_reducible apply blk_alloc | with_reducible apply blk_set | (with_reducible apply blk_aside; assumption)))); first | rfl | (simp; done)))) : bf ≠ bg); have rbf_ := Aside0.mk ((by rw [hg]; exact Nat.ne_of_gt (blk_lt (g := bf) (o := .cells #[.bool false, .bool false, .bool false, .bool false, .bool false, .bool false, .bool false, .bool false, .bool false, .bool false, .bool false, .bool false, .bool false, .bool false, .bool false, .bool false, .bool false, .bool false] 23 (0, 0)) (by apply heap_is; (focus (repeat (first | with_reducible exact BKbf.out | with_reducible apply blk_drewN | with_reducible apply blk_drew | with_reducible apply blk_alloc | with_reducible apply blk_set | (with_reducible apply blk_aside; assumption)))); first | rfl | (simp; done)))) : bg ≠ bf); have n0_ := Aside0.mk (below_step (by repeat (first | (with_reducible first | exact HB.out | apply below_alloc | apply pw_below_drewN | apply below_drew1 | refine below_set ?_ GEbf.out) | exact HB.out)) hb); have n1_ := Aside0.mk (hbox); have n2_ := Aside0.mk ((by rw [hg]; exact (below_size (by repeat (first | (with_reducible first | exact HB.out | apply below_alloc | apply pw_below_drewN | apply below_drew1 | refine below_set ?_ GEbf.out) | exact HB.out))) : w.heap.size ≤ bg)); clear BKbf; clear HB; have BKbf := mbf_; have NBbf_bg := qbf_.out; have NBbg_bf := rbf_.out; clear mbf_ qbf_ rbf_; have HB := n0_; have BKbg := n1_; have GEbg := n2_; clear n0_ n1_ n2_; clear hb hbox hg))
  refine wp_world (fun w' => Below w.heap.size w w' ∧ w'.heap[bf]? = some (.cells #[.bool f0, .bool f1, .bool false, .bool false, .bool f4, .bool f5, .bool f6, .bool f7, .bool f8, .bool f9, .bool f10, .bool f11, .bool f12, .bool f13, .bool f14, .bool f15, .bool f16, .bool f17] 23 (0, 0)) ∧ w'.heap[bg]? = some (.cells #[.bool g0, .bool g1, .bool false, .bool false, .bool g4, .bool g5, .bool g6, .bool g7, .bool g8, .bool g9, .bool g10, .bool g11, .bool g12, .bool g13, .bool g14, .bool g15, .bool g16, .bool g17] 23 (0, 0))) ⟨(by repeat (first | (with_reducible first | exact HB.out | apply below_alloc | apply pw_below_drewN | apply below_drew1 | refine below_set ?_ GEbf.out | refine below_set ?_ GEbg.out) | exact HB.out)), (by apply heap_is; (focus (repeat (first | with_reducible exact BKbf.out | with_reducible apply blk_drewN | with_reducible apply blk_drew | with_reducible apply blk_alloc | with_reducible apply blk_set | (with_reducible apply blk_aside; assumption)))); first | rfl | (simp; done)), (by apply heap_is; (focus (repeat (first | with_reducible exact BKbg.out | with_reducible apply blk_drewN | with_reducible apply blk_drew | with_reducible apply blk_alloc | with_reducible apply blk_set | (with_reducible apply blk_aside; assumption)))); first | rfl | (simp; done))⟩ ?_
  rintro w9 ⟨n0_, mbf_, mbg_⟩
  clear HB BKbf BKbg
  have HB := Aside0.mk n0_
  clear n0_
  have BKbf := Aside0.mk mbf_
  clear mbf_
  have BKbg := Aside0.mk mbg_
  clear mbg_
  have hczw9bf_0 : World.cell? w9 ⟨bf, 0, none⟩ = some (.bool f0) := (blk_cell BKbf.out 0).trans rfl
  have hfzw9bf_0 := blk_frozen BKbf.out 0
  have hczw9bf_1 : World.cell? w9 ⟨bf, 1, none⟩ = some (.bool f1) := (blk_cell BKbf.out 1).trans rfl
  have hfzw9bf_1 := blk_frozen BKbf.out 1
  have hczw9bf_2 : World.cell? w9 ⟨bf, 2, none⟩ = some (.bool false) := (blk_cell BKbf.out 2).trans rfl
  have hfzw9bf_2 := blk_frozen BKbf.out 2
  have hczw9bf_3 : World.cell? w9 ⟨bf, 3, none⟩ = some (.bool false) := (blk_cell BKbf.out 3).trans rfl
  have hfzw9bf_3 := blk_frozen BKbf.out 3
  have hczw9bf_4 : World.cell? w9 ⟨bf, 4, none⟩ = some (.bool f4) := (blk_cell BKbf.out 4).trans rfl
  have hfzw9bf_4 := blk_frozen BKbf.out 4
  have hczw9bf_5 : World.cell? w9 ⟨bf, 5, none⟩ = some (.bool f5) := (blk_cell BKbf.out 5).trans rfl
  have hfzw9bf_5 := blk_frozen BKbf.out 5
  have hczw9bg_0 : World.cell? w9 ⟨bg, 0, none⟩ = some (.bool g0) := (blk_cell BKbg.out 0).trans rfl
  have hfzw9bg_0 := blk_frozen BKbg.out 0
  have hczw9bg_1 : World.cell? w9 ⟨bg, 1, none⟩ = some (.bool g1) := (blk_cell BKbg.out 1).trans rfl
  have hfzw9bg_1 := blk_frozen BKbg.out 1
  have hczw9bg_2 : World.cell? w9 ⟨bg, 2, none⟩ = some (.bool false) := (blk_cell BKbg.out 2).trans rfl
  have hfzw9bg_2 := blk_frozen BKbg.out 2
  have hczw9bg_3 : World.cell? w9 ⟨bg, 3, none⟩ = some (.bool false) := (blk_cell BKbg.out 3).trans rfl
  have hfzw9bg_3 := blk_frozen BKbg.out 3
  go_wp2
  go_ret
  exact ⟨by first | rfl | (exact congrArg (fun x => Ending.returned (Value.bool x)) t9) | (simp; done) | (simp [*]; done) | (simp only [t9]; done), by repeat (first | (with_reducible first | exact HB.out | apply below_alloc | apply pw_below_drewN | apply below_drew1) | exact HB.out)⟩

def code (n z c v : Bool) : Int := (if n then 1 else 0) + (if z then 2 else 0) + (if c then 4 else 0) + (if v then 8 else 0)
theorem enc_all : ∀ n z c v : Bool, ssarewrite_flagConstantBuilder_encode.f 3 n z c v = some (code n z c v) := by decide +kernel
theorem flags_all : ∀ n z c v : Bool, impl_flags.f (code n z c v) = some (n, z, c, v, z, !z, n != v, z || (n != v), !z && (n == v), n == v, !c, z || !c, !z && c, c, (n != v) && !v, (z || (n != v)) && !v, (!z && (n == v)) && !v, (n == v) && !v) := by
  intro n z c v
  cases n <;> cases z <;> cases c <;> cases v <;> kernel_rfl
theorem u64w (n : Int) : IntKind.u64.wrap n = n % 18446744073709551616 := by simp [IntKind.wrap, IntKind.bits, IntKind.signed]

theorem of_LogicFlags64 (a : Int) : ∃ n z : Bool, n = decide (a < 0) ∧ z = (a == 0) ∧
    impl_LogicFlags64.f 3 a = some (n, z, false, false, z, !z, n, z || n, !z && !n, !n, true, true, false, false, n, z || n, !z && !n, !n) := by
  refine ⟨_, _, rfl, rfl, ?_⟩
  unfold impl_LogicFlags64.f ssarewrite_ZZLogicFlags64.f ssarewrite_logicFlags64.f
  simp only [enc_all, Option.bind_some, flags_all]
  simp

theorem of_LogicFlags32 (a : Int) : ∃ n z : Bool, n = decide (a < 0) ∧ z = (a == 0) ∧
    impl_LogicFlags32.f 3 a = some (n, z, false, false, z, !z, n, z || n, !z && !n, !n, true, true, false, false, n, z || n, !z && !n, !n) := by
  refine ⟨_, _, rfl, rfl, ?_⟩
  unfold impl_LogicFlags32.f ssarewrite_ZZLogicFlags32.f ssarewrite_logicFlags32.f
  simp only [enc_all, Option.bind_some, flags_all]
  simp
theorem FnLogicBits_walk (a : Int) (w : World) (w0 : (Lit.int .i64 a).wf = true) : Calls Try.prog 7 #[.int .i64 a] w fun e w' => e = .returned (.bool true) ∧ Below w.heap.size w w' := by
  obtain ⟨n, z, hn, hz, e⟩ := of_LogicFlags64 a
  obtain ⟨n', z', hn', hz', e'⟩ := of_LogicFlags32 (wrap32 a)
  exact lb_walk a _ _ _ _ _ _ _ _ _ _ _ _ _ _ _ _ _ _ _ _ _ _ _ _ _ _ _ _ _ _ _ _ _ _ _ _ w e e' hn.symm hz.symm rfl rfl hn'.symm hz'.symm rfl rfl rfl
end Go.Proofs.Ytdlhgddagnikdaa.PFl
