-- Written by a program of this session out of the translation (wip/pp.py): Lean checks it.
import Derived.Test.YtdlhgddagnikdaaPFlx0
import Derived.Test.YtdlhgddagnikdaaPFlx16
namespace Go.Proofs.Ytdlhgddagnikdaa.PFl
open Go.RowKit Go.Proofs.YtdlhgddagnikdaaW.PrintWords Go.Proofs.YtdlhgddagnikdaaW.PrintLast Go.Proofs.YtdlhgddagnikdaaW.PrintMore
attribute [local go_sem] max2_int min2_int max_two min_two max_three min_three max_four min_four   -- for this text's walks alone
set_option linter.unusedVariables false
set_option linter.unusedSimpArgs false

attribute [local go_sem] signed_i64 signed_i32 signed_u32 max_u32 signed_u64 max_u64
/-! ### ssarewrite_logicFlags32: function 42 -/
def ssarewrite_logicFlags32.f (k : Nat) (a0 : Int) : Option (Int) := (ssarewrite_flagConstantBuilder_encode.f k (decide (a0 < 0)) (a0 == 0) false false).bind fun t183 => (some t183)
theorem ssarewrite_logicFlags32.mono : ∀ a0 k, LeO (ssarewrite_logicFlags32.f k a0) (ssarewrite_logicFlags32.f (k + 1) a0) := by
  intro a0 k
  unfold ssarewrite_logicFlags32.f
  repeat' first
      | (with_reducible exact ssarewrite_flagConstantBuilder_encode.mono _ _ _ _ _)
      | (with_reducible exact LeO.refl _)
      | (with_reducible exact LeO.none _)
      | (with_reducible refine LeO.ite ?_ ?_)
      | (with_reducible refine LeO.bind ?_ (fun _ => ?_))
      | exact ssarewrite_flagConstantBuilder_encode.mono _ _ _ _ _
      | exact LeO.none _
      | refine LeO.ite ?_ ?_
      | refine LeO.bind ?_ (fun _ => ?_)
set_option maxHeartbeats 8000000 in
set_option maxRecDepth 100000 in
theorem ssarewrite_logicFlags32.calls (k : Nat) (a0 : Int) (r : Int) (w : World) (h : ssarewrite_logicFlags32.f k a0 = some r) :
    Calls Try.prog 42 #[.int .i32 a0] w fun e w' => e = .returned (.int .u8 r) ∧ Below w.heap.size w w' := by
  have hu43 := Try.underlying43
  have HB := Aside0.mk (Below.refl w.heap.size w)
  have H : ((ssarewrite_flagConstantBuilder_encode.f k (decide (a0 < 0)) (a0 == 0) false false).bind fun t183 => (some t183)) = some r := h
  clear h
  replace H := Option.bind_eq_some_iff.mp H
  obtain ⟨t183, A20, H⟩ := H
  replace H : (some t183) = some r := H
  have A2 := Aside0.mk A20
  clear A20
  obtain rfl := Option.some.inj H
  go_enter Try.func42, Try.ntmps42
  go_wp2_with (first | ((with_reducible refine gate_dst (N := 3) rfl ?_); refine box_event ?hg (N := 3) ?hd (cs := #[.bool false, .bool false, .bool false, .bool false]) (t := 43) ?hr ?_; (case hd => rfl); (case hg => rfl); (case hr => first | (go_simp; done) | (go_simp; rfl)); intro gb182 hg w3 hbox hb; have n0_ := Aside0.mk (below_step (by repeat (first | (with_reducible first | exact HB.out | apply below_alloc | apply pw_below_drewN | apply below_drew1) | exact HB.out)) hb); have n1_ := Aside0.mk (hbox); have n2_ := Aside0.mk ((by rw [hg]; exact (below_size (by repeat (first | (with_reducible first | exact HB.out | apply below_alloc | apply pw_below_drewN | apply below_drew1) | exact HB.out))) : w.heap.size ≤ gb182)); have n3_ := Aside0.mk ((by rw [hg]; exact (below_size (by repeat (first | (with_reducible first | exact HB.out | apply below_alloc | apply pw_below_drewN | apply below_drew1) | exact HB.out))) : w.heap.size ≤ gb182)); clear HB; have HB := n0_; have BK182 := n1_; have GW182 := n2_; have GE182 := n3_; clear n0_ n1_ n2_ n3_; clear hb hbox hg; have hcz4_0 : w3.cell? ⟨gb182, 0, none⟩ = some (.bool false) := (blk_cell BK182.out 0).trans rfl; have hcz4_1 : w3.cell? ⟨gb182, 1, none⟩ = some (.bool false) := (blk_cell BK182.out 1).trans rfl; have hcz4_2 : w3.cell? ⟨gb182, 2, none⟩ = some (.bool false) := (blk_cell BK182.out 2).trans rfl; have hcz4_3 : w3.cell? ⟨gb182, 3, none⟩ = some (.bool false) := (blk_cell BK182.out 3).trans rfl; have hfz4_0 := blk_frozen BK182.out 0; have hfz4_1 := blk_frozen BK182.out 1; have hfz4_2 := blk_frozen BK182.out 2; have hfz4_3 := blk_frozen BK182.out 3) | ((with_reducible refine gate_callee (f := 58) rfl ?_); refine goesL_ (some 11) rfl rfl Try.func58 (by kernel_rfl) rfl #[.agg #[.bool (decide (a0 < 0)), .bool (a0 == 0), .bool false, .bool false]] rfl (by (try simp only [List.map_toArray, List.map_cons, List.map_nil]); first | done | rfl | (simp only [List.length_drop, List.length_take]; rfl)) ?_; (with_reducible refine (ssarewrite_flagConstantBuilder_encode.calls k (decide (a0 < 0)) (a0 == 0) false false t183 _ A2.out).mono ?_); rintro e w5 ⟨rfl, hb⟩; refine ⟨_, rfl, ?_⟩; have n0_ := Aside0.mk (blk_below (g := gb182) (o := .cells #[.bool (decide (a0 < 0)), .bool (a0 == 0), .bool false, .bool false] 43 (0, 0)) (by (with_reducible repeat (first | refine blk_drewN ?_ _ | refine blk_drew ?_ | refine blk_alloc ?_ _)); refine blk_put (cs := #[.bool false, .bool (a0 == 0), .bool false, .bool false]) ?_ 0 _ rfl; (with_reducible repeat (first | refine blk_drewN ?_ _ | refine blk_drew ?_ | refine blk_alloc ?_ _)); refine blk_put (cs := #[.bool false, .bool false, .bool false, .bool false]) ?_ 1 _ rfl; (with_reducible repeat (first | refine blk_drewN ?_ _ | refine blk_drew ?_ | refine blk_alloc ?_ _)); exact BK182.out) hb); have n1_ := Aside0.mk (below_step (by repeat (first | (with_reducible first | exact HB.out | apply below_alloc | apply pw_below_drewN | apply below_drew1 | refine below_set ?_ GE182.out) | exact HB.out)) hb); clear BK182; clear HB; have BK182 := n0_; have HB := n1_; clear n0_ n1_; (try clear hb); (try clear hb2); (try clear hk); (try clear hi)))
  go_ret
  exact ⟨by first | rfl | (simp [errW_none, errW_some] <;> rfl) | (simp [*, errW_none, errW_some] <;> rfl), by repeat (first | (with_reducible first | exact HB.out | apply below_alloc | apply pw_below_drewN | apply below_drew1 | refine below_set ?_ GE182.out) | exact HB.out)⟩

end Go.Proofs.Ytdlhgddagnikdaa.PFl
