/- mkClear hands back a value and a closure: its walk by hand, the closure's, and the law's. -/
import Derived.Test.YtlcaejikcelgoaaDoorPFnClrlsldiSrwx2
namespace Go.Proofs.YtlcaejikcelgoaaDoor.PFnClrlsldiSrw
open Go.RowKit Go.Proofs.YtlcaejikcelgoaaDoorW.PrintWords Go.Proofs.YtlcaejikcelgoaaDoorW.PrintLast Go.Proofs.YtlcaejikcelgoaaDoorW.PrintMore
attribute [local go_sem] max2_int min2_int max_two min_two max_three min_three max_four min_four
set_option linter.unusedVariables false
set_option linter.unusedSimpArgs false
attribute [local go_sem] signed_i64 signed_i32 signed_u32 max_u32 signed_u64 max_u64
set_option maxHeartbeats 8000000 in
set_option maxRecDepth 100000 in
theorem clear_calls (k : Nat) (a0 a1 p s c : Int) (w : World) (A1 : laws_rwAt.f a1 64 = some p) (A2 : laws_rwAt.f a0 (wrap64 (p + 1)) = some s) (A3 : impl_NewShift.f k s p 63 64 = some c) (hc : wrap64 c = c) :
    Calls Tryd.prog 20 #[.int .i64 a0, .int .i64 a1] w fun e w' => ∃ b b' : Nat, e = .returned (.tuple #[.int .i64 c, .func (.func 36) #[] #[.pointer (some ⟨b, 0, none⟩), .pointer (some ⟨b', 0, none⟩)]]) ∧
      w'.cell? ⟨b, 0, none⟩ = some (.int .i64 p) ∧ w'.cell? ⟨b', 0, none⟩ = some (.int .i64 s) ∧ Below w.heap.size w w' := by
  have hmf : ∀ (fn : Fn) (first cap : Array Value) (w : World), (Instr.makeFunc fn first cap).run Tryd.prog w = .ok (.func fn first cap) w := fun _ _ _ _ => rfl
  have HB := Aside0.mk (Below.refl w.heap.size w)
  go_enter Tryd.func20, Tryd.ntmps20
  go_wp2_with (first | ((with_reducible refine gate_dst (N := 6) rfl ?_); refine box_event ?hg (N := 6) ?hd (cs := #[.int .i64 0]) (t := 3) ?hr ?_; (case hd => rfl); (case hg => rfl); (case hr => first | (go_simp; done) | (go_simp; rfl)); intro gbp hg w3 hbox hb; have n0_ := Aside0.mk (below_step (by repeat (first | (with_reducible first | exact HB.out | apply below_alloc | apply pw_below_drewN | apply below_drew1) | exact HB.out)) hb); have n1_ := Aside0.mk (hbox); have n2_ := Aside0.mk ((by rw [hg]; exact (below_size (by repeat (first | (with_reducible first | exact HB.out | apply below_alloc | apply pw_below_drewN | apply below_drew1) | exact HB.out))) : w.heap.size ≤ gbp)); clear HB; have HB := n0_; have BKgbp := n1_; have GEgbp := n2_; clear n0_ n1_ n2_; clear hb hbox hg; have hczw3gbp_0 : w3.cell? ⟨gbp, 0, none⟩ = some (.int .i64 0) := (blk_cell BKgbp.out 0).trans rfl; have hfzw3gbp_0 := blk_frozen BKgbp.out 0) | ((with_reducible refine gate_dst (N := 7) rfl ?_); refine box_event ?hg (N := 7) ?hd (cs := #[.int .i64 0]) (t := 3) ?hr ?_; (case hd => rfl); (case hg => rfl); (case hr => first | (go_simp; done) | (go_simp; rfl)); intro gbs hg w4 hbox hb; have mgbp_ := Aside0.mk (blk_below (g := gbp) (o := .cells #[.int .i64 p] 3 (0, 0)) (by (with_reducible repeat (first | refine blk_drewN ?_ _ | refine blk_drew ?_ | refine blk_alloc ?_ _)); refine blk_put (cs := #[.int .i64 0]) ?_ 0 _ rfl; (with_reducible repeat (first | refine blk_drewN ?_ _ | refine blk_drew ?_ | refine blk_alloc ?_ _)); exact BKgbp.out) hb); have qgbp_ := Aside0.mk ((by rw [hg]; exact Nat.ne_of_lt (blk_lt (g := gbp) (o := .cells #[.int .i64 p] 3 (0, 0)) (by (with_reducible repeat (first | refine blk_drewN ?_ _ | refine blk_drew ?_ | refine blk_alloc ?_ _)); refine blk_put (cs := #[.int .i64 0]) ?_ 0 _ rfl; (with_reducible repeat (first | refine blk_drewN ?_ _ | refine blk_drew ?_ | refine blk_alloc ?_ _)); exact BKgbp.out))) : gbp ≠ gbs); have rgbp_ := Aside0.mk ((by rw [hg]; exact Nat.ne_of_gt (blk_lt (g := gbp) (o := .cells #[.int .i64 p] 3 (0, 0)) (by (with_reducible repeat (first | refine blk_drewN ?_ _ | refine blk_drew ?_ | refine blk_alloc ?_ _)); refine blk_put (cs := #[.int .i64 0]) ?_ 0 _ rfl; (with_reducible repeat (first | refine blk_drewN ?_ _ | refine blk_drew ?_ | refine blk_alloc ?_ _)); exact BKgbp.out))) : gbs ≠ gbp); have n0_ := Aside0.mk (below_step (by repeat (first | (with_reducible first | exact HB.out | apply below_alloc | apply pw_below_drewN | apply below_drew1 | refine below_set ?_ GEgbp.out) | exact HB.out)) hb); have n1_ := Aside0.mk (hbox); have n2_ := Aside0.mk ((by rw [hg]; exact (below_size (by repeat (first | (with_reducible first | exact HB.out | apply below_alloc | apply pw_below_drewN | apply below_drew1 | refine below_set ?_ GEgbp.out) | exact HB.out))) : w.heap.size ≤ gbs)); clear BKgbp; clear HB; have BKgbp := mgbp_; have NBgbp_gbs := qgbp_.out; have NBgbs_gbp := rgbp_.out; clear mgbp_ qgbp_ rgbp_; have HB := n0_; have BKgbs := n1_; have GEgbs := n2_; clear n0_ n1_ n2_; clear hb hbox hg; have hczw4gbp_0 : w4.cell? ⟨gbp, 0, none⟩ = some (.int .i64 p) := (blk_cell BKgbp.out 0).trans rfl; have hfzw4gbp_0 := blk_frozen BKgbp.out 0; have hczw4gbs_0 : w4.cell? ⟨gbs, 0, none⟩ = some (.int .i64 0) := (blk_cell BKgbs.out 0).trans rfl; have hfzw4gbs_0 := blk_frozen BKgbs.out 0) | (go_at_call 12; (with_reducible refine (laws_rwAt.calls a1 64 p _ A1).mono ?_); rintro e w' ⟨rfl, ⟨nd, rfl⟩⟩; (try first | exact ⟨rfl, _, World.drewN_drewN _ _ _⟩ | exact ⟨rfl, _, Eq.trans (World.drewN_drewN _ _ _) (congrArg (World.drewN _) (Nat.add_assoc _ _ _))⟩)) | (go_at_call 12; (with_reducible refine (laws_rwAt.calls a0 (wrap64 (p + 1)) s _ A2).mono ?_); rintro e w' ⟨rfl, ⟨nd, rfl⟩⟩; (try first | exact ⟨rfl, _, World.drewN_drewN _ _ _⟩ | exact ⟨rfl, _, Eq.trans (World.drewN_drewN _ _ _) (congrArg (World.drewN _) (Nat.add_assoc _ _ _))⟩)) | (go_at_call 35; (with_reducible refine (impl_NewShift.calls k s p 63 64 c _ A3).mono ?_); rintro e w' ⟨rfl, ⟨nd, rfl⟩⟩; (try first | exact ⟨rfl, _, World.drewN_drewN _ _ _⟩ | exact ⟨rfl, _, Eq.trans (World.drewN_drewN _ _ _) (congrArg (World.drewN _) (Nat.add_assoc _ _ _))⟩)))
  refine bodyPost_ret (results_list (rs := [.tmp 4, .tmp 5]) rfl (by simp) (.tmp (.tmp .nil))) rfl ?_
  refine ⟨gbp, gbs, by first | rfl | (simp; done) | (simp [*]; done), ?_, ?_, ?_⟩
  · go_simp
  · go_simp
  · repeat (first | (with_reducible first | exact HB.out | apply below_alloc | apply pw_below_drewN | apply below_drew1 | refine below_set ?_ GEgbp.out | refine below_set ?_ GEgbs.out) | exact HB.out)
set_option maxHeartbeats 8000000 in
set_option maxRecDepth 100000 in
theorem does_calls (x p s : Int) (b b' : Nat) (w : World) (hb : w.cell? ⟨b, 0, none⟩ = some (.int .i64 p)) (hb' : w.cell? ⟨b', 0, none⟩ = some (.int .i64 s)) (hp : 0 ≤ p) (hs : 0 ≤ s) :
    Calls Tryd.prog 36 #[.int .u64 x, .pointer (some ⟨b, 0, none⟩), .pointer (some ⟨b', 0, none⟩)] w fun e w' => e = .returned (.int .u64 (shl .u64 (shr .u64 (shl .u64 x p) p) s)) ∧ Drawn0 w w' := by
  have p0 := eq_true hp
  have p1 : decide (0 ≤ p) = true := decide_eq_true hp
  have s0 := eq_true hs
  have s1 : decide (0 ≤ s) = true := decide_eq_true hs
  go_enter Tryd.func36, Tryd.ntmps36
  go_wp2
  go_quiet (fail)
  go_wp2
  go_ret
  exact ⟨by first | rfl | (simp; done), by repeat (first | exact Drawn0.refl _ | apply Drawn0.step)⟩
set_option maxHeartbeats 8000000 in
set_option maxRecDepth 100000 in
theorem law_zero (k : Nat) (a0 a1 a2 a3 p s c t : Int) (w : World) (hT : Tab0 w) (A1 : laws_rwAt.f a1 64 = some p) (A2 : laws_rwAt.f a0 (wrap64 (p + 1)) = some s) (A3 : impl_NewShift.f k s p 63 64 = some c) (hc : wrap64 c = c)
    (A4 : laws_rwAt.f a2 32 = some t) (A5 : impl_ClrlsldiSrw.f k c t = some 0) (A6 : laws_mkWorks.f = some true) :
    Calls Tryd.prog 6 #[.int .i64 a0, .int .i64 a1, .int .i64 a2, .int .u64 a3] w fun e w' => e = .returned (.bool true) ∧ Below w.heap.size w w' := by
  have hmf : ∀ (fn : Fn) (first cap : Array Value) (w : World), (Instr.makeFunc fn first cap).run Tryd.prog w = .ok (.func fn first cap) w := fun _ _ _ _ => rfl
  go_enter Tryd.func6, Tryd.ntmps6
  go_wp2_with (first | (go_at_call 20; (with_reducible refine (clear_calls k a0 a1 p s c _ A1 A2 A3 hc).mono ?_); rintro e w' ⟨b, b', rfl, hb, hb', bel⟩; have HB := Aside0.mk (below_step (by repeat (first | (with_reducible first | exact Below.refl _ _ | apply below_alloc | apply pw_below_drewN | apply below_drew1) | exact Below.refl _ _)) bel); clear bel) | (go_at_call 12; (with_reducible refine (laws_rwAt.calls a2 32 t _ A4).mono ?_); rintro e w' ⟨rfl, ⟨nd, rfl⟩⟩) | (go_at_call 21; (with_reducible refine (impl_ClrlsldiSrw.calls k c t 0 _ (by first | exact hT | exact hT.drewN _ | exact hT.below HB.out | exact (hT.below HB.out).drewN _ | exact ((hT.below HB.out).drewN _).drewN _) A5).mono ?_); rintro e w' ⟨rfl, ⟨nd, rfl⟩⟩) | (go_at_call 22; (with_reducible refine (laws_mkWorks.calls true _ A6).mono ?_); rintro e w' ⟨rfl, ⟨nd, rfl⟩⟩))
  go_ret
  exact ⟨by first | rfl | (simp; done), by repeat (first | (with_reducible first | exact HB.out | apply below_alloc | apply pw_below_drewN | apply below_drew1) | exact HB.out)⟩
set_option maxHeartbeats 8000000 in
set_option maxRecDepth 100000 in
theorem law_good (k : Nat) (a0 a1 a2 a3 p s c t e x : Int) (w : World) (hT : Tab0 w) (A1 : laws_rwAt.f a1 64 = some p) (A2 : laws_rwAt.f a0 (wrap64 (p + 1)) = some s) (A3 : impl_NewShift.f k s p 63 64 = some c) (hc : wrap64 c = c)
    (A4 : laws_rwAt.f a2 32 = some t) (A5 : impl_ClrlsldiSrw.f k c t = some e) (A6 : laws_mkWorks.f = some true) (he : (e == 0) = false) (lo : Int) (A7 : spec_Low.f a3 32 = some lo) (ht : 0 ≤ t) (hx : shr .u64 lo t = x) (hp : 0 ≤ p) (hs : 0 ≤ s)
    (A8 : laws_mkGood.f k e a3 (shl .u64 (shr .u64 (shl .u64 x p) p) s) = some true) :
    Calls Tryd.prog 6 #[.int .i64 a0, .int .i64 a1, .int .i64 a2, .int .u64 a3] w fun e w' => e = .returned (.bool true) ∧ Below w.heap.size w w' := by
  have hmf : ∀ (fn : Fn) (first cap : Array Value) (w : World), (Instr.makeFunc fn first cap).run Tryd.prog w = .ok (.func fn first cap) w := fun _ _ _ _ => rfl
  have t0 := eq_true ht
  have t1 : decide (0 ≤ t) = true := decide_eq_true ht
  have hx_ : lo / 2 ^ min t.toNat 64 = x := hx
  go_enter Tryd.func6, Tryd.ntmps6
  go_wp2_with (first | (go_at_call 20; (with_reducible refine (clear_calls k a0 a1 p s c _ A1 A2 A3 hc).mono ?_); rintro e w' ⟨b, b', rfl, hb, hb', bel⟩; have HB := Aside0.mk (below_step (by repeat (first | (with_reducible first | exact Below.refl _ _ | apply below_alloc | apply pw_below_drewN | apply below_drew1) | exact Below.refl _ _)) bel); clear bel) | (go_at_call 12; (with_reducible refine (laws_rwAt.calls a2 32 t _ A4).mono ?_); rintro e w' ⟨rfl, ⟨nd, rfl⟩⟩) | (go_at_call 21; (with_reducible refine (impl_ClrlsldiSrw.calls k c t e _ (by first | exact hT | exact hT.drewN _ | exact hT.below HB.out | exact (hT.below HB.out).drewN _ | exact ((hT.below HB.out).drewN _).drewN _) A5).mono ?_); rintro e w' ⟨rfl, ⟨nd, rfl⟩⟩) | (go_at_call 22; (with_reducible refine (laws_mkWorks.calls true _ A6).mono ?_); rintro e w' ⟨rfl, ⟨nd, rfl⟩⟩) | (go_at_call 19; (with_reducible refine (spec_Low.calls a3 32 lo _ A7).mono ?_); rintro e w' ⟨rfl, ⟨nd, rfl⟩⟩) | (go_at_call 36; (with_reducible refine (does_calls x p s b b' _ (by first | exact hb | exact (drew_cell _ _ _).trans hb | go_simp) (by first | exact hb' | exact (drew_cell _ _ _).trans hb' | go_simp) hp hs).mono ?_); rintro e w' ⟨rfl, ⟨nd, rfl⟩⟩) | (go_at_call 23; (with_reducible refine (laws_mkGood.calls k e a3 (shl .u64 (shr .u64 (shl .u64 x p) p) s) true _ A8).mono ?_); rintro e w' ⟨rfl, ⟨nd, rfl⟩⟩))
  go_ret
  exact ⟨by first | rfl | (simp; done), by repeat (first | (with_reducible first | exact HB.out | apply below_alloc | apply pw_below_drewN | apply below_drew1) | exact HB.out)⟩
end Go.Proofs.YtlcaejikcelgoaaDoor.PFnClrlsldiSrw
