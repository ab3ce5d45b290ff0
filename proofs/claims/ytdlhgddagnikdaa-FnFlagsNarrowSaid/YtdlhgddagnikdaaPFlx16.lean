-- Written by a program of this session out of the translation (wip/pp.py): Lean checks it.
import Derived.Test.YtdlhgddagnikdaaPFlx0
namespace Go.Proofs.Ytdlhgddagnikdaa.PFl
open Go.RowKit Go.Proofs.YtdlhgddagnikdaaW.PrintWords Go.Proofs.YtdlhgddagnikdaaW.PrintLast Go.Proofs.YtdlhgddagnikdaaW.PrintMore
attribute [local go_sem] max2_int min2_int max_two min_two max_three min_three max_four min_four   -- for this text's walks alone
set_option linter.unusedVariables false
set_option linter.unusedSimpArgs false

attribute [local go_sem] signed_i64 signed_i32 signed_u32 max_u32 signed_u64 max_u64
/-! ### ssarewrite_flagConstantBuilder_encode: function 58 -/
mutual
def ssarewrite_flagConstantBuilder_encode.j0 : Nat → Int → Bool → Bool → Bool → Bool → Option (Int)
  | 0, _, _, _, _, _ => none
  | k + 1, x3, x159000, x159001, x159002, x159003 => if x159001 = true then (ssarewrite_flagConstantBuilder_encode.j1 k (Go.bits .or .u8 x3 2) x159000 x159001 x159002 x159003) else (ssarewrite_flagConstantBuilder_encode.j1 k x3 x159000 x159001 x159002 x159003)
def ssarewrite_flagConstantBuilder_encode.j1 : Nat → Int → Bool → Bool → Bool → Bool → Option (Int)
  | 0, _, _, _, _, _ => none
  | k + 1, x3, x159000, x159001, x159002, x159003 => if x159002 = true then (if x159003 = true then (some (Go.bits .or .u8 (Go.bits .or .u8 x3 4) 8)) else (some (Go.bits .or .u8 x3 4))) else (if x159003 = true then (some (Go.bits .or .u8 x3 8)) else (some x3))
end
def ssarewrite_flagConstantBuilder_encode.f (k : Nat) (a0_0 : Bool) (a0_1 : Bool) (a0_2 : Bool) (a0_3 : Bool) : Option (Int) := if a0_0 = true then (ssarewrite_flagConstantBuilder_encode.j0 k (Go.bits .or .u8 0 1) a0_0 a0_1 a0_2 a0_3) else (ssarewrite_flagConstantBuilder_encode.j0 k 0 a0_0 a0_1 a0_2 a0_3)
theorem ssarewrite_flagConstantBuilder_encode.mono_l : ∀ k, (∀ y0 y1 y2 y3 y4, LeO (ssarewrite_flagConstantBuilder_encode.j0 k y0 y1 y2 y3 y4) (ssarewrite_flagConstantBuilder_encode.j0 (k + 1) y0 y1 y2 y3 y4)) ∧ (∀ y0 y1 y2 y3 y4, LeO (ssarewrite_flagConstantBuilder_encode.j1 k y0 y1 y2 y3 y4) (ssarewrite_flagConstantBuilder_encode.j1 (k + 1) y0 y1 y2 y3 y4))
  | 0 => ⟨fun _ _ _ _ _ r h => by simp [ssarewrite_flagConstantBuilder_encode.j0] at h, fun _ _ _ _ _ r h => by simp [ssarewrite_flagConstantBuilder_encode.j1] at h⟩
  | k + 1 => by
    obtain ⟨ih0, ih1⟩ := ssarewrite_flagConstantBuilder_encode.mono_l k
    refine ⟨?_, ?_⟩
    · intro y0 y1 y2 y3 y4
      unfold ssarewrite_flagConstantBuilder_encode.j0
      repeat' first
      | (with_reducible exact ih0 _ _ _ _ _)
      | (with_reducible exact ih1 _ _ _ _ _)
      | (with_reducible exact LeO.refl _)
      | (with_reducible exact LeO.none _)
      | (with_reducible refine LeO.ite ?_ ?_)
      | (with_reducible refine LeO.bind ?_ (fun _ => ?_))
      | exact ih0 _ _ _ _ _
      | exact ih1 _ _ _ _ _
      | exact LeO.none _
      | refine LeO.ite ?_ ?_
      | refine LeO.bind ?_ (fun _ => ?_)
    · intro y0 y1 y2 y3 y4
      unfold ssarewrite_flagConstantBuilder_encode.j1
      repeat' first
      | (with_reducible exact ih0 _ _ _ _ _)
      | (with_reducible exact ih1 _ _ _ _ _)
      | (with_reducible exact LeO.refl _)
      | (with_reducible exact LeO.none _)
      | (with_reducible refine LeO.ite ?_ ?_)
      | (with_reducible refine LeO.bind ?_ (fun _ => ?_))
      | exact ih0 _ _ _ _ _
      | exact ih1 _ _ _ _ _
      | exact LeO.none _
      | refine LeO.ite ?_ ?_
      | refine LeO.bind ?_ (fun _ => ?_)
theorem ssarewrite_flagConstantBuilder_encode.mono : ∀ a0 a1 a2 a3 k, LeO (ssarewrite_flagConstantBuilder_encode.f k a0 a1 a2 a3) (ssarewrite_flagConstantBuilder_encode.f (k + 1) a0 a1 a2 a3) := by
  intro a0 a1 a2 a3 k
  obtain ⟨ih0, ih1⟩ := ssarewrite_flagConstantBuilder_encode.mono_l k
  unfold ssarewrite_flagConstantBuilder_encode.f
  repeat' first
      | (with_reducible exact ih0 _ _ _ _ _)
      | (with_reducible exact ih1 _ _ _ _ _)
      | (with_reducible exact LeO.refl _)
      | (with_reducible exact LeO.none _)
      | (with_reducible refine LeO.ite ?_ ?_)
      | (with_reducible refine LeO.bind ?_ (fun _ => ?_))
      | exact ih0 _ _ _ _ _
      | exact ih1 _ _ _ _ _
      | exact LeO.none _
      | refine LeO.ite ?_ ?_
      | refine LeO.bind ?_ (fun _ => ?_)
set_option maxHeartbeats 8000000 in
set_option maxRecDepth 100000 in
theorem ssarewrite_flagConstantBuilder_encode.calls (k : Nat) (a0_0 : Bool) (a0_1 : Bool) (a0_2 : Bool) (a0_3 : Bool) (r : Int) (w : World) (h : ssarewrite_flagConstantBuilder_encode.f k a0_0 a0_1 a0_2 a0_3 = some r) :
    Calls Try.prog 58 #[.agg #[.bool a0_0, .bool a0_1, .bool a0_2, .bool a0_3]] w fun e w' => e = .returned (.int .u8 r) ∧ Below w.heap.size w w' := by
  have hu43 := Try.underlying43
  have HB := Aside0.mk (Below.refl w.heap.size w)
  have H : (if a0_0 = true then (ssarewrite_flagConstantBuilder_encode.j0 k (Go.bits .or .u8 0 1) a0_0 a0_1 a0_2 a0_3) else (ssarewrite_flagConstantBuilder_encode.j0 k 0 a0_0 a0_1 a0_2 a0_3)) = some r := h
  clear h
  have HC2 := Aside0.mk H
  clear H
  go_enter Try.func58, Try.ntmps58
  go_upto_if 5 with (first | ((with_reducible refine gate_dst (N := 1) rfl ?_); refine box_event ?hg (N := 1) ?hd (cs := #[.bool a0_0, .bool a0_1, .bool a0_2, .bool a0_3]) (t := 43) ?hr ?_; (case hd => rfl); (case hg => rfl); (case hr => first | (go_simp; done) | (go_simp; rfl)); intro gb158 hg w3 hbox hb; have n0_ := Aside0.mk (below_step (by repeat (first | (with_reducible first | exact HB.out | apply below_alloc | apply pw_below_drewN | apply below_drew1) | exact HB.out)) hb); have n1_ := Aside0.mk (hbox); have n2_ := Aside0.mk ((by rw [hg]; exact (below_size (by repeat (first | (with_reducible first | exact HB.out | apply below_alloc | apply pw_below_drewN | apply below_drew1) | exact HB.out))) : w.heap.size ≤ gb158)); have n3_ := Aside0.mk ((by rw [hg]; exact (below_size (by repeat (first | (with_reducible first | exact HB.out | apply below_alloc | apply pw_below_drewN | apply below_drew1) | exact HB.out))) : w.heap.size ≤ gb158)); clear HB; have HB := n0_; have BK158 := n1_; have GW158 := n2_; have GE158 := n3_; clear n0_ n1_ n2_ n3_; clear hb hbox hg; have hcz4_0 : w3.cell? ⟨gb158, 0, none⟩ = some (.bool a0_0) := (blk_cell BK158.out 0).trans rfl; have hcz4_1 : w3.cell? ⟨gb158, 1, none⟩ = some (.bool a0_1) := (blk_cell BK158.out 1).trans rfl; have hcz4_2 : w3.cell? ⟨gb158, 2, none⟩ = some (.bool a0_2) := (blk_cell BK158.out 2).trans rfl; have hcz4_3 : w3.cell? ⟨gb158, 3, none⟩ = some (.bool a0_3) := (blk_cell BK158.out 3).trans rfl; have hfz4_0 := blk_frozen BK158.out 0; have hfz4_1 := blk_frozen BK158.out 1; have hfz4_2 := blk_frozen BK158.out 2; have hfz4_3 := blk_frozen BK158.out 3))
  (try simp only [Act.put, List.setIfInBounds_toArray, List.set_cons_zero, List.set_cons_succ])
  go_cut [3] (fun v3 wc => ∃ (kq : Nat) (x3_1 : Int), v3 = .int .u8 x3_1 ∧ Aside0 (ssarewrite_flagConstantBuilder_encode.j0 kq x3_1 a0_0 a0_1 a0_2 a0_3 = some r) ∧ Aside0 (kq ≤ k) ∧ Aside0 (wc.heap[gb158]? = some (.cells #[.bool a0_0, .bool a0_1, .bool a0_2, .bool a0_3] 43 (0, 0))) ∧ Aside0 (Below w.heap.size w wc))
  case first =>
    have H := HC2.out
    clear HC2
    by_cases c5 : a0_0 = true
    · subst c5
      have H1 : (ssarewrite_flagConstantBuilder_encode.j0 k (Go.bits .or .u8 0 1) true a0_1 a0_2 a0_3) = some r := by rw [if_pos rfl] at H; exact H
      clear H
      have H := H1
      clear H1
      have H' := Aside0.mk H
      clear H
      go_wp2
      go_meet
      case rel => exact ⟨_, (Go.bits .or .u8 0 1), (by first | rfl | (simp; done) | (simp [*]; done)), H', ⟨by first | omega | exact Nat.le_refl _⟩, ⟨by (with_reducible repeat (first | refine blk_drewN ?_ _ | refine blk_drew ?_ | refine blk_alloc ?_ _)); exact BK158.out⟩, ⟨by repeat (first | (with_reducible first | exact HB.out | apply below_alloc | apply pw_below_drewN | apply below_drew1 | refine below_set ?_ GE158.out) | exact HB.out)⟩⟩
    · replace c5 := Bool.eq_false_iff.mpr c5
      subst c5
      have H1 : (ssarewrite_flagConstantBuilder_encode.j0 k 0 false a0_1 a0_2 a0_3) = some r := by rw [if_neg (show ¬ (false = true) by decide)] at H; exact H
      clear H
      have H := H1
      clear H1
      have H' := Aside0.mk H
      clear H
      go_wp2
      go_meet
      case rel => exact ⟨_, (0), (by first | rfl | (simp; done) | (simp [*]; done)), H', ⟨by first | omega | exact Nat.le_refl _⟩, ⟨by (with_reducible repeat (first | refine blk_drewN ?_ _ | refine blk_drew ?_ | refine blk_alloc ?_ _)); exact BK158.out⟩, ⟨by repeat (first | (with_reducible first | exact HB.out | apply below_alloc | apply pw_below_drewN | apply below_drew1 | refine below_set ?_ GE158.out) | exact HB.out)⟩⟩
  case rest =>
    clear HC2
    try clear p2
    try clear c5
    try clear hcz4_0
    try clear hcz4_1
    try clear hcz4_2
    try clear hcz4_3
    try clear hfz4_0
    try clear hfz4_1
    try clear hfz4_2
    try clear hfz4_3
    obtain ⟨kq, x3_1, rfl, HA, HJ1, BK158, HB⟩ := hcut
    cases kq with
    | zero => exact absurd HA.out (by simp [ssarewrite_flagConstantBuilder_encode.j0])
    | succ kj1 =>
      have H := HA.out
      clear HA
      simp only [ssarewrite_flagConstantBuilder_encode.j0] at H
      have HC6 := Aside0.mk H
      clear H
      have hcz7_0 : wc.cell? ⟨gb158, 0, none⟩ = some (.bool a0_0) := (blk_cell BK158.out 0).trans rfl
      have hcz7_1 : wc.cell? ⟨gb158, 1, none⟩ = some (.bool a0_1) := (blk_cell BK158.out 1).trans rfl
      have hcz7_2 : wc.cell? ⟨gb158, 2, none⟩ = some (.bool a0_2) := (blk_cell BK158.out 2).trans rfl
      have hcz7_3 : wc.cell? ⟨gb158, 3, none⟩ = some (.bool a0_3) := (blk_cell BK158.out 3).trans rfl
      have hfz7_0 := blk_frozen BK158.out 0
      have hfz7_1 := blk_frozen BK158.out 1
      have hfz7_2 := blk_frozen BK158.out 2
      have hfz7_3 := blk_frozen BK158.out 3
      go_upto_if 9 with (fail)
      go_cut [3] (fun v3 wc => ∃ (kq : Nat) (x3_5 : Int), v3 = .int .u8 x3_5 ∧ Aside0 (ssarewrite_flagConstantBuilder_encode.j1 kq x3_5 a0_0 a0_1 a0_2 a0_3 = some r) ∧ Aside0 (kq ≤ kj1) ∧ Aside0 (wc.heap[gb158]? = some (.cells #[.bool a0_0, .bool a0_1, .bool a0_2, .bool a0_3] 43 (0, 0))) ∧ Aside0 (Below w.heap.size w wc))
      case first =>
        have H := HC6.out
        clear HC6
        by_cases c8 : a0_1 = true
        · subst c8
          have H1 : (ssarewrite_flagConstantBuilder_encode.j1 kj1 (Go.bits .or .u8 x3_1 2) a0_0 true a0_2 a0_3) = some r := by rw [if_pos rfl] at H; exact H
          clear H
          have H := H1
          clear H1
          have H' := Aside0.mk H
          clear H
          go_wp2
          go_meet
          case rel => exact ⟨_, (Go.bits .or .u8 x3_1 2), (by first | rfl | (simp; done) | (simp [*]; done)), H', ⟨by have := HJ1.out; first | omega | exact Nat.le_refl _⟩, ⟨by (with_reducible repeat (first | refine blk_drewN ?_ _ | refine blk_drew ?_ | refine blk_alloc ?_ _)); exact BK158.out⟩, ⟨by repeat (first | (with_reducible first | exact HB.out | apply below_alloc | apply pw_below_drewN | apply below_drew1 | refine below_set ?_ GE158.out) | exact HB.out)⟩⟩
        · replace c8 := Bool.eq_false_iff.mpr c8
          subst c8
          have H1 : (ssarewrite_flagConstantBuilder_encode.j1 kj1 x3_1 a0_0 false a0_2 a0_3) = some r := by rw [if_neg (show ¬ (false = true) by decide)] at H; exact H
          clear H
          have H := H1
          clear H1
          have H' := Aside0.mk H
          clear H
          go_wp2
          go_meet
          case rel => exact ⟨_, (x3_1), (by first | rfl | (simp; done) | (simp [*]; done)), H', ⟨by have := HJ1.out; first | omega | exact Nat.le_refl _⟩, ⟨by (with_reducible repeat (first | refine blk_drewN ?_ _ | refine blk_drew ?_ | refine blk_alloc ?_ _)); exact BK158.out⟩, ⟨by repeat (first | (with_reducible first | exact HB.out | apply below_alloc | apply pw_below_drewN | apply below_drew1 | refine below_set ?_ GE158.out) | exact HB.out)⟩⟩
      case rest =>
        clear HC6
        try clear p2
        try clear c5
        try clear c8
        try clear hcz4_0
        try clear hcz4_1
        try clear hcz4_2
        try clear hcz4_3
        try clear hcz7_0
        try clear hcz7_1
        try clear hcz7_2
        try clear hcz7_3
        try clear hfz4_0
        try clear hfz4_1
        try clear hfz4_2
        try clear hfz4_3
        try clear hfz7_0
        try clear hfz7_1
        try clear hfz7_2
        try clear hfz7_3
        try clear p2
        obtain ⟨kq, x3_5, rfl, HA, HJ5, BK158, HB⟩ := hcut
        cases kq with
        | zero => exact absurd HA.out (by simp [ssarewrite_flagConstantBuilder_encode.j1])
        | succ kj5 =>
          have H := HA.out
          clear HA
          simp only [ssarewrite_flagConstantBuilder_encode.j1] at H
          by_cases c9 : a0_2 = true
          · subst c9
            have H1 : (if a0_3 = true then (some (Go.bits .or .u8 (Go.bits .or .u8 x3_5 4) 8)) else (some (Go.bits .or .u8 x3_5 4))) = some r := by rw [if_pos rfl] at H; exact H
            clear H
            have H := H1
            clear H1
            by_cases c10 : a0_3 = true
            · subst c10
              have H1 : (some (Go.bits .or .u8 (Go.bits .or .u8 x3_5 4) 8)) = some r := by rw [if_pos rfl] at H; exact H
              clear H
              have H := H1
              clear H1
              obtain rfl := Option.some.inj H
              have hcz11_0 : wc.cell? ⟨gb158, 0, none⟩ = some (.bool a0_0) := (blk_cell BK158.out 0).trans rfl
              have hcz11_1 : wc.cell? ⟨gb158, 1, none⟩ = some (.bool a0_1) := (blk_cell BK158.out 1).trans rfl
              have hcz11_2 : wc.cell? ⟨gb158, 2, none⟩ = some (.bool true) := (blk_cell BK158.out 2).trans rfl
              have hcz11_3 : wc.cell? ⟨gb158, 3, none⟩ = some (.bool true) := (blk_cell BK158.out 3).trans rfl
              have hfz11_0 := blk_frozen BK158.out 0
              have hfz11_1 := blk_frozen BK158.out 1
              have hfz11_2 := blk_frozen BK158.out 2
              have hfz11_3 := blk_frozen BK158.out 3
              go_wp2
              go_ret
              exact ⟨by first | rfl | (simp [errW_none, errW_some] <;> rfl) | (simp [*, errW_none, errW_some] <;> rfl), by repeat (first | (with_reducible first | exact HB.out | apply below_alloc | apply pw_below_drewN | apply below_drew1 | refine below_set ?_ GE158.out) | exact HB.out)⟩
            · replace c10 := Bool.eq_false_iff.mpr c10
              subst c10
              have H1 : (some (Go.bits .or .u8 x3_5 4)) = some r := by rw [if_neg (show ¬ (false = true) by decide)] at H; exact H
              clear H
              have H := H1
              clear H1
              obtain rfl := Option.some.inj H
              have hcz12_0 : wc.cell? ⟨gb158, 0, none⟩ = some (.bool a0_0) := (blk_cell BK158.out 0).trans rfl
              have hcz12_1 : wc.cell? ⟨gb158, 1, none⟩ = some (.bool a0_1) := (blk_cell BK158.out 1).trans rfl
              have hcz12_2 : wc.cell? ⟨gb158, 2, none⟩ = some (.bool true) := (blk_cell BK158.out 2).trans rfl
              have hcz12_3 : wc.cell? ⟨gb158, 3, none⟩ = some (.bool false) := (blk_cell BK158.out 3).trans rfl
              have hfz12_0 := blk_frozen BK158.out 0
              have hfz12_1 := blk_frozen BK158.out 1
              have hfz12_2 := blk_frozen BK158.out 2
              have hfz12_3 := blk_frozen BK158.out 3
              go_wp2
              go_ret
              exact ⟨by first | rfl | (simp [errW_none, errW_some] <;> rfl) | (simp [*, errW_none, errW_some] <;> rfl), by repeat (first | (with_reducible first | exact HB.out | apply below_alloc | apply pw_below_drewN | apply below_drew1 | refine below_set ?_ GE158.out) | exact HB.out)⟩
          · replace c9 := Bool.eq_false_iff.mpr c9
            subst c9
            have H1 : (if a0_3 = true then (some (Go.bits .or .u8 x3_5 8)) else (some x3_5)) = some r := by rw [if_neg (show ¬ (false = true) by decide)] at H; exact H
            clear H
            have H := H1
            clear H1
            by_cases c13 : a0_3 = true
            · subst c13
              have H1 : (some (Go.bits .or .u8 x3_5 8)) = some r := by rw [if_pos rfl] at H; exact H
              clear H
              have H := H1
              clear H1
              obtain rfl := Option.some.inj H
              have hcz14_0 : wc.cell? ⟨gb158, 0, none⟩ = some (.bool a0_0) := (blk_cell BK158.out 0).trans rfl
              have hcz14_1 : wc.cell? ⟨gb158, 1, none⟩ = some (.bool a0_1) := (blk_cell BK158.out 1).trans rfl
              have hcz14_2 : wc.cell? ⟨gb158, 2, none⟩ = some (.bool false) := (blk_cell BK158.out 2).trans rfl
              have hcz14_3 : wc.cell? ⟨gb158, 3, none⟩ = some (.bool true) := (blk_cell BK158.out 3).trans rfl
              have hfz14_0 := blk_frozen BK158.out 0
              have hfz14_1 := blk_frozen BK158.out 1
              have hfz14_2 := blk_frozen BK158.out 2
              have hfz14_3 := blk_frozen BK158.out 3
              go_wp2
              go_ret
              exact ⟨by first | rfl | (simp [errW_none, errW_some] <;> rfl) | (simp [*, errW_none, errW_some] <;> rfl), by repeat (first | (with_reducible first | exact HB.out | apply below_alloc | apply pw_below_drewN | apply below_drew1 | refine below_set ?_ GE158.out) | exact HB.out)⟩
            · replace c13 := Bool.eq_false_iff.mpr c13
              subst c13
              have H1 : (some x3_5) = some r := by rw [if_neg (show ¬ (false = true) by decide)] at H; exact H
              clear H
              have H := H1
              clear H1
              obtain rfl := Option.some.inj H
              have hcz15_0 : wc.cell? ⟨gb158, 0, none⟩ = some (.bool a0_0) := (blk_cell BK158.out 0).trans rfl
              have hcz15_1 : wc.cell? ⟨gb158, 1, none⟩ = some (.bool a0_1) := (blk_cell BK158.out 1).trans rfl
              have hcz15_2 : wc.cell? ⟨gb158, 2, none⟩ = some (.bool false) := (blk_cell BK158.out 2).trans rfl
              have hcz15_3 : wc.cell? ⟨gb158, 3, none⟩ = some (.bool false) := (blk_cell BK158.out 3).trans rfl
              have hfz15_0 := blk_frozen BK158.out 0
              have hfz15_1 := blk_frozen BK158.out 1
              have hfz15_2 := blk_frozen BK158.out 2
              have hfz15_3 := blk_frozen BK158.out 3
              go_wp2
              go_ret
              exact ⟨by first | rfl | (simp [errW_none, errW_some] <;> rfl) | (simp [*, errW_none, errW_some] <;> rfl), by repeat (first | (with_reducible first | exact HB.out | apply below_alloc | apply pw_below_drewN | apply below_drew1 | refine below_set ?_ GE158.out) | exact HB.out)⟩

end Go.Proofs.Ytdlhgddagnikdaa.PFl
