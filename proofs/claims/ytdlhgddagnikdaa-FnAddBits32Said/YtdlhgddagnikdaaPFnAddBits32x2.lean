-- Written by a program of this session out of the translation (wip/pp.py): Lean checks it.
import Derived.Test.YtdlhgddagnikdaaPFnAddBits32x0
import Derived.Test.YtdlhgddagnikdaaPFnAddBits32x1
namespace Go.Proofs.Ytdlhgddagnikdaa.PFnAddBits32
open Go.RowKit Go.Proofs.YtdlhgddagnikdaaW.PrintWords Go.Proofs.YtdlhgddagnikdaaW.PrintLast Go.Proofs.YtdlhgddagnikdaaW.PrintMore
attribute [local go_sem] max2_int min2_int max_two min_two max_three min_three max_four min_four   -- for this text's walks alone
set_option linter.unusedVariables false
set_option linter.unusedSimpArgs false

attribute [local go_sem] signed_u32 max_u32 signed_u64 max_u64
/-! ### ssarewrite_flagConstantBuilder_encode: function 58 -/
mutual
def ssarewrite_flagConstantBuilder_encode.j0 : Nat → Int → Bool → Bool → Bool → Bool → Option (Int)
  | 0, _, _, _, _, _ => none
  | k + 1, x3, x159000, x159001, x159002, x159003 => if x159001 = true then (ssarewrite_flagConstantBuilder_encode.j1 k (Go.bits .or .u8 x3 2) x159000 x159001 x159002 x159003) else (ssarewrite_flagConstantBuilder_encode.j1 k x3 x159000 x159001 x159002 x159003)
def ssarewrite_flagConstantBuilder_encode.j1 : Nat → Int → Bool → Bool → Bool → Bool → Option (Int)
  | 0, _, _, _, _, _ => none
  | k + 1, x3, x159000, x159001, x159002, x159003 => if x159002 = true then (if x159003 = true then (some (Go.bits .or .u8 (Go.bits .or .u8 x3 4) 8)) else (some (Go.bits .or .u8 x3 4))) else (if x159003 = true then (some (Go.bits .or .u8 x3 8)) else (some x3))
end
def ssarewrite_flagConstantBuilder_encode.f (k : Nat) (a0_0 : Bool) (a0_1 : Bool) (a0_2 : Bool) (a0_3 : Bool) : Option (Int) := if a0_0 = true then (ssarewrite_flagConstantBuilder_encode.j0 k (Go.bits .or .u8 0 1) a0_0 a0_1 a0_2 a0_3) else (ssarewrite_flagConstantBuilder_encode.j0 k 0 a0_0 a0_1 a0_2 a0_3)
theorem ssarewrite_flagConstantBuilder_encode.mono_l : ∀ k, (∀ y0 y1 y2 y3 y4, LeO (ssarewrite_flagConstantBuilder_encode.j0 k y0 y1 y2 y3 y4) (ssarewrite_flagConstantBuilder_encode.j0 (k + 1) y0 y1 y2 y3 y4)) ∧ (∀ y0 y1 y2 y3 y4, LeO (ssarewrite_flagConstantBuilder_encode.j1 k y0 y1 y2 y3 y4) (ssarewrite_flagConstantBuilder_encode.j1 (k + 1) y0 y1 y2 y3 y4))
  | 0 => ⟨fun _ _ _ _ _ r h => by simp [ssarewrite_flagConstantBuilder_encode.j0] at h, fun _ _ _ _ _ r h => by simp [ssarewrite_flagConstantBuilder_encode.j1] at h⟩
  | k + 1 => by
    obtain ⟨ih0, ih1⟩ := ssarewrite_flagConstantBuilder_encode.mono_l k
    refine ⟨?_, ?_⟩
    · intro y0 y1 y2 y3 y4
      unfold ssarewrite_flagConstantBuilder_encode.j0
      repeat' first
      | (with_reducible exact ih0 _ _ _ _ _)
      | (with_reducible exact ih1 _ _ _ _ _)
      | (with_reducible exact LeO.refl _)
      | (with_reducible exact LeO.none _)
      | (with_reducible refine LeO.ite ?_ ?_)
      | (with_reducible refine LeO.bind ?_ (fun _ => ?_))
      | exact ih0 _ _ _ _ _
      | exact ih1 _ _ _ _ _
      | exact LeO.none _
      | refine LeO.ite ?_ ?_
      | refine LeO.bind ?_ (fun _ => ?_)
    · intro y0 y1 y2 y3 y4
      unfold ssarewrite_flagConstantBuilder_encode.j1
      repeat' first
      | (with_reducible exact ih0 _ _ _ _ _)
      | (with_reducible exact ih1 _ _ _ _ _)
      | (with_reducible exact LeO.refl _)
      | (with_reducible exact LeO.none _)
      | (with_reducible refine LeO.ite ?_ ?_)
      | (with_reducible refine LeO.bind ?_ (fun _ => ?_))
      | exact ih0 _ _ _ _ _
      | exact ih1 _ _ _ _ _
      | exact LeO.none _
      | refine LeO.ite ?_ ?_
      | refine LeO.bind ?_ (fun _ => ?_)
theorem ssarewrite_flagConstantBuilder_encode.mono : ∀ a0 a1 a2 a3 k, LeO (ssarewrite_flagConstantBuilder_encode.f k a0 a1 a2 a3) (ssarewrite_flagConstantBuilder_encode.f (k + 1) a0 a1 a2 a3) := by
  intro a0 a1 a2 a3 k
  obtain ⟨ih0, ih1⟩ := ssarewrite_flagConstantBuilder_encode.mono_l k
  unfold ssarewrite_flagConstantBuilder_encode.f
  repeat' first
      | (with_reducible exact ih0 _ _ _ _ _)
      | (with_reducible exact ih1 _ _ _ _ _)
      | (with_reducible exact LeO.refl _)
      | (with_reducible exact LeO.none _)
      | (with_reducible refine LeO.ite ?_ ?_)
      | (with_reducible refine LeO.bind ?_ (fun _ => ?_))
      | exact ih0 _ _ _ _ _
      | exact ih1 _ _ _ _ _
      | exact LeO.none _
      | refine LeO.ite ?_ ?_
      | refine LeO.bind ?_ (fun _ => ?_)
set_option maxHeartbeats 8000000 in
set_option maxRecDepth 100000 in
theorem ssarewrite_flagConstantBuilder_encode.calls (k : Nat) (a0_0 : Bool) (a0_1 : Bool) (a0_2 : Bool) (a0_3 : Bool) (r : Int) (w : World) (h : ssarewrite_flagConstantBuilder_encode.f k a0_0 a0_1 a0_2 a0_3 = some r) :
    Calls Try.prog 58 #[.agg #[.bool a0_0, .bool a0_1, .bool a0_2, .bool a0_3]] w fun e w' => e = .returned (.int .u8 r) ∧ Below w.heap.size w w' := by
  have hu43 := Try.underlying43
  have HB := Aside0.mk (Below.refl w.heap.size w)
  have H : (if a0_0 = true then (ssarewrite_flagConstantBuilder_encode.j0 k (Go.bits .or .u8 0 1) a0_0 a0_1 a0_2 a0_3) else (ssarewrite_flagConstantBuilder_encode.j0 k 0 a0_0 a0_1 a0_2 a0_3)) = some r := h
  clear h
  have HC2 := Aside0.mk H
  clear H
  go_enter Try.func58, Try.ntmps58
  go_upto_if 5 with (first | ((with_reducible refine gate_dst (N := 1) rfl ?_); refine box_event ?hg (N := 1) ?hd (cs := #[.bool a0_0, .bool a0_1, .bool a0_2, .bool a0_3]) (t := 43) ?hr ?_; (case hd => rfl); (case hg => rfl); (case hr => first | (go_simp; done) | (go_simp; rfl)); intro gb158 hg w3 hbox hb; have n0_ := Aside0.mk (below_step (by repeat (first | (with_reducible first | exact HB.out | apply below_alloc | apply pw_below_drewN | apply below_drew1) | exact HB.out)) hb); have n1_ := Aside0.mk (hbox); have n2_ := Aside0.mk ((by rw [hg]; exact (below_size (by repeat (first | (with_reducible first | exact HB.out | apply below_alloc | apply pw_below_drewN | apply below_drew1) | exact HB.out))) : w.heap.size ≤ gb158)); have n3_ := Aside0.mk ((by rw [hg]; exact (below_size (by repeat (first | (with_reducible first | exact HB.out | apply below_alloc | apply pw_below_drewN | apply below_drew1) | exact HB.out))) : w.heap.size ≤ gb158)); clear HB; have HB := n0_; have BK158 := n1_; have GW158 := n2_; have GE158 := n3_; clear n0_ n1_ n2_ n3_; clear hb hbox hg; have hcz4_0 : w3.cell? ⟨gb158, 0, none⟩ = some (.bool a0_0) := (blk_cell BK158.out 0).trans rfl; have hcz4_1 : w3.cell? ⟨gb158, 1, none⟩ = some (.bool a0_1) := (blk_cell BK158.out 1).trans rfl; have hcz4_2 : w3.cell? ⟨gb158, 2, none⟩ = some (.bool a0_2) := (blk_cell BK158.out 2).trans rfl; have hcz4_3 : w3.cell? ⟨gb158, 3, none⟩ = some (.bool a0_3) := (blk_cell BK158.out 3).trans rfl; have hfz4_0 := blk_frozen BK158.out 0; have hfz4_1 := blk_frozen BK158.out 1; have hfz4_2 := blk_frozen BK158.out 2; have hfz4_3 := blk_frozen BK158.out 3))
  (try simp only [Act.put, List.setIfInBounds_toArray, List.set_cons_zero, List.set_cons_succ])
  go_cut [3] (fun v3 wc => ∃ (kq : Nat) (x3_1 : Int), v3 = .int .u8 x3_1 ∧ Aside0 (ssarewrite_flagConstantBuilder_encode.j0 kq x3_1 a0_0 a0_1 a0_2 a0_3 = some r) ∧ Aside0 (kq ≤ k) ∧ Aside0 (wc.heap[gb158]? = some (.cells #[.bool a0_0, .bool a0_1, .bool a0_2, .bool a0_3] 43 (0, 0))) ∧ Aside0 (Below w.heap.size w wc))
  case first =>
    have H := HC2.out
    clear HC2
    by_cases c5 : a0_0 = true
    · subst c5
      have H1 : (ssarewrite_flagConstantBuilder_encode.j0 k (Go.bits .or .u8 0 1) true a0_1 a0_2 a0_3) = some r := by rw [if_pos rfl] at H; exact H
      clear H
      have H := H1
      clear H1
      have H' := Aside0.mk H
      clear H
      go_wp2
      go_meet
      case rel => exact ⟨_, (Go.bits .or .u8 0 1), (by first | rfl | (simp; done) | (simp [*]; done)), H', ⟨by first | omega | exact Nat.le_refl _⟩, ⟨by (with_reducible repeat (first | refine blk_drewN ?_ _ | refine blk_drew ?_ | refine blk_alloc ?_ _)); exact BK158.out⟩, ⟨by repeat (first | (with_reducible first | exact HB.out | apply below_alloc | apply pw_below_drewN | apply below_drew1 | refine below_set ?_ GE158.out) | exact HB.out)⟩⟩
    · replace c5 := Bool.eq_false_iff.mpr c5
      subst c5
      have H1 : (ssarewrite_flagConstantBuilder_encode.j0 k 0 false a0_1 a0_2 a0_3) = some r := by rw [if_neg (show ¬ (false = true) by decide)] at H; exact H
      clear H
      have H := H1
      clear H1
      have H' := Aside0.mk H
      clear H
      go_wp2
      go_meet
      case rel => exact ⟨_, (0), (by first | rfl | (simp; done) | (simp [*]; done)), H', ⟨by first | omega | exact Nat.le_refl _⟩, ⟨by (with_reducible repeat (first | refine blk_drewN ?_ _ | refine blk_drew ?_ | refine blk_alloc ?_ _)); exact BK158.out⟩, ⟨by repeat (first | (with_reducible first | exact HB.out | apply below_alloc | apply pw_below_drewN | apply below_drew1 | refine below_set ?_ GE158.out) | exact HB.out)⟩⟩
  case rest =>
    clear HC2
    try clear p2
    try clear c5
    try clear hcz4_0
    try clear hcz4_1
    try clear hcz4_2
    try clear hcz4_3
    try clear hfz4_0
    try clear hfz4_1
    try clear hfz4_2
    try clear hfz4_3
    obtain ⟨kq, x3_1, rfl, HA, HJ1, BK158, HB⟩ := hcut
    cases kq with
    | zero => exact absurd HA.out (by simp [ssarewrite_flagConstantBuilder_encode.j0])
    | succ kj1 =>
      have H := HA.out
      clear HA
      simp only [ssarewrite_flagConstantBuilder_encode.j0] at H
      have HC6 := Aside0.mk H
      clear H
      have hcz7_0 : wc.cell? ⟨gb158, 0, none⟩ = some (.bool a0_0) := (blk_cell BK158.out 0).trans rfl
      have hcz7_1 : wc.cell? ⟨gb158, 1, none⟩ = some (.bool a0_1) := (blk_cell BK158.out 1).trans rfl
      have hcz7_2 : wc.cell? ⟨gb158, 2, none⟩ = some (.bool a0_2) := (blk_cell BK158.out 2).trans rfl
      have hcz7_3 : wc.cell? ⟨gb158, 3, none⟩ = some (.bool a0_3) := (blk_cell BK158.out 3).trans rfl
      have hfz7_0 := blk_frozen BK158.out 0
      have hfz7_1 := blk_frozen BK158.out 1
      have hfz7_2 := blk_frozen BK158.out 2
      have hfz7_3 := blk_frozen BK158.out 3
      go_upto_if 9 with (fail)
      go_cut [3] (fun v3 wc => ∃ (kq : Nat) (x3_5 : Int), v3 = .int .u8 x3_5 ∧ Aside0 (ssarewrite_flagConstantBuilder_encode.j1 kq x3_5 a0_0 a0_1 a0_2 a0_3 = some r) ∧ Aside0 (kq ≤ kj1) ∧ Aside0 (wc.heap[gb158]? = some (.cells #[.bool a0_0, .bool a0_1, .bool a0_2, .bool a0_3] 43 (0, 0))) ∧ Aside0 (Below w.heap.size w wc))
      case first =>
        have H := HC6.out
        clear HC6
        by_cases c8 : a0_1 = true
        · subst c8
          have H1 : (ssarewrite_flagConstantBuilder_encode.j1 kj1 (Go.bits .or .u8 x3_1 2) a0_0 true a0_2 a0_3) = some r := by rw [if_pos rfl] at H; exact H
          clear H
          have H := H1
          clear H1
          have H' := Aside0.mk H
          clear H
          go_wp2
          go_meet
          case rel => exact ⟨_, (Go.bits .or .u8 x3_1 2), (by first | rfl | (simp; done) | (simp [*]; done)), H', ⟨by have := HJ1.out; first | omega | exact Nat.le_refl _⟩, ⟨by (with_reducible repeat (first | refine blk_drewN ?_ _ | refine blk_drew ?_ | refine blk_alloc ?_ _)); exact BK158.out⟩, ⟨by repeat (first | (with_reducible first | exact HB.out | apply below_alloc | apply pw_below_drewN | apply below_drew1 | refine below_set ?_ GE158.out) | exact HB.out)⟩⟩
        · replace c8 := Bool.eq_false_iff.mpr c8
          subst c8
          have H1 : (ssarewrite_flagConstantBuilder_encode.j1 kj1 x3_1 a0_0 false a0_2 a0_3) = some r := by rw [if_neg (show ¬ (false = true) by decide)] at H; exact H
          clear H
          have H := H1
          clear H1
          have H' := Aside0.mk H
          clear H
          go_wp2
          go_meet
          case rel => exact ⟨_, (x3_1), (by first | rfl | (simp; done) | (simp [*]; done)), H', ⟨by have := HJ1.out; first | omega | exact Nat.le_refl _⟩, ⟨by (with_reducible repeat (first | refine blk_drewN ?_ _ | refine blk_drew ?_ | refine blk_alloc ?_ _)); exact BK158.out⟩, ⟨by repeat (first | (with_reducible first | exact HB.out | apply below_alloc | apply pw_below_drewN | apply below_drew1 | refine below_set ?_ GE158.out) | exact HB.out)⟩⟩
      case rest =>
        clear HC6
        try clear p2
        try clear c5
        try clear c8
        try clear hcz4_0
        try clear hcz4_1
        try clear hcz4_2
        try clear hcz4_3
        try clear hcz7_0
        try clear hcz7_1
        try clear hcz7_2
        try clear hcz7_3
        try clear hfz4_0
        try clear hfz4_1
        try clear hfz4_2
        try clear hfz4_3
        try clear hfz7_0
        try clear hfz7_1
        try clear hfz7_2
        try clear hfz7_3
        try clear p2
        obtain ⟨kq, x3_5, rfl, HA, HJ5, BK158, HB⟩ := hcut
        cases kq with
        | zero => exact absurd HA.out (by simp [ssarewrite_flagConstantBuilder_encode.j1])
        | succ kj5 =>
          have H := HA.out
          clear HA
          simp only [ssarewrite_flagConstantBuilder_encode.j1] at H
          by_cases c9 : a0_2 = true
          · subst c9
            have H1 : (if a0_3 = true then (some (Go.bits .or .u8 (Go.bits .or .u8 x3_5 4) 8)) else (some (Go.bits .or .u8 x3_5 4))) = some r := by rw [if_pos rfl] at H; exact H
            clear H
            have H := H1
            clear H1
            by_cases c10 : a0_3 = true
            · subst c10
              have H1 : (some (Go.bits .or .u8 (Go.bits .or .u8 x3_5 4) 8)) = some r := by rw [if_pos rfl] at H; exact H
              clear H
              have H := H1
              clear H1
              obtain rfl := Option.some.inj H
              have hcz11_0 : wc.cell? ⟨gb158, 0, none⟩ = some (.bool a0_0) := (blk_cell BK158.out 0).trans rfl
              have hcz11_1 : wc.cell? ⟨gb158, 1, none⟩ = some (.bool a0_1) := (blk_cell BK158.out 1).trans rfl
              have hcz11_2 : wc.cell? ⟨gb158, 2, none⟩ = some (.bool true) := (blk_cell BK158.out 2).trans rfl
              have hcz11_3 : wc.cell? ⟨gb158, 3, none⟩ = some (.bool true) := (blk_cell BK158.out 3).trans rfl
              have hfz11_0 := blk_frozen BK158.out 0
              have hfz11_1 := blk_frozen BK158.out 1
              have hfz11_2 := blk_frozen BK158.out 2
              have hfz11_3 := blk_frozen BK158.out 3
              go_wp2
              go_ret
              exact ⟨by first | rfl | (simp [errW_none, errW_some] <;> rfl) | (simp [*, errW_none, errW_some] <;> rfl), by repeat (first | (with_reducible first | exact HB.out | apply below_alloc | apply pw_below_drewN | apply below_drew1 | refine below_set ?_ GE158.out) | exact HB.out)⟩
            · replace c10 := Bool.eq_false_iff.mpr c10
              subst c10
              have H1 : (some (Go.bits .or .u8 x3_5 4)) = some r := by rw [if_neg (show ¬ (false = true) by decide)] at H; exact H
              clear H
              have H := H1
              clear H1
              obtain rfl := Option.some.inj H
              have hcz12_0 : wc.cell? ⟨gb158, 0, none⟩ = some (.bool a0_0) := (blk_cell BK158.out 0).trans rfl
              have hcz12_1 : wc.cell? ⟨gb158, 1, none⟩ = some (.bool a0_1) := (blk_cell BK158.out 1).trans rfl
              have hcz12_2 : wc.cell? ⟨gb158, 2, none⟩ = some (.bool true) := (blk_cell BK158.out 2).trans rfl
              have hcz12_3 : wc.cell? ⟨gb158, 3, none⟩ = some (.bool false) := (blk_cell BK158.out 3).trans rfl
              have hfz12_0 := blk_frozen BK158.out 0
              have hfz12_1 := blk_frozen BK158.out 1
              have hfz12_2 := blk_frozen BK158.out 2
              have hfz12_3 := blk_frozen BK158.out 3
              go_wp2
              go_ret
              exact ⟨by first | rfl | (simp [errW_none, errW_some] <;> rfl) | (simp [*, errW_none, errW_some] <;> rfl), by repeat (first | (with_reducible first | exact HB.out | apply below_alloc | apply pw_below_drewN | apply below_drew1 | refine below_set ?_ GE158.out) | exact HB.out)⟩
          · replace c9 := Bool.eq_false_iff.mpr c9
            subst c9
            have H1 : (if a0_3 = true then (some (Go.bits .or .u8 x3_5 8)) else (some x3_5)) = some r := by rw [if_neg (show ¬ (false = true) by decide)] at H; exact H
            clear H
            have H := H1
            clear H1
            by_cases c13 : a0_3 = true
            · subst c13
              have H1 : (some (Go.bits .or .u8 x3_5 8)) = some r := by rw [if_pos rfl] at H; exact H
              clear H
              have H := H1
              clear H1
              obtain rfl := Option.some.inj H
              have hcz14_0 : wc.cell? ⟨gb158, 0, none⟩ = some (.bool a0_0) := (blk_cell BK158.out 0).trans rfl
              have hcz14_1 : wc.cell? ⟨gb158, 1, none⟩ = some (.bool a0_1) := (blk_cell BK158.out 1).trans rfl
              have hcz14_2 : wc.cell? ⟨gb158, 2, none⟩ = some (.bool false) := (blk_cell BK158.out 2).trans rfl
              have hcz14_3 : wc.cell? ⟨gb158, 3, none⟩ = some (.bool true) := (blk_cell BK158.out 3).trans rfl
              have hfz14_0 := blk_frozen BK158.out 0
              have hfz14_1 := blk_frozen BK158.out 1
              have hfz14_2 := blk_frozen BK158.out 2
              have hfz14_3 := blk_frozen BK158.out 3
              go_wp2
              go_ret
              exact ⟨by first | rfl | (simp [errW_none, errW_some] <;> rfl) | (simp [*, errW_none, errW_some] <;> rfl), by repeat (first | (with_reducible first | exact HB.out | apply below_alloc | apply pw_below_drewN | apply below_drew1 | refine below_set ?_ GE158.out) | exact HB.out)⟩
            · replace c13 := Bool.eq_false_iff.mpr c13
              subst c13
              have H1 : (some x3_5) = some r := by rw [if_neg (show ¬ (false = true) by decide)] at H; exact H
              clear H
              have H := H1
              clear H1
              obtain rfl := Option.some.inj H
              have hcz15_0 : wc.cell? ⟨gb158, 0, none⟩ = some (.bool a0_0) := (blk_cell BK158.out 0).trans rfl
              have hcz15_1 : wc.cell? ⟨gb158, 1, none⟩ = some (.bool a0_1) := (blk_cell BK158.out 1).trans rfl
              have hcz15_2 : wc.cell? ⟨gb158, 2, none⟩ = some (.bool false) := (blk_cell BK158.out 2).trans rfl
              have hcz15_3 : wc.cell? ⟨gb158, 3, none⟩ = some (.bool false) := (blk_cell BK158.out 3).trans rfl
              have hfz15_0 := blk_frozen BK158.out 0
              have hfz15_1 := blk_frozen BK158.out 1
              have hfz15_2 := blk_frozen BK158.out 2
              have hfz15_3 := blk_frozen BK158.out 3
              go_wp2
              go_ret
              exact ⟨by first | rfl | (simp [errW_none, errW_some] <;> rfl) | (simp [*, errW_none, errW_some] <;> rfl), by repeat (first | (with_reducible first | exact HB.out | apply below_alloc | apply pw_below_drewN | apply below_drew1 | refine below_set ?_ GE158.out) | exact HB.out)⟩

attribute [local go_sem] signed_u32 max_u32 signed_u64 max_u64
/-! ### ssarewrite_addFlags32: function 39 -/
def ssarewrite_addFlags32.f (k : Nat) (a0 : Int) (a1 : Int) : Option (Int) := if a0 ≥ 0 then (if a1 ≥ 0 then (if (wrap32 (a0 + a1)) < 0 then ((ssarewrite_flagConstantBuilder_encode.f k (decide ((wrap32 (a0 + a1)) < 0)) ((wrap32 (a0 + a1)) == 0) (decide (((wrap32 (a0 + a1)) % 4294967296) < ((a0) % 4294967296))) true).bind fun t160 => (some t160)) else (if a0 < 0 then (if a1 < 0 then ((ssarewrite_flagConstantBuilder_encode.f k (decide ((wrap32 (a0 + a1)) < 0)) ((wrap32 (a0 + a1)) == 0) (decide (((wrap32 (a0 + a1)) % 4294967296) < ((a0) % 4294967296))) (decide ((wrap32 (a0 + a1)) ≥ 0))).bind fun t161 => (some t161)) else ((ssarewrite_flagConstantBuilder_encode.f k (decide ((wrap32 (a0 + a1)) < 0)) ((wrap32 (a0 + a1)) == 0) (decide (((wrap32 (a0 + a1)) % 4294967296) < ((a0) % 4294967296))) false).bind fun t162 => (some t162))) else ((ssarewrite_flagConstantBuilder_encode.f k (decide ((wrap32 (a0 + a1)) < 0)) ((wrap32 (a0 + a1)) == 0) (decide (((wrap32 (a0 + a1)) % 4294967296) < ((a0) % 4294967296))) false).bind fun t163 => (some t163)))) else (if a0 < 0 then (if a1 < 0 then ((ssarewrite_flagConstantBuilder_encode.f k (decide ((wrap32 (a0 + a1)) < 0)) ((wrap32 (a0 + a1)) == 0) (decide (((wrap32 (a0 + a1)) % 4294967296) < ((a0) % 4294967296))) (decide ((wrap32 (a0 + a1)) ≥ 0))).bind fun t164 => (some t164)) else ((ssarewrite_flagConstantBuilder_encode.f k (decide ((wrap32 (a0 + a1)) < 0)) ((wrap32 (a0 + a1)) == 0) (decide (((wrap32 (a0 + a1)) % 4294967296) < ((a0) % 4294967296))) false).bind fun t165 => (some t165))) else ((ssarewrite_flagConstantBuilder_encode.f k (decide ((wrap32 (a0 + a1)) < 0)) ((wrap32 (a0 + a1)) == 0) (decide (((wrap32 (a0 + a1)) % 4294967296) < ((a0) % 4294967296))) false).bind fun t166 => (some t166)))) else (if a0 < 0 then (if a1 < 0 then ((ssarewrite_flagConstantBuilder_encode.f k (decide ((wrap32 (a0 + a1)) < 0)) ((wrap32 (a0 + a1)) == 0) (decide (((wrap32 (a0 + a1)) % 4294967296) < ((a0) % 4294967296))) (decide ((wrap32 (a0 + a1)) ≥ 0))).bind fun t167 => (some t167)) else ((ssarewrite_flagConstantBuilder_encode.f k (decide ((wrap32 (a0 + a1)) < 0)) ((wrap32 (a0 + a1)) == 0) (decide (((wrap32 (a0 + a1)) % 4294967296) < ((a0) % 4294967296))) false).bind fun t168 => (some t168))) else ((ssarewrite_flagConstantBuilder_encode.f k (decide ((wrap32 (a0 + a1)) < 0)) ((wrap32 (a0 + a1)) == 0) (decide (((wrap32 (a0 + a1)) % 4294967296) < ((a0) % 4294967296))) false).bind fun t169 => (some t169)))
theorem ssarewrite_addFlags32.mono : ∀ a0 a1 k, LeO (ssarewrite_addFlags32.f k a0 a1) (ssarewrite_addFlags32.f (k + 1) a0 a1) := by
  intro a0 a1 k
  unfold ssarewrite_addFlags32.f
  repeat' first
      | (with_reducible exact ssarewrite_flagConstantBuilder_encode.mono _ _ _ _ _)
      | (with_reducible exact LeO.refl _)
      | (with_reducible exact LeO.none _)
      | (with_reducible refine LeO.ite ?_ ?_)
      | (with_reducible refine LeO.bind ?_ (fun _ => ?_))
      | exact ssarewrite_flagConstantBuilder_encode.mono _ _ _ _ _
      | exact LeO.none _
      | refine LeO.ite ?_ ?_
      | refine LeO.bind ?_ (fun _ => ?_)
set_option maxHeartbeats 8000000 in
set_option maxRecDepth 100000 in
theorem ssarewrite_addFlags32.calls (k : Nat) (a0 : Int) (a1 : Int) (r : Int) (w : World) (h : ssarewrite_addFlags32.f k a0 a1 = some r) :
    Calls Try.prog 39 #[.int .i32 a0, .int .i32 a1] w fun e w' => e = .returned (.int .u8 r) ∧ Below w.heap.size w w' := by
  have hu43 := Try.underlying43
  have HB := Aside0.mk (Below.refl w.heap.size w)
  have H : (if a0 ≥ 0 then (if a1 ≥ 0 then (if (wrap32 (a0 + a1)) < 0 then ((ssarewrite_flagConstantBuilder_encode.f k (decide ((wrap32 (a0 + a1)) < 0)) ((wrap32 (a0 + a1)) == 0) (decide (((wrap32 (a0 + a1)) % 4294967296) < ((a0) % 4294967296))) true).bind fun t160 => (some t160)) else (if a0 < 0 then (if a1 < 0 then ((ssarewrite_flagConstantBuilder_encode.f k (decide ((wrap32 (a0 + a1)) < 0)) ((wrap32 (a0 + a1)) == 0) (decide (((wrap32 (a0 + a1)) % 4294967296) < ((a0) % 4294967296))) (decide ((wrap32 (a0 + a1)) ≥ 0))).bind fun t161 => (some t161)) else ((ssarewrite_flagConstantBuilder_encode.f k (decide ((wrap32 (a0 + a1)) < 0)) ((wrap32 (a0 + a1)) == 0) (decide (((wrap32 (a0 + a1)) % 4294967296) < ((a0) % 4294967296))) false).bind fun t162 => (some t162))) else ((ssarewrite_flagConstantBuilder_encode.f k (decide ((wrap32 (a0 + a1)) < 0)) ((wrap32 (a0 + a1)) == 0) (decide (((wrap32 (a0 + a1)) % 4294967296) < ((a0) % 4294967296))) false).bind fun t163 => (some t163)))) else (if a0 < 0 then (if a1 < 0 then ((ssarewrite_flagConstantBuilder_encode.f k (decide ((wrap32 (a0 + a1)) < 0)) ((wrap32 (a0 + a1)) == 0) (decide (((wrap32 (a0 + a1)) % 4294967296) < ((a0) % 4294967296))) (decide ((wrap32 (a0 + a1)) ≥ 0))).bind fun t164 => (some t164)) else ((ssarewrite_flagConstantBuilder_encode.f k (decide ((wrap32 (a0 + a1)) < 0)) ((wrap32 (a0 + a1)) == 0) (decide (((wrap32 (a0 + a1)) % 4294967296) < ((a0) % 4294967296))) false).bind fun t165 => (some t165))) else ((ssarewrite_flagConstantBuilder_encode.f k (decide ((wrap32 (a0 + a1)) < 0)) ((wrap32 (a0 + a1)) == 0) (decide (((wrap32 (a0 + a1)) % 4294967296) < ((a0) % 4294967296))) false).bind fun t166 => (some t166)))) else (if a0 < 0 then (if a1 < 0 then ((ssarewrite_flagConstantBuilder_encode.f k (decide ((wrap32 (a0 + a1)) < 0)) ((wrap32 (a0 + a1)) == 0) (decide (((wrap32 (a0 + a1)) % 4294967296) < ((a0) % 4294967296))) (decide ((wrap32 (a0 + a1)) ≥ 0))).bind fun t167 => (some t167)) else ((ssarewrite_flagConstantBuilder_encode.f k (decide ((wrap32 (a0 + a1)) < 0)) ((wrap32 (a0 + a1)) == 0) (decide (((wrap32 (a0 + a1)) % 4294967296) < ((a0) % 4294967296))) false).bind fun t168 => (some t168))) else ((ssarewrite_flagConstantBuilder_encode.f k (decide ((wrap32 (a0 + a1)) < 0)) ((wrap32 (a0 + a1)) == 0) (decide (((wrap32 (a0 + a1)) % 4294967296) < ((a0) % 4294967296))) false).bind fun t169 => (some t169)))) = some r := h
  clear h
  by_cases c3 : a0 ≥ 0
  · rw [if_pos c3] at H
    have c3b0 : decide (0 ≤ a0) = true := decide_eq_true c3
    clear c3
    by_cases c4 : a1 ≥ 0
    · rw [if_pos c4] at H
      have c4b0 : decide (0 ≤ a1) = true := decide_eq_true c4
      clear c4
      by_cases c5 : (wrap32 (a0 + a1)) < 0
      · rw [if_pos c5] at H
        have c5b0 : decide ((wrap32 (a0 + a1)) < 0) = true := decide_eq_true c5
        clear c5
        replace H := Option.bind_eq_some_iff.mp H
        obtain ⟨t160, A60, H⟩ := H
        try rw [c5b0] at A60
        replace H : (some t160) = some r := H
        have A6 := Aside0.mk A60
        clear A60
        obtain rfl := Option.some.inj H
        go_enter Try.func39, Try.ntmps39
        go_wp2_with (first | ((with_reducible refine gate_dst (N := 5) rfl ?_); refine box_event ?hg (N := 5) ?hd (cs := #[.bool false, .bool false, .bool false, .bool false]) (t := 43) ?hr ?_; (case hd => rfl); (case hg => rfl); (case hr => first | (go_simp; done) | (go_simp; rfl)); intro gb159 hg w7 hbox hb; have n0_ := Aside0.mk (below_step (by repeat (first | (with_reducible first | exact HB.out | apply below_alloc | apply pw_below_drewN | apply below_drew1) | exact HB.out)) hb); have n1_ := Aside0.mk (hbox); have n2_ := Aside0.mk ((by rw [hg]; exact (below_size (by repeat (first | (with_reducible first | exact HB.out | apply below_alloc | apply pw_below_drewN | apply below_drew1) | exact HB.out))) : w.heap.size ≤ gb159)); have n3_ := Aside0.mk ((by rw [hg]; exact (below_size (by repeat (first | (with_reducible first | exact HB.out | apply below_alloc | apply pw_below_drewN | apply below_drew1) | exact HB.out))) : w.heap.size ≤ gb159)); clear HB; have HB := n0_; have BK159 := n1_; have GW159 := n2_; have GE159 := n3_; clear n0_ n1_ n2_ n3_; clear hb hbox hg; have hcz8_0 : w7.cell? ⟨gb159, 0, none⟩ = some (.bool false) := (blk_cell BK159.out 0).trans rfl; have hcz8_1 : w7.cell? ⟨gb159, 1, none⟩ = some (.bool false) := (blk_cell BK159.out 1).trans rfl; have hcz8_2 : w7.cell? ⟨gb159, 2, none⟩ = some (.bool false) := (blk_cell BK159.out 2).trans rfl; have hcz8_3 : w7.cell? ⟨gb159, 3, none⟩ = some (.bool false) := (blk_cell BK159.out 3).trans rfl; have hfz8_0 := blk_frozen BK159.out 0; have hfz8_1 := blk_frozen BK159.out 1; have hfz8_2 := blk_frozen BK159.out 2; have hfz8_3 := blk_frozen BK159.out 3) | ((with_reducible refine gate_callee (f := 58) rfl ?_); refine goesL_ (some 52) rfl rfl Try.func58 (by kernel_rfl) rfl #[.agg #[.bool true, .bool ((wrap32 (a0 + a1)) == 0), .bool (decide (((wrap32 (a0 + a1)) % 4294967296) < ((a0) % 4294967296))), .bool true]] rfl (by (try simp only [List.map_toArray, List.map_cons, List.map_nil]); first | done | rfl | (simp only [List.length_drop, List.length_take]; rfl)) ?_; (with_reducible refine (ssarewrite_flagConstantBuilder_encode.calls k true ((wrap32 (a0 + a1)) == 0) (decide (((wrap32 (a0 + a1)) % 4294967296) < ((a0) % 4294967296))) true t160 _ A6.out).mono ?_); rintro e w9 ⟨rfl, hb⟩; refine ⟨_, rfl, ?_⟩; have n0_ := Aside0.mk (blk_below (g := gb159) (o := .cells #[.bool true, .bool ((wrap32 (a0 + a1)) == 0), .bool (decide (((wrap32 (a0 + a1)) % 4294967296) < ((a0) % 4294967296))), .bool true] 43 (0, 0)) (by (with_reducible repeat (first | refine blk_drewN ?_ _ | refine blk_drew ?_ | refine blk_alloc ?_ _)); refine blk_put (cs := #[.bool true, .bool ((wrap32 (a0 + a1)) == 0), .bool (decide (((wrap32 (a0 + a1)) % 4294967296) < ((a0) % 4294967296))), .bool false]) ?_ 3 _ rfl; (with_reducible repeat (first | refine blk_drewN ?_ _ | refine blk_drew ?_ | refine blk_alloc ?_ _)); refine blk_put (cs := #[.bool true, .bool ((wrap32 (a0 + a1)) == 0), .bool false, .bool false]) ?_ 2 _ rfl; (with_reducible repeat (first | refine blk_drewN ?_ _ | refine blk_drew ?_ | refine blk_alloc ?_ _)); refine blk_put (cs := #[.bool false, .bool ((wrap32 (a0 + a1)) == 0), .bool false, .bool false]) ?_ 0 _ rfl; (with_reducible repeat (first | refine blk_drewN ?_ _ | refine blk_drew ?_ | refine blk_alloc ?_ _)); refine blk_put (cs := #[.bool false, .bool false, .bool false, .bool false]) ?_ 1 _ rfl; (with_reducible repeat (first | refine blk_drewN ?_ _ | refine blk_drew ?_ | refine blk_alloc ?_ _)); exact BK159.out) hb); have n1_ := Aside0.mk (below_step (by repeat (first | (with_reducible first | exact HB.out | apply below_alloc | apply pw_below_drewN | apply below_drew1 | refine below_set ?_ GE159.out) | exact HB.out)) hb); clear BK159; clear HB; have BK159 := n0_; have HB := n1_; clear n0_ n1_; (try clear hb); (try clear hb2); (try clear hk); (try clear hi)))
        go_ret
        exact ⟨by first | rfl | (simp [errW_none, errW_some] <;> rfl) | (simp [*, errW_none, errW_some] <;> rfl), by repeat (first | (with_reducible first | exact HB.out | apply below_alloc | apply pw_below_drewN | apply below_drew1 | refine below_set ?_ GE159.out) | exact HB.out)⟩
      · rw [if_neg c5] at H
        have c5b0 : decide ((wrap32 (a0 + a1)) < 0) = false := decide_eq_false c5
        clear c5
        by_cases c10 : a0 < 0
        · rw [if_pos c10] at H
          have c10b0 : decide (a0 < 0) = true := decide_eq_true c10
          exact absurd (of_decide_eq_true c3b0) (by have := of_decide_eq_true c10b0; omega)
        · rw [if_neg c10] at H
          have c10b0 : decide (a0 < 0) = false := decide_eq_false c10
          clear c10
          replace H := Option.bind_eq_some_iff.mp H
          obtain ⟨t163, A200, H⟩ := H
          try rw [c5b0] at A200
          replace H : (some t163) = some r := H
          have A20 := Aside0.mk A200
          clear A200
          obtain rfl := Option.some.inj H
          go_enter Try.func39, Try.ntmps39
          go_wp2_with (first | ((with_reducible refine gate_dst (N := 5) rfl ?_); refine box_event ?hg (N := 5) ?hd (cs := #[.bool false, .bool false, .bool false, .bool false]) (t := 43) ?hr ?_; (case hd => rfl); (case hg => rfl); (case hr => first | (go_simp; done) | (go_simp; rfl)); intro gb159 hg w21 hbox hb; have n0_ := Aside0.mk (below_step (by repeat (first | (with_reducible first | exact HB.out | apply below_alloc | apply pw_below_drewN | apply below_drew1) | exact HB.out)) hb); have n1_ := Aside0.mk (hbox); have n2_ := Aside0.mk ((by rw [hg]; exact (below_size (by repeat (first | (with_reducible first | exact HB.out | apply below_alloc | apply pw_below_drewN | apply below_drew1) | exact HB.out))) : w.heap.size ≤ gb159)); have n3_ := Aside0.mk ((by rw [hg]; exact (below_size (by repeat (first | (with_reducible first | exact HB.out | apply below_alloc | apply pw_below_drewN | apply below_drew1) | exact HB.out))) : w.heap.size ≤ gb159)); clear HB; have HB := n0_; have BK159 := n1_; have GW159 := n2_; have GE159 := n3_; clear n0_ n1_ n2_ n3_; clear hb hbox hg; have hcz22_0 : w21.cell? ⟨gb159, 0, none⟩ = some (.bool false) := (blk_cell BK159.out 0).trans rfl; have hcz22_1 : w21.cell? ⟨gb159, 1, none⟩ = some (.bool false) := (blk_cell BK159.out 1).trans rfl; have hcz22_2 : w21.cell? ⟨gb159, 2, none⟩ = some (.bool false) := (blk_cell BK159.out 2).trans rfl; have hcz22_3 : w21.cell? ⟨gb159, 3, none⟩ = some (.bool false) := (blk_cell BK159.out 3).trans rfl; have hfz22_0 := blk_frozen BK159.out 0; have hfz22_1 := blk_frozen BK159.out 1; have hfz22_2 := blk_frozen BK159.out 2; have hfz22_3 := blk_frozen BK159.out 3) | ((with_reducible refine gate_callee (f := 58) rfl ?_); refine goesL_ (some 52) rfl rfl Try.func58 (by kernel_rfl) rfl #[.agg #[.bool false, .bool ((wrap32 (a0 + a1)) == 0), .bool (decide (((wrap32 (a0 + a1)) % 4294967296) < ((a0) % 4294967296))), .bool false]] rfl (by (try simp only [List.map_toArray, List.map_cons, List.map_nil]); first | done | rfl | (simp only [List.length_drop, List.length_take]; rfl)) ?_; (with_reducible refine (ssarewrite_flagConstantBuilder_encode.calls k false ((wrap32 (a0 + a1)) == 0) (decide (((wrap32 (a0 + a1)) % 4294967296) < ((a0) % 4294967296))) false t163 _ A20.out).mono ?_); rintro e w23 ⟨rfl, hb⟩; refine ⟨_, rfl, ?_⟩; have n0_ := Aside0.mk (blk_below (g := gb159) (o := .cells #[.bool false, .bool ((wrap32 (a0 + a1)) == 0), .bool (decide (((wrap32 (a0 + a1)) % 4294967296) < ((a0) % 4294967296))), .bool false] 43 (0, 0)) (by (with_reducible repeat (first | refine blk_drewN ?_ _ | refine blk_drew ?_ | refine blk_alloc ?_ _)); refine blk_put (cs := #[.bool false, .bool ((wrap32 (a0 + a1)) == 0), .bool (decide (((wrap32 (a0 + a1)) % 4294967296) < ((a0) % 4294967296))), .bool false]) ?_ 3 _ rfl; (with_reducible repeat (first | refine blk_drewN ?_ _ | refine blk_drew ?_ | refine blk_alloc ?_ _)); refine blk_put (cs := #[.bool false, .bool ((wrap32 (a0 + a1)) == 0), .bool false, .bool false]) ?_ 2 _ rfl; (with_reducible repeat (first | refine blk_drewN ?_ _ | refine blk_drew ?_ | refine blk_alloc ?_ _)); refine blk_put (cs := #[.bool false, .bool ((wrap32 (a0 + a1)) == 0), .bool false, .bool false]) ?_ 0 _ rfl; (with_reducible repeat (first | refine blk_drewN ?_ _ | refine blk_drew ?_ | refine blk_alloc ?_ _)); refine blk_put (cs := #[.bool false, .bool false, .bool false, .bool false]) ?_ 1 _ rfl; (with_reducible repeat (first | refine blk_drewN ?_ _ | refine blk_drew ?_ | refine blk_alloc ?_ _)); exact BK159.out) hb); have n1_ := Aside0.mk (below_step (by repeat (first | (with_reducible first | exact HB.out | apply below_alloc | apply pw_below_drewN | apply below_drew1 | refine below_set ?_ GE159.out) | exact HB.out)) hb); clear BK159; clear HB; have BK159 := n0_; have HB := n1_; clear n0_ n1_; (try clear hb); (try clear hb2); (try clear hk); (try clear hi)))
          go_ret
          exact ⟨by first | rfl | (simp [errW_none, errW_some] <;> rfl) | (simp [*, errW_none, errW_some] <;> rfl), by repeat (first | (with_reducible first | exact HB.out | apply below_alloc | apply pw_below_drewN | apply below_drew1 | refine below_set ?_ GE159.out) | exact HB.out)⟩
    · rw [if_neg c4] at H
      have c4b0 : decide (0 ≤ a1) = false := decide_eq_false c4
      clear c4
      by_cases c24 : a0 < 0
      · rw [if_pos c24] at H
        have c24b0 : decide (a0 < 0) = true := decide_eq_true c24
        exact absurd (of_decide_eq_true c3b0) (by have := of_decide_eq_true c24b0; omega)
      · rw [if_neg c24] at H
        have c24b0 : decide (a0 < 0) = false := decide_eq_false c24
        clear c24
        replace H := Option.bind_eq_some_iff.mp H
        obtain ⟨t166, A340, H⟩ := H
        replace H : (some t166) = some r := H
        have A34 := Aside0.mk A340
        clear A340
        obtain rfl := Option.some.inj H
        go_enter Try.func39, Try.ntmps39
        go_wp2_with (first | ((with_reducible refine gate_dst (N := 5) rfl ?_); refine box_event ?hg (N := 5) ?hd (cs := #[.bool false, .bool false, .bool false, .bool false]) (t := 43) ?hr ?_; (case hd => rfl); (case hg => rfl); (case hr => first | (go_simp; done) | (go_simp; rfl)); intro gb159 hg w35 hbox hb; have n0_ := Aside0.mk (below_step (by repeat (first | (with_reducible first | exact HB.out | apply below_alloc | apply pw_below_drewN | apply below_drew1) | exact HB.out)) hb); have n1_ := Aside0.mk (hbox); have n2_ := Aside0.mk ((by rw [hg]; exact (below_size (by repeat (first | (with_reducible first | exact HB.out | apply below_alloc | apply pw_below_drewN | apply below_drew1) | exact HB.out))) : w.heap.size ≤ gb159)); have n3_ := Aside0.mk ((by rw [hg]; exact (below_size (by repeat (first | (with_reducible first | exact HB.out | apply below_alloc | apply pw_below_drewN | apply below_drew1) | exact HB.out))) : w.heap.size ≤ gb159)); clear HB; have HB := n0_; have BK159 := n1_; have GW159 := n2_; have GE159 := n3_; clear n0_ n1_ n2_ n3_; clear hb hbox hg; have hcz36_0 : w35.cell? ⟨gb159, 0, none⟩ = some (.bool false) := (blk_cell BK159.out 0).trans rfl; have hcz36_1 : w35.cell? ⟨gb159, 1, none⟩ = some (.bool false) := (blk_cell BK159.out 1).trans rfl; have hcz36_2 : w35.cell? ⟨gb159, 2, none⟩ = some (.bool false) := (blk_cell BK159.out 2).trans rfl; have hcz36_3 : w35.cell? ⟨gb159, 3, none⟩ = some (.bool false) := (blk_cell BK159.out 3).trans rfl; have hfz36_0 := blk_frozen BK159.out 0; have hfz36_1 := blk_frozen BK159.out 1; have hfz36_2 := blk_frozen BK159.out 2; have hfz36_3 := blk_frozen BK159.out 3) | ((with_reducible refine gate_callee (f := 58) rfl ?_); refine goesL_ (some 52) rfl rfl Try.func58 (by kernel_rfl) rfl #[.agg #[.bool (decide ((wrap32 (a0 + a1)) < 0)), .bool ((wrap32 (a0 + a1)) == 0), .bool (decide (((wrap32 (a0 + a1)) % 4294967296) < ((a0) % 4294967296))), .bool false]] rfl (by (try simp only [List.map_toArray, List.map_cons, List.map_nil]); first | done | rfl | (simp only [List.length_drop, List.length_take]; rfl)) ?_; (with_reducible refine (ssarewrite_flagConstantBuilder_encode.calls k (decide ((wrap32 (a0 + a1)) < 0)) ((wrap32 (a0 + a1)) == 0) (decide (((wrap32 (a0 + a1)) % 4294967296) < ((a0) % 4294967296))) false t166 _ A34.out).mono ?_); rintro e w37 ⟨rfl, hb⟩; refine ⟨_, rfl, ?_⟩; have n0_ := Aside0.mk (blk_below (g := gb159) (o := .cells #[.bool (decide ((wrap32 (a0 + a1)) < 0)), .bool ((wrap32 (a0 + a1)) == 0), .bool (decide (((wrap32 (a0 + a1)) % 4294967296) < ((a0) % 4294967296))), .bool false] 43 (0, 0)) (by (with_reducible repeat (first | refine blk_drewN ?_ _ | refine blk_drew ?_ | refine blk_alloc ?_ _)); refine blk_put (cs := #[.bool (decide ((wrap32 (a0 + a1)) < 0)), .bool ((wrap32 (a0 + a1)) == 0), .bool (decide (((wrap32 (a0 + a1)) % 4294967296) < ((a0) % 4294967296))), .bool false]) ?_ 3 _ rfl; (with_reducible repeat (first | refine blk_drewN ?_ _ | refine blk_drew ?_ | refine blk_alloc ?_ _)); refine blk_put (cs := #[.bool (decide ((wrap32 (a0 + a1)) < 0)), .bool ((wrap32 (a0 + a1)) == 0), .bool false, .bool false]) ?_ 2 _ rfl; (with_reducible repeat (first | refine blk_drewN ?_ _ | refine blk_drew ?_ | refine blk_alloc ?_ _)); refine blk_put (cs := #[.bool false, .bool ((wrap32 (a0 + a1)) == 0), .bool false, .bool false]) ?_ 0 _ rfl; (with_reducible repeat (first | refine blk_drewN ?_ _ | refine blk_drew ?_ | refine blk_alloc ?_ _)); refine blk_put (cs := #[.bool false, .bool false, .bool false, .bool false]) ?_ 1 _ rfl; (with_reducible repeat (first | refine blk_drewN ?_ _ | refine blk_drew ?_ | refine blk_alloc ?_ _)); exact BK159.out) hb); have n1_ := Aside0.mk (below_step (by repeat (first | (with_reducible first | exact HB.out | apply below_alloc | apply pw_below_drewN | apply below_drew1 | refine below_set ?_ GE159.out) | exact HB.out)) hb); clear BK159; clear HB; have BK159 := n0_; have HB := n1_; clear n0_ n1_; (try clear hb); (try clear hb2); (try clear hk); (try clear hi)))
        go_ret
        exact ⟨by first | rfl | (simp [errW_none, errW_some] <;> rfl) | (simp [*, errW_none, errW_some] <;> rfl), by repeat (first | (with_reducible first | exact HB.out | apply below_alloc | apply pw_below_drewN | apply below_drew1 | refine below_set ?_ GE159.out) | exact HB.out)⟩
  · rw [if_neg c3] at H
    have c3b0 : decide (0 ≤ a0) = false := decide_eq_false c3
    clear c3
    by_cases c38 : a0 < 0
    · rw [if_pos c38] at H
      have c38b0 : decide (a0 < 0) = true := decide_eq_true c38
      clear c38
      by_cases c39 : a1 < 0
      · rw [if_pos c39] at H
        have c39b0 : decide (a1 < 0) = true := decide_eq_true c39
        clear c39
        replace H := Option.bind_eq_some_iff.mp H
        obtain ⟨t167, A400, H⟩ := H
        replace H : (some t167) = some r := H
        have A40 := Aside0.mk A400
        clear A400
        obtain rfl := Option.some.inj H
        go_enter Try.func39, Try.ntmps39
        go_wp2_with (first | ((with_reducible refine gate_dst (N := 5) rfl ?_); refine box_event ?hg (N := 5) ?hd (cs := #[.bool false, .bool false, .bool false, .bool false]) (t := 43) ?hr ?_; (case hd => rfl); (case hg => rfl); (case hr => first | (go_simp; done) | (go_simp; rfl)); intro gb159 hg w41 hbox hb; have n0_ := Aside0.mk (below_step (by repeat (first | (with_reducible first | exact HB.out | apply below_alloc | apply pw_below_drewN | apply below_drew1) | exact HB.out)) hb); have n1_ := Aside0.mk (hbox); have n2_ := Aside0.mk ((by rw [hg]; exact (below_size (by repeat (first | (with_reducible first | exact HB.out | apply below_alloc | apply pw_below_drewN | apply below_drew1) | exact HB.out))) : w.heap.size ≤ gb159)); have n3_ := Aside0.mk ((by rw [hg]; exact (below_size (by repeat (first | (with_reducible first | exact HB.out | apply below_alloc | apply pw_below_drewN | apply below_drew1) | exact HB.out))) : w.heap.size ≤ gb159)); clear HB; have HB := n0_; have BK159 := n1_; have GW159 := n2_; have GE159 := n3_; clear n0_ n1_ n2_ n3_; clear hb hbox hg; have hcz42_0 : w41.cell? ⟨gb159, 0, none⟩ = some (.bool false) := (blk_cell BK159.out 0).trans rfl; have hcz42_1 : w41.cell? ⟨gb159, 1, none⟩ = some (.bool false) := (blk_cell BK159.out 1).trans rfl; have hcz42_2 : w41.cell? ⟨gb159, 2, none⟩ = some (.bool false) := (blk_cell BK159.out 2).trans rfl; have hcz42_3 : w41.cell? ⟨gb159, 3, none⟩ = some (.bool false) := (blk_cell BK159.out 3).trans rfl; have hfz42_0 := blk_frozen BK159.out 0; have hfz42_1 := blk_frozen BK159.out 1; have hfz42_2 := blk_frozen BK159.out 2; have hfz42_3 := blk_frozen BK159.out 3) | ((with_reducible refine gate_callee (f := 58) rfl ?_); refine goesL_ (some 52) rfl rfl Try.func58 (by kernel_rfl) rfl #[.agg #[.bool (decide ((wrap32 (a0 + a1)) < 0)), .bool ((wrap32 (a0 + a1)) == 0), .bool (decide (((wrap32 (a0 + a1)) % 4294967296) < ((a0) % 4294967296))), .bool (decide ((wrap32 (a0 + a1)) ≥ 0))]] rfl (by (try simp only [List.map_toArray, List.map_cons, List.map_nil]); first | done | rfl | (simp only [List.length_drop, List.length_take]; rfl)) ?_; (with_reducible refine (ssarewrite_flagConstantBuilder_encode.calls k (decide ((wrap32 (a0 + a1)) < 0)) ((wrap32 (a0 + a1)) == 0) (decide (((wrap32 (a0 + a1)) % 4294967296) < ((a0) % 4294967296))) (decide ((wrap32 (a0 + a1)) ≥ 0)) t167 _ A40.out).mono ?_); rintro e w43 ⟨rfl, hb⟩; refine ⟨_, rfl, ?_⟩; have n0_ := Aside0.mk (blk_below (g := gb159) (o := .cells #[.bool (decide ((wrap32 (a0 + a1)) < 0)), .bool ((wrap32 (a0 + a1)) == 0), .bool (decide (((wrap32 (a0 + a1)) % 4294967296) < ((a0) % 4294967296))), .bool (decide ((wrap32 (a0 + a1)) ≥ 0))] 43 (0, 0)) (by (with_reducible repeat (first | refine blk_drewN ?_ _ | refine blk_drew ?_ | refine blk_alloc ?_ _)); refine blk_put (cs := #[.bool (decide ((wrap32 (a0 + a1)) < 0)), .bool ((wrap32 (a0 + a1)) == 0), .bool (decide (((wrap32 (a0 + a1)) % 4294967296) < ((a0) % 4294967296))), .bool false]) ?_ 3 _ rfl; (with_reducible repeat (first | refine blk_drewN ?_ _ | refine blk_drew ?_ | refine blk_alloc ?_ _)); refine blk_put (cs := #[.bool (decide ((wrap32 (a0 + a1)) < 0)), .bool ((wrap32 (a0 + a1)) == 0), .bool false, .bool false]) ?_ 2 _ rfl; (with_reducible repeat (first | refine blk_drewN ?_ _ | refine blk_drew ?_ | refine blk_alloc ?_ _)); refine blk_put (cs := #[.bool false, .bool ((wrap32 (a0 + a1)) == 0), .bool false, .bool false]) ?_ 0 _ rfl; (with_reducible repeat (first | refine blk_drewN ?_ _ | refine blk_drew ?_ | refine blk_alloc ?_ _)); refine blk_put (cs := #[.bool false, .bool false, .bool false, .bool false]) ?_ 1 _ rfl; (with_reducible repeat (first | refine blk_drewN ?_ _ | refine blk_drew ?_ | refine blk_alloc ?_ _)); exact BK159.out) hb); have n1_ := Aside0.mk (below_step (by repeat (first | (with_reducible first | exact HB.out | apply below_alloc | apply pw_below_drewN | apply below_drew1 | refine below_set ?_ GE159.out) | exact HB.out)) hb); clear BK159; clear HB; have BK159 := n0_; have HB := n1_; clear n0_ n1_; (try clear hb); (try clear hb2); (try clear hk); (try clear hi)))
        go_ret
        exact ⟨by first | rfl | (simp [errW_none, errW_some] <;> rfl) | (simp [*, errW_none, errW_some] <;> rfl), by repeat (first | (with_reducible first | exact HB.out | apply below_alloc | apply pw_below_drewN | apply below_drew1 | refine below_set ?_ GE159.out) | exact HB.out)⟩
      · rw [if_neg c39] at H
        have c39b0 : decide (a1 < 0) = false := decide_eq_false c39
        clear c39
        replace H := Option.bind_eq_some_iff.mp H
        obtain ⟨t168, A440, H⟩ := H
        replace H : (some t168) = some r := H
        have A44 := Aside0.mk A440
        clear A440
        obtain rfl := Option.some.inj H
        go_enter Try.func39, Try.ntmps39
        go_wp2_with (first | ((with_reducible refine gate_dst (N := 5) rfl ?_); refine box_event ?hg (N := 5) ?hd (cs := #[.bool false, .bool false, .bool false, .bool false]) (t := 43) ?hr ?_; (case hd => rfl); (case hg => rfl); (case hr => first | (go_simp; done) | (go_simp; rfl)); intro gb159 hg w45 hbox hb; have n0_ := Aside0.mk (below_step (by repeat (first | (with_reducible first | exact HB.out | apply below_alloc | apply pw_below_drewN | apply below_drew1) | exact HB.out)) hb); have n1_ := Aside0.mk (hbox); have n2_ := Aside0.mk ((by rw [hg]; exact (below_size (by repeat (first | (with_reducible first | exact HB.out | apply below_alloc | apply pw_below_drewN | apply below_drew1) | exact HB.out))) : w.heap.size ≤ gb159)); have n3_ := Aside0.mk ((by rw [hg]; exact (below_size (by repeat (first | (with_reducible first | exact HB.out | apply below_alloc | apply pw_below_drewN | apply below_drew1) | exact HB.out))) : w.heap.size ≤ gb159)); clear HB; have HB := n0_; have BK159 := n1_; have GW159 := n2_; have GE159 := n3_; clear n0_ n1_ n2_ n3_; clear hb hbox hg; have hcz46_0 : w45.cell? ⟨gb159, 0, none⟩ = some (.bool false) := (blk_cell BK159.out 0).trans rfl; have hcz46_1 : w45.cell? ⟨gb159, 1, none⟩ = some (.bool false) := (blk_cell BK159.out 1).trans rfl; have hcz46_2 : w45.cell? ⟨gb159, 2, none⟩ = some (.bool false) := (blk_cell BK159.out 2).trans rfl; have hcz46_3 : w45.cell? ⟨gb159, 3, none⟩ = some (.bool false) := (blk_cell BK159.out 3).trans rfl; have hfz46_0 := blk_frozen BK159.out 0; have hfz46_1 := blk_frozen BK159.out 1; have hfz46_2 := blk_frozen BK159.out 2; have hfz46_3 := blk_frozen BK159.out 3) | ((with_reducible refine gate_callee (f := 58) rfl ?_); refine goesL_ (some 52) rfl rfl Try.func58 (by kernel_rfl) rfl #[.agg #[.bool (decide ((wrap32 (a0 + a1)) < 0)), .bool ((wrap32 (a0 + a1)) == 0), .bool (decide (((wrap32 (a0 + a1)) % 4294967296) < ((a0) % 4294967296))), .bool false]] rfl (by (try simp only [List.map_toArray, List.map_cons, List.map_nil]); first | done | rfl | (simp only [List.length_drop, List.length_take]; rfl)) ?_; (with_reducible refine (ssarewrite_flagConstantBuilder_encode.calls k (decide ((wrap32 (a0 + a1)) < 0)) ((wrap32 (a0 + a1)) == 0) (decide (((wrap32 (a0 + a1)) % 4294967296) < ((a0) % 4294967296))) false t168 _ A44.out).mono ?_); rintro e w47 ⟨rfl, hb⟩; refine ⟨_, rfl, ?_⟩; have n0_ := Aside0.mk (blk_below (g := gb159) (o := .cells #[.bool (decide ((wrap32 (a0 + a1)) < 0)), .bool ((wrap32 (a0 + a1)) == 0), .bool (decide (((wrap32 (a0 + a1)) % 4294967296) < ((a0) % 4294967296))), .bool false] 43 (0, 0)) (by (with_reducible repeat (first | refine blk_drewN ?_ _ | refine blk_drew ?_ | refine blk_alloc ?_ _)); refine blk_put (cs := #[.bool (decide ((wrap32 (a0 + a1)) < 0)), .bool ((wrap32 (a0 + a1)) == 0), .bool (decide (((wrap32 (a0 + a1)) % 4294967296) < ((a0) % 4294967296))), .bool false]) ?_ 3 _ rfl; (with_reducible repeat (first | refine blk_drewN ?_ _ | refine blk_drew ?_ | refine blk_alloc ?_ _)); refine blk_put (cs := #[.bool (decide ((wrap32 (a0 + a1)) < 0)), .bool ((wrap32 (a0 + a1)) == 0), .bool false, .bool false]) ?_ 2 _ rfl; (with_reducible repeat (first | refine blk_drewN ?_ _ | refine blk_drew ?_ | refine blk_alloc ?_ _)); refine blk_put (cs := #[.bool false, .bool ((wrap32 (a0 + a1)) == 0), .bool false, .bool false]) ?_ 0 _ rfl; (with_reducible repeat (first | refine blk_drewN ?_ _ | refine blk_drew ?_ | refine blk_alloc ?_ _)); refine blk_put (cs := #[.bool false, .bool false, .bool false, .bool false]) ?_ 1 _ rfl; (with_reducible repeat (first | refine blk_drewN ?_ _ | refine blk_drew ?_ | refine blk_alloc ?_ _)); exact BK159.out) hb); have n1_ := Aside0.mk (below_step (by repeat (first | (with_reducible first | exact HB.out | apply below_alloc | apply pw_below_drewN | apply below_drew1 | refine below_set ?_ GE159.out) | exact HB.out)) hb); clear BK159; clear HB; have BK159 := n0_; have HB := n1_; clear n0_ n1_; (try clear hb); (try clear hb2); (try clear hk); (try clear hi)))
        go_ret
        exact ⟨by first | rfl | (simp [errW_none, errW_some] <;> rfl) | (simp [*, errW_none, errW_some] <;> rfl), by repeat (first | (with_reducible first | exact HB.out | apply below_alloc | apply pw_below_drewN | apply below_drew1 | refine below_set ?_ GE159.out) | exact HB.out)⟩
    · rw [if_neg c38] at H
      have c38b0 : decide (a0 < 0) = false := decide_eq_false c38
      clear c38
      replace H := Option.bind_eq_some_iff.mp H
      obtain ⟨t169, A480, H⟩ := H
      replace H : (some t169) = some r := H
      have A48 := Aside0.mk A480
      clear A480
      obtain rfl := Option.some.inj H
      go_enter Try.func39, Try.ntmps39
      go_wp2_with (first | ((with_reducible refine gate_dst (N := 5) rfl ?_); refine box_event ?hg (N := 5) ?hd (cs := #[.bool false, .bool false, .bool false, .bool false]) (t := 43) ?hr ?_; (case hd => rfl); (case hg => rfl); (case hr => first | (go_simp; done) | (go_simp; rfl)); intro gb159 hg w49 hbox hb; have n0_ := Aside0.mk (below_step (by repeat (first | (with_reducible first | exact HB.out | apply below_alloc | apply pw_below_drewN | apply below_drew1) | exact HB.out)) hb); have n1_ := Aside0.mk (hbox); have n2_ := Aside0.mk ((by rw [hg]; exact (below_size (by repeat (first | (with_reducible first | exact HB.out | apply below_alloc | apply pw_below_drewN | apply below_drew1) | exact HB.out))) : w.heap.size ≤ gb159)); have n3_ := Aside0.mk ((by rw [hg]; exact (below_size (by repeat (first | (with_reducible first | exact HB.out | apply below_alloc | apply pw_below_drewN | apply below_drew1) | exact HB.out))) : w.heap.size ≤ gb159)); clear HB; have HB := n0_; have BK159 := n1_; have GW159 := n2_; have GE159 := n3_; clear n0_ n1_ n2_ n3_; clear hb hbox hg; have hcz50_0 : w49.cell? ⟨gb159, 0, none⟩ = some (.bool false) := (blk_cell BK159.out 0).trans rfl; have hcz50_1 : w49.cell? ⟨gb159, 1, none⟩ = some (.bool false) := (blk_cell BK159.out 1).trans rfl; have hcz50_2 : w49.cell? ⟨gb159, 2, none⟩ = some (.bool false) := (blk_cell BK159.out 2).trans rfl; have hcz50_3 : w49.cell? ⟨gb159, 3, none⟩ = some (.bool false) := (blk_cell BK159.out 3).trans rfl; have hfz50_0 := blk_frozen BK159.out 0; have hfz50_1 := blk_frozen BK159.out 1; have hfz50_2 := blk_frozen BK159.out 2; have hfz50_3 := blk_frozen BK159.out 3) | ((with_reducible refine gate_callee (f := 58) rfl ?_); refine goesL_ (some 52) rfl rfl Try.func58 (by kernel_rfl) rfl #[.agg #[.bool (decide ((wrap32 (a0 + a1)) < 0)), .bool ((wrap32 (a0 + a1)) == 0), .bool (decide (((wrap32 (a0 + a1)) % 4294967296) < ((a0) % 4294967296))), .bool false]] rfl (by (try simp only [List.map_toArray, List.map_cons, List.map_nil]); first | done | rfl | (simp only [List.length_drop, List.length_take]; rfl)) ?_; (with_reducible refine (ssarewrite_flagConstantBuilder_encode.calls k (decide ((wrap32 (a0 + a1)) < 0)) ((wrap32 (a0 + a1)) == 0) (decide (((wrap32 (a0 + a1)) % 4294967296) < ((a0) % 4294967296))) false t169 _ A48.out).mono ?_); rintro e w51 ⟨rfl, hb⟩; refine ⟨_, rfl, ?_⟩; have n0_ := Aside0.mk (blk_below (g := gb159) (o := .cells #[.bool (decide ((wrap32 (a0 + a1)) < 0)), .bool ((wrap32 (a0 + a1)) == 0), .bool (decide (((wrap32 (a0 + a1)) % 4294967296) < ((a0) % 4294967296))), .bool false] 43 (0, 0)) (by (with_reducible repeat (first | refine blk_drewN ?_ _ | refine blk_drew ?_ | refine blk_alloc ?_ _)); refine blk_put (cs := #[.bool (decide ((wrap32 (a0 + a1)) < 0)), .bool ((wrap32 (a0 + a1)) == 0), .bool (decide (((wrap32 (a0 + a1)) % 4294967296) < ((a0) % 4294967296))), .bool false]) ?_ 3 _ rfl; (with_reducible repeat (first | refine blk_drewN ?_ _ | refine blk_drew ?_ | refine blk_alloc ?_ _)); refine blk_put (cs := #[.bool (decide ((wrap32 (a0 + a1)) < 0)), .bool ((wrap32 (a0 + a1)) == 0), .bool false, .bool false]) ?_ 2 _ rfl; (with_reducible repeat (first | refine blk_drewN ?_ _ | refine blk_drew ?_ | refine blk_alloc ?_ _)); refine blk_put (cs := #[.bool false, .bool ((wrap32 (a0 + a1)) == 0), .bool false, .bool false]) ?_ 0 _ rfl; (with_reducible repeat (first | refine blk_drewN ?_ _ | refine blk_drew ?_ | refine blk_alloc ?_ _)); refine blk_put (cs := #[.bool false, .bool false, .bool false, .bool false]) ?_ 1 _ rfl; (with_reducible repeat (first | refine blk_drewN ?_ _ | refine blk_drew ?_ | refine blk_alloc ?_ _)); exact BK159.out) hb); have n1_ := Aside0.mk (below_step (by repeat (first | (with_reducible first | exact HB.out | apply below_alloc | apply pw_below_drewN | apply below_drew1 | refine below_set ?_ GE159.out) | exact HB.out)) hb); clear BK159; clear HB; have BK159 := n0_; have HB := n1_; clear n0_ n1_; (try clear hb); (try clear hb2); (try clear hk); (try clear hi)))
      go_ret
      exact ⟨by first | rfl | (simp [errW_none, errW_some] <;> rfl) | (simp [*, errW_none, errW_some] <;> rfl), by repeat (first | (with_reducible first | exact HB.out | apply below_alloc | apply pw_below_drewN | apply below_drew1 | refine below_set ?_ GE159.out) | exact HB.out)⟩

attribute [local go_sem] signed_u32 max_u32 signed_u64 max_u64
/-! ### ssarewrite_ZZAddFlags32: function 16 -/
def ssarewrite_ZZAddFlags32.f (k : Nat) (a0 : Int) (a1 : Int) : Option (Int) := (ssarewrite_addFlags32.f k a0 a1).bind fun t170 => (some t170)
theorem ssarewrite_ZZAddFlags32.mono : ∀ a0 a1 k, LeO (ssarewrite_ZZAddFlags32.f k a0 a1) (ssarewrite_ZZAddFlags32.f (k + 1) a0 a1) := by
  intro a0 a1 k
  unfold ssarewrite_ZZAddFlags32.f
  repeat' first
      | (with_reducible exact ssarewrite_addFlags32.mono _ _ _)
      | (with_reducible exact LeO.refl _)
      | (with_reducible exact LeO.none _)
      | (with_reducible refine LeO.ite ?_ ?_)
      | (with_reducible refine LeO.bind ?_ (fun _ => ?_))
      | exact ssarewrite_addFlags32.mono _ _ _
      | exact LeO.none _
      | refine LeO.ite ?_ ?_
      | refine LeO.bind ?_ (fun _ => ?_)
set_option maxHeartbeats 8000000 in
set_option maxRecDepth 100000 in
theorem ssarewrite_ZZAddFlags32.calls (k : Nat) (a0 : Int) (a1 : Int) (r : Int) (w : World) (h : ssarewrite_ZZAddFlags32.f k a0 a1 = some r) :
    Calls Try.prog 16 #[.int .i32 a0, .int .i32 a1] w fun e w' => e = .returned (.int .u8 r) ∧ Below w.heap.size w w' := by
  have HB := Aside0.mk (Below.refl w.heap.size w)
  have H : ((ssarewrite_addFlags32.f k a0 a1).bind fun t170 => (some t170)) = some r := h
  clear h
  replace H := Option.bind_eq_some_iff.mp H
  obtain ⟨t170, A30, H⟩ := H
  replace H : (some t170) = some r := H
  have A3 := Aside0.mk A30
  clear A30
  obtain rfl := Option.some.inj H
  go_enter Try.func16, Try.ntmps16
  go_wp2_with (first | ((with_reducible refine gate_callee (f := 39) rfl ?_); refine goesL_ (some 7) rfl rfl Try.func39 (by kernel_rfl) rfl #[.int .i32 a0, .int .i32 a1] rfl (by (try simp only [List.map_toArray, List.map_cons, List.map_nil]); first | done | rfl | (simp only [List.length_drop, List.length_take]; rfl)) ?_; (with_reducible refine (ssarewrite_addFlags32.calls k a0 a1 t170 _ A3.out).mono ?_); rintro e w4 ⟨rfl, hb⟩; refine ⟨_, rfl, ?_⟩; have n0_ := Aside0.mk (below_step (by repeat (first | (with_reducible first | exact HB.out | apply below_alloc | apply pw_below_drewN | apply below_drew1) | exact HB.out)) hb); clear HB; have HB := n0_; clear n0_; (try clear hb); (try clear hb2); (try clear hk); (try clear hi)))
  go_ret
  exact ⟨by first | rfl | (simp [errW_none, errW_some] <;> rfl) | (simp [*, errW_none, errW_some] <;> rfl), by repeat (first | (with_reducible first | exact HB.out | apply below_alloc | apply pw_below_drewN | apply below_drew1) | exact HB.out)⟩

attribute [local go_sem] signed_u32 max_u32 signed_u64 max_u64
/-! ### impl_AddFlags32: function 9 -/
def impl_AddFlags32.f (k : Nat) (a0 : Int) (a1 : Int) : Option (Bool × Bool × Bool × Bool × Bool × Bool × Bool × Bool × Bool × Bool × Bool × Bool × Bool × Bool × Bool × Bool × Bool × Bool) := (ssarewrite_ZZAddFlags32.f k a0 a1).bind fun t172 => ((impl_flags.f t172).bind fun bt173 => (some (bt173.1, bt173.2.1, bt173.2.2.1, bt173.2.2.2.1, bt173.2.2.2.2.1, bt173.2.2.2.2.2.1, bt173.2.2.2.2.2.2.1, bt173.2.2.2.2.2.2.2.1, bt173.2.2.2.2.2.2.2.2.1, bt173.2.2.2.2.2.2.2.2.2.1, bt173.2.2.2.2.2.2.2.2.2.2.1, bt173.2.2.2.2.2.2.2.2.2.2.2.1, bt173.2.2.2.2.2.2.2.2.2.2.2.2.1, bt173.2.2.2.2.2.2.2.2.2.2.2.2.2.1, bt173.2.2.2.2.2.2.2.2.2.2.2.2.2.2.1, bt173.2.2.2.2.2.2.2.2.2.2.2.2.2.2.2.1, bt173.2.2.2.2.2.2.2.2.2.2.2.2.2.2.2.2.1, bt173.2.2.2.2.2.2.2.2.2.2.2.2.2.2.2.2.2)))
theorem impl_AddFlags32.mono : ∀ a0 a1 k, LeO (impl_AddFlags32.f k a0 a1) (impl_AddFlags32.f (k + 1) a0 a1) := by
  intro a0 a1 k
  unfold impl_AddFlags32.f
  repeat' first
      | (with_reducible exact ssarewrite_ZZAddFlags32.mono _ _ _)
      | (with_reducible exact LeO.refl _)
      | (with_reducible exact LeO.none _)
      | (with_reducible refine LeO.ite ?_ ?_)
      | (with_reducible refine LeO.bind ?_ (fun _ => ?_))
      | exact ssarewrite_ZZAddFlags32.mono _ _ _
      | exact LeO.none _
      | refine LeO.ite ?_ ?_
      | refine LeO.bind ?_ (fun _ => ?_)
set_option maxHeartbeats 8000000 in
set_option maxRecDepth 100000 in
theorem impl_AddFlags32.calls (k : Nat) (a0 : Int) (a1 : Int) (r1 : Bool) (r2 : Bool) (r3 : Bool) (r4 : Bool) (r5 : Bool) (r6 : Bool) (r7 : Bool) (r8 : Bool) (r9 : Bool) (r10 : Bool) (r11 : Bool) (r12 : Bool) (r13 : Bool) (r14 : Bool) (r15 : Bool) (r16 : Bool) (r17 : Bool) (r18 : Bool) (w : World) (h : impl_AddFlags32.f k a0 a1 = some (r1, r2, r3, r4, r5, r6, r7, r8, r9, r10, r11, r12, r13, r14, r15, r16, r17, r18)) :
    Calls Try.prog 9 #[.int .i32 a0, .int .i32 a1] w fun e w' => e = .returned (.agg #[.bool r1, .bool r2, .bool r3, .bool r4, .bool r5, .bool r6, .bool r7, .bool r8, .bool r9, .bool r10, .bool r11, .bool r12, .bool r13, .bool r14, .bool r15, .bool r16, .bool r17, .bool r18]) ∧ Below w.heap.size w w' := by
  have hu23 := Try.underlying23
  have HB := Aside0.mk (Below.refl w.heap.size w)
  have H : ((ssarewrite_ZZAddFlags32.f k a0 a1).bind fun t172 => ((impl_flags.f t172).bind fun bt173 => (some (bt173.1, bt173.2.1, bt173.2.2.1, bt173.2.2.2.1, bt173.2.2.2.2.1, bt173.2.2.2.2.2.1, bt173.2.2.2.2.2.2.1, bt173.2.2.2.2.2.2.2.1, bt173.2.2.2.2.2.2.2.2.1, bt173.2.2.2.2.2.2.2.2.2.1, bt173.2.2.2.2.2.2.2.2.2.2.1, bt173.2.2.2.2.2.2.2.2.2.2.2.1, bt173.2.2.2.2.2.2.2.2.2.2.2.2.1, bt173.2.2.2.2.2.2.2.2.2.2.2.2.2.1, bt173.2.2.2.2.2.2.2.2.2.2.2.2.2.2.1, bt173.2.2.2.2.2.2.2.2.2.2.2.2.2.2.2.1, bt173.2.2.2.2.2.2.2.2.2.2.2.2.2.2.2.2.1, bt173.2.2.2.2.2.2.2.2.2.2.2.2.2.2.2.2.2)))) = some (r1, r2, r3, r4, r5, r6, r7, r8, r9, r10, r11, r12, r13, r14, r15, r16, r17, r18) := h
  clear h
  replace H := Option.bind_eq_some_iff.mp H
  obtain ⟨t172, A30, H⟩ := H
  replace H : ((impl_flags.f t172).bind fun bt173 => (some (bt173.1, bt173.2.1, bt173.2.2.1, bt173.2.2.2.1, bt173.2.2.2.2.1, bt173.2.2.2.2.2.1, bt173.2.2.2.2.2.2.1, bt173.2.2.2.2.2.2.2.1, bt173.2.2.2.2.2.2.2.2.1, bt173.2.2.2.2.2.2.2.2.2.1, bt173.2.2.2.2.2.2.2.2.2.2.1, bt173.2.2.2.2.2.2.2.2.2.2.2.1, bt173.2.2.2.2.2.2.2.2.2.2.2.2.1, bt173.2.2.2.2.2.2.2.2.2.2.2.2.2.1, bt173.2.2.2.2.2.2.2.2.2.2.2.2.2.2.1, bt173.2.2.2.2.2.2.2.2.2.2.2.2.2.2.2.1, bt173.2.2.2.2.2.2.2.2.2.2.2.2.2.2.2.2.1, bt173.2.2.2.2.2.2.2.2.2.2.2.2.2.2.2.2.2))) = some (r1, r2, r3, r4, r5, r6, r7, r8, r9, r10, r11, r12, r13, r14, r15, r16, r17, r18) := H
  have A3 := Aside0.mk A30
  clear A30
  replace H := Option.bind_eq_some_iff.mp H
  obtain ⟨⟨t173, t174, t175, t176, t177, t178, t179, t180, t181, t182, t183, t184, t185, t186, t187, t188, t189, t190⟩, A40, H⟩ := H
  replace H : (some (t173, t174, t175, t176, t177, t178, t179, t180, t181, t182, t183, t184, t185, t186, t187, t188, t189, t190)) = some (r1, r2, r3, r4, r5, r6, r7, r8, r9, r10, r11, r12, r13, r14, r15, r16, r17, r18) := H
  have A4 := Aside0.mk A40
  clear A40
  simp only [Option.some.injEq, Prod.mk.injEq] at H
  obtain ⟨rfl, rfl, rfl, rfl, rfl, rfl, rfl, rfl, rfl, rfl, rfl, rfl, rfl, rfl, rfl, rfl, rfl, rfl⟩ := H
  go_enter Try.func9, Try.ntmps9
  go_wp2_with (first | ((with_reducible refine gate_dst (N := 4) rfl ?_); refine box_event ?hg (N := 4) ?hd (cs := #[.bool false, .bool false, .bool false, .bool false, .bool false, .bool false, .bool false, .bool false, .bool false, .bool false, .bool false, .bool false, .bool false, .bool false, .bool false, .bool false, .bool false, .bool false]) (t := 23) ?hr ?_; (case hd => rfl); (case hg => rfl); (case hr => first | (go_simp; done) | (go_simp; rfl)); intro gb171 hg w5 hbox hb; have n0_ := Aside0.mk (below_step (by repeat (first | (with_reducible first | exact HB.out | apply below_alloc | apply pw_below_drewN | apply below_drew1) | exact HB.out)) hb); have n1_ := Aside0.mk (hbox); have n2_ := Aside0.mk ((by rw [hg]; exact (below_size (by repeat (first | (with_reducible first | exact HB.out | apply below_alloc | apply pw_below_drewN | apply below_drew1) | exact HB.out))) : w.heap.size ≤ gb171)); have n3_ := Aside0.mk ((by rw [hg]; exact (below_size (by repeat (first | (with_reducible first | exact HB.out | apply below_alloc | apply pw_below_drewN | apply below_drew1) | exact HB.out))) : w.heap.size ≤ gb171)); clear HB; have HB := n0_; have BK171 := n1_; have GW171 := n2_; have GE171 := n3_; clear n0_ n1_ n2_ n3_; clear hb hbox hg) | ((with_reducible refine gate_callee (f := 16) rfl ?_); refine goesL_ (some 7) rfl rfl Try.func16 (by kernel_rfl) rfl #[.int .i32 a0, .int .i32 a1] rfl (by (try simp only [List.map_toArray, List.map_cons, List.map_nil]); first | done | rfl | (simp only [List.length_drop, List.length_take]; rfl)) ?_; (with_reducible refine (ssarewrite_ZZAddFlags32.calls k a0 a1 t172 _ A3.out).mono ?_); rintro e w6 ⟨rfl, hb⟩; refine ⟨_, rfl, ?_⟩; have n0_ := Aside0.mk (blk_below (g := gb171) (o := .cells #[.bool false, .bool false, .bool false, .bool false, .bool false, .bool false, .bool false, .bool false, .bool false, .bool false, .bool false, .bool false, .bool false, .bool false, .bool false, .bool false, .bool false, .bool false] 23 (0, 0)) (by (with_reducible repeat (first | refine blk_drewN ?_ _ | refine blk_drew ?_ | refine blk_alloc ?_ _)); exact BK171.out) hb); have n1_ := Aside0.mk (below_step (by repeat (first | (with_reducible first | exact HB.out | apply below_alloc | apply pw_below_drewN | apply below_drew1 | refine below_set ?_ GE171.out) | exact HB.out)) hb); clear BK171; clear HB; have BK171 := n0_; have HB := n1_; clear n0_ n1_; (try clear hb); (try clear hb2); (try clear hk); (try clear hi)) | ((with_reducible refine gate_callee (f := 15) rfl ?_); refine goesL_ (some 8) rfl rfl Try.func15 (by kernel_rfl) rfl #[.int .u8 t172] rfl (by (try simp only [List.map_toArray, List.map_cons, List.map_nil]); first | done | rfl | (simp only [List.length_drop, List.length_take]; rfl)) ?_; (with_reducible refine (impl_flags.calls t172 t173 t174 t175 t176 t177 t178 t179 t180 t181 t182 t183 t184 t185 t186 t187 t188 t189 t190 _ A4.out).mono ?_); rintro e w7 ⟨rfl, hb⟩; refine ⟨_, rfl, ?_⟩; have n0_ := Aside0.mk (blk_below (g := gb171) (o := .cells #[.bool false, .bool false, .bool false, .bool false, .bool false, .bool false, .bool false, .bool false, .bool false, .bool false, .bool false, .bool false, .bool false, .bool false, .bool false, .bool false, .bool false, .bool false] 23 (0, 0)) (by (with_reducible repeat (first | refine blk_drewN ?_ _ | refine blk_drew ?_ | refine blk_alloc ?_ _)); exact BK171.out) hb); have n1_ := Aside0.mk (below_step (by repeat (first | (with_reducible first | exact HB.out | apply below_alloc | apply pw_below_drewN | apply below_drew1 | refine below_set ?_ GE171.out) | exact HB.out)) hb); clear BK171; clear HB; have BK171 := n0_; have HB := n1_; clear n0_ n1_; (try clear hb); (try clear hb2); (try clear hk); (try clear hi); have hcz8_0 : w7.cell? ⟨gb171, 0, none⟩ = some (.bool false) := (blk_cell BK171.out 0).trans rfl; have hcz8_1 : w7.cell? ⟨gb171, 1, none⟩ = some (.bool false) := (blk_cell BK171.out 1).trans rfl; have hcz8_2 : w7.cell? ⟨gb171, 2, none⟩ = some (.bool false) := (blk_cell BK171.out 2).trans rfl; have hcz8_3 : w7.cell? ⟨gb171, 3, none⟩ = some (.bool false) := (blk_cell BK171.out 3).trans rfl; have hcz8_4 : w7.cell? ⟨gb171, 4, none⟩ = some (.bool false) := (blk_cell BK171.out 4).trans rfl; have hcz8_5 : w7.cell? ⟨gb171, 5, none⟩ = some (.bool false) := (blk_cell BK171.out 5).trans rfl; have hcz8_6 : w7.cell? ⟨gb171, 6, none⟩ = some (.bool false) := (blk_cell BK171.out 6).trans rfl; have hcz8_7 : w7.cell? ⟨gb171, 7, none⟩ = some (.bool false) := (blk_cell BK171.out 7).trans rfl; have hcz8_8 : w7.cell? ⟨gb171, 8, none⟩ = some (.bool false) := (blk_cell BK171.out 8).trans rfl; have hcz8_9 : w7.cell? ⟨gb171, 9, none⟩ = some (.bool false) := (blk_cell BK171.out 9).trans rfl; have hcz8_10 : w7.cell? ⟨gb171, 10, none⟩ = some (.bool false) := (blk_cell BK171.out 10).trans rfl; have hcz8_11 : w7.cell? ⟨gb171, 11, none⟩ = some (.bool false) := (blk_cell BK171.out 11).trans rfl; have hcz8_12 : w7.cell? ⟨gb171, 12, none⟩ = some (.bool false) := (blk_cell BK171.out 12).trans rfl; have hcz8_13 : w7.cell? ⟨gb171, 13, none⟩ = some (.bool false) := (blk_cell BK171.out 13).trans rfl; have hcz8_14 : w7.cell? ⟨gb171, 14, none⟩ = some (.bool false) := (blk_cell BK171.out 14).trans rfl; have hcz8_15 : w7.cell? ⟨gb171, 15, none⟩ = some (.bool false) := (blk_cell BK171.out 15).trans rfl; have hcz8_16 : w7.cell? ⟨gb171, 16, none⟩ = some (.bool false) := (blk_cell BK171.out 16).trans rfl; have hcz8_17 : w7.cell? ⟨gb171, 17, none⟩ = some (.bool false) := (blk_cell BK171.out 17).trans rfl; have hfz8_0 := blk_frozen BK171.out 0; have hfz8_1 := blk_frozen BK171.out 1; have hfz8_2 := blk_frozen BK171.out 2; have hfz8_3 := blk_frozen BK171.out 3; have hfz8_4 := blk_frozen BK171.out 4; have hfz8_5 := blk_frozen BK171.out 5; have hfz8_6 := blk_frozen BK171.out 6; have hfz8_7 := blk_frozen BK171.out 7; have hfz8_8 := blk_frozen BK171.out 8; have hfz8_9 := blk_frozen BK171.out 9; have hfz8_10 := blk_frozen BK171.out 10; have hfz8_11 := blk_frozen BK171.out 11; have hfz8_12 := blk_frozen BK171.out 12; have hfz8_13 := blk_frozen BK171.out 13; have hfz8_14 := blk_frozen BK171.out 14; have hfz8_15 := blk_frozen BK171.out 15; have hfz8_16 := blk_frozen BK171.out 16; have hfz8_17 := blk_frozen BK171.out 17))
  refine bodyPost_ret (results_cell_row rfl _ _ gb171 23 #[.bool t173, .bool t174, .bool t175, .bool t176, .bool t177, .bool t178, .bool t179, .bool t180, .bool t181, .bool t182, .bool t183, .bool t184, .bool t185, .bool t186, .bool t187, .bool t188, .bool t189, .bool t190] (0, 0) _ rfl (by (with_reducible repeat (first | refine blk_drewN ?_ _ | refine blk_drew ?_ | refine blk_alloc ?_ _)); refine blk_put (cs := #[.bool t173, .bool t174, .bool t175, .bool t176, .bool t177, .bool t178, .bool t179, .bool t180, .bool t181, .bool t182, .bool t183, .bool t184, .bool t185, .bool t186, .bool t187, .bool t188, .bool t189, .bool false]) ?_ 17 _ rfl; (with_reducible repeat (first | refine blk_drewN ?_ _ | refine blk_drew ?_ | refine blk_alloc ?_ _)); refine blk_put (cs := #[.bool t173, .bool t174, .bool t175, .bool t176, .bool t177, .bool t178, .bool t179, .bool t180, .bool t181, .bool t182, .bool t183, .bool t184, .bool t185, .bool t186, .bool t187, .bool t188, .bool false, .bool false]) ?_ 16 _ rfl; (with_reducible repeat (first | refine blk_drewN ?_ _ | refine blk_drew ?_ | refine blk_alloc ?_ _)); refine blk_put (cs := #[.bool t173, .bool t174, .bool t175, .bool t176, .bool t177, .bool t178, .bool t179, .bool t180, .bool t181, .bool t182, .bool t183, .bool t184, .bool t185, .bool t186, .bool t187, .bool false, .bool false, .bool false]) ?_ 15 _ rfl; (with_reducible repeat (first | refine blk_drewN ?_ _ | refine blk_drew ?_ | refine blk_alloc ?_ _)); refine blk_put (cs := #[.bool t173, .bool t174, .bool t175, .bool t176, .bool t177, .bool t178, .bool t179, .bool t180, .bool t181, .bool t182, .bool t183, .bool t184, .bool t185, .bool t186, .bool false, .bool false, .bool false, .bool false]) ?_ 14 _ rfl; (with_reducible repeat (first | refine blk_drewN ?_ _ | refine blk_drew ?_ | refine blk_alloc ?_ _)); refine blk_put (cs := #[.bool t173, .bool t174, .bool t175, .bool t176, .bool t177, .bool t178, .bool t179, .bool t180, .bool t181, .bool t182, .bool t183, .bool t184, .bool t185, .bool false, .bool false, .bool false, .bool false, .bool false]) ?_ 13 _ rfl; (with_reducible repeat (first | refine blk_drewN ?_ _ | refine blk_drew ?_ | refine blk_alloc ?_ _)); refine blk_put (cs := #[.bool t173, .bool t174, .bool t175, .bool t176, .bool t177, .bool t178, .bool t179, .bool t180, .bool t181, .bool t182, .bool t183, .bool t184, .bool false, .bool false, .bool false, .bool false, .bool false, .bool false]) ?_ 12 _ rfl; (with_reducible repeat (first | refine blk_drewN ?_ _ | refine blk_drew ?_ | refine blk_alloc ?_ _)); refine blk_put (cs := #[.bool t173, .bool t174, .bool t175, .bool t176, .bool t177, .bool t178, .bool t179, .bool t180, .bool t181, .bool t182, .bool t183, .bool false, .bool false, .bool false, .bool false, .bool false, .bool false, .bool false]) ?_ 11 _ rfl; (with_reducible repeat (first | refine blk_drewN ?_ _ | refine blk_drew ?_ | refine blk_alloc ?_ _)); refine blk_put (cs := #[.bool t173, .bool t174, .bool t175, .bool t176, .bool t177, .bool t178, .bool t179, .bool t180, .bool t181, .bool t182, .bool false, .bool false, .bool false, .bool false, .bool false, .bool false, .bool false, .bool false]) ?_ 10 _ rfl; (with_reducible repeat (first | refine blk_drewN ?_ _ | refine blk_drew ?_ | refine blk_alloc ?_ _)); refine blk_put (cs := #[.bool t173, .bool t174, .bool t175, .bool t176, .bool t177, .bool t178, .bool t179, .bool t180, .bool t181, .bool false, .bool false, .bool false, .bool false, .bool false, .bool false, .bool false, .bool false, .bool false]) ?_ 9 _ rfl; (with_reducible repeat (first | refine blk_drewN ?_ _ | refine blk_drew ?_ | refine blk_alloc ?_ _)); refine blk_put (cs := #[.bool t173, .bool t174, .bool t175, .bool t176, .bool t177, .bool t178, .bool t179, .bool t180, .bool false, .bool false, .bool false, .bool false, .bool false, .bool false, .bool false, .bool false, .bool false, .bool false]) ?_ 8 _ rfl; (with_reducible repeat (first | refine blk_drewN ?_ _ | refine blk_drew ?_ | refine blk_alloc ?_ _)); refine blk_put (cs := #[.bool t173, .bool t174, .bool t175, .bool t176, .bool t177, .bool t178, .bool t179, .bool false, .bool false, .bool false, .bool false, .bool false, .bool false, .bool false, .bool false, .bool false, .bool false, .bool false]) ?_ 7 _ rfl; (with_reducible repeat (first | refine blk_drewN ?_ _ | refine blk_drew ?_ | refine blk_alloc ?_ _)); refine blk_put (cs := #[.bool t173, .bool t174, .bool t175, .bool t176, .bool t177, .bool t178, .bool false, .bool false, .bool false, .bool false, .bool false, .bool false, .bool false, .bool false, .bool false, .bool false, .bool false, .bool false]) ?_ 6 _ rfl; (with_reducible repeat (first | refine blk_drewN ?_ _ | refine blk_drew ?_ | refine blk_alloc ?_ _)); refine blk_put (cs := #[.bool t173, .bool t174, .bool t175, .bool t176, .bool t177, .bool false, .bool false, .bool false, .bool false, .bool false, .bool false, .bool false, .bool false, .bool false, .bool false, .bool false, .bool false, .bool false]) ?_ 5 _ rfl; (with_reducible repeat (first | refine blk_drewN ?_ _ | refine blk_drew ?_ | refine blk_alloc ?_ _)); refine blk_put (cs := #[.bool t173, .bool t174, .bool t175, .bool t176, .bool false, .bool false, .bool false, .bool false, .bool false, .bool false, .bool false, .bool false, .bool false, .bool false, .bool false, .bool false, .bool false, .bool false]) ?_ 4 _ rfl; (with_reducible repeat (first | refine blk_drewN ?_ _ | refine blk_drew ?_ | refine blk_alloc ?_ _)); refine blk_put (cs := #[.bool t173, .bool t174, .bool t175, .bool false, .bool false, .bool false, .bool false, .bool false, .bool false, .bool false, .bool false, .bool false, .bool false, .bool false, .bool false, .bool false, .bool false, .bool false]) ?_ 3 _ rfl; (with_reducible repeat (first | refine blk_drewN ?_ _ | refine blk_drew ?_ | refine blk_alloc ?_ _)); refine blk_put (cs := #[.bool t173, .bool t174, .bool false, .bool false, .bool false, .bool false, .bool false, .bool false, .bool false, .bool false, .bool false, .bool false, .bool false, .bool false, .bool false, .bool false, .bool false, .bool false]) ?_ 2 _ rfl; (with_reducible repeat (first | refine blk_drewN ?_ _ | refine blk_drew ?_ | refine blk_alloc ?_ _)); refine blk_put (cs := #[.bool t173, .bool false, .bool false, .bool false, .bool false, .bool false, .bool false, .bool false, .bool false, .bool false, .bool false, .bool false, .bool false, .bool false, .bool false, .bool false, .bool false, .bool false]) ?_ 1 _ rfl; (with_reducible repeat (first | refine blk_drewN ?_ _ | refine blk_drew ?_ | refine blk_alloc ?_ _)); refine blk_put (cs := #[.bool false, .bool false, .bool false, .bool false, .bool false, .bool false, .bool false, .bool false, .bool false, .bool false, .bool false, .bool false, .bool false, .bool false, .bool false, .bool false, .bool false, .bool false]) ?_ 0 _ rfl; (with_reducible repeat (first | refine blk_drewN ?_ _ | refine blk_drew ?_ | refine blk_alloc ?_ _)); exact BK171.out) Try.underlying23 rfl (by kernel_rfl)) rfl ?_
  exact ⟨by first | rfl | (simp [errW_none, errW_some] <;> rfl) | (simp [*, errW_none, errW_some] <;> rfl), by repeat (first | (with_reducible first | exact HB.out | apply below_alloc | apply pw_below_drewN | apply below_drew1 | refine below_set ?_ GE171.out) | exact HB.out)⟩

attribute [local go_sem] signed_u32 max_u32 signed_u64 max_u64
/-! ### laws_FnAddBits32: function 3 -/
def laws_FnAddBits32.f (k : Nat) (a0 : Int) (a1 : Int) : Option (Bool) := (impl_AddFlags32.f k a0 a1).bind fun bt191 => (if (bt191.1 == (decide ((wrap32 (a0 + a1)) < 0))) = true then (if (bt191.2.1 == ((wrap32 (a0 + a1)) == 0)) = true then (if (bt191.2.2.1 == (decide (((wrap32 (a0 + a1)) % 4294967296) < ((a0) % 4294967296)))) = true then (if (bt191.2.2.2.1 == ((decide (a1 ≥ 0)) != (decide ((wrap32 (a0 + a1)) ≥ a0)))) = true then (some (bt191.2.2.2.2.2.1 != bt191.2.2.2.2.1)) else (some false)) else (some false)) else (some false)) else (some false))
theorem laws_FnAddBits32.mono : ∀ a0 a1 k, LeO (laws_FnAddBits32.f k a0 a1) (laws_FnAddBits32.f (k + 1) a0 a1) := by
  intro a0 a1 k
  unfold laws_FnAddBits32.f
  repeat' first
      | (with_reducible exact impl_AddFlags32.mono _ _ _)
      | (with_reducible exact LeO.refl _)
      | (with_reducible exact LeO.none _)
      | (with_reducible refine LeO.ite ?_ ?_)
      | (with_reducible refine LeO.bind ?_ (fun _ => ?_))
      | exact impl_AddFlags32.mono _ _ _
      | exact LeO.none _
      | refine LeO.ite ?_ ?_
      | refine LeO.bind ?_ (fun _ => ?_)
set_option maxHeartbeats 8000000 in
set_option maxRecDepth 100000 in
theorem laws_FnAddBits32.calls (k : Nat) (a0 : Int) (a1 : Int) (r : Bool) (w : World) (h : laws_FnAddBits32.f k a0 a1 = some r) (hr : r = true) :
    Calls Try.prog 3 #[.int .i32 a0, .int .i32 a1] w fun e w' => e = .returned (.bool r) ∧ Below w.heap.size w w' := by
  have hu23 := Try.underlying23
  have HB := Aside0.mk (Below.refl w.heap.size w)
  have H : ((impl_AddFlags32.f k a0 a1).bind fun bt191 => (if (bt191.1 == (decide ((wrap32 (a0 + a1)) < 0))) = true then (if (bt191.2.1 == ((wrap32 (a0 + a1)) == 0)) = true then (if (bt191.2.2.1 == (decide (((wrap32 (a0 + a1)) % 4294967296) < ((a0) % 4294967296)))) = true then (if (bt191.2.2.2.1 == ((decide (a1 ≥ 0)) != (decide ((wrap32 (a0 + a1)) ≥ a0)))) = true then (some (bt191.2.2.2.2.2.1 != bt191.2.2.2.2.1)) else (some false)) else (some false)) else (some false)) else (some false))) = some r := h
  clear h
  replace H := Option.bind_eq_some_iff.mp H
  obtain ⟨⟨t191, t192, t193, t194, t195, t196, t197, t198, t199, t200, t201, t202, t203, t204, t205, t206, t207, t208⟩, A30, H⟩ := H
  replace H : (if (t191 == (decide ((wrap32 (a0 + a1)) < 0))) = true then (if (t192 == ((wrap32 (a0 + a1)) == 0)) = true then (if (t193 == (decide (((wrap32 (a0 + a1)) % 4294967296) < ((a0) % 4294967296)))) = true then (if (t194 == ((decide (a1 ≥ 0)) != (decide ((wrap32 (a0 + a1)) ≥ a0)))) = true then (some (t196 != t195)) else (some false)) else (some false)) else (some false)) else (some false)) = some r := H
  have A3 := Aside0.mk A30
  clear A30
  by_cases c4 : (t191 == (decide ((wrap32 (a0 + a1)) < 0))) = true
  · rw [if_pos c4] at H
    have c4b0 : (t191 == (decide ((wrap32 (a0 + a1)) < 0))) = true := c4
    (try (have c4b1 : decide (t191 = (decide ((wrap32 (a0 + a1)) < 0))) = true := by simpa using c4))
    (try (have c4b2 : (t191 == (decide ((wrap32 (a0 + a1)) < 0))) = true := by simpa using c4))
    clear c4
    by_cases c5 : (t192 == ((wrap32 (a0 + a1)) == 0)) = true
    · rw [if_pos c5] at H
      have c5b0 : (t192 == ((wrap32 (a0 + a1)) == 0)) = true := c5
      (try (have c5b1 : decide (t192 = ((wrap32 (a0 + a1)) == 0)) = true := by simpa using c5))
      (try (have c5b2 : (t192 == ((wrap32 (a0 + a1)) == 0)) = true := by simpa using c5))
      clear c5
      by_cases c6 : (t193 == (decide (((wrap32 (a0 + a1)) % 4294967296) < ((a0) % 4294967296)))) = true
      · rw [if_pos c6] at H
        have c6b0 : (t193 == (decide (((wrap32 (a0 + a1)) % 4294967296) < ((a0) % 4294967296)))) = true := c6
        (try (have c6b1 : decide (t193 = (decide (((wrap32 (a0 + a1)) % 4294967296) < ((a0) % 4294967296)))) = true := by simpa using c6))
        (try (have c6b2 : (t193 == (decide (((wrap32 (a0 + a1)) % 4294967296) < ((a0) % 4294967296)))) = true := by simpa using c6))
        clear c6
        by_cases c7 : (t194 == ((decide (a1 ≥ 0)) != (decide ((wrap32 (a0 + a1)) ≥ a0)))) = true
        · rw [if_pos c7] at H
          have c7b0 : (t194 == ((decide (a1 ≥ 0)) != (decide ((wrap32 (a0 + a1)) ≥ a0)))) = true := c7
          (try (have c7b8 := c7b0; simp only [bne] at c7b8))
          (try (have c7b9 := c7b0; simp only [ge_iff_le, gt_iff_lt] at c7b9))
          (try (have c7b7 := c7b0; simp only [bne, ge_iff_le, gt_iff_lt] at c7b7))
          (try (have c7b1 : decide (t194 = ((decide (a1 ≥ 0)) != (decide ((wrap32 (a0 + a1)) ≥ a0)))) = true := by simpa using c7))
          (try (have c7b2 : (t194 == ((decide (a1 ≥ 0)) != (decide ((wrap32 (a0 + a1)) ≥ a0)))) = true := by simpa using c7))
          clear c7
          first
            | exact absurd (Option.some.inj H) (by rw [hr]; decide)
            | obtain rfl := Option.some.inj H
              clear hr
              go_enter Try.func3, Try.ntmps3
              go_wp2_with (first | ((with_reducible refine gate_callee (f := 9) rfl ?_); refine goesL_ (some 10) rfl rfl Try.func9 (by kernel_rfl) rfl #[.int .i32 a0, .int .i32 a1] rfl (by (try simp only [List.map_toArray, List.map_cons, List.map_nil]); first | done | rfl | (simp only [List.length_drop, List.length_take]; rfl)) ?_; (with_reducible refine (impl_AddFlags32.calls k a0 a1 t191 t192 t193 t194 t195 t196 t197 t198 t199 t200 t201 t202 t203 t204 t205 t206 t207 t208 _ A3.out).mono ?_); rintro e w8 ⟨rfl, hb⟩; refine ⟨_, rfl, ?_⟩; have n0_ := Aside0.mk (below_step (by repeat (first | (with_reducible first | exact HB.out | apply below_alloc | apply pw_below_drewN | apply below_drew1) | exact HB.out)) hb); clear HB; have HB := n0_; clear n0_; (try clear hb); (try clear hb2); (try clear hk); (try clear hi)) | ((with_reducible refine gate_dst (N := 5) rfl ?_); refine box_event ?hg (N := 5) ?hd (cs := #[.bool false, .bool false, .bool false, .bool false, .bool false, .bool false, .bool false, .bool false, .bool false, .bool false, .bool false, .bool false, .bool false, .bool false, .bool false, .bool false, .bool false, .bool false]) (t := 23) ?hr ?_; (case hd => rfl); (case hg => rfl); (case hr => first | (go_simp; done) | (go_simp; rfl)); intro gb209 hg w9 hbox hb; have n0_ := Aside0.mk (below_step (by repeat (first | (with_reducible first | exact HB.out | apply below_alloc | apply pw_below_drewN | apply below_drew1) | exact HB.out)) hb); have n1_ := Aside0.mk (hbox); have n2_ := Aside0.mk ((by rw [hg]; exact (below_size (by repeat (first | (with_reducible first | exact HB.out | apply below_alloc | apply pw_below_drewN | apply below_drew1) | exact HB.out))) : w.heap.size ≤ gb209)); have n3_ := Aside0.mk ((by rw [hg]; exact (below_size (by repeat (first | (with_reducible first | exact HB.out | apply below_alloc | apply pw_below_drewN | apply below_drew1) | exact HB.out))) : w.heap.size ≤ gb209)); clear HB; have HB := n0_; have BK209 := n1_; have GW209 := n2_; have GE209 := n3_; clear n0_ n1_ n2_ n3_; clear hb hbox hg; have hcz10_0 : w9.cell? ⟨gb209, 0, none⟩ = some (.bool false) := (blk_cell BK209.out 0).trans rfl; have hcz10_1 : w9.cell? ⟨gb209, 1, none⟩ = some (.bool false) := (blk_cell BK209.out 1).trans rfl; have hcz10_2 : w9.cell? ⟨gb209, 2, none⟩ = some (.bool false) := (blk_cell BK209.out 2).trans rfl; have hcz10_3 : w9.cell? ⟨gb209, 3, none⟩ = some (.bool false) := (blk_cell BK209.out 3).trans rfl; have hcz10_4 : w9.cell? ⟨gb209, 4, none⟩ = some (.bool false) := (blk_cell BK209.out 4).trans rfl; have hcz10_5 : w9.cell? ⟨gb209, 5, none⟩ = some (.bool false) := (blk_cell BK209.out 5).trans rfl; have hcz10_6 : w9.cell? ⟨gb209, 6, none⟩ = some (.bool false) := (blk_cell BK209.out 6).trans rfl; have hcz10_7 : w9.cell? ⟨gb209, 7, none⟩ = some (.bool false) := (blk_cell BK209.out 7).trans rfl; have hcz10_8 : w9.cell? ⟨gb209, 8, none⟩ = some (.bool false) := (blk_cell BK209.out 8).trans rfl; have hcz10_9 : w9.cell? ⟨gb209, 9, none⟩ = some (.bool false) := (blk_cell BK209.out 9).trans rfl; have hcz10_10 : w9.cell? ⟨gb209, 10, none⟩ = some (.bool false) := (blk_cell BK209.out 10).trans rfl; have hcz10_11 : w9.cell? ⟨gb209, 11, none⟩ = some (.bool false) := (blk_cell BK209.out 11).trans rfl; have hcz10_12 : w9.cell? ⟨gb209, 12, none⟩ = some (.bool false) := (blk_cell BK209.out 12).trans rfl; have hcz10_13 : w9.cell? ⟨gb209, 13, none⟩ = some (.bool false) := (blk_cell BK209.out 13).trans rfl; have hcz10_14 : w9.cell? ⟨gb209, 14, none⟩ = some (.bool false) := (blk_cell BK209.out 14).trans rfl; have hcz10_15 : w9.cell? ⟨gb209, 15, none⟩ = some (.bool false) := (blk_cell BK209.out 15).trans rfl; have hcz10_16 : w9.cell? ⟨gb209, 16, none⟩ = some (.bool false) := (blk_cell BK209.out 16).trans rfl; have hcz10_17 : w9.cell? ⟨gb209, 17, none⟩ = some (.bool false) := (blk_cell BK209.out 17).trans rfl; have hfz10_0 := blk_frozen BK209.out 0; have hfz10_1 := blk_frozen BK209.out 1; have hfz10_2 := blk_frozen BK209.out 2; have hfz10_3 := blk_frozen BK209.out 3; have hfz10_4 := blk_frozen BK209.out 4; have hfz10_5 := blk_frozen BK209.out 5; have hfz10_6 := blk_frozen BK209.out 6; have hfz10_7 := blk_frozen BK209.out 7; have hfz10_8 := blk_frozen BK209.out 8; have hfz10_9 := blk_frozen BK209.out 9; have hfz10_10 := blk_frozen BK209.out 10; have hfz10_11 := blk_frozen BK209.out 11; have hfz10_12 := blk_frozen BK209.out 12; have hfz10_13 := blk_frozen BK209.out 13; have hfz10_14 := blk_frozen BK209.out 14; have hfz10_15 := blk_frozen BK209.out 15; have hfz10_16 := blk_frozen BK209.out 16; have hfz10_17 := blk_frozen BK209.out 17))
              go_ret
              exact ⟨by first | rfl | (simp [errW_none, errW_some] <;> rfl) | (simp [*, errW_none, errW_some] <;> rfl), by repeat (first | (with_reducible first | exact HB.out | apply below_alloc | apply pw_below_drewN | apply below_drew1 | refine below_set ?_ GE209.out) | exact HB.out)⟩
        · rw [if_neg c7] at H
          have c7b0 : (t194 == ((decide (a1 ≥ 0)) != (decide ((wrap32 (a0 + a1)) ≥ a0)))) = false := by simpa using c7
          (try (have c7b8 := c7b0; simp only [bne] at c7b8))
          (try (have c7b9 := c7b0; simp only [ge_iff_le, gt_iff_lt] at c7b9))
          (try (have c7b7 := c7b0; simp only [bne, ge_iff_le, gt_iff_lt] at c7b7))
          (try (have c7b1 : decide (t194 = ((decide (a1 ≥ 0)) != (decide ((wrap32 (a0 + a1)) ≥ a0)))) = false := by simpa using c7))
          (try (have c7b2 : (t194 == ((decide (a1 ≥ 0)) != (decide ((wrap32 (a0 + a1)) ≥ a0)))) = false := by simpa using c7))
          (try (have c7b3 : ¬ (t194 = ((decide (a1 ≥ 0)) != (decide ((wrap32 (a0 + a1)) ≥ a0)))) := by simpa using c7))
          clear c7
          first
            | exact absurd (Option.some.inj H) (by rw [hr]; decide)
            | obtain rfl := Option.some.inj H
              clear hr
              go_enter Try.func3, Try.ntmps3
              go_wp2_with (first | ((with_reducible refine gate_callee (f := 9) rfl ?_); refine goesL_ (some 10) rfl rfl Try.func9 (by kernel_rfl) rfl #[.int .i32 a0, .int .i32 a1] rfl (by (try simp only [List.map_toArray, List.map_cons, List.map_nil]); first | done | rfl | (simp only [List.length_drop, List.length_take]; rfl)) ?_; (with_reducible refine (impl_AddFlags32.calls k a0 a1 t191 t192 t193 t194 t195 t196 t197 t198 t199 t200 t201 t202 t203 t204 t205 t206 t207 t208 _ A3.out).mono ?_); rintro e w11 ⟨rfl, hb⟩; refine ⟨_, rfl, ?_⟩; have n0_ := Aside0.mk (below_step (by repeat (first | (with_reducible first | exact HB.out | apply below_alloc | apply pw_below_drewN | apply below_drew1) | exact HB.out)) hb); clear HB; have HB := n0_; clear n0_; (try clear hb); (try clear hb2); (try clear hk); (try clear hi)) | ((with_reducible refine gate_dst (N := 5) rfl ?_); refine box_event ?hg (N := 5) ?hd (cs := #[.bool false, .bool false, .bool false, .bool false, .bool false, .bool false, .bool false, .bool false, .bool false, .bool false, .bool false, .bool false, .bool false, .bool false, .bool false, .bool false, .bool false, .bool false]) (t := 23) ?hr ?_; (case hd => rfl); (case hg => rfl); (case hr => first | (go_simp; done) | (go_simp; rfl)); intro gb209 hg w12 hbox hb; have n0_ := Aside0.mk (below_step (by repeat (first | (with_reducible first | exact HB.out | apply below_alloc | apply pw_below_drewN | apply below_drew1) | exact HB.out)) hb); have n1_ := Aside0.mk (hbox); have n2_ := Aside0.mk ((by rw [hg]; exact (below_size (by repeat (first | (with_reducible first | exact HB.out | apply below_alloc | apply pw_below_drewN | apply below_drew1) | exact HB.out))) : w.heap.size ≤ gb209)); have n3_ := Aside0.mk ((by rw [hg]; exact (below_size (by repeat (first | (with_reducible first | exact HB.out | apply below_alloc | apply pw_below_drewN | apply below_drew1) | exact HB.out))) : w.heap.size ≤ gb209)); clear HB; have HB := n0_; have BK209 := n1_; have GW209 := n2_; have GE209 := n3_; clear n0_ n1_ n2_ n3_; clear hb hbox hg; have hcz13_0 : w12.cell? ⟨gb209, 0, none⟩ = some (.bool false) := (blk_cell BK209.out 0).trans rfl; have hcz13_1 : w12.cell? ⟨gb209, 1, none⟩ = some (.bool false) := (blk_cell BK209.out 1).trans rfl; have hcz13_2 : w12.cell? ⟨gb209, 2, none⟩ = some (.bool false) := (blk_cell BK209.out 2).trans rfl; have hcz13_3 : w12.cell? ⟨gb209, 3, none⟩ = some (.bool false) := (blk_cell BK209.out 3).trans rfl; have hcz13_4 : w12.cell? ⟨gb209, 4, none⟩ = some (.bool false) := (blk_cell BK209.out 4).trans rfl; have hcz13_5 : w12.cell? ⟨gb209, 5, none⟩ = some (.bool false) := (blk_cell BK209.out 5).trans rfl; have hcz13_6 : w12.cell? ⟨gb209, 6, none⟩ = some (.bool false) := (blk_cell BK209.out 6).trans rfl; have hcz13_7 : w12.cell? ⟨gb209, 7, none⟩ = some (.bool false) := (blk_cell BK209.out 7).trans rfl; have hcz13_8 : w12.cell? ⟨gb209, 8, none⟩ = some (.bool false) := (blk_cell BK209.out 8).trans rfl; have hcz13_9 : w12.cell? ⟨gb209, 9, none⟩ = some (.bool false) := (blk_cell BK209.out 9).trans rfl; have hcz13_10 : w12.cell? ⟨gb209, 10, none⟩ = some (.bool false) := (blk_cell BK209.out 10).trans rfl; have hcz13_11 : w12.cell? ⟨gb209, 11, none⟩ = some (.bool false) := (blk_cell BK209.out 11).trans rfl; have hcz13_12 : w12.cell? ⟨gb209, 12, none⟩ = some (.bool false) := (blk_cell BK209.out 12).trans rfl; have hcz13_13 : w12.cell? ⟨gb209, 13, none⟩ = some (.bool false) := (blk_cell BK209.out 13).trans rfl; have hcz13_14 : w12.cell? ⟨gb209, 14, none⟩ = some (.bool false) := (blk_cell BK209.out 14).trans rfl; have hcz13_15 : w12.cell? ⟨gb209, 15, none⟩ = some (.bool false) := (blk_cell BK209.out 15).trans rfl; have hcz13_16 : w12.cell? ⟨gb209, 16, none⟩ = some (.bool false) := (blk_cell BK209.out 16).trans rfl; have hcz13_17 : w12.cell? ⟨gb209, 17, none⟩ = some (.bool false) := (blk_cell BK209.out 17).trans rfl; have hfz13_0 := blk_frozen BK209.out 0; have hfz13_1 := blk_frozen BK209.out 1; have hfz13_2 := blk_frozen BK209.out 2; have hfz13_3 := blk_frozen BK209.out 3; have hfz13_4 := blk_frozen BK209.out 4; have hfz13_5 := blk_frozen BK209.out 5; have hfz13_6 := blk_frozen BK209.out 6; have hfz13_7 := blk_frozen BK209.out 7; have hfz13_8 := blk_frozen BK209.out 8; have hfz13_9 := blk_frozen BK209.out 9; have hfz13_10 := blk_frozen BK209.out 10; have hfz13_11 := blk_frozen BK209.out 11; have hfz13_12 := blk_frozen BK209.out 12; have hfz13_13 := blk_frozen BK209.out 13; have hfz13_14 := blk_frozen BK209.out 14; have hfz13_15 := blk_frozen BK209.out 15; have hfz13_16 := blk_frozen BK209.out 16; have hfz13_17 := blk_frozen BK209.out 17))
              go_ret
              exact ⟨by first | rfl | (simp [errW_none, errW_some] <;> rfl) | (simp [*, errW_none, errW_some] <;> rfl), by repeat (first | (with_reducible first | exact HB.out | apply below_alloc | apply pw_below_drewN | apply below_drew1 | refine below_set ?_ GE209.out) | exact HB.out)⟩
      · rw [if_neg c6] at H
        have c6b0 : (t193 == (decide (((wrap32 (a0 + a1)) % 4294967296) < ((a0) % 4294967296)))) = false := by simpa using c6
        (try (have c6b1 : decide (t193 = (decide (((wrap32 (a0 + a1)) % 4294967296) < ((a0) % 4294967296)))) = false := by simpa using c6))
        (try (have c6b2 : (t193 == (decide (((wrap32 (a0 + a1)) % 4294967296) < ((a0) % 4294967296)))) = false := by simpa using c6))
        (try (have c6b3 : ¬ (t193 = (decide (((wrap32 (a0 + a1)) % 4294967296) < ((a0) % 4294967296)))) := by simpa using c6))
        clear c6
        first
          | exact absurd (Option.some.inj H) (by rw [hr]; decide)
          | obtain rfl := Option.some.inj H
            clear hr
            go_enter Try.func3, Try.ntmps3
            go_wp2_with (first | ((with_reducible refine gate_callee (f := 9) rfl ?_); refine goesL_ (some 10) rfl rfl Try.func9 (by kernel_rfl) rfl #[.int .i32 a0, .int .i32 a1] rfl (by (try simp only [List.map_toArray, List.map_cons, List.map_nil]); first | done | rfl | (simp only [List.length_drop, List.length_take]; rfl)) ?_; (with_reducible refine (impl_AddFlags32.calls k a0 a1 t191 t192 t193 t194 t195 t196 t197 t198 t199 t200 t201 t202 t203 t204 t205 t206 t207 t208 _ A3.out).mono ?_); rintro e w14 ⟨rfl, hb⟩; refine ⟨_, rfl, ?_⟩; have n0_ := Aside0.mk (below_step (by repeat (first | (with_reducible first | exact HB.out | apply below_alloc | apply pw_below_drewN | apply below_drew1) | exact HB.out)) hb); clear HB; have HB := n0_; clear n0_; (try clear hb); (try clear hb2); (try clear hk); (try clear hi)) | ((with_reducible refine gate_dst (N := 5) rfl ?_); refine box_event ?hg (N := 5) ?hd (cs := #[.bool false, .bool false, .bool false, .bool false, .bool false, .bool false, .bool false, .bool false, .bool false, .bool false, .bool false, .bool false, .bool false, .bool false, .bool false, .bool false, .bool false, .bool false]) (t := 23) ?hr ?_; (case hd => rfl); (case hg => rfl); (case hr => first | (go_simp; done) | (go_simp; rfl)); intro gb209 hg w15 hbox hb; have n0_ := Aside0.mk (below_step (by repeat (first | (with_reducible first | exact HB.out | apply below_alloc | apply pw_below_drewN | apply below_drew1) | exact HB.out)) hb); have n1_ := Aside0.mk (hbox); have n2_ := Aside0.mk ((by rw [hg]; exact (below_size (by repeat (first | (with_reducible first | exact HB.out | apply below_alloc | apply pw_below_drewN | apply below_drew1) | exact HB.out))) : w.heap.size ≤ gb209)); have n3_ := Aside0.mk ((by rw [hg]; exact (below_size (by repeat (first | (with_reducible first | exact HB.out | apply below_alloc | apply pw_below_drewN | apply below_drew1) | exact HB.out))) : w.heap.size ≤ gb209)); clear HB; have HB := n0_; have BK209 := n1_; have GW209 := n2_; have GE209 := n3_; clear n0_ n1_ n2_ n3_; clear hb hbox hg; have hcz16_0 : w15.cell? ⟨gb209, 0, none⟩ = some (.bool false) := (blk_cell BK209.out 0).trans rfl; have hcz16_1 : w15.cell? ⟨gb209, 1, none⟩ = some (.bool false) := (blk_cell BK209.out 1).trans rfl; have hcz16_2 : w15.cell? ⟨gb209, 2, none⟩ = some (.bool false) := (blk_cell BK209.out 2).trans rfl; have hcz16_3 : w15.cell? ⟨gb209, 3, none⟩ = some (.bool false) := (blk_cell BK209.out 3).trans rfl; have hcz16_4 : w15.cell? ⟨gb209, 4, none⟩ = some (.bool false) := (blk_cell BK209.out 4).trans rfl; have hcz16_5 : w15.cell? ⟨gb209, 5, none⟩ = some (.bool false) := (blk_cell BK209.out 5).trans rfl; have hcz16_6 : w15.cell? ⟨gb209, 6, none⟩ = some (.bool false) := (blk_cell BK209.out 6).trans rfl; have hcz16_7 : w15.cell? ⟨gb209, 7, none⟩ = some (.bool false) := (blk_cell BK209.out 7).trans rfl; have hcz16_8 : w15.cell? ⟨gb209, 8, none⟩ = some (.bool false) := (blk_cell BK209.out 8).trans rfl; have hcz16_9 : w15.cell? ⟨gb209, 9, none⟩ = some (.bool false) := (blk_cell BK209.out 9).trans rfl; have hcz16_10 : w15.cell? ⟨gb209, 10, none⟩ = some (.bool false) := (blk_cell BK209.out 10).trans rfl; have hcz16_11 : w15.cell? ⟨gb209, 11, none⟩ = some (.bool false) := (blk_cell BK209.out 11).trans rfl; have hcz16_12 : w15.cell? ⟨gb209, 12, none⟩ = some (.bool false) := (blk_cell BK209.out 12).trans rfl; have hcz16_13 : w15.cell? ⟨gb209, 13, none⟩ = some (.bool false) := (blk_cell BK209.out 13).trans rfl; have hcz16_14 : w15.cell? ⟨gb209, 14, none⟩ = some (.bool false) := (blk_cell BK209.out 14).trans rfl; have hcz16_15 : w15.cell? ⟨gb209, 15, none⟩ = some (.bool false) := (blk_cell BK209.out 15).trans rfl; have hcz16_16 : w15.cell? ⟨gb209, 16, none⟩ = some (.bool false) := (blk_cell BK209.out 16).trans rfl; have hcz16_17 : w15.cell? ⟨gb209, 17, none⟩ = some (.bool false) := (blk_cell BK209.out 17).trans rfl; have hfz16_0 := blk_frozen BK209.out 0; have hfz16_1 := blk_frozen BK209.out 1; have hfz16_2 := blk_frozen BK209.out 2; have hfz16_3 := blk_frozen BK209.out 3; have hfz16_4 := blk_frozen BK209.out 4; have hfz16_5 := blk_frozen BK209.out 5; have hfz16_6 := blk_frozen BK209.out 6; have hfz16_7 := blk_frozen BK209.out 7; have hfz16_8 := blk_frozen BK209.out 8; have hfz16_9 := blk_frozen BK209.out 9; have hfz16_10 := blk_frozen BK209.out 10; have hfz16_11 := blk_frozen BK209.out 11; have hfz16_12 := blk_frozen BK209.out 12; have hfz16_13 := blk_frozen BK209.out 13; have hfz16_14 := blk_frozen BK209.out 14; have hfz16_15 := blk_frozen BK209.out 15; have hfz16_16 := blk_frozen BK209.out 16; have hfz16_17 := blk_frozen BK209.out 17))
            go_ret
            exact ⟨by first | rfl | (simp [errW_none, errW_some] <;> rfl) | (simp [*, errW_none, errW_some] <;> rfl), by repeat (first | (with_reducible first | exact HB.out | apply below_alloc | apply pw_below_drewN | apply below_drew1 | refine below_set ?_ GE209.out) | exact HB.out)⟩
    · rw [if_neg c5] at H
      have c5b0 : (t192 == ((wrap32 (a0 + a1)) == 0)) = false := by simpa using c5
      (try (have c5b1 : decide (t192 = ((wrap32 (a0 + a1)) == 0)) = false := by simpa using c5))
      (try (have c5b2 : (t192 == ((wrap32 (a0 + a1)) == 0)) = false := by simpa using c5))
      (try (have c5b3 : ¬ (t192 = ((wrap32 (a0 + a1)) == 0)) := by simpa using c5))
      clear c5
      first
        | exact absurd (Option.some.inj H) (by rw [hr]; decide)
        | obtain rfl := Option.some.inj H
          clear hr
          go_enter Try.func3, Try.ntmps3
          go_wp2_with (first | ((with_reducible refine gate_callee (f := 9) rfl ?_); refine goesL_ (some 10) rfl rfl Try.func9 (by kernel_rfl) rfl #[.int .i32 a0, .int .i32 a1] rfl (by (try simp only [List.map_toArray, List.map_cons, List.map_nil]); first | done | rfl | (simp only [List.length_drop, List.length_take]; rfl)) ?_; (with_reducible refine (impl_AddFlags32.calls k a0 a1 t191 t192 t193 t194 t195 t196 t197 t198 t199 t200 t201 t202 t203 t204 t205 t206 t207 t208 _ A3.out).mono ?_); rintro e w17 ⟨rfl, hb⟩; refine ⟨_, rfl, ?_⟩; have n0_ := Aside0.mk (below_step (by repeat (first | (with_reducible first | exact HB.out | apply below_alloc | apply pw_below_drewN | apply below_drew1) | exact HB.out)) hb); clear HB; have HB := n0_; clear n0_; (try clear hb); (try clear hb2); (try clear hk); (try clear hi)) | ((with_reducible refine gate_dst (N := 5) rfl ?_); refine box_event ?hg (N := 5) ?hd (cs := #[.bool false, .bool false, .bool false, .bool false, .bool false, .bool false, .bool false, .bool false, .bool false, .bool false, .bool false, .bool false, .bool false, .bool false, .bool false, .bool false, .bool false, .bool false]) (t := 23) ?hr ?_; (case hd => rfl); (case hg => rfl); (case hr => first | (go_simp; done) | (go_simp; rfl)); intro gb209 hg w18 hbox hb; have n0_ := Aside0.mk (below_step (by repeat (first | (with_reducible first | exact HB.out | apply below_alloc | apply pw_below_drewN | apply below_drew1) | exact HB.out)) hb); have n1_ := Aside0.mk (hbox); have n2_ := Aside0.mk ((by rw [hg]; exact (below_size (by repeat (first | (with_reducible first | exact HB.out | apply below_alloc | apply pw_below_drewN | apply below_drew1) | exact HB.out))) : w.heap.size ≤ gb209)); have n3_ := Aside0.mk ((by rw [hg]; exact (below_size (by repeat (first | (with_reducible first | exact HB.out | apply below_alloc | apply pw_below_drewN | apply below_drew1) | exact HB.out))) : w.heap.size ≤ gb209)); clear HB; have HB := n0_; have BK209 := n1_; have GW209 := n2_; have GE209 := n3_; clear n0_ n1_ n2_ n3_; clear hb hbox hg; have hcz19_0 : w18.cell? ⟨gb209, 0, none⟩ = some (.bool false) := (blk_cell BK209.out 0).trans rfl; have hcz19_1 : w18.cell? ⟨gb209, 1, none⟩ = some (.bool false) := (blk_cell BK209.out 1).trans rfl; have hcz19_2 : w18.cell? ⟨gb209, 2, none⟩ = some (.bool false) := (blk_cell BK209.out 2).trans rfl; have hcz19_3 : w18.cell? ⟨gb209, 3, none⟩ = some (.bool false) := (blk_cell BK209.out 3).trans rfl; have hcz19_4 : w18.cell? ⟨gb209, 4, none⟩ = some (.bool false) := (blk_cell BK209.out 4).trans rfl; have hcz19_5 : w18.cell? ⟨gb209, 5, none⟩ = some (.bool false) := (blk_cell BK209.out 5).trans rfl; have hcz19_6 : w18.cell? ⟨gb209, 6, none⟩ = some (.bool false) := (blk_cell BK209.out 6).trans rfl; have hcz19_7 : w18.cell? ⟨gb209, 7, none⟩ = some (.bool false) := (blk_cell BK209.out 7).trans rfl; have hcz19_8 : w18.cell? ⟨gb209, 8, none⟩ = some (.bool false) := (blk_cell BK209.out 8).trans rfl; have hcz19_9 : w18.cell? ⟨gb209, 9, none⟩ = some (.bool false) := (blk_cell BK209.out 9).trans rfl; have hcz19_10 : w18.cell? ⟨gb209, 10, none⟩ = some (.bool false) := (blk_cell BK209.out 10).trans rfl; have hcz19_11 : w18.cell? ⟨gb209, 11, none⟩ = some (.bool false) := (blk_cell BK209.out 11).trans rfl; have hcz19_12 : w18.cell? ⟨gb209, 12, none⟩ = some (.bool false) := (blk_cell BK209.out 12).trans rfl; have hcz19_13 : w18.cell? ⟨gb209, 13, none⟩ = some (.bool false) := (blk_cell BK209.out 13).trans rfl; have hcz19_14 : w18.cell? ⟨gb209, 14, none⟩ = some (.bool false) := (blk_cell BK209.out 14).trans rfl; have hcz19_15 : w18.cell? ⟨gb209, 15, none⟩ = some (.bool false) := (blk_cell BK209.out 15).trans rfl; have hcz19_16 : w18.cell? ⟨gb209, 16, none⟩ = some (.bool false) := (blk_cell BK209.out 16).trans rfl; have hcz19_17 : w18.cell? ⟨gb209, 17, none⟩ = some (.bool false) := (blk_cell BK209.out 17).trans rfl; have hfz19_0 := blk_frozen BK209.out 0; have hfz19_1 := blk_frozen BK209.out 1; have hfz19_2 := blk_frozen BK209.out 2; have hfz19_3 := blk_frozen BK209.out 3; have hfz19_4 := blk_frozen BK209.out 4; have hfz19_5 := blk_frozen BK209.out 5; have hfz19_6 := blk_frozen BK209.out 6; have hfz19_7 := blk_frozen BK209.out 7; have hfz19_8 := blk_frozen BK209.out 8; have hfz19_9 := blk_frozen BK209.out 9; have hfz19_10 := blk_frozen BK209.out 10; have hfz19_11 := blk_frozen BK209.out 11; have hfz19_12 := blk_frozen BK209.out 12; have hfz19_13 := blk_frozen BK209.out 13; have hfz19_14 := blk_frozen BK209.out 14; have hfz19_15 := blk_frozen BK209.out 15; have hfz19_16 := blk_frozen BK209.out 16; have hfz19_17 := blk_frozen BK209.out 17))
          go_ret
          exact ⟨by first | rfl | (simp [errW_none, errW_some] <;> rfl) | (simp [*, errW_none, errW_some] <;> rfl), by repeat (first | (with_reducible first | exact HB.out | apply below_alloc | apply pw_below_drewN | apply below_drew1 | refine below_set ?_ GE209.out) | exact HB.out)⟩
  · rw [if_neg c4] at H
    have c4b0 : (t191 == (decide ((wrap32 (a0 + a1)) < 0))) = false := by simpa using c4
    (try (have c4b1 : decide (t191 = (decide ((wrap32 (a0 + a1)) < 0))) = false := by simpa using c4))
    (try (have c4b2 : (t191 == (decide ((wrap32 (a0 + a1)) < 0))) = false := by simpa using c4))
    (try (have c4b3 : ¬ (t191 = (decide ((wrap32 (a0 + a1)) < 0))) := by simpa using c4))
    clear c4
    first
      | exact absurd (Option.some.inj H) (by rw [hr]; decide)
      | obtain rfl := Option.some.inj H
        clear hr
        go_enter Try.func3, Try.ntmps3
        go_wp2_with (first | ((with_reducible refine gate_callee (f := 9) rfl ?_); refine goesL_ (some 10) rfl rfl Try.func9 (by kernel_rfl) rfl #[.int .i32 a0, .int .i32 a1] rfl (by (try simp only [List.map_toArray, List.map_cons, List.map_nil]); first | done | rfl | (simp only [List.length_drop, List.length_take]; rfl)) ?_; (with_reducible refine (impl_AddFlags32.calls k a0 a1 t191 t192 t193 t194 t195 t196 t197 t198 t199 t200 t201 t202 t203 t204 t205 t206 t207 t208 _ A3.out).mono ?_); rintro e w20 ⟨rfl, hb⟩; refine ⟨_, rfl, ?_⟩; have n0_ := Aside0.mk (below_step (by repeat (first | (with_reducible first | exact HB.out | apply below_alloc | apply pw_below_drewN | apply below_drew1) | exact HB.out)) hb); clear HB; have HB := n0_; clear n0_; (try clear hb); (try clear hb2); (try clear hk); (try clear hi)) | ((with_reducible refine gate_dst (N := 5) rfl ?_); refine box_event ?hg (N := 5) ?hd (cs := #[.bool false, .bool false, .bool false, .bool false, .bool false, .bool false, .bool false, .bool false, .bool false, .bool false, .bool false, .bool false, .bool false, .bool false, .bool false, .bool false, .bool false, .bool false]) (t := 23) ?hr ?_; (case hd => rfl); (case hg => rfl); (case hr => first | (go_simp; done) | (go_simp; rfl)); intro gb209 hg w21 hbox hb; have n0_ := Aside0.mk (below_step (by repeat (first | (with_reducible first | exact HB.out | apply below_alloc | apply pw_below_drewN | apply below_drew1) | exact HB.out)) hb); have n1_ := Aside0.mk (hbox); have n2_ := Aside0.mk ((by rw [hg]; exact (below_size (by repeat (first | (with_reducible first | exact HB.out | apply below_alloc | apply pw_below_drewN | apply below_drew1) | exact HB.out))) : w.heap.size ≤ gb209)); have n3_ := Aside0.mk ((by rw [hg]; exact (below_size (by repeat (first | (with_reducible first | exact HB.out | apply below_alloc | apply pw_below_drewN | apply below_drew1) | exact HB.out))) : w.heap.size ≤ gb209)); clear HB; have HB := n0_; have BK209 := n1_; have GW209 := n2_; have GE209 := n3_; clear n0_ n1_ n2_ n3_; clear hb hbox hg; have hcz22_0 : w21.cell? ⟨gb209, 0, none⟩ = some (.bool false) := (blk_cell BK209.out 0).trans rfl; have hcz22_1 : w21.cell? ⟨gb209, 1, none⟩ = some (.bool false) := (blk_cell BK209.out 1).trans rfl; have hcz22_2 : w21.cell? ⟨gb209, 2, none⟩ = some (.bool false) := (blk_cell BK209.out 2).trans rfl; have hcz22_3 : w21.cell? ⟨gb209, 3, none⟩ = some (.bool false) := (blk_cell BK209.out 3).trans rfl; have hcz22_4 : w21.cell? ⟨gb209, 4, none⟩ = some (.bool false) := (blk_cell BK209.out 4).trans rfl; have hcz22_5 : w21.cell? ⟨gb209, 5, none⟩ = some (.bool false) := (blk_cell BK209.out 5).trans rfl; have hcz22_6 : w21.cell? ⟨gb209, 6, none⟩ = some (.bool false) := (blk_cell BK209.out 6).trans rfl; have hcz22_7 : w21.cell? ⟨gb209, 7, none⟩ = some (.bool false) := (blk_cell BK209.out 7).trans rfl; have hcz22_8 : w21.cell? ⟨gb209, 8, none⟩ = some (.bool false) := (blk_cell BK209.out 8).trans rfl; have hcz22_9 : w21.cell? ⟨gb209, 9, none⟩ = some (.bool false) := (blk_cell BK209.out 9).trans rfl; have hcz22_10 : w21.cell? ⟨gb209, 10, none⟩ = some (.bool false) := (blk_cell BK209.out 10).trans rfl; have hcz22_11 : w21.cell? ⟨gb209, 11, none⟩ = some (.bool false) := (blk_cell BK209.out 11).trans rfl; have hcz22_12 : w21.cell? ⟨gb209, 12, none⟩ = some (.bool false) := (blk_cell BK209.out 12).trans rfl; have hcz22_13 : w21.cell? ⟨gb209, 13, none⟩ = some (.bool false) := (blk_cell BK209.out 13).trans rfl; have hcz22_14 : w21.cell? ⟨gb209, 14, none⟩ = some (.bool false) := (blk_cell BK209.out 14).trans rfl; have hcz22_15 : w21.cell? ⟨gb209, 15, none⟩ = some (.bool false) := (blk_cell BK209.out 15).trans rfl; have hcz22_16 : w21.cell? ⟨gb209, 16, none⟩ = some (.bool false) := (blk_cell BK209.out 16).trans rfl; have hcz22_17 : w21.cell? ⟨gb209, 17, none⟩ = some (.bool false) := (blk_cell BK209.out 17).trans rfl; have hfz22_0 := blk_frozen BK209.out 0; have hfz22_1 := blk_frozen BK209.out 1; have hfz22_2 := blk_frozen BK209.out 2; have hfz22_3 := blk_frozen BK209.out 3; have hfz22_4 := blk_frozen BK209.out 4; have hfz22_5 := blk_frozen BK209.out 5; have hfz22_6 := blk_frozen BK209.out 6; have hfz22_7 := blk_frozen BK209.out 7; have hfz22_8 := blk_frozen BK209.out 8; have hfz22_9 := blk_frozen BK209.out 9; have hfz22_10 := blk_frozen BK209.out 10; have hfz22_11 := blk_frozen BK209.out 11; have hfz22_12 := blk_frozen BK209.out 12; have hfz22_13 := blk_frozen BK209.out 13; have hfz22_14 := blk_frozen BK209.out 14; have hfz22_15 := blk_frozen BK209.out 15; have hfz22_16 := blk_frozen BK209.out 16; have hfz22_17 := blk_frozen BK209.out 17))
        go_ret
        exact ⟨by first | rfl | (simp [errW_none, errW_some] <;> rfl) | (simp [*, errW_none, errW_some] <;> rfl), by repeat (first | (with_reducible first | exact HB.out | apply below_alloc | apply pw_below_drewN | apply below_drew1 | refine below_set ?_ GE209.out) | exact HB.out)⟩

/-- THE ONE PURE STATEMENT of laws_FnAddBits32: yours. -/
def laws_FnAddBits32.Pure : Prop := ∀ (a0 : Int) (a1 : Int), (Lit.int .i32 a0).wf = true → (Lit.int .i32 a1).wf = true → ∃ k, laws_FnAddBits32.f k a0 a1 = some true
theorem laws_FnAddBits32.walk (P : laws_FnAddBits32.Pure) (a0 : Int) (a1 : Int) (w : World) (w0 : (Lit.int .i32 a0).wf = true) (w1 : (Lit.int .i32 a1).wf = true) :
    Calls Try.prog 3 #[.int .i32 a0, .int .i32 a1] w fun e w' => e = .returned (.bool true) ∧ Below w.heap.size w w' := by
  obtain ⟨k, h⟩ := P a0 a1 w0 w1
  refine (laws_FnAddBits32.calls k a0 a1 true w h rfl).mono ?_
  rintro e w' ⟨rfl, hd⟩
  exact ⟨rfl, hd⟩

end Go.Proofs.Ytdlhgddagnikdaa.PFnAddBits32
