/- impl.Build by hand. -/
import Derived.Test.YtlgdibeklelfgaaHBd1
import Derived.Test.YtlgdibeklelfgaaHEv
import Derived.Test.YtlgdibeklelfgaaPAllxB
namespace Go.Proofs.Ytlgdibeklelfgaa.PAll
open Go.RowKit Go.Proofs.YtlgdibeklelfgaaW.PrintWords Go.Proofs.YtlgdibeklelfgaaW.PrintLast Go.Proofs.YtlgdibeklelfgaaW.PrintMore
attribute [local go_sem] max2_int min2_int max_two min_two max_three min_three max_four min_four
set_option linter.unusedVariables false
set_option linter.unusedSimpArgs false
theorem out_l2 (l : List S53) (hl : l.length ≤ 8796093022207) : ∀ (k : Nat) (x : List S23) (i : Nat), i ≤ l.length → l.length - i < k → x.length = i → impl_out.l0 k x l (l.length : Int) (i : Int) = some (x ++ (l.drop i).map fun s => s23 (i53 s)) := by
  intro k
  induction k with
  | zero => intro x i hi hk _; omega
  | succ k ih =>
    intro x i hi hk hx
    rw [impl_out.l0]
    by_cases h : i < l.length
    · rw [if_pos (by omega), if_pos (by omega), if_pos (by omega), rd53_get2 l i h]
      simp only [intervals_Interval_Bounds.f, Option.bind_some]
      rw [if_pos (by omega), IntWalk.wrap64_in _ (by omega), show ((i : Int) + 1) = ((i + 1 : Nat) : Int) by omega, ih _ (i + 1) (by omega) (by omega) (by simp; omega)]
      rw [List.drop_eq_getElem_cons h, List.map_cons, List.append_assoc]
      rfl
    · rw [if_neg (by omega), List.drop_eq_nil_of_le (by omega), List.map_nil, List.append_nil]
theorem out_f2 (l : List S53) (hl : l.length ≤ 8796093022207) (k : Nat) (hk : l.length < k) : impl_out.f k l = some (l.map fun s => s23 (i53 s)) := by
  have := out_l2 l hl k [] 0 (by omega) (by omega) rfl
  rw [List.drop_zero, List.nil_append] at this
  exact this

theorem istOf {w : World} {g t : Nat} {c : Array Value} (h : w.heap[g]? = some (.cells c t (0, 0))) : IsT w g t := ⟨c, h⟩
section
variable {B cb : Nat} {R : List S53} {x : Int} {w w' : World}
theorem BSt.below (h : BSt B cb R x w) (hb : Below w.heap.size w w') : BSt B cb R x w' := by
  obtain ⟨v, h1, h2⟩ := h
  exact ⟨v, blk_below h1 hb, RV.below h2 hb⟩
theorem BSt.drewN (h : BSt B cb R x w) (n : Nat) : BSt B cb R x (w.drewN n) := by
  obtain ⟨v, h1, h2⟩ := h
  exact ⟨v, blk_drewN h1 n, RV.drewN h2 n⟩
theorem BSt.drew (h : BSt B cb R x w) : BSt B cb R x w.drew := by
  obtain ⟨v, h1, h2⟩ := h
  exact ⟨v, blk_drew h1, RV.drew h2⟩
theorem BSt.alloc (h : BSt B cb R x w) (o : Obj) : BSt B cb R x (w.alloc o) := by
  obtain ⟨v, h1, h2⟩ := h
  exact ⟨v, blk_alloc h1 o, RV.alloc h2 o⟩
theorem BSt.set47 {g j : Nat} {u : Value} (hT : IsT w g 47) (h : BSt B cb R x w) : BSt B cb R x (w.setCell ⟨g, j, none⟩ u) := by
  obtain ⟨v, h1, h2⟩ := h
  exact ⟨v, blk_far h1 (IsT.ne (g := cb) ⟨_, h1⟩ hT (by decide)) u, RV.set (t := 47) (by decide) hT h2⟩
end
/-- What Build hands back. -/
def BuildPost (w : World) (F : List Iv.I) (e : Ending) (w' : World) : Prop := ∃ v, e = .returned (.tuple #[v, .bool true]) ∧ Kd.R k23 23 w' w.heap.size (fun _ => True) v (F.map s23) ∧ Below w.heap.size w w'
set_option maxHeartbeats 4000000 in
set_option maxRecDepth 100000 in
theorem build_c (A0 : Option Addr) (c0 : Nat) (l0 : List S47) (w : World) (hr0 : Kd.C k47 w A0 l0.length l0) (hev : evs (l0.map ev47) = true) :
    Calls Try.prog 28 #[.slice A0 l0.length c0] w (BuildPost w (Iv.lv none (l0.map ev47))) := by
  have hu47 := Try.underlying47
  have HB := Aside0.mk (Below.refl w.heap.size w)
  have HR0 := Aside0.mk hr0
  have HE := Aside0.mk hev
  have HL0 := Aside0.mk (show l0.length ≤ 1000000 by have := (evs_parts _ hev).1; rwa [List.length_map] at this)
  clear hr0 hev
  go_enter Try.func28, Try.ntmps28
  go_wp2_with (first | ((with_reducible refine gate_dst (N := 4) rfl ?_); refine box_event ?hg (N := 4) ?hd (cs := #[.slice none 0 0, .int .i64 0]) (t := 70) ?hr ?_; (case hd => rfl); (case hg => rfl); (case hr => first | (go_simp; done) | (go_simp; rfl)); intro cb hg w4 hbox hb; have n0_ := Aside0.mk (below_step (by repeat (first | (with_reducible first | exact HB.out | apply below_alloc | apply pw_below_drewN | apply below_drew1) | exact HB.out)) hb); have n1_ := Aside0.mk (hbox); have n2_ := Aside0.mk ((by rw [hg]; exact (below_size (by repeat (first | (with_reducible first | exact HB.out | apply below_alloc | apply pw_below_drewN | apply below_drew1) | exact HB.out))) : w.heap.size ≤ cb)); clear HB; have HB := n0_; have BKcb := n1_; have GEcb := n2_; clear n0_ n1_ n2_; clear hb hbox hg; have hczw4cb_0 : w4.cell? ⟨cb, 0, none⟩ = some (.slice none 0 0) := (blk_cell BKcb.out 0).trans rfl; have hfzw4cb_0 := blk_frozen BKcb.out 0; have hczw4cb_1 : w4.cell? ⟨cb, 1, none⟩ = some (.int .i64 0) := (blk_cell BKcb.out 1).trans rfl; have hfzw4cb_1 := blk_frozen BKcb.out 1))
  have HS0 := Aside0.mk (show BSt w.heap.size cb [] 0 w4 from ⟨_, BKcb.out, RV.nil _ _⟩)
  clear BKcb hczw4cb_0 hfzw4cb_0 hczw4cb_1 hfzw4cb_1
  go_loopg [12] (l0.length + 1) (fun kq v12 wq => ∃ (i : Nat) (R : List S53) (x : Int), v12 = .int .i64 (i : Int) ∧ Aside0 (i ≤ l0.length ∧ l0.length - i < kq) ∧ Aside0 (stAt (l0.map ev47) i = (R.map i53, x)) ∧ Aside0 (BSt w.heap.size cb R x wq) ∧ Aside0 (Below w.heap.size w wq))
  case atStart => exact ⟨0, [], 0, rfl, ⟨Nat.zero_le _, by omega⟩, ⟨rfl⟩, HS0, ⟨by repeat (first | (with_reducible first | exact HB.out | apply below_alloc | apply pw_below_drewN | apply below_drew1 | refine below_set ?_ GEcb.out) | exact HB.out)⟩⟩
  case round =>
    clear HS0 HB
    obtain ⟨i, R, x, rfl, HI, HST, HS, HB⟩ := hrel
    cases gk with
    | zero => exact absurd HI.out.2 (by omega)
    | succ k1 =>
      by_cases hlt : i < l0.length
      rotate_left
      · have hi : i = l0.length := by have := HI.out; omega
        have HF := Aside0.mk (built (l0.map ev47) HE.out R x (by rw [List.length_map, ← hi]; exact HST.out))
        have d1 : decide ((i : Int) < (l0.length : Int)) = false := decide_eq_false (by omega)
        have d2 : decide (i < l0.length) = false := decide_eq_false (by omega)
        clear hlt hi
        have HN := Aside0.mk (show R.reverse.length ≤ 8796093022207 by rw [List.length_reverse]; have := HF.out.2.2; omega)
        have HO := Aside0.mk (out_f2 R.reverse HN.out (R.reverse.length + 1) (by omega))
        have HEQ : Aside0 ((R.reverse.map fun s => s23 (i53 s)) = (Iv.lv none (l0.map ev47)).map s23) := ⟨by rw [← HF.out.1, List.map_map]; rfl⟩
        have HG := Aside0.mk (And.intro (show R.length ≤ 4294967296 by have := HF.out.2.2; omega) HF.out.2.1)
        generalize hRR : R.reverse = RR at HN HO HEQ HG
        clear HF
        go_wp2_with (fail)
        go_at_call 44
        (with_reducible refine (finish_c R x cb w _ HB.out GEcb.out HS.out HG.out.1 (by rw [hRR]; exact HG.out.2)).mono ?_)
        rintro e wf ⟨v, rfl, hR, bel⟩
        rw [hRR] at hR
        obtain ⟨B2, d2', rfl, hd2, hC2⟩ := Kd.R_reads hR
        have HX := Aside0.mk hC2
        have HD := Aside0.mk hd2
        clear HB hR hC2 hd2 hRR
        have HB := Aside0.mk bel
        clear bel
        go_wp2_with (fail)
        go_at_call 38
        (with_reducible refine (impl_out.calls (RR.length + 1) B2 d2' RR _ _ HX.out HD.out HO.out).mono ?_)
        rintro e wo ⟨v4, rfl, hR, bel⟩
        have HR4 := Aside0.mk hR
        have n0_ := Aside0.mk (below_step HB.out bel)
        have HSZ := Aside0.mk HB.out.size
        clear HB hR
        have HB := n0_
        clear n0_ bel
        go_wp2_with (fail)
        refine bodyPost_ret (results_list (rs := [.tmp 2, .tmp 3]) rfl (by simp) (.tmp (.tmp .nil))) rfl ?_
        exact ⟨_, by first | rfl | (simp; done), by rw [← HEQ.out]; exact Kd.R_lower HR4.out HSZ.out, HB.out⟩
      · have d1 : decide ((i : Int) < (l0.length : Int)) = true := decide_eq_true (by omega)
        have d2 : decide (i < l0.length) = true := decide_eq_true (by omega)
        have hln := HL0.out
        have i1 : (i : Int) ≤ 1000000 := by omega
        have i0 : (0 : Int) ≤ (i : Int) := by omega
        have q1 : (i : Int) < (l0.length : Int) := by omega
        obtain ⟨ad1, e1, hx1, hy1⟩ := at_T47 HR0.out (i : Int) i0 q1
        cases e1
        simp only [Int.toNat_natCast] at hx1 hy1
        have hel : (l0.map ev47)[i]'(by rw [List.length_map]; exact hlt) = ((rd_T47 l0 (i : Int)).f0, (rd_T47 l0 (i : Int)).f1) := by
          rw [List.getElem_map]
          simp [rd_T47, List.getD, hlt, ev47]
        obtain ⟨hp, hRl, hcase⟩ := ev_step (l0.map ev47) HE.out i (by rw [List.length_map]; exact hlt) R x HST.out _ _ hel
        have HI2 := Aside0.mk (show i + 1 ≤ l0.length ∧ l0.length - (i + 1) < k1 by have := HI.out; omega)
        have HP := Aside0.mk hp
        have HRL := Aside0.mk hRl
        generalize (rd_T47 l0 (i : Int)).f0 = p at hx1 hy1 hel hcase HP
        generalize (rd_T47 l0 (i : Int)).f1 = b at hx1 hy1 hel hcase
        have q0 := eq_true i0
        have q2 := eq_true q1
        replace hx1 := (HB.out.cell (World.block_lt_of_cell? _ _ hx1)).trans hx1
        replace hy1 := (HB.out.cell (World.block_lt_of_cell? _ _ hy1)).trans hy1
        clear hlt hln i0 q1 hel hp hRl HI HST
        cases b with
        | true =>
          rcases hcase with ⟨hx, hn⟩ | ⟨R1, t1, hR, hx0, hx1', hx2, hn⟩
          · subst hx
            have HST := Aside0.mk hn
            clear hn
            go_wp2_with (first | ((with_reducible refine gate_dst (N := 6) rfl ?_); refine box_event ?hg (N := 6) ?hd (cs := #[.int .i64 0, .bool false]) (t := 47) ?hr ?_; (case hd => rfl); (case hg => rfl); (case hr => first | (go_simp; done) | (go_simp; rfl)); intro g6 hg w6 hbox hb; have xHS_ := Aside0.mk (BSt.below (B := w.heap.size) (cb := cb) (R := R) (x := 0) (by repeat (first | exact HS.out | with_reducible apply BSt.drewN | with_reducible apply BSt.drew | with_reducible apply BSt.alloc | ((with_reducible refine BSt.set47 ?_ ?_); focus repeat (first | exact istOf BKg6.out | with_reducible apply IsT.set | with_reducible apply IsT.drewN | with_reducible apply IsT.drew | with_reducible apply IsT.alloc)))) hb); have n0_ := Aside0.mk (below_step (by repeat (first | (with_reducible first | exact HB.out | apply below_alloc | apply pw_below_drewN | apply below_drew1) | exact HB.out)) hb); have n1_ := Aside0.mk (hbox); have n2_ := Aside0.mk ((by rw [hg]; exact (below_size (by repeat (first | (with_reducible first | exact HB.out | apply below_alloc | apply pw_below_drewN | apply below_drew1) | exact HB.out))) : w.heap.size ≤ g6)); clear HB; have HB := n0_; have BKg6 := n1_; have GEg6 := n2_; clear n0_ n1_ n2_; clear hb hbox hg; clear HS; have HS := xHS_; clear xHS_; have hczw6g6_0 : w6.cell? ⟨g6, 0, none⟩ = some (.int .i64 0) := (blk_cell BKg6.out 0).trans rfl; have hfzw6g6_0 := blk_frozen BKg6.out 0; have hczw6g6_1 : w6.cell? ⟨g6, 1, none⟩ = some (.bool false) := (blk_cell BKg6.out 1).trans rfl; have hfzw6g6_1 := blk_frozen BKg6.out 1) | (go_at_call 42; (with_reducible refine (kill0 R p cb w _ (by repeat (first | (with_reducible first | exact HB.out | apply below_alloc | apply pw_below_drewN | apply below_drew1 | refine below_set ?_ GEcb.out | refine below_set ?_ GEg6.out) | exact HB.out)) GEcb.out (by repeat (first | exact HS.out | with_reducible apply BSt.drewN | with_reducible apply BSt.drew | with_reducible apply BSt.alloc | ((with_reducible refine BSt.set47 ?_ ?_); focus repeat (first | exact istOf BKg6.out | with_reducible apply IsT.set | with_reducible apply IsT.drewN | with_reducible apply IsT.drew | with_reducible apply IsT.alloc)))) HP.out.1 HP.out.2).mono ?_); rintro e wk ⟨rfl, hS2, bel⟩; clear HB HS BKg6; have HB := Aside0.mk bel; have HS := Aside0.mk hS2; clear bel hS2))
            go_roundg k1
            case measure => omega
            case rel => exact ⟨i + 1, _, _, by go_num, HI2, HST, HS, HB⟩
          · subst hR
            have HST := Aside0.mk hn
            have HX := Aside0.mk (And.intro hx0 (And.intro hx1' hx2))
            clear hn hx0 hx1' hx2
            go_wp2_with (first | ((with_reducible refine gate_dst (N := 6) rfl ?_); refine box_event ?hg (N := 6) ?hd (cs := #[.int .i64 0, .bool false]) (t := 47) ?hr ?_; (case hd => rfl); (case hg => rfl); (case hr => first | (go_simp; done) | (go_simp; rfl)); intro g6 hg w6 hbox hb; have xHS_ := Aside0.mk (BSt.below (B := w.heap.size) (cb := cb) (R := (R1 ++ [t1])) (x := x) (by repeat (first | exact HS.out | with_reducible apply BSt.drewN | with_reducible apply BSt.drew | with_reducible apply BSt.alloc | ((with_reducible refine BSt.set47 ?_ ?_); focus repeat (first | exact istOf BKg6.out | with_reducible apply IsT.set | with_reducible apply IsT.drewN | with_reducible apply IsT.drew | with_reducible apply IsT.alloc)))) hb); have n0_ := Aside0.mk (below_step (by repeat (first | (with_reducible first | exact HB.out | apply below_alloc | apply pw_below_drewN | apply below_drew1) | exact HB.out)) hb); have n1_ := Aside0.mk (hbox); have n2_ := Aside0.mk ((by rw [hg]; exact (below_size (by repeat (first | (with_reducible first | exact HB.out | apply below_alloc | apply pw_below_drewN | apply below_drew1) | exact HB.out))) : w.heap.size ≤ g6)); clear HB; have HB := n0_; have BKg6 := n1_; have GEg6 := n2_; clear n0_ n1_ n2_; clear hb hbox hg; clear HS; have HS := xHS_; clear xHS_; have hczw6g6_0 : w6.cell? ⟨g6, 0, none⟩ = some (.int .i64 0) := (blk_cell BKg6.out 0).trans rfl; have hfzw6g6_0 := blk_frozen BKg6.out 0; have hczw6g6_1 : w6.cell? ⟨g6, 1, none⟩ = some (.bool false) := (blk_cell BKg6.out 1).trans rfl; have hfzw6g6_1 := blk_frozen BKg6.out 1) | (go_at_call 42; (with_reducible refine (kill1 R1 t1 x p cb w _ (by repeat (first | (with_reducible first | exact HB.out | apply below_alloc | apply pw_below_drewN | apply below_drew1 | refine below_set ?_ GEcb.out | refine below_set ?_ GEg6.out) | exact HB.out)) GEcb.out (by repeat (first | exact HS.out | with_reducible apply BSt.drewN | with_reducible apply BSt.drew | with_reducible apply BSt.alloc | ((with_reducible refine BSt.set47 ?_ ?_); focus repeat (first | exact istOf BKg6.out | with_reducible apply IsT.set | with_reducible apply IsT.drewN | with_reducible apply IsT.drew | with_reducible apply IsT.alloc)))) HP.out.1 HP.out.2 (by have := HRL.out; rw [List.length_append] at this; omega) HX.out.1 HX.out.2.1 HX.out.2.2).mono ?_); rintro e wk ⟨rfl, hS2, bel⟩; clear HB HS BKg6; have HB := Aside0.mk bel; have HS := Aside0.mk hS2; clear bel hS2))
            go_roundg k1
            case measure => omega
            case rel => exact ⟨i + 1, _, _, by go_num, HI2, HST, HS, HB⟩
        | false =>
          rcases hcase with ⟨hx, hn⟩ | ⟨R1, t1, hR, hx0, hx1', hx2, hn⟩
          · subst hx
            have HST := Aside0.mk hn
            clear hn
            go_wp2_with (first | ((with_reducible refine gate_dst (N := 6) rfl ?_); refine box_event ?hg (N := 6) ?hd (cs := #[.int .i64 0, .bool false]) (t := 47) ?hr ?_; (case hd => rfl); (case hg => rfl); (case hr => first | (go_simp; done) | (go_simp; rfl)); intro g6 hg w6 hbox hb; have xHS_ := Aside0.mk (BSt.below (B := w.heap.size) (cb := cb) (R := R) (x := 0) (by repeat (first | exact HS.out | with_reducible apply BSt.drewN | with_reducible apply BSt.drew | with_reducible apply BSt.alloc | ((with_reducible refine BSt.set47 ?_ ?_); focus repeat (first | exact istOf BKg6.out | with_reducible apply IsT.set | with_reducible apply IsT.drewN | with_reducible apply IsT.drew | with_reducible apply IsT.alloc)))) hb); have n0_ := Aside0.mk (below_step (by repeat (first | (with_reducible first | exact HB.out | apply below_alloc | apply pw_below_drewN | apply below_drew1) | exact HB.out)) hb); have n1_ := Aside0.mk (hbox); have n2_ := Aside0.mk ((by rw [hg]; exact (below_size (by repeat (first | (with_reducible first | exact HB.out | apply below_alloc | apply pw_below_drewN | apply below_drew1) | exact HB.out))) : w.heap.size ≤ g6)); clear HB; have HB := n0_; have BKg6 := n1_; have GEg6 := n2_; clear n0_ n1_ n2_; clear hb hbox hg; clear HS; have HS := xHS_; clear xHS_; have hczw6g6_0 : w6.cell? ⟨g6, 0, none⟩ = some (.int .i64 0) := (blk_cell BKg6.out 0).trans rfl; have hfzw6g6_0 := blk_frozen BKg6.out 0; have hczw6g6_1 : w6.cell? ⟨g6, 1, none⟩ = some (.bool false) := (blk_cell BKg6.out 1).trans rfl; have hfzw6g6_1 := blk_frozen BKg6.out 1) | (go_at_call 43; (with_reducible refine (live0 R p cb w _ (by repeat (first | (with_reducible first | exact HB.out | apply below_alloc | apply pw_below_drewN | apply below_drew1 | refine below_set ?_ GEcb.out | refine below_set ?_ GEg6.out) | exact HB.out)) GEcb.out (by repeat (first | exact HS.out | with_reducible apply BSt.drewN | with_reducible apply BSt.drew | with_reducible apply BSt.alloc | ((with_reducible refine BSt.set47 ?_ ?_); focus repeat (first | exact istOf BKg6.out | with_reducible apply IsT.set | with_reducible apply IsT.drewN | with_reducible apply IsT.drew | with_reducible apply IsT.alloc)))) HP.out.1 HP.out.2 (by have := HRL.out; omega)).mono ?_); rintro e wk ⟨rfl, hS2, bel⟩; clear HB HS BKg6; have HB := Aside0.mk bel; have HS := Aside0.mk hS2; clear bel hS2))
            go_roundg k1
            case measure => omega
            case rel => exact ⟨i + 1, _, _, by go_num, HI2, HST, HS, HB⟩
          · subst hR
            have HST := Aside0.mk hn
            have HX := Aside0.mk (And.intro hx0 (And.intro hx1' hx2))
            clear hn hx0 hx1' hx2
            go_wp2_with (first | ((with_reducible refine gate_dst (N := 6) rfl ?_); refine box_event ?hg (N := 6) ?hd (cs := #[.int .i64 0, .bool false]) (t := 47) ?hr ?_; (case hd => rfl); (case hg => rfl); (case hr => first | (go_simp; done) | (go_simp; rfl)); intro g6 hg w6 hbox hb; have xHS_ := Aside0.mk (BSt.below (B := w.heap.size) (cb := cb) (R := (R1 ++ [t1])) (x := x) (by repeat (first | exact HS.out | with_reducible apply BSt.drewN | with_reducible apply BSt.drew | with_reducible apply BSt.alloc | ((with_reducible refine BSt.set47 ?_ ?_); focus repeat (first | exact istOf BKg6.out | with_reducible apply IsT.set | with_reducible apply IsT.drewN | with_reducible apply IsT.drew | with_reducible apply IsT.alloc)))) hb); have n0_ := Aside0.mk (below_step (by repeat (first | (with_reducible first | exact HB.out | apply below_alloc | apply pw_below_drewN | apply below_drew1) | exact HB.out)) hb); have n1_ := Aside0.mk (hbox); have n2_ := Aside0.mk ((by rw [hg]; exact (below_size (by repeat (first | (with_reducible first | exact HB.out | apply below_alloc | apply pw_below_drewN | apply below_drew1) | exact HB.out))) : w.heap.size ≤ g6)); clear HB; have HB := n0_; have BKg6 := n1_; have GEg6 := n2_; clear n0_ n1_ n2_; clear hb hbox hg; clear HS; have HS := xHS_; clear xHS_; have hczw6g6_0 : w6.cell? ⟨g6, 0, none⟩ = some (.int .i64 0) := (blk_cell BKg6.out 0).trans rfl; have hfzw6g6_0 := blk_frozen BKg6.out 0; have hczw6g6_1 : w6.cell? ⟨g6, 1, none⟩ = some (.bool false) := (blk_cell BKg6.out 1).trans rfl; have hfzw6g6_1 := blk_frozen BKg6.out 1) | (go_at_call 43; (with_reducible refine (live1 R1 t1 x p cb w _ (by repeat (first | (with_reducible first | exact HB.out | apply below_alloc | apply pw_below_drewN | apply below_drew1 | refine below_set ?_ GEcb.out | refine below_set ?_ GEg6.out) | exact HB.out)) GEcb.out (by repeat (first | exact HS.out | with_reducible apply BSt.drewN | with_reducible apply BSt.drew | with_reducible apply BSt.alloc | ((with_reducible refine BSt.set47 ?_ ?_); focus repeat (first | exact istOf BKg6.out | with_reducible apply IsT.set | with_reducible apply IsT.drewN | with_reducible apply IsT.drew | with_reducible apply IsT.alloc)))) HP.out.1 HP.out.2 (by have := HRL.out; rw [List.length_append] at this; omega) HX.out.1 HX.out.2.1 HX.out.2.2).mono ?_); rintro e wk ⟨rfl, hS2, bel⟩; clear HB HS BKg6; have HB := Aside0.mk bel; have HS := Aside0.mk hS2; clear bel hS2))
            go_roundg k1
            case measure => omega
            case rel => exact ⟨i + 1, _, _, by go_num, HI2, HST, HS, HB⟩
theorem impl_Build.calls (A0 : Option Addr) (c0 : Nat) (l0 : List (S47)) (r1 : List (S23)) (r2 : Bool) (w : World) (hr0 : Kd.C k47 w A0 l0.length l0) (hc0 : l0.length ≤ c0) (h : impl_Build.f l0 = some (r1, r2)) :
    Calls Try.prog 28 #[.slice A0 l0.length c0] w fun e w' => ∃ v0_ : Value, e = .returned (.tuple #[v0_, .bool r2]) ∧ Kd.R k23 23 w' w.heap.size (fun _ => True) v0_ r1 ∧ Below w.heap.size w w' := by
  unfold impl_Build.f at h
  split at h
  · rename_i hev
    simp only [Option.some.injEq, Prod.mk.injEq] at h
    obtain ⟨rfl, rfl⟩ := h
    exact build_c A0 c0 l0 w hr0 hev
  · cases h
end Go.Proofs.Ytlgdibeklelfgaa.PAll
