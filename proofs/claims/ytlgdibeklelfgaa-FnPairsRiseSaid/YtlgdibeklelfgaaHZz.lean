/- ZZPairs by hand. -/
import Derived.Test.YtlgdibeklelfgaaHZw
import Derived.Test.YtlgdibeklelfgaaTf2
import Derived.Test.YtlgdibeklelfgaaPAllxA
namespace Go.Proofs.Ytlgdibeklelfgaa.PAll
open Go.RowKit Go.Proofs.YtlgdibeklelfgaaW.PrintWords Go.Proofs.YtlgdibeklelfgaaW.PrintLast Go.Proofs.YtlgdibeklelfgaaW.PrintMore
attribute [local go_sem] max2_int min2_int max_two min_two max_three min_three max_four min_four
set_option linter.unusedVariables false
set_option linter.unusedSimpArgs false
set_option maxHeartbeats 8000000 in
set_option maxRecDepth 100000 in
theorem zz_calls (A1 : Option Addr) (c1 : Nat) (l1 : List S53) (A2 : Option Addr) (c2 : Nat) (l2 : List S53) (r1 : List S53) (r2 : List Int) (L : List (Iv.I × Bool)) (w : World) (hr1 : Kd.C k53 w A1 l1.length l1) (hr2 : Kd.C k53 w A2 l2.length l2)
    (hn1 : l1.length ≤ 4294967296) (hn2 : l2.length ≤ 4294967296) (hL : Iv.walk (l1.map i53) (l2.map i53) = L) (hLn : L.length ≤ 8589934592) (hF1 : L.map (fun p => s53 p.1) = r1) (hF2 : L.map (fun p => if p.2 then 1 else 0) = r2) :
    Calls Try.prog 37 #[.slice A1 l1.length c1, .slice A2 l2.length c2] w fun e w' => ∃ v0_ v1_ : Value, e = .returned (.tuple #[v0_, v1_]) ∧ RV w.heap.size v0_ r1 w' ∧ RI w.heap.size v1_ r2 w' ∧ Below w.heap.size w w' := by
  have hu53 := Try.underlying53
  have hu80 := Try.underlying80
  have hu82 := Try.underlying82
  have HB := Aside0.mk (Below.refl w.heap.size w)
  have HR1 := Aside0.mk hr1
  have HR2 := Aside0.mk hr2
  have HL := Aside0.mk hL
  have HN1 := Aside0.mk hn1
  have HN2 := Aside0.mk hn2
  have HLN := Aside0.mk hLn
  have HF1 := Aside0.mk hF1
  have HF2 := Aside0.mk hF2
  clear hr1 hr2 hL hn1 hn2 hLn hF1 hF2
  go_enter Try.func37, Try.ntmps37
  go_wp2_with (first | ((with_reducible refine gate_dst (N := 6) rfl ?_); refine box_event ?hg (N := 6) ?hd (cs := #[.int .i64 0, .int .i64 0, .int .i64 0, .int .i64 0, .int .i64 0, .slice none 0 0, .slice none 0 0]) (t := 82) ?hr ?_; (case hd => rfl); (case hg => rfl); (case hr => first | (go_simp; done) | (go_simp; rfl)); intro pb hg w6 hbox hb; have n0_ := Aside0.mk (below_step (by repeat (first | (with_reducible first | exact HB.out | apply below_alloc | apply pw_below_drewN | apply below_drew1) | exact HB.out)) hb); have n1_ := Aside0.mk (hbox); have n2_ := Aside0.mk ((by rw [hg]; exact (below_size (by repeat (first | (with_reducible first | exact HB.out | apply below_alloc | apply pw_below_drewN | apply below_drew1) | exact HB.out))) : w.heap.size ≤ pb)); clear HB; have HB := n0_; have BKpb := n1_; have GEpb := n2_; clear n0_ n1_ n2_; clear hb hbox hg; have hczw6pb_0 : w6.cell? ⟨pb, 0, none⟩ = some (.int .i64 0) := (blk_cell BKpb.out 0).trans rfl; have hfzw6pb_0 := blk_frozen BKpb.out 0; have hczw6pb_1 : w6.cell? ⟨pb, 1, none⟩ = some (.int .i64 0) := (blk_cell BKpb.out 1).trans rfl; have hfzw6pb_1 := blk_frozen BKpb.out 1; have hczw6pb_2 : w6.cell? ⟨pb, 2, none⟩ = some (.int .i64 0) := (blk_cell BKpb.out 2).trans rfl; have hfzw6pb_2 := blk_frozen BKpb.out 2; have hczw6pb_3 : w6.cell? ⟨pb, 3, none⟩ = some (.int .i64 0) := (blk_cell BKpb.out 3).trans rfl; have hfzw6pb_3 := blk_frozen BKpb.out 3; have hczw6pb_4 : w6.cell? ⟨pb, 4, none⟩ = some (.int .i64 0) := (blk_cell BKpb.out 4).trans rfl; have hfzw6pb_4 := blk_frozen BKpb.out 4; have hczw6pb_5 : w6.cell? ⟨pb, 5, none⟩ = some (.slice none 0 0) := (blk_cell BKpb.out 5).trans rfl; have hfzw6pb_5 := blk_frozen BKpb.out 5; have hczw6pb_6 : w6.cell? ⟨pb, 6, none⟩ = some (.slice none 0 0) := (blk_cell BKpb.out 6).trans rfl; have hfzw6pb_6 := blk_frozen BKpb.out 6) | (go_at_call 52; (with_reducible refine (init_pv l1 l2 A1 A2 c1 c2 pb L w _ HR1.out HR2.out (by repeat (first | (with_reducible first | exact HB.out | apply below_alloc | apply pw_below_drewN | apply below_drew1 | refine below_set ?_ GEpb.out) | exact HB.out)) GEpb.out (by apply heap_is; (focus (repeat (first | with_reducible exact BKpb.out | with_reducible apply blk_drewN | with_reducible apply blk_drew | with_reducible apply blk_alloc | with_reducible apply blk_set | (with_reducible apply blk_aside; assumption)))); first | rfl | (simp; done)) HL.out).mono ?_); rintro e w5 ⟨rfl, hP, hO⟩; have HP := Aside0.mk hP; have n0_ := Aside0.mk (Only.below hO (by repeat (first | (with_reducible first | exact HB.out | apply below_alloc | apply pw_below_drewN | apply below_drew1 | refine below_set ?_ GEpb.out) | exact HB.out)) GEpb.out (below_size (by repeat (first | (with_reducible first | exact HB.out | apply below_alloc | apply pw_below_drewN | apply below_drew1 | refine below_set ?_ GEpb.out) | exact HB.out)))); clear HB; have HB := n0_; clear n0_ hP hO BKpb) | ((with_reducible refine gate_dst (N := 7) rfl ?_); refine box_event ?hg (N := 7) ?hd (cs := #[.int .i64 0, .int .i64 0, .int .i64 0]) (t := 80) ?hr ?_; (case hd => rfl); (case hg => rfl); (case hr => first | (go_simp; done) | (go_simp; rfl)); intro g7 hg w7 hbox hb; have qpb_ := Aside0.mk ((by rw [hg]; exact Nat.ne_of_lt (PV.lt (by repeat (first | with_reducible exact HP.out | with_reducible apply PV.drewN | with_reducible apply PV.drew | with_reducible apply PV.alloc | (with_reducible apply PV.far; assumption))))) : pb ≠ g7); have rpb_ := Aside0.mk ((by rw [hg]; exact Nat.ne_of_gt (PV.lt (by repeat (first | with_reducible exact HP.out | with_reducible apply PV.drewN | with_reducible apply PV.drew | with_reducible apply PV.alloc | (with_reducible apply PV.far; assumption))))) : g7 ≠ pb); have xHP_ := Aside0.mk (PV.below (by repeat (first | with_reducible exact HP.out | with_reducible apply PV.drewN | with_reducible apply PV.drew | with_reducible apply PV.alloc | (with_reducible apply PV.far; assumption))) hb); have n0_ := Aside0.mk (below_step (by repeat (first | (with_reducible first | exact HB.out | apply below_alloc | apply pw_below_drewN | apply below_drew1) | exact HB.out)) hb); have n1_ := Aside0.mk (hbox); have n2_ := Aside0.mk ((by rw [hg]; exact (below_size (by repeat (first | (with_reducible first | exact HB.out | apply below_alloc | apply pw_below_drewN | apply below_drew1) | exact HB.out))) : w.heap.size ≤ g7)); clear HB; have HB := n0_; have BKg7 := n1_; have GEg7 := n2_; clear n0_ n1_ n2_; clear hb hbox hg; clear HP; have HP := xHP_; clear xHP_; have NBpb_g7 := qpb_.out; have NBg7_pb := rpb_.out; clear qpb_ rpb_; have hczw7g7_0 : w7.cell? ⟨g7, 0, none⟩ = some (.int .i64 0) := (blk_cell BKg7.out 0).trans rfl; have hfzw7g7_0 := blk_frozen BKg7.out 0; have hczw7g7_1 : w7.cell? ⟨g7, 1, none⟩ = some (.int .i64 0) := (blk_cell BKg7.out 1).trans rfl; have hfzw7g7_1 := blk_frozen BKg7.out 1; have hczw7g7_2 : w7.cell? ⟨g7, 2, none⟩ = some (.int .i64 0) := (blk_cell BKg7.out 2).trans rfl; have hfzw7g7_2 := blk_frozen BKg7.out 2))
  go_loopg [4, 5, 7] (L.length + 1) (fun kq v4 v5 v7 wq => ∃ (g7 : Nat) (M : List (Iv.I × Bool)) (R : List S53) (I : List Int), v7 = .pointer (some ⟨g7, 0, none⟩) ∧ Aside0 (M.length < kq) ∧ Aside0 (R.length + M.length ≤ 8589934592 ∧ I.length = R.length) ∧ Aside0 (R ++ M.map (fun p => s53 p.1) = r1) ∧ Aside0 (I ++ M.map (fun p => if p.2 then 1 else 0) = r2) ∧ Aside0 (w.heap.size ≤ g7) ∧ Aside0 (St w l1 l2 A1 A2 c1 c2 pb M g7 #[.int .i64 (cur M).1, .int .i64 (cur M).2.1, .int .i64 (cur M).2.2] v4 R v5 I wq))
  case atStart => exact ⟨g7, L, [], [], rfl, ⟨by omega⟩, ⟨by simp only [List.length_nil]; have := HLN.out; omega, rfl⟩, ⟨HF1.out⟩, ⟨HF2.out⟩, ⟨GEg7.out⟩, ⟨(by repeat (first | with_reducible exact HP.out | with_reducible apply PV.drewN | with_reducible apply PV.drew | with_reducible apply PV.alloc | (with_reducible apply PV.far; assumption))), (by apply heap_is; (focus (repeat (first | with_reducible exact BKg7.out | with_reducible apply blk_drewN | with_reducible apply blk_drew | with_reducible apply blk_alloc | with_reducible apply blk_set | (with_reducible apply blk_aside; assumption)))); first | rfl | (simp; done)), RV.nil _ _, RI.nil _ _, by repeat (first | (with_reducible first | exact HB.out | apply below_alloc | apply pw_below_drewN | apply below_drew1 | refine below_set ?_ GEg7.out | refine below_set ?_ GEpb.out) | exact HB.out)⟩⟩
  case round =>
    obtain ⟨g7, M, R, I, rfl, HK, HLEN, HC1, HC2, GEg7, HS⟩ := hrel
    have HP := Aside0.mk HS.out.pv
    have BKg7 := Aside0.mk HS.out.bk
    have HR := Aside0.mk HS.out.rv
    have HI := Aside0.mk HS.out.ri
    have HB := Aside0.mk HS.out.bel
    clear HS HF1 HF2 HLN
    have NBpb_g7 : pb ≠ g7 := IsT.ne HP.out.isT ⟨_, BKg7.out⟩ (by decide)
    have NBg7_pb : g7 ≠ pb := NBpb_g7.symm
    cases gk with
    | zero => exact absurd HK.out (by omega)
    | succ k1 =>
      cases M with
      | nil =>
        replace BKg7 : Aside0 ((_ : World).heap[g7]? = some (.cells #[.int .i64 0, .int .i64 0, .int .i64 (-1)] 80 (0, 0))) := BKg7
        have hcz_g7_0 : World.cell? _ ⟨g7, 0, none⟩ = some (.int .i64 0) := (blk_cell BKg7.out 0).trans rfl; have hfz_g7_0 := blk_frozen BKg7.out 0
        have hcz_g7_1 : World.cell? _ ⟨g7, 1, none⟩ = some (.int .i64 0) := (blk_cell BKg7.out 1).trans rfl; have hfz_g7_1 := blk_frozen BKg7.out 1
        have hcz_g7_2 : World.cell? _ ⟨g7, 2, none⟩ = some (.int .i64 (-1)) := (blk_cell BKg7.out 2).trans rfl; have hfz_g7_2 := blk_frozen BKg7.out 2
        go_wp2_with (first | (go_at_call 53; (with_reducible refine (intervals_intWithIdx_done.calls 0 0 (-1) true _ rfl).mono ?_); rintro e wd ⟨rfl, bel⟩; have mg7_ := Aside0.mk (blk_below (g := g7) (o := .cells #[.int .i64 0, .int .i64 0, .int .i64 (-1)] 80 (0, 0)) (by apply heap_is; (focus (repeat (first | with_reducible exact BKg7.out | with_reducible apply blk_drewN | with_reducible apply blk_drew | with_reducible apply blk_alloc | with_reducible apply blk_set | (with_reducible apply blk_aside; assumption)))); first | rfl | (simp; done)) bel); have n0_ := Aside0.mk (below_step (by repeat (first | (with_reducible first | exact HB.out | apply below_alloc | apply pw_below_drewN | apply below_drew1 | refine below_set ?_ GEg7.out) | exact HB.out)) bel); have xHP_ := Aside0.mk (PV.below (by repeat (first | with_reducible exact HP.out | with_reducible apply PV.drewN | with_reducible apply PV.drew | with_reducible apply PV.alloc | (with_reducible apply PV.far; assumption))) bel); have xHR_ := Aside0.mk (RV.below (B := w.heap.size) (v := u4) (R := R) (by repeat (first | with_reducible exact HR.out | with_reducible apply RV.drewN | with_reducible apply RV.drew | with_reducible apply RV.alloc | ((with_reducible refine RV.set80 ?_ ?_); focus repeat (first | exact ⟨_, BKg7.out⟩ | with_reducible apply IsT.set | with_reducible apply IsT.drewN | with_reducible apply IsT.drew | with_reducible apply IsT.alloc)))) bel); have xHI_ := Aside0.mk (RI.below (B := w.heap.size) (v := u5) (I := I) (by repeat (first | with_reducible exact HI.out | with_reducible apply RI.drewN | with_reducible apply RI.drew | with_reducible apply RI.alloc | ((with_reducible refine RI.set80 ?_ ?_); focus repeat (first | exact ⟨_, BKg7.out⟩ | with_reducible apply IsT.set | with_reducible apply IsT.drewN | with_reducible apply IsT.drew | with_reducible apply IsT.alloc)))) bel); clear HP; have HP := xHP_; clear xHP_; clear HR; have HR := xHR_; clear xHR_; clear HI; have HI := xHI_; clear xHI_; clear BKg7; clear HB; have BKg7 := mg7_; clear mg7_; have HB := n0_; clear n0_ bel; have hczwdg7_0 : World.cell? wd ⟨g7, 0, none⟩ = some (.int .i64 0) := (blk_cell BKg7.out 0).trans rfl; have hfzwdg7_0 := blk_frozen BKg7.out 0; have hczwdg7_1 : World.cell? wd ⟨g7, 1, none⟩ = some (.int .i64 0) := (blk_cell BKg7.out 1).trans rfl; have hfzwdg7_1 := blk_frozen BKg7.out 1; have hczwdg7_2 : World.cell? wd ⟨g7, 2, none⟩ = some (.int .i64 (-1)) := (blk_cell BKg7.out 2).trans rfl; have hfzwdg7_2 := blk_frozen BKg7.out 2))
        go_ret2
        exact ⟨u4, u5, by first | rfl | (simp; done), by have h := (by repeat (first | with_reducible exact HR.out | with_reducible apply RV.drewN | with_reducible apply RV.drew | with_reducible apply RV.alloc | ((with_reducible refine RV.set80 ?_ ?_); focus repeat (first | exact ⟨_, BKg7.out⟩ | with_reducible apply IsT.set | with_reducible apply IsT.drewN | with_reducible apply IsT.drew | with_reducible apply IsT.alloc)))); rw [← HC1.out, List.map_nil, List.append_nil]; exact h, by have h := (by repeat (first | with_reducible exact HI.out | with_reducible apply RI.drewN | with_reducible apply RI.drew | with_reducible apply RI.alloc | ((with_reducible refine RI.set80 ?_ ?_); focus repeat (first | exact ⟨_, BKg7.out⟩ | with_reducible apply IsT.set | with_reducible apply IsT.drewN | with_reducible apply IsT.drew | with_reducible apply IsT.alloc)))); rw [← HC2.out, List.map_nil, List.append_nil]; exact h, by repeat (first | (with_reducible first | exact HB.out | apply below_alloc | apply pw_below_drewN | apply below_drew1 | refine below_set ?_ GEg7.out | refine below_set ?_ GEpb.out) | exact HB.out)⟩
      | cons p M =>
        obtain ⟨⟨x, y⟩, d⟩ := p
        replace BKg7 : Aside0 ((_ : World).heap[g7]? = some (.cells #[.int .i64 x, .int .i64 y, .int .i64 (ix d)] 80 (0, 0))) := BKg7
        have hcz_g7_0 : World.cell? _ ⟨g7, 0, none⟩ = some (.int .i64 x) := (blk_cell BKg7.out 0).trans rfl; have hfz_g7_0 := blk_frozen BKg7.out 0
        have hcz_g7_1 : World.cell? _ ⟨g7, 1, none⟩ = some (.int .i64 y) := (blk_cell BKg7.out 1).trans rfl; have hfz_g7_1 := blk_frozen BKg7.out 1
        have hcz_g7_2 : World.cell? _ ⟨g7, 2, none⟩ = some (.int .i64 (ix d)) := (blk_cell BKg7.out 2).trans rfl; have hfz_g7_2 := blk_frozen BKg7.out 2
        have HD := Aside0.mk (show intervals_intWithIdx_done.f x y (ix d) = some false from congrArg some (ix_done d))
        go_wp2_with (first | (go_at_call 53; (with_reducible refine (intervals_intWithIdx_done.calls x y (ix d) false _ HD.out).mono ?_); rintro e wd ⟨rfl, bel⟩; have mg7_ := Aside0.mk (blk_below (g := g7) (o := .cells #[.int .i64 x, .int .i64 y, .int .i64 (ix d)] 80 (0, 0)) (by apply heap_is; (focus (repeat (first | with_reducible exact BKg7.out | with_reducible apply blk_drewN | with_reducible apply blk_drew | with_reducible apply blk_alloc | with_reducible apply blk_set | (with_reducible apply blk_aside; assumption)))); first | rfl | (simp; done)) bel); have n0_ := Aside0.mk (below_step (by repeat (first | (with_reducible first | exact HB.out | apply below_alloc | apply pw_below_drewN | apply below_drew1 | refine below_set ?_ GEg7.out) | exact HB.out)) bel); have xHP_ := Aside0.mk (PV.below (by repeat (first | with_reducible exact HP.out | with_reducible apply PV.drewN | with_reducible apply PV.drew | with_reducible apply PV.alloc | (with_reducible apply PV.far; assumption))) bel); have xHR_ := Aside0.mk (RV.below (B := w.heap.size) (v := u4) (R := R) (by repeat (first | with_reducible exact HR.out | with_reducible apply RV.drewN | with_reducible apply RV.drew | with_reducible apply RV.alloc | ((with_reducible refine RV.set80 ?_ ?_); focus repeat (first | exact ⟨_, BKg7.out⟩ | with_reducible apply IsT.set | with_reducible apply IsT.drewN | with_reducible apply IsT.drew | with_reducible apply IsT.alloc)))) bel); have xHI_ := Aside0.mk (RI.below (B := w.heap.size) (v := u5) (I := I) (by repeat (first | with_reducible exact HI.out | with_reducible apply RI.drewN | with_reducible apply RI.drew | with_reducible apply RI.alloc | ((with_reducible refine RI.set80 ?_ ?_); focus repeat (first | exact ⟨_, BKg7.out⟩ | with_reducible apply IsT.set | with_reducible apply IsT.drewN | with_reducible apply IsT.drew | with_reducible apply IsT.alloc)))) bel); clear HP; have HP := xHP_; clear xHP_; clear HR; have HR := xHR_; clear xHR_; clear HI; have HI := xHI_; clear xHI_; clear BKg7; clear HB; have BKg7 := mg7_; clear mg7_; have HB := n0_; clear n0_ bel; have hczwdg7_0 : World.cell? wd ⟨g7, 0, none⟩ = some (.int .i64 x) := (blk_cell BKg7.out 0).trans rfl; have hfzwdg7_0 := blk_frozen BKg7.out 0; have hczwdg7_1 : World.cell? wd ⟨g7, 1, none⟩ = some (.int .i64 y) := (blk_cell BKg7.out 1).trans rfl; have hfzwdg7_1 := blk_frozen BKg7.out 1; have hczwdg7_2 : World.cell? wd ⟨g7, 2, none⟩ = some (.int .i64 (ix d)) := (blk_cell BKg7.out 2).trans rfl; have hfzwdg7_2 := blk_frozen BKg7.out 2))
        refine wp_world (fun w' => Below w.heap.size w w' ∧ w'.heap[g7]? = some (.cells #[.int .i64 x, .int .i64 y, .int .i64 (ix d)] 80 (0, 0)) ∧ PV l1 l2 A1 A2 c1 c2 pb (((x, y), d) :: M) w' ∧ RV w.heap.size u4 R w' ∧ RI w.heap.size u5 I w') ⟨(by repeat (first | (with_reducible first | exact HB.out | apply below_alloc | apply pw_below_drewN | apply below_drew1 | refine below_set ?_ GEg7.out) | exact HB.out)), (by apply heap_is; (focus (repeat (first | with_reducible exact BKg7.out | with_reducible apply blk_drewN | with_reducible apply blk_drew | with_reducible apply blk_alloc | with_reducible apply blk_set | (with_reducible apply blk_aside; assumption)))); first | rfl | (simp; done)), (by repeat (first | with_reducible exact HP.out | with_reducible apply PV.drewN | with_reducible apply PV.drew | with_reducible apply PV.alloc | (with_reducible apply PV.far; assumption))), (by repeat (first | with_reducible exact HR.out | with_reducible apply RV.drewN | with_reducible apply RV.drew | with_reducible apply RV.alloc | ((with_reducible refine RV.set80 ?_ ?_); focus repeat (first | exact ⟨_, BKg7.out⟩ | with_reducible apply IsT.set | with_reducible apply IsT.drewN | with_reducible apply IsT.drew | with_reducible apply IsT.alloc)))), (by repeat (first | with_reducible exact HI.out | with_reducible apply RI.drewN | with_reducible apply RI.drew | with_reducible apply RI.alloc | ((with_reducible refine RI.set80 ?_ ?_); focus repeat (first | exact ⟨_, BKg7.out⟩ | with_reducible apply IsT.set | with_reducible apply IsT.drewN | with_reducible apply IsT.drew | with_reducible apply IsT.alloc))))⟩ ?_
        rintro w9 ⟨n0_, mg7_, xHP_, xHR_, xHI_⟩
        clear HP; have HP := Aside0.mk xHP_; clear xHP_; clear HR; have HR := Aside0.mk xHR_; clear xHR_; clear HI; have HI := Aside0.mk xHI_; clear xHI_; clear HB BKg7
        have HB := Aside0.mk n0_; clear n0_
        have BKg7 := Aside0.mk mg7_; clear mg7_
        clear hczwdg7_0 hfzwdg7_0
        clear hczwdg7_1 hfzwdg7_1
        clear hczwdg7_2 hfzwdg7_2
        have hczw9g7_0 : w9.cell? ⟨g7, 0, none⟩ = some (.int .i64 x) := (blk_cell BKg7.out 0).trans rfl; have hfzw9g7_0 := blk_frozen BKg7.out 0
        have hczw9g7_1 : w9.cell? ⟨g7, 1, none⟩ = some (.int .i64 y) := (blk_cell BKg7.out 1).trans rfl; have hfzw9g7_1 := blk_frozen BKg7.out 1
        have hczw9g7_2 : w9.cell? ⟨g7, 2, none⟩ = some (.int .i64 (ix d)) := (blk_cell BKg7.out 2).trans rfl; have hfzw9g7_2 := blk_frozen BKg7.out 2
        have HS : St w l1 l2 A1 A2 c1 c2 pb (((x, y), d) :: M) g7 #[.int .i64 x, .int .i64 y, .int .i64 (ix d)] u4 R u5 I w9 := ⟨HP.out, BKg7.out, HR.out, HI.out, HB.out⟩
        clear HP HR HI HB BKg7
        refine start_ (n := 12) (S := fun w' => w'.cell? ⟨g7, 0, none⟩ = some (.int .i64 x) ∧ w'.cell? ⟨g7, 1, none⟩ = some (.int .i64 y) ∧ w'.cell? ⟨g7, 2, none⟩ = some (.int .i64 (ix d))) (ds := []) #[false, false, false, false, false, false, false, false, false, false, false, false] (by kernel_rfl) rfl rfl (⟨(blk_cell HS.drew.bk 0).trans rfl, (blk_cell HS.drew.bk 1).trans rfl, (blk_cell HS.drew.bk 2).trans rfl⟩) (fun hHeld => ?_)
        replace HS := HS.drew
        refine pure_ (i := 0) (N := some 15) (v := ?_) (a' := ?_) #[true, false, false, false, false, false, false, false, false, false, false, false] rfl rfl (by kernel_rfl) (fun _ _ _ h => h) (Or.inl ⟨by rfl, ?_⟩) ?_ ?_
        rotate_left
        · intro w'
          go_simp
          with_reducible rfl
        rotate_left
        · simp only [Act.put, List.setIfInBounds_toArray, List.set_cons_zero, List.set_cons_succ, i64_w, i32_w]
          rfl
        refine pure_ (i := 1) (N := some 16) (v := ?_) (a' := ?_) #[true, true, false, false, false, false, false, false, false, false, false, false] rfl rfl (by kernel_rfl) (fun _ _ _ h => h) (Or.inl ⟨by rfl, ?_⟩) ?_ ?_
        rotate_left
        · intro w'
          go_simp
          with_reducible rfl
        rotate_left
        · simp only [Act.put, List.setIfInBounds_toArray, List.set_cons_zero, List.set_cons_succ, i64_w, i32_w]
          rfl
        refine take_ (i := 2) (N := some 17) (v := ?_) (a' := ?_) #[true, true, true, false, false, false, false, false, false, false, false, false] rfl rfl (by kernel_rfl) (fun _ _ _ h => h) (Or.inl ⟨by rfl, ?_⟩) hHeld ?_ ?_
        rotate_left
        · rintro w' hS_; (try dsimp only at hS_)
          go_simp
          with_reducible rfl
        rotate_left
        · simp only [Act.put, List.setIfInBounds_toArray, List.set_cons_zero, List.set_cons_succ, i64_w, i32_w]
          rfl
        refine pure_ (i := 5) (N := some 20) (v := ?_) (a' := ?_) #[true, true, true, false, false, true, false, false, false, false, false, false] rfl rfl (by kernel_rfl) (fun _ _ _ h => h) (Or.inl ⟨by rfl, ?_⟩) ?_ ?_
        rotate_left
        · intro w'
          go_simp
          with_reducible rfl
        rotate_left
        · simp only [Act.put, List.setIfInBounds_toArray, List.set_cons_zero, List.set_cons_succ, i64_w, i32_w]
          rfl
        refine pure_ (i := 6) (N := some 21) (v := ?_) (a' := ?_) #[true, true, true, false, false, true, true, false, false, false, false, false] rfl rfl (by kernel_rfl) (fun _ _ _ h => h) (Or.inl ⟨by rfl, ?_⟩) ?_ ?_
        rotate_left
        · intro w'
          go_simp
          with_reducible rfl
        rotate_left
        · simp only [Act.put, List.setIfInBounds_toArray, List.set_cons_zero, List.set_cons_succ, i64_w, i32_w]
          rfl
        refine take_ (i := 7) (N := some 22) (v := ?_) (a' := ?_) #[true, true, true, false, false, true, true, true, false, false, false, false] rfl rfl (by kernel_rfl) (fun _ _ _ h => h) (Or.inl ⟨by rfl, ?_⟩) hHeld ?_ ?_
        rotate_left
        · rintro w' hS_; (try dsimp only at hS_)
          go_simp
          with_reducible rfl
        rotate_left
        · simp only [Act.put, List.setIfInBounds_toArray, List.set_cons_zero, List.set_cons_succ, i64_w, i32_w]
          rfl
        refine join_ (σ := Nat × Value × Nat × Value) 2 #[true, true, true, true, true, true, true, true, true, true, false, false] (fun s => [(18, .slice (some ⟨s.1, 0, none⟩) 1 1), (19, s.2.1), (23, .slice (some ⟨s.2.2.1, 0, none⟩) 1 1), (24, s.2.2.2)]) (fun s w' => St w l1 l2 A1 A2 c1 c2 pb (((x, y), d) :: M) g7 #[.int .i64 x, .int .i64 y, .int .i64 (ix d)] s.2.1 (R ++ [(⟨x, y⟩ : S53)]) s.2.2.2 (I ++ [ix d]) w') ?cont (fun J => ?ord)
        case ord =>
          refine two_ (i := 3) (j := 8) (Ni := some 18) (Nj := some 23) #[true, true, true, true, false, true, true, true, false, false, false, false] #[true, true, true, false, false, true, true, true, true, false, false, false] rfl rfl rfl rfl (by kernel_rfl) (by decide) (by decide) (fun K hK => ?_) (fun K hK => ?_)
          · refine St.bs HS 53 #[.int .i64 x, .int .i64 y] (by rfl) (by first | (go_simp; done) | (go_simp; rfl)) ?_
            intro b53 wr1 hS1 hb53 hk_
            refine hK.out _ _ (⟨(blk_cell hS1.bk 0).trans rfl, (blk_cell hS1.bk 1).trans rfl, (blk_cell hS1.bk 2).trans rfl⟩) (fun hHeld => ?_)
            clear hK K hk_
            refine norm_ (a' := ?_) ?_ ?_
            rotate_left
            · show Act.put _ (some 18) _ = _
              simp only [Act.put, List.setIfInBounds_toArray, List.set_cons_zero, List.set_cons_succ]
              rfl
            refine two_ (i := 4) (j := 8) (Ni := some 19) (Nj := some 23) #[true, true, true, true, true, true, true, true, false, false, false, false] #[true, true, true, true, false, true, true, true, true, false, false, false] rfl rfl rfl rfl (by kernel_rfl) (by decide) (by decide) (fun K hK => ?_) (fun K hK => ?_)
            · refine St.app53 hS1 (by rfl) (.tmp 15) (.tmp 18) rfl rfl b53 (⟨x, y⟩ : S53) rfl hb53 (by have := HLEN.out; simp only [List.length_cons] at this; omega) ?_
              intro v4 wr2 hS2 hk_
              clear hb53
              refine hK.out _ _ (⟨(blk_cell hS2.bk 0).trans rfl, (blk_cell hS2.bk 1).trans rfl, (blk_cell hS2.bk 2).trans rfl⟩) (fun hHeld => ?_)
              clear hK K hk_ hS1
              refine norm_ (a' := ?_) ?_ ?_
              rotate_left
              · show Act.put _ (some 19) _ = _
                simp only [Act.put, List.setIfInBounds_toArray, List.set_cons_zero, List.set_cons_succ]
                rfl
              refine one_ (i := 8) (N := some 23) #[true, true, true, true, true, true, true, true, true, false, false, false] rfl rfl (by kernel_rfl) (by decide) (fun K hK => ?_)
              refine St.bs hS2 3 #[.int .i64 (ix d)] (by rfl) (by first | (go_simp; done) | (go_simp; rfl)) ?_
              intro b3 wr3 hS3 hb3 hk_
              refine hK.out _ _ (⟨(blk_cell hS3.bk 0).trans rfl, (blk_cell hS3.bk 1).trans rfl, (blk_cell hS3.bk 2).trans rfl⟩) (fun hHeld => ?_)
              clear hK K hk_ hS2
              refine norm_ (a' := ?_) ?_ ?_
              rotate_left
              · show Act.put _ (some 23) _ = _
                simp only [Act.put, List.setIfInBounds_toArray, List.set_cons_zero, List.set_cons_succ]
                rfl
              refine one_ (i := 9) (N := some 24) #[true, true, true, true, true, true, true, true, true, true, false, false] rfl rfl (by kernel_rfl) (by decide) (fun K hK => ?_)
              refine St.app3 hS3 (by rfl) (.tmp 20) (.tmp 23) rfl rfl b3 (ix d) rfl hb3 (by have := HLEN.out; simp only [List.length_cons] at this; omega) ?_
              intro v5 wr4 hS4 hk_
              clear hb3
              refine hK.out _ _ (⟨(blk_cell hS4.bk 0).trans rfl, (blk_cell hS4.bk 1).trans rfl, (blk_cell hS4.bk 2).trans rfl⟩) (fun hHeld => ?_)
              clear hK K hk_ hS3
              refine norm_ (a' := ?_) ?_ ?_
              rotate_left
              · show Act.put _ (some 24) _ = _
                simp only [Act.put, List.setIfInBounds_toArray, List.set_cons_zero, List.set_cons_succ]
                rfl
              have j_ := J (b53, v4, b3, v5) _ hS4
              refine norm_ ?_ j_
              simp only [putAll, Act.put, List.setIfInBounds_toArray, List.set_cons_zero, List.set_cons_succ]
            · refine St.bs hS1 3 #[.int .i64 (ix d)] (by rfl) (by first | (go_simp; done) | (go_simp; rfl)) ?_
              intro b3 wr5 hS5 hb3 hk_
              replace hb53 := hk_ _ _ hb53
              refine hK.out _ _ (⟨(blk_cell hS5.bk 0).trans rfl, (blk_cell hS5.bk 1).trans rfl, (blk_cell hS5.bk 2).trans rfl⟩) (fun hHeld => ?_)
              clear hK K hk_ hS1
              refine norm_ (a' := ?_) ?_ ?_
              rotate_left
              · show Act.put _ (some 23) _ = _
                simp only [Act.put, List.setIfInBounds_toArray, List.set_cons_zero, List.set_cons_succ]
                rfl
              refine one_ (i := 4) (N := some 19) #[true, true, true, true, true, true, true, true, true, false, false, false] rfl rfl (by kernel_rfl) (by decide) (fun K hK => ?_)
              refine St.app53 hS5 (by rfl) (.tmp 15) (.tmp 18) rfl rfl b53 (⟨x, y⟩ : S53) rfl hb53 (by have := HLEN.out; simp only [List.length_cons] at this; omega) ?_
              intro v4 wr6 hS6 hk_
              replace hb3 := hk_ _ _ hb3
              clear hb53
              refine hK.out _ _ (⟨(blk_cell hS6.bk 0).trans rfl, (blk_cell hS6.bk 1).trans rfl, (blk_cell hS6.bk 2).trans rfl⟩) (fun hHeld => ?_)
              clear hK K hk_ hS5
              refine norm_ (a' := ?_) ?_ ?_
              rotate_left
              · show Act.put _ (some 19) _ = _
                simp only [Act.put, List.setIfInBounds_toArray, List.set_cons_zero, List.set_cons_succ]
                rfl
              refine one_ (i := 9) (N := some 24) #[true, true, true, true, true, true, true, true, true, true, false, false] rfl rfl (by kernel_rfl) (by decide) (fun K hK => ?_)
              refine St.app3 hS6 (by rfl) (.tmp 20) (.tmp 23) rfl rfl b3 (ix d) rfl hb3 (by have := HLEN.out; simp only [List.length_cons] at this; omega) ?_
              intro v5 wr7 hS7 hk_
              clear hb3
              refine hK.out _ _ (⟨(blk_cell hS7.bk 0).trans rfl, (blk_cell hS7.bk 1).trans rfl, (blk_cell hS7.bk 2).trans rfl⟩) (fun hHeld => ?_)
              clear hK K hk_ hS6
              refine norm_ (a' := ?_) ?_ ?_
              rotate_left
              · show Act.put _ (some 24) _ = _
                simp only [Act.put, List.setIfInBounds_toArray, List.set_cons_zero, List.set_cons_succ]
                rfl
              have j_ := J (b53, v4, b3, v5) _ hS7
              refine norm_ ?_ j_
              simp only [putAll, Act.put, List.setIfInBounds_toArray, List.set_cons_zero, List.set_cons_succ]
          · refine St.bs HS 3 #[.int .i64 (ix d)] (by rfl) (by first | (go_simp; done) | (go_simp; rfl)) ?_
            intro b3 wr8 hS8 hb3 hk_
            refine hK.out _ _ (⟨(blk_cell hS8.bk 0).trans rfl, (blk_cell hS8.bk 1).trans rfl, (blk_cell hS8.bk 2).trans rfl⟩) (fun hHeld => ?_)
            clear hK K hk_
            refine norm_ (a' := ?_) ?_ ?_
            rotate_left
            · show Act.put _ (some 23) _ = _
              simp only [Act.put, List.setIfInBounds_toArray, List.set_cons_zero, List.set_cons_succ]
              rfl
            refine one_ (i := 3) (N := some 18) #[true, true, true, true, false, true, true, true, true, false, false, false] rfl rfl (by kernel_rfl) (by decide) (fun K hK => ?_)
            refine St.bs hS8 53 #[.int .i64 x, .int .i64 y] (by rfl) (by first | (go_simp; done) | (go_simp; rfl)) ?_
            intro b53 wr9 hS9 hb53 hk_
            replace hb3 := hk_ _ _ hb3
            refine hK.out _ _ (⟨(blk_cell hS9.bk 0).trans rfl, (blk_cell hS9.bk 1).trans rfl, (blk_cell hS9.bk 2).trans rfl⟩) (fun hHeld => ?_)
            clear hK K hk_ hS8
            refine norm_ (a' := ?_) ?_ ?_
            rotate_left
            · show Act.put _ (some 18) _ = _
              simp only [Act.put, List.setIfInBounds_toArray, List.set_cons_zero, List.set_cons_succ]
              rfl
            refine one_ (i := 4) (N := some 19) #[true, true, true, true, true, true, true, true, true, false, false, false] rfl rfl (by kernel_rfl) (by decide) (fun K hK => ?_)
            refine St.app53 hS9 (by rfl) (.tmp 15) (.tmp 18) rfl rfl b53 (⟨x, y⟩ : S53) rfl hb53 (by have := HLEN.out; simp only [List.length_cons] at this; omega) ?_
            intro v4 wr10 hS10 hk_
            replace hb3 := hk_ _ _ hb3
            clear hb53
            refine hK.out _ _ (⟨(blk_cell hS10.bk 0).trans rfl, (blk_cell hS10.bk 1).trans rfl, (blk_cell hS10.bk 2).trans rfl⟩) (fun hHeld => ?_)
            clear hK K hk_ hS9
            refine norm_ (a' := ?_) ?_ ?_
            rotate_left
            · show Act.put _ (some 19) _ = _
              simp only [Act.put, List.setIfInBounds_toArray, List.set_cons_zero, List.set_cons_succ]
              rfl
            refine one_ (i := 9) (N := some 24) #[true, true, true, true, true, true, true, true, true, true, false, false] rfl rfl (by kernel_rfl) (by decide) (fun K hK => ?_)
            refine St.app3 hS10 (by rfl) (.tmp 20) (.tmp 23) rfl rfl b3 (ix d) rfl hb3 (by have := HLEN.out; simp only [List.length_cons] at this; omega) ?_
            intro v5 wr11 hS11 hk_
            clear hb3
            refine hK.out _ _ (⟨(blk_cell hS11.bk 0).trans rfl, (blk_cell hS11.bk 1).trans rfl, (blk_cell hS11.bk 2).trans rfl⟩) (fun hHeld => ?_)
            clear hK K hk_ hS10
            refine norm_ (a' := ?_) ?_ ?_
            rotate_left
            · show Act.put _ (some 24) _ = _
              simp only [Act.put, List.setIfInBounds_toArray, List.set_cons_zero, List.set_cons_succ]
              rfl
            have j_ := J (b53, v4, b3, v5) _ hS11
            refine norm_ ?_ j_
            simp only [putAll, Act.put, List.setIfInBounds_toArray, List.set_cons_zero, List.set_cons_succ]
        rintro ⟨b53, v4, b3, v5⟩ w10 HS
        dsimp only at HS
        refine norm_ (a' := ?_) ?_ ?_
        rotate_left
        · simp only [putAll, Act.put, List.setIfInBounds_toArray, List.set_cons_zero, List.set_cons_succ]
          rfl
        refine pure_ (i := 10) (N := some 4) (v := ?_) (a' := ?_) #[true, true, true, true, true, true, true, true, true, true, true, false] rfl rfl (by kernel_rfl) (fun _ _ _ h => h) (Or.inl ⟨by rfl, ?_⟩) ?_ ?_
        rotate_left
        · intro w'
          go_simp
          with_reducible rfl
        rotate_left
        · simp only [Act.put, List.setIfInBounds_toArray, List.set_cons_zero, List.set_cons_succ, i64_w, i32_w]
          rfl
        refine pure_ (i := 11) (N := some 5) (v := ?_) (a' := ?_) #[true, true, true, true, true, true, true, true, true, true, true, true] rfl rfl (by kernel_rfl) (fun _ _ _ h => h) (Or.inl ⟨by rfl, ?_⟩) ?_ ?_
        rotate_left
        · intro w'
          go_simp
          with_reducible rfl
        rotate_left
        · simp only [Act.put, List.setIfInBounds_toArray, List.set_cons_zero, List.set_cons_succ, i64_w, i32_w]
          rfl
        refine done_ (by kernel_rfl) ?_
        clear hHeld
        have HP := Aside0.mk HS.pv
        have BKg7 := Aside0.mk HS.bk
        have HR := Aside0.mk HS.rv
        have HI := Aside0.mk HS.ri
        have HB := Aside0.mk HS.bel
        clear HS
        have hcz_g7_0 : World.cell? _ ⟨g7, 0, none⟩ = some (.int .i64 x) := (blk_cell BKg7.out 0).trans rfl; have hfz_g7_0 := blk_frozen BKg7.out 0
        have hcz_g7_1 : World.cell? _ ⟨g7, 1, none⟩ = some (.int .i64 y) := (blk_cell BKg7.out 1).trans rfl; have hfz_g7_1 := blk_frozen BKg7.out 1
        have hcz_g7_2 : World.cell? _ ⟨g7, 2, none⟩ = some (.int .i64 (ix d)) := (blk_cell BKg7.out 2).trans rfl; have hfz_g7_2 := blk_frozen BKg7.out 2
        go_wp2_with (first | ((with_reducible refine gate_dst (N := 7) rfl ?_); refine box_event ?hg (N := 7) ?hd (cs := #[.int .i64 0, .int .i64 0, .int .i64 0]) (t := 80) ?hr ?_; (case hd => rfl); (case hg => rfl); (case hr => first | (go_simp; done) | (go_simp; rfl)); intro g8 hg w8 hbox hb; have mg7_ := Aside0.mk (blk_below (g := g7) (o := .cells #[.int .i64 x, .int .i64 y, .int .i64 (ix d)] 80 (0, 0)) (by apply heap_is; (focus (repeat (first | with_reducible exact BKg7.out | with_reducible apply blk_drewN | with_reducible apply blk_drew | with_reducible apply blk_alloc | with_reducible apply blk_set | (with_reducible apply blk_aside; assumption)))); first | rfl | (simp; done)) hb); have qpb_ := Aside0.mk ((by rw [hg]; exact Nat.ne_of_lt (PV.lt (by repeat (first | with_reducible exact HP.out | with_reducible apply PV.drewN | with_reducible apply PV.drew | with_reducible apply PV.alloc | (with_reducible apply PV.far; assumption))))) : pb ≠ g8); have rpb_ := Aside0.mk ((by rw [hg]; exact Nat.ne_of_gt (PV.lt (by repeat (first | with_reducible exact HP.out | with_reducible apply PV.drewN | with_reducible apply PV.drew | with_reducible apply PV.alloc | (with_reducible apply PV.far; assumption))))) : g8 ≠ pb); have xHP_ := Aside0.mk (PV.below (by repeat (first | with_reducible exact HP.out | with_reducible apply PV.drewN | with_reducible apply PV.drew | with_reducible apply PV.alloc | (with_reducible apply PV.far; assumption))) hb); have xHR_ := Aside0.mk (RV.below (B := w.heap.size) (v := v4) (R := (R ++ [(⟨x, y⟩ : S53)])) (by repeat (first | with_reducible exact HR.out | with_reducible apply RV.drewN | with_reducible apply RV.drew | with_reducible apply RV.alloc | ((with_reducible refine RV.set80 ?_ ?_); focus repeat (first | exact ⟨_, BKg7.out⟩ | with_reducible apply IsT.set | with_reducible apply IsT.drewN | with_reducible apply IsT.drew | with_reducible apply IsT.alloc)))) hb); have xHI_ := Aside0.mk (RI.below (B := w.heap.size) (v := v5) (I := (I ++ [ix d])) (by repeat (first | with_reducible exact HI.out | with_reducible apply RI.drewN | with_reducible apply RI.drew | with_reducible apply RI.alloc | ((with_reducible refine RI.set80 ?_ ?_); focus repeat (first | exact ⟨_, BKg7.out⟩ | with_reducible apply IsT.set | with_reducible apply IsT.drewN | with_reducible apply IsT.drew | with_reducible apply IsT.alloc)))) hb); have qg7_ := Aside0.mk ((by rw [hg]; exact Nat.ne_of_lt (blk_lt (g := g7) (o := .cells #[.int .i64 x, .int .i64 y, .int .i64 (ix d)] 80 (0, 0)) (by apply heap_is; (focus (repeat (first | with_reducible exact BKg7.out | with_reducible apply blk_drewN | with_reducible apply blk_drew | with_reducible apply blk_alloc | with_reducible apply blk_set | (with_reducible apply blk_aside; assumption)))); first | rfl | (simp; done)))) : g7 ≠ g8); have rg7_ := Aside0.mk ((by rw [hg]; exact Nat.ne_of_gt (blk_lt (g := g7) (o := .cells #[.int .i64 x, .int .i64 y, .int .i64 (ix d)] 80 (0, 0)) (by apply heap_is; (focus (repeat (first | with_reducible exact BKg7.out | with_reducible apply blk_drewN | with_reducible apply blk_drew | with_reducible apply blk_alloc | with_reducible apply blk_set | (with_reducible apply blk_aside; assumption)))); first | rfl | (simp; done)))) : g8 ≠ g7); have n0_ := Aside0.mk (below_step (by repeat (first | (with_reducible first | exact HB.out | apply below_alloc | apply pw_below_drewN | apply below_drew1 | refine below_set ?_ GEg7.out) | exact HB.out)) hb); have n1_ := Aside0.mk (hbox); have n2_ := Aside0.mk ((by rw [hg]; exact (below_size (by repeat (first | (with_reducible first | exact HB.out | apply below_alloc | apply pw_below_drewN | apply below_drew1 | refine below_set ?_ GEg7.out) | exact HB.out))) : w.heap.size ≤ g8)); clear BKg7; clear HB; have BKg7 := mg7_; have NBg7_g8 := qg7_.out; have NBg8_g7 := rg7_.out; clear mg7_ qg7_ rg7_; have HB := n0_; have BKg8 := n1_; have GEg8 := n2_; clear n0_ n1_ n2_; clear hb hbox hg; clear HP; have HP := xHP_; clear xHP_; clear HR; have HR := xHR_; clear xHR_; clear HI; have HI := xHI_; clear xHI_; have NBpb_g8 := qpb_.out; have NBg8_pb := rpb_.out; clear qpb_ rpb_; have hczw8g7_0 : w8.cell? ⟨g7, 0, none⟩ = some (.int .i64 x) := (blk_cell BKg7.out 0).trans rfl; have hfzw8g7_0 := blk_frozen BKg7.out 0; have hczw8g7_1 : w8.cell? ⟨g7, 1, none⟩ = some (.int .i64 y) := (blk_cell BKg7.out 1).trans rfl; have hfzw8g7_1 := blk_frozen BKg7.out 1; have hczw8g7_2 : w8.cell? ⟨g7, 2, none⟩ = some (.int .i64 (ix d)) := (blk_cell BKg7.out 2).trans rfl; have hfzw8g7_2 := blk_frozen BKg7.out 2; have hczw8g8_0 : w8.cell? ⟨g8, 0, none⟩ = some (.int .i64 0) := (blk_cell BKg8.out 0).trans rfl; have hfzw8g8_0 := blk_frozen BKg8.out 0; have hczw8g8_1 : w8.cell? ⟨g8, 1, none⟩ = some (.int .i64 0) := (blk_cell BKg8.out 1).trans rfl; have hfzw8g8_1 := blk_frozen BKg8.out 1; have hczw8g8_2 : w8.cell? ⟨g8, 2, none⟩ = some (.int .i64 0) := (blk_cell BKg8.out 2).trans rfl; have hfzw8g8_2 := blk_frozen BKg8.out 2) | (go_at_call 54; (with_reducible refine (nxt_pv l1 l2 A1 A2 c1 c2 pb ((x, y), d) M w _ HR1.out HR2.out HN1.out HN2.out (by repeat (first | (with_reducible first | exact HB.out | apply below_alloc | apply pw_below_drewN | apply below_drew1 | refine below_set ?_ GEg8.out | refine below_set ?_ GEpb.out) | exact HB.out)) GEpb.out (by repeat (first | with_reducible exact HP.out | with_reducible apply PV.drewN | with_reducible apply PV.drew | with_reducible apply PV.alloc | (with_reducible apply PV.far; assumption)))).mono ?_); rintro e wn ⟨rfl, hP, hO⟩; have mg8_ := Aside0.mk (Only.blk (g := g8) (o := .cells #[.int .i64 x, .int .i64 y, .int .i64 (ix d)] 80 (0, 0)) hO (by assumption) (by apply heap_is; (focus (repeat (first | with_reducible exact BKg8.out | with_reducible apply blk_drewN | with_reducible apply blk_drew | with_reducible apply blk_alloc | with_reducible apply blk_set | (with_reducible apply blk_aside; assumption)))); first | rfl | (simp; done))); have xHR_ := Aside0.mk (RV.only (B := w.heap.size) (v := v4) (R := (R ++ [(⟨x, y⟩ : S53)])) hO (t := 82) (by decide) (PV.isT (by repeat (first | with_reducible exact HP.out | with_reducible apply PV.drewN | with_reducible apply PV.drew | with_reducible apply PV.alloc | (with_reducible apply PV.far; assumption)))) (by repeat (first | with_reducible exact HR.out | with_reducible apply RV.drewN | with_reducible apply RV.drew | with_reducible apply RV.alloc | ((with_reducible refine RV.set80 ?_ ?_); focus repeat (first | exact ⟨_, BKg8.out⟩ | with_reducible apply IsT.set | with_reducible apply IsT.drewN | with_reducible apply IsT.drew | with_reducible apply IsT.alloc))))); have xHI_ := Aside0.mk (RI.only (B := w.heap.size) (v := v5) (I := (I ++ [ix d])) hO (t := 82) (by decide) (PV.isT (by repeat (first | with_reducible exact HP.out | with_reducible apply PV.drewN | with_reducible apply PV.drew | with_reducible apply PV.alloc | (with_reducible apply PV.far; assumption)))) (by repeat (first | with_reducible exact HI.out | with_reducible apply RI.drewN | with_reducible apply RI.drew | with_reducible apply RI.alloc | ((with_reducible refine RI.set80 ?_ ?_); focus repeat (first | exact ⟨_, BKg8.out⟩ | with_reducible apply IsT.set | with_reducible apply IsT.drewN | with_reducible apply IsT.drew | with_reducible apply IsT.alloc))))); have n0_ := Aside0.mk (Only.below hO (by repeat (first | (with_reducible first | exact HB.out | apply below_alloc | apply pw_below_drewN | apply below_drew1 | refine below_set ?_ GEg8.out | refine below_set ?_ GEpb.out) | exact HB.out)) GEpb.out (below_size (by repeat (first | (with_reducible first | exact HB.out | apply below_alloc | apply pw_below_drewN | apply below_drew1 | refine below_set ?_ GEg8.out | refine below_set ?_ GEpb.out) | exact HB.out)))); clear BKg8; clear HB; clear HR; have HR := xHR_; clear xHR_; clear HI; have HI := xHI_; clear xHI_; have BKg8 := mg8_; clear mg8_; have HB := n0_; clear n0_ hO; have hczwng8_0 : World.cell? wn ⟨g8, 0, none⟩ = some (.int .i64 x) := (blk_cell BKg8.out 0).trans rfl; have hfzwng8_0 := blk_frozen BKg8.out 0; have hczwng8_1 : World.cell? wn ⟨g8, 1, none⟩ = some (.int .i64 y) := (blk_cell BKg8.out 1).trans rfl; have hfzwng8_1 := blk_frozen BKg8.out 1; have hczwng8_2 : World.cell? wn ⟨g8, 2, none⟩ = some (.int .i64 (ix d)) := (blk_cell BKg8.out 2).trans rfl; have hfzwng8_2 := blk_frozen BKg8.out 2; clear HP; have HP := Aside0.mk hP; clear hP))
        go_roundg k1
        case measure => omega
        case rel => exact ⟨g8, M, (R ++ [(⟨x, y⟩ : S53)]), (I ++ [ix d]), rfl, ⟨by have := HK.out; simp only [List.length_cons] at this; omega⟩, ⟨by have := HLEN.out; simp only [List.length_append, List.length_cons, List.length_nil] at this ⊢; omega⟩, ⟨by rw [List.append_assoc]; exact HC1.out⟩, ⟨by rw [List.append_assoc]; exact HC2.out⟩, ⟨GEg8.out⟩, ⟨(by repeat (first | with_reducible exact HP.out | with_reducible apply PV.drewN | with_reducible apply PV.drew | with_reducible apply PV.alloc | (with_reducible apply PV.far; assumption))), (by apply heap_is; (focus (repeat (first | with_reducible exact BKg8.out | with_reducible apply blk_drewN | with_reducible apply blk_drew | with_reducible apply blk_alloc | with_reducible apply blk_set | (with_reducible apply blk_aside; assumption)))); first | rfl | (simp; done)), (by repeat (first | with_reducible exact HR.out | with_reducible apply RV.drewN | with_reducible apply RV.drew | with_reducible apply RV.alloc | ((with_reducible refine RV.set80 ?_ ?_); focus repeat (first | exact ⟨_, BKg8.out⟩ | with_reducible apply IsT.set | with_reducible apply IsT.drewN | with_reducible apply IsT.drew | with_reducible apply IsT.alloc)))), (by repeat (first | with_reducible exact HI.out | with_reducible apply RI.drewN | with_reducible apply RI.drew | with_reducible apply RI.alloc | ((with_reducible refine RI.set80 ?_ ?_); focus repeat (first | exact ⟨_, BKg8.out⟩ | with_reducible apply IsT.set | with_reducible apply IsT.drewN | with_reducible apply IsT.drew | with_reducible apply IsT.alloc)))), by repeat (first | (with_reducible first | exact HB.out | apply below_alloc | apply pw_below_drewN | apply below_drew1 | refine below_set ?_ GEg8.out | refine below_set ?_ GEpb.out) | exact HB.out)⟩⟩
theorem intervals_ZZPairs.calls (A0 : Option Addr) (c0 : Nat) (l0 : List (S53)) (A1 : Option Addr) (c1 : Nat) (l1 : List (S53)) (r1 : List (S53)) (r2 : List Int) (w : World) (hr0 : Kd.C k53 w A0 l0.length l0) (hc0 : l0.length ≤ c0) (hr1 : Kd.C k53 w A1 l1.length l1) (hc1 : l1.length ≤ c1) (h : intervals_ZZPairs.f l0 l1 = some (r1, r2)) :
    Calls Try.prog 37 #[.slice A0 l0.length c0, .slice A1 l1.length c1] w fun e w' => ∃ v0_ v1_ : Value, e = .returned (.tuple #[v0_, v1_]) ∧ Kd.R k53 53 w' w.heap.size (fun _ => True) v0_ r1 ∧ Kd.R (Kd.int .i64) 3 w' w.heap.size (fun _ => True) v1_ r2 ∧ Below w.heap.size w w' := by
  unfold intervals_ZZPairs.f at h
  split at h
  · rename_i hn
    simp only [Option.some.injEq, Prod.mk.injEq] at h
    exact zz_calls A0 c0 l0 A1 c1 l1 r1 r2 _ w hr0 hr1 hn.1 hn.2 rfl (by rw [Iv.walk_length, List.length_map, List.length_map]; omega) h.1 h.2
  · simp at h
end Go.Proofs.Ytlgdibeklelfgaa.PAll
