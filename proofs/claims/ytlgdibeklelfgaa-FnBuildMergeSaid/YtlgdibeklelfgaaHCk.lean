/- intervals.check, Check and impl.Check by hand. -/
import Derived.Test.YtlgdibeklelfgaaTf2
import Derived.Test.YtlgdibeklelfgaaPAllxB
import Derived.IntWalk
namespace Go.Proofs.Ytlgdibeklelfgaa.PAll
open Go.RowKit Go.Proofs.YtlgdibeklelfgaaW.PrintWords Go.Proofs.YtlgdibeklelfgaaW.PrintLast Go.Proofs.YtlgdibeklelfgaaW.PrintMore
attribute [local go_sem] max2_int min2_int max_two min_two max_three min_three max_four min_four
set_option linter.unusedVariables false
set_option linter.unusedSimpArgs false
set_option maxHeartbeats 4000000 in
set_option maxRecDepth 100000 in
theorem errNew2_calls (s : ByteArray) (w : World) :
    Calls Try.prog 48 #[.string s] w fun e w' => ∃ b : Nat, e = .returned (.iface 89 (.pointer (some ⟨b, 0, none⟩))) ∧ Below w.heap.size w w' := by
  have HB := Aside0.mk (Below.refl w.heap.size w)
  go_enter Try.func48, Try.ntmps48
  go_wp2
  go_ret
  exact ⟨_, by first | rfl | (simp; rfl), by repeat (first | (with_reducible first | exact HB.out | apply below_alloc | apply pw_below_drewN | apply below_drew1) | exact HB.out)⟩
theorem rd23_get2 (l : List S23) (i : Nat) (h : i < l.length) : rd_T23 l (i : Int) = l[i] := by simp [rd_T23, List.getD, h]
theorem rd53_get2 (l : List S53) (i : Nat) (h : i < l.length) : rd_T53 l (i : Int) = l[i] := by simp [rd_T53, List.getD, h]
theorem in_l2 (l : List S23) (hl : l.length ≤ 4294967296) : ∀ (k : Nat) (x : List S53) (i : Nat), i ≤ l.length → l.length - i < k → x.length = i → impl_in.l0 k x l (l.length : Int) (i : Int) = some (x ++ (l.drop i).map fun s => s53 (i23 s)) := by
  intro k
  induction k with
  | zero => intro x i hi hk _; omega
  | succ k ih =>
    intro x i hi hk hx
    rw [impl_in.l0]
    by_cases h : i < l.length
    · rw [if_pos (by omega), if_pos (by omega), if_pos (by omega), rd23_get2 l i h]
      simp only [intervals_NewInterval.f, Option.bind_some]
      rw [if_pos (by omega), IntWalk.wrap64_in _ (by omega), show ((i : Int) + 1) = ((i + 1 : Nat) : Int) by omega, ih _ (i + 1) (by omega) (by omega) (by simp; omega)]
      rw [List.drop_eq_getElem_cons h, List.map_cons, List.append_assoc]
      rfl
    · rw [if_neg (by omega), List.drop_eq_nil_of_le (by omega), List.map_nil, List.append_nil]
theorem in_f2 (l : List S23) (hl : l.length ≤ 4294967296) (k : Nat) (hk : l.length < k) : impl_in.f k l = some (l.map fun s => s53 (i23 s)) := by
  have := in_l2 l hl k [] 0 (by omega) (by omega) rfl
  rw [List.drop_zero, List.nil_append] at this
  exact this
/-- What check hands back: nil if all is in order, else an error. -/
def CPost (w : World) (b : Bool) (e : Ending) (w' : World) : Prop := (if b then e = .returned .nilIface else ∃ g : Nat, e = .returned (.iface 89 (.pointer (some ⟨g, 0, none⟩)))) ∧ Below w.heap.size w w'
theorem gd_of (l : List S53) (i : Nat) (h : i < l.length) : (l.map i53).getD i (0, 0) = i53 (rd_T53 l (i : Int)) := by simp [rd_T53, List.getD, h]
theorem gd_at (l : List S53) (i m : Nat) (hm : m + 1 = i) (h : i < l.length) : gd (l.map i53) i = (decide ((rd_T53 l (i : Int)).f0 < (rd_T53 l (i : Int)).f1) && (decide ((rd_T53 l (m : Int)).f0 < (rd_T53 l (i : Int)).f0) && decide ((rd_T53 l (m : Int)).f1 ≤ (rd_T53 l (i : Int)).f0))) := by
  subst hm
  unfold gd
  rw [gd_of l (m + 1) h, show m + 1 - 1 = m from rfl, gd_of l m (by omega), show decide (m + 1 = 0) = false from decide_eq_false (by omega), Bool.false_or]
  rfl
theorem good_no (l : List S53) (i : Nat) (h : i < l.length) (hb : gd (l.map i53) i = false) : good (l.map i53) = false := by
  unfold good
  rw [List.all_eq_false]
  exact ⟨i, by simpa using h, by simp [hb]⟩
theorem good_yes (l : List S53) (h : ∀ i, i < l.length → gd (l.map i53) i = true) : good (l.map i53) = true := by
  unfold good
  rw [List.all_eq_true]
  intro i hi
  exact h i (by simpa using hi)
set_option maxHeartbeats 4000000 in
set_option maxRecDepth 100000 in
theorem check_calls (A1 : Option Addr) (c1 : Nat) (l1 : List S53) (w : World) (hr1 : Kd.C k53 w A1 l1.length l1) (hn : l1.length ≤ 4294967296) :
    Calls Try.prog 51 #[.slice A1 l1.length c1] w (CPost w (good (l1.map i53))) := by
  have hu53 := Try.underlying53
  have HB := Aside0.mk (Below.refl w.heap.size w)
  have HR1 := Aside0.mk hr1
  have HN := Aside0.mk hn
  clear hr1
  go_enter Try.func51, Try.ntmps51
  go_wp2
  go_loopg [3] (l1.length + 1) (fun kq v3 wq => ∃ i : Nat, v3 = .int .i64 (i : Int) ∧ Aside0 (i ≤ l1.length ∧ l1.length - i < kq) ∧ Aside0 (∀ j, j < i → gd (l1.map i53) j = true) ∧ Aside0 (Below w.heap.size w wq))
  case atStart => exact ⟨0, rfl, ⟨Nat.zero_le _, by omega⟩, ⟨fun j hj => by omega⟩, HB⟩
  case round =>
    clear HB hn
    obtain ⟨i, rfl, HI, HG, HB⟩ := hrel
    cases gk with
    | zero => exact absurd HI.out.2 (by omega)
    | succ k1 =>
      by_cases hlt : i < l1.length
      rotate_left
      · have HY := Aside0.mk (good_yes l1 (fun j hj => HG.out j (by omega)))
        have d1 : decide ((i : Int) < (l1.length : Int)) = false := decide_eq_false (by omega)
        have d2 : decide (i < l1.length) = false := decide_eq_false (by omega)
        clear hlt
        go_wp2
        go_ret
        refine ⟨?_, by repeat (first | (with_reducible first | exact HB.out | apply below_alloc | apply pw_below_drewN | apply below_drew1) | exact HB.out)⟩
        rw [HY.out]
        rfl
      · have hn := HN.out
        have d1 : decide ((i : Int) < (l1.length : Int)) = true := decide_eq_true (by omega)
        have d2 : decide (i < l1.length) = true := decide_eq_true (by omega)
        have i1 : (i : Int) ≤ 4294967296 := by omega
        by_cases ha : (rd_T53 l1 (i : Int)).f1 ≤ (rd_T53 l1 (i : Int)).f0
        · have HNO := Aside0.mk (good_no l1 i hlt (by unfold gd; rw [gd_of l1 i hlt, decide_eq_false (show ¬ (i53 (rd_T53 l1 (i : Int))).1 < (i53 (rd_T53 l1 (i : Int))).2 from fun h => by simp only [i53] at h; omega)]; rfl))
          have p1 : (0 : Int) ≤ (i : Int) := by omega
          have q1 : (i : Int) < (l1.length : Int) := by omega
          obtain ⟨ad1, e1, hx1, hy1⟩ := at_T53 HR1.out (i : Int) p1 q1
          cases e1
          simp only [Int.toNat_natCast, Int.toNat_zero, Nat.zero_mul] at hx1 hy1
          replace p1 := eq_true p1
          replace q1 := eq_true q1
          have HX1 := Aside0.mk hx1
          have HY1 := Aside0.mk hy1
          clear hx1 hy1
          have da : decide ((rd_T53 l1 (i : Int)).f1 ≤ (rd_T53 l1 (i : Int)).f0) = true := decide_eq_true ha
          clear ha hlt hn
          (try clear hx1 hy1); have hx1 := (HB.out.cell (World.block_lt_of_cell? _ _ HX1.out)).trans HX1.out; have hy1 := (HB.out.cell (World.block_lt_of_cell? _ _ HY1.out)).trans HY1.out
          go_wp2_with (first | (go_at_call 48; (with_reducible refine (errNew2_calls _ _).mono ?_); rintro e we ⟨be, rfl, bel⟩; have n0_ := Aside0.mk (below_step (by repeat (first | (with_reducible first | exact HB.out | apply below_alloc | apply pw_below_drewN | apply below_drew1) | exact HB.out)) bel); clear HB; have HB := n0_; clear n0_ bel))
          go_ret
          refine ⟨?_, by repeat (first | (with_reducible first | exact HB.out | apply below_alloc | apply pw_below_drewN | apply below_drew1) | exact HB.out)⟩
          rw [HNO.out]
          exact ⟨be, rfl⟩
        · by_cases h0 : i = 0
          · subst h0
            have HYES := Aside0.mk (show gd (l1.map i53) 0 = true by unfold gd; rw [gd_of l1 0 hlt, decide_eq_true (show (i53 (rd_T53 l1 ((0 : Nat) : Int))).1 < (i53 (rd_T53 l1 ((0 : Nat) : Int))).2 by simp only [i53]; omega)]; rfl)
            have p1 : (0 : Int) ≤ (0 : Int) := by omega
            have q1 : (0 : Int) < (l1.length : Int) := by omega
            obtain ⟨ad1, e1, hx1, hy1⟩ := at_T53 HR1.out (0 : Int) p1 q1
            cases e1
            simp only [Int.toNat_natCast, Int.toNat_zero, Nat.zero_mul] at hx1 hy1
            rw [show ad1.add 0 = ad1 from by cases ad1; rfl] at hx1 hy1
            replace p1 := eq_true p1
            replace q1 := eq_true q1
            have HX1 := Aside0.mk hx1
            have HY1 := Aside0.mk hy1
            clear hx1 hy1
            have da : decide ((rd_T53 l1 0).f1 ≤ (rd_T53 l1 0).f0) = false := decide_eq_false ha
            have hlz : 0 < l1.length := hlt
            have HI2 := Aside0.mk (show 0 + 1 ≤ l1.length ∧ l1.length - (0 + 1) < k1 by have h2 := HI.out.2; omega)
            clear ha hlt hn d1 d2
            have d1 : decide ((0 : Int) < (l1.length : Int)) = true := decide_eq_true (by omega)
            have d2 : decide (0 < l1.length) = true := decide_eq_true (by omega)
            (try clear hx1 hy1); have hx1 := (HB.out.cell (World.block_lt_of_cell? _ _ HX1.out)).trans HX1.out; have hy1 := (HB.out.cell (World.block_lt_of_cell? _ _ HY1.out)).trans HY1.out
            go_wp2
            go_roundg k1
            case measure => omega
            case rel => exact ⟨0 + 1, by go_num, HI2, ⟨fun j hj => by rcases Nat.lt_or_eq_of_le (Nat.le_of_lt_succ hj) with h | h; exact HG.out j h; rw [h]; exact HYES.out⟩, ⟨by repeat (first | (with_reducible first | exact HB.out | apply below_alloc | apply pw_below_drewN | apply below_drew1) | exact HB.out)⟩⟩
          · obtain ⟨m, hm⟩ : ∃ m, m + 1 = i := ⟨i - 1, by omega⟩
            have da : decide ((rd_T53 l1 (i : Int)).f1 ≤ (rd_T53 l1 (i : Int)).f0) = false := decide_eq_false ha
            by_cases hb : (rd_T53 l1 (i : Int)).f0 ≤ (rd_T53 l1 (m : Int)).f0
            · have HNO := Aside0.mk (good_no l1 i hlt (by rw [gd_at l1 i m hm hlt]; rw [decide_eq_false (show ¬ (rd_T53 l1 (m : Int)).f0 < (rd_T53 l1 (i : Int)).f0 by omega)]; simp))
              have db : decide ((rd_T53 l1 (i : Int)).f0 ≤ (rd_T53 l1 (m : Int)).f0) = true := decide_eq_true hb
              have p1 : (0 : Int) ≤ (i : Int) := by omega
              have q1 : (i : Int) < (l1.length : Int) := by omega
              obtain ⟨ad1, e1, hx1, hy1⟩ := at_T53 HR1.out (i : Int) p1 q1
              cases e1
              simp only [Int.toNat_natCast, Int.toNat_zero, Nat.zero_mul] at hx1 hy1
              replace p1 := eq_true p1
              replace q1 := eq_true q1
              have HX1 := Aside0.mk hx1
              have HY1 := Aside0.mk hy1
              clear hx1 hy1
              have p2 : (0 : Int) ≤ (m : Int) := by omega
              have q2 : (m : Int) < (l1.length : Int) := by omega
              obtain ⟨ad2, e2, hx2, hy2⟩ := at_T53 HR1.out (m : Int) p2 q2
              obtain rfl : ad1 = ad2 := (by injection e2)
              simp only [Int.toNat_natCast, Int.toNat_zero, Nat.zero_mul] at hx2 hy2
              replace p2 := eq_true p2
              replace q2 := eq_true q2
              have HX2 := Aside0.mk hx2
              have HY2 := Aside0.mk hy2
              clear hx2 hy2
              have b2 : -9223372036854775808 ≤ (m : Int) ∧ (m : Int) ≤ 9223372036854775807 := by omega
              have z0 : ((i : Int) == 0) = false := by simp; omega
              have z1 : (i == 0) = false := by simp; omega
              have s2 : (i : Int) - 1 = (m : Int) := by omega
              have s20 : IntKind.i64.wrap (m : Int) = (m : Int) := IntWalk.i64_in _ b2
              have s21 : wrap64 (m : Int) = (m : Int) := IntWalk.wrap64_in _ b2
              clear b2
              clear ha h0 hb hlt hn hm
              (try clear hx1 hy1); have hx1 := (HB.out.cell (World.block_lt_of_cell? _ _ HX1.out)).trans HX1.out; have hy1 := (HB.out.cell (World.block_lt_of_cell? _ _ HY1.out)).trans HY1.out
              (try clear hx2 hy2); have hx2 := (HB.out.cell (World.block_lt_of_cell? _ _ HX2.out)).trans HX2.out; have hy2 := (HB.out.cell (World.block_lt_of_cell? _ _ HY2.out)).trans HY2.out
              go_wp2_with (first | (go_at_call 48; (with_reducible refine (errNew2_calls _ _).mono ?_); rintro e we ⟨be, rfl, bel⟩; have n0_ := Aside0.mk (below_step (by repeat (first | (with_reducible first | exact HB.out | apply below_alloc | apply pw_below_drewN | apply below_drew1) | exact HB.out)) bel); clear HB; have HB := n0_; clear n0_ bel))
              go_ret
              refine ⟨?_, by repeat (first | (with_reducible first | exact HB.out | apply below_alloc | apply pw_below_drewN | apply below_drew1) | exact HB.out)⟩
              rw [HNO.out]
              exact ⟨be, rfl⟩
            · by_cases hc : (rd_T53 l1 (i : Int)).f0 < (rd_T53 l1 (m : Int)).f1
              · have HNO := Aside0.mk (good_no l1 i hlt (by rw [gd_at l1 i m hm hlt]; rw [decide_eq_false (show ¬ (rd_T53 l1 (m : Int)).f1 ≤ (rd_T53 l1 (i : Int)).f0 by omega)]; simp))
                have db : decide ((rd_T53 l1 (i : Int)).f0 ≤ (rd_T53 l1 (m : Int)).f0) = false := decide_eq_false hb
                have dc : decide ((rd_T53 l1 (i : Int)).f0 < (rd_T53 l1 (m : Int)).f1) = true := decide_eq_true hc
                have p1 : (0 : Int) ≤ (i : Int) := by omega
                have q1 : (i : Int) < (l1.length : Int) := by omega
                obtain ⟨ad1, e1, hx1, hy1⟩ := at_T53 HR1.out (i : Int) p1 q1
                cases e1
                simp only [Int.toNat_natCast, Int.toNat_zero, Nat.zero_mul] at hx1 hy1
                replace p1 := eq_true p1
                replace q1 := eq_true q1
                have HX1 := Aside0.mk hx1
                have HY1 := Aside0.mk hy1
                clear hx1 hy1
                have p2 : (0 : Int) ≤ (m : Int) := by omega
                have q2 : (m : Int) < (l1.length : Int) := by omega
                obtain ⟨ad2, e2, hx2, hy2⟩ := at_T53 HR1.out (m : Int) p2 q2
                obtain rfl : ad1 = ad2 := (by injection e2)
                simp only [Int.toNat_natCast, Int.toNat_zero, Nat.zero_mul] at hx2 hy2
                replace p2 := eq_true p2
                replace q2 := eq_true q2
                have HX2 := Aside0.mk hx2
                have HY2 := Aside0.mk hy2
                clear hx2 hy2
                have b2 : -9223372036854775808 ≤ (m : Int) ∧ (m : Int) ≤ 9223372036854775807 := by omega
                have z0 : ((i : Int) == 0) = false := by simp; omega
                have z1 : (i == 0) = false := by simp; omega
                have s2 : (i : Int) - 1 = (m : Int) := by omega
                have s20 : IntKind.i64.wrap (m : Int) = (m : Int) := IntWalk.i64_in _ b2
                have s21 : wrap64 (m : Int) = (m : Int) := IntWalk.wrap64_in _ b2
                clear b2
                clear ha h0 hb hc hlt hn hm
                (try clear hx1 hy1); have hx1 := (HB.out.cell (World.block_lt_of_cell? _ _ HX1.out)).trans HX1.out; have hy1 := (HB.out.cell (World.block_lt_of_cell? _ _ HY1.out)).trans HY1.out
                (try clear hx2 hy2); have hx2 := (HB.out.cell (World.block_lt_of_cell? _ _ HX2.out)).trans HX2.out; have hy2 := (HB.out.cell (World.block_lt_of_cell? _ _ HY2.out)).trans HY2.out
                go_wp2_with (first | (go_at_call 48; (with_reducible refine (errNew2_calls _ _).mono ?_); rintro e we ⟨be, rfl, bel⟩; have n0_ := Aside0.mk (below_step (by repeat (first | (with_reducible first | exact HB.out | apply below_alloc | apply pw_below_drewN | apply below_drew1) | exact HB.out)) bel); clear HB; have HB := n0_; clear n0_ bel))
                go_ret
                refine ⟨?_, by repeat (first | (with_reducible first | exact HB.out | apply below_alloc | apply pw_below_drewN | apply below_drew1) | exact HB.out)⟩
                rw [HNO.out]
                exact ⟨be, rfl⟩
              · have HYES := Aside0.mk (show gd (l1.map i53) i = true by rw [gd_at l1 i m hm hlt]; rw [decide_eq_true (show (rd_T53 l1 (i : Int)).f0 < (rd_T53 l1 (i : Int)).f1 by omega), decide_eq_true (show (rd_T53 l1 (m : Int)).f0 < (rd_T53 l1 (i : Int)).f0 by omega), decide_eq_true (show (rd_T53 l1 (m : Int)).f1 ≤ (rd_T53 l1 (i : Int)).f0 by omega)]; simp)
                have db : decide ((rd_T53 l1 (i : Int)).f0 ≤ (rd_T53 l1 (m : Int)).f0) = false := decide_eq_false hb
                have dc : decide ((rd_T53 l1 (i : Int)).f0 < (rd_T53 l1 (m : Int)).f1) = false := decide_eq_false hc
                have p1 : (0 : Int) ≤ (i : Int) := by omega
                have q1 : (i : Int) < (l1.length : Int) := by omega
                obtain ⟨ad1, e1, hx1, hy1⟩ := at_T53 HR1.out (i : Int) p1 q1
                cases e1
                simp only [Int.toNat_natCast, Int.toNat_zero, Nat.zero_mul] at hx1 hy1
                replace p1 := eq_true p1
                replace q1 := eq_true q1
                have HX1 := Aside0.mk hx1
                have HY1 := Aside0.mk hy1
                clear hx1 hy1
                have p2 : (0 : Int) ≤ (m : Int) := by omega
                have q2 : (m : Int) < (l1.length : Int) := by omega
                obtain ⟨ad2, e2, hx2, hy2⟩ := at_T53 HR1.out (m : Int) p2 q2
                obtain rfl : ad1 = ad2 := (by injection e2)
                simp only [Int.toNat_natCast, Int.toNat_zero, Nat.zero_mul] at hx2 hy2
                replace p2 := eq_true p2
                replace q2 := eq_true q2
                have HX2 := Aside0.mk hx2
                have HY2 := Aside0.mk hy2
                clear hx2 hy2
                have b2 : -9223372036854775808 ≤ (m : Int) ∧ (m : Int) ≤ 9223372036854775807 := by omega
                have z0 : ((i : Int) == 0) = false := by simp; omega
                have z1 : (i == 0) = false := by simp; omega
                have s2 : (i : Int) - 1 = (m : Int) := by omega
                have s20 : IntKind.i64.wrap (m : Int) = (m : Int) := IntWalk.i64_in _ b2
                have s21 : wrap64 (m : Int) = (m : Int) := IntWalk.wrap64_in _ b2
                clear b2
                have HI2 := Aside0.mk (show i + 1 ≤ l1.length ∧ l1.length - (i + 1) < k1 by have h2 := HI.out.2; omega)
                clear ha h0 hb hc hlt hn hm
                (try clear hx1 hy1); have hx1 := (HB.out.cell (World.block_lt_of_cell? _ _ HX1.out)).trans HX1.out; have hy1 := (HB.out.cell (World.block_lt_of_cell? _ _ HY1.out)).trans HY1.out
                (try clear hx2 hy2); have hx2 := (HB.out.cell (World.block_lt_of_cell? _ _ HX2.out)).trans HX2.out; have hy2 := (HB.out.cell (World.block_lt_of_cell? _ _ HY2.out)).trans HY2.out
                go_wp2
                go_roundg k1
                case measure => omega
                case rel => exact ⟨i + 1, by go_num, HI2, ⟨fun j hj => by rcases Nat.lt_or_eq_of_le (Nat.le_of_lt_succ hj) with h | h; exact HG.out j h; rw [h]; exact HYES.out⟩, ⟨by repeat (first | (with_reducible first | exact HB.out | apply below_alloc | apply pw_below_drewN | apply below_drew1) | exact HB.out)⟩⟩
set_option maxHeartbeats 4000000 in
set_option maxRecDepth 100000 in
theorem Check_calls (A1 : Option Addr) (c1 : Nat) (l1 : List S53) (w : World) (hr1 : Kd.C k53 w A1 l1.length l1) (hn : l1.length ≤ 4294967296) :
    Calls Try.prog 35 #[.slice A1 l1.length c1] w (CPost w (good (l1.map i53))) := by
  have HR1 := Aside0.mk hr1
  have HN := Aside0.mk hn
  clear hr1 hn
  go_enter Try.func35, Try.ntmps35
  cases hg : good (l1.map i53) with
  | true =>
    have HG := Aside0.mk hg
    clear hg
    go_wp2_with (fail)
    go_at_call 51
    (with_reducible refine (check_calls A1 c1 l1 _ HR1.out HN.out).mono ?_)
    rintro e w' ⟨he, bel⟩
    rw [HG.out] at he
    obtain rfl : e = .returned .nilIface := he
    have HB := Aside0.mk bel
    clear bel
    go_wp2
    go_ret
    exact ⟨rfl, HB.out⟩
  | false =>
    have HG := Aside0.mk hg
    clear hg
    go_wp2_with (fail)
    go_at_call 51
    (with_reducible refine (check_calls A1 c1 l1 _ HR1.out HN.out).mono ?_)
    rintro e w' ⟨he, bel⟩
    rw [HG.out] at he
    obtain ⟨g, rfl⟩ : ∃ g : Nat, e = .returned (.iface 89 (.pointer (some ⟨g, 0, none⟩))) := he
    have HB := Aside0.mk bel
    clear bel
    go_wp2
    go_ret
    exact ⟨⟨g, rfl⟩, HB.out⟩
set_option maxHeartbeats 4000000 in
set_option maxRecDepth 100000 in
theorem impl_Check.calls (A0 : Option Addr) (c0 : Nat) (l0 : List (S23)) (r : Bool) (w : World) (hr0 : Kd.C k23 w A0 l0.length l0) (hc0 : l0.length ≤ c0) (h : impl_Check.f l0 = some r) :
    Calls Try.prog 20 #[.slice A0 l0.length c0] w fun e w' => e = .returned (.bool r) ∧ Below w.heap.size w w' := by
  unfold impl_Check.f at h
  split at h
  · rename_i hn
    obtain rfl := Option.some.inj h
    have e0 : (l0.map fun s => s53 (i23 s)).map i53 = l0.map i23 := by rw [List.map_map]; rfl
    have HI0 := Aside0.mk (in_f2 l0 hn (l0.length + 1) (by omega))
    have HY : Aside0 ((l0.map fun s => s53 (i23 s)).length ≤ 4294967296) := ⟨by rw [List.length_map]; exact hn⟩
    rw [← e0]
    generalize hy0 : (l0.map fun s => s53 (i23 s)) = y0 at HI0 HY
    have HR0 := Aside0.mk hr0
    have HC0 := Aside0.mk hc0
    have HB := Aside0.mk (Below.refl w.heap.size w)
    clear hr0 hc0 hn e0 hy0 h
    go_enter Try.func20, Try.ntmps20
    cases hg : good (y0.map i53) with
    | true =>
      have HG := Aside0.mk hg
      clear hg
      go_wp2_with (fail)
      go_at_call 36
      (with_reducible refine (impl_in.calls (l0.length + 1) A0 c0 l0 y0 _ HR0.out HC0.out HI0.out).mono ?_)
      rintro e w1 ⟨v0, rfl, hR, bel⟩
      obtain ⟨B0, d0, rfl, hd0, hC0⟩ := Kd.R_reads hR
      have HX0 := Aside0.mk hC0
      have n0_ := Aside0.mk (below_step HB.out bel)
      clear HB hR hC0 hd0
      have HB := n0_
      clear n0_ bel
      go_wp2_with (fail)
      go_at_call 35
      (with_reducible refine (Check_calls B0 d0 y0 _ HX0.out HY.out).mono ?_)
      rintro e w2 ⟨he, bel⟩
      rw [HG.out] at he
      obtain rfl : e = .returned .nilIface := he
      have n0_ := Aside0.mk (below_step HB.out bel)
      clear HB
      have HB := n0_
      clear n0_ bel
      go_wp2
      go_ret
      exact ⟨by first | rfl | (simp; done), HB.out⟩
    | false =>
      have HG := Aside0.mk hg
      clear hg
      go_wp2_with (fail)
      go_at_call 36
      (with_reducible refine (impl_in.calls (l0.length + 1) A0 c0 l0 y0 _ HR0.out HC0.out HI0.out).mono ?_)
      rintro e w1 ⟨v0, rfl, hR, bel⟩
      obtain ⟨B0, d0, rfl, hd0, hC0⟩ := Kd.R_reads hR
      have HX0 := Aside0.mk hC0
      have n0_ := Aside0.mk (below_step HB.out bel)
      clear HB hR hC0 hd0
      have HB := n0_
      clear n0_ bel
      go_wp2_with (fail)
      go_at_call 35
      (with_reducible refine (Check_calls B0 d0 y0 _ HX0.out HY.out).mono ?_)
      rintro e w2 ⟨he, bel⟩
      rw [HG.out] at he
      obtain ⟨g, rfl⟩ : ∃ g : Nat, e = .returned (.iface 89 (.pointer (some ⟨g, 0, none⟩))) := he
      have n0_ := Aside0.mk (below_step HB.out bel)
      clear HB
      have HB := n0_
      clear n0_ bel
      go_wp2
      go_ret
      exact ⟨by first | rfl | (simp; done), HB.out⟩
  · cases h
end Go.Proofs.Ytlgdibeklelfgaa.PAll
