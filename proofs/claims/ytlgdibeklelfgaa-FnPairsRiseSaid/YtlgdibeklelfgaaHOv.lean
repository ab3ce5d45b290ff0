/- Intervals.Overlaps by hand. -/
import Derived.Test.YtlgdibeklelfgaaHPv2
import Derived.Test.YtlgdibeklelfgaaPAllxA
import Derived.Deep.RegionHeld3
namespace Go.Proofs.Ytlgdibeklelfgaa.PAll
open Go.RowKit Go.Proofs.YtlgdibeklelfgaaW.PrintWords Go.Proofs.YtlgdibeklelfgaaW.PrintLast Go.Proofs.YtlgdibeklelfgaaW.PrintMore
attribute [local go_sem] max2_int min2_int max_two min_two max_three min_three max_four min_four
set_option linter.unusedVariables false
set_option linter.unusedSimpArgs false
set_option maxHeartbeats 4000000 in
set_option maxRecDepth 100000 in
theorem ov_e1 (A1 : Option Addr) (c1 : Nat) (l1 : List S53) (A2 : Option Addr) (c2 : Nat) (l2 : List S53) (w : World) (hr1 : Kd.C k53 w A1 l1.length l1) (hr2 : Kd.C k53 w A2 l2.length l2) (h1 : l1.length = 0) :
    Calls Try.prog 39 #[.slice A1 l1.length c1, .slice A2 l2.length c2] w fun e w' => e = .returned (.bool false) ∧ Below w.heap.size w w' := by
  have hu53 := Try.underlying53
  have hu80 := Try.underlying80
  have hu82 := Try.underlying82
  have HB := Aside0.mk (Below.refl w.heap.size w)
  have z0 : ((l1.length : Int) == 0) = true := by rw [h1]; rfl
  have z1 : (l1.length == 0) = true := by rw [h1]; rfl
  clear h1
  clear hr1 hr2
  go_enter Try.func39, Try.ntmps39
  go_wp2
  go_ret
  exact ⟨by first | rfl | (simp; done) | (simp [*]; done), by repeat (first | (with_reducible first | exact HB.out | apply below_alloc | apply pw_below_drewN | apply below_drew1) | exact HB.out)⟩
set_option maxHeartbeats 4000000 in
set_option maxRecDepth 100000 in
theorem ov_e2 (A1 : Option Addr) (c1 : Nat) (l1 : List S53) (A2 : Option Addr) (c2 : Nat) (l2 : List S53) (w : World) (hr1 : Kd.C k53 w A1 l1.length l1) (hr2 : Kd.C k53 w A2 l2.length l2) (h1 : 0 < l1.length) (h2 : l2.length = 0) :
    Calls Try.prog 39 #[.slice A1 l1.length c1, .slice A2 l2.length c2] w fun e w' => e = .returned (.bool false) ∧ Below w.heap.size w w' := by
  have hu53 := Try.underlying53
  have hu80 := Try.underlying80
  have hu82 := Try.underlying82
  have HB := Aside0.mk (Below.refl w.heap.size w)
  have yl10 : ((l1.length : Int) == 0) = false := by simp; exact List.ne_nil_of_length_pos h1
  have yl11 : (l1.length == 0) = false := by simp; exact List.ne_nil_of_length_pos h1
  have z0 : ((l2.length : Int) == 0) = true := by rw [h2]; rfl
  have z1 : (l2.length == 0) = true := by rw [h2]; rfl
  clear h1 h2
  clear hr1 hr2
  go_enter Try.func39, Try.ntmps39
  go_wp2
  go_ret
  exact ⟨by first | rfl | (simp; done) | (simp [*]; done), by repeat (first | (with_reducible first | exact HB.out | apply below_alloc | apply pw_below_drewN | apply below_drew1) | exact HB.out)⟩
set_option maxHeartbeats 4000000 in
set_option maxRecDepth 100000 in
theorem ov_d1 (A1 : Option Addr) (c1 : Nat) (l1 : List S53) (A2 : Option Addr) (c2 : Nat) (l2 : List S53) (m1 m2 : Nat) (w : World) (hr1 : Kd.C k53 w A1 l1.length l1) (hr2 : Kd.C k53 w A2 l2.length l2) (h1 : 0 < l1.length) (h2 : 0 < l2.length) (hn1 : l1.length ≤ 4294967296) (hn2 : l2.length ≤ 4294967296) (hm1 : m1 + 1 = l1.length) (hm2 : m2 + 1 = l2.length) (hd1 : (rd_T53 l1 (m1 : Int)).f1 ≤ (rd_T53 l2 0).f0) :
    Calls Try.prog 39 #[.slice A1 l1.length c1, .slice A2 l2.length c2] w fun e w' => e = .returned (.bool false) ∧ Below w.heap.size w w' := by
  have hu53 := Try.underlying53
  have hu80 := Try.underlying80
  have hu82 := Try.underlying82
  have HB := Aside0.mk (Below.refl w.heap.size w)
  have p1 : (0 : Int) ≤ (m1 : Int) := by omega
  have q1 : (m1 : Int) < (l1.length : Int) := by omega
  obtain ⟨ad1, e1, hx1, hy1⟩ := at_T53 hr1 (m1 : Int) p1 q1
  cases e1
  simp only [Int.toNat_natCast, Int.toNat_zero, Nat.zero_mul] at hx1 hy1
  replace p1 := eq_true p1
  replace q1 := eq_true q1
  have HX1 := Aside0.mk hx1
  have HY1 := Aside0.mk hy1
  clear hx1 hy1
  have p2 : (0 : Int) ≤ (m2 : Int) := by omega
  have q2 : (m2 : Int) < (l2.length : Int) := by omega
  obtain ⟨ad2, e2, hx2, hy2⟩ := at_T53 hr2 (m2 : Int) p2 q2
  cases e2
  simp only [Int.toNat_natCast, Int.toNat_zero, Nat.zero_mul] at hx2 hy2
  replace p2 := eq_true p2
  replace q2 := eq_true q2
  have HX2 := Aside0.mk hx2
  have HY2 := Aside0.mk hy2
  clear hx2 hy2
  have p3 : (0 : Int) ≤ (0 : Int) := by omega
  have q3 : (0 : Int) < (l1.length : Int) := by omega
  obtain ⟨ad3, e3, hx3, hy3⟩ := at_T53 hr1 (0 : Int) p3 q3
  obtain rfl : ad1 = ad3 := (by injection e3)
  simp only [Int.toNat_natCast, Int.toNat_zero, Nat.zero_mul] at hx3 hy3
  rw [show ad1.add 0 = ad1 from by cases ad1; rfl] at hx3 hy3
  replace p3 := eq_true p3
  replace q3 := eq_true q3
  have HX3 := Aside0.mk hx3
  have HY3 := Aside0.mk hy3
  clear hx3 hy3
  have p4 : (0 : Int) ≤ (0 : Int) := by omega
  have q4 : (0 : Int) < (l2.length : Int) := by omega
  obtain ⟨ad4, e4, hx4, hy4⟩ := at_T53 hr2 (0 : Int) p4 q4
  obtain rfl : ad2 = ad4 := (by injection e4)
  simp only [Int.toNat_natCast, Int.toNat_zero, Nat.zero_mul] at hx4 hy4
  rw [show ad2.add 0 = ad2 from by cases ad2; rfl] at hx4 hy4
  replace p4 := eq_true p4
  replace q4 := eq_true q4
  have HX4 := Aside0.mk hx4
  have HY4 := Aside0.mk hy4
  clear hx4 hy4
  have b1 : -9223372036854775808 ≤ (m1 : Int) ∧ (m1 : Int) ≤ 9223372036854775807 := by omega
  have b2 : -9223372036854775808 ≤ (m2 : Int) ∧ (m2 : Int) ≤ 9223372036854775807 := by omega
  have s12 : (l1.length : Int) - 1 = (m1 : Int) := by omega
  have s22 : (l2.length : Int) - 1 = (m2 : Int) := by omega
  have yl10 : ((l1.length : Int) == 0) = false := by simp; exact List.ne_nil_of_length_pos h1
  have yl11 : (l1.length == 0) = false := by simp; exact List.ne_nil_of_length_pos h1
  have yl20 : ((l2.length : Int) == 0) = false := by simp; exact List.ne_nil_of_length_pos h2
  have yl21 : (l2.length == 0) = false := by simp; exact List.ne_nil_of_length_pos h2
  have s10 : IntKind.i64.wrap (m1 : Int) = (m1 : Int) := IntWalk.i64_in _ b1
  have s11 : wrap64 (m1 : Int) = (m1 : Int) := IntWalk.wrap64_in _ b1
  clear b1
  have s20 : IntKind.i64.wrap (m2 : Int) = (m2 : Int) := IntWalk.i64_in _ b2
  have s21 : wrap64 (m2 : Int) = (m2 : Int) := IntWalk.wrap64_in _ b2
  clear b2
  have d1 : decide ((rd_T53 l1 (m1 : Int)).f1 ≤ (rd_T53 l2 0).f0) = true := decide_eq_true hd1
  clear hm1 hm2 hd1
  clear hr1 hr2
  go_enter Try.func39, Try.ntmps39
  go_wp2
  (try clear hx1 hy1); have hx1 := (HB.out.cell (World.block_lt_of_cell? _ _ HX1.out)).trans HX1.out; have hy1 := (HB.out.cell (World.block_lt_of_cell? _ _ HY1.out)).trans HY1.out
  (try clear hx2 hy2); have hx2 := (HB.out.cell (World.block_lt_of_cell? _ _ HX2.out)).trans HX2.out; have hy2 := (HB.out.cell (World.block_lt_of_cell? _ _ HY2.out)).trans HY2.out
  (try clear hx3 hy3); have hx3 := (HB.out.cell (World.block_lt_of_cell? _ _ HX3.out)).trans HX3.out; have hy3 := (HB.out.cell (World.block_lt_of_cell? _ _ HY3.out)).trans HY3.out
  (try clear hx4 hy4); have hx4 := (HB.out.cell (World.block_lt_of_cell? _ _ HX4.out)).trans HX4.out; have hy4 := (HB.out.cell (World.block_lt_of_cell? _ _ HY4.out)).trans HY4.out
  go_quiet (fail)
  go_wp2
  go_ret
  exact ⟨by first | rfl | (simp; done) | (simp [*]; done), by repeat (first | (with_reducible first | exact HB.out | apply below_alloc | apply pw_below_drewN | apply below_drew1) | exact HB.out)⟩
set_option maxHeartbeats 4000000 in
set_option maxRecDepth 100000 in
theorem ov_d2 (A1 : Option Addr) (c1 : Nat) (l1 : List S53) (A2 : Option Addr) (c2 : Nat) (l2 : List S53) (m1 m2 : Nat) (w : World) (hr1 : Kd.C k53 w A1 l1.length l1) (hr2 : Kd.C k53 w A2 l2.length l2) (h1 : 0 < l1.length) (h2 : 0 < l2.length) (hn1 : l1.length ≤ 4294967296) (hn2 : l2.length ≤ 4294967296) (hm1 : m1 + 1 = l1.length) (hm2 : m2 + 1 = l2.length) (hd0 : ¬ (rd_T53 l1 (m1 : Int)).f1 ≤ (rd_T53 l2 0).f0) (hd1 : (rd_T53 l2 (m2 : Int)).f1 ≤ (rd_T53 l1 0).f0) :
    Calls Try.prog 39 #[.slice A1 l1.length c1, .slice A2 l2.length c2] w fun e w' => e = .returned (.bool false) ∧ Below w.heap.size w w' := by
  have hu53 := Try.underlying53
  have hu80 := Try.underlying80
  have hu82 := Try.underlying82
  have HB := Aside0.mk (Below.refl w.heap.size w)
  have p1 : (0 : Int) ≤ (m1 : Int) := by omega
  have q1 : (m1 : Int) < (l1.length : Int) := by omega
  obtain ⟨ad1, e1, hx1, hy1⟩ := at_T53 hr1 (m1 : Int) p1 q1
  cases e1
  simp only [Int.toNat_natCast, Int.toNat_zero, Nat.zero_mul] at hx1 hy1
  replace p1 := eq_true p1
  replace q1 := eq_true q1
  have HX1 := Aside0.mk hx1
  have HY1 := Aside0.mk hy1
  clear hx1 hy1
  have p2 : (0 : Int) ≤ (m2 : Int) := by omega
  have q2 : (m2 : Int) < (l2.length : Int) := by omega
  obtain ⟨ad2, e2, hx2, hy2⟩ := at_T53 hr2 (m2 : Int) p2 q2
  cases e2
  simp only [Int.toNat_natCast, Int.toNat_zero, Nat.zero_mul] at hx2 hy2
  replace p2 := eq_true p2
  replace q2 := eq_true q2
  have HX2 := Aside0.mk hx2
  have HY2 := Aside0.mk hy2
  clear hx2 hy2
  have p3 : (0 : Int) ≤ (0 : Int) := by omega
  have q3 : (0 : Int) < (l1.length : Int) := by omega
  obtain ⟨ad3, e3, hx3, hy3⟩ := at_T53 hr1 (0 : Int) p3 q3
  obtain rfl : ad1 = ad3 := (by injection e3)
  simp only [Int.toNat_natCast, Int.toNat_zero, Nat.zero_mul] at hx3 hy3
  rw [show ad1.add 0 = ad1 from by cases ad1; rfl] at hx3 hy3
  replace p3 := eq_true p3
  replace q3 := eq_true q3
  have HX3 := Aside0.mk hx3
  have HY3 := Aside0.mk hy3
  clear hx3 hy3
  have p4 : (0 : Int) ≤ (0 : Int) := by omega
  have q4 : (0 : Int) < (l2.length : Int) := by omega
  obtain ⟨ad4, e4, hx4, hy4⟩ := at_T53 hr2 (0 : Int) p4 q4
  obtain rfl : ad2 = ad4 := (by injection e4)
  simp only [Int.toNat_natCast, Int.toNat_zero, Nat.zero_mul] at hx4 hy4
  rw [show ad2.add 0 = ad2 from by cases ad2; rfl] at hx4 hy4
  replace p4 := eq_true p4
  replace q4 := eq_true q4
  have HX4 := Aside0.mk hx4
  have HY4 := Aside0.mk hy4
  clear hx4 hy4
  have b1 : -9223372036854775808 ≤ (m1 : Int) ∧ (m1 : Int) ≤ 9223372036854775807 := by omega
  have b2 : -9223372036854775808 ≤ (m2 : Int) ∧ (m2 : Int) ≤ 9223372036854775807 := by omega
  have s12 : (l1.length : Int) - 1 = (m1 : Int) := by omega
  have s22 : (l2.length : Int) - 1 = (m2 : Int) := by omega
  have yl10 : ((l1.length : Int) == 0) = false := by simp; exact List.ne_nil_of_length_pos h1
  have yl11 : (l1.length == 0) = false := by simp; exact List.ne_nil_of_length_pos h1
  have yl20 : ((l2.length : Int) == 0) = false := by simp; exact List.ne_nil_of_length_pos h2
  have yl21 : (l2.length == 0) = false := by simp; exact List.ne_nil_of_length_pos h2
  have s10 : IntKind.i64.wrap (m1 : Int) = (m1 : Int) := IntWalk.i64_in _ b1
  have s11 : wrap64 (m1 : Int) = (m1 : Int) := IntWalk.wrap64_in _ b1
  clear b1
  have s20 : IntKind.i64.wrap (m2 : Int) = (m2 : Int) := IntWalk.i64_in _ b2
  have s21 : wrap64 (m2 : Int) = (m2 : Int) := IntWalk.wrap64_in _ b2
  clear b2
  have d0 : decide ((rd_T53 l1 (m1 : Int)).f1 ≤ (rd_T53 l2 0).f0) = false := decide_eq_false hd0
  have d1 : decide ((rd_T53 l2 (m2 : Int)).f1 ≤ (rd_T53 l1 0).f0) = true := decide_eq_true hd1
  clear hm1 hm2 hd0 hd1
  clear hr1 hr2
  go_enter Try.func39, Try.ntmps39
  go_wp2
  (try clear hx1 hy1); have hx1 := (HB.out.cell (World.block_lt_of_cell? _ _ HX1.out)).trans HX1.out; have hy1 := (HB.out.cell (World.block_lt_of_cell? _ _ HY1.out)).trans HY1.out
  (try clear hx2 hy2); have hx2 := (HB.out.cell (World.block_lt_of_cell? _ _ HX2.out)).trans HX2.out; have hy2 := (HB.out.cell (World.block_lt_of_cell? _ _ HY2.out)).trans HY2.out
  (try clear hx3 hy3); have hx3 := (HB.out.cell (World.block_lt_of_cell? _ _ HX3.out)).trans HX3.out; have hy3 := (HB.out.cell (World.block_lt_of_cell? _ _ HY3.out)).trans HY3.out
  (try clear hx4 hy4); have hx4 := (HB.out.cell (World.block_lt_of_cell? _ _ HX4.out)).trans HX4.out; have hy4 := (HB.out.cell (World.block_lt_of_cell? _ _ HY4.out)).trans HY4.out
  go_quiet (fail)
  go_wp2
  go_ret
  exact ⟨by first | rfl | (simp; done) | (simp [*]; done), by repeat (first | (with_reducible first | exact HB.out | apply below_alloc | apply pw_below_drewN | apply below_drew1) | exact HB.out)⟩
set_option maxHeartbeats 4000000 in
set_option maxRecDepth 100000 in
theorem ov_main (A1 : Option Addr) (c1 : Nat) (l1 : List S53) (A2 : Option Addr) (c2 : Nat) (l2 : List S53) (m1 m2 : Nat) (u v : Int) (b : Bool) (L : List (Iv.I × Bool)) (r : Bool) (w : World) (hr1 : Kd.C k53 w A1 l1.length l1) (hr2 : Kd.C k53 w A2 l2.length l2) (h1 : 0 < l1.length) (h2 : 0 < l2.length) (hn1 : l1.length ≤ 4294967296) (hn2 : l2.length ≤ 4294967296) (hm1 : m1 + 1 = l1.length) (hm2 : m2 + 1 = l2.length) (hd0 : ¬ (rd_T53 l1 (m1 : Int)).f1 ≤ (rd_T53 l2 0).f0) (hd1 : ¬ (rd_T53 l2 (m2 : Int)).f1 ≤ (rd_T53 l1 0).f0) (hL : Iv.walk (l1.map i53) (l2.map i53) = ((u, v), b) :: L) (hsm : ∀ p ∈ ((u, v), b) :: L, sm p.1 = true) (hr : Iv.clash ((u, v), b) L = r) :
    Calls Try.prog 39 #[.slice A1 l1.length c1, .slice A2 l2.length c2] w fun e w' => e = .returned (.bool r) ∧ Below w.heap.size w w' := by
  have hu53 := Try.underlying53
  have hu80 := Try.underlying80
  have hu82 := Try.underlying82
  have HB := Aside0.mk (Below.refl w.heap.size w)
  have p1 : (0 : Int) ≤ (m1 : Int) := by omega
  have q1 : (m1 : Int) < (l1.length : Int) := by omega
  obtain ⟨ad1, e1, hx1, hy1⟩ := at_T53 hr1 (m1 : Int) p1 q1
  cases e1
  simp only [Int.toNat_natCast, Int.toNat_zero, Nat.zero_mul] at hx1 hy1
  replace p1 := eq_true p1
  replace q1 := eq_true q1
  have HX1 := Aside0.mk hx1
  have HY1 := Aside0.mk hy1
  clear hx1 hy1
  have p2 : (0 : Int) ≤ (m2 : Int) := by omega
  have q2 : (m2 : Int) < (l2.length : Int) := by omega
  obtain ⟨ad2, e2, hx2, hy2⟩ := at_T53 hr2 (m2 : Int) p2 q2
  cases e2
  simp only [Int.toNat_natCast, Int.toNat_zero, Nat.zero_mul] at hx2 hy2
  replace p2 := eq_true p2
  replace q2 := eq_true q2
  have HX2 := Aside0.mk hx2
  have HY2 := Aside0.mk hy2
  clear hx2 hy2
  have p3 : (0 : Int) ≤ (0 : Int) := by omega
  have q3 : (0 : Int) < (l1.length : Int) := by omega
  obtain ⟨ad3, e3, hx3, hy3⟩ := at_T53 hr1 (0 : Int) p3 q3
  obtain rfl : ad1 = ad3 := (by injection e3)
  simp only [Int.toNat_natCast, Int.toNat_zero, Nat.zero_mul] at hx3 hy3
  rw [show ad1.add 0 = ad1 from by cases ad1; rfl] at hx3 hy3
  replace p3 := eq_true p3
  replace q3 := eq_true q3
  have HX3 := Aside0.mk hx3
  have HY3 := Aside0.mk hy3
  clear hx3 hy3
  have p4 : (0 : Int) ≤ (0 : Int) := by omega
  have q4 : (0 : Int) < (l2.length : Int) := by omega
  obtain ⟨ad4, e4, hx4, hy4⟩ := at_T53 hr2 (0 : Int) p4 q4
  obtain rfl : ad2 = ad4 := (by injection e4)
  simp only [Int.toNat_natCast, Int.toNat_zero, Nat.zero_mul] at hx4 hy4
  rw [show ad2.add 0 = ad2 from by cases ad2; rfl] at hx4 hy4
  replace p4 := eq_true p4
  replace q4 := eq_true q4
  have HX4 := Aside0.mk hx4
  have HY4 := Aside0.mk hy4
  clear hx4 hy4
  have b1 : -9223372036854775808 ≤ (m1 : Int) ∧ (m1 : Int) ≤ 9223372036854775807 := by omega
  have b2 : -9223372036854775808 ≤ (m2 : Int) ∧ (m2 : Int) ≤ 9223372036854775807 := by omega
  have s12 : (l1.length : Int) - 1 = (m1 : Int) := by omega
  have s22 : (l2.length : Int) - 1 = (m2 : Int) := by omega
  have yl10 : ((l1.length : Int) == 0) = false := by simp; exact List.ne_nil_of_length_pos h1
  have yl11 : (l1.length == 0) = false := by simp; exact List.ne_nil_of_length_pos h1
  have yl20 : ((l2.length : Int) == 0) = false := by simp; exact List.ne_nil_of_length_pos h2
  have yl21 : (l2.length == 0) = false := by simp; exact List.ne_nil_of_length_pos h2
  have s10 : IntKind.i64.wrap (m1 : Int) = (m1 : Int) := IntWalk.i64_in _ b1
  have s11 : wrap64 (m1 : Int) = (m1 : Int) := IntWalk.wrap64_in _ b1
  clear b1
  have s20 : IntKind.i64.wrap (m2 : Int) = (m2 : Int) := IntWalk.i64_in _ b2
  have s21 : wrap64 (m2 : Int) = (m2 : Int) := IntWalk.wrap64_in _ b2
  clear b2
  have d0 : decide ((rd_T53 l1 (m1 : Int)).f1 ≤ (rd_T53 l2 0).f0) = false := decide_eq_false hd0
  have d1 : decide ((rd_T53 l2 (m2 : Int)).f1 ≤ (rd_T53 l1 0).f0) = false := decide_eq_false hd1
  have HR1 := Aside0.mk hr1
  have HR2 := Aside0.mk hr2
  have HL := Aside0.mk hL
  have HSM := Aside0.mk hsm
  have HRR := Aside0.mk hr
  have HN1 := Aside0.mk hn1
  have HN2 := Aside0.mk hn2
  clear hL hsm hr
  clear hm1 hm2 hd0 hd1
  clear hr1 hr2
  go_enter Try.func39, Try.ntmps39
  go_wp2
  (try clear hx1 hy1); have hx1 := (HB.out.cell (World.block_lt_of_cell? _ _ HX1.out)).trans HX1.out; have hy1 := (HB.out.cell (World.block_lt_of_cell? _ _ HY1.out)).trans HY1.out
  (try clear hx2 hy2); have hx2 := (HB.out.cell (World.block_lt_of_cell? _ _ HX2.out)).trans HX2.out; have hy2 := (HB.out.cell (World.block_lt_of_cell? _ _ HY2.out)).trans HY2.out
  (try clear hx3 hy3); have hx3 := (HB.out.cell (World.block_lt_of_cell? _ _ HX3.out)).trans HX3.out; have hy3 := (HB.out.cell (World.block_lt_of_cell? _ _ HY3.out)).trans HY3.out
  (try clear hx4 hy4); have hx4 := (HB.out.cell (World.block_lt_of_cell? _ _ HX4.out)).trans HX4.out; have hy4 := (HB.out.cell (World.block_lt_of_cell? _ _ HY4.out)).trans HY4.out
  go_quiet (fail)
  clear hx1 hy1 hx2 hy2 hx3 hy3 hx4 hy4 hn1 hn2
  go_wp2_with (first | ((with_reducible refine gate_dst (N := 7) rfl ?_); refine box_event ?hg (N := 7) ?hd (cs := #[.int .i64 0, .int .i64 0, .int .i64 0, .int .i64 0, .int .i64 0, .slice none 0 0, .slice none 0 0]) (t := 82) ?hr ?_; (case hd => rfl); (case hg => rfl); (case hr => first | (go_simp; done) | (go_simp; rfl)); intro pb hg w7 hbox hb; have n0_ := Aside0.mk (below_step (by repeat (first | (with_reducible first | exact HB.out | apply below_alloc | apply pw_below_drewN | apply below_drew1) | exact HB.out)) hb); have n1_ := Aside0.mk (hbox); have n2_ := Aside0.mk ((by rw [hg]; exact (below_size (by repeat (first | (with_reducible first | exact HB.out | apply below_alloc | apply pw_below_drewN | apply below_drew1) | exact HB.out))) : w.heap.size ≤ pb)); clear HB; have HB := n0_; have BKpb := n1_; have GEpb := n2_; clear n0_ n1_ n2_; clear hb hbox hg; have hczw7pb_0 : w7.cell? ⟨pb, 0, none⟩ = some (.int .i64 0) := (blk_cell BKpb.out 0).trans rfl; have hfzw7pb_0 := blk_frozen BKpb.out 0; have hczw7pb_1 : w7.cell? ⟨pb, 1, none⟩ = some (.int .i64 0) := (blk_cell BKpb.out 1).trans rfl; have hfzw7pb_1 := blk_frozen BKpb.out 1; have hczw7pb_2 : w7.cell? ⟨pb, 2, none⟩ = some (.int .i64 0) := (blk_cell BKpb.out 2).trans rfl; have hfzw7pb_2 := blk_frozen BKpb.out 2; have hczw7pb_3 : w7.cell? ⟨pb, 3, none⟩ = some (.int .i64 0) := (blk_cell BKpb.out 3).trans rfl; have hfzw7pb_3 := blk_frozen BKpb.out 3; have hczw7pb_4 : w7.cell? ⟨pb, 4, none⟩ = some (.int .i64 0) := (blk_cell BKpb.out 4).trans rfl; have hfzw7pb_4 := blk_frozen BKpb.out 4; have hczw7pb_5 : w7.cell? ⟨pb, 5, none⟩ = some (.slice none 0 0) := (blk_cell BKpb.out 5).trans rfl; have hfzw7pb_5 := blk_frozen BKpb.out 5; have hczw7pb_6 : w7.cell? ⟨pb, 6, none⟩ = some (.slice none 0 0) := (blk_cell BKpb.out 6).trans rfl; have hfzw7pb_6 := blk_frozen BKpb.out 6) | (go_at_call 52; (with_reducible refine (init_cons l1 l2 (some ad1) (some ad2) c1 c2 pb u v b L w _ HR1.out HR2.out (by repeat (first | (with_reducible first | exact HB.out | apply below_alloc | apply pw_below_drewN | apply below_drew1 | refine below_set ?_ GEpb.out) | exact HB.out)) GEpb.out (by apply heap_is; (focus (repeat (first | with_reducible exact BKpb.out | with_reducible apply blk_drewN | with_reducible apply blk_drew | with_reducible apply blk_alloc | with_reducible apply blk_set | (with_reducible apply blk_aside; assumption)))); first | rfl | (simp; done)) HL.out).mono ?_); rintro e w5 ⟨rfl, hP, hO⟩; have HP := Aside0.mk hP; have n0_ := Aside0.mk (Only.below hO (by repeat (first | (with_reducible first | exact HB.out | apply below_alloc | apply pw_below_drewN | apply below_drew1 | refine below_set ?_ GEpb.out) | exact HB.out)) GEpb.out (below_size (by repeat (first | (with_reducible first | exact HB.out | apply below_alloc | apply pw_below_drewN | apply below_drew1 | refine below_set ?_ GEpb.out) | exact HB.out)))); clear HB; have HB := n0_; clear n0_ hP hO BKpb) | ((with_reducible refine gate_dst (N := 8) rfl ?_); refine box_event ?hg (N := 8) ?hd (cs := #[.int .i64 0, .int .i64 0, .int .i64 0]) (t := 80) ?hr ?_; (case hd => rfl); (case hg => rfl); (case hr => first | (go_simp; done) | (go_simp; rfl)); intro g8 hg w8 hbox hb; have qpb_ := Aside0.mk ((by rw [hg]; exact Nat.ne_of_lt (PV.lt (by repeat (first | with_reducible exact HP.out | with_reducible apply PV.drewN | with_reducible apply PV.drew | with_reducible apply PV.alloc | (with_reducible apply PV.far; assumption))))) : pb ≠ g8); have rpb_ := Aside0.mk ((by rw [hg]; exact Nat.ne_of_gt (PV.lt (by repeat (first | with_reducible exact HP.out | with_reducible apply PV.drewN | with_reducible apply PV.drew | with_reducible apply PV.alloc | (with_reducible apply PV.far; assumption))))) : g8 ≠ pb); have xHP_ := Aside0.mk (PV.below (by repeat (first | with_reducible exact HP.out | with_reducible apply PV.drewN | with_reducible apply PV.drew | with_reducible apply PV.alloc | (with_reducible apply PV.far; assumption))) hb); have n0_ := Aside0.mk (below_step (by repeat (first | (with_reducible first | exact HB.out | apply below_alloc | apply pw_below_drewN | apply below_drew1) | exact HB.out)) hb); have n1_ := Aside0.mk (hbox); have n2_ := Aside0.mk ((by rw [hg]; exact (below_size (by repeat (first | (with_reducible first | exact HB.out | apply below_alloc | apply pw_below_drewN | apply below_drew1) | exact HB.out))) : w.heap.size ≤ g8)); clear HB; have HB := n0_; have BKg8 := n1_; have GEg8 := n2_; clear n0_ n1_ n2_; clear hb hbox hg; clear HP; have HP := xHP_; clear xHP_; have NBpb_g8 := qpb_.out; have NBg8_pb := rpb_.out; clear qpb_ rpb_; have hczw8g8_0 : w8.cell? ⟨g8, 0, none⟩ = some (.int .i64 0) := (blk_cell BKg8.out 0).trans rfl; have hfzw8g8_0 := blk_frozen BKg8.out 0; have hczw8g8_1 : w8.cell? ⟨g8, 1, none⟩ = some (.int .i64 0) := (blk_cell BKg8.out 1).trans rfl; have hfzw8g8_1 := blk_frozen BKg8.out 1; have hczw8g8_2 : w8.cell? ⟨g8, 2, none⟩ = some (.int .i64 0) := (blk_cell BKg8.out 2).trans rfl; have hfzw8g8_2 := blk_frozen BKg8.out 2))
  go_loopg [9] (L.length + 1) (fun kq v9 wq => ∃ (x y : Int) (d : Bool) (M : List (Iv.I × Bool)), Aside0 (M.length < kq) ∧ Aside0 (Iv.clash ((x, y), d) M = r) ∧ Aside0 (∀ p ∈ ((x, y), d) :: M, sm p.1 = true) ∧ Aside0 (PV l1 l2 (some ad1) (some ad2) c1 c2 pb (((x, y), d) :: M) wq) ∧ Aside0 (wq.heap[g8]? = some (.cells #[.int .i64 x, .int .i64 y, .int .i64 (ix d)] 80 (0, 0))) ∧ Aside0 (Below w.heap.size w wq))
  case atStart => exact ⟨u, v, b, L, ⟨by omega⟩, HRR, HSM, ⟨(by repeat (first | with_reducible exact HP.out | with_reducible apply PV.drewN | with_reducible apply PV.drew | with_reducible apply PV.alloc | (with_reducible apply PV.far; assumption)))⟩, ⟨(by apply heap_is; (focus (repeat (first | with_reducible exact BKg8.out | with_reducible apply blk_drewN | with_reducible apply blk_drew | with_reducible apply blk_alloc | with_reducible apply blk_set | (with_reducible apply blk_aside; assumption)))); first | rfl | (simp; done))⟩, ⟨by repeat (first | (with_reducible first | exact HB.out | apply below_alloc | apply pw_below_drewN | apply below_drew1 | refine below_set ?_ GEg8.out | refine below_set ?_ GEpb.out) | exact HB.out)⟩⟩
  case round =>
    obtain ⟨x, y, d, M, HK, HC, HSM, HP, BKg8, HB⟩ := hrel
    clear HRR
    cases gk with
    | zero => exact absurd HK.out (by omega)
    | succ k1 =>
      have hcz_g8_0 : World.cell? _ ⟨g8, 0, none⟩ = some (.int .i64 x) := (blk_cell BKg8.out 0).trans rfl; have hfz_g8_0 := blk_frozen BKg8.out 0
      have hcz_g8_1 : World.cell? _ ⟨g8, 1, none⟩ = some (.int .i64 y) := (blk_cell BKg8.out 1).trans rfl; have hfz_g8_1 := blk_frozen BKg8.out 1
      have hcz_g8_2 : World.cell? _ ⟨g8, 2, none⟩ = some (.int .i64 (ix d)) := (blk_cell BKg8.out 2).trans rfl; have hfz_g8_2 := blk_frozen BKg8.out 2
      cases M with
      | nil =>
        obtain rfl : false = r := HC.out
        go_wp2_with (first | (go_at_call 54; (with_reducible refine (nxt_nil l1 l2 (some ad1) (some ad2) c1 c2 pb ((x, y), d) w _ HR1.out HR2.out HN1.out HN2.out (by repeat (first | (with_reducible first | exact HB.out | apply below_alloc | apply pw_below_drewN | apply below_drew1 | refine below_set ?_ GEg8.out | refine below_set ?_ GEpb.out) | exact HB.out)) GEpb.out (by repeat (first | with_reducible exact HP.out | with_reducible apply PV.drewN | with_reducible apply PV.drew | with_reducible apply PV.alloc | (with_reducible apply PV.far; assumption)))).mono ?_); rintro e wn ⟨rfl, hP, hO⟩; clear HP; have HP := Aside0.mk hP; clear hP; have mg8_ := Aside0.mk (Only.blk (g := g8) (o := .cells #[.int .i64 x, .int .i64 y, .int .i64 (ix d)] 80 (0, 0)) hO (by assumption) (by apply heap_is; (focus (repeat (first | with_reducible exact BKg8.out | with_reducible apply blk_drewN | with_reducible apply blk_drew | with_reducible apply blk_alloc | with_reducible apply blk_set | (with_reducible apply blk_aside; assumption)))); first | rfl | (simp; done))); have n0_ := Aside0.mk (Only.below hO (by repeat (first | (with_reducible first | exact HB.out | apply below_alloc | apply pw_below_drewN | apply below_drew1 | refine below_set ?_ GEg8.out | refine below_set ?_ GEpb.out) | exact HB.out)) GEpb.out (below_size (by repeat (first | (with_reducible first | exact HB.out | apply below_alloc | apply pw_below_drewN | apply below_drew1 | refine below_set ?_ GEg8.out | refine below_set ?_ GEpb.out) | exact HB.out)))); clear BKg8; clear HB; have BKg8 := mg8_; clear mg8_; have HB := n0_; clear n0_ hO; have hczwng8_0 : World.cell? wn ⟨g8, 0, none⟩ = some (.int .i64 x) := (blk_cell BKg8.out 0).trans rfl; have hfzwng8_0 := blk_frozen BKg8.out 0; have hczwng8_1 : World.cell? wn ⟨g8, 1, none⟩ = some (.int .i64 y) := (blk_cell BKg8.out 1).trans rfl; have hfzwng8_1 := blk_frozen BKg8.out 1; have hczwng8_2 : World.cell? wn ⟨g8, 2, none⟩ = some (.int .i64 (ix d)) := (blk_cell BKg8.out 2).trans rfl; have hfzwng8_2 := blk_frozen BKg8.out 2) | ((with_reducible refine gate_dst (N := 9) rfl ?_); refine box_event ?hg (N := 9) ?hd (cs := #[.int .i64 0, .int .i64 0, .int .i64 0]) (t := 80) ?hr ?_; (case hd => rfl); (case hg => rfl); (case hr => first | (go_simp; done) | (go_simp; rfl)); intro g9 hg w9 hbox hb; have mg8_ := Aside0.mk (blk_below (g := g8) (o := .cells #[.int .i64 x, .int .i64 y, .int .i64 (ix d)] 80 (0, 0)) (by apply heap_is; (focus (repeat (first | with_reducible exact BKg8.out | with_reducible apply blk_drewN | with_reducible apply blk_drew | with_reducible apply blk_alloc | with_reducible apply blk_set | (with_reducible apply blk_aside; assumption)))); first | rfl | (simp; done)) hb); have qpb_ := Aside0.mk ((by rw [hg]; exact Nat.ne_of_lt (PV.lt (by repeat (first | with_reducible exact HP.out | with_reducible apply PV.drewN | with_reducible apply PV.drew | with_reducible apply PV.alloc | (with_reducible apply PV.far; assumption))))) : pb ≠ g9); have rpb_ := Aside0.mk ((by rw [hg]; exact Nat.ne_of_gt (PV.lt (by repeat (first | with_reducible exact HP.out | with_reducible apply PV.drewN | with_reducible apply PV.drew | with_reducible apply PV.alloc | (with_reducible apply PV.far; assumption))))) : g9 ≠ pb); have xHP_ := Aside0.mk (PV.below (by repeat (first | with_reducible exact HP.out | with_reducible apply PV.drewN | with_reducible apply PV.drew | with_reducible apply PV.alloc | (with_reducible apply PV.far; assumption))) hb); have qg8_ := Aside0.mk ((by rw [hg]; exact Nat.ne_of_lt (blk_lt (g := g8) (o := .cells #[.int .i64 x, .int .i64 y, .int .i64 (ix d)] 80 (0, 0)) (by apply heap_is; (focus (repeat (first | with_reducible exact BKg8.out | with_reducible apply blk_drewN | with_reducible apply blk_drew | with_reducible apply blk_alloc | with_reducible apply blk_set | (with_reducible apply blk_aside; assumption)))); first | rfl | (simp; done)))) : g8 ≠ g9); have rg8_ := Aside0.mk ((by rw [hg]; exact Nat.ne_of_gt (blk_lt (g := g8) (o := .cells #[.int .i64 x, .int .i64 y, .int .i64 (ix d)] 80 (0, 0)) (by apply heap_is; (focus (repeat (first | with_reducible exact BKg8.out | with_reducible apply blk_drewN | with_reducible apply blk_drew | with_reducible apply blk_alloc | with_reducible apply blk_set | (with_reducible apply blk_aside; assumption)))); first | rfl | (simp; done)))) : g9 ≠ g8); have n0_ := Aside0.mk (below_step (by repeat (first | (with_reducible first | exact HB.out | apply below_alloc | apply pw_below_drewN | apply below_drew1 | refine below_set ?_ GEg8.out) | exact HB.out)) hb); have n1_ := Aside0.mk (hbox); have n2_ := Aside0.mk ((by rw [hg]; exact (below_size (by repeat (first | (with_reducible first | exact HB.out | apply below_alloc | apply pw_below_drewN | apply below_drew1 | refine below_set ?_ GEg8.out) | exact HB.out))) : w.heap.size ≤ g9)); clear BKg8; clear HB; have BKg8 := mg8_; have NBg8_g9 := qg8_.out; have NBg9_g8 := rg8_.out; clear mg8_ qg8_ rg8_; have HB := n0_; have BKg9 := n1_; have GEg9 := n2_; clear n0_ n1_ n2_; clear hb hbox hg; clear HP; have HP := xHP_; clear xHP_; have NBpb_g9 := qpb_.out; have NBg9_pb := rpb_.out; clear qpb_ rpb_; have hczw9g8_0 : w9.cell? ⟨g8, 0, none⟩ = some (.int .i64 x) := (blk_cell BKg8.out 0).trans rfl; have hfzw9g8_0 := blk_frozen BKg8.out 0; have hczw9g8_1 : w9.cell? ⟨g8, 1, none⟩ = some (.int .i64 y) := (blk_cell BKg8.out 1).trans rfl; have hfzw9g8_1 := blk_frozen BKg8.out 1; have hczw9g8_2 : w9.cell? ⟨g8, 2, none⟩ = some (.int .i64 (ix d)) := (blk_cell BKg8.out 2).trans rfl; have hfzw9g8_2 := blk_frozen BKg8.out 2; have hczw9g9_0 : w9.cell? ⟨g9, 0, none⟩ = some (.int .i64 0) := (blk_cell BKg9.out 0).trans rfl; have hfzw9g9_0 := blk_frozen BKg9.out 0; have hczw9g9_1 : w9.cell? ⟨g9, 1, none⟩ = some (.int .i64 0) := (blk_cell BKg9.out 1).trans rfl; have hfzw9g9_1 := blk_frozen BKg9.out 1; have hczw9g9_2 : w9.cell? ⟨g9, 2, none⟩ = some (.int .i64 0) := (blk_cell BKg9.out 2).trans rfl; have hfzw9g9_2 := blk_frozen BKg9.out 2) | (go_at_call 53; (with_reducible refine (intervals_intWithIdx_done.calls 0 0 (-1) true _ rfl).mono ?_); rintro e wd ⟨rfl, bel⟩; have mg8_ := Aside0.mk (blk_below (g := g8) (o := .cells #[.int .i64 x, .int .i64 y, .int .i64 (ix d)] 80 (0, 0)) (by apply heap_is; (focus (repeat (first | with_reducible exact BKg8.out | with_reducible apply blk_drewN | with_reducible apply blk_drew | with_reducible apply blk_alloc | with_reducible apply blk_set | (with_reducible apply blk_aside; assumption)))); first | rfl | (simp; done)) bel); have mg9_ := Aside0.mk (blk_below (g := g9) (o := .cells #[.int .i64 0, .int .i64 0, .int .i64 (-1)] 80 (0, 0)) (by apply heap_is; (focus (repeat (first | with_reducible exact BKg9.out | with_reducible apply blk_drewN | with_reducible apply blk_drew | with_reducible apply blk_alloc | with_reducible apply blk_set | (with_reducible apply blk_aside; assumption)))); first | rfl | (simp; done)) bel); have n0_ := Aside0.mk (below_step (by repeat (first | (with_reducible first | exact HB.out | apply below_alloc | apply pw_below_drewN | apply below_drew1 | refine below_set ?_ GEg8.out | refine below_set ?_ GEg9.out) | exact HB.out)) bel); have xHP_ := Aside0.mk (PV.below (by repeat (first | with_reducible exact HP.out | with_reducible apply PV.drewN | with_reducible apply PV.drew | with_reducible apply PV.alloc | (with_reducible apply PV.far; assumption))) bel); clear HP; have HP := xHP_; clear xHP_; clear BKg8; clear BKg9; clear HB; have BKg8 := mg8_; clear mg8_; have BKg9 := mg9_; clear mg9_; have HB := n0_; clear n0_ bel; have hczwdg8_0 : World.cell? wd ⟨g8, 0, none⟩ = some (.int .i64 x) := (blk_cell BKg8.out 0).trans rfl; have hfzwdg8_0 := blk_frozen BKg8.out 0; have hczwdg8_1 : World.cell? wd ⟨g8, 1, none⟩ = some (.int .i64 y) := (blk_cell BKg8.out 1).trans rfl; have hfzwdg8_1 := blk_frozen BKg8.out 1; have hczwdg8_2 : World.cell? wd ⟨g8, 2, none⟩ = some (.int .i64 (ix d)) := (blk_cell BKg8.out 2).trans rfl; have hfzwdg8_2 := blk_frozen BKg8.out 2; have hczwdg9_0 : World.cell? wd ⟨g9, 0, none⟩ = some (.int .i64 0) := (blk_cell BKg9.out 0).trans rfl; have hfzwdg9_0 := blk_frozen BKg9.out 0; have hczwdg9_1 : World.cell? wd ⟨g9, 1, none⟩ = some (.int .i64 0) := (blk_cell BKg9.out 1).trans rfl; have hfzwdg9_1 := blk_frozen BKg9.out 1; have hczwdg9_2 : World.cell? wd ⟨g9, 2, none⟩ = some (.int .i64 (-1)) := (blk_cell BKg9.out 2).trans rfl; have hfzwdg9_2 := blk_frozen BKg9.out 2))
        go_ret
        exact ⟨by first | rfl | (simp; done) | (simp [*]; done), by repeat (first | (with_reducible first | exact HB.out | apply below_alloc | apply pw_below_drewN | apply below_drew1 | refine below_set ?_ GEg8.out | refine below_set ?_ GEg9.out | refine below_set ?_ GEpb.out) | exact HB.out)⟩
      | cons s M =>
        obtain ⟨⟨x2, y2⟩, d2⟩ := s
        have HD := Aside0.mk (show intervals_intWithIdx_done.f x2 y2 (ix d2) = some false from congrArg some (ix_done d2))
        by_cases hdd : d = d2
        · have he : (ix d == ix d2) = true := by rw [ix_eq]; simpa using hdd
          have HC' := Aside0.mk (show Iv.clash ((x2, y2), d2) M = r by have := HC.out; rw [Iv.clash, if_pos (by simpa using hdd)] at this; exact this)
          clear HC hdd
          go_wp2_with (first | (go_at_call 54; (with_reducible refine (nxt_cons l1 l2 (some ad1) (some ad2) c1 c2 pb ((x, y), d) x2 y2 d2 M w _ HR1.out HR2.out HN1.out HN2.out (by repeat (first | (with_reducible first | exact HB.out | apply below_alloc | apply pw_below_drewN | apply below_drew1 | refine below_set ?_ GEg8.out | refine below_set ?_ GEpb.out) | exact HB.out)) GEpb.out (by repeat (first | with_reducible exact HP.out | with_reducible apply PV.drewN | with_reducible apply PV.drew | with_reducible apply PV.alloc | (with_reducible apply PV.far; assumption)))).mono ?_); rintro e wn ⟨rfl, hP, hO⟩; clear HP; have HP := Aside0.mk hP; clear hP; have mg8_ := Aside0.mk (Only.blk (g := g8) (o := .cells #[.int .i64 x, .int .i64 y, .int .i64 (ix d)] 80 (0, 0)) hO (by assumption) (by apply heap_is; (focus (repeat (first | with_reducible exact BKg8.out | with_reducible apply blk_drewN | with_reducible apply blk_drew | with_reducible apply blk_alloc | with_reducible apply blk_set | (with_reducible apply blk_aside; assumption)))); first | rfl | (simp; done))); have n0_ := Aside0.mk (Only.below hO (by repeat (first | (with_reducible first | exact HB.out | apply below_alloc | apply pw_below_drewN | apply below_drew1 | refine below_set ?_ GEg8.out | refine below_set ?_ GEpb.out) | exact HB.out)) GEpb.out (below_size (by repeat (first | (with_reducible first | exact HB.out | apply below_alloc | apply pw_below_drewN | apply below_drew1 | refine below_set ?_ GEg8.out | refine below_set ?_ GEpb.out) | exact HB.out)))); clear BKg8; clear HB; have BKg8 := mg8_; clear mg8_; have HB := n0_; clear n0_ hO; have hczwng8_0 : World.cell? wn ⟨g8, 0, none⟩ = some (.int .i64 x) := (blk_cell BKg8.out 0).trans rfl; have hfzwng8_0 := blk_frozen BKg8.out 0; have hczwng8_1 : World.cell? wn ⟨g8, 1, none⟩ = some (.int .i64 y) := (blk_cell BKg8.out 1).trans rfl; have hfzwng8_1 := blk_frozen BKg8.out 1; have hczwng8_2 : World.cell? wn ⟨g8, 2, none⟩ = some (.int .i64 (ix d)) := (blk_cell BKg8.out 2).trans rfl; have hfzwng8_2 := blk_frozen BKg8.out 2) | ((with_reducible refine gate_dst (N := 9) rfl ?_); refine box_event ?hg (N := 9) ?hd (cs := #[.int .i64 0, .int .i64 0, .int .i64 0]) (t := 80) ?hr ?_; (case hd => rfl); (case hg => rfl); (case hr => first | (go_simp; done) | (go_simp; rfl)); intro g9 hg w9 hbox hb; have mg8_ := Aside0.mk (blk_below (g := g8) (o := .cells #[.int .i64 x, .int .i64 y, .int .i64 (ix d)] 80 (0, 0)) (by apply heap_is; (focus (repeat (first | with_reducible exact BKg8.out | with_reducible apply blk_drewN | with_reducible apply blk_drew | with_reducible apply blk_alloc | with_reducible apply blk_set | (with_reducible apply blk_aside; assumption)))); first | rfl | (simp; done)) hb); have qpb_ := Aside0.mk ((by rw [hg]; exact Nat.ne_of_lt (PV.lt (by repeat (first | with_reducible exact HP.out | with_reducible apply PV.drewN | with_reducible apply PV.drew | with_reducible apply PV.alloc | (with_reducible apply PV.far; assumption))))) : pb ≠ g9); have rpb_ := Aside0.mk ((by rw [hg]; exact Nat.ne_of_gt (PV.lt (by repeat (first | with_reducible exact HP.out | with_reducible apply PV.drewN | with_reducible apply PV.drew | with_reducible apply PV.alloc | (with_reducible apply PV.far; assumption))))) : g9 ≠ pb); have xHP_ := Aside0.mk (PV.below (by repeat (first | with_reducible exact HP.out | with_reducible apply PV.drewN | with_reducible apply PV.drew | with_reducible apply PV.alloc | (with_reducible apply PV.far; assumption))) hb); have qg8_ := Aside0.mk ((by rw [hg]; exact Nat.ne_of_lt (blk_lt (g := g8) (o := .cells #[.int .i64 x, .int .i64 y, .int .i64 (ix d)] 80 (0, 0)) (by apply heap_is; (focus (repeat (first | with_reducible exact BKg8.out | with_reducible apply blk_drewN | with_reducible apply blk_drew | with_reducible apply blk_alloc | with_reducible apply blk_set | (with_reducible apply blk_aside; assumption)))); first | rfl | (simp; done)))) : g8 ≠ g9); have rg8_ := Aside0.mk ((by rw [hg]; exact Nat.ne_of_gt (blk_lt (g := g8) (o := .cells #[.int .i64 x, .int .i64 y, .int .i64 (ix d)] 80 (0, 0)) (by apply heap_is; (focus (repeat (first | with_reducible exact BKg8.out | with_reducible apply blk_drewN | with_reducible apply blk_drew | with_reducible apply blk_alloc | with_reducible apply blk_set | (with_reducible apply blk_aside; assumption)))); first | rfl | (simp; done)))) : g9 ≠ g8); have n0_ := Aside0.mk (below_step (by repeat (first | (with_reducible first | exact HB.out | apply below_alloc | apply pw_below_drewN | apply below_drew1 | refine below_set ?_ GEg8.out) | exact HB.out)) hb); have n1_ := Aside0.mk (hbox); have n2_ := Aside0.mk ((by rw [hg]; exact (below_size (by repeat (first | (with_reducible first | exact HB.out | apply below_alloc | apply pw_below_drewN | apply below_drew1 | refine below_set ?_ GEg8.out) | exact HB.out))) : w.heap.size ≤ g9)); clear BKg8; clear HB; have BKg8 := mg8_; have NBg8_g9 := qg8_.out; have NBg9_g8 := rg8_.out; clear mg8_ qg8_ rg8_; have HB := n0_; have BKg9 := n1_; have GEg9 := n2_; clear n0_ n1_ n2_; clear hb hbox hg; clear HP; have HP := xHP_; clear xHP_; have NBpb_g9 := qpb_.out; have NBg9_pb := rpb_.out; clear qpb_ rpb_; have hczw9g8_0 : w9.cell? ⟨g8, 0, none⟩ = some (.int .i64 x) := (blk_cell BKg8.out 0).trans rfl; have hfzw9g8_0 := blk_frozen BKg8.out 0; have hczw9g8_1 : w9.cell? ⟨g8, 1, none⟩ = some (.int .i64 y) := (blk_cell BKg8.out 1).trans rfl; have hfzw9g8_1 := blk_frozen BKg8.out 1; have hczw9g8_2 : w9.cell? ⟨g8, 2, none⟩ = some (.int .i64 (ix d)) := (blk_cell BKg8.out 2).trans rfl; have hfzw9g8_2 := blk_frozen BKg8.out 2; have hczw9g9_0 : w9.cell? ⟨g9, 0, none⟩ = some (.int .i64 0) := (blk_cell BKg9.out 0).trans rfl; have hfzw9g9_0 := blk_frozen BKg9.out 0; have hczw9g9_1 : w9.cell? ⟨g9, 1, none⟩ = some (.int .i64 0) := (blk_cell BKg9.out 1).trans rfl; have hfzw9g9_1 := blk_frozen BKg9.out 1; have hczw9g9_2 : w9.cell? ⟨g9, 2, none⟩ = some (.int .i64 0) := (blk_cell BKg9.out 2).trans rfl; have hfzw9g9_2 := blk_frozen BKg9.out 2) | (go_at_call 53; (with_reducible refine (intervals_intWithIdx_done.calls x2 y2 (ix d2) false _ HD.out).mono ?_); rintro e wd ⟨rfl, bel⟩; have mg8_ := Aside0.mk (blk_below (g := g8) (o := .cells #[.int .i64 x, .int .i64 y, .int .i64 (ix d)] 80 (0, 0)) (by apply heap_is; (focus (repeat (first | with_reducible exact BKg8.out | with_reducible apply blk_drewN | with_reducible apply blk_drew | with_reducible apply blk_alloc | with_reducible apply blk_set | (with_reducible apply blk_aside; assumption)))); first | rfl | (simp; done)) bel); have mg9_ := Aside0.mk (blk_below (g := g9) (o := .cells #[.int .i64 x2, .int .i64 y2, .int .i64 (ix d2)] 80 (0, 0)) (by apply heap_is; (focus (repeat (first | with_reducible exact BKg9.out | with_reducible apply blk_drewN | with_reducible apply blk_drew | with_reducible apply blk_alloc | with_reducible apply blk_set | (with_reducible apply blk_aside; assumption)))); first | rfl | (simp; done)) bel); have n0_ := Aside0.mk (below_step (by repeat (first | (with_reducible first | exact HB.out | apply below_alloc | apply pw_below_drewN | apply below_drew1 | refine below_set ?_ GEg8.out | refine below_set ?_ GEg9.out) | exact HB.out)) bel); have xHP_ := Aside0.mk (PV.below (by repeat (first | with_reducible exact HP.out | with_reducible apply PV.drewN | with_reducible apply PV.drew | with_reducible apply PV.alloc | (with_reducible apply PV.far; assumption))) bel); clear HP; have HP := xHP_; clear xHP_; clear BKg8; clear BKg9; clear HB; have BKg8 := mg8_; clear mg8_; have BKg9 := mg9_; clear mg9_; have HB := n0_; clear n0_ bel; have hczwdg8_0 : World.cell? wd ⟨g8, 0, none⟩ = some (.int .i64 x) := (blk_cell BKg8.out 0).trans rfl; have hfzwdg8_0 := blk_frozen BKg8.out 0; have hczwdg8_1 : World.cell? wd ⟨g8, 1, none⟩ = some (.int .i64 y) := (blk_cell BKg8.out 1).trans rfl; have hfzwdg8_1 := blk_frozen BKg8.out 1; have hczwdg8_2 : World.cell? wd ⟨g8, 2, none⟩ = some (.int .i64 (ix d)) := (blk_cell BKg8.out 2).trans rfl; have hfzwdg8_2 := blk_frozen BKg8.out 2; have hczwdg9_0 : World.cell? wd ⟨g9, 0, none⟩ = some (.int .i64 x2) := (blk_cell BKg9.out 0).trans rfl; have hfzwdg9_0 := blk_frozen BKg9.out 0; have hczwdg9_1 : World.cell? wd ⟨g9, 1, none⟩ = some (.int .i64 y2) := (blk_cell BKg9.out 1).trans rfl; have hfzwdg9_1 := blk_frozen BKg9.out 1; have hczwdg9_2 : World.cell? wd ⟨g9, 2, none⟩ = some (.int .i64 (ix d2)) := (blk_cell BKg9.out 2).trans rfl; have hfzwdg9_2 := blk_frozen BKg9.out 2))
          go_roundg k1
          case measure => omega
          case rel => exact ⟨x2, y2, d2, M, ⟨by have := HK.out; simp only [List.length_cons] at this; omega⟩, HC', ⟨fun p hp => HSM.out p (List.mem_cons_of_mem _ hp)⟩, ⟨(by repeat (first | with_reducible exact HP.out | with_reducible apply PV.drewN | with_reducible apply PV.drew | with_reducible apply PV.alloc | (with_reducible apply PV.far; assumption)))⟩, ⟨(by apply heap_is; (focus (repeat (first | with_reducible exact BKg8.out | with_reducible apply blk_drewN | with_reducible apply blk_drew | with_reducible apply blk_alloc | with_reducible apply blk_set | (with_reducible apply blk_aside; assumption)))); first | rfl | (simp; done))⟩, ⟨by repeat (first | (with_reducible first | exact HB.out | apply below_alloc | apply pw_below_drewN | apply below_drew1 | refine below_set ?_ GEg8.out | refine below_set ?_ GEg9.out | refine below_set ?_ GEpb.out) | exact HB.out)⟩⟩
        · have he : (ix d == ix d2) = false := by rw [ix_eq]; simpa using hdd
          have HOV0 := Aside0.mk (ov_f x y x2 y2 (HSM.out ((x, y), d) (by simp)) (HSM.out ((x2, y2), d2) (by simp)))
          have HC0 := Aside0.mk (show (if Iv.ov (x, y) (x2, y2) then true else Iv.clash ((x2, y2), d2) M) = r by have := HC.out; rw [Iv.clash, if_neg (by simpa using hdd)] at this; exact this)
          clear HC hdd
          cases ho : Iv.ov (x, y) (x2, y2) with
          | true =>
            obtain rfl : true = r := by have := HC0.out; rw [ho, if_pos rfl] at this; exact this
            have HOV := Aside0.mk (by have := HOV0.out; rw [ho] at this; exact this)
            clear HOV0 HC0 ho
            go_wp2_with (first | (go_at_call 54; (with_reducible refine (nxt_cons l1 l2 (some ad1) (some ad2) c1 c2 pb ((x, y), d) x2 y2 d2 M w _ HR1.out HR2.out HN1.out HN2.out (by repeat (first | (with_reducible first | exact HB.out | apply below_alloc | apply pw_below_drewN | apply below_drew1 | refine below_set ?_ GEg8.out | refine below_set ?_ GEpb.out) | exact HB.out)) GEpb.out (by repeat (first | with_reducible exact HP.out | with_reducible apply PV.drewN | with_reducible apply PV.drew | with_reducible apply PV.alloc | (with_reducible apply PV.far; assumption)))).mono ?_); rintro e wn ⟨rfl, hP, hO⟩; clear HP; have HP := Aside0.mk hP; clear hP; have mg8_ := Aside0.mk (Only.blk (g := g8) (o := .cells #[.int .i64 x, .int .i64 y, .int .i64 (ix d)] 80 (0, 0)) hO (by assumption) (by apply heap_is; (focus (repeat (first | with_reducible exact BKg8.out | with_reducible apply blk_drewN | with_reducible apply blk_drew | with_reducible apply blk_alloc | with_reducible apply blk_set | (with_reducible apply blk_aside; assumption)))); first | rfl | (simp; done))); have n0_ := Aside0.mk (Only.below hO (by repeat (first | (with_reducible first | exact HB.out | apply below_alloc | apply pw_below_drewN | apply below_drew1 | refine below_set ?_ GEg8.out | refine below_set ?_ GEpb.out) | exact HB.out)) GEpb.out (below_size (by repeat (first | (with_reducible first | exact HB.out | apply below_alloc | apply pw_below_drewN | apply below_drew1 | refine below_set ?_ GEg8.out | refine below_set ?_ GEpb.out) | exact HB.out)))); clear BKg8; clear HB; have BKg8 := mg8_; clear mg8_; have HB := n0_; clear n0_ hO; have hczwng8_0 : World.cell? wn ⟨g8, 0, none⟩ = some (.int .i64 x) := (blk_cell BKg8.out 0).trans rfl; have hfzwng8_0 := blk_frozen BKg8.out 0; have hczwng8_1 : World.cell? wn ⟨g8, 1, none⟩ = some (.int .i64 y) := (blk_cell BKg8.out 1).trans rfl; have hfzwng8_1 := blk_frozen BKg8.out 1; have hczwng8_2 : World.cell? wn ⟨g8, 2, none⟩ = some (.int .i64 (ix d)) := (blk_cell BKg8.out 2).trans rfl; have hfzwng8_2 := blk_frozen BKg8.out 2) | ((with_reducible refine gate_dst (N := 9) rfl ?_); refine box_event ?hg (N := 9) ?hd (cs := #[.int .i64 0, .int .i64 0, .int .i64 0]) (t := 80) ?hr ?_; (case hd => rfl); (case hg => rfl); (case hr => first | (go_simp; done) | (go_simp; rfl)); intro g9 hg w9 hbox hb; have mg8_ := Aside0.mk (blk_below (g := g8) (o := .cells #[.int .i64 x, .int .i64 y, .int .i64 (ix d)] 80 (0, 0)) (by apply heap_is; (focus (repeat (first | with_reducible exact BKg8.out | with_reducible apply blk_drewN | with_reducible apply blk_drew | with_reducible apply blk_alloc | with_reducible apply blk_set | (with_reducible apply blk_aside; assumption)))); first | rfl | (simp; done)) hb); have qpb_ := Aside0.mk ((by rw [hg]; exact Nat.ne_of_lt (PV.lt (by repeat (first | with_reducible exact HP.out | with_reducible apply PV.drewN | with_reducible apply PV.drew | with_reducible apply PV.alloc | (with_reducible apply PV.far; assumption))))) : pb ≠ g9); have rpb_ := Aside0.mk ((by rw [hg]; exact Nat.ne_of_gt (PV.lt (by repeat (first | with_reducible exact HP.out | with_reducible apply PV.drewN | with_reducible apply PV.drew | with_reducible apply PV.alloc | (with_reducible apply PV.far; assumption))))) : g9 ≠ pb); have xHP_ := Aside0.mk (PV.below (by repeat (first | with_reducible exact HP.out | with_reducible apply PV.drewN | with_reducible apply PV.drew | with_reducible apply PV.alloc | (with_reducible apply PV.far; assumption))) hb); have qg8_ := Aside0.mk ((by rw [hg]; exact Nat.ne_of_lt (blk_lt (g := g8) (o := .cells #[.int .i64 x, .int .i64 y, .int .i64 (ix d)] 80 (0, 0)) (by apply heap_is; (focus (repeat (first | with_reducible exact BKg8.out | with_reducible apply blk_drewN | with_reducible apply blk_drew | with_reducible apply blk_alloc | with_reducible apply blk_set | (with_reducible apply blk_aside; assumption)))); first | rfl | (simp; done)))) : g8 ≠ g9); have rg8_ := Aside0.mk ((by rw [hg]; exact Nat.ne_of_gt (blk_lt (g := g8) (o := .cells #[.int .i64 x, .int .i64 y, .int .i64 (ix d)] 80 (0, 0)) (by apply heap_is; (focus (repeat (first | with_reducible exact BKg8.out | with_reducible apply blk_drewN | with_reducible apply blk_drew | with_reducible apply blk_alloc | with_reducible apply blk_set | (with_reducible apply blk_aside; assumption)))); first | rfl | (simp; done)))) : g9 ≠ g8); have n0_ := Aside0.mk (below_step (by repeat (first | (with_reducible first | exact HB.out | apply below_alloc | apply pw_below_drewN | apply below_drew1 | refine below_set ?_ GEg8.out) | exact HB.out)) hb); have n1_ := Aside0.mk (hbox); have n2_ := Aside0.mk ((by rw [hg]; exact (below_size (by repeat (first | (with_reducible first | exact HB.out | apply below_alloc | apply pw_below_drewN | apply below_drew1 | refine below_set ?_ GEg8.out) | exact HB.out))) : w.heap.size ≤ g9)); clear BKg8; clear HB; have BKg8 := mg8_; have NBg8_g9 := qg8_.out; have NBg9_g8 := rg8_.out; clear mg8_ qg8_ rg8_; have HB := n0_; have BKg9 := n1_; have GEg9 := n2_; clear n0_ n1_ n2_; clear hb hbox hg; clear HP; have HP := xHP_; clear xHP_; have NBpb_g9 := qpb_.out; have NBg9_pb := rpb_.out; clear qpb_ rpb_; have hczw9g8_0 : w9.cell? ⟨g8, 0, none⟩ = some (.int .i64 x) := (blk_cell BKg8.out 0).trans rfl; have hfzw9g8_0 := blk_frozen BKg8.out 0; have hczw9g8_1 : w9.cell? ⟨g8, 1, none⟩ = some (.int .i64 y) := (blk_cell BKg8.out 1).trans rfl; have hfzw9g8_1 := blk_frozen BKg8.out 1; have hczw9g8_2 : w9.cell? ⟨g8, 2, none⟩ = some (.int .i64 (ix d)) := (blk_cell BKg8.out 2).trans rfl; have hfzw9g8_2 := blk_frozen BKg8.out 2; have hczw9g9_0 : w9.cell? ⟨g9, 0, none⟩ = some (.int .i64 0) := (blk_cell BKg9.out 0).trans rfl; have hfzw9g9_0 := blk_frozen BKg9.out 0; have hczw9g9_1 : w9.cell? ⟨g9, 1, none⟩ = some (.int .i64 0) := (blk_cell BKg9.out 1).trans rfl; have hfzw9g9_1 := blk_frozen BKg9.out 1; have hczw9g9_2 : w9.cell? ⟨g9, 2, none⟩ = some (.int .i64 0) := (blk_cell BKg9.out 2).trans rfl; have hfzw9g9_2 := blk_frozen BKg9.out 2) | (go_at_call 53; (with_reducible refine (intervals_intWithIdx_done.calls x2 y2 (ix d2) false _ HD.out).mono ?_); rintro e wd ⟨rfl, bel⟩; have mg8_ := Aside0.mk (blk_below (g := g8) (o := .cells #[.int .i64 x, .int .i64 y, .int .i64 (ix d)] 80 (0, 0)) (by apply heap_is; (focus (repeat (first | with_reducible exact BKg8.out | with_reducible apply blk_drewN | with_reducible apply blk_drew | with_reducible apply blk_alloc | with_reducible apply blk_set | (with_reducible apply blk_aside; assumption)))); first | rfl | (simp; done)) bel); have mg9_ := Aside0.mk (blk_below (g := g9) (o := .cells #[.int .i64 x2, .int .i64 y2, .int .i64 (ix d2)] 80 (0, 0)) (by apply heap_is; (focus (repeat (first | with_reducible exact BKg9.out | with_reducible apply blk_drewN | with_reducible apply blk_drew | with_reducible apply blk_alloc | with_reducible apply blk_set | (with_reducible apply blk_aside; assumption)))); first | rfl | (simp; done)) bel); have n0_ := Aside0.mk (below_step (by repeat (first | (with_reducible first | exact HB.out | apply below_alloc | apply pw_below_drewN | apply below_drew1 | refine below_set ?_ GEg8.out | refine below_set ?_ GEg9.out) | exact HB.out)) bel); have xHP_ := Aside0.mk (PV.below (by repeat (first | with_reducible exact HP.out | with_reducible apply PV.drewN | with_reducible apply PV.drew | with_reducible apply PV.alloc | (with_reducible apply PV.far; assumption))) bel); clear HP; have HP := xHP_; clear xHP_; clear BKg8; clear BKg9; clear HB; have BKg8 := mg8_; clear mg8_; have BKg9 := mg9_; clear mg9_; have HB := n0_; clear n0_ bel; have hczwdg8_0 : World.cell? wd ⟨g8, 0, none⟩ = some (.int .i64 x) := (blk_cell BKg8.out 0).trans rfl; have hfzwdg8_0 := blk_frozen BKg8.out 0; have hczwdg8_1 : World.cell? wd ⟨g8, 1, none⟩ = some (.int .i64 y) := (blk_cell BKg8.out 1).trans rfl; have hfzwdg8_1 := blk_frozen BKg8.out 1; have hczwdg8_2 : World.cell? wd ⟨g8, 2, none⟩ = some (.int .i64 (ix d)) := (blk_cell BKg8.out 2).trans rfl; have hfzwdg8_2 := blk_frozen BKg8.out 2; have hczwdg9_0 : World.cell? wd ⟨g9, 0, none⟩ = some (.int .i64 x2) := (blk_cell BKg9.out 0).trans rfl; have hfzwdg9_0 := blk_frozen BKg9.out 0; have hczwdg9_1 : World.cell? wd ⟨g9, 1, none⟩ = some (.int .i64 y2) := (blk_cell BKg9.out 1).trans rfl; have hfzwdg9_1 := blk_frozen BKg9.out 1; have hczwdg9_2 : World.cell? wd ⟨g9, 2, none⟩ = some (.int .i64 (ix d2)) := (blk_cell BKg9.out 2).trans rfl; have hfzwdg9_2 := blk_frozen BKg9.out 2) | (go_at_call 46; (with_reducible refine (intervals_Interval_Overlaps.calls x y x2 y2 true _ HOV.out).mono ?_); rintro e wo ⟨rfl, bel⟩; have mg8_ := Aside0.mk (blk_below (g := g8) (o := .cells #[.int .i64 x, .int .i64 y, .int .i64 (ix d)] 80 (0, 0)) (by apply heap_is; (focus (repeat (first | with_reducible exact BKg8.out | with_reducible apply blk_drewN | with_reducible apply blk_drew | with_reducible apply blk_alloc | with_reducible apply blk_set | (with_reducible apply blk_aside; assumption)))); first | rfl | (simp; done)) bel); have mg9_ := Aside0.mk (blk_below (g := g9) (o := .cells #[.int .i64 x2, .int .i64 y2, .int .i64 (ix d2)] 80 (0, 0)) (by apply heap_is; (focus (repeat (first | with_reducible exact BKg9.out | with_reducible apply blk_drewN | with_reducible apply blk_drew | with_reducible apply blk_alloc | with_reducible apply blk_set | (with_reducible apply blk_aside; assumption)))); first | rfl | (simp; done)) bel); have n0_ := Aside0.mk (below_step (by repeat (first | (with_reducible first | exact HB.out | apply below_alloc | apply pw_below_drewN | apply below_drew1 | refine below_set ?_ GEg8.out | refine below_set ?_ GEg9.out) | exact HB.out)) bel); have xHP_ := Aside0.mk (PV.below (by repeat (first | with_reducible exact HP.out | with_reducible apply PV.drewN | with_reducible apply PV.drew | with_reducible apply PV.alloc | (with_reducible apply PV.far; assumption))) bel); clear HP; have HP := xHP_; clear xHP_; clear BKg8; clear BKg9; clear HB; have BKg8 := mg8_; clear mg8_; have BKg9 := mg9_; clear mg9_; have HB := n0_; clear n0_ bel; have hczwog8_0 : World.cell? wo ⟨g8, 0, none⟩ = some (.int .i64 x) := (blk_cell BKg8.out 0).trans rfl; have hfzwog8_0 := blk_frozen BKg8.out 0; have hczwog8_1 : World.cell? wo ⟨g8, 1, none⟩ = some (.int .i64 y) := (blk_cell BKg8.out 1).trans rfl; have hfzwog8_1 := blk_frozen BKg8.out 1; have hczwog8_2 : World.cell? wo ⟨g8, 2, none⟩ = some (.int .i64 (ix d)) := (blk_cell BKg8.out 2).trans rfl; have hfzwog8_2 := blk_frozen BKg8.out 2; have hczwog9_0 : World.cell? wo ⟨g9, 0, none⟩ = some (.int .i64 x2) := (blk_cell BKg9.out 0).trans rfl; have hfzwog9_0 := blk_frozen BKg9.out 0; have hczwog9_1 : World.cell? wo ⟨g9, 1, none⟩ = some (.int .i64 y2) := (blk_cell BKg9.out 1).trans rfl; have hfzwog9_1 := blk_frozen BKg9.out 1; have hczwog9_2 : World.cell? wo ⟨g9, 2, none⟩ = some (.int .i64 (ix d2)) := (blk_cell BKg9.out 2).trans rfl; have hfzwog9_2 := blk_frozen BKg9.out 2))
            go_ret
            exact ⟨by first | rfl | (simp; done) | (simp [*]; done), by repeat (first | (with_reducible first | exact HB.out | apply below_alloc | apply pw_below_drewN | apply below_drew1 | refine below_set ?_ GEg8.out | refine below_set ?_ GEg9.out | refine below_set ?_ GEpb.out) | exact HB.out)⟩
          | false =>
            have HC' := Aside0.mk (show Iv.clash ((x2, y2), d2) M = r by have := HC0.out; rw [ho, if_neg (by simp)] at this; exact this)
            have HOV := Aside0.mk (by have := HOV0.out; rw [ho] at this; exact this)
            clear HOV0 HC0 ho
            go_wp2_with (first | (go_at_call 54; (with_reducible refine (nxt_cons l1 l2 (some ad1) (some ad2) c1 c2 pb ((x, y), d) x2 y2 d2 M w _ HR1.out HR2.out HN1.out HN2.out (by repeat (first | (with_reducible first | exact HB.out | apply below_alloc | apply pw_below_drewN | apply below_drew1 | refine below_set ?_ GEg8.out | refine below_set ?_ GEpb.out) | exact HB.out)) GEpb.out (by repeat (first | with_reducible exact HP.out | with_reducible apply PV.drewN | with_reducible apply PV.drew | with_reducible apply PV.alloc | (with_reducible apply PV.far; assumption)))).mono ?_); rintro e wn ⟨rfl, hP, hO⟩; clear HP; have HP := Aside0.mk hP; clear hP; have mg8_ := Aside0.mk (Only.blk (g := g8) (o := .cells #[.int .i64 x, .int .i64 y, .int .i64 (ix d)] 80 (0, 0)) hO (by assumption) (by apply heap_is; (focus (repeat (first | with_reducible exact BKg8.out | with_reducible apply blk_drewN | with_reducible apply blk_drew | with_reducible apply blk_alloc | with_reducible apply blk_set | (with_reducible apply blk_aside; assumption)))); first | rfl | (simp; done))); have n0_ := Aside0.mk (Only.below hO (by repeat (first | (with_reducible first | exact HB.out | apply below_alloc | apply pw_below_drewN | apply below_drew1 | refine below_set ?_ GEg8.out | refine below_set ?_ GEpb.out) | exact HB.out)) GEpb.out (below_size (by repeat (first | (with_reducible first | exact HB.out | apply below_alloc | apply pw_below_drewN | apply below_drew1 | refine below_set ?_ GEg8.out | refine below_set ?_ GEpb.out) | exact HB.out)))); clear BKg8; clear HB; have BKg8 := mg8_; clear mg8_; have HB := n0_; clear n0_ hO; have hczwng8_0 : World.cell? wn ⟨g8, 0, none⟩ = some (.int .i64 x) := (blk_cell BKg8.out 0).trans rfl; have hfzwng8_0 := blk_frozen BKg8.out 0; have hczwng8_1 : World.cell? wn ⟨g8, 1, none⟩ = some (.int .i64 y) := (blk_cell BKg8.out 1).trans rfl; have hfzwng8_1 := blk_frozen BKg8.out 1; have hczwng8_2 : World.cell? wn ⟨g8, 2, none⟩ = some (.int .i64 (ix d)) := (blk_cell BKg8.out 2).trans rfl; have hfzwng8_2 := blk_frozen BKg8.out 2) | ((with_reducible refine gate_dst (N := 9) rfl ?_); refine box_event ?hg (N := 9) ?hd (cs := #[.int .i64 0, .int .i64 0, .int .i64 0]) (t := 80) ?hr ?_; (case hd => rfl); (case hg => rfl); (case hr => first | (go_simp; done) | (go_simp; rfl)); intro g9 hg w9 hbox hb; have mg8_ := Aside0.mk (blk_below (g := g8) (o := .cells #[.int .i64 x, .int .i64 y, .int .i64 (ix d)] 80 (0, 0)) (by apply heap_is; (focus (repeat (first | with_reducible exact BKg8.out | with_reducible apply blk_drewN | with_reducible apply blk_drew | with_reducible apply blk_alloc | with_reducible apply blk_set | (with_reducible apply blk_aside; assumption)))); first | rfl | (simp; done)) hb); have qpb_ := Aside0.mk ((by rw [hg]; exact Nat.ne_of_lt (PV.lt (by repeat (first | with_reducible exact HP.out | with_reducible apply PV.drewN | with_reducible apply PV.drew | with_reducible apply PV.alloc | (with_reducible apply PV.far; assumption))))) : pb ≠ g9); have rpb_ := Aside0.mk ((by rw [hg]; exact Nat.ne_of_gt (PV.lt (by repeat (first | with_reducible exact HP.out | with_reducible apply PV.drewN | with_reducible apply PV.drew | with_reducible apply PV.alloc | (with_reducible apply PV.far; assumption))))) : g9 ≠ pb); have xHP_ := Aside0.mk (PV.below (by repeat (first | with_reducible exact HP.out | with_reducible apply PV.drewN | with_reducible apply PV.drew | with_reducible apply PV.alloc | (with_reducible apply PV.far; assumption))) hb); have qg8_ := Aside0.mk ((by rw [hg]; exact Nat.ne_of_lt (blk_lt (g := g8) (o := .cells #[.int .i64 x, .int .i64 y, .int .i64 (ix d)] 80 (0, 0)) (by apply heap_is; (focus (repeat (first | with_reducible exact BKg8.out | with_reducible apply blk_drewN | with_reducible apply blk_drew | with_reducible apply blk_alloc | with_reducible apply blk_set | (with_reducible apply blk_aside; assumption)))); first | rfl | (simp; done)))) : g8 ≠ g9); have rg8_ := Aside0.mk ((by rw [hg]; exact Nat.ne_of_gt (blk_lt (g := g8) (o := .cells #[.int .i64 x, .int .i64 y, .int .i64 (ix d)] 80 (0, 0)) (by apply heap_is; (focus (repeat (first | with_reducible exact BKg8.out | with_reducible apply blk_drewN | with_reducible apply blk_drew | with_reducible apply blk_alloc | with_reducible apply blk_set | (with_reducible apply blk_aside; assumption)))); first | rfl | (simp; done)))) : g9 ≠ g8); have n0_ := Aside0.mk (below_step (by repeat (first | (with_reducible first | exact HB.out | apply below_alloc | apply pw_below_drewN | apply below_drew1 | refine below_set ?_ GEg8.out) | exact HB.out)) hb); have n1_ := Aside0.mk (hbox); have n2_ := Aside0.mk ((by rw [hg]; exact (below_size (by repeat (first | (with_reducible first | exact HB.out | apply below_alloc | apply pw_below_drewN | apply below_drew1 | refine below_set ?_ GEg8.out) | exact HB.out))) : w.heap.size ≤ g9)); clear BKg8; clear HB; have BKg8 := mg8_; have NBg8_g9 := qg8_.out; have NBg9_g8 := rg8_.out; clear mg8_ qg8_ rg8_; have HB := n0_; have BKg9 := n1_; have GEg9 := n2_; clear n0_ n1_ n2_; clear hb hbox hg; clear HP; have HP := xHP_; clear xHP_; have NBpb_g9 := qpb_.out; have NBg9_pb := rpb_.out; clear qpb_ rpb_; have hczw9g8_0 : w9.cell? ⟨g8, 0, none⟩ = some (.int .i64 x) := (blk_cell BKg8.out 0).trans rfl; have hfzw9g8_0 := blk_frozen BKg8.out 0; have hczw9g8_1 : w9.cell? ⟨g8, 1, none⟩ = some (.int .i64 y) := (blk_cell BKg8.out 1).trans rfl; have hfzw9g8_1 := blk_frozen BKg8.out 1; have hczw9g8_2 : w9.cell? ⟨g8, 2, none⟩ = some (.int .i64 (ix d)) := (blk_cell BKg8.out 2).trans rfl; have hfzw9g8_2 := blk_frozen BKg8.out 2; have hczw9g9_0 : w9.cell? ⟨g9, 0, none⟩ = some (.int .i64 0) := (blk_cell BKg9.out 0).trans rfl; have hfzw9g9_0 := blk_frozen BKg9.out 0; have hczw9g9_1 : w9.cell? ⟨g9, 1, none⟩ = some (.int .i64 0) := (blk_cell BKg9.out 1).trans rfl; have hfzw9g9_1 := blk_frozen BKg9.out 1; have hczw9g9_2 : w9.cell? ⟨g9, 2, none⟩ = some (.int .i64 0) := (blk_cell BKg9.out 2).trans rfl; have hfzw9g9_2 := blk_frozen BKg9.out 2) | (go_at_call 53; (with_reducible refine (intervals_intWithIdx_done.calls x2 y2 (ix d2) false _ HD.out).mono ?_); rintro e wd ⟨rfl, bel⟩; have mg8_ := Aside0.mk (blk_below (g := g8) (o := .cells #[.int .i64 x, .int .i64 y, .int .i64 (ix d)] 80 (0, 0)) (by apply heap_is; (focus (repeat (first | with_reducible exact BKg8.out | with_reducible apply blk_drewN | with_reducible apply blk_drew | with_reducible apply blk_alloc | with_reducible apply blk_set | (with_reducible apply blk_aside; assumption)))); first | rfl | (simp; done)) bel); have mg9_ := Aside0.mk (blk_below (g := g9) (o := .cells #[.int .i64 x2, .int .i64 y2, .int .i64 (ix d2)] 80 (0, 0)) (by apply heap_is; (focus (repeat (first | with_reducible exact BKg9.out | with_reducible apply blk_drewN | with_reducible apply blk_drew | with_reducible apply blk_alloc | with_reducible apply blk_set | (with_reducible apply blk_aside; assumption)))); first | rfl | (simp; done)) bel); have n0_ := Aside0.mk (below_step (by repeat (first | (with_reducible first | exact HB.out | apply below_alloc | apply pw_below_drewN | apply below_drew1 | refine below_set ?_ GEg8.out | refine below_set ?_ GEg9.out) | exact HB.out)) bel); have xHP_ := Aside0.mk (PV.below (by repeat (first | with_reducible exact HP.out | with_reducible apply PV.drewN | with_reducible apply PV.drew | with_reducible apply PV.alloc | (with_reducible apply PV.far; assumption))) bel); clear HP; have HP := xHP_; clear xHP_; clear BKg8; clear BKg9; clear HB; have BKg8 := mg8_; clear mg8_; have BKg9 := mg9_; clear mg9_; have HB := n0_; clear n0_ bel; have hczwdg8_0 : World.cell? wd ⟨g8, 0, none⟩ = some (.int .i64 x) := (blk_cell BKg8.out 0).trans rfl; have hfzwdg8_0 := blk_frozen BKg8.out 0; have hczwdg8_1 : World.cell? wd ⟨g8, 1, none⟩ = some (.int .i64 y) := (blk_cell BKg8.out 1).trans rfl; have hfzwdg8_1 := blk_frozen BKg8.out 1; have hczwdg8_2 : World.cell? wd ⟨g8, 2, none⟩ = some (.int .i64 (ix d)) := (blk_cell BKg8.out 2).trans rfl; have hfzwdg8_2 := blk_frozen BKg8.out 2; have hczwdg9_0 : World.cell? wd ⟨g9, 0, none⟩ = some (.int .i64 x2) := (blk_cell BKg9.out 0).trans rfl; have hfzwdg9_0 := blk_frozen BKg9.out 0; have hczwdg9_1 : World.cell? wd ⟨g9, 1, none⟩ = some (.int .i64 y2) := (blk_cell BKg9.out 1).trans rfl; have hfzwdg9_1 := blk_frozen BKg9.out 1; have hczwdg9_2 : World.cell? wd ⟨g9, 2, none⟩ = some (.int .i64 (ix d2)) := (blk_cell BKg9.out 2).trans rfl; have hfzwdg9_2 := blk_frozen BKg9.out 2) | (go_at_call 46; (with_reducible refine (intervals_Interval_Overlaps.calls x y x2 y2 false _ HOV.out).mono ?_); rintro e wo ⟨rfl, bel⟩; have mg8_ := Aside0.mk (blk_below (g := g8) (o := .cells #[.int .i64 x, .int .i64 y, .int .i64 (ix d)] 80 (0, 0)) (by apply heap_is; (focus (repeat (first | with_reducible exact BKg8.out | with_reducible apply blk_drewN | with_reducible apply blk_drew | with_reducible apply blk_alloc | with_reducible apply blk_set | (with_reducible apply blk_aside; assumption)))); first | rfl | (simp; done)) bel); have mg9_ := Aside0.mk (blk_below (g := g9) (o := .cells #[.int .i64 x2, .int .i64 y2, .int .i64 (ix d2)] 80 (0, 0)) (by apply heap_is; (focus (repeat (first | with_reducible exact BKg9.out | with_reducible apply blk_drewN | with_reducible apply blk_drew | with_reducible apply blk_alloc | with_reducible apply blk_set | (with_reducible apply blk_aside; assumption)))); first | rfl | (simp; done)) bel); have n0_ := Aside0.mk (below_step (by repeat (first | (with_reducible first | exact HB.out | apply below_alloc | apply pw_below_drewN | apply below_drew1 | refine below_set ?_ GEg8.out | refine below_set ?_ GEg9.out) | exact HB.out)) bel); have xHP_ := Aside0.mk (PV.below (by repeat (first | with_reducible exact HP.out | with_reducible apply PV.drewN | with_reducible apply PV.drew | with_reducible apply PV.alloc | (with_reducible apply PV.far; assumption))) bel); clear HP; have HP := xHP_; clear xHP_; clear BKg8; clear BKg9; clear HB; have BKg8 := mg8_; clear mg8_; have BKg9 := mg9_; clear mg9_; have HB := n0_; clear n0_ bel; have hczwog8_0 : World.cell? wo ⟨g8, 0, none⟩ = some (.int .i64 x) := (blk_cell BKg8.out 0).trans rfl; have hfzwog8_0 := blk_frozen BKg8.out 0; have hczwog8_1 : World.cell? wo ⟨g8, 1, none⟩ = some (.int .i64 y) := (blk_cell BKg8.out 1).trans rfl; have hfzwog8_1 := blk_frozen BKg8.out 1; have hczwog8_2 : World.cell? wo ⟨g8, 2, none⟩ = some (.int .i64 (ix d)) := (blk_cell BKg8.out 2).trans rfl; have hfzwog8_2 := blk_frozen BKg8.out 2; have hczwog9_0 : World.cell? wo ⟨g9, 0, none⟩ = some (.int .i64 x2) := (blk_cell BKg9.out 0).trans rfl; have hfzwog9_0 := blk_frozen BKg9.out 0; have hczwog9_1 : World.cell? wo ⟨g9, 1, none⟩ = some (.int .i64 y2) := (blk_cell BKg9.out 1).trans rfl; have hfzwog9_1 := blk_frozen BKg9.out 1; have hczwog9_2 : World.cell? wo ⟨g9, 2, none⟩ = some (.int .i64 (ix d2)) := (blk_cell BKg9.out 2).trans rfl; have hfzwog9_2 := blk_frozen BKg9.out 2))
            go_roundg k1
            case measure => omega
            case rel => exact ⟨x2, y2, d2, M, ⟨by have := HK.out; simp only [List.length_cons] at this; omega⟩, HC', ⟨fun p hp => HSM.out p (List.mem_cons_of_mem _ hp)⟩, ⟨(by repeat (first | with_reducible exact HP.out | with_reducible apply PV.drewN | with_reducible apply PV.drew | with_reducible apply PV.alloc | (with_reducible apply PV.far; assumption)))⟩, ⟨(by apply heap_is; (focus (repeat (first | with_reducible exact BKg8.out | with_reducible apply blk_drewN | with_reducible apply blk_drew | with_reducible apply blk_alloc | with_reducible apply blk_set | (with_reducible apply blk_aside; assumption)))); first | rfl | (simp; done))⟩, ⟨by repeat (first | (with_reducible first | exact HB.out | apply below_alloc | apply pw_below_drewN | apply below_drew1 | refine below_set ?_ GEg8.out | refine below_set ?_ GEg9.out | refine below_set ?_ GEpb.out) | exact HB.out)⟩⟩
theorem last_rd (l : List S53) (m : Nat) (h : m < l.length) : (l.map i53).getD m (0, 0) = i53 (rd_T53 l (m : Int)) := by
  simp [rd_T53, List.getD, h]
theorem intervals_Intervals_Overlaps.calls (A0 : Option Addr) (c0 : Nat) (l0 : List (S53)) (A1 : Option Addr) (c1 : Nat) (l1 : List (S53)) (r : Bool) (w : World) (hr0 : Kd.C k53 w A0 l0.length l0) (hc0 : l0.length ≤ c0) (hr1 : Kd.C k53 w A1 l1.length l1) (hc1 : l1.length ≤ c1) (h : intervals_Intervals_Overlaps.f l0 l1 = some r) :
    Calls Try.prog 39 #[.slice A0 l0.length c0, .slice A1 l1.length c1] w fun e w' => e = .returned (.bool r) ∧ Below w.heap.size w w' := by
  unfold intervals_Intervals_Overlaps.f at h
  split at h
  · rename_i hb
    obtain ⟨hb0, hb1⟩ := hb
    simp only [bnd, Bool.and_eq_true, decide_eq_true_eq, List.length_map] at hb0 hb1
    obtain rfl := Option.some.inj h
    unfold overl
    by_cases e0 : l0.length = 0
    · rw [if_pos (.inl (by simpa using e0))]
      exact ov_e1 A0 c0 l0 A1 c1 l1 w hr0 hr1 e0
    by_cases e1 : l1.length = 0
    · rw [if_pos (.inr (by simpa using e1))]
      exact ov_e2 A0 c0 l0 A1 c1 l1 w hr0 hr1 (by omega) e1
    rw [if_neg (by rw [List.length_map, List.length_map]; omega), List.length_map, List.length_map, last_rd _ _ (by omega), last_rd _ _ (by omega), last_rd _ _ (by omega), last_rd _ _ (by omega)]
    by_cases d0 : (rd_T53 l0 ((l0.length - 1 : Nat) : Int)).f1 ≤ (rd_T53 l1 0).f0
    · rw [if_pos (.inl d0)]
      exact ov_d1 A0 c0 l0 A1 c1 l1 (l0.length - 1) (l1.length - 1) w hr0 hr1 (by omega) (by omega) hb0.1 hb1.1 (by omega) (by omega) d0
    by_cases d1 : (rd_T53 l1 ((l1.length - 1 : Nat) : Int)).f1 ≤ (rd_T53 l0 0).f0
    · rw [if_pos (.inr d1)]
      exact ov_d2 A0 c0 l0 A1 c1 l1 (l0.length - 1) (l1.length - 1) w hr0 hr1 (by omega) (by omega) hb0.1 hb1.1 (by omega) (by omega) d0 d1
    rw [if_neg (fun hh => hh.elim d0 d1)]
    have hall := Iv.walk_all (fun s => sm s = true) (l0.map i53) (l1.map i53) (fun s hs => List.all_eq_true.1 hb0.2 s hs) (fun s hs => List.all_eq_true.1 hb1.2 s hs)
    have hlen := Iv.walk_length (l0.map i53) (l1.map i53)
    cases hw : Iv.walk (l0.map i53) (l1.map i53) with
    | nil => rw [hw] at hlen; simp at hlen; omega
    | cons f L =>
      rw [hw] at hall
      obtain ⟨⟨u, v⟩, b⟩ := f
      exact ov_main A0 c0 l0 A1 c1 l1 (l0.length - 1) (l1.length - 1) u v b L _ w hr0 hr1 (by omega) (by omega) hb0.1 hb1.1 (by omega) (by omega) d0 d1 hw (fun p hp => hall p.1 (List.mem_map_of_mem hp)) rfl
  · cases h
end Go.Proofs.Ytlgdibeklelfgaa.PAll
