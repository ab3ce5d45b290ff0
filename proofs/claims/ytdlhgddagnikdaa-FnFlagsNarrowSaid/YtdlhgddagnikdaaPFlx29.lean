-- Written by a program of this session out of the translation (wip/pp.py): Lean checks it.
import Derived.Test.YtdlhgddagnikdaaPFlx0
import Derived.Test.YtdlhgddagnikdaaPFlx28
namespace Go.Proofs.Ytdlhgddagnikdaa.PFl
open Go.RowKit Go.Proofs.YtdlhgddagnikdaaW.PrintWords Go.Proofs.YtdlhgddagnikdaaW.PrintLast Go.Proofs.YtdlhgddagnikdaaW.PrintMore
attribute [local go_sem] max2_int min2_int max_two min_two max_three min_three max_four min_four   -- for this text's walks alone
set_option linter.unusedVariables false
set_option linter.unusedSimpArgs false

attribute [local go_sem] signed_i64 signed_i32 signed_u32 max_u32 signed_u64 max_u64
/-! ### ssarewrite_ZZSubFlags32: function 20 -/
def ssarewrite_ZZSubFlags32.f (k : Nat) (a0 : Int) (a1 : Int) : Option (Int) := (ssarewrite_subFlags32.f k a0 a1).bind fun t341 => (some t341)
theorem ssarewrite_ZZSubFlags32.mono : ∀ a0 a1 k, LeO (ssarewrite_ZZSubFlags32.f k a0 a1) (ssarewrite_ZZSubFlags32.f (k + 1) a0 a1) := by
  intro a0 a1 k
  unfold ssarewrite_ZZSubFlags32.f
  repeat' first
      | (with_reducible exact ssarewrite_subFlags32.mono _ _ _)
      | (with_reducible exact LeO.refl _)
      | (with_reducible exact LeO.none _)
      | (with_reducible refine LeO.ite ?_ ?_)
      | (with_reducible refine LeO.bind ?_ (fun _ => ?_))
      | exact ssarewrite_subFlags32.mono _ _ _
      | exact LeO.none _
      | refine LeO.ite ?_ ?_
      | refine LeO.bind ?_ (fun _ => ?_)
set_option maxHeartbeats 8000000 in
set_option maxRecDepth 100000 in
theorem ssarewrite_ZZSubFlags32.calls (k : Nat) (a0 : Int) (a1 : Int) (r : Int) (w : World) (h : ssarewrite_ZZSubFlags32.f k a0 a1 = some r) :
    Calls Try.prog 20 #[.int .i32 a0, .int .i32 a1] w fun e w' => e = .returned (.int .u8 r) ∧ Below w.heap.size w w' := by
  have HB := Aside0.mk (Below.refl w.heap.size w)
  have H : ((ssarewrite_subFlags32.f k a0 a1).bind fun t341 => (some t341)) = some r := h
  clear h
  replace H := Option.bind_eq_some_iff.mp H
  obtain ⟨t341, A30, H⟩ := H
  replace H : (some t341) = some r := H
  have A3 := Aside0.mk A30
  clear A30
  obtain rfl := Option.some.inj H
  go_enter Try.func20, Try.ntmps20
  go_wp2_with (first | ((with_reducible refine gate_callee (f := 43) rfl ?_); refine goesL_ (some 7) rfl rfl Try.func43 (by kernel_rfl) rfl #[.int .i32 a0, .int .i32 a1] rfl (by (try simp only [List.map_toArray, List.map_cons, List.map_nil]); first | done | rfl | (simp only [List.length_drop, List.length_take]; rfl)) ?_; (with_reducible refine (ssarewrite_subFlags32.calls k a0 a1 t341 _ A3.out).mono ?_); rintro e w4 ⟨rfl, hb⟩; refine ⟨_, rfl, ?_⟩; have n0_ := Aside0.mk (below_step (by repeat (first | (with_reducible first | exact HB.out | apply below_alloc | apply pw_below_drewN | apply below_drew1) | exact HB.out)) hb); clear HB; have HB := n0_; clear n0_; (try clear hb); (try clear hb2); (try clear hk); (try clear hi)))
  go_ret
  exact ⟨by first | rfl | (simp [errW_none, errW_some] <;> rfl) | (simp [*, errW_none, errW_some] <;> rfl), by repeat (first | (with_reducible first | exact HB.out | apply below_alloc | apply pw_below_drewN | apply below_drew1) | exact HB.out)⟩

end Go.Proofs.Ytdlhgddagnikdaa.PFl
