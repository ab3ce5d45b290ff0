-- Written by a program of this session out of the translation (wip/pp.py): Lean checks it.
import Derived.Test.YtlcaejikcelgoaaDoorPFnClrlsldiRlwinmx0
import Derived.Test.YtlcaejikcelgoaaDoorPFnClrlsldiRlwinmx1
import Derived.Test.YtlcaejikcelgoaaDoorPFnClrlsldiRlwinmx2
namespace Go.Proofs.YtlcaejikcelgoaaDoor.PFnClrlsldiRlwinm
open Go.RowKit Go.Proofs.YtlcaejikcelgoaaDoorW.PrintWords Go.Proofs.YtlcaejikcelgoaaDoorW.PrintLast Go.Proofs.YtlcaejikcelgoaaDoorW.PrintMore
attribute [local go_sem] max2_int min2_int max_two min_two max_three min_three max_four min_four   -- for this text's walks alone
set_option linter.unusedVariables false
set_option linter.unusedSimpArgs false

attribute [local go_sem] signed_i64 signed_i32 signed_u32 max_u32 signed_u64 max_u64
/-! ### ssarewrite_ZZMergePPC64ClrlsldiRlwinm: function 41 -/
def ssarewrite_ZZMergePPC64ClrlsldiRlwinm.f (k : Nat) (a0 : Int) (a1 : Int) : Option (Int) := (ssarewrite_mergePPC64ClrlsldiRlwinm.f k a0 a1).bind fun t148 => (some t148)
theorem ssarewrite_ZZMergePPC64ClrlsldiRlwinm.mono : ∀ a0 a1 k, LeO (ssarewrite_ZZMergePPC64ClrlsldiRlwinm.f k a0 a1) (ssarewrite_ZZMergePPC64ClrlsldiRlwinm.f (k + 1) a0 a1) := by
  intro a0 a1 k
  unfold ssarewrite_ZZMergePPC64ClrlsldiRlwinm.f
  repeat' first
      | (with_reducible exact ssarewrite_mergePPC64ClrlsldiRlwinm.mono _ _ _)
      | (with_reducible exact LeO.refl _)
      | (with_reducible exact LeO.none _)
      | (with_reducible refine LeO.ite ?_ ?_)
      | (with_reducible refine LeO.bind ?_ (fun _ => ?_))
      | exact ssarewrite_mergePPC64ClrlsldiRlwinm.mono _ _ _
      | exact LeO.none _
      | refine LeO.ite ?_ ?_
      | refine LeO.bind ?_ (fun _ => ?_)
set_option maxHeartbeats 8000000 in
set_option maxRecDepth 100000 in
theorem ssarewrite_ZZMergePPC64ClrlsldiRlwinm.calls (k : Nat) (a0 : Int) (a1 : Int) (r : Int) (w : World) (hT : Tab0 w) (h : ssarewrite_ZZMergePPC64ClrlsldiRlwinm.f k a0 a1 = some r) :
    Calls Tryd.prog 41 #[.int .i32 a0, .int .i64 a1] w fun e w' => e = .returned (.int .i64 r) ∧ Drawn0 w w' := by
  have H : ((ssarewrite_mergePPC64ClrlsldiRlwinm.f k a0 a1).bind fun t148 => (some t148)) = some r := h
  clear h
  replace H := Option.bind_eq_some_iff.mp H
  obtain ⟨t148, A30, H⟩ := H
  replace H : (some t148) = some r := H
  have A3 := Aside0.mk A30
  clear A30
  obtain rfl := Option.some.inj H
  go_enter Tryd.func41, Tryd.ntmps41
  go_wp2_with (first | ((with_reducible refine gate_callee (f := 52) rfl ?_); refine goesL_ (some 7) rfl rfl Tryd.func52 (by kernel_rfl) rfl #[.int .i32 a0, .int .i64 a1] rfl (by (try simp only [List.map_toArray, List.map_cons, List.map_nil]); first | done | rfl | (simp only [List.length_drop, List.length_take]; rfl)) ?_; (with_reducible refine (ssarewrite_mergePPC64ClrlsldiRlwinm.calls k a0 a1 t148 _ (by first | exact hT | exact hT.drewN _ | exact (hT.drewN _).drewN _ | exact ((hT.drewN _).drewN _).drewN _ | exact hT.below HB.out | exact (hT.below HB.out).drewN _ | exact ((hT.below HB.out).drewN _).drewN _) A3.out).mono ?_); rintro e w' ⟨rfl, ⟨nd, rfl⟩⟩; refine ⟨_, rfl, ?_⟩))
  go_ret
  exact ⟨by first | rfl | (simp; done) | (simp [*]; done), by repeat (first | exact Drawn0.refl _ | apply Drawn0.step)⟩

attribute [local go_sem] signed_i64 signed_i32 signed_u32 max_u32 signed_u64 max_u64
/-! ### impl_ClrlsldiRlwinm: function 25 -/
def impl_ClrlsldiRlwinm.f (k : Nat) (a0 : Int) (a1 : Int) : Option (Int) := (ssarewrite_ZZMergePPC64ClrlsldiRlwinm.f k a0 a1).bind fun t149 => (some t149)
theorem impl_ClrlsldiRlwinm.mono : ∀ a0 a1 k, LeO (impl_ClrlsldiRlwinm.f k a0 a1) (impl_ClrlsldiRlwinm.f (k + 1) a0 a1) := by
  intro a0 a1 k
  unfold impl_ClrlsldiRlwinm.f
  repeat' first
      | (with_reducible exact ssarewrite_ZZMergePPC64ClrlsldiRlwinm.mono _ _ _)
      | (with_reducible exact LeO.refl _)
      | (with_reducible exact LeO.none _)
      | (with_reducible refine LeO.ite ?_ ?_)
      | (with_reducible refine LeO.bind ?_ (fun _ => ?_))
      | exact ssarewrite_ZZMergePPC64ClrlsldiRlwinm.mono _ _ _
      | exact LeO.none _
      | refine LeO.ite ?_ ?_
      | refine LeO.bind ?_ (fun _ => ?_)
set_option maxHeartbeats 8000000 in
set_option maxRecDepth 100000 in
theorem impl_ClrlsldiRlwinm.calls (k : Nat) (a0 : Int) (a1 : Int) (r : Int) (w : World) (hT : Tab0 w) (h : impl_ClrlsldiRlwinm.f k a0 a1 = some r) :
    Calls Tryd.prog 25 #[.int .i32 a0, .int .i64 a1] w fun e w' => e = .returned (.int .i64 r) ∧ Drawn0 w w' := by
  have H : ((ssarewrite_ZZMergePPC64ClrlsldiRlwinm.f k a0 a1).bind fun t149 => (some t149)) = some r := h
  clear h
  replace H := Option.bind_eq_some_iff.mp H
  obtain ⟨t149, A30, H⟩ := H
  replace H : (some t149) = some r := H
  have A3 := Aside0.mk A30
  clear A30
  obtain rfl := Option.some.inj H
  go_enter Tryd.func25, Tryd.ntmps25
  go_wp2_with (first | ((with_reducible refine gate_callee (f := 41) rfl ?_); refine goesL_ (some 7) rfl rfl Tryd.func41 (by kernel_rfl) rfl #[.int .i32 a0, .int .i64 a1] rfl (by (try simp only [List.map_toArray, List.map_cons, List.map_nil]); first | done | rfl | (simp only [List.length_drop, List.length_take]; rfl)) ?_; (with_reducible refine (ssarewrite_ZZMergePPC64ClrlsldiRlwinm.calls k a0 a1 t149 _ (by first | exact hT | exact hT.drewN _ | exact (hT.drewN _).drewN _ | exact ((hT.drewN _).drewN _).drewN _ | exact hT.below HB.out | exact (hT.below HB.out).drewN _ | exact ((hT.below HB.out).drewN _).drewN _) A3.out).mono ?_); rintro e w' ⟨rfl, ⟨nd, rfl⟩⟩; refine ⟨_, rfl, ?_⟩))
  go_ret
  exact ⟨by first | rfl | (simp; done) | (simp [*]; done), by repeat (first | exact Drawn0.refl _ | apply Drawn0.step)⟩

attribute [local go_sem] signed_i64 signed_i32 signed_u32 max_u32 signed_u64 max_u64
/-! ### laws_mkDoes: function 26 -/
def laws_mkDoes.f (k : Nat) (a0 : Int) (a1 : Int) (a2 : Int) (a3 : Int) : Option (Int) := (laws_rwAt.f a0 32).bind fun t150 => ((laws_mkMask.f k a1 a2).bind fun t151 => ((spec_Rotated.f a3 32 (IntKind.u64.wrap (t150)) t151).bind fun t152 => (some t152)))
theorem laws_mkDoes.mono : ∀ a0 a1 a2 a3 k, LeO (laws_mkDoes.f k a0 a1 a2 a3) (laws_mkDoes.f (k + 1) a0 a1 a2 a3) := by
  intro a0 a1 a2 a3 k
  unfold laws_mkDoes.f
  repeat' first
      | (with_reducible exact laws_mkMask.mono _ _ _)
      | (with_reducible exact LeO.refl _)
      | (with_reducible exact LeO.none _)
      | (with_reducible refine LeO.ite ?_ ?_)
      | (with_reducible refine LeO.bind ?_ (fun _ => ?_))
      | exact laws_mkMask.mono _ _ _
      | exact LeO.none _
      | refine LeO.ite ?_ ?_
      | refine LeO.bind ?_ (fun _ => ?_)
set_option maxHeartbeats 8000000 in
set_option maxRecDepth 100000 in
theorem laws_mkDoes.calls (k : Nat) (a0 : Int) (a1 : Int) (a2 : Int) (a3 : Int) (r : Int) (w : World) (h : laws_mkDoes.f k a0 a1 a2 a3 = some r) :
    Calls Tryd.prog 26 #[.int .i64 a0, .int .i64 a1, .int .i64 a2, .int .u64 a3] w fun e w' => e = .returned (.int .u64 r) ∧ Below w.heap.size w w' := by
  have HB := Aside0.mk (Below.refl w.heap.size w)
  have H : ((laws_rwAt.f a0 32).bind fun t150 => ((laws_mkMask.f k a1 a2).bind fun t151 => ((spec_Rotated.f a3 32 (IntKind.u64.wrap (t150)) t151).bind fun t152 => (some t152)))) = some r := h
  clear h
  replace H := Option.bind_eq_some_iff.mp H
  obtain ⟨t150, A50, H⟩ := H
  replace H : ((laws_mkMask.f k a1 a2).bind fun t151 => ((spec_Rotated.f a3 32 (IntKind.u64.wrap (t150)) t151).bind fun t152 => (some t152))) = some r := H
  have A5 := Aside0.mk A50
  clear A50
  replace H := Option.bind_eq_some_iff.mp H
  obtain ⟨t151, A60, H⟩ := H
  replace H : ((spec_Rotated.f a3 32 (IntKind.u64.wrap (t150)) t151).bind fun t152 => (some t152)) = some r := H
  have A6 := Aside0.mk A60
  clear A60
  replace H := Option.bind_eq_some_iff.mp H
  obtain ⟨t152, A70, H⟩ := H
  replace H : (some t152) = some r := H
  have A7 := Aside0.mk A70
  clear A70
  obtain rfl := Option.some.inj H
  go_enter Tryd.func26, Tryd.ntmps26
  go_wp2_with (first | ((with_reducible refine gate_callee (f := 12) rfl ?_); refine goesL_ (some 11) rfl rfl Tryd.func12 (by kernel_rfl) rfl #[.int .i64 a0, .int .i64 32] rfl (by (try simp only [List.map_toArray, List.map_cons, List.map_nil]); first | done | rfl | (simp only [List.length_drop, List.length_take]; rfl)) ?_; (with_reducible refine (laws_rwAt.calls a0 32 t150 _ A5.out).mono ?_); rintro e w' ⟨rfl, ⟨nd, rfl⟩⟩; refine ⟨_, rfl, ?_⟩) | ((with_reducible refine gate_callee (f := 40) rfl ?_); refine goesL_ (some 15) rfl rfl Tryd.func40 (by kernel_rfl) rfl #[.int .i64 a1, .int .i64 a2] rfl (by (try simp only [List.map_toArray, List.map_cons, List.map_nil]); first | done | rfl | (simp only [List.length_drop, List.length_take]; rfl)) ?_; (with_reducible refine (laws_mkMask.calls k a1 a2 t151 _ A6.out).mono ?_); rintro e w8 ⟨rfl, hb⟩; refine ⟨_, rfl, ?_⟩; have n0_ := Aside0.mk (below_step (by repeat (first | (with_reducible first | exact HB.out | apply below_alloc | apply pw_below_drewN | apply below_drew1) | exact HB.out)) hb); clear HB; have HB := n0_; clear n0_; (try clear hb); (try clear hb2); (try clear hk); (try clear hi)) | ((with_reducible refine gate_callee (f := 18) rfl ?_); refine goesL_ (some 16) rfl rfl Tryd.func18 (by kernel_rfl) rfl #[.int .u64 a3, .int .u64 32, .int .u64 (IntKind.u64.wrap (t150)), .int .u64 t151] rfl (by (try simp only [List.map_toArray, List.map_cons, List.map_nil]); first | done | rfl | (simp only [List.length_drop, List.length_take]; rfl)) ?_; (with_reducible refine (spec_Rotated.calls a3 32 (IntKind.u64.wrap (t150)) t151 t152 _ A7.out).mono ?_); rintro e w' ⟨rfl, ⟨nd, rfl⟩⟩; refine ⟨_, rfl, ?_⟩))
  go_ret
  exact ⟨by first | rfl | (simp [errW_none, errW_some] <;> rfl) | (simp [*, errW_none, errW_some] <;> rfl), by repeat (first | (with_reducible first | exact HB.out | apply below_alloc | apply pw_below_drewN | apply below_drew1) | exact HB.out)⟩

-- NOT PRINTED: function 7 (laws_FnClrlsldiRlwinm)

end Go.Proofs.YtlcaejikcelgoaaDoor.PFnClrlsldiRlwinm
