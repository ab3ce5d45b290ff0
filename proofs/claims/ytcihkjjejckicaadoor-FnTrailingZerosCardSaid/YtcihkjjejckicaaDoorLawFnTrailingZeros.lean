/- The row of the law FnTrailingZeros, out of its walk. The tables of math/bits are listed, and tied to the program's text by the card. -/
import Derived.Test.YtcihkjjejckicaaDoorRows
import Derived.Test.YtcihkjjejckicaaDoorPFnTrailingZerosx1
import Derived.Test.YtcihkjjejckicaaDoorPureFnTrailingZeros
import Derived.Test.YtcihkjjejckicaaDoorLaid
import Derived.Test.YtcihkjjejckicaaDoorTie
import Derived.Test.YtcihkjjejckicaaDoorCards
import Derived.WalkKit
import Derived.ProofKit
import Derived.OpenShut
import Derived.ShutString
import Derived.ChangeOld
import Derived.Below
import Derived.SizedLaws
import Derived.Lib.SmallJoins
import Derived.LaidMore
import Derived.Stop.Joined
import Derived.SevenTiedAt
namespace Go.Proofs.YtcihkjjejckicaaDoor.fnTrailingZeros
open Go.ChangeShapes Go.WideShapes Go.ChangeAt Go.RowKit Go.Joins
open Go.ChangeMaps (open_string shut_string)
set_option linter.unusedVariables false
theorem own : ownKnob Tryd.prog.godebug = none := by kernel_rfl
set_option maxRecDepth 100000 in
theorem lifted (os : Os) (started : os.Started) (H : Type) (enc : TypeId × Value → H) :
    ReturnsInHanded {} Tryd.checked os 5 .any (fun w args => (Rows.fnTrailingZerosSpec.pre enc Tryd.prog Tryd.f5 [] false w args ∧ laidMetH Tryd.prog listed2 w) ∧ sizedMet enc Tryd.prog Tryd.f5 (OpenSpec.ofChange Rows.fnTrailingZerosSpec) false w args) (Rows.fnTrailingZerosSpec.post enc Tryd.prog Tryd.f5 false true false false) := by
  refine returnsInHanded_of_change_and (C := Tryd.checked) (X := fun w _ => laidMetH Tryd.prog listed2 w) (fun _ _ _ hh h => h.of_heap hh) own started (by kernel_rfl) Tryd.func5
    (ChangeSpec.witness_shaped (enc := enc) (C := Tryd.checked) (os := os) (X := fun w _ => laidMetH Tryd.prog listed2 w) false (World.doorLaid Tryd.prog 400 os) #[.int .i64 0] 8 rfl (World.shaped_of_RefB (by kernel_rfl) (by kernel_rfl)) (by kernel_rfl) (by kernel_rfl) (by kernel_rfl) (door2 os _)) ?_
  intro W base args ds gs before hval0 hW _ hsz0 hL _
  have hT := tab2 hL
  have hval : ∀ (j : Nat) t v, Tryd.f5.params[j]? = some t → args[j]? = some v → Value.okWide Tryd.prog W .any base t v := hval0
  have hW' := hW
  obtain ⟨p, q, hA0, hV, rfl, hfz, hnd⟩ := hW
  have hA : DataW.TrodAll enc Tryd.prog W 0 (fun _ => true) true Tryd.f5.params.toList args.toList ds p := hA0
  rw [Tryd.params5] at hA hval
  obtain ⟨v0, vs0, d0, ds0, p0, q0, hargs, rfl, rfl, h0, r0⟩ := trodAll_cons hA
  obtain ⟨rfl, rfl, rfl⟩ := trodAll_nil r0
  obtain rfl : args = #[v0] := by cases args; simp_all
  obtain ⟨rfl, rfl⟩ := trodVars_none hV
  obtain ⟨a0, rfl, rfl, rfl, w0⟩ := open_int Tryd.underlying2 (hval 0 2 v0 rfl rfl) h0
  clear hA0 hval0 hsz0
  refine (PFnTrailingZeros.laws_FnTrailingZeros.walk Pure.FnTrailingZeros a0 W hT w0).mono fun e W' ⟨he, bel⟩ => ?_
  subst he
  exact ⟨_, rfl, _, _, _, [], _, [], hW', trodAll_mk1 (shut_bool Tryd.underlying4 _), (trodAll_cons_mk (shut_int Tryd.underlying2 w0) trodAll_mk0), rfl, bel.frame _, fun h => by cases h⟩
theorem over : Rows.fnTrailingZerosRow.holds Tryd.pinned (OpenSpec.ofChange Rows.fnTrailingZerosSpec) :=
  OpenClaim.holds_of_wide 5 Tryd.f5 rfl rfl rfl rfl rfl rfl rfl ⟨rfl, rfl, rfl, rfl, rfl⟩ rfl rfl rfl rfl rfl (by kernel_rfl) Tryd.func5 (by kernel_rfl)
    (of_decide_eq_true (by kernel_rfl)) (by unfold Func.isWrapper; first | (rw [if_pos (by decide +kernel)]; kernel_rfl) | (rw [if_neg (by decide +kernel)]; exact ⟨rfl, rfl⟩))
    (fun os started H enc _ => lifted os started H enc)
theorem proved : Rows.FnTrailingZerosSaid := over
#print axioms proved
theorem card : Rows.FnTrailingZerosCardSaid :=
  Claim7.holds_tied_plain_at .later [] [.data, .data] true (true, "10af9739d75b27d4366a97e67601d5077ef7bf43c34f54c66c4dfb95c96722a7") false
    over (fun _ h => by cases h) (by kernel_rfl) (fun _ h => by cases h) fnTrailingZeros_row_tie rfl ⟨rfl, rfl⟩ (by kernel_rfl) rfl
    (fun f fn hf hfn => by
      obtain rfl : f = 5 := Option.some.inj ((show Tryd.prog.funcNamed "loop.example/pub-g01459/laws.FnTrailingZeros" = some 5 by kernel_rfl).symm.trans hf) |>.symm
      obtain rfl : fn = Tryd.f5 := (Option.some.inj (Tryd.func5.symm.trans hfn)).symm
      exact ⟨by kernel_rfl, fun j t ht => by
        rw [Tryd.params5] at ht
        have hm : t ∈ [2] := by simpa using Array.mem_of_getElem? ht
        have hall : ([2].all fun u => !Tryd.prog.wantsStandIn u) = true := by kernel_rfl
        exact (show Tryd.prog.wantsStandIn t = false by simpa using List.all_eq_true.1 hall t hm)⟩)
    (by kernel_rfl)
#print axioms card
end Go.Proofs.YtcihkjjejckicaaDoor.fnTrailingZeros
namespace Go.Proofs.YtcihkjjejckicaaDoor
/-- The card, under a short name, for the claim. -/
theorem fnTrailingZeros_card : Rows.FnTrailingZerosCardSaid := fnTrailingZeros.card
/-- The row. -/
theorem fnTrailingZeros_holds : Rows.FnTrailingZerosSaid := fnTrailingZeros.proved
end Go.Proofs.YtcihkjjejckicaaDoor
