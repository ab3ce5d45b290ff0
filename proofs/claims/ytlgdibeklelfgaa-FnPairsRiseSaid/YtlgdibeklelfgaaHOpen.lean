/- Arguments that are slices of intervals, or of events: opened into lists. -/
import Derived.Test.YtlgdibeklelfgaaPAllx0
import Derived.Deep.SlicePairs
import Derived.ChangeOld
import Derived.OpenShut
import Derived.ProofKit
namespace Go.Proofs.Ytlgdibeklelfgaa.PAll
open Go.RowKit Go.ChangeShapes Go.WideShapes Go.ChangeAt Go.Deep Go.Proofs.YtlgdibeklelfgaaW.PrintWords Go.Proofs.YtlgdibeklelfgaaW.PrintLast Go.Proofs.YtlgdibeklelfgaaW.PrintMore
set_option linter.unusedVariables false
set_option linter.unusedSimpArgs false
def vi (v : Value) : Int := match v with | .int _ n => n | _ => 0
def vb (v : Value) : Bool := match v with | .bool b => b | _ => false
theorem spans_of {H : Type} {enc : TypeId × Value → H} {W : World} {sp : Nat → Bool} {held : Bool} {fuel : Nat} {x : DataW H × List MemPlace} {a : Option Addr} {len cap : Nat}
    (h : DataW.trod enc Try.prog W 0 sp held fuel 30 [.slice a len cap] = some x) : ∃ l : List S23, l.length = len ∧ len ≤ cap ∧ Kd.C k23 W a len l := by
  rcases open_slice_pairs Try.underlying30 Try.underlying23 (by kernel_rfl) rfl rfl (by kernel_rfl) (by kernel_rfl) h with ⟨hcs, _⟩ | ⟨x, l, c, m, n, V0, V1, D0, D1, P0, P1, hcs, _, hl, hm, hmm, _, hx⟩
  · simp at hcs
    obtain ⟨rfl, rfl, rfl⟩ := hcs
    exact ⟨[], rfl, Nat.le_refl _, rfl, by omega, fun h => by omega⟩
  · simp at hcs
    obtain ⟨rfl, rfl, rfl⟩ := hcs
    have hlm : len ≤ m := by rw [hmm]; split <;> omega
    refine ⟨(List.range len).map fun i => ⟨vi (V0 i), vi (V1 i)⟩, by simp, hl, by simp, by unfold maxLen at hm; omega, fun hn => ⟨x, rfl, fun j p hj => ?_⟩⟩
    have hjl : j < len := by
      have := (List.getElem?_eq_some_iff.1 hj).1
      simpa using this
    obtain ⟨h0, h1, h2, h3⟩ := hx j (by omega)
    obtain ⟨u, e0, _, _⟩ := DataW.trod_int Try.underlying3 h2
    obtain ⟨v, e1, _, _⟩ := DataW.trod_int Try.underlying3 h3
    simp only [List.cons.injEq, and_true] at e0 e1
    simp [hjl] at hj
    subst hj
    refine ⟨[.int .i64 u, .int .i64 v], rfl, ?_, fun i w hi => ?_⟩
    · rw [e0, e1]; exact k23_mk W ⟨u, v⟩
    · match i, hi with
      | 0, hi => simp at hi; subst hi; rw [← e0]; exact h0
      | 1, hi => simp at hi; subst hi; rw [← e1]; exact h1
theorem events_of {H : Type} {enc : TypeId × Value → H} {W : World} {sp : Nat → Bool} {held : Bool} {fuel : Nat} {x : DataW H × List MemPlace} {a : Option Addr} {len cap : Nat}
    (h : DataW.trod enc Try.prog W 0 sp held fuel 41 [.slice a len cap] = some x) : ∃ l : List S47, l.length = len ∧ len ≤ cap ∧ Kd.C k47 W a len l := by
  rcases open_slice_pairs Try.underlying41 Try.underlying47 (by kernel_rfl) rfl rfl (by kernel_rfl) (by kernel_rfl) h with ⟨hcs, _⟩ | ⟨x, l, c, m, n, V0, V1, D0, D1, P0, P1, hcs, _, hl, hm, hmm, _, hx⟩
  · simp at hcs
    obtain ⟨rfl, rfl, rfl⟩ := hcs
    exact ⟨[], rfl, Nat.le_refl _, rfl, by omega, fun h => by omega⟩
  · simp at hcs
    obtain ⟨rfl, rfl, rfl⟩ := hcs
    have hlm : len ≤ m := by rw [hmm]; split <;> omega
    refine ⟨(List.range len).map fun i => ⟨vi (V0 i), vb (V1 i)⟩, by simp, hl, by simp, by unfold maxLen at hm; omega, fun hn => ⟨x, rfl, fun j p hj => ?_⟩⟩
    have hjl : j < len := by
      have := (List.getElem?_eq_some_iff.1 hj).1
      simpa using this
    obtain ⟨h0, h1, h2, h3⟩ := hx j (by omega)
    obtain ⟨u, e0, _, _⟩ := DataW.trod_int Try.underlying3 h2
    obtain ⟨v, e1, _⟩ := DataW.trod_bool Try.underlying4 h3
    simp only [List.cons.injEq, and_true] at e0 e1
    simp [hjl] at hj
    subst hj
    refine ⟨[.int .i64 u, .bool v], rfl, ?_, fun i w hi => ?_⟩
    · rw [e0, e1]; exact k47_mk W ⟨u, v⟩
    · match i, hi with
      | 0, hi => simp at hi; subst hi; rw [← e0]; exact h0
      | 1, hi => simp at hi; subst hi; rw [← e1]; exact h1
end Go.Proofs.Ytlgdibeklelfgaa.PAll
