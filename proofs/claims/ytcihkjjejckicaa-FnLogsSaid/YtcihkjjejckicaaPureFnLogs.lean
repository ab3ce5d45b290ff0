/- The logarithm of a power of 2 of each type is its place: for all places. No condition. -/
import Derived.Test.YtcihkjjejckicaaPFnLogsx2
import Derived.Test.YtcihkjjejckicaaAt
import Derived.Test.YtcihkjjejckicaaBr
import Derived.Test.YtcihkjjejckicaaSh
import Derived.Test.YtcihkjjejckicaaUb
set_option linter.unusedVariables false
set_option linter.unusedSimpArgs false
namespace Go.Proofs.Ytcihkjjejckicaa.Pure
open Go.RowKit Go.Proofs.Ytcihkjjejckicaa.PFnLogs Go.Proofs.YtcihkjjejckicaaW.PrintWords Go.Proofs.YtcihkjjejckicaaW.PrintLast Go.Proofs.YtcihkjjejckicaaW.PrintMore
open Br
namespace CFnLogs
theorem at_f (a n : Int) (h0 : 0 < n) (h1 : n ≤ 4611686018427387904) : ∃ r : Nat, (r : Int) < n ∧ laws_rwAt.f a n = some (r : Int) := by
  obtain ⟨r, hr, e⟩ := at_any a n h0 h1
  refine ⟨r, hr, ?_⟩
  unfold laws_rwAt.f
  rw [e, if_neg (by omega)]
theorem at_small' (r : Nat) (h : (r : Int) < 64) : laws_rwAt.f (r : Int) 64 = some (r : Int) := by
  unfold laws_rwAt.f
  rw [if_neg (by decide), at_small (r : Int) 64 (by omega) h (by decide)]
theorem logs_all : ∀ i : Nat, i < 64 → laws_FnLogs.f 8 (i : Int) = some true := by decide +kernel
theorem main : laws_FnLogs.Pure := by
  intro a _
  obtain ⟨r, hr, e⟩ := at_f a 64 (by decide) (by decide)
  refine ⟨8, ?_⟩
  have h := logs_all r (by omega)
  unfold laws_FnLogs.f at h ⊢
  rw [at_small' r hr] at h
  rw [e]
  exact h

end CFnLogs
theorem FnLogs : laws_FnLogs.Pure := CFnLogs.main
end Go.Proofs.Ytcihkjjejckicaa.Pure
