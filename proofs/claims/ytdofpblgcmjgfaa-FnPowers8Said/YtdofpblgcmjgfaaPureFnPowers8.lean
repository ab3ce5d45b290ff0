/- A number of 8 bits, signed or not, is told to be a power of 2 exactly if it is one: for all of them. No condition. -/
import Derived.Test.YtdofpblgcmjgfaaPFnPowers8x1
import Derived.Test.YtdofpblgcmjgfaaAt
namespace Go.Proofs.Ytdofpblgcmjgfaa.Pure
open Go.RowKit Go.Proofs.Ytdofpblgcmjgfaa.PFnPowers8 Go.Proofs.YtdofpblgcmjgfaaW.PrintWords Go.Proofs.YtdofpblgcmjgfaaW.PrintLast

theorem pow8_all : ∀ i : Nat, i < 256 → laws_FnPowers8.f 66 ((i : Int) - 128) = some true := by decide +kernel
theorem FnPowers8 : laws_FnPowers8.Pure := by
  intro a h
  have h := Br.wf_i8 h
  refine ⟨66, ?_⟩
  have h1 := pow8_all (a + 128).toNat (by omega)
  rwa [show (((a + 128).toNat : Nat) : Int) - 128 = a by omega] at h1

end Go.Proofs.Ytdofpblgcmjgfaa.Pure
