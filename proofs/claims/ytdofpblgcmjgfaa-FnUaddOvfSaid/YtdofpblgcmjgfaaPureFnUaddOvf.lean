/- An unsigned sum of two words is told to overflow exactly if it is less than a part of it: for all pairs of words. No condition. -/
import Derived.Test.YtdofpblgcmjgfaaPFnUaddOvfx1
namespace Go.Proofs.Ytdofpblgcmjgfaa.Pure
open Go.RowKit Go.Proofs.Ytdofpblgcmjgfaa.PFnUaddOvf Go.Proofs.YtdofpblgcmjgfaaW.PrintWords Go.Proofs.YtdofpblgcmjgfaaW.PrintLast

theorem FnUaddOvf : laws_FnUaddOvf.Pure := by
  intro a b _ _
  unfold laws_FnUaddOvf.f
  have h1 : impl_UaddOvf.f (-1) 1 = some true := by decide +kernel
  rw [h1]
  simp [impl_UaddOvf.f, ssarewrite_ZZUaddOvf.f, ssarewrite_uaddOvf.f]

end Go.Proofs.Ytdofpblgcmjgfaa.Pure
