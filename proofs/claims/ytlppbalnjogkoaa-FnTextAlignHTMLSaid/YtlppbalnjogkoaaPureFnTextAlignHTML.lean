/- The properties of HTML of the alignments left, center, justify and right, for every number. No conditions. -/
import Derived.Test.YtlppbalnjogkoaaPFnTextAlignHTMLx1
namespace Go.Proofs.Ytlppbalnjogkoaa.Pure
open Go.RowKit Go.Proofs.Ytlppbalnjogkoaa.PFnTextAlignHTML Go.Proofs.YtlppbalnjogkoaaW.PrintWords Go.Proofs.YtlppbalnjogkoaaW.PrintLast

/-- YOURS: ∀ (a0 : Int), (Lit.int .u8 a0).wf = true → laws_FnTextAlignHTML.f a0 = some true
What it reaches (each with k first where it has rounds; `.mono`: more rounds tell the same; `.l0`, ..: its loops, with `.mono_l`): text_Align_HTMLProperty.f, impl_TextAlignHTML.f, laws_FnTextAlignHTML.f -/
theorem FnTextAlignHTML : laws_FnTextAlignHTML.Pure := by
  intro a0 _
  unfold laws_FnTextAlignHTML.f
  split
  · decide +kernel
  · split
    · decide +kernel
    · split <;> decide +kernel

end Go.Proofs.Ytlppbalnjogkoaa.Pure
