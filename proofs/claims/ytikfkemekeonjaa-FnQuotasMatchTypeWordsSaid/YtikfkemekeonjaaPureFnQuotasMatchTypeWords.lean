/-
  FnQuotasMatchTypeWords: the words that the package lists for QuotasMatchType are those that the reference lists, in order. No condition.
-/
import Derived.Test.YtikfkemekeonjaaPFnQuotasMatchTypeWordsx1
namespace Go.Proofs.Ytikfkemekeonjaa.Pure
open Go.RowKit Go.Proofs.Ytikfkemekeonjaa.PFnQuotasMatchTypeWords Go.Proofs.YtikfkemekeonjaaW.PrintWords Go.Proofs.YtikfkemekeonjaaW.PrintLast

/-- YOURS: ∃ k, laws_FnQuotasMatchTypeWords.f k  = some true
What it reaches (each with k first where it has rounds; `.mono`: more rounds tell the same; `.l0`, ..: its loops, with `.mono_l`): laws_sameWords.f, kmsg_QuotasMatchTypeStrings.f, impl_QuotasMatchTypeStrings.f, spec_Words.f, spec_QuotasMatchType.f, laws_FnQuotasMatchTypeWords.f -/
theorem FnQuotasMatchTypeWords : laws_FnQuotasMatchTypeWords.Pure := by
  exact ⟨10, by decide +kernel⟩

end Go.Proofs.Ytikfkemekeonjaa.Pure
