import Derived.Test.YtkhmglikdlgfpaaPure
/-
Which tags this seat speaks of: none.
-/
namespace Go.Proofs.Ytkhmglikdlgfpaa
set_option linter.all false
def tagOK (t : Tags) : Prop := t = []
theorem tagOK_nil : tagOK [] := rfl
end Go.Proofs.Ytkhmglikdlgfpaa
