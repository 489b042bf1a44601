/- IsWordChar holds of a character just if it is a small or capital letter of ASCII, a digit or an underscore: for every number of 32 bits. -/
import Derived.Test.YtholpemmakdglaaPFnSyWordx1
namespace Go.Proofs.Ytholpemmakdglaa.Pure
open Go.RowKit Go.Proofs.Ytholpemmakdglaa.PFnSyWord Go.Proofs.YtholpemmakdglaaW.PrintWords Go.Proofs.YtholpemmakdglaaW.PrintLast

theorem FnSyWord : laws_FnSyWord.Pure := by
  intro a0 _
  unfold laws_FnSyWord.f impl_SyWord.f regexpsyntax_IsWordChar.f
  by_cases h1 : 97 ≤ a0 <;> by_cases h2 : a0 ≤ 122 <;> by_cases h3 : 65 ≤ a0 <;> by_cases h4 : a0 ≤ 90 <;> by_cases h5 : 48 ≤ a0 <;> by_cases h6 : a0 ≤ 57 <;>
    simp [h1, h2, h3, h4, h5, h6]

end Go.Proofs.Ytholpemmakdglaa.Pure
