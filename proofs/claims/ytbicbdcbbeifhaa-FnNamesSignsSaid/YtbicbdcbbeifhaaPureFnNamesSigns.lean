/- FnNamesSigns returns true for all ints a and b: two different indicators from 0 to 7 have two different names. No further condition. -/
import Derived.Test.YtbicbdcbbeifhaaPFnNamesSignsx1
namespace Go.Proofs.Ytbicbdcbbeifhaa.Pure
open Go.RowKit Go.Proofs.Ytbicbdcbbeifhaa.PFnNamesSigns Go.Proofs.YtbicbdcbbeifhaaW.PrintWords Go.Proofs.YtbicbdcbbeifhaaW.PrintLast

theorem upto8 {a : Int} (h0 : 0 ≤ a) (h1 : a ≤ 7) : a = 0 ∨ a = 1 ∨ a = 2 ∨ a = 3 ∨ a = 4 ∨ a = 5 ∨ a = 6 ∨ a = 7 := by omega

theorem FnNamesSigns : laws_FnNamesSigns.Pure := by
  intro a b _ _
  unfold laws_FnNamesSigns.f
  by_cases h1 : a < 0
  · simp [h1]
  by_cases h2 : a > 7
  · simp [h1, h2]
  by_cases h3 : b < 0
  · simp [h1, h2, h3]
  by_cases h4 : b > 7
  · simp [h1, h2, h3, h4]
  rcases upto8 (a := a) (by omega) (by omega) with rfl | rfl | rfl | rfl | rfl | rfl | rfl | rfl <;>
    rcases upto8 (a := b) (by omega) (by omega) with rfl | rfl | rfl | rfl | rfl | rfl | rfl | rfl <;> decide +kernel

end Go.Proofs.Ytbicbdcbbeifhaa.Pure
