/- Walks of FnPartAdded: places. -/
import Derived.Test.YtgidfhpcobpinaaDoorAddMem
import Derived.WalkSpells
import Derived.Deep.RegionHeld3
import Derived.Deep.AppendLies
import Derived.Deep.DrawnRows
namespace Go.Proofs.YtgidfhpcobpinaaDoor.AddW
open Go.RowKit Go.Proofs.YtgidfhpcobpinaaDoor.PFnPartChars Go.Proofs.YtgidfhpcobpinaaDoorW.PrintWords Go.Proofs.YtgidfhpcobpinaaDoorW.PrintLast Go.Proofs.YtgidfhpcobpinaaDoorW.PrintMore
open Go.Proofs.YtgidfhpcobpinaaDoor.AddM
attribute [local go_sem ↓] Go.wp_at_zero Go.wp_at_succ
set_option linter.unusedSimpArgs false
set_option linter.unusedVariables false

theorem small_any (n : Int) (w : World) (h0 : 0 ≤ n) (h1 : n ≤ 200) : Calls Tryd.prog 48 #[.int .i64 n] w fun e w' => e = .returned (.int .i64 n) ∧ Drawn0 w w' :=
  impl_small.calls n n w (by unfold impl_small.f; rw [if_neg (by omega), if_neg (by omega)])

set_option maxRecDepth 100000 in
set_option maxHeartbeats 1000000 in
theorem position_any (a b c d f : Int) (w : World) (hb0 : 1 ≤ b) (hb1 : b ≤ 200) (hd0 : 0 ≤ d) (hd1 : d ≤ 200) :
    Calls Tryd.prog 27 #[.agg #[.int .i64 a, .int .i64 b, .int .i64 c, .int .i64 d, .int .i64 f]] w fun e w' =>
      e = .returned (.pointer (some ⟨w.heap.size + 1, 0, none⟩)) ∧ ∃ n, w' = ((w.alloc (.cells #[.int .i64 a, .int .i64 b, .int .i64 c, .int .i64 d, .int .i64 f] 27)).alloc (.cells #[.int .i64 a, .int .i64 b, .int .i64 c, .int .i64 d, .int .i64 f] 70)).drewN n := by
  have hm := max2_int
  go_enter Tryd.func27, Tryd.ntmps27
  go_wp2_with fail
  go_region_held3 (fun w' => w'.cell? ⟨w.heap.size, 0, none⟩ = some (.int .i64 a) ∧ w'.cell? ⟨w.heap.size, 1, none⟩ = some (.int .i64 b) ∧ w'.cell? ⟨w.heap.size, 2, none⟩ = some (.int .i64 c) ∧ w'.cell? ⟨w.heap.size, 3, none⟩ = some (.int .i64 d) ∧ w'.cell? ⟨w.heap.size, 4, none⟩ = some (.int .i64 f))
    (go_keep)
    (first | (go_at_call 48; refine (small_any _ _ (by omega) (by omega)).mono ?_; rintro e w' ⟨rfl, ⟨nd, rfl⟩⟩))
  all_goals go_wp2
  all_goals go_ret
  all_goals exact ⟨rfl, _, rfl⟩

end Go.Proofs.YtgidfhpcobpinaaDoor.AddW
