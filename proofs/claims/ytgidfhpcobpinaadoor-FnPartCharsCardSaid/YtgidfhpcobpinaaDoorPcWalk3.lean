/- Walks of FnPartChars: tokens as data are printed. -/
import Derived.Test.YtgidfhpcobpinaaDoorPcWalk2
import Derived.Laws.EntriesVeiled
namespace Go.Proofs.YtgidfhpcobpinaaDoor.PcW
open Go.RowKit Go.Proofs.YtgidfhpcobpinaaDoor.PFnPartChars Go.Proofs.YtgidfhpcobpinaaDoorW.PrintWords Go.Proofs.YtgidfhpcobpinaaDoorW.PrintLast Go.Proofs.YtgidfhpcobpinaaDoorW.PrintMore
open Go.Proofs.YtgidfhpcobpinaaDoor.PcP Go.Proofs.YtgidfhpcobpinaaDoor.Rn Go.Proofs.YtgidfhpcobpinaaDoor.AddM
open Go.Proofs.YtgidfhpcobpinaaDoor.AddW (none2 Ok made_any Made)
attribute [local go_sem ↓] Go.wp_at_zero Go.wp_at_succ
set_option linter.unusedSimpArgs false
set_option linter.unusedVariables false

set_option maxRecDepth 100000 in
set_option maxHeartbeats 1000000 in
theorem print_any (A : Option Addr) (c : Nat) (ts : List Tk) (w : World) (hn : ts.length ≤ 100) (hok : ∀ t ∈ ts, Ok t) (h31 : ∀ t ∈ ts, t.typ = 31) (hnf : ∀ t ∈ ts, NoFeed t.origin ∧ t.origin.size ≤ 2147483647) (hr : Row w 13 A (ts.map AddW.lone)) :
    Calls Tryd.prog 8 #[.slice A ts.length c, .bool false] w fun e w' => e = .returned (.string (cat (ts.map Tk.origin))) ∧ Below w.heap.size w w' := by
  have HM := Aside0.mk (made_any A c ts (w.alloc (.cells PC 52)) (by omega) hok (hr.below (below_alloc (Below.refl _ _) _)))
  have H31 := Aside0.mk h31
  have HNF := Aside0.mk hnf
  clear h31 hnf hok hr
  obtain ⟨x, hx⟩ : ∃ x, cat (ts.map Tk.origin) = x := ⟨_, rfl⟩
  rw [hx]
  have HX := Aside0.mk hx
  clear hx
  go_enter Tryd.func8, Tryd.ntmps8
  go_wp2_with fail
  refine HM.out.mono ?_
  rintro e w1 ⟨v, rfl, hb1, tb, pb, htb, hpb, hown, htok⟩
  obtain ⟨A1, c1, rfl⟩ := own_slice hown
  have HB1 := Aside0.mk (below_then (below_alloc (Below.refl _ _) _) (by simp) hb1)
  have hP := printer_any _ w.heap.size ts tb pb A1 c1 w1 hown htok htb hpb hn H31.out HNF.out (blk_below (heap_alloc_new w _) hb1)
  rw [HX.out] at hP
  have HP := Aside0.mk hP
  clear hb1 hown htok HM hP
  go_wp2_with fail
  refine HP.out.mono ?_
  rintro e w2 ⟨rfl, hb2⟩
  have HB2 := Aside0.mk (below_then HB1.out HB1.out.size hb2)
  clear hb2 HP
  go_wp2
  go_ret
  exact ⟨rfl, HB2.out⟩

end Go.Proofs.YtgidfhpcobpinaaDoor.PcW
