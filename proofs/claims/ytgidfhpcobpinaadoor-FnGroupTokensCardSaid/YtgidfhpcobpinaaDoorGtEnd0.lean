/- Walks of FnGroupTokens: what is said of an error; the call that waits. -/
import Derived.Test.YtgidfhpcobpinaaDoorGtPlace
import Derived.Test.YtgidfhpcobpinaaDoorGtHead
import Derived.Defers
import Derived.Recover
import Derived.Laws.Pointers
namespace Go.Proofs.YtgidfhpcobpinaaDoor.GtW
open Go.RowKit Go.Proofs.YtgidfhpcobpinaaDoor.PFnGroupTokens Go.Proofs.YtgidfhpcobpinaaDoorW.PrintWords Go.Proofs.YtgidfhpcobpinaaDoorW.PrintLast Go.Proofs.YtgidfhpcobpinaaDoorW.PrintMore
open Go.Proofs.YtgidfhpcobpinaaDoor.AddM Go.Proofs.YtgidfhpcobpinaaDoor.GtM
attribute [local go_sem ↓] Go.wp_at_zero Go.wp_at_succ
set_option linter.unusedSimpArgs false
set_option linter.unusedVariables false

theorem catch_idle (p q : Addr) (w : World) :
    CallsD Tryd.prog 17 #[.pointer (some p), .pointer (some q)] .returning w fun e u' w' => e = .returned (.tuple #[]) ∧ u' = .returning ∧ w' = w := by
  refine callsD_of_wpS Tryd.func17 rfl fun c₀ cs hu => ?_
  apply wpS_seq
  apply wpS_region
  simp [wpOpsS, go_sem, recoverD, hu, Tryd.ntmps17, Exit.thenS]
  refine wpS_cond (t := false) (by simp [Act.eval, Array.replicate]) ?_
  simp only [Bool.false_eq_true, if_false]
  refine wpS_of_wp (wp_skip ?_)
  cases c₀
  simp_all [bodyPostS, results, Tryd.results17]

/-- A fault as it is handed back. -/
def faultV (k : Int) (p : Pl) : Value := .agg #[.int .i64 k, .int .i64 p.line, .int .i64 p.col, .int .i64 p.off, .int .i64 p.ind, .int .i64 p.lev]

theorem as88 (v : Value) (w : World) : (Instr.typeAssert (.iface 88 v) 59 88 true).run Tryd.prog w = .ok (.tuple #[v, .bool true]) w := by kernel_rfl

def Refused (w : World) (e : Ending) (w' : World) : Prop := ∃ p, e = .returned (faultV 1 p) ∧ Below w.heap.size w w'

set_option maxRecDepth 100000 in
set_option maxHeartbeats 1000000 in
theorem refused_any {w : World} {x : Value} (h : ErrAt w x) : Calls Tryd.prog 19 #[x] w (Refused w) := by
  obtain ⟨s, m, a, rfl, hs, z, hz⟩ := h
  obtain ⟨p, t, nx, pv, h1, h2, -⟩ := hz.ex
  have c1 := fun o : Obj => pw_cell_below (below_alloc (Below.refl _ _) o) (blk_cell hs 1)
  have t6 := fun o : Obj => pw_cell_below (below_alloc (Below.refl _ _) o) (blk_cell h1 6)
  have p0 := fun o : Obj => pw_cell_below (below_alloc (Below.refl _ _) o) (blk_cell h2 0)
  have p1 := fun o : Obj => pw_cell_below (below_alloc (Below.refl _ _) o) (blk_cell h2 1)
  have p2 := fun o : Obj => pw_cell_below (below_alloc (Below.refl _ _) o) (blk_cell h2 2)
  have p3 := fun o : Obj => pw_cell_below (below_alloc (Below.refl _ _) o) (blk_cell h2 3)
  have p4 := fun o : Obj => pw_cell_below (below_alloc (Below.refl _ _) o) (blk_cell h2 4)
  have PL := fun o : Obj => Aside0.mk (place_any a p t.pl (w.alloc o) (t6 o) (p0 o) (p1 o) (p2 o) (p3 o) (p4 o))
  have e1 := World.new_ne w ⟨s, 1, none⟩ (blk_cell hs 1)
  clear h1 h2 hz hs t6 p0 p1 p2 p3 p4
  have hta := as88 (.pointer (some ⟨s, 0, none⟩))
  simp at c1
  go_enter Tryd.func19, Tryd.ntmps19
  go_wp2_with (go_at_call 38; refine (PL _).out.mono ?_; rintro e w' ⟨rfl, nd, rfl⟩)
  refine bodyPost_ret (v := faultV 1 t.pl) (results_single rfl (.cell w.heap.size 37 #[.int .i64 1, .int .i64 t.pl.line, .int .i64 t.pl.col, .int .i64 t.pl.off, .int .i64 t.pl.ind, .int .i64 t.pl.lev] (0, 0) _ rfl ?_ Tryd.underlying37 rfl (by kernel_rfl) .nil)) rfl ⟨t.pl, rfl, ?_⟩
  · refine blk_put (cs := #[.int .i64 1, .int .i64 t.pl.line, .int .i64 t.pl.col, .int .i64 t.pl.off, .int .i64 t.pl.ind, .int .i64 0]) ?_ 5 _ rfl
    refine blk_put (cs := #[.int .i64 1, .int .i64 t.pl.line, .int .i64 t.pl.col, .int .i64 t.pl.off, .int .i64 0, .int .i64 0]) ?_ 4 _ rfl
    refine blk_put (cs := #[.int .i64 1, .int .i64 t.pl.line, .int .i64 t.pl.col, .int .i64 0, .int .i64 0, .int .i64 0]) ?_ 3 _ rfl
    refine blk_put (cs := #[.int .i64 1, .int .i64 t.pl.line, .int .i64 0, .int .i64 0, .int .i64 0, .int .i64 0]) ?_ 2 _ rfl
    refine blk_put (cs := #[.int .i64 1, .int .i64 0, .int .i64 0, .int .i64 0, .int .i64 0, .int .i64 0]) ?_ 1 _ rfl
    refine blk_put (cs := #[.int .i64 0, .int .i64 0, .int .i64 0, .int .i64 0, .int .i64 0, .int .i64 0]) ?_ 0 _ rfl
    exact blk_drewN (blk_alloc (heap_alloc_new w _) _) _
  · repeat (first | (with_reducible refine below_alloc ?_ _) | (with_reducible refine pw_below_drewN ?_ _) | (with_reducible refine below_set ?_ (Nat.le_refl _)) | (with_reducible exact Below.refl _ _))

end Go.Proofs.YtgidfhpcobpinaaDoor.GtW
