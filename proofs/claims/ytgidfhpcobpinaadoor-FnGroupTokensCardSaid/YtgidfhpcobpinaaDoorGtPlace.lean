/- Walks of FnGroupTokens: a token's place, and where it stands in a list. -/
import Derived.Test.YtgidfhpcobpinaaDoorGtMem
import Derived.Test.YtgidfhpcobpinaaDoorPFnGroupTokensx
import Derived.WalkSpells
import Derived.WalkLawsBesides
import Derived.Deep.QuietTactic
import Derived.BigQuiet
import Derived.Deep.DrawnRows
import Derived.Deep.RegionHeld3
import Derived.Deep.AppendLies
import Derived.LaidEqlPtr
namespace Go.Proofs.YtgidfhpcobpinaaDoor.GtW
open Go.RowKit Go.Proofs.YtgidfhpcobpinaaDoor.PFnGroupTokens Go.Proofs.YtgidfhpcobpinaaDoorW.PrintWords Go.Proofs.YtgidfhpcobpinaaDoorW.PrintLast Go.Proofs.YtgidfhpcobpinaaDoorW.PrintMore
open Go.Proofs.YtgidfhpcobpinaaDoor.AddM Go.Proofs.YtgidfhpcobpinaaDoor.GtM
attribute [local go_sem ↓] Go.wp_at_zero Go.wp_at_succ
set_option linter.unusedSimpArgs false
set_option linter.unusedVariables false

theorem info77 : (Tryd.prog.info? 77).isSome = true := by kernel_rfl
theorem info70 : (Tryd.prog.info? 70).isSome = true := by kernel_rfl

set_option maxRecDepth 100000 in
set_option maxHeartbeats 1000000 in
theorem index_nil (v : Value) (i : Int) (w : World) :
    Calls Tryd.prog 39 #[v, .pointer none, .int .i64 i] w fun e w' => e = .returned (.int .i64 (-1)) ∧ w = w' := by
  go_enter Tryd.func39, Tryd.ntmps39
  go_wp2
  go_ret
  exact ⟨rfl, rfl⟩

set_option maxRecDepth 100000 in
set_option maxHeartbeats 1000000 in
theorem index_at (g o n c : Nat) (a : Addr) (i : Nat) (w : World) (hi : i < n) (hn : n ≤ 1000000) (hc : w.cell? ⟨g, o + i, none⟩ = some (.pointer (some a))) :
    Calls Tryd.prog 39 #[.slice (some ⟨g, o, none⟩) n c, .pointer (some a), .int .i64 i] w fun e w' => e = .returned (.int .i64 i) ∧ w = w' := by
  obtain ⟨j77, hj77⟩ := Option.isSome_iff_exists.1 info77
  have heq := fun wx : World => run_eql_ptr_same (P := Tryd.prog) (w := wx) a Tryd.underlying75 hj77
  have h0 : decide ((i : Int) < n) = true := by simp; omega
  go_enter Tryd.func39, Tryd.ntmps39
  go_wp2
  go_ret
  exact ⟨rfl, rfl⟩

set_option maxRecDepth 100000 in
set_option maxHeartbeats 1000000 in
theorem place_any (b p : Nat) (pl : Pl) (w : World) (h6 : w.cell? ⟨b, 6, none⟩ = some (.pointer (some ⟨p, 0, none⟩)))
    (p0 : w.cell? ⟨p, 0, none⟩ = some (.int .i64 pl.line)) (p1 : w.cell? ⟨p, 1, none⟩ = some (.int .i64 pl.col)) (p2 : w.cell? ⟨p, 2, none⟩ = some (.int .i64 pl.off)) (p3 : w.cell? ⟨p, 3, none⟩ = some (.int .i64 pl.ind)) (p4 : w.cell? ⟨p, 4, none⟩ = some (.int .i64 pl.lev)) :
    Calls Tryd.prog 38 #[.pointer (some ⟨b, 0, none⟩)] w fun e w' => e = .returned (.agg #[.int .i64 pl.line, .int .i64 pl.col, .int .i64 pl.off, .int .i64 pl.ind, .int .i64 pl.lev]) ∧ ∃ n, w' = (w.alloc (.cells #[.int .i64 pl.line, .int .i64 pl.col, .int .i64 pl.off, .int .i64 pl.ind, .int .i64 pl.lev] 27)).drewN n := by
  have q6 := fun o : Obj => pw_cell_below (below_alloc (Below.refl _ _) o) h6
  have q0 := fun o : Obj => pw_cell_below (below_alloc (Below.refl _ _) o) p0
  have q1 := fun o : Obj => pw_cell_below (below_alloc (Below.refl _ _) o) p1
  have q2 := fun o : Obj => pw_cell_below (below_alloc (Below.refl _ _) o) p2
  have q3 := fun o : Obj => pw_cell_below (below_alloc (Below.refl _ _) o) p3
  have q4 := fun o : Obj => pw_cell_below (below_alloc (Below.refl _ _) o) p4
  have n0 := World.new_ne w ⟨p, 0, none⟩ p0
  have n6 := World.new_ne w ⟨b, 6, none⟩ h6
  go_enter Tryd.func38, Tryd.ntmps38
  go_wp2
  go_region_held3 (fun w' => w'.cell? ⟨p, 0, none⟩ = some (.int .i64 pl.line) ∧ w'.cell? ⟨p, 1, none⟩ = some (.int .i64 pl.col) ∧ w'.cell? ⟨p, 2, none⟩ = some (.int .i64 pl.off) ∧ w'.cell? ⟨p, 3, none⟩ = some (.int .i64 pl.ind) ∧ w'.cell? ⟨p, 4, none⟩ = some (.int .i64 pl.lev))
    (go_keep) (fail)
  go_wp2
  exact bodyPost_ret (v := .agg #[.int .i64 pl.line, .int .i64 pl.col, .int .i64 pl.off, .int .i64 pl.ind, .int .i64 pl.lev]) (by simp [results, Tryd.results38, go_sem]) rfl ⟨rfl, 1, rfl⟩

end Go.Proofs.YtgidfhpcobpinaaDoor.GtW
