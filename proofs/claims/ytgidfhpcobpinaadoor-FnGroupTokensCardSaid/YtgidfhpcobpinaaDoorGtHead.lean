/- Walks of FnGroupTokens: what a group tells of its first token. -/
import Derived.Test.YtgidfhpcobpinaaDoorGtMem
import Derived.Test.YtgidfhpcobpinaaDoorPFnGroupTokensx
import Derived.WalkSpells
import Derived.WalkLawsBesides
import Derived.Deep.QuietTactic
import Derived.BigQuiet
import Derived.Deep.DrawnRows
namespace Go.Proofs.YtgidfhpcobpinaaDoor.GtW
open Go.RowKit Go.Proofs.YtgidfhpcobpinaaDoor.PFnGroupTokens Go.Proofs.YtgidfhpcobpinaaDoorW.PrintWords Go.Proofs.YtgidfhpcobpinaaDoorW.PrintLast Go.Proofs.YtgidfhpcobpinaaDoorW.PrintMore
open Go.Proofs.YtgidfhpcobpinaaDoor.AddM Go.Proofs.YtgidfhpcobpinaaDoor.GtM
attribute [local go_sem ↓] Go.wp_at_zero Go.wp_at_succ
set_option linter.unusedSimpArgs false
set_option linter.unusedVariables false

/-- The types of the law's tokens. -/
def Okt (z : Int) : Prop := z = 31 ∨ z = 5 ∨ z = 3 ∨ z = 13 ∨ z = 14 ∨ z = 15 ∨ z = 18 ∨ z = 19 ∨ z = 26 ∨ z = 22 ∨ z = 7

/-- A token of the law lies in a block. -/
structure TokAt (w : World) (a : Nat) (z : Int) : Prop where
  ex : ∃ p t nx pv, w.heap[a]? = some (.cells (tokCells t p nx pv) 77 (0, 0)) ∧ w.heap[p]? = some (.cells (plCells t.pl) 70 (0, 0)) ∧ t.typ = z ∧ t.pl.line = 1 ∧ (z = 15 → t.value = ⟨#[33, 116]⟩)
  ok : Okt z

theorem TokAt.frame {w w' : World} {a : Nat} {z : Int} (h : TokAt w a z) (hk : ∀ (j : Nat) (cs : Array Value) (t : TypeId), t ≠ 96 → w.heap[j]? = some (.cells cs t (0, 0)) → w'.heap[j]? = some (.cells cs t (0, 0))) : TokAt w' a z := by
  obtain ⟨p, t, nx, pv, h1, h2, h3⟩ := h.ex
  exact ⟨⟨p, t, nx, pv, hk _ _ _ (by decide) h1, hk _ _ _ (by decide) h2, h3⟩, h.ok⟩

set_option maxRecDepth 100000 in
set_option maxHeartbeats 400000 in
theorem type_any {w : World} {b a : Nat} {z : Int} (hh : Head w b a) (ht : TokAt w a z) : Calls Tryd.prog 49 #[.pointer (some ⟨b, 0, none⟩)] w fun e w' => e = .returned (.int .i64 z) ∧ w = w' := by
  induction hh with
  | leaf b a h =>
    have c0 : w.cell? ⟨b, 0, none⟩ = some (.pointer (some ⟨a, 0, none⟩)) := blk_cell h 0
    obtain ⟨p, t, nx, pv, h1, _, rfl, _⟩ := ht.ex
    have t0 : w.cell? ⟨a, 0, none⟩ = some (.int .i64 t.typ) := blk_cell h1 0
    clear h h1 ht
    go_enter Tryd.func49, Tryd.ntmps49
    go_wp2
    go_ret
    exact ⟨rfl, rfl⟩
  | node b g r n c ty b' a h1 h2 h3 h4 ih =>
    have c0 : w.cell? ⟨b, 0, none⟩ = some (.pointer none) := blk_cell h1 0
    have c1 : w.cell? ⟨b, 1, none⟩ = some (.pointer (some ⟨g, 0, none⟩)) := blk_cell h1 1
    have g1 : w.cell? ⟨g, 1, none⟩ = some (.slice (some ⟨r, 0, none⟩) (n + 1) c) := blk_cell h2 1
    have r0 : w.cell? ⟨r, 0, none⟩ = some (.pointer (some ⟨b', 0, none⟩)) := h3
    have e0 : ((n : Int) + 1 == 0) = false := beq_eq_false_iff_ne.2 (by omega)
    have l0 : (0 : Int) < (n : Int) + 1 := by omega
    have IH := Aside0.mk (ih ht)
    clear h1 h2 h3 h4 ih ht
    go_enter Tryd.func49, Tryd.ntmps49
    go_wp2_with (first | (go_at_call 49; refine IH.out.mono ?_; rintro e w' ⟨rfl, rfl⟩) | go_in)
    go_ret
    exact ⟨rfl, rfl⟩

set_option maxRecDepth 100000 in
set_option maxHeartbeats 400000 in
theorem line_any {w : World} {b a : Nat} {z : Int} (hh : Head w b a) (ht : TokAt w a z) : Calls Tryd.prog 50 #[.pointer (some ⟨b, 0, none⟩)] w fun e w' => e = .returned (.int .i64 1) ∧ w = w' := by
  induction hh with
  | leaf b a h =>
    have c0 : w.cell? ⟨b, 0, none⟩ = some (.pointer (some ⟨a, 0, none⟩)) := blk_cell h 0
    obtain ⟨p, t, nx, pv, h1, h2, _, hl, _⟩ := ht.ex
    have t6 : w.cell? ⟨a, 6, none⟩ = some (.pointer (some ⟨p, 0, none⟩)) := blk_cell h1 6
    have p0 : w.cell? ⟨p, 0, none⟩ = some (.int .i64 1) := by rw [← hl]; exact blk_cell h2 0
    clear h h1 h2 ht hl
    go_enter Tryd.func50, Tryd.ntmps50
    go_wp2
    go_ret
    exact ⟨rfl, rfl⟩
  | node b g r n c ty b' a h1 h2 h3 h4 ih =>
    have c0 : w.cell? ⟨b, 0, none⟩ = some (.pointer none) := blk_cell h1 0
    have c1 : w.cell? ⟨b, 1, none⟩ = some (.pointer (some ⟨g, 0, none⟩)) := blk_cell h1 1
    have g1 : w.cell? ⟨g, 1, none⟩ = some (.slice (some ⟨r, 0, none⟩) (n + 1) c) := blk_cell h2 1
    have r0 : w.cell? ⟨r, 0, none⟩ = some (.pointer (some ⟨b', 0, none⟩)) := h3
    have e0 : ((n : Int) + 1 == 0) = false := beq_eq_false_iff_ne.2 (by omega)
    have l0 : (0 : Int) < (n : Int) + 1 := by omega
    have IH := Aside0.mk (ih ht)
    clear h1 h2 h3 h4 ih ht
    go_enter Tryd.func50, Tryd.ntmps50
    go_wp2_with (first | (go_at_call 50; refine IH.out.mono ?_; rintro e w' ⟨rfl, rfl⟩) | go_in)
    go_ret
    exact ⟨rfl, rfl⟩

set_option maxRecDepth 100000 in
set_option maxHeartbeats 400000 in
theorem raw_any {w : World} {b a : Nat} (hh : Head w b a) : Calls Tryd.prog 51 #[.pointer (some ⟨b, 0, none⟩)] w fun e w' => e = .returned (.pointer (some ⟨a, 0, none⟩)) ∧ w = w' := by
  induction hh with
  | leaf b a h =>
    have c0 : w.cell? ⟨b, 0, none⟩ = some (.pointer (some ⟨a, 0, none⟩)) := blk_cell h 0
    clear h
    go_enter Tryd.func51, Tryd.ntmps51
    go_wp2
    go_ret
    exact ⟨rfl, rfl⟩
  | node b g r n c ty b' a h1 h2 h3 h4 ih =>
    have c0 : w.cell? ⟨b, 0, none⟩ = some (.pointer none) := blk_cell h1 0
    have c1 : w.cell? ⟨b, 1, none⟩ = some (.pointer (some ⟨g, 0, none⟩)) := blk_cell h1 1
    have g1 : w.cell? ⟨g, 1, none⟩ = some (.slice (some ⟨r, 0, none⟩) (n + 1) c) := blk_cell h2 1
    have r0 : w.cell? ⟨r, 0, none⟩ = some (.pointer (some ⟨b', 0, none⟩)) := h3
    have e0 : ((n : Int) + 1 == 0) = false := beq_eq_false_iff_ne.2 (by omega)
    have l0 : (0 : Int) < (n : Int) + 1 := by omega
    have IH := Aside0.mk ih
    clear h1 h2 h3 h4 ih
    go_enter Tryd.func51, Tryd.ntmps51
    go_wp2_with (first | (go_at_call 51; refine IH.out.mono ?_; rintro e w' ⟨rfl, rfl⟩) | go_in)
    go_ret
    exact ⟨rfl, rfl⟩

def SomeInt (w : World) (e : Ending) (w' : World) : Prop := ∃ z : Int, e = .returned (.int .i64 z) ∧ w = w'
def SomeBool (w : World) (e : Ending) (w' : World) : Prop := ∃ r : Bool, e = .returned (.bool r) ∧ w = w'

set_option maxRecDepth 100000 in
set_option maxHeartbeats 400000 in
theorem group_any {w : World} {b a : Nat} (hh : Head w b a) : Calls Tryd.prog 55 #[.pointer (some ⟨b, 0, none⟩)] w (SomeInt w) := by
  cases hh with
  | leaf b a h =>
    have c0 : w.cell? ⟨b, 0, none⟩ = some (.pointer (some ⟨a, 0, none⟩)) := blk_cell h 0
    clear h
    go_enter Tryd.func55, Tryd.ntmps55
    go_wp2
    go_ret
    exact ⟨_, rfl, rfl⟩
  | node b g r n c ty b' a h1 h2 h3 h4 =>
    have c0 : w.cell? ⟨b, 0, none⟩ = some (.pointer none) := blk_cell h1 0
    have c1 : w.cell? ⟨b, 1, none⟩ = some (.pointer (some ⟨g, 0, none⟩)) := blk_cell h1 1
    have g0 : w.cell? ⟨g, 0, none⟩ = some (.int .i64 ty) := blk_cell h2 0
    clear h1 h2 h3 h4
    go_enter Tryd.func55, Tryd.ntmps55
    go_wp2
    go_ret
    exact ⟨_, rfl, rfl⟩

set_option maxRecDepth 100000 in
set_option maxHeartbeats 1000000 in
theorem scalar_any {w : World} {b a : Nat} {z : Int} (hh : Head w b a) (ht : TokAt w a z) : Calls Tryd.prog 53 #[.pointer (some ⟨b, 0, none⟩)] w (SomeBool w) := by
  have HT := Aside0.mk (type_any hh ht)
  have HG := Aside0.mk (group_any hh)
  clear hh ht
  go_enter Tryd.func53, Tryd.ntmps53
  go_wp2_with fail
  refine HG.out.mono ?_
  rintro e w' ⟨y, rfl, rfl⟩
  go_wp2_with (go_at_call 49; refine HT.out.mono ?_; rintro e w' ⟨rfl, rfl⟩)
  all_goals go_ret
  all_goals exact ⟨_, rfl, rfl⟩

set_option maxRecDepth 100000 in
set_option maxHeartbeats 1000000 in
theorem flow_any {w : World} {b a : Nat} {z : Int} (hh : Head w b a) (ht : TokAt w a z) : Calls Tryd.prog 56 #[.pointer (some ⟨b, 0, none⟩)] w (SomeBool w) := by
  have HT := Aside0.mk (type_any hh ht)
  clear hh ht
  go_enter Tryd.func56, Tryd.ntmps56
  go_wp2_with (go_at_call 49; refine HT.out.mono ?_; rintro e w' ⟨rfl, rfl⟩)
  all_goals go_ret
  all_goals exact ⟨_, rfl, rfl⟩

/-- A colon is no key. -/
def NoKey (z : Int) (w : World) (e : Ending) (w' : World) : Prop := ∃ r : Bool, e = .returned (.bool r) ∧ w = w' ∧ (z = 5 → r = true)

set_option maxRecDepth 100000 in
set_option maxHeartbeats 1000000 in
theorem notkey_any {w : World} {b a : Nat} {z : Int} (hh : Head w b a) (ht : TokAt w a z) : Calls Tryd.prog 67 #[.pointer (some ⟨b, 0, none⟩)] w (NoKey z w) := by
  have HT := Aside0.mk (type_any hh ht)
  clear hh ht
  by_cases h5 : z = 5
  · subst h5
    go_enter Tryd.func67, Tryd.ntmps67
    go_wp2_with (go_at_call 49; refine HT.out.mono ?_; rintro e w' ⟨rfl, rfl⟩)
    all_goals go_ret
    all_goals exact ⟨_, rfl, rfl, fun _ => rfl⟩
  · have H5 := Aside0.mk h5
    clear h5
    go_enter Tryd.func67, Tryd.ntmps67
    go_wp2_with (go_at_call 49; refine HT.out.mono ?_; rintro e w' ⟨rfl, rfl⟩)
    all_goals go_ret
    all_goals exact ⟨_, rfl, rfl, fun h => absurd h H5.out⟩

/-- An error of the parser. -/
def ErrAt (w : World) (x : Value) : Prop := ∃ s m a, x = .iface 88 (.pointer (some ⟨s, 0, none⟩)) ∧ w.heap[s]? = some (.cells #[.string m, .pointer (some ⟨a, 0, none⟩)] 91 (0, 0)) ∧ ∃ z, TokAt w a z

set_option maxRecDepth 100000 in
set_option maxHeartbeats 400000 in
theorem syntax_any (m : ByteArray) (a : Nat) (w : World) : Calls Tryd.prog 52 #[.string m, .pointer (some ⟨a, 0, none⟩)] w fun e w' => e = .returned (.pointer (some ⟨w.heap.size, 0, none⟩)) ∧ w' = w.alloc (.cells #[.string m, .pointer (some ⟨a, 0, none⟩)] 91) := by
  go_enter Tryd.func52, Tryd.ntmps52
  go_wp2
  go_ret
  exact ⟨rfl, rfl⟩

end Go.Proofs.YtgidfhpcobpinaaDoor.GtW
