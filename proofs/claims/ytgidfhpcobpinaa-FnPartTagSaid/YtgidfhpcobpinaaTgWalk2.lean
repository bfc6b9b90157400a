/- Walks of FnPartTag: the small methods of a scanner and its context. -/
import Derived.Test.YtgidfhpcobpinaaTgWalk1
import Derived.Laws.Cover4
import Derived.BigRegion
namespace Go.Proofs.Ytgidfhpcobpinaa.TgW
open Go.RowKit Go.Proofs.Ytgidfhpcobpinaa.PFnPartTag Go.Proofs.YtgidfhpcobpinaaW.PrintWords Go.Proofs.YtgidfhpcobpinaaW.PrintLast Go.Proofs.YtgidfhpcobpinaaW.PrintMore
open Go.Proofs.Ytgidfhpcobpinaa.AddM Go.Proofs.Ytgidfhpcobpinaa.Rn
attribute [local go_sem ↓] Go.wp_at_zero Go.wp_at_succ
set_option linter.unusedSimpArgs false
set_option linter.unusedVariables false


set_option maxRecDepth 100000 in
set_option maxHeartbeats 400000 in
theorem bufSrc_any (w : World) (cb : Nat) (src : Value) (len idx nso : Int) (ob tk : Value) (h : w.heap[cb]? = some (.cells (CX src len idx nso ob tk) 52 (0, 0))) :
    Calls Try.prog 29 #[.pointer (some ⟨cb, 0, none⟩)] w fun e w' => e = .returned (.slice none 0 0) ∧ Below w.heap.size w w' := by
  have c2 : w.cell? ⟨cb, 2, none⟩ = some (.int .i64 0) := blk_cell h 2
  have c5 : w.cell? ⟨cb, 5, none⟩ = some (.slice none 0 0) := blk_cell h 5
  have c8 : w.cell? ⟨cb, 8, none⟩ = some (.pointer none) := blk_cell h 8
  clear h
  go_enter Try.func29, Try.ntmps29
  go_wp2
  go_quiet (fail)
  go_wp2
  go_ret
  exact ⟨rfl, pw_below_drewN (Below.refl _ _) _⟩

set_option maxRecDepth 100000 in
set_option maxHeartbeats 400000 in
theorem exists_any (w : World) (cb : Nat) (src : Value) (len idx nso : Int) (ob tk : Value) (h : w.heap[cb]? = some (.cells (CX src len idx nso ob tk) 52 (0, 0))) :
    Calls Try.prog 15 #[.pointer (some ⟨cb, 0, none⟩)] w fun e w' => e = .returned (.bool false) ∧ Below w.heap.size w w' := by
  have HB := Aside0.mk (bufSrc_any w cb src len idx nso ob tk h)
  clear h
  go_enter Try.func15, Try.ntmps15
  go_wp2_with fail
  refine HB.out.mono ?_
  rintro e w' ⟨rfl, hb⟩
  go_wp2
  go_ret
  exact ⟨rfl, hb⟩

variable {w0 w1 w : World} {sb cb rb : Nat} {S C R : Array Value} {src ob : Value} {n : Nat} {xs : List Int} {tk : Value} {m : Nat} {ts : List Value} {bs : List (Nat × Array Value × TypeId)} {len sp col off fm idx nso : Int}

set_option maxRecDepth 100000 in
set_option maxHeartbeats 400000 in
theorem progress_any (num : Int) (h : St w0 w1 w sb cb rb (SC src len sp col off fm) (CX src len idx nso ob tk) R ob n xs tk m ts bs) (hi : 0 ≤ idx ∧ idx ≤ 1000000) (hs : 0 ≤ sp ∧ sp ≤ 1000000) (hn : 0 ≤ num ∧ num ≤ 1000000) :
    Calls Try.prog 17 #[.pointer (some ⟨sb, 0, none⟩), .pointer (some ⟨cb, 0, none⟩), .int .i64 num] w fun e w' => e = .returned (.tuple #[]) ∧ St w0 w1 w' sb cb rb (SC src len (sp + num) col off fm) (CX src len (idx + num) nso ob tk) R ob n xs tk m ts bs := by
  have HH := Aside0.mk ((h.setC 0 (.int .i64 (idx + num))).setS 1 (.int .i64 (sp + num)))
  have g0 : w.cell? ⟨cb, 0, none⟩ = some (.int .i64 idx) := blk_cell h.cx 0
  have f0 : w.frozen? ⟨cb, 0, none⟩ = false := blk_frozen h.cx 0
  have g1 : ∀ v, (w.setCell ⟨cb, 0, none⟩ v).cell? ⟨sb, 1, none⟩ = some (.int .i64 sp) := fun v => blk_cell (h.setC 0 v).sc 1
  have f1 : w.frozen? ⟨sb, 1, none⟩ = false := blk_frozen h.sc 1
  clear h
  go_enter Try.func17, Try.ntmps17
  go_wp2
  go_end0
  go_wp2
  go_end0
  exact ⟨rfl, HH.out⟩

set_option maxRecDepth 100000 in
set_option maxHeartbeats 400000 in
theorem column_any (num : Int) (h : St w0 w1 w sb cb rb (SC src len sp col off fm) (CX src len idx nso ob tk) R ob n xs tk m ts bs) (hi : 0 ≤ idx ∧ idx ≤ 1000000) (hs : 0 ≤ sp ∧ sp ≤ 1000000) (hc : 0 ≤ col ∧ col ≤ 1000000) (ho : 0 ≤ off ∧ off ≤ 1000000) (hn : 0 ≤ num ∧ num ≤ 1000000) :
    Calls Try.prog 22 #[.pointer (some ⟨sb, 0, none⟩), .pointer (some ⟨cb, 0, none⟩), .int .i64 num] w fun e w' => e = .returned (.tuple #[]) ∧ St w0 w1 w' sb cb rb (SC src len (sp + num) (col + num) (off + num) fm) (CX src len (idx + num) nso ob tk) R ob n xs tk m ts bs := by
  have H1 := h.setS 4 (.int .i64 (col + num))
  have H2 := H1.setS 5 (.int .i64 (off + num))
  have HP := Aside0.mk (progress_any (w := (w.setCell ⟨sb, 4, none⟩ (.int .i64 (col + num))).setCell ⟨sb, 5, none⟩ (.int .i64 (off + num))) (src := src) (len := len) (sp := sp) (col := col + num) (off := off + num) (fm := fm) num H2 hi hs hn)
  have g4 : w.cell? ⟨sb, 4, none⟩ = some (.int .i64 col) := blk_cell h.sc 4
  have f4 : w.frozen? ⟨sb, 4, none⟩ = false := blk_frozen h.sc 4
  have g5 : (w.setCell ⟨sb, 4, none⟩ (.int .i64 (col + num))).cell? ⟨sb, 5, none⟩ = some (.int .i64 off) := blk_cell H1.sc 5
  have f5 : w.frozen? ⟨sb, 5, none⟩ = false := blk_frozen h.sc 5
  clear h H1 H2
  go_enter Try.func22, Try.ntmps22
  go_wp2_with fail
  refine HP.out.mono ?_
  rintro e w' ⟨rfl, HF⟩
  have HFF := Aside0.mk HF
  clear HF HP
  go_wp2
  go_end0
  exact ⟨rfl, HFF.out⟩

set_option maxRecDepth 100000 in
set_option maxHeartbeats 400000 in
theorem clear_any (h : St w0 w1 w sb cb rb S (CX src len idx nso ob tk) R ob n xs tk m ts bs) (g cap : Nat) (ho : ob = .slice (some ⟨g, 0, none⟩) n cap) (hn : n ≤ cap) :
    Calls Try.prog 23 #[.pointer (some ⟨cb, 0, none⟩)] w fun e w' => e = .returned (.tuple #[]) ∧ ∃ ob', St w0 w1 w' sb cb rb S (CX src len idx 0 ob' tk) R ob n xs tk m ts bs := by
  subst ho
  have H1 := h.setC 5 (.slice none 0 0)
  have H2 := H1.setC 6 (.slice (some ⟨g, 0, none⟩) 0 cap)
  have H3 := H2.setC 2 (.int .i64 0)
  have H4 := H3.setC 3 (.int .i64 0)
  have HF := Aside0.mk (H4.setC 8 (.pointer none))
  have g5 : w.cell? ⟨cb, 5, none⟩ = some (.slice none 0 0) := blk_cell h.cx 5
  have f5 : ∀ i, w.frozen? ⟨cb, i, none⟩ = false := fun i => blk_frozen h.cx i
  have g6 : (w.setCell ⟨cb, 5, none⟩ (.slice none 0 0)).cell? ⟨cb, 6, none⟩ = some (.slice (some ⟨g, 0, none⟩) n cap) := blk_cell H1.cx 6
  have g2 : ((w.setCell ⟨cb, 5, none⟩ (.slice none 0 0)).setCell ⟨cb, 6, none⟩ (.slice (some ⟨g, 0, none⟩) 0 cap)).cell? ⟨cb, 2, none⟩ = some (.int .i64 0) := blk_cell H2.cx 2
  have g3 : (((w.setCell ⟨cb, 5, none⟩ (.slice none 0 0)).setCell ⟨cb, 6, none⟩ (.slice (some ⟨g, 0, none⟩) 0 cap)).setCell ⟨cb, 2, none⟩ (.int .i64 0)).cell? ⟨cb, 3, none⟩ = some (.int .i64 nso) := blk_cell H3.cx 3
  have g8 : ((((w.setCell ⟨cb, 5, none⟩ (.slice none 0 0)).setCell ⟨cb, 6, none⟩ (.slice (some ⟨g, 0, none⟩) 0 cap)).setCell ⟨cb, 2, none⟩ (.int .i64 0)).setCell ⟨cb, 3, none⟩ (.int .i64 0)).cell? ⟨cb, 8, none⟩ = some (.pointer none) := blk_cell H4.cx 8
  clear h H1 H2 H3 H4
  go_enter Try.func23, Try.ntmps23
  go_wp2
  go_end0
  go_wp2
  go_end0
  exact ⟨rfl, _, HF.out⟩

/-- The source's characters. -/
def Src (R : Array Value) (l : List Int) : Prop := ∀ j, j < l.length → R[j]? = some (.int .i32 (l.getD j 0))

set_option maxRecDepth 100000 in
set_option maxHeartbeats 400000 in
theorem source_any (l : List Int) (cap q : Nat) (hR : Src R l) (hcap : l.length ≤ cap) (hl : l.length ≤ 1000000) (hq : q ≤ l.length) (h : w.heap[cb]? = some (.cells (CX (.slice (some ⟨rb, 0, none⟩) l.length cap) len idx nso ob tk) 52 (0, 0))) (hr : w.heap[rb]? = some (.cells R 21 (0, 0))) :
    Calls Try.prog 18 #[.pointer (some ⟨cb, 0, none⟩), .int .i64 0, .int .i64 q] w fun e w' => e = .returned (.string (runesBytes (l.take q))) ∧ ∃ nd, w' = w.drewN nd := by
  have hcv : (convert 43 9 (.slice (some ⟨rb, 0, none⟩) q cap)).run Try.prog w = .ok (.string (runesBytes (l.take q))) w :=
    run_convert_runes w 43 9 21 ⟨rb, 0, none⟩ q cap l hq Try.underlying43 Try.underlying21 Try.underlying9 fun j hj => by
      rw [add_plain, blk_cell hr]
      exact hR j hj
  have g4 : w.cell? ⟨cb, 4, none⟩ = some (.slice (some ⟨rb, 0, none⟩) l.length cap) := blk_cell h 4
  generalize runesBytes (l.take q) = X at *
  clear h hr hR
  go_enter Try.func18, Try.ntmps18
  go_wp2_with (simp only [hcv])
  go_ret
  exact ⟨rfl, 0, rfl⟩

set_option maxRecDepth 100000 in
set_option maxHeartbeats 1000000 in
theorem pos_any (h : w.heap[sb]? = some (.cells (SC src len sp col off fm) 47 (0, 0))) :
    Calls Try.prog 21 #[.pointer (some ⟨sb, 0, none⟩)] w fun e w' => e = .returned (.pointer (some ⟨w.heap.size, 0, none⟩)) ∧ ∃ q, w' = (w.alloc (.cells #[.int .i64 1, .int .i64 col, .int .i64 off, .int .i64 0, .int .i64 0] 73)).drewN q := by
  have g3 : w.cell? ⟨sb, 3, none⟩ = some (.int .i64 1) := blk_cell h 3
  have g4 : w.cell? ⟨sb, 4, none⟩ = some (.int .i64 col) := blk_cell h 4
  have g5 : w.cell? ⟨sb, 5, none⟩ = some (.int .i64 off) := blk_cell h 5
  have g7 : w.cell? ⟨sb, 7, none⟩ = some (.int .i64 0) := blk_cell h 7
  have g9 : w.cell? ⟨sb, 9, none⟩ = some (.int .i64 0) := blk_cell h 9
  clear h
  go_enter Try.func21, Try.ntmps21
  go_wp2
  go_region_held3 (fun w' => w'.cell? ⟨sb, 3, none⟩ = some (.int .i64 1) ∧ w'.cell? ⟨sb, 4, none⟩ = some (.int .i64 col) ∧ w'.cell? ⟨sb, 5, none⟩ = some (.int .i64 off) ∧ w'.cell? ⟨sb, 7, none⟩ = some (.int .i64 0) ∧ w'.cell? ⟨sb, 9, none⟩ = some (.int .i64 0))
    (go_keep) (fail)
  go_wp2
  go_ret
  exact ⟨rfl, 1, rfl⟩

end Go.Proofs.Ytgidfhpcobpinaa.TgW
