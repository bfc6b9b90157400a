/- Walks of FnPartTag: the entry. -/
import Derived.Test.YtgidfhpcobpinaaTgWalk4
import Derived.Test.YtgidfhpcobpinaaLsWalk7
import Derived.Laws.Cover4
import Derived.BigRegion
namespace Go.Proofs.Ytgidfhpcobpinaa.TgW
open Go.RowKit Go.Proofs.Ytgidfhpcobpinaa.PFnPartTag Go.Proofs.YtgidfhpcobpinaaW.PrintWords Go.Proofs.YtgidfhpcobpinaaW.PrintLast Go.Proofs.YtgidfhpcobpinaaW.PrintMore
open Go.Proofs.Ytgidfhpcobpinaa.AddM Go.Proofs.Ytgidfhpcobpinaa.Rn
attribute [local go_sem ↓] Go.wp_at_zero Go.wp_at_succ
set_option linter.unusedSimpArgs false
set_option linter.unusedVariables false



theorem start_of (w : World) (l : List Int) (k cap : Nat) (hl : l.length ≤ 1000000) :
    St w ((((((w.alloc (.cells (SC (.slice (some ⟨w.heap.size + 1, 0, none⟩) l.length cap) l.length 0 1 1 0) 47)).alloc (.cells ((l.map (Value.int .i32)).toArray ++ Array.replicate k (.int .i32 0)) 21)).alloc (.cells #[] 53)).alloc
      (.cells (CX (.slice (some ⟨w.heap.size + 1, 0, none⟩) l.length cap) l.length 0 0 (.slice none 0 0) (.slice (some ⟨w.heap.size + 1 + 1, 0, none⟩) 0 0)) 52)).drew))
     ((((((w.alloc (.cells (SC (.slice (some ⟨w.heap.size + 1, 0, none⟩) l.length cap) l.length 0 1 1 0) 47)).alloc (.cells ((l.map (Value.int .i32)).toArray ++ Array.replicate k (.int .i32 0)) 21)).alloc (.cells #[] 53)).alloc
      (.cells (CX (.slice (some ⟨w.heap.size + 1, 0, none⟩) l.length cap) l.length 0 0 (.slice none 0 0) (.slice (some ⟨w.heap.size + 1 + 1, 0, none⟩) 0 0)) 52)).drew)) w.heap.size (w.heap.size + 1 + 1 + 1) (w.heap.size + 1)
      (SC (.slice (some ⟨w.heap.size + 1, 0, none⟩) l.length cap) l.length 0 1 1 0) (CX (.slice (some ⟨w.heap.size + 1, 0, none⟩) l.length cap) l.length 0 0 (.slice none 0 0) (.slice (some ⟨w.heap.size + 1 + 1, 0, none⟩) 0 0))
      ((l.map (Value.int .i32)).toArray ++ Array.replicate k (.int .i32 0)) (.slice none 0 0) 0 [] (.slice (some ⟨w.heap.size + 1 + 1, 0, none⟩) 0 0) 0 [] [] := by
  have b2 : ((((w.alloc (.cells (SC (.slice (some ⟨w.heap.size + 1, 0, none⟩) l.length cap) l.length 0 1 1 0) 47)).alloc (.cells ((l.map (Value.int .i32)).toArray ++ Array.replicate k (.int .i32 0)) 21)).alloc (.cells #[] 53)).alloc
      (.cells (CX (.slice (some ⟨w.heap.size + 1, 0, none⟩) l.length cap) l.length 0 0 (.slice none 0 0) (.slice (some ⟨w.heap.size + 1 + 1, 0, none⟩) 0 0)) 52)).heap[w.heap.size + 1 + 1]? = some (.cells #[] 53 (0, 0)) := blk_alloc (blk_top (by simp)) _
  exact
  { bel := below_drew (below_alloc (below_alloc (below_alloc (below_alloc (Below.refl _ _) _) _) _) _)
    sz := Nat.le_refl _
    row := blk_drew (blk_alloc (blk_alloc (blk_top (by simp)) _) _)
    sc := blk_drew (blk_alloc (blk_alloc (blk_alloc (blk_new _ _) _) _) _)
    cx := blk_drew (blk_top (by simp))
    own := World.ownsRow_nil _ _ _ _
    tok := ⟨rfl, .inr ⟨w.heap.size + 1 + 1, 0, #[], rfl, by omega, b2, Nat.le_refl _, by unfold maxLen; omega, rfl, rfl⟩⟩
    blk := fun x hx => by cases hx
    s0 := Nat.le_refl _
    c0 := by omega
    r1 := by show _ < (World.heap _).size; simp
    w01 := by show _ ≤ (World.heap _).size; simp; try omega }

theorem src_of (l : List Int) (k : Nat) : Src ((l.map (Value.int .i32)).toArray ++ Array.replicate k (.int .i32 0)) l := by
  intro j hj
  rw [Array.getElem?_append_left (by simpa using hj)]
  simp [List.getD, hj]

/-- A scanner and its context at the beginning of a text. -/
def Start (w w' : World) (l : List Int) (fm : Int) : Prop :=
  ∃ w1 cap R tk, l.length ≤ cap ∧ Src R l ∧ St w w1 w' w.heap.size (w.heap.size + 1 + 1 + 1) (w.heap.size + 1) (SC (.slice (some ⟨w.heap.size + 1, 0, none⟩) l.length cap) l.length 0 1 1 fm) (CX (.slice (some ⟨w.heap.size + 1, 0, none⟩) l.length cap) l.length 0 0 (.slice none 0 0) tk) R (.slice none 0 0) 0 [] tk 0 [] []

set_option maxRecDepth 100000 in
set_option maxHeartbeats 1000000 in
theorem zzAt_any (s : ByteArray) (l : List Int) (w : World) (hl : runesAt s 0 = l) (hs : s.size ≤ 1000000) :
    Calls Try.prog 9 #[.string s] w fun e w' => e = .returned (.tuple #[.pointer (some ⟨w.heap.size, 0, none⟩), .pointer (some ⟨w.heap.size + 1 + 1 + 1, 0, none⟩)]) ∧ Start w w' l 0 := by
  have hrn := runesFrom_all s
  rw [hl] at hrn
  have hlen : l.length ≤ 1000000 := by have := runesAt_length s 0; rw [hl] at this; omega
  have hcv := fun (wx : World) => run_runes_of_string (P := Try.prog) wx 9 43 21 s Try.underlying9 Try.underlying43 Try.underlying21 (by rw [hrn]; simp; omega)
  rw [hrn] at hcv
  have HL := Aside0.mk hl
  have HR := Aside0.mk hrn
  clear hl hrn
  go_enter Try.func9, Try.ntmps9
  go_wp2
  go_end0
  go_wp2
  go_end0
  go_wp2
  go_end0
  go_wp2
  go_end0
  go_wp2
  go_ret2
  exact ⟨rfl, _, _, _, _, grownCap_ge _ _ _ _, src_of l _, start_of _ l _ _ hlen⟩


open Go.Proofs.Ytgidfhpcobpinaa.AddW (nxk pvk ptrs list_any Listed res)

def tagTk (v o : ByteArray) (pl : Pl) : Tk := { typ := 15, char := 0, sign := 4, value := v, origin := o, err := ⟨#[]⟩, pl := pl }

/-- One token has been scanned. -/
def Scanned (w w' : World) (v : ByteArray) (A : Option Addr) (c : Nat) : Prop :=
  Below w.heap.size w w' ∧ ∃ tb pb o pl, w'.ownsRow w.heap.size 53 1 (.slice A 1 c) 1 (ptrs [tb]) ∧ Toks 0 w' [tagTk v o pl] [tb] [pb] (nxk [tb] 1) (pvk [tb] 1)

theorem scanned_of {w w1 w' : World} {sb cb rb : Nat} {S C R : Array Value} {ob : Value} {n : Nat} {xs : List Int} {gg cap tb pb : Nat} {v o : ByteArray} {pl : Pl}
    (h : St w w1 w' sb cb rb S C R ob n xs (.slice (some ⟨gg, 0, none⟩) 1 cap) 1 [.pointer (some ⟨tb, 0, none⟩)] [(tb, tagCells v o pb, 58), (pb, plCells pl, 73)]) : Scanned w w' v (some ⟨gg, 0, none⟩) cap := by
  refine ⟨h.bel, tb, pb, o, pl, h.tok, by simp, fun j t b p ht hb hp => ?_⟩
  cases j with
  | zero =>
    simp only [List.getElem?_cons_zero, Option.some.injEq] at ht hb hp
    subst ht hb hp
    exact ⟨Nat.zero_le _, Nat.zero_le _, (h.blk _ (List.mem_cons_self ..)).1, (h.blk _ (List.mem_cons_of_mem _ (List.mem_cons_self ..))).1⟩
  | succ j => simp at ht

/-- What a text must be. -/
structure TagText (s : ByteArray) (l : List Int) (M : Nat) (sep : Int) (flow : Bool) : Prop where
  runes : runesAt s 0 = l
  sz : s.size ≤ 10000
  m1 : 1 ≤ M
  lt : M < l.length
  stop : l[M]? = some sep
  kind : sep = 32 ∨ sep = 10 ∨ (sep = 44 ∧ flow = true)
  plain : ∀ j c, 1 ≤ j → j < M → l[j]? = some c → c ≠ 32 ∧ c ≠ 44 ∧ c ≠ 10 ∧ c ≠ 13 ∧ c ≠ 123 ∧ c ≠ 125
  again : (runesAt (runesBytes (l.take M)) 0).length = M

set_option maxRecDepth 100000 in
set_option maxHeartbeats 1000000 in
theorem zzTag_any (s : ByteArray) (l : List Int) (M : Nat) (sep : Int) (flow : Bool) (w : World) (h : TagText s l M sep flow) :
    Calls Try.prog 7 #[.string s, .bool flow] w fun e w' => ∃ A c sp, e = .returned (.tuple #[.slice A 1 c, .int .i64 sp, .nilIface]) ∧ Scanned w w' (runesBytes (l.take M)) A c := by
  have HT := Aside0.mk h
  have hlen : l.length ≤ 10000 := by have := runesAt_length s 0; rw [h.runes] at this; have := h.sz; omega
  have hl1 : M < l.length := h.lt
  have HZ := Aside0.mk (zzAt_any s l w h.runes (by have := h.sz; omega))
  clear h
  have e0 : ((l.length : Int) == 0) = false := beq_eq_false_iff_ne.2 (by omega)
  go_enter Try.func7, Try.ntmps7
  go_wp2_with fail
  refine HZ.out.mono ?_
  rintro e wa ⟨rfl, w1, cap, R, tk, hcap, hR, hA⟩
  have HR := Aside0.mk hR
  clear hR HZ
  cases flow
  · have HA := Aside0.mk hA
    have a0 : wa.cell? ⟨w.heap.size, 0, none⟩ = some (.slice (some ⟨w.heap.size + 1, 0, none⟩) l.length cap) := blk_cell hA.sc 0
    clear hA
    go_wp2_with fail
    refine (scanTag_any l cap M sep HR.out hcap hlen HT.out.m1 HT.out.lt HT.out.stop (by rcases HT.out.kind with h | h | h; exact .inl h; exact .inr (.inl h); cases h.2) (by omega) HT.out.again HT.out.plain HA.out).mono ?_
    rintro e wb ⟨rfl, sp, col, off, idx, nso, ob, ob', n, xs, gg, cap', tb, pb, o, pl, hB⟩
    have HB := Aside0.mk hB
    have c7 : wb.cell? ⟨w.heap.size + 1 + 1 + 1, 7, none⟩ = some (.slice (some ⟨gg, 0, none⟩) 1 cap') := blk_cell hB.cx 7
    have s1 : wb.cell? ⟨w.heap.size, 1, none⟩ = some (.int .i64 sp) := blk_cell hB.sc 1
    clear hB
    go_wp2
    go_quiet (fail)
    go_wp2
    go_ret3
    exact ⟨_, _, _, rfl, scanned_of (HB.out.more (pw_below_drewN (Below.refl _ _) _))⟩
  · have a15 : wa.cell? ⟨w.heap.size, 15, none⟩ = some (.int .i64 0) := blk_cell hA.sc 15
    have f15 : wa.frozen? ⟨w.heap.size, 15, none⟩ = false := blk_frozen hA.sc 15
    have HA := Aside0.mk (hA.setS 15 (.int .i64 1))
    have a0 : (wa.setCell ⟨w.heap.size, 15, none⟩ (.int .i64 1)).cell? ⟨w.heap.size, 0, none⟩ = some (.slice (some ⟨w.heap.size + 1, 0, none⟩) l.length cap) := blk_cell HA.out.sc 0
    clear hA
    go_wp2_with fail
    refine (scanTag_any (fm := 1) l cap M sep HR.out hcap hlen HT.out.m1 HT.out.lt HT.out.stop (by rcases HT.out.kind with h | h | h; exact .inl h; exact .inr (.inl h); exact .inr (.inr ⟨h.1, by omega⟩)) (by omega) HT.out.again HT.out.plain HA.out).mono ?_
    rintro e wb ⟨rfl, sp, col, off, idx, nso, ob, ob', n, xs, gg, cap', tb, pb, o, pl, hB⟩
    have HB := Aside0.mk hB
    have c7 : wb.cell? ⟨w.heap.size + 1 + 1 + 1, 7, none⟩ = some (.slice (some ⟨gg, 0, none⟩) 1 cap') := blk_cell hB.cx 7
    have s1 : wb.cell? ⟨w.heap.size, 1, none⟩ = some (.int .i64 sp) := blk_cell hB.sc 1
    clear hB
    go_wp2
    go_quiet (fail)
    go_wp2
    go_ret3
    exact ⟨_, _, _, rfl, scanned_of (HB.out.more (pw_below_drewN (Below.refl _ _) _))⟩

end Go.Proofs.Ytgidfhpcobpinaa.TgW
