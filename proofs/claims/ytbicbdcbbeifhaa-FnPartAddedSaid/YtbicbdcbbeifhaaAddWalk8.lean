/- Walks of FnPartAdded: impl.Added. -/
import Derived.Test.YtbicbdcbbeifhaaAddWalk2
import Derived.Test.YtbicbdcbbeifhaaAddWalk6
import Derived.Test.YtbicbdcbbeifhaaAddWalk7
namespace Go.Proofs.Ytbicbdcbbeifhaa.AddW
open Go.RowKit Go.Proofs.Ytbicbdcbbeifhaa.PFnPartAdded Go.Proofs.YtbicbdcbbeifhaaW.PrintWords Go.Proofs.YtbicbdcbbeifhaaW.PrintLast Go.Proofs.YtbicbdcbbeifhaaW.PrintMore
open Go.Proofs.Ytbicbdcbbeifhaa.AddM
set_option linter.unusedSimpArgs false
set_option linter.unusedVariables false

/-- The tokens that are made, as Added goes through them. -/
structure Stands (B : Nat) (w0 wr : World) (ts : List Tk) (tb pb : List Nat) (vm : Value) : Prop where
  bel : Below B w0 wr
  row : wr.ownsRow B 49 1 vm ts.length (ptrs tb)
  toks : Toks B wr ts tb pb none2 none2

theorem setSame {w : World} {b i : Nat} {cs : Array Value} {t : TypeId} {u : Value} (hb : w.heap[b]? = some (.cells cs t (0, 0))) (hu : cs[i]? = some u) (k : Nat) : (w.setCell ⟨b, i, none⟩ u).heap[k]? = w.heap[k]? := by
  by_cases h : k = b
  · subst h
    rw [blk_set hb i u, hb]
    congr 2
    apply Array.ext
    · simp
    · intro j h1 h2
      rw [Array.getElem_setIfInBounds]
      split
      · rename_i e
        subst e
        rw [Array.getElem?_eq_getElem h2] at hu
        exact (Option.some.inj hu).symm
      · rfl
  · exact Below.heap_setCell _ _ _ _ h

theorem stands_set {B : Nat} {w0 wr : World} {ts : List Tk} {tb pb : List Nat} {vm : Value} (h : Stands B w0 wr ts tb pb vm) {b i : Nat} {cs : Array Value} {t : TypeId} {u : Value} (hb : wr.heap[b]? = some (.cells cs t (0, 0))) (hu : cs[i]? = some u) (hB : B ≤ b) :
    Stands B w0 (wr.setCell ⟨b, i, none⟩ u) ts tb pb vm :=
  ⟨h.bel.setCell hB _, own_move h.row (fun k _ => setSame hb hu k), h.toks.move (fun k _ _ _ hk => (setSame hb hu k).trans hk)⟩

theorem stands_two {B : Nat} {w0 wr : World} {ts : List Tk} {tb pb : List Nat} {vm : Value} (h : Stands B w0 wr ts tb pb vm) {k b p : Nat} {t : Tk} (ht : ts[k]? = some t) (hb : tb[k]? = some b) (hp : pb[k]? = some p) :
    Stands B w0 ((wr.setCell ⟨b, 8, none⟩ (.pointer none)).setCell ⟨b, 7, none⟩ (.pointer none)) ts tb pb vm := by
  obtain ⟨h1, _, h3, _⟩ := h.toks.2 k t b p ht hb hp
  have s1 := stands_set h h3 (i := 8) (u := .pointer none) rfl h1
  obtain ⟨_, _, h3', _⟩ := s1.toks.2 k t b p ht hb hp
  exact stands_set s1 h3' (i := 7) (u := .pointer none) rfl h1

theorem adding_start {B : Nat} {w0 wr : World} {ts : List Tk} {tb pb : List Nat} {vm : Value} (h : Stands B w0 wr ts tb pb vm) (hB : B ≤ wr.heap.size) (q : Nat) (hq : q = wr.heap.size) : Adding B w0 (wr.alloc (.cells #[.slice none 0 0] 47)) q ts tb pb vm 0 := by
  subst hq
  have hb : Below wr.heap.size wr (wr.alloc (.cells #[.slice none 0 0] 47)) := below_alloc (Below.refl _ _) _
  have e1 : nxk tb 0 = none2 := by
    funext j
    simp [nxk, none2]
  have e2 : pvk tb 0 = none2 := by
    funext j
    unfold pvk
    rw [if_neg (by omega)]
    rfl
  refine ⟨below_then h.bel hB hb, ?_, pw_own_below h.row hb, .slice none 0 0, blk_top rfl, World.ownsRow_nil _ _ _ _, fun _ => rfl, fun h => by omega, fun j hj => by cases hj⟩
  rw [e1, e2]
  exact h.toks.below hb

/-- What the list holds in the end. -/
theorem adding_end {B : Nat} {w0 wr : World} {q : Nat} {ts : List Tk} {tb pb : List Nat} {vm : Value} (h : Adding B w0 wr q ts tb pb vm ts.length) (hl : tb.length = ts.length) :
    ∃ A c, wr.cell? ⟨q, 0, none⟩ = some (.slice A ts.length c) ∧ wr.ownsRow B 49 1 (.slice A ts.length c) ts.length (ptrs tb) := by
  obtain ⟨v, hq, hown, hz, hs, _⟩ := h.lst
  rw [List.take_of_length_le (by omega)] at hown
  obtain ⟨A, c, rfl⟩ := own_slice hown
  exact ⟨A, c, blk_cell hq 0, hown⟩

set_option maxRecDepth 100000 in
set_option maxHeartbeats 1000000 in
theorem added_any (A : Option Addr) (c : Nat) (ts : List Tk) (w : World) (hn : ts.length ≤ 1000) (hok : ∀ t ∈ ts, Ok t) (hr : Row w 13 A (ts.map lone)) :
    Calls Try.prog 16 #[.slice A ts.length c] w fun e w' => ∃ v, e = .returned v ∧ Below w.heap.size w w' ∧ w'.ownsRow w.heap.size 38 13 v ts.length (res ts).flatten := by
  have HM := Aside0.mk (made_any A c ts w hn hok hr)
  clear hok hr
  go_enter Try.func16, Try.ntmps16
  go_wp2_with fail
  refine HM.out.mono ?_
  rintro e w1 ⟨vm, rfl, hbel, tb, pb, hl, hp, hown, htok⟩
  obtain ⟨Am, cm, rfl⟩ := own_slice hown
  have HS : Aside0 (Stands w.heap.size w w1 ts tb pb (.slice Am ts.length cm)) := ⟨⟨hbel, hown, htok⟩⟩
  have HL := Aside0.mk hl
  have HP := Aside0.mk hp
  clear hbel hown htok hl hp HM
  go_wp2
  go_loopw [5, 11] (fun _ i wr => ∃ k : Nat, k ≤ ts.length ∧ i = .int .i64 k ∧ Aside0 (Stands w.heap.size w wr ts tb pb (.slice Am ts.length cm))) (fun _ i _ => ts.length - (intOf i).toNat)
  case atStart => exact ⟨0, by omega, rfl, HS⟩
  case round =>
    obtain ⟨k, hk, rfl, hA⟩ := hrel
    clear HS
    by_cases hlt : k < ts.length
    · obtain ⟨t, ht⟩ : ∃ t, ts[k]? = some t := ⟨_, List.getElem?_eq_getElem hlt⟩
      obtain ⟨b, hb⟩ : ∃ b, tb[k]? = some b := ⟨_, List.getElem?_eq_getElem (by rw [HL.out]; exact hlt)⟩
      obtain ⟨p, hp⟩ : ∃ p, pb[k]? = some p := ⟨_, List.getElem?_eq_getElem (by rw [HP.out]; exact hlt)⟩
      have HN := Aside0.mk (stands_two hA.out ht hb hp)
      obtain ⟨_, _, hbb, _⟩ := hA.out.toks.2 k t b p ht hb hp
      have hr := hA.out.row
      obtain ⟨g, cap', hv, _, _⟩ := hr.form (by omega)
      simp only [Value.slice.injEq] at hv
      obtain ⟨rfl, _, rfl⟩ := hv
      have hcell : wr.cell? ⟨g, k, none⟩ = some (.pointer (some ⟨b, 0, none⟩)) := by
        have := hr.cells (g := g) rfl k (ptr (some b)) (by rw [ptrs, List.getElem?_map, hb]; rfl)
        rwa [add_plain] at this
      have b8 : wr.cell? ⟨b, 8, none⟩ = some (.pointer none) := blk_cell hbb 8
      have f8 : wr.frozen? ⟨b, 8, none⟩ = false := blk_frozen hbb 8
      have b7 : wr.cell? ⟨b, 7, none⟩ = some (.pointer none) := blk_cell hbb 7
      have f7 : wr.frozen? ⟨b, 7, none⟩ = false := blk_frozen hbb 7
      clear hr hbb ht hb hp hA
      go_wp2_with fail
      go_roundw
      case rel => exact ⟨k + 1, by omega, by go_num, HN⟩
      case measure => simp [intOf]; omega
    · have hBw : w.heap.size ≤ wr.heap.size := hA.out.bel.size
      have HD := Aside0.mk (adding_start hA.out hBw wr.heap.size rfl)
      clear hA
      go_wp2_with fail
      refine (addAll_any w.heap.size w _ wr.heap.size ts tb pb Am cm HD.out HL.out HP.out hn (by simp; omega) rfl hBw).mono ?_
      rintro e w2 ⟨rfl, hE⟩
      have HE := Aside0.mk hE
      obtain ⟨A', c', hq, hrow⟩ := adding_end hE HL.out
      have HROW := Aside0.mk hrow
      have hsz : w.heap.size ≤ w2.heap.size := hE.bel.size
      clear hE hrow HD
      go_wp2_with fail
      refine (list_any w.heap.size _ ts tb pb A' c' HROW.out HE.out.toks HL.out HP.out hn).mono ?_
      rintro e w3 ⟨v, rfl, hb3, ho3⟩
      have HF : Aside0 (Below w.heap.size w w3 ∧ w3.ownsRow w.heap.size 38 13 v ts.length (res ts).flatten) := by
        refine ⟨below_then HE.out.bel hsz hb3, own_weaken ?_ hsz⟩
        rwa [List.take_of_length_le (by simp [res])] at ho3
      clear hb3 ho3
      go_wp2
      go_ret
      exact ⟨v, rfl, HF.out⟩

end Go.Proofs.Ytbicbdcbbeifhaa.AddW
