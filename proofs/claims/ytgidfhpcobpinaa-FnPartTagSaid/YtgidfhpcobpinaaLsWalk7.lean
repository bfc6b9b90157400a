/- Walks of FnPartTag: the tokens as data. -/
import Derived.Test.YtgidfhpcobpinaaLsWalk3
namespace Go.Proofs.Ytgidfhpcobpinaa.AddW
open Go.RowKit Go.Proofs.Ytgidfhpcobpinaa.PFnPartTag Go.Proofs.YtgidfhpcobpinaaW.PrintWords Go.Proofs.YtgidfhpcobpinaaW.PrintLast Go.Proofs.YtgidfhpcobpinaaW.PrintMore
open Go.Proofs.Ytgidfhpcobpinaa.AddM
attribute [local go_sem ↓] Go.wp_at_zero Go.wp_at_succ
set_option linter.unusedSimpArgs false
set_option linter.unusedVariables false

def none2 : Nat → Option Nat := fun _ => none
/-- What stands behind token j, and before it, when k of them have been added. -/
def nxk (tb : List Nat) (k j : Nat) : Option Nat := if j + 1 < k then tb[j + 1]? else none
def pvk (tb : List Nat) (k j : Nat) : Option Nat := if 0 < j ∧ j < k then tb[j - 1]? else none
def ptrs (tb : List Nat) : List Value := tb.map fun b => ptr (some b)

/-- The index of what stands behind token j of n, and before it. -/
def nextI (n j : Nat) : Int := if j + 1 < n then (j : Int) + 1 else -1
def prevI (j : Nat) : Int := (j : Int) - 1
def resAt (n j : Nat) (t : Tk) : List Value := tkList t (prevI j) (nextI n j)
/-- The tokens as data, beside each other. -/
def res (ts : List Tk) : List (List Value) := ts.mapIdx fun j t => resAt ts.length j t

theorem info29 : (Try.prog.info? 29).map (fun i => (i.zero, i.size, i.bytes)) = some (some (.agg #[.int .i64 0, .int .i64 0, .int .i64 0, .string ⟨#[]⟩, .string ⟨#[]⟩, .string ⟨#[]⟩, .int .i64 0, .int .i64 0, .int .i64 0, .int .i64 0, .int .i64 0, .int .i64 0, .int .i64 0]), 13, 128) := by kernel_rfl

/-- list, behind k rounds. -/
def Listed (w wr : World) (ts : List Tk) (k : Nat) (v : Value) : Prop :=
  Below w.heap.size w wr ∧ wr.ownsRow w.heap.size 29 13 v k ((res ts).take k).flatten

theorem res_take (ts : List Tk) (k : Nat) (t : Tk) (h : ts[k]? = some t) : ((res ts).take (k + 1)).flatten = ((res ts).take k).flatten ++ resAt ts.length k t := by
  have hlt : k < ts.length := (List.getElem?_eq_some_iff.1 h).1
  have hr : (res ts)[k]? = some (resAt ts.length k t) := by
    rw [res, List.getElem?_mapIdx, h]; rfl
  have hlt' : k < (res ts).length := (List.getElem?_eq_some_iff.1 hr).1
  rw [List.take_succ_eq_append_getElem hlt', (List.getElem?_eq_some_iff.1 hr).2]
  simp

theorem listed_step {w wr w1 : World} {ts : List Tk} {k : Nat} {v v1 : Value} {t : Tk} {pi ni : Int} {P C : Obj} {n : Nat} (h : Listed w wr ts k v) (ht : ts[k]? = some t) (hpi : prevI k = pi) (hni : nextI ts.length k = ni)
    (hg : (((wr.alloc P).drewN n).alloc C).grownBy w1 v.ownBlock)
    (hown : w1.ownsRow w.heap.size 29 13 v1 (k + 1) (((res ts).take k).flatten ++ tkList t pi ni)) : Listed w w1 ts (k + 1) v1 := by
  refine ⟨?_, ?_⟩
  · exact pw_below_grown (below_alloc (pw_below_drewN (below_alloc h.1 _) _) _) _ (by have := h.1.size; simp; omega) hg (fun j hj => own_base h.2 j hj)
  · rw [res_take ts k t ht]
    unfold resAt
    rw [hpi, hni]
    exact hown

theorem index_next (B : Nat) (w wx : World) (ts : List Tk) (tb : List Nat) (A : Option Addr) (c k : Nat) (hrow : w.ownsRow B 53 1 (.slice A ts.length c) ts.length (ptrs tb)) (hl : tb.length = ts.length) (hn : ts.length ≤ 1000) (hk : k < ts.length) (hb : Below w.heap.size w wx) :
    Calls Try.prog 12 #[.slice A ts.length c, ptr (nxk tb ts.length k), .int .i64 ((k : Int) + 1)] wx fun e w' => e = .returned (.int .i64 (nextI ts.length k)) ∧ wx = w' := by
  unfold nxk nextI
  by_cases h : k + 1 < ts.length
  · rw [if_pos h, if_pos h]
    obtain ⟨b, hb'⟩ : ∃ b, tb[k + 1]? = some b := ⟨_, List.getElem?_eq_getElem (by omega)⟩
    rw [hb']
    have hr := pw_own_below hrow hb
    obtain ⟨g, cap', hv, _, _⟩ := hr.form (by omega)
    simp only [Value.slice.injEq] at hv
    obtain ⟨rfl, _, rfl⟩ := hv
    have hcell : wx.cell? ⟨g, 0 + (k + 1), none⟩ = some (.pointer (some ⟨b, 0, none⟩)) := by
      have := hr.cells (g := g) rfl (k + 1) (ptr (some b)) (by rw [ptrs, List.getElem?_map, hb']; rfl)
      rw [add_plain] at this
      rwa [Nat.zero_add]
    have := index_at g 0 ts.length c ⟨b, 0, none⟩ (k + 1) wx h (by omega) hcell
    rw [show (((k + 1 : Nat) : Int)) = (k : Int) + 1 from by omega] at this
    exact this
  · rw [if_neg h, if_neg h]
    exact index_nil _ _ wx

theorem index_prev (B : Nat) (w wx : World) (ts : List Tk) (tb : List Nat) (A : Option Addr) (c k : Nat) (hrow : w.ownsRow B 53 1 (.slice A ts.length c) ts.length (ptrs tb)) (hl : tb.length = ts.length) (hn : ts.length ≤ 1000) (hk : k < ts.length) (hb : Below w.heap.size w wx) :
    Calls Try.prog 12 #[.slice A ts.length c, ptr (pvk tb ts.length k), .int .i64 ((k : Int) - 1)] wx fun e w' => e = .returned (.int .i64 (prevI k)) ∧ wx = w' := by
  unfold pvk prevI
  by_cases h : 0 < k
  · rw [if_pos ⟨h, hk⟩]
    obtain ⟨b, hb'⟩ : ∃ b, tb[k - 1]? = some b := ⟨_, List.getElem?_eq_getElem (by omega)⟩
    rw [hb']
    have hr := pw_own_below hrow hb
    obtain ⟨g, cap', hv, _, _⟩ := hr.form (by omega)
    simp only [Value.slice.injEq] at hv
    obtain ⟨rfl, _, rfl⟩ := hv
    have hcell : wx.cell? ⟨g, 0 + (k - 1), none⟩ = some (.pointer (some ⟨b, 0, none⟩)) := by
      have := hr.cells (g := g) rfl (k - 1) (ptr (some b)) (by rw [ptrs, List.getElem?_map, hb']; rfl)
      rw [add_plain] at this
      rwa [Nat.zero_add]
    have := index_at g 0 ts.length c ⟨b, 0, none⟩ (k - 1) wx (by omega) (by omega) hcell
    rw [show (((k - 1 : Nat) : Int)) = (k : Int) - 1 from by omega] at this
    exact this
  · rw [if_neg (by omega)]
    have : k = 0 := by omega
    subst this
    exact index_nil _ _ wx

set_option maxRecDepth 100000 in
set_option maxHeartbeats 4000000 in
theorem list_any (B : Nat) (w : World) (ts : List Tk) (tb pb : List Nat) (A : Option Addr) (c : Nat) (hrow : w.ownsRow B 53 1 (.slice A ts.length c) ts.length (ptrs tb)) (htok : Toks B w ts tb pb (nxk tb ts.length) (pvk tb ts.length)) (hl : tb.length = ts.length) (hp : pb.length = ts.length) (hn : ts.length ≤ 1000) :
    Calls Try.prog 8 #[.slice A ts.length c] w fun e w' => ∃ v, e = .returned v ∧ Listed w w' ts ts.length v := by
  have HR := Aside0.mk hrow
  have HT := Aside0.mk htok
  have HL := Aside0.mk hl
  have HP := Aside0.mk hp
  clear hrow htok hl hp
  obtain ⟨i0, hi0, hz0, hz1, hz2⟩ := info_parts info29
  go_enter Try.func8, Try.ntmps8
  go_wp2
  go_loopw [3, 4, 5, 8] (fun v _ _ i wr => ∃ k : Nat, k ≤ ts.length ∧ i = .int .i64 k ∧ Aside0 (Listed w wr ts k v)) (fun _ _ _ i _ => ts.length - (intOf i).toNat)
  case atStart => exact ⟨0, by omega, rfl, ⟨⟨Below.refl _ _, World.ownsRow_nil _ _ _ _⟩⟩⟩
  case round =>
    obtain ⟨k, hk, rfl, hA⟩ := hrel
    by_cases hlt : k < ts.length
    · obtain ⟨t, ht⟩ : ∃ t, ts[k]? = some t := ⟨_, List.getElem?_eq_getElem hlt⟩
      obtain ⟨b, hb⟩ : ∃ b, tb[k]? = some b := ⟨_, List.getElem?_eq_getElem (by rw [HL.out]; exact hlt)⟩
      obtain ⟨p, hp⟩ : ∃ p, pb[k]? = some p := ⟨_, List.getElem?_eq_getElem (by rw [HP.out]; exact hlt)⟩
      have hbel := hA.out.1
      have hown := hA.out.2
      have hsz : w.heap.size ≤ wr.heap.size := hbel.size
      have hr := pw_own_below HR.out hbel
      obtain ⟨_, _, hbb, hpp⟩ := (HT.out.below hbel).2 k t b p ht hb hp
      have IN := Aside0.mk fun wx i (hi : i = (k : Int) + 1) (h : Below wr.heap.size wr wx) => by have := index_next B wr wx ts tb A c k hr HL.out hn hlt h; rw [← hi] at this; exact this
      have IP := Aside0.mk fun wx i (hi : i = (k : Int) - 1) (h : Below wr.heap.size wr wx) => by have := index_prev B wr wx ts tb A c k hr HL.out hn hlt h; rw [← hi] at this; exact this
      obtain ⟨g, cap', hv, _, _⟩ := hr.form (by omega)
      simp only [Value.slice.injEq] at hv
      obtain ⟨rfl, _, rfl⟩ := hv
      have hcell : wr.cell? ⟨g, k, none⟩ = some (.pointer (some ⟨b, 0, none⟩)) := by
        have := hr.cells (g := g) rfl k (ptr (some b)) (by rw [ptrs, List.getElem?_map, hb]; rfl)
        rwa [add_plain] at this
      have b0 : wr.cell? ⟨b, 0, none⟩ = some (.int .i64 t.typ) := blk_cell hbb 0
      have b1 : wr.cell? ⟨b, 1, none⟩ = some (.int .i64 t.char) := blk_cell hbb 1
      have b2 : wr.cell? ⟨b, 2, none⟩ = some (.int .i64 t.sign) := blk_cell hbb 2
      have b3 : wr.cell? ⟨b, 3, none⟩ = some (.string t.value) := blk_cell hbb 3
      have b4 : wr.cell? ⟨b, 4, none⟩ = some (.string t.origin) := blk_cell hbb 4
      have b5 : wr.cell? ⟨b, 5, none⟩ = some (.string t.err) := blk_cell hbb 5
      have b6 : wr.cell? ⟨b, 6, none⟩ = some (.pointer (some ⟨p, 0, none⟩)) := blk_cell hbb 6
      have b7 : wr.cell? ⟨b, 7, none⟩ = some (ptr (nxk tb ts.length k)) := blk_cell hbb 7
      have b8 : wr.cell? ⟨b, 8, none⟩ = some (ptr (pvk tb ts.length k)) := blk_cell hbb 8
      have p0 : wr.cell? ⟨p, 0, none⟩ = some (.int .i64 t.pl.line) := blk_cell hpp 0
      have p1 : wr.cell? ⟨p, 1, none⟩ = some (.int .i64 t.pl.col) := blk_cell hpp 1
      have p2 : wr.cell? ⟨p, 2, none⟩ = some (.int .i64 t.pl.off) := blk_cell hpp 2
      have p3 : wr.cell? ⟨p, 3, none⟩ = some (.int .i64 t.pl.ind) := blk_cell hpp 3
      have p4 : wr.cell? ⟨p, 4, none⟩ = some (.int .i64 t.pl.lev) := blk_cell hpp 4
      have nb := World.new_ne wr ⟨b, 0, none⟩ b0
      have np := World.new_ne wr ⟨p, 0, none⟩ p0
      have lb := blk_lt hbb
      have lp := blk_lt hpp
      have hne : Aside0 (u3.ownBlock ≠ some b ∧ u3.ownBlock ≠ some p) := ⟨fun e => own_ne_blk hown hbb (by decide) e.symm, fun e => own_ne_blk hown hpp (by decide) e.symm⟩
      have HO := Aside0.mk hown
      have HV := Aside0.mk hA.out
      have HTT := Aside0.mk ht
      clear hA hbel hown hr hbb hpp ht hb hp
      generalize ptr (nxk tb ts.length k) = xn at b7 IN
      generalize ptr (pvk tb ts.length k) = xp at b8 IP
      generalize hni : nextI ts.length k = ni at IN
      generalize hpi : prevI k = pi at IP
      have HNI := Aside0.mk hni
      have HPI := Aside0.mk hpi
      clear hni hpi
      go_wp2_with fail
      go_region_held3 (fun w' => w'.cell? ⟨b, 0, none⟩ = some (.int .i64 t.typ) ∧ w'.cell? ⟨b, 1, none⟩ = some (.int .i64 t.char) ∧ w'.cell? ⟨b, 2, none⟩ = some (.int .i64 t.sign) ∧ w'.cell? ⟨b, 3, none⟩ = some (.string t.value) ∧ w'.cell? ⟨b, 4, none⟩ = some (.string t.origin) ∧ w'.cell? ⟨b, 5, none⟩ = some (.string t.err) ∧ w'.cell? ⟨b, 6, none⟩ = some (.pointer (some ⟨p, 0, none⟩)) ∧ w'.cell? ⟨b, 7, none⟩ = some xn ∧ w'.cell? ⟨b, 8, none⟩ = some xp ∧ w'.cell? ⟨p, 0, none⟩ = some (.int .i64 t.pl.line) ∧ w'.cell? ⟨p, 1, none⟩ = some (.int .i64 t.pl.col) ∧ w'.cell? ⟨p, 2, none⟩ = some (.int .i64 t.pl.off) ∧ w'.cell? ⟨p, 3, none⟩ = some (.int .i64 t.pl.ind) ∧ w'.cell? ⟨p, 4, none⟩ = some (.int .i64 t.pl.lev))
        (first
          | go_keep
          | (go_split_ands
             refine ⟨?_, ?_, ?_, ?_, ?_, ?_, ?_, ?_, ?_, ?_, ?_, ?_, ?_, ?_⟩ <;> first | (rw [hgrow.cell_far _ (by simp; omega) (Ne.symm hne.out.1)]; assumption) | (rw [hgrow.cell_far _ (by simp; omega) (Ne.symm hne.out.2)]; assumption)))
        (first
          | (refine step_append_lies _ (by rfl) _ _ _ (by rfl) w.heap.size 29 i0 _ 13 128 Try.underlying23 hi0 hz0 hz1 hz2 rfl (by omega) u3 k _ (by rfl) (by (repeat (first | exact HO.out | apply own_alloc | apply pw_own_drewN | apply own_drew))) ⟨wr.heap.size + 1, 0, none⟩ 1 1 [.int .i64 t.typ, .int .i64 t.char, .int .i64 t.sign, .string t.value, .string t.origin, .string t.err, .int .i64 t.pl.line, .int .i64 t.pl.col, .int .i64 t.pl.off, .int .i64 t.pl.ind, .int .i64 t.pl.lev, .int .i64 pi, .int .i64 ni] (by rfl) (by rfl) (World.news_of_block (cs := #[.int .i64 t.typ, .int .i64 t.char, .int .i64 t.sign, .string t.value, .string t.origin, .string t.err, .int .i64 t.pl.line, .int .i64 t.pl.col, .int .i64 t.pl.off, .int .i64 t.pl.ind, .int .i64 t.pl.lev, .int .i64 pi, .int .i64 ni]) (t := 29) (fr := (0, 0)) (blk_top (by simp))) (by simp [Value.oneCell']) (by omega) (by unfold maxLen; omega) (by omega) (by simp; omega) (wr.heap.size + 1 + 1) (by simp) ?_; intro gg cap w1 hown1 hgrow hat hlt1)
          | (go_at_call 11; refine (place_any b p t.pl _ ?_ ?_ ?_ ?_ ?_ ?_).mono ?_; (go_split_ands; assumption); (go_split_ands; assumption); (go_split_ands; assumption); (go_split_ands; assumption); (go_split_ands; assumption); (go_split_ands; assumption); rintro e w' ⟨rfl, nd, rfl⟩)
          | (go_at_call 12; with_reducible refine Calls.mono (IN.out _ _ (by first | rfl | (rw [IntKind.wrap_i64]; omega)) (by repeat (first | exact Below.refl _ _ | apply below_alloc | apply pw_below_drewN | apply below_drew))) ?_; rintro e w' ⟨rfl, rfl⟩)
          | (go_at_call 12; with_reducible refine Calls.mono (IP.out _ _ (by first | rfl | (rw [IntKind.wrap_i64]; omega)) (by repeat (first | exact Below.refl _ _ | apply below_alloc | apply pw_below_drewN | apply below_drew))) ?_; rintro e w' ⟨rfl, rfl⟩))
      have HF := Aside0.mk (listed_step HV.out HTT.out HPI.out HNI.out hgrow hown1)
      clear hown1 hgrow hat hlt1
      go_wp2
      go_roundw
      case rel => exact ⟨k + 1, by omega, by go_num, HF⟩
      case measure => simp [intOf]; omega
    · obtain rfl : k = ts.length := by omega
      go_wp2
      go_ret
      exact ⟨_, rfl, hA.out⟩

end Go.Proofs.Ytgidfhpcobpinaa.AddW
