/- Walks of FnGroupTokens: the tokens that are made, each told what stands beside it. -/
import Derived.Test.YtgidfhpcobpinaaDoorGtNew
import Derived.Test.YtgidfhpcobpinaaDoorAddWalk2
import Derived.StillTailTactics
namespace Go.Proofs.YtgidfhpcobpinaaDoor.GtW
open Go.RowKit Go.Proofs.YtgidfhpcobpinaaDoor.PFnGroupTokens Go.Proofs.YtgidfhpcobpinaaDoorW.PrintWords Go.Proofs.YtgidfhpcobpinaaDoorW.PrintLast Go.Proofs.YtgidfhpcobpinaaDoorW.PrintMore
open Go.Proofs.YtgidfhpcobpinaaDoor.AddM Go.Proofs.YtgidfhpcobpinaaDoor.GtM
open Go.Proofs.YtgidfhpcobpinaaDoor.AddW (Ok Made Have made_step made_more made_start info75 position_any none2)
attribute [local go_sem ↓] Go.wp_at_zero Go.wp_at_succ
set_option linter.unusedSimpArgs false
set_option linter.unusedVariables false

/-- A token as the law makes it. -/
def Good (t : Tk) : Prop := Okt t.typ ∧ t.pl.line = 1 ∧ (t.typ = 15 → t.value = ⟨#[33, 116]⟩)

theorem tok_set7 {w : World} {a b : Nat} {z : Int} {t : Tk} {p : Nat} {nx pv q : Option Nat} (h : TokAt w a z) (hb : w.heap[b]? = some (.cells (tokCells t p nx pv) 77 (0, 0))) : TokAt (w.setCell ⟨b, 7, none⟩ (ptr q)) a z := by
  obtain ⟨p', t', nx', pv', h1, h2, h3⟩ := h.ex
  by_cases e : a = b
  · subst e
    refine ⟨⟨p', t', q, pv', blk_put h1 7 _ rfl, blk_far h2 ?_ _, h3⟩, h.ok⟩
    exact blk_ne h2 h1 (by decide)
  · exact ⟨⟨p', t', nx', pv', blk_far h1 e _, blk_far h2 (blk_ne h2 hb (by decide)) _, h3⟩, h.ok⟩
theorem tok_set8 {w : World} {a b : Nat} {z : Int} {t : Tk} {p : Nat} {nx pv q : Option Nat} (h : TokAt w a z) (hb : w.heap[b]? = some (.cells (tokCells t p nx pv) 77 (0, 0))) : TokAt (w.setCell ⟨b, 8, none⟩ (ptr q)) a z := by
  obtain ⟨p', t', nx', pv', h1, h2, h3⟩ := h.ex
  by_cases e : a = b
  · subst e
    refine ⟨⟨p', t', nx', q, blk_put h1 8 _ rfl, blk_far h2 ?_ _, h3⟩, h.ok⟩
    exact blk_ne h2 h1 (by decide)
  · exact ⟨⟨p', t', nx', pv', blk_far h1 e _, blk_far h2 (blk_ne h2 hb (by decide)) _, h3⟩, h.ok⟩

/-- What the second loop knows. -/
structure Lk (w wx : World) (tb : List Nat) (g : Nat) : Prop where
  bel : Below w.heap.size w wx
  row : RowT wx g tb
  tok : ∀ (i a : Nat), tb[i]? = some a → w.heap.size ≤ a ∧ ∃ z, TokAt wx a z
theorem Lk.more {w wx w2 : World} {tb : List Nat} {g : Nat} (h : Lk w wx tb g) (hb : Below wx.heap.size wx w2) : Lk w w2 tb g :=
  ⟨below_then h.bel h.bel.size hb, h.row.old fun j cs t _ hj => blk_below hj hb, fun i a hi => by
    obtain ⟨h1, z, hz⟩ := h.tok i a hi
    exact ⟨h1, z, hz.frame fun j cs t _ hj => blk_below hj hb⟩⟩
theorem Lk.at_ {w wx : World} {tb : List Nat} {g i a : Nat} (h : Lk w wx tb g) (hi : tb[i]? = some a) : ∃ t p nx pv, wx.heap[a]? = some (.cells (tokCells t p nx pv) 77 (0, 0)) := by
  obtain ⟨_, z, hz⟩ := h.tok i a hi
  obtain ⟨p, t, nx, pv, h1, _⟩ := hz.ex
  exact ⟨t, p, nx, pv, h1⟩
theorem Lk.set7 {w wx : World} {tb : List Nat} {g i a : Nat} (h : Lk w wx tb g) (hi : tb[i]? = some a) (q : Nat) : Lk w (wx.setCell ⟨a, 7, none⟩ (.pointer (some ⟨q, 0, none⟩))) tb g := by
  obtain ⟨t, p, nx, pv, hb⟩ := h.at_ hi
  obtain ⟨G, hG, hc⟩ := h.row
  exact ⟨h.bel.setCell (h.tok i a hi).1 _, ⟨G, blk_far hG (blk_ne hG hb (by decide)) _, hc⟩, fun j x hj => by
    obtain ⟨h1, z, hz⟩ := h.tok j x hj
    exact ⟨h1, z, tok_set7 (q := some q) hz hb⟩⟩
theorem Lk.set8 {w wx : World} {tb : List Nat} {g i a : Nat} (h : Lk w wx tb g) (hi : tb[i]? = some a) (q : Nat) : Lk w (wx.setCell ⟨a, 8, none⟩ (.pointer (some ⟨q, 0, none⟩))) tb g := by
  obtain ⟨t, p, nx, pv, hb⟩ := h.at_ hi
  obtain ⟨G, hG, hc⟩ := h.row
  exact ⟨h.bel.setCell (h.tok i a hi).1 _, ⟨G, blk_far hG (blk_ne hG hb (by decide)) _, hc⟩, fun j x hj => by
    obtain ⟨h1, z, hz⟩ := h.tok j x hj
    exact ⟨h1, z, tok_set8 (q := some q) hz hb⟩⟩

/-- A slice that is not nil. -/
def IsRow (v : Value) : Prop := ∃ g m c, v = .slice (some ⟨g, 0, none⟩) m c

theorem lk_of {w wx : World} {ts : List Tk} {k : Nat} {v : Value} (h : Made w.heap.size w wx ts k v) (hk : k = ts.length) (hg : ∀ t ∈ ts, Good t) (hv : IsRow v) : ∃ tb g c, tb.length = ts.length ∧ v = .slice (some ⟨g, 0, none⟩) ts.length c ∧ Lk w wx tb g := by
  subst hk
  obtain ⟨hbel, tb, pb, htb, hpb, hown, htok⟩ := h
  obtain ⟨g, m, c, rfl⟩ := hv
  have hm : m = ts.length := by
    rcases hown.2 with ⟨h1, _⟩ | ⟨g', cap', cur, h1, _⟩
    · cases h1
    · injection h1 with _ h1 _
  subst hm
  obtain ⟨G, hG⟩ := own_typed hown g rfl
  refine ⟨tb, g, c, htb, rfl, hbel, ⟨G, hG, fun j a hj => ?_⟩, fun i a hi => ?_⟩
  · have c0 := hown.cells (g := g) rfl j (.pointer (some ⟨a, 0, none⟩)) (by rw [List.getElem?_map, hj]; rfl)
    rw [add_plain, blk_cell hG] at c0
    exact c0
  · have hlt : i < tb.length := (List.getElem?_eq_some_iff.1 hi).1
    obtain ⟨t, ht⟩ : ∃ t, ts[i]? = some t := ⟨_, List.getElem?_eq_getElem (by omega)⟩
    obtain ⟨p, hp⟩ : ∃ p, pb[i]? = some p := ⟨_, List.getElem?_eq_getElem (by omega)⟩
    obtain ⟨h1, h2, h3, h4⟩ := htok.2 i t a p ht hi hp
    obtain ⟨g1, g2, g3⟩ := hg t (List.mem_of_getElem? ht)
    exact ⟨h1, t.typ, ⟨p, t, _, _, h3, h4, rfl, g2, g3⟩, g1⟩

/-- What has been made. -/
def Linked (w : World) (n : Nat) (e : Ending) (w' : World) : Prop := ∃ tb g c, tb.length = n ∧ e = .returned (.slice (some ⟨g, 0, none⟩) n c) ∧ Lk w w' tb g

set_option maxRecDepth 100000 in
set_option maxHeartbeats 1000000 in
theorem links_any (A : Option Addr) (c : Nat) (ts : List Tk) (xs : List (List Value)) (w : World) (hn : ts.length ≤ 1000) (hok : ∀ t ∈ ts, Ok t) (hgd : ∀ t ∈ ts, Good t) (hr : Row w 13 A xs) (hx : ∀ (k : Nat) (t : Tk), ts[k]? = some t → xs[k]? = some (tkList t ((k : Int) - 1) ((k : Int) + 1))) :
    Calls Tryd.prog 16 #[.slice A ts.length c] w (Linked w ts.length) := by
  have HR := Aside0.mk hr
  have HX := Aside0.mk hx
  have HG := Aside0.mk hgd
  have HOK := Aside0.mk hok
  have hs := Aside0.mk (made_start w ts)
  clear hr hok hx hgd
  obtain ⟨i0, hi0, hz0, hz1, hz2⟩ := info_parts info75
  go_enter Tryd.func16, Tryd.ntmps16
  go_wp2
  go_loopw [3, 5, 11] (fun v p i wr => ∃ k : Nat, k ≤ ts.length ∧ i = .int .i64 k ∧ Aside0 (Made w.heap.size w wr ts k v) ∧ Aside0 (IsRow v)) (fun _ _ i _ => ts.length - (intOf i).toNat)
  case atStart => exact ⟨0, by omega, rfl, hs, ⟨⟨_, _, _, rfl⟩⟩⟩
  case round =>
    obtain ⟨k, hk, rfl, hM, hV⟩ := hrel
    by_cases hlt : k < ts.length
    · obtain ⟨t, ht⟩ : ∃ t, ts[k]? = some t := ⟨_, List.getElem?_eq_getElem hlt⟩
      obtain ⟨o1, o2, o3, o4⟩ := HOK.out t (List.mem_of_getElem? ht)
      obtain ⟨g, o, rfl, hc⟩ := (HR.out.below hM.out.1).at_ (k := k) (x := tkList t ((k : Int) - 1) ((k : Int) + 1)) (HX.out k t ht)
      have c0 : wr.cell? ⟨g, o + k * 13, none⟩ = some (.int .i64 t.typ) := hc 0 _ rfl
      have c1 := hc 1 _ rfl
      have c2 := hc 2 _ rfl
      have c3 := hc 3 _ rfl
      have c4 := hc 4 _ rfl
      have c5 := hc 5 _ rfl
      have c6 := hc 6 _ rfl
      have c7 := hc 7 _ rfl
      have c8 := hc 8 _ rfl
      have c9 := hc 9 _ rfl
      have c10 := hc 10 _ rfl
      have c11 := hc 11 _ rfl
      have c12 := hc 12 _ rfl
      have HT := Aside0.mk ht
      clear hc ht
      go_wp2_with fail
      clear c0 c1 c2 c3 c4 c5 c6 c7 c8 c9 c10 c11 c12
      have hM0 := hM.out
      obtain ⟨hbel, tb, pb, htb, hpb, hown, htok⟩ := hM0
      have hne : Aside0 (u3.ownBlock ≠ some wr.heap.size) := ⟨fun e => by have := own_lt hown _ e; omega⟩
      have HO := Aside0.mk hown
      have hsz : w.heap.size ≤ wr.heap.size := hbel.size
      have HV : Aside0 (Have w.heap.size w wr ts k u3 tb pb) := ⟨⟨hbel, htb, hpb, hown, htok⟩⟩
      clear hbel htb hpb hown htok hM
      go_region_held3 (fun w' => w'.cell? ⟨wr.heap.size, 0, none⟩ = some (.int .i64 t.typ) ∧ w'.cell? ⟨wr.heap.size, 1, none⟩ = some (.int .i64 t.char) ∧ w'.cell? ⟨wr.heap.size, 2, none⟩ = some (.int .i64 t.sign) ∧ w'.cell? ⟨wr.heap.size, 3, none⟩ = some (.string t.value) ∧ w'.cell? ⟨wr.heap.size, 4, none⟩ = some (.string t.origin) ∧ w'.cell? ⟨wr.heap.size, 5, none⟩ = some (.string t.err) ∧ w'.cell? ⟨wr.heap.size, 6, none⟩ = some (.int .i64 t.pl.line) ∧ w'.cell? ⟨wr.heap.size, 7, none⟩ = some (.int .i64 t.pl.col) ∧ w'.cell? ⟨wr.heap.size, 8, none⟩ = some (.int .i64 t.pl.off) ∧ w'.cell? ⟨wr.heap.size, 9, none⟩ = some (.int .i64 t.pl.ind) ∧ w'.cell? ⟨wr.heap.size, 10, none⟩ = some (.int .i64 t.pl.lev))
        (first
          | go_keep
          | (go_split_ands
             refine ⟨?_, ?_, ?_, ?_, ?_, ?_, ?_, ?_, ?_, ?_, ?_⟩ <;> (rw [hgrow.cell_far _ (by simp; omega) (Ne.symm hne.out)]; assumption)))
        (first
          | (go_at_call 27; refine (position_any _ _ _ _ _ _ (by omega) (by omega) (by omega) (by omega)).mono ?_; rintro e w' ⟨rfl, nd, rfl⟩)
          | (refine step_append_lies _ (by rfl) _ _ _ (by rfl) w.heap.size 75 i0 _ 1 8 Tryd.underlying55 hi0 hz0 hz1 hz2 rfl (by omega) u3 k _ (by rfl) (by (repeat (first | exact HO.out | apply own_alloc | apply pw_own_drewN | apply own_drew)))
               ⟨wr.heap.size + 1 + 1 + 1 + 1, 0, none⟩ 1 1 [.pointer (some ⟨wr.heap.size + 1 + 1 + 1, 0, none⟩)] (by rfl) (by rfl) (World.news_of_block (cs := #[.pointer (some ⟨wr.heap.size + 1 + 1 + 1, 0, none⟩)]) (t := 75) (fr := (0, 0)) (blk_top (by simp))) (by simp [Value.oneCell'])
               (by omega) (by unfold maxLen; omega) (by omega) (by simp; omega) (wr.heap.size + 1 + 1 + 1 + 1 + 1) (by simp) ?_; intro gg cap w1 hown1 hgrow hat hlt1))
      have HF := Aside0.mk (made_step HV.out hsz hlt HT.out _ _ _ _ hgrow hown1)
      clear hown1 hgrow hat hlt1
      go_wp2
      go_roundw
      case rel => exact ⟨k + 1, by omega, by go_num, ⟨⟨HF.out.bel, _, _, HF.out.ltb, HF.out.lpb, HF.out.own, HF.out.toks⟩⟩, ⟨⟨_, _, _, rfl⟩⟩⟩
      case measure => simp [intOf]; omega
    · obtain rfl : k = ts.length := by omega
      obtain ⟨tb, g, cc, htb, rfl, hlk⟩ := lk_of hM.out rfl HG.out hV.out
      go_wp2
      have HM := Aside0.mk hlk
      have HTB := Aside0.mk htb
      clear hM hs hlk htb
      obtain ⟨wo, rfl⟩ : ∃ wo : World, wo = wr := ⟨_, rfl⟩
      go_loopw [6, 7, 38] (fun _ _ i wx => ∃ j : Nat, j ≤ ts.length ∧ i = .int .i64 j ∧ Aside0 (Lk w wx tb g)) (fun _ _ i _ => ts.length - (intOf i).toNat)
      case atStart => exact ⟨0, by omega, rfl, HM⟩
      case round =>
        obtain ⟨j, hj, rfl, hX⟩ := hrel
        clear HM
        by_cases hlt' : j < ts.length
        · obtain ⟨t, ht⟩ : ∃ t, ts[j]? = some t := ⟨_, List.getElem?_eq_getElem hlt'⟩
          obtain ⟨aj, haj⟩ : ∃ a, tb[j]? = some a := ⟨_, List.getElem?_eq_getElem (by rw [HTB.out]; exact hlt')⟩
          obtain ⟨m, hm⟩ : ∃ m, m = j + 1 := ⟨_, rfl⟩
          have HMM := Aside0.mk hm
          have HAJ := Aside0.mk haj
          by_cases hj0 : j = 0
          · have hi : True := trivial
            have hxx : xs[j]? = some (tkList t (-1) (m : Int)) := by
              have := HX.out j t ht
              rw [show (j : Int) - 1 = (-1) by omega, show (j : Int) + 1 = (m : Int) by omega] at this
              exact this
            obtain ⟨ga, o, rfl, hc⟩ := (HR.out.below hX.out.bel).at_ (k := j) (x := tkList t (-1) (m : Int)) hxx
            have c0 : wr.cell? ⟨ga, o + j * 13, none⟩ = some (.int .i64 t.typ) := hc 0 _ rfl
            have c1 := hc 1 _ rfl
            have c2 := hc 2 _ rfl
            have c3 := hc 3 _ rfl
            have c4 := hc 4 _ rfl
            have c5 := hc 5 _ rfl
            have c6 := hc 6 _ rfl
            have c7 := hc 7 _ rfl
            have c8 := hc 8 _ rfl
            have c9 := hc 9 _ rfl
            have c10 := hc 10 _ rfl
            have c11 := hc 11 _ rfl
            have c12 := hc 12 _ rfl
            clear hc ht hxx haj hm hj0
            by_cases hmn : m < ts.length
            · obtain ⟨an, han⟩ : ∃ a, tb[m]? = some a := ⟨_, List.getElem?_eq_getElem (by rw [HTB.out]; exact hmn)⟩
              have HLK : Aside0 (Lk w (wr.alloc (.cells (tkList t (-1) (m : Int)).toArray 29)) tb g) := ⟨hX.out.more (below_alloc (Below.refl _ _) _)⟩
              have HXB : Aside0 ((wr.alloc (.cells (tkList t (-1) (m : Int)).toArray 29)).heap[wr.heap.size]? = some (.cells (tkList t (-1) (m : Int)).toArray 29 (0, 0))) := ⟨heap_alloc_new wr _⟩
              simp only [tkList] at HLK HXB
              have HFF : ∀ w2 : World, Aside0 (Lk w w2 tb g) → Aside0 (w2.cell? ⟨g, j, none⟩ = some (.pointer (some ⟨aj, 0, none⟩))) := fun w2 h => ⟨h.out.row.cell HAJ.out⟩
              go_wp2
              clear c0 c1 c2 c3 c4 c5 c6 c7 c8 c9 c10 c11 c12
              generalize wr.alloc _ = w1 at HLK HXB ⊢
              have x1 := blk_cell HXB.out 12
              have y1 : w1.cell? ⟨g, j, none⟩ = some (.pointer (some ⟨aj, 0, none⟩)) := HLK.out.row.cell HAJ.out
              have y2 : w1.cell? ⟨g, m, none⟩ = some (.pointer (some ⟨an, 0, none⟩)) := HLK.out.row.cell han
              simp at x1
              go_still_tail 11, (by kernel_rfl)
              change wpList _ _ _ _ _ w1.drew
              replace HLK : Aside0 (Lk w w1.drew tb g) := ⟨HLK.out.more (below_drew (Below.refl _ _))⟩
              replace HXB := Aside0.mk (blk_drew HXB.out)
              clear x1 y1 y2
              generalize w1.drew = w4 at HLK HXB ⊢
              obtain ⟨t', p', nx', pv', hbj⟩ := HLK.out.at_ HAJ.out
              have x2 := blk_cell hbj 7
              have x3 := blk_frozen hbj 7
              simp [tokCells] at x2
              replace HLK := Aside0.mk (HLK.out.set7 HAJ.out an)
              clear hbj
              go_wp2
              go_roundw
              case rel => exact ⟨j + 1, by omega, by go_num, HLK⟩
              case measure => simp [intOf]; omega
            · have hmn' : ¬ (m : Int) < ts.length := by omega
              have HLK : Aside0 (Lk w (wr.alloc (.cells (tkList t (-1) (m : Int)).toArray 29)) tb g) := ⟨hX.out.more (below_alloc (Below.refl _ _) _)⟩
              have HXB : Aside0 ((wr.alloc (.cells (tkList t (-1) (m : Int)).toArray 29)).heap[wr.heap.size]? = some (.cells (tkList t (-1) (m : Int)).toArray 29 (0, 0))) := ⟨heap_alloc_new wr _⟩
              simp only [tkList] at HLK HXB
              have HFF : ∀ w2 : World, Aside0 (Lk w w2 tb g) → Aside0 (w2.cell? ⟨g, j, none⟩ = some (.pointer (some ⟨aj, 0, none⟩))) := fun w2 h => ⟨h.out.row.cell HAJ.out⟩
              go_wp2
              clear c0 c1 c2 c3 c4 c5 c6 c7 c8 c9 c10 c11 c12
              go_roundw
              case rel => exact ⟨j + 1, by omega, by go_num, HLK⟩
              case measure => simp [intOf]; omega
          · obtain ⟨i, hi⟩ : ∃ i, j = i + 1 := ⟨j - 1, by omega⟩
            have hxx : xs[j]? = some (tkList t (i : Int) (m : Int)) := by
              have := HX.out j t ht
              rw [show (j : Int) - 1 = (i : Int) by omega, show (j : Int) + 1 = (m : Int) by omega] at this
              exact this
            obtain ⟨ga, o, rfl, hc⟩ := (HR.out.below hX.out.bel).at_ (k := j) (x := tkList t (i : Int) (m : Int)) hxx
            have c0 : wr.cell? ⟨ga, o + j * 13, none⟩ = some (.int .i64 t.typ) := hc 0 _ rfl
            have c1 := hc 1 _ rfl
            have c2 := hc 2 _ rfl
            have c3 := hc 3 _ rfl
            have c4 := hc 4 _ rfl
            have c5 := hc 5 _ rfl
            have c6 := hc 6 _ rfl
            have c7 := hc 7 _ rfl
            have c8 := hc 8 _ rfl
            have c9 := hc 9 _ rfl
            have c10 := hc 10 _ rfl
            have c11 := hc 11 _ rfl
            have c12 := hc 12 _ rfl
            clear hc ht hxx haj hm
            obtain ⟨ap, hap⟩ : ∃ a, tb[i]? = some a := ⟨_, List.getElem?_eq_getElem (by rw [HTB.out]; omega)⟩
            have l2 : i < ts.length := by omega
            have HI := Aside0.mk hi
            clear hi hj0
            by_cases hmn : m < ts.length
            · obtain ⟨an, han⟩ : ∃ a, tb[m]? = some a := ⟨_, List.getElem?_eq_getElem (by rw [HTB.out]; exact hmn)⟩
              have HLK : Aside0 (Lk w (wr.alloc (.cells (tkList t (i : Int) (m : Int)).toArray 29)) tb g) := ⟨hX.out.more (below_alloc (Below.refl _ _) _)⟩
              have HXB : Aside0 ((wr.alloc (.cells (tkList t (i : Int) (m : Int)).toArray 29)).heap[wr.heap.size]? = some (.cells (tkList t (i : Int) (m : Int)).toArray 29 (0, 0))) := ⟨heap_alloc_new wr _⟩
              simp only [tkList] at HLK HXB
              have HFF : ∀ w2 : World, Aside0 (Lk w w2 tb g) → Aside0 (w2.cell? ⟨g, j, none⟩ = some (.pointer (some ⟨aj, 0, none⟩))) := fun w2 h => ⟨h.out.row.cell HAJ.out⟩
              go_wp2
              clear c0 c1 c2 c3 c4 c5 c6 c7 c8 c9 c10 c11 c12
              generalize wr.alloc _ = w1 at HLK HXB ⊢
              have x1 := blk_cell HXB.out 11
              have y1 : w1.cell? ⟨g, j, none⟩ = some (.pointer (some ⟨aj, 0, none⟩)) := HLK.out.row.cell HAJ.out
              have y2 : w1.cell? ⟨g, i, none⟩ = some (.pointer (some ⟨ap, 0, none⟩)) := HLK.out.row.cell hap
              simp at x1
              go_still_tail 11, (by kernel_rfl)
              change wpList _ _ _ _ _ w1.drew
              replace HLK : Aside0 (Lk w w1.drew tb g) := ⟨HLK.out.more (below_drew (Below.refl _ _))⟩
              replace HXB := Aside0.mk (blk_drew HXB.out)
              clear x1 y1 y2
              generalize w1.drew = w2 at HLK HXB ⊢
              obtain ⟨t', p', nx', pv', hbj⟩ := HLK.out.at_ HAJ.out
              have x2 := blk_cell hbj 8
              have x3 := blk_frozen hbj 8
              simp [tokCells] at x2
              have x4 := blk_cell (blk_far HXB.out (p := ⟨aj, 8, none⟩) (blk_ne HXB.out hbj (by decide)) (.pointer (some ⟨ap, 0, none⟩))) 12
              replace HLK := Aside0.mk (HLK.out.set8 HAJ.out ap)
              replace HXB := Aside0.mk (blk_far HXB.out (p := ⟨aj, 8, none⟩) (blk_ne HXB.out hbj (by decide)) (.pointer (some ⟨ap, 0, none⟩)))
              simp at x4
              clear hbj
              go_wp2
              clear x2 x3 x4
              generalize w2.setCell _ _ = w3 at HLK HXB ⊢
              have x1 := blk_cell HXB.out 12
              have y1 : w3.cell? ⟨g, j, none⟩ = some (.pointer (some ⟨aj, 0, none⟩)) := HLK.out.row.cell HAJ.out
              have y2 : w3.cell? ⟨g, m, none⟩ = some (.pointer (some ⟨an, 0, none⟩)) := HLK.out.row.cell han
              simp at x1
              go_still_tail 11, (by kernel_rfl)
              change wpList _ _ _ _ _ w3.drew
              replace HLK : Aside0 (Lk w w3.drew tb g) := ⟨HLK.out.more (below_drew (Below.refl _ _))⟩
              replace HXB := Aside0.mk (blk_drew HXB.out)
              clear x1 y1 y2
              generalize w3.drew = w4 at HLK HXB ⊢
              obtain ⟨t', p', nx', pv', hbj⟩ := HLK.out.at_ HAJ.out
              have x2 := blk_cell hbj 7
              have x3 := blk_frozen hbj 7
              simp [tokCells] at x2
              replace HLK := Aside0.mk (HLK.out.set7 HAJ.out an)
              clear hbj
              go_wp2
              go_roundw
              case rel => exact ⟨j + 1, by omega, by go_num, HLK⟩
              case measure => simp [intOf]; omega
            · have hmn' : ¬ (m : Int) < ts.length := by omega
              have HLK : Aside0 (Lk w (wr.alloc (.cells (tkList t (i : Int) (m : Int)).toArray 29)) tb g) := ⟨hX.out.more (below_alloc (Below.refl _ _) _)⟩
              have HXB : Aside0 ((wr.alloc (.cells (tkList t (i : Int) (m : Int)).toArray 29)).heap[wr.heap.size]? = some (.cells (tkList t (i : Int) (m : Int)).toArray 29 (0, 0))) := ⟨heap_alloc_new wr _⟩
              simp only [tkList] at HLK HXB
              have HFF : ∀ w2 : World, Aside0 (Lk w w2 tb g) → Aside0 (w2.cell? ⟨g, j, none⟩ = some (.pointer (some ⟨aj, 0, none⟩))) := fun w2 h => ⟨h.out.row.cell HAJ.out⟩
              go_wp2
              clear c0 c1 c2 c3 c4 c5 c6 c7 c8 c9 c10 c11 c12
              generalize wr.alloc _ = w1 at HLK HXB ⊢
              have x1 := blk_cell HXB.out 11
              have y1 : w1.cell? ⟨g, j, none⟩ = some (.pointer (some ⟨aj, 0, none⟩)) := HLK.out.row.cell HAJ.out
              have y2 : w1.cell? ⟨g, i, none⟩ = some (.pointer (some ⟨ap, 0, none⟩)) := HLK.out.row.cell hap
              simp at x1
              go_still_tail 11, (by kernel_rfl)
              change wpList _ _ _ _ _ w1.drew
              replace HLK : Aside0 (Lk w w1.drew tb g) := ⟨HLK.out.more (below_drew (Below.refl _ _))⟩
              replace HXB := Aside0.mk (blk_drew HXB.out)
              clear x1 y1 y2
              generalize w1.drew = w2 at HLK HXB ⊢
              obtain ⟨t', p', nx', pv', hbj⟩ := HLK.out.at_ HAJ.out
              have x2 := blk_cell hbj 8
              have x3 := blk_frozen hbj 8
              simp [tokCells] at x2
              have x4 := blk_cell (blk_far HXB.out (p := ⟨aj, 8, none⟩) (blk_ne HXB.out hbj (by decide)) (.pointer (some ⟨ap, 0, none⟩))) 12
              replace HLK := Aside0.mk (HLK.out.set8 HAJ.out ap)
              replace HXB := Aside0.mk (blk_far HXB.out (p := ⟨aj, 8, none⟩) (blk_ne HXB.out hbj (by decide)) (.pointer (some ⟨ap, 0, none⟩)))
              simp at x4
              clear hbj
              go_wp2
              go_roundw
              case rel => exact ⟨j + 1, by omega, by go_num, HLK⟩
              case measure => simp [intOf]; omega
        · obtain rfl : j = ts.length := by omega
          go_wp2
          go_ret
          exact ⟨tb, g, cc, HTB.out, rfl, hX.out⟩

end Go.Proofs.YtgidfhpcobpinaaDoor.GtW
