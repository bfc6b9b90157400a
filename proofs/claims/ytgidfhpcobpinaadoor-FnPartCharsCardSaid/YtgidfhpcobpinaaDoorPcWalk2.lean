/- Walks of FnPartChars: a Printer prints tokens of one line each. -/
import Derived.Test.YtgidfhpcobpinaaDoorPcWalk1
namespace Go.Proofs.YtgidfhpcobpinaaDoor.PcW
open Go.RowKit Go.Proofs.YtgidfhpcobpinaaDoor.PFnPartChars Go.Proofs.YtgidfhpcobpinaaDoorW.PrintWords Go.Proofs.YtgidfhpcobpinaaDoorW.PrintLast Go.Proofs.YtgidfhpcobpinaaDoorW.PrintMore
open Go.Proofs.YtgidfhpcobpinaaDoor.PcP Go.Proofs.YtgidfhpcobpinaaDoor.Rn Go.Proofs.YtgidfhpcobpinaaDoor.AddM
open Go.Proofs.YtgidfhpcobpinaaDoor.AddW (none2)
attribute [local go_sem ↓] Go.wp_at_zero Go.wp_at_succ
set_option linter.unusedSimpArgs false
set_option linter.unusedVariables false

/-- The cells of a Printer without any functions. -/
def PC : Array Value := #[.bool false, .nilFunc, .nilFunc, .nilFunc, .nilFunc, .nilFunc, .nilFunc, .nilFunc, .nilFunc]

theorem info9 : (Tryd.prog.info? 9).map (fun i => (i.zero, i.size, i.bytes)) = some (some (.string ⟨#[]⟩), 1, 16) := by kernel_rfl

/-- What a Printer's loop knows behind k tokens. -/
inductive Shown (w wr : World) (os : List ByteArray) : Nat → Value → Prop
  | none (A : Option Addr) (c : Nat) (hb : Below w.heap.size w wr) (ho : wr.ownsRow w.heap.size 9 1 (.slice A 0 c) 0 []) : Shown w wr os 0 (.slice A 0 c)
  | some (k g c : Nat) (cs : Array Value) (hb : Below w.heap.size w wr) (hg : w.heap.size ≤ g) (hc : wr.heap[g]? = some (.cells cs 9 (0, 0))) (h0 : cs[0]? = some (.string (cat (os.take (k + 1))))) : Shown w wr os (k + 1) (.slice (some ⟨g, 0, none⟩) 1 c)

theorem Shown.bel {w wr : World} {os : List ByteArray} {k : Nat} {v : Value} (h : Shown w wr os k v) : Below w.heap.size w wr := by cases h <;> assumption

theorem shown_first {w wq w2 : World} {os : List ByteArray} {o : ByteArray} {A : Option Addr} {c gg cap : Nat} {C : Obj} (ho : os[0]? = some o) (hb : Below w.heap.size w wq) (hown0 : wq.ownsRow w.heap.size 9 1 (.slice A 0 c) 0 [])
    (hg : (wq.alloc C).grownBy w2 (Value.slice A 0 c).ownBlock) (hown : w2.ownsRow w.heap.size 9 1 (.slice (some ⟨gg, 0, none⟩) (0 + 1) cap) (0 + 1) ([] ++ [.string o])) : Shown w w2 os (0 + 1) (.slice (some ⟨gg, 0, none⟩) 1 cap) := by
  obtain ⟨cs, hcs⟩ := own_typed hown gg rfl
  refine Shown.some 0 gg cap cs ?_ (own_base hown gg rfl) hcs ?_
  · exact pw_below_grown (below_alloc hb _) _ (by have := hb.size; simp; omega) hg (fun j hj => own_base hown0 j hj)
  · have := hown.cells (g := gg) rfl 0 (.string o) rfl
    rw [add_plain, blk_cell hcs] at this
    rw [cat_take os 0 o ho, List.take_zero]
    show _ = some (Value.string (⟨#[]⟩ ++ o))
    rw [nil_app]
    exact this

theorem shown_next {w wq : World} {os : List ByteArray} {o : ByteArray} {k g c : Nat} {cs : Array Value} (ho : os[k + 1]? = some o) (hb : Below w.heap.size w wq) (hg : w.heap.size ≤ g) (hc : wq.heap[g]? = some (.cells cs 9 (0, 0))) (h0 : cs[0]? = some (.string (cat (os.take (k + 1))))) :
    Shown w (wq.setCell ⟨g, 0, none⟩ (.string (cat (os.take (k + 1)) ++ o))) os (k + 1 + 1) (.slice (some ⟨g, 0, none⟩) 1 c) := by
  refine Shown.some (k + 1) g c _ (hb.setCell hg _) hg (blk_set hc 0 _) ?_
  rw [cat_take os (k + 1) o ho]
  have : 0 < cs.size := (Array.getElem?_eq_some_iff.1 h0).1
  simp [this]

theorem cat_size : ∀ (l : List ByteArray), (∀ s ∈ l, s.size ≤ 2147483647) → (cat l).size ≤ l.length * 2147483647
  | [], _ => Nat.le_refl _
  | s :: l, h => by
    have h1 := cat_size l fun x hx => h x (List.mem_cons_of_mem _ hx)
    have h2 := h s (List.mem_cons_self ..)
    show (s ++ cat l).size ≤ _
    rw [ByteArray.size_append, List.length_cons]
    omega

set_option maxRecDepth 100000 in
set_option maxHeartbeats 4000000 in
theorem printer_any (B p : Nat) (ts : List Tk) (tb pb : List Nat) (A : Option Addr) (c : Nat) (w : World) (hrow : w.ownsRow B 75 1 (.slice A ts.length c) ts.length (tb.map fun b => ptr (some b))) (htok : Toks B w ts tb pb none2 none2) (hlb : tb.length = ts.length) (hlp : pb.length = ts.length)
    (hn : ts.length ≤ 100) (h31 : ∀ t ∈ ts, t.typ = 31) (hnf : ∀ t ∈ ts, NoFeed t.origin ∧ t.origin.size ≤ 2147483647) (hp : w.heap[p]? = some (.cells PC 52 (0, 0))) :
    Calls Tryd.prog 15 #[.pointer (some ⟨p, 0, none⟩), .slice A ts.length c] w fun e w' => e = .returned (.string (cat (ts.map Tk.origin))) ∧ Below w.heap.size w w' := by
  by_cases h0 : ts.length = 0
  · have e : ts = [] := List.length_eq_zero_iff.1 h0
    subst e
    clear hrow htok hlb hlp h31 hnf hp hn h0
    go_enter Tryd.func15, Tryd.ntmps15
    go_wp2
    go_ret
    exact ⟨rfl, Below.refl _ _⟩
  · obtain ⟨g0, c0, hv, _, _⟩ := hrow.form (by omega)
    simp only [Value.slice.injEq] at hv
    obtain ⟨rfl, _, rfl⟩ := hv
    have hcell : ∀ k, k < ts.length → ∃ t b q, ts[k]? = some t ∧ tb[k]? = some b ∧ pb[k]? = some q ∧ w.cell? ⟨g0, k, none⟩ = some (.pointer (some ⟨b, 0, none⟩)) ∧ w.heap[b]? = some (.cells (tokCells t q none none) 77 (0, 0)) ∧ w.heap[q]? = some (.cells (plCells t.pl) 70 (0, 0)) := by
      intro k hk
      obtain ⟨t, ht⟩ : ∃ t, ts[k]? = some t := ⟨_, List.getElem?_eq_getElem hk⟩
      obtain ⟨b, hb⟩ : ∃ b, tb[k]? = some b := ⟨_, List.getElem?_eq_getElem (by omega)⟩
      obtain ⟨q, hq⟩ : ∃ q, pb[k]? = some q := ⟨_, List.getElem?_eq_getElem (by omega)⟩
      obtain ⟨_, _, h3, h4⟩ := htok.2 k t b q ht hb hq
      refine ⟨t, b, q, ht, hb, hq, ?_, h3, h4⟩
      have := hrow.cells (g := g0) rfl k (ptr (some b)) (by rw [List.getElem?_map, hb]; rfl)
      rwa [add_plain] at this
    have HC := Aside0.mk hcell
    have H31 := Aside0.mk h31
    have HNF := Aside0.mk hnf
    have HP := Aside0.mk hp
    obtain ⟨t0, b0, q0, ht0, hb0, hq0, r0, hbb, hqq⟩ := hcell 0 (by omega)
    have a6 : w.cell? ⟨b0, 6, none⟩ = some (.pointer (some ⟨q0, 0, none⟩)) := blk_cell hbb 6
    have l0 : w.cell? ⟨q0, 0, none⟩ = some (.int .i64 t0.pl.line) := blk_cell hqq 0
    have p0 : w.cell? ⟨p, 0, none⟩ = some (.bool false) := blk_cell hp 0
    have eb : ((ts.length : Int) == 0) = false := beq_eq_false_iff_ne.2 (by omega)
    have hpos : (0 : Int) < (ts.length : Int) := by omega
    clear hrow htok hlb hlp hcell h31 hnf hp ht0 hb0 hq0 hbb hqq
    obtain ⟨i0, hi0, hz0, hz1, hz2⟩ := info_parts info9
    have HS : Aside0 (Shown w (w.alloc (.cells #[] 9)) (ts.map Tk.origin) 0 (.slice (some ⟨w.heap.size, 0, none⟩) 0 0)) :=
      ⟨Shown.none _ _ (below_alloc (Below.refl _ _) _) ⟨rfl, .inr ⟨w.heap.size, 0, #[], rfl, Nat.le_refl _, heap_alloc_new w _, Nat.le_refl _, by unfold maxLen; omega, rfl, rfl⟩⟩⟩
    have d6 := fun o : Obj => pw_cell_below (below_alloc (Below.refl _ _) o) a6
    have dl := fun o : Obj => pw_cell_below (below_alloc (Below.refl _ _) o) l0
    have dr := fun o : Obj => pw_cell_below (below_alloc (Below.refl _ _) o) r0
    go_enter Tryd.func15, Tryd.ntmps15
    go_wp2_with fail
    clear a6 l0 p0 r0 d6 dl dr eb hpos
    go_loopw [5, 6, 45] (fun v z i wr => ∃ k : Nat, k ≤ ts.length ∧ i = .int .i64 k ∧ (∃ y, z = .int .i64 y) ∧ Aside0 (Shown w wr (ts.map Tk.origin) k v)) (fun _ _ i _ => ts.length - (intOf i).toNat)
    case atStart => exact ⟨0, by omega, rfl, ⟨_, rfl⟩, HS⟩
    case round =>
      obtain ⟨k, hk, rfl, ⟨y, rfl⟩, hS⟩ := hrel
      clear HS
      have hsz : w.heap.size ≤ wr.heap.size := hS.out.bel.size
      by_cases hlt : k < ts.length
      · obtain ⟨t, b, q, ht, hb, hq, r0, hbb, hqq⟩ := HC.out k hlt
        have h31 := H31.out t (List.mem_of_getElem? ht)
        obtain ⟨hf, hz⟩ := HNF.out t (List.mem_of_getElem? ht)
        have hbw := hS.out.bel
        have a0 : w.cell? ⟨b, 0, none⟩ = some (.int .i64 31) := by rw [← h31]; exact blk_cell hbb 0
        have a4 : w.cell? ⟨b, 4, none⟩ = some (.string t.origin) := blk_cell hbb 4
        have a7 : w.cell? ⟨b, 7, none⟩ = some (.pointer none) := blk_cell hbb 7
        have a8 : w.cell? ⟨b, 8, none⟩ = some (.pointer none) := blk_cell hbb 8
        have p0 : w.cell? ⟨p, 0, none⟩ = some (.bool false) := blk_cell HP.out 0
        have p6 : w.cell? ⟨p, 6, none⟩ = some .nilFunc := blk_cell HP.out 6
        have ho : (ts.map Tk.origin)[k]? = some t.origin := by rw [List.getElem?_map, ht]; rfl
        generalize t.origin = o at *
        have KK := Aside0.mk fun (wx : World) (h : Below w.heap.size w wx) => (show wx.cell? ⟨b, 0, none⟩ = some (.int .i64 31) ∧ wx.cell? ⟨b, 7, none⟩ = some (.pointer none) ∧ wx.cell? ⟨b, 8, none⟩ = some (.pointer none) ∧ wx.cell? ⟨p, 0, none⟩ = some (.bool false) ∧ wx.cell? ⟨p, 6, none⟩ = some .nilFunc from ⟨pw_cell_below h a0, pw_cell_below h a7, pw_cell_below h a8, pw_cell_below h p0, pw_cell_below h p6⟩)
        have HO := Aside0.mk ho
        have HNo := Aside0.mk hf
        have HBW := Aside0.mk hbw
        have r1 := pw_cell_below hbw r0
        have a41 := pw_cell_below hbw a4
        clear ht hb hq r0 hbb hqq h31 a0 a4 a7 a8 p0 p6 ho hf hbw
        go_wp2_with fail
        refine (split_any o _ hz HNo.out).mono ?_
        rintro e w1 ⟨⟨v1, rfl, g1, c1, rfl, s1⟩, hb1⟩
        have hb01 := below_then HBW.out hsz hb1
        have hsz1 : w.heap.size ≤ w1.heap.size := hb01.size
        obtain ⟨x0, x7, x8, xp, x6⟩ := KK.out w1 hb01
        have HB01 := Aside0.mk hb01
        have HBR : Aside0 (∀ O q, Below wr.heap.size wr ((w1.alloc O).drewN q)) := ⟨fun O q => pw_below_drewN (below_alloc hb1 _) q⟩
        clear r1 a41 hb1 hb01
        go_wp2_with fail
        refine (property_any p b _ x0 x7 x8 x6).mono ?_
        rintro e w2 ⟨rfl, rfl⟩
        have xp2 := fun o : Obj => pw_cell_below (below_alloc (Below.refl _ _) o) xp
        have s2 := fun o : Obj => pw_cell_below (below_alloc (Below.refl _ _) o) s1
        have HB02 : Aside0 (∀ O q, Below w.heap.size w ((w1.alloc O).drewN q)) := ⟨fun O q => pw_below_drewN (below_alloc HB01.out _) q⟩
        have n1 := nil_app
        have n2 := app_nil
        clear x0 x7 x8 xp x6 s1
        go_wp2_with fail
        go_quiet (fail)
        have HBQ := Aside0.mk (HB02.out (.cells #[.string ⟨#[]⟩, .string ⟨#[]⟩] 82) nq)
        have HRQ := Aside0.mk (HBR.out (.cells #[.string ⟨#[]⟩, .string ⟨#[]⟩] 82) nq)
        clear xp2 s2 HB02 HBR
        generalize ((w1.alloc (.cells #[.string ⟨#[]⟩, .string ⟨#[]⟩] 82)).drewN nq) = wq at *
        have hszq : w.heap.size ≤ wq.heap.size := HBQ.out.size
        obtain ⟨hS1⟩ := hS
        cases hS1 with
        | none A1 cc hbb hown =>
          have HOW := Aside0.mk (pw_own_below hown HRQ.out)
          clear hbb hown
          go_wp2_with (at_builtin; refine wpList_append_lies _ (by rfl) _ _ _ (by rfl) w.heap.size 9 i0 _ 1 16 Tryd.underlying22 hi0 hz0 hz1 hz2 rfl (by omega) (.slice A1 0 cc) 0 [] (by rfl) (own_alloc HOW.out _) ⟨wq.heap.size, 0, none⟩ 1 1 [.string o] (by rfl) (by rfl) (World.news_of_block (cs := #[.string o]) (t := 9) (fr := (0, 0)) (blk_top (by simp))) (by simp [Value.oneCell']) (by omega) (by unfold maxLen; omega) (by omega) (by simp; omega) (wq.heap.size + 1) (by simp) ?_; intro gg cap w3 hown3 hgrow hat hlt3; have HF := Aside0.mk (shown_first HO.out HBQ.out HOW.out hgrow hown3); clear hown3 hgrow hat hlt3)
          go_roundw
          case rel => exact ⟨0 + 1, by omega, by go_num, ⟨_, rfl⟩, HF⟩
          case measure => simp [intOf]; omega
        | some k g cc cs hbb hgg hcc h00 =>
          have hcq := blk_below hcc HRQ.out
          have t0 : wq.cell? ⟨g, 0, none⟩ = some (.string (cat ((ts.map Tk.origin).take (k + 1)))) := (blk_cell hcq 0).trans h00
          have f0 : wq.frozen? ⟨g, 0, none⟩ = false := blk_frozen hcq 0
          have HF := Aside0.mk (shown_next (c := cc) HO.out HBQ.out hgg hcq h00)
          have hcs : (cat ((ts.map Tk.origin).take (k + 1))).size ≤ 214748364700 := by
            have h1 := cat_size ((ts.map Tk.origin).take (k + 1)) (fun x hx => by
              obtain ⟨t', ht', rfl⟩ := List.mem_map.1 (List.mem_of_mem_take hx)
              exact (HNF.out t' ht').2)
            have h2 : ((ts.map Tk.origin).take (k + 1)).length ≤ 100 := by rw [List.length_take, List.length_map]; omega
            omega
          clear hbb hgg hcc h00 hcq
          generalize cat ((ts.map Tk.origin).take (k + 1)) = acc at *
          go_wp2
          go_roundw
          case rel => exact ⟨k + 1 + 1, by omega, by go_num, ⟨_, rfl⟩, HF⟩
          case measure => simp [intOf]; omega
      · obtain rfl : k = ts.length := by omega
        obtain ⟨hS1⟩ := hS
        cases hk' : ts.length with
        | zero => omega
        | succ m =>
          rw [hk'] at hS1
          cases hS1 with
          | some k g cc cs hbb hgg hcc h00 =>
            have e : (ts.map Tk.origin).take (m + 1) = ts.map Tk.origin := List.take_of_length_le (by rw [List.length_map]; omega)
            rw [e] at h00
            have t0 := (blk_cell hcc 0).trans h00
            have HB := Aside0.mk hbb
            clear hbb hgg hcc h00 e
            obtain ⟨acc, hacc⟩ : ∃ acc, cat (ts.map Tk.origin) = acc := ⟨_, rfl⟩
            rw [hacc] at t0
            have HA := Aside0.mk hacc
            clear hk' hacc
            go_wp2_with fail
            refine (join_one g cc acc _ _ t0).mono ?_
            rintro e w1 ⟨rfl, rfl⟩
            go_wp2
            go_ret
            exact ⟨by rw [HA.out]; rfl, HB.out⟩

end Go.Proofs.YtgidfhpcobpinaaDoor.PcW
