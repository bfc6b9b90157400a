/- Walks of FnGroupTokens: the groups that are told. -/
import Derived.Test.YtgidfhpcobpinaaDoorGtTree
import Derived.StillTailTactics
namespace Go.Proofs.YtgidfhpcobpinaaDoor.GtW
open Go.RowKit Go.Proofs.YtgidfhpcobpinaaDoor.PFnGroupTokens Go.Proofs.YtgidfhpcobpinaaDoorW.PrintWords Go.Proofs.YtgidfhpcobpinaaDoorW.PrintLast Go.Proofs.YtgidfhpcobpinaaDoorW.PrintMore
open Go.Proofs.YtgidfhpcobpinaaDoor.AddM Go.Proofs.YtgidfhpcobpinaaDoor.GtM
attribute [local go_sem ↓] Go.wp_at_zero Go.wp_at_succ
set_option linter.unusedSimpArgs false
set_option linter.unusedVariables false

theorem info66 : (Tryd.prog.info? 66).map (fun i => (i.zero, i.size, i.bytes)) = some (some (.agg #[.int .i64 0, .int .i64 0, .int .i64 0, .slice none 0 0]), 4, 48) := by kernel_rfl

/-- Tokens, the row that tells them, and the counter's block. -/
structure Toks0 (w : World) (tb : List Nat) (g nr : Nat) : Prop where
  row : ∀ (i a : Nat), tb[i]? = some a → w.cell? ⟨g, i, none⟩ = some (.pointer (some ⟨a, 0, none⟩))
  ne : g ≠ nr
theorem Toks0.fr {w w' : World} {tb : List Nat} {g nr : Nat} (h : Toks0 w tb g nr) (hf : Fr nr w w') : Toks0 w' tb g nr :=
  ⟨fun i a hi => by
    have h1 := h.row i a hi
    have hlt := World.block_lt_of_cell? w _ h1
    have := hf.keep g hlt h.ne
    simpa [World.cell?, this] using h1, h.ne⟩

def Told (tb : List Nat) (nr : Nat) (w : World) (k : Nat) (ts : List Tr) (e : Ending) (w' : World) : Prop :=
  ∃ v, e = .returned v ∧ Gs nr w w' k ts v

set_option maxRecDepth 100000 in
set_option maxHeartbeats 1000000 in
theorem groups_any (tb : List Nat) (g nr c0_ : Nat) (hn : tb.length ≤ 1000) : ∀ (N : Nat) (ts : List Tr) (bs fp : List Nat) (r c k m : Nat) (w : World), cnts ts < N → Toks0 w tb g nr → nr ∉ r :: fp → RowAt w r bs → RepL w tb ts bs fp → ts.length ≤ 1000 → Smalls ts →
    w.heap[nr]? = some (.cells #[.int .i64 (k : Int)] 3 (0, 0)) → yields ts = List.range' k m → k + m ≤ 1000 →
    Calls Tryd.prog 20 #[.slice (some ⟨g, 0, none⟩) tb.length c0_, .slice (some ⟨r, 0, none⟩) bs.length c, .pointer (some ⟨nr, 0, none⟩)] w (Told tb nr w k ts) := by
  intro N
  induction N with
  | zero => intro ts bs fp r c k m w h; omega
  | succ N ih =>
    intro ts bs fp r c k m w hN hT hnr hrow hrep htl hfull hnear hy hkm
    have HL := Aside0.mk (RepL.length _ _ _ hrep)
    have hts : bs.length ≤ 1000 := by rw [HL.out]; exact htl
    have IH := Aside0.mk ih
    have HT := Aside0.mk hT
    have HR := Aside0.mk hrow
    have HP := Aside0.mk hrep
    have HF := Aside0.mk hfull
    have HY := Aside0.mk hy
    have HNR := Aside0.mk hnr
    have HS : Aside0 (Gs nr w w k (ts.take 0) (.slice none 0 0)) := ⟨⟨Fr.refl _ _, by simpa [yields] using hnear, Kd.R_nil ..⟩⟩
    have hnl : nr < w.heap.size := blk_lt hnear
    clear ih hT hrow hrep hfull htl hy hnr hnear
    go_enter Tryd.func20, Tryd.ntmps20
    go_wp2
    go_loopw [7, 9, 10, 13] (fun v _ _ i wr => ∃ j : Nat, j ≤ bs.length ∧ i = .int .i64 j ∧ Aside0 (Gs nr w wr k (ts.take j) v)) (fun _ _ _ i _ => bs.length - (intOf i).toNat)
    case atStart => exact ⟨0, by omega, rfl, HS⟩
    case round =>
      obtain ⟨j, hj, rfl, hS⟩ := hrel
      clear HS
      by_cases hlt : j < bs.length
      · obtain ⟨b, hb⟩ : ∃ b, bs[j]? = some b := ⟨_, List.getElem?_eq_getElem hlt⟩
        obtain ⟨t, f, ht, hr, hf⟩ := RepL.nth ts bs fp HP.out j b hb
        have hS0 := hS.out
        have rc : wr.cell? ⟨r, j, none⟩ = some (.pointer (some ⟨b, 0, none⟩)) := (HR.out.frame (hS0.fr.keep r (by obtain ⟨cs, h, _⟩ := HR.out; exact blk_lt h) (fun e => HNR.out (by rw [← e]; exact List.mem_cons_self ..)))).cell hb
        have hr1 : Rep wr tb t b f := Rep.frame _ _ _ hr fun x hx => hS0.fr.keep x (Rep.lt _ _ _ hr x hx) (fun e => HNR.out (by rw [← e]; exact List.mem_cons_of_mem _ (hf x hx)))
        obtain ⟨hyt, hyl⟩ := range_at ts k m j t HY.out ht
        have hFt := smalls_at ts HF.out t (List.mem_of_getElem? ht)
        have HTT := Aside0.mk ht
        clear hb ht hr
        cases t with
        | leaf i =>
          obtain ⟨rfl, a, ha, hblk⟩ := hr1
          have hi : i = k + (yields (ts.take j)).length := by simpa [yield, List.range'] using hyt
          have hil : i < tb.length := (List.getElem?_eq_some_iff.1 ha).1
          have hnb : wr.heap[nr]? = some (.cells #[.int .i64 (i : Int)] 3 (0, 0)) := by rw [hi]; exact hS0.near
          have hga : wr.cell? ⟨g, i, none⟩ = some (.pointer (some ⟨a, 0, none⟩)) := (HT.out.fr hS0.fr).row i a ha
          have c0 : wr.cell? ⟨b, 0, none⟩ = some (.pointer (some ⟨a, 0, none⟩)) := blk_cell hblk 0
          have q0 := fun o : Obj => pw_cell_below (below_alloc (Below.refl _ _) o) c0
          have q2 := fun o : Obj => pw_cell_below (below_alloc (Below.refl _ _) o) (blk_cell hnb 0)
          have q3 := fun o : Obj => pw_cell_below (below_alloc (Below.refl _ _) o) hga
          have B1 := fun o : Obj => Aside0.mk (blk_alloc hblk o)
          have B2 := fun o : Obj => Aside0.mk (blk_alloc hnb o)
          have B3 := fun o : Obj => Aside0.mk (heap_alloc_new wr o)
          have HSZ : Aside0 (w.heap.size ≤ wr.heap.size) := ⟨hS0.fr.bel.size⟩
          have HSG := Aside0.mk hS0
          have HI := Aside0.mk hi
          clear hblk hnb hS hS0 hyt hyl hga
          go_wp2_with fail
          have B1 := B1 (.cells #[.int .i64 0, .int .i64 (-1), .int .i64 (-1), .slice none 0 0] 66)
          have B2 := B2 (.cells #[.int .i64 0, .int .i64 (-1), .int .i64 (-1), .slice none 0 0] 66)
          have B3 := B3 (.cells #[.int .i64 0, .int .i64 (-1), .int .i64 (-1), .slice none 0 0] 66)
          clear c0 q0 q2 q3
          obtain ⟨w1, hw1⟩ : ∃ w1, w1 = wr.alloc (.cells #[.int .i64 0, .int .i64 (-1), .int .i64 (-1), .slice none 0 0] 66) := ⟨_, rfl⟩
          have d0 : w1.cell? ⟨b, 0, none⟩ = some (.pointer (some ⟨a, 0, none⟩)) := by rw [hw1]; exact blk_cell B1.out 0
          have d2 : w1.cell? ⟨nr, 0, none⟩ = some (.int .i64 i) := by rw [hw1]; exact blk_cell B2.out 0
          have d3 : w1.cell? ⟨g, i, none⟩ = some (.pointer (some ⟨a, 0, none⟩)) := by
            rw [hw1]; exact pw_cell_below (below_alloc (Below.refl _ _) _) ((HT.out.fr HSG.out.fr).row i a ha)
          have IX := (index_at g 0 tb.length c0_ ⟨a, 0, none⟩ i w1.drew hil (by omega) (by rw [Nat.zero_add]; exact d3)).mono (R' := fun e w' => e = .returned (.int .i64 i) ∧ w' = w1.drew) (fun e w' h => ⟨h.1, h.2.symm⟩)
          rw [← hw1] at B1 B2 B3 ⊢
          have HW1 : Aside0 (Fr nr wr w1) := ⟨by rw [hw1]; exact Fr.alloc (Fr.refl _ _) _⟩
          clear hw1 hi
          go_still_tail 10, (by kernel_rfl)
          still_call IX
          repeat still_step
          refine wpStill_nil ?_
          change wpList _ _ _ _ _ w1.drew
          obtain ⟨w2, hw2⟩ : ∃ w2, w2 = w1.drew := ⟨_, rfl⟩
          rw [← hw2]
          have D1 : Aside0 (w2.heap[b]? = some (.cells (nodeCells (some a) none) 96 (0, 0))) := ⟨by rw [hw2]; exact B1.out⟩
          have D2 : Aside0 (w2.heap[nr]? = some (.cells #[.int .i64 (i : Int)] 3 (0, 0))) := ⟨by rw [hw2]; exact B2.out⟩
          have D3 : Aside0 (w2.heap[wr.heap.size]? = some (.cells #[.int .i64 0, .int .i64 (-1), .int .i64 (-1), .slice none 0 0] 66 (0, 0))) := ⟨by rw [hw2]; exact B3.out⟩
          have HW2 : Aside0 (Fr nr wr w2) := ⟨by rw [hw2]; exact HW1.out.drewN 1⟩
          clear hw2 d0 d2 d3 IX B1 B2 B3 HW1
          have E1 := Aside0.mk (blk_set D3.out 1 (.int .i64 (i : Int)))
          have E2 := Aside0.mk (blk_far D2.out (p := ⟨wr.heap.size, 1, none⟩) (blk_ne D2.out D3.out (by decide)) (.int .i64 (i : Int)))
          have E3 := Aside0.mk (blk_far D1.out (p := ⟨wr.heap.size, 1, none⟩) (blk_ne D1.out D3.out (by decide)) (.int .i64 (i : Int)))
          have f1 := blk_cell D3.out 1
          have f2 := blk_frozen D3.out 1
          have g1 := blk_cell E1.out 1
          have g2 := blk_cell E2.out 0
          have g3 := blk_frozen E2.out 0
          have F1 := Aside0.mk (blk_far E1.out (p := ⟨nr, 0, none⟩) (blk_ne D3.out D2.out (by decide)) (.int .i64 ((i : Int) + 1)))
          have F2 := Aside0.mk (blk_set E2.out 0 (.int .i64 ((i : Int) + 1)))
          have F3 := Aside0.mk (blk_far E3.out (p := ⟨nr, 0, none⟩) (blk_ne D1.out D2.out (by decide)) (.int .i64 ((i : Int) + 1)))
          have k1 := blk_cell F3.out 1
          have k2 := blk_cell F3.out 2
          have m0 := blk_cell F1.out 0
          have m1 := blk_cell F1.out 1
          have m2 := blk_cell F1.out 2
          have m3 := blk_cell F1.out 3
          simp [nodeCells, ptr] at f1 g1 g2 k1 k2 m0 m1 m2 m3
          have HFR : Aside0 (Fr nr wr ((w2.setCell ⟨wr.heap.size, 1, none⟩ (.int .i64 (i : Int))).setCell ⟨nr, 0, none⟩ (.int .i64 ((i : Int) + 1)))) := ⟨(HW2.out.set (.inr (Nat.le_refl _)) 1 _).set (.inl rfl) 0 _⟩
          have HN : Aside0 (((w2.setCell ⟨wr.heap.size, 1, none⟩ (.int .i64 (i : Int))).setCell ⟨nr, 0, none⟩ (.int .i64 ((i : Int) + 1))).heap[nr]? = some (.cells #[.int .i64 ((k + (yields (ts.take j)).length + (yield (.leaf i)).length : Nat) : Int)] 3 (0, 0))) := ⟨by
            refine blk_put E2.out 0 _ ?_
            have e : ((k + (yields (ts.take j)).length + (yield (.leaf i)).length : Nat) : Int) = (i : Int) + 1 := by
              rw [← HI.out]; simp [yield]
            rw [e]; rfl⟩
          have HO := Aside0.mk (HSG.out.over HFR.out hnl)
          have hsz : ((w2.setCell ⟨wr.heap.size, 1, none⟩ (.int .i64 (i : Int))).setCell ⟨nr, 0, none⟩ (.int .i64 ((i : Int) + 1))).heap.size ≥ w.heap.size := Nat.le_trans HSZ.out HFR.out.bel.size
          have HS2 : Aside0 (((w2.setCell ⟨wr.heap.size, 1, none⟩ (.int .i64 (i : Int))).setCell ⟨nr, 0, none⟩ (.int .i64 ((i : Int) + 1))).heap.size = w2.heap.size) := ⟨by simp [World.setCell]⟩
          have hjl : (s66s (ts.take j)).length ≤ 1000 := by rw [s66s_length, List.length_take]; omega
          go_wp2_with (at_builtin; go_loud (refine Kd.R_append k66 (w0 := ((w2.setCell ⟨wr.heap.size, 1, none⟩ (.int .i64 (i : Int))).setCell ⟨nr, 0, none⟩ (.int .i64 ((i : Int) + 1)))) w.heap.size rfl (.tmp 84) (.tmp 86) 35 66 (.agg #[.int .i64 0, .int .i64 0, .int .i64 0, .slice none 0 0]) 48 rfl Tryd.underlying35 info66 rfl (by decide) (by omega) u7 (s66s (ts.take j)) (s66 (.leaf i)) [.int .i64 0, .int .i64 (i : Int), .int .i64 (-1), .slice none 0 0] (fun j => w.heap.size ≤ j) (fun _ => False) rfl (by rw [HS2.out]; rfl) (k66_mkM _ _ _ (s66 (.leaf i)) (Kd.R_nil ..)) (fun _ h => h.elim) (fun _ h => Nat.le_trans hsz h) HO.out (Below.refl _ _) hsz (by omega) ?_); intro v1 w5 hR1 hb1 hg1 hat1; have HZ := Aside0.mk (HSG.out.step HFR.out hnl HN.out hR1 hg1); clear hR1 hb1 hg1 hat1)
          go_roundw
          case rel => exact ⟨j + 1, by omega, by go_num, ⟨by rw [take_snoc ts j _ HTT.out]; exact HZ.out⟩⟩
          case measure => simp [intOf]; omega
        | node ty ks =>
          obtain ⟨g', r', c', bs', f', rfl, hblk, hgb, hrw, hrp⟩ := hr1
          have q0 := fun o : Obj => pw_cell_below (below_alloc (Below.refl _ _) o) (blk_cell hblk 0)
          have q1 := fun o : Obj => pw_cell_below (below_alloc (Below.refl _ _) o) (blk_cell hblk 1)
          have q2 := fun o : Obj => pw_cell_below (below_alloc (Below.refl _ _) o) (blk_cell hblk 2)
          have q3 := fun o : Obj => pw_cell_below (below_alloc (Below.refl _ _) o) (blk_cell hgb 0)
          have q4 := fun o : Obj => pw_cell_below (below_alloc (Below.refl _ _) o) (blk_cell hgb 1)
          have e0 := Nat.ne_of_gt (blk_lt hblk)
          have e1 := Nat.ne_of_gt (blk_lt hgb)
          simp [nodeCells, groupCells, ptr] at q0 q1 q2 q3 q4
          have hnb := hS0.near
          have hFA := Fr.alloc (Fr.refl nr wr) (.cells #[.int .i64 ty, .int .i64 (-1), .int .i64 (-1), .slice none 0 0] 66)
          have hks : yields ks = List.range' (k + (yields (ts.take j)).length) (yields ks).length := hyt
          have hkl : (yields (ts.take j)).length + (yields ks).length ≤ m := hyl
          have hcn : cnts ks < N := by
            have := cnt_at ts _ (List.mem_of_getElem? HTT.out)
            simp only [cnt] at this
            omega
          have hin : ∀ x ∈ b :: g' :: r' :: f', x ≠ nr := fun x hx e => HNR.out (by rw [← e]; exact List.mem_cons_of_mem _ (hf x hx))
          have IC := Aside0.mk (IH.out ks bs' f' r' c' (k + (yields (ts.take j)).length) (yields ks).length (wr.alloc (.cells #[.int .i64 ty, .int .i64 (-1), .int .i64 (-1), .slice none 0 0] 66)) hcn (HT.out.fr (hS0.fr.trans hFA))
            (fun hm => hin nr (List.mem_cons_of_mem _ (List.mem_cons_of_mem _ hm)) rfl) (hrw.frame (Below.heap_alloc _ _ _ (by obtain ⟨cs, h, _⟩ := hrw; exact blk_lt h)))
            (RepL.frame _ _ _ hrp fun x hx => Below.heap_alloc _ _ _ (RepL.lt _ _ _ hrp x hx)) hFt.1 hFt.2 (blk_alloc hnb _) hks (by omega))
          have HFA := Aside0.mk hFA
          have HKL := Aside0.mk hkl
          have HSG := Aside0.mk hS0
          have B1 := Aside0.mk (blk_alloc hblk (.cells #[.int .i64 ty, .int .i64 (-1), .int .i64 (-1), .slice none 0 0] 66))
          have B3 := Aside0.mk (heap_alloc_new wr (.cells #[.int .i64 ty, .int .i64 (-1), .int .i64 (-1), .slice none 0 0] 66))
          have hbn : b ≠ nr := hin b (List.mem_cons_self ..)
          have HSZ : Aside0 (w.heap.size ≤ wr.heap.size) := ⟨hS0.fr.bel.size⟩
          clear hnb hFA hks hkl hcn hin hblk hgb hrw hrp hyt hyl hf hS hS0 hFt
          go_wp2_with fail
          refine IC.out.mono ?_
          rintro e w5 ⟨v3, rfl, hG⟩
          obtain ⟨A3, n3, rfl⟩ := Kd.R_slice hG.out
          clear IC q0 q1 q2 q3 q4
          have hlt1 : wr.heap.size < (wr.alloc (.cells #[.int .i64 ty, .int .i64 (-1), .int .i64 (-1), .slice none 0 0] 66)).heap.size := by show wr.heap.size < (wr.heap.push _).size; rw [Array.size_push]; exact Nat.lt_succ_self _
          have hb5 : w5.heap[b]? = some (.cells (nodeCells none (some g')) 96 (0, 0)) := (hG.fr.keep b (blk_lt B1.out) hbn).trans B1.out
          have hx5 : w5.heap[wr.heap.size]? = some (.cells #[.int .i64 ty, .int .i64 (-1), .int .i64 (-1), .slice none 0 0] 66 (0, 0)) := (hG.fr.keep _ hlt1 (by have := HSZ.out; omega)).trans B3.out
          have F1 := Aside0.mk (blk_set hx5 3 (.slice A3 (s66s ks).length n3))
          have F3 := Aside0.mk (blk_far hb5 (p := ⟨wr.heap.size, 3, none⟩) (blk_ne hb5 hx5 (by decide)) (.slice A3 (s66s ks).length n3))
          have f0 := blk_cell hx5 3
          have f1 := blk_frozen hx5 3
          have k2 := blk_cell F3.out 2
          have m0 := blk_cell F1.out 0
          have m1 := blk_cell F1.out 1
          have m2 := blk_cell F1.out 2
          have m3 := blk_cell F1.out 3
          have HFR : Aside0 (Fr nr wr (w5.setCell ⟨wr.heap.size, 3, none⟩ (.slice A3 (s66s ks).length n3))) := ⟨(HFA.out.trans hG.fr).set (.inr (Nat.le_refl _)) 3 _⟩
          have HN : Aside0 ((w5.setCell ⟨wr.heap.size, 3, none⟩ (.slice A3 (s66s ks).length n3)).heap[nr]? = some (.cells #[.int .i64 ((k + (yields (ts.take j)).length + (yield (.node ty ks)).length : Nat) : Int)] 3 (0, 0))) := ⟨blk_far hG.near (by show nr ≠ wr.heap.size; have := HSZ.out; omega) (.slice A3 (s66s ks).length n3)⟩
          have HO := Aside0.mk (HSG.out.over HFR.out hnl)
          have hsz : (w5.setCell ⟨wr.heap.size, 3, none⟩ (.slice A3 (s66s ks).length n3)).heap.size ≥ w.heap.size := Nat.le_trans HSZ.out HFR.out.bel.size
          have hsz1 : w.heap.size ≤ (wr.alloc (.cells #[.int .i64 ty, .int .i64 (-1), .int .i64 (-1), .slice none 0 0] 66)).heap.size := by have := HSZ.out; omega
          have HV : Aside0 (k66.R 66 (w5.setCell ⟨wr.heap.size, 3, none⟩ (.slice A3 (s66s ks).length n3)) w.heap.size (fun x => (wr.alloc (.cells #[.int .i64 ty, .int .i64 (-1), .int .i64 (-1), .slice none 0 0] 66)).heap.size ≤ x) (.slice A3 (s66s ks).length n3) (s66s ks)) := ⟨Kd.R_lower (Kd.R_far hG.out (fun x hx => by show x ≠ wr.heap.size; omega) (.slice A3 (s66s ks).length n3)) hsz1⟩
          have HOK : Aside0 (∀ x, (wr.alloc (.cells #[.int .i64 ty, .int .i64 (-1), .int .i64 (-1), .slice none 0 0] 66)).heap.size ≤ x → w.heap.size ≤ x ∧ some x ≠ u7.ownBlock) := ⟨fun x hx => ⟨by omega, fun e => by have := Kd.R_lt HSG.out.out x e.symm; omega⟩⟩
          have HS2 : Aside0 ((w5.setCell ⟨wr.heap.size, 3, none⟩ (.slice A3 (s66s ks).length n3)).heap.size = w5.heap.size) := ⟨by simp [World.setCell]⟩
          have hjl : (s66s (ts.take j)).length ≤ 1000 := by rw [s66s_length, List.length_take]; omega
          simp [nodeCells, ptr] at f0 k2 m0 m1 m2 m3
          clear hG hb5 hx5
          go_wp2_with (at_builtin; go_loud (refine Kd.R_append k66 (w0 := (w5.setCell ⟨wr.heap.size, 3, none⟩ (.slice A3 (s66s ks).length n3))) w.heap.size rfl (.tmp 84) (.tmp 86) 35 66 (.agg #[.int .i64 0, .int .i64 0, .int .i64 0, .slice none 0 0]) 48 rfl Tryd.underlying35 info66 rfl (by decide) (by omega) u7 (s66s (ts.take j)) (s66 (.node ty ks)) [.int .i64 ty, .int .i64 (-1), .int .i64 (-1), (.slice A3 (s66s ks).length n3)] (fun j => w.heap.size ≤ j) (fun x => (wr.alloc (.cells #[.int .i64 ty, .int .i64 (-1), .int .i64 (-1), .slice none 0 0] 66)).heap.size ≤ x) rfl (by rw [HS2.out]; rfl) (k66_mkM _ _ _ (s66 (.node ty ks)) HV.out) HOK.out (fun _ h => Nat.le_trans hsz h) HO.out (Below.refl _ _) hsz (by omega) ?_); intro v1 w6 hR1 hb1 hg1 hat1; have HZ := Aside0.mk (HSG.out.step HFR.out hnl HN.out hR1 hg1); clear hR1 hb1 hg1 hat1)
          go_roundw
          case rel => exact ⟨j + 1, by omega, by go_num, ⟨by rw [take_snoc ts j _ HTT.out]; exact HZ.out⟩⟩
          case measure => simp [intOf]; omega
      · have hF : Gs nr w wr k ts u7 := by
          have := hS.out
          rwa [List.take_of_length_le (by have := HL.out; omega)] at this
        have HF1 := Aside0.mk hF
        clear hF hS
        obtain rfl : j = bs.length := by omega
        go_wp2
        go_ret
        exact ⟨_, rfl, HF1.out⟩

end Go.Proofs.YtgidfhpcobpinaaDoor.GtW
