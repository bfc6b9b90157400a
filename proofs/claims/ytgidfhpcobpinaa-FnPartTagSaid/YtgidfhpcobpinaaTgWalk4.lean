/- Walks of FnPartTag: a tag is scanned. -/
import Derived.Test.YtgidfhpcobpinaaTgWalk3
import Derived.Laws.Cover4
import Derived.BigRegion
namespace Go.Proofs.Ytgidfhpcobpinaa.TgW
open Go.RowKit Go.Proofs.Ytgidfhpcobpinaa.PFnPartTag Go.Proofs.YtgidfhpcobpinaaW.PrintWords Go.Proofs.YtgidfhpcobpinaaW.PrintLast Go.Proofs.YtgidfhpcobpinaaW.PrintMore
open Go.Proofs.Ytgidfhpcobpinaa.AddM Go.Proofs.Ytgidfhpcobpinaa.Rn
attribute [local go_sem ↓] Go.wp_at_zero Go.wp_at_succ
set_option linter.unusedSimpArgs false
set_option linter.unusedVariables false



/-- What a row of characters gives. -/
theorem chars_of {w : World} {B n : Nat} {ob : Value} {xs : List Int} (h : w.ownsRow B 21 1 ob n (xs.map (Value.int .i32))) (hn : 1 ≤ n) : ∃ g cap G, ob = .slice (some ⟨g, 0, none⟩) n cap ∧ n ≤ cap ∧ w.heap[g]? = some (.cells G 21 (0, 0)) ∧
    ∀ W : World, W.heap[g]? = some (.cells G 21 (0, 0)) → (convert 43 9 (.slice (some ⟨g, 0, none⟩) n cap)).run Try.prog W = .ok (.string (runesBytes xs)) W := by
  obtain ⟨g, cap, hv, _, hgl⟩ := h.form hn
  subst hv
  obtain ⟨G, hG⟩ := own_typed h g rfl
  have hlen : xs.length = n := by have := h.1; simpa using this
  refine ⟨g, cap, G, rfl, ?_, hG, fun W hW => ?_⟩
  · rcases h.2 with ⟨h1, _⟩ | ⟨g', cap', cur, h1, _, _, h5, _⟩
    · cases h1
    · injection h1 with _ _ h1
      subst h1
      exact h5
  · have := run_convert_runes (P := Try.prog) W 43 9 21 ⟨g, 0, none⟩ n cap xs (by omega) Try.underlying43 Try.underlying21 Try.underlying9 fun j hj => by
      have hc := h.cells (g := g) rfl j (.int .i32 (xs.getD j 0)) (by rw [List.getElem?_map, List.getD_eq_getElem?_getD, List.getElem?_eq_getElem hj]; rfl)
      rw [add_plain] at hc ⊢
      rw [blk_cell hG] at hc
      rw [blk_cell hW]
      exact hc
    rwa [List.take_of_length_le (by omega)] at this

variable {w0 w1 w : World} {sb cb rb : Nat} {S C R : Array Value} {src ob : Value} {n : Nat} {xs : List Int} {tk : Value} {m : Nat} {ts : List Value} {bs : List (Nat × Array Value × TypeId)} {len sp col off fm idx nso : Int}

/-- A place and a token have been made. -/
theorem St.two {pl : Pl} {v o : ByteArray} (h : St w0 w1 w sb cb rb S C R ob n xs tk m ts []) (a b : Nat) :
    St w0 w1 ((((w.alloc (.cells (plCells pl) 73)).drewN a).alloc (.cells (tagCells v o w.heap.size) 58)).drewN b) sb cb rb S C R ob n xs tk m ts [(w.heap.size + 1, tagCells v o w.heap.size, 58), (w.heap.size, plCells pl, 73)] := by
  have h1 := h.more (pw_below_drewN (below_alloc (Below.refl _ _) (.cells (plCells pl) 73)) a)
  have k1 : ((w.alloc (.cells (plCells pl) 73)).drewN a).heap[w.heap.size]? = some (.cells (plCells pl) 73 (0, 0)) := blk_drewN (blk_new _ _) a
  have h2 := (h1.know k1 (by decide)).more (pw_below_drewN (below_alloc (Below.refl _ _) (.cells (tagCells v o w.heap.size) 58)) b)
  refine h2.know (blk_drewN (blk_top (by simp)) b) (by decide)

/-- What scanTag leaves. -/
def Done (w0 w1 w : World) (sb cb rb : Nat) (R : Array Value) (src : Value) (len fm : Int) (v : ByteArray) : Prop :=
  ∃ sp col off idx nso ob ob' n xs gg cap tb pb o pl, St w0 w1 w sb cb rb (SC src len sp col off fm) (CX src len idx nso ob' (.slice (some ⟨gg, 0, none⟩) 1 cap)) R ob n xs (.slice (some ⟨gg, 0, none⟩) 1 cap) 1 [.pointer (some ⟨tb, 0, none⟩)] [(tb, tagCells v o pb, 58), (pb, plCells pl, 73)]

set_option maxRecDepth 100000 in
set_option maxHeartbeats 2000000 in
theorem scanTag_any (l : List Int) (cap M : Nat) (sep : Int) (hR : Src R l) (hcap : l.length ≤ cap) (hl : l.length ≤ 10000) (h1 : 1 ≤ M) (hM : M < l.length) (hsep : l[M]? = some sep) (hs : sep = 32 ∨ sep = 10 ∨ (sep = 44 ∧ 0 < fm)) (hfm : 0 ≤ fm ∧ fm ≤ 1) (hv : (runesAt (runesBytes (l.take M)) 0).length = M)
    (hp : ∀ j c, 1 ≤ j → j < M → l[j]? = some c → c ≠ 32 ∧ c ≠ 44 ∧ c ≠ 10 ∧ c ≠ 13 ∧ c ≠ 123 ∧ c ≠ 125)
    (h : St w0 w1 w sb cb rb (SC (.slice (some ⟨rb, 0, none⟩) l.length cap) l.length 0 1 1 fm) (CX (.slice (some ⟨rb, 0, none⟩) l.length cap) l.length 0 0 (.slice none 0 0) tk) R (.slice none 0 0) 0 [] tk 0 [] []) :
    Calls Try.prog 10 #[.pointer (some ⟨sb, 0, none⟩), .pointer (some ⟨cb, 0, none⟩)] w fun e w' => e = .returned (.tuple #[.bool true, .nilIface]) ∧ Done w0 w1 w' sb cb rb R (.slice (some ⟨rb, 0, none⟩) l.length cap) l.length fm (runesBytes (l.take M)) := by
  obtain ⟨src, hsrc⟩ : ∃ src, Value.slice (some ⟨rb, 0, none⟩) l.length cap = src := ⟨_, rfl⟩
  rw [hsrc] at h ⊢
  have HEX := Aside0.mk (exists_any w cb src l.length 0 0 (.slice none 0 0) tk h.cx)
  have HH := Aside0.mk h
  have HR := Aside0.mk hR
  have HP := Aside0.mk hp
  have HSEP := Aside0.mk hsep
  have HS := Aside0.mk hs
  have HSRC := Aside0.mk hsrc
  have HV := Aside0.mk hv
  have g13 : w.cell? ⟨sb, 13, none⟩ = some (.bool false) := blk_cell h.sc 13
  clear h hR hp hsep hs hsrc hv
  go_enter Try.func10, Try.ntmps10
  go_wp2_with fail
  refine HEX.out.mono ?_
  rintro e wa ⟨rfl, hb⟩
  have HA := Aside0.mk (HH.out.more hb)
  have g13a : wa.cell? ⟨sb, 13, none⟩ = some (.bool false) := blk_cell HA.out.sc 13
  clear hb HEX HH g13
  go_wp2_with fail
  refine (addO_any w0 w1 wa sb cb rb _ R src _ _ _ _ tk 0 [] 33 0 [] [] HA.out (by omega)).mono ?_
  rintro e wb ⟨rfl, ob1, nso1, hB⟩
  have HB := Aside0.mk hB
  clear hB HA g13a
  go_wp2_with fail
  refine (progress_any 1 HB.out (by omega) (by omega) (by omega)).mono ?_
  rintro e wc ⟨rfl, hC⟩
  have HC := Aside0.mk hC
  have c4 : wc.cell? ⟨cb, 4, none⟩ = some (.slice (some ⟨rb, 0, none⟩) l.length cap) := by rw [HSRC.out]; exact blk_cell hC.cx 4
  have c0 : wc.cell? ⟨cb, 0, none⟩ = some (.int .i64 1) := blk_cell hC.cx 0
  clear hC HB
  go_wp2
  go_quiet (fail)
  have HD : Aside0 (St w0 w1 (wc.drewN nq) sb cb rb (SC src l.length 1 1 1 fm) (CX src l.length 1 nso1 ob1 tk) R ob1 1 [33] tk 0 [] []) := ⟨HC.out.more (pw_below_drewN (Below.refl _ _) nq)⟩
  clear HC c4 c0
  generalize wc.drewN nq = wd at *
  go_wp2
  go_loopw [6, 7, 8, 36] (fun _ _ _ i wr => ∃ (k : Nat) (nso : Int) (ob : Value) (xs : List Int), k < M ∧ i = .int .i64 k ∧ Aside0 (St w0 w1 wr sb cb rb (SC src l.length 1 1 1 fm) (CX src l.length 1 nso ob tk) R ob (k + 1) xs tk 0 [] [])) (fun _ _ _ i _ => l.length - (intOf i).toNat)
  case atStart => exact ⟨0, _, _, _, by omega, rfl, HD⟩
  case round =>
    obtain ⟨k, nso, ob, xs, hk, rfl, hK⟩ := hrel
    clear HD
    obtain ⟨c, hc⟩ : ∃ c, l[k + 1]? = some c := ⟨_, List.getElem?_eq_getElem (by omega)⟩
    have hcell : wr.cell? ⟨rb, 1 + k, none⟩ = some (.int .i32 c) := by
      rw [blk_cell hK.out.row, Nat.add_comm, HR.out (k + 1) (by omega)]
      rw [List.getD_eq_getElem?_getD, hc]; rfl
    by_cases hlast : k + 1 = M
    · obtain rfl : c = sep := by
        have := HSEP.out
        rw [← hlast, hc] at this
        exact Option.some.inj this
      subst hlast
      have hw1 : IntKind.i64.wrap (1 + (k : Int)) = ((k + 1 : Nat) : Int) := by rw [IntKind.wrap_i64] <;> omega
      have HAO := Aside0.mk (addO_any w0 w1 wr sb cb rb _ R src _ _ _ _ tk (k + 1) xs c 0 [] [] hK.out (by omega))
      rcases HS.out with rfl | rfl | ⟨rfl, hfm2⟩
      · clear hK hc
        go_wp2_with fail
        refine HAO.out.mono ?_
        rintro e wx ⟨rfl, ob2, nso2, hX⟩
        have HX := Aside0.mk hX
        have x0 : wx.cell? ⟨cb, 0, none⟩ = some (.int .i64 1) := blk_cell hX.cx 0
        have SO := Aside0.mk fun q => source_any (w := wx.drewN q) l cap (k + 1) HR.out hcap (by omega) (by omega) (by rw [HSRC.out]; exact hX.cx) hX.row
        clear hX HAO hcell
        go_wp2
        go_quiet ((go_at_call 18; refine Calls.quiet_of (SO.out _)))
        have HY := Aside0.mk (HX.out.more (pw_below_drewN (Below.refl _ _) nq))
        clear HX x0 SO
        generalize wx.drewN nq = wy at *
        obtain ⟨g, cap2, G, hob, hgc, hG, hcv⟩ := chars_of HY.out.own (by omega)
        have HOB := Aside0.mk hob
        have HCV := Aside0.mk hcv
        have y6 : wy.cell? ⟨cb, 6, none⟩ = some (.slice (some ⟨g, 0, none⟩) (k + 1 + 1) cap2) := by rw [← hob]; exact blk_cell HY.out.cx 6
        have hsb : wy.heap[sb]? = some (.cells (SC src l.length 1 1 1 fm) 47 (0, 0)) := HY.out.sc
        have hvl := HV.out
        clear HV
        generalize hvv : runesBytes (l.take (k + 1)) = v at *
        have HVV := Aside0.mk hvv
        have hrn := runesFrom_all v
        generalize runesAt v 0 = lv at hrn hvl
        have hcv2 := fun (wx : World) => run_runes_of_string (P := Try.prog) wx 9 43 21 v Try.underlying9 Try.underlying43 Try.underlying21 (by rw [hrn]; simp; omega)
        rw [hrn] at hcv2
        have HRN := Aside0.mk hrn
        clear hrn hvv
        generalize runesBytes (xs ++ [32]) = o at *
        clear hob hcv
        go_wp2
        have ht : wy.drew.heap[sb]? = some (.cells (SC src l.length 1 1 1 fm) 47 (0, 0)) ∧ wy.drew.cell? ⟨cb, 6, none⟩ = some (.slice (some ⟨g, 0, none⟩) (k + 1 + 1) cap2) ∧ wy.drew.heap[g]? = some (.cells G 21 (0, 0)) ∧ (convert 43 9 (.slice (some ⟨g, 0, none⟩) (k + 1 + 1) cap2)).run Try.prog wy.drew = .ok (.string o) wy.drew := ⟨hsb, pw_cell_below (below_drew (Below.refl _ _)) y6, hG, HCV.out _ hG⟩
        go_region_held3 (fun w' => w'.heap[sb]? = some (.cells (SC src l.length 1 1 1 fm) 47 (0, 0)) ∧ w'.cell? ⟨cb, 6, none⟩ = some (.slice (some ⟨g, 0, none⟩) (k + 1 + 1) cap2) ∧ w'.heap[g]? = some (.cells G 21 (0, 0)) ∧ (convert 43 9 (.slice (some ⟨g, 0, none⟩) (k + 1 + 1) cap2)).run Try.prog w' = .ok (.string o) w')
          (first | assumption | (go_split_ands; refine ⟨blk_drewN (blk_alloc (by assumption) _) _, ?_, ?_, HCV.out _ ?_⟩ <;> first | (apply pw_cell_below (pw_below_drewN (below_alloc (Below.refl _ _) _) _); assumption) | (apply blk_drewN; apply blk_alloc; assumption)))
          (first
            | (go_at_call 21; refine (pos_any (src := src) (len := l.length) (sp := 1) (col := 1) (off := 1) (fm := fm) ?_).mono ?_; (go_split_ands; assumption); rintro e w' ⟨rfl, nd, rfl⟩)
            | (go_at_call 20; refine (tag_any _ _ _ _).mono ?_; rintro e w' ⟨rfl, nd, rfl⟩)
            | (go_at_call 19; refine (addT_any _ (HY.out.two (pl := ⟨1, 1, 1, 0, 0⟩) _ _) (by omega)).mono ?_; rintro e w' ⟨rfl, gg, cap3, hZ, hk21⟩; have hGn : w'.heap[g]? = some (.cells G 21 (0, 0)) := hk21 _ _ (by apply blk_drewN; apply blk_alloc; apply blk_drewN; apply blk_alloc; exact hG); have hSn : w'.heap[sb]? = some (.cells (SC src l.length 1 1 1 fm) 47 (0, 0)) ∧ w'.cell? ⟨cb, 6, none⟩ = some (.slice (some ⟨g, 0, none⟩) (k + 1 + 1) cap2) ∧ w'.heap[g]? = some (.cells G 21 (0, 0)) ∧ (convert 43 9 (.slice (some ⟨g, 0, none⟩) (k + 1 + 1) cap2)).run Try.prog w' = .ok (.string o) w' := ⟨hZ.sc, (blk_cell hZ.cx 6).trans (by rw [← HOB.out]; rfl), hGn, HCV.out _ hGn⟩))
        have HZ := Aside0.mk hZ
        clear hZ hk21 hGn hSn ht hG hsb y6
        go_wp2_with fail
        have HZ2 : ∀ O, Aside0 (St w0 w1 (w'.alloc O).drew sb cb rb _ _ R ob2 (k + 1 + 1) (xs ++ [32]) _ 1 _ _) := fun O => ⟨HZ.out.more (below_drew (below_alloc (Below.refl _ _) O))⟩
        refine (column_any ((k : Int) + 1) (HZ2 _).out (by omega) (by omega) (by omega) (by omega) (by omega)).mono ?_
        rintro e wf ⟨rfl, hF⟩
        have HF := Aside0.mk hF
        clear hF HZ2
        go_wp2_with fail
        refine (clear_any HF.out g cap2 HOB.out hgc).mono ?_
        rintro e wh ⟨rfl, ob3, hH⟩
        have HH := Aside0.mk hH
        clear hH
        go_wp2
        go_ret2
        exact ⟨rfl, by rw [HVV.out]; exact ⟨_, _, _, _, _, _, _, _, _, _, _, _, _, _, _, HH.out⟩⟩
      · clear hK hc
        go_wp2_with fail
        refine HAO.out.mono ?_
        rintro e wx ⟨rfl, ob2, nso2, hX⟩
        have HX := Aside0.mk hX
        have x0 : wx.cell? ⟨cb, 0, none⟩ = some (.int .i64 1) := blk_cell hX.cx 0
        have SO := Aside0.mk fun q => source_any (w := wx.drewN q) l cap (k + 1) HR.out hcap (by omega) (by omega) (by rw [HSRC.out]; exact hX.cx) hX.row
        clear hX HAO hcell
        go_wp2
        go_quiet ((go_at_call 18; refine Calls.quiet_of (SO.out _)))
        have HY := Aside0.mk (HX.out.more (pw_below_drewN (Below.refl _ _) nq))
        clear HX x0 SO
        generalize wx.drewN nq = wy at *
        obtain ⟨g, cap2, G, hob, hgc, hG, hcv⟩ := chars_of HY.out.own (by omega)
        have HOB := Aside0.mk hob
        have HCV := Aside0.mk hcv
        have y6 : wy.cell? ⟨cb, 6, none⟩ = some (.slice (some ⟨g, 0, none⟩) (k + 1 + 1) cap2) := by rw [← hob]; exact blk_cell HY.out.cx 6
        have hsb : wy.heap[sb]? = some (.cells (SC src l.length 1 1 1 fm) 47 (0, 0)) := HY.out.sc
        have hvl := HV.out
        clear HV
        generalize hvv : runesBytes (l.take (k + 1)) = v at *
        have HVV := Aside0.mk hvv
        have hrn := runesFrom_all v
        generalize runesAt v 0 = lv at hrn hvl
        have hcv2 := fun (wx : World) => run_runes_of_string (P := Try.prog) wx 9 43 21 v Try.underlying9 Try.underlying43 Try.underlying21 (by rw [hrn]; simp; omega)
        rw [hrn] at hcv2
        have HRN := Aside0.mk hrn
        clear hrn hvv
        generalize runesBytes (xs ++ [10]) = o at *
        clear hob hcv
        go_wp2
        have ht : wy.drew.heap[sb]? = some (.cells (SC src l.length 1 1 1 fm) 47 (0, 0)) ∧ wy.drew.cell? ⟨cb, 6, none⟩ = some (.slice (some ⟨g, 0, none⟩) (k + 1 + 1) cap2) ∧ wy.drew.heap[g]? = some (.cells G 21 (0, 0)) ∧ (convert 43 9 (.slice (some ⟨g, 0, none⟩) (k + 1 + 1) cap2)).run Try.prog wy.drew = .ok (.string o) wy.drew := ⟨hsb, pw_cell_below (below_drew (Below.refl _ _)) y6, hG, HCV.out _ hG⟩
        go_region_held3 (fun w' => w'.heap[sb]? = some (.cells (SC src l.length 1 1 1 fm) 47 (0, 0)) ∧ w'.cell? ⟨cb, 6, none⟩ = some (.slice (some ⟨g, 0, none⟩) (k + 1 + 1) cap2) ∧ w'.heap[g]? = some (.cells G 21 (0, 0)) ∧ (convert 43 9 (.slice (some ⟨g, 0, none⟩) (k + 1 + 1) cap2)).run Try.prog w' = .ok (.string o) w')
          (first | assumption | (go_split_ands; refine ⟨blk_drewN (blk_alloc (by assumption) _) _, ?_, ?_, HCV.out _ ?_⟩ <;> first | (apply pw_cell_below (pw_below_drewN (below_alloc (Below.refl _ _) _) _); assumption) | (apply blk_drewN; apply blk_alloc; assumption)))
          (first
            | (go_at_call 21; refine (pos_any (src := src) (len := l.length) (sp := 1) (col := 1) (off := 1) (fm := fm) ?_).mono ?_; (go_split_ands; assumption); rintro e w' ⟨rfl, nd, rfl⟩)
            | (go_at_call 20; refine (tag_any _ _ _ _).mono ?_; rintro e w' ⟨rfl, nd, rfl⟩)
            | (go_at_call 19; refine (addT_any _ (HY.out.two (pl := ⟨1, 1, 1, 0, 0⟩) _ _) (by omega)).mono ?_; rintro e w' ⟨rfl, gg, cap3, hZ, hk21⟩; have hGn : w'.heap[g]? = some (.cells G 21 (0, 0)) := hk21 _ _ (by apply blk_drewN; apply blk_alloc; apply blk_drewN; apply blk_alloc; exact hG); have hSn : w'.heap[sb]? = some (.cells (SC src l.length 1 1 1 fm) 47 (0, 0)) ∧ w'.cell? ⟨cb, 6, none⟩ = some (.slice (some ⟨g, 0, none⟩) (k + 1 + 1) cap2) ∧ w'.heap[g]? = some (.cells G 21 (0, 0)) ∧ (convert 43 9 (.slice (some ⟨g, 0, none⟩) (k + 1 + 1) cap2)).run Try.prog w' = .ok (.string o) w' := ⟨hZ.sc, (blk_cell hZ.cx 6).trans (by rw [← HOB.out]; rfl), hGn, HCV.out _ hGn⟩))
        have HZ := Aside0.mk hZ
        clear hZ hk21 hGn hSn ht hG hsb y6
        go_wp2_with fail
        have HZ2 : ∀ O, Aside0 (St w0 w1 (w'.alloc O).drew sb cb rb _ _ R ob2 (k + 1 + 1) (xs ++ [10]) _ 1 _ _) := fun O => ⟨HZ.out.more (below_drew (below_alloc (Below.refl _ _) O))⟩
        refine (column_any (k : Int) (HZ2 _).out (by omega) (by omega) (by omega) (by omega) (by omega)).mono ?_
        rintro e wf ⟨rfl, hF⟩
        have HF := Aside0.mk hF
        clear hF HZ2
        go_wp2_with fail
        refine (clear_any HF.out g cap2 HOB.out hgc).mono ?_
        rintro e wh ⟨rfl, ob3, hH⟩
        have HH := Aside0.mk hH
        clear hH
        go_wp2
        go_ret2
        exact ⟨rfl, by rw [HVV.out]; exact ⟨_, _, _, _, _, _, _, _, _, _, _, _, _, _, _, HH.out⟩⟩
      · have HX := hK
        have s14 : wr.cell? ⟨sb, 14, none⟩ = some (.int .i64 0) := blk_cell hK.out.sc 14
        have s15 : wr.cell? ⟨sb, 15, none⟩ = some (.int .i64 fm) := blk_cell hK.out.sc 15
        have d15 : decide (fm > 0) = true := by simpa using hfm2
        obtain ⟨wx, hwx⟩ : ∃ wx : World, wx = wr := ⟨_, rfl⟩
        subst hwx
        have x0 : wx.cell? ⟨cb, 0, none⟩ = some (.int .i64 1) := blk_cell HX.out.cx 0
        have SO := Aside0.mk fun q => source_any (w := wx.drewN q) l cap (k + 1) HR.out hcap (by omega) (by omega) (by rw [HSRC.out]; exact HX.out.cx) HX.out.row
        clear hK HAO hc
        go_wp2_with fail
        go_quiet ((go_at_call 18; refine Calls.quiet_of (SO.out _)))
        have HY := Aside0.mk (HX.out.more (pw_below_drewN (Below.refl _ _) nq))
        clear HX x0 SO s14 s15 d15 hcell
        generalize wx.drewN nq = wy at *
        obtain ⟨g, cap2, G, hob, hgc, hG, hcv⟩ := chars_of HY.out.own (by omega)
        have HOB := Aside0.mk hob
        have HCV := Aside0.mk hcv
        have y6 : wy.cell? ⟨cb, 6, none⟩ = some (.slice (some ⟨g, 0, none⟩) (k + 1) cap2) := by rw [← hob]; exact blk_cell HY.out.cx 6
        have hsb : wy.heap[sb]? = some (.cells (SC src l.length 1 1 1 fm) 47 (0, 0)) := HY.out.sc
        have hvl := HV.out
        clear HV
        generalize hvv : runesBytes (l.take (k + 1)) = v at *
        have HVV := Aside0.mk hvv
        have hrn := runesFrom_all v
        generalize runesAt v 0 = lv at hrn hvl
        have hcv2 := fun (wx : World) => run_runes_of_string (P := Try.prog) wx 9 43 21 v Try.underlying9 Try.underlying43 Try.underlying21 (by rw [hrn]; simp; omega)
        rw [hrn] at hcv2
        have HRN := Aside0.mk hrn
        clear hrn hvv
        generalize runesBytes xs = o at *
        clear hob hcv
        go_wp2
        have ht : wy.drew.heap[sb]? = some (.cells (SC src l.length 1 1 1 fm) 47 (0, 0)) ∧ wy.drew.cell? ⟨cb, 6, none⟩ = some (.slice (some ⟨g, 0, none⟩) (k + 1) cap2) ∧ wy.drew.heap[g]? = some (.cells G 21 (0, 0)) ∧ (convert 43 9 (.slice (some ⟨g, 0, none⟩) (k + 1) cap2)).run Try.prog wy.drew = .ok (.string o) wy.drew := ⟨hsb, pw_cell_below (below_drew (Below.refl _ _)) y6, hG, HCV.out _ hG⟩
        go_region_held3 (fun w' => w'.heap[sb]? = some (.cells (SC src l.length 1 1 1 fm) 47 (0, 0)) ∧ w'.cell? ⟨cb, 6, none⟩ = some (.slice (some ⟨g, 0, none⟩) (k + 1) cap2) ∧ w'.heap[g]? = some (.cells G 21 (0, 0)) ∧ (convert 43 9 (.slice (some ⟨g, 0, none⟩) (k + 1) cap2)).run Try.prog w' = .ok (.string o) w')
          (first | assumption | (go_split_ands; refine ⟨blk_drewN (blk_alloc (by assumption) _) _, ?_, ?_, HCV.out _ ?_⟩ <;> first | (apply pw_cell_below (pw_below_drewN (below_alloc (Below.refl _ _) _) _); assumption) | (apply blk_drewN; apply blk_alloc; assumption)))
          (first
            | (go_at_call 21; refine (pos_any (src := src) (len := l.length) (sp := 1) (col := 1) (off := 1) (fm := fm) ?_).mono ?_; (go_split_ands; assumption); rintro e w' ⟨rfl, nd, rfl⟩)
            | (go_at_call 20; refine (tag_any _ _ _ _).mono ?_; rintro e w' ⟨rfl, nd, rfl⟩)
            | (go_at_call 19; refine (addT_any _ (HY.out.two (pl := ⟨1, 1, 1, 0, 0⟩) _ _) (by omega)).mono ?_; rintro e w' ⟨rfl, gg, cap3, hZ, hk21⟩; have hGn : w'.heap[g]? = some (.cells G 21 (0, 0)) := hk21 _ _ (by apply blk_drewN; apply blk_alloc; apply blk_drewN; apply blk_alloc; exact hG); have hSn : w'.heap[sb]? = some (.cells (SC src l.length 1 1 1 fm) 47 (0, 0)) ∧ w'.cell? ⟨cb, 6, none⟩ = some (.slice (some ⟨g, 0, none⟩) (k + 1) cap2) ∧ w'.heap[g]? = some (.cells G 21 (0, 0)) ∧ (convert 43 9 (.slice (some ⟨g, 0, none⟩) (k + 1) cap2)).run Try.prog w' = .ok (.string o) w' := ⟨hZ.sc, (blk_cell hZ.cx 6).trans (by rw [← HOB.out]; rfl), hGn, HCV.out _ hGn⟩))
        have HZ := Aside0.mk hZ
        clear hZ hk21 hGn hSn ht hG hsb y6
        go_wp2_with fail
        have HZ2 : ∀ O, Aside0 (St w0 w1 (w'.alloc O).drew sb cb rb _ _ R ob (k + 1) xs _ 1 _ _) := fun O => ⟨HZ.out.more (below_drew (below_alloc (Below.refl _ _) O))⟩
        refine (column_any (k : Int) (HZ2 _).out (by omega) (by omega) (by omega) (by omega) (by omega)).mono ?_
        rintro e wf ⟨rfl, hF⟩
        have HF := Aside0.mk hF
        clear hF HZ2
        go_wp2_with fail
        refine (clear_any HF.out g cap2 HOB.out hgc).mono ?_
        rintro e wh ⟨rfl, ob3, hH⟩
        have HH := Aside0.mk hH
        clear hH
        go_wp2
        go_ret2
        exact ⟨rfl, by rw [HVV.out]; exact ⟨_, _, _, _, _, _, _, _, _, _, _, _, _, _, _, HH.out⟩⟩
    · obtain ⟨n1, n2, n3, n4, n5, n6⟩ := HP.out (k + 1) c (by omega) (by omega) hc
      have b1 : (c == 32) = false := beq_eq_false_iff_ne.2 n1
      have b2 : (c == 44) = false := beq_eq_false_iff_ne.2 n2
      have b3 : (c == 10) = false := beq_eq_false_iff_ne.2 n3
      have b4 : (c == 13) = false := beq_eq_false_iff_ne.2 n4
      have b5 : (c == 123) = false := beq_eq_false_iff_ne.2 n5
      have b6 : (c == 125) = false := beq_eq_false_iff_ne.2 n6
      have HAO := Aside0.mk (addO_any w0 w1 wr sb cb rb _ R src _ _ _ _ tk (k + 1) xs c 0 [] [] hK.out (by omega))
      clear hK n1 n2 n3 n4 n5 n6 hc
      go_wp2_with (go_at_call 16; refine HAO.out.mono ?_; rintro e wx ⟨rfl, ob2, nso2, hX⟩; have HX := Aside0.mk hX; clear hX)
      go_roundw
      case rel => exact ⟨k + 1, _, _, _, by omega, by go_num, HX⟩
      case measure => simp [intOf]; omega

end Go.Proofs.Ytgidfhpcobpinaa.TgW
