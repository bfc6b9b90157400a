/- Walks of FnGroupTokens: a colon goes to the key ahead of it. -/
import Derived.Test.YtgidfhpcobpinaaDoorGtPass5
import Derived.Deep.RegionHeld3
import Derived.Outline
namespace Go.Proofs.YtgidfhpcobpinaaDoor.GtW
open Go.RowKit Go.Proofs.YtgidfhpcobpinaaDoor.PFnGroupTokens Go.Proofs.YtgidfhpcobpinaaDoorW.PrintWords Go.Proofs.YtgidfhpcobpinaaDoorW.PrintLast Go.Proofs.YtgidfhpcobpinaaDoorW.PrintMore
open Go.Proofs.YtgidfhpcobpinaaDoor.AddM Go.Proofs.YtgidfhpcobpinaaDoor.GtM
attribute [local go_sem ↓] Go.wp_at_zero Go.wp_at_succ
set_option linter.unusedSimpArgs false
set_option linter.unusedVariables false

/-- What the loop knows, with the group ahead. -/
def Sk (B0 : Nat) (w0 w wr : World) (tb Y bs : List Nat) (k : Nat) (v : Value) : Prop :=
  ∃ obs out rem fo fr, St B0 w0 w wr tb Y (bs.drop k) v obs out rem fo fr ∧ obs.length ≤ k ∧ (k = 0 ∨ ∃ b, bs[k - 1]? = some b ∧ ((∃ obs', obs = obs' ++ [b]) ∨ ∃ a, Head wr b a ∧ TokAt wr a 5))

theorem Sk.start {B0 : Nat} {w0 w wr : World} {tb Y bs : List Nat} {v : Value} (h : Sx B0 w0 w wr tb Y bs v 0) : Sk B0 w0 w wr tb Y bs 0 v := by
  obtain ⟨obs, out, rem, fo, fr, hS, hl⟩ := h
  exact ⟨obs, out, rem, fo, fr, by simpa using hS, hl, .inl rfl⟩

theorem Sk.keep {B0 : Nat} {w0 w wr w2 : World} {tb Y bs : List Nat} {v : Value} {obs : List Nat} {out rem : List Tr} {fo fr : List Nat} {k b gg cap : Nat} {C : Obj} (h : St B0 w0 w wr tb Y (b :: bs.drop (k + 1)) v obs out rem fo fr) (hb : bs[k]? = some b) (hm : obs.length ≤ k) (hg : (wr.alloc C).grownBy w2 v.ownBlock) (hown : w2.ownsRow w.heap.size 93 1 (.slice (some ⟨gg, 0, none⟩) (obs.length + 1) cap) (obs.length + 1) (ptrs obs ++ [ptr (some b)]))
    (hat : v.ownBlock = some gg ∨ gg = wr.heap.size + 1) : Sk B0 w0 w w2 tb Y bs (k + 1) (.slice (some ⟨gg, 0, none⟩) (obs.length + 1) cap) := by
  obtain ⟨t, rem', f, fr', rfl, hS⟩ := h.keep hg hown hat
  exact ⟨_, _, _, _, _, hS, by rw [List.length_append]; simp; omega, .inr ⟨b, hb, .inl ⟨obs, rfl⟩⟩⟩

theorem Sk.merge {B0 : Nat} {w0 w wr w2 : World} {tb Y bs : List Nat} {v : Value} {obs : List Nat} {out rem : List Tr} {fo fr : List Nat} {k b b2 nb r g c a : Nat} (h : St B0 w0 w wr tb Y (b2 :: bs.drop (k + 1)) v (obs ++ [b]) out rem fo fr) (hm : (obs ++ [b]).length ≤ k) (hb2 : bs[k]? = some b2) (hH : Head wr b2 a) (hT : TokAt wr a 5) (hB : Below B0 w0 w2) (hsz : wr.heap.size ≤ w2.heap.size)
    (hkeep : ∀ j, j < wr.heap.size → j ≠ b → w2.heap[j]? = wr.heap[j]?) {x y : Option Nat} (hbx : wr.heap[b]? = some (.cells (nodeCells x y) 96 (0, 0))) (hb : w2.heap[b]? = some (.cells (nodeCells none (some g)) 96 (0, 0))) (hg : w2.heap[g]? = some (.cells (groupCells 11 r 2 c) 100 (0, 0)))
    (hr : w2.heap[r]? = some (.cells #[ptr (some nb), ptr (some b2)] 93 (0, 0))) (hn : w2.heap[nb]? = some (.cells (nodeCells x y) 96 (0, 0))) (h1 : wr.heap.size ≤ r) (h2 : wr.heap.size ≤ g) (h3 : wr.heap.size ≤ nb) :
    Sk B0 w0 w w2 tb Y bs (k + 1) v := by
  obtain ⟨⟨out2, rem2, fo2, fr2, hS⟩, a', ha, ha'⟩ := St.merge h hB hsz hkeep hb hg hr (hn.trans hbx.symm) h1 h2 h3
  obtain rfl := head_det hH ha
  refine ⟨_, _, _, _, _, hS, by omega, .inr ⟨b2, hb2, .inr ⟨a, ha', hT.frame fun j cs ty hty hj => ?_⟩⟩⟩
  rw [hkeep j (blk_lt hj) (blk_ne hj hbx hty)]
  exact hj

/-- The world behind a merge. -/
abbrev merged (w : World) (H b b2 : Nat) (x y : Value) : World :=
  (((((w.alloc (.cells #[x, y, .pointer none] 96)).setCell ⟨b, 0, none⟩ (.pointer none)).alloc (.cells #[.pointer (some ⟨H, 0, none⟩), .pointer (some ⟨b2, 0, none⟩)] 93)).alloc (.cells #[.int .i64 11, .slice (some ⟨H + 1, 0, none⟩) 2 2] 100)).setCell ⟨b, 1, none⟩ (.pointer (some ⟨H + 1 + 1, 0, none⟩)))

/-- What is known on the way. -/
structure M1 (B0 : Nat) (w0 w wx : World) (b : Nat) (bc nc : Array Value) (ex : Nat) : Prop where
  bel : Below B0 w0 wx
  size : wx.heap.size = w.heap.size + ex
  keep : ∀ j, j < w.heap.size → j ≠ b → wx.heap[j]? = w.heap[j]?
  bat : wx.heap[b]? = some (.cells bc 96 (0, 0))
  nat : wx.heap[w.heap.size]? = some (.cells nc 96 (0, 0))
  b0 : B0 ≤ b
  bw : b < w.heap.size
theorem M1.set {B0 : Nat} {w0 w wx : World} {b : Nat} {bc nc : Array Value} {ex : Nat} (h : M1 B0 w0 w wx b bc nc ex) (i : Nat) (u : Value) : M1 B0 w0 w (wx.setCell ⟨b, i, none⟩ u) b (bc.setIfInBounds i u) nc ex :=
  { bel := h.bel.setCell (p := ⟨b, i, none⟩) h.b0 u, size := by have := h.size; simp [World.setCell] at this ⊢; exact this
    keep := fun j hj hne => (Below.heap_setCell _ _ _ _ (by exact hne)).trans (h.keep j hj hne)
    bat := blk_set h.bat i u, nat := blk_far h.nat (p := ⟨b, i, none⟩) (by have := h.bw; show w.heap.size ≠ b; omega) u, b0 := h.b0, bw := h.bw }
theorem M1.alloc {B0 : Nat} {w0 w wx : World} {b : Nat} {bc nc : Array Value} {ex : Nat} (h : M1 B0 w0 w wx b bc nc ex) (O : Obj) : M1 B0 w0 w (wx.alloc O) b bc nc (ex + 1) :=
  { bel := h.bel.alloc (by have := h.size; have := h.b0; have := h.bw; omega) O, size := by have := h.size; simp [this]; omega
    keep := fun j hj hne => (Below.heap_alloc _ _ _ (by have := h.size; omega)).trans (h.keep j hj hne)
    bat := blk_alloc h.bat O, nat := blk_alloc h.nat O, b0 := h.b0, bw := h.bw }
theorem M1.drewN {B0 : Nat} {w0 w wx : World} {b : Nat} {bc nc : Array Value} {ex : Nat} (h : M1 B0 w0 w wx b bc nc ex) (q : Nat) : M1 B0 w0 w (wx.drewN q) b bc nc ex :=
  { bel := pw_below_drewN h.bel q, size := by simpa using h.size, keep := fun j hj hne => by simpa using h.keep j hj hne, bat := blk_drewN h.bat q, nat := blk_drewN h.nat q, b0 := h.b0, bw := h.bw }
theorem M1.start {B0 : Nat} {w0 w : World} {b : Nat} {nc : Array Value} (hB : Below B0 w0 w) (h0 : B0 ≤ b) (hb : w.heap[b]? = some (.cells nc 96 (0, 0))) : M1 B0 w0 w (w.alloc (.cells nc 96)) b nc nc 1 :=
  { bel := hB.alloc (by have := blk_lt hb; omega) _, size := by simp, keep := fun j hj _ => Below.heap_alloc _ _ _ hj, bat := blk_alloc hb _, nat := heap_alloc_new w _, b0 := h0, bw := blk_lt hb }

theorem merged_facts {B0 : Nat} {w0 w : World} {b b2 : Nat} {x y : Option Nat} (hB : Below B0 w0 w) (h0 : B0 ≤ b) (hb : w.heap[b]? = some (.cells (nodeCells x y) 96 (0, 0))) {w2 : World} (hw : w2 = (merged w w.heap.size b b2 (ptr x) (ptr y)).drew) :
    Below B0 w0 w2 ∧ w.heap.size ≤ w2.heap.size ∧ (∀ j, j < w.heap.size → j ≠ b → w2.heap[j]? = w.heap[j]?) ∧
    w2.heap[b]? = some (.cells (nodeCells none (some (w.heap.size + 1 + 1))) 96 (0, 0)) ∧ w2.heap[w.heap.size + 1 + 1]? = some (.cells (groupCells 11 (w.heap.size + 1) 2 2) 100 (0, 0)) ∧
    w2.heap[w.heap.size + 1]? = some (.cells #[ptr (some w.heap.size), ptr (some b2)] 93 (0, 0)) ∧ w2.heap[w.heap.size]? = some (.cells (nodeCells x y) 96 (0, 0)) := by
  have hlt := blk_lt hb
  have A3 := (M1.start hB h0 hb).set 0 (.pointer none)
  have A4 := A3.alloc (.cells #[.pointer (some ⟨w.heap.size, 0, none⟩), .pointer (some ⟨b2, 0, none⟩)] 93)
  have A5 := A4.alloc (.cells #[.int .i64 11, .slice (some ⟨w.heap.size + 1, 0, none⟩) 2 2] 100)
  have A6 := (A5.set 1 (.pointer (some ⟨w.heap.size + 1 + 1, 0, none⟩))).drewN 1
  have R := blk_drew (blk_far (blk_alloc (blk_top (o := .cells #[.pointer (some ⟨w.heap.size, 0, none⟩), .pointer (some ⟨b2, 0, none⟩)] 93) A3.size) (.cells #[.int .i64 11, .slice (some ⟨w.heap.size + 1, 0, none⟩) 2 2] 100)) (p := ⟨b, 1, none⟩) (by show w.heap.size + 1 ≠ b; omega) (.pointer (some ⟨w.heap.size + 1 + 1, 0, none⟩)))
  have G := blk_drew (blk_far (blk_top (o := .cells #[.int .i64 11, .slice (some ⟨w.heap.size + 1, 0, none⟩) 2 2] 100) A4.size) (p := ⟨b, 1, none⟩) (by show w.heap.size + 1 + 1 ≠ b; omega) (.pointer (some ⟨w.heap.size + 1 + 1, 0, none⟩)))
  subst hw
  exact ⟨A6.bel, Nat.le_trans (Nat.le_add_right _ _) (Nat.le_of_eq A6.size.symm), A6.keep, A6.bat, G, R, A6.nat⟩

set_option maxRecDepth 100000 in
set_option maxHeartbeats 4000000 in
theorem pass58 {B0 : Nat} {w0 w : World} {tb Y bs : List Nat} {r c : Nat} {out : List Tr} {F : List Nat} (h : Lst B0 w0 w tb Y bs r c out F) (hn : bs.length ≤ 1000) :
    Calls Tryd.prog 58 #[.slice (some ⟨r, 0, none⟩) bs.length c] w (PassPost B0 w0 tb Y bs.length) := by
  have HL := Aside0.mk h
  clear h
  have hmk := make_ptrs bs.length hn
  obtain ⟨i0, hi0, hz0, hz1, hz2⟩ := info_parts info93
  have HS0 := Aside0.mk (Sk.start (HL.out.start (below_alloc (Below.refl _ _) _) (by unfold maxLen; omega) (heap_alloc_new w (.cells (Array.replicate bs.length (.pointer none)) 93))))
  go_enter Tryd.func58, Tryd.ntmps58
  go_wp2
  clear hmk
  go_loopw [4, 5, 6, 7, 8] (fun v i _ _ _ wr => ∃ k : Nat, k ≤ bs.length ∧ i = .int .i64 k ∧ Aside0 (Sk B0 w0 w wr tb Y bs k v)) (fun _ i _ _ _ _ => bs.length - (intOf i).toNat)
  case atStart => exact ⟨0, by omega, rfl, HS0⟩
  case round =>
    obtain ⟨k, hk, rfl, ⟨obs, out, rem, fo, fr, hS, hm, hlast⟩⟩ := hrel
    clear HS0
    by_cases hlt : k < bs.length
    · obtain ⟨b, hb, hd⟩ := drop_cons hlt
      rw [hd] at hS
      obtain ⟨a, z, hH, hT⟩ := St.head hS HL.out.tok (j := 0) (b := b) rfl
      have rc : wr.cell? ⟨r, k, none⟩ = some (.pointer (some ⟨b, 0, none⟩)) := (St.row hS HL.out.row).cell hb
      have TL := Aside0.mk (tells hH hT)
      have HS := Aside0.mk hS
      have hsz := hS.wz
      have HB := Aside0.mk hb
      have HH := Aside0.mk hH
      have HTT := Aside0.mk hT
      have HLA := Aside0.mk hlast
      clear hb hS hH hT hd hlast
      by_cases h5 : z = 5
      · subst h5
        have HE := Aside0.mk fun (m : ByteArray) => err_new (m := m) (TL.out.tok _ (Below.refl _ _)) rfl
        have HBE : Aside0 (∀ O, Below B0 w0 (wr.alloc O)) := ⟨fun O => HS.out.bel.alloc (by have := HS.out.b0; omega) O⟩
        by_cases h0 : k = 0
        · subst h0
          go_wp2_with (first | (go_at_call 49; with_reducible refine Calls.mono (TL.out.typ _ ?_) ?_; (repeat (first | assumption | exact Below.refl _ _ | apply below_alloc | apply pw_below_drewN)); rintro e w' ⟨rfl, rfl⟩) | (go_at_call 51; with_reducible refine Calls.mono (TL.out.raw _ ?_) ?_; (repeat (first | assumption | exact Below.refl _ _ | apply below_alloc | apply pw_below_drewN)); rintro e w' ⟨rfl, rfl⟩) | (go_at_call 52; refine (syntax_any _ _ _).mono ?_; rintro e w' ⟨rfl, rfl⟩))
          go_ret2
          exact .bad _ rfl (HE.out _) (HBE.out _) (by omega)
        · obtain ⟨bp, hbp, hcase⟩ := HLA.out.resolve_left h0
          have hp : (∃ ap zp, Head wr bp ap ∧ TokAt wr ap zp ∧ (zp ≠ 5 → ∃ obs', obs = obs' ++ [bp])) := by
            rcases hcase with ⟨obs', rfl⟩ | ⟨ap, h1, h2⟩
            · obtain ⟨⟨ap, zp, h1, h2⟩, _⟩ := St.head_last HS.out HL.out.tok
              exact ⟨ap, zp, h1, h2, fun _ => ⟨obs', rfl⟩⟩
            · exact ⟨ap, 5, h1, h2, fun h => absurd rfl h⟩
          obtain ⟨ap, zp, hHp, hTp, hop⟩ := hp
          have rcp : wr.cell? ⟨r, k - 1, none⟩ = some (.pointer (some ⟨bp, 0, none⟩)) := (St.row HS.out HL.out.row).cell hbp
          have TLP := Aside0.mk (tells hHp hTp)
          have HOP := Aside0.mk hop
          have e0 : ((k : Int) == 0) = false := beq_eq_false_iff_ne.2 (by omega)
          have k0 : (0 : Int) ≤ (k : Int) - 1 := by omega
          have k1 : (k : Int) - 1 < (bs.length : Int) := by omega
          have kn : ((k : Int) - 1).toNat = k - 1 := by omega
          clear hbp hcase hHp hTp hop h0
          go_wp2_with (go_at_call 49; with_reducible refine Calls.mono (TL.out.typ _ ?_) ?_; (repeat (first | assumption | exact Below.refl _ _ | apply below_alloc | apply pw_below_drewN)); rintro e w' ⟨rfl, rfl⟩)
          refine Calls.mono (TLP.out.nokey _ (Below.refl _ _)) ?_
          rintro e w' ⟨q, rfl, rfl, hq⟩
          cases q
          · obtain ⟨obs', rfl⟩ := HOP.out (fun h => by cases hq h)
            obtain ⟨_, hxy, hB0⟩ := St.head_last HS.out HL.out.tok
            rcases hxy with ⟨ax, hxy⟩ | ⟨gx, hxy⟩
            · have p0 : wr.cell? ⟨bp, 0, none⟩ = some (.pointer (some ⟨ax, 0, none⟩)) := blk_cell hxy 0
              have p1 : wr.cell? ⟨bp, 1, none⟩ = some (.pointer none) := blk_cell hxy 1
              have A1 := M1.start HS.out.bel hB0 hxy
              have A3 := A1.set 0 (.pointer none)
              have A4 := A3.alloc (.cells #[.pointer (some ⟨wr.heap.size, 0, none⟩), .pointer (some ⟨b, 0, none⟩)] 93)
              have A5 := A4.alloc (.cells #[.int .i64 11, .slice (some ⟨wr.heap.size + 1, 0, none⟩) 2 2] 100)
              have f0 : (wr.alloc (.cells #[.pointer (some ⟨ax, 0, none⟩), .pointer none, .pointer none] 96)).frozen? ⟨bp, 0, none⟩ = false := blk_frozen A1.bat 0
              have g0 : (wr.alloc (.cells #[.pointer (some ⟨ax, 0, none⟩), .pointer none, .pointer none] 96)).cell? ⟨bp, 0, none⟩ = some (.pointer (some ⟨ax, 0, none⟩)) := blk_cell A1.bat 0
              have f1 : ((((wr.alloc (.cells #[.pointer (some ⟨ax, 0, none⟩), .pointer none, .pointer none] 96)).setCell ⟨bp, 0, none⟩ (.pointer none)).alloc (.cells #[.pointer (some ⟨wr.heap.size, 0, none⟩), .pointer (some ⟨b, 0, none⟩)] 93)).alloc (.cells #[.int .i64 11, .slice (some ⟨wr.heap.size + 1, 0, none⟩) 2 2] 100)).frozen? ⟨bp, 1, none⟩ = false := blk_frozen A5.bat 1
              have g1 : ((((wr.alloc (.cells #[.pointer (some ⟨ax, 0, none⟩), .pointer none, .pointer none] 96)).setCell ⟨bp, 0, none⟩ (.pointer none)).alloc (.cells #[.pointer (some ⟨wr.heap.size, 0, none⟩), .pointer (some ⟨b, 0, none⟩)] 93)).alloc (.cells #[.int .i64 11, .slice (some ⟨wr.heap.size + 1, 0, none⟩) 2 2] 100)).cell? ⟨bp, 1, none⟩ = some (.pointer none) := blk_cell A5.bat 1
              have HF : Aside0 (Sk B0 w0 w (merged wr wr.heap.size bp b (.pointer (some ⟨ax, 0, none⟩)) (.pointer none)).drew tb Y bs (k + 1) u4) := ⟨by
                obtain ⟨m1, m2, m3, m4, m5, m6, m7⟩ := merged_facts (b2 := b) HS.out.bel hB0 hxy rfl
                exact Sk.merge HS.out hm HB.out HH.out HTT.out m1 m2 m3 hxy m4 m5 m6 m7 (by omega) (by omega) (by omega)⟩
              clear hq hxy HLA HOP A1 A3 A4 A5
              go_wp2_with fail
              go_region_held3 (fun w' => w'.cell? ⟨bp, 0, none⟩ = some (.pointer (some ⟨ax, 0, none⟩)) ∧ w'.cell? ⟨bp, 1, none⟩ = some (.pointer none)) (go_keep) (fail)
              go_wp2_with fail
              go_roundw
              case rel => exact ⟨k + 1, by omega, by go_num, HF⟩
              case measure => simp [intOf]; omega
            · have p0 : wr.cell? ⟨bp, 0, none⟩ = some (.pointer none) := blk_cell hxy 0
              have p1 : wr.cell? ⟨bp, 1, none⟩ = some (.pointer (some ⟨gx, 0, none⟩)) := blk_cell hxy 1
              have A1 := M1.start HS.out.bel hB0 hxy
              have A3 := A1.set 0 (.pointer none)
              have A4 := A3.alloc (.cells #[.pointer (some ⟨wr.heap.size, 0, none⟩), .pointer (some ⟨b, 0, none⟩)] 93)
              have A5 := A4.alloc (.cells #[.int .i64 11, .slice (some ⟨wr.heap.size + 1, 0, none⟩) 2 2] 100)
              have f0 : (wr.alloc (.cells #[.pointer none, .pointer (some ⟨gx, 0, none⟩), .pointer none] 96)).frozen? ⟨bp, 0, none⟩ = false := blk_frozen A1.bat 0
              have g0 : (wr.alloc (.cells #[.pointer none, .pointer (some ⟨gx, 0, none⟩), .pointer none] 96)).cell? ⟨bp, 0, none⟩ = some (.pointer none) := blk_cell A1.bat 0
              have f1 : ((((wr.alloc (.cells #[.pointer none, .pointer (some ⟨gx, 0, none⟩), .pointer none] 96)).setCell ⟨bp, 0, none⟩ (.pointer none)).alloc (.cells #[.pointer (some ⟨wr.heap.size, 0, none⟩), .pointer (some ⟨b, 0, none⟩)] 93)).alloc (.cells #[.int .i64 11, .slice (some ⟨wr.heap.size + 1, 0, none⟩) 2 2] 100)).frozen? ⟨bp, 1, none⟩ = false := blk_frozen A5.bat 1
              have g1 : ((((wr.alloc (.cells #[.pointer none, .pointer (some ⟨gx, 0, none⟩), .pointer none] 96)).setCell ⟨bp, 0, none⟩ (.pointer none)).alloc (.cells #[.pointer (some ⟨wr.heap.size, 0, none⟩), .pointer (some ⟨b, 0, none⟩)] 93)).alloc (.cells #[.int .i64 11, .slice (some ⟨wr.heap.size + 1, 0, none⟩) 2 2] 100)).cell? ⟨bp, 1, none⟩ = some (.pointer (some ⟨gx, 0, none⟩)) := blk_cell A5.bat 1
              have HF : Aside0 (Sk B0 w0 w (merged wr wr.heap.size bp b (.pointer none) (.pointer (some ⟨gx, 0, none⟩))).drew tb Y bs (k + 1) u4) := ⟨by
                obtain ⟨m1, m2, m3, m4, m5, m6, m7⟩ := merged_facts (b2 := b) HS.out.bel hB0 hxy rfl
                exact Sk.merge HS.out hm HB.out HH.out HTT.out m1 m2 m3 hxy m4 m5 m6 m7 (by omega) (by omega) (by omega)⟩
              clear hq hxy HLA HOP A1 A3 A4 A5
              go_wp2_with fail
              go_region_held3 (fun w' => w'.cell? ⟨bp, 0, none⟩ = some (.pointer none) ∧ w'.cell? ⟨bp, 1, none⟩ = some (.pointer (some ⟨gx, 0, none⟩))) (go_keep) (fail)
              go_wp2_with fail
              go_roundw
              case rel => exact ⟨k + 1, by omega, by go_num, HF⟩
              case measure => simp [intOf]; omega
          · go_wp2_with (first | (go_at_call 51; with_reducible refine Calls.mono (TL.out.raw _ ?_) ?_; (repeat (first | assumption | exact Below.refl _ _ | apply below_alloc | apply pw_below_drewN)); rintro e w' ⟨rfl, rfl⟩) | (go_at_call 52; refine (syntax_any _ _ _).mono ?_; rintro e w' ⟨rfl, rfl⟩))
            go_ret2
            exact .bad _ rfl (HE.out _) (HBE.out _) (by omega)
      · have b5 : (z == 5) = false := beq_eq_false_iff_ne.2 h5
        clear h5
        go_wp2_with (first | (go_at_call 49; with_reducible refine Calls.mono (TL.out.typ _ ?_) ?_; (repeat (first | assumption | exact Below.refl _ _ | apply below_alloc | apply pw_below_drewN)); rintro e w' ⟨rfl, rfl⟩) | (at_builtin; refine wpList_append_lies _ (by rfl) _ _ _ (by rfl) w.heap.size 93 i0 _ 1 8 Tryd.underlying57 hi0 hz0 hz1 hz2 rfl (by omega) u4 obs.length _ (by rfl) (own_alloc (HS.out.own) _) ⟨wr.heap.size, 0, none⟩ 1 1 [.pointer (some ⟨b, 0, none⟩)] (by rfl) (by rfl) (World.news_of_block (cs := #[.pointer (some ⟨b, 0, none⟩)]) (t := 93) (fr := (0, 0)) (blk_top (by simp))) (by simp [Value.oneCell']) (by omega) (by unfold maxLen; omega) (by omega) (by simp; omega) (wr.heap.size + 1) (by simp) ?_; intro gg cap w2 hown2 hgrow hat hlt2; have HF := Aside0.mk (Sk.keep HS.out HB.out hm hgrow hown2 (by simpa using hat)); clear hown2 hgrow hat hlt2))
        go_roundw
        case rel => exact ⟨k + 1, by omega, by go_num, HF⟩
        case measure => simp [intOf]; omega
    · obtain rfl : k = bs.length := by omega
      have HF : Aside0 (Done B0 w0 tb Y bs.length u4 wr) := ⟨Sx.done ⟨obs, out, rem, fo, fr, by rwa [List.drop_of_length_le (Nat.le_refl _)] at hS, hm⟩ (Nat.le_refl _) HL.out.tok⟩
      clear hS hlast
      go_wp2
      go_ret2
      exact .ok _ rfl HF.out

end Go.Proofs.YtgidfhpcobpinaaDoor.GtW
