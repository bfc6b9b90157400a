/- Walks of FnPartAdded: one token is added to a list. -/
import Derived.Test.YtbicbdcbbeifhaaAddWalk1
namespace Go.Proofs.Ytbicbdcbbeifhaa.AddW
open Go.RowKit Go.Proofs.Ytbicbdcbbeifhaa.PFnPartAdded Go.Proofs.YtbicbdcbbeifhaaW.PrintWords Go.Proofs.YtbicbdcbbeifhaaW.PrintLast Go.Proofs.YtbicbdcbbeifhaaW.PrintMore
open Go.Proofs.Ytbicbdcbbeifhaa.AddM
attribute [local go_sem ↓] Go.wp_at_zero Go.wp_at_succ
set_option linter.unusedSimpArgs false
set_option linter.unusedVariables false

theorem info49a : (Try.prog.info? 49).map (fun i => (i.zero, i.size, i.bytes)) = some (some (.pointer none), 1, 8) := by kernel_rfl

/-- What one call of add leaves: the list is one longer, and so many blocks have been written. -/
structure Grew (B : Nat) (w0 w w' : World) (q k : Nat) (v : Value) (xs : List Value) (x : Value) (S : Nat → Prop) : Prop where
  bel : Below B w0 w'
  kept : Kept w w' (fun i => S i ∨ i = q ∨ some i = v.ownBlock)
  lst : ∃ gg cap, w'.heap[q]? = some (.cells #[.slice (some ⟨gg, 0, none⟩) (k + 1) cap] 47 (0, 0)) ∧ w'.ownsRow B 49 1 (.slice (some ⟨gg, 0, none⟩) (k + 1) cap) (k + 1) (xs ++ [x]) ∧ (v.ownBlock = some gg ∨ w.heap.size ≤ gg)

theorem grew_first {B : Nat} {w0 w w1 : World} {q gg cap : Nat} {C : Obj} {x : Value} (HB : Below B w0 w) (hBw : B ≤ w.heap.size) (hBq : B ≤ q) (hq : w.heap[q]? = some (.cells #[.slice none 0 0] 47 (0, 0)))
    (hown : w1.ownsRow B 49 1 (.slice (some ⟨gg, 0, none⟩) (0 + 1) cap) (0 + 1) ([] ++ [x])) (hg : (w.alloc C).grownBy w1 (Value.slice none 0 0).ownBlock) (hat : (Value.slice none 0 0).ownBlock = some gg ∨ gg = w.heap.size + 1) :
    Grew B w0 w (w1.setCell ⟨q, 0, none⟩ (.slice (some ⟨gg, 0, none⟩) 1 cap)) q 0 (.slice none 0 0) [] x (fun _ => False) := by
  have hq1 : w1.heap[q]? = some (.cells #[.slice none 0 0] 47 (0, 0)) := blk_grown (blk_alloc hq C) hg (by simp [Value.ownBlock])
  have hb1 : Below B w0 w1 := pw_below_grown (HB.alloc hBw C) none (by simp; omega) hg (fun k hk => by cases hk)
  have hgg : gg = w.heap.size + 1 := hat.resolve_left (by simp [Value.ownBlock])
  refine ⟨hb1.setCell hBq _, ⟨?_, ?_⟩, gg, cap, ?_, ?_, .inr (by omega)⟩
  · have := hg.size
    simp [World.setCell] at this ⊢
    omega
  · intro i hi hn
    have hiq : i ≠ q := fun e => hn (.inr (.inl e))
    rw [Below.heap_setCell _ _ _ _ (by exact hiq), hg.block i (by simp; omega) (by simp [Value.ownBlock]), Below.heap_alloc _ _ _ hi]
  · have := blk_set hq1 0 (.slice (some ⟨gg, 0, none⟩) 1 cap)
    simpa using this
  · refine own_move hown (fun k hk => ?_)
    have : gg = k := by simpa [Value.ownBlock] using hk
    subst this
    exact Below.heap_setCell _ _ _ _ (by show gg ≠ q; have := blk_lt hq; omega)

set_option maxRecDepth 100000 in
set_option maxHeartbeats 1000000 in
theorem add_first (B : Nat) (w0 w : World) (q b : Nat) (HB : Below B w0 w) (hBw : B ≤ w.heap.size) (hBq : B ≤ q) (hq : w.heap[q]? = some (.cells #[.slice none 0 0] 47 (0, 0))) :
    Calls Try.prog 32 #[.pointer (some ⟨q, 0, none⟩), .pointer (some ⟨b, 0, none⟩)] w fun e w' => e = .returned (.tuple #[]) ∧ Grew B w0 w w' q 0 (.slice none 0 0) [] (ptr (some b)) (fun _ => False) := by
  have hc : w.cell? ⟨q, 0, none⟩ = some (.slice none 0 0) := blk_cell hq 0
  have hfz : w.frozen? ⟨q, 0, none⟩ = false := blk_frozen hq 0
  have hql := blk_lt hq
  have HQ := Aside0.mk hq
  clear hq
  obtain ⟨i0, hi0, hz0, hz1, hz2⟩ := info_parts info49a
  go_enter Try.func32, Try.ntmps32
  go_wp2_with (at_builtin; refine wpList_append_lies _ (by rfl) _ _ _ (by rfl) B 49 i0 _ 1 8 Try.underlying47 hi0 hz0 hz1 hz2 rfl (by omega) (.slice none 0 0) 0 [] (by rfl) (World.ownsRow_nil _ _ _ _) ⟨w.heap.size, 0, none⟩ 1 1 [.pointer (some ⟨b, 0, none⟩)] (by rfl) (by rfl) (World.news_of_block (cs := #[.pointer (some ⟨b, 0, none⟩)]) (t := 49) (fr := (0, 0)) (blk_top (by simp))) (by simp [Value.oneCell']) (by omega) (by unfold maxLen; omega) (by omega) (by simp; omega) (w.heap.size + 1) (by simp) ?_; intro gg cap w1 hown1 hgrow hat hlt1; have HG := Aside0.mk (grew_first (x := .pointer (some ⟨b, 0, none⟩)) HB hBw hBq HQ.out hown1 hgrow hat); have hq1 := Aside0.mk (blk_grown (blk_alloc HQ.out _) hgrow (by simp [Value.ownBlock])); have hcq : w1.cell? ⟨q, 0, none⟩ = some (.slice none 0 0) := blk_cell hq1.out 0; have hfq : w1.frozen? ⟨q, 0, none⟩ = false := blk_frozen hq1.out 0; clear hown1 hgrow hat)
  go_end0
  exact ⟨rfl, HG.out⟩

theorem own_far {w : World} {base e size n : Nat} {v : Value} {xs : List Value} {p : Addr} {cs : Array Value} {t : TypeId} (h : w.ownsRow base e size v n xs) (hq : w.heap[p.block]? = some (.cells cs t (0, 0))) (hne : e ≠ t) (u : Value) : (w.setCell p u).ownsRow base e size v n xs :=
  own_move h fun k hk => Below.heap_setCell w p u k fun e' => own_ne_blk h hq hne (by rw [← e']; exact hk.symm)

theorem grew_next {B : Nat} {w0 w w1 : World} {q b b' g m cap gg cap' : Nat} {xs : List Value} {cs cs' : Array Value} {C : Obj} {x : Value} (HB : Below B w0 w) (hBw : B ≤ w.heap.size) (hBq : B ≤ q) (hBb : B ≤ b) (hBb' : B ≤ b')
    (hq : w.heap[q]? = some (.cells #[.slice (some ⟨g, 0, none⟩) (m + 1) cap] 47 (0, 0))) (hown : w.ownsRow B 49 1 (.slice (some ⟨g, 0, none⟩) (m + 1) cap) (m + 1) xs)
    (hb : w.heap[b]? = some (.cells cs 54 (0, 0))) (hb' : w.heap[b']? = some (.cells cs' 54 (0, 0))) (hne : b ≠ b') (u u' : Value)
    (hown1 : w1.ownsRow B 49 1 (.slice (some ⟨gg, 0, none⟩) (m + 1 + 1) cap') (m + 1 + 1) (xs ++ [x]))
    (hg : (((w.setCell ⟨b', 7, none⟩ u').setCell ⟨b, 8, none⟩ u).alloc C).grownBy w1 (Value.slice (some ⟨g, 0, none⟩) (m + 1) cap).ownBlock) (hat : (Value.slice (some ⟨g, 0, none⟩) (m + 1) cap).ownBlock = some gg ∨ gg = w.heap.size + 1) :
    w1.heap[q]? = some (.cells #[.slice (some ⟨g, 0, none⟩) (m + 1) cap] 47 (0, 0)) ∧
    Grew B w0 w (w1.setCell ⟨q, 0, none⟩ (.slice (some ⟨gg, 0, none⟩) (m + 1 + 1) cap')) q (m + 1) (.slice (some ⟨g, 0, none⟩) (m + 1) cap) xs x (fun i => i = b ∨ i = b') ∧
      (w1.setCell ⟨q, 0, none⟩ (.slice (some ⟨gg, 0, none⟩) (m + 1 + 1) cap')).heap[b]? = some (.cells (cs.setIfInBounds 8 u) 54 (0, 0)) ∧ (w1.setCell ⟨q, 0, none⟩ (.slice (some ⟨gg, 0, none⟩) (m + 1 + 1) cap')).heap[b']? = some (.cells (cs'.setIfInBounds 7 u') 54 (0, 0)) := by
  have qb : q ≠ b := blk_ne hq hb (by decide)
  have qb' : q ≠ b' := blk_ne hq hb' (by decide)
  have nq : some q ≠ (Value.slice (some ⟨g, 0, none⟩) (m + 1) cap).ownBlock := own_ne_blk hown hq (by decide)
  have nb : some b ≠ (Value.slice (some ⟨g, 0, none⟩) (m + 1) cap).ownBlock := own_ne_blk hown hb (by decide)
  have nb' : some b' ≠ (Value.slice (some ⟨g, 0, none⟩) (m + 1) cap).ownBlock := own_ne_blk hown hb' (by decide)
  have gq : q ≠ g := fun e => nq (by rw [e]; rfl)
  have lq := blk_lt hq
  have lb := blk_lt hb
  have lb' := blk_lt hb'
  have hsz : ((w.setCell ⟨b', 7, none⟩ u').setCell ⟨b, 8, none⟩ u).heap.size = w.heap.size := by simp [World.setCell]
  have hq1 : w1.heap[q]? = some (.cells #[.slice (some ⟨g, 0, none⟩) (m + 1) cap] 47 (0, 0)) := blk_grown (blk_alloc (blk_far (blk_far hq (p := ⟨b', 7, none⟩) qb' u') (p := ⟨b, 8, none⟩) qb u) C) hg nq
  have hb1 : w1.heap[b]? = some (.cells (cs.setIfInBounds 8 u) 54 (0, 0)) := blk_grown (blk_alloc (blk_set (blk_far hb (p := ⟨b', 7, none⟩) hne u') 8 u) C) hg nb
  have hb1' : w1.heap[b']? = some (.cells (cs'.setIfInBounds 7 u') 54 (0, 0)) := blk_grown (blk_alloc (blk_far (blk_set hb' 7 u') (p := ⟨b, 8, none⟩) (Ne.symm hne) u) C) hg nb'
  have hbel1 : Below B w0 w1 := pw_below_grown (((HB.setCell (p := ⟨b', 7, none⟩) hBb' u').setCell (p := ⟨b, 8, none⟩) hBb u).alloc (by rw [hsz]; exact hBw) C) _ (by simp [World.setCell]; omega) hg (fun k hk => own_base hown k hk)
  have hsz1 : w.heap.size + 1 ≤ w1.heap.size := by have := hg.size; simp [World.setCell] at this; exact this
  have ggq : gg ≠ q := by
    rcases hat with hat | hat
    · have : g = gg := by simpa [Value.ownBlock] using hat
      omega
    · omega
  refine ⟨hq1, ⟨hbel1.setCell hBq _, ⟨?_, ?_⟩, gg, cap', ?_, ?_, ?_⟩, ?_, ?_⟩
  · simp [World.setCell]; omega
  · intro i hi hn
    have hiq : i ≠ q := fun e => hn (.inr (.inl e))
    have hib : i ≠ b := fun e => hn (.inl (.inl e))
    have hib' : i ≠ b' := fun e => hn (.inl (.inr e))
    have hio : some i ≠ (Value.slice (some ⟨g, 0, none⟩) (m + 1) cap).ownBlock := fun e => hn (.inr (.inr e))
    rw [Below.heap_setCell _ _ _ _ (by exact hiq), hg.block i (by simp [World.setCell]; omega) hio, Below.heap_alloc _ _ _ (by rw [hsz]; exact hi), Below.heap_setCell _ _ _ _ (by exact hib), Below.heap_setCell _ _ _ _ (by exact hib')]
  · have := blk_set hq1 0 (.slice (some ⟨gg, 0, none⟩) (m + 1 + 1) cap')
    simpa using this
  · refine own_move hown1 (fun k hk => ?_)
    have : gg = k := by simpa [Value.ownBlock] using hk
    subst this
    exact Below.heap_setCell _ _ _ _ ggq
  · rcases hat with hat | hat
    · exact .inl hat
    · exact .inr (by omega)
  · exact blk_far hb1 (p := ⟨q, 0, none⟩) (Ne.symm qb) _
  · exact blk_far hb1' (p := ⟨q, 0, none⟩) (Ne.symm qb') _

set_option maxRecDepth 100000 in
set_option maxHeartbeats 1000000 in
theorem add_next (B : Nat) (w0 w : World) (q b b' g m cap : Nat) (xs : List Value) (cs cs' : Array Value) (HB : Below B w0 w) (hBw : B ≤ w.heap.size) (hBq : B ≤ q) (hBb : B ≤ b) (hBb' : B ≤ b') (hm : m ≤ 1000000)
    (hq : w.heap[q]? = some (.cells #[.slice (some ⟨g, 0, none⟩) (m + 1) cap] 47 (0, 0))) (hown : w.ownsRow B 49 1 (.slice (some ⟨g, 0, none⟩) (m + 1) cap) (m + 1) xs) (hx : xs[m]? = some (ptr (some b')))
    (hb : w.heap[b]? = some (.cells cs 54 (0, 0))) (hb' : w.heap[b']? = some (.cells cs' 54 (0, 0))) (hs : cs.size = 9) (hs' : cs'.size = 9) (hne : b ≠ b') :
    Calls Try.prog 32 #[.pointer (some ⟨q, 0, none⟩), .pointer (some ⟨b, 0, none⟩)] w fun e w' => e = .returned (.tuple #[]) ∧ Grew B w0 w w' q (m + 1) (.slice (some ⟨g, 0, none⟩) (m + 1) cap) xs (ptr (some b)) (fun i => i = b ∨ i = b') ∧
      w'.heap[b]? = some (.cells (cs.setIfInBounds 8 (ptr (some b'))) 54 (0, 0)) ∧ w'.heap[b']? = some (.cells (cs'.setIfInBounds 7 (ptr (some b))) 54 (0, 0)) := by
  have hc : w.cell? ⟨q, 0, none⟩ = some (.slice (some ⟨g, 0, none⟩) (m + 1) cap) := blk_cell hq 0
  have hfz : w.frozen? ⟨q, 0, none⟩ = false := blk_frozen hq 0
  have hlast : w.cell? ⟨g, m, none⟩ = some (.pointer (some ⟨b', 0, none⟩)) := by
    have := hown.cells (g := g) rfl m _ hx
    rwa [add_plain] at this
  have ht0 : (((m : Int) + 1) == 0) = false := by rw [beq_eq_false_iff_ne]; omega
  have hu7 : cs'[7]? = some (cs'[7]'(by omega)) := Array.getElem?_eq_getElem _
  have hu8 : cs[8]? = some (cs[8]'(by omega)) := Array.getElem?_eq_getElem _
  have c7 : w.cell? ⟨b', 7, none⟩ = some (cs'[7]'(by omega)) := (blk_cell hb' 7).trans hu7
  have f7 : w.frozen? ⟨b', 7, none⟩ = false := blk_frozen hb' 7
  generalize cs'[7]'(by omega) = y7 at c7 hu7
  have hb1 := blk_far hb (p := ⟨b', 7, none⟩) hne (.pointer (some ⟨b, 0, none⟩))
  have c8 : (w.setCell ⟨b', 7, none⟩ (.pointer (some ⟨b, 0, none⟩))).cell? ⟨b, 8, none⟩ = some (cs[8]'(by omega)) := (blk_cell hb1 8).trans hu8
  have f8 : (w.setCell ⟨b', 7, none⟩ (.pointer (some ⟨b, 0, none⟩))).frozen? ⟨b, 8, none⟩ = false := blk_frozen hb1 8
  generalize cs[8]'(by omega) = y8 at c8 hu8
  have HQ := Aside0.mk hq
  have HO := Aside0.mk hown
  have Hb := Aside0.mk hb
  have Hb' := Aside0.mk hb'
  have HX := Aside0.mk hx
  clear hq hown hb hb' hx hb1 hs hs' hu7 hu8
  obtain ⟨i0, hi0, hz0, hz1, hz2⟩ := info_parts info49a
  go_enter Try.func32, Try.ntmps32
  go_wp2_with (at_builtin; refine wpList_append_lies _ (by rfl) _ _ _ (by rfl) B 49 i0 _ 1 8 Try.underlying47 hi0 hz0 hz1 hz2 rfl (by omega) (.slice (some ⟨g, 0, none⟩) (m + 1) cap) (m + 1) xs (by rfl) (own_alloc (own_far (own_far HO.out (p := ⟨b', 7, none⟩) Hb'.out (by decide) _) (p := ⟨b, 8, none⟩) (blk_far Hb.out (p := ⟨b', 7, none⟩) hne _) (by decide) _) _) ⟨w.heap.size, 0, none⟩ 1 1 [.pointer (some ⟨b, 0, none⟩)] (by rfl) (by rfl) (World.news_of_block (cs := #[.pointer (some ⟨b, 0, none⟩)]) (t := 49) (fr := (0, 0)) (blk_top (by simp [World.setCell]))) (by simp [Value.oneCell']) (by omega) (by unfold maxLen; omega) (by omega) (by simp [World.setCell]; omega) (w.heap.size + 1) (by simp [World.setCell]) ?_; intro gg cap' w1 hown1 hgrow hat hlt1; obtain ⟨hq1, hG⟩ := grew_next (x := .pointer (some ⟨b, 0, none⟩)) HB hBw hBq hBb hBb' HQ.out HO.out Hb.out Hb'.out hne _ _ hown1 hgrow hat; have HG := Aside0.mk hG; have hcq : w1.cell? ⟨q, 0, none⟩ = some (.slice (some ⟨g, 0, none⟩) (m + 1) cap) := blk_cell hq1 0; have hfq : w1.frozen? ⟨q, 0, none⟩ = false := blk_frozen hq1 0; clear hown1 hgrow hat hq1 hG)
  go_end0
  exact ⟨rfl, HG.out⟩

end Go.Proofs.Ytbicbdcbbeifhaa.AddW
