/- Walks of FnPartAdded: all tokens are added to a list. -/
import Derived.Test.YtbicbdcbbeifhaaAddWalk4
namespace Go.Proofs.Ytbicbdcbbeifhaa.AddW
open Go.RowKit Go.Proofs.Ytbicbdcbbeifhaa.PFnPartAdded Go.Proofs.YtbicbdcbbeifhaaW.PrintWords Go.Proofs.YtbicbdcbbeifhaaW.PrintLast Go.Proofs.YtbicbdcbbeifhaaW.PrintMore
open Go.Proofs.Ytbicbdcbbeifhaa.AddM
attribute [local go_sem ↓] Go.wp_at_zero Go.wp_at_succ
set_option linter.unusedSimpArgs false
set_option linter.unusedVariables false

/-- What stands behind token j, and before it, when k of them have been added. -/
def nxk (tb : List Nat) (k j : Nat) : Option Nat := if j + 1 < k then tb[j + 1]? else none
def pvk (tb : List Nat) (k j : Nat) : Option Nat := if 0 < j ∧ j < k then tb[j - 1]? else none
def ptrs (tb : List Nat) : List Value := tb.map fun b => ptr (some b)

structure Adding (B : Nat) (w0 wr : World) (q : Nat) (ts : List Tk) (tb pb : List Nat) (vm : Value) (k : Nat) : Prop where
  bel : Below B w0 wr
  toks : Toks B wr ts tb pb (nxk tb k) (pvk tb k)
  row : wr.ownsRow B 49 1 vm ts.length (ptrs tb)
  lst : ∃ v, wr.heap[q]? = some (.cells #[v] 47 (0, 0)) ∧ wr.ownsRow B 49 1 v k (ptrs (tb.take k)) ∧ (k = 0 → v = .slice none 0 0) ∧ (0 < k → ∃ gg cap, v = .slice (some ⟨gg, 0, none⟩) k cap) ∧ (∀ j, v.ownBlock = some j → vm.ownBlock ≠ some j)

theorem ptrs_take (tb : List Nat) (k b : Nat) (h : tb[k]? = some b) : ptrs (tb.take (k + 1)) = ptrs (tb.take k) ++ [ptr (some b)] := by
  have hlt : k < tb.length := (List.getElem?_eq_some_iff.1 h).1
  rw [List.take_succ_eq_append_getElem hlt, (List.getElem?_eq_some_iff.1 h).2]
  simp [ptrs]

theorem adding_first {B : Nat} {w0 wr w' : World} {q : Nat} {ts : List Tk} {tb pb : List Nat} {vm : Value} {b : Nat} (h : Adding B w0 wr q ts tb pb vm 0) (hb : tb[0]? = some b) (hq : wr.heap[q]? = some (.cells #[.slice none 0 0] 47 (0, 0)))
    (hg : Grew B w0 wr w' q 0 (.slice none 0 0) [] (ptr (some b)) (fun _ => False)) : Adding B w0 w' q ts tb pb vm 1 := by
  have hmove : ∀ (i : Nat) (cs : Array Value) (t : TypeId), t ≠ 47 → wr.heap[i]? = some (.cells cs t (0, 0)) → w'.heap[i]? = some (.cells cs t (0, 0)) := by
    intro i cs t ht hi
    have hl := blk_lt hi
    rw [hg.kept.2 i hl ?_]
    · exact hi
    · rintro (e | e | e)
      · exact e
      · exact blk_ne hi hq ht e
      · simp [Value.ownBlock] at e
  have e1 : nxk tb 0 = nxk tb 1 := by
    funext j
    simp [nxk]
  have e2 : pvk tb 0 = pvk tb 1 := by
    funext j
    unfold pvk
    rw [if_neg (by omega), if_neg (by omega)]
  obtain ⟨gg, cap, h1, h2, h3⟩ := hg.lst
  refine ⟨hg.bel, ?_, ?_, _, h1, ?_, fun h => by omega, fun _ => ⟨gg, cap, rfl⟩, ?_⟩
  · rw [← e1, ← e2]
    exact h.toks.move fun i cs t ht hi => hmove i cs t (by rcases ht with rfl | rfl <;> decide) hi
  · refine own_move h.row (fun k hk => ?_)
    obtain ⟨cells, hc⟩ := own_typed h.row k hk
    rw [hmove k _ _ (by decide) hc, hc]
  · rw [ptrs_take tb 0 b hb]
    exact h2
  · intro j hj
    have : gg = j := by simpa [Value.ownBlock] using hj
    subst this
    intro hk
    have hl := own_lt h.row _ hk
    rcases h3 with h3 | h3
    · simp [Value.ownBlock] at h3
    · omega

theorem adding_next {B : Nat} {w0 wr w' : World} {q : Nat} {ts : List Tk} {tb pb : List Nat} {vm v : Value} {m b b' p p' : Nat} {t t' : Tk} (h : Adding B w0 wr q ts tb pb vm (m + 1)) (hb : tb[m + 1]? = some b) (hb' : tb[m]? = some b')
    (hp : pb[m + 1]? = some p) (hp' : pb[m]? = some p') (ht : ts[m + 1]? = some t) (ht' : ts[m]? = some t')
    (hq : wr.heap[q]? = some (.cells #[v] 47 (0, 0))) (hown : wr.ownsRow B 49 1 v (m + 1) (ptrs (tb.take (m + 1)))) (hap : ∀ j, v.ownBlock = some j → vm.ownBlock ≠ some j)
    (hg : Grew B w0 wr w' q (m + 1) v (ptrs (tb.take (m + 1))) (ptr (some b)) (fun i => i = b ∨ i = b'))
    (h8 : w'.heap[b]? = some (.cells ((tokCells t p none none).setIfInBounds 8 (ptr (some b'))) 54 (0, 0)))
    (h7 : w'.heap[b']? = some (.cells ((tokCells t' p' none (pvk tb (m + 1) m)).setIfInBounds 7 (ptr (some b))) 54 (0, 0))) : Adding B w0 w' q ts tb pb vm (m + 2) := by
  have hmove : ∀ (i : Nat) (cs : Array Value) (T : TypeId), T ≠ 47 → some i ≠ v.ownBlock → i ≠ b → i ≠ b' → wr.heap[i]? = some (.cells cs T (0, 0)) → w'.heap[i]? = some (.cells cs T (0, 0)) := by
    intro i cs T hT ho hi1 hi2 hi
    rw [hg.kept.2 i (blk_lt hi) ?_]
    · exact hi
    · rintro ((e | e) | e | e)
      · exact hi1 e
      · exact hi2 e
      · exact blk_ne hi hq hT e
      · exact ho e
  obtain ⟨gg, cap, h1, h2, h3⟩ := hg.lst
  have hB := h.toks.2 (m + 1) t b p ht hb hp
  have hB' := h.toks.2 m t' b' p' ht' hb' hp'
  have hnd := h.toks.1
  refine ⟨hg.bel, ⟨hnd, ?_⟩, ?_, _, h1, ?_, fun h => by omega, fun _ => ⟨gg, cap, rfl⟩, ?_⟩
  · intro j tj bj pj htj hbj hpj
    obtain ⟨a1, a2, a3, a4⟩ := h.toks.2 j tj bj pj htj hbj hpj
    have a4' : w'.heap[pj]? = some (.cells (plCells tj.pl) 80 (0, 0)) :=
      hmove pj _ _ (by decide) (own_ne_blk hown a4 (by decide)) (blk_ne a4 hB.2.2.1 (by decide)) (blk_ne a4 hB'.2.2.1 (by decide)) a4
    refine ⟨a1, a2, ?_, a4'⟩
    by_cases e1 : j = m + 1
    · subst e1
      rw [ht] at htj; rw [hb] at hbj; rw [hp] at hpj
      obtain rfl := Option.some.inj htj
      obtain rfl := Option.some.inj hbj
      obtain rfl := Option.some.inj hpj
      have n1 : nxk tb (m + 2) (m + 1) = none := by unfold nxk; rw [if_neg (by omega)]
      have n2 : pvk tb (m + 2) (m + 1) = some b' := by unfold pvk; rw [if_pos (by omega)]; simpa using hb'
      rw [n1, n2, h8]
      rfl
    · by_cases e2 : j = m
      · subst e2
        rw [ht'] at htj; rw [hb'] at hbj; rw [hp'] at hpj
        obtain rfl := Option.some.inj htj
        obtain rfl := Option.some.inj hbj
        obtain rfl := Option.some.inj hpj
        have n1 : nxk tb (j + 2) j = some b := by unfold nxk; rw [if_pos (by omega)]; exact hb
        have n2 : pvk tb (j + 2) j = pvk tb (j + 1) j := by
          unfold pvk
          by_cases h0 : 0 < j
          · rw [if_pos (by omega), if_pos (by omega)]
          · rw [if_neg (by omega), if_neg (by omega)]
        rw [n1, n2, h7]
        rfl
      · have n1 : nxk tb (m + 2) j = nxk tb (m + 1) j := by
          unfold nxk
          by_cases h0 : j + 1 < m + 1
          · rw [if_pos (by omega), if_pos h0]
          · rw [if_neg (by omega), if_neg h0]
        have n2 : pvk tb (m + 2) j = pvk tb (m + 1) j := by
          unfold pvk
          by_cases h0 : 0 < j ∧ j < m + 1
          · rw [if_pos (by omega), if_pos h0]
          · rw [if_neg (by omega), if_neg h0]
        rw [n1, n2]
        have hj : j < tb.length := (List.getElem?_eq_some_iff.1 hbj).1
        have hm1 : m + 1 < tb.length := (List.getElem?_eq_some_iff.1 hb).1
        refine hmove bj _ _ (by decide) (own_ne_blk hown a3 (by decide)) ?_ ?_ a3
        · intro e
          rw [e, ← hb] at hbj
          exact e1 ((List.getElem?_inj hj hnd).1 hbj)
        · intro e
          rw [e, ← hb'] at hbj
          exact e2 ((List.getElem?_inj hj hnd).1 hbj)
  · refine own_move h.row (fun k hk => ?_)
    obtain ⟨cells, hc⟩ := own_typed h.row k hk
    rw [hmove k _ _ (by decide) (fun e => hap k e.symm hk) (blk_ne hc hB.2.2.1 (by decide)) (blk_ne hc hB'.2.2.1 (by decide)) hc, hc]
  · rw [ptrs_take tb (m + 1) b hb]
    exact h2
  · intro j hj
    have : gg = j := by simpa [Value.ownBlock] using hj
    subst this
    rcases h3 with h3 | h3
    · exact hap _ h3
    · intro hk
      have hl := own_lt h.row _ hk
      omega

end Go.Proofs.Ytbicbdcbbeifhaa.AddW
