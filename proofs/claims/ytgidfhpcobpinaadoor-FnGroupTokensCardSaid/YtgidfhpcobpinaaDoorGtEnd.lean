/- Walks of FnGroupTokens: tokens are grouped, and told. -/
import Derived.Test.YtgidfhpcobpinaaDoorGtAll
import Derived.Test.YtgidfhpcobpinaaDoorGtMade
import Derived.Test.YtgidfhpcobpinaaDoorGtGrp
import Derived.Test.YtgidfhpcobpinaaDoorGtEnd0
namespace Go.Proofs.YtgidfhpcobpinaaDoor.GtW
open Go.RowKit Go.Proofs.YtgidfhpcobpinaaDoor.PFnGroupTokens Go.Proofs.YtgidfhpcobpinaaDoorW.PrintWords Go.Proofs.YtgidfhpcobpinaaDoorW.PrintLast Go.Proofs.YtgidfhpcobpinaaDoorW.PrintMore
open Go.Proofs.YtgidfhpcobpinaaDoor.AddM Go.Proofs.YtgidfhpcobpinaaDoor.GtM
open Go.Proofs.YtgidfhpcobpinaaDoor.AddW (Ok)
attribute [local go_sem ↓] Go.wp_at_zero Go.wp_at_succ
set_option linter.unusedSimpArgs false
set_option linter.unusedVariables false

/-- What grouping tells. -/
inductive Gtp (w : World) (n : Nat) (e : Ending) (w' : World) : Prop
  | bad (p : Pl) (he : e = .returned (.tuple #[.slice none 0 0, faultV 1 p])) (hb : Below w.heap.size w w') (hn : 0 < n) : Gtp w n e w'
  | ok (v : Value) (t : List Tr) (he : e = .returned (.tuple #[v, faultV 0 ⟨0, 0, 0, 0, 0⟩])) (hy : yields t = List.range n) (hl : t.length ≤ 1000) (hs : Smalls t) (hR : k66.R 66 w' w.heap.size (fun j => w.heap.size ≤ j) v (s66s t)) (hb : Below w.heap.size w w') : Gtp w n e w'

theorem close10 {w W : World} {n : Nat} {tmps : Array Value} {v : Value} {p : Pl} {k : Int} (h2 : W.heap[w.heap.size]? = some (.cells #[v] 35 (0, 0))) (h3 : W.heap[w.heap.size + 1]? = some (.cells #[.int .i64 k, .int .i64 p.line, .int .i64 p.col, .int .i64 p.off, .int .i64 p.ind, .int .i64 p.lev] 37 (0, 0)))
    (hG : Gtp w n (.returned (.tuple #[v, faultV k p])) W) (t2 : tmps.getD 2 undef = .pointer (some ⟨w.heap.size, 0, none⟩)) (t3 : tmps.getD 3 undef = .pointer (some ⟨w.heap.size + 1, 0, none⟩)) :
    bodyPostD Tryd.prog Tryd.f10 (Gtp w n) Exit.ret { tmps := tmps, defers := [{ target := Target.fn (Fn.func 17) #[.pointer (some ⟨w.heap.size, 0, none⟩), .pointer (some ⟨w.heap.size + 1, 0, none⟩)], args := #[] }] } W := by
  refine leaves_cons (f := 17) (args := #[.pointer (some ⟨w.heap.size, 0, none⟩), .pointer (some ⟨w.heap.size + 1, 0, none⟩)]) (by simp) (by simp [go_sem]) ?_
  refine (catch_idle ⟨w.heap.size, 0, none⟩ ⟨w.heap.size + 1, 0, none⟩ _).mono ?_
  rintro e u' w'' ⟨rfl, rfl, rfl⟩
  have k0 := blk_cell h2 0
  have k1 := blk_cell h3 0
  have k2 := blk_cell h3 1
  have k3 := blk_cell h3 2
  have k4 := blk_cell h3 3
  have k5 := blk_cell h3 4
  have k6 := blk_cell h3 5
  simp at k0 k1 k2 k3 k4 k5 k6 t2 t3
  simp [Leaves, settle, results, Tryd.results10, go_sem, t2, t3, k0, k1, k2, k3, k4, k5, k6]
  exact hG

def zero6 : Array Value := #[.int .i64 0, .int .i64 0, .int .i64 0, .int .i64 0, .int .i64 0, .int .i64 0]

set_option maxRecDepth 100000 in
set_option maxHeartbeats 4000000 in
theorem group_tokens_any (A : Option Addr) (c : Nat) (ts : List Tk) (xs : List (List Value)) (w : World) (hn : ts.length ≤ 1000) (hok : ∀ t ∈ ts, Ok t) (hgd : ∀ t ∈ ts, Good t) (hr : Row w 13 A xs) (hx : ∀ (k : Nat) (t : Tk), ts[k]? = some t → xs[k]? = some (tkList t ((k : Int) - 1) ((k : Int) + 1))) :
    Calls Tryd.prog 10 #[.slice A ts.length c] w (Gtp w ts.length) := by
  have hmf : ∀ (fn : Fn) (first cap : Array Value) (w : World), (Instr.makeFunc fn first cap).run Tryd.prog w = .ok (.func fn first cap) w := fun _ _ _ _ => rfl
  have hb1 : Below w.heap.size w ((w.alloc (.cells #[.slice none 0 0] 35)).alloc (.cells zero6 37)) := below_alloc (below_alloc (Below.refl _ _) _) _
  have HM := Aside0.mk (links_any A c ts xs ((w.alloc (.cells #[.slice none 0 0] 35)).alloc (.cells zero6 37)) hn hok hgd (hr.below hb1) hx)
  have HB1 := Aside0.mk hb1
  have P2 := Aside0.mk (blk_alloc (heap_alloc_new w (.cells #[.slice none 0 0] 35)) (.cells zero6 37))
  have P3 : Aside0 (((w.alloc (.cells #[.slice none 0 0] 35)).alloc (.cells zero6 37)).heap[w.heap.size + 1]? = some (.cells zero6 37 (0, 0))) := ⟨blk_top (by simp)⟩
  clear hok hgd hr hx hb1
  go_enter_defers Tryd.func10, Tryd.ntmps10
  go_wp2_with fail
  refine HM.out.mono ?_
  rintro e w2 ⟨tb, g, cc, htb, rfl, hlk⟩
  have Q2 := Aside0.mk (blk_below P2.out hlk.bel)
  have Q3 := Aside0.mk (blk_below P3.out hlk.bel)
  have hT : Tbs w2.heap.size w2 w2 tb g := ⟨hlk.row, fun i a hi => (hlk.tok i a hi).2, Below.refl _ _, Nat.le_refl _⟩
  have hA := all_any (c := cc) hT (by omega)
  rw [htb] at hA
  have HA := Aside0.mk hA
  have HTB := Aside0.mk htb
  have HRW := Aside0.mk hlk.row
  have HB2 : Aside0 (Below w.heap.size w w2) := ⟨below_then HB1.out HB1.out.size hlk.bel⟩
  clear hT hA htb HM P2 P3 hlk
  go_wp2_with fail
  refine HA.out.mono ?_
  intro e w3 hG
  cases hG with
  | bad x he h hb h0 =>
    subst he
    obtain ⟨s, m, a, rfl, hs, hz⟩ := h
    have HRf := Aside0.mk (refused_any ⟨s, m, a, rfl, hs, hz⟩)
    have HB3 := Aside0.mk hb
    clear hs hz hb
    go_wp2_with fail
    refine HRf.out.mono ?_
    rintro e w4 ⟨p, rfl, hb4⟩
    have R2 := Aside0.mk (blk_below (blk_below Q2.out HB3.out) hb4)
    have R3 := Aside0.mk (blk_below (blk_below Q3.out HB3.out) hb4)
    have HB4 : Aside0 (Below w.heap.size w w4) := ⟨below_then (below_then HB2.out HB2.out.size HB3.out) (Nat.le_trans HB2.out.size HB3.out.size) hb4⟩
    have HN := Aside0.mk h0
    have k2 := blk_cell R2.out 0
    have f2 := blk_frozen R2.out 0
    have k30 := blk_cell R3.out 0
    have k31 := blk_cell R3.out 1
    have k32 := blk_cell R3.out 2
    have k33 := blk_cell R3.out 3
    have k34 := blk_cell R3.out 4
    have k35 := blk_cell R3.out 5
    have f3 := fun i : Nat => blk_frozen R3.out i
    simp [zero6] at k2 k30 k31 k32 k33 k34 k35
    clear hb4 h0
    simp only [faultV]
    go_wp2_with fail
    have S2 := blk_set R2.out 0 (.slice none 0 0)
    have S3 := blk_far R3.out (p := ⟨w.heap.size, 0, none⟩) (blk_ne R3.out R2.out (by decide)) (.slice none 0 0)
    refine close10 (k := 1) (p := p) (v := .slice none 0 0) ?_ ?_ (.bad p rfl ?_ HN.out) rfl rfl
    · repeat (refine blk_far ?_ (by show w.heap.size ≠ w.heap.size + 1; omega) _)
      exact S2
    · refine blk_put (cs := #[.int .i64 1, .int .i64 p.line, .int .i64 p.col, .int .i64 p.off, .int .i64 p.ind, .int .i64 0]) ?_ 5 _ rfl
      refine blk_put (cs := #[.int .i64 1, .int .i64 p.line, .int .i64 p.col, .int .i64 p.off, .int .i64 0, .int .i64 0]) ?_ 4 _ rfl
      refine blk_put (cs := #[.int .i64 1, .int .i64 p.line, .int .i64 p.col, .int .i64 0, .int .i64 0, .int .i64 0]) ?_ 3 _ rfl
      refine blk_put (cs := #[.int .i64 1, .int .i64 p.line, .int .i64 0, .int .i64 0, .int .i64 0, .int .i64 0]) ?_ 2 _ rfl
      refine blk_put (cs := #[.int .i64 1, .int .i64 0, .int .i64 0, .int .i64 0, .int .i64 0, .int .i64 0]) ?_ 1 _ rfl
      refine blk_put (cs := zero6) ?_ 0 _ rfl
      exact S3
    · repeat (with_reducible refine below_set ?_ (by omega))
      exact HB4.out
  | ok v he h =>
    subst he
    obtain ⟨r, nb, cv, out, F, rfl, hrow, hrep, hy, hfull, hb, hbs⟩ := h
    have HB3 := Aside0.mk hb
    have hlen : (yields out).length = ts.length := by rw [hy, List.length_range]
    have hfs := fulls_of out hfull
    have hol : out.length ≤ 1000 := by have := yields_len out hfs; omega
    have hsm : Smalls [.node 3 out] := ⟨⟨hol, smalls_of out hfs (by omega)⟩, trivial⟩
    have hB4 : Below w3.heap.size w3 (w3.alloc (.cells #[.int .i64 0] 3)) := below_alloc (Below.refl _ _) _
    have hrl : r < w3.heap.size := by obtain ⟨cs, h1, _⟩ := hrow; exact blk_lt h1
    have hy1 : yields [.node 3 out] = List.range' 0 ts.length := by
      rw [yields_one]; show yields out = _; rw [hy, List.range_eq_range']
    have HGR := Aside0.mk (groups_any tb g w3.heap.size cc (by rw [HTB.out]; exact hn) (cnts [.node 3 out] + 1) [.node 3 out] [nb] F r cv 0 ts.length (w3.alloc (.cells #[.int .i64 0] 3)) (Nat.lt_succ_self _)
      ⟨fun i a hi => pw_cell_below hB4 (pw_cell_below hb (HRW.out.cell hi)), by
        obtain ⟨G, h1, _⟩ := HRW.out
        have := blk_lt h1
        have := hb.size
        omega⟩
      (fun hm => by
        rcases List.mem_cons.1 hm with e | hm
        · omega
        · have := Rep.lt _ _ _ hrep _ hm; omega)
      (hrow.frame (hB4.block _ hrl)) (RepL.one (Rep.frame _ _ _ hrep fun x hx => hB4.block _ (Rep.lt _ _ _ hrep x hx))) (by simp) hsm (heap_alloc_new w3 _) hy1 (by omega))
    rw [HTB.out] at HGR
    have HY : Aside0 (yields [.node 3 out] = List.range ts.length) := ⟨by rw [hy1, List.range_eq_range']⟩
    have HSM := Aside0.mk hsm
    clear hrow hrep hy hfull hb hbs hlen hfs hol hsm hB4 hrl hy1
    go_wp2_with fail
    refine HGR.out.mono ?_
    rintro e w4 ⟨v, rfl, hG⟩
    obtain ⟨A3, n3, rfl⟩ := Kd.R_slice hG.out
    have hl2 : w.heap.size < w2.heap.size := by have := blk_lt Q2.out; omega
    have hl3 : w.heap.size + 1 < w2.heap.size := blk_lt Q3.out
    have hw3 : w2.heap.size ≤ w3.heap.size := HB3.out.size
    have hw3' : w3.heap.size < (w3.alloc (.cells #[.int .i64 0] 3)).heap.size := by show w3.heap.size < (w3.heap.push _).size; rw [Array.size_push]; exact Nat.lt_succ_self _
    have R2 := Aside0.mk ((hG.fr.keep _ (by omega) (by omega)).trans (blk_alloc (blk_below Q2.out HB3.out) (.cells #[.int .i64 0] 3)))
    have R3 := Aside0.mk ((hG.fr.keep _ (by omega) (by omega)).trans (blk_alloc (blk_below Q3.out HB3.out) (.cells #[.int .i64 0] 3)))
    have HB4 : Aside0 (Below w.heap.size w w4) := ⟨by
      have h3 : Below w.heap.size w (w3.alloc (.cells #[.int .i64 0] 3)) := below_alloc (below_then HB2.out HB2.out.size HB3.out) _
      refine h3.trans ⟨hG.fr.bel.os, hG.fr.bel.tape, hG.fr.bel.output, hG.fr.bel.size, fun k hk => hG.fr.keep k (by omega) (by omega)⟩⟩
    have HRR := Aside0.mk (Kd.R_lower hG.out (base' := w.heap.size) (by omega))
    have HBIG : Aside0 (∀ x, (w3.alloc (.cells #[.int .i64 0] 3)).heap.size ≤ x → w.heap.size ≤ x ∧ x ≠ w.heap.size ∧ x ≠ w.heap.size + 1) := ⟨fun x hx => by omega⟩
    have k2 := blk_cell R2.out 0
    have f2 := blk_frozen R2.out 0
    have k30 := blk_cell R3.out 0
    have k31 := blk_cell R3.out 1
    have k32 := blk_cell R3.out 2
    have k33 := blk_cell R3.out 3
    have k34 := blk_cell R3.out 4
    have k35 := blk_cell R3.out 5
    have f3 := fun i : Nat => blk_frozen R3.out i
    simp [zero6] at k2 k30 k31 k32 k33 k34 k35
    clear hG hl2 hl3 hw3 hw3'
    go_wp2_with fail
    have S2 := blk_set R2.out 0 (.slice A3 (s66s [.node 3 out]).length n3)
    have S3 := blk_far R3.out (p := ⟨w.heap.size, 0, none⟩) (blk_ne R3.out R2.out (by decide)) (.slice A3 (s66s [.node 3 out]).length n3)
    refine close10 (k := 0) (p := ⟨0, 0, 0, 0, 0⟩) (v := .slice A3 (s66s [.node 3 out]).length n3) ?_ ?_ (.ok _ [.node 3 out] rfl HY.out (by simp) HSM.out ?_ ?_) rfl rfl
    · repeat (refine blk_far ?_ (by show w.heap.size ≠ w.heap.size + 1; omega) _)
      exact S2
    · refine blk_put (cs := zero6) ?_ 5 _ rfl
      refine blk_put (cs := zero6) ?_ 4 _ rfl
      refine blk_put (cs := zero6) ?_ 3 _ rfl
      refine blk_put (cs := zero6) ?_ 2 _ rfl
      refine blk_put (cs := zero6) ?_ 1 _ rfl
      refine blk_put (cs := zero6) ?_ 0 _ rfl
      exact S3
    · refine Kd.R_mono ?_ (fun x hx => (HBIG.out x hx).1)
      repeat (refine Kd.R_far ?_ (fun x hx => (HBIG.out x hx).2.2) _)
      exact Kd.R_far HRR.out (fun x hx => (HBIG.out x hx).2.1) _
    · repeat (with_reducible refine below_set ?_ (by omega))
      exact HB4.out

end Go.Proofs.YtgidfhpcobpinaaDoor.GtW
