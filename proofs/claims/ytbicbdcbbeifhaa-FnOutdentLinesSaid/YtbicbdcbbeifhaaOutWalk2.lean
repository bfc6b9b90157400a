/- Walks of FnOutdentLines: all lines, and the law. -/
import Derived.Test.YtbicbdcbbeifhaaOutWalk1
import Derived.Test.YtbicbdcbbeifhaaShelf
import Derived.Deep.AppendLies
namespace Go.Proofs.Ytbicbdcbbeifhaa.OutW
open Go.RowKit Go.Proofs.Ytbicbdcbbeifhaa.PFnOutdentLines Go.Proofs.YtbicbdcbbeifhaaW.PrintWords Go.Proofs.YtbicbdcbbeifhaaW.PrintLast Go.Proofs.YtbicbdcbbeifhaaW.PrintMore
open Go.Proofs.Ytbicbdcbbeifhaa.OutP Go.Proofs.Ytbicbdcbbeifhaa.OutH
set_option linter.unusedSimpArgs false
set_option linter.unusedVariables false

theorem info9s : (Try.prog.info? 9).map (fun i => (i.zero, i.size, i.bytes)) = some (some (.string ⟨#[]⟩), 1, 16) := by kernel_rfl

def trimmed (n : Nat) (ls : List (List UInt8)) : List ByteArray := ls.map fun l => OutP.mk (trim n l)
def strs (xs : List ByteArray) : List Value := xs.map Value.string

/-- The loop over the lines, behind k rounds. -/
structure Lines (w wr : World) (n : Nat) (ls : List (List UInt8)) (k : Nat) (v : Value) : Prop where
  bel : Below w.heap.size w wr
  own : wr.ownsRow w.heap.size 9 1 v k (strs ((trimmed n ls).take k))

theorem below_down {B C : Nat} {w w' : World} (h : Below C w w') (hBC : B ≤ C) : Below B w w' := ⟨h.os, h.tape, h.output, h.size, fun i hi => h.block i (Nat.lt_of_lt_of_le hi hBC)⟩

theorem lines_step {w wr w1 w2 : World} {n : Nat} {ls : List (List UInt8)} {k : Nat} {v v1 : Value} {l : List UInt8} {C : Obj} (h : Lines w wr n ls k v) (hl : ls[k]? = some l) (hb : Below wr.heap.size (wr.alloc (.cells #[.int .i64 0] 3)) w1)
    (hg : (w1.alloc C).grownBy w2 v.ownBlock) (hown : w2.ownsRow w.heap.size 9 1 v1 (k + 1) (strs ((trimmed n ls).take k) ++ [.string (OutP.mk (trim n l))])) : Lines w w2 n ls (k + 1) v1 := by
  have hb1 : Below wr.heap.size wr w1 := (below_alloc (Below.refl _ _) _).trans hb
  have hb2 : Below w.heap.size w w1 := below_then h.bel h.bel.size hb1
  refine ⟨pw_below_grown (below_alloc hb2 C) _ (by have := hb2.size; simp; omega) hg (fun j hj => own_base h.own j hj), ?_⟩
  have hk : (trimmed n ls)[k]? = some (OutP.mk (trim n l)) := by rw [trimmed, List.getElem?_map, hl]; rfl
  have hlt : k < (trimmed n ls).length := (List.getElem?_eq_some_iff.1 hk).1
  rw [List.take_succ_eq_append_getElem hlt, (List.getElem?_eq_some_iff.1 hk).2]
  simpa [strs] using hown

set_option maxRecDepth 100000 in
set_option maxHeartbeats 1000000 in
theorem trimIndent_any (p : Value) (n : Nat) (s : ByteArray) (w : World) (hn0 : 1 ≤ n) (hn : n ≤ 200) (hs : s.size ≤ 2147483647) (h13 : ∀ c ∈ s.data.toList, c ≠ 13) :
    Calls Try.prog 37 #[p, .int .i64 n, .string s] w fun e w' => e = .returned (.string (OutP.mk (cut n n s.data.toList))) ∧ Below w.heap.size w w' := by
  obtain ⟨k, hk⟩ := normal_all s hs h13
  obtain ⟨k', hk'⟩ := split_all s hs
  have hz : ((n : Int) == 0) = false := beq_eq_false_iff_ne.2 (by omega)
  have hll := lines_len s.data.toList
  rw [len_data] at hll
  have hl1 : 1 ≤ (lines s.data.toList).length := by simp [lines]
  have hcut := cut_all n s.data.toList
  have hcl := cut_le n s.data.toList n
  rw [len_data] at hcl
  generalize hls : lines s.data.toList = ls at *
  have HCUT := Aside0.mk hcut
  have HNB := Aside0.mk hk
  have HSP := Aside0.mk hk'
  have HLL := Aside0.mk hll.2
  have hlen : ls.length ≤ 2147483648 := by omega
  clear hk hk' hll hcut hls h13
  go_enter Try.func37, Try.ntmps37
  go_wp2_with fail
  refine (format_normalizeNewLineChars.calls k s s _ HNB.out).mono ?_
  rintro e w1 ⟨rfl, hb1⟩
  have hn1 : w1.cell? ⟨w.heap.size, 0, none⟩ = some (.int .i64 (n : Int)) := by
    refine (hb1.cell (by simp)).trans ?_
    exact World.cell?_alloc_mark ..
  have HB1 := Aside0.mk hb1
  clear hb1
  go_wp2_with fail
  refine (format_zzSplit.calls k' s _ _ _ HSP.out).mono ?_
  rintro e w2 ⟨v, rfl, hR, hb2⟩
  obtain ⟨A, c, rfl, hcap, hC⟩ := Kd.R_reads hR
  have hn2 := pw_cell_below hb2 hn1
  have HB2 := Aside0.mk (((below_alloc (Below.refl _ _) _ : Below w.heap.size w _).trans (below_down HB1.out (by simp))).trans (below_down hb2 (by have := HB1.out.size; simp at this; omega)))
  rw [List.length_map] at hcap hC
  rw [List.length_map]
  have HC := Aside0.mk hC
  have hw2 : w.heap.size + 1 ≤ w2.heap.size := by have := HB1.out.size; have := hb2.size; simp at *; omega
  clear hb2 hR hC hn1 HB1
  obtain ⟨i0, hi0, hz0, hz1, hz2⟩ := info_parts info9s
  go_wp2_with (at_make; refine wpList_make_own _ rfl _ _ 90 rfl w2.heap.size 9 i0 (.string ⟨#[]⟩) 1 Try.underlying90 hi0 hz0 hz1 _ _ _ ls.length rfl rfl (by omega) (by rw [hz2]; omega) (by unfold maxLen; omega) (by omega) ?_; intro w3 hown3 hg3; have HL0 : Aside0 (Lines w2 w3 n ls 0 (.slice (some ⟨w2.heap.size, 0, none⟩) 0 ls.length)) := ⟨⟨(Below.refl _ _).grown hg3 (Nat.le_refl _) (fun k hk => by cases hk), hown3⟩⟩; clear hown3 hg3)
  clear hcap
  go_loopw [8, 10, 11, 23] (fun v _ _ i wr => ∃ k : Nat, k ≤ ls.length ∧ i = .int .i64 k ∧ Aside0 (Lines w2 wr n ls k v)) (fun _ _ _ i _ => ls.length - (intOf i).toNat)
  case atStart => exact ⟨0, by omega, rfl, HL0⟩
  case round =>
    obtain ⟨k, hk, rfl, hL⟩ := hrel
    clear HL0
    have hsz : w2.heap.size ≤ wr.heap.size := hL.out.bel.size
    by_cases hlt : k < ls.length
    · obtain ⟨l, hl⟩ : ∃ l, ls[k]? = some l := ⟨_, List.getElem?_eq_getElem hlt⟩
      have hll : l.length ≤ s.size := HLL.out l (List.mem_of_getElem? hl)
      obtain ⟨ad, rfl, hc⟩ := Kd.at_string (Kd.C_below HC.out hL.out.bel) (k : Int) (by omega) (by omega)
      have e1 : rdOf ByteArray.empty (ls.map OutP.mk) (k : Int) = OutP.mk l := by
        unfold rdOf
        rw [Int.toNat_natCast, List.getD_eq_getElem?_getD, List.getElem?_map, hl]
        rfl
      rw [e1, Int.toNat_natCast] at hc
      have hn3 : (wr.alloc (.cells #[.int .i64 0] 3)).cell? ⟨w.heap.size, 0, none⟩ = some (.int .i64 (n : Int)) := pw_cell_below (below_alloc (Below.refl _ _) _) ((hL.out.bel.cell (by show w.heap.size < _; omega)).trans hn2)
      have HT := Aside0.mk (trimLeft_any (OutP.mk l) wr.heap.size w.heap.size n (wr.alloc (.cells #[.int .i64 0] 3)) hn (by rw [mk_size]; omega) (blk_new _ _) hn3 (by omega))
      have edata : (OutP.mk l).data.toList = l := by simp [OutP.mk]
      rw [edata] at HT
      have HLK := Aside0.mk hl
      have HO := Aside0.mk hL.out.own
      clear hn3 e1 edata hl
      generalize hml : OutP.mk l = ml at hc HT
      generalize hmt : OutP.mk (trim n l) = mt at HT
      have HMT := Aside0.mk hmt
      clear hml hmt
      go_wp2_with fail
      refine HT.out.mono ?_
      rintro e w4 ⟨rfl, hb4⟩
      have HB4 := Aside0.mk hb4
      have hs4 : wr.heap.size + 1 ≤ w4.heap.size := by have := hb4.size; simpa using this
      have HO4 : Aside0 (w4.ownsRow w2.heap.size 9 1 u8 k (strs ((trimmed n ls).take k))) := ⟨pw_own_below HO.out ((below_alloc (Below.refl _ _) _ : Below wr.heap.size wr _).trans hb4)⟩
      clear hb4 hc HT
      go_wp2_with (at_builtin; refine wpList_append_lies _ (by rfl) _ _ _ (by rfl) w2.heap.size 9 i0 _ 1 16 Try.underlying90 hi0 hz0 hz1 hz2 rfl (by omega) u8 k _ (by rfl) (own_alloc HO4.out _) ⟨w4.heap.size, 0, none⟩ 1 1 [.string mt] (by rfl) (by rfl) (World.news_of_block (cs := #[.string mt]) (t := 9) (fr := (0, 0)) (blk_new _ _)) (by simp [Value.oneCell']) (by omega) (by unfold maxLen; omega) (by omega) (by simp; omega) (w4.heap.size + 1) (by simp) ?_; intro gg cap w5 hown5 hgrow hat hlt1; rw [← HMT.out] at hown5; have HF := Aside0.mk (lines_step hL.out HLK.out HB4.out hgrow hown5); clear hown5 hgrow hat hlt1)
      go_roundw
      case rel => exact ⟨k + 1, by omega, by go_num, HF⟩
      case measure => simp [intOf]; omega
    · obtain rfl : k = ls.length := by omega
      have hown := hL.out.own
      obtain ⟨g, cap, hv, _, hgl⟩ := hown.form hl1
      have htk : (trimmed n ls).take ls.length = trimmed n ls := List.take_of_length_le (by simp [trimmed])
      rw [htk] at hown
      subst hv
      have hcells : ∀ (j : Nat) x, (trimmed n ls)[j]? = some x → wr.cell? ⟨g, 0 + j, none⟩ = some (.string x) := by
        intro j x hj
        have := hown.cells (g := g) rfl j (.string x) (by rw [strs, List.getElem?_map, hj]; rfl)
        rw [add_plain] at this
        rwa [Nat.zero_add]
      have hmap : (trimmed n ls).map (·.data.toList) = ls.map (trim n) := by
        rw [trimmed, List.map_map]
        exact List.map_congr_left fun x _ => by simp [OutP.mk]
      have hj : (Lib.join ((trimmed n ls).map (·.data.toList)) [10]) = cut n n s.data.toList := by rw [hmap]; exact HCUT.out
      have HJ := Try.strings_Join g 0 cap (trimmed n ls) ⟨#[10]⟩ wr hcells hgl (by simp [trimmed]; omega) (by
        rcases hown.2 with ⟨h, _⟩ | ⟨g', cap', cur, h, _, _, h5, _⟩
        · cases h
        · injection h with _ _ h
          subst h
          simpa [trimmed] using h5) (by
        show (Lib.join ((trimmed n ls).map (·.data.toList)) [10]).length ≤ _
        rw [hj]; omega)
      have e2 : (⟨#[10]⟩ : ByteArray).data.toList = [10] := rfl
      rw [e2, hj] at HJ
      have e3 : (trimmed n ls).length = ls.length := by simp [trimmed]
      rw [e3] at HJ
      have HJJ := Aside0.mk HJ
      have HFB := Aside0.mk (below_then HB2.out (by omega) hL.out.bel)
      clear HJ hcells hown hmap hj htk e3 e2 hn2
      go_wp2_with fail
      refine HJJ.out.mono ?_
      rintro e w6 ⟨rfl, hb6⟩
      have HB6 := Aside0.mk (below_then HFB.out HFB.out.size hb6)
      clear hb6
      go_wp2
      go_ret
      exact ⟨rfl, HB6.out⟩

end Go.Proofs.Ytbicbdcbbeifhaa.OutW
