/- The walk of FnPartChars: the law. -/
import Derived.Test.YtgidfhpcobpinaaDoorPcLaw
namespace Go.Proofs.YtgidfhpcobpinaaDoor.PcW
open Go.RowKit Go.Proofs.YtgidfhpcobpinaaDoor.PFnPartChars Go.Proofs.YtgidfhpcobpinaaDoorW.PrintWords Go.Proofs.YtgidfhpcobpinaaDoorW.PrintLast Go.Proofs.YtgidfhpcobpinaaDoorW.PrintMore
open Go.Proofs.YtgidfhpcobpinaaDoor.PcP Go.Proofs.YtgidfhpcobpinaaDoor.Rn Go.Proofs.YtgidfhpcobpinaaDoor.AddM
attribute [local go_sem ↓] Go.wp_at_zero Go.wp_at_succ
set_option linter.unusedSimpArgs false
set_option linter.unusedVariables false

/-- What printing leaves as it was. -/
structure Stay (w wr : World) (A : Option Addr) (L : List (List Value)) (B : Option Addr) (M : List (List Value)) : Prop where
  bel : Below w.heap.size w wr
  one : Row wr 13 A L
  two : Row wr 13 B M
theorem Stay.more {w wr w1 : World} {A B : Option Addr} {L M : List (List Value)} (h : Stay w wr A L B M) (hb : Below wr.heap.size wr w1) : Stay w w1 A L B M :=
  ⟨below_then h.bel h.bel.size hb, h.one.below hb, h.two.below hb⟩

def aTk : Tk := tkOf ⟨#[97]⟩ 0
theorem aTk_fine : ∀ t ∈ [aTk], Fine t := by
  intro t ht
  rw [List.mem_singleton.1 ht]
  refine ⟨by unfold AddW.Ok aTk tkOf; simp, rfl, ?_, by show 1 ≤ _; omega⟩
  intro j hj
  have : j = 0 := by have : (aTk.origin).size = 1 := rfl; omega
  subst this
  show ((97 : UInt8)).toNat ≠ 10
  decide
theorem aTk_cat : cat ([aTk].map Tk.origin) = ⟨#[97]⟩ := app_nil _

theorem row_one (w : World) (g : Nat) (t : Tk) (h : w.heap[g]? = some (.cells (AddW.lone t).toArray 29 (0, 0))) : Row w 13 (some ⟨g, 0, none⟩) [AddW.lone t] := by
  refine ⟨fun x hx => by rw [List.mem_singleton.1 hx]; rfl, fun _ => ⟨g, 0, rfl, fun j x i u hj hi => ?_⟩⟩
  match j with
  | 0 =>
    simp only [List.getElem?_cons_zero, Option.some.injEq] at hj
    subst hj
    rw [show 0 + 0 * 13 + i = i from by omega, blk_cell h]
    simpa using hi
  | j + 1 => simp at hj

theorem split_row {w : World} {g n k : Nat} {ts : List Tk} (hl : ts.length = n) (h : Row w 13 (some ⟨g, 0, none⟩) (ts.map AddW.lone)) : Row w 13 (some ⟨g, 0, none⟩) ((ts.take k).map AddW.lone) ∧ Row w 13 (some ⟨g, k * 13, none⟩) ((ts.drop k).map AddW.lone) := by
  rw [List.map_take, List.map_drop]
  have := row_drop h k
  rw [Nat.zero_add] at this
  exact ⟨row_take h k, this⟩

set_option maxRecDepth 100000 in
set_option maxHeartbeats 4000000 in
theorem law_in (A : Option Addr) (c : Nat) (ss : List ByteArray) (k : Nat) (w : World) (hC : Kd.C Kd.string w A ss.length ss) (hcap : ss.length ≤ c) (hfit : ∃ m, laws_zzFits2.f m ss = some true) (hz : ∀ s ∈ ss, s.size ≤ 2147483647) (hn : ss.length ≤ 100) (hk : k ≤ ss.length) (hT : Lib.Utf8Tabs 3 4 w) :
    Calls Tryd.prog 3 #[.slice A ss.length c, .int .i64 k] w fun e w' => e = .returned (.bool true) ∧ Below w.heap.size w w' := by
  obtain ⟨m, hm⟩ := hfit
  have HFT := Aside0.mk (laws_zzFits2.calls m A c ss true w hC hcap hm)
  have HC := Aside0.mk hC
  have HZ := Aside0.mk hz
  have HT := Aside0.mk hT
  have d1 : decide ((ss.length : Int) > 100) = false := by simp; omega
  have d2 : decide ((k : Int) < 0) = false := by simp
  have d3 : decide (ss.length < k) = false := by simp; omega
  clear hm hC hz hT
  obtain ⟨i0, hi0, hz0, hz1, hz2⟩ := info_parts info29
  go_enter Tryd.func3, Tryd.ntmps3
  go_wp2_with fail
  refine HFT.out.mono ?_
  rintro e wf ⟨rfl, ⟨nd, rfl⟩⟩
  have HBF := Aside0.mk (pw_below_drewN (Below.refl w.heap.size w) nd)
  generalize w.drewN nd = wf at *
  clear HFT
  go_wp2_with fail
  clear d1 d2 d3
  have hszf : w.heap.size ≤ wf.heap.size := HBF.out.size
  have HS : Aside0 (Laid w wf ss 0 (.slice none 0 0)) := ⟨⟨HBF.out, World.ownsRow_nil _ _ _ _, fun _ => rfl, fun s hs => by cases hs⟩⟩
  go_loopw [5, 6, 7, 27] (fun v _ _ i wr => ∃ k : Nat, k ≤ ss.length ∧ i = .int .i64 k ∧ Aside0 (Laid w wr ss k v)) (fun _ _ _ i _ => ss.length - (intOf i).toNat)
  case atStart => exact ⟨0, by omega, rfl, HS⟩
  case round =>
    obtain ⟨j, hj, rfl, hL⟩ := hrel
    clear HS
    have hsz : w.heap.size ≤ wr.heap.size := hL.out.1.size
    by_cases hlt : j < ss.length
    · obtain ⟨s, hs⟩ : ∃ s, ss[j]? = some s := ⟨_, List.getElem?_eq_getElem hlt⟩
      obtain ⟨ad, rfl, hc⟩ := Kd.at_string (Kd.C_below HC.out hL.out.1) (j : Int) (by omega) (by omega)
      rw [Int.toNat_natCast] at hc
      have hr : rdOf ByteArray.empty ss (j : Int) = s := by rw [rdOf_nat ss j hlt]; exact (List.getElem?_eq_some_iff.1 hs).2
      rw [hr] at hc
      have hzs := HZ.out s (List.mem_of_getElem? hs)
      have HR := Aside0.mk (row_any s wr hzs (Utf8Tabs_below HT.out hL.out.1))
      have HSS := Aside0.mk hs
      clear hr hs
      go_wp2_with fail
      refine HR.out.mono ?_
      rintro e w1 ⟨⟨b, rfl, hb⟩, hb1⟩
      have HB1 := Aside0.mk hb1
      have HBB := Aside0.mk hb
      have hsz1 : wr.heap.size ≤ w1.heap.size := hb1.size
      clear HR hb1 hb hc
      cases b
      · have HF := Aside0.mk (below_then hL.out.1 hsz HB1.out)
        go_wp2_with fail
        go_ret
        exact ⟨rfl, HF.out⟩
      · have HNF : Aside0 (NoFeed s) := ⟨no_feed s (HBB.out rfl).2⟩
        go_wp2_with fail
        refine (lx_any _ _ _).mono ?_
        rintro e w2 ⟨rfl, hb2⟩
        have HB2 := Aside0.mk (below_then HB1.out hsz1 hb2)
        have hsz2 : wr.heap.size ≤ w2.heap.size := HB2.out.size
        clear hb2
        go_wp2_with (at_builtin; refine wpList_append_lies _ (by rfl) _ _ _ (by rfl) w.heap.size 29 i0 _ 13 128 Tryd.underlying24 hi0 hz0 hz1 hz2 rfl (by omega) u5 j _ (by rfl) (own_alloc (pw_own_below hL.out.2.1 HB2.out) _) ⟨w2.heap.size, 0, none⟩ 1 1 [.int .i64 31, .int .i64 0, .int .i64 0, .string s, .string s, .string ⟨#[]⟩, .int .i64 1, .int .i64 ((j : Int) + 1), .int .i64 0, .int .i64 0, .int .i64 0, .int .i64 (-1), .int .i64 (-1)] (by rfl) (by rfl) (World.news_of_block (cs := #[.int .i64 31, .int .i64 0, .int .i64 0, .string s, .string s, .string ⟨#[]⟩, .int .i64 1, .int .i64 ((j : Int) + 1), .int .i64 0, .int .i64 0, .int .i64 0, .int .i64 (-1), .int .i64 (-1)]) (t := 29) (fr := (0, 0)) (blk_top (by simp))) (by simp [Value.oneCell']) (by omega) (by unfold maxLen; omega) (by omega) (by simp; omega) (w2.heap.size + 1) (by simp) ?_; intro gg cap w3 hown3 hgrow hat hlt3; have HF := Aside0.mk (laid_step hL.out HSS.out ⟨HNF.out, hzs⟩ HB2.out hgrow hown3); clear hown3 hgrow hat hlt3)
        go_roundw
        case rel => exact ⟨j + 1, by omega, by go_num, HF⟩
        case measure => simp [intOf]; omega
    · obtain rfl : j = ss.length := by omega
      obtain ⟨hb0, hown, hnil, hall⟩ := hL.out
      rw [List.take_of_length_le (Nat.le_refl _)] at hall
      rw [List.take_of_length_le (by rw [List.length_map, tks_len]; omega)] at hown
      have hfine := tks_fine ss hn hall
      have hlen := tks_len ss
      obtain ⟨Al, cl, rfl⟩ := own_slice hown
      have hrow : Row wr 13 Al ((tks ss).map AddW.lone) := row_of_own (m := ss.length) (c := cl) (B := w.heap.size) (e := 29) (fun x hx => by obtain ⟨t, _, rfl⟩ := List.mem_map.1 hx; rfl) (by rw [List.length_map, hlen]) hown
      have hsx : (cat (ss.take k)).size ≤ 214748364700 := by
        have h1 := cat_size (ss.take k) (fun x hx => (hall x (List.mem_of_mem_take hx)).2)
        have h2 : (ss.take k).length ≤ 100 := by rw [List.length_take]; omega
        omega
      have hsy : (cat (ss.drop k)).size ≤ 214748364700 := by
        have h1 := cat_size (ss.drop k) (fun x hx => (hall x (List.mem_of_mem_drop hx)).2)
        have h2 : (ss.drop k).length ≤ 100 := by rw [List.length_drop]; omega
        omega
      have P1 := Aside0.mk fun (W : World) (h : Row W 13 Al ((tks ss).map AddW.lone)) => print_fine Al ss.length cl (tks ss) W hlen hn hfine h (cat (ss.take k) ++ cat (ss.drop k)) (by rw [tks_origin]; exact cat_split ss k)
      have P2 := Aside0.mk fun (W : World) (A2 : Option Addr) (c2 : Nat) (h : Row W 13 A2 (((tks ss).take k).map AddW.lone)) => print_fine A2 k c2 ((tks ss).take k) W (by rw [List.length_take]; omega) (by omega) (fun t ht => hfine t (List.mem_of_mem_take ht)) h (cat (ss.take k)) (by rw [List.map_take, tks_origin])
      have P3 := Aside0.mk fun (W : World) (A3 : Option Addr) (c3 n3 : Nat) (hn3 : n3 = ss.length - k) (h : Row W 13 A3 (((tks ss).drop k).map AddW.lone)) => print_fine A3 n3 c3 ((tks ss).drop k) W (by rw [List.length_drop]; omega) (by omega) (fun t ht => hfine t (List.mem_of_mem_drop ht)) h (cat (ss.drop k)) (by rw [List.map_drop, tks_origin])
      have P4 := Aside0.mk fun (W : World) (g4 : Nat) (h : Row W 13 (some ⟨g4, 0, none⟩) [AddW.lone aTk]) => print_fine (some ⟨g4, 0, none⟩) 1 1 [aTk] W rfl (by omega) aTk_fine h ⟨#[97]⟩ aTk_cat
      have HROW := Aside0.mk hrow
      have HB0 := Aside0.mk hb0
      have HLEN := Aside0.mk hlen
      have hnil' : ss.length = 0 → Al = none ∧ cl = 0 := fun h => by have := hnil h; simp only [Value.slice.injEq] at this; exact ⟨this.1, this.2.2⟩
      have HNIL := Aside0.mk hnil'
      have hform : 0 < ss.length → ∃ g, Al = some ⟨g, 0, none⟩ ∧ ss.length ≤ cl := fun h => by
        obtain ⟨g, c', hv, _, _⟩ := hown.form h
        simp only [Value.slice.injEq] at hv
        obtain ⟨rfl, _, rfl⟩ := hv
        refine ⟨g, rfl, ?_⟩
        rcases hown.2 with ⟨h1, _⟩ | ⟨g', cap', cur, h1, _, _, h5, _⟩
        · cases h1
        · injection h1 with _ _ h1
          subst h1
          exact h5
      have HFORM := Aside0.mk hform
      clear hb0 hown hnil hall hfine hrow hlen hnil' hform HZ HT HC hL
      have hyn : ss.length = k → cat (ss.drop k) = ⟨#[]⟩ := fun h => by rw [List.drop_of_length_le (by omega)]; rfl
      have HYN := Aside0.mk hyn
      clear hyn
      generalize cat (ss.take k) = x at *
      generalize cat (ss.drop k) = y at *
      have hsum : ¬ x.size + y.size > 9223372036854775807 := by omega
      go_wp2_with fail
      refine (lx_any _ _ _).mono ?_
      rintro e w1 ⟨rfl, hb1⟩
      have HB1 := Aside0.mk (below_then HB0.out hsz hb1)
      have HR1 := Aside0.mk (HROW.out.below hb1)
      clear hb1 HB0
      by_cases h0 : ss.length = 0
      · obtain ⟨rfl, rfl⟩ := HNIL.out h0
        obtain rfl : k = 0 := by omega
        have e1 : ss = [] := List.length_eq_zero_iff.1 h0
        subst e1
        have hst : Stay w (w1.alloc (.cells (AddW.lone aTk).toArray 29)).drew none [] (some ⟨w1.heap.size, 0, none⟩) [AddW.lone aTk] :=
          ⟨below_drew (below_alloc HB1.out _), row_nil _ _ _, row_one _ _ _ (blk_drew (heap_alloc_new w1 _))⟩
        have P0 := Aside0.mk fun (W : World) => print_fine none 0 0 [] W rfl (by omega) (fun t ht => by cases ht) (row_nil W 13 none) ⟨#[]⟩ rfl
        have n1 := nil_app
        clear P1 P2 P3 HROW
        go_wp2_with fail
        go_region_held3 (fun w' => Stay w w' none [] (some ⟨w1.heap.size, 0, none⟩) [AddW.lone aTk])
          (first | assumption | exact Stay.more (by assumption) hb)
          (first
            | (go_at_call 8; with_reducible refine Calls.mono (P4.out _ _ ?_) ?_; (exact Stay.two (by assumption)); rintro e w' ⟨rfl, hb⟩)
            | (go_at_call 8; with_reducible refine Calls.mono (P0.out _) ?_; rintro e w' ⟨rfl, hb⟩))
        go_wp2
        go_ret
        exact ⟨rfl, Stay.bel (by assumption)⟩
      · obtain ⟨g, rfl, hgc⟩ := HFORM.out (by omega)
        obtain ⟨r2, r3⟩ := split_row (k := k) HLEN.out HR1.out
        have hst : Stay w (w1.alloc (.cells (AddW.lone aTk).toArray 29)).drew (some ⟨g, 0, none⟩) ((tks ss).map AddW.lone) (some ⟨w1.heap.size, 0, none⟩) [AddW.lone aTk] :=
          ⟨below_drew (below_alloc HB1.out _), HR1.out.below (below_drew (below_alloc (Below.refl _ _) _)), row_one _ _ _ (blk_drew (heap_alloc_new w1 _))⟩
        clear r2 r3 HR1 HNIL HFORM
        by_cases hkc : k < cl
        · obtain ⟨d, hd⟩ : ∃ d, ss.length - k = d := ⟨_, rfl⟩
          obtain ⟨o, ho⟩ : ∃ o, k * 13 = o := ⟨_, rfl⟩
          obtain ⟨f, hf⟩ : ∃ f, cl - k = f := ⟨_, rfl⟩
          have Q1 := Aside0.mk fun W => P1.out W
          have Q2 := Aside0.mk fun W => P2.out W (some ⟨g, 0, none⟩) k
          have Q3 := Aside0.mk fun W => P3.out W (some ⟨g, o, none⟩) f d hd.symm
          have Q4 := Aside0.mk fun W => P4.out W w1.heap.size
          have HO := Aside0.mk ho
          clear P1 P2 P3 P4 h0 hlt hj
          have k0 : (0 : Int) ≤ (k : Int) := by omega
          have k4 : k ≤ cl := by omega
          generalize ss.length = N at *
          have k1 : (k : Int) ≤ (N : Int) := by omega
          have k2 : (k : Int) ≤ (cl : Int) := by omega
          have k3 : (N : Int) ≤ (cl : Int) := by omega
          go_wp2_with fail
          go_region_held3 (fun w' => Stay w w' (some ⟨g, 0, none⟩) ((tks ss).map AddW.lone) (some ⟨w1.heap.size, 0, none⟩) [AddW.lone aTk])
            (first | assumption | exact Stay.more (by assumption) hb)
            (first
              | (go_at_call 8; with_reducible refine Calls.mono (Q1.out _ ?_) ?_; (exact Stay.one (by assumption)); rintro e w' ⟨rfl, hb⟩)
              | (go_at_call 8; with_reducible refine Calls.mono (Q2.out _ ?_) ?_; (exact (split_row HLEN.out (Stay.one (by assumption))).1); rintro e w' ⟨rfl, hb⟩)
              | (go_at_call 8; with_reducible refine Calls.mono (Q3.out _ ?_) ?_; (rw [← HO.out]; exact (split_row HLEN.out (Stay.one (by assumption))).2); rintro e w' ⟨rfl, hb⟩)
              | (go_at_call 8; with_reducible refine Calls.mono (Q4.out _ ?_) ?_; (exact Stay.two (by assumption)); rintro e w' ⟨rfl, hb⟩))
          go_wp2
          go_ret
          exact ⟨rfl, Stay.bel (by assumption)⟩
        · obtain rfl : cl = k := by omega
          have hy := HYN.out (by omega)
          subst hy
          have Q2 := Aside0.mk fun W => P2.out W (some ⟨g, 0, none⟩) cl
          have Q3 := Aside0.mk fun (W : World) => print_fine (some ⟨g, 0, none⟩) 0 0 [] W rfl (by omega) (fun t ht => by cases ht) (row_nil W 13 _) ⟨#[]⟩ rfl
          have Q4 := Aside0.mk fun W => P4.out W w1.heap.size
          clear P1 P2 P3 P4 h0 hlt hj HYN
          generalize ss.length = N at *
          obtain rfl : N = cl := by omega
          have n2 := app_nil
          have hs2 : ¬ 9223372036854775807 < x.size := by omega
          clear hkc hk hgc hsum
          go_wp2_with fail
          go_region_held3 (fun w' => Stay w w' (some ⟨g, 0, none⟩) ((tks ss).map AddW.lone) (some ⟨w1.heap.size, 0, none⟩) [AddW.lone aTk])
            (first | assumption | exact Stay.more (by assumption) hb)
            (first
              | (go_at_call 8; with_reducible refine Calls.mono (Q2.out _ ?_) ?_; (exact (split_row HLEN.out (Stay.one (by assumption))).1); rintro e w' ⟨rfl, hb⟩)
              | (go_at_call 8; with_reducible refine Calls.mono (Q3.out _) ?_; rintro e w' ⟨rfl, hb⟩)
              | (go_at_call 8; with_reducible refine Calls.mono (Q4.out _ ?_) ?_; (exact Stay.two (by assumption)); rintro e w' ⟨rfl, hb⟩))
          go_wp2
          go_ret
          exact ⟨rfl, Stay.bel (by assumption)⟩

end Go.Proofs.YtgidfhpcobpinaaDoor.PcW
