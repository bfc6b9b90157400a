/- FnGroupTokens: the law's walk. -/
import Derived.Test.YtgidfhpcobpinaaDoorGtEnd
import Derived.Test.YtgidfhpcobpinaaDoorGtPure
namespace Go.Proofs.YtgidfhpcobpinaaDoor.GtW
open Go.RowKit Go.Proofs.YtgidfhpcobpinaaDoor.PFnGroupTokens Go.Proofs.YtgidfhpcobpinaaDoorW.PrintWords Go.Proofs.YtgidfhpcobpinaaDoorW.PrintLast Go.Proofs.YtgidfhpcobpinaaDoorW.PrintMore
open Go.Proofs.YtgidfhpcobpinaaDoor.AddM Go.Proofs.YtgidfhpcobpinaaDoor.GtM
open Go.Proofs.YtgidfhpcobpinaaDoor.AddW (Ok)
attribute [local go_sem ↓] Go.wp_at_zero Go.wp_at_succ
set_option linter.unusedSimpArgs false
set_option linter.unusedVariables false

/-- A row of bytes as it comes in. -/
def IsRow8 (w : World) (a : Option Addr) (len cap : Nat) (zs : List Int) : Prop :=
  (a = none ∧ len = 0 ∧ cap = 0 ∧ zs = []) ∨
  ∃ x, a = some x ∧ len ≤ cap ∧ cap ≤ maxLen ∧ zs.length = cap ∧ (∀ i, i < zs.length → w.cell? (x.add i) = some (.int .u8 (zs.getD i 0))) ∧ ∀ n ∈ zs, (Lit.int .u8 n).wf = true

theorem row8_c {w : World} {a : Option Addr} {len cap : Nat} {zs : List Int} (h : IsRow8 w a len cap zs) : ∃ l, l.length = len ∧ len ≤ cap ∧ Kd.C (Kd.int .u8) w a l.length l ∧ ∀ z ∈ l, 0 ≤ z ∧ z < 256 := by
  rcases h with ⟨rfl, rfl, rfl, rfl⟩ | ⟨x, rfl, h1, h2, h3, h4, h5⟩
  · exact ⟨[], rfl, Nat.le_refl _, ⟨rfl, by simp, fun h => absurd h (by simp)⟩, fun z hz => by cases hz⟩
  · refine ⟨zs.take len, by simp; omega, h1, ?_, fun z hz => ?_⟩
    · have hl : (zs.take len).length = len := by simp; omega
      refine ⟨rfl, by rw [hl]; unfold maxLen at h2; omega, fun _ => ⟨x, rfl, fun j p hj => ⟨[.int .u8 p], rfl, rfl, fun i u hu => ?_⟩⟩⟩
      cases i with
      | zero =>
        simp only [List.getElem?_cons_zero, Option.some.injEq] at hu
        subst hu
        have hjl := (List.getElem?_eq_some_iff.1 hj).1
        rw [hl] at hjl
        rw [List.getElem?_take, if_pos hjl] at hj
        have := h4 j (by omega)
        rw [List.getD_eq_getElem?_getD, hj] at this
        show w.cell? (x.add (j * 1 + 0)) = _
        rw [Nat.mul_one, Nat.add_zero]
        exact this
      | succ i => simp at hu
    · have := h5 z (List.mem_of_mem_take hz)
      simp only [Lit.wf, Bool.and_eq_true, decide_eq_true_eq] at this
      have hmin : IntKind.u8.min = 0 := rfl
      have hmax : IntKind.u8.max = 255 := rfl
      omega

def toTk (s : S29) : Tk := ⟨s.f0, s.f1, s.f2, s.f3, s.f4, s.f5, ⟨s.f6.f0, s.f6.f1, s.f6.f2, s.f6.f3, s.f6.f4⟩⟩
def cells29 (s : S29) : List Value := tkList (toTk s) s.f7 s.f8

theorem row_of {w : World} {base : Nat} {v : Value} {r : List S29} (h : Kd.R k29 29 w base (fun _ => True) v r) : ∃ A c, v = .slice A r.length c ∧ Row w 13 A (r.map cells29) := by
  obtain ⟨A, c, rfl⟩ := Kd.R_slice h
  refine ⟨A, c, rfl, fun x hx => ?_, fun hn => ?_⟩
  · obtain ⟨s, _, rfl⟩ := List.mem_map.1 hx; rfl
  · rw [List.length_map] at hn
    obtain ⟨g, cap, he, -⟩ := Kd.R_form h hn
    injection he with he _ _
    subst he
    refine ⟨g, 0, rfl, fun j x i u hj hi => ?_⟩
    obtain ⟨_, _, hC⟩ := Kd.R_reads' h
    obtain ⟨ad, e, hc⟩ := hC.2.2 hn
    injection e with e
    subst e
    rw [List.getElem?_map] at hj
    obtain ⟨s, hs, rfl⟩ := Option.map_eq_some_iff.1 hj
    obtain ⟨cs, _, hK, hcell⟩ := hc j s hs
    have := hcell i u (by rw [k29_open hK]; exact hi)
    rw [add_plain] at this
    rw [Nat.zero_add]
    exact this

set_option maxRecDepth 100000 in
set_option maxHeartbeats 2000000 in
theorem law_any (a0 : Option Addr) (len0 cap0 : Nat) (z0 : List Int) (w : World) (h0 : IsRow8 w a0 len0 cap0 z0) :
    Calls Tryd.prog 4 #[.slice a0 len0 cap0] w fun e w' => e = .returned (.bool true) ∧ Below w.heap.size w w' := by
  obtain ⟨l, hl, hlc, hC, hb⟩ := row8_c h0
  obtain ⟨r, hr, hr16, hrt⟩ := tr_any l hb
  have HTR := Aside0.mk (laws_trTokens.calls 17 a0 cap0 l r w hC (by omega) hr)
  rw [hl] at HTR
  have HR16 := Aside0.mk hr16
  have HRT := Aside0.mk hrt
  have HBR := Aside0.mk (Below.refl w.heap.size w)
  clear h0 hlc hC hb hr hr16 hrt hl
  by_cases hbig : (len0 : Int) > 2147483647
  · go_enter Tryd.func4, Tryd.ntmps4
    go_wp2_with fail
    go_ret
    exact ⟨rfl, HBR.out⟩
  · go_enter Tryd.func4, Tryd.ntmps4
    go_wp2_with fail
    refine HTR.out.mono ?_
    rintro e w1 ⟨v, rfl, hR, hb1⟩
    obtain ⟨A, c, rfl, hrow⟩ := row_of hR
    have hgt := group_tokens_any A c (r.map toTk) (r.map cells29) w1 (by rw [List.length_map]; have := HR16.out; omega)
      (fun t ht => by
        obtain ⟨s, hs, rfl⟩ := List.mem_map.1 ht
        obtain ⟨j, hj⟩ := List.getElem?_of_mem hs
        obtain ⟨_, _, h6, _, _⟩ := HRT.out j s hj
        have hjl := (List.getElem?_eq_some_iff.1 hj).1
        have := HR16.out
        unfold Ok toTk
        rw [h6]
        refine ⟨?_, ?_, ?_, ?_⟩
        · show (1 : Int) ≤ (j : Int) + 1; omega
        · show (j : Int) + 1 ≤ 200; omega
        · show (0 : Int) ≤ 0; omega
        · show (0 : Int) ≤ 200; omega)
      (fun t ht => by
        obtain ⟨s, hs, rfl⟩ := List.mem_map.1 ht
        obtain ⟨j, hj⟩ := List.getElem?_of_mem hs
        obtain ⟨h1, h2, h6, _, _⟩ := HRT.out j s hj
        refine ⟨h1, ?_, h2⟩
        show s.f6.f0 = 1
        rw [h6])
      hrow
      (fun k t ht => by
        rw [List.getElem?_map] at ht ⊢
        obtain ⟨s, hs, rfl⟩ := Option.map_eq_some_iff.1 ht
        obtain ⟨_, _, _, h7, h8⟩ := HRT.out k s hs
        rw [hs]
        show some (tkList (toTk s) s.f7 s.f8) = _
        rw [h7, h8])
    rw [List.length_map] at hgt
    have HGT := Aside0.mk hgt
    have HB1 := Aside0.mk hb1
    clear hgt hb1 hrow hR HTR
    go_wp2_with fail
    refine HGT.out.mono ?_
    intro e w2 hG
    cases hG with
    | bad p he hb hn =>
      subst he
      have HB2 := Aside0.mk (below_then HB1.out HB1.out.size hb)
      have HN := Aside0.mk hn
      clear hb hn HGT
      simp only [faultV]
      go_wp2_with fail
      go_ret
      refine ⟨by show Ending.returned (.bool (decide (0 < r.length))) = _; rw [decide_eq_true HN.out], ?_⟩
      repeat (first | (with_reducible refine below_alloc ?_ _) | (with_reducible refine pw_below_drewN ?_ _) | (with_reducible exact HB2.out))
    | ok v t he hy hlt hs hR hb =>
      subst he
      obtain ⟨A3, c3, rfl⟩ := Kd.R_slice hR
      have hyl : (yields t).length ≤ 1000 := by rw [hy, List.length_range]; have := HR16.out; omega
      obtain ⟨K, hK⟩ := grouped_any (cnts t + 1) t (Nat.lt_succ_self _) hlt hs hyl
      have hR3 := Kd.R_reads' (Kd.R_alloc hR (.cells #[.int .i64 0, .int .i64 0, .int .i64 0, .int .i64 0, .int .i64 0, .int .i64 0] 37))
      have HSG := Aside0.mk (spec_Grouped.calls K A3 c3 (s66s t) (ints (yields t)) (w2.alloc (.cells #[.int .i64 0, .int .i64 0, .int .i64 0, .int .i64 0, .int .i64 0, .int .i64 0] 37)) hR3.2.2 (hR3.2.1) (hK K (Nat.le_refl _)))
      have HB2 := Aside0.mk (below_then HB1.out HB1.out.size hb)
      have HY := Aside0.mk hy
      clear hb hR hR3 hK hyl hy hlt hs HGT
      simp only [faultV]
      go_wp2_with fail
      refine HSG.out.mono ?_
      rintro e w4 ⟨v4, rfl, hR4, hb4⟩
      obtain ⟨A4, c4, rfl⟩ := Kd.R_slice hR4
      rw [HY.out] at hR4
      have hR5 := Kd.R_reads' hR4
      have hcn := laws_trCounted.calls (r.length + 1) A4 c4 (ints (List.range r.length)) (r.length : Int) true w4 hR5.2.2 (by rw [← HY.out] at hR5 ⊢; exact hR5.2.1) (counted_any r.length (by have := HR16.out; omega))
      rw [← HY.out] at hcn
      have HCN := Aside0.mk hcn
      have HB4 : Aside0 (Below w.heap.size w w4) := ⟨below_then (below_alloc HB2.out _) (Nat.le_trans HB2.out.size (by simp)) hb4⟩
      clear hR4 hR5 hcn hb4
      go_wp2_with fail
      refine HCN.out.mono ?_
      rintro e w5 ⟨rfl, hd⟩
      have HD := Aside0.mk hd
      clear hd
      go_wp2_with fail
      go_ret
      refine ⟨rfl, ?_⟩
      exact below_then HB4.out HB4.out.size (HD.out.below)

end Go.Proofs.YtgidfhpcobpinaaDoor.GtW
