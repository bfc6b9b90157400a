/- The walk of FnPartAdded. -/
import Derived.Test.YtbicbdcbbeifhaaAddWalk9
import Derived.Deep.QuietTactic
import Derived.BigQuiet
namespace Go.Proofs.Ytbicbdcbbeifhaa.AddL
open Go.RowKit Go.Proofs.Ytbicbdcbbeifhaa.PFnPartAdded Go.Proofs.YtbicbdcbbeifhaaW.PrintWords Go.Proofs.YtbicbdcbbeifhaaW.PrintLast Go.Proofs.YtbicbdcbbeifhaaW.PrintMore
open Go.Proofs.Ytbicbdcbbeifhaa.AddM Go.Proofs.Ytbicbdcbbeifhaa.AddW
set_option linter.unusedSimpArgs false
set_option linter.unusedVariables false

theorem lx_any (z i : Int) (s : ByteArray) (w : World) :
    Calls Try.prog 15 #[.int .i64 z, .string s, .int .i64 i] w fun e w' => e = .returned (.agg #[.int .i64 z, .int .i64 0, .int .i64 0, .string s, .string s, .string ⟨#[]⟩, .int .i64 1, .int .i64 i, .int .i64 0, .int .i64 0, .int .i64 0, .int .i64 (-1), .int .i64 (-1)]) ∧ Below w.heap.size w w' :=
  laws_lxToken.calls z s i _ _ _ _ _ _ _ _ _ _ _ _ _ w rfl

set_option maxRecDepth 100000 in
set_option maxHeartbeats 400000 in
theorem law_large (A : Option Addr) (c : Nat) (l : List Int) (s : ByteArray) (w : World) (hl : l.length ≤ 140737488351232) (hs : s.size ≤ 140737488351232) (h : 2147483647 < l.length ∨ 2147483647 < s.size ∨ 100 < l.length) :
    Calls Try.prog 6 #[.slice A l.length c, .string s] w fun e w' => e = .returned (.bool true) ∧ Below w.heap.size w w' := by
  by_cases h1 : 2147483647 < l.length
  · go_enter Try.func6, Try.ntmps6
    go_wp2_with fail
    go_ret
    exact ⟨rfl, Below.refl _ _⟩
  · by_cases h2 : 2147483647 < s.size
    · go_enter Try.func6, Try.ntmps6
      go_wp2_with fail
      go_ret
      exact ⟨rfl, Below.refl _ _⟩
    · have h3 : 100 < l.length := by omega
      go_enter Try.func6, Try.ntmps6
      go_wp2_with fail
      go_ret
      exact ⟨rfl, Below.refl _ _⟩

set_option maxRecDepth 100000 in
set_option maxHeartbeats 4000000 in
theorem law_in (A : Option Addr) (c : Nat) (l : List Int) (s : ByteArray) (w : World) (hl : l.length ≤ 100) (hs : s.size ≤ 2147483647) (hr : ReadsInt w .u8 A l.length l) (hw : ∀ x ∈ l, (Lit.int .u8 x).wf = true) :
    Calls Try.prog 6 #[.slice A l.length c, .string s] w fun e w' => e = .returned (.bool true) ∧ Below w.heap.size w w' := by
  have HR := Aside0.mk hr
  have HW := Aside0.mk hw
  clear hr hw
  obtain ⟨i0, hi0, hz0, hz1, hz2⟩ := info_parts info38
  go_enter Try.func6, Try.ntmps6
  go_wp2_with fail
  go_loopw [5, 6, 7, 25] (fun v _ _ i wr => ∃ k : Nat, k ≤ l.length ∧ i = .int .i64 k ∧ Aside0 (Laid w wr (tks s l) k v)) (fun _ _ _ i _ => l.length - (intOf i).toNat)
  case atStart => exact ⟨0, by omega, rfl, ⟨⟨Below.refl _ _, World.ownsRow_nil _ _ _ _⟩⟩⟩
  case round =>
    obtain ⟨k, hk, rfl, hA⟩ := hrel
    have hsz : w.heap.size ≤ wr.heap.size := hA.out.1.size
    by_cases hlt : k < l.length
    · obtain ⟨ad, rfl, hc⟩ := (HR.out.below hA.out.1).at_ (k : Int) (by omega) (by omega)
      rw [Int.toNat_natCast] at hc
      have hz : l[k]? = some (rd l k) := by simp [rd, List.getElem?_eq_getElem hlt]
      have hb := HW.out _ (List.mem_of_getElem? hz)
      have hb0 : 0 ≤ rd l k ∧ rd l k ≤ 255 := by
        have : IntKind.u8.min ≤ rd l k ∧ rd l k ≤ IntKind.u8.max := by simpa [Lit.wf] using hb
        have e : IntKind.u8.min = 0 ∧ IntKind.u8.max = 255 := by decide
        omega
      obtain ⟨z0, z1⟩ := hb0
      have HZ := Aside0.mk (tks_at s l k _ hz)
      clear hb hz
      generalize rd l k = z at *
      have HO := Aside0.mk hA.out.2
      go_wp2_with fail
      refine (lx_any _ _ _ _).mono ?_
      rintro e w1 ⟨rfl, hb1⟩
      have HB1 := Aside0.mk hb1
      have hsz1 : wr.heap.size ≤ w1.heap.size := hb1.size
      clear hb1 hc
      go_wp2_with (at_builtin; refine wpList_append_lies _ (by rfl) _ _ _ (by rfl) w.heap.size 38 i0 _ 13 128 Try.underlying34 hi0 hz0 hz1 hz2 rfl (by omega) u5 k _ (by rfl) (own_alloc (pw_own_below HO.out HB1.out) _) ⟨w1.heap.size, 0, none⟩ 1 1 [.int .i64 (z % 34), .int .i64 0, .int .i64 0, .string s, .string s, .string ⟨#[]⟩, .int .i64 1, .int .i64 ((k : Int) + 1), .int .i64 0, .int .i64 0, .int .i64 0, .int .i64 (-1), .int .i64 (-1)] (by rfl) (by rfl) (World.news_of_block (cs := #[.int .i64 (z % 34), .int .i64 0, .int .i64 0, .string s, .string s, .string ⟨#[]⟩, .int .i64 1, .int .i64 ((k : Int) + 1), .int .i64 0, .int .i64 0, .int .i64 0, .int .i64 (-1), .int .i64 (-1)]) (t := 38) (fr := (0, 0)) (blk_top (by simp))) (by simp [Value.oneCell']) (by omega) (by unfold maxLen; omega) (by omega) (by simp; omega) (w1.heap.size + 1) (by simp) ?_; intro gg cap w2 hown2 hgrow hat hlt1; have HF := Aside0.mk (laid_step hA.out HZ.out HB1.out hgrow hown2); clear hown2 hgrow hat hlt1)
      go_roundw
      case rel => exact ⟨k + 1, by omega, by go_num, HF⟩
      case measure => simp [intOf]; omega
    · obtain rfl : k = l.length := by omega
      obtain ⟨_, hown⟩ := hA.out
      obtain ⟨Al, cl, rfl⟩ := own_slice hown
      have hn : (tks s l).length = l.length := tks_len s l
      have hrow : Row wr 13 Al ((tks s l).map AddW.lone) := by
        refine row_of_own (m := l.length) (c := cl) (B := w.heap.size) (e := 38) ?_ (by rw [List.length_map, hn]) ?_
        · intro x hx
          obtain ⟨t, _, rfl⟩ := List.mem_map.1 hx
          rfl
        · rwa [List.take_of_length_le (by rw [List.length_map, hn]; omega)] at hown
      have R := added_any Al cl (tks s l) wr (by omega) (tks_ok s l hl) hrow
      rw [hn] at R
      have RR := Aside0.mk R
      have HROW := Aside0.mk hrow
      clear hown R hrow hn
      go_wp2_with fail
      refine RR.out.mono ?_
      rintro e w2 ⟨v, rfl, hb2, ho2⟩
      obtain ⟨Ao, co, rfl⟩ := own_slice ho2
      have HB2 := Aside0.mk hb2
      have HO2 := Aside0.mk ho2
      clear hb2 ho2 RR
      have hrow2 : Row w2 13 Ao (res (tks s l)) := by
        refine row_of_own (m := l.length) (c := co) (B := wr.heap.size) (e := 38) ?_ (by simp [res, tks_len]) HO2.out
        intro x hx
        obtain ⟨j, hj, e⟩ := List.mem_iff_getElem.1 hx
        rw [← e]
        simp [res, resAt, tkList]
      have HROW2 := Aside0.mk hrow2
      have HROWL := Aside0.mk (HROW.out.below HB2.out)
      have HBB := Aside0.mk (below_then hA.out.1 hsz HB2.out)
      clear hrow2 hA HO2 HROW HB2
      have h0 : w.heap.size ≤ w2.heap.size := HBB.out.size
      go_wp2_with fail
      go_loopw [9, 10, 11, 50] (fun _ _ _ i wx => ∃ k : Nat, k ≤ l.length ∧ i = .int .i64 k ∧ Aside0 (Below w2.heap.size w2 wx)) (fun _ _ _ i _ => l.length - (intOf i).toNat)
      case atStart => exact ⟨0, by omega, rfl, ⟨Below.refl _ _⟩⟩
      case round =>
        obtain ⟨k, hk, rfl, hX⟩ := hrel
        by_cases hlt' : k < l.length
        · obtain ⟨z, hz⟩ : ∃ z, l[k]? = some z := ⟨_, List.getElem?_eq_getElem hlt'⟩
          have ht := tks_at s l k z hz
          obtain ⟨g, o, rfl, hc⟩ := (HROW2.out.below hX.out).at_ (k := k) (x := resAt l.length k (tkOf s k z)) (by rw [res, List.getElem?_mapIdx, ht, tks_len]; rfl)
          obtain ⟨g', o', rfl, hd⟩ := (HROWL.out.below hX.out).at_ (k := k) (x := AddW.lone (tkOf s k z)) (by rw [List.getElem?_map, ht]; rfl)
          clear hz ht
          have c0 : wr.cell? ⟨g, o + k * 13, none⟩ = some (.int .i64 (z % 34)) := hc 0 _ rfl
          have c1 : wr.cell? ⟨g, o + k * 13 + 1, none⟩ = some (.int .i64 0) := hc 1 _ rfl
          have c2 : wr.cell? ⟨g, o + k * 13 + 2, none⟩ = some (.int .i64 0) := hc 2 _ rfl
          have c3 : wr.cell? ⟨g, o + k * 13 + 3, none⟩ = some (.string s) := hc 3 _ rfl
          have c4 : wr.cell? ⟨g, o + k * 13 + 4, none⟩ = some (.string s) := hc 4 _ rfl
          have c5 : wr.cell? ⟨g, o + k * 13 + 5, none⟩ = some (.string ⟨#[]⟩) := hc 5 _ rfl
          have c6 : wr.cell? ⟨g, o + k * 13 + 6, none⟩ = some (.int .i64 1) := hc 6 _ rfl
          have c7 : wr.cell? ⟨g, o + k * 13 + 7, none⟩ = some (.int .i64 ((k : Int) + 1)) := hc 7 _ rfl
          have c8 : wr.cell? ⟨g, o + k * 13 + 8, none⟩ = some (.int .i64 0) := hc 8 _ rfl
          have c9 : wr.cell? ⟨g, o + k * 13 + 9, none⟩ = some (.int .i64 0) := hc 9 _ rfl
          have c10 : wr.cell? ⟨g, o + k * 13 + 10, none⟩ = some (.int .i64 0) := hc 10 _ rfl
          have c11 : wr.cell? ⟨g, o + k * 13 + 11, none⟩ = some (.int .i64 ((k : Int) - 1)) := hc 11 _ rfl
          have c12 : wr.cell? ⟨g, o + k * 13 + 12, none⟩ = some (.int .i64 (nextI l.length k)) := hc 12 _ rfl
          have d0 : wr.cell? ⟨g', o' + k * 13, none⟩ = some (.int .i64 (z % 34)) := hd 0 _ rfl
          have d6 : wr.cell? ⟨g', o' + k * 13 + 6, none⟩ = some (.int .i64 1) := hd 6 _ rfl
          have d7 : wr.cell? ⟨g', o' + k * 13 + 7, none⟩ = some (.int .i64 ((k : Int) + 1)) := hd 7 _ rfl
          have d8 : wr.cell? ⟨g', o' + k * 13 + 8, none⟩ = some (.int .i64 0) := hd 8 _ rfl
          have d9 : wr.cell? ⟨g', o' + k * 13 + 9, none⟩ = some (.int .i64 0) := hd 9 _ rfl
          have d10 : wr.cell? ⟨g', o' + k * 13 + 10, none⟩ = some (.int .i64 0) := hd 10 _ rfl
          generalize z % 34 = ty at *
          have e0 := fun O : Obj => pw_cell_below (below_alloc (Below.refl _ _) O) d0
          have e6 := fun O : Obj => pw_cell_below (below_alloc (Below.refl _ _) O) d6
          have e7 := fun O : Obj => pw_cell_below (below_alloc (Below.refl _ _) O) d7
          have e8 := fun O : Obj => pw_cell_below (below_alloc (Below.refl _ _) O) d8
          have e9 := fun O : Obj => pw_cell_below (below_alloc (Below.refl _ _) O) d9
          have e10 := fun O : Obj => pw_cell_below (below_alloc (Below.refl _ _) O) d10
          have HX : Aside0 (∀ O n, Below w2.heap.size w2 ((wr.alloc O).drewN n)) := ⟨fun O n => pw_below_drewN (below_then hX.out hX.out.size (below_alloc (Below.refl _ _) O)) n⟩
          clear hc hd hX
          by_cases hlast : k + 1 = l.length
          · have hnx : nextI l.length k = -1 := by unfold nextI; rw [if_neg (by omega)]
            rw [hnx] at c12
            have ht : ((k : Int) + 1 == (l.length : Int)) = true := beq_iff_eq.2 (by omega)
            have HLast := Aside0.mk hlast
            clear hlast hnx
            go_wp2_with fail
            clear c0 c1 c2 c3 c4 c5 c6 c7 c8 c9 c10 c11 c12 d0 d6 d7 d8 d9 d10
            have hwr : IntKind.i64.wrap ((k : Int) - 1) = (k : Int) - 1 := by rw [IntKind.wrap_i64]; omega
            have hk0 : (0 : Int) ≤ (k : Int) := by omega
            have hk1 : (k : Int) < (l.length : Int) := by omega
            go_quiet (fail)
            clear hwr
            go_wp2
            go_roundw
            case rel => exact ⟨k + 1, by omega, by go_num, ⟨HX.out _ _⟩⟩
            case measure => simp [intOf]; omega
          · have hnx : nextI l.length k = (k : Int) + 1 := by unfold nextI; rw [if_pos (by omega)]
            rw [hnx] at c12
            have ht : ((k : Int) + 1 == (l.length : Int)) = false := beq_eq_false_iff_ne.2 (by omega)
            have HLast := Aside0.mk hlast
            clear hlast hnx
            go_wp2_with fail
            clear c0 c1 c2 c3 c4 c5 c6 c7 c8 c9 c10 c11 c12 d0 d6 d7 d8 d9 d10
            have hwr : IntKind.i64.wrap ((k : Int) - 1) = (k : Int) - 1 := by rw [IntKind.wrap_i64]; omega
            have hk0 : (0 : Int) ≤ (k : Int) := by omega
            have hk1 : (k : Int) < (l.length : Int) := by omega
            go_quiet (fail)
            clear hwr
            go_wp2
            go_roundw
            case rel => exact ⟨k + 1, by omega, by go_num, ⟨HX.out _ _⟩⟩
            case measure => simp [intOf]; omega
        · obtain rfl : k = l.length := by omega
          have HF := Aside0.mk (below_then HBB.out h0 hX.out)
          go_wp2_with fail
          go_ret
          exact ⟨rfl, HF.out⟩

/-- The law, for all its arguments. -/
theorem law_any (a0 : Option Addr) (len0 cap0 : Nat) (z0 : List Int) (a1 : ByteArray) (w : World)
    (w0 : (a0 = none ∧ len0 = 0 ∧ cap0 = 0 ∧ z0 = []) ∨ ∃ x, a0 = some x ∧ len0 ≤ cap0 ∧ cap0 ≤ maxLen ∧ z0.length = cap0 ∧ (∀ i, i < z0.length → w.cell? (x.add i) = some (.int .u8 (z0.getD i 0))) ∧ ∀ n ∈ z0, (Lit.int .u8 n).wf = true)
    (y0 : len0 * 1 ≤ 140737488351232) (w1 : a1.size ≤ 140737488351232) :
    Calls Try.prog 6 #[.slice a0 len0 cap0, .string a1] w fun e w' => e = .returned (.bool true) ∧ Below w.heap.size w w' := by
  obtain ⟨l, rfl, hr, hm, hw, hc⟩ := ReadsInt.ofRowC w0
  by_cases h : l.length ≤ 100 ∧ a1.size ≤ 2147483647
  · exact law_in a0 cap0 l a1 w h.1 h.2 hr hw
  · exact law_large a0 cap0 l a1 w (by omega) w1 (by omega)

end Go.Proofs.Ytbicbdcbbeifhaa.AddL
