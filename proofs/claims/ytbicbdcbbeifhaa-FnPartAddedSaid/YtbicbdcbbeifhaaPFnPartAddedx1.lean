-- PRINTED BY print.sh 35421559b90ae4d0a3588c463048766b98c2df88dd9212a6774a882060cdf62d: not written by this session
import Derived.Test.YtbicbdcbbeifhaaPFnPartAddedx0
namespace Go.Proofs.Ytbicbdcbbeifhaa.PFnPartAdded
open Go.RowKit Go.Proofs.YtbicbdcbbeifhaaW.PrintWords Go.Proofs.YtbicbdcbbeifhaaW.PrintLast Go.Proofs.YtbicbdcbbeifhaaW.PrintMore
attribute [local go_sem] max2_int min2_int max_two min_two max_three min_three max_four min_four   -- for this text's walks alone
set_option linter.unusedVariables false
set_option linter.unusedSimpArgs false

/-! ### laws_lxToken: function 15 -/
def laws_lxToken.f (a0 : Int) (a1 : ByteArray) (a2 : Int) : Option (Int × Int × Int × ByteArray × ByteArray × ByteArray × Int × Int × Int × Int × Int × Int × Int) := some (a0, 0, 0, a1, a1, (⟨#[]⟩ : ByteArray), 1, a2, 0, 0, 0, (-1), (-1))
set_option maxHeartbeats 8000000 in
set_option maxRecDepth 100000 in
theorem laws_lxToken.calls (a0 : Int) (a1 : ByteArray) (a2 : Int) (r1 : Int) (r2 : Int) (r3 : Int) (r4 : ByteArray) (r5 : ByteArray) (r6 : ByteArray) (r7 : Int) (r8 : Int) (r9 : Int) (r10 : Int) (r11 : Int) (r12 : Int) (r13 : Int) (w : World) (h : laws_lxToken.f a0 a1 a2 = some (r1, r2, r3, r4, r5, r6, r7, r8, r9, r10, r11, r12, r13)) :
    Calls Try.prog 15 #[.int .i64 a0, .string a1, .int .i64 a2] w fun e w' => e = .returned (.agg #[.int .i64 r1, .int .i64 r2, .int .i64 r3, .string r4, .string r5, .string r6, .int .i64 r7, .int .i64 r8, .int .i64 r9, .int .i64 r10, .int .i64 r11, .int .i64 r12, .int .i64 r13]) ∧ Below w.heap.size w w' := by
  have hu38 := Try.underlying38
  have hu36 := Try.underlying36
  have HB := Aside0.mk (Below.refl w.heap.size w)
  have H : (some (a0, 0, 0, a1, a1, (⟨#[]⟩ : ByteArray), 1, a2, 0, 0, 0, (-1), (-1))) = some (r1, r2, r3, r4, r5, r6, r7, r8, r9, r10, r11, r12, r13) := h
  clear h
  simp only [Option.some.injEq, Prod.mk.injEq] at H
  obtain ⟨rfl, rfl, rfl, rfl, rfl, rfl, rfl, rfl, rfl, rfl, rfl, rfl, rfl⟩ := H
  go_enter Try.func15, Try.ntmps15
  go_wp2_with (first | ((with_reducible refine gate_dst (N := 6) rfl ?_); refine box_event ?hg (N := 6) ?hd (cs := #[.int .i64 0, .int .i64 0, .int .i64 0, .string (⟨#[]⟩ : ByteArray), .string (⟨#[]⟩ : ByteArray), .string (⟨#[]⟩ : ByteArray), .int .i64 0, .int .i64 0, .int .i64 0, .int .i64 0, .int .i64 0, .int .i64 0, .int .i64 0]) (t := 38) ?hr ?_; (case hd => rfl); (case hg => rfl); (case hr => first | (go_simp; done) | (go_simp; rfl)); intro gb101 hg w4 hbox hb; have n0_ := Aside0.mk (below_step (by repeat (first | (with_reducible first | exact HB.out | apply below_alloc | apply pw_below_drewN | apply below_drew1) | exact HB.out)) hb); have n1_ := Aside0.mk (hbox); have n2_ := Aside0.mk ((by rw [hg]; exact (below_size (by repeat (first | (with_reducible first | exact HB.out | apply below_alloc | apply pw_below_drewN | apply below_drew1) | exact HB.out))) : w.heap.size ≤ gb101)); have n3_ := Aside0.mk ((by rw [hg]; exact (below_size (by repeat (first | (with_reducible first | exact HB.out | apply below_alloc | apply pw_below_drewN | apply below_drew1) | exact HB.out))) : w.heap.size ≤ gb101)); clear HB; have HB := n0_; have BK101 := n1_; have GW101 := n2_; have GE101 := n3_; clear n0_ n1_ n2_ n3_; clear hb hbox hg; have hcz5_0 : w4.cell? ⟨gb101, 0, none⟩ = some (.int .i64 0) := (blk_cell BK101.out 0).trans rfl; have hcz5_1 : w4.cell? ⟨gb101, 1, none⟩ = some (.int .i64 0) := (blk_cell BK101.out 1).trans rfl; have hcz5_2 : w4.cell? ⟨gb101, 2, none⟩ = some (.int .i64 0) := (blk_cell BK101.out 2).trans rfl; have hcz5_3 : w4.cell? ⟨gb101, 3, none⟩ = some (.string (⟨#[]⟩ : ByteArray)) := (blk_cell BK101.out 3).trans rfl; have hcz5_4 : w4.cell? ⟨gb101, 4, none⟩ = some (.string (⟨#[]⟩ : ByteArray)) := (blk_cell BK101.out 4).trans rfl; have hcz5_5 : w4.cell? ⟨gb101, 5, none⟩ = some (.string (⟨#[]⟩ : ByteArray)) := (blk_cell BK101.out 5).trans rfl; have hcz5_6 : w4.cell? ⟨gb101, 6, none⟩ = some (.int .i64 0) := (blk_cell BK101.out 6).trans rfl; have hcz5_7 : w4.cell? ⟨gb101, 7, none⟩ = some (.int .i64 0) := (blk_cell BK101.out 7).trans rfl; have hcz5_8 : w4.cell? ⟨gb101, 8, none⟩ = some (.int .i64 0) := (blk_cell BK101.out 8).trans rfl; have hcz5_9 : w4.cell? ⟨gb101, 9, none⟩ = some (.int .i64 0) := (blk_cell BK101.out 9).trans rfl; have hcz5_10 : w4.cell? ⟨gb101, 10, none⟩ = some (.int .i64 0) := (blk_cell BK101.out 10).trans rfl; have hcz5_11 : w4.cell? ⟨gb101, 11, none⟩ = some (.int .i64 0) := (blk_cell BK101.out 11).trans rfl; have hcz5_12 : w4.cell? ⟨gb101, 12, none⟩ = some (.int .i64 0) := (blk_cell BK101.out 12).trans rfl; have hfz5_0 := blk_frozen BK101.out 0; have hfz5_1 := blk_frozen BK101.out 1; have hfz5_2 := blk_frozen BK101.out 2; have hfz5_3 := blk_frozen BK101.out 3; have hfz5_4 := blk_frozen BK101.out 4; have hfz5_5 := blk_frozen BK101.out 5; have hfz5_6 := blk_frozen BK101.out 6; have hfz5_7 := blk_frozen BK101.out 7; have hfz5_8 := blk_frozen BK101.out 8; have hfz5_9 := blk_frozen BK101.out 9; have hfz5_10 := blk_frozen BK101.out 10; have hfz5_11 := blk_frozen BK101.out 11; have hfz5_12 := blk_frozen BK101.out 12))
  refine bodyPost_ret (results_cell_row rfl _ _ gb101 38 #[.int .i64 a0, .int .i64 0, .int .i64 0, .string a1, .string a1, .string (⟨#[]⟩ : ByteArray), .int .i64 1, .int .i64 a2, .int .i64 0, .int .i64 0, .int .i64 0, .int .i64 (-1), .int .i64 (-1)] (0, 0) _ rfl (by (with_reducible repeat (first | refine blk_drewN ?_ _ | refine blk_drew ?_ | refine blk_alloc ?_ _)); refine blk_put (cs := #[.int .i64 a0, .int .i64 0, .int .i64 0, .string a1, .string a1, .string (⟨#[]⟩ : ByteArray), .int .i64 1, .int .i64 a2, .int .i64 0, .int .i64 0, .int .i64 0, .int .i64 (-1), .int .i64 0]) ?_ 12 _ rfl; (with_reducible repeat (first | refine blk_drewN ?_ _ | refine blk_drew ?_ | refine blk_alloc ?_ _)); refine blk_put (cs := #[.int .i64 a0, .int .i64 0, .int .i64 0, .string a1, .string a1, .string (⟨#[]⟩ : ByteArray), .int .i64 1, .int .i64 a2, .int .i64 0, .int .i64 0, .int .i64 0, .int .i64 0, .int .i64 0]) ?_ 11 _ rfl; (with_reducible repeat (first | refine blk_drewN ?_ _ | refine blk_drew ?_ | refine blk_alloc ?_ _)); refine blk_put (cs := #[.int .i64 a0, .int .i64 0, .int .i64 0, .string a1, .string a1, .string (⟨#[]⟩ : ByteArray), .int .i64 1, .int .i64 a2, .int .i64 0, .int .i64 0, .int .i64 0, .int .i64 0, .int .i64 0]) ?_ 10 _ rfl; (with_reducible repeat (first | refine blk_drewN ?_ _ | refine blk_drew ?_ | refine blk_alloc ?_ _)); refine blk_put (cs := #[.int .i64 a0, .int .i64 0, .int .i64 0, .string a1, .string a1, .string (⟨#[]⟩ : ByteArray), .int .i64 1, .int .i64 a2, .int .i64 0, .int .i64 0, .int .i64 0, .int .i64 0, .int .i64 0]) ?_ 9 _ rfl; (with_reducible repeat (first | refine blk_drewN ?_ _ | refine blk_drew ?_ | refine blk_alloc ?_ _)); refine blk_put (cs := #[.int .i64 a0, .int .i64 0, .int .i64 0, .string a1, .string a1, .string (⟨#[]⟩ : ByteArray), .int .i64 1, .int .i64 a2, .int .i64 0, .int .i64 0, .int .i64 0, .int .i64 0, .int .i64 0]) ?_ 8 _ rfl; (with_reducible repeat (first | refine blk_drewN ?_ _ | refine blk_drew ?_ | refine blk_alloc ?_ _)); refine blk_put (cs := #[.int .i64 a0, .int .i64 0, .int .i64 0, .string a1, .string a1, .string (⟨#[]⟩ : ByteArray), .int .i64 1, .int .i64 0, .int .i64 0, .int .i64 0, .int .i64 0, .int .i64 0, .int .i64 0]) ?_ 7 _ rfl; (with_reducible repeat (first | refine blk_drewN ?_ _ | refine blk_drew ?_ | refine blk_alloc ?_ _)); refine blk_put (cs := #[.int .i64 a0, .int .i64 0, .int .i64 0, .string a1, .string a1, .string (⟨#[]⟩ : ByteArray), .int .i64 0, .int .i64 0, .int .i64 0, .int .i64 0, .int .i64 0, .int .i64 0, .int .i64 0]) ?_ 6 _ rfl; (with_reducible repeat (first | refine blk_drewN ?_ _ | refine blk_drew ?_ | refine blk_alloc ?_ _)); refine blk_put (cs := #[.int .i64 a0, .int .i64 0, .int .i64 0, .string a1, .string a1, .string (⟨#[]⟩ : ByteArray), .int .i64 0, .int .i64 0, .int .i64 0, .int .i64 0, .int .i64 0, .int .i64 0, .int .i64 0]) ?_ 5 _ rfl; (with_reducible repeat (first | refine blk_drewN ?_ _ | refine blk_drew ?_ | refine blk_alloc ?_ _)); refine blk_put (cs := #[.int .i64 a0, .int .i64 0, .int .i64 0, .string a1, .string (⟨#[]⟩ : ByteArray), .string (⟨#[]⟩ : ByteArray), .int .i64 0, .int .i64 0, .int .i64 0, .int .i64 0, .int .i64 0, .int .i64 0, .int .i64 0]) ?_ 4 _ rfl; (with_reducible repeat (first | refine blk_drewN ?_ _ | refine blk_drew ?_ | refine blk_alloc ?_ _)); refine blk_put (cs := #[.int .i64 a0, .int .i64 0, .int .i64 0, .string (⟨#[]⟩ : ByteArray), .string (⟨#[]⟩ : ByteArray), .string (⟨#[]⟩ : ByteArray), .int .i64 0, .int .i64 0, .int .i64 0, .int .i64 0, .int .i64 0, .int .i64 0, .int .i64 0]) ?_ 3 _ rfl; (with_reducible repeat (first | refine blk_drewN ?_ _ | refine blk_drew ?_ | refine blk_alloc ?_ _)); refine blk_put (cs := #[.int .i64 a0, .int .i64 0, .int .i64 0, .string (⟨#[]⟩ : ByteArray), .string (⟨#[]⟩ : ByteArray), .string (⟨#[]⟩ : ByteArray), .int .i64 0, .int .i64 0, .int .i64 0, .int .i64 0, .int .i64 0, .int .i64 0, .int .i64 0]) ?_ 2 _ rfl; (with_reducible repeat (first | refine blk_drewN ?_ _ | refine blk_drew ?_ | refine blk_alloc ?_ _)); refine blk_put (cs := #[.int .i64 a0, .int .i64 0, .int .i64 0, .string (⟨#[]⟩ : ByteArray), .string (⟨#[]⟩ : ByteArray), .string (⟨#[]⟩ : ByteArray), .int .i64 0, .int .i64 0, .int .i64 0, .int .i64 0, .int .i64 0, .int .i64 0, .int .i64 0]) ?_ 1 _ rfl; (with_reducible repeat (first | refine blk_drewN ?_ _ | refine blk_drew ?_ | refine blk_alloc ?_ _)); refine blk_put (cs := #[.int .i64 0, .int .i64 0, .int .i64 0, .string (⟨#[]⟩ : ByteArray), .string (⟨#[]⟩ : ByteArray), .string (⟨#[]⟩ : ByteArray), .int .i64 0, .int .i64 0, .int .i64 0, .int .i64 0, .int .i64 0, .int .i64 0, .int .i64 0]) ?_ 0 _ rfl; (with_reducible repeat (first | refine blk_drewN ?_ _ | refine blk_drew ?_ | refine blk_alloc ?_ _)); exact BK101.out) Try.underlying38 rfl (by kernel_rfl)) rfl ?_
  exact ⟨by first | rfl | (simp [errW_none, errW_some] <;> rfl) | (simp [*, errW_none, errW_some] <;> rfl), by repeat (first | (with_reducible first | exact HB.out | apply below_alloc | apply pw_below_drewN | apply below_drew1 | refine below_set ?_ GE101.out) | exact HB.out)⟩

/-! ### impl_small: function 28 -/
def impl_small.f (a0 : Int) : Option (Int) := if a0 < 0 then (some 0) else (if a0 > 200 then (some 0) else (some a0))
set_option maxHeartbeats 8000000 in
set_option maxRecDepth 100000 in
theorem impl_small.calls (a0 : Int) (r : Int) (w : World) (h : impl_small.f a0 = some r) :
    Calls Try.prog 28 #[.int .i64 a0] w fun e w' => e = .returned (.int .i64 r) ∧ Drawn0 w w' := by
  have H : (if a0 < 0 then (some 0) else (if a0 > 200 then (some 0) else (some a0))) = some r := h
  clear h
  by_cases c2 : a0 < 0
  · rw [if_pos c2] at H
    have c2b0 : decide (a0 < 0) = true := decide_eq_true c2
    clear c2
    obtain rfl := Option.some.inj H
    go_enter Try.func28, Try.ntmps28
    go_wp2
    go_ret
    exact ⟨by first | rfl | (simp; done) | (simp [*]; done), by repeat (first | exact Drawn0.refl _ | apply Drawn0.step)⟩
  · rw [if_neg c2] at H
    have c2b0 : decide (a0 < 0) = false := decide_eq_false c2
    clear c2
    by_cases c3 : a0 > 200
    · rw [if_pos c3] at H
      have c3b0 : decide (200 < a0) = true := decide_eq_true c3
      clear c3
      obtain rfl := Option.some.inj H
      go_enter Try.func28, Try.ntmps28
      go_wp2
      go_ret
      exact ⟨by first | rfl | (simp; done) | (simp [*]; done), by repeat (first | exact Drawn0.refl _ | apply Drawn0.step)⟩
    · rw [if_neg c3] at H
      have c3b0 : decide (200 < a0) = false := decide_eq_false c3
      clear c3
      obtain rfl := Option.some.inj H
      go_enter Try.func28, Try.ntmps28
      go_wp2
      go_ret
      exact ⟨by first | rfl | (simp; done) | (simp [*]; done), by repeat (first | exact Drawn0.refl _ | apply Drawn0.step)⟩

-- NOT PRINTED: function 31 (impl_position)

-- NOT PRINTED: function 23 (impl_made)

-- NOT PRINTED: function 32 (token_Tokens_add)

-- NOT PRINTED: function 24 (token_Tokens_Add)

-- NOT PRINTED: function 33 (impl_place)

-- NOT PRINTED: function 34 (impl_index)

-- NOT PRINTED: function 25 (impl_list)

-- NOT PRINTED: function 16 (impl_Added)

-- NOT PRINTED: function 6 (laws_FnPartAdded)

end Go.Proofs.Ytbicbdcbbeifhaa.PFnPartAdded
