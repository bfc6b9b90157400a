-- PRINTED BY print.sh 35421559b90ae4d0a3588c463048766b98c2df88dd9212a6774a882060cdf62d: not written by this session
import Derived.Test.YtjdfcokeejmmeaaGreatDoorPFnPathQuotedx0
namespace Go.Proofs.YtjdfcokeejmmeaaGreatDoor.PFnPathQuoted
open Go.RowKit Go.Proofs.YtjdfcokeejmmeaaGreatDoorW.PrintWords Go.Proofs.YtjdfcokeejmmeaaGreatDoorW.PrintLast Go.Proofs.YtjdfcokeejmmeaaGreatDoorW.PrintMore
attribute [local go_sem] max2_int min2_int max_two min_two max_three min_three max_four min_four   -- for this text's walks alone
set_option linter.unusedVariables false
set_option linter.unusedSimpArgs false

/-! ### laws_trName: function 4 -/
mutual
def laws_trName.l0 : Nat → ByteArray → List Int → Int → Option (ByteArray)
  | 0, _, _, _ => none
  | k + 1, x0, x3, x4 => if x4 < (x0.size : Int) then (laws_trName.j1 k x0 x3 x4 (decide ((x3.length : Int) < 9))) else (laws_trName.j1 k x0 x3 x4 false)
def laws_trName.j1 : Nat → ByteArray → List Int → Int → Bool → Option (ByteArray)
  | 0, _, _, _, _ => none
  | k + 1, x0, x3, x4, x15 => if x15 = true then (if 0 ≤ x4 then (if x4 < (x0.size : Int) then (if (bt x0 x4) ≥ 97 then (if (bt x0 x4) ≤ 122 then (if x3.length < 140737488355328 then (laws_trName.l0 k x0 (x3 ++ [bt x0 x4]) (wrap64 (x4 + 1))) else (none)) else (if (bt x0 x4) ≥ 65 then (if (bt x0 x4) ≤ 90 then (if x3.length < 140737488355328 then (laws_trName.l0 k x0 (x3 ++ [bt x0 x4]) (wrap64 (x4 + 1))) else (none)) else (if (bt x0 x4) ≥ 48 then (if (bt x0 x4) ≤ 57 then (if x3.length < 140737488355328 then (laws_trName.l0 k x0 (x3 ++ [bt x0 x4]) (wrap64 (x4 + 1))) else (none)) else (if (bt x0 x4) = 95 then (if x3.length < 140737488355328 then (laws_trName.l0 k x0 (x3 ++ [bt x0 x4]) (wrap64 (x4 + 1))) else (none)) else (if (bt x0 x4) = 45 then (if x3.length < 140737488355328 then (laws_trName.l0 k x0 (x3 ++ [bt x0 x4]) (wrap64 (x4 + 1))) else (none)) else (laws_trName.l0 k x0 x3 (wrap64 (x4 + 1)))))) else (if (bt x0 x4) = 95 then (if x3.length < 140737488355328 then (laws_trName.l0 k x0 (x3 ++ [bt x0 x4]) (wrap64 (x4 + 1))) else (none)) else (if (bt x0 x4) = 45 then (if x3.length < 140737488355328 then (laws_trName.l0 k x0 (x3 ++ [bt x0 x4]) (wrap64 (x4 + 1))) else (none)) else (laws_trName.l0 k x0 x3 (wrap64 (x4 + 1))))))) else (if (bt x0 x4) ≥ 48 then (if (bt x0 x4) ≤ 57 then (if x3.length < 140737488355328 then (laws_trName.l0 k x0 (x3 ++ [bt x0 x4]) (wrap64 (x4 + 1))) else (none)) else (if (bt x0 x4) = 95 then (if x3.length < 140737488355328 then (laws_trName.l0 k x0 (x3 ++ [bt x0 x4]) (wrap64 (x4 + 1))) else (none)) else (if (bt x0 x4) = 45 then (if x3.length < 140737488355328 then (laws_trName.l0 k x0 (x3 ++ [bt x0 x4]) (wrap64 (x4 + 1))) else (none)) else (laws_trName.l0 k x0 x3 (wrap64 (x4 + 1)))))) else (if (bt x0 x4) = 95 then (if x3.length < 140737488355328 then (laws_trName.l0 k x0 (x3 ++ [bt x0 x4]) (wrap64 (x4 + 1))) else (none)) else (if (bt x0 x4) = 45 then (if x3.length < 140737488355328 then (laws_trName.l0 k x0 (x3 ++ [bt x0 x4]) (wrap64 (x4 + 1))) else (none)) else (laws_trName.l0 k x0 x3 (wrap64 (x4 + 1)))))))) else (if (bt x0 x4) ≥ 65 then (if (bt x0 x4) ≤ 90 then (if x3.length < 140737488355328 then (laws_trName.l0 k x0 (x3 ++ [bt x0 x4]) (wrap64 (x4 + 1))) else (none)) else (if (bt x0 x4) ≥ 48 then (if (bt x0 x4) ≤ 57 then (if x3.length < 140737488355328 then (laws_trName.l0 k x0 (x3 ++ [bt x0 x4]) (wrap64 (x4 + 1))) else (none)) else (if (bt x0 x4) = 95 then (if x3.length < 140737488355328 then (laws_trName.l0 k x0 (x3 ++ [bt x0 x4]) (wrap64 (x4 + 1))) else (none)) else (if (bt x0 x4) = 45 then (if x3.length < 140737488355328 then (laws_trName.l0 k x0 (x3 ++ [bt x0 x4]) (wrap64 (x4 + 1))) else (none)) else (laws_trName.l0 k x0 x3 (wrap64 (x4 + 1)))))) else (if (bt x0 x4) = 95 then (if x3.length < 140737488355328 then (laws_trName.l0 k x0 (x3 ++ [bt x0 x4]) (wrap64 (x4 + 1))) else (none)) else (if (bt x0 x4) = 45 then (if x3.length < 140737488355328 then (laws_trName.l0 k x0 (x3 ++ [bt x0 x4]) (wrap64 (x4 + 1))) else (none)) else (laws_trName.l0 k x0 x3 (wrap64 (x4 + 1))))))) else (if (bt x0 x4) ≥ 48 then (if (bt x0 x4) ≤ 57 then (if x3.length < 140737488355328 then (laws_trName.l0 k x0 (x3 ++ [bt x0 x4]) (wrap64 (x4 + 1))) else (none)) else (if (bt x0 x4) = 95 then (if x3.length < 140737488355328 then (laws_trName.l0 k x0 (x3 ++ [bt x0 x4]) (wrap64 (x4 + 1))) else (none)) else (if (bt x0 x4) = 45 then (if x3.length < 140737488355328 then (laws_trName.l0 k x0 (x3 ++ [bt x0 x4]) (wrap64 (x4 + 1))) else (none)) else (laws_trName.l0 k x0 x3 (wrap64 (x4 + 1)))))) else (if (bt x0 x4) = 95 then (if x3.length < 140737488355328 then (laws_trName.l0 k x0 (x3 ++ [bt x0 x4]) (wrap64 (x4 + 1))) else (none)) else (if (bt x0 x4) = 45 then (if x3.length < 140737488355328 then (laws_trName.l0 k x0 (x3 ++ [bt x0 x4]) (wrap64 (x4 + 1))) else (none)) else (laws_trName.l0 k x0 x3 (wrap64 (x4 + 1)))))))) else (none)) else (none)) else (some (strOfNums x3))
end
def laws_trName.f (k : Nat) (a0 : ByteArray) : Option (ByteArray) := laws_trName.l0 k a0 (([120] : List Int)) 0
theorem laws_trName.mono_l : ∀ k, (∀ y0 y1 y2, LeO (laws_trName.l0 k y0 y1 y2) (laws_trName.l0 (k + 1) y0 y1 y2)) ∧ (∀ y0 y1 y2 y3, LeO (laws_trName.j1 k y0 y1 y2 y3) (laws_trName.j1 (k + 1) y0 y1 y2 y3))
  | 0 => ⟨fun _ _ _ r h => by simp [laws_trName.l0] at h, fun _ _ _ _ r h => by simp [laws_trName.j1] at h⟩
  | k + 1 => by
    obtain ⟨ih0, ih1⟩ := laws_trName.mono_l k
    refine ⟨?_, ?_⟩
    · intro y0 y1 y2
      unfold laws_trName.l0
      repeat' first
      | (with_reducible exact ih0 _ _ _)
      | (with_reducible exact ih1 _ _ _ _)
      | (with_reducible exact LeO.refl _)
      | (with_reducible exact LeO.none _)
      | (with_reducible refine LeO.ite ?_ ?_)
      | (with_reducible refine LeO.bind ?_ (fun _ => ?_))
      | exact ih0 _ _ _
      | exact ih1 _ _ _ _
      | exact LeO.none _
      | refine LeO.ite ?_ ?_
      | refine LeO.bind ?_ (fun _ => ?_)
    · intro y0 y1 y2 y3
      unfold laws_trName.j1
      repeat' first
      | (with_reducible exact ih0 _ _ _)
      | (with_reducible exact ih1 _ _ _ _)
      | (with_reducible exact LeO.refl _)
      | (with_reducible exact LeO.none _)
      | (with_reducible refine LeO.ite ?_ ?_)
      | (with_reducible refine LeO.bind ?_ (fun _ => ?_))
      | exact ih0 _ _ _
      | exact ih1 _ _ _ _
      | exact LeO.none _
      | refine LeO.ite ?_ ?_
      | refine LeO.bind ?_ (fun _ => ?_)
theorem laws_trName.mono : ∀ a0 k, LeO (laws_trName.f k a0) (laws_trName.f (k + 1) a0) := by
  intro a0 k
  obtain ⟨ih0, ih1⟩ := laws_trName.mono_l k
  unfold laws_trName.f
  repeat' first
      | (with_reducible exact ih0 _ _ _)
      | (with_reducible exact ih1 _ _ _ _)
      | (with_reducible exact LeO.refl _)
      | (with_reducible exact LeO.none _)
      | (with_reducible refine LeO.ite ?_ ?_)
      | (with_reducible refine LeO.bind ?_ (fun _ => ?_))
      | exact ih0 _ _ _
      | exact ih1 _ _ _ _
      | exact LeO.none _
      | refine LeO.ite ?_ ?_
      | refine LeO.bind ?_ (fun _ => ?_)
set_option maxHeartbeats 8000000 in
set_option maxRecDepth 100000 in
theorem laws_trName.calls (k : Nat) (a0 : ByteArray) (r : ByteArray) (w : World) (h : laws_trName.f k a0 = some r) :
    Calls Tryz.prog 4 #[.string a0] w fun e w' => e = .returned (.string r) ∧ Below w.heap.size w w' := by
  have HB := Aside0.mk (Below.refl w.heap.size w)
  have H : (laws_trName.l0 k a0 (([120] : List Int)) 0) = some r := h
  clear h
  obtain ⟨y101, hy101⟩ : ∃ y_ : List Int, y_ = (([120] : List Int)) := ⟨_, rfl⟩
  replace H : (laws_trName.l0 k a0 y101 0) = some r := by first | (rw [hy101]; with_reducible exact H) | (have H2_ := (Option.bind_some _ _).symm.trans H; rw [hy101]; with_reducible exact H2_) | (have H2_ := (Option.bind_some _ _).symm.trans H; with_reducible exact H2_) | with_reducible exact H | (rw [hy101]; exact H) | exact H
  have Ny101 := Aside0.mk hy101
  clear hy101
  have H' := Aside0.mk H
  clear H
  go_enter Tryz.func4, Tryz.ntmps4
  go_wp2_with (first | ((with_reducible refine gate_dst (N := 6) rfl ?_); (try (refine gate_guard (by rfl) ?_; dsimp only)); refine Kd.R_lit (Kd.int .u8) _ 5 ?hg (N := 6) ?hd (xs := ([120] : List Int)) (inner := [.int .u8 120]) (ok := fun _ => True) (okp := fun _ => True) ?hr ?hp (fun _ hk => hk) trivial (Below.refl _ _) (Nat.le_refl _) (by simp) ?_; (case hd => rfl); (case hg => rfl); (case hr => first | (go_simp; done) | (go_simp; rfl)); (case hp => exact (Reps.one (show Kd.M (Kd.int .u8) _ _ _ 120 [.int .u8 120] from rfl) (Reps.none _ _))); intro v102 w2 ho3 hb hg_ hnew_; clear hg_ hnew_; (first | rw [← Ny101.out] at ho3 | (simp only [Int.reduceToNat] at ho3; rw [← Ny101.out] at ho3)); have n0_ := Aside0.mk (Kd.R_lower ho3 (below_size (by repeat (first | (with_reducible first | exact HB.out | apply below_alloc | apply pw_below_drewN | apply below_drew1) | exact HB.out)))); have n1_ := Aside0.mk (below_step (by repeat (first | (with_reducible first | exact HB.out | apply below_alloc | apply pw_below_drewN | apply below_drew1) | exact HB.out)) hb); clear HB; have HO103 := n0_; have HB := n1_; clear n0_ n1_; clear hb ho3))
  go_loopg [3, 4] k (fun kq v3 v4 w' => ∃ (x3_1 : List Int) (x4_1 : Int), v4 = .int .i64 x4_1 ∧ Aside0 (laws_trName.l0 kq a0 x3_1 x4_1 = some r) ∧ Aside0 (kq ≤ k) ∧ Aside0 (Kd.R (Kd.int .u8) 5 w' w.heap.size (fun _ => True) v3 x3_1) ∧ Aside0 (Below w.heap.size w w'))
  case atStart => exact ⟨(y101), (0), (by first | rfl | (simp; done) | (simp [*]; done)), H', ⟨Nat.le_refl _⟩, ⟨by (with_reducible repeat (first | apply Kd.R_alloc | apply Kd.R_drewN | apply Kd.R_drew)); exact HO103.out⟩, ⟨by repeat (first | (with_reducible first | exact HB.out | apply below_alloc | apply pw_below_drewN | apply below_drew1) | exact HB.out)⟩⟩
  case round =>
    clear H'
    try clear p2
    obtain ⟨x3_1, x4_1, rfl, HA, HK1, HO_3, HB⟩ := hrel
    cases gk with
    | zero => exact absurd HA.out (by simp [laws_trName.l0])
    | succ k1 =>
      have H := HA.out
      clear HA
      simp only [laws_trName.l0] at H
      have HC4 := Aside0.mk H
      clear H
      go_upto_region 3 with (fail)
      go_cut [15] (fun v15 wc => ∃ (kq : Nat) (x15_3 : Bool), v15 = .bool x15_3 ∧ Aside0 (laws_trName.j1 kq a0 x3_1 x4_1 x15_3 = some r) ∧ Aside0 (kq ≤ k1) ∧ Aside0 (Kd.R (Kd.int .u8) 5 wc w.heap.size (fun _ => True) u3 x3_1) ∧ Aside0 (Below w.heap.size w wc))
      case first =>
        have H := HC4.out
        clear HC4
        by_cases c5 : x4_1 < (a0.size : Int)
        · rw [if_pos c5] at H
          have c5b0 : decide (x4_1 < (a0.size : Int)) = true := decide_eq_true c5
          clear c5
          (first | rw [c5b0] | (simp only [i64_w, i32_w]; rw [c5b0]) | skip)
          have H' := Aside0.mk H
          clear H
          obtain ⟨Ao6, co6, eo6⟩ := Kd.R_slice HO_3.out
          subst eo6
          go_wp2
          go_meet
          case rel => exact ⟨_, (decide ((x3_1.length : Int) < 9)), (by first | rfl | (simp; done) | (simp [*]; done)), H', ⟨by have := HK1.out; first | omega | exact Nat.le_refl _⟩, ⟨by (with_reducible repeat (first | apply Kd.R_alloc | apply Kd.R_drewN | apply Kd.R_drew)); exact HO_3.out⟩, ⟨by repeat (first | (with_reducible first | exact HB.out | apply below_alloc | apply pw_below_drewN | apply below_drew1) | exact HB.out)⟩⟩
        · rw [if_neg c5] at H
          have c5b0 : decide (x4_1 < (a0.size : Int)) = false := decide_eq_false c5
          clear c5
          (first | rw [c5b0] | (simp only [i64_w, i32_w]; rw [c5b0]) | skip)
          have H' := Aside0.mk H
          clear H
          go_wp2
          go_meet
          case rel => exact ⟨_, (false), (by first | rfl | (simp; done) | (simp [*]; done)), H', ⟨by have := HK1.out; first | omega | exact Nat.le_refl _⟩, ⟨by (with_reducible repeat (first | apply Kd.R_alloc | apply Kd.R_drewN | apply Kd.R_drew)); exact HO_3.out⟩, ⟨by repeat (first | (with_reducible first | exact HB.out | apply below_alloc | apply pw_below_drewN | apply below_drew1) | exact HB.out)⟩⟩
      case rest =>
        clear HC4
        try clear p2
        try clear c4
        try clear c5
        try clear c5b0
        try clear p2
        obtain ⟨kq, x15_3, rfl, HA, HJ3, HO_3, HB⟩ := hcut
        cases kq with
        | zero => exact absurd HA.out (by simp [laws_trName.j1])
        | succ kj3 =>
          have H := HA.out
          clear HA
          simp only [laws_trName.j1] at H
          by_cases c7 : x15_3 = true
          · subst c7
            have H1 : (if 0 ≤ x4_1 then (if x4_1 < (a0.size : Int) then (if (bt a0 x4_1) ≥ 97 then (if (bt a0 x4_1) ≤ 122 then (if x3_1.length < 140737488355328 then (laws_trName.l0 kj3 a0 (x3_1 ++ [bt a0 x4_1]) (wrap64 (x4_1 + 1))) else (none)) else (if (bt a0 x4_1) ≥ 65 then (if (bt a0 x4_1) ≤ 90 then (if x3_1.length < 140737488355328 then (laws_trName.l0 kj3 a0 (x3_1 ++ [bt a0 x4_1]) (wrap64 (x4_1 + 1))) else (none)) else (if (bt a0 x4_1) ≥ 48 then (if (bt a0 x4_1) ≤ 57 then (if x3_1.length < 140737488355328 then (laws_trName.l0 kj3 a0 (x3_1 ++ [bt a0 x4_1]) (wrap64 (x4_1 + 1))) else (none)) else (if (bt a0 x4_1) = 95 then (if x3_1.length < 140737488355328 then (laws_trName.l0 kj3 a0 (x3_1 ++ [bt a0 x4_1]) (wrap64 (x4_1 + 1))) else (none)) else (if (bt a0 x4_1) = 45 then (if x3_1.length < 140737488355328 then (laws_trName.l0 kj3 a0 (x3_1 ++ [bt a0 x4_1]) (wrap64 (x4_1 + 1))) else (none)) else (laws_trName.l0 kj3 a0 x3_1 (wrap64 (x4_1 + 1)))))) else (if (bt a0 x4_1) = 95 then (if x3_1.length < 140737488355328 then (laws_trName.l0 kj3 a0 (x3_1 ++ [bt a0 x4_1]) (wrap64 (x4_1 + 1))) else (none)) else (if (bt a0 x4_1) = 45 then (if x3_1.length < 140737488355328 then (laws_trName.l0 kj3 a0 (x3_1 ++ [bt a0 x4_1]) (wrap64 (x4_1 + 1))) else (none)) else (laws_trName.l0 kj3 a0 x3_1 (wrap64 (x4_1 + 1))))))) else (if (bt a0 x4_1) ≥ 48 then (if (bt a0 x4_1) ≤ 57 then (if x3_1.length < 140737488355328 then (laws_trName.l0 kj3 a0 (x3_1 ++ [bt a0 x4_1]) (wrap64 (x4_1 + 1))) else (none)) else (if (bt a0 x4_1) = 95 then (if x3_1.length < 140737488355328 then (laws_trName.l0 kj3 a0 (x3_1 ++ [bt a0 x4_1]) (wrap64 (x4_1 + 1))) else (none)) else (if (bt a0 x4_1) = 45 then (if x3_1.length < 140737488355328 then (laws_trName.l0 kj3 a0 (x3_1 ++ [bt a0 x4_1]) (wrap64 (x4_1 + 1))) else (none)) else (laws_trName.l0 kj3 a0 x3_1 (wrap64 (x4_1 + 1)))))) else (if (bt a0 x4_1) = 95 then (if x3_1.length < 140737488355328 then (laws_trName.l0 kj3 a0 (x3_1 ++ [bt a0 x4_1]) (wrap64 (x4_1 + 1))) else (none)) else (if (bt a0 x4_1) = 45 then (if x3_1.length < 140737488355328 then (laws_trName.l0 kj3 a0 (x3_1 ++ [bt a0 x4_1]) (wrap64 (x4_1 + 1))) else (none)) else (laws_trName.l0 kj3 a0 x3_1 (wrap64 (x4_1 + 1)))))))) else (if (bt a0 x4_1) ≥ 65 then (if (bt a0 x4_1) ≤ 90 then (if x3_1.length < 140737488355328 then (laws_trName.l0 kj3 a0 (x3_1 ++ [bt a0 x4_1]) (wrap64 (x4_1 + 1))) else (none)) else (if (bt a0 x4_1) ≥ 48 then (if (bt a0 x4_1) ≤ 57 then (if x3_1.length < 140737488355328 then (laws_trName.l0 kj3 a0 (x3_1 ++ [bt a0 x4_1]) (wrap64 (x4_1 + 1))) else (none)) else (if (bt a0 x4_1) = 95 then (if x3_1.length < 140737488355328 then (laws_trName.l0 kj3 a0 (x3_1 ++ [bt a0 x4_1]) (wrap64 (x4_1 + 1))) else (none)) else (if (bt a0 x4_1) = 45 then (if x3_1.length < 140737488355328 then (laws_trName.l0 kj3 a0 (x3_1 ++ [bt a0 x4_1]) (wrap64 (x4_1 + 1))) else (none)) else (laws_trName.l0 kj3 a0 x3_1 (wrap64 (x4_1 + 1)))))) else (if (bt a0 x4_1) = 95 then (if x3_1.length < 140737488355328 then (laws_trName.l0 kj3 a0 (x3_1 ++ [bt a0 x4_1]) (wrap64 (x4_1 + 1))) else (none)) else (if (bt a0 x4_1) = 45 then (if x3_1.length < 140737488355328 then (laws_trName.l0 kj3 a0 (x3_1 ++ [bt a0 x4_1]) (wrap64 (x4_1 + 1))) else (none)) else (laws_trName.l0 kj3 a0 x3_1 (wrap64 (x4_1 + 1))))))) else (if (bt a0 x4_1) ≥ 48 then (if (bt a0 x4_1) ≤ 57 then (if x3_1.length < 140737488355328 then (laws_trName.l0 kj3 a0 (x3_1 ++ [bt a0 x4_1]) (wrap64 (x4_1 + 1))) else (none)) else (if (bt a0 x4_1) = 95 then (if x3_1.length < 140737488355328 then (laws_trName.l0 kj3 a0 (x3_1 ++ [bt a0 x4_1]) (wrap64 (x4_1 + 1))) else (none)) else (if (bt a0 x4_1) = 45 then (if x3_1.length < 140737488355328 then (laws_trName.l0 kj3 a0 (x3_1 ++ [bt a0 x4_1]) (wrap64 (x4_1 + 1))) else (none)) else (laws_trName.l0 kj3 a0 x3_1 (wrap64 (x4_1 + 1)))))) else (if (bt a0 x4_1) = 95 then (if x3_1.length < 140737488355328 then (laws_trName.l0 kj3 a0 (x3_1 ++ [bt a0 x4_1]) (wrap64 (x4_1 + 1))) else (none)) else (if (bt a0 x4_1) = 45 then (if x3_1.length < 140737488355328 then (laws_trName.l0 kj3 a0 (x3_1 ++ [bt a0 x4_1]) (wrap64 (x4_1 + 1))) else (none)) else (laws_trName.l0 kj3 a0 x3_1 (wrap64 (x4_1 + 1)))))))) else (none)) else (none)) = some r := by rw [if_pos rfl] at H; exact H
            clear H
            have H := H1
            clear H1
            by_cases c8 : 0 ≤ x4_1
            · rw [if_pos c8] at H
              have c8b0 : decide (0 ≤ x4_1) = true := decide_eq_true c8
              clear c8
              by_cases c9 : x4_1 < (a0.size : Int)
              · rw [if_pos c9] at H
                have c9b0 : decide (x4_1 < (a0.size : Int)) = true := decide_eq_true c9
                clear c9
                by_cases c11 : (bt a0 x4_1) ≥ 97
                · rw [if_pos c11] at H
                  have c11b0 : decide (97 ≤ (bt a0 x4_1)) = true := decide_eq_true c11
                  clear c11
                  by_cases c12 : (bt a0 x4_1) ≤ 122
                  · rw [if_pos c12] at H
                    have c12b0 : decide ((bt a0 x4_1) ≤ 122) = true := decide_eq_true c12
                    clear c12
                    by_cases c13 : x3_1.length < 140737488355328
                    · rw [if_pos c13] at H
                      have LMc13 := Aside0.mk c13
                      clear c13
                      obtain ⟨y104, hy104⟩ : ∃ y_ : List Int, y_ = (x3_1 ++ [bt a0 x4_1]) := ⟨_, rfl⟩
                      replace H : (laws_trName.l0 kj3 a0 y104 (wrap64 (x4_1 + 1))) = some r := by first | (rw [hy104]; with_reducible exact H) | (have H2_ := (Option.bind_some _ _).symm.trans H; rw [hy104]; with_reducible exact H2_) | (have H2_ := (Option.bind_some _ _).symm.trans H; with_reducible exact H2_) | with_reducible exact H | (rw [hy104]; exact H) | exact H
                      have Ny104 := Aside0.mk hy104
                      clear hy104
                      have H' := Aside0.mk H
                      clear H
                      have p10 : 0 ≤ (x4_1 : Int) := of_decide_eq_true (by first | (with_reducible assumption) | assumption)
                      have q10 : x4_1 < (a0.size : Int) := of_decide_eq_true (by first | (with_reducible assumption) | assumption)
                      have hx10 := bt_at a0 x4_1
                      replace p10 := eq_true p10
                      replace q10 := eq_true q10
                      go_wp2_with (first | ((with_reducible refine gate_builtin (b := .append) (xs := #[.tmp 51, .tmp 53]) rfl ?_); (try (refine gate_guard (by rfl) ?_; dsimp only)); at_builtin; refine Kd.R_append (Kd.int .u8) (w0 := w) w.heap.size rfl (.tmp 51) (.tmp 53) 35 5 (.int .u8 0) 1 rfl Tryz.underlying35 info5 rfl (by decide) (by omega) u3 x3_1 (bt a0 x4_1) [.int .u8 (bt a0 x4_1)] (fun _ => True) (fun _ => False) rfl rfl ?aP (fun _ hk => hk.elim) ?aF ?aO ?aB ?aS ?aL ?_; (case aP => exact rfl); (case aB => exact (by repeat (first | (with_reducible first | exact HB.out | apply below_alloc | apply pw_below_drewN | apply below_drew1) | exact HB.out))); (case aF => exact (fun _ _ => trivial)); (case aO => exact (by (with_reducible repeat (first | apply Kd.R_alloc | apply Kd.R_drewN | apply Kd.R_drew)); exact HO_3.out)); (case aS => exact (below_size (by repeat (first | (with_reducible first | exact HB.out | apply below_alloc | apply pw_below_drewN | apply below_drew1) | exact HB.out)))); (case aL => have := LMc13.out; omega); intro v105 w14 ho hb hg hat; rw [← Ny104.out] at ho; have n0_ := Aside0.mk (hb); have n1_ := Aside0.mk (ho); clear HB; clear HO_3; have HB := n0_; have HO106 := n1_; clear n0_ n1_; clear ho hb hg hat))
                      go_roundg kj3
                      case measure => have := HK1.out; have := HJ3.out; omega
                      case rel => exact ⟨(y104), (wrap64 (x4_1 + 1)), (by first | rfl | (simp; done) | (simp [*]; done)), H', ⟨by have := HK1.out; have := HJ3.out; omega⟩, ⟨by (with_reducible repeat (first | apply Kd.R_alloc | apply Kd.R_drewN | apply Kd.R_drew)); exact HO106.out⟩, ⟨by repeat (first | (with_reducible first | exact HB.out | apply below_alloc | apply pw_below_drewN | apply below_drew1) | exact HB.out)⟩⟩
                    · rw [if_neg c13] at H
                      exact absurd H (by simp)
                  · rw [if_neg c12] at H
                    have c12b0 : decide ((bt a0 x4_1) ≤ 122) = false := decide_eq_false c12
                    clear c12
                    by_cases c15 : (bt a0 x4_1) ≥ 65
                    · rw [if_pos c15] at H
                      have c15b0 : decide (65 ≤ (bt a0 x4_1)) = true := decide_eq_true c15
                      clear c15
                      by_cases c16 : (bt a0 x4_1) ≤ 90
                      · rw [if_pos c16] at H
                        have c16b0 : decide ((bt a0 x4_1) ≤ 90) = true := decide_eq_true c16
                        clear c16
                        by_cases c17 : x3_1.length < 140737488355328
                        · rw [if_pos c17] at H
                          have LMc17 := Aside0.mk c17
                          clear c17
                          obtain ⟨y107, hy107⟩ : ∃ y_ : List Int, y_ = (x3_1 ++ [bt a0 x4_1]) := ⟨_, rfl⟩
                          replace H : (laws_trName.l0 kj3 a0 y107 (wrap64 (x4_1 + 1))) = some r := by first | (rw [hy107]; with_reducible exact H) | (have H2_ := (Option.bind_some _ _).symm.trans H; rw [hy107]; with_reducible exact H2_) | (have H2_ := (Option.bind_some _ _).symm.trans H; with_reducible exact H2_) | with_reducible exact H | (rw [hy107]; exact H) | exact H
                          have Ny107 := Aside0.mk hy107
                          clear hy107
                          have H' := Aside0.mk H
                          clear H
                          have p10 : 0 ≤ (x4_1 : Int) := of_decide_eq_true (by first | (with_reducible assumption) | assumption)
                          have q10 : x4_1 < (a0.size : Int) := of_decide_eq_true (by first | (with_reducible assumption) | assumption)
                          have hx10 := bt_at a0 x4_1
                          replace p10 := eq_true p10
                          replace q10 := eq_true q10
                          go_wp2_with (first | ((with_reducible refine gate_builtin (b := .append) (xs := #[.tmp 51, .tmp 53]) rfl ?_); (try (refine gate_guard (by rfl) ?_; dsimp only)); at_builtin; refine Kd.R_append (Kd.int .u8) (w0 := w) w.heap.size rfl (.tmp 51) (.tmp 53) 35 5 (.int .u8 0) 1 rfl Tryz.underlying35 info5 rfl (by decide) (by omega) u3 x3_1 (bt a0 x4_1) [.int .u8 (bt a0 x4_1)] (fun _ => True) (fun _ => False) rfl rfl ?aP (fun _ hk => hk.elim) ?aF ?aO ?aB ?aS ?aL ?_; (case aP => exact rfl); (case aB => exact (by repeat (first | (with_reducible first | exact HB.out | apply below_alloc | apply pw_below_drewN | apply below_drew1) | exact HB.out))); (case aF => exact (fun _ _ => trivial)); (case aO => exact (by (with_reducible repeat (first | apply Kd.R_alloc | apply Kd.R_drewN | apply Kd.R_drew)); exact HO_3.out)); (case aS => exact (below_size (by repeat (first | (with_reducible first | exact HB.out | apply below_alloc | apply pw_below_drewN | apply below_drew1) | exact HB.out)))); (case aL => have := LMc17.out; omega); intro v108 w18 ho hb hg hat; rw [← Ny107.out] at ho; have n0_ := Aside0.mk (hb); have n1_ := Aside0.mk (ho); clear HB; clear HO_3; have HB := n0_; have HO109 := n1_; clear n0_ n1_; clear ho hb hg hat))
                          go_roundg kj3
                          case measure => have := HK1.out; have := HJ3.out; omega
                          case rel => exact ⟨(y107), (wrap64 (x4_1 + 1)), (by first | rfl | (simp; done) | (simp [*]; done)), H', ⟨by have := HK1.out; have := HJ3.out; omega⟩, ⟨by (with_reducible repeat (first | apply Kd.R_alloc | apply Kd.R_drewN | apply Kd.R_drew)); exact HO109.out⟩, ⟨by repeat (first | (with_reducible first | exact HB.out | apply below_alloc | apply pw_below_drewN | apply below_drew1) | exact HB.out)⟩⟩
                        · rw [if_neg c17] at H
                          exact absurd H (by simp)
                      · rw [if_neg c16] at H
                        have c16b0 : decide ((bt a0 x4_1) ≤ 90) = false := decide_eq_false c16
                        clear c16
                        by_cases c19 : (bt a0 x4_1) ≥ 48
                        · rw [if_pos c19] at H
                          have c19b0 : decide (48 ≤ (bt a0 x4_1)) = true := decide_eq_true c19
                          clear c19
                          by_cases c20 : (bt a0 x4_1) ≤ 57
                          · rw [if_pos c20] at H
                            have c20b0 : decide ((bt a0 x4_1) ≤ 57) = true := decide_eq_true c20
                            clear c20
                            by_cases c21 : x3_1.length < 140737488355328
                            · rw [if_pos c21] at H
                              have LMc21 := Aside0.mk c21
                              clear c21
                              obtain ⟨y110, hy110⟩ : ∃ y_ : List Int, y_ = (x3_1 ++ [bt a0 x4_1]) := ⟨_, rfl⟩
                              replace H : (laws_trName.l0 kj3 a0 y110 (wrap64 (x4_1 + 1))) = some r := by first | (rw [hy110]; with_reducible exact H) | (have H2_ := (Option.bind_some _ _).symm.trans H; rw [hy110]; with_reducible exact H2_) | (have H2_ := (Option.bind_some _ _).symm.trans H; with_reducible exact H2_) | with_reducible exact H | (rw [hy110]; exact H) | exact H
                              have Ny110 := Aside0.mk hy110
                              clear hy110
                              have H' := Aside0.mk H
                              clear H
                              have p10 : 0 ≤ (x4_1 : Int) := of_decide_eq_true (by first | (with_reducible assumption) | assumption)
                              have q10 : x4_1 < (a0.size : Int) := of_decide_eq_true (by first | (with_reducible assumption) | assumption)
                              have hx10 := bt_at a0 x4_1
                              replace p10 := eq_true p10
                              replace q10 := eq_true q10
                              go_wp2_with (first | ((with_reducible refine gate_builtin (b := .append) (xs := #[.tmp 51, .tmp 53]) rfl ?_); (try (refine gate_guard (by rfl) ?_; dsimp only)); at_builtin; refine Kd.R_append (Kd.int .u8) (w0 := w) w.heap.size rfl (.tmp 51) (.tmp 53) 35 5 (.int .u8 0) 1 rfl Tryz.underlying35 info5 rfl (by decide) (by omega) u3 x3_1 (bt a0 x4_1) [.int .u8 (bt a0 x4_1)] (fun _ => True) (fun _ => False) rfl rfl ?aP (fun _ hk => hk.elim) ?aF ?aO ?aB ?aS ?aL ?_; (case aP => exact rfl); (case aB => exact (by repeat (first | (with_reducible first | exact HB.out | apply below_alloc | apply pw_below_drewN | apply below_drew1) | exact HB.out))); (case aF => exact (fun _ _ => trivial)); (case aO => exact (by (with_reducible repeat (first | apply Kd.R_alloc | apply Kd.R_drewN | apply Kd.R_drew)); exact HO_3.out)); (case aS => exact (below_size (by repeat (first | (with_reducible first | exact HB.out | apply below_alloc | apply pw_below_drewN | apply below_drew1) | exact HB.out)))); (case aL => have := LMc21.out; omega); intro v111 w22 ho hb hg hat; rw [← Ny110.out] at ho; have n0_ := Aside0.mk (hb); have n1_ := Aside0.mk (ho); clear HB; clear HO_3; have HB := n0_; have HO112 := n1_; clear n0_ n1_; clear ho hb hg hat))
                              go_roundg kj3
                              case measure => have := HK1.out; have := HJ3.out; omega
                              case rel => exact ⟨(y110), (wrap64 (x4_1 + 1)), (by first | rfl | (simp; done) | (simp [*]; done)), H', ⟨by have := HK1.out; have := HJ3.out; omega⟩, ⟨by (with_reducible repeat (first | apply Kd.R_alloc | apply Kd.R_drewN | apply Kd.R_drew)); exact HO112.out⟩, ⟨by repeat (first | (with_reducible first | exact HB.out | apply below_alloc | apply pw_below_drewN | apply below_drew1) | exact HB.out)⟩⟩
                            · rw [if_neg c21] at H
                              exact absurd H (by simp)
                          · rw [if_neg c20] at H
                            have c20b0 : decide ((bt a0 x4_1) ≤ 57) = false := decide_eq_false c20
                            clear c20
                            by_cases c23 : (bt a0 x4_1) = 95
                            · rw [if_pos c23] at H
                              have c23b0 : ((bt a0 x4_1) == 95) = true := beq_iff_eq.mpr c23
                              have c23b1 : ((bt a0 x4_1) != 95) = false := bne_eq_false_iff_eq.mpr c23
                              clear c23
                              by_cases c24 : x3_1.length < 140737488355328
                              · rw [if_pos c24] at H
                                have LMc24 := Aside0.mk c24
                                clear c24
                                obtain ⟨y113, hy113⟩ : ∃ y_ : List Int, y_ = (x3_1 ++ [bt a0 x4_1]) := ⟨_, rfl⟩
                                replace H : (laws_trName.l0 kj3 a0 y113 (wrap64 (x4_1 + 1))) = some r := by first | (rw [hy113]; with_reducible exact H) | (have H2_ := (Option.bind_some _ _).symm.trans H; rw [hy113]; with_reducible exact H2_) | (have H2_ := (Option.bind_some _ _).symm.trans H; with_reducible exact H2_) | with_reducible exact H | (rw [hy113]; exact H) | exact H
                                have Ny113 := Aside0.mk hy113
                                clear hy113
                                have H' := Aside0.mk H
                                clear H
                                have p10 : 0 ≤ (x4_1 : Int) := of_decide_eq_true (by first | (with_reducible assumption) | assumption)
                                have q10 : x4_1 < (a0.size : Int) := of_decide_eq_true (by first | (with_reducible assumption) | assumption)
                                have hx10 := bt_at a0 x4_1
                                replace p10 := eq_true p10
                                replace q10 := eq_true q10
                                go_wp2_with (first | ((with_reducible refine gate_builtin (b := .append) (xs := #[.tmp 51, .tmp 53]) rfl ?_); (try (refine gate_guard (by rfl) ?_; dsimp only)); at_builtin; refine Kd.R_append (Kd.int .u8) (w0 := w) w.heap.size rfl (.tmp 51) (.tmp 53) 35 5 (.int .u8 0) 1 rfl Tryz.underlying35 info5 rfl (by decide) (by omega) u3 x3_1 (bt a0 x4_1) [.int .u8 (bt a0 x4_1)] (fun _ => True) (fun _ => False) rfl rfl ?aP (fun _ hk => hk.elim) ?aF ?aO ?aB ?aS ?aL ?_; (case aP => exact rfl); (case aB => exact (by repeat (first | (with_reducible first | exact HB.out | apply below_alloc | apply pw_below_drewN | apply below_drew1) | exact HB.out))); (case aF => exact (fun _ _ => trivial)); (case aO => exact (by (with_reducible repeat (first | apply Kd.R_alloc | apply Kd.R_drewN | apply Kd.R_drew)); exact HO_3.out)); (case aS => exact (below_size (by repeat (first | (with_reducible first | exact HB.out | apply below_alloc | apply pw_below_drewN | apply below_drew1) | exact HB.out)))); (case aL => have := LMc24.out; omega); intro v114 w25 ho hb hg hat; rw [← Ny113.out] at ho; have n0_ := Aside0.mk (hb); have n1_ := Aside0.mk (ho); clear HB; clear HO_3; have HB := n0_; have HO115 := n1_; clear n0_ n1_; clear ho hb hg hat))
                                go_roundg kj3
                                case measure => have := HK1.out; have := HJ3.out; omega
                                case rel => exact ⟨(y113), (wrap64 (x4_1 + 1)), (by first | rfl | (simp; done) | (simp [*]; done)), H', ⟨by have := HK1.out; have := HJ3.out; omega⟩, ⟨by (with_reducible repeat (first | apply Kd.R_alloc | apply Kd.R_drewN | apply Kd.R_drew)); exact HO115.out⟩, ⟨by repeat (first | (with_reducible first | exact HB.out | apply below_alloc | apply pw_below_drewN | apply below_drew1) | exact HB.out)⟩⟩
                              · rw [if_neg c24] at H
                                exact absurd H (by simp)
                            · rw [if_neg c23] at H
                              have c23b0 : ((bt a0 x4_1) == 95) = false := beq_eq_false_iff_ne.mpr c23
                              have c23b1 : ((bt a0 x4_1) != 95) = true := bne_iff_ne.mpr c23
                              by_cases c26 : (bt a0 x4_1) = 45
                              · rw [if_pos c26] at H
                                have c26b0 : ((bt a0 x4_1) == 45) = true := beq_iff_eq.mpr c26
                                have c26b1 : ((bt a0 x4_1) != 45) = false := bne_eq_false_iff_eq.mpr c26
                                clear c26
                                by_cases c27 : x3_1.length < 140737488355328
                                · rw [if_pos c27] at H
                                  have LMc27 := Aside0.mk c27
                                  clear c27
                                  obtain ⟨y116, hy116⟩ : ∃ y_ : List Int, y_ = (x3_1 ++ [bt a0 x4_1]) := ⟨_, rfl⟩
                                  replace H : (laws_trName.l0 kj3 a0 y116 (wrap64 (x4_1 + 1))) = some r := by first | (rw [hy116]; with_reducible exact H) | (have H2_ := (Option.bind_some _ _).symm.trans H; rw [hy116]; with_reducible exact H2_) | (have H2_ := (Option.bind_some _ _).symm.trans H; with_reducible exact H2_) | with_reducible exact H | (rw [hy116]; exact H) | exact H
                                  have Ny116 := Aside0.mk hy116
                                  clear hy116
                                  have H' := Aside0.mk H
                                  clear H
                                  have p10 : 0 ≤ (x4_1 : Int) := of_decide_eq_true (by first | (with_reducible assumption) | assumption)
                                  have q10 : x4_1 < (a0.size : Int) := of_decide_eq_true (by first | (with_reducible assumption) | assumption)
                                  have hx10 := bt_at a0 x4_1
                                  replace p10 := eq_true p10
                                  replace q10 := eq_true q10
                                  go_wp2_with (first | ((with_reducible refine gate_builtin (b := .append) (xs := #[.tmp 51, .tmp 53]) rfl ?_); (try (refine gate_guard (by rfl) ?_; dsimp only)); at_builtin; refine Kd.R_append (Kd.int .u8) (w0 := w) w.heap.size rfl (.tmp 51) (.tmp 53) 35 5 (.int .u8 0) 1 rfl Tryz.underlying35 info5 rfl (by decide) (by omega) u3 x3_1 (bt a0 x4_1) [.int .u8 (bt a0 x4_1)] (fun _ => True) (fun _ => False) rfl rfl ?aP (fun _ hk => hk.elim) ?aF ?aO ?aB ?aS ?aL ?_; (case aP => exact rfl); (case aB => exact (by repeat (first | (with_reducible first | exact HB.out | apply below_alloc | apply pw_below_drewN | apply below_drew1) | exact HB.out))); (case aF => exact (fun _ _ => trivial)); (case aO => exact (by (with_reducible repeat (first | apply Kd.R_alloc | apply Kd.R_drewN | apply Kd.R_drew)); exact HO_3.out)); (case aS => exact (below_size (by repeat (first | (with_reducible first | exact HB.out | apply below_alloc | apply pw_below_drewN | apply below_drew1) | exact HB.out)))); (case aL => have := LMc27.out; omega); intro v117 w28 ho hb hg hat; rw [← Ny116.out] at ho; have n0_ := Aside0.mk (hb); have n1_ := Aside0.mk (ho); clear HB; clear HO_3; have HB := n0_; have HO118 := n1_; clear n0_ n1_; clear ho hb hg hat))
                                  go_roundg kj3
                                  case measure => have := HK1.out; have := HJ3.out; omega
                                  case rel => exact ⟨(y116), (wrap64 (x4_1 + 1)), (by first | rfl | (simp; done) | (simp [*]; done)), H', ⟨by have := HK1.out; have := HJ3.out; omega⟩, ⟨by (with_reducible repeat (first | apply Kd.R_alloc | apply Kd.R_drewN | apply Kd.R_drew)); exact HO118.out⟩, ⟨by repeat (first | (with_reducible first | exact HB.out | apply below_alloc | apply pw_below_drewN | apply below_drew1) | exact HB.out)⟩⟩
                                · rw [if_neg c27] at H
                                  exact absurd H (by simp)
                              · rw [if_neg c26] at H
                                have c26b0 : ((bt a0 x4_1) == 45) = false := beq_eq_false_iff_ne.mpr c26
                                have c26b1 : ((bt a0 x4_1) != 45) = true := bne_iff_ne.mpr c26
                                have H' := Aside0.mk H
                                clear H
                                have p10 : 0 ≤ (x4_1 : Int) := of_decide_eq_true (by first | (with_reducible assumption) | assumption)
                                have q10 : x4_1 < (a0.size : Int) := of_decide_eq_true (by first | (with_reducible assumption) | assumption)
                                have hx10 := bt_at a0 x4_1
                                replace p10 := eq_true p10
                                replace q10 := eq_true q10
                                go_wp2
                                go_roundg kj3
                                case measure => have := HK1.out; have := HJ3.out; omega
                                case rel => exact ⟨(x3_1), (wrap64 (x4_1 + 1)), (by first | rfl | (simp; done) | (simp [*]; done)), H', ⟨by have := HK1.out; have := HJ3.out; omega⟩, ⟨by (with_reducible repeat (first | apply Kd.R_alloc | apply Kd.R_drewN | apply Kd.R_drew)); exact HO_3.out⟩, ⟨by repeat (first | (with_reducible first | exact HB.out | apply below_alloc | apply pw_below_drewN | apply below_drew1) | exact HB.out)⟩⟩
                        · rw [if_neg c19] at H
                          have c19b0 : decide (48 ≤ (bt a0 x4_1)) = false := decide_eq_false c19
                          clear c19
                          by_cases c29 : (bt a0 x4_1) = 95
                          · rw [if_pos c29] at H
                            have c29b0 : ((bt a0 x4_1) == 95) = true := beq_iff_eq.mpr c29
                            have c29b1 : ((bt a0 x4_1) != 95) = false := bne_eq_false_iff_eq.mpr c29
                            clear c29
                            by_cases c30 : x3_1.length < 140737488355328
                            · rw [if_pos c30] at H
                              have LMc30 := Aside0.mk c30
                              clear c30
                              obtain ⟨y119, hy119⟩ : ∃ y_ : List Int, y_ = (x3_1 ++ [bt a0 x4_1]) := ⟨_, rfl⟩
                              replace H : (laws_trName.l0 kj3 a0 y119 (wrap64 (x4_1 + 1))) = some r := by first | (rw [hy119]; with_reducible exact H) | (have H2_ := (Option.bind_some _ _).symm.trans H; rw [hy119]; with_reducible exact H2_) | (have H2_ := (Option.bind_some _ _).symm.trans H; with_reducible exact H2_) | with_reducible exact H | (rw [hy119]; exact H) | exact H
                              have Ny119 := Aside0.mk hy119
                              clear hy119
                              have H' := Aside0.mk H
                              clear H
                              have p10 : 0 ≤ (x4_1 : Int) := of_decide_eq_true (by first | (with_reducible assumption) | assumption)
                              have q10 : x4_1 < (a0.size : Int) := of_decide_eq_true (by first | (with_reducible assumption) | assumption)
                              have hx10 := bt_at a0 x4_1
                              replace p10 := eq_true p10
                              replace q10 := eq_true q10
                              go_wp2_with (first | ((with_reducible refine gate_builtin (b := .append) (xs := #[.tmp 51, .tmp 53]) rfl ?_); (try (refine gate_guard (by rfl) ?_; dsimp only)); at_builtin; refine Kd.R_append (Kd.int .u8) (w0 := w) w.heap.size rfl (.tmp 51) (.tmp 53) 35 5 (.int .u8 0) 1 rfl Tryz.underlying35 info5 rfl (by decide) (by omega) u3 x3_1 (bt a0 x4_1) [.int .u8 (bt a0 x4_1)] (fun _ => True) (fun _ => False) rfl rfl ?aP (fun _ hk => hk.elim) ?aF ?aO ?aB ?aS ?aL ?_; (case aP => exact rfl); (case aB => exact (by repeat (first | (with_reducible first | exact HB.out | apply below_alloc | apply pw_below_drewN | apply below_drew1) | exact HB.out))); (case aF => exact (fun _ _ => trivial)); (case aO => exact (by (with_reducible repeat (first | apply Kd.R_alloc | apply Kd.R_drewN | apply Kd.R_drew)); exact HO_3.out)); (case aS => exact (below_size (by repeat (first | (with_reducible first | exact HB.out | apply below_alloc | apply pw_below_drewN | apply below_drew1) | exact HB.out)))); (case aL => have := LMc30.out; omega); intro v120 w31 ho hb hg hat; rw [← Ny119.out] at ho; have n0_ := Aside0.mk (hb); have n1_ := Aside0.mk (ho); clear HB; clear HO_3; have HB := n0_; have HO121 := n1_; clear n0_ n1_; clear ho hb hg hat))
                              go_roundg kj3
                              case measure => have := HK1.out; have := HJ3.out; omega
                              case rel => exact ⟨(y119), (wrap64 (x4_1 + 1)), (by first | rfl | (simp; done) | (simp [*]; done)), H', ⟨by have := HK1.out; have := HJ3.out; omega⟩, ⟨by (with_reducible repeat (first | apply Kd.R_alloc | apply Kd.R_drewN | apply Kd.R_drew)); exact HO121.out⟩, ⟨by repeat (first | (with_reducible first | exact HB.out | apply below_alloc | apply pw_below_drewN | apply below_drew1) | exact HB.out)⟩⟩
                            · rw [if_neg c30] at H
                              exact absurd H (by simp)
                          · rw [if_neg c29] at H
                            have c29b0 : ((bt a0 x4_1) == 95) = false := beq_eq_false_iff_ne.mpr c29
                            have c29b1 : ((bt a0 x4_1) != 95) = true := bne_iff_ne.mpr c29
                            by_cases c32 : (bt a0 x4_1) = 45
                            · rw [if_pos c32] at H
                              have c32b0 : ((bt a0 x4_1) == 45) = true := beq_iff_eq.mpr c32
                              have c32b1 : ((bt a0 x4_1) != 45) = false := bne_eq_false_iff_eq.mpr c32
                              clear c32
                              by_cases c33 : x3_1.length < 140737488355328
                              · rw [if_pos c33] at H
                                have LMc33 := Aside0.mk c33
                                clear c33
                                obtain ⟨y122, hy122⟩ : ∃ y_ : List Int, y_ = (x3_1 ++ [bt a0 x4_1]) := ⟨_, rfl⟩
                                replace H : (laws_trName.l0 kj3 a0 y122 (wrap64 (x4_1 + 1))) = some r := by first | (rw [hy122]; with_reducible exact H) | (have H2_ := (Option.bind_some _ _).symm.trans H; rw [hy122]; with_reducible exact H2_) | (have H2_ := (Option.bind_some _ _).symm.trans H; with_reducible exact H2_) | with_reducible exact H | (rw [hy122]; exact H) | exact H
                                have Ny122 := Aside0.mk hy122
                                clear hy122
                                have H' := Aside0.mk H
                                clear H
                                have p10 : 0 ≤ (x4_1 : Int) := of_decide_eq_true (by first | (with_reducible assumption) | assumption)
                                have q10 : x4_1 < (a0.size : Int) := of_decide_eq_true (by first | (with_reducible assumption) | assumption)
                                have hx10 := bt_at a0 x4_1
                                replace p10 := eq_true p10
                                replace q10 := eq_true q10
                                go_wp2_with (first | ((with_reducible refine gate_builtin (b := .append) (xs := #[.tmp 51, .tmp 53]) rfl ?_); (try (refine gate_guard (by rfl) ?_; dsimp only)); at_builtin; refine Kd.R_append (Kd.int .u8) (w0 := w) w.heap.size rfl (.tmp 51) (.tmp 53) 35 5 (.int .u8 0) 1 rfl Tryz.underlying35 info5 rfl (by decide) (by omega) u3 x3_1 (bt a0 x4_1) [.int .u8 (bt a0 x4_1)] (fun _ => True) (fun _ => False) rfl rfl ?aP (fun _ hk => hk.elim) ?aF ?aO ?aB ?aS ?aL ?_; (case aP => exact rfl); (case aB => exact (by repeat (first | (with_reducible first | exact HB.out | apply below_alloc | apply pw_below_drewN | apply below_drew1) | exact HB.out))); (case aF => exact (fun _ _ => trivial)); (case aO => exact (by (with_reducible repeat (first | apply Kd.R_alloc | apply Kd.R_drewN | apply Kd.R_drew)); exact HO_3.out)); (case aS => exact (below_size (by repeat (first | (with_reducible first | exact HB.out | apply below_alloc | apply pw_below_drewN | apply below_drew1) | exact HB.out)))); (case aL => have := LMc33.out; omega); intro v123 w34 ho hb hg hat; rw [← Ny122.out] at ho; have n0_ := Aside0.mk (hb); have n1_ := Aside0.mk (ho); clear HB; clear HO_3; have HB := n0_; have HO124 := n1_; clear n0_ n1_; clear ho hb hg hat))
                                go_roundg kj3
                                case measure => have := HK1.out; have := HJ3.out; omega
                                case rel => exact ⟨(y122), (wrap64 (x4_1 + 1)), (by first | rfl | (simp; done) | (simp [*]; done)), H', ⟨by have := HK1.out; have := HJ3.out; omega⟩, ⟨by (with_reducible repeat (first | apply Kd.R_alloc | apply Kd.R_drewN | apply Kd.R_drew)); exact HO124.out⟩, ⟨by repeat (first | (with_reducible first | exact HB.out | apply below_alloc | apply pw_below_drewN | apply below_drew1) | exact HB.out)⟩⟩
                              · rw [if_neg c33] at H
                                exact absurd H (by simp)
                            · rw [if_neg c32] at H
                              have c32b0 : ((bt a0 x4_1) == 45) = false := beq_eq_false_iff_ne.mpr c32
                              have c32b1 : ((bt a0 x4_1) != 45) = true := bne_iff_ne.mpr c32
                              have H' := Aside0.mk H
                              clear H
                              have p10 : 0 ≤ (x4_1 : Int) := of_decide_eq_true (by first | (with_reducible assumption) | assumption)
                              have q10 : x4_1 < (a0.size : Int) := of_decide_eq_true (by first | (with_reducible assumption) | assumption)
                              have hx10 := bt_at a0 x4_1
                              replace p10 := eq_true p10
                              replace q10 := eq_true q10
                              go_wp2
                              go_roundg kj3
                              case measure => have := HK1.out; have := HJ3.out; omega
                              case rel => exact ⟨(x3_1), (wrap64 (x4_1 + 1)), (by first | rfl | (simp; done) | (simp [*]; done)), H', ⟨by have := HK1.out; have := HJ3.out; omega⟩, ⟨by (with_reducible repeat (first | apply Kd.R_alloc | apply Kd.R_drewN | apply Kd.R_drew)); exact HO_3.out⟩, ⟨by repeat (first | (with_reducible first | exact HB.out | apply below_alloc | apply pw_below_drewN | apply below_drew1) | exact HB.out)⟩⟩
                    · rw [if_neg c15] at H
                      have c15b0 : decide (65 ≤ (bt a0 x4_1)) = false := decide_eq_false c15
                      clear c15
                      by_cases c35 : (bt a0 x4_1) ≥ 48
                      · rw [if_pos c35] at H
                        have c35b0 : decide (48 ≤ (bt a0 x4_1)) = true := decide_eq_true c35
                        clear c35
                        by_cases c36 : (bt a0 x4_1) ≤ 57
                        · rw [if_pos c36] at H
                          have c36b0 : decide ((bt a0 x4_1) ≤ 57) = true := decide_eq_true c36
                          clear c36
                          by_cases c37 : x3_1.length < 140737488355328
                          · rw [if_pos c37] at H
                            have LMc37 := Aside0.mk c37
                            clear c37
                            obtain ⟨y125, hy125⟩ : ∃ y_ : List Int, y_ = (x3_1 ++ [bt a0 x4_1]) := ⟨_, rfl⟩
                            replace H : (laws_trName.l0 kj3 a0 y125 (wrap64 (x4_1 + 1))) = some r := by first | (rw [hy125]; with_reducible exact H) | (have H2_ := (Option.bind_some _ _).symm.trans H; rw [hy125]; with_reducible exact H2_) | (have H2_ := (Option.bind_some _ _).symm.trans H; with_reducible exact H2_) | with_reducible exact H | (rw [hy125]; exact H) | exact H
                            have Ny125 := Aside0.mk hy125
                            clear hy125
                            have H' := Aside0.mk H
                            clear H
                            have p10 : 0 ≤ (x4_1 : Int) := of_decide_eq_true (by first | (with_reducible assumption) | assumption)
                            have q10 : x4_1 < (a0.size : Int) := of_decide_eq_true (by first | (with_reducible assumption) | assumption)
                            have hx10 := bt_at a0 x4_1
                            replace p10 := eq_true p10
                            replace q10 := eq_true q10
                            go_wp2_with (first | ((with_reducible refine gate_builtin (b := .append) (xs := #[.tmp 51, .tmp 53]) rfl ?_); (try (refine gate_guard (by rfl) ?_; dsimp only)); at_builtin; refine Kd.R_append (Kd.int .u8) (w0 := w) w.heap.size rfl (.tmp 51) (.tmp 53) 35 5 (.int .u8 0) 1 rfl Tryz.underlying35 info5 rfl (by decide) (by omega) u3 x3_1 (bt a0 x4_1) [.int .u8 (bt a0 x4_1)] (fun _ => True) (fun _ => False) rfl rfl ?aP (fun _ hk => hk.elim) ?aF ?aO ?aB ?aS ?aL ?_; (case aP => exact rfl); (case aB => exact (by repeat (first | (with_reducible first | exact HB.out | apply below_alloc | apply pw_below_drewN | apply below_drew1) | exact HB.out))); (case aF => exact (fun _ _ => trivial)); (case aO => exact (by (with_reducible repeat (first | apply Kd.R_alloc | apply Kd.R_drewN | apply Kd.R_drew)); exact HO_3.out)); (case aS => exact (below_size (by repeat (first | (with_reducible first | exact HB.out | apply below_alloc | apply pw_below_drewN | apply below_drew1) | exact HB.out)))); (case aL => have := LMc37.out; omega); intro v126 w38 ho hb hg hat; rw [← Ny125.out] at ho; have n0_ := Aside0.mk (hb); have n1_ := Aside0.mk (ho); clear HB; clear HO_3; have HB := n0_; have HO127 := n1_; clear n0_ n1_; clear ho hb hg hat))
                            go_roundg kj3
                            case measure => have := HK1.out; have := HJ3.out; omega
                            case rel => exact ⟨(y125), (wrap64 (x4_1 + 1)), (by first | rfl | (simp; done) | (simp [*]; done)), H', ⟨by have := HK1.out; have := HJ3.out; omega⟩, ⟨by (with_reducible repeat (first | apply Kd.R_alloc | apply Kd.R_drewN | apply Kd.R_drew)); exact HO127.out⟩, ⟨by repeat (first | (with_reducible first | exact HB.out | apply below_alloc | apply pw_below_drewN | apply below_drew1) | exact HB.out)⟩⟩
                          · rw [if_neg c37] at H
                            exact absurd H (by simp)
                        · rw [if_neg c36] at H
                          have c36b0 : decide ((bt a0 x4_1) ≤ 57) = false := decide_eq_false c36
                          clear c36
                          by_cases c39 : (bt a0 x4_1) = 95
                          · rw [if_pos c39] at H
                            have c39b0 : ((bt a0 x4_1) == 95) = true := beq_iff_eq.mpr c39
                            have c39b1 : ((bt a0 x4_1) != 95) = false := bne_eq_false_iff_eq.mpr c39
                            clear c39
                            by_cases c40 : x3_1.length < 140737488355328
                            · rw [if_pos c40] at H
                              have LMc40 := Aside0.mk c40
                              clear c40
                              obtain ⟨y128, hy128⟩ : ∃ y_ : List Int, y_ = (x3_1 ++ [bt a0 x4_1]) := ⟨_, rfl⟩
                              replace H : (laws_trName.l0 kj3 a0 y128 (wrap64 (x4_1 + 1))) = some r := by first | (rw [hy128]; with_reducible exact H) | (have H2_ := (Option.bind_some _ _).symm.trans H; rw [hy128]; with_reducible exact H2_) | (have H2_ := (Option.bind_some _ _).symm.trans H; with_reducible exact H2_) | with_reducible exact H | (rw [hy128]; exact H) | exact H
                              have Ny128 := Aside0.mk hy128
                              clear hy128
                              have H' := Aside0.mk H
                              clear H
                              have p10 : 0 ≤ (x4_1 : Int) := of_decide_eq_true (by first | (with_reducible assumption) | assumption)
                              have q10 : x4_1 < (a0.size : Int) := of_decide_eq_true (by first | (with_reducible assumption) | assumption)
                              have hx10 := bt_at a0 x4_1
                              replace p10 := eq_true p10
                              replace q10 := eq_true q10
                              go_wp2_with (first | ((with_reducible refine gate_builtin (b := .append) (xs := #[.tmp 51, .tmp 53]) rfl ?_); (try (refine gate_guard (by rfl) ?_; dsimp only)); at_builtin; refine Kd.R_append (Kd.int .u8) (w0 := w) w.heap.size rfl (.tmp 51) (.tmp 53) 35 5 (.int .u8 0) 1 rfl Tryz.underlying35 info5 rfl (by decide) (by omega) u3 x3_1 (bt a0 x4_1) [.int .u8 (bt a0 x4_1)] (fun _ => True) (fun _ => False) rfl rfl ?aP (fun _ hk => hk.elim) ?aF ?aO ?aB ?aS ?aL ?_; (case aP => exact rfl); (case aB => exact (by repeat (first | (with_reducible first | exact HB.out | apply below_alloc | apply pw_below_drewN | apply below_drew1) | exact HB.out))); (case aF => exact (fun _ _ => trivial)); (case aO => exact (by (with_reducible repeat (first | apply Kd.R_alloc | apply Kd.R_drewN | apply Kd.R_drew)); exact HO_3.out)); (case aS => exact (below_size (by repeat (first | (with_reducible first | exact HB.out | apply below_alloc | apply pw_below_drewN | apply below_drew1) | exact HB.out)))); (case aL => have := LMc40.out; omega); intro v129 w41 ho hb hg hat; rw [← Ny128.out] at ho; have n0_ := Aside0.mk (hb); have n1_ := Aside0.mk (ho); clear HB; clear HO_3; have HB := n0_; have HO130 := n1_; clear n0_ n1_; clear ho hb hg hat))
                              go_roundg kj3
                              case measure => have := HK1.out; have := HJ3.out; omega
                              case rel => exact ⟨(y128), (wrap64 (x4_1 + 1)), (by first | rfl | (simp; done) | (simp [*]; done)), H', ⟨by have := HK1.out; have := HJ3.out; omega⟩, ⟨by (with_reducible repeat (first | apply Kd.R_alloc | apply Kd.R_drewN | apply Kd.R_drew)); exact HO130.out⟩, ⟨by repeat (first | (with_reducible first | exact HB.out | apply below_alloc | apply pw_below_drewN | apply below_drew1) | exact HB.out)⟩⟩
                            · rw [if_neg c40] at H
                              exact absurd H (by simp)
                          · rw [if_neg c39] at H
                            have c39b0 : ((bt a0 x4_1) == 95) = false := beq_eq_false_iff_ne.mpr c39
                            have c39b1 : ((bt a0 x4_1) != 95) = true := bne_iff_ne.mpr c39
                            by_cases c42 : (bt a0 x4_1) = 45
                            · rw [if_pos c42] at H
                              have c42b0 : ((bt a0 x4_1) == 45) = true := beq_iff_eq.mpr c42
                              have c42b1 : ((bt a0 x4_1) != 45) = false := bne_eq_false_iff_eq.mpr c42
                              clear c42
                              by_cases c43 : x3_1.length < 140737488355328
                              · rw [if_pos c43] at H
                                have LMc43 := Aside0.mk c43
                                clear c43
                                obtain ⟨y131, hy131⟩ : ∃ y_ : List Int, y_ = (x3_1 ++ [bt a0 x4_1]) := ⟨_, rfl⟩
                                replace H : (laws_trName.l0 kj3 a0 y131 (wrap64 (x4_1 + 1))) = some r := by first | (rw [hy131]; with_reducible exact H) | (have H2_ := (Option.bind_some _ _).symm.trans H; rw [hy131]; with_reducible exact H2_) | (have H2_ := (Option.bind_some _ _).symm.trans H; with_reducible exact H2_) | with_reducible exact H | (rw [hy131]; exact H) | exact H
                                have Ny131 := Aside0.mk hy131
                                clear hy131
                                have H' := Aside0.mk H
                                clear H
                                have p10 : 0 ≤ (x4_1 : Int) := of_decide_eq_true (by first | (with_reducible assumption) | assumption)
                                have q10 : x4_1 < (a0.size : Int) := of_decide_eq_true (by first | (with_reducible assumption) | assumption)
                                have hx10 := bt_at a0 x4_1
                                replace p10 := eq_true p10
                                replace q10 := eq_true q10
                                go_wp2_with (first | ((with_reducible refine gate_builtin (b := .append) (xs := #[.tmp 51, .tmp 53]) rfl ?_); (try (refine gate_guard (by rfl) ?_; dsimp only)); at_builtin; refine Kd.R_append (Kd.int .u8) (w0 := w) w.heap.size rfl (.tmp 51) (.tmp 53) 35 5 (.int .u8 0) 1 rfl Tryz.underlying35 info5 rfl (by decide) (by omega) u3 x3_1 (bt a0 x4_1) [.int .u8 (bt a0 x4_1)] (fun _ => True) (fun _ => False) rfl rfl ?aP (fun _ hk => hk.elim) ?aF ?aO ?aB ?aS ?aL ?_; (case aP => exact rfl); (case aB => exact (by repeat (first | (with_reducible first | exact HB.out | apply below_alloc | apply pw_below_drewN | apply below_drew1) | exact HB.out))); (case aF => exact (fun _ _ => trivial)); (case aO => exact (by (with_reducible repeat (first | apply Kd.R_alloc | apply Kd.R_drewN | apply Kd.R_drew)); exact HO_3.out)); (case aS => exact (below_size (by repeat (first | (with_reducible first | exact HB.out | apply below_alloc | apply pw_below_drewN | apply below_drew1) | exact HB.out)))); (case aL => have := LMc43.out; omega); intro v132 w44 ho hb hg hat; rw [← Ny131.out] at ho; have n0_ := Aside0.mk (hb); have n1_ := Aside0.mk (ho); clear HB; clear HO_3; have HB := n0_; have HO133 := n1_; clear n0_ n1_; clear ho hb hg hat))
                                go_roundg kj3
                                case measure => have := HK1.out; have := HJ3.out; omega
                                case rel => exact ⟨(y131), (wrap64 (x4_1 + 1)), (by first | rfl | (simp; done) | (simp [*]; done)), H', ⟨by have := HK1.out; have := HJ3.out; omega⟩, ⟨by (with_reducible repeat (first | apply Kd.R_alloc | apply Kd.R_drewN | apply Kd.R_drew)); exact HO133.out⟩, ⟨by repeat (first | (with_reducible first | exact HB.out | apply below_alloc | apply pw_below_drewN | apply below_drew1) | exact HB.out)⟩⟩
                              · rw [if_neg c43] at H
                                exact absurd H (by simp)
                            · rw [if_neg c42] at H
                              have c42b0 : ((bt a0 x4_1) == 45) = false := beq_eq_false_iff_ne.mpr c42
                              have c42b1 : ((bt a0 x4_1) != 45) = true := bne_iff_ne.mpr c42
                              have H' := Aside0.mk H
                              clear H
                              have p10 : 0 ≤ (x4_1 : Int) := of_decide_eq_true (by first | (with_reducible assumption) | assumption)
                              have q10 : x4_1 < (a0.size : Int) := of_decide_eq_true (by first | (with_reducible assumption) | assumption)
                              have hx10 := bt_at a0 x4_1
                              replace p10 := eq_true p10
                              replace q10 := eq_true q10
                              go_wp2
                              go_roundg kj3
                              case measure => have := HK1.out; have := HJ3.out; omega
                              case rel => exact ⟨(x3_1), (wrap64 (x4_1 + 1)), (by first | rfl | (simp; done) | (simp [*]; done)), H', ⟨by have := HK1.out; have := HJ3.out; omega⟩, ⟨by (with_reducible repeat (first | apply Kd.R_alloc | apply Kd.R_drewN | apply Kd.R_drew)); exact HO_3.out⟩, ⟨by repeat (first | (with_reducible first | exact HB.out | apply below_alloc | apply pw_below_drewN | apply below_drew1) | exact HB.out)⟩⟩
                      · rw [if_neg c35] at H
                        have c35b0 : decide (48 ≤ (bt a0 x4_1)) = false := decide_eq_false c35
                        clear c35
                        by_cases c45 : (bt a0 x4_1) = 95
                        · rw [if_pos c45] at H
                          have c45b0 : ((bt a0 x4_1) == 95) = true := beq_iff_eq.mpr c45
                          have c45b1 : ((bt a0 x4_1) != 95) = false := bne_eq_false_iff_eq.mpr c45
                          clear c45
                          by_cases c46 : x3_1.length < 140737488355328
                          · rw [if_pos c46] at H
                            have LMc46 := Aside0.mk c46
                            clear c46
                            obtain ⟨y134, hy134⟩ : ∃ y_ : List Int, y_ = (x3_1 ++ [bt a0 x4_1]) := ⟨_, rfl⟩
                            replace H : (laws_trName.l0 kj3 a0 y134 (wrap64 (x4_1 + 1))) = some r := by first | (rw [hy134]; with_reducible exact H) | (have H2_ := (Option.bind_some _ _).symm.trans H; rw [hy134]; with_reducible exact H2_) | (have H2_ := (Option.bind_some _ _).symm.trans H; with_reducible exact H2_) | with_reducible exact H | (rw [hy134]; exact H) | exact H
                            have Ny134 := Aside0.mk hy134
                            clear hy134
                            have H' := Aside0.mk H
                            clear H
                            have p10 : 0 ≤ (x4_1 : Int) := of_decide_eq_true (by first | (with_reducible assumption) | assumption)
                            have q10 : x4_1 < (a0.size : Int) := of_decide_eq_true (by first | (with_reducible assumption) | assumption)
                            have hx10 := bt_at a0 x4_1
                            replace p10 := eq_true p10
                            replace q10 := eq_true q10
                            go_wp2_with (first | ((with_reducible refine gate_builtin (b := .append) (xs := #[.tmp 51, .tmp 53]) rfl ?_); (try (refine gate_guard (by rfl) ?_; dsimp only)); at_builtin; refine Kd.R_append (Kd.int .u8) (w0 := w) w.heap.size rfl (.tmp 51) (.tmp 53) 35 5 (.int .u8 0) 1 rfl Tryz.underlying35 info5 rfl (by decide) (by omega) u3 x3_1 (bt a0 x4_1) [.int .u8 (bt a0 x4_1)] (fun _ => True) (fun _ => False) rfl rfl ?aP (fun _ hk => hk.elim) ?aF ?aO ?aB ?aS ?aL ?_; (case aP => exact rfl); (case aB => exact (by repeat (first | (with_reducible first | exact HB.out | apply below_alloc | apply pw_below_drewN | apply below_drew1) | exact HB.out))); (case aF => exact (fun _ _ => trivial)); (case aO => exact (by (with_reducible repeat (first | apply Kd.R_alloc | apply Kd.R_drewN | apply Kd.R_drew)); exact HO_3.out)); (case aS => exact (below_size (by repeat (first | (with_reducible first | exact HB.out | apply below_alloc | apply pw_below_drewN | apply below_drew1) | exact HB.out)))); (case aL => have := LMc46.out; omega); intro v135 w47 ho hb hg hat; rw [← Ny134.out] at ho; have n0_ := Aside0.mk (hb); have n1_ := Aside0.mk (ho); clear HB; clear HO_3; have HB := n0_; have HO136 := n1_; clear n0_ n1_; clear ho hb hg hat))
                            go_roundg kj3
                            case measure => have := HK1.out; have := HJ3.out; omega
                            case rel => exact ⟨(y134), (wrap64 (x4_1 + 1)), (by first | rfl | (simp; done) | (simp [*]; done)), H', ⟨by have := HK1.out; have := HJ3.out; omega⟩, ⟨by (with_reducible repeat (first | apply Kd.R_alloc | apply Kd.R_drewN | apply Kd.R_drew)); exact HO136.out⟩, ⟨by repeat (first | (with_reducible first | exact HB.out | apply below_alloc | apply pw_below_drewN | apply below_drew1) | exact HB.out)⟩⟩
                          · rw [if_neg c46] at H
                            exact absurd H (by simp)
                        · rw [if_neg c45] at H
                          have c45b0 : ((bt a0 x4_1) == 95) = false := beq_eq_false_iff_ne.mpr c45
                          have c45b1 : ((bt a0 x4_1) != 95) = true := bne_iff_ne.mpr c45
                          by_cases c48 : (bt a0 x4_1) = 45
                          · rw [if_pos c48] at H
                            have c48b0 : ((bt a0 x4_1) == 45) = true := beq_iff_eq.mpr c48
                            have c48b1 : ((bt a0 x4_1) != 45) = false := bne_eq_false_iff_eq.mpr c48
                            clear c48
                            by_cases c49 : x3_1.length < 140737488355328
                            · rw [if_pos c49] at H
                              have LMc49 := Aside0.mk c49
                              clear c49
                              obtain ⟨y137, hy137⟩ : ∃ y_ : List Int, y_ = (x3_1 ++ [bt a0 x4_1]) := ⟨_, rfl⟩
                              replace H : (laws_trName.l0 kj3 a0 y137 (wrap64 (x4_1 + 1))) = some r := by first | (rw [hy137]; with_reducible exact H) | (have H2_ := (Option.bind_some _ _).symm.trans H; rw [hy137]; with_reducible exact H2_) | (have H2_ := (Option.bind_some _ _).symm.trans H; with_reducible exact H2_) | with_reducible exact H | (rw [hy137]; exact H) | exact H
                              have Ny137 := Aside0.mk hy137
                              clear hy137
                              have H' := Aside0.mk H
                              clear H
                              have p10 : 0 ≤ (x4_1 : Int) := of_decide_eq_true (by first | (with_reducible assumption) | assumption)
                              have q10 : x4_1 < (a0.size : Int) := of_decide_eq_true (by first | (with_reducible assumption) | assumption)
                              have hx10 := bt_at a0 x4_1
                              replace p10 := eq_true p10
                              replace q10 := eq_true q10
                              go_wp2_with (first | ((with_reducible refine gate_builtin (b := .append) (xs := #[.tmp 51, .tmp 53]) rfl ?_); (try (refine gate_guard (by rfl) ?_; dsimp only)); at_builtin; refine Kd.R_append (Kd.int .u8) (w0 := w) w.heap.size rfl (.tmp 51) (.tmp 53) 35 5 (.int .u8 0) 1 rfl Tryz.underlying35 info5 rfl (by decide) (by omega) u3 x3_1 (bt a0 x4_1) [.int .u8 (bt a0 x4_1)] (fun _ => True) (fun _ => False) rfl rfl ?aP (fun _ hk => hk.elim) ?aF ?aO ?aB ?aS ?aL ?_; (case aP => exact rfl); (case aB => exact (by repeat (first | (with_reducible first | exact HB.out | apply below_alloc | apply pw_below_drewN | apply below_drew1) | exact HB.out))); (case aF => exact (fun _ _ => trivial)); (case aO => exact (by (with_reducible repeat (first | apply Kd.R_alloc | apply Kd.R_drewN | apply Kd.R_drew)); exact HO_3.out)); (case aS => exact (below_size (by repeat (first | (with_reducible first | exact HB.out | apply below_alloc | apply pw_below_drewN | apply below_drew1) | exact HB.out)))); (case aL => have := LMc49.out; omega); intro v138 w50 ho hb hg hat; rw [← Ny137.out] at ho; have n0_ := Aside0.mk (hb); have n1_ := Aside0.mk (ho); clear HB; clear HO_3; have HB := n0_; have HO139 := n1_; clear n0_ n1_; clear ho hb hg hat))
                              go_roundg kj3
                              case measure => have := HK1.out; have := HJ3.out; omega
                              case rel => exact ⟨(y137), (wrap64 (x4_1 + 1)), (by first | rfl | (simp; done) | (simp [*]; done)), H', ⟨by have := HK1.out; have := HJ3.out; omega⟩, ⟨by (with_reducible repeat (first | apply Kd.R_alloc | apply Kd.R_drewN | apply Kd.R_drew)); exact HO139.out⟩, ⟨by repeat (first | (with_reducible first | exact HB.out | apply below_alloc | apply pw_below_drewN | apply below_drew1) | exact HB.out)⟩⟩
                            · rw [if_neg c49] at H
                              exact absurd H (by simp)
                          · rw [if_neg c48] at H
                            have c48b0 : ((bt a0 x4_1) == 45) = false := beq_eq_false_iff_ne.mpr c48
                            have c48b1 : ((bt a0 x4_1) != 45) = true := bne_iff_ne.mpr c48
                            have H' := Aside0.mk H
                            clear H
                            have p10 : 0 ≤ (x4_1 : Int) := of_decide_eq_true (by first | (with_reducible assumption) | assumption)
                            have q10 : x4_1 < (a0.size : Int) := of_decide_eq_true (by first | (with_reducible assumption) | assumption)
                            have hx10 := bt_at a0 x4_1
                            replace p10 := eq_true p10
                            replace q10 := eq_true q10
                            go_wp2
                            go_roundg kj3
                            case measure => have := HK1.out; have := HJ3.out; omega
                            case rel => exact ⟨(x3_1), (wrap64 (x4_1 + 1)), (by first | rfl | (simp; done) | (simp [*]; done)), H', ⟨by have := HK1.out; have := HJ3.out; omega⟩, ⟨by (with_reducible repeat (first | apply Kd.R_alloc | apply Kd.R_drewN | apply Kd.R_drew)); exact HO_3.out⟩, ⟨by repeat (first | (with_reducible first | exact HB.out | apply below_alloc | apply pw_below_drewN | apply below_drew1) | exact HB.out)⟩⟩
                · rw [if_neg c11] at H
                  have c11b0 : decide (97 ≤ (bt a0 x4_1)) = false := decide_eq_false c11
                  clear c11
                  by_cases c51 : (bt a0 x4_1) ≥ 65
                  · rw [if_pos c51] at H
                    have c51b0 : decide (65 ≤ (bt a0 x4_1)) = true := decide_eq_true c51
                    clear c51
                    by_cases c52 : (bt a0 x4_1) ≤ 90
                    · rw [if_pos c52] at H
                      have c52b0 : decide ((bt a0 x4_1) ≤ 90) = true := decide_eq_true c52
                      clear c52
                      by_cases c53 : x3_1.length < 140737488355328
                      · rw [if_pos c53] at H
                        have LMc53 := Aside0.mk c53
                        clear c53
                        obtain ⟨y140, hy140⟩ : ∃ y_ : List Int, y_ = (x3_1 ++ [bt a0 x4_1]) := ⟨_, rfl⟩
                        replace H : (laws_trName.l0 kj3 a0 y140 (wrap64 (x4_1 + 1))) = some r := by first | (rw [hy140]; with_reducible exact H) | (have H2_ := (Option.bind_some _ _).symm.trans H; rw [hy140]; with_reducible exact H2_) | (have H2_ := (Option.bind_some _ _).symm.trans H; with_reducible exact H2_) | with_reducible exact H | (rw [hy140]; exact H) | exact H
                        have Ny140 := Aside0.mk hy140
                        clear hy140
                        have H' := Aside0.mk H
                        clear H
                        have p10 : 0 ≤ (x4_1 : Int) := of_decide_eq_true (by first | (with_reducible assumption) | assumption)
                        have q10 : x4_1 < (a0.size : Int) := of_decide_eq_true (by first | (with_reducible assumption) | assumption)
                        have hx10 := bt_at a0 x4_1
                        replace p10 := eq_true p10
                        replace q10 := eq_true q10
                        go_wp2_with (first | ((with_reducible refine gate_builtin (b := .append) (xs := #[.tmp 51, .tmp 53]) rfl ?_); (try (refine gate_guard (by rfl) ?_; dsimp only)); at_builtin; refine Kd.R_append (Kd.int .u8) (w0 := w) w.heap.size rfl (.tmp 51) (.tmp 53) 35 5 (.int .u8 0) 1 rfl Tryz.underlying35 info5 rfl (by decide) (by omega) u3 x3_1 (bt a0 x4_1) [.int .u8 (bt a0 x4_1)] (fun _ => True) (fun _ => False) rfl rfl ?aP (fun _ hk => hk.elim) ?aF ?aO ?aB ?aS ?aL ?_; (case aP => exact rfl); (case aB => exact (by repeat (first | (with_reducible first | exact HB.out | apply below_alloc | apply pw_below_drewN | apply below_drew1) | exact HB.out))); (case aF => exact (fun _ _ => trivial)); (case aO => exact (by (with_reducible repeat (first | apply Kd.R_alloc | apply Kd.R_drewN | apply Kd.R_drew)); exact HO_3.out)); (case aS => exact (below_size (by repeat (first | (with_reducible first | exact HB.out | apply below_alloc | apply pw_below_drewN | apply below_drew1) | exact HB.out)))); (case aL => have := LMc53.out; omega); intro v141 w54 ho hb hg hat; rw [← Ny140.out] at ho; have n0_ := Aside0.mk (hb); have n1_ := Aside0.mk (ho); clear HB; clear HO_3; have HB := n0_; have HO142 := n1_; clear n0_ n1_; clear ho hb hg hat))
                        go_roundg kj3
                        case measure => have := HK1.out; have := HJ3.out; omega
                        case rel => exact ⟨(y140), (wrap64 (x4_1 + 1)), (by first | rfl | (simp; done) | (simp [*]; done)), H', ⟨by have := HK1.out; have := HJ3.out; omega⟩, ⟨by (with_reducible repeat (first | apply Kd.R_alloc | apply Kd.R_drewN | apply Kd.R_drew)); exact HO142.out⟩, ⟨by repeat (first | (with_reducible first | exact HB.out | apply below_alloc | apply pw_below_drewN | apply below_drew1) | exact HB.out)⟩⟩
                      · rw [if_neg c53] at H
                        exact absurd H (by simp)
                    · rw [if_neg c52] at H
                      have c52b0 : decide ((bt a0 x4_1) ≤ 90) = false := decide_eq_false c52
                      clear c52
                      by_cases c55 : (bt a0 x4_1) ≥ 48
                      · rw [if_pos c55] at H
                        have c55b0 : decide (48 ≤ (bt a0 x4_1)) = true := decide_eq_true c55
                        clear c55
                        by_cases c56 : (bt a0 x4_1) ≤ 57
                        · rw [if_pos c56] at H
                          have c56b0 : decide ((bt a0 x4_1) ≤ 57) = true := decide_eq_true c56
                          clear c56
                          by_cases c57 : x3_1.length < 140737488355328
                          · rw [if_pos c57] at H
                            have LMc57 := Aside0.mk c57
                            clear c57
                            obtain ⟨y143, hy143⟩ : ∃ y_ : List Int, y_ = (x3_1 ++ [bt a0 x4_1]) := ⟨_, rfl⟩
                            replace H : (laws_trName.l0 kj3 a0 y143 (wrap64 (x4_1 + 1))) = some r := by first | (rw [hy143]; with_reducible exact H) | (have H2_ := (Option.bind_some _ _).symm.trans H; rw [hy143]; with_reducible exact H2_) | (have H2_ := (Option.bind_some _ _).symm.trans H; with_reducible exact H2_) | with_reducible exact H | (rw [hy143]; exact H) | exact H
                            have Ny143 := Aside0.mk hy143
                            clear hy143
                            have H' := Aside0.mk H
                            clear H
                            have p10 : 0 ≤ (x4_1 : Int) := of_decide_eq_true (by first | (with_reducible assumption) | assumption)
                            have q10 : x4_1 < (a0.size : Int) := of_decide_eq_true (by first | (with_reducible assumption) | assumption)
                            have hx10 := bt_at a0 x4_1
                            replace p10 := eq_true p10
                            replace q10 := eq_true q10
                            go_wp2_with (first | ((with_reducible refine gate_builtin (b := .append) (xs := #[.tmp 51, .tmp 53]) rfl ?_); (try (refine gate_guard (by rfl) ?_; dsimp only)); at_builtin; refine Kd.R_append (Kd.int .u8) (w0 := w) w.heap.size rfl (.tmp 51) (.tmp 53) 35 5 (.int .u8 0) 1 rfl Tryz.underlying35 info5 rfl (by decide) (by omega) u3 x3_1 (bt a0 x4_1) [.int .u8 (bt a0 x4_1)] (fun _ => True) (fun _ => False) rfl rfl ?aP (fun _ hk => hk.elim) ?aF ?aO ?aB ?aS ?aL ?_; (case aP => exact rfl); (case aB => exact (by repeat (first | (with_reducible first | exact HB.out | apply below_alloc | apply pw_below_drewN | apply below_drew1) | exact HB.out))); (case aF => exact (fun _ _ => trivial)); (case aO => exact (by (with_reducible repeat (first | apply Kd.R_alloc | apply Kd.R_drewN | apply Kd.R_drew)); exact HO_3.out)); (case aS => exact (below_size (by repeat (first | (with_reducible first | exact HB.out | apply below_alloc | apply pw_below_drewN | apply below_drew1) | exact HB.out)))); (case aL => have := LMc57.out; omega); intro v144 w58 ho hb hg hat; rw [← Ny143.out] at ho; have n0_ := Aside0.mk (hb); have n1_ := Aside0.mk (ho); clear HB; clear HO_3; have HB := n0_; have HO145 := n1_; clear n0_ n1_; clear ho hb hg hat))
                            go_roundg kj3
                            case measure => have := HK1.out; have := HJ3.out; omega
                            case rel => exact ⟨(y143), (wrap64 (x4_1 + 1)), (by first | rfl | (simp; done) | (simp [*]; done)), H', ⟨by have := HK1.out; have := HJ3.out; omega⟩, ⟨by (with_reducible repeat (first | apply Kd.R_alloc | apply Kd.R_drewN | apply Kd.R_drew)); exact HO145.out⟩, ⟨by repeat (first | (with_reducible first | exact HB.out | apply below_alloc | apply pw_below_drewN | apply below_drew1) | exact HB.out)⟩⟩
                          · rw [if_neg c57] at H
                            exact absurd H (by simp)
                        · rw [if_neg c56] at H
                          have c56b0 : decide ((bt a0 x4_1) ≤ 57) = false := decide_eq_false c56
                          clear c56
                          by_cases c59 : (bt a0 x4_1) = 95
                          · rw [if_pos c59] at H
                            have c59b0 : ((bt a0 x4_1) == 95) = true := beq_iff_eq.mpr c59
                            have c59b1 : ((bt a0 x4_1) != 95) = false := bne_eq_false_iff_eq.mpr c59
                            clear c59
                            by_cases c60 : x3_1.length < 140737488355328
                            · rw [if_pos c60] at H
                              have LMc60 := Aside0.mk c60
                              clear c60
                              obtain ⟨y146, hy146⟩ : ∃ y_ : List Int, y_ = (x3_1 ++ [bt a0 x4_1]) := ⟨_, rfl⟩
                              replace H : (laws_trName.l0 kj3 a0 y146 (wrap64 (x4_1 + 1))) = some r := by first | (rw [hy146]; with_reducible exact H) | (have H2_ := (Option.bind_some _ _).symm.trans H; rw [hy146]; with_reducible exact H2_) | (have H2_ := (Option.bind_some _ _).symm.trans H; with_reducible exact H2_) | with_reducible exact H | (rw [hy146]; exact H) | exact H
                              have Ny146 := Aside0.mk hy146
                              clear hy146
                              have H' := Aside0.mk H
                              clear H
                              have p10 : 0 ≤ (x4_1 : Int) := of_decide_eq_true (by first | (with_reducible assumption) | assumption)
                              have q10 : x4_1 < (a0.size : Int) := of_decide_eq_true (by first | (with_reducible assumption) | assumption)
                              have hx10 := bt_at a0 x4_1
                              replace p10 := eq_true p10
                              replace q10 := eq_true q10
                              go_wp2_with (first | ((with_reducible refine gate_builtin (b := .append) (xs := #[.tmp 51, .tmp 53]) rfl ?_); (try (refine gate_guard (by rfl) ?_; dsimp only)); at_builtin; refine Kd.R_append (Kd.int .u8) (w0 := w) w.heap.size rfl (.tmp 51) (.tmp 53) 35 5 (.int .u8 0) 1 rfl Tryz.underlying35 info5 rfl (by decide) (by omega) u3 x3_1 (bt a0 x4_1) [.int .u8 (bt a0 x4_1)] (fun _ => True) (fun _ => False) rfl rfl ?aP (fun _ hk => hk.elim) ?aF ?aO ?aB ?aS ?aL ?_; (case aP => exact rfl); (case aB => exact (by repeat (first | (with_reducible first | exact HB.out | apply below_alloc | apply pw_below_drewN | apply below_drew1) | exact HB.out))); (case aF => exact (fun _ _ => trivial)); (case aO => exact (by (with_reducible repeat (first | apply Kd.R_alloc | apply Kd.R_drewN | apply Kd.R_drew)); exact HO_3.out)); (case aS => exact (below_size (by repeat (first | (with_reducible first | exact HB.out | apply below_alloc | apply pw_below_drewN | apply below_drew1) | exact HB.out)))); (case aL => have := LMc60.out; omega); intro v147 w61 ho hb hg hat; rw [← Ny146.out] at ho; have n0_ := Aside0.mk (hb); have n1_ := Aside0.mk (ho); clear HB; clear HO_3; have HB := n0_; have HO148 := n1_; clear n0_ n1_; clear ho hb hg hat))
                              go_roundg kj3
                              case measure => have := HK1.out; have := HJ3.out; omega
                              case rel => exact ⟨(y146), (wrap64 (x4_1 + 1)), (by first | rfl | (simp; done) | (simp [*]; done)), H', ⟨by have := HK1.out; have := HJ3.out; omega⟩, ⟨by (with_reducible repeat (first | apply Kd.R_alloc | apply Kd.R_drewN | apply Kd.R_drew)); exact HO148.out⟩, ⟨by repeat (first | (with_reducible first | exact HB.out | apply below_alloc | apply pw_below_drewN | apply below_drew1) | exact HB.out)⟩⟩
                            · rw [if_neg c60] at H
                              exact absurd H (by simp)
                          · rw [if_neg c59] at H
                            have c59b0 : ((bt a0 x4_1) == 95) = false := beq_eq_false_iff_ne.mpr c59
                            have c59b1 : ((bt a0 x4_1) != 95) = true := bne_iff_ne.mpr c59
                            by_cases c62 : (bt a0 x4_1) = 45
                            · rw [if_pos c62] at H
                              have c62b0 : ((bt a0 x4_1) == 45) = true := beq_iff_eq.mpr c62
                              have c62b1 : ((bt a0 x4_1) != 45) = false := bne_eq_false_iff_eq.mpr c62
                              clear c62
                              by_cases c63 : x3_1.length < 140737488355328
                              · rw [if_pos c63] at H
                                have LMc63 := Aside0.mk c63
                                clear c63
                                obtain ⟨y149, hy149⟩ : ∃ y_ : List Int, y_ = (x3_1 ++ [bt a0 x4_1]) := ⟨_, rfl⟩
                                replace H : (laws_trName.l0 kj3 a0 y149 (wrap64 (x4_1 + 1))) = some r := by first | (rw [hy149]; with_reducible exact H) | (have H2_ := (Option.bind_some _ _).symm.trans H; rw [hy149]; with_reducible exact H2_) | (have H2_ := (Option.bind_some _ _).symm.trans H; with_reducible exact H2_) | with_reducible exact H | (rw [hy149]; exact H) | exact H
                                have Ny149 := Aside0.mk hy149
                                clear hy149
                                have H' := Aside0.mk H
                                clear H
                                have p10 : 0 ≤ (x4_1 : Int) := of_decide_eq_true (by first | (with_reducible assumption) | assumption)
                                have q10 : x4_1 < (a0.size : Int) := of_decide_eq_true (by first | (with_reducible assumption) | assumption)
                                have hx10 := bt_at a0 x4_1
                                replace p10 := eq_true p10
                                replace q10 := eq_true q10
                                go_wp2_with (first | ((with_reducible refine gate_builtin (b := .append) (xs := #[.tmp 51, .tmp 53]) rfl ?_); (try (refine gate_guard (by rfl) ?_; dsimp only)); at_builtin; refine Kd.R_append (Kd.int .u8) (w0 := w) w.heap.size rfl (.tmp 51) (.tmp 53) 35 5 (.int .u8 0) 1 rfl Tryz.underlying35 info5 rfl (by decide) (by omega) u3 x3_1 (bt a0 x4_1) [.int .u8 (bt a0 x4_1)] (fun _ => True) (fun _ => False) rfl rfl ?aP (fun _ hk => hk.elim) ?aF ?aO ?aB ?aS ?aL ?_; (case aP => exact rfl); (case aB => exact (by repeat (first | (with_reducible first | exact HB.out | apply below_alloc | apply pw_below_drewN | apply below_drew1) | exact HB.out))); (case aF => exact (fun _ _ => trivial)); (case aO => exact (by (with_reducible repeat (first | apply Kd.R_alloc | apply Kd.R_drewN | apply Kd.R_drew)); exact HO_3.out)); (case aS => exact (below_size (by repeat (first | (with_reducible first | exact HB.out | apply below_alloc | apply pw_below_drewN | apply below_drew1) | exact HB.out)))); (case aL => have := LMc63.out; omega); intro v150 w64 ho hb hg hat; rw [← Ny149.out] at ho; have n0_ := Aside0.mk (hb); have n1_ := Aside0.mk (ho); clear HB; clear HO_3; have HB := n0_; have HO151 := n1_; clear n0_ n1_; clear ho hb hg hat))
                                go_roundg kj3
                                case measure => have := HK1.out; have := HJ3.out; omega
                                case rel => exact ⟨(y149), (wrap64 (x4_1 + 1)), (by first | rfl | (simp; done) | (simp [*]; done)), H', ⟨by have := HK1.out; have := HJ3.out; omega⟩, ⟨by (with_reducible repeat (first | apply Kd.R_alloc | apply Kd.R_drewN | apply Kd.R_drew)); exact HO151.out⟩, ⟨by repeat (first | (with_reducible first | exact HB.out | apply below_alloc | apply pw_below_drewN | apply below_drew1) | exact HB.out)⟩⟩
                              · rw [if_neg c63] at H
                                exact absurd H (by simp)
                            · rw [if_neg c62] at H
                              have c62b0 : ((bt a0 x4_1) == 45) = false := beq_eq_false_iff_ne.mpr c62
                              have c62b1 : ((bt a0 x4_1) != 45) = true := bne_iff_ne.mpr c62
                              have H' := Aside0.mk H
                              clear H
                              have p10 : 0 ≤ (x4_1 : Int) := of_decide_eq_true (by first | (with_reducible assumption) | assumption)
                              have q10 : x4_1 < (a0.size : Int) := of_decide_eq_true (by first | (with_reducible assumption) | assumption)
                              have hx10 := bt_at a0 x4_1
                              replace p10 := eq_true p10
                              replace q10 := eq_true q10
                              go_wp2
                              go_roundg kj3
                              case measure => have := HK1.out; have := HJ3.out; omega
                              case rel => exact ⟨(x3_1), (wrap64 (x4_1 + 1)), (by first | rfl | (simp; done) | (simp [*]; done)), H', ⟨by have := HK1.out; have := HJ3.out; omega⟩, ⟨by (with_reducible repeat (first | apply Kd.R_alloc | apply Kd.R_drewN | apply Kd.R_drew)); exact HO_3.out⟩, ⟨by repeat (first | (with_reducible first | exact HB.out | apply below_alloc | apply pw_below_drewN | apply below_drew1) | exact HB.out)⟩⟩
                      · rw [if_neg c55] at H
                        have c55b0 : decide (48 ≤ (bt a0 x4_1)) = false := decide_eq_false c55
                        clear c55
                        by_cases c65 : (bt a0 x4_1) = 95
                        · rw [if_pos c65] at H
                          have c65b0 : ((bt a0 x4_1) == 95) = true := beq_iff_eq.mpr c65
                          have c65b1 : ((bt a0 x4_1) != 95) = false := bne_eq_false_iff_eq.mpr c65
                          clear c65
                          by_cases c66 : x3_1.length < 140737488355328
                          · rw [if_pos c66] at H
                            have LMc66 := Aside0.mk c66
                            clear c66
                            obtain ⟨y152, hy152⟩ : ∃ y_ : List Int, y_ = (x3_1 ++ [bt a0 x4_1]) := ⟨_, rfl⟩
                            replace H : (laws_trName.l0 kj3 a0 y152 (wrap64 (x4_1 + 1))) = some r := by first | (rw [hy152]; with_reducible exact H) | (have H2_ := (Option.bind_some _ _).symm.trans H; rw [hy152]; with_reducible exact H2_) | (have H2_ := (Option.bind_some _ _).symm.trans H; with_reducible exact H2_) | with_reducible exact H | (rw [hy152]; exact H) | exact H
                            have Ny152 := Aside0.mk hy152
                            clear hy152
                            have H' := Aside0.mk H
                            clear H
                            have p10 : 0 ≤ (x4_1 : Int) := of_decide_eq_true (by first | (with_reducible assumption) | assumption)
                            have q10 : x4_1 < (a0.size : Int) := of_decide_eq_true (by first | (with_reducible assumption) | assumption)
                            have hx10 := bt_at a0 x4_1
                            replace p10 := eq_true p10
                            replace q10 := eq_true q10
                            go_wp2_with (first | ((with_reducible refine gate_builtin (b := .append) (xs := #[.tmp 51, .tmp 53]) rfl ?_); (try (refine gate_guard (by rfl) ?_; dsimp only)); at_builtin; refine Kd.R_append (Kd.int .u8) (w0 := w) w.heap.size rfl (.tmp 51) (.tmp 53) 35 5 (.int .u8 0) 1 rfl Tryz.underlying35 info5 rfl (by decide) (by omega) u3 x3_1 (bt a0 x4_1) [.int .u8 (bt a0 x4_1)] (fun _ => True) (fun _ => False) rfl rfl ?aP (fun _ hk => hk.elim) ?aF ?aO ?aB ?aS ?aL ?_; (case aP => exact rfl); (case aB => exact (by repeat (first | (with_reducible first | exact HB.out | apply below_alloc | apply pw_below_drewN | apply below_drew1) | exact HB.out))); (case aF => exact (fun _ _ => trivial)); (case aO => exact (by (with_reducible repeat (first | apply Kd.R_alloc | apply Kd.R_drewN | apply Kd.R_drew)); exact HO_3.out)); (case aS => exact (below_size (by repeat (first | (with_reducible first | exact HB.out | apply below_alloc | apply pw_below_drewN | apply below_drew1) | exact HB.out)))); (case aL => have := LMc66.out; omega); intro v153 w67 ho hb hg hat; rw [← Ny152.out] at ho; have n0_ := Aside0.mk (hb); have n1_ := Aside0.mk (ho); clear HB; clear HO_3; have HB := n0_; have HO154 := n1_; clear n0_ n1_; clear ho hb hg hat))
                            go_roundg kj3
                            case measure => have := HK1.out; have := HJ3.out; omega
                            case rel => exact ⟨(y152), (wrap64 (x4_1 + 1)), (by first | rfl | (simp; done) | (simp [*]; done)), H', ⟨by have := HK1.out; have := HJ3.out; omega⟩, ⟨by (with_reducible repeat (first | apply Kd.R_alloc | apply Kd.R_drewN | apply Kd.R_drew)); exact HO154.out⟩, ⟨by repeat (first | (with_reducible first | exact HB.out | apply below_alloc | apply pw_below_drewN | apply below_drew1) | exact HB.out)⟩⟩
                          · rw [if_neg c66] at H
                            exact absurd H (by simp)
                        · rw [if_neg c65] at H
                          have c65b0 : ((bt a0 x4_1) == 95) = false := beq_eq_false_iff_ne.mpr c65
                          have c65b1 : ((bt a0 x4_1) != 95) = true := bne_iff_ne.mpr c65
                          by_cases c68 : (bt a0 x4_1) = 45
                          · rw [if_pos c68] at H
                            have c68b0 : ((bt a0 x4_1) == 45) = true := beq_iff_eq.mpr c68
                            have c68b1 : ((bt a0 x4_1) != 45) = false := bne_eq_false_iff_eq.mpr c68
                            clear c68
                            by_cases c69 : x3_1.length < 140737488355328
                            · rw [if_pos c69] at H
                              have LMc69 := Aside0.mk c69
                              clear c69
                              obtain ⟨y155, hy155⟩ : ∃ y_ : List Int, y_ = (x3_1 ++ [bt a0 x4_1]) := ⟨_, rfl⟩
                              replace H : (laws_trName.l0 kj3 a0 y155 (wrap64 (x4_1 + 1))) = some r := by first | (rw [hy155]; with_reducible exact H) | (have H2_ := (Option.bind_some _ _).symm.trans H; rw [hy155]; with_reducible exact H2_) | (have H2_ := (Option.bind_some _ _).symm.trans H; with_reducible exact H2_) | with_reducible exact H | (rw [hy155]; exact H) | exact H
                              have Ny155 := Aside0.mk hy155
                              clear hy155
                              have H' := Aside0.mk H
                              clear H
                              have p10 : 0 ≤ (x4_1 : Int) := of_decide_eq_true (by first | (with_reducible assumption) | assumption)
                              have q10 : x4_1 < (a0.size : Int) := of_decide_eq_true (by first | (with_reducible assumption) | assumption)
                              have hx10 := bt_at a0 x4_1
                              replace p10 := eq_true p10
                              replace q10 := eq_true q10
                              go_wp2_with (first | ((with_reducible refine gate_builtin (b := .append) (xs := #[.tmp 51, .tmp 53]) rfl ?_); (try (refine gate_guard (by rfl) ?_; dsimp only)); at_builtin; refine Kd.R_append (Kd.int .u8) (w0 := w) w.heap.size rfl (.tmp 51) (.tmp 53) 35 5 (.int .u8 0) 1 rfl Tryz.underlying35 info5 rfl (by decide) (by omega) u3 x3_1 (bt a0 x4_1) [.int .u8 (bt a0 x4_1)] (fun _ => True) (fun _ => False) rfl rfl ?aP (fun _ hk => hk.elim) ?aF ?aO ?aB ?aS ?aL ?_; (case aP => exact rfl); (case aB => exact (by repeat (first | (with_reducible first | exact HB.out | apply below_alloc | apply pw_below_drewN | apply below_drew1) | exact HB.out))); (case aF => exact (fun _ _ => trivial)); (case aO => exact (by (with_reducible repeat (first | apply Kd.R_alloc | apply Kd.R_drewN | apply Kd.R_drew)); exact HO_3.out)); (case aS => exact (below_size (by repeat (first | (with_reducible first | exact HB.out | apply below_alloc | apply pw_below_drewN | apply below_drew1) | exact HB.out)))); (case aL => have := LMc69.out; omega); intro v156 w70 ho hb hg hat; rw [← Ny155.out] at ho; have n0_ := Aside0.mk (hb); have n1_ := Aside0.mk (ho); clear HB; clear HO_3; have HB := n0_; have HO157 := n1_; clear n0_ n1_; clear ho hb hg hat))
                              go_roundg kj3
                              case measure => have := HK1.out; have := HJ3.out; omega
                              case rel => exact ⟨(y155), (wrap64 (x4_1 + 1)), (by first | rfl | (simp; done) | (simp [*]; done)), H', ⟨by have := HK1.out; have := HJ3.out; omega⟩, ⟨by (with_reducible repeat (first | apply Kd.R_alloc | apply Kd.R_drewN | apply Kd.R_drew)); exact HO157.out⟩, ⟨by repeat (first | (with_reducible first | exact HB.out | apply below_alloc | apply pw_below_drewN | apply below_drew1) | exact HB.out)⟩⟩
                            · rw [if_neg c69] at H
                              exact absurd H (by simp)
                          · rw [if_neg c68] at H
                            have c68b0 : ((bt a0 x4_1) == 45) = false := beq_eq_false_iff_ne.mpr c68
                            have c68b1 : ((bt a0 x4_1) != 45) = true := bne_iff_ne.mpr c68
                            have H' := Aside0.mk H
                            clear H
                            have p10 : 0 ≤ (x4_1 : Int) := of_decide_eq_true (by first | (with_reducible assumption) | assumption)
                            have q10 : x4_1 < (a0.size : Int) := of_decide_eq_true (by first | (with_reducible assumption) | assumption)
                            have hx10 := bt_at a0 x4_1
                            replace p10 := eq_true p10
                            replace q10 := eq_true q10
                            go_wp2
                            go_roundg kj3
                            case measure => have := HK1.out; have := HJ3.out; omega
                            case rel => exact ⟨(x3_1), (wrap64 (x4_1 + 1)), (by first | rfl | (simp; done) | (simp [*]; done)), H', ⟨by have := HK1.out; have := HJ3.out; omega⟩, ⟨by (with_reducible repeat (first | apply Kd.R_alloc | apply Kd.R_drewN | apply Kd.R_drew)); exact HO_3.out⟩, ⟨by repeat (first | (with_reducible first | exact HB.out | apply below_alloc | apply pw_below_drewN | apply below_drew1) | exact HB.out)⟩⟩
                  · rw [if_neg c51] at H
                    have c51b0 : decide (65 ≤ (bt a0 x4_1)) = false := decide_eq_false c51
                    clear c51
                    by_cases c71 : (bt a0 x4_1) ≥ 48
                    · rw [if_pos c71] at H
                      have c71b0 : decide (48 ≤ (bt a0 x4_1)) = true := decide_eq_true c71
                      clear c71
                      by_cases c72 : (bt a0 x4_1) ≤ 57
                      · rw [if_pos c72] at H
                        have c72b0 : decide ((bt a0 x4_1) ≤ 57) = true := decide_eq_true c72
                        clear c72
                        by_cases c73 : x3_1.length < 140737488355328
                        · rw [if_pos c73] at H
                          have LMc73 := Aside0.mk c73
                          clear c73
                          obtain ⟨y158, hy158⟩ : ∃ y_ : List Int, y_ = (x3_1 ++ [bt a0 x4_1]) := ⟨_, rfl⟩
                          replace H : (laws_trName.l0 kj3 a0 y158 (wrap64 (x4_1 + 1))) = some r := by first | (rw [hy158]; with_reducible exact H) | (have H2_ := (Option.bind_some _ _).symm.trans H; rw [hy158]; with_reducible exact H2_) | (have H2_ := (Option.bind_some _ _).symm.trans H; with_reducible exact H2_) | with_reducible exact H | (rw [hy158]; exact H) | exact H
                          have Ny158 := Aside0.mk hy158
                          clear hy158
                          have H' := Aside0.mk H
                          clear H
                          have p10 : 0 ≤ (x4_1 : Int) := of_decide_eq_true (by first | (with_reducible assumption) | assumption)
                          have q10 : x4_1 < (a0.size : Int) := of_decide_eq_true (by first | (with_reducible assumption) | assumption)
                          have hx10 := bt_at a0 x4_1
                          replace p10 := eq_true p10
                          replace q10 := eq_true q10
                          go_wp2_with (first | ((with_reducible refine gate_builtin (b := .append) (xs := #[.tmp 51, .tmp 53]) rfl ?_); (try (refine gate_guard (by rfl) ?_; dsimp only)); at_builtin; refine Kd.R_append (Kd.int .u8) (w0 := w) w.heap.size rfl (.tmp 51) (.tmp 53) 35 5 (.int .u8 0) 1 rfl Tryz.underlying35 info5 rfl (by decide) (by omega) u3 x3_1 (bt a0 x4_1) [.int .u8 (bt a0 x4_1)] (fun _ => True) (fun _ => False) rfl rfl ?aP (fun _ hk => hk.elim) ?aF ?aO ?aB ?aS ?aL ?_; (case aP => exact rfl); (case aB => exact (by repeat (first | (with_reducible first | exact HB.out | apply below_alloc | apply pw_below_drewN | apply below_drew1) | exact HB.out))); (case aF => exact (fun _ _ => trivial)); (case aO => exact (by (with_reducible repeat (first | apply Kd.R_alloc | apply Kd.R_drewN | apply Kd.R_drew)); exact HO_3.out)); (case aS => exact (below_size (by repeat (first | (with_reducible first | exact HB.out | apply below_alloc | apply pw_below_drewN | apply below_drew1) | exact HB.out)))); (case aL => have := LMc73.out; omega); intro v159 w74 ho hb hg hat; rw [← Ny158.out] at ho; have n0_ := Aside0.mk (hb); have n1_ := Aside0.mk (ho); clear HB; clear HO_3; have HB := n0_; have HO160 := n1_; clear n0_ n1_; clear ho hb hg hat))
                          go_roundg kj3
                          case measure => have := HK1.out; have := HJ3.out; omega
                          case rel => exact ⟨(y158), (wrap64 (x4_1 + 1)), (by first | rfl | (simp; done) | (simp [*]; done)), H', ⟨by have := HK1.out; have := HJ3.out; omega⟩, ⟨by (with_reducible repeat (first | apply Kd.R_alloc | apply Kd.R_drewN | apply Kd.R_drew)); exact HO160.out⟩, ⟨by repeat (first | (with_reducible first | exact HB.out | apply below_alloc | apply pw_below_drewN | apply below_drew1) | exact HB.out)⟩⟩
                        · rw [if_neg c73] at H
                          exact absurd H (by simp)
                      · rw [if_neg c72] at H
                        have c72b0 : decide ((bt a0 x4_1) ≤ 57) = false := decide_eq_false c72
                        clear c72
                        by_cases c75 : (bt a0 x4_1) = 95
                        · rw [if_pos c75] at H
                          have c75b0 : ((bt a0 x4_1) == 95) = true := beq_iff_eq.mpr c75
                          have c75b1 : ((bt a0 x4_1) != 95) = false := bne_eq_false_iff_eq.mpr c75
                          clear c75
                          by_cases c76 : x3_1.length < 140737488355328
                          · rw [if_pos c76] at H
                            have LMc76 := Aside0.mk c76
                            clear c76
                            obtain ⟨y161, hy161⟩ : ∃ y_ : List Int, y_ = (x3_1 ++ [bt a0 x4_1]) := ⟨_, rfl⟩
                            replace H : (laws_trName.l0 kj3 a0 y161 (wrap64 (x4_1 + 1))) = some r := by first | (rw [hy161]; with_reducible exact H) | (have H2_ := (Option.bind_some _ _).symm.trans H; rw [hy161]; with_reducible exact H2_) | (have H2_ := (Option.bind_some _ _).symm.trans H; with_reducible exact H2_) | with_reducible exact H | (rw [hy161]; exact H) | exact H
                            have Ny161 := Aside0.mk hy161
                            clear hy161
                            have H' := Aside0.mk H
                            clear H
                            have p10 : 0 ≤ (x4_1 : Int) := of_decide_eq_true (by first | (with_reducible assumption) | assumption)
                            have q10 : x4_1 < (a0.size : Int) := of_decide_eq_true (by first | (with_reducible assumption) | assumption)
                            have hx10 := bt_at a0 x4_1
                            replace p10 := eq_true p10
                            replace q10 := eq_true q10
                            go_wp2_with (first | ((with_reducible refine gate_builtin (b := .append) (xs := #[.tmp 51, .tmp 53]) rfl ?_); (try (refine gate_guard (by rfl) ?_; dsimp only)); at_builtin; refine Kd.R_append (Kd.int .u8) (w0 := w) w.heap.size rfl (.tmp 51) (.tmp 53) 35 5 (.int .u8 0) 1 rfl Tryz.underlying35 info5 rfl (by decide) (by omega) u3 x3_1 (bt a0 x4_1) [.int .u8 (bt a0 x4_1)] (fun _ => True) (fun _ => False) rfl rfl ?aP (fun _ hk => hk.elim) ?aF ?aO ?aB ?aS ?aL ?_; (case aP => exact rfl); (case aB => exact (by repeat (first | (with_reducible first | exact HB.out | apply below_alloc | apply pw_below_drewN | apply below_drew1) | exact HB.out))); (case aF => exact (fun _ _ => trivial)); (case aO => exact (by (with_reducible repeat (first | apply Kd.R_alloc | apply Kd.R_drewN | apply Kd.R_drew)); exact HO_3.out)); (case aS => exact (below_size (by repeat (first | (with_reducible first | exact HB.out | apply below_alloc | apply pw_below_drewN | apply below_drew1) | exact HB.out)))); (case aL => have := LMc76.out; omega); intro v162 w77 ho hb hg hat; rw [← Ny161.out] at ho; have n0_ := Aside0.mk (hb); have n1_ := Aside0.mk (ho); clear HB; clear HO_3; have HB := n0_; have HO163 := n1_; clear n0_ n1_; clear ho hb hg hat))
                            go_roundg kj3
                            case measure => have := HK1.out; have := HJ3.out; omega
                            case rel => exact ⟨(y161), (wrap64 (x4_1 + 1)), (by first | rfl | (simp; done) | (simp [*]; done)), H', ⟨by have := HK1.out; have := HJ3.out; omega⟩, ⟨by (with_reducible repeat (first | apply Kd.R_alloc | apply Kd.R_drewN | apply Kd.R_drew)); exact HO163.out⟩, ⟨by repeat (first | (with_reducible first | exact HB.out | apply below_alloc | apply pw_below_drewN | apply below_drew1) | exact HB.out)⟩⟩
                          · rw [if_neg c76] at H
                            exact absurd H (by simp)
                        · rw [if_neg c75] at H
                          have c75b0 : ((bt a0 x4_1) == 95) = false := beq_eq_false_iff_ne.mpr c75
                          have c75b1 : ((bt a0 x4_1) != 95) = true := bne_iff_ne.mpr c75
                          by_cases c78 : (bt a0 x4_1) = 45
                          · rw [if_pos c78] at H
                            have c78b0 : ((bt a0 x4_1) == 45) = true := beq_iff_eq.mpr c78
                            have c78b1 : ((bt a0 x4_1) != 45) = false := bne_eq_false_iff_eq.mpr c78
                            clear c78
                            by_cases c79 : x3_1.length < 140737488355328
                            · rw [if_pos c79] at H
                              have LMc79 := Aside0.mk c79
                              clear c79
                              obtain ⟨y164, hy164⟩ : ∃ y_ : List Int, y_ = (x3_1 ++ [bt a0 x4_1]) := ⟨_, rfl⟩
                              replace H : (laws_trName.l0 kj3 a0 y164 (wrap64 (x4_1 + 1))) = some r := by first | (rw [hy164]; with_reducible exact H) | (have H2_ := (Option.bind_some _ _).symm.trans H; rw [hy164]; with_reducible exact H2_) | (have H2_ := (Option.bind_some _ _).symm.trans H; with_reducible exact H2_) | with_reducible exact H | (rw [hy164]; exact H) | exact H
                              have Ny164 := Aside0.mk hy164
                              clear hy164
                              have H' := Aside0.mk H
                              clear H
                              have p10 : 0 ≤ (x4_1 : Int) := of_decide_eq_true (by first | (with_reducible assumption) | assumption)
                              have q10 : x4_1 < (a0.size : Int) := of_decide_eq_true (by first | (with_reducible assumption) | assumption)
                              have hx10 := bt_at a0 x4_1
                              replace p10 := eq_true p10
                              replace q10 := eq_true q10
                              go_wp2_with (first | ((with_reducible refine gate_builtin (b := .append) (xs := #[.tmp 51, .tmp 53]) rfl ?_); (try (refine gate_guard (by rfl) ?_; dsimp only)); at_builtin; refine Kd.R_append (Kd.int .u8) (w0 := w) w.heap.size rfl (.tmp 51) (.tmp 53) 35 5 (.int .u8 0) 1 rfl Tryz.underlying35 info5 rfl (by decide) (by omega) u3 x3_1 (bt a0 x4_1) [.int .u8 (bt a0 x4_1)] (fun _ => True) (fun _ => False) rfl rfl ?aP (fun _ hk => hk.elim) ?aF ?aO ?aB ?aS ?aL ?_; (case aP => exact rfl); (case aB => exact (by repeat (first | (with_reducible first | exact HB.out | apply below_alloc | apply pw_below_drewN | apply below_drew1) | exact HB.out))); (case aF => exact (fun _ _ => trivial)); (case aO => exact (by (with_reducible repeat (first | apply Kd.R_alloc | apply Kd.R_drewN | apply Kd.R_drew)); exact HO_3.out)); (case aS => exact (below_size (by repeat (first | (with_reducible first | exact HB.out | apply below_alloc | apply pw_below_drewN | apply below_drew1) | exact HB.out)))); (case aL => have := LMc79.out; omega); intro v165 w80 ho hb hg hat; rw [← Ny164.out] at ho; have n0_ := Aside0.mk (hb); have n1_ := Aside0.mk (ho); clear HB; clear HO_3; have HB := n0_; have HO166 := n1_; clear n0_ n1_; clear ho hb hg hat))
                              go_roundg kj3
                              case measure => have := HK1.out; have := HJ3.out; omega
                              case rel => exact ⟨(y164), (wrap64 (x4_1 + 1)), (by first | rfl | (simp; done) | (simp [*]; done)), H', ⟨by have := HK1.out; have := HJ3.out; omega⟩, ⟨by (with_reducible repeat (first | apply Kd.R_alloc | apply Kd.R_drewN | apply Kd.R_drew)); exact HO166.out⟩, ⟨by repeat (first | (with_reducible first | exact HB.out | apply below_alloc | apply pw_below_drewN | apply below_drew1) | exact HB.out)⟩⟩
                            · rw [if_neg c79] at H
                              exact absurd H (by simp)
                          · rw [if_neg c78] at H
                            have c78b0 : ((bt a0 x4_1) == 45) = false := beq_eq_false_iff_ne.mpr c78
                            have c78b1 : ((bt a0 x4_1) != 45) = true := bne_iff_ne.mpr c78
                            have H' := Aside0.mk H
                            clear H
                            have p10 : 0 ≤ (x4_1 : Int) := of_decide_eq_true (by first | (with_reducible assumption) | assumption)
                            have q10 : x4_1 < (a0.size : Int) := of_decide_eq_true (by first | (with_reducible assumption) | assumption)
                            have hx10 := bt_at a0 x4_1
                            replace p10 := eq_true p10
                            replace q10 := eq_true q10
                            go_wp2
                            go_roundg kj3
                            case measure => have := HK1.out; have := HJ3.out; omega
                            case rel => exact ⟨(x3_1), (wrap64 (x4_1 + 1)), (by first | rfl | (simp; done) | (simp [*]; done)), H', ⟨by have := HK1.out; have := HJ3.out; omega⟩, ⟨by (with_reducible repeat (first | apply Kd.R_alloc | apply Kd.R_drewN | apply Kd.R_drew)); exact HO_3.out⟩, ⟨by repeat (first | (with_reducible first | exact HB.out | apply below_alloc | apply pw_below_drewN | apply below_drew1) | exact HB.out)⟩⟩
                    · rw [if_neg c71] at H
                      have c71b0 : decide (48 ≤ (bt a0 x4_1)) = false := decide_eq_false c71
                      clear c71
                      by_cases c81 : (bt a0 x4_1) = 95
                      · rw [if_pos c81] at H
                        have c81b0 : ((bt a0 x4_1) == 95) = true := beq_iff_eq.mpr c81
                        have c81b1 : ((bt a0 x4_1) != 95) = false := bne_eq_false_iff_eq.mpr c81
                        clear c81
                        by_cases c82 : x3_1.length < 140737488355328
                        · rw [if_pos c82] at H
                          have LMc82 := Aside0.mk c82
                          clear c82
                          obtain ⟨y167, hy167⟩ : ∃ y_ : List Int, y_ = (x3_1 ++ [bt a0 x4_1]) := ⟨_, rfl⟩
                          replace H : (laws_trName.l0 kj3 a0 y167 (wrap64 (x4_1 + 1))) = some r := by first | (rw [hy167]; with_reducible exact H) | (have H2_ := (Option.bind_some _ _).symm.trans H; rw [hy167]; with_reducible exact H2_) | (have H2_ := (Option.bind_some _ _).symm.trans H; with_reducible exact H2_) | with_reducible exact H | (rw [hy167]; exact H) | exact H
                          have Ny167 := Aside0.mk hy167
                          clear hy167
                          have H' := Aside0.mk H
                          clear H
                          have p10 : 0 ≤ (x4_1 : Int) := of_decide_eq_true (by first | (with_reducible assumption) | assumption)
                          have q10 : x4_1 < (a0.size : Int) := of_decide_eq_true (by first | (with_reducible assumption) | assumption)
                          have hx10 := bt_at a0 x4_1
                          replace p10 := eq_true p10
                          replace q10 := eq_true q10
                          go_wp2_with (first | ((with_reducible refine gate_builtin (b := .append) (xs := #[.tmp 51, .tmp 53]) rfl ?_); (try (refine gate_guard (by rfl) ?_; dsimp only)); at_builtin; refine Kd.R_append (Kd.int .u8) (w0 := w) w.heap.size rfl (.tmp 51) (.tmp 53) 35 5 (.int .u8 0) 1 rfl Tryz.underlying35 info5 rfl (by decide) (by omega) u3 x3_1 (bt a0 x4_1) [.int .u8 (bt a0 x4_1)] (fun _ => True) (fun _ => False) rfl rfl ?aP (fun _ hk => hk.elim) ?aF ?aO ?aB ?aS ?aL ?_; (case aP => exact rfl); (case aB => exact (by repeat (first | (with_reducible first | exact HB.out | apply below_alloc | apply pw_below_drewN | apply below_drew1) | exact HB.out))); (case aF => exact (fun _ _ => trivial)); (case aO => exact (by (with_reducible repeat (first | apply Kd.R_alloc | apply Kd.R_drewN | apply Kd.R_drew)); exact HO_3.out)); (case aS => exact (below_size (by repeat (first | (with_reducible first | exact HB.out | apply below_alloc | apply pw_below_drewN | apply below_drew1) | exact HB.out)))); (case aL => have := LMc82.out; omega); intro v168 w83 ho hb hg hat; rw [← Ny167.out] at ho; have n0_ := Aside0.mk (hb); have n1_ := Aside0.mk (ho); clear HB; clear HO_3; have HB := n0_; have HO169 := n1_; clear n0_ n1_; clear ho hb hg hat))
                          go_roundg kj3
                          case measure => have := HK1.out; have := HJ3.out; omega
                          case rel => exact ⟨(y167), (wrap64 (x4_1 + 1)), (by first | rfl | (simp; done) | (simp [*]; done)), H', ⟨by have := HK1.out; have := HJ3.out; omega⟩, ⟨by (with_reducible repeat (first | apply Kd.R_alloc | apply Kd.R_drewN | apply Kd.R_drew)); exact HO169.out⟩, ⟨by repeat (first | (with_reducible first | exact HB.out | apply below_alloc | apply pw_below_drewN | apply below_drew1) | exact HB.out)⟩⟩
                        · rw [if_neg c82] at H
                          exact absurd H (by simp)
                      · rw [if_neg c81] at H
                        have c81b0 : ((bt a0 x4_1) == 95) = false := beq_eq_false_iff_ne.mpr c81
                        have c81b1 : ((bt a0 x4_1) != 95) = true := bne_iff_ne.mpr c81
                        by_cases c84 : (bt a0 x4_1) = 45
                        · rw [if_pos c84] at H
                          have c84b0 : ((bt a0 x4_1) == 45) = true := beq_iff_eq.mpr c84
                          have c84b1 : ((bt a0 x4_1) != 45) = false := bne_eq_false_iff_eq.mpr c84
                          clear c84
                          by_cases c85 : x3_1.length < 140737488355328
                          · rw [if_pos c85] at H
                            have LMc85 := Aside0.mk c85
                            clear c85
                            obtain ⟨y170, hy170⟩ : ∃ y_ : List Int, y_ = (x3_1 ++ [bt a0 x4_1]) := ⟨_, rfl⟩
                            replace H : (laws_trName.l0 kj3 a0 y170 (wrap64 (x4_1 + 1))) = some r := by first | (rw [hy170]; with_reducible exact H) | (have H2_ := (Option.bind_some _ _).symm.trans H; rw [hy170]; with_reducible exact H2_) | (have H2_ := (Option.bind_some _ _).symm.trans H; with_reducible exact H2_) | with_reducible exact H | (rw [hy170]; exact H) | exact H
                            have Ny170 := Aside0.mk hy170
                            clear hy170
                            have H' := Aside0.mk H
                            clear H
                            have p10 : 0 ≤ (x4_1 : Int) := of_decide_eq_true (by first | (with_reducible assumption) | assumption)
                            have q10 : x4_1 < (a0.size : Int) := of_decide_eq_true (by first | (with_reducible assumption) | assumption)
                            have hx10 := bt_at a0 x4_1
                            replace p10 := eq_true p10
                            replace q10 := eq_true q10
                            go_wp2_with (first | ((with_reducible refine gate_builtin (b := .append) (xs := #[.tmp 51, .tmp 53]) rfl ?_); (try (refine gate_guard (by rfl) ?_; dsimp only)); at_builtin; refine Kd.R_append (Kd.int .u8) (w0 := w) w.heap.size rfl (.tmp 51) (.tmp 53) 35 5 (.int .u8 0) 1 rfl Tryz.underlying35 info5 rfl (by decide) (by omega) u3 x3_1 (bt a0 x4_1) [.int .u8 (bt a0 x4_1)] (fun _ => True) (fun _ => False) rfl rfl ?aP (fun _ hk => hk.elim) ?aF ?aO ?aB ?aS ?aL ?_; (case aP => exact rfl); (case aB => exact (by repeat (first | (with_reducible first | exact HB.out | apply below_alloc | apply pw_below_drewN | apply below_drew1) | exact HB.out))); (case aF => exact (fun _ _ => trivial)); (case aO => exact (by (with_reducible repeat (first | apply Kd.R_alloc | apply Kd.R_drewN | apply Kd.R_drew)); exact HO_3.out)); (case aS => exact (below_size (by repeat (first | (with_reducible first | exact HB.out | apply below_alloc | apply pw_below_drewN | apply below_drew1) | exact HB.out)))); (case aL => have := LMc85.out; omega); intro v171 w86 ho hb hg hat; rw [← Ny170.out] at ho; have n0_ := Aside0.mk (hb); have n1_ := Aside0.mk (ho); clear HB; clear HO_3; have HB := n0_; have HO172 := n1_; clear n0_ n1_; clear ho hb hg hat))
                            go_roundg kj3
                            case measure => have := HK1.out; have := HJ3.out; omega
                            case rel => exact ⟨(y170), (wrap64 (x4_1 + 1)), (by first | rfl | (simp; done) | (simp [*]; done)), H', ⟨by have := HK1.out; have := HJ3.out; omega⟩, ⟨by (with_reducible repeat (first | apply Kd.R_alloc | apply Kd.R_drewN | apply Kd.R_drew)); exact HO172.out⟩, ⟨by repeat (first | (with_reducible first | exact HB.out | apply below_alloc | apply pw_below_drewN | apply below_drew1) | exact HB.out)⟩⟩
                          · rw [if_neg c85] at H
                            exact absurd H (by simp)
                        · rw [if_neg c84] at H
                          have c84b0 : ((bt a0 x4_1) == 45) = false := beq_eq_false_iff_ne.mpr c84
                          have c84b1 : ((bt a0 x4_1) != 45) = true := bne_iff_ne.mpr c84
                          have H' := Aside0.mk H
                          clear H
                          have p10 : 0 ≤ (x4_1 : Int) := of_decide_eq_true (by first | (with_reducible assumption) | assumption)
                          have q10 : x4_1 < (a0.size : Int) := of_decide_eq_true (by first | (with_reducible assumption) | assumption)
                          have hx10 := bt_at a0 x4_1
                          replace p10 := eq_true p10
                          replace q10 := eq_true q10
                          go_wp2
                          go_roundg kj3
                          case measure => have := HK1.out; have := HJ3.out; omega
                          case rel => exact ⟨(x3_1), (wrap64 (x4_1 + 1)), (by first | rfl | (simp; done) | (simp [*]; done)), H', ⟨by have := HK1.out; have := HJ3.out; omega⟩, ⟨by (with_reducible repeat (first | apply Kd.R_alloc | apply Kd.R_drewN | apply Kd.R_drew)); exact HO_3.out⟩, ⟨by repeat (first | (with_reducible first | exact HB.out | apply below_alloc | apply pw_below_drewN | apply below_drew1) | exact HB.out)⟩⟩
              · rw [if_neg c9] at H
                exact absurd H (by simp)
            · rw [if_neg c8] at H
              exact absurd H (by simp)
          · replace c7 := Bool.eq_false_iff.mpr c7
            subst c7
            have H1 : (some (strOfNums x3_1)) = some r := by rw [if_neg (show ¬ (false = true) by decide)] at H; exact H
            clear H
            have H := H1
            clear H1
            obtain rfl := Option.some.inj H
            have hcv87 := own_string (P := Tryz.prog) Tryz.underlying35 Tryz.underlying5 Tryz.underlying9 (Kd.own_of_R HO_3.out)
            go_wp2
            go_ret
            exact ⟨by first | rfl | (simp [errW_none, errW_some] <;> rfl) | (simp [*, errW_none, errW_some] <;> rfl), by repeat (first | (with_reducible first | exact HB.out | apply below_alloc | apply pw_below_drewN | apply below_drew1) | exact HB.out)⟩

end Go.Proofs.YtjdfcokeejmmeaaGreatDoor.PFnPathQuoted
