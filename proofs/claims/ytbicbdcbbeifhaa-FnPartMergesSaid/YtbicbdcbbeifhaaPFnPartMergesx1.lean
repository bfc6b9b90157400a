-- PRINTED BY print.sh 35421559b90ae4d0a3588c463048766b98c2df88dd9212a6774a882060cdf62d: not written by this session
import Derived.Test.YtbicbdcbbeifhaaPFnPartMergesx0
namespace Go.Proofs.Ytbicbdcbbeifhaa.PFnPartMerges
open Go.RowKit Go.Proofs.YtbicbdcbbeifhaaW.PrintWords Go.Proofs.YtbicbdcbbeifhaaW.PrintLast Go.Proofs.YtbicbdcbbeifhaaW.PrintMore
attribute [local go_sem] max2_int min2_int max_two min_two max_three min_three max_four min_four   -- for this text's walks alone
set_option linter.unusedVariables false
set_option linter.unusedSimpArgs false

/-! ### spec_Has: function 12 -/
mutual
def spec_Has.l0 : Nat → ByteArray → ByteArray → Int → Option (Bool)
  | 0, _, _, _ => none
  | k + 1, x0, x1, x5 => if x5 < (x0.size : Int) then (spec_Has.l1 k x0 x1 x5 0) else (some false)
def spec_Has.l1 : Nat → ByteArray → ByteArray → Int → Int → Option (Bool)
  | 0, _, _, _, _ => none
  | k + 1, x0, x1, x5, x6 => if x6 < (x1.size : Int) then (if 0 ≤ x5 then (if x5 < (x0.size : Int) then (if 0 ≤ x6 then (if (bt x0 x5) = (bt x1 x6) then (some true) else (spec_Has.l1 k x0 x1 x5 (wrap64 (x6 + 1)))) else (none)) else (none)) else (none)) else (spec_Has.l0 k x0 x1 (wrap64 (x5 + 1)))
end
def spec_Has.f (k : Nat) (a0 : ByteArray) (a1 : ByteArray) : Option (Bool) := spec_Has.l0 k a0 a1 0
theorem spec_Has.mono_l : ∀ k, (∀ y0 y1 y2, LeO (spec_Has.l0 k y0 y1 y2) (spec_Has.l0 (k + 1) y0 y1 y2)) ∧ (∀ y0 y1 y2 y3, LeO (spec_Has.l1 k y0 y1 y2 y3) (spec_Has.l1 (k + 1) y0 y1 y2 y3))
  | 0 => ⟨fun _ _ _ r h => by simp [spec_Has.l0] at h, fun _ _ _ _ r h => by simp [spec_Has.l1] at h⟩
  | k + 1 => by
    obtain ⟨ih0, ih1⟩ := spec_Has.mono_l k
    refine ⟨?_, ?_⟩
    · intro y0 y1 y2
      unfold spec_Has.l0
      repeat' first
      | (with_reducible exact ih0 _ _ _)
      | (with_reducible exact ih1 _ _ _ _)
      | (with_reducible exact LeO.refl _)
      | (with_reducible exact LeO.none _)
      | (with_reducible refine LeO.ite ?_ ?_)
      | (with_reducible refine LeO.bind ?_ (fun _ => ?_))
      | exact ih0 _ _ _
      | exact ih1 _ _ _ _
      | exact LeO.none _
      | refine LeO.ite ?_ ?_
      | refine LeO.bind ?_ (fun _ => ?_)
    · intro y0 y1 y2 y3
      unfold spec_Has.l1
      repeat' first
      | (with_reducible exact ih0 _ _ _)
      | (with_reducible exact ih1 _ _ _ _)
      | (with_reducible exact LeO.refl _)
      | (with_reducible exact LeO.none _)
      | (with_reducible refine LeO.ite ?_ ?_)
      | (with_reducible refine LeO.bind ?_ (fun _ => ?_))
      | exact ih0 _ _ _
      | exact ih1 _ _ _ _
      | exact LeO.none _
      | refine LeO.ite ?_ ?_
      | refine LeO.bind ?_ (fun _ => ?_)
theorem spec_Has.mono : ∀ a0 a1 k, LeO (spec_Has.f k a0 a1) (spec_Has.f (k + 1) a0 a1) := by
  intro a0 a1 k
  obtain ⟨ih0, ih1⟩ := spec_Has.mono_l k
  unfold spec_Has.f
  repeat' first
      | (with_reducible exact ih0 _ _ _)
      | (with_reducible exact ih1 _ _ _ _)
      | (with_reducible exact LeO.refl _)
      | (with_reducible exact LeO.none _)
      | (with_reducible refine LeO.ite ?_ ?_)
      | (with_reducible refine LeO.bind ?_ (fun _ => ?_))
      | exact ih0 _ _ _
      | exact ih1 _ _ _ _
      | exact LeO.none _
      | refine LeO.ite ?_ ?_
      | refine LeO.bind ?_ (fun _ => ?_)
set_option maxHeartbeats 8000000 in
set_option maxRecDepth 100000 in
theorem spec_Has.calls (k : Nat) (a0 : ByteArray) (a1 : ByteArray) (r : Bool) (w : World) (h : spec_Has.f k a0 a1 = some r) :
    Calls Try.prog 12 #[.string a0, .string a1] w fun e w' => e = .returned (.bool r) ∧ Drawn0 w w' := by
  have H : (spec_Has.l0 k a0 a1 0) = some r := h
  clear h
  have H' := Aside0.mk H
  clear H
  go_enter Try.func12, Try.ntmps12
  go_wp2
  repeat (go_quiet (fail); try go_wp2)
  go_loopg [5] k (fun kq v5 w' => ∃ (x5_1 : Int), v5 = .int .i64 x5_1 ∧ Aside0 (spec_Has.l0 kq a0 a1 x5_1 = some r) ∧ Aside0 (kq ≤ k) ∧ Drawn0 w w')
  case atStart => exact ⟨(0), (by first | rfl | (simp; done) | (simp [*]; done)), H', ⟨Nat.le_refl _⟩, by repeat (first | exact Drawn0.refl _ | apply Drawn0.step)⟩
  case round =>
    clear H'
    try clear c1
    try clear p2
    obtain ⟨x5_1, rfl, HA, HK1, ⟨m1, rfl⟩⟩ := hrel
    cases gk with
    | zero => exact absurd HA.out (by simp [spec_Has.l0])
    | succ k1 =>
      have H := HA.out
      clear HA
      simp only [spec_Has.l0] at H
      by_cases c3 : x5_1 < (a0.size : Int)
      · rw [if_pos c3] at H
        have c3b0 : decide (x5_1 < (a0.size : Int)) = true := decide_eq_true c3
        clear c3
        have H' := Aside0.mk H
        clear H
        go_wp2
        repeat (go_quiet (fail); try go_wp2)
        go_loopg [6] k1 (fun kq v6 w' => ∃ (x6_2 : Int), v6 = .int .i64 x6_2 ∧ Aside0 (spec_Has.l1 kq a0 a1 x5_1 x6_2 = some r) ∧ Aside0 (kq ≤ k1) ∧ Drawn0 w w')
        case atStart => exact ⟨(0), (by first | rfl | (simp; done) | (simp [*]; done)), H', ⟨Nat.le_refl _⟩, by repeat (first | exact Drawn0.refl _ | apply Drawn0.step)⟩
        case round =>
          clear H'
          try clear c1
          try clear p2
          try clear c3
          try clear c3b0
          try clear p2
          obtain ⟨x6_2, rfl, HA, HK2, ⟨m2, rfl⟩⟩ := hrel
          cases gk with
          | zero => exact absurd HA.out (by simp [spec_Has.l1])
          | succ k2 =>
            have H := HA.out
            clear HA
            simp only [spec_Has.l1] at H
            by_cases c4 : x6_2 < (a1.size : Int)
            · rw [if_pos c4] at H
              have c4b0 : decide (x6_2 < (a1.size : Int)) = true := decide_eq_true c4
              clear c4
              by_cases c5 : 0 ≤ x5_1
              · rw [if_pos c5] at H
                have c5b0 : decide (0 ≤ x5_1) = true := decide_eq_true c5
                clear c5
                by_cases c6 : x5_1 < (a0.size : Int)
                · rw [if_pos c6] at H
                  have c6b0 : decide (x5_1 < (a0.size : Int)) = true := decide_eq_true c6
                  clear c6
                  by_cases c8 : 0 ≤ x6_2
                  · rw [if_pos c8] at H
                    have c8b0 : decide (0 ≤ x6_2) = true := decide_eq_true c8
                    clear c8
                    by_cases c10 : (bt a0 x5_1) = (bt a1 x6_2)
                    · rw [if_pos c10] at H
                      have c10b0 : ((bt a0 x5_1) == (bt a1 x6_2)) = true := beq_iff_eq.mpr c10
                      have c10b1 : ((bt a0 x5_1) != (bt a1 x6_2)) = false := bne_eq_false_iff_eq.mpr c10
                      clear c10
                      obtain rfl := Option.some.inj H
                      have p7 : 0 ≤ (x5_1 : Int) := of_decide_eq_true (by first | (with_reducible assumption) | assumption)
                      have q7 : x5_1 < (a0.size : Int) := of_decide_eq_true (by first | (with_reducible assumption) | assumption)
                      have hx7 := bt_at a0 x5_1
                      replace p7 := eq_true p7
                      replace q7 := eq_true q7
                      have p9 : 0 ≤ (x6_2 : Int) := of_decide_eq_true (by first | (with_reducible assumption) | assumption)
                      have q9 : x6_2 < (a1.size : Int) := of_decide_eq_true (by first | (with_reducible assumption) | assumption)
                      have hx9 := bt_at a1 x6_2
                      replace p9 := eq_true p9
                      replace q9 := eq_true q9
                      go_wp2
                      repeat (go_quiet (fail); try go_wp2)
                      go_ret
                      exact ⟨by first | rfl | (simp; done) | (simp [*]; done), by repeat (first | exact Drawn0.refl _ | apply Drawn0.step)⟩
                    · rw [if_neg c10] at H
                      have c10b0 : ((bt a0 x5_1) == (bt a1 x6_2)) = false := beq_eq_false_iff_ne.mpr c10
                      have c10b1 : ((bt a0 x5_1) != (bt a1 x6_2)) = true := bne_iff_ne.mpr c10
                      have H' := Aside0.mk H
                      clear H
                      have p7 : 0 ≤ (x5_1 : Int) := of_decide_eq_true (by first | (with_reducible assumption) | assumption)
                      have q7 : x5_1 < (a0.size : Int) := of_decide_eq_true (by first | (with_reducible assumption) | assumption)
                      have hx7 := bt_at a0 x5_1
                      replace p7 := eq_true p7
                      replace q7 := eq_true q7
                      have p9 : 0 ≤ (x6_2 : Int) := of_decide_eq_true (by first | (with_reducible assumption) | assumption)
                      have q9 : x6_2 < (a1.size : Int) := of_decide_eq_true (by first | (with_reducible assumption) | assumption)
                      have hx9 := bt_at a1 x6_2
                      replace p9 := eq_true p9
                      replace q9 := eq_true q9
                      go_wp2
                      repeat (go_quiet (fail); try go_wp2)
                      go_roundg k2
                      case measure => have := HK1.out; have := HK2.out; omega
                      case rel => exact ⟨(wrap64 (x6_2 + 1)), (by first | rfl | (simp; done) | (simp [*]; done)), H', ⟨by have := HK1.out; have := HK2.out; omega⟩, by repeat (first | exact Drawn0.refl _ | apply Drawn0.step)⟩
                  · rw [if_neg c8] at H
                    exact absurd H (by simp)
                · rw [if_neg c6] at H
                  exact absurd H (by simp)
              · rw [if_neg c5] at H
                exact absurd H (by simp)
            · rw [if_neg c4] at H
              have c4b0 : decide (x6_2 < (a1.size : Int)) = false := decide_eq_false c4
              clear c4
              have H' := Aside0.mk H
              clear H
              go_wp2
              repeat (go_quiet (fail); try go_wp2)
              go_roundg k2
              case measure => have := HK1.out; have := HK2.out; omega
              case rel => exact ⟨(wrap64 (x5_1 + 1)), (by first | rfl | (simp; done) | (simp [*]; done)), H', ⟨by have := HK1.out; have := HK2.out; omega⟩, by repeat (first | exact Drawn0.refl _ | apply Drawn0.step)⟩
      · rw [if_neg c3] at H
        have c3b0 : decide (x5_1 < (a0.size : Int)) = false := decide_eq_false c3
        clear c3
        obtain rfl := Option.some.inj H
        go_wp2
        repeat (go_quiet (fail); try go_wp2)
        go_ret
        exact ⟨by first | rfl | (simp; done) | (simp [*]; done), by repeat (first | exact Drawn0.refl _ | apply Drawn0.step)⟩

-- NOT PRINTED: function 48 (scanner_Scanner_clearState)

-- NOT PRINTED: function 39 (scanner_Scanner_Init)

-- NOT PRINTED: function 49 (scanner_createContext)

-- NOT PRINTED: function 57 (scanner_Context_resetBuffer)

-- NOT PRINTED: function 50 (scanner_Context_reset)

-- NOT PRINTED: function 40 (scanner_newContext)

-- NOT PRINTED: function 35 (scanner_zzAt)

-- NOT PRINTED: function 41 (scanner_Context_repeatNum)

-- NOT PRINTED: function 42 (scanner_Scanner_isNewLineChar)

-- NOT PRINTED: function 36 (scanner_Scanner_isMergeKey)

-- NOT PRINTED: function 26 (scanner_ZzMerges)

-- NOT PRINTED: function 17 (impl_Merges)

-- NOT PRINTED: function 7 (laws_FnPartMerges)

end Go.Proofs.Ytbicbdcbbeifhaa.PFnPartMerges
