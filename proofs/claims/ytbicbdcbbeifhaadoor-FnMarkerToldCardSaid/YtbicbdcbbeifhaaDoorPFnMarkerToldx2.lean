-- PRINTED BY print.sh 35421559b90ae4d0a3588c463048766b98c2df88dd9212a6774a882060cdf62d: not written by this session
import Derived.Test.YtbicbdcbbeifhaaDoorPFnMarkerToldx0
import Derived.Test.YtbicbdcbbeifhaaDoorPFnMarkerToldx1
namespace Go.Proofs.YtbicbdcbbeifhaaDoor.PFnMarkerTold
open Go.RowKit Go.Proofs.YtbicbdcbbeifhaaDoorW.PrintWords Go.Proofs.YtbicbdcbbeifhaaDoorW.PrintLast Go.Proofs.YtbicbdcbbeifhaaDoorW.PrintMore
attribute [local go_sem] max2_int min2_int max_two min_two max_three min_three max_four min_four   -- for this text's walks alone
set_option linter.unusedVariables false
set_option linter.unusedSimpArgs false

/-! ### spec_Marked: function 6 -/
def spec_Marked.f (k : Nat) (a0 : ByteArray) : Option (Bool) := if (a0.size : Int) < 3 then (some false) else (if 0 < (a0.size : Int) then (if (bt a0 0) = 45 then (if 1 < (a0.size : Int) then (if (bt a0 1) = (bt a0 0) then (if 2 < (a0.size : Int) then (if (bt a0 2) = (bt a0 0) then (if (a0.size : Int) = 3 then (some true) else (if 3 ≤ 4 then (if 4 ≤ (a0.size : Int) then ((spec_Has.f k (a0.extract 3 4) (⟨#[32, 9, 10]⟩ : ByteArray)).bind fun t111 => (some t111)) else (none)) else (none))) else (some false)) else (none)) else (some false)) else (none)) else (if (bt a0 0) = 46 then (if 1 < (a0.size : Int) then (if (bt a0 1) = (bt a0 0) then (if 2 < (a0.size : Int) then (if (bt a0 2) = (bt a0 0) then (if (a0.size : Int) = 3 then (some true) else (if 3 ≤ 4 then (if 4 ≤ (a0.size : Int) then ((spec_Has.f k (a0.extract 3 4) (⟨#[32, 9, 10]⟩ : ByteArray)).bind fun t112 => (some t112)) else (none)) else (none))) else (some false)) else (none)) else (some false)) else (none)) else (some false))) else (none))
theorem spec_Marked.mono : ∀ a0 k, LeO (spec_Marked.f k a0) (spec_Marked.f (k + 1) a0) := by
  intro a0 k
  unfold spec_Marked.f
  repeat' first
      | (with_reducible exact spec_Has.mono _ _ _)
      | (with_reducible exact LeO.refl _)
      | (with_reducible exact LeO.none _)
      | (with_reducible refine LeO.ite ?_ ?_)
      | (with_reducible refine LeO.bind ?_ (fun _ => ?_))
      | exact spec_Has.mono _ _ _
      | exact LeO.none _
      | refine LeO.ite ?_ ?_
      | refine LeO.bind ?_ (fun _ => ?_)
set_option maxHeartbeats 8000000 in
set_option maxRecDepth 100000 in
theorem spec_Marked.calls (k : Nat) (a0 : ByteArray) (r : Bool) (w : World) (h : spec_Marked.f k a0 = some r) :
    Calls Tryd.prog 6 #[.string a0] w fun e w' => e = .returned (.bool r) ∧ Drawn0 w w' := by
  have H : (if (a0.size : Int) < 3 then (some false) else (if 0 < (a0.size : Int) then (if (bt a0 0) = 45 then (if 1 < (a0.size : Int) then (if (bt a0 1) = (bt a0 0) then (if 2 < (a0.size : Int) then (if (bt a0 2) = (bt a0 0) then (if (a0.size : Int) = 3 then (some true) else (if 3 ≤ 4 then (if 4 ≤ (a0.size : Int) then ((spec_Has.f k (a0.extract 3 4) (⟨#[32, 9, 10]⟩ : ByteArray)).bind fun t111 => (some t111)) else (none)) else (none))) else (some false)) else (none)) else (some false)) else (none)) else (if (bt a0 0) = 46 then (if 1 < (a0.size : Int) then (if (bt a0 1) = (bt a0 0) then (if 2 < (a0.size : Int) then (if (bt a0 2) = (bt a0 0) then (if (a0.size : Int) = 3 then (some true) else (if 3 ≤ 4 then (if 4 ≤ (a0.size : Int) then ((spec_Has.f k (a0.extract 3 4) (⟨#[32, 9, 10]⟩ : ByteArray)).bind fun t112 => (some t112)) else (none)) else (none))) else (some false)) else (none)) else (some false)) else (none)) else (some false))) else (none))) = some r := h
  clear h
  by_cases c2 : (a0.size : Int) < 3
  · rw [if_pos c2] at H
    have c2b0 : decide ((a0.size : Int) < 3) = true := decide_eq_true c2
    have c2b1 : decide (a0.size < 3) = true := decide_eq_true (by omega)
    clear c2
    obtain rfl := Option.some.inj H
    go_enter Tryd.func6, Tryd.ntmps6
    go_wp2
    repeat (go_quiet (fail); try go_wp2)
    go_ret
    exact ⟨by first | rfl | (simp; done) | (simp [*]; done), by repeat (first | exact Drawn0.refl _ | apply Drawn0.step)⟩
  · rw [if_neg c2] at H
    have c2b0 : decide ((a0.size : Int) < 3) = false := decide_eq_false c2
    have c2b1 : decide (a0.size < 3) = false := decide_eq_false (by omega)
    clear c2
    by_cases c3 : 0 < (a0.size : Int)
    · rw [if_pos c3] at H
      have c3b0 : decide (0 < (a0.size : Int)) = true := decide_eq_true c3
      have c3b1 : decide (0 < a0.size) = true := decide_eq_true (by omega)
      clear c3
      by_cases c5 : (bt a0 0) = 45
      · rw [if_pos c5] at H
        have c5b0 : ((bt a0 0) == 45) = true := beq_iff_eq.mpr c5
        have c5b1 : ((bt a0 0) != 45) = false := bne_eq_false_iff_eq.mpr c5
        clear c5
        by_cases c6 : 1 < (a0.size : Int)
        · rw [if_pos c6] at H
          have c6b0 : decide (1 < (a0.size : Int)) = true := decide_eq_true c6
          have c6b1 : decide (1 < a0.size) = true := decide_eq_true (by omega)
          clear c6
          by_cases c9 : (bt a0 1) = (bt a0 0)
          · rw [if_pos c9] at H
            have c9b0 : ((bt a0 1) == (bt a0 0)) = true := beq_iff_eq.mpr c9
            have c9b1 : ((bt a0 1) != (bt a0 0)) = false := bne_eq_false_iff_eq.mpr c9
            clear c9
            by_cases c10 : 2 < (a0.size : Int)
            · rw [if_pos c10] at H
              have c10b0 : decide (2 < (a0.size : Int)) = true := decide_eq_true c10
              have c10b1 : decide (2 < a0.size) = true := decide_eq_true (by omega)
              clear c10
              by_cases c13 : (bt a0 2) = (bt a0 0)
              · rw [if_pos c13] at H
                have c13b0 : ((bt a0 2) == (bt a0 0)) = true := beq_iff_eq.mpr c13
                have c13b1 : ((bt a0 2) != (bt a0 0)) = false := bne_eq_false_iff_eq.mpr c13
                clear c13
                by_cases c14 : (a0.size : Int) = 3
                · rw [if_pos c14] at H
                  have c14b0 : ((a0.size : Int) == 3) = true := beq_iff_eq.mpr c14
                  have c14b1 : ((a0.size : Int) != 3) = false := bne_eq_false_iff_eq.mpr c14
                  clear c14
                  obtain rfl := Option.some.inj H
                  have p4 : 0 ≤ (0 : Int) := (by omega)
                  have q4 : 0 < a0.size := (by have : (0 : Int) < (a0.size : Int) := of_decide_eq_true (by first | (with_reducible assumption) | assumption); omega)
                  have hx4 : ∀ h : 0 < a0.size, ((a0[0]'h).toNat : Int) = bt a0 0 := bt_at a0 0
                  clear p4
                  have qi4 : (0 < (a0.size : Int)) = True := eq_true (of_decide_eq_true (by first | (with_reducible assumption) | assumption))
                  replace q4 := eq_true q4
                  have p7 : 0 ≤ (1 : Int) := (by omega)
                  have q7 : 1 < a0.size := (by have : (1 : Int) < (a0.size : Int) := of_decide_eq_true (by first | (with_reducible assumption) | assumption); omega)
                  have hx7 : ∀ h : 1 < a0.size, ((a0[1]'h).toNat : Int) = bt a0 1 := bt_at a0 1
                  clear p7
                  have qi7 : (1 < (a0.size : Int)) = True := eq_true (of_decide_eq_true (by first | (with_reducible assumption) | assumption))
                  replace q7 := eq_true q7
                  have p8 : 0 ≤ (0 : Int) := (by omega)
                  have q8 : 0 < a0.size := (by have : (0 : Int) < (a0.size : Int) := of_decide_eq_true (by first | (with_reducible assumption) | assumption); omega)
                  have hx8 : ∀ h : 0 < a0.size, ((a0[0]'h).toNat : Int) = bt a0 0 := bt_at a0 0
                  clear p8
                  have qi8 : (0 < (a0.size : Int)) = True := eq_true (of_decide_eq_true (by first | (with_reducible assumption) | assumption))
                  replace q8 := eq_true q8
                  have p11 : 0 ≤ (2 : Int) := (by omega)
                  have q11 : 2 < a0.size := (by have : (2 : Int) < (a0.size : Int) := of_decide_eq_true (by first | (with_reducible assumption) | assumption); omega)
                  have hx11 : ∀ h : 2 < a0.size, ((a0[2]'h).toNat : Int) = bt a0 2 := bt_at a0 2
                  clear p11
                  have qi11 : (2 < (a0.size : Int)) = True := eq_true (of_decide_eq_true (by first | (with_reducible assumption) | assumption))
                  replace q11 := eq_true q11
                  have p12 : 0 ≤ (0 : Int) := (by omega)
                  have q12 : 0 < a0.size := (by have : (0 : Int) < (a0.size : Int) := of_decide_eq_true (by first | (with_reducible assumption) | assumption); omega)
                  have hx12 : ∀ h : 0 < a0.size, ((a0[0]'h).toNat : Int) = bt a0 0 := bt_at a0 0
                  clear p12
                  have qi12 : (0 < (a0.size : Int)) = True := eq_true (of_decide_eq_true (by first | (with_reducible assumption) | assumption))
                  replace q12 := eq_true q12
                  go_enter Tryd.func6, Tryd.ntmps6
                  go_wp2
                  repeat (go_quiet (fail); try go_wp2)
                  go_ret
                  exact ⟨by first | rfl | (simp; done) | (simp [*]; done), by repeat (first | exact Drawn0.refl _ | apply Drawn0.step)⟩
                · rw [if_neg c14] at H
                  have c14b0 : ((a0.size : Int) == 3) = false := beq_eq_false_iff_ne.mpr c14
                  have c14b1 : ((a0.size : Int) != 3) = true := bne_iff_ne.mpr c14
                  by_cases c15 : 3 ≤ 4
                  · rw [if_pos c15] at H
                    have c15b0 := eq_true c15
                    have c15b1 : decide (3 ≤ 4) = true := decide_eq_true c15
                    clear c15
                    by_cases c16 : 4 ≤ (a0.size : Int)
                    · rw [if_pos c16] at H
                      have c16b0 := eq_true c16
                      have c16b1 : decide (4 ≤ (a0.size : Int)) = true := decide_eq_true c16
                      clear c16
                      replace H := Option.bind_eq_some_iff.mp H
                      obtain ⟨t111, A170, H⟩ := H
                      replace H : (some t111) = some r := H
                      have A17 := Aside0.mk A170
                      clear A170
                      obtain rfl := Option.some.inj H
                      have p4 : 0 ≤ (0 : Int) := (by omega)
                      have q4 : 0 < a0.size := (by have : (0 : Int) < (a0.size : Int) := of_decide_eq_true (by first | (with_reducible assumption) | assumption); omega)
                      have hx4 : ∀ h : 0 < a0.size, ((a0[0]'h).toNat : Int) = bt a0 0 := bt_at a0 0
                      clear p4
                      have qi4 : (0 < (a0.size : Int)) = True := eq_true (of_decide_eq_true (by first | (with_reducible assumption) | assumption))
                      replace q4 := eq_true q4
                      have p7 : 0 ≤ (1 : Int) := (by omega)
                      have q7 : 1 < a0.size := (by have : (1 : Int) < (a0.size : Int) := of_decide_eq_true (by first | (with_reducible assumption) | assumption); omega)
                      have hx7 : ∀ h : 1 < a0.size, ((a0[1]'h).toNat : Int) = bt a0 1 := bt_at a0 1
                      clear p7
                      have qi7 : (1 < (a0.size : Int)) = True := eq_true (of_decide_eq_true (by first | (with_reducible assumption) | assumption))
                      replace q7 := eq_true q7
                      have p8 : 0 ≤ (0 : Int) := (by omega)
                      have q8 : 0 < a0.size := (by have : (0 : Int) < (a0.size : Int) := of_decide_eq_true (by first | (with_reducible assumption) | assumption); omega)
                      have hx8 : ∀ h : 0 < a0.size, ((a0[0]'h).toNat : Int) = bt a0 0 := bt_at a0 0
                      clear p8
                      have qi8 : (0 < (a0.size : Int)) = True := eq_true (of_decide_eq_true (by first | (with_reducible assumption) | assumption))
                      replace q8 := eq_true q8
                      have p11 : 0 ≤ (2 : Int) := (by omega)
                      have q11 : 2 < a0.size := (by have : (2 : Int) < (a0.size : Int) := of_decide_eq_true (by first | (with_reducible assumption) | assumption); omega)
                      have hx11 : ∀ h : 2 < a0.size, ((a0[2]'h).toNat : Int) = bt a0 2 := bt_at a0 2
                      clear p11
                      have qi11 : (2 < (a0.size : Int)) = True := eq_true (of_decide_eq_true (by first | (with_reducible assumption) | assumption))
                      replace q11 := eq_true q11
                      have p12 : 0 ≤ (0 : Int) := (by omega)
                      have q12 : 0 < a0.size := (by have : (0 : Int) < (a0.size : Int) := of_decide_eq_true (by first | (with_reducible assumption) | assumption); omega)
                      have hx12 : ∀ h : 0 < a0.size, ((a0[0]'h).toNat : Int) = bt a0 0 := bt_at a0 0
                      clear p12
                      have qi12 : (0 < (a0.size : Int)) = True := eq_true (of_decide_eq_true (by first | (with_reducible assumption) | assumption))
                      replace q12 := eq_true q12
                      go_enter Tryd.func6, Tryd.ntmps6
                      go_wp2_with (first | (go_at_call 10; (with_reducible refine (spec_Has.calls k (a0.extract 3 4) (⟨#[32, 9, 10]⟩ : ByteArray) t111 _ A17.out).mono ?_); rintro e w' ⟨rfl, ⟨nd, rfl⟩⟩; (try first | exact ⟨rfl, _, World.drewN_drewN _ _ _⟩ | exact ⟨rfl, _, Eq.trans (World.drewN_drewN _ _ _) (congrArg (World.drewN _) (Nat.add_assoc _ _ _))⟩)))
                      repeat (go_quiet (first | (go_at_call 10; (with_reducible refine (spec_Has.calls k (a0.extract 3 4) (⟨#[32, 9, 10]⟩ : ByteArray) t111 _ A17.out).mono ?_); rintro e w' ⟨rfl, ⟨nd, rfl⟩⟩; (try first | exact ⟨rfl, _, World.drewN_drewN _ _ _⟩ | exact ⟨rfl, _, Eq.trans (World.drewN_drewN _ _ _) (congrArg (World.drewN _) (Nat.add_assoc _ _ _))⟩))); try go_wp2_with (first | (go_at_call 10; (with_reducible refine (spec_Has.calls k (a0.extract 3 4) (⟨#[32, 9, 10]⟩ : ByteArray) t111 _ A17.out).mono ?_); rintro e w' ⟨rfl, ⟨nd, rfl⟩⟩; (try first | exact ⟨rfl, _, World.drewN_drewN _ _ _⟩ | exact ⟨rfl, _, Eq.trans (World.drewN_drewN _ _ _) (congrArg (World.drewN _) (Nat.add_assoc _ _ _))⟩))))
                      go_ret
                      exact ⟨by first | rfl | (simp; done) | (simp [*]; done), by repeat (first | exact Drawn0.refl _ | apply Drawn0.step)⟩
                    · rw [if_neg c16] at H
                      exact absurd H (by simp)
                  · rw [if_neg c15] at H
                    exact absurd H (by simp)
              · rw [if_neg c13] at H
                have c13b0 : ((bt a0 2) == (bt a0 0)) = false := beq_eq_false_iff_ne.mpr c13
                have c13b1 : ((bt a0 2) != (bt a0 0)) = true := bne_iff_ne.mpr c13
                obtain rfl := Option.some.inj H
                have p4 : 0 ≤ (0 : Int) := (by omega)
                have q4 : 0 < a0.size := (by have : (0 : Int) < (a0.size : Int) := of_decide_eq_true (by first | (with_reducible assumption) | assumption); omega)
                have hx4 : ∀ h : 0 < a0.size, ((a0[0]'h).toNat : Int) = bt a0 0 := bt_at a0 0
                clear p4
                have qi4 : (0 < (a0.size : Int)) = True := eq_true (of_decide_eq_true (by first | (with_reducible assumption) | assumption))
                replace q4 := eq_true q4
                have p7 : 0 ≤ (1 : Int) := (by omega)
                have q7 : 1 < a0.size := (by have : (1 : Int) < (a0.size : Int) := of_decide_eq_true (by first | (with_reducible assumption) | assumption); omega)
                have hx7 : ∀ h : 1 < a0.size, ((a0[1]'h).toNat : Int) = bt a0 1 := bt_at a0 1
                clear p7
                have qi7 : (1 < (a0.size : Int)) = True := eq_true (of_decide_eq_true (by first | (with_reducible assumption) | assumption))
                replace q7 := eq_true q7
                have p8 : 0 ≤ (0 : Int) := (by omega)
                have q8 : 0 < a0.size := (by have : (0 : Int) < (a0.size : Int) := of_decide_eq_true (by first | (with_reducible assumption) | assumption); omega)
                have hx8 : ∀ h : 0 < a0.size, ((a0[0]'h).toNat : Int) = bt a0 0 := bt_at a0 0
                clear p8
                have qi8 : (0 < (a0.size : Int)) = True := eq_true (of_decide_eq_true (by first | (with_reducible assumption) | assumption))
                replace q8 := eq_true q8
                have p11 : 0 ≤ (2 : Int) := (by omega)
                have q11 : 2 < a0.size := (by have : (2 : Int) < (a0.size : Int) := of_decide_eq_true (by first | (with_reducible assumption) | assumption); omega)
                have hx11 : ∀ h : 2 < a0.size, ((a0[2]'h).toNat : Int) = bt a0 2 := bt_at a0 2
                clear p11
                have qi11 : (2 < (a0.size : Int)) = True := eq_true (of_decide_eq_true (by first | (with_reducible assumption) | assumption))
                replace q11 := eq_true q11
                have p12 : 0 ≤ (0 : Int) := (by omega)
                have q12 : 0 < a0.size := (by have : (0 : Int) < (a0.size : Int) := of_decide_eq_true (by first | (with_reducible assumption) | assumption); omega)
                have hx12 : ∀ h : 0 < a0.size, ((a0[0]'h).toNat : Int) = bt a0 0 := bt_at a0 0
                clear p12
                have qi12 : (0 < (a0.size : Int)) = True := eq_true (of_decide_eq_true (by first | (with_reducible assumption) | assumption))
                replace q12 := eq_true q12
                go_enter Tryd.func6, Tryd.ntmps6
                go_wp2
                repeat (go_quiet (fail); try go_wp2)
                go_ret
                exact ⟨by first | rfl | (simp; done) | (simp [*]; done), by repeat (first | exact Drawn0.refl _ | apply Drawn0.step)⟩
            · rw [if_neg c10] at H
              exact absurd H (by simp)
          · rw [if_neg c9] at H
            have c9b0 : ((bt a0 1) == (bt a0 0)) = false := beq_eq_false_iff_ne.mpr c9
            have c9b1 : ((bt a0 1) != (bt a0 0)) = true := bne_iff_ne.mpr c9
            obtain rfl := Option.some.inj H
            have p4 : 0 ≤ (0 : Int) := (by omega)
            have q4 : 0 < a0.size := (by have : (0 : Int) < (a0.size : Int) := of_decide_eq_true (by first | (with_reducible assumption) | assumption); omega)
            have hx4 : ∀ h : 0 < a0.size, ((a0[0]'h).toNat : Int) = bt a0 0 := bt_at a0 0
            clear p4
            have qi4 : (0 < (a0.size : Int)) = True := eq_true (of_decide_eq_true (by first | (with_reducible assumption) | assumption))
            replace q4 := eq_true q4
            have p7 : 0 ≤ (1 : Int) := (by omega)
            have q7 : 1 < a0.size := (by have : (1 : Int) < (a0.size : Int) := of_decide_eq_true (by first | (with_reducible assumption) | assumption); omega)
            have hx7 : ∀ h : 1 < a0.size, ((a0[1]'h).toNat : Int) = bt a0 1 := bt_at a0 1
            clear p7
            have qi7 : (1 < (a0.size : Int)) = True := eq_true (of_decide_eq_true (by first | (with_reducible assumption) | assumption))
            replace q7 := eq_true q7
            have p8 : 0 ≤ (0 : Int) := (by omega)
            have q8 : 0 < a0.size := (by have : (0 : Int) < (a0.size : Int) := of_decide_eq_true (by first | (with_reducible assumption) | assumption); omega)
            have hx8 : ∀ h : 0 < a0.size, ((a0[0]'h).toNat : Int) = bt a0 0 := bt_at a0 0
            clear p8
            have qi8 : (0 < (a0.size : Int)) = True := eq_true (of_decide_eq_true (by first | (with_reducible assumption) | assumption))
            replace q8 := eq_true q8
            go_enter Tryd.func6, Tryd.ntmps6
            go_wp2
            repeat (go_quiet (fail); try go_wp2)
            go_ret
            exact ⟨by first | rfl | (simp; done) | (simp [*]; done), by repeat (first | exact Drawn0.refl _ | apply Drawn0.step)⟩
        · rw [if_neg c6] at H
          exact absurd H (by simp)
      · rw [if_neg c5] at H
        have c5b0 : ((bt a0 0) == 45) = false := beq_eq_false_iff_ne.mpr c5
        have c5b1 : ((bt a0 0) != 45) = true := bne_iff_ne.mpr c5
        by_cases c19 : (bt a0 0) = 46
        · rw [if_pos c19] at H
          have c19b0 : ((bt a0 0) == 46) = true := beq_iff_eq.mpr c19
          have c19b1 : ((bt a0 0) != 46) = false := bne_eq_false_iff_eq.mpr c19
          clear c19
          by_cases c20 : 1 < (a0.size : Int)
          · rw [if_pos c20] at H
            have c20b0 : decide (1 < (a0.size : Int)) = true := decide_eq_true c20
            have c20b1 : decide (1 < a0.size) = true := decide_eq_true (by omega)
            clear c20
            by_cases c23 : (bt a0 1) = (bt a0 0)
            · rw [if_pos c23] at H
              have c23b0 : ((bt a0 1) == (bt a0 0)) = true := beq_iff_eq.mpr c23
              have c23b1 : ((bt a0 1) != (bt a0 0)) = false := bne_eq_false_iff_eq.mpr c23
              clear c23
              by_cases c24 : 2 < (a0.size : Int)
              · rw [if_pos c24] at H
                have c24b0 : decide (2 < (a0.size : Int)) = true := decide_eq_true c24
                have c24b1 : decide (2 < a0.size) = true := decide_eq_true (by omega)
                clear c24
                by_cases c27 : (bt a0 2) = (bt a0 0)
                · rw [if_pos c27] at H
                  have c27b0 : ((bt a0 2) == (bt a0 0)) = true := beq_iff_eq.mpr c27
                  have c27b1 : ((bt a0 2) != (bt a0 0)) = false := bne_eq_false_iff_eq.mpr c27
                  clear c27
                  by_cases c28 : (a0.size : Int) = 3
                  · rw [if_pos c28] at H
                    have c28b0 : ((a0.size : Int) == 3) = true := beq_iff_eq.mpr c28
                    have c28b1 : ((a0.size : Int) != 3) = false := bne_eq_false_iff_eq.mpr c28
                    clear c28
                    obtain rfl := Option.some.inj H
                    have p4 : 0 ≤ (0 : Int) := (by omega)
                    have q4 : 0 < a0.size := (by have : (0 : Int) < (a0.size : Int) := of_decide_eq_true (by first | (with_reducible assumption) | assumption); omega)
                    have hx4 : ∀ h : 0 < a0.size, ((a0[0]'h).toNat : Int) = bt a0 0 := bt_at a0 0
                    clear p4
                    have qi4 : (0 < (a0.size : Int)) = True := eq_true (of_decide_eq_true (by first | (with_reducible assumption) | assumption))
                    replace q4 := eq_true q4
                    have p18 : 0 ≤ (0 : Int) := (by omega)
                    have q18 : 0 < a0.size := (by have : (0 : Int) < (a0.size : Int) := of_decide_eq_true (by first | (with_reducible assumption) | assumption); omega)
                    have hx18 : ∀ h : 0 < a0.size, ((a0[0]'h).toNat : Int) = bt a0 0 := bt_at a0 0
                    clear p18
                    have qi18 : (0 < (a0.size : Int)) = True := eq_true (of_decide_eq_true (by first | (with_reducible assumption) | assumption))
                    replace q18 := eq_true q18
                    have p21 : 0 ≤ (1 : Int) := (by omega)
                    have q21 : 1 < a0.size := (by have : (1 : Int) < (a0.size : Int) := of_decide_eq_true (by first | (with_reducible assumption) | assumption); omega)
                    have hx21 : ∀ h : 1 < a0.size, ((a0[1]'h).toNat : Int) = bt a0 1 := bt_at a0 1
                    clear p21
                    have qi21 : (1 < (a0.size : Int)) = True := eq_true (of_decide_eq_true (by first | (with_reducible assumption) | assumption))
                    replace q21 := eq_true q21
                    have p22 : 0 ≤ (0 : Int) := (by omega)
                    have q22 : 0 < a0.size := (by have : (0 : Int) < (a0.size : Int) := of_decide_eq_true (by first | (with_reducible assumption) | assumption); omega)
                    have hx22 : ∀ h : 0 < a0.size, ((a0[0]'h).toNat : Int) = bt a0 0 := bt_at a0 0
                    clear p22
                    have qi22 : (0 < (a0.size : Int)) = True := eq_true (of_decide_eq_true (by first | (with_reducible assumption) | assumption))
                    replace q22 := eq_true q22
                    have p25 : 0 ≤ (2 : Int) := (by omega)
                    have q25 : 2 < a0.size := (by have : (2 : Int) < (a0.size : Int) := of_decide_eq_true (by first | (with_reducible assumption) | assumption); omega)
                    have hx25 : ∀ h : 2 < a0.size, ((a0[2]'h).toNat : Int) = bt a0 2 := bt_at a0 2
                    clear p25
                    have qi25 : (2 < (a0.size : Int)) = True := eq_true (of_decide_eq_true (by first | (with_reducible assumption) | assumption))
                    replace q25 := eq_true q25
                    have p26 : 0 ≤ (0 : Int) := (by omega)
                    have q26 : 0 < a0.size := (by have : (0 : Int) < (a0.size : Int) := of_decide_eq_true (by first | (with_reducible assumption) | assumption); omega)
                    have hx26 : ∀ h : 0 < a0.size, ((a0[0]'h).toNat : Int) = bt a0 0 := bt_at a0 0
                    clear p26
                    have qi26 : (0 < (a0.size : Int)) = True := eq_true (of_decide_eq_true (by first | (with_reducible assumption) | assumption))
                    replace q26 := eq_true q26
                    go_enter Tryd.func6, Tryd.ntmps6
                    go_wp2
                    repeat (go_quiet (fail); try go_wp2)
                    go_ret
                    exact ⟨by first | rfl | (simp; done) | (simp [*]; done), by repeat (first | exact Drawn0.refl _ | apply Drawn0.step)⟩
                  · rw [if_neg c28] at H
                    have c28b0 : ((a0.size : Int) == 3) = false := beq_eq_false_iff_ne.mpr c28
                    have c28b1 : ((a0.size : Int) != 3) = true := bne_iff_ne.mpr c28
                    by_cases c29 : 3 ≤ 4
                    · rw [if_pos c29] at H
                      have c29b0 := eq_true c29
                      have c29b1 : decide (3 ≤ 4) = true := decide_eq_true c29
                      clear c29
                      by_cases c30 : 4 ≤ (a0.size : Int)
                      · rw [if_pos c30] at H
                        have c30b0 := eq_true c30
                        have c30b1 : decide (4 ≤ (a0.size : Int)) = true := decide_eq_true c30
                        clear c30
                        replace H := Option.bind_eq_some_iff.mp H
                        obtain ⟨t112, A310, H⟩ := H
                        replace H : (some t112) = some r := H
                        have A31 := Aside0.mk A310
                        clear A310
                        obtain rfl := Option.some.inj H
                        have p4 : 0 ≤ (0 : Int) := (by omega)
                        have q4 : 0 < a0.size := (by have : (0 : Int) < (a0.size : Int) := of_decide_eq_true (by first | (with_reducible assumption) | assumption); omega)
                        have hx4 : ∀ h : 0 < a0.size, ((a0[0]'h).toNat : Int) = bt a0 0 := bt_at a0 0
                        clear p4
                        have qi4 : (0 < (a0.size : Int)) = True := eq_true (of_decide_eq_true (by first | (with_reducible assumption) | assumption))
                        replace q4 := eq_true q4
                        have p18 : 0 ≤ (0 : Int) := (by omega)
                        have q18 : 0 < a0.size := (by have : (0 : Int) < (a0.size : Int) := of_decide_eq_true (by first | (with_reducible assumption) | assumption); omega)
                        have hx18 : ∀ h : 0 < a0.size, ((a0[0]'h).toNat : Int) = bt a0 0 := bt_at a0 0
                        clear p18
                        have qi18 : (0 < (a0.size : Int)) = True := eq_true (of_decide_eq_true (by first | (with_reducible assumption) | assumption))
                        replace q18 := eq_true q18
                        have p21 : 0 ≤ (1 : Int) := (by omega)
                        have q21 : 1 < a0.size := (by have : (1 : Int) < (a0.size : Int) := of_decide_eq_true (by first | (with_reducible assumption) | assumption); omega)
                        have hx21 : ∀ h : 1 < a0.size, ((a0[1]'h).toNat : Int) = bt a0 1 := bt_at a0 1
                        clear p21
                        have qi21 : (1 < (a0.size : Int)) = True := eq_true (of_decide_eq_true (by first | (with_reducible assumption) | assumption))
                        replace q21 := eq_true q21
                        have p22 : 0 ≤ (0 : Int) := (by omega)
                        have q22 : 0 < a0.size := (by have : (0 : Int) < (a0.size : Int) := of_decide_eq_true (by first | (with_reducible assumption) | assumption); omega)
                        have hx22 : ∀ h : 0 < a0.size, ((a0[0]'h).toNat : Int) = bt a0 0 := bt_at a0 0
                        clear p22
                        have qi22 : (0 < (a0.size : Int)) = True := eq_true (of_decide_eq_true (by first | (with_reducible assumption) | assumption))
                        replace q22 := eq_true q22
                        have p25 : 0 ≤ (2 : Int) := (by omega)
                        have q25 : 2 < a0.size := (by have : (2 : Int) < (a0.size : Int) := of_decide_eq_true (by first | (with_reducible assumption) | assumption); omega)
                        have hx25 : ∀ h : 2 < a0.size, ((a0[2]'h).toNat : Int) = bt a0 2 := bt_at a0 2
                        clear p25
                        have qi25 : (2 < (a0.size : Int)) = True := eq_true (of_decide_eq_true (by first | (with_reducible assumption) | assumption))
                        replace q25 := eq_true q25
                        have p26 : 0 ≤ (0 : Int) := (by omega)
                        have q26 : 0 < a0.size := (by have : (0 : Int) < (a0.size : Int) := of_decide_eq_true (by first | (with_reducible assumption) | assumption); omega)
                        have hx26 : ∀ h : 0 < a0.size, ((a0[0]'h).toNat : Int) = bt a0 0 := bt_at a0 0
                        clear p26
                        have qi26 : (0 < (a0.size : Int)) = True := eq_true (of_decide_eq_true (by first | (with_reducible assumption) | assumption))
                        replace q26 := eq_true q26
                        go_enter Tryd.func6, Tryd.ntmps6
                        go_wp2_with (first | (go_at_call 10; (with_reducible refine (spec_Has.calls k (a0.extract 3 4) (⟨#[32, 9, 10]⟩ : ByteArray) t112 _ A31.out).mono ?_); rintro e w' ⟨rfl, ⟨nd, rfl⟩⟩; (try first | exact ⟨rfl, _, World.drewN_drewN _ _ _⟩ | exact ⟨rfl, _, Eq.trans (World.drewN_drewN _ _ _) (congrArg (World.drewN _) (Nat.add_assoc _ _ _))⟩)))
                        repeat (go_quiet (first | (go_at_call 10; (with_reducible refine (spec_Has.calls k (a0.extract 3 4) (⟨#[32, 9, 10]⟩ : ByteArray) t112 _ A31.out).mono ?_); rintro e w' ⟨rfl, ⟨nd, rfl⟩⟩; (try first | exact ⟨rfl, _, World.drewN_drewN _ _ _⟩ | exact ⟨rfl, _, Eq.trans (World.drewN_drewN _ _ _) (congrArg (World.drewN _) (Nat.add_assoc _ _ _))⟩))); try go_wp2_with (first | (go_at_call 10; (with_reducible refine (spec_Has.calls k (a0.extract 3 4) (⟨#[32, 9, 10]⟩ : ByteArray) t112 _ A31.out).mono ?_); rintro e w' ⟨rfl, ⟨nd, rfl⟩⟩; (try first | exact ⟨rfl, _, World.drewN_drewN _ _ _⟩ | exact ⟨rfl, _, Eq.trans (World.drewN_drewN _ _ _) (congrArg (World.drewN _) (Nat.add_assoc _ _ _))⟩))))
                        go_ret
                        exact ⟨by first | rfl | (simp; done) | (simp [*]; done), by repeat (first | exact Drawn0.refl _ | apply Drawn0.step)⟩
                      · rw [if_neg c30] at H
                        exact absurd H (by simp)
                    · rw [if_neg c29] at H
                      exact absurd H (by simp)
                · rw [if_neg c27] at H
                  have c27b0 : ((bt a0 2) == (bt a0 0)) = false := beq_eq_false_iff_ne.mpr c27
                  have c27b1 : ((bt a0 2) != (bt a0 0)) = true := bne_iff_ne.mpr c27
                  obtain rfl := Option.some.inj H
                  have p4 : 0 ≤ (0 : Int) := (by omega)
                  have q4 : 0 < a0.size := (by have : (0 : Int) < (a0.size : Int) := of_decide_eq_true (by first | (with_reducible assumption) | assumption); omega)
                  have hx4 : ∀ h : 0 < a0.size, ((a0[0]'h).toNat : Int) = bt a0 0 := bt_at a0 0
                  clear p4
                  have qi4 : (0 < (a0.size : Int)) = True := eq_true (of_decide_eq_true (by first | (with_reducible assumption) | assumption))
                  replace q4 := eq_true q4
                  have p18 : 0 ≤ (0 : Int) := (by omega)
                  have q18 : 0 < a0.size := (by have : (0 : Int) < (a0.size : Int) := of_decide_eq_true (by first | (with_reducible assumption) | assumption); omega)
                  have hx18 : ∀ h : 0 < a0.size, ((a0[0]'h).toNat : Int) = bt a0 0 := bt_at a0 0
                  clear p18
                  have qi18 : (0 < (a0.size : Int)) = True := eq_true (of_decide_eq_true (by first | (with_reducible assumption) | assumption))
                  replace q18 := eq_true q18
                  have p21 : 0 ≤ (1 : Int) := (by omega)
                  have q21 : 1 < a0.size := (by have : (1 : Int) < (a0.size : Int) := of_decide_eq_true (by first | (with_reducible assumption) | assumption); omega)
                  have hx21 : ∀ h : 1 < a0.size, ((a0[1]'h).toNat : Int) = bt a0 1 := bt_at a0 1
                  clear p21
                  have qi21 : (1 < (a0.size : Int)) = True := eq_true (of_decide_eq_true (by first | (with_reducible assumption) | assumption))
                  replace q21 := eq_true q21
                  have p22 : 0 ≤ (0 : Int) := (by omega)
                  have q22 : 0 < a0.size := (by have : (0 : Int) < (a0.size : Int) := of_decide_eq_true (by first | (with_reducible assumption) | assumption); omega)
                  have hx22 : ∀ h : 0 < a0.size, ((a0[0]'h).toNat : Int) = bt a0 0 := bt_at a0 0
                  clear p22
                  have qi22 : (0 < (a0.size : Int)) = True := eq_true (of_decide_eq_true (by first | (with_reducible assumption) | assumption))
                  replace q22 := eq_true q22
                  have p25 : 0 ≤ (2 : Int) := (by omega)
                  have q25 : 2 < a0.size := (by have : (2 : Int) < (a0.size : Int) := of_decide_eq_true (by first | (with_reducible assumption) | assumption); omega)
                  have hx25 : ∀ h : 2 < a0.size, ((a0[2]'h).toNat : Int) = bt a0 2 := bt_at a0 2
                  clear p25
                  have qi25 : (2 < (a0.size : Int)) = True := eq_true (of_decide_eq_true (by first | (with_reducible assumption) | assumption))
                  replace q25 := eq_true q25
                  have p26 : 0 ≤ (0 : Int) := (by omega)
                  have q26 : 0 < a0.size := (by have : (0 : Int) < (a0.size : Int) := of_decide_eq_true (by first | (with_reducible assumption) | assumption); omega)
                  have hx26 : ∀ h : 0 < a0.size, ((a0[0]'h).toNat : Int) = bt a0 0 := bt_at a0 0
                  clear p26
                  have qi26 : (0 < (a0.size : Int)) = True := eq_true (of_decide_eq_true (by first | (with_reducible assumption) | assumption))
                  replace q26 := eq_true q26
                  go_enter Tryd.func6, Tryd.ntmps6
                  go_wp2
                  repeat (go_quiet (fail); try go_wp2)
                  go_ret
                  exact ⟨by first | rfl | (simp; done) | (simp [*]; done), by repeat (first | exact Drawn0.refl _ | apply Drawn0.step)⟩
              · rw [if_neg c24] at H
                exact absurd H (by simp)
            · rw [if_neg c23] at H
              have c23b0 : ((bt a0 1) == (bt a0 0)) = false := beq_eq_false_iff_ne.mpr c23
              have c23b1 : ((bt a0 1) != (bt a0 0)) = true := bne_iff_ne.mpr c23
              obtain rfl := Option.some.inj H
              have p4 : 0 ≤ (0 : Int) := (by omega)
              have q4 : 0 < a0.size := (by have : (0 : Int) < (a0.size : Int) := of_decide_eq_true (by first | (with_reducible assumption) | assumption); omega)
              have hx4 : ∀ h : 0 < a0.size, ((a0[0]'h).toNat : Int) = bt a0 0 := bt_at a0 0
              clear p4
              have qi4 : (0 < (a0.size : Int)) = True := eq_true (of_decide_eq_true (by first | (with_reducible assumption) | assumption))
              replace q4 := eq_true q4
              have p18 : 0 ≤ (0 : Int) := (by omega)
              have q18 : 0 < a0.size := (by have : (0 : Int) < (a0.size : Int) := of_decide_eq_true (by first | (with_reducible assumption) | assumption); omega)
              have hx18 : ∀ h : 0 < a0.size, ((a0[0]'h).toNat : Int) = bt a0 0 := bt_at a0 0
              clear p18
              have qi18 : (0 < (a0.size : Int)) = True := eq_true (of_decide_eq_true (by first | (with_reducible assumption) | assumption))
              replace q18 := eq_true q18
              have p21 : 0 ≤ (1 : Int) := (by omega)
              have q21 : 1 < a0.size := (by have : (1 : Int) < (a0.size : Int) := of_decide_eq_true (by first | (with_reducible assumption) | assumption); omega)
              have hx21 : ∀ h : 1 < a0.size, ((a0[1]'h).toNat : Int) = bt a0 1 := bt_at a0 1
              clear p21
              have qi21 : (1 < (a0.size : Int)) = True := eq_true (of_decide_eq_true (by first | (with_reducible assumption) | assumption))
              replace q21 := eq_true q21
              have p22 : 0 ≤ (0 : Int) := (by omega)
              have q22 : 0 < a0.size := (by have : (0 : Int) < (a0.size : Int) := of_decide_eq_true (by first | (with_reducible assumption) | assumption); omega)
              have hx22 : ∀ h : 0 < a0.size, ((a0[0]'h).toNat : Int) = bt a0 0 := bt_at a0 0
              clear p22
              have qi22 : (0 < (a0.size : Int)) = True := eq_true (of_decide_eq_true (by first | (with_reducible assumption) | assumption))
              replace q22 := eq_true q22
              go_enter Tryd.func6, Tryd.ntmps6
              go_wp2
              repeat (go_quiet (fail); try go_wp2)
              go_ret
              exact ⟨by first | rfl | (simp; done) | (simp [*]; done), by repeat (first | exact Drawn0.refl _ | apply Drawn0.step)⟩
          · rw [if_neg c20] at H
            exact absurd H (by simp)
        · rw [if_neg c19] at H
          have c19b0 : ((bt a0 0) == 46) = false := beq_eq_false_iff_ne.mpr c19
          have c19b1 : ((bt a0 0) != 46) = true := bne_iff_ne.mpr c19
          obtain rfl := Option.some.inj H
          have p4 : 0 ≤ (0 : Int) := (by omega)
          have q4 : 0 < a0.size := (by have : (0 : Int) < (a0.size : Int) := of_decide_eq_true (by first | (with_reducible assumption) | assumption); omega)
          have hx4 : ∀ h : 0 < a0.size, ((a0[0]'h).toNat : Int) = bt a0 0 := bt_at a0 0
          clear p4
          have qi4 : (0 < (a0.size : Int)) = True := eq_true (of_decide_eq_true (by first | (with_reducible assumption) | assumption))
          replace q4 := eq_true q4
          have p18 : 0 ≤ (0 : Int) := (by omega)
          have q18 : 0 < a0.size := (by have : (0 : Int) < (a0.size : Int) := of_decide_eq_true (by first | (with_reducible assumption) | assumption); omega)
          have hx18 : ∀ h : 0 < a0.size, ((a0[0]'h).toNat : Int) = bt a0 0 := bt_at a0 0
          clear p18
          have qi18 : (0 < (a0.size : Int)) = True := eq_true (of_decide_eq_true (by first | (with_reducible assumption) | assumption))
          replace q18 := eq_true q18
          go_enter Tryd.func6, Tryd.ntmps6
          go_wp2
          repeat (go_quiet (fail); try go_wp2)
          go_ret
          exact ⟨by first | rfl | (simp; done) | (simp [*]; done), by repeat (first | exact Drawn0.refl _ | apply Drawn0.step)⟩
    · rw [if_neg c3] at H
      exact absurd H (by simp)

-- NOT PRINTED: function 3 (laws_FnMarkerTold)

end Go.Proofs.YtbicbdcbbeifhaaDoor.PFnMarkerTold
