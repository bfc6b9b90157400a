-- PRINTED BY print.sh 35421559b90ae4d0a3588c463048766b98c2df88dd9212a6774a882060cdf62d: not written by this session
import Derived.Test.YtbicbdcbbeifhaaPFnNamesSignsx0
namespace Go.Proofs.Ytbicbdcbbeifhaa.PFnNamesSigns
open Go.RowKit Go.Proofs.YtbicbdcbbeifhaaW.PrintWords Go.Proofs.YtbicbdcbbeifhaaW.PrintLast Go.Proofs.YtbicbdcbbeifhaaW.PrintMore
attribute [local go_sem] max2_int min2_int max_two min_two max_three min_three max_four min_four   -- for this text's walks alone
set_option linter.unusedVariables false
set_option linter.unusedSimpArgs false

/-! ### token_Indicator_String: function 21 -/
def token_Indicator_String.f (a0 : Int) : Option (ByteArray) := if a0 = 0 then (some (⟨#[78, 111, 116, 73, 110, 100, 105, 99, 97, 116, 111, 114]⟩ : ByteArray)) else (if a0 = 1 then (some (⟨#[66, 108, 111, 99, 107, 83, 116, 114, 117, 99, 116, 117, 114, 101]⟩ : ByteArray)) else (if a0 = 2 then (some (⟨#[70, 108, 111, 119, 67, 111, 108, 108, 101, 99, 116, 105, 111, 110]⟩ : ByteArray)) else (if a0 = 3 then (some (⟨#[67, 111, 109, 109, 101, 110, 116]⟩ : ByteArray)) else (if a0 = 4 then (some (⟨#[78, 111, 100, 101, 80, 114, 111, 112, 101, 114, 116, 121]⟩ : ByteArray)) else (if a0 = 5 then (some (⟨#[66, 108, 111, 99, 107, 83, 99, 97, 108, 97, 114]⟩ : ByteArray)) else (if a0 = 6 then (some (⟨#[81, 117, 111, 116, 101, 100, 83, 99, 97, 108, 97, 114]⟩ : ByteArray)) else (if a0 = 7 then (some (⟨#[68, 105, 114, 101, 99, 116, 105, 118, 101]⟩ : ByteArray)) else (if a0 = 8 then (some (⟨#[73, 110, 118, 97, 108, 105, 100, 85, 115, 101, 79, 102, 82, 101, 115, 101, 114, 118, 101, 100]⟩ : ByteArray)) else (some (⟨#[]⟩ : ByteArray))))))))))
set_option maxHeartbeats 8000000 in
set_option maxRecDepth 100000 in
theorem token_Indicator_String.calls (a0 : Int) (r : ByteArray) (w : World) (h : token_Indicator_String.f a0 = some r) :
    Calls Try.prog 21 #[.int .i64 a0] w fun e w' => e = .returned (.string r) ∧ Drawn0 w w' := by
  have H : (if a0 = 0 then (some (⟨#[78, 111, 116, 73, 110, 100, 105, 99, 97, 116, 111, 114]⟩ : ByteArray)) else (if a0 = 1 then (some (⟨#[66, 108, 111, 99, 107, 83, 116, 114, 117, 99, 116, 117, 114, 101]⟩ : ByteArray)) else (if a0 = 2 then (some (⟨#[70, 108, 111, 119, 67, 111, 108, 108, 101, 99, 116, 105, 111, 110]⟩ : ByteArray)) else (if a0 = 3 then (some (⟨#[67, 111, 109, 109, 101, 110, 116]⟩ : ByteArray)) else (if a0 = 4 then (some (⟨#[78, 111, 100, 101, 80, 114, 111, 112, 101, 114, 116, 121]⟩ : ByteArray)) else (if a0 = 5 then (some (⟨#[66, 108, 111, 99, 107, 83, 99, 97, 108, 97, 114]⟩ : ByteArray)) else (if a0 = 6 then (some (⟨#[81, 117, 111, 116, 101, 100, 83, 99, 97, 108, 97, 114]⟩ : ByteArray)) else (if a0 = 7 then (some (⟨#[68, 105, 114, 101, 99, 116, 105, 118, 101]⟩ : ByteArray)) else (if a0 = 8 then (some (⟨#[73, 110, 118, 97, 108, 105, 100, 85, 115, 101, 79, 102, 82, 101, 115, 101, 114, 118, 101, 100]⟩ : ByteArray)) else (some (⟨#[]⟩ : ByteArray))))))))))) = some r := h
  clear h
  by_cases c2 : a0 = 0
  · rw [if_pos c2] at H
    have c2b0 : (a0 == 0) = true := beq_iff_eq.mpr c2
    have c2b1 : (a0 != 0) = false := bne_eq_false_iff_eq.mpr c2
    clear c2
    obtain rfl := Option.some.inj H
    go_enter Try.func21, Try.ntmps21
    go_wp2
    go_ret
    exact ⟨by first | rfl | (simp; done) | (simp [*]; done), by repeat (first | exact Drawn0.refl _ | apply Drawn0.step)⟩
  · rw [if_neg c2] at H
    have c2b0 : (a0 == 0) = false := beq_eq_false_iff_ne.mpr c2
    have c2b1 : (a0 != 0) = true := bne_iff_ne.mpr c2
    by_cases c3 : a0 = 1
    · rw [if_pos c3] at H
      have c3b0 : (a0 == 1) = true := beq_iff_eq.mpr c3
      have c3b1 : (a0 != 1) = false := bne_eq_false_iff_eq.mpr c3
      clear c3
      obtain rfl := Option.some.inj H
      go_enter Try.func21, Try.ntmps21
      go_wp2
      go_ret
      exact ⟨by first | rfl | (simp; done) | (simp [*]; done), by repeat (first | exact Drawn0.refl _ | apply Drawn0.step)⟩
    · rw [if_neg c3] at H
      have c3b0 : (a0 == 1) = false := beq_eq_false_iff_ne.mpr c3
      have c3b1 : (a0 != 1) = true := bne_iff_ne.mpr c3
      by_cases c4 : a0 = 2
      · rw [if_pos c4] at H
        have c4b0 : (a0 == 2) = true := beq_iff_eq.mpr c4
        have c4b1 : (a0 != 2) = false := bne_eq_false_iff_eq.mpr c4
        clear c4
        obtain rfl := Option.some.inj H
        go_enter Try.func21, Try.ntmps21
        go_wp2
        go_ret
        exact ⟨by first | rfl | (simp; done) | (simp [*]; done), by repeat (first | exact Drawn0.refl _ | apply Drawn0.step)⟩
      · rw [if_neg c4] at H
        have c4b0 : (a0 == 2) = false := beq_eq_false_iff_ne.mpr c4
        have c4b1 : (a0 != 2) = true := bne_iff_ne.mpr c4
        by_cases c5 : a0 = 3
        · rw [if_pos c5] at H
          have c5b0 : (a0 == 3) = true := beq_iff_eq.mpr c5
          have c5b1 : (a0 != 3) = false := bne_eq_false_iff_eq.mpr c5
          clear c5
          obtain rfl := Option.some.inj H
          go_enter Try.func21, Try.ntmps21
          go_wp2
          go_ret
          exact ⟨by first | rfl | (simp; done) | (simp [*]; done), by repeat (first | exact Drawn0.refl _ | apply Drawn0.step)⟩
        · rw [if_neg c5] at H
          have c5b0 : (a0 == 3) = false := beq_eq_false_iff_ne.mpr c5
          have c5b1 : (a0 != 3) = true := bne_iff_ne.mpr c5
          by_cases c6 : a0 = 4
          · rw [if_pos c6] at H
            have c6b0 : (a0 == 4) = true := beq_iff_eq.mpr c6
            have c6b1 : (a0 != 4) = false := bne_eq_false_iff_eq.mpr c6
            clear c6
            obtain rfl := Option.some.inj H
            go_enter Try.func21, Try.ntmps21
            go_wp2
            go_ret
            exact ⟨by first | rfl | (simp; done) | (simp [*]; done), by repeat (first | exact Drawn0.refl _ | apply Drawn0.step)⟩
          · rw [if_neg c6] at H
            have c6b0 : (a0 == 4) = false := beq_eq_false_iff_ne.mpr c6
            have c6b1 : (a0 != 4) = true := bne_iff_ne.mpr c6
            by_cases c7 : a0 = 5
            · rw [if_pos c7] at H
              have c7b0 : (a0 == 5) = true := beq_iff_eq.mpr c7
              have c7b1 : (a0 != 5) = false := bne_eq_false_iff_eq.mpr c7
              clear c7
              obtain rfl := Option.some.inj H
              go_enter Try.func21, Try.ntmps21
              go_wp2
              go_ret
              exact ⟨by first | rfl | (simp; done) | (simp [*]; done), by repeat (first | exact Drawn0.refl _ | apply Drawn0.step)⟩
            · rw [if_neg c7] at H
              have c7b0 : (a0 == 5) = false := beq_eq_false_iff_ne.mpr c7
              have c7b1 : (a0 != 5) = true := bne_iff_ne.mpr c7
              by_cases c8 : a0 = 6
              · rw [if_pos c8] at H
                have c8b0 : (a0 == 6) = true := beq_iff_eq.mpr c8
                have c8b1 : (a0 != 6) = false := bne_eq_false_iff_eq.mpr c8
                clear c8
                obtain rfl := Option.some.inj H
                go_enter Try.func21, Try.ntmps21
                go_wp2
                go_ret
                exact ⟨by first | rfl | (simp; done) | (simp [*]; done), by repeat (first | exact Drawn0.refl _ | apply Drawn0.step)⟩
              · rw [if_neg c8] at H
                have c8b0 : (a0 == 6) = false := beq_eq_false_iff_ne.mpr c8
                have c8b1 : (a0 != 6) = true := bne_iff_ne.mpr c8
                by_cases c9 : a0 = 7
                · rw [if_pos c9] at H
                  have c9b0 : (a0 == 7) = true := beq_iff_eq.mpr c9
                  have c9b1 : (a0 != 7) = false := bne_eq_false_iff_eq.mpr c9
                  clear c9
                  obtain rfl := Option.some.inj H
                  go_enter Try.func21, Try.ntmps21
                  go_wp2
                  go_ret
                  exact ⟨by first | rfl | (simp; done) | (simp [*]; done), by repeat (first | exact Drawn0.refl _ | apply Drawn0.step)⟩
                · rw [if_neg c9] at H
                  have c9b0 : (a0 == 7) = false := beq_eq_false_iff_ne.mpr c9
                  have c9b1 : (a0 != 7) = true := bne_iff_ne.mpr c9
                  by_cases c10 : a0 = 8
                  · rw [if_pos c10] at H
                    have c10b0 : (a0 == 8) = true := beq_iff_eq.mpr c10
                    have c10b1 : (a0 != 8) = false := bne_eq_false_iff_eq.mpr c10
                    clear c10
                    obtain rfl := Option.some.inj H
                    go_enter Try.func21, Try.ntmps21
                    go_wp2
                    go_ret
                    exact ⟨by first | rfl | (simp; done) | (simp [*]; done), by repeat (first | exact Drawn0.refl _ | apply Drawn0.step)⟩
                  · rw [if_neg c10] at H
                    have c10b0 : (a0 == 8) = false := beq_eq_false_iff_ne.mpr c10
                    have c10b1 : (a0 != 8) = true := bne_iff_ne.mpr c10
                    obtain rfl := Option.some.inj H
                    go_enter Try.func21, Try.ntmps21
                    go_wp2
                    go_ret
                    exact ⟨by first | rfl | (simp; done) | (simp [*]; done), by repeat (first | exact Drawn0.refl _ | apply Drawn0.step)⟩

/-! ### impl_SignName: function 11 -/
def impl_SignName.f (a0 : Int) : Option (ByteArray) := (token_Indicator_String.f a0).bind fun t101 => (some t101)
set_option maxHeartbeats 8000000 in
set_option maxRecDepth 100000 in
theorem impl_SignName.calls (a0 : Int) (r : ByteArray) (w : World) (h : impl_SignName.f a0 = some r) :
    Calls Try.prog 11 #[.int .i64 a0] w fun e w' => e = .returned (.string r) ∧ Drawn0 w w' := by
  have H : ((token_Indicator_String.f a0).bind fun t101 => (some t101)) = some r := h
  clear h
  replace H := Option.bind_eq_some_iff.mp H
  obtain ⟨t101, A20, H⟩ := H
  replace H : (some t101) = some r := H
  have A2 := Aside0.mk A20
  clear A20
  obtain rfl := Option.some.inj H
  go_enter Try.func11, Try.ntmps11
  go_wp2_with (first | ((with_reducible refine gate_callee (f := 21) rfl ?_); refine goesL_ (some 4) rfl rfl Try.func21 (by kernel_rfl) rfl #[.int .i64 a0] rfl (by (try simp only [List.map_toArray, List.map_cons, List.map_nil]); first | done | rfl | (simp only [List.length_drop, List.length_take]; rfl)) ?_; (with_reducible refine (token_Indicator_String.calls a0 t101 _ A2.out).mono ?_); rintro e w' ⟨rfl, ⟨nd, rfl⟩⟩; refine ⟨_, rfl, ?_⟩))
  go_ret
  exact ⟨by first | rfl | (simp; done) | (simp [*]; done), by repeat (first | exact Drawn0.refl _ | apply Drawn0.step)⟩

/-! ### laws_FnNamesSigns: function 4 -/
def laws_FnNamesSigns.f (a0 : Int) (a1 : Int) : Option (Bool) := if a0 < 0 then (some true) else (if a0 > 7 then (some true) else (if a1 < 0 then (some true) else (if a1 > 7 then (some true) else (if a0 = a1 then (some true) else ((impl_SignName.f a0).bind fun t102 => ((impl_SignName.f a1).bind fun t103 => (some (t102.toList != t103.toList))))))))
set_option maxHeartbeats 8000000 in
set_option maxRecDepth 100000 in
theorem laws_FnNamesSigns.calls (a0 : Int) (a1 : Int) (r : Bool) (w : World) (h : laws_FnNamesSigns.f a0 a1 = some r) :
    Calls Try.prog 4 #[.int .i64 a0, .int .i64 a1] w fun e w' => e = .returned (.bool r) ∧ Drawn0 w w' := by
  have H : (if a0 < 0 then (some true) else (if a0 > 7 then (some true) else (if a1 < 0 then (some true) else (if a1 > 7 then (some true) else (if a0 = a1 then (some true) else ((impl_SignName.f a0).bind fun t102 => ((impl_SignName.f a1).bind fun t103 => (some (t102.toList != t103.toList))))))))) = some r := h
  clear h
  by_cases c3 : a0 < 0
  · rw [if_pos c3] at H
    have c3b0 : decide (a0 < 0) = true := decide_eq_true c3
    clear c3
    obtain rfl := Option.some.inj H
    go_enter Try.func4, Try.ntmps4
    go_wp2
    go_ret
    exact ⟨by first | rfl | (simp; done) | (simp [*]; done), by repeat (first | exact Drawn0.refl _ | apply Drawn0.step)⟩
  · rw [if_neg c3] at H
    have c3b0 : decide (a0 < 0) = false := decide_eq_false c3
    clear c3
    by_cases c4 : a0 > 7
    · rw [if_pos c4] at H
      have c4b0 : decide (7 < a0) = true := decide_eq_true c4
      clear c4
      obtain rfl := Option.some.inj H
      go_enter Try.func4, Try.ntmps4
      go_wp2
      go_ret
      exact ⟨by first | rfl | (simp; done) | (simp [*]; done), by repeat (first | exact Drawn0.refl _ | apply Drawn0.step)⟩
    · rw [if_neg c4] at H
      have c4b0 : decide (7 < a0) = false := decide_eq_false c4
      clear c4
      by_cases c5 : a1 < 0
      · rw [if_pos c5] at H
        have c5b0 : decide (a1 < 0) = true := decide_eq_true c5
        clear c5
        obtain rfl := Option.some.inj H
        go_enter Try.func4, Try.ntmps4
        go_wp2
        go_ret
        exact ⟨by first | rfl | (simp; done) | (simp [*]; done), by repeat (first | exact Drawn0.refl _ | apply Drawn0.step)⟩
      · rw [if_neg c5] at H
        have c5b0 : decide (a1 < 0) = false := decide_eq_false c5
        clear c5
        by_cases c6 : a1 > 7
        · rw [if_pos c6] at H
          have c6b0 : decide (7 < a1) = true := decide_eq_true c6
          clear c6
          obtain rfl := Option.some.inj H
          go_enter Try.func4, Try.ntmps4
          go_wp2
          go_ret
          exact ⟨by first | rfl | (simp; done) | (simp [*]; done), by repeat (first | exact Drawn0.refl _ | apply Drawn0.step)⟩
        · rw [if_neg c6] at H
          have c6b0 : decide (7 < a1) = false := decide_eq_false c6
          clear c6
          by_cases c7 : a0 = a1
          · rw [if_pos c7] at H
            have c7b0 : (a0 == a1) = true := beq_iff_eq.mpr c7
            have c7b1 : (a0 != a1) = false := bne_eq_false_iff_eq.mpr c7
            clear c7
            obtain rfl := Option.some.inj H
            go_enter Try.func4, Try.ntmps4
            go_wp2
            go_ret
            exact ⟨by first | rfl | (simp; done) | (simp [*]; done), by repeat (first | exact Drawn0.refl _ | apply Drawn0.step)⟩
          · rw [if_neg c7] at H
            have c7b0 : (a0 == a1) = false := beq_eq_false_iff_ne.mpr c7
            have c7b1 : (a0 != a1) = true := bne_iff_ne.mpr c7
            replace H := Option.bind_eq_some_iff.mp H
            obtain ⟨t102, A80, H⟩ := H
            replace H : ((impl_SignName.f a1).bind fun t103 => (some (t102.toList != t103.toList))) = some r := H
            have A8 := Aside0.mk A80
            clear A80
            replace H := Option.bind_eq_some_iff.mp H
            obtain ⟨t103, A90, H⟩ := H
            replace H : (some (t102.toList != t103.toList)) = some r := H
            have A9 := Aside0.mk A90
            clear A90
            obtain rfl := Option.some.inj H
            go_enter Try.func4, Try.ntmps4
            go_wp2_with (first | (go_at_call 11; (with_reducible refine (impl_SignName.calls a0 t102 _ A8.out).mono ?_); rintro e w' ⟨rfl, ⟨nd, rfl⟩⟩) | (go_at_call 11; (with_reducible refine (impl_SignName.calls a1 t103 _ A9.out).mono ?_); rintro e w' ⟨rfl, ⟨nd, rfl⟩⟩))
            go_ret
            exact ⟨by first | rfl | (simp; done) | (simp [*]; done), by repeat (first | exact Drawn0.refl _ | apply Drawn0.step)⟩

/-- THE ONE PURE STATEMENT of laws_FnNamesSigns: yours. -/
def laws_FnNamesSigns.Pure : Prop := ∀ (a0 : Int) (a1 : Int), (Lit.int .i64 a0).wf = true → (Lit.int .i64 a1).wf = true → laws_FnNamesSigns.f a0 a1 = some true
theorem laws_FnNamesSigns.walk (P : laws_FnNamesSigns.Pure) (a0 : Int) (a1 : Int) (w : World) (w0 : (Lit.int .i64 a0).wf = true) (w1 : (Lit.int .i64 a1).wf = true) :
    Calls Try.prog 4 #[.int .i64 a0, .int .i64 a1] w fun e w' => e = .returned (.bool true) ∧ Below w.heap.size w w' := by
  have h := P a0 a1 w0 w1
  refine (laws_FnNamesSigns.calls a0 a1 true w h).mono ?_
  rintro e w' ⟨rfl, hd⟩
  exact ⟨rfl, hd.below⟩

end Go.Proofs.Ytbicbdcbbeifhaa.PFnNamesSigns
