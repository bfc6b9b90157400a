-- PRINTED BY print.sh 35421559b90ae4d0a3588c463048766b98c2df88dd9212a6774a882060cdf62d: not written by this session
import Derived.Test.YtgidfhpcobpinaaPFnPartTagx0
namespace Go.Proofs.Ytgidfhpcobpinaa.PFnPartTag
open Go.RowKit Go.Proofs.YtgidfhpcobpinaaW.PrintWords Go.Proofs.YtgidfhpcobpinaaW.PrintLast Go.Proofs.YtgidfhpcobpinaaW.PrintMore
attribute [local go_sem] max2_int min2_int max_two min_two max_three min_three max_four min_four   -- for this text's walks alone
set_option linter.unusedVariables false
set_option linter.unusedSimpArgs false

/-! ### spec_scLetter: function 6 -/
def spec_scLetter.f (a0 : Int) : Option (Bool) := if a0 ≥ 97 then (if a0 ≤ 122 then (some true) else (if a0 ≥ 65 then (if a0 ≤ 90 then (some true) else (if a0 ≥ 48 then (some (decide (a0 ≤ 57))) else (some false))) else (if a0 ≥ 48 then (some (decide (a0 ≤ 57))) else (some false)))) else (if a0 ≥ 65 then (if a0 ≤ 90 then (some true) else (if a0 ≥ 48 then (some (decide (a0 ≤ 57))) else (some false))) else (if a0 ≥ 48 then (some (decide (a0 ≤ 57))) else (some false)))
set_option maxHeartbeats 8000000 in
set_option maxRecDepth 100000 in
theorem spec_scLetter.calls (a0 : Int) (r : Bool) (w : World) (h : spec_scLetter.f a0 = some r) :
    Calls Try.prog 6 #[.int .i32 a0] w fun e w' => e = .returned (.bool r) ∧ Drawn0 w w' := by
  have H : (if a0 ≥ 97 then (if a0 ≤ 122 then (some true) else (if a0 ≥ 65 then (if a0 ≤ 90 then (some true) else (if a0 ≥ 48 then (some (decide (a0 ≤ 57))) else (some false))) else (if a0 ≥ 48 then (some (decide (a0 ≤ 57))) else (some false)))) else (if a0 ≥ 65 then (if a0 ≤ 90 then (some true) else (if a0 ≥ 48 then (some (decide (a0 ≤ 57))) else (some false))) else (if a0 ≥ 48 then (some (decide (a0 ≤ 57))) else (some false)))) = some r := h
  clear h
  by_cases c2 : a0 ≥ 97
  · rw [if_pos c2] at H
    have c2b0 : decide (97 ≤ a0) = true := decide_eq_true c2
    clear c2
    by_cases c3 : a0 ≤ 122
    · rw [if_pos c3] at H
      have c3b0 : decide (a0 ≤ 122) = true := decide_eq_true c3
      clear c3
      obtain rfl := Option.some.inj H
      go_enter Try.func6, Try.ntmps6
      go_wp2
      go_ret
      exact ⟨by first | rfl | (simp; done) | (simp [*]; done), by repeat (first | exact Drawn0.refl _ | apply Drawn0.step)⟩
    · rw [if_neg c3] at H
      have c3b0 : decide (a0 ≤ 122) = false := decide_eq_false c3
      clear c3
      by_cases c4 : a0 ≥ 65
      · rw [if_pos c4] at H
        have c4b0 : decide (65 ≤ a0) = true := decide_eq_true c4
        clear c4
        by_cases c5 : a0 ≤ 90
        · rw [if_pos c5] at H
          have c5b0 : decide (a0 ≤ 90) = true := decide_eq_true c5
          clear c5
          obtain rfl := Option.some.inj H
          go_enter Try.func6, Try.ntmps6
          go_wp2
          go_ret
          exact ⟨by first | rfl | (simp; done) | (simp [*]; done), by repeat (first | exact Drawn0.refl _ | apply Drawn0.step)⟩
        · rw [if_neg c5] at H
          have c5b0 : decide (a0 ≤ 90) = false := decide_eq_false c5
          clear c5
          by_cases c6 : a0 ≥ 48
          · rw [if_pos c6] at H
            have c6b0 : decide (48 ≤ a0) = true := decide_eq_true c6
            clear c6
            obtain rfl := Option.some.inj H
            go_enter Try.func6, Try.ntmps6
            go_wp2
            go_ret
            exact ⟨by first | rfl | (simp; done) | (simp [*]; done), by repeat (first | exact Drawn0.refl _ | apply Drawn0.step)⟩
          · rw [if_neg c6] at H
            have c6b0 : decide (48 ≤ a0) = false := decide_eq_false c6
            clear c6
            obtain rfl := Option.some.inj H
            go_enter Try.func6, Try.ntmps6
            go_wp2
            go_ret
            exact ⟨by first | rfl | (simp; done) | (simp [*]; done), by repeat (first | exact Drawn0.refl _ | apply Drawn0.step)⟩
      · rw [if_neg c4] at H
        have c4b0 : decide (65 ≤ a0) = false := decide_eq_false c4
        clear c4
        by_cases c7 : a0 ≥ 48
        · rw [if_pos c7] at H
          have c7b0 : decide (48 ≤ a0) = true := decide_eq_true c7
          clear c7
          obtain rfl := Option.some.inj H
          go_enter Try.func6, Try.ntmps6
          go_wp2
          go_ret
          exact ⟨by first | rfl | (simp; done) | (simp [*]; done), by repeat (first | exact Drawn0.refl _ | apply Drawn0.step)⟩
        · rw [if_neg c7] at H
          have c7b0 : decide (48 ≤ a0) = false := decide_eq_false c7
          clear c7
          obtain rfl := Option.some.inj H
          go_enter Try.func6, Try.ntmps6
          go_wp2
          go_ret
          exact ⟨by first | rfl | (simp; done) | (simp [*]; done), by repeat (first | exact Drawn0.refl _ | apply Drawn0.step)⟩
  · rw [if_neg c2] at H
    have c2b0 : decide (97 ≤ a0) = false := decide_eq_false c2
    clear c2
    by_cases c8 : a0 ≥ 65
    · rw [if_pos c8] at H
      have c8b0 : decide (65 ≤ a0) = true := decide_eq_true c8
      clear c8
      by_cases c9 : a0 ≤ 90
      · rw [if_pos c9] at H
        have c9b0 : decide (a0 ≤ 90) = true := decide_eq_true c9
        clear c9
        obtain rfl := Option.some.inj H
        go_enter Try.func6, Try.ntmps6
        go_wp2
        go_ret
        exact ⟨by first | rfl | (simp; done) | (simp [*]; done), by repeat (first | exact Drawn0.refl _ | apply Drawn0.step)⟩
      · rw [if_neg c9] at H
        have c9b0 : decide (a0 ≤ 90) = false := decide_eq_false c9
        clear c9
        by_cases c10 : a0 ≥ 48
        · rw [if_pos c10] at H
          have c10b0 : decide (48 ≤ a0) = true := decide_eq_true c10
          clear c10
          obtain rfl := Option.some.inj H
          go_enter Try.func6, Try.ntmps6
          go_wp2
          go_ret
          exact ⟨by first | rfl | (simp; done) | (simp [*]; done), by repeat (first | exact Drawn0.refl _ | apply Drawn0.step)⟩
        · rw [if_neg c10] at H
          have c10b0 : decide (48 ≤ a0) = false := decide_eq_false c10
          clear c10
          obtain rfl := Option.some.inj H
          go_enter Try.func6, Try.ntmps6
          go_wp2
          go_ret
          exact ⟨by first | rfl | (simp; done) | (simp [*]; done), by repeat (first | exact Drawn0.refl _ | apply Drawn0.step)⟩
    · rw [if_neg c8] at H
      have c8b0 : decide (65 ≤ a0) = false := decide_eq_false c8
      clear c8
      by_cases c11 : a0 ≥ 48
      · rw [if_pos c11] at H
        have c11b0 : decide (48 ≤ a0) = true := decide_eq_true c11
        clear c11
        obtain rfl := Option.some.inj H
        go_enter Try.func6, Try.ntmps6
        go_wp2
        go_ret
        exact ⟨by first | rfl | (simp; done) | (simp [*]; done), by repeat (first | exact Drawn0.refl _ | apply Drawn0.step)⟩
      · rw [if_neg c11] at H
        have c11b0 : decide (48 ≤ a0) = false := decide_eq_false c11
        clear c11
        obtain rfl := Option.some.inj H
        go_enter Try.func6, Try.ntmps6
        go_wp2
        go_ret
        exact ⟨by first | rfl | (simp; done) | (simp [*]; done), by repeat (first | exact Drawn0.refl _ | apply Drawn0.step)⟩

-- NOT PRINTED: function 4 (spec_Alnum)

-- NOT PRINTED: function 26 (scanner_Scanner_clearState)

-- NOT PRINTED: function 13 (scanner_Scanner_Init)

-- NOT PRINTED: function 27 (scanner_createContext)

-- NOT PRINTED: function 32 (scanner_Context_resetBuffer)

-- NOT PRINTED: function 28 (scanner_Context_reset)

-- NOT PRINTED: function 14 (scanner_newContext)

-- NOT PRINTED: function 9 (scanner_zzAt)

-- NOT PRINTED: function 33 (scanner_Context_isMultiLine)

-- NOT PRINTED: function 34 (scanner_Context_getMultiLineState)

/-! ### stringslite_HasPrefix: function 43 -/
def stringslite_HasPrefix.f (a0 : ByteArray) (a1 : ByteArray) : Option (Bool) := if (a0.size : Int) ≥ (a1.size : Int) then (if 0 ≤ (a1.size : Int) then (if (a1.size : Int) ≤ (a0.size : Int) then (some ((a0.extract 0 ((a1.size : Int) : Int).toNat).toList == a1.toList)) else (none)) else (none)) else (some false)
set_option maxHeartbeats 8000000 in
set_option maxRecDepth 100000 in
theorem stringslite_HasPrefix.calls (a0 : ByteArray) (a1 : ByteArray) (r : Bool) (w : World) (h : stringslite_HasPrefix.f a0 a1 = some r) :
    Calls Try.prog 43 #[.string a0, .string a1] w fun e w' => e = .returned (.bool r) ∧ Drawn0 w w' := by
  have H : (if (a0.size : Int) ≥ (a1.size : Int) then (if 0 ≤ (a1.size : Int) then (if (a1.size : Int) ≤ (a0.size : Int) then (some ((a0.extract 0 ((a1.size : Int) : Int).toNat).toList == a1.toList)) else (none)) else (none)) else (some false)) = some r := h
  clear h
  by_cases c3 : (a0.size : Int) ≥ (a1.size : Int)
  · rw [if_pos c3] at H
    have c3b0 : decide ((a1.size : Int) ≤ (a0.size : Int)) = true := decide_eq_true c3
    have c3b1 : decide (a1.size ≤ a0.size) = true := decide_eq_true (Int.ofNat_le.mp c3)
    clear c3
    by_cases c4 : 0 ≤ (a1.size : Int)
    · rw [if_pos c4] at H
      have c4b0 := eq_true c4
      have c4b1 : decide (0 ≤ (a1.size : Int)) = true := decide_eq_true c4
      clear c4
      by_cases c5 : (a1.size : Int) ≤ (a0.size : Int)
      · rw [if_pos c5] at H
        have c5b0 := eq_true c5
        have c5b1 : decide ((a1.size : Int) ≤ (a0.size : Int)) = true := decide_eq_true c5
        clear c5
        obtain rfl := Option.some.inj H
        go_enter Try.func43, Try.ntmps43
        go_wp2
        go_ret
        exact ⟨by first | rfl | (simp; done) | (simp [*]; done), by repeat (first | exact Drawn0.refl _ | apply Drawn0.step)⟩
      · rw [if_neg c5] at H
        exact absurd H (by simp)
    · rw [if_neg c4] at H
      exact absurd H (by simp)
  · rw [if_neg c3] at H
    have c3b0 : decide ((a1.size : Int) ≤ (a0.size : Int)) = false := decide_eq_false c3
    have c3b1 : decide (a1.size ≤ a0.size) = false := decide_eq_false (fun h => c3 (Int.ofNat_le.mpr h))
    clear c3
    obtain rfl := Option.some.inj H
    go_enter Try.func43, Try.ntmps43
    go_wp2
    go_ret
    exact ⟨by first | rfl | (simp; done) | (simp [*]; done), by repeat (first | exact Drawn0.refl _ | apply Drawn0.step)⟩

/-! ### strings_HasPrefix: function 40 -/
def strings_HasPrefix.f (a0 : ByteArray) (a1 : ByteArray) : Option (Bool) := (stringslite_HasPrefix.f a0 a1).bind fun t101 => (some t101)
set_option maxHeartbeats 8000000 in
set_option maxRecDepth 100000 in
theorem strings_HasPrefix.calls (a0 : ByteArray) (a1 : ByteArray) (r : Bool) (w : World) (h : strings_HasPrefix.f a0 a1 = some r) :
    Calls Try.prog 40 #[.string a0, .string a1] w fun e w' => e = .returned (.bool r) ∧ Drawn0 w w' := by
  have H : ((stringslite_HasPrefix.f a0 a1).bind fun t101 => (some t101)) = some r := h
  clear h
  replace H := Option.bind_eq_some_iff.mp H
  obtain ⟨t101, A30, H⟩ := H
  replace H : (some t101) = some r := H
  have A3 := Aside0.mk A30
  clear A30
  obtain rfl := Option.some.inj H
  go_enter Try.func40, Try.ntmps40
  go_wp2_with (first | ((with_reducible refine gate_callee (f := 43) rfl ?_); refine goesL_ (some 7) rfl rfl Try.func43 (by kernel_rfl) rfl #[.string a0, .string a1] rfl (by (try simp only [List.map_toArray, List.map_cons, List.map_nil]); first | done | rfl | (simp only [List.length_drop, List.length_take]; rfl)) ?_; (with_reducible refine (stringslite_HasPrefix.calls a0 a1 t101 _ A3.out).mono ?_); rintro e w' ⟨rfl, ⟨nd, rfl⟩⟩; refine ⟨_, rfl, ?_⟩))
  go_ret
  exact ⟨by first | rfl | (simp; done) | (simp [*]; done), by repeat (first | exact Drawn0.refl _ | apply Drawn0.step)⟩

/-! ### stringslite_HasSuffix: function 44 -/
def stringslite_HasSuffix.f (a0 : ByteArray) (a1 : ByteArray) : Option (Bool) := if (a0.size : Int) ≥ (a1.size : Int) then (if 0 ≤ (wrap64 ((a0.size : Int) - (a1.size : Int))) then (if (wrap64 ((a0.size : Int) - (a1.size : Int))) ≤ (a0.size : Int) then (some ((a0.extract ((wrap64 ((a0.size : Int) - (a1.size : Int))) : Int).toNat a0.size).toList == a1.toList)) else (none)) else (none)) else (some false)
set_option maxHeartbeats 8000000 in
set_option maxRecDepth 100000 in
theorem stringslite_HasSuffix.calls (a0 : ByteArray) (a1 : ByteArray) (r : Bool) (w : World) (h : stringslite_HasSuffix.f a0 a1 = some r) :
    Calls Try.prog 44 #[.string a0, .string a1] w fun e w' => e = .returned (.bool r) ∧ Drawn0 w w' := by
  have H : (if (a0.size : Int) ≥ (a1.size : Int) then (if 0 ≤ (wrap64 ((a0.size : Int) - (a1.size : Int))) then (if (wrap64 ((a0.size : Int) - (a1.size : Int))) ≤ (a0.size : Int) then (some ((a0.extract ((wrap64 ((a0.size : Int) - (a1.size : Int))) : Int).toNat a0.size).toList == a1.toList)) else (none)) else (none)) else (some false)) = some r := h
  clear h
  by_cases c3 : (a0.size : Int) ≥ (a1.size : Int)
  · rw [if_pos c3] at H
    have c3b0 : decide ((a1.size : Int) ≤ (a0.size : Int)) = true := decide_eq_true c3
    have c3b1 : decide (a1.size ≤ a0.size) = true := decide_eq_true (Int.ofNat_le.mp c3)
    clear c3
    obtain ⟨ji4, hji4⟩ : ∃ j_ : Int, (wrap64 ((a0.size : Int) - (a1.size : Int))) = j_ := ⟨_, rfl⟩
    replace H : (if 0 ≤ (ji4) then (if (ji4) ≤ (a0.size : Int) then (some ((a0.extract ((ji4) : Int).toNat a0.size).toList == a1.toList)) else (none)) else (none)) = some r := by first | (rw [hji4] at H; exact H) | (simp only [hji4] at H ⊢; exact H)
    have hji4w : (IntKind.i64.wrap ((a0.size : Int) - (a1.size : Int))) = ji4 := (i64_w _).trans hji4
    by_cases c5 : 0 ≤ (ji4)
    · rw [if_pos c5] at H
      have c5b0 := eq_true c5
      have c5b1 : decide (0 ≤ (ji4)) = true := decide_eq_true c5
      clear c5
      by_cases c6 : (ji4) ≤ (a0.size : Int)
      · rw [if_pos c6] at H
        have c6b0 := eq_true c6
        have c6b1 : decide ((ji4) ≤ (a0.size : Int)) = true := decide_eq_true c6
        clear c6
        obtain rfl := Option.some.inj H
        go_enter Try.func44, Try.ntmps44
        go_wp2
        go_ret
        exact ⟨by first | rfl | (simp; done) | (simp only [← hji4] <;> (first | rfl | simp)) | (simp [*]; done), by repeat (first | exact Drawn0.refl _ | apply Drawn0.step)⟩
      · rw [if_neg c6] at H
        exact absurd H (by simp)
    · rw [if_neg c5] at H
      exact absurd H (by simp)
  · rw [if_neg c3] at H
    have c3b0 : decide ((a1.size : Int) ≤ (a0.size : Int)) = false := decide_eq_false c3
    have c3b1 : decide (a1.size ≤ a0.size) = false := decide_eq_false (fun h => c3 (Int.ofNat_le.mpr h))
    clear c3
    obtain rfl := Option.some.inj H
    go_enter Try.func44, Try.ntmps44
    go_wp2
    go_ret
    exact ⟨by first | rfl | (simp; done) | (simp [*]; done), by repeat (first | exact Drawn0.refl _ | apply Drawn0.step)⟩

/-! ### strings_HasSuffix: function 41 -/
def strings_HasSuffix.f (a0 : ByteArray) (a1 : ByteArray) : Option (Bool) := (stringslite_HasSuffix.f a0 a1).bind fun t102 => (some t102)
set_option maxHeartbeats 8000000 in
set_option maxRecDepth 100000 in
theorem strings_HasSuffix.calls (a0 : ByteArray) (a1 : ByteArray) (r : Bool) (w : World) (h : strings_HasSuffix.f a0 a1 = some r) :
    Calls Try.prog 41 #[.string a0, .string a1] w fun e w' => e = .returned (.bool r) ∧ Drawn0 w w' := by
  have H : ((stringslite_HasSuffix.f a0 a1).bind fun t102 => (some t102)) = some r := h
  clear h
  replace H := Option.bind_eq_some_iff.mp H
  obtain ⟨t102, A30, H⟩ := H
  replace H : (some t102) = some r := H
  have A3 := Aside0.mk A30
  clear A30
  obtain rfl := Option.some.inj H
  go_enter Try.func41, Try.ntmps41
  go_wp2_with (first | ((with_reducible refine gate_callee (f := 44) rfl ?_); refine goesL_ (some 7) rfl rfl Try.func44 (by kernel_rfl) rfl #[.string a0, .string a1] rfl (by (try simp only [List.map_toArray, List.map_cons, List.map_nil]); first | done | rfl | (simp only [List.length_drop, List.length_take]; rfl)) ?_; (with_reducible refine (stringslite_HasSuffix.calls a0 a1 t102 _ A3.out).mono ?_); rintro e w' ⟨rfl, ⟨nd, rfl⟩⟩; refine ⟨_, rfl, ?_⟩))
  go_ret
  exact ⟨by first | rfl | (simp; done) | (simp [*]; done), by repeat (first | exact Drawn0.refl _ | apply Drawn0.step)⟩

/-- A state of type 86 at block g of W; what its slices lead to came in by w0. -/
def IsS86 (w0 W : World) (g : Nat) (f0 : ByteArray) (f1 : Int) (f2 : Int) (f3 : Int) (f4 : Int) (f5 : Int) (f6 : Bool) (f7 : Bool) (f8 : Bool) (f9 : Bool) : Prop := W.heap[g]? = some (.cells #[.string f0, .int .i64 f1, .int .i64 f2, .int .i64 f3, .int .i64 f4, .int .i64 f5, .bool f6, .bool f7, .bool f8, .bool f9] 86 (0, 0)) ∧ w0.heap.size ≤ g
theorem IsS86.grown {w0 W : World} {g : Nat} {f0 : ByteArray} {f1 : Int} {f2 : Int} {f3 : Int} {f4 : Int} {f5 : Int} {f6 : Bool} {f7 : Bool} {f8 : Bool} {f9 : Bool} {W1 : World} {row : Option Nat} (h : IsS86 w0 W g f0 f1 f2 f3 f4 f5 f6 f7 f8 f9) (hw : W.grownBy W1 row) (hne : some g ≠ row) : IsS86 w0 W1 g f0 f1 f2 f3 f4 f5 f6 f7 f8 f9 := by
  obtain ⟨hb, hg⟩ := h
  exact ⟨blk_grown hb hw hne, hg⟩
theorem IsS86.own_neN {w0 W : World} {g : Nat} {f0 : ByteArray} {f1 : Int} {f2 : Int} {f3 : Int} {f4 : Int} {f5 : Int} {f6 : Bool} {f7 : Bool} {f8 : Bool} {f9 : Bool} {α : Type} {d : Kd α} {e : Nat} {base : Nat} {ok : Nat → Prop} {v : Value} {xs : List α} (h : IsS86 w0 W g f0 f1 f2 f3 f4 f5 f6 f7 f8 f9) (ho : Kd.N d e W base ok v xs) (ht : e ≠ 86) : some g ≠ v.ownBlock := by
  obtain ⟨hb, hg⟩ := h
  exact Kd.N_ne ho hb ht
theorem IsS86.fresh {w0 W : World} {g : Nat} {f0 : ByteArray} {f1 : Int} {f2 : Int} {f3 : Int} {f4 : Int} {f5 : Int} {f6 : Bool} {f7 : Bool} {f8 : Bool} {f9 : Bool} (h : IsS86 w0 W g f0 f1 f2 f3 f4 f5 f6 f7 f8 f9) : ∀ k, W.heap.size ≤ k → k ≠ g := by
  obtain ⟨hb, hg⟩ := h
  exact Kd.freshB hb
theorem IsS86.kept {w0 W : World} {g : Nat} {f0 : ByteArray} {f1 : Int} {f2 : Int} {f3 : Int} {f4 : Int} {f5 : Int} {f6 : Bool} {f7 : Bool} {f8 : Bool} {f9 : Bool} {W1 : World} {S : Nat → Prop} (h : IsS86 w0 W g f0 f1 f2 f3 f4 f5 f6 f7 f8 f9) (hk : Kept W W1 S) (hne : ¬ S g) : IsS86 w0 W1 g f0 f1 f2 f3 f4 f5 f6 f7 f8 f9 := by
  obtain ⟨hb, hg⟩ := h
  exact ⟨blk_kept hb hk hne, hg⟩
theorem IsS86.below {w0 W : World} {g : Nat} {f0 : ByteArray} {f1 : Int} {f2 : Int} {f3 : Int} {f4 : Int} {f5 : Int} {f6 : Bool} {f7 : Bool} {f8 : Bool} {f9 : Bool} {W1 : World} (h : IsS86 w0 W g f0 f1 f2 f3 f4 f5 f6 f7 f8 f9) (hw : Below W.heap.size W W1) : IsS86 w0 W1 g f0 f1 f2 f3 f4 f5 f6 f7 f8 f9 := h.grown (grown_of_below hw none) (by simp)
theorem IsS86.alloc {w0 W : World} {g : Nat} {f0 : ByteArray} {f1 : Int} {f2 : Int} {f3 : Int} {f4 : Int} {f5 : Int} {f6 : Bool} {f7 : Bool} {f8 : Bool} {f9 : Bool} (h : IsS86 w0 W g f0 f1 f2 f3 f4 f5 f6 f7 f8 f9) (o : Obj) : IsS86 w0 (W.alloc o) g f0 f1 f2 f3 f4 f5 f6 f7 f8 f9 := h.below (below_alloc (Below.refl _ _) o)
theorem IsS86.drewN {w0 W : World} {g : Nat} {f0 : ByteArray} {f1 : Int} {f2 : Int} {f3 : Int} {f4 : Int} {f5 : Int} {f6 : Bool} {f7 : Bool} {f8 : Bool} {f9 : Bool} (h : IsS86 w0 W g f0 f1 f2 f3 f4 f5 f6 f7 f8 f9) (m : Nat) : IsS86 w0 (W.drewN m) g f0 f1 f2 f3 f4 f5 f6 f7 f8 f9 := h
theorem IsS86.drew {w0 W : World} {g : Nat} {f0 : ByteArray} {f1 : Int} {f2 : Int} {f3 : Int} {f4 : Int} {f5 : Int} {f6 : Bool} {f7 : Bool} {f8 : Bool} {f9 : Bool} (h : IsS86 w0 W g f0 f1 f2 f3 f4 f5 f6 f7 f8 f9) : IsS86 w0 W.drew g f0 f1 f2 f3 f4 f5 f6 f7 f8 f9 := h
theorem IsS86.at_ {w0 W : World} {g : Nat} {f0 : ByteArray} {f1 : Int} {f2 : Int} {f3 : Int} {f4 : Int} {f5 : Int} {f6 : Bool} {f7 : Bool} {f8 : Bool} {f9 : Bool} {w' : World} {m : Nat} (hq : W.drewN m = w') (h : IsS86 w0 W g f0 f1 f2 f3 f4 f5 f6 f7 f8 f9) : IsS86 w0 w' g f0 f1 f2 f3 f4 f5 f6 f7 f8 f9 := by subst hq; exact IsS86.drewN h m
theorem IsS86.apart {w0 W : World} {g : Nat} {f0 : ByteArray} {f1 : Int} {f2 : Int} {f3 : Int} {f4 : Int} {f5 : Int} {f6 : Bool} {f7 : Bool} {f8 : Bool} {f9 : Bool} {α : Type} {d : Kd α} {e : Nat} {base : Nat} {ok : Nat → Prop} {v : Value} {xs : List α} (h : IsS86 w0 W g f0 f1 f2 f3 f4 f5 f6 f7 f8 f9) (ho : d.R e W base ok v xs) (ht : ∀ q, q ∈ e :: d.E → q ≠ 86) : d.R e W base (fun k => ok k ∧ k ≠ g) v xs := by
  obtain ⟨hb, hg⟩ := h
  exact Kd.R_types ho hb ht
theorem IsS86.own_ne {w0 W : World} {g : Nat} {f0 : ByteArray} {f1 : Int} {f2 : Int} {f3 : Int} {f4 : Int} {f5 : Int} {f6 : Bool} {f7 : Bool} {f8 : Bool} {f9 : Bool} {α : Type} {d : Kd α} {e : Nat} {base : Nat} {ok : Nat → Prop} {v : Value} {xs : List α} (h : IsS86 w0 W g f0 f1 f2 f3 f4 f5 f6 f7 f8 f9) (ho : d.R e W base ok v xs) (ht : e ≠ 86) : some g ≠ v.ownBlock := by
  obtain ⟨hb, hg⟩ := h
  exact Kd.R_ne ho hb ht
theorem IsS86.apartQ {w0 W : World} {g : Nat} {f0 : ByteArray} {f1 : Int} {f2 : Int} {f3 : Int} {f4 : Int} {f5 : Int} {f6 : Bool} {f7 : Bool} {f8 : Bool} {f9 : Bool} {α : Type} {d : Kd α} {e : Nat} {base : Nat} {ok : Nat → Prop} {v : Value} {xs : List α} (h : IsS86 w0 W g f0 f1 f2 f3 f4 f5 f6 f7 f8 f9) (ho : d.Q e W base ok v xs) (ht : ∀ q, q ∈ e :: d.E → q ≠ 86) : d.Q e W base (fun k => ok k ∧ k ≠ g) v xs := by
  obtain ⟨hb, hg⟩ := h
  exact Kd.Q_types ho hb ht
theorem IsS86.own_neQ {w0 W : World} {g : Nat} {f0 : ByteArray} {f1 : Int} {f2 : Int} {f3 : Int} {f4 : Int} {f5 : Int} {f6 : Bool} {f7 : Bool} {f8 : Bool} {f9 : Bool} {α : Type} {d : Kd α} {e : Nat} {base : Nat} {ok : Nat → Prop} {v : Value} {xs : List α} (h : IsS86 w0 W g f0 f1 f2 f3 f4 f5 f6 f7 f8 f9) (ho : d.Q e W base ok v xs) (ht : e ≠ 86) : some g ≠ v.ownBlock := by
  obtain ⟨hb, hg⟩ := h
  exact Kd.Q_ne ho hb ht
theorem IsS86.apartS {w0 W : World} {g : Nat} {f0 : ByteArray} {f1 : Int} {f2 : Int} {f3 : Int} {f4 : Int} {f5 : Int} {f6 : Bool} {f7 : Bool} {f8 : Bool} {f9 : Bool} {α : Type} {d : Kd α} {e : Nat} {base : Nat} {ok : Nat → Prop} {v : Value} {xs : List α} (h : IsS86 w0 W g f0 f1 f2 f3 f4 f5 f6 f7 f8 f9) (ho : d.S e W base ok v xs) (ht : ∀ q, q ∈ e :: d.E → q ≠ 86) : d.S e W base (fun k => ok k ∧ k ≠ g) v xs := by
  obtain ⟨hb, hg⟩ := h
  exact Kd.S_types ho hb ht
theorem IsS86.own_neS {w0 W : World} {g : Nat} {f0 : ByteArray} {f1 : Int} {f2 : Int} {f3 : Int} {f4 : Int} {f5 : Int} {f6 : Bool} {f7 : Bool} {f8 : Bool} {f9 : Bool} {α : Type} {d : Kd α} {e : Nat} {base : Nat} {ok : Nat → Prop} {v : Value} {xs : List α} (h : IsS86 w0 W g f0 f1 f2 f3 f4 f5 f6 f7 f8 f9) (ho : d.S e W base ok v xs) (ht : e ≠ 86) : some g ≠ v.ownBlock := by
  obtain ⟨hb, hg⟩ := h
  exact Kd.S_ne ho hb ht
theorem IsS86.lt {w0 W : World} {g : Nat} {f0 : ByteArray} {f1 : Int} {f2 : Int} {f3 : Int} {f4 : Int} {f5 : Int} {f6 : Bool} {f7 : Bool} {f8 : Bool} {f9 : Bool} (h : IsS86 w0 W g f0 f1 f2 f3 f4 f5 f6 f7 f8 f9) : g < W.heap.size := by
  obtain ⟨hb, hg⟩ := h
  exact blk_lt hb
theorem IsS86.ge {w0 W : World} {g : Nat} {f0 : ByteArray} {f1 : Int} {f2 : Int} {f3 : Int} {f4 : Int} {f5 : Int} {f6 : Bool} {f7 : Bool} {f8 : Bool} {f9 : Bool} (h : IsS86 w0 W g f0 f1 f2 f3 f4 f5 f6 f7 f8 f9) : w0.heap.size ≤ g := by
  obtain ⟨hb, hg⟩ := h
  exact hg
theorem IsS86.ne_blk {w0 W : World} {g : Nat} {f0 : ByteArray} {f1 : Int} {f2 : Int} {f3 : Int} {f4 : Int} {f5 : Int} {f6 : Bool} {f7 : Bool} {f8 : Bool} {f9 : Bool} {a : Nat} {cs : Array Value} {t : TypeId} {fr : Nat × Nat} (h : IsS86 w0 W g f0 f1 f2 f3 f4 f5 f6 f7 f8 f9) (hb2 : W.heap[a]? = some (.cells cs t fr)) (ht : t ≠ 86) : g ≠ a := by
  obtain ⟨hb, hg⟩ := h
  rintro rfl
  rw [hb] at hb2
  injection hb2 with hb2
  injection hb2 with _ ht2
  exact ht ht2.symm
theorem IsS86.far {w0 W : World} {g : Nat} {f0 : ByteArray} {f1 : Int} {f2 : Int} {f3 : Int} {f4 : Int} {f5 : Int} {f6 : Bool} {f7 : Bool} {f8 : Bool} {f9 : Bool} {p : Addr} (h : IsS86 w0 W g f0 f1 f2 f3 f4 f5 f6 f7 f8 f9) (hne : g ≠ p.block) (u : Value) : IsS86 w0 (W.setCell p u) g f0 f1 f2 f3 f4 f5 f6 f7 f8 f9 := by
  obtain ⟨hb, hg⟩ := h
  exact ⟨blk_far hb hne u, hg⟩
theorem cellS86_0 {W : World} {g : Nat} {f0 : ByteArray} {f1 : Int} {f2 : Int} {f3 : Int} {f4 : Int} {f5 : Int} {f6 : Bool} {f7 : Bool} {f8 : Bool} {f9 : Bool} (h : W.heap[g]? = some (.cells #[.string f0, .int .i64 f1, .int .i64 f2, .int .i64 f3, .int .i64 f4, .int .i64 f5, .bool f6, .bool f7, .bool f8, .bool f9] 86 (0, 0))) : W.cell? ⟨g, 0, none⟩ = some (.string f0) := (blk_cell h 0).trans rfl
theorem IsS86.set_0 {w0 W : World} {g : Nat} {f0 : ByteArray} {f1 : Int} {f2 : Int} {f3 : Int} {f4 : Int} {f5 : Int} {f6 : Bool} {f7 : Bool} {f8 : Bool} {f9 : Bool} (h : IsS86 w0 W g f0 f1 f2 f3 f4 f5 f6 f7 f8 f9) (x : ByteArray) : IsS86 w0 (W.setCell ⟨g, 0, none⟩ (.string x)) g x f1 f2 f3 f4 f5 f6 f7 f8 f9 := by
  obtain ⟨hb, hg⟩ := h
  exact ⟨by simpa using blk_set hb 0 (.string x), hg⟩
theorem cellS86_1 {W : World} {g : Nat} {f0 : ByteArray} {f1 : Int} {f2 : Int} {f3 : Int} {f4 : Int} {f5 : Int} {f6 : Bool} {f7 : Bool} {f8 : Bool} {f9 : Bool} (h : W.heap[g]? = some (.cells #[.string f0, .int .i64 f1, .int .i64 f2, .int .i64 f3, .int .i64 f4, .int .i64 f5, .bool f6, .bool f7, .bool f8, .bool f9] 86 (0, 0))) : W.cell? ⟨g, 1, none⟩ = some (.int .i64 f1) := (blk_cell h 1).trans rfl
theorem IsS86.set_1 {w0 W : World} {g : Nat} {f0 : ByteArray} {f1 : Int} {f2 : Int} {f3 : Int} {f4 : Int} {f5 : Int} {f6 : Bool} {f7 : Bool} {f8 : Bool} {f9 : Bool} (h : IsS86 w0 W g f0 f1 f2 f3 f4 f5 f6 f7 f8 f9) (x : Int) : IsS86 w0 (W.setCell ⟨g, 1, none⟩ (.int .i64 x)) g f0 x f2 f3 f4 f5 f6 f7 f8 f9 := by
  obtain ⟨hb, hg⟩ := h
  exact ⟨by simpa using blk_set hb 1 (.int .i64 x), hg⟩
theorem cellS86_2 {W : World} {g : Nat} {f0 : ByteArray} {f1 : Int} {f2 : Int} {f3 : Int} {f4 : Int} {f5 : Int} {f6 : Bool} {f7 : Bool} {f8 : Bool} {f9 : Bool} (h : W.heap[g]? = some (.cells #[.string f0, .int .i64 f1, .int .i64 f2, .int .i64 f3, .int .i64 f4, .int .i64 f5, .bool f6, .bool f7, .bool f8, .bool f9] 86 (0, 0))) : W.cell? ⟨g, 2, none⟩ = some (.int .i64 f2) := (blk_cell h 2).trans rfl
theorem IsS86.set_2 {w0 W : World} {g : Nat} {f0 : ByteArray} {f1 : Int} {f2 : Int} {f3 : Int} {f4 : Int} {f5 : Int} {f6 : Bool} {f7 : Bool} {f8 : Bool} {f9 : Bool} (h : IsS86 w0 W g f0 f1 f2 f3 f4 f5 f6 f7 f8 f9) (x : Int) : IsS86 w0 (W.setCell ⟨g, 2, none⟩ (.int .i64 x)) g f0 f1 x f3 f4 f5 f6 f7 f8 f9 := by
  obtain ⟨hb, hg⟩ := h
  exact ⟨by simpa using blk_set hb 2 (.int .i64 x), hg⟩
theorem cellS86_3 {W : World} {g : Nat} {f0 : ByteArray} {f1 : Int} {f2 : Int} {f3 : Int} {f4 : Int} {f5 : Int} {f6 : Bool} {f7 : Bool} {f8 : Bool} {f9 : Bool} (h : W.heap[g]? = some (.cells #[.string f0, .int .i64 f1, .int .i64 f2, .int .i64 f3, .int .i64 f4, .int .i64 f5, .bool f6, .bool f7, .bool f8, .bool f9] 86 (0, 0))) : W.cell? ⟨g, 3, none⟩ = some (.int .i64 f3) := (blk_cell h 3).trans rfl
theorem IsS86.set_3 {w0 W : World} {g : Nat} {f0 : ByteArray} {f1 : Int} {f2 : Int} {f3 : Int} {f4 : Int} {f5 : Int} {f6 : Bool} {f7 : Bool} {f8 : Bool} {f9 : Bool} (h : IsS86 w0 W g f0 f1 f2 f3 f4 f5 f6 f7 f8 f9) (x : Int) : IsS86 w0 (W.setCell ⟨g, 3, none⟩ (.int .i64 x)) g f0 f1 f2 x f4 f5 f6 f7 f8 f9 := by
  obtain ⟨hb, hg⟩ := h
  exact ⟨by simpa using blk_set hb 3 (.int .i64 x), hg⟩
theorem cellS86_4 {W : World} {g : Nat} {f0 : ByteArray} {f1 : Int} {f2 : Int} {f3 : Int} {f4 : Int} {f5 : Int} {f6 : Bool} {f7 : Bool} {f8 : Bool} {f9 : Bool} (h : W.heap[g]? = some (.cells #[.string f0, .int .i64 f1, .int .i64 f2, .int .i64 f3, .int .i64 f4, .int .i64 f5, .bool f6, .bool f7, .bool f8, .bool f9] 86 (0, 0))) : W.cell? ⟨g, 4, none⟩ = some (.int .i64 f4) := (blk_cell h 4).trans rfl
theorem IsS86.set_4 {w0 W : World} {g : Nat} {f0 : ByteArray} {f1 : Int} {f2 : Int} {f3 : Int} {f4 : Int} {f5 : Int} {f6 : Bool} {f7 : Bool} {f8 : Bool} {f9 : Bool} (h : IsS86 w0 W g f0 f1 f2 f3 f4 f5 f6 f7 f8 f9) (x : Int) : IsS86 w0 (W.setCell ⟨g, 4, none⟩ (.int .i64 x)) g f0 f1 f2 f3 x f5 f6 f7 f8 f9 := by
  obtain ⟨hb, hg⟩ := h
  exact ⟨by simpa using blk_set hb 4 (.int .i64 x), hg⟩
theorem cellS86_5 {W : World} {g : Nat} {f0 : ByteArray} {f1 : Int} {f2 : Int} {f3 : Int} {f4 : Int} {f5 : Int} {f6 : Bool} {f7 : Bool} {f8 : Bool} {f9 : Bool} (h : W.heap[g]? = some (.cells #[.string f0, .int .i64 f1, .int .i64 f2, .int .i64 f3, .int .i64 f4, .int .i64 f5, .bool f6, .bool f7, .bool f8, .bool f9] 86 (0, 0))) : W.cell? ⟨g, 5, none⟩ = some (.int .i64 f5) := (blk_cell h 5).trans rfl
theorem IsS86.set_5 {w0 W : World} {g : Nat} {f0 : ByteArray} {f1 : Int} {f2 : Int} {f3 : Int} {f4 : Int} {f5 : Int} {f6 : Bool} {f7 : Bool} {f8 : Bool} {f9 : Bool} (h : IsS86 w0 W g f0 f1 f2 f3 f4 f5 f6 f7 f8 f9) (x : Int) : IsS86 w0 (W.setCell ⟨g, 5, none⟩ (.int .i64 x)) g f0 f1 f2 f3 f4 x f6 f7 f8 f9 := by
  obtain ⟨hb, hg⟩ := h
  exact ⟨by simpa using blk_set hb 5 (.int .i64 x), hg⟩
theorem cellS86_6 {W : World} {g : Nat} {f0 : ByteArray} {f1 : Int} {f2 : Int} {f3 : Int} {f4 : Int} {f5 : Int} {f6 : Bool} {f7 : Bool} {f8 : Bool} {f9 : Bool} (h : W.heap[g]? = some (.cells #[.string f0, .int .i64 f1, .int .i64 f2, .int .i64 f3, .int .i64 f4, .int .i64 f5, .bool f6, .bool f7, .bool f8, .bool f9] 86 (0, 0))) : W.cell? ⟨g, 6, none⟩ = some (.bool f6) := (blk_cell h 6).trans rfl
theorem IsS86.set_6 {w0 W : World} {g : Nat} {f0 : ByteArray} {f1 : Int} {f2 : Int} {f3 : Int} {f4 : Int} {f5 : Int} {f6 : Bool} {f7 : Bool} {f8 : Bool} {f9 : Bool} (h : IsS86 w0 W g f0 f1 f2 f3 f4 f5 f6 f7 f8 f9) (x : Bool) : IsS86 w0 (W.setCell ⟨g, 6, none⟩ (.bool x)) g f0 f1 f2 f3 f4 f5 x f7 f8 f9 := by
  obtain ⟨hb, hg⟩ := h
  exact ⟨by simpa using blk_set hb 6 (.bool x), hg⟩
theorem cellS86_7 {W : World} {g : Nat} {f0 : ByteArray} {f1 : Int} {f2 : Int} {f3 : Int} {f4 : Int} {f5 : Int} {f6 : Bool} {f7 : Bool} {f8 : Bool} {f9 : Bool} (h : W.heap[g]? = some (.cells #[.string f0, .int .i64 f1, .int .i64 f2, .int .i64 f3, .int .i64 f4, .int .i64 f5, .bool f6, .bool f7, .bool f8, .bool f9] 86 (0, 0))) : W.cell? ⟨g, 7, none⟩ = some (.bool f7) := (blk_cell h 7).trans rfl
theorem IsS86.set_7 {w0 W : World} {g : Nat} {f0 : ByteArray} {f1 : Int} {f2 : Int} {f3 : Int} {f4 : Int} {f5 : Int} {f6 : Bool} {f7 : Bool} {f8 : Bool} {f9 : Bool} (h : IsS86 w0 W g f0 f1 f2 f3 f4 f5 f6 f7 f8 f9) (x : Bool) : IsS86 w0 (W.setCell ⟨g, 7, none⟩ (.bool x)) g f0 f1 f2 f3 f4 f5 f6 x f8 f9 := by
  obtain ⟨hb, hg⟩ := h
  exact ⟨by simpa using blk_set hb 7 (.bool x), hg⟩
theorem cellS86_8 {W : World} {g : Nat} {f0 : ByteArray} {f1 : Int} {f2 : Int} {f3 : Int} {f4 : Int} {f5 : Int} {f6 : Bool} {f7 : Bool} {f8 : Bool} {f9 : Bool} (h : W.heap[g]? = some (.cells #[.string f0, .int .i64 f1, .int .i64 f2, .int .i64 f3, .int .i64 f4, .int .i64 f5, .bool f6, .bool f7, .bool f8, .bool f9] 86 (0, 0))) : W.cell? ⟨g, 8, none⟩ = some (.bool f8) := (blk_cell h 8).trans rfl
theorem IsS86.set_8 {w0 W : World} {g : Nat} {f0 : ByteArray} {f1 : Int} {f2 : Int} {f3 : Int} {f4 : Int} {f5 : Int} {f6 : Bool} {f7 : Bool} {f8 : Bool} {f9 : Bool} (h : IsS86 w0 W g f0 f1 f2 f3 f4 f5 f6 f7 f8 f9) (x : Bool) : IsS86 w0 (W.setCell ⟨g, 8, none⟩ (.bool x)) g f0 f1 f2 f3 f4 f5 f6 f7 x f9 := by
  obtain ⟨hb, hg⟩ := h
  exact ⟨by simpa using blk_set hb 8 (.bool x), hg⟩
theorem cellS86_9 {W : World} {g : Nat} {f0 : ByteArray} {f1 : Int} {f2 : Int} {f3 : Int} {f4 : Int} {f5 : Int} {f6 : Bool} {f7 : Bool} {f8 : Bool} {f9 : Bool} (h : W.heap[g]? = some (.cells #[.string f0, .int .i64 f1, .int .i64 f2, .int .i64 f3, .int .i64 f4, .int .i64 f5, .bool f6, .bool f7, .bool f8, .bool f9] 86 (0, 0))) : W.cell? ⟨g, 9, none⟩ = some (.bool f9) := (blk_cell h 9).trans rfl
theorem IsS86.set_9 {w0 W : World} {g : Nat} {f0 : ByteArray} {f1 : Int} {f2 : Int} {f3 : Int} {f4 : Int} {f5 : Int} {f6 : Bool} {f7 : Bool} {f8 : Bool} {f9 : Bool} (h : IsS86 w0 W g f0 f1 f2 f3 f4 f5 f6 f7 f8 f9) (x : Bool) : IsS86 w0 (W.setCell ⟨g, 9, none⟩ (.bool x)) g f0 f1 f2 f3 f4 f5 f6 f7 f8 x := by
  obtain ⟨hb, hg⟩ := h
  exact ⟨by simpa using blk_set hb 9 (.bool x), hg⟩
theorem IsS86.new (w0 W : World) (f0 : ByteArray) (f1 : Int) (f2 : Int) (f3 : Int) (f4 : Int) (f5 : Int) (f6 : Bool) (f7 : Bool) (f8 : Bool) (f9 : Bool) (hB : Below w0.heap.size w0 W) : IsS86 w0 (W.alloc (.cells #[.string f0, .int .i64 f1, .int .i64 f2, .int .i64 f3, .int .i64 f4, .int .i64 f5, .bool f6, .bool f7, .bool f8, .bool f9] 86)) W.heap.size f0 f1 f2 f3 f4 f5 f6 f7 f8 f9 := ⟨by simpa using heap_alloc_new W _, hB.size⟩

/-! ### scanner_MultiLineState_hasTrimAllEndNewlineOpt: function 35 -/
def scanner_MultiLineState_hasTrimAllEndNewlineOpt.f (s0_0 : ByteArray) (s0_1 : Int) (s0_2 : Int) (s0_3 : Int) (s0_4 : Int) (s0_5 : Int) (s0_6 : Bool) (s0_7 : Bool) (s0_8 : Bool) (s0_9 : Bool) : Option (Bool × ByteArray × Int × Int × Int × Int × Int × Bool × Bool × Bool × Bool) := (strings_HasPrefix.f s0_0 (⟨#[45]⟩ : ByteArray)).bind fun t103 => (if t103 = true then (some (true, s0_0, s0_1, s0_2, s0_3, s0_4, s0_5, s0_6, s0_7, s0_8, s0_9)) else ((strings_HasSuffix.f s0_0 (⟨#[45]⟩ : ByteArray)).bind fun t104 => (if t104 = true then (some (true, s0_0, s0_1, s0_2, s0_3, s0_4, s0_5, s0_6, s0_7, s0_8, s0_9)) else (some (s0_7, s0_0, s0_1, s0_2, s0_3, s0_4, s0_5, s0_6, s0_7, s0_8, s0_9)))))
set_option maxHeartbeats 8000000 in
set_option maxRecDepth 100000 in
theorem scanner_MultiLineState_hasTrimAllEndNewlineOpt.calls (g : Nat) (s0_0 : ByteArray) (s0_1 : Int) (s0_2 : Int) (s0_3 : Int) (s0_4 : Int) (s0_5 : Int) (s0_6 : Bool) (s0_7 : Bool) (s0_8 : Bool) (s0_9 : Bool) (r1 : Bool) (r2 : ByteArray) (r3 : Int) (r4 : Int) (r5 : Int) (r6 : Int) (r7 : Int) (r8 : Bool) (r9 : Bool) (r10 : Bool) (r11 : Bool) (w0 w : World) (hI : IsS86 w0 w g s0_0 s0_1 s0_2 s0_3 s0_4 s0_5 s0_6 s0_7 s0_8 s0_9) (hB : Below w0.heap.size w0 w) (h : scanner_MultiLineState_hasTrimAllEndNewlineOpt.f s0_0 s0_1 s0_2 s0_3 s0_4 s0_5 s0_6 s0_7 s0_8 s0_9 = some (r1, r2, r3, r4, r5, r6, r7, r8, r9, r10, r11)) :
    Calls Try.prog 35 #[.pointer (some ⟨g, 0, none⟩)] w fun e w' => e = .returned (.bool r1) ∧ IsS86 w0 w' g r2 r3 r4 r5 r6 r7 r8 r9 r10 r11 ∧ Below w0.heap.size w0 w' ∧ KeepBut w w' g none := by
  have HI0 := Aside0.mk hI
  have HK := Aside0.mk (KeepBut.refl w g none)
  have HL := Aside0.mk hB.size
  clear hI
  have HW0 := Aside0.mk hB.size
  have HB := Aside0.mk hB
  clear hB
  have H : ((strings_HasPrefix.f s0_0 (⟨#[45]⟩ : ByteArray)).bind fun t103 => (if t103 = true then (some (true, s0_0, s0_1, s0_2, s0_3, s0_4, s0_5, s0_6, s0_7, s0_8, s0_9)) else ((strings_HasSuffix.f s0_0 (⟨#[45]⟩ : ByteArray)).bind fun t104 => (if t104 = true then (some (true, s0_0, s0_1, s0_2, s0_3, s0_4, s0_5, s0_6, s0_7, s0_8, s0_9)) else (some (s0_7, s0_0, s0_1, s0_2, s0_3, s0_4, s0_5, s0_6, s0_7, s0_8, s0_9)))))) = some (r1, r2, r3, r4, r5, r6, r7, r8, r9, r10, r11) := h
  clear h
  replace H := Option.bind_eq_some_iff.mp H
  obtain ⟨t103, A20, H⟩ := H
  replace H : (if t103 = true then (some (true, s0_0, s0_1, s0_2, s0_3, s0_4, s0_5, s0_6, s0_7, s0_8, s0_9)) else ((strings_HasSuffix.f s0_0 (⟨#[45]⟩ : ByteArray)).bind fun t104 => (if t104 = true then (some (true, s0_0, s0_1, s0_2, s0_3, s0_4, s0_5, s0_6, s0_7, s0_8, s0_9)) else (some (s0_7, s0_0, s0_1, s0_2, s0_3, s0_4, s0_5, s0_6, s0_7, s0_8, s0_9))))) = some (r1, r2, r3, r4, r5, r6, r7, r8, r9, r10, r11) := H
  have A2 := Aside0.mk A20
  clear A20
  by_cases c3 : t103 = true
  · subst c3
    have H1 : (some (true, s0_0, s0_1, s0_2, s0_3, s0_4, s0_5, s0_6, s0_7, s0_8, s0_9)) = some (r1, r2, r3, r4, r5, r6, r7, r8, r9, r10, r11) := by rw [if_pos rfl] at H; exact H
    clear H
    have H := H1
    clear H1
    simp only [Option.some.injEq, Prod.mk.injEq] at H
    obtain ⟨rfl, rfl, rfl, rfl, rfl, rfl, rfl, rfl, rfl, rfl, rfl⟩ := H
    obtain ⟨HGz4, hgz4⟩ := HI0.out
    have hcz4_0 := cellS86_0 HGz4
    have hcz4_1 := cellS86_1 HGz4
    have hcz4_2 := cellS86_2 HGz4
    have hcz4_3 := cellS86_3 HGz4
    have hcz4_4 := cellS86_4 HGz4
    have hcz4_5 := cellS86_5 HGz4
    have hcz4_6 := cellS86_6 HGz4
    have hcz4_7 := cellS86_7 HGz4
    have hcz4_8 := cellS86_8 HGz4
    have hcz4_9 := cellS86_9 HGz4
    have hfz4_0 := blk_frozen HGz4 0
    have hfz4_1 := blk_frozen HGz4 1
    have hfz4_2 := blk_frozen HGz4 2
    have hfz4_3 := blk_frozen HGz4 3
    have hfz4_4 := blk_frozen HGz4 4
    have hfz4_5 := blk_frozen HGz4 5
    have hfz4_6 := blk_frozen HGz4 6
    have hfz4_7 := blk_frozen HGz4 7
    have hfz4_8 := blk_frozen HGz4 8
    have hfz4_9 := blk_frozen HGz4 9
    clear HGz4 hgz4
    go_enter Try.func35, Try.ntmps35
    go_wp2_with (first | ((with_reducible refine gate_callee (f := 40) rfl ?_); refine goesL_ (some 7) rfl rfl Try.func40 (by kernel_rfl) rfl #[.string s0_0, .string (⟨#[45]⟩ : ByteArray)] rfl (by (try simp only [List.map_toArray, List.map_cons, List.map_nil]); first | done | rfl | (simp only [List.length_drop, List.length_take]; rfl)) ?_; (with_reducible refine (strings_HasPrefix.calls s0_0 (⟨#[45]⟩ : ByteArray) true _ A2.out).mono ?_); rintro e w' ⟨rfl, ⟨nd, rfl⟩⟩; refine ⟨_, rfl, ?_⟩))
    go_ret
    exact ⟨by first | rfl | (simp [errW_none, errW_some] <;> rfl) | (simp [*, errW_none, errW_some] <;> rfl), by repeat (first | (with_reducible first | exact HI0.out | apply IsS86.alloc | apply IsS86.drewN | apply IsS86.drew | apply IsS86.set_0 | apply IsS86.set_1 | apply IsS86.set_2 | apply IsS86.set_3 | apply IsS86.set_4 | apply IsS86.set_5 | apply IsS86.set_6 | apply IsS86.set_7 | apply IsS86.set_8 | apply IsS86.set_9) | exact HI0.out), by repeat (first | (with_reducible first | exact HB.out | apply below_alloc | apply pw_below_drewN | apply below_drew1 | refine below_set ?_ (IsS86.ge HI0.out)) | exact HB.out), by repeat (first | (with_reducible first | exact HK.out | apply KeepBut.set_ | apply keep_drewN | apply keep_drew | apply keep_alloc) | exact HK.out)⟩
  · replace c3 := Bool.eq_false_iff.mpr c3
    subst c3
    have H1 : ((strings_HasSuffix.f s0_0 (⟨#[45]⟩ : ByteArray)).bind fun t104 => (if t104 = true then (some (true, s0_0, s0_1, s0_2, s0_3, s0_4, s0_5, s0_6, s0_7, s0_8, s0_9)) else (some (s0_7, s0_0, s0_1, s0_2, s0_3, s0_4, s0_5, s0_6, s0_7, s0_8, s0_9)))) = some (r1, r2, r3, r4, r5, r6, r7, r8, r9, r10, r11) := by rw [if_neg (show ¬ (false = true) by decide)] at H; exact H
    clear H
    have H := H1
    clear H1
    replace H := Option.bind_eq_some_iff.mp H
    obtain ⟨t104, A50, H⟩ := H
    replace H : (if t104 = true then (some (true, s0_0, s0_1, s0_2, s0_3, s0_4, s0_5, s0_6, s0_7, s0_8, s0_9)) else (some (s0_7, s0_0, s0_1, s0_2, s0_3, s0_4, s0_5, s0_6, s0_7, s0_8, s0_9))) = some (r1, r2, r3, r4, r5, r6, r7, r8, r9, r10, r11) := H
    have A5 := Aside0.mk A50
    clear A50
    by_cases c6 : t104 = true
    · subst c6
      have H1 : (some (true, s0_0, s0_1, s0_2, s0_3, s0_4, s0_5, s0_6, s0_7, s0_8, s0_9)) = some (r1, r2, r3, r4, r5, r6, r7, r8, r9, r10, r11) := by rw [if_pos rfl] at H; exact H
      clear H
      have H := H1
      clear H1
      simp only [Option.some.injEq, Prod.mk.injEq] at H
      obtain ⟨rfl, rfl, rfl, rfl, rfl, rfl, rfl, rfl, rfl, rfl, rfl⟩ := H
      obtain ⟨HGz7, hgz7⟩ := HI0.out
      have hcz7_0 := cellS86_0 HGz7
      have hcz7_1 := cellS86_1 HGz7
      have hcz7_2 := cellS86_2 HGz7
      have hcz7_3 := cellS86_3 HGz7
      have hcz7_4 := cellS86_4 HGz7
      have hcz7_5 := cellS86_5 HGz7
      have hcz7_6 := cellS86_6 HGz7
      have hcz7_7 := cellS86_7 HGz7
      have hcz7_8 := cellS86_8 HGz7
      have hcz7_9 := cellS86_9 HGz7
      have hfz7_0 := blk_frozen HGz7 0
      have hfz7_1 := blk_frozen HGz7 1
      have hfz7_2 := blk_frozen HGz7 2
      have hfz7_3 := blk_frozen HGz7 3
      have hfz7_4 := blk_frozen HGz7 4
      have hfz7_5 := blk_frozen HGz7 5
      have hfz7_6 := blk_frozen HGz7 6
      have hfz7_7 := blk_frozen HGz7 7
      have hfz7_8 := blk_frozen HGz7 8
      have hfz7_9 := blk_frozen HGz7 9
      clear HGz7 hgz7
      go_enter Try.func35, Try.ntmps35
      go_wp2_with (first | ((with_reducible refine gate_callee (f := 40) rfl ?_); refine goesL_ (some 7) rfl rfl Try.func40 (by kernel_rfl) rfl #[.string s0_0, .string (⟨#[45]⟩ : ByteArray)] rfl (by (try simp only [List.map_toArray, List.map_cons, List.map_nil]); first | done | rfl | (simp only [List.length_drop, List.length_take]; rfl)) ?_; (with_reducible refine (strings_HasPrefix.calls s0_0 (⟨#[45]⟩ : ByteArray) false _ A2.out).mono ?_); rintro e w' ⟨rfl, ⟨nd, rfl⟩⟩; refine ⟨_, rfl, ?_⟩) | (go_at_call 41; (with_reducible refine (strings_HasSuffix.calls s0_0 (⟨#[45]⟩ : ByteArray) true _ A5.out).mono ?_); rintro e w' ⟨rfl, ⟨nd, rfl⟩⟩))
      go_ret
      exact ⟨by first | rfl | (simp [errW_none, errW_some] <;> rfl) | (simp [*, errW_none, errW_some] <;> rfl), by repeat (first | (with_reducible first | exact HI0.out | apply IsS86.alloc | apply IsS86.drewN | apply IsS86.drew | apply IsS86.set_0 | apply IsS86.set_1 | apply IsS86.set_2 | apply IsS86.set_3 | apply IsS86.set_4 | apply IsS86.set_5 | apply IsS86.set_6 | apply IsS86.set_7 | apply IsS86.set_8 | apply IsS86.set_9) | exact HI0.out), by repeat (first | (with_reducible first | exact HB.out | apply below_alloc | apply pw_below_drewN | apply below_drew1 | refine below_set ?_ (IsS86.ge HI0.out)) | exact HB.out), by repeat (first | (with_reducible first | exact HK.out | apply KeepBut.set_ | apply keep_drewN | apply keep_drew | apply keep_alloc) | exact HK.out)⟩
    · replace c6 := Bool.eq_false_iff.mpr c6
      subst c6
      have H1 : (some (s0_7, s0_0, s0_1, s0_2, s0_3, s0_4, s0_5, s0_6, s0_7, s0_8, s0_9)) = some (r1, r2, r3, r4, r5, r6, r7, r8, r9, r10, r11) := by rw [if_neg (show ¬ (false = true) by decide)] at H; exact H
      clear H
      have H := H1
      clear H1
      simp only [Option.some.injEq, Prod.mk.injEq] at H
      obtain ⟨rfl, rfl, rfl, rfl, rfl, rfl, rfl, rfl, rfl, rfl, rfl⟩ := H
      obtain ⟨HGz8, hgz8⟩ := HI0.out
      have hcz8_0 := cellS86_0 HGz8
      have hcz8_1 := cellS86_1 HGz8
      have hcz8_2 := cellS86_2 HGz8
      have hcz8_3 := cellS86_3 HGz8
      have hcz8_4 := cellS86_4 HGz8
      have hcz8_5 := cellS86_5 HGz8
      have hcz8_6 := cellS86_6 HGz8
      have hcz8_7 := cellS86_7 HGz8
      have hcz8_8 := cellS86_8 HGz8
      have hcz8_9 := cellS86_9 HGz8
      have hfz8_0 := blk_frozen HGz8 0
      have hfz8_1 := blk_frozen HGz8 1
      have hfz8_2 := blk_frozen HGz8 2
      have hfz8_3 := blk_frozen HGz8 3
      have hfz8_4 := blk_frozen HGz8 4
      have hfz8_5 := blk_frozen HGz8 5
      have hfz8_6 := blk_frozen HGz8 6
      have hfz8_7 := blk_frozen HGz8 7
      have hfz8_8 := blk_frozen HGz8 8
      have hfz8_9 := blk_frozen HGz8 9
      clear HGz8 hgz8
      go_enter Try.func35, Try.ntmps35
      go_wp2_with (first | ((with_reducible refine gate_callee (f := 40) rfl ?_); refine goesL_ (some 7) rfl rfl Try.func40 (by kernel_rfl) rfl #[.string s0_0, .string (⟨#[45]⟩ : ByteArray)] rfl (by (try simp only [List.map_toArray, List.map_cons, List.map_nil]); first | done | rfl | (simp only [List.length_drop, List.length_take]; rfl)) ?_; (with_reducible refine (strings_HasPrefix.calls s0_0 (⟨#[45]⟩ : ByteArray) false _ A2.out).mono ?_); rintro e w' ⟨rfl, ⟨nd, rfl⟩⟩; refine ⟨_, rfl, ?_⟩) | (go_at_call 41; (with_reducible refine (strings_HasSuffix.calls s0_0 (⟨#[45]⟩ : ByteArray) false _ A5.out).mono ?_); rintro e w' ⟨rfl, ⟨nd, rfl⟩⟩))
      go_ret
      exact ⟨by first | rfl | (simp [errW_none, errW_some] <;> rfl) | (simp [*, errW_none, errW_some] <;> rfl), by repeat (first | (with_reducible first | exact HI0.out | apply IsS86.alloc | apply IsS86.drewN | apply IsS86.drew | apply IsS86.set_0 | apply IsS86.set_1 | apply IsS86.set_2 | apply IsS86.set_3 | apply IsS86.set_4 | apply IsS86.set_5 | apply IsS86.set_6 | apply IsS86.set_7 | apply IsS86.set_8 | apply IsS86.set_9) | exact HI0.out), by repeat (first | (with_reducible first | exact HB.out | apply below_alloc | apply pw_below_drewN | apply below_drew1 | refine below_set ?_ (IsS86.ge HI0.out)) | exact HB.out), by repeat (first | (with_reducible first | exact HK.out | apply KeepBut.set_ | apply keep_drewN | apply keep_drew | apply keep_alloc) | exact HK.out)⟩

/-! ### scanner_zzTrimRight: function 36 -/
mutual
def scanner_zzTrimRight.l0 : Nat → ByteArray → ByteArray → Int → Option (ByteArray)
  | 0, _, _, _ => none
  | k + 1, x0, x1, x5 => if x5 > 0 then (scanner_zzTrimRight.l1 k x0 x1 x5 false 0) else (if 0 ≤ x5 then (if x5 ≤ (x0.size : Int) then (some (x0.extract 0 (x5 : Int).toNat)) else (none)) else (none))
def scanner_zzTrimRight.l1 : Nat → ByteArray → ByteArray → Int → Bool → Int → Option (ByteArray)
  | 0, _, _, _, _, _ => none
  | k + 1, x0, x1, x5, x6, x7 => if x7 < (x1.size : Int) then (if 0 ≤ x7 then (if 0 ≤ (wrap64 (x5 - 1)) then (if (wrap64 (x5 - 1)) < (x0.size : Int) then (if (bt x1 x7) = (bt x0 (wrap64 (x5 - 1))) then (scanner_zzTrimRight.l1 k x0 x1 x5 true (wrap64 (x7 + 1))) else (scanner_zzTrimRight.l1 k x0 x1 x5 x6 (wrap64 (x7 + 1)))) else (none)) else (none)) else (none)) else (if x6 = true then (scanner_zzTrimRight.l0 k x0 x1 (wrap64 (x5 - 1))) else (if 0 ≤ x5 then (if x5 ≤ (x0.size : Int) then (some (x0.extract 0 (x5 : Int).toNat)) else (none)) else (none)))
end
def scanner_zzTrimRight.f (k : Nat) (a0 : ByteArray) (a1 : ByteArray) : Option (ByteArray) := scanner_zzTrimRight.l0 k a0 a1 (a0.size : Int)
theorem scanner_zzTrimRight.mono_l : ∀ k, (∀ y0 y1 y2, LeO (scanner_zzTrimRight.l0 k y0 y1 y2) (scanner_zzTrimRight.l0 (k + 1) y0 y1 y2)) ∧ (∀ y0 y1 y2 y3 y4, LeO (scanner_zzTrimRight.l1 k y0 y1 y2 y3 y4) (scanner_zzTrimRight.l1 (k + 1) y0 y1 y2 y3 y4))
  | 0 => ⟨fun _ _ _ r h => by simp [scanner_zzTrimRight.l0] at h, fun _ _ _ _ _ r h => by simp [scanner_zzTrimRight.l1] at h⟩
  | k + 1 => by
    obtain ⟨ih0, ih1⟩ := scanner_zzTrimRight.mono_l k
    refine ⟨?_, ?_⟩
    · intro y0 y1 y2
      unfold scanner_zzTrimRight.l0
      repeat' first
      | (with_reducible exact ih0 _ _ _)
      | (with_reducible exact ih1 _ _ _ _ _)
      | (with_reducible exact LeO.refl _)
      | (with_reducible exact LeO.none _)
      | (with_reducible refine LeO.ite ?_ ?_)
      | (with_reducible refine LeO.bind ?_ (fun _ => ?_))
      | exact ih0 _ _ _
      | exact ih1 _ _ _ _ _
      | exact LeO.none _
      | refine LeO.ite ?_ ?_
      | refine LeO.bind ?_ (fun _ => ?_)
    · intro y0 y1 y2 y3 y4
      unfold scanner_zzTrimRight.l1
      repeat' first
      | (with_reducible exact ih0 _ _ _)
      | (with_reducible exact ih1 _ _ _ _ _)
      | (with_reducible exact LeO.refl _)
      | (with_reducible exact LeO.none _)
      | (with_reducible refine LeO.ite ?_ ?_)
      | (with_reducible refine LeO.bind ?_ (fun _ => ?_))
      | exact ih0 _ _ _
      | exact ih1 _ _ _ _ _
      | exact LeO.none _
      | refine LeO.ite ?_ ?_
      | refine LeO.bind ?_ (fun _ => ?_)
theorem scanner_zzTrimRight.mono : ∀ a0 a1 k, LeO (scanner_zzTrimRight.f k a0 a1) (scanner_zzTrimRight.f (k + 1) a0 a1) := by
  intro a0 a1 k
  obtain ⟨ih0, ih1⟩ := scanner_zzTrimRight.mono_l k
  unfold scanner_zzTrimRight.f
  repeat' first
      | (with_reducible exact ih0 _ _ _)
      | (with_reducible exact ih1 _ _ _ _ _)
      | (with_reducible exact LeO.refl _)
      | (with_reducible exact LeO.none _)
      | (with_reducible refine LeO.ite ?_ ?_)
      | (with_reducible refine LeO.bind ?_ (fun _ => ?_))
      | exact ih0 _ _ _
      | exact ih1 _ _ _ _ _
      | exact LeO.none _
      | refine LeO.ite ?_ ?_
      | refine LeO.bind ?_ (fun _ => ?_)
set_option maxHeartbeats 8000000 in
set_option maxRecDepth 100000 in
theorem scanner_zzTrimRight.calls (k : Nat) (a0 : ByteArray) (a1 : ByteArray) (r : ByteArray) (w : World) (h : scanner_zzTrimRight.f k a0 a1 = some r) :
    Calls Try.prog 36 #[.string a0, .string a1] w fun e w' => e = .returned (.string r) ∧ Drawn0 w w' := by
  have H : (scanner_zzTrimRight.l0 k a0 a1 (a0.size : Int)) = some r := h
  clear h
  have H' := Aside0.mk H
  clear H
  go_enter Try.func36, Try.ntmps36
  go_wp2
  repeat (go_quiet (fail); try go_wp2)
  go_loopg [5] k (fun kq v5 w' => ∃ (x5_1 : Int), v5 = .int .i64 x5_1 ∧ Aside0 (scanner_zzTrimRight.l0 kq a0 a1 x5_1 = some r) ∧ Aside0 (kq ≤ k) ∧ Drawn0 w w')
  case atStart => exact ⟨((a0.size : Int)), (by first | rfl | (simp; done) | (simp [*]; done)), H', ⟨Nat.le_refl _⟩, by repeat (first | exact Drawn0.refl _ | apply Drawn0.step)⟩
  case round =>
    clear H'
    try clear p2
    obtain ⟨x5_1, rfl, HA, HK1, ⟨m1, rfl⟩⟩ := hrel
    cases gk with
    | zero => exact absurd HA.out (by simp [scanner_zzTrimRight.l0])
    | succ k1 =>
      have H := HA.out
      clear HA
      simp only [scanner_zzTrimRight.l0] at H
      by_cases c3 : x5_1 > 0
      · rw [if_pos c3] at H
        have c3b0 : decide (0 < x5_1) = true := decide_eq_true c3
        clear c3
        have H' := Aside0.mk H
        clear H
        go_wp2
        repeat (go_quiet (fail); try go_wp2)
        go_loopg [6, 7] k1 (fun kq v6 v7 w' => ∃ (x6_2 : Bool) (x7_2 : Int), v6 = .bool x6_2 ∧ v7 = .int .i64 x7_2 ∧ Aside0 (scanner_zzTrimRight.l1 kq a0 a1 x5_1 x6_2 x7_2 = some r) ∧ Aside0 (kq ≤ k1) ∧ Drawn0 w w')
        case atStart => exact ⟨(false), (0), (by first | rfl | (simp; done) | (simp [*]; done)), (by first | rfl | (simp; done) | (simp [*]; done)), H', ⟨Nat.le_refl _⟩, by repeat (first | exact Drawn0.refl _ | apply Drawn0.step)⟩
        case round =>
          clear H'
          try clear p2
          try clear c3
          try clear c3b0
          try clear p2
          obtain ⟨x6_2, x7_2, rfl, rfl, HA, HK2, ⟨m2, rfl⟩⟩ := hrel
          cases gk with
          | zero => exact absurd HA.out (by simp [scanner_zzTrimRight.l1])
          | succ k2 =>
            have H := HA.out
            clear HA
            simp only [scanner_zzTrimRight.l1] at H
            by_cases c4 : x7_2 < (a1.size : Int)
            · rw [if_pos c4] at H
              have c4b0 : decide (x7_2 < (a1.size : Int)) = true := decide_eq_true c4
              clear c4
              by_cases c5 : 0 ≤ x7_2
              · rw [if_pos c5] at H
                have c5b0 : decide (0 ≤ x7_2) = true := decide_eq_true c5
                clear c5
                obtain ⟨ji7, hji7⟩ : ∃ j_ : Int, (wrap64 (x5_1 - 1)) = j_ := ⟨_, rfl⟩
                replace H : (if 0 ≤ (ji7) then (if (ji7) < (a0.size : Int) then (if (bt a1 x7_2) = (bt a0 (ji7)) then (scanner_zzTrimRight.l1 k2 a0 a1 x5_1 true (wrap64 (x7_2 + 1))) else (scanner_zzTrimRight.l1 k2 a0 a1 x5_1 x6_2 (wrap64 (x7_2 + 1)))) else (none)) else (none)) = some r := by first | (rw [hji7] at H; exact H) | (simp only [hji7] at H ⊢; exact H)
                have hji7w : (IntKind.i64.wrap (x5_1 - 1)) = ji7 := (i64_w _).trans hji7
                by_cases c8 : 0 ≤ (ji7)
                · rw [if_pos c8] at H
                  have c8b0 : decide (0 ≤ (ji7)) = true := decide_eq_true c8
                  clear c8
                  by_cases c9 : (ji7) < (a0.size : Int)
                  · rw [if_pos c9] at H
                    have c9b0 : decide ((ji7) < (a0.size : Int)) = true := decide_eq_true c9
                    clear c9
                    by_cases c11 : (bt a1 x7_2) = (bt a0 (ji7))
                    · rw [if_pos c11] at H
                      have c11b0 : ((bt a1 x7_2) == (bt a0 (ji7))) = true := beq_iff_eq.mpr c11
                      have c11b1 : ((bt a1 x7_2) != (bt a0 (ji7))) = false := bne_eq_false_iff_eq.mpr c11
                      clear c11
                      have H' := Aside0.mk H
                      clear H
                      have p6 : 0 ≤ (x7_2 : Int) := of_decide_eq_true (by first | (with_reducible assumption) | assumption)
                      have q6 : x7_2 < (a1.size : Int) := of_decide_eq_true (by first | (with_reducible assumption) | assumption)
                      have hx6 := bt_at a1 x7_2
                      replace p6 := eq_true p6
                      replace q6 := eq_true q6
                      have p10 : 0 ≤ ((ji7) : Int) := of_decide_eq_true (by first | (with_reducible assumption) | assumption)
                      have q10 : (ji7) < (a0.size : Int) := of_decide_eq_true (by first | (with_reducible assumption) | assumption)
                      have hx10 := bt_at a0 (ji7)
                      replace p10 := eq_true p10
                      replace q10 := eq_true q10
                      go_wp2
                      repeat (go_quiet (fail); try go_wp2)
                      go_roundg k2
                      case measure => have := HK1.out; have := HK2.out; omega
                      case rel => exact ⟨(true), (wrap64 (x7_2 + 1)), (by first | rfl | (simp; done) | (simp [*]; done)), (by first | rfl | (simp; done) | (simp [*]; done)), H', ⟨by have := HK1.out; have := HK2.out; omega⟩, by repeat (first | exact Drawn0.refl _ | apply Drawn0.step)⟩
                    · rw [if_neg c11] at H
                      have c11b0 : ((bt a1 x7_2) == (bt a0 (ji7))) = false := beq_eq_false_iff_ne.mpr c11
                      have c11b1 : ((bt a1 x7_2) != (bt a0 (ji7))) = true := bne_iff_ne.mpr c11
                      have H' := Aside0.mk H
                      clear H
                      have p6 : 0 ≤ (x7_2 : Int) := of_decide_eq_true (by first | (with_reducible assumption) | assumption)
                      have q6 : x7_2 < (a1.size : Int) := of_decide_eq_true (by first | (with_reducible assumption) | assumption)
                      have hx6 := bt_at a1 x7_2
                      replace p6 := eq_true p6
                      replace q6 := eq_true q6
                      have p10 : 0 ≤ ((ji7) : Int) := of_decide_eq_true (by first | (with_reducible assumption) | assumption)
                      have q10 : (ji7) < (a0.size : Int) := of_decide_eq_true (by first | (with_reducible assumption) | assumption)
                      have hx10 := bt_at a0 (ji7)
                      replace p10 := eq_true p10
                      replace q10 := eq_true q10
                      go_wp2
                      repeat (go_quiet (fail); try go_wp2)
                      go_roundg k2
                      case measure => have := HK1.out; have := HK2.out; omega
                      case rel => exact ⟨(x6_2), (wrap64 (x7_2 + 1)), (by first | rfl | (simp; done) | (simp [*]; done)), (by first | rfl | (simp; done) | (simp [*]; done)), H', ⟨by have := HK1.out; have := HK2.out; omega⟩, by repeat (first | exact Drawn0.refl _ | apply Drawn0.step)⟩
                  · rw [if_neg c9] at H
                    exact absurd H (by simp)
                · rw [if_neg c8] at H
                  exact absurd H (by simp)
              · rw [if_neg c5] at H
                exact absurd H (by simp)
            · rw [if_neg c4] at H
              have c4b0 : decide (x7_2 < (a1.size : Int)) = false := decide_eq_false c4
              clear c4
              by_cases c12 : x6_2 = true
              · subst c12
                have H1 : (scanner_zzTrimRight.l0 k2 a0 a1 (wrap64 (x5_1 - 1))) = some r := by rw [if_pos rfl] at H; exact H
                clear H
                have H := H1
                clear H1
                have H' := Aside0.mk H
                clear H
                go_wp2
                repeat (go_quiet (fail); try go_wp2)
                go_roundg k2
                case measure => have := HK1.out; have := HK2.out; omega
                case rel => exact ⟨(wrap64 (x5_1 - 1)), (by first | rfl | (simp; done) | (simp [*]; done)), H', ⟨by have := HK1.out; have := HK2.out; omega⟩, by repeat (first | exact Drawn0.refl _ | apply Drawn0.step)⟩
              · replace c12 := Bool.eq_false_iff.mpr c12
                subst c12
                have H1 : (if 0 ≤ x5_1 then (if x5_1 ≤ (a0.size : Int) then (some (a0.extract 0 (x5_1 : Int).toNat)) else (none)) else (none)) = some r := by rw [if_neg (show ¬ (false = true) by decide)] at H; exact H
                clear H
                have H := H1
                clear H1
                by_cases c13 : 0 ≤ x5_1
                · rw [if_pos c13] at H
                  have c13b0 := eq_true c13
                  have c13b1 : decide (0 ≤ x5_1) = true := decide_eq_true c13
                  clear c13
                  by_cases c14 : x5_1 ≤ (a0.size : Int)
                  · rw [if_pos c14] at H
                    have c14b0 := eq_true c14
                    have c14b1 : decide (x5_1 ≤ (a0.size : Int)) = true := decide_eq_true c14
                    clear c14
                    obtain rfl := Option.some.inj H
                    go_wp2
                    repeat (go_quiet (fail); try go_wp2)
                    go_ret
                    exact ⟨by first | rfl | (simp; done) | (simp [*]; done), by repeat (first | exact Drawn0.refl _ | apply Drawn0.step)⟩
                  · rw [if_neg c14] at H
                    exact absurd H (by simp)
                · rw [if_neg c13] at H
                  exact absurd H (by simp)
      · rw [if_neg c3] at H
        have c3b0 : decide (0 < x5_1) = false := decide_eq_false c3
        clear c3
        by_cases c15 : 0 ≤ x5_1
        · rw [if_pos c15] at H
          have c15b0 := eq_true c15
          have c15b1 : decide (0 ≤ x5_1) = true := decide_eq_true c15
          clear c15
          by_cases c16 : x5_1 ≤ (a0.size : Int)
          · rw [if_pos c16] at H
            have c16b0 := eq_true c16
            have c16b1 : decide (x5_1 ≤ (a0.size : Int)) = true := decide_eq_true c16
            clear c16
            obtain rfl := Option.some.inj H
            go_wp2
            repeat (go_quiet (fail); try go_wp2)
            go_ret
            exact ⟨by first | rfl | (simp; done) | (simp [*]; done), by repeat (first | exact Drawn0.refl _ | apply Drawn0.step)⟩
          · rw [if_neg c16] at H
            exact absurd H (by simp)
        · rw [if_neg c15] at H
          exact absurd H (by simp)

/-! ### scanner_MultiLineState_hasKeepAllEndNewlineOpt: function 37 -/
def scanner_MultiLineState_hasKeepAllEndNewlineOpt.f (s0_0 : ByteArray) (s0_1 : Int) (s0_2 : Int) (s0_3 : Int) (s0_4 : Int) (s0_5 : Int) (s0_6 : Bool) (s0_7 : Bool) (s0_8 : Bool) (s0_9 : Bool) : Option (Bool × ByteArray × Int × Int × Int × Int × Int × Bool × Bool × Bool × Bool) := (strings_HasPrefix.f s0_0 (⟨#[43]⟩ : ByteArray)).bind fun t105 => (if t105 = true then (some (true, s0_0, s0_1, s0_2, s0_3, s0_4, s0_5, s0_6, s0_7, s0_8, s0_9)) else ((strings_HasSuffix.f s0_0 (⟨#[43]⟩ : ByteArray)).bind fun t106 => (some (t106, s0_0, s0_1, s0_2, s0_3, s0_4, s0_5, s0_6, s0_7, s0_8, s0_9))))
set_option maxHeartbeats 8000000 in
set_option maxRecDepth 100000 in
theorem scanner_MultiLineState_hasKeepAllEndNewlineOpt.calls (g : Nat) (s0_0 : ByteArray) (s0_1 : Int) (s0_2 : Int) (s0_3 : Int) (s0_4 : Int) (s0_5 : Int) (s0_6 : Bool) (s0_7 : Bool) (s0_8 : Bool) (s0_9 : Bool) (r1 : Bool) (r2 : ByteArray) (r3 : Int) (r4 : Int) (r5 : Int) (r6 : Int) (r7 : Int) (r8 : Bool) (r9 : Bool) (r10 : Bool) (r11 : Bool) (w0 w : World) (hI : IsS86 w0 w g s0_0 s0_1 s0_2 s0_3 s0_4 s0_5 s0_6 s0_7 s0_8 s0_9) (hB : Below w0.heap.size w0 w) (h : scanner_MultiLineState_hasKeepAllEndNewlineOpt.f s0_0 s0_1 s0_2 s0_3 s0_4 s0_5 s0_6 s0_7 s0_8 s0_9 = some (r1, r2, r3, r4, r5, r6, r7, r8, r9, r10, r11)) :
    Calls Try.prog 37 #[.pointer (some ⟨g, 0, none⟩)] w fun e w' => e = .returned (.bool r1) ∧ IsS86 w0 w' g r2 r3 r4 r5 r6 r7 r8 r9 r10 r11 ∧ Below w0.heap.size w0 w' ∧ KeepBut w w' g none := by
  have HI0 := Aside0.mk hI
  have HK := Aside0.mk (KeepBut.refl w g none)
  have HL := Aside0.mk hB.size
  clear hI
  have HW0 := Aside0.mk hB.size
  have HB := Aside0.mk hB
  clear hB
  have H : ((strings_HasPrefix.f s0_0 (⟨#[43]⟩ : ByteArray)).bind fun t105 => (if t105 = true then (some (true, s0_0, s0_1, s0_2, s0_3, s0_4, s0_5, s0_6, s0_7, s0_8, s0_9)) else ((strings_HasSuffix.f s0_0 (⟨#[43]⟩ : ByteArray)).bind fun t106 => (some (t106, s0_0, s0_1, s0_2, s0_3, s0_4, s0_5, s0_6, s0_7, s0_8, s0_9))))) = some (r1, r2, r3, r4, r5, r6, r7, r8, r9, r10, r11) := h
  clear h
  replace H := Option.bind_eq_some_iff.mp H
  obtain ⟨t105, A20, H⟩ := H
  replace H : (if t105 = true then (some (true, s0_0, s0_1, s0_2, s0_3, s0_4, s0_5, s0_6, s0_7, s0_8, s0_9)) else ((strings_HasSuffix.f s0_0 (⟨#[43]⟩ : ByteArray)).bind fun t106 => (some (t106, s0_0, s0_1, s0_2, s0_3, s0_4, s0_5, s0_6, s0_7, s0_8, s0_9)))) = some (r1, r2, r3, r4, r5, r6, r7, r8, r9, r10, r11) := H
  have A2 := Aside0.mk A20
  clear A20
  by_cases c3 : t105 = true
  · subst c3
    have H1 : (some (true, s0_0, s0_1, s0_2, s0_3, s0_4, s0_5, s0_6, s0_7, s0_8, s0_9)) = some (r1, r2, r3, r4, r5, r6, r7, r8, r9, r10, r11) := by rw [if_pos rfl] at H; exact H
    clear H
    have H := H1
    clear H1
    simp only [Option.some.injEq, Prod.mk.injEq] at H
    obtain ⟨rfl, rfl, rfl, rfl, rfl, rfl, rfl, rfl, rfl, rfl, rfl⟩ := H
    obtain ⟨HGz4, hgz4⟩ := HI0.out
    have hcz4_0 := cellS86_0 HGz4
    have hcz4_1 := cellS86_1 HGz4
    have hcz4_2 := cellS86_2 HGz4
    have hcz4_3 := cellS86_3 HGz4
    have hcz4_4 := cellS86_4 HGz4
    have hcz4_5 := cellS86_5 HGz4
    have hcz4_6 := cellS86_6 HGz4
    have hcz4_7 := cellS86_7 HGz4
    have hcz4_8 := cellS86_8 HGz4
    have hcz4_9 := cellS86_9 HGz4
    have hfz4_0 := blk_frozen HGz4 0
    have hfz4_1 := blk_frozen HGz4 1
    have hfz4_2 := blk_frozen HGz4 2
    have hfz4_3 := blk_frozen HGz4 3
    have hfz4_4 := blk_frozen HGz4 4
    have hfz4_5 := blk_frozen HGz4 5
    have hfz4_6 := blk_frozen HGz4 6
    have hfz4_7 := blk_frozen HGz4 7
    have hfz4_8 := blk_frozen HGz4 8
    have hfz4_9 := blk_frozen HGz4 9
    clear HGz4 hgz4
    go_enter Try.func37, Try.ntmps37
    go_wp2_with (first | ((with_reducible refine gate_callee (f := 40) rfl ?_); refine goesL_ (some 7) rfl rfl Try.func40 (by kernel_rfl) rfl #[.string s0_0, .string (⟨#[43]⟩ : ByteArray)] rfl (by (try simp only [List.map_toArray, List.map_cons, List.map_nil]); first | done | rfl | (simp only [List.length_drop, List.length_take]; rfl)) ?_; (with_reducible refine (strings_HasPrefix.calls s0_0 (⟨#[43]⟩ : ByteArray) true _ A2.out).mono ?_); rintro e w' ⟨rfl, ⟨nd, rfl⟩⟩; refine ⟨_, rfl, ?_⟩))
    go_ret
    exact ⟨by first | rfl | (simp [errW_none, errW_some] <;> rfl) | (simp [*, errW_none, errW_some] <;> rfl), by repeat (first | (with_reducible first | exact HI0.out | apply IsS86.alloc | apply IsS86.drewN | apply IsS86.drew | apply IsS86.set_0 | apply IsS86.set_1 | apply IsS86.set_2 | apply IsS86.set_3 | apply IsS86.set_4 | apply IsS86.set_5 | apply IsS86.set_6 | apply IsS86.set_7 | apply IsS86.set_8 | apply IsS86.set_9) | exact HI0.out), by repeat (first | (with_reducible first | exact HB.out | apply below_alloc | apply pw_below_drewN | apply below_drew1 | refine below_set ?_ (IsS86.ge HI0.out)) | exact HB.out), by repeat (first | (with_reducible first | exact HK.out | apply KeepBut.set_ | apply keep_drewN | apply keep_drew | apply keep_alloc) | exact HK.out)⟩
  · replace c3 := Bool.eq_false_iff.mpr c3
    subst c3
    have H1 : ((strings_HasSuffix.f s0_0 (⟨#[43]⟩ : ByteArray)).bind fun t106 => (some (t106, s0_0, s0_1, s0_2, s0_3, s0_4, s0_5, s0_6, s0_7, s0_8, s0_9))) = some (r1, r2, r3, r4, r5, r6, r7, r8, r9, r10, r11) := by rw [if_neg (show ¬ (false = true) by decide)] at H; exact H
    clear H
    have H := H1
    clear H1
    replace H := Option.bind_eq_some_iff.mp H
    obtain ⟨t106, A50, H⟩ := H
    replace H : (some (t106, s0_0, s0_1, s0_2, s0_3, s0_4, s0_5, s0_6, s0_7, s0_8, s0_9)) = some (r1, r2, r3, r4, r5, r6, r7, r8, r9, r10, r11) := H
    have A5 := Aside0.mk A50
    clear A50
    simp only [Option.some.injEq, Prod.mk.injEq] at H
    obtain ⟨rfl, rfl, rfl, rfl, rfl, rfl, rfl, rfl, rfl, rfl, rfl⟩ := H
    obtain ⟨HGz6, hgz6⟩ := HI0.out
    have hcz6_0 := cellS86_0 HGz6
    have hcz6_1 := cellS86_1 HGz6
    have hcz6_2 := cellS86_2 HGz6
    have hcz6_3 := cellS86_3 HGz6
    have hcz6_4 := cellS86_4 HGz6
    have hcz6_5 := cellS86_5 HGz6
    have hcz6_6 := cellS86_6 HGz6
    have hcz6_7 := cellS86_7 HGz6
    have hcz6_8 := cellS86_8 HGz6
    have hcz6_9 := cellS86_9 HGz6
    have hfz6_0 := blk_frozen HGz6 0
    have hfz6_1 := blk_frozen HGz6 1
    have hfz6_2 := blk_frozen HGz6 2
    have hfz6_3 := blk_frozen HGz6 3
    have hfz6_4 := blk_frozen HGz6 4
    have hfz6_5 := blk_frozen HGz6 5
    have hfz6_6 := blk_frozen HGz6 6
    have hfz6_7 := blk_frozen HGz6 7
    have hfz6_8 := blk_frozen HGz6 8
    have hfz6_9 := blk_frozen HGz6 9
    clear HGz6 hgz6
    go_enter Try.func37, Try.ntmps37
    go_wp2_with (first | ((with_reducible refine gate_callee (f := 40) rfl ?_); refine goesL_ (some 7) rfl rfl Try.func40 (by kernel_rfl) rfl #[.string s0_0, .string (⟨#[43]⟩ : ByteArray)] rfl (by (try simp only [List.map_toArray, List.map_cons, List.map_nil]); first | done | rfl | (simp only [List.length_drop, List.length_take]; rfl)) ?_; (with_reducible refine (strings_HasPrefix.calls s0_0 (⟨#[43]⟩ : ByteArray) false _ A2.out).mono ?_); rintro e w' ⟨rfl, ⟨nd, rfl⟩⟩; refine ⟨_, rfl, ?_⟩) | (go_at_call 41; (with_reducible refine (strings_HasSuffix.calls s0_0 (⟨#[43]⟩ : ByteArray) t106 _ A5.out).mono ?_); rintro e w' ⟨rfl, ⟨nd, rfl⟩⟩))
    go_ret
    exact ⟨by first | rfl | (simp [errW_none, errW_some] <;> rfl) | (simp [*, errW_none, errW_some] <;> rfl), by repeat (first | (with_reducible first | exact HI0.out | apply IsS86.alloc | apply IsS86.drewN | apply IsS86.drew | apply IsS86.set_0 | apply IsS86.set_1 | apply IsS86.set_2 | apply IsS86.set_3 | apply IsS86.set_4 | apply IsS86.set_5 | apply IsS86.set_6 | apply IsS86.set_7 | apply IsS86.set_8 | apply IsS86.set_9) | exact HI0.out), by repeat (first | (with_reducible first | exact HB.out | apply below_alloc | apply pw_below_drewN | apply below_drew1 | refine below_set ?_ (IsS86.ge HI0.out)) | exact HB.out), by repeat (first | (with_reducible first | exact HK.out | apply KeepBut.set_ | apply keep_drewN | apply keep_drew | apply keep_alloc) | exact HK.out)⟩

/-! ### stringslite_TrimSuffix: function 42 -/
def stringslite_TrimSuffix.f (a0 : ByteArray) (a1 : ByteArray) : Option (ByteArray) := (stringslite_HasSuffix.f a0 a1).bind fun t107 => (if t107 = true then (if 0 ≤ (wrap64 ((a0.size : Int) - (a1.size : Int))) then (if (wrap64 ((a0.size : Int) - (a1.size : Int))) ≤ (a0.size : Int) then (some (a0.extract 0 ((wrap64 ((a0.size : Int) - (a1.size : Int))) : Int).toNat)) else (none)) else (none)) else (some a0))
set_option maxHeartbeats 8000000 in
set_option maxRecDepth 100000 in
theorem stringslite_TrimSuffix.calls (a0 : ByteArray) (a1 : ByteArray) (r : ByteArray) (w : World) (h : stringslite_TrimSuffix.f a0 a1 = some r) :
    Calls Try.prog 42 #[.string a0, .string a1] w fun e w' => e = .returned (.string r) ∧ Drawn0 w w' := by
  have H : ((stringslite_HasSuffix.f a0 a1).bind fun t107 => (if t107 = true then (if 0 ≤ (wrap64 ((a0.size : Int) - (a1.size : Int))) then (if (wrap64 ((a0.size : Int) - (a1.size : Int))) ≤ (a0.size : Int) then (some (a0.extract 0 ((wrap64 ((a0.size : Int) - (a1.size : Int))) : Int).toNat)) else (none)) else (none)) else (some a0))) = some r := h
  clear h
  replace H := Option.bind_eq_some_iff.mp H
  obtain ⟨t107, A30, H⟩ := H
  replace H : (if t107 = true then (if 0 ≤ (wrap64 ((a0.size : Int) - (a1.size : Int))) then (if (wrap64 ((a0.size : Int) - (a1.size : Int))) ≤ (a0.size : Int) then (some (a0.extract 0 ((wrap64 ((a0.size : Int) - (a1.size : Int))) : Int).toNat)) else (none)) else (none)) else (some a0)) = some r := H
  have A3 := Aside0.mk A30
  clear A30
  by_cases c4 : t107 = true
  · subst c4
    have H1 : (if 0 ≤ (wrap64 ((a0.size : Int) - (a1.size : Int))) then (if (wrap64 ((a0.size : Int) - (a1.size : Int))) ≤ (a0.size : Int) then (some (a0.extract 0 ((wrap64 ((a0.size : Int) - (a1.size : Int))) : Int).toNat)) else (none)) else (none)) = some r := by rw [if_pos rfl] at H; exact H
    clear H
    have H := H1
    clear H1
    obtain ⟨ji5, hji5⟩ : ∃ j_ : Int, (wrap64 ((a0.size : Int) - (a1.size : Int))) = j_ := ⟨_, rfl⟩
    replace H : (if 0 ≤ (ji5) then (if (ji5) ≤ (a0.size : Int) then (some (a0.extract 0 ((ji5) : Int).toNat)) else (none)) else (none)) = some r := by first | (rw [hji5] at H; exact H) | (simp only [hji5] at H ⊢; exact H)
    (try rw [hji5] at A3)
    have hji5w : (IntKind.i64.wrap ((a0.size : Int) - (a1.size : Int))) = ji5 := (i64_w _).trans hji5
    by_cases c6 : 0 ≤ (ji5)
    · rw [if_pos c6] at H
      have c6b0 := eq_true c6
      have c6b1 : decide (0 ≤ (ji5)) = true := decide_eq_true c6
      clear c6
      by_cases c7 : (ji5) ≤ (a0.size : Int)
      · rw [if_pos c7] at H
        have c7b0 := eq_true c7
        have c7b1 : decide ((ji5) ≤ (a0.size : Int)) = true := decide_eq_true c7
        clear c7
        obtain rfl := Option.some.inj H
        go_enter Try.func42, Try.ntmps42
        go_wp2_with (first | ((with_reducible refine gate_callee (f := 44) rfl ?_); refine goesL_ (some 7) rfl rfl Try.func44 (by kernel_rfl) rfl #[.string a0, .string a1] rfl (by (try simp only [List.map_toArray, List.map_cons, List.map_nil]); first | done | rfl | (simp only [List.length_drop, List.length_take]; rfl)) ?_; (with_reducible refine (stringslite_HasSuffix.calls a0 a1 true _ A3.out).mono ?_); rintro e w' ⟨rfl, ⟨nd, rfl⟩⟩; refine ⟨_, rfl, ?_⟩))
        go_ret
        exact ⟨by first | rfl | (simp; done) | (simp only [← hji5] <;> (first | rfl | simp)) | (simp [*]; done), by repeat (first | exact Drawn0.refl _ | apply Drawn0.step)⟩
      · rw [if_neg c7] at H
        exact absurd H (by simp)
    · rw [if_neg c6] at H
      exact absurd H (by simp)
  · replace c4 := Bool.eq_false_iff.mpr c4
    subst c4
    have H1 : (some a0) = some r := by rw [if_neg (show ¬ (false = true) by decide)] at H; exact H
    clear H
    have H := H1
    clear H1
    obtain rfl := Option.some.inj H
    go_enter Try.func42, Try.ntmps42
    go_wp2_with (first | ((with_reducible refine gate_callee (f := 44) rfl ?_); refine goesL_ (some 7) rfl rfl Try.func44 (by kernel_rfl) rfl #[.string a0, .string a1] rfl (by (try simp only [List.map_toArray, List.map_cons, List.map_nil]); first | done | rfl | (simp only [List.length_drop, List.length_take]; rfl)) ?_; (with_reducible refine (stringslite_HasSuffix.calls a0 a1 false _ A3.out).mono ?_); rintro e w' ⟨rfl, ⟨nd, rfl⟩⟩; refine ⟨_, rfl, ?_⟩))
    go_ret
    exact ⟨by first | rfl | (simp; done) | (simp [*]; done), by repeat (first | exact Drawn0.refl _ | apply Drawn0.step)⟩

/-! ### strings_TrimSuffix: function 38 -/
def strings_TrimSuffix.f (a0 : ByteArray) (a1 : ByteArray) : Option (ByteArray) := (stringslite_TrimSuffix.f a0 a1).bind fun t108 => (some t108)
set_option maxHeartbeats 8000000 in
set_option maxRecDepth 100000 in
theorem strings_TrimSuffix.calls (a0 : ByteArray) (a1 : ByteArray) (r : ByteArray) (w : World) (h : strings_TrimSuffix.f a0 a1 = some r) :
    Calls Try.prog 38 #[.string a0, .string a1] w fun e w' => e = .returned (.string r) ∧ Drawn0 w w' := by
  have H : ((stringslite_TrimSuffix.f a0 a1).bind fun t108 => (some t108)) = some r := h
  clear h
  replace H := Option.bind_eq_some_iff.mp H
  obtain ⟨t108, A30, H⟩ := H
  replace H : (some t108) = some r := H
  have A3 := Aside0.mk A30
  clear A30
  obtain rfl := Option.some.inj H
  go_enter Try.func38, Try.ntmps38
  go_wp2_with (first | ((with_reducible refine gate_callee (f := 42) rfl ?_); refine goesL_ (some 7) rfl rfl Try.func42 (by kernel_rfl) rfl #[.string a0, .string a1] rfl (by (try simp only [List.map_toArray, List.map_cons, List.map_nil]); first | done | rfl | (simp only [List.length_drop, List.length_take]; rfl)) ?_; (with_reducible refine (stringslite_TrimSuffix.calls a0 a1 t108 _ A3.out).mono ?_); rintro e w' ⟨rfl, ⟨nd, rfl⟩⟩; refine ⟨_, rfl, ?_⟩))
  go_ret
  exact ⟨by first | rfl | (simp; done) | (simp [*]; done), by repeat (first | exact Drawn0.refl _ | apply Drawn0.step)⟩

-- NOT PRINTED: function 29 (scanner_Context_bufferedSrc)

-- NOT PRINTED: function 15 (scanner_Context_existsBuffer)

-- NOT PRINTED: function 16 (scanner_Context_addOriginBuf)

-- NOT PRINTED: function 30 (scanner_Context_progress)

-- NOT PRINTED: function 17 (scanner_Scanner_progress)

-- NOT PRINTED: function 18 (scanner_Context_source)

-- NOT PRINTED: function 19 (scanner_Context_addToken)

-- NOT PRINTED: function 31 (token_ReservedTagKeywordMap)

-- NOT PRINTED: function 20 (token_Tag)

end Go.Proofs.Ytgidfhpcobpinaa.PFnPartTag
