-- PRINTED BY print.sh 35421559b90ae4d0a3588c463048766b98c2df88dd9212a6774a882060cdf62d: not written by this session
import Derived.Test.YtbicbdcbbeifhaaPFnHexReadx0
namespace Go.Proofs.Ytbicbdcbbeifhaa.PFnHexRead
open Go.RowKit Go.Proofs.YtbicbdcbbeifhaaW.PrintWords Go.Proofs.YtbicbdcbbeifhaaW.PrintLast Go.Proofs.YtbicbdcbbeifhaaW.PrintMore
attribute [local go_sem] max2_int min2_int max_two min_two max_three min_three max_four min_four   -- for this text's walks alone
set_option linter.unusedVariables false
set_option linter.unusedSimpArgs false

/-! ### spec_HexDigits: function 9 -/
mutual
def spec_HexDigits.j0 : Nat → Int → Int → Int → Bool → Option (ByteArray × Int)
  | 0, _, _, _, _ => none
  | k + 1, x0, x1, x2, x18 => if x18 = true then (some ((⟨#[]⟩ : ByteArray), 0)) else (spec_HexDigits.l0 k x0 x2 (⟨#[]⟩ : ByteArray) 0 (wrap64 (x1 - 1)))
def spec_HexDigits.l0 : Nat → Int → Int → ByteArray → Int → Int → Option (ByteArray × Int)
  | 0, _, _, _, _, _ => none
  | k + 1, x0, x2, x8, x9, x10 => if x10 ≥ 0 then (if 0 ≤ (wrap64 (4 * x10)) then (if 0 ≤ x10 then (if (Go.bits .and .u32 (shr .u32 x2 x10) 1) = 1 then (if 0 ≤ (wrap64 (Go.bits .and .u32 (shr .u32 x0 (wrap64 (4 * x10))) 15)) then (if (wrap64 (Go.bits .and .u32 (shr .u32 x0 (wrap64 (4 * x10))) 15)) ≤ (wrap64 ((wrap64 (Go.bits .and .u32 (shr .u32 x0 (wrap64 (4 * x10))) 15)) + 1)) then (if (wrap64 ((wrap64 (Go.bits .and .u32 (shr .u32 x0 (wrap64 (4 * x10))) 15)) + 1)) ≤ 16 then (if x8.size + ((⟨#[48, 49, 50, 51, 52, 53, 54, 55, 56, 57, 65, 66, 67, 68, 69, 70]⟩ : ByteArray).extract ((wrap64 (Go.bits .and .u32 (shr .u32 x0 (wrap64 (4 * x10))) 15)) : Int).toNat ((wrap64 ((wrap64 (Go.bits .and .u32 (shr .u32 x0 (wrap64 (4 * x10))) 15)) + 1)) : Int).toNat).size ≤ 9223372036854775807 then (spec_HexDigits.l0 k x0 x2 (x8 ++ ((⟨#[48, 49, 50, 51, 52, 53, 54, 55, 56, 57, 65, 66, 67, 68, 69, 70]⟩ : ByteArray).extract ((wrap64 (Go.bits .and .u32 (shr .u32 x0 (wrap64 (4 * x10))) 15)) : Int).toNat ((wrap64 ((wrap64 (Go.bits .and .u32 (shr .u32 x0 (wrap64 (4 * x10))) 15)) + 1)) : Int).toNat)) (wrap64 ((wrap64 (x9 * 16)) + (wrap64 (Go.bits .and .u32 (shr .u32 x0 (wrap64 (4 * x10))) 15)))) (wrap64 (x10 - 1))) else (none)) else (none)) else (none)) else (none)) else (if 0 ≤ (wrap64 (Go.bits .and .u32 (shr .u32 x0 (wrap64 (4 * x10))) 15)) then (if (wrap64 (Go.bits .and .u32 (shr .u32 x0 (wrap64 (4 * x10))) 15)) ≤ (wrap64 ((wrap64 (Go.bits .and .u32 (shr .u32 x0 (wrap64 (4 * x10))) 15)) + 1)) then (if (wrap64 ((wrap64 (Go.bits .and .u32 (shr .u32 x0 (wrap64 (4 * x10))) 15)) + 1)) ≤ 16 then (if x8.size + ((⟨#[48, 49, 50, 51, 52, 53, 54, 55, 56, 57, 97, 98, 99, 100, 101, 102]⟩ : ByteArray).extract ((wrap64 (Go.bits .and .u32 (shr .u32 x0 (wrap64 (4 * x10))) 15)) : Int).toNat ((wrap64 ((wrap64 (Go.bits .and .u32 (shr .u32 x0 (wrap64 (4 * x10))) 15)) + 1)) : Int).toNat).size ≤ 9223372036854775807 then (spec_HexDigits.l0 k x0 x2 (x8 ++ ((⟨#[48, 49, 50, 51, 52, 53, 54, 55, 56, 57, 97, 98, 99, 100, 101, 102]⟩ : ByteArray).extract ((wrap64 (Go.bits .and .u32 (shr .u32 x0 (wrap64 (4 * x10))) 15)) : Int).toNat ((wrap64 ((wrap64 (Go.bits .and .u32 (shr .u32 x0 (wrap64 (4 * x10))) 15)) + 1)) : Int).toNat)) (wrap64 ((wrap64 (x9 * 16)) + (wrap64 (Go.bits .and .u32 (shr .u32 x0 (wrap64 (4 * x10))) 15)))) (wrap64 (x10 - 1))) else (none)) else (none)) else (none)) else (none))) else (none)) else (none)) else (some (x8, x9))
end
def spec_HexDigits.f (k : Nat) (a0 : Int) (a1 : Int) (a2 : Int) : Option (ByteArray × Int) := if a1 < 1 then (spec_HexDigits.j0 k a0 a1 a2 true) else (spec_HexDigits.j0 k a0 a1 a2 (decide (a1 > 8)))
theorem spec_HexDigits.mono_l : ∀ k, (∀ y0 y1 y2 y3, LeO (spec_HexDigits.j0 k y0 y1 y2 y3) (spec_HexDigits.j0 (k + 1) y0 y1 y2 y3)) ∧ (∀ y0 y1 y2 y3 y4, LeO (spec_HexDigits.l0 k y0 y1 y2 y3 y4) (spec_HexDigits.l0 (k + 1) y0 y1 y2 y3 y4))
  | 0 => ⟨fun _ _ _ _ r h => by simp [spec_HexDigits.j0] at h, fun _ _ _ _ _ r h => by simp [spec_HexDigits.l0] at h⟩
  | k + 1 => by
    obtain ⟨ih0, ih1⟩ := spec_HexDigits.mono_l k
    refine ⟨?_, ?_⟩
    · intro y0 y1 y2 y3
      unfold spec_HexDigits.j0
      repeat' first
      | (with_reducible exact ih0 _ _ _ _)
      | (with_reducible exact ih1 _ _ _ _ _)
      | (with_reducible exact LeO.refl _)
      | (with_reducible exact LeO.none _)
      | (with_reducible refine LeO.ite ?_ ?_)
      | (with_reducible refine LeO.bind ?_ (fun _ => ?_))
      | exact ih0 _ _ _ _
      | exact ih1 _ _ _ _ _
      | exact LeO.none _
      | refine LeO.ite ?_ ?_
      | refine LeO.bind ?_ (fun _ => ?_)
    · intro y0 y1 y2 y3 y4
      unfold spec_HexDigits.l0
      repeat' first
      | (with_reducible exact ih0 _ _ _ _)
      | (with_reducible exact ih1 _ _ _ _ _)
      | (with_reducible exact LeO.refl _)
      | (with_reducible exact LeO.none _)
      | (with_reducible refine LeO.ite ?_ ?_)
      | (with_reducible refine LeO.bind ?_ (fun _ => ?_))
      | exact ih0 _ _ _ _
      | exact ih1 _ _ _ _ _
      | exact LeO.none _
      | refine LeO.ite ?_ ?_
      | refine LeO.bind ?_ (fun _ => ?_)
theorem spec_HexDigits.mono : ∀ a0 a1 a2 k, LeO (spec_HexDigits.f k a0 a1 a2) (spec_HexDigits.f (k + 1) a0 a1 a2) := by
  intro a0 a1 a2 k
  obtain ⟨ih0, ih1⟩ := spec_HexDigits.mono_l k
  unfold spec_HexDigits.f
  repeat' first
      | (with_reducible exact ih0 _ _ _ _)
      | (with_reducible exact ih1 _ _ _ _ _)
      | (with_reducible exact LeO.refl _)
      | (with_reducible exact LeO.none _)
      | (with_reducible refine LeO.ite ?_ ?_)
      | (with_reducible refine LeO.bind ?_ (fun _ => ?_))
      | exact ih0 _ _ _ _
      | exact ih1 _ _ _ _ _
      | exact LeO.none _
      | refine LeO.ite ?_ ?_
      | refine LeO.bind ?_ (fun _ => ?_)
set_option maxHeartbeats 8000000 in
set_option maxRecDepth 100000 in
theorem spec_HexDigits.calls (k : Nat) (a0 : Int) (a1 : Int) (a2 : Int) (r1 : ByteArray) (r2 : Int) (w : World) (h : spec_HexDigits.f k a0 a1 a2 = some (r1, r2)) :
    Calls Try.prog 9 #[.int .u32 a0, .int .i64 a1, .int .u32 a2] w fun e w' => e = .returned (.tuple #[.string r1, .int .i64 r2]) ∧ Drawn0 w w' := by
  have H : (if a1 < 1 then (spec_HexDigits.j0 k a0 a1 a2 true) else (spec_HexDigits.j0 k a0 a1 a2 (decide (a1 > 8)))) = some (r1, r2) := h
  clear h
  have HC4 := Aside0.mk H
  clear H
  go_enter Try.func9, Try.ntmps9
  go_upto_region 1 with (fail)
  go_cut [18] (fun v18 wc => ∃ (kq : Nat) (x18_3 : Bool), v18 = .bool x18_3 ∧ Aside0 (spec_HexDigits.j0 kq a0 a1 a2 x18_3 = some (r1, r2)) ∧ Aside0 (kq ≤ k) ∧ Drawn0 w wc)
  case first =>
    have H := HC4.out
    clear HC4
    by_cases c5 : a1 < 1
    · rw [if_pos c5] at H
      have c5b0 : decide (a1 < 1) = true := decide_eq_true c5
      clear c5
      (first | rw [c5b0] | (simp only [i64_w, i32_w]; rw [c5b0]) | skip)
      have H' := Aside0.mk H
      clear H
      go_wp2
      go_meet
      case rel => exact ⟨_, (true), (by first | rfl | (simp; done) | (simp [*]; done)), H', ⟨by first | omega | exact Nat.le_refl _⟩, by repeat (first | exact Drawn0.refl _ | apply Drawn0.step)⟩
    · rw [if_neg c5] at H
      have c5b0 : decide (a1 < 1) = false := decide_eq_false c5
      clear c5
      (first | rw [c5b0] | (simp only [i64_w, i32_w]; rw [c5b0]) | skip)
      have H' := Aside0.mk H
      clear H
      go_wp2
      go_meet
      case rel => exact ⟨_, (decide (a1 > 8)), (by first | rfl | (simp; done) | (simp [*]; done)), H', ⟨by first | omega | exact Nat.le_refl _⟩, by repeat (first | exact Drawn0.refl _ | apply Drawn0.step)⟩
  case rest =>
    clear HC4
    try clear p2
    try clear c5
    try clear c5b0
    obtain ⟨kq, x18_3, rfl, HA, HJ3, ⟨mc3, rfl⟩⟩ := hcut
    cases kq with
    | zero => exact absurd HA.out (by simp [spec_HexDigits.j0])
    | succ kj3 =>
      have H := HA.out
      clear HA
      simp only [spec_HexDigits.j0] at H
      by_cases c6 : x18_3 = true
      · subst c6
        have H1 : (some ((⟨#[]⟩ : ByteArray), 0)) = some (r1, r2) := by rw [if_pos rfl] at H; exact H
        clear H
        have H := H1
        clear H1
        simp only [Option.some.injEq, Prod.mk.injEq] at H
        obtain ⟨rfl, rfl⟩ := H
        go_wp2
        go_ret2
        exact ⟨by first | rfl | (simp; done) | (simp [*]; done), by repeat (first | exact Drawn0.refl _ | apply Drawn0.step)⟩
      · replace c6 := Bool.eq_false_iff.mpr c6
        subst c6
        have H1 : (spec_HexDigits.l0 kj3 a0 a2 (⟨#[]⟩ : ByteArray) 0 (wrap64 (a1 - 1))) = some (r1, r2) := by rw [if_neg (show ¬ (false = true) by decide)] at H; exact H
        clear H
        have H := H1
        clear H1
        have H' := Aside0.mk H
        clear H
        go_wp2
        go_loopg [8, 9, 10] kj3 (fun kq v8 v9 v10 w' => ∃ (x8_2 : ByteArray) (x9_2 : Int) (x10_2 : Int), v8 = .string x8_2 ∧ v9 = .int .i64 x9_2 ∧ v10 = .int .i64 x10_2 ∧ Aside0 (spec_HexDigits.l0 kq a0 a2 x8_2 x9_2 x10_2 = some (r1, r2)) ∧ Aside0 (kq ≤ kj3) ∧ Drawn0 w w')
        case atStart => exact ⟨((⟨#[]⟩ : ByteArray)), (0), (wrap64 (a1 - 1)), (by first | rfl | (simp; done) | (simp [*]; done)), (by first | rfl | (simp; done) | (simp [*]; done)), (by first | rfl | (simp; done) | (simp [*]; done)), H', ⟨Nat.le_refl _⟩, by repeat (first | exact Drawn0.refl _ | apply Drawn0.step)⟩
        case round =>
          clear H'
          try clear p2
          try clear c3
          try clear c5
          try clear c5b0
          try clear c6
          try clear p6
          try clear p2
          obtain ⟨x8_2, x9_2, x10_2, rfl, rfl, rfl, HA, HK2, ⟨m2, rfl⟩⟩ := hrel
          cases gk with
          | zero => exact absurd HA.out (by simp [spec_HexDigits.l0])
          | succ k2 =>
            have H := HA.out
            clear HA
            simp only [spec_HexDigits.l0] at H
            by_cases c7 : x10_2 ≥ 0
            · rw [if_pos c7] at H
              have c7b0 : decide (0 ≤ x10_2) = true := decide_eq_true c7
              clear c7
              obtain ⟨ji8, hji8⟩ : ∃ j_ : Int, (wrap64 (4 * x10_2)) = j_ := ⟨_, rfl⟩
              replace H : (if 0 ≤ (ji8) then (if 0 ≤ x10_2 then (if (Go.bits .and .u32 (shr .u32 a2 x10_2) 1) = 1 then (if 0 ≤ (wrap64 (Go.bits .and .u32 (shr .u32 a0 (ji8)) 15)) then (if (wrap64 (Go.bits .and .u32 (shr .u32 a0 (ji8)) 15)) ≤ (wrap64 ((wrap64 (Go.bits .and .u32 (shr .u32 a0 (ji8)) 15)) + 1)) then (if (wrap64 ((wrap64 (Go.bits .and .u32 (shr .u32 a0 (ji8)) 15)) + 1)) ≤ 16 then (if x8_2.size + ((⟨#[48, 49, 50, 51, 52, 53, 54, 55, 56, 57, 65, 66, 67, 68, 69, 70]⟩ : ByteArray).extract ((wrap64 (Go.bits .and .u32 (shr .u32 a0 (ji8)) 15)) : Int).toNat ((wrap64 ((wrap64 (Go.bits .and .u32 (shr .u32 a0 (ji8)) 15)) + 1)) : Int).toNat).size ≤ 9223372036854775807 then (spec_HexDigits.l0 k2 a0 a2 (x8_2 ++ ((⟨#[48, 49, 50, 51, 52, 53, 54, 55, 56, 57, 65, 66, 67, 68, 69, 70]⟩ : ByteArray).extract ((wrap64 (Go.bits .and .u32 (shr .u32 a0 (ji8)) 15)) : Int).toNat ((wrap64 ((wrap64 (Go.bits .and .u32 (shr .u32 a0 (ji8)) 15)) + 1)) : Int).toNat)) (wrap64 ((wrap64 (x9_2 * 16)) + (wrap64 (Go.bits .and .u32 (shr .u32 a0 (ji8)) 15)))) (wrap64 (x10_2 - 1))) else (none)) else (none)) else (none)) else (none)) else (if 0 ≤ (wrap64 (Go.bits .and .u32 (shr .u32 a0 (ji8)) 15)) then (if (wrap64 (Go.bits .and .u32 (shr .u32 a0 (ji8)) 15)) ≤ (wrap64 ((wrap64 (Go.bits .and .u32 (shr .u32 a0 (ji8)) 15)) + 1)) then (if (wrap64 ((wrap64 (Go.bits .and .u32 (shr .u32 a0 (ji8)) 15)) + 1)) ≤ 16 then (if x8_2.size + ((⟨#[48, 49, 50, 51, 52, 53, 54, 55, 56, 57, 97, 98, 99, 100, 101, 102]⟩ : ByteArray).extract ((wrap64 (Go.bits .and .u32 (shr .u32 a0 (ji8)) 15)) : Int).toNat ((wrap64 ((wrap64 (Go.bits .and .u32 (shr .u32 a0 (ji8)) 15)) + 1)) : Int).toNat).size ≤ 9223372036854775807 then (spec_HexDigits.l0 k2 a0 a2 (x8_2 ++ ((⟨#[48, 49, 50, 51, 52, 53, 54, 55, 56, 57, 97, 98, 99, 100, 101, 102]⟩ : ByteArray).extract ((wrap64 (Go.bits .and .u32 (shr .u32 a0 (ji8)) 15)) : Int).toNat ((wrap64 ((wrap64 (Go.bits .and .u32 (shr .u32 a0 (ji8)) 15)) + 1)) : Int).toNat)) (wrap64 ((wrap64 (x9_2 * 16)) + (wrap64 (Go.bits .and .u32 (shr .u32 a0 (ji8)) 15)))) (wrap64 (x10_2 - 1))) else (none)) else (none)) else (none)) else (none))) else (none)) else (none)) = some (r1, r2) := by first | (rw [hji8] at H; exact H) | (simp only [hji8] at H ⊢; exact H)
              have hji8w : (IntKind.i64.wrap (4 * x10_2)) = ji8 := (i64_w _).trans hji8
              by_cases c9 : 0 ≤ (ji8)
              · rw [if_pos c9] at H
                have c9b0 := eq_true c9
                have c9b1 : decide (0 ≤ (ji8)) = true := decide_eq_true c9
                clear c9
                obtain ⟨ji10, hji10⟩ : ∃ j_ : Int, (shr .u32 a0 (ji8)) = j_ := ⟨_, rfl⟩
                replace H : (if 0 ≤ x10_2 then (if (Go.bits .and .u32 (shr .u32 a2 x10_2) 1) = 1 then (if 0 ≤ (wrap64 (Go.bits .and .u32 (ji10) 15)) then (if (wrap64 (Go.bits .and .u32 (ji10) 15)) ≤ (wrap64 ((wrap64 (Go.bits .and .u32 (ji10) 15)) + 1)) then (if (wrap64 ((wrap64 (Go.bits .and .u32 (ji10) 15)) + 1)) ≤ 16 then (if x8_2.size + ((⟨#[48, 49, 50, 51, 52, 53, 54, 55, 56, 57, 65, 66, 67, 68, 69, 70]⟩ : ByteArray).extract ((wrap64 (Go.bits .and .u32 (ji10) 15)) : Int).toNat ((wrap64 ((wrap64 (Go.bits .and .u32 (ji10) 15)) + 1)) : Int).toNat).size ≤ 9223372036854775807 then (spec_HexDigits.l0 k2 a0 a2 (x8_2 ++ ((⟨#[48, 49, 50, 51, 52, 53, 54, 55, 56, 57, 65, 66, 67, 68, 69, 70]⟩ : ByteArray).extract ((wrap64 (Go.bits .and .u32 (ji10) 15)) : Int).toNat ((wrap64 ((wrap64 (Go.bits .and .u32 (ji10) 15)) + 1)) : Int).toNat)) (wrap64 ((wrap64 (x9_2 * 16)) + (wrap64 (Go.bits .and .u32 (ji10) 15)))) (wrap64 (x10_2 - 1))) else (none)) else (none)) else (none)) else (none)) else (if 0 ≤ (wrap64 (Go.bits .and .u32 (ji10) 15)) then (if (wrap64 (Go.bits .and .u32 (ji10) 15)) ≤ (wrap64 ((wrap64 (Go.bits .and .u32 (ji10) 15)) + 1)) then (if (wrap64 ((wrap64 (Go.bits .and .u32 (ji10) 15)) + 1)) ≤ 16 then (if x8_2.size + ((⟨#[48, 49, 50, 51, 52, 53, 54, 55, 56, 57, 97, 98, 99, 100, 101, 102]⟩ : ByteArray).extract ((wrap64 (Go.bits .and .u32 (ji10) 15)) : Int).toNat ((wrap64 ((wrap64 (Go.bits .and .u32 (ji10) 15)) + 1)) : Int).toNat).size ≤ 9223372036854775807 then (spec_HexDigits.l0 k2 a0 a2 (x8_2 ++ ((⟨#[48, 49, 50, 51, 52, 53, 54, 55, 56, 57, 97, 98, 99, 100, 101, 102]⟩ : ByteArray).extract ((wrap64 (Go.bits .and .u32 (ji10) 15)) : Int).toNat ((wrap64 ((wrap64 (Go.bits .and .u32 (ji10) 15)) + 1)) : Int).toNat)) (wrap64 ((wrap64 (x9_2 * 16)) + (wrap64 (Go.bits .and .u32 (ji10) 15)))) (wrap64 (x10_2 - 1))) else (none)) else (none)) else (none)) else (none))) else (none)) = some (r1, r2) := by first | (rw [hji10] at H; exact H) | (simp only [hji10] at H ⊢; exact H)
                have hji10_ : (a0 / 2 ^ min (ji8).toNat 32) = ji10 := hji10
                have hji10z : (ji8) ≤ 32 → (a0 / 2 ^ (ji8).toNat) = ji10 := shr_small hji10
                by_cases c11 : 0 ≤ x10_2
                · rw [if_pos c11] at H
                  have c11b0 := eq_true c11
                  have c11b1 : decide (0 ≤ x10_2) = true := decide_eq_true c11
                  clear c11
                  obtain ⟨ji12, hji12⟩ : ∃ j_ : Int, (shr .u32 a2 x10_2) = j_ := ⟨_, rfl⟩
                  replace H : (if (Go.bits .and .u32 (ji12) 1) = 1 then (if 0 ≤ (wrap64 (Go.bits .and .u32 (ji10) 15)) then (if (wrap64 (Go.bits .and .u32 (ji10) 15)) ≤ (wrap64 ((wrap64 (Go.bits .and .u32 (ji10) 15)) + 1)) then (if (wrap64 ((wrap64 (Go.bits .and .u32 (ji10) 15)) + 1)) ≤ 16 then (if x8_2.size + ((⟨#[48, 49, 50, 51, 52, 53, 54, 55, 56, 57, 65, 66, 67, 68, 69, 70]⟩ : ByteArray).extract ((wrap64 (Go.bits .and .u32 (ji10) 15)) : Int).toNat ((wrap64 ((wrap64 (Go.bits .and .u32 (ji10) 15)) + 1)) : Int).toNat).size ≤ 9223372036854775807 then (spec_HexDigits.l0 k2 a0 a2 (x8_2 ++ ((⟨#[48, 49, 50, 51, 52, 53, 54, 55, 56, 57, 65, 66, 67, 68, 69, 70]⟩ : ByteArray).extract ((wrap64 (Go.bits .and .u32 (ji10) 15)) : Int).toNat ((wrap64 ((wrap64 (Go.bits .and .u32 (ji10) 15)) + 1)) : Int).toNat)) (wrap64 ((wrap64 (x9_2 * 16)) + (wrap64 (Go.bits .and .u32 (ji10) 15)))) (wrap64 (x10_2 - 1))) else (none)) else (none)) else (none)) else (none)) else (if 0 ≤ (wrap64 (Go.bits .and .u32 (ji10) 15)) then (if (wrap64 (Go.bits .and .u32 (ji10) 15)) ≤ (wrap64 ((wrap64 (Go.bits .and .u32 (ji10) 15)) + 1)) then (if (wrap64 ((wrap64 (Go.bits .and .u32 (ji10) 15)) + 1)) ≤ 16 then (if x8_2.size + ((⟨#[48, 49, 50, 51, 52, 53, 54, 55, 56, 57, 97, 98, 99, 100, 101, 102]⟩ : ByteArray).extract ((wrap64 (Go.bits .and .u32 (ji10) 15)) : Int).toNat ((wrap64 ((wrap64 (Go.bits .and .u32 (ji10) 15)) + 1)) : Int).toNat).size ≤ 9223372036854775807 then (spec_HexDigits.l0 k2 a0 a2 (x8_2 ++ ((⟨#[48, 49, 50, 51, 52, 53, 54, 55, 56, 57, 97, 98, 99, 100, 101, 102]⟩ : ByteArray).extract ((wrap64 (Go.bits .and .u32 (ji10) 15)) : Int).toNat ((wrap64 ((wrap64 (Go.bits .and .u32 (ji10) 15)) + 1)) : Int).toNat)) (wrap64 ((wrap64 (x9_2 * 16)) + (wrap64 (Go.bits .and .u32 (ji10) 15)))) (wrap64 (x10_2 - 1))) else (none)) else (none)) else (none)) else (none))) = some (r1, r2) := by first | (rw [hji12] at H; exact H) | (simp only [hji12] at H ⊢; exact H)
                  have hji12_ : (a2 / 2 ^ min x10_2.toNat 32) = ji12 := hji12
                  have hji12z : x10_2 ≤ 32 → (a2 / 2 ^ x10_2.toNat) = ji12 := shr_small hji12
                  by_cases c13 : (Go.bits .and .u32 (ji12) 1) = 1
                  · rw [if_pos c13] at H
                    have c13b0 : ((Go.bits .and .u32 (ji12) 1) == 1) = true := beq_iff_eq.mpr c13
                    have c13b1 : ((Go.bits .and .u32 (ji12) 1) != 1) = false := bne_eq_false_iff_eq.mpr c13
                    clear c13
                    obtain ⟨ji14, hji14⟩ : ∃ j_ : Int, (wrap64 (Go.bits .and .u32 (ji10) 15)) = j_ := ⟨_, rfl⟩
                    replace H : (if 0 ≤ (ji14) then (if (ji14) ≤ (wrap64 ((ji14) + 1)) then (if (wrap64 ((ji14) + 1)) ≤ 16 then (if x8_2.size + ((⟨#[48, 49, 50, 51, 52, 53, 54, 55, 56, 57, 65, 66, 67, 68, 69, 70]⟩ : ByteArray).extract ((ji14) : Int).toNat ((wrap64 ((ji14) + 1)) : Int).toNat).size ≤ 9223372036854775807 then (spec_HexDigits.l0 k2 a0 a2 (x8_2 ++ ((⟨#[48, 49, 50, 51, 52, 53, 54, 55, 56, 57, 65, 66, 67, 68, 69, 70]⟩ : ByteArray).extract ((ji14) : Int).toNat ((wrap64 ((ji14) + 1)) : Int).toNat)) (wrap64 ((wrap64 (x9_2 * 16)) + (ji14))) (wrap64 (x10_2 - 1))) else (none)) else (none)) else (none)) else (none)) = some (r1, r2) := by first | (rw [hji14] at H; exact H) | (simp only [hji14] at H ⊢; exact H)
                    have hji14w : (IntKind.i64.wrap (Go.bits .and .u32 (ji10) 15)) = ji14 := (i64_w _).trans hji14
                    by_cases c15 : 0 ≤ (ji14)
                    · rw [if_pos c15] at H
                      have c15b0 := eq_true c15
                      have c15b1 : decide (0 ≤ (ji14)) = true := decide_eq_true c15
                      clear c15
                      by_cases c16 : (ji14) ≤ (wrap64 ((ji14) + 1))
                      · rw [if_pos c16] at H
                        have c16b0 := eq_true c16
                        have c16b1 : decide ((ji14) ≤ (wrap64 ((ji14) + 1))) = true := decide_eq_true c16
                        by_cases c17 : (wrap64 ((ji14) + 1)) ≤ 16
                        · rw [if_pos c17] at H
                          have c17b0 := eq_true c17
                          have c17b1 : decide ((wrap64 ((ji14) + 1)) ≤ 16) = true := decide_eq_true c17
                          by_cases c18 : x8_2.size + ((⟨#[48, 49, 50, 51, 52, 53, 54, 55, 56, 57, 65, 66, 67, 68, 69, 70]⟩ : ByteArray).extract ((ji14) : Int).toNat ((wrap64 ((ji14) + 1)) : Int).toNat).size ≤ 9223372036854775807
                          · rw [if_pos c18] at H
                            have c18b0 := eq_true c18
                            have c18b1 : decide (x8_2.size + ((⟨#[48, 49, 50, 51, 52, 53, 54, 55, 56, 57, 65, 66, 67, 68, 69, 70]⟩ : ByteArray).extract ((ji14) : Int).toNat ((wrap64 ((ji14) + 1)) : Int).toNat).size ≤ 9223372036854775807) = true := decide_eq_true c18
                            try have c18b2 : (9223372036854775807 < x8_2.size + ((⟨#[48, 49, 50, 51, 52, 53, 54, 55, 56, 57, 65, 66, 67, 68, 69, 70]⟩ : ByteArray).extract ((ji14) : Int).toNat ((wrap64 ((ji14) + 1)) : Int).toNat).size) = False := eq_false (Nat.not_lt.2 c18)
                            have H' := Aside0.mk H
                            clear H
                            go_wp2
                            go_roundg k2
                            case measure => have := HJ3.out; have := HK2.out; omega
                            case rel => exact ⟨(x8_2 ++ ((⟨#[48, 49, 50, 51, 52, 53, 54, 55, 56, 57, 65, 66, 67, 68, 69, 70]⟩ : ByteArray).extract ((ji14) : Int).toNat ((wrap64 ((ji14) + 1)) : Int).toNat)), (wrap64 ((wrap64 (x9_2 * 16)) + (ji14))), (wrap64 (x10_2 - 1)), (by first | rfl | (simp; done) | (simp only [← hji14] <;> (first | rfl | simp)) | (simp [*]; done)), (by first | rfl | (simp; done) | (simp only [← hji14] <;> (first | rfl | simp)) | (simp [*]; done)), (by first | rfl | (simp; done) | (simp [*]; done)), H', ⟨by have := HJ3.out; have := HK2.out; omega⟩, by repeat (first | exact Drawn0.refl _ | apply Drawn0.step)⟩
                          · rw [if_neg c18] at H
                            exact absurd H (by simp)
                        · rw [if_neg c17] at H
                          exact absurd H (by simp)
                      · rw [if_neg c16] at H
                        exact absurd H (by simp)
                    · rw [if_neg c15] at H
                      exact absurd H (by simp)
                  · rw [if_neg c13] at H
                    have c13b0 : ((Go.bits .and .u32 (ji12) 1) == 1) = false := beq_eq_false_iff_ne.mpr c13
                    have c13b1 : ((Go.bits .and .u32 (ji12) 1) != 1) = true := bne_iff_ne.mpr c13
                    obtain ⟨ji19, hji19⟩ : ∃ j_ : Int, (wrap64 (Go.bits .and .u32 (ji10) 15)) = j_ := ⟨_, rfl⟩
                    replace H : (if 0 ≤ (ji19) then (if (ji19) ≤ (wrap64 ((ji19) + 1)) then (if (wrap64 ((ji19) + 1)) ≤ 16 then (if x8_2.size + ((⟨#[48, 49, 50, 51, 52, 53, 54, 55, 56, 57, 97, 98, 99, 100, 101, 102]⟩ : ByteArray).extract ((ji19) : Int).toNat ((wrap64 ((ji19) + 1)) : Int).toNat).size ≤ 9223372036854775807 then (spec_HexDigits.l0 k2 a0 a2 (x8_2 ++ ((⟨#[48, 49, 50, 51, 52, 53, 54, 55, 56, 57, 97, 98, 99, 100, 101, 102]⟩ : ByteArray).extract ((ji19) : Int).toNat ((wrap64 ((ji19) + 1)) : Int).toNat)) (wrap64 ((wrap64 (x9_2 * 16)) + (ji19))) (wrap64 (x10_2 - 1))) else (none)) else (none)) else (none)) else (none)) = some (r1, r2) := by first | (rw [hji19] at H; exact H) | (simp only [hji19] at H ⊢; exact H)
                    have hji19w : (IntKind.i64.wrap (Go.bits .and .u32 (ji10) 15)) = ji19 := (i64_w _).trans hji19
                    by_cases c20 : 0 ≤ (ji19)
                    · rw [if_pos c20] at H
                      have c20b0 := eq_true c20
                      have c20b1 : decide (0 ≤ (ji19)) = true := decide_eq_true c20
                      clear c20
                      by_cases c21 : (ji19) ≤ (wrap64 ((ji19) + 1))
                      · rw [if_pos c21] at H
                        have c21b0 := eq_true c21
                        have c21b1 : decide ((ji19) ≤ (wrap64 ((ji19) + 1))) = true := decide_eq_true c21
                        by_cases c22 : (wrap64 ((ji19) + 1)) ≤ 16
                        · rw [if_pos c22] at H
                          have c22b0 := eq_true c22
                          have c22b1 : decide ((wrap64 ((ji19) + 1)) ≤ 16) = true := decide_eq_true c22
                          by_cases c23 : x8_2.size + ((⟨#[48, 49, 50, 51, 52, 53, 54, 55, 56, 57, 97, 98, 99, 100, 101, 102]⟩ : ByteArray).extract ((ji19) : Int).toNat ((wrap64 ((ji19) + 1)) : Int).toNat).size ≤ 9223372036854775807
                          · rw [if_pos c23] at H
                            have c23b0 := eq_true c23
                            have c23b1 : decide (x8_2.size + ((⟨#[48, 49, 50, 51, 52, 53, 54, 55, 56, 57, 97, 98, 99, 100, 101, 102]⟩ : ByteArray).extract ((ji19) : Int).toNat ((wrap64 ((ji19) + 1)) : Int).toNat).size ≤ 9223372036854775807) = true := decide_eq_true c23
                            try have c23b2 : (9223372036854775807 < x8_2.size + ((⟨#[48, 49, 50, 51, 52, 53, 54, 55, 56, 57, 97, 98, 99, 100, 101, 102]⟩ : ByteArray).extract ((ji19) : Int).toNat ((wrap64 ((ji19) + 1)) : Int).toNat).size) = False := eq_false (Nat.not_lt.2 c23)
                            have H' := Aside0.mk H
                            clear H
                            go_wp2
                            go_roundg k2
                            case measure => have := HJ3.out; have := HK2.out; omega
                            case rel => exact ⟨(x8_2 ++ ((⟨#[48, 49, 50, 51, 52, 53, 54, 55, 56, 57, 97, 98, 99, 100, 101, 102]⟩ : ByteArray).extract ((ji19) : Int).toNat ((wrap64 ((ji19) + 1)) : Int).toNat)), (wrap64 ((wrap64 (x9_2 * 16)) + (ji19))), (wrap64 (x10_2 - 1)), (by first | rfl | (simp; done) | (simp only [← hji19] <;> (first | rfl | simp)) | (simp [*]; done)), (by first | rfl | (simp; done) | (simp only [← hji19] <;> (first | rfl | simp)) | (simp [*]; done)), (by first | rfl | (simp; done) | (simp [*]; done)), H', ⟨by have := HJ3.out; have := HK2.out; omega⟩, by repeat (first | exact Drawn0.refl _ | apply Drawn0.step)⟩
                          · rw [if_neg c23] at H
                            exact absurd H (by simp)
                        · rw [if_neg c22] at H
                          exact absurd H (by simp)
                      · rw [if_neg c21] at H
                        exact absurd H (by simp)
                    · rw [if_neg c20] at H
                      exact absurd H (by simp)
                · rw [if_neg c11] at H
                  exact absurd H (by simp)
              · rw [if_neg c9] at H
                exact absurd H (by simp)
            · rw [if_neg c7] at H
              have c7b0 : decide (0 ≤ x10_2) = false := decide_eq_false c7
              clear c7
              simp only [Option.some.injEq, Prod.mk.injEq] at H
              obtain ⟨rfl, rfl⟩ := H
              go_wp2
              go_ret2
              exact ⟨by first | rfl | (simp; done) | (simp [*]; done), by repeat (first | exact Drawn0.refl _ | apply Drawn0.step)⟩

/-! ### scanner_hexToInt: function 38 -/
def scanner_hexToInt.j0 : Nat → Int → Bool → Option (Int)
  | 0, _, _ => none
  | k + 1, x0, x8 => if x8 = true then (some (wrap64 ((wrap64 ((wrap64 (x0)) - 65)) + 10))) else (if x0 ≥ 97 then (if x0 ≤ 102 then (some (wrap64 ((wrap64 ((wrap64 (x0)) - 97)) + 10))) else (some (wrap64 ((wrap64 (x0)) - 48)))) else (some (wrap64 ((wrap64 (x0)) - 48))))
def scanner_hexToInt.f (k : Nat) (a0 : Int) : Option (Int) := if a0 ≥ 65 then (scanner_hexToInt.j0 k a0 (decide (a0 ≤ 70))) else (scanner_hexToInt.j0 k a0 false)
theorem scanner_hexToInt.mono_l : ∀ k, (∀ y0 y1, LeO (scanner_hexToInt.j0 k y0 y1) (scanner_hexToInt.j0 (k + 1) y0 y1))
  | 0 => fun _ _ r h => by simp [scanner_hexToInt.j0] at h
  | k + 1 => by
    have ih0 := scanner_hexToInt.mono_l k
    · intro y0 y1
      unfold scanner_hexToInt.j0
      repeat' first
      | (with_reducible exact ih0 _ _)
      | (with_reducible exact LeO.refl _)
      | (with_reducible exact LeO.none _)
      | (with_reducible refine LeO.ite ?_ ?_)
      | (with_reducible refine LeO.bind ?_ (fun _ => ?_))
      | exact ih0 _ _
      | exact LeO.none _
      | refine LeO.ite ?_ ?_
      | refine LeO.bind ?_ (fun _ => ?_)
theorem scanner_hexToInt.mono : ∀ a0 k, LeO (scanner_hexToInt.f k a0) (scanner_hexToInt.f (k + 1) a0) := by
  intro a0 k
  have ih0 := scanner_hexToInt.mono_l k
  unfold scanner_hexToInt.f
  repeat' first
      | (with_reducible exact ih0 _ _)
      | (with_reducible exact LeO.refl _)
      | (with_reducible exact LeO.none _)
      | (with_reducible refine LeO.ite ?_ ?_)
      | (with_reducible refine LeO.bind ?_ (fun _ => ?_))
      | exact ih0 _ _
      | exact LeO.none _
      | refine LeO.ite ?_ ?_
      | refine LeO.bind ?_ (fun _ => ?_)
set_option maxHeartbeats 8000000 in
set_option maxRecDepth 100000 in
theorem scanner_hexToInt.calls (k : Nat) (a0 : Int) (r : Int) (w : World) (h : scanner_hexToInt.f k a0 = some r) :
    Calls Try.prog 38 #[.int .i32 a0] w fun e w' => e = .returned (.int .i64 r) ∧ Drawn0 w w' := by
  have H : (if a0 ≥ 65 then (scanner_hexToInt.j0 k a0 (decide (a0 ≤ 70))) else (scanner_hexToInt.j0 k a0 false)) = some r := h
  clear h
  have HC2 := Aside0.mk H
  clear H
  go_enter Try.func38, Try.ntmps38
  go_upto_region 1 with (fail)
  go_cut [8] (fun v8 wc => ∃ (kq : Nat) (x8_1 : Bool), v8 = .bool x8_1 ∧ Aside0 (scanner_hexToInt.j0 kq a0 x8_1 = some r) ∧ Aside0 (kq ≤ k) ∧ Drawn0 w wc)
  case first =>
    have H := HC2.out
    clear HC2
    by_cases c3 : a0 ≥ 65
    · rw [if_pos c3] at H
      have c3b0 : decide (65 ≤ a0) = true := decide_eq_true c3
      clear c3
      (first | rw [c3b0] | (simp only [i64_w, i32_w]; rw [c3b0]) | skip)
      have H' := Aside0.mk H
      clear H
      go_wp2
      go_meet
      case rel => exact ⟨_, (decide (a0 ≤ 70)), (by first | rfl | (simp; done) | (simp [*]; done)), H', ⟨by first | omega | exact Nat.le_refl _⟩, by repeat (first | exact Drawn0.refl _ | apply Drawn0.step)⟩
    · rw [if_neg c3] at H
      have c3b0 : decide (65 ≤ a0) = false := decide_eq_false c3
      clear c3
      (first | rw [c3b0] | (simp only [i64_w, i32_w]; rw [c3b0]) | skip)
      have H' := Aside0.mk H
      clear H
      go_wp2
      go_meet
      case rel => exact ⟨_, (false), (by first | rfl | (simp; done) | (simp [*]; done)), H', ⟨by first | omega | exact Nat.le_refl _⟩, by repeat (first | exact Drawn0.refl _ | apply Drawn0.step)⟩
  case rest =>
    clear HC2
    try clear p2
    try clear c3
    try clear c3b0
    obtain ⟨kq, x8_1, rfl, HA, HJ1, ⟨mc1, rfl⟩⟩ := hcut
    cases kq with
    | zero => exact absurd HA.out (by simp [scanner_hexToInt.j0])
    | succ kj1 =>
      have H := HA.out
      clear HA
      simp only [scanner_hexToInt.j0] at H
      by_cases c4 : x8_1 = true
      · subst c4
        have H1 : (some (wrap64 ((wrap64 ((wrap64 (a0)) - 65)) + 10))) = some r := by rw [if_pos rfl] at H; exact H
        clear H
        have H := H1
        clear H1
        obtain rfl := Option.some.inj H
        go_wp2
        go_ret
        exact ⟨by first | rfl | (simp; done) | (simp [*]; done), by repeat (first | exact Drawn0.refl _ | apply Drawn0.step)⟩
      · replace c4 := Bool.eq_false_iff.mpr c4
        subst c4
        have H1 : (if a0 ≥ 97 then (if a0 ≤ 102 then (some (wrap64 ((wrap64 ((wrap64 (a0)) - 97)) + 10))) else (some (wrap64 ((wrap64 (a0)) - 48)))) else (some (wrap64 ((wrap64 (a0)) - 48)))) = some r := by rw [if_neg (show ¬ (false = true) by decide)] at H; exact H
        clear H
        have H := H1
        clear H1
        by_cases c5 : a0 ≥ 97
        · rw [if_pos c5] at H
          have c5b0 : decide (97 ≤ a0) = true := decide_eq_true c5
          clear c5
          by_cases c6 : a0 ≤ 102
          · rw [if_pos c6] at H
            have c6b0 : decide (a0 ≤ 102) = true := decide_eq_true c6
            clear c6
            obtain rfl := Option.some.inj H
            go_wp2
            go_ret
            exact ⟨by first | rfl | (simp; done) | (simp [*]; done), by repeat (first | exact Drawn0.refl _ | apply Drawn0.step)⟩
          · rw [if_neg c6] at H
            have c6b0 : decide (a0 ≤ 102) = false := decide_eq_false c6
            clear c6
            obtain rfl := Option.some.inj H
            go_wp2
            go_ret
            exact ⟨by first | rfl | (simp; done) | (simp [*]; done), by repeat (first | exact Drawn0.refl _ | apply Drawn0.step)⟩
        · rw [if_neg c5] at H
          have c5b0 : decide (97 ≤ a0) = false := decide_eq_false c5
          clear c5
          obtain rfl := Option.some.inj H
          go_wp2
          go_ret
          exact ⟨by first | rfl | (simp; done) | (simp [*]; done), by repeat (first | exact Drawn0.refl _ | apply Drawn0.step)⟩

/-! ### scanner_hexRunesToInt: function 29 -/
def scanner_hexRunesToInt.l0 : Nat → List Int → Int → Int → Option (Int)
  | 0, _, _, _ => none
  | k + 1, x0, x3, x4 => if x4 < (x0.length : Int) then (if 0 ≤ x4 then ((scanner_hexToInt.f k (rd x0 x4)).bind fun t102 => (if 0 ≤ (IntKind.u64.wrap ((IntKind.u64.wrap (wrap64 ((wrap64 ((x0.length : Int) - x4)) - 1))) * 4)) then (scanner_hexRunesToInt.l0 k x0 (wrap64 (x3 + (shl .i64 t102 (IntKind.u64.wrap ((IntKind.u64.wrap (wrap64 ((wrap64 ((x0.length : Int) - x4)) - 1))) * 4))))) (wrap64 (x4 + 1))) else (none))) else (none)) else (some x3)
def scanner_hexRunesToInt.f (k : Nat) (l0 : List Int) : Option (Int) := scanner_hexRunesToInt.l0 k l0 0 0
theorem scanner_hexRunesToInt.mono_l : ∀ k, (∀ y0 y1 y2, LeO (scanner_hexRunesToInt.l0 k y0 y1 y2) (scanner_hexRunesToInt.l0 (k + 1) y0 y1 y2))
  | 0 => fun _ _ _ r h => by simp [scanner_hexRunesToInt.l0] at h
  | k + 1 => by
    have ih0 := scanner_hexRunesToInt.mono_l k
    · intro y0 y1 y2
      unfold scanner_hexRunesToInt.l0
      repeat' first
      | (with_reducible exact ih0 _ _ _)
      | (with_reducible exact scanner_hexToInt.mono _ _)
      | (with_reducible exact LeO.refl _)
      | (with_reducible exact LeO.none _)
      | (with_reducible refine LeO.ite ?_ ?_)
      | (with_reducible refine LeO.bind ?_ (fun _ => ?_))
      | exact ih0 _ _ _
      | exact scanner_hexToInt.mono _ _
      | exact LeO.none _
      | refine LeO.ite ?_ ?_
      | refine LeO.bind ?_ (fun _ => ?_)
theorem scanner_hexRunesToInt.mono : ∀ a0 k, LeO (scanner_hexRunesToInt.f k a0) (scanner_hexRunesToInt.f (k + 1) a0) := by
  intro a0 k
  have ih0 := scanner_hexRunesToInt.mono_l k
  unfold scanner_hexRunesToInt.f
  repeat' first
      | (with_reducible exact ih0 _ _ _)
      | (with_reducible exact scanner_hexToInt.mono _ _)
      | (with_reducible exact LeO.refl _)
      | (with_reducible exact LeO.none _)
      | (with_reducible refine LeO.ite ?_ ?_)
      | (with_reducible refine LeO.bind ?_ (fun _ => ?_))
      | exact ih0 _ _ _
      | exact scanner_hexToInt.mono _ _
      | exact LeO.none _
      | refine LeO.ite ?_ ?_
      | refine LeO.bind ?_ (fun _ => ?_)
set_option maxHeartbeats 8000000 in
set_option maxRecDepth 100000 in
theorem scanner_hexRunesToInt.calls (k : Nat) (A0 : Option Addr) (c0 : Nat) (l0 : List Int) (r : Int) (w : World) (hr0 : Kd.C (Kd.int .i32) w A0 l0.length l0) (hc0 : l0.length ≤ c0) (h : scanner_hexRunesToInt.f k l0 = some r) :
    Calls Try.prog 29 #[.slice A0 l0.length c0] w fun e w' => e = .returned (.int .i64 r) ∧ Drawn0 w w' := by
  have HR0 := Aside0.mk hr0
  have HC0 := Aside0.mk hc0
  clear hr0 hc0
  have H : (scanner_hexRunesToInt.l0 k l0 0 0) = some r := h
  clear h
  have H' := Aside0.mk H
  clear H
  go_enter Try.func29, Try.ntmps29
  go_wp2
  go_loopg [3, 4] k (fun kq v3 v4 w' => ∃ (x3_1 : Int) (x4_1 : Int), v3 = .int .i64 x3_1 ∧ v4 = .int .i64 x4_1 ∧ Aside0 (scanner_hexRunesToInt.l0 kq l0 x3_1 x4_1 = some r) ∧ Aside0 (kq ≤ k) ∧ Drawn0 w w')
  case atStart => exact ⟨(0), (0), (by first | rfl | (simp; done) | (simp [*]; done)), (by first | rfl | (simp; done) | (simp [*]; done)), H', ⟨Nat.le_refl _⟩, by repeat (first | exact Drawn0.refl _ | apply Drawn0.step)⟩
  case round =>
    clear H'
    obtain ⟨x3_1, x4_1, rfl, rfl, HA, HK1, ⟨m1, rfl⟩⟩ := hrel
    cases gk with
    | zero => exact absurd HA.out (by simp [scanner_hexRunesToInt.l0])
    | succ k1 =>
      have H := HA.out
      clear HA
      simp only [scanner_hexRunesToInt.l0] at H
      by_cases c2 : x4_1 < (l0.length : Int)
      · rw [if_pos c2] at H
        have c2b0 : decide (x4_1 < (l0.length : Int)) = true := decide_eq_true c2
        clear c2
        by_cases c3 : 0 ≤ x4_1
        · rw [if_pos c3] at H
          have c3b0 : decide (0 ≤ x4_1) = true := decide_eq_true c3
          clear c3
          replace H := Option.bind_eq_some_iff.mp H
          obtain ⟨t102, A40, H⟩ := H
          replace H : (if 0 ≤ (IntKind.u64.wrap ((IntKind.u64.wrap (wrap64 ((wrap64 ((l0.length : Int) - x4_1)) - 1))) * 4)) then (scanner_hexRunesToInt.l0 k1 l0 (wrap64 (x3_1 + (shl .i64 t102 (IntKind.u64.wrap ((IntKind.u64.wrap (wrap64 ((wrap64 ((l0.length : Int) - x4_1)) - 1))) * 4))))) (wrap64 (x4_1 + 1))) else (none)) = some r := H
          have A4 := Aside0.mk A40
          clear A40
          obtain ⟨ji5, hji5⟩ : ∃ j_ : Int, (IntKind.u64.wrap ((IntKind.u64.wrap (wrap64 ((wrap64 ((l0.length : Int) - x4_1)) - 1))) * 4)) = j_ := ⟨_, rfl⟩
          replace H : (if 0 ≤ (ji5) then (scanner_hexRunesToInt.l0 k1 l0 (wrap64 (x3_1 + (shl .i64 t102 (ji5)))) (wrap64 (x4_1 + 1))) else (none)) = some r := by first | (rw [hji5] at H; exact H) | (simp only [hji5] at H ⊢; exact H)
          (try rw [hji5] at A4)
          by_cases c6 : 0 ≤ (ji5)
          · rw [if_pos c6] at H
            have c6b0 := eq_true c6
            have c6b1 : decide (0 ≤ (ji5)) = true := decide_eq_true c6
            clear c6
            obtain ⟨ji7, hji7⟩ : ∃ j_ : Int, (shl .i64 t102 (ji5)) = j_ := ⟨_, rfl⟩
            replace H : (scanner_hexRunesToInt.l0 k1 l0 (wrap64 (x3_1 + (ji7))) (wrap64 (x4_1 + 1))) = some r := by first | (rw [hji7] at H; exact H) | (simp only [hji7] at H ⊢; exact H)
            (try rw [hji7] at A4)
            have hji7_ : (IntKind.i64.wrap (t102 * 2 ^ min (ji5).toNat 64)) = ji7 := hji7
            have hji7z : (ji5) ≤ 64 → (IntKind.i64.wrap (t102 * 2 ^ (ji5).toNat)) = ji7 := shl_small hji7
            have hji7y : (wrap64 (t102 * 2 ^ min (ji5).toNat 64)) = ji7 := (i64_w _).symm.trans hji7_
            have hji7x : (ji5) ≤ 64 → (wrap64 (t102 * 2 ^ (ji5).toNat)) = ji7 := fun h_ => (i64_w _).symm.trans (hji7z h_)
            have H' := Aside0.mk H
            clear H
            have p101 : 0 ≤ (x4_1 : Int) := of_decide_eq_true (by first | (with_reducible assumption) | assumption)
            have q101 : x4_1 < (l0.length : Int) := of_decide_eq_true (by first | (with_reducible assumption) | assumption)
            obtain ⟨ad101, e101, hx101_0⟩ := Kd.at_int HR0.out x4_1 p101 q101
            cases e101
            replace p101 := eq_true p101
            replace q101 := eq_true q101
            go_wp2_with (first | ((with_reducible refine gate_callee (f := 38) rfl ?_); refine goesL_ (some 16) rfl rfl Try.func38 (by kernel_rfl) rfl #[.int .i32 (rd l0 x4_1)] rfl (by (try simp only [List.map_toArray, List.map_cons, List.map_nil]); first | done | rfl | (simp only [List.length_drop, List.length_take]; rfl)) ?_; (with_reducible refine (scanner_hexToInt.calls k1 (rd l0 x4_1) t102 _ A4.out).mono ?_); rintro e w' ⟨rfl, ⟨nd, rfl⟩⟩; refine ⟨_, rfl, ?_⟩))
            go_roundg k1
            case measure => have := HK1.out; omega
            case rel => exact ⟨(wrap64 (x3_1 + (ji7))), (wrap64 (x4_1 + 1)), (by first | rfl | (simp; done) | (simp only [← hji7] <;> (first | rfl | simp)) | (simp [*]; done)), (by first | rfl | (simp; done) | (simp [*]; done)), H', ⟨by have := HK1.out; omega⟩, by repeat (first | exact Drawn0.refl _ | apply Drawn0.step)⟩
          · rw [if_neg c6] at H
            exact absurd H (by simp)
        · rw [if_neg c3] at H
          exact absurd H (by simp)
      · rw [if_neg c2] at H
        have c2b0 : decide (x4_1 < (l0.length : Int)) = false := decide_eq_false c2
        clear c2
        obtain rfl := Option.some.inj H
        go_wp2
        go_ret
        exact ⟨by first | rfl | (simp; done) | (simp [*]; done), by repeat (first | exact Drawn0.refl _ | apply Drawn0.step)⟩

-- NOT PRINTED: function 20 (scanner_ZzHex)

-- NOT PRINTED: function 10 (impl_Hex)

-- NOT PRINTED: function 3 (laws_FnHexRead)

end Go.Proofs.Ytbicbdcbbeifhaa.PFnHexRead
