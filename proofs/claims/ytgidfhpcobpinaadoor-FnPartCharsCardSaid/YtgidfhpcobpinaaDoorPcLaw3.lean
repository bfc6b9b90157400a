/- The walk of FnPartChars: the law, for all its arguments. -/
import Derived.Test.YtgidfhpcobpinaaDoorPcLaw2
namespace Go.Proofs.YtgidfhpcobpinaaDoor.PcW
open Go.RowKit Go.Proofs.YtgidfhpcobpinaaDoor.PFnPartChars Go.Proofs.YtgidfhpcobpinaaDoorW.PrintWords Go.Proofs.YtgidfhpcobpinaaDoorW.PrintLast Go.Proofs.YtgidfhpcobpinaaDoorW.PrintMore
open Go.Proofs.YtgidfhpcobpinaaDoor.PcP Go.Proofs.YtgidfhpcobpinaaDoor.Rn Go.Proofs.YtgidfhpcobpinaaDoor.AddM
set_option linter.unusedSimpArgs false
set_option linter.unusedVariables false

set_option maxRecDepth 100000 in
set_option maxHeartbeats 400000 in
theorem law_unfit (A : Option Addr) (c : Nat) (ss : List ByteArray) (a : Int) (w : World) (hC : Kd.C Kd.string w A ss.length ss) (hcap : ss.length ≤ c) (m : Nat) (hm : laws_zzFits2.f m ss = some false) :
    Calls Tryd.prog 3 #[.slice A ss.length c, .int .i64 a] w fun e w' => e = .returned (.bool true) ∧ Below w.heap.size w w' := by
  have HFT := Aside0.mk (laws_zzFits2.calls m A c ss false w hC hcap hm)
  clear hm hC
  go_enter Tryd.func3, Tryd.ntmps3
  go_wp2_with fail
  refine HFT.out.mono ?_
  rintro e wf ⟨rfl, ⟨nd, rfl⟩⟩
  go_wp2_with fail
  go_ret
  exact ⟨rfl, pw_below_drewN (Below.refl w.heap.size w) nd⟩

set_option maxRecDepth 100000 in
set_option maxHeartbeats 400000 in
theorem law_out (A : Option Addr) (c : Nat) (ss : List ByteArray) (a : Int) (w : World) (hC : Kd.C Kd.string w A ss.length ss) (hcap : ss.length ≤ c) (m : Nat) (hm : laws_zzFits2.f m ss = some true) (hl : ss.length ≤ 2147483647) (h : 100 < ss.length ∨ a < 0 ∨ (ss.length : Int) < a) :
    Calls Tryd.prog 3 #[.slice A ss.length c, .int .i64 a] w fun e w' => e = .returned (.bool true) ∧ Below w.heap.size w w' := by
  have HFT := Aside0.mk (laws_zzFits2.calls m A c ss true w hC hcap hm)
  clear hm hC
  by_cases h1 : 100 < ss.length
  · go_enter Tryd.func3, Tryd.ntmps3
    go_wp2_with fail
    refine HFT.out.mono ?_
    rintro e wf ⟨rfl, ⟨nd, rfl⟩⟩
    have HB := Aside0.mk (pw_below_drewN (Below.refl w.heap.size w) nd)
    generalize w.drewN nd = wf at *
    go_wp2_with fail
    go_ret
    exact ⟨rfl, HB.out⟩
  · by_cases h2 : a < 0
    · go_enter Tryd.func3, Tryd.ntmps3
      go_wp2_with fail
      refine HFT.out.mono ?_
      rintro e wf ⟨rfl, ⟨nd, rfl⟩⟩
      have HB := Aside0.mk (pw_below_drewN (Below.refl w.heap.size w) nd)
      generalize w.drewN nd = wf at *
      go_wp2_with fail
      go_ret
      exact ⟨rfl, HB.out⟩
    · have h3 : (ss.length : Int) < a := by omega
      go_enter Tryd.func3, Tryd.ntmps3
      go_wp2_with fail
      refine HFT.out.mono ?_
      rintro e wf ⟨rfl, ⟨nd, rfl⟩⟩
      have HB := Aside0.mk (pw_below_drewN (Below.refl w.heap.size w) nd)
      generalize w.drewN nd = wf at *
      go_wp2_with fail
      go_ret
      exact ⟨rfl, HB.out⟩

/-- The slice of texts, as the row reads it. -/
def IsTexts (w : World) (a : Option Addr) (len cap : Nat) (ss : List ByteArray) : Prop :=
  (a = none ∧ len = 0 ∧ cap = 0 ∧ ss = []) ∨
  ∃ x, a = some x ∧ len ≤ cap ∧ cap ≤ maxLen ∧ ss.length = cap ∧ (∀ i, i < ss.length → w.cell? (x.add i) = some (.string (ss.getD i ByteArray.empty)))

theorem texts_C {w : World} {a : Option Addr} {len cap : Nat} {ss : List ByteArray} (h : IsTexts w a len cap ss) : len ≤ cap ∧ ∃ xs : List ByteArray, xs.length = len ∧ Kd.C Kd.string w a xs.length xs := by
  rcases h with ⟨rfl, rfl, rfl, rfl⟩ | ⟨x, rfl, h1, h2, h3, h4⟩
  · exact ⟨Nat.le_refl _, [], rfl, ⟨rfl, by simp, fun h => by simp at h⟩⟩
  · refine ⟨h1, ss.take len, by rw [List.length_take]; omega, ⟨rfl, by rw [List.length_take]; unfold maxLen at h2; omega, fun _ => ⟨x, rfl, fun j p hj => ⟨[.string p], rfl, rfl, fun i u hi => ?_⟩⟩⟩⟩
    match i, hi with
    | 0, hi =>
      simp only [List.getElem?_cons_zero, Option.some.injEq] at hi
      subst hi
      have hj2 := hj
      rw [List.getElem?_take] at hj2
      split at hj2
      · obtain ⟨hlt, he⟩ := List.getElem?_eq_some_iff.1 hj2
        have := h4 j hlt
        rw [List.getD_eq_getElem?_getD, hj2] at this
        show w.cell? (x.add (j * 1 + 0)) = _
        rw [show j * 1 + 0 = j from by omega]
        exact this
      · cases hj2

/-- The law, for all its arguments. -/
theorem law_any (a0 : Option Addr) (len0 cap0 : Nat) (z0 : List ByteArray) (a1 : Int) (w : World) (w0 : IsTexts w a0 len0 cap0 z0) (hT : Lib.Utf8Tabs 3 4 w) :
    Calls Tryd.prog 3 #[.slice a0 len0 cap0, .int .i64 a1] w fun e w' => e = .returned (.bool true) ∧ Below w.heap.size w w' := by
  obtain ⟨hc, ss, rfl, hC⟩ := texts_C w0
  obtain ⟨m, b, hm, hb⟩ := fits_told ss
  cases b
  · exact law_unfit a0 cap0 ss a1 w hC hc m hm
  · obtain ⟨hl, hz⟩ := hb rfl
    by_cases h : 100 < ss.length ∨ a1 < 0 ∨ (ss.length : Int) < a1
    · exact law_out a0 cap0 ss a1 w hC hc m hm hl h
    · obtain ⟨k, rfl⟩ := Int.eq_ofNat_of_zero_le (by omega : 0 ≤ a1)
      exact law_in a0 cap0 ss k w hC hc ⟨m, hm⟩ hz (by omega) (by omega) hT

end Go.Proofs.YtgidfhpcobpinaaDoor.PcW
