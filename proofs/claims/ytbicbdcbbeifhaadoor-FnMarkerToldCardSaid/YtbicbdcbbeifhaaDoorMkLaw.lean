/- Walks of FnMarkerTold: the texts with rows, and the law. -/
import Derived.Test.YtbicbdcbbeifhaaDoorMkWalk
namespace Go.Proofs.YtbicbdcbbeifhaaDoor.MkW
open Go.RowKit Go.Proofs.YtbicbdcbbeifhaaDoor.PFnMarkerTold Go.Proofs.YtbicbdcbbeifhaaDoorW.PrintWords Go.Proofs.YtbicbdcbbeifhaaDoorW.PrintLast Go.Proofs.YtbicbdcbbeifhaaDoorW.PrintMore
open Go.Proofs.YtbicbdcbbeifhaaDoor.MkP Go.Proofs.YtbicbdcbbeifhaaDoor.Rn
set_option linter.unusedSimpArgs false
set_option linter.unusedVariables false

set_option maxRecDepth 100000 in
set_option maxHeartbeats 400000 in
theorem rows_any (s : ByteArray) (w : World) (hz : s.size ≤ 2147483647) (hT : Lib.Utf8Tabs 0 1 w) :
    Calls Tryd.prog 4 #[.string s] w fun e w' => (∃ b, e = .returned (.bool b) ∧ (b = true → s.size ≤ 65536 ∧ ∀ r ∈ runesAt s 0, r ≠ 13)) ∧ Below w.heap.size w w' := by
  have HR := Aside0.mk (scRunes_any s w hz hT)
  clear hT
  go_enter Tryd.func4, Tryd.ntmps4
  go_wp2_with fail
  refine HR.out.mono ?_
  rintro e w' ⟨he, hb⟩
  have HB := Aside0.mk hb
  clear hb HR
  rcases he with rfl | ⟨hs, b, cap, rfl, hC, hcap⟩
  · go_wp2
    go_ret
    exact ⟨⟨false, rfl, fun h => by cases h⟩, HB.out⟩
  · have hlen : (runesAt s 0).length ≤ 2147483647 := by have := runesAt_length s 0; omega
    obtain ⟨k, r, hk, h13⟩ := scAll_told (runesAt s 0) hlen
    have HK := Aside0.mk hk
    have H13 := Aside0.mk h13
    have HC := Aside0.mk hC
    have HS := Aside0.mk hs
    clear hk h13 hC
    obtain ⟨l, hl⟩ : ∃ l, runesAt s 0 = l := ⟨_, rfl⟩
    have HL := Aside0.mk hl
    rw [hl] at HC hcap HK H13 hlen
    rw [hl]
    clear hl
    go_wp2_with fail
    refine (spec_scAll.calls k _ _ l true r _ HC.out hcap HK.out).mono ?_
    rintro e w1 ⟨rfl, ⟨nd, rfl⟩⟩
    go_wp2
    go_ret
    exact ⟨⟨r, rfl, fun h => ⟨HS.out, by rw [HL.out]; exact H13.out h⟩⟩, below_drewN0 HB.out nd⟩

set_option maxRecDepth 100000 in
set_option maxHeartbeats 400000 in
theorem law_any (s : ByteArray) (w : World) (w0 : s.size ≤ 9223372036854775807) (hT : Lib.Utf8Tabs 0 1 w) :
    Calls Tryd.prog 3 #[.string s] w fun e w' => e = .returned (.bool true) ∧ Below w.heap.size w w' := by
  by_cases hs : s.size ≤ 2147483647
  · have HR := Aside0.mk (rows_any s w hs hT)
    have HT := Aside0.mk hT
    clear hT
    go_enter Tryd.func3, Tryd.ntmps3
    go_wp2_with fail
    refine HR.out.mono ?_
    rintro e w1 ⟨⟨b, rfl, hb⟩, hb1⟩
    have HB1 := Aside0.mk hb1
    clear hb1
    cases b
    · go_wp2_with fail
      go_ret
      exact ⟨rfl, HB1.out⟩
    · obtain ⟨hz, h13⟩ := hb rfl
      have HM := Aside0.mk fun (wx : World) (h : Below w.heap.size w wx) => marker_any s wx hz (Utf8Tabs_below HT.out h)
      obtain ⟨k, hk⟩ := told s h13
      have HK := Aside0.mk hk
      clear hk h13 hb hz
      generalize found (runesAt s 0) = r at *
      go_wp2_with fail
      refine (HM.out _ HB1.out).mono ?_
      rintro e w2 ⟨rfl, hb2⟩
      have HB2 := Aside0.mk (below_then HB1.out HB1.out.size hb2)
      clear hb2
      go_wp2_with fail
      refine (spec_Marked.calls k s r _ HK.out).mono ?_
      rintro e w3 ⟨rfl, ⟨nd, rfl⟩⟩
      go_wp2
      go_ret
      exact ⟨by simp, below_drewN0 HB2.out nd⟩
  · clear hT
    go_enter Tryd.func3, Tryd.ntmps3
    go_wp2_with fail
    go_ret
    exact ⟨rfl, Below.refl _ _⟩

end Go.Proofs.YtbicbdcbbeifhaaDoor.MkW
