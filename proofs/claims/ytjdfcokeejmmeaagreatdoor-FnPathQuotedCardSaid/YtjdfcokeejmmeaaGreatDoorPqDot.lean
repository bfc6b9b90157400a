/- Walks of FnPathQuoted: a step behind a point, between quotes. -/
import Derived.Test.YtjdfcokeejmmeaaGreatDoorPqRead
namespace Go.Proofs.YtjdfcokeejmmeaaGreatDoor.PqW
open Go.RowKit Go.Proofs.YtjdfcokeejmmeaaGreatDoorW.PrintWords Go.Proofs.YtjdfcokeejmmeaaGreatDoorW.PrintLast Go.Proofs.YtjdfcokeejmmeaaGreatDoorW.PrintMore
attribute [local go_sem ↓] Go.wp_at_zero Go.wp_at_succ
set_option linter.unusedSimpArgs false
set_option linter.unusedVariables false

theorem Qt.two {R K : List Int} (h : Qt R K) : R[2]? = some 39 := by
  rw [h.eq, List.append_assoc, List.getElem?_append_left (by simp)]
  rfl

set_option maxRecDepth 100000 in
set_option maxHeartbeats 2000000 in
theorem dot_any {b r s g c : Nat} {w : World} {R K : List Int} {name : ByteArray} (hb : Bd w b r s (.iface 45 (.pointer (some ⟨r, 0, none⟩))) .nilIface) (hR : Rn w g R) (hQ : Qt R K) (hc : R.length ≤ c) (hc' : c ≤ 9223372036854775807)
    (hcv : ∀ (W : World) (n : Nat), Rn W g R → (convert 56 9 (.slice (some ⟨g, 3, none⟩) K.length n)).run Tryz.prog W = .ok (.string name) W) :
    Calls Tryz.prog 19 #[.pointer (some ⟨b, 0, none⟩), .slice (some ⟨g, 0, none⟩) (K.length + 4) c, .int .i64 1] w (Quoted b r s g (K.length + 4) c name w) := by
  have c0 := blk_cell hb.b 0
  have c1 := blk_cell hb.b 1
  simp at c0 c1
  have HC := Aside0.mk (quoted_any hb hR hQ hc hc' hcv)
  have cx := hR 2 39 hQ.two
  have hl := hQ.length
  have hpos := hQ.pos
  have hlen := hQ.len
  clear hb hR hQ hcv
  go_enter Tryz.func19, Tryz.ntmps19
  go_wp2
  go_step3
  go_wp2_with fail
  refine HC.out.mono ?_
  rintro e w2 ⟨rfl, hch, hbl⟩
  have HF : Aside0 ((∃ sel s2, Ch w2 b r s sel s2 name) ∧ ∀ B, B ≤ b → B ≤ s → B ≤ w.heap.size → Below B w w2) := ⟨hch, hbl⟩
  clear hch hbl
  go_wp2_with fail
  rw [Exit.noGoto_ret]
  refine bodyPost_ret (v := .tuple #[.pointer (some ⟨b, 0, none⟩), .slice (some ⟨g, 0, none⟩) (K.length + 4) c, .int .i64 (K.length + 4), .nilIface]) (by simp [results, Tryz.results19, go_sem]) rfl ⟨by simp, HF.out⟩

end Go.Proofs.YtjdfcokeejmmeaaGreatDoor.PqW
