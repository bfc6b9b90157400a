/- Walks of FnPathQuoted: a path's text, told again. -/
import Derived.Test.YtjdfcokeejmmeaaGreatDoorPqText
namespace Go.Proofs.YtjdfcokeejmmeaaGreatDoor.PqW
open Go.RowKit Go.Proofs.YtjdfcokeejmmeaaGreatDoor.PFnPathQuoted Go.Proofs.YtjdfcokeejmmeaaGreatDoorW.PrintWords Go.Proofs.YtjdfcokeejmmeaaGreatDoorW.PrintLast Go.Proofs.YtjdfcokeejmmeaaGreatDoorW.PrintMore
open Go.Proofs.YtjdfcokeejmmeaaGreatDoor.PqP Go.Proofs.YtjdfcokeejmmeaaGreatDoor.Rn
attribute [local go_sem ↓] Go.wp_at_zero Go.wp_at_succ
set_option linter.unusedSimpArgs false
set_option linter.unusedVariables false

theorem key_norm {K : ByteArray} (h : Key K) : Norm K (qk K) := by
  have hz := h.le
  obtain ⟨k3, h3⟩ := replace_none K 39 ⟨#[92, 39]⟩ (by omega) (key_39 h)
  by_cases hd : (46 : UInt8) ∈ K.data.toList
  · obtain ⟨k1, h1⟩ := contains_yes K 46 (by omega) hd
    exact norm_plain K k1 0 k3 true (by omega) (key_prefix h) h1 (fun e => by cases e) h3
  · obtain ⟨k1, h1⟩ := contains_no K 46 (by omega) hd
    have hs : (42 : UInt8) ∈ K.data.toList := h.sign.resolve_left hd
    obtain ⟨k2, h2⟩ := contains_yes K 42 (by omega) hs
    exact norm_plain K k1 k2 k3 false (by omega) (key_prefix h) h1 (fun _ => h2) h3
theorem quoted_norm {K : ByteArray} (h : Key K) : Norm (qk K) (qk K) := norm_quoted (qk K) (quoted_prefix K) (quoted_suffix K (by have := h.le; omega))

set_option maxRecDepth 100000 in
set_option maxHeartbeats 1000000 in
theorem text_any {K : ByteArray} (h : Key K) (w : World) : Calls Tryz.prog 6 #[.string (dq K)] w (Texted (⟨#[36]⟩ ++ (⟨#[46]⟩ ++ qk K)) w) := by
  have hmf : ∀ (fn : Fn) (first cap : Array Value) (w : World), (Instr.makeFunc fn first cap).run Tryz.prog w = .ok (.func fn first cap) w := fun _ _ _ _ => rfl
  have HN := Aside0.mk (key_norm h)
  have HZ : Aside0 ((qk K).size ≤ 900) := ⟨by rw [quoted_size]; have := h.le; omega⟩
  have HP := Aside0.mk (read_any h ((w.alloc (.cells #[.string ⟨#[]⟩] 9)).alloc (.cells zero6 26)))
  obtain ⟨t, ht⟩ : ∃ t, (⟨#[36]⟩ ++ (⟨#[46]⟩ ++ qk K) : ByteArray) = t := ⟨_, rfl⟩
  rw [ht]
  have HT := Aside0.mk ht
  obtain ⟨T, hT⟩ : ∃ T, dq K = T := ⟨_, rfl⟩
  rw [hT] at HP ⊢
  have P2 := Aside0.mk (blk_alloc (heap_alloc_new w (.cells #[.string ⟨#[]⟩] 9)) (.cells zero6 26))
  have P3 : Aside0 (((w.alloc (.cells #[.string ⟨#[]⟩] 9)).alloc (.cells zero6 26)).heap[w.heap.size + 1]? = some (.cells zero6 26 (0, 0))) := ⟨blk_top (by simp)⟩
  have HB1 : Aside0 (Below w.heap.size w ((w.alloc (.cells #[.string ⟨#[]⟩] 9)).alloc (.cells zero6 26))) := ⟨below_alloc (below_alloc (Below.refl _ _) _) _⟩
  clear ht hT h
  go_enter_defers Tryz.func6, Tryz.ntmps6
  go_wp2_with fail
  refine HP.out.mono ?_
  rintro e w2 ⟨p, b, r, s, sel, s2, rfl, hp, hch, hbel⟩
  have hs := pathstr_any hp hch HN.out HZ.out
  rw [HT.out] at hs
  have HS := Aside0.mk hs
  clear hs
  have Q2 := Aside0.mk (blk_below P2.out hbel)
  have Q3 := Aside0.mk (blk_below P3.out hbel)
  have HB2 : Aside0 (Below w.heap.size w w2) := ⟨below_then HB1.out HB1.out.size hbel⟩
  clear hp hch hbel HP P2 P3
  go_wp2_with fail
  refine HS.out.mono ?_
  rintro e w3 ⟨rfl, hb3⟩
  have R2 := Aside0.mk (blk_below Q2.out hb3)
  have R3 := Aside0.mk (blk_below Q3.out hb3)
  have HB3 : Aside0 (Below w.heap.size w w3) := ⟨below_then HB2.out HB2.out.size hb3⟩
  have k2 := blk_cell R2.out 0
  have f2 := blk_frozen R2.out 0
  have k30 := blk_cell R3.out 0
  have k31 := blk_cell R3.out 1
  have k32 := blk_cell R3.out 2
  have k33 := blk_cell R3.out 3
  have k34 := blk_cell R3.out 4
  have k35 := blk_cell R3.out 5
  have f3 := fun i : Nat => blk_frozen R3.out i
  simp [zero6] at k2 k30 k31 k32 k33 k34 k35
  clear hb3
  go_wp2_with fail
  have hT := texted_block (t := t) R2.out R3.out
  refine close6 hT.1 hT.2 ?_ rfl rfl
  repeat (with_reducible refine below_set ?_ (by omega))
  exact HB3.out

end Go.Proofs.YtjdfcokeejmmeaaGreatDoor.PqW
