/- FnPathQuoted: the law's walk. -/
import Derived.Test.YtjdfcokeejmmeaaGreatDoorPqEnd
namespace Go.Proofs.YtjdfcokeejmmeaaGreatDoor.PqW
open Go.RowKit Go.Proofs.YtjdfcokeejmmeaaGreatDoor.PFnPathQuoted Go.Proofs.YtjdfcokeejmmeaaGreatDoorW.PrintWords Go.Proofs.YtjdfcokeejmmeaaGreatDoorW.PrintLast Go.Proofs.YtjdfcokeejmmeaaGreatDoorW.PrintMore
open Go.Proofs.YtjdfcokeejmmeaaGreatDoor.PqP Go.Proofs.YtjdfcokeejmmeaaGreatDoor.Rn
attribute [local go_sem ↓] Go.wp_at_zero Go.wp_at_succ
set_option linter.unusedSimpArgs false
set_option linter.unusedVariables false

/-- A key's path. -/
def pth (K : ByteArray) : ByteArray := ⟨#[36, 46, 39]⟩ ++ K ++ ⟨#[39]⟩
theorem dq_pth (K : ByteArray) : dq K = pth K := by
  unfold dq qk pth
  apply ByteArray.ext
  apply Array.toList_inj.1
  simp
theorem made_pth (K : ByteArray) : (⟨#[36]⟩ ++ (⟨#[46]⟩ ++ qk K) : ByteArray) = pth K := by
  unfold qk pth
  apply ByteArray.ext
  apply Array.toList_inj.1
  simp
theorem made_key {K : ByteArray} (h : Key K) (w : World) : Calls Tryz.prog 5 #[.slice (some ⟨w.heap.size, 0, none⟩) 1 1] (w.alloc (.cells #[.int .i64 0, .string K, .int .u64 0] 31)) (Texted (pth K) (w.alloc (.cells #[.int .i64 0, .string K, .int .u64 0] 31))) := by
  have := made_any (c := 1) (heap_alloc_new w (.cells #[.int .i64 0, .string K, .int .u64 0] 31)) (key_norm h) (quoted_norm h) (by rw [quoted_size]; have := h.le; omega)
  rw [made_pth] at this
  exact this
theorem text_key {K : ByteArray} (h : Key K) (w : World) : Calls Tryz.prog 6 #[.string (⟨#[36, 46, 39]⟩ ++ K ++ ⟨#[39]⟩)] w (Texted (pth K) w) := by
  have := text_any h w
  rw [made_pth, dq_pth] at this
  exact this

set_option maxRecDepth 100000 in
set_option maxHeartbeats 2000000 in
theorem law_any (a b : ByteArray) (st : Bool) (w : World) : Calls Tryz.prog 3 #[.string a, .string b, .bool st] w fun e w' => e = .returned (.bool true) ∧ Below w.heap.size w w' := by
  have HBR := Aside0.mk (Below.refl w.heap.size w)
  by_cases hba : (a.size : Int) > 2147483647
  · go_enter Tryz.func3, Tryz.ntmps3
    go_wp2_with fail
    go_ret
    exact ⟨rfl, HBR.out⟩
  by_cases hbb : (b.size : Int) > 2147483647
  · go_enter Tryz.func3, Tryz.ntmps3
    go_wp2_with fail
    go_ret
    exact ⟨rfl, HBR.out⟩
  obtain ⟨ka, ta, hta, hna⟩ := tr_any a (by omega)
  obtain ⟨kb, tb, htb, hnb⟩ := tr_any b (by omega)
  have HA := Aside0.mk (fun W => laws_trName.calls ka a ta W hta)
  have HB := Aside0.mk (fun W => laws_trName.calls kb b tb W htb)
  have za := hna.le
  have zb := hnb.le
  have HNA := Aside0.mk hna
  have HNB := Aside0.mk hnb
  clear hta htb hna hnb
  have e0 : ¬ 9223372036854775807 < ta.size + 1 := by omega
  have e1 : ¬ 9223372036854775807 < ta.size + 1 + tb.size := by omega
  cases st
  · go_enter Tryz.func3, Tryz.ntmps3
    go_wp2_with fail
    refine (HA.out _).mono ?_
    rintro e w1 ⟨rfl, hb1⟩
    have HB1 := Aside0.mk hb1
    clear hb1
    go_wp2_with fail
    refine (HB.out _).mono ?_
    rintro e w2 ⟨rfl, hb2⟩
    have HB2 := Aside0.mk (below_then HB1.out HB1.out.size hb2)
    clear hb2
    go_wp2_with fail
    have hk : Key (ta ++ ⟨#[46]⟩ ++ tb) := key_of 46 HNA.out HNB.out (.inl rfl)
    generalize (ta ++ ⟨#[46]⟩ ++ tb : ByteArray) = K at *
    have hkz := hk.le
    have e2 : ¬ 9223372036854775807 < 3 + K.size := by omega
    have e3 : ¬ 9223372036854775807 < 3 + K.size + 1 := by omega
    have HM := Aside0.mk (made_key hk w2)
    have HT := Aside0.mk (fun W => text_key hk W)
    clear hk hkz
    refine HM.out.mono ?_
    rintro e w3 ⟨rfl, hb3⟩
    have HB3 : Aside0 (Below w.heap.size w w3) := ⟨below_then (below_alloc HB2.out _) (Nat.le_trans HB2.out.size (by simp)) hb3⟩
    clear hb3 HM
    simp only [zero6]
    go_wp2_with fail
    refine (HT.out _).mono ?_
    rintro e w4 ⟨rfl, hb4⟩
    have HB4 : Aside0 (Below w.heap.size w w4) := ⟨below_then (below_alloc HB3.out _) (Nat.le_trans HB3.out.size (by simp)) hb4⟩
    have hc := blk_cell (blk_below (heap_alloc_new w3 _) hb4) 0
    simp at hc
    have q := fun o : Obj => pw_cell_below (below_alloc (Below.refl _ _) o) hc
    have hq : (⟨#[36, 46, 39]⟩ ++ K ++ ⟨#[39]⟩ : ByteArray) = pth K := rfl
    generalize pth K = X at *
    clear hb4 HT
    simp only [zero6]
    go_wp2_with fail
    go_ret
    refine ⟨by simp, ?_⟩
    exact below_alloc HB4.out _
  · go_enter Tryz.func3, Tryz.ntmps3
    go_wp2_with fail
    refine (HA.out _).mono ?_
    rintro e w1 ⟨rfl, hb1⟩
    have HB1 := Aside0.mk hb1
    clear hb1
    go_wp2_with fail
    refine (HB.out _).mono ?_
    rintro e w2 ⟨rfl, hb2⟩
    have HB2 := Aside0.mk (below_then HB1.out HB1.out.size hb2)
    clear hb2
    go_wp2_with fail
    have hk : Key (ta ++ ⟨#[42]⟩ ++ tb) := key_of 42 HNA.out HNB.out (.inr rfl)
    generalize (ta ++ ⟨#[42]⟩ ++ tb : ByteArray) = K at *
    have hkz := hk.le
    have e2 : ¬ 9223372036854775807 < 3 + K.size := by omega
    have e3 : ¬ 9223372036854775807 < 3 + K.size + 1 := by omega
    have HM := Aside0.mk (made_key hk w2)
    have HT := Aside0.mk (fun W => text_key hk W)
    clear hk hkz
    refine HM.out.mono ?_
    rintro e w3 ⟨rfl, hb3⟩
    have HB3 : Aside0 (Below w.heap.size w w3) := ⟨below_then (below_alloc HB2.out _) (Nat.le_trans HB2.out.size (by simp)) hb3⟩
    clear hb3 HM
    simp only [zero6]
    go_wp2_with fail
    refine (HT.out _).mono ?_
    rintro e w4 ⟨rfl, hb4⟩
    have HB4 : Aside0 (Below w.heap.size w w4) := ⟨below_then (below_alloc HB3.out _) (Nat.le_trans HB3.out.size (by simp)) hb4⟩
    have hc := blk_cell (blk_below (heap_alloc_new w3 _) hb4) 0
    simp at hc
    have q := fun o : Obj => pw_cell_below (below_alloc (Below.refl _ _) o) hc
    have hq : (⟨#[36, 46, 39]⟩ ++ K ++ ⟨#[39]⟩ : ByteArray) = pth K := rfl
    generalize pth K = X at *
    clear hb4 HT
    simp only [zero6]
    go_wp2_with fail
    go_ret
    refine ⟨by simp, ?_⟩
    exact below_alloc HB4.out _

end Go.Proofs.YtjdfcokeejmmeaaGreatDoor.PqW
