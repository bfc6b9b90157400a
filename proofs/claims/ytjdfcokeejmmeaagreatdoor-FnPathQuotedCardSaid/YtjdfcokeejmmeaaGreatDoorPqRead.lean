/- Walks of FnPathQuoted: a path's text is read. -/
import Derived.Test.YtjdfcokeejmmeaaGreatDoorPqMem
import Derived.Laws.Cover4
import Derived.Laws.IdiomStrings
import Derived.WalkMore
import Derived.ScopeJumps
namespace Go.Proofs.YtjdfcokeejmmeaaGreatDoor.PqW
open Go.RowKit Go.Proofs.YtjdfcokeejmmeaaGreatDoorW.PrintWords Go.Proofs.YtjdfcokeejmmeaaGreatDoorW.PrintLast Go.Proofs.YtjdfcokeejmmeaaGreatDoorW.PrintMore
attribute [local go_sem ↓] Go.wp_at_zero Go.wp_at_succ
set_option linter.unusedSimpArgs false
set_option linter.unusedVariables false

/-- A row of runes. -/
def Rn (w : World) (g : Nat) (R : List Int) : Prop := ∀ (j : Nat) (x : Int), R[j]? = some x → w.cell? ⟨g, j, none⟩ = some (.int .i32 x)
theorem Rn.below {w w1 : World} {g : Nat} {R : List Int} (h : Rn w g R) (hb : Below w.heap.size w w1) : Rn w1 g R := fun j x hj => pw_cell_below hb (h j x hj)

/-- A text of runes that are none of the quote's and the backslash's, between quotes. -/
structure Qt (R K : List Int) : Prop where
  eq : R = [36, 46, 39] ++ K ++ [39]
  ne : ∀ x ∈ K, x ≠ 39 ∧ x ≠ 92
  pos : 0 < K.length
  len : K.length ≤ 100

theorem Qt.at_ {R K : List Int} (h : Qt R K) {j : Nat} (h3 : 3 ≤ j) (hj : j < K.length + 3) : ∃ x, R[j]? = some x ∧ x ≠ 39 ∧ x ≠ 92 := by
  have hk : j - 3 < K.length := by omega
  refine ⟨K[j - 3], ?_, h.ne _ (List.getElem_mem _)⟩
  rw [h.eq, List.append_assoc, List.getElem?_append_right (by simp; omega), List.getElem?_append_left (by simp; omega)]
  simp [hk]
theorem Qt.last {R K : List Int} (h : Qt R K) : R[K.length + 3]? = some 39 := by
  rw [h.eq, List.getElem?_append_right (by simp)]
  simp
theorem Qt.length {R K : List Int} (h : Qt R K) : R.length = K.length + 4 := by rw [h.eq]; simp

/-- What reading a quoted key hands back. -/
def Quoted (b r s g L c : Nat) (name : ByteArray) (w : World) (e : Ending) (w' : World) : Prop :=
  e = .returned (.tuple #[.pointer (some ⟨b, 0, none⟩), .slice (some ⟨g, 0, none⟩) L c, .int .i64 L, .nilIface]) ∧ (∃ sel s2, Ch w' b r s sel s2 name) ∧ ∀ B, B ≤ b → B ≤ s → B ≤ w.heap.size → Below B w w'

set_option maxRecDepth 100000 in
set_option maxHeartbeats 2000000 in
theorem quoted_any {b r s g c : Nat} {w : World} {R K : List Int} {name : ByteArray} (hb : Bd w b r s (.iface 45 (.pointer (some ⟨r, 0, none⟩))) .nilIface) (hR : Rn w g R) (hQ : Qt R K) (hc : R.length ≤ c) (hc' : c ≤ 9223372036854775807)
    (hcv : ∀ (W : World) (n : Nat), Rn W g R → (convert 56 9 (.slice (some ⟨g, 3, none⟩) K.length n)).run Tryz.prog W = .ok (.string name) W) :
    Calls Tryz.prog 29 #[.pointer (some ⟨b, 0, none⟩), .slice (some ⟨g, 0, none⟩) (K.length + 4) c, .int .i64 2] w (Quoted b r s g (K.length + 4) c name w) := by
  have c0 := blk_cell hb.b 0
  have c1 := blk_cell hb.b 1
  simp at c0 c1
  have HQ := Aside0.mk hQ
  have HR := Aside0.mk hR
  have HCV := hcv w (c - 3) hR
  have HC := Aside0.mk (child_any name hb)
  have hl := hQ.length
  have hpos := hQ.pos
  have hlen := hQ.len
  clear hb hQ hR hcv
  go_enter Tryz.func29, Tryz.ntmps29
  go_wp2
  refine wp_scope_jumps 0 (fun a' w' => w' = w ∧ ∃ (u3 u4 u5 u13 u14 u15 u16 u17 u18 u19 u20 u21 u22 u23 u24 u25 u26 u27 u28 u29 u30 u31 u32 u33 u34 u35 u36 u37 u38 u39 u40 u41 u42 u43 u44 u45 u46 u47 u48 u49 u50 u51 u52 u53 u54 u55 u56 u57 u58 u59 u60 u61 u62 u63 u64 u65 u66 u67 u68 u69 u70 u71 u72 u73 u74 u75 u76 u77 u78 u79 u80 u81 u82 u83 u84 u85 u86 u87 u88 u89 u90 u91 : Value), a' = { tmps := #[.pointer (some ⟨b, 0, none⟩), .slice (some ⟨g, 0, none⟩) (K.length + 4) c, .int .i64 ((K.length + 3 : Nat) : Int), u3, u4, u5, .pointer none, .slice none 0 0, .int .i64 0, .nilIface, .int .i64 3, .int .i64 ((K.length + 4 : Nat) : Int), .bool true, u13, u14, u15, u16, u17, u18, u19, u20, u21, u22, u23, u24, u25, u26, u27, u28, u29, u30, u31, u32, u33, u34, u35, u36, u37, u38, u39, u40, u41, u42, u43, u44, u45, u46, u47, u48, u49, u50, u51, u52, u53, u54, u55, u56, u57, u58, u59, u60, u61, u62, u63, u64, u65, u66, u67, u68, u69, u70, u71, u72, u73, u74, u75, u76, u77, u78, u79, u80, u81, u82, u83, u84, u85, u86, u87, u88, u89, u90, u91], defers := [] }) (fun _ _ => 0) rfl ?_ ?_
  · go_wp2_with fail
    go_loopw [1, 2, 11, 12] (fun v1 v2 v11 v12 wr => wr = w ∧ v1 = .slice (some ⟨g, 0, none⟩) (K.length + 4) c ∧ v11 = .int .i64 ((K.length + 4 : Nat) : Int) ∧ v12 = .bool false ∧ ∃ j : Nat, 3 ≤ j ∧ j ≤ K.length + 3 ∧ v2 = .int .i64 j) (fun _ v2 _ _ _ => K.length + 4 - (intOf v2).toNat)
    case atStart => exact ⟨rfl, rfl, by simp, rfl, 3, by omega, by omega, by simp⟩
    case round =>
      obtain ⟨rfl, rfl, rfl, rfl, j, h3, hj, rfl⟩ := hrel
      have hjl : (j : Int) < ((K.length + 4 : Nat) : Int) := by omega
      by_cases hj3 : j < K.length + 3
      · obtain ⟨x, hx, x1, x2⟩ := HQ.out.at_ h3 hj3
        have cx := HR.out j x hx
        have y1 : (x == 92) = false := beq_eq_false_iff_ne.2 x2
        have y2 : (x == 39) = false := beq_eq_false_iff_ne.2 x1
        clear hx
        go_wp2_with fail
        go_roundw
        case rel => refine ⟨?_, ?_, ?_, ?_, j + 1, by omega, by omega, by go_num⟩ <;> first | rfl | trivial | simp
        case measure => simp [intOf]; omega
      · obtain rfl : j = K.length + 3 := by omega
        have cx := HR.out _ _ HQ.out.last
        go_wp2_with fail
        go_step3
        exact ⟨rfl, rfl, _, _, _, _, _, _, _, _, _, _, _, _, _, _, _, _, _, _, _, _, _, _, _, _, _, _, _, _, _, _, _, _, _, _, _, _, _, _, _, _, _, _, _, _, _, _, _, _, _, _, _, _, _, _, _, _, _, _, _, _, _, _, _, _, _, _, _, _, _, _, _, _, _, _, _, _, _, _, _, _, _, _, rfl⟩
  · rintro a' w' ⟨rfl, u3, u4, u5, u13, u14, u15, u16, u17, u18, u19, u20, u21, u22, u23, u24, u25, u26, u27, u28, u29, u30, u31, u32, u33, u34, u35, u36, u37, u38, u39, u40, u41, u42, u43, u44, u45, u46, u47, u48, u49, u50, u51, u52, u53, u54, u55, u56, u57, u58, u59, u60, u61, u62, u63, u64, u65, u66, u67, u68, u69, u70, u71, u72, u73, u74, u75, u76, u77, u78, u79, u80, u81, u82, u83, u84, u85, u86, u87, u88, u89, u90, u91, rfl⟩
    go_wp2_with fail
    refine HC.out.mono ?_
    rintro e w2 ⟨rfl, hch, hbl⟩
    have HF : Aside0 ((∃ sel s2, Ch w2 b r s sel s2 name) ∧ ∀ B, B ≤ b → B ≤ s → B ≤ w'.heap.size → Below B w' w2) := ⟨hch, hbl⟩
    clear hch hbl
    go_wp2_with fail
    simp only [Exit.jump]
    refine bodyPost_ret (v := .tuple #[.pointer (some ⟨b, 0, none⟩), .slice (some ⟨g, 0, none⟩) (K.length + 4) c, .int .i64 (K.length + 4), .nilIface]) (by simp [results, Tryz.results29, go_sem]; omega) rfl ⟨by simp, HF.out⟩

end Go.Proofs.YtjdfcokeejmmeaaGreatDoor.PqW
