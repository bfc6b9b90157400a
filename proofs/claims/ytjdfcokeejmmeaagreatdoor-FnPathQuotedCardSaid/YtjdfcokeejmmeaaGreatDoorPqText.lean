/- Walks of FnPathQuoted: a path's text, read and told again. -/
import Derived.Test.YtjdfcokeejmmeaaGreatDoorPqDot
import Derived.Test.YtjdfcokeejmmeaaGreatDoorPqMade
import Derived.Test.YtjdfcokeejmmeaaGreatDoorPqPure
import Derived.Test.YtjdfcokeejmmeaaGreatDoorPqNorm
namespace Go.Proofs.YtjdfcokeejmmeaaGreatDoor.PqW
open Go.RowKit Go.Proofs.YtjdfcokeejmmeaaGreatDoorW.PrintWords Go.Proofs.YtjdfcokeejmmeaaGreatDoorW.PrintLast Go.Proofs.YtjdfcokeejmmeaaGreatDoorW.PrintMore
open Go.Proofs.YtjdfcokeejmmeaaGreatDoor.PqP Go.Proofs.YtjdfcokeejmmeaaGreatDoor.Rn
attribute [local go_sem ↓] Go.wp_at_zero Go.wp_at_succ
set_option linter.unusedSimpArgs false
set_option linter.unusedVariables false

def ints (l : List UInt8) : List Int := l.map fun b => (b.toNat : Int)

/-- The path's text of a key between quotes. -/
def dq (K : ByteArray) : ByteArray := ⟨#[36, 46]⟩ ++ qk K
theorem dq_list (K : ByteArray) : (dq K).data.toList = [36, 46, 39] ++ K.data.toList ++ [39] := by
  unfold dq
  rw [ByteArray.data_append, Array.toList_append, quoted_list]
  rfl

theorem runes_dq {K : ByteArray} (h : Key K) : runesAt (dq K) 0 = [36, 46, 39] ++ ints K.data.toList ++ [39] := by
  have ha : ∀ b ∈ (dq K).data.toList, b.toNat < 128 := by
    intro b hb
    rw [dq_list] at hb
    simp only [List.mem_append, List.mem_cons, List.not_mem_nil, or_false] at hb
    rcases hb with ((rfl | rfl | rfl) | hb) | rfl
    all_goals first | decide | exact (h.pl b hb).1
  rw [runesAt_all_ascii (dq K) (fun j hj => ha _ (Array.getElem_mem_toList (xs := (dq K).data) hj)) _ 0 rfl, List.drop_zero, dq_list]
  simp [ints]

theorem qt_of {K : ByteArray} (h : Key K) : Qt (runesAt (dq K) 0) (ints K.data.toList) := by
  have hl : (ints K.data.toList).length = K.size := by simp only [ints, List.length_map, Array.length_toList]; rfl
  refine ⟨runes_dq h, fun x hx => ?_, by rw [hl]; exact h.pos, by rw [hl]; have := h.le; omega⟩
  obtain ⟨b, hb, rfl⟩ := List.mem_map.1 hx
  have := h.pl b hb
  unfold Pl at this
  omega

theorem encode_ascii (b : UInt8) (h : b.toNat < 128) : Utf8.encode (b.toNat : Int) = ⟨#[b]⟩ := by
  have hv : Utf8.valid (b.toNat : Int) = true := by
    rw [validRune_eq]; unfold validRune; rw [decide_eq_true_iff]; omega
  have hc : ((b.toNat : Int)).toNat < 128 := by omega
  unfold Utf8.encode
  simp only [hv, if_true, hc]
  simp

theorem fold_ascii : ∀ (l : List UInt8) (acc : ByteArray), (∀ b ∈ l, b.toNat < 128) → (ints l).foldl (fun r n => r ++ Utf8.encode n) acc = acc ++ ⟨l.toArray⟩
  | [], acc, _ => by
    apply ByteArray.ext
    simp [ints]
  | b :: l, acc, h => by
    show (ints l).foldl _ (acc ++ Utf8.encode (b.toNat : Int)) = _
    rw [fold_ascii l _ (fun c hc => h c (List.mem_cons_of_mem _ hc)), encode_ascii b (h b (List.mem_cons_self ..))]
    apply ByteArray.ext
    simp

theorem bytes_ascii (l : List UInt8) (h : ∀ b ∈ l, b.toNat < 128) : runesBytes (ints l) = ⟨l.toArray⟩ := by
  unfold runesBytes
  rw [fold_ascii l _ h]
  apply ByteArray.ext
  simp

theorem add_at (g o j : Nat) : (⟨g, o, none⟩ : Addr).add j = ⟨g, o + j, none⟩ := by unfold Addr.add; split <;> simp_all

/-- The runes between the quotes are the key. -/
theorem key_back {K : ByteArray} (h : Key K) {g : Nat} (W : World) (n : Nat) (hR : Rn W g (runesAt (dq K) 0)) : (convert 56 9 (.slice (some ⟨g, 3, none⟩) (ints K.data.toList).length n)).run Tryz.prog W = .ok (.string K) W := by
  have := run_convert_runes (P := Tryz.prog) W 56 9 21 ⟨g, 3, none⟩ (ints K.data.toList).length n (ints K.data.toList) (Nat.le_refl _) Tryz.underlying56 Tryz.underlying21 Tryz.underlying9 fun j hj => by
    rw [add_at]
    have hr := hR (3 + j) ((ints K.data.toList)[j]) (by
      rw [runes_dq h, List.append_assoc, List.getElem?_append_right (by simp), List.getElem?_append_left (by simp; omega)]
      simp [hj])
    rw [hr]
    simp [List.getD_eq_getElem?_getD, hj]
  rw [List.take_length, bytes_ascii _ (fun b hb => (h.pl b hb).1)] at this
  rw [this]

/-- What reading a path's text hands back. -/
def Read (K : ByteArray) (w : World) (e : Ending) (w' : World) : Prop :=
  ∃ p b r s sel s2, e = .returned (.tuple #[.pointer (some ⟨p, 0, none⟩), .nilIface]) ∧ w'.heap[p]? = some (.cells #[.iface 45 (.pointer (some ⟨r, 0, none⟩))] 55 (0, 0)) ∧ Ch w' b r s sel s2 K ∧ Below w.heap.size w w'

theorem rn_row (w : World) (l : List Int) (spare : Array Value) (T : TypeId) : Rn (w.alloc (.cells ((l.map (Value.int .i32)).toArray ++ spare) T)) w.heap.size l := by
  intro j x hj
  have hlt : j < l.length := (List.getElem?_eq_some_iff.1 hj).1
  rw [World.cell?_alloc_mark, Array.getElem?_append_left (by simpa using hlt)]
  simp [hj]

/-- What the reading loop knows. -/
def Rd (K : ByteArray) (N p : Nat) (w w1 wr : World) (j : Nat) (v6 v7 : Value) : Prop :=
  (j = 0 ∧ v6 = .int .i64 0 ∧ wr = w1 ∧ v7 = .pointer (some ⟨p, 0, none⟩)) ∨
  (j = 1 ∧ v6 = .int .i64 1 ∧ Below w1.heap.size w1 wr ∧ ∃ b r s, v7 = .pointer (some ⟨b, 0, none⟩) ∧ w1.heap.size ≤ b ∧ w1.heap.size ≤ s ∧ Bd wr b r s (.iface 45 (.pointer (some ⟨r, 0, none⟩))) .nilIface) ∨
  (j = 2 ∧ v6 = .int .i64 N ∧ Below w.heap.size w wr ∧ ∃ b r s sel s2, v7 = .pointer (some ⟨b, 0, none⟩) ∧ Ch wr b r s sel s2 K)

set_option maxRecDepth 100000 in
set_option maxHeartbeats 2000000 in
theorem read_any {K : ByteArray} (h : Key K) (w : World) : Calls Tryz.prog 11 #[.string (dq K)] w (Read K w) := by
  have hQ := qt_of h
  have HQ := Aside0.mk hQ
  have hrn := runesFrom_all (dq K)
  have HKB := Aside0.mk (fun (g : Nat) (W : World) (n : Nat) => key_back h (g := g) W n)
  obtain ⟨R, hRd⟩ : ∃ R, runesAt (dq K) 0 = R := ⟨_, rfl⟩
  rw [hRd] at hrn HQ HKB hQ
  obtain ⟨T, hT⟩ : ∃ T, dq K = T := ⟨_, rfl⟩
  rw [hT] at hrn ⊢
  obtain ⟨L, hL⟩ : ∃ L, ints K.data.toList = L := ⟨_, rfl⟩
  rw [hL] at HQ HKB hQ
  have hl := hQ.length
  have hpos := hQ.pos
  have hlen := hQ.len
  have e0 : R[0]? = some 36 := by rw [hQ.eq]; rfl
  have e1 : R[1]? = some 46 := by rw [hQ.eq]; rfl
  have hcv := fun (wx : World) => run_runes_of_string (P := Tryz.prog) wx 9 56 21 T Tryz.underlying9 Tryz.underlying56 Tryz.underlying21 (by rw [hrn]; simp; omega)
  rw [hrn] at hcv
  have hsz : (List.map (Value.int IntKind.i32) R).toArray.size = L.length + 4 := by simp [hl]
  rw [hsz] at hcv
  obtain ⟨c, hc⟩ : ∃ c, grownCap w (L.length + 4) 0 21 = c := ⟨_, rfl⟩
  have hc1 : L.length + 4 ≤ c := by rw [← hc]; exact grownCap_ge _ _ _ _
  have hc2 : c ≤ 9223372036854775807 := by rw [← hc]; exact grownCap_le_maxLen _ _ _ _ (by unfold maxLen; omega)
  have hcv1 := hcv w
  rw [hc] at hcv1
  obtain ⟨sp, hsp⟩ : ∃ sp : Array Value, Array.replicate (c - (L.length + 4)) (Value.int IntKind.i32 0) = sp := ⟨_, rfl⟩
  rw [hsp] at hcv1
  have hRn : Rn (w.drew.alloc (.cells ((List.map (Value.int IntKind.i32) R).toArray ++ sp) 21)) w.heap.size R := rn_row w.drew R sp 21
  have HRN := Aside0.mk hRn
  obtain ⟨W1, hW1⟩ : ∃ W1, w.drew.alloc (.cells ((List.map (Value.int IntKind.i32) R).toArray ++ sp) 21) = W1 := ⟨_, rfl⟩
  have HB1 : Aside0 (Below w.heap.size w W1) := ⟨by rw [← hW1]; exact below_alloc (below_drew (Below.refl _ _)) _⟩
  have HZ1 : Aside0 (W1.heap.size = w.heap.size + 1) := ⟨by rw [← hW1]; simp⟩
  rw [hW1] at hcv1 HRN
  clear hL hT hRd hrn hQ h hcv hc hsp hRn hW1 hsz
  go_enter Tryz.func11, Tryz.ntmps11
  go_wp2_with fail
  have HB2 : Aside0 (Below w.heap.size w (W1.alloc (.cells #[.pointer none, .nilIface] 49))) := ⟨below_alloc HB1.out _⟩
  have HRN2 : Aside0 (Rn (W1.alloc (.cells #[.pointer none, .nilIface] 49)) w.heap.size R) := ⟨HRN.out.below (below_alloc (Below.refl _ _) _)⟩
  have HZ2 : Aside0 (w.heap.size ≤ W1.heap.size) := ⟨by rw [HZ1.out]; omega⟩
  obtain ⟨p, hp⟩ : ∃ p, W1.heap.size = p := ⟨_, rfl⟩
  rw [hp] at HZ2 ⊢
  obtain ⟨W2, hW2⟩ : ∃ W2, W1.alloc (.cells #[.pointer none, .nilIface] 49) = W2 := ⟨_, rfl⟩
  rw [hW2] at HB2 HRN2 ⊢
  clear hp hW2 hcv1 HRN HB1 HZ1
  go_loopw [5, 6, 7] (fun v5 v6 v7 wr => v5 = .int .i64 ((L.length : Int) + 4) ∧ ∃ j : Nat, j ≤ 2 ∧ Aside0 (Rd K (L.length + 4) p w W2 wr j v6 v7)) (fun _ v6 _ _ => L.length + 4 - (intOf v6).toNat)
  case atStart => exact ⟨rfl, 0, by omega, ⟨.inl ⟨rfl, rfl, rfl, rfl⟩⟩⟩
  case round =>
    obtain ⟨rfl, j, hj, hS⟩ := hrel
    rcases hS.out with ⟨rfl, rfl, rfl, rfl⟩ | ⟨rfl, rfl, hb, b, r, s, rfl, hbp, hsp, hbd⟩ | ⟨rfl, rfl, hb, b, r, s, sel, s2, rfl, hch⟩
    · have cx := HRN2.out 0 36 e0
      clear hS
      go_wp2_with (go_at_call 13; refine (root_any _ _).mono ?_; rintro e w1 ⟨b, r, s, rfl, hb1, hr1, hs1, hbd, hbel⟩)
      have HF : Aside0 (Rd K (L.length + 4) p w wr w1 1 (.int .i64 1) (.pointer (some ⟨b, 0, none⟩))) := ⟨.inr (.inl ⟨rfl, rfl, hbel, b, r, s, rfl, hb1, hs1, hbd⟩)⟩
      clear hbel hb1 hr1 hs1 hbd
      go_wp2_with fail
      go_roundw
      case rel => exact ⟨rfl, 1, by omega, HF⟩
      case measure => simp [intOf]
    · have cx := (HRN2.out.below hb) 1 46 e1
      have HD := Aside0.mk (dot_any hbd (HRN2.out.below hb) HQ.out (by omega) hc2 (fun W n hr => HKB.out _ W n hr))
      have HB3 := Aside0.mk (below_then HB2.out HB2.out.size hb)
      have HP := Aside0.mk (show w.heap.size ≤ b ∧ w.heap.size ≤ s from ⟨Nat.le_trans HB2.out.size hbp, Nat.le_trans HB2.out.size hsp⟩)
      clear hS hb hbp hsp hbd
      go_wp2_with fail
      refine HD.out.mono ?_
      rintro e w3 ⟨rfl, ⟨sel, s2, hch⟩, hbl⟩
      have HF : Aside0 (Rd K (L.length + 4) p w W2 w3 2 (.int .i64 ((L.length + 4 : Nat) : Int)) (.pointer (some ⟨b, 0, none⟩))) := ⟨.inr (.inr ⟨rfl, rfl, HB3.out.trans (hbl _ HP.out.1 HP.out.2 HB3.out.size), b, r, s, sel, s2, rfl, hch⟩)⟩
      clear hch hbl HD
      go_wp2_with fail
      go_roundw
      case rel => exact ⟨rfl, 2, by omega, HF⟩
      case measure => simp [intOf]; omega
    · have HBA := Aside0.mk (build_any hch.bd)
      have HC := Aside0.mk hch
      have HB3 := Aside0.mk hb
      clear hch hb hS
      go_wp2_with fail
      refine HBA.out.mono ?_
      rintro e w2 ⟨rfl, rfl⟩
      go_wp2_with fail
      refine bodyPost_ret (v := .tuple #[.pointer (some ⟨wr.heap.size, 0, none⟩), .nilIface]) (by simp [results, Tryz.results11, go_sem]) rfl ⟨_, b, r, s, sel, s2, by simp, heap_alloc_new _ _, HC.out.below (below_alloc (Below.refl _ _) _), below_alloc HB3.out _⟩

end Go.Proofs.YtjdfcokeejmmeaaGreatDoor.PqW
