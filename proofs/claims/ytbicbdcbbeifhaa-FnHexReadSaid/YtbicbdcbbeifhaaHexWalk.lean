/- The walk of FnHexRead: what its Go text computes, off the contracts of the functions that it calls. -/
import Derived.Test.YtbicbdcbbeifhaaHexPure
import Derived.Test.YtbicbdcbbeifhaaRunes
namespace Go.Proofs.Ytbicbdcbbeifhaa.HexW
open Go.RowKit Go.Proofs.Ytbicbdcbbeifhaa.PFnHexRead Go.Proofs.YtbicbdcbbeifhaaW.PrintWords Go.Proofs.YtbicbdcbbeifhaaW.PrintLast Go.Proofs.YtbicbdcbbeifhaaW.PrintMore
open Go.Proofs.Ytbicbdcbbeifhaa.HexP Go.Proofs.Ytbicbdcbbeifhaa.Rn

/-- The row that the conversion to runes has laid, as a slice that is read. -/
theorem runes_row (w : World) (l : List Int) (spare : Array Value) (T : TypeId) (hl : l.length ≤ 9223372036854775807) :
    Kd.C (Kd.int .i32) (w.alloc (.cells ((l.map (Value.int .i32)).toArray ++ spare) T)) (some ⟨w.heap.size, 0, none⟩) l.length l := by
  refine ⟨rfl, hl, fun _ => ⟨_, rfl, fun j p hj => ⟨[.int .i32 p], rfl, rfl, fun i u hi => ?_⟩⟩⟩
  match i, hi with
  | 0, hi =>
    simp only [List.getElem?_cons_zero, Option.some.injEq] at hi
    subst hi
    have hlt : j < l.length := (List.getElem?_eq_some_iff.1 hj).1
    have hp : l[j] = p := (List.getElem?_eq_some_iff.1 hj).2
    show (w.alloc _).cell? ((⟨w.heap.size, 0, none⟩ : Addr).add (j * 1 + 0)) = _
    rw [show j * 1 + 0 = j from by omega, add_plain, World.cell?_alloc_mark]
    rw [Array.getElem?_append_left (by simpa using hlt)]
    simp [hj]

theorem runes_row' (w : World) (l : List Int) (n : Nat) (T : TypeId) (hl : l.length ≤ 9223372036854775807) :
    Kd.C (Kd.int .i32) (w.alloc (.cells ((l.map (Value.int .i32)).toArray ++ Array.replicate n (.int .i32 0)) T)).drew (some ⟨w.heap.size, 0, none⟩) l.length l :=
  Kd.C_below (runes_row w l _ T hl) (below_drew (Below.refl _ _))

set_option maxHeartbeats 400000 in
theorem zzHex_any (s : ByteArray) (l : List Int) (r : Int) (k : Nat) (w : World) (hl : runesAt s 0 = l) (hs : s.size ≤ 100) (h : scanner_hexRunesToInt.f k l = some r) :
    Calls Try.prog 20 #[.string s] w fun e w' => e = .returned (.int .i64 r) ∧ Below w.heap.size w w' := by
  have hrn := runesFrom_all s
  rw [hl] at hrn
  have hlen : l.length ≤ 100 := by have := runesAt_length s 0; rw [hl] at this; omega
  have hcv := fun (wx : World) => run_runes_of_string (P := Try.prog) wx 9 60 21 s Try.underlying9 Try.underlying60 Try.underlying21 (by rw [hrn]; simp; omega)
  rw [hrn] at hcv
  have HL : Hid (runesAt s 0 = l) := hl
  have HR : Hid (Conv.runesFrom s s.size 0 #[] = (l.map (Value.int .i32)).toArray) := hrn
  have HH : Hid (scanner_hexRunesToInt.f k l = some r) := h
  clear hl hrn h
  go_enter Try.func20, Try.ntmps20
  go_wp2_with fail
  refine (scanner_hexRunesToInt.calls k _ _ l r _ (runes_row' _ l _ _ (by omega)) (grownCap_ge _ _ _ _) HH.out).mono ?_
  rintro e w' ⟨rfl, ⟨nd, rfl⟩⟩
  go_wp2
  go_ret
  exact ⟨rfl, pw_below_drewN (below_alloc (Below.refl _ _) _) _⟩

set_option maxHeartbeats 400000 in
theorem hex_any (s : ByteArray) (l : List Int) (r : Int) (k : Nat) (w : World) (hl : runesAt s 0 = l) (hs : s.size ≤ 100) (h : scanner_hexRunesToInt.f k l = some r) :
    Calls Try.prog 10 #[.string s] w fun e w' => e = .returned (.int .i64 r) ∧ Below w.heap.size w w' := by
  have HL : Hid (runesAt s 0 = l) := hl
  have HH : Hid (scanner_hexRunesToInt.f k l = some r) := h
  clear hl h
  go_enter Try.func10, Try.ntmps10
  go_wp2_with fail
  refine (zzHex_any s l r k _ HL.out hs HH.out).mono ?_
  rintro e w' ⟨rfl, hb⟩
  go_wp2
  go_ret
  exact ⟨rfl, hb⟩

theorem runes_good (s : ByteArray) (v : Int) (m : Nat) (hg : HexP.Good s v m) (hm : m ≤ 8) : scanner_hexRunesToInt.f 11 (runesAt s 0) = some v := by
  have ha : ∀ (j : Nat) (h : j < s.size), (s[j]'h).toNat < 128 := by
    intro j h
    have : ((s[j]'h).toNat : Int) ∈ ints s := by
      refine List.mem_map.2 ⟨s[j]'h, ?_, rfl⟩
      show s.data[j]'h ∈ s.data.toList
      simp
    have := (hg.ok _ this).2.1
    omega
  have e : runesAt s 0 = ints s := by
    rw [runesAt_all_ascii s ha s.size 0 (by omega)]
    simp [ints]
  rw [e, hg.eq]
  refine read_all _ ?_ hg.ok
  simp [ints, ByteArray.size_data, hg.size]; omega

set_option maxHeartbeats 400000 in
theorem law_none (a0 a1 a2 : Int) (w : World) (h : a1 < 1 ∨ 8 < a1) :
    Calls Try.prog 3 #[.int .u32 a0, .int .i64 a1, .int .u32 a2] w fun e w' => e = .returned (.bool true) ∧ Below w.heap.size w w' := by
  have HH : Hid (spec_HexDigits.f 11 a0 a1 a2 = some (⟨#[]⟩, 0)) := write_none a0 a1 a2 h
  clear h
  go_enter Try.func3, Try.ntmps3
  go_wp2_with fail
  refine (spec_HexDigits.calls 11 a0 a1 a2 _ _ _ HH.out).mono ?_
  rintro e w' ⟨rfl, ⟨nd, rfl⟩⟩
  go_wp2_with fail
  go_ret
  exact ⟨rfl, pw_below_drewN (Below.refl _ _) _⟩

set_option maxHeartbeats 400000 in
theorem law_some (a0 a1 a2 : Int) (w : World) (h0 : 0 ≤ a0) (h1 : a0 < 4294967296) (h : 1 ≤ a1) (h' : a1 ≤ 8) :
    Calls Try.prog 3 #[.int .u32 a0, .int .i64 a1, .int .u32 a2] w fun e w' => e = .returned (.bool true) ∧ Below w.heap.size w w' := by
  obtain ⟨s, v, hf, hg⟩ := write_all a0 a1 a2 h0 h1 h h'
  have HR : Hid (scanner_hexRunesToInt.f 11 (runesAt s 0) = some v) := runes_good s v _ hg (by omega)
  have hsz : s.size ≤ 8 ∧ 0 < s.size := by have := hg.size; omega
  obtain ⟨hs8, hs0⟩ := hsz
  have hne : s.toList.isEmpty = false := by
    rw [ByteArray.toList_eq, List.isEmpty_eq_false_iff]
    intro e
    have : s.data.toList.length = 0 := by rw [e]; rfl
    rw [Array.length_toList, ByteArray.size_data] at this
    omega
  have HH : Hid (spec_HexDigits.f 11 a0 a1 a2 = some (s, v)) := hf
  clear hf hg
  go_enter Try.func3, Try.ntmps3
  go_wp2_with fail
  refine (spec_HexDigits.calls 11 a0 a1 a2 _ _ _ HH.out).mono ?_
  rintro e w' ⟨rfl, ⟨nd, rfl⟩⟩
  go_wp2_with fail
  refine (hex_any s _ v 11 _ rfl (by omega) HR.out).mono ?_
  rintro e w' ⟨rfl, hb⟩
  go_wp2
  go_ret
  exact ⟨rfl, (pw_below_drewN (Below.refl _ _) nd).trans hb⟩

/-- The law, for all its arguments. -/
theorem law_any (a0 a1 a2 : Int) (w : World) (w0 : (Lit.int .u32 a0).wf = true) :
    Calls Try.prog 3 #[.int .u32 a0, .int .i64 a1, .int .u32 a2] w fun e w' => e = .returned (.bool true) ∧ Below w.heap.size w w' := by
  have hw : 0 ≤ a0 ∧ a0 < 4294967296 := by
    have : IntKind.u32.min ≤ a0 ∧ a0 ≤ IntKind.u32.max := by simpa [Lit.wf] using w0
    have e : IntKind.u32.min = 0 ∧ IntKind.u32.max = 4294967295 := by decide
    omega
  by_cases h : 1 ≤ a1 ∧ a1 ≤ 8
  · exact law_some a0 a1 a2 w hw.1 hw.2 h.1 h.2
  · exact law_none a0 a1 a2 w (by omega)

end Go.Proofs.Ytbicbdcbbeifhaa.HexW
