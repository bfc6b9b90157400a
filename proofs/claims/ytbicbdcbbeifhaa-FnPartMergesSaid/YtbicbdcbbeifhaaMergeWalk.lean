/- The walk of FnPartMerges. -/
import Derived.Test.YtbicbdcbbeifhaaMergePure
import Derived.Test.YtbicbdcbbeifhaaMergeHas
import Derived.WalkSpells
import Derived.Deep.Draws
namespace Go.Proofs.Ytbicbdcbbeifhaa.MrgW
open Go.RowKit Go.Proofs.Ytbicbdcbbeifhaa.PFnPartMerges Go.Proofs.YtbicbdcbbeifhaaW.PrintWords Go.Proofs.YtbicbdcbbeifhaaW.PrintLast Go.Proofs.YtbicbdcbbeifhaaW.PrintMore
open Go.Proofs.Ytbicbdcbbeifhaa.Rn Go.Proofs.Ytbicbdcbbeifhaa.MrgP
set_option linter.unusedSimpArgs false
set_option linter.unusedVariables false

/-- A context at the beginning of its text, in block p. -/
structure At (B : Nat) (w0 w : World) (p : Nat) (l : List Int) : Prop where
  below : Below B w0 w
  c0 : w.cell? ⟨p, 0, none⟩ = some (.int .i64 0)
  c1 : w.cell? ⟨p, 1, none⟩ = some (.int .i64 l.length)
  c4 : ∃ A cap, w.cell? ⟨p, 4, none⟩ = some (.slice A l.length cap) ∧ l.length ≤ cap ∧ Kd.C (Kd.int .i32) w A l.length l

/-- The row that the conversion to runes has laid, as a slice that is read. -/
theorem runes_row (w : World) (l : List Int) (spare : Array Value) (T : TypeId) (hl : l.length ≤ 9223372036854775807) :
    Kd.C (Kd.int .i32) (w.alloc (.cells ((l.map (Value.int .i32)).toArray ++ spare) T)) (some ⟨w.heap.size, 0, none⟩) l.length l := by
  refine ⟨rfl, hl, fun _ => ⟨_, rfl, fun j p hj => ⟨[.int .i32 p], rfl, rfl, fun i u hi => ?_⟩⟩⟩
  match i, hi with
  | 0, hi =>
    simp only [List.getElem?_cons_zero, Option.some.injEq] at hi
    subst hi
    have hlt : j < l.length := (List.getElem?_eq_some_iff.1 hj).1
    have hp : l[j] = p := (List.getElem?_eq_some_iff.1 hj).2
    show (w.alloc _).cell? ((⟨w.heap.size, 0, none⟩ : Addr).add (j * 1 + 0)) = _
    rw [show j * 1 + 0 = j from by omega, add_plain, World.cell?_alloc_mark]
    rw [Array.getElem?_append_left (by simpa using hlt)]
    simp [hj]

theorem at_of (w : World) (S E : Obj) (l : List Int) (n cap : Nat) (x5 x6 x7 x8 : Value) (hl : l.length ≤ 2147483647) (hc : l.length ≤ cap) :
    At w.heap.size w ((((w.alloc S).alloc (.cells ((l.map (Value.int .i32)).toArray ++ Array.replicate n (.int .i32 0)) 21)).alloc E).alloc
      (.cells #[.int .i64 0, .int .i64 l.length, .int .i64 0, .int .i64 0, .slice (some ⟨w.heap.size + 1, 0, none⟩) l.length cap, x5, x6, x7, x8] 88)).drew (w.heap.size + 1 + 1 + 1) l := by
  have e1 : (w.alloc S).heap.size = w.heap.size + 1 := by simp
  have e3 : (((w.alloc S).alloc (.cells ((l.map (Value.int .i32)).toArray ++ Array.replicate n (.int .i32 0)) 21)).alloc E).heap.size = w.heap.size + 1 + 1 + 1 := by simp
  have hrow := runes_row (w.alloc S) l (Array.replicate n (.int .i32 0)) 21 (by omega)
  rw [e1] at hrow
  refine ⟨?_, ?_, ?_, some ⟨w.heap.size + 1, 0, none⟩, cap, ?_, hc, ?_⟩
  · exact below_drew (below_alloc (below_alloc (below_alloc (below_alloc (Below.refl _ _) _) _) _) _)
  · rw [← e3]; exact World.cell?_alloc_mark ..
  · rw [← e3]; exact World.cell?_alloc_mark ..
  · rw [← e3]; exact World.cell?_alloc_mark ..
  · exact Kd.C_below hrow (below_drew (below_alloc (below_alloc (Below.refl _ _) _) _))

set_option maxRecDepth 100000 in
set_option maxHeartbeats 1000000 in
theorem zzAt_any (s : ByteArray) (l : List Int) (w : World) (hl : runesAt s 0 = l) (hs : s.size ≤ 2147483647) :
    Calls Try.prog 35 #[.string s] w fun e w' => e = .returned (.tuple #[.pointer (some ⟨w.heap.size, 0, none⟩), .pointer (some ⟨w.heap.size + 1 + 1 + 1, 0, none⟩)]) ∧ At w.heap.size w w' (w.heap.size + 1 + 1 + 1) l := by
  have hrn := runesFrom_all s
  rw [hl] at hrn
  have hlen : l.length ≤ 2147483647 := by have := runesAt_length s 0; rw [hl] at this; omega
  have hcv := fun (wx : World) => run_runes_of_string (P := Try.prog) wx 9 60 21 s Try.underlying9 Try.underlying60 Try.underlying21 (by rw [hrn]; simp; omega)
  rw [hrn] at hcv
  have HL := Aside0.mk hl
  have HR := Aside0.mk hrn
  clear hl hrn
  go_enter Try.func35, Try.ntmps35
  go_wp2
  go_end0
  go_wp2
  go_end0
  go_wp2
  go_end0
  go_wp2
  go_end0
  go_wp2
  go_ret2
  exact ⟨rfl, at_of _ _ _ l _ _ _ _ _ _ (by omega) (grownCap_ge _ _ _ _)⟩

theorem ret_int {k : IntKind} {a b : Int} (h : a = b) : Ending.returned (.int k a) = .returned (.int k b) := by rw [h]

set_option maxRecDepth 100000 in
set_option maxHeartbeats 400000 in
theorem repeat_any (B : Nat) (w0 w : World) (p : Nat) (l : List Int) (r : Int) (h : At B w0 w p l) (hl : l.length ≤ 2147483647) :
    Calls Try.prog 41 #[.pointer (some ⟨p, 0, none⟩), .int .i32 r] w fun e w' => e = .returned (.int .i64 (lead r l)) ∧ w = w' := by
  obtain ⟨_, h0, h1, A, cap, h4, hcap, hC⟩ := h
  have HC := Aside0.mk hC
  clear hC
  go_enter Try.func41, Try.ntmps41
  go_wp2
  go_loop [5, 6] (fun n i => ∃ k : Nat, k ≤ l.length ∧ lead r l = k + lead r (l.drop k) ∧ n = .int .i64 k ∧ i = .int .i64 k) (fun _ i => l.length - (intOf i).toNat)
  case atStart => exact ⟨0, by omega, by simp, rfl, rfl⟩
  case round =>
    obtain ⟨k, hk, hL, rfl, rfl⟩ := hrel
    have HL := Aside0.mk hL
    clear hL
    by_cases hlt : k < l.length
    · obtain ⟨ad, rfl, hcell⟩ := Kd.at_int HC.out (k : Int) (by omega) (by omega)
      have hg : l[k]? = some (rd l k) := by
        simp [rd, List.getElem?_eq_getElem hlt]
      rw [Int.toNat_natCast] at hcell
      generalize rd l (k : Int) = c at hg hcell
      by_cases hc : c = r
      · subst hc
        have HY := Aside0.mk (lead_hit c l k hg HL.out)
        clear hg
        go_wp2
        go_round
        case rel => exact ⟨k + 1, by omega, HY.out, by go_num, by go_num⟩
        case measure => simp [intOf]; omega
      · have HY := Aside0.mk (lead_miss r c l k hg hc HL.out)
        have hb : (c == r) = false := beq_eq_false_iff_ne.2 hc
        clear hg hc
        go_wp2
        go_ret
        exact ⟨ret_int (by rw [HY.out]), rfl⟩
    · have HY := Aside0.mk (lead_over r l k (by omega) HL.out)
      go_wp2
      go_ret
      exact ⟨ret_int (by rw [HY.out]), rfl⟩

set_option maxRecDepth 100000 in
set_option maxHeartbeats 400000 in
theorem merge_no (B : Nat) (w0 w : World) (p : Nat) (q : Option Addr) (l : List Int) (h : At B w0 w p l) (hl : l.length ≤ 2147483647) (hn : lead 60 l < 2) :
    Calls Try.prog 36 #[.pointer q, .pointer (some ⟨p, 0, none⟩)] w fun e w' => e = .returned (.bool false) ∧ w = w' := by
  have H := Aside0.mk h
  clear h
  have hb : (((lead 60 l : Nat) : Int) != 2) = true := by rw [bne_iff_ne]; omega
  go_enter Try.func36, Try.ntmps36
  go_wp2_with fail
  refine (repeat_any B w0 _ p l 60 H.out hl).mono ?_
  rintro e w' ⟨rfl, rfl⟩
  go_wp2
  go_ret
  exact ⟨rfl, rfl⟩

set_option maxRecDepth 100000 in
set_option maxHeartbeats 400000 in
theorem newline_any (p : Option Addr) (c : Int) (w : World) :
    Calls Try.prog 42 #[.pointer p, .int .i32 c] w fun e w' => e = .returned (.bool (c == 10 || c == 13)) ∧ w = w' := by
  by_cases h1 : c = 10
  · subst h1
    go_enter Try.func42, Try.ntmps42
    go_wp2
    go_ret
    exact ⟨rfl, rfl⟩
  · have b1 : (c == 10) = false := beq_eq_false_iff_ne.2 h1
    by_cases h2 : c = 13
    · subst h2
      go_enter Try.func42, Try.ntmps42
      go_wp2
      go_ret
      exact ⟨rfl, rfl⟩
    · have b2 : (c == 13) = false := beq_eq_false_iff_ne.2 h2
      go_enter Try.func42, Try.ntmps42
      go_wp2
      go_ret
      exact ⟨by rw [b1, b2]; rfl, rfl⟩

set_option maxRecDepth 100000 in
set_option maxHeartbeats 400000 in
theorem merge_yes (B : Nat) (w0 w : World) (p : Nat) (q : Option Addr) (l t : List Int) (c : Int) (h : At B w0 w p l) (hl : l.length ≤ 2147483647) (he : l = 60 :: 60 :: 58 :: c :: t) (hc : c = 32 ∨ c = 10) :
    Calls Try.prog 36 #[.pointer q, .pointer (some ⟨p, 0, none⟩)] w fun e w' => e = .returned (.bool true) ∧ w = w' := by
  have hn : lead 60 l = 2 := by subst he; simp [lead]
  have hlen : 4 ≤ l.length := by subst he; simp
  have H := Aside0.mk h
  obtain ⟨_, h0, h1, A, cap, h4, hcap, hC⟩ := h
  obtain ⟨ad, rfl, g2⟩ := Kd.at_int hC (2 : Int) (by omega) (by omega)
  obtain ⟨ad', e', g3⟩ := Kd.at_int hC (3 : Int) (by omega) (by omega)
  obtain rfl := Option.some.inj e'
  have r2 : rd l 2 = 58 := by subst he; rfl
  have r3 : rd l 3 = c := by subst he; rfl
  rw [r2] at g2
  rw [r3] at g3
  replace g2 : w.cell? ⟨ad.block, ad.off + 2, none⟩ = some (.int .i32 58) := by simpa [Addr.add] using g2
  replace g3 : w.cell? ⟨ad.block, ad.off + 3, none⟩ = some (.int .i32 c) := by simpa [Addr.add] using g3
  have R := Aside0.mk (repeat_any B w0 w p l 60 H.out hl)
  rw [hn] at R
  have HC := Aside0.mk hC
  clear he hn r2 r3 hC H
  rcases hc with rfl | rfl
  · go_enter Try.func36, Try.ntmps36
    go_wp2_with fail
    refine R.out.mono ?_
    rintro e w' ⟨rfl, rfl⟩
    go_wp2
    refine wp_loop_rounds 1 ?_
    rw [rounds_succ]
    go_wp2
    go_ret
    exact ⟨rfl, rfl⟩
  · go_enter Try.func36, Try.ntmps36
    go_wp2_with fail
    refine R.out.mono ?_
    rintro e w' ⟨rfl, rfl⟩
    go_wp2
    refine wp_loop_rounds 1 ?_
    rw [rounds_succ]
    go_wp2_with fail
    refine (newline_any q 10 _).mono ?_
    rintro e w' ⟨rfl, rfl⟩
    go_wp2
    go_ret
    exact ⟨rfl, rfl⟩

set_option maxRecDepth 100000 in
set_option maxHeartbeats 400000 in
theorem zzMerges_any (s : ByteArray) (b : Bool) (w : World) (hs : s.size ≤ 2147483647)
    (h : ∀ (B : Nat) (w0 wx : World) (p : Nat) (q : Option Addr), At B w0 wx p (runesAt s 0) → Calls Try.prog 36 #[.pointer q, .pointer (some ⟨p, 0, none⟩)] wx fun e w' => e = .returned (.bool b) ∧ wx = w') :
    Calls Try.prog 26 #[.string s] w fun e w' => e = .returned (.bool b) ∧ Below w.heap.size w w' := by
  have H := Aside0.mk h
  clear h
  go_enter Try.func26, Try.ntmps26
  go_wp2_with fail
  refine (zzAt_any s _ _ rfl hs).mono ?_
  rintro e w1 ⟨rfl, hat⟩
  have HA := Aside0.mk hat
  clear hat
  go_wp2_with fail
  refine (H.out _ _ _ _ _ HA.out).mono ?_
  rintro e w' ⟨rfl, rfl⟩
  go_wp2
  go_ret
  exact ⟨rfl, HA.out.below⟩

set_option maxRecDepth 100000 in
set_option maxHeartbeats 400000 in
theorem merges_any (s : ByteArray) (b : Bool) (w : World) (hs : s.size ≤ 2147483647)
    (h : ∀ (B : Nat) (w0 wx : World) (p : Nat) (q : Option Addr), At B w0 wx p (runesAt s 0) → Calls Try.prog 36 #[.pointer q, .pointer (some ⟨p, 0, none⟩)] wx fun e w' => e = .returned (.bool b) ∧ wx = w') :
    Calls Try.prog 17 #[.string s] w fun e w' => e = .returned (.bool b) ∧ Below w.heap.size w w' := by
  have H := Aside0.mk h
  clear h
  go_enter Try.func17, Try.ntmps17
  go_wp2_with fail
  refine (zzMerges_any s b _ hs H.out).mono ?_
  rintro e w1 ⟨rfl, hb⟩
  go_wp2
  go_ret
  exact ⟨rfl, hb⟩

theorem runes_len (s : ByteArray) (hs : s.size ≤ 2147483647) : (runesAt s 0).length ≤ 2147483647 := by
  have := runesAt_length s 0; omega

theorem merges_no (s : ByteArray) (w : World) (hs : s.size ≤ 2147483647) (h : s.size < 2 ∨ (∃ h : 0 < s.size, (s[0]'h).toNat ≠ 60) ∨ (∃ h : 1 < s.size, (s[1]'h).toNat ≠ 60)) :
    Calls Try.prog 17 #[.string s] w fun e w' => e = .returned (.bool false) ∧ Below w.heap.size w w' :=
  merges_any s false w hs fun B w0 wx p q hat => merge_no B w0 wx p q _ hat (runes_len s hs) (no_merge s h)

theorem merges_yes (s : ByteArray) (w : World) (hs : s.size ≤ 2147483647) (h : 3 < s.size) (h0 : (s[0]'(by omega)).toNat = 60) (h1 : (s[1]'(by omega)).toNat = 60) (h2 : (s[2]'(by omega)).toNat = 58) (h3 : (s[3]'h).toNat = 32 ∨ (s[3]'h).toNat = 10) :
    Calls Try.prog 17 #[.string s] w fun e w' => e = .returned (.bool true) ∧ Below w.heap.size w w' := by
  obtain ⟨t, ht⟩ := merge_runes s h h0 h1 h2 h3
  exact merges_any s true w hs fun B w0 wx p q hat => merge_yes B w0 wx p q _ t _ hat (runes_len s hs) ht (by omega)

set_option maxRecDepth 100000 in
set_option maxHeartbeats 400000 in
theorem law_large (s : ByteArray) (w : World) (hs : ¬ s.size ≤ 2147483647) (hs' : s.size ≤ 140737488351232) :
    Calls Try.prog 7 #[.string s] w fun e w' => e = .returned (.bool true) ∧ Below w.heap.size w w' := by
  go_enter Try.func7, Try.ntmps7
  go_wp2_with fail
  go_ret
  exact ⟨rfl, Below.refl _ _⟩

set_option maxRecDepth 100000 in
set_option maxHeartbeats 400000 in
theorem law_short (s : ByteArray) (w : World) (hs : s.size < 2) :
    Calls Try.prog 7 #[.string s] w fun e w' => e = .returned (.bool true) ∧ Below w.heap.size w w' := by
  go_enter Try.func7, Try.ntmps7
  go_wp2_with fail
  refine (merges_no s _ (by omega) (.inl hs)).mono ?_
  rintro e w1 ⟨rfl, hb⟩
  go_wp2
  go_ret
  exact ⟨rfl, hb⟩

set_option maxRecDepth 100000 in
set_option maxHeartbeats 400000 in
theorem law_ne0 (s : ByteArray) (w : World) (hs : s.size ≤ 2147483647) (h2 : 2 ≤ s.size) (h : (s[0]'(by omega)).toNat ≠ 60) :
    Calls Try.prog 7 #[.string s] w fun e w' => e = .returned (.bool true) ∧ Below w.heap.size w w' := by
  have M := Aside0.mk fun wx => merges_no s wx hs (.inr (.inl ⟨by omega, h⟩))
  have hb : ((((s[0]'(by omega)).toNat : Nat) : Int) != 60) = true := by rw [bne_iff_ne]; omega
  clear h
  go_enter Try.func7, Try.ntmps7
  go_wp2_with fail
  refine (M.out _).mono ?_
  rintro e w1 ⟨rfl, hb⟩
  go_wp2
  go_ret
  exact ⟨rfl, hb⟩

theorem is_true (a : Nat) (c : Int) (h : (a : Int) = c) : ((a : Int) == c) = true ∧ ((a : Int) != c) = false := by
  subst h; simp
theorem is_false (a : Nat) (c : Int) (h : (a : Int) ≠ c) : ((a : Int) == c) = false ∧ ((a : Int) != c) = true := by
  constructor
  · rw [beq_eq_false_iff_ne]; exact h
  · rw [bne_iff_ne]; exact h

set_option maxRecDepth 100000 in
set_option maxHeartbeats 400000 in
theorem law_ne1 (s : ByteArray) (w : World) (hs : s.size ≤ 2147483647) (h2 : 2 ≤ s.size) (h0 : (s[0]'(by omega)).toNat = 60) (h : (s[1]'(by omega)).toNat ≠ 60) :
    Calls Try.prog 7 #[.string s] w fun e w' => e = .returned (.bool true) ∧ Below w.heap.size w w' := by
  have M := Aside0.mk fun wx => merges_no s wx hs (.inr (.inr ⟨by omega, h⟩))
  obtain ⟨_, b0⟩ := is_true (s[0]'(by omega)).toNat 60 (by omega)
  obtain ⟨_, b1⟩ := is_false (s[1]'(by omega)).toNat 60 (by omega)
  clear h h0
  go_enter Try.func7, Try.ntmps7
  go_wp2_with fail
  refine (M.out _).mono ?_
  rintro e w1 ⟨rfl, hb⟩
  go_wp2
  go_ret
  exact ⟨rfl, hb⟩

set_option maxRecDepth 100000 in
set_option maxHeartbeats 400000 in
theorem law_three (s : ByteArray) (w : World) (hs : s.size ≤ 3) (h2 : 2 ≤ s.size) (h0 : (s[0]'(by omega)).toNat = 60) (h1 : (s[1]'(by omega)).toNat = 60) :
    Calls Try.prog 7 #[.string s] w fun e w' => e = .returned (.bool true) ∧ Below w.heap.size w w' := by
  obtain ⟨_, b0⟩ := is_true (s[0]'(by omega)).toNat 60 (by omega)
  obtain ⟨_, b1⟩ := is_true (s[1]'(by omega)).toNat 60 (by omega)
  clear h1 h0
  go_enter Try.func7, Try.ntmps7
  go_wp2_with fail
  go_ret
  exact ⟨rfl, Below.refl _ _⟩

set_option maxRecDepth 100000 in
set_option maxHeartbeats 400000 in
theorem law_colon (s : ByteArray) (w : World) (hs : s.size ≤ 2147483647) (h4 : 4 ≤ s.size) (h0 : (s[0]'(by omega)).toNat = 60) (h1 : (s[1]'(by omega)).toNat = 60) (h2 : (s[2]'(by omega)).toNat ≠ 58) :
    Calls Try.prog 7 #[.string s] w fun e w' => e = .returned (.bool true) ∧ Below w.heap.size w w' := by
  obtain ⟨_, b0⟩ := is_true (s[0]'(by omega)).toNat 60 (by omega)
  obtain ⟨_, b1⟩ := is_true (s[1]'(by omega)).toNat 60 (by omega)
  obtain ⟨b2, _⟩ := is_false (s[2]'(by omega)).toNat 58 (by omega)
  clear h1 h0 h2
  go_enter Try.func7, Try.ntmps7
  go_wp2_with fail
  go_ret
  exact ⟨rfl, Below.refl _ _⟩

theorem one_char (s : ByteArray) (h4 : 4 ≤ s.size) : (s.extract 3 4).data.toList = [s[3]'(by omega)] := by
  rw [ByteArray.data_extract, Array.toList_extract, List.extract_eq_take_drop]
  have : s.data.toList.drop 3 = s[3]'(by omega) :: s.data.toList.drop 4 := by
    rw [List.drop_eq_getElem_cons (by rw [Array.length_toList, ByteArray.size_data]; omega)]
    rfl
  rw [this]; rfl

theorem has_char (s : ByteArray) (h4 : 4 ≤ s.size) : ∃ k, spec_Has.f k (s.extract 3 4) ⟨#[32, 10]⟩ = some ([(32 : UInt8), 10].contains (s[3]'(by omega))) := by
  have hz : (s.extract 3 4).size ≤ 2147483647 := by
    have := congrArg List.length (one_char s h4)
    rw [Array.length_toList, ByteArray.size_data, List.length_singleton] at this
    omega
  obtain ⟨k, h⟩ := MrgH.has_all (s.extract 3 4) ⟨#[32, 10]⟩ hz (by decide)
  refine ⟨k, h.trans ?_⟩
  rw [one_char s h4]
  simp

set_option maxRecDepth 100000 in
set_option maxHeartbeats 400000 in
theorem law_white (s : ByteArray) (w : World) (hs : s.size ≤ 2147483647) (h4 : 4 ≤ s.size) (h0 : (s[0]'(by omega)).toNat = 60) (h1 : (s[1]'(by omega)).toNat = 60) (h2 : (s[2]'(by omega)).toNat = 58) :
    Calls Try.prog 7 #[.string s] w fun e w' => e = .returned (.bool true) ∧ Below w.heap.size w w' := by
  obtain ⟨k, hk⟩ := has_char s h4
  cases hc : [(32 : UInt8), 10].contains (s[3]'(by omega))
  · rw [hc] at hk
    have HK := Aside0.mk hk
    obtain ⟨_, b0⟩ := is_true (s[0]'(by omega)).toNat 60 (by omega)
    obtain ⟨_, b1⟩ := is_true (s[1]'(by omega)).toNat 60 (by omega)
    obtain ⟨b2, _⟩ := is_true (s[2]'(by omega)).toNat 58 (by omega)
    clear h1 h0 h2 hk hc
    go_enter Try.func7, Try.ntmps7
    go_wp2_with fail
    refine (spec_Has.calls k _ _ false _ HK.out).mono ?_
    rintro e w' ⟨rfl, ⟨nd, rfl⟩⟩
    go_wp2_with fail
    go_ret
    exact ⟨rfl, pw_below_drewN (Below.refl _ _) _⟩
  · have h3 : (s[3]'(by omega)).toNat = 32 ∨ (s[3]'(by omega)).toNat = 10 := by
      rw [List.contains_iff_mem] at hc
      simp only [List.mem_cons, List.not_mem_nil, or_false] at hc
      rcases hc with e | e
      · left; rw [e]; rfl
      · right; rw [e]; rfl
    have M := Aside0.mk fun wx => merges_yes s wx hs (by omega) h0 h1 h2 h3
    rw [hc] at hk
    have HK := Aside0.mk hk
    obtain ⟨_, b0⟩ := is_true (s[0]'(by omega)).toNat 60 (by omega)
    obtain ⟨_, b1⟩ := is_true (s[1]'(by omega)).toNat 60 (by omega)
    obtain ⟨b2, _⟩ := is_true (s[2]'(by omega)).toNat 58 (by omega)
    clear h1 h0 h2 hk hc h3
    go_enter Try.func7, Try.ntmps7
    go_wp2_with fail
    refine (spec_Has.calls k _ _ true _ HK.out).mono ?_
    rintro e w' ⟨rfl, ⟨nd, rfl⟩⟩
    go_wp2_with fail
    refine (M.out _).mono ?_
    rintro e w1 ⟨rfl, hb⟩
    go_wp2
    go_ret
    exact ⟨rfl, (pw_below_drewN (Below.refl _ _) nd).trans hb⟩

/-- The law, for all its arguments. -/
theorem law_any (s : ByteArray) (w : World) (w0 : s.size ≤ 140737488351232) :
    Calls Try.prog 7 #[.string s] w fun e w' => e = .returned (.bool true) ∧ Below w.heap.size w w' := by
  by_cases hs : s.size ≤ 2147483647
  · by_cases h2 : s.size < 2
    · exact law_short s w h2
    · by_cases h0 : (s[0]'(by omega)).toNat = 60
      · by_cases h1 : (s[1]'(by omega)).toNat = 60
        · by_cases h4 : 4 ≤ s.size
          · by_cases hc : (s[2]'(by omega)).toNat = 58
            · exact law_white s w hs h4 h0 h1 hc
            · exact law_colon s w hs h4 h0 h1 hc
          · exact law_three s w (by omega) (by omega) h0 h1
        · exact law_ne1 s w hs (by omega) h0 h1
      · exact law_ne0 s w hs (by omega) h0
  · exact law_large s w hs w0

end Go.Proofs.Ytbicbdcbbeifhaa.MrgW
