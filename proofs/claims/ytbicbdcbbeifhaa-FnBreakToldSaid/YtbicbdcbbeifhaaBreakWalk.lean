/- The walk of FnBreakTold. -/
import Derived.Test.YtbicbdcbbeifhaaBreakPure
import Derived.WalkSpells
namespace Go.Proofs.Ytbicbdcbbeifhaa.BrkW
open Go.RowKit Go.Proofs.Ytbicbdcbbeifhaa.PFnBreakTold Go.Proofs.YtbicbdcbbeifhaaW.PrintWords Go.Proofs.YtbicbdcbbeifhaaW.PrintLast Go.Proofs.YtbicbdcbbeifhaaW.PrintMore
open Go.Proofs.Ytbicbdcbbeifhaa.BrkP
set_option linter.unusedSimpArgs false
set_option linter.unusedVariables false

/-- The loop's relation: so many are counted, and so many are still to come. -/
def Left (s sub : ByteArray) (n k : Nat) : Prop := k ≤ s.size ∧ n ≤ k ∧ n + cnt sub.data.toList (s.data.toList.drop k) = cnt sub.data.toList s.data.toList

theorem cut_at (s : ByteArray) (k m : Nat) : (s.extract k (k + m)).toList = (s.data.toList.drop k).take m := by
  rw [ByteArray.toList_eq, ByteArray.data_extract, Array.toList_extract, List.extract_eq_take_drop]
  congr 1; omega

theorem left_yes (s sub : ByteArray) (a k : Nat) (hb : 1 ≤ sub.size) (h : Left s sub a k) (hlt : k + sub.size ≤ s.size) (he : ((s.extract k (k + sub.size)).toList == sub.toList) = true) : Left s sub (a + 1) (k + sub.size) := by
  obtain ⟨h1, h2, h3⟩ := h
  refine ⟨hlt, by omega, ?_⟩
  have e : (s.data.toList.drop k).take sub.data.toList.length = sub.data.toList := by
    have := beq_iff_eq.1 he
    rw [cut_at, ByteArray.toList_eq] at this
    rwa [Array.length_toList, ByteArray.size_data]
  rw [cnt_yes _ _ (by rw [Array.length_toList, ByteArray.size_data]; omega) (by simp [ByteArray.size_data]; omega) e, List.drop_drop] at h3
  rw [Array.length_toList, ByteArray.size_data] at h3
  omega

theorem left_no (s sub : ByteArray) (a k : Nat) (hb : 1 ≤ sub.size) (h : Left s sub a k) (hlt : k + sub.size ≤ s.size) (he : ((s.extract k (k + sub.size)).toList == sub.toList) = false) : Left s sub a (k + 1) := by
  obtain ⟨h1, h2, h3⟩ := h
  refine ⟨by omega, by omega, ?_⟩
  have e : ¬ (s.data.toList.drop k).take sub.data.toList.length = sub.data.toList := by
    intro hh
    have := beq_eq_false_iff_ne.1 he
    rw [cut_at, ByteArray.toList_eq] at this
    rw [Array.length_toList, ByteArray.size_data] at hh
    exact this hh
  rw [cnt_no _ _ (by rw [Array.length_toList, ByteArray.size_data]; omega) (by simp [ByteArray.size_data]; omega) e, List.drop_drop] at h3
  exact h3

theorem left_end (s sub : ByteArray) (a k : Nat) (h : Left s sub a k) (hlt : ¬ k + sub.size ≤ s.size) : cnt sub.data.toList s.data.toList = a := by
  obtain ⟨h1, h2, h3⟩ := h
  rw [cnt_end _ (s.data.toList.drop k) (by simp [ByteArray.size_data]; omega)] at h3
  omega

theorem ret_int {k : IntKind} {a b : Int} (h : a = b) : Ending.returned (.int k a) = .returned (.int k b) := by rw [h]

set_option maxRecDepth 100000 in
set_option maxHeartbeats 400000 in
theorem zzCount_any (s sub : ByteArray) (w : World) (hs : s.size ≤ 4294967296) (hb0 : 1 ≤ sub.size) (hb : sub.size ≤ 4294967296) :
    Calls Try.prog 30 #[.string s, .string sub] w fun e w' => e = .returned (.int .i64 (cnt sub.data.toList s.data.toList)) ∧ w = w' := by
  have h0 : ((sub.size : Int) == 0) = false := by rw [beq_eq_false_iff_ne]; omega
  go_enter Try.func30, Try.ntmps30
  go_wp2
  go_loop [5, 6] (fun n i => ∃ a k : Nat, Left s sub a k ∧ n = .int .i64 a ∧ i = .int .i64 k) (fun _ i => s.size - (intOf i).toNat)
  case atStart => exact ⟨0, 0, ⟨by omega, by omega, by simp⟩, rfl, rfl⟩
  case round =>
    obtain ⟨a, k, hL, rfl, rfl⟩ := hrel
    have hk : k ≤ s.size := hL.1
    have ha : a ≤ k := hL.2.1
    have HL := Aside0.mk hL
    clear hL
    by_cases hlt : k + sub.size ≤ s.size
    · cases he : (s.extract k (k + sub.size)).toList == sub.toList
      · have HY := Aside0.mk (left_no s sub a k hb0 HL.out hlt he)
        go_wp2
        go_round
        case rel => exact ⟨a, k + 1, HY.out, rfl, by go_num⟩
        case measure => simp [intOf]; omega
      · have HY := Aside0.mk (left_yes s sub a k hb0 HL.out hlt he)
        go_wp2
        go_round
        case rel => exact ⟨a + 1, k + sub.size, HY.out, by go_num, by go_num⟩
        case measure => simp [intOf]; omega
    · have HY := Aside0.mk (left_end s sub a k HL.out hlt)
      go_wp2
      go_ret
      exact ⟨ret_int (by rw [HY.out]), rfl⟩

theorem count_is (s sub : ByteArray) (n : Nat) (w : World) (hs : s.size ≤ 4294967296) (hb0 : 1 ≤ sub.size) (hb : sub.size ≤ 4294967296) (h : cnt sub.data.toList s.data.toList = n) :
    Calls Try.prog 30 #[.string s, .string sub] w fun e w' => e = .returned (.int .i64 (n : Int)) ∧ w = w' := by
  subst h
  exact zzCount_any s sub w hs hb0 hb

/-- The counts of the three breaks in a text. -/
structure Counts (s : ByteArray) (n r rn : Nat) : Prop where
  nc : cnt [10] s.data.toList = n
  rc : cnt [13] s.data.toList = r
  rnc : cnt [13, 10] s.data.toList = rn

set_option maxRecDepth 100000 in
set_option maxHeartbeats 400000 in
theorem detect_both (s : ByteArray) (n : Nat) (w : World) (hs : s.size ≤ 4294967296) (H : Counts s n n n) :
    Calls Try.prog 22 #[.string s] w fun e w' => e = .returned (.string ⟨#[13, 10]⟩) ∧ w = w' := by
  go_enter Try.func22, Try.ntmps22
  go_wp2_with fail
  refine (count_is s _ n _ hs (by decide) (by decide) H.nc).mono ?_
  rintro e w' ⟨rfl, rfl⟩
  go_wp2_with fail
  refine (count_is s _ n _ hs (by decide) (by decide) H.rc).mono ?_
  rintro e w' ⟨rfl, rfl⟩
  go_wp2_with fail
  refine (count_is s _ n _ hs (by decide) (by decide) H.rnc).mono ?_
  rintro e w' ⟨rfl, rfl⟩
  go_wp2
  go_ret
  exact ⟨rfl, rfl⟩

set_option maxRecDepth 100000 in
set_option maxHeartbeats 400000 in
theorem detect_cr (s : ByteArray) (n : Nat) (w : World) (hs : s.size ≤ 4294967296) (hn : 1 ≤ n) (H : Counts s 0 n 0) :
    Calls Try.prog 22 #[.string s] w fun e w' => e = .returned (.string ⟨#[13]⟩) ∧ w = w' := by
  have hb : ((n : Int) == 0) = false := by rw [beq_eq_false_iff_ne]; omega
  go_enter Try.func22, Try.ntmps22
  go_wp2_with fail
  refine (count_is s _ 0 _ hs (by decide) (by decide) H.nc).mono ?_
  rintro e w' ⟨rfl, rfl⟩
  go_wp2_with fail
  refine (count_is s _ n _ hs (by decide) (by decide) H.rc).mono ?_
  rintro e w' ⟨rfl, rfl⟩
  go_wp2_with fail
  refine (count_is s _ 0 _ hs (by decide) (by decide) H.rnc).mono ?_
  rintro e w' ⟨rfl, rfl⟩
  go_wp2
  go_ret
  exact ⟨rfl, rfl⟩

set_option maxRecDepth 100000 in
set_option maxHeartbeats 400000 in
theorem detect_lf (s : ByteArray) (n : Nat) (w : World) (hs : s.size ≤ 4294967296) (hn : 1 ≤ n) (H : Counts s n 0 0) :
    Calls Try.prog 22 #[.string s] w fun e w' => e = .returned (.string ⟨#[10]⟩) ∧ w = w' := by
  have hb : ((n : Int) == 0) = false := by rw [beq_eq_false_iff_ne]; omega
  go_enter Try.func22, Try.ntmps22
  go_wp2_with fail
  refine (count_is s _ n _ hs (by decide) (by decide) H.nc).mono ?_
  rintro e w' ⟨rfl, rfl⟩
  go_wp2_with fail
  refine (count_is s _ 0 _ hs (by decide) (by decide) H.rc).mono ?_
  rintro e w' ⟨rfl, rfl⟩
  go_wp2_with fail
  refine (count_is s _ 0 _ hs (by decide) (by decide) H.rnc).mono ?_
  rintro e w' ⟨rfl, rfl⟩
  go_wp2
  go_ret
  exact ⟨rfl, rfl⟩

set_option maxHeartbeats 400000 in
theorem lineBreak_any (s r : ByteArray) (w : World) (h : Calls Try.prog 22 #[.string s] w fun e w' => e = .returned (.string r) ∧ w = w') :
    Calls Try.prog 13 #[.string s] w fun e w' => e = .returned (.string r) ∧ w = w' := by
  have H := Aside0.mk h
  clear h
  go_enter Try.func13, Try.ntmps13
  go_wp2_with fail
  refine H.out.mono ?_
  rintro e w' ⟨rfl, rfl⟩
  go_wp2
  go_ret
  exact ⟨rfl, rfl⟩

/-! ### The law -/
theorem has_one (s : ByteArray) (c : UInt8) (hs : s.size ≤ 2147483647) : ∃ k, spec_Has.f k s ⟨#[c]⟩ = some (s.data.toList.contains c) := by
  obtain ⟨k, h⟩ := has_all s ⟨#[c]⟩ hs (by show 1 ≤ _; omega)
  refine ⟨k, h.trans ?_⟩
  congr 1
  rw [Bool.eq_iff_iff, List.any_eq_true, List.contains_iff_mem]
  constructor
  · rintro ⟨x, hx, hc⟩
    have : x = c := by simpa using hc
    rwa [← this]
  · intro hc
    exact ⟨c, hc, by simp⟩

theorem counts_both (s : ByteArray) (h13 : s.data.toList.contains 13 = false) : Counts ⟨(brk true s.data.toList).toArray⟩ (s.data.toList.count 10) (s.data.toList.count 10) (s.data.toList.count 10) := by
  have hne : ∀ c ∈ s.data.toList, c ≠ 13 := by
    intro c hc e
    subst e
    rw [List.contains_iff_mem.2 hc] at h13
    simp at h13
  obtain ⟨a, b, c⟩ := count13_both _ hne
  exact ⟨by rw [cnt_one]; exact b, by rw [cnt_one]; exact a, c⟩

theorem counts_cr (s : ByteArray) (h13 : s.data.toList.contains 13 = false) : Counts ⟨(brk false s.data.toList).toArray⟩ 0 (s.data.toList.count 10) 0 := by
  have hne : ∀ c ∈ s.data.toList, c ≠ 13 := by
    intro c hc e
    subst e
    rw [List.contains_iff_mem.2 hc] at h13
    simp at h13
  obtain ⟨a, b⟩ := count13_one _ hne
  exact ⟨by rw [cnt_one]; exact b, by rw [cnt_one]; exact a, cnt_none _ (.inl b)⟩

theorem counts_lf (s : ByteArray) (h13 : s.data.toList.contains 13 = false) : Counts s (s.data.toList.count 10) 0 0 := by
  have h0 : s.data.toList.count 13 = 0 := by
    rw [List.count_eq_zero]
    intro hc
    rw [List.contains_iff_mem.2 hc] at h13
    simp at h13
  exact ⟨cnt_one _ _, by rw [cnt_one]; exact h0, cnt_none _ (.inr h0)⟩

theorem brk_len (b : Bool) (l : List UInt8) : (brk b l).length ≤ 2 * l.length := by
  induction l with
  | nil => simp [brk]
  | cons c l ih =>
    rw [brk_cons, List.length_append, List.length_cons]
    have : (brk1 b c).length ≤ 2 := by
      unfold brk1
      split
      · cases b <;> simp
      · simp
    omega

theorem brk_size (b : Bool) (s : ByteArray) (hs : s.size ≤ 2147483647) : (⟨(brk b s.data.toList).toArray⟩ : ByteArray).size ≤ 4294967296 := by
  have h1 := brk_len b s.data.toList
  have h2 : s.data.toList.length = s.size := by rw [Array.length_toList, ByteArray.size_data]
  show (brk b s.data.toList).toArray.size ≤ _
  rw [List.size_toArray]
  omega

set_option maxRecDepth 100000 in
set_option maxHeartbeats 400000 in
theorem law_large (s : ByteArray) (n : Int) (w : World) (hs : ¬ s.size ≤ 2147483647) (hs' : s.size ≤ 140737488351232) :
    Calls Try.prog 5 #[.string s, .int .i64 n] w fun e w' => e = .returned (.bool true) ∧ Below w.heap.size w w' := by
  go_enter Try.func5, Try.ntmps5
  go_wp2_with fail
  go_ret
  exact ⟨rfl, Below.refl _ _⟩

set_option maxRecDepth 100000 in
set_option maxHeartbeats 400000 in
theorem law_out (s : ByteArray) (n : Int) (w : World) (hs : s.size ≤ 2147483647) (h : s.data.toList.contains 10 = false ∨ s.data.toList.contains 13 = true) :
    Calls Try.prog 5 #[.string s, .int .i64 n] w fun e w' => e = .returned (.bool true) ∧ Below w.heap.size w w' := by
  obtain ⟨k, hk⟩ := has_one s 10 hs
  obtain ⟨k', hk'⟩ := has_one s 13 hs
  by_cases h10 : s.data.toList.contains 10 = false
  · rw [h10] at hk
    have HK := Aside0.mk hk
    clear hk hk' h10 h
    go_enter Try.func5, Try.ntmps5
    go_wp2_with fail
    refine (spec_Has.calls k s _ false _ HK.out).mono ?_
    rintro e w' ⟨rfl, ⟨nd, rfl⟩⟩
    go_wp2_with fail
    go_ret
    exact ⟨rfl, pw_below_drewN (Below.refl _ _) _⟩
  · rw [Bool.not_eq_false] at h10
    rw [h10] at hk
    rw [h10] at h
    rw [h.resolve_left (by simp)] at hk'
    have HK := Aside0.mk hk
    have HK' := Aside0.mk hk'
    clear hk hk' h10 h
    go_enter Try.func5, Try.ntmps5
    go_wp2_with fail
    refine (spec_Has.calls k s _ true _ HK.out).mono ?_
    rintro e w' ⟨rfl, ⟨nd, rfl⟩⟩
    go_wp2_with fail
    refine (spec_Has.calls k' s _ true _ HK'.out).mono ?_
    rintro e w' ⟨rfl, ⟨nd, rfl⟩⟩
    go_wp2_with fail
    go_ret
    exact ⟨rfl, pw_below_drewN (Below.refl _ _) _⟩

set_option maxRecDepth 100000 in
set_option maxHeartbeats 400000 in
theorem law_in (s : ByteArray) (n : Int) (w : World) (hs : s.size ≤ 2147483647) (h10 : s.data.toList.contains 10 = true) (h13 : s.data.toList.contains 13 = false) :
    Calls Try.prog 5 #[.string s, .int .i64 n] w fun e w' => e = .returned (.bool true) ∧ Below w.heap.size w w' := by
  obtain ⟨k, hk⟩ := has_one s 10 hs
  obtain ⟨k', hk'⟩ := has_one s 13 hs
  rw [h10] at hk
  rw [h13] at hk'
  have HK := Aside0.mk hk
  have HK' := Aside0.mk hk'
  obtain ⟨kb, hb⟩ := broken_all s hs true
  obtain ⟨kc, hc⟩ := broken_all s hs false
  have HB := Aside0.mk hb
  have HC := Aside0.mk hc
  have hcnt : 1 ≤ s.data.toList.count 10 := List.count_pos_iff.2 (List.contains_iff_mem.1 h10)
  have L1 := Aside0.mk fun wx => lineBreak_any _ _ wx (detect_both _ _ wx (brk_size true s hs) (counts_both s h13))
  have L2 := Aside0.mk fun wx => lineBreak_any _ _ wx (detect_cr _ _ wx (brk_size false s hs) hcnt (counts_cr s h13))
  have L3 := Aside0.mk fun wx => lineBreak_any _ _ wx (detect_lf s _ wx (by omega) hcnt (counts_lf s h13))
  have hcn := Aside0.mk hcnt
  clear hk hk' hb hc h10 h13 hcnt
  by_cases n1 : n = 1
  · subst n1
    go_enter Try.func5, Try.ntmps5
    go_wp2_with fail
    refine (spec_Has.calls k s _ true _ HK.out).mono ?_
    rintro e w' ⟨rfl, ⟨nd, rfl⟩⟩
    go_wp2_with fail
    refine (spec_Has.calls k' s _ false _ HK'.out).mono ?_
    rintro e w' ⟨rfl, ⟨nd', rfl⟩⟩
    go_wp2_with fail
    refine (spec_Broken.calls kb s true _ _ HB.out).mono ?_
    rintro e w2 ⟨rfl, hbel⟩
    go_wp2_with fail
    refine (L1.out _).mono ?_
    rintro e w' ⟨rfl, rfl⟩
    go_wp2
    go_ret
    exact ⟨rfl, (pw_below_drewN (Below.refl _ _) _).trans hbel⟩
  · have b1 : (n == 1) = false := beq_eq_false_iff_ne.2 n1
    by_cases n2 : n = 2
    · subst n2
      go_enter Try.func5, Try.ntmps5
      go_wp2_with fail
      refine (spec_Has.calls k s _ true _ HK.out).mono ?_
      rintro e w' ⟨rfl, ⟨nd, rfl⟩⟩
      go_wp2_with fail
      refine (spec_Has.calls k' s _ false _ HK'.out).mono ?_
      rintro e w' ⟨rfl, ⟨nd', rfl⟩⟩
      go_wp2_with fail
      refine (spec_Broken.calls kc s false _ _ HC.out).mono ?_
      rintro e w2 ⟨rfl, hbel⟩
      go_wp2_with fail
      refine (L2.out _).mono ?_
      rintro e w' ⟨rfl, rfl⟩
      go_wp2
      go_ret
      exact ⟨rfl, (pw_below_drewN (Below.refl _ _) _).trans hbel⟩
    · have b2 : (n == 2) = false := beq_eq_false_iff_ne.2 n2
      clear n1 n2
      go_enter Try.func5, Try.ntmps5
      go_wp2_with fail
      refine (spec_Has.calls k s _ true _ HK.out).mono ?_
      rintro e w' ⟨rfl, ⟨nd, rfl⟩⟩
      go_wp2_with fail
      refine (spec_Has.calls k' s _ false _ HK'.out).mono ?_
      rintro e w' ⟨rfl, ⟨nd', rfl⟩⟩
      go_wp2_with fail
      refine (L3.out _).mono ?_
      rintro e w' ⟨rfl, rfl⟩
      go_wp2
      go_ret
      exact ⟨rfl, pw_below_drewN (Below.refl _ _) _⟩

/-- The law, for all its arguments. -/
theorem law_any (s : ByteArray) (n : Int) (w : World) (w0 : s.size ≤ 140737488351232) (w1 : (Lit.int .i64 n).wf = true) :
    Calls Try.prog 5 #[.string s, .int .i64 n] w fun e w' => e = .returned (.bool true) ∧ Below w.heap.size w w' := by
  by_cases hs : s.size ≤ 2147483647
  · cases h10 : s.data.toList.contains 10
    · exact law_out s n w hs (.inl h10)
    · cases h13 : s.data.toList.contains 13
      · exact law_in s n w hs h10 h13
      · exact law_out s n w hs (.inr h13)
  · exact law_large s n w hs w0

end Go.Proofs.Ytbicbdcbbeifhaa.BrkW
