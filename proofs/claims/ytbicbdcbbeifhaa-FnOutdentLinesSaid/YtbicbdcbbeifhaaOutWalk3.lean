/- Walks of FnOutdentLines: the entry, and the law. -/
import Derived.Test.YtbicbdcbbeifhaaOutWalk2
namespace Go.Proofs.Ytbicbdcbbeifhaa.OutW
open Go.RowKit Go.Proofs.Ytbicbdcbbeifhaa.PFnOutdentLines Go.Proofs.YtbicbdcbbeifhaaW.PrintWords Go.Proofs.YtbicbdcbbeifhaaW.PrintLast Go.Proofs.YtbicbdcbbeifhaaW.PrintMore
open Go.Proofs.Ytbicbdcbbeifhaa.OutP Go.Proofs.Ytbicbdcbbeifhaa.OutH
set_option linter.unusedSimpArgs false
set_option linter.unusedVariables false

set_option maxRecDepth 100000 in
set_option maxHeartbeats 400000 in
theorem trimIndent_zero (p : Value) (s : ByteArray) (w : World) :
    Calls Try.prog 37 #[p, .int .i64 0, .string s] w fun e w' => e = .returned (.string s) ∧ Below w.heap.size w w' := by
  go_enter Try.func37, Try.ntmps37
  go_wp2
  go_ret
  exact ⟨rfl, below_alloc (Below.refl _ _) _⟩

theorem trimIndent_all (p : Value) (n : Nat) (s : ByteArray) (w : World) (hn : n ≤ 200) (hs : s.size ≤ 2147483647) (h13 : ∀ c ∈ s.data.toList, c ≠ 13) :
    Calls Try.prog 37 #[p, .int .i64 n, .string s] w fun e w' => e = .returned (.string (OutP.mk (cut n n s.data.toList))) ∧ Below w.heap.size w w' := by
  by_cases h : n = 0
  · subst h
    rw [cut_zero, mk_data]
    exact trimIndent_zero p s w
  · exact trimIndent_any p n s w (by omega) hn hs h13

set_option maxRecDepth 100000 in
set_option maxHeartbeats 400000 in
theorem zzOut_any (n : Nat) (s : ByteArray) (w : World) (hn : n ≤ 200) (hs : s.size ≤ 2147483647) (h13 : ∀ c ∈ s.data.toList, c ≠ 13) :
    Calls Try.prog 27 #[.int .i64 n, .string s] w fun e w' => e = .returned (.string (OutP.mk (cut n n s.data.toList))) ∧ Below w.heap.size w w' := by
  have HA := Aside0.mk fun p wx => trimIndent_all p n s wx hn hs h13
  clear h13
  generalize OutP.mk (cut n n s.data.toList) = r at *
  go_enter Try.func27, Try.ntmps27
  go_wp2_with fail
  refine (HA.out _ _).mono ?_
  rintro e w' ⟨rfl, hb⟩
  go_wp2
  go_ret
  exact ⟨rfl, (below_alloc (Below.refl _ _) _ : Below w.heap.size w _).trans (below_down hb (by simp))⟩

set_option maxRecDepth 100000 in
set_option maxHeartbeats 400000 in
theorem outdented_any (n : Nat) (s : ByteArray) (w : World) (hn : n ≤ 200) (hs : s.size ≤ 2147483647) (h13 : ∀ c ∈ s.data.toList, c ≠ 13) :
    Calls Try.prog 18 #[.string s, .int .i64 n] w fun e w' => e = .returned (.string (OutP.mk (cut n n s.data.toList))) ∧ Below w.heap.size w w' := by
  have HA := Aside0.mk fun wx => zzOut_any n s wx hn hs h13
  have hsm : impl_small.f (n : Int) = some (n : Int) := by unfold impl_small.f; rw [if_neg (by omega), if_neg (by omega)]
  have HS := Aside0.mk hsm
  clear h13 hsm
  generalize OutP.mk (cut n n s.data.toList) = r at *
  go_enter Try.func18, Try.ntmps18
  go_wp2_with fail
  refine (impl_small.calls (n : Int) (n : Int) _ HS.out).mono ?_
  rintro e w' ⟨rfl, ⟨nd, rfl⟩⟩
  go_wp2_with fail
  refine (HA.out _).mono ?_
  rintro e w' ⟨rfl, hb⟩
  go_wp2
  go_ret
  exact ⟨rfl, (pw_below_drewN (Below.refl _ _) nd).trans hb⟩

set_option maxRecDepth 100000 in
set_option maxHeartbeats 400000 in
theorem law_large (s : ByteArray) (n : Int) (w : World) (hs : ¬ s.size ≤ 2147483647) (hs' : s.size ≤ 140737488351232) :
    Calls Try.prog 8 #[.string s, .int .i64 n] w fun e w' => e = .returned (.bool true) ∧ Below w.heap.size w w' := by
  go_enter Try.func8, Try.ntmps8
  go_wp2_with fail
  go_ret
  exact ⟨rfl, Below.refl _ _⟩

set_option maxRecDepth 100000 in
set_option maxHeartbeats 400000 in
theorem law_out (s : ByteArray) (n : Int) (w : World) (hs : s.size ≤ 2147483647) (hn : n < 0 ∨ 200 < n) :
    Calls Try.prog 8 #[.string s, .int .i64 n] w fun e w' => e = .returned (.bool true) ∧ Below w.heap.size w w' := by
  rcases hn with h | h
  · have h1 : decide (n < 0) = true := by simpa using h
    go_enter Try.func8, Try.ntmps8
    go_wp2_with fail
    go_ret
    exact ⟨rfl, Below.refl _ _⟩
  · have h1 : decide (n < 0) = false := by simp; omega
    have h2 : decide (n > 200) = true := by simp; omega
    go_enter Try.func8, Try.ntmps8
    go_wp2_with fail
    go_ret
    exact ⟨rfl, Below.refl _ _⟩

set_option maxRecDepth 100000 in
set_option maxHeartbeats 400000 in
theorem law_in (s : ByteArray) (n : Nat) (w : World) (hs : s.size ≤ 2147483647) (hn : n ≤ 200) :
    Calls Try.prog 8 #[.string s, .int .i64 n] w fun e w' => e = .returned (.bool true) ∧ Below w.heap.size w w' := by
  have h1 : decide ((n : Int) < 0) = false := by simp
  have h2 : decide ((n : Int) > 200) = false := by simp; omega
  obtain ⟨k, hk⟩ := has_all s ⟨#[13]⟩ hs (by decide)
  cases hc : s.data.toList.any fun c => (⟨#[13]⟩ : ByteArray).data.toList.contains c
  · rw [hc] at hk
    have h13 : ∀ c ∈ s.data.toList, c ≠ 13 := by
      intro c hm e
      have := List.any_eq_false.1 hc c hm
      apply this
      rw [e]; rfl
    have HA := Aside0.mk fun wx => outdented_any n s wx hn hs h13
    obtain ⟨k', hk'⟩ := cut_told s n hs hn
    have HK := Aside0.mk hk
    have HC := Aside0.mk hk'
    clear hk hk' hc h13
    generalize OutP.mk (cut n n s.data.toList) = r at *
    go_enter Try.func8, Try.ntmps8
    go_wp2_with fail
    refine (spec_Has.calls k _ _ false _ HK.out).mono ?_
    rintro e w' ⟨rfl, ⟨nd, rfl⟩⟩
    go_wp2_with fail
    refine (HA.out _).mono ?_
    rintro e w1 ⟨rfl, hb⟩
    go_wp2_with fail
    refine (spec_Cut.calls k' s n r _ HC.out).mono ?_
    rintro e w2 ⟨rfl, hb2⟩
    have HB := Aside0.mk (below_then ((pw_below_drewN (Below.refl _ _) nd).trans hb) ((pw_below_drewN (Below.refl _ _) nd).trans hb).size hb2)
    clear hb hb2
    go_wp2
    go_ret
    exact ⟨rfl, HB.out⟩
  · rw [hc] at hk
    have HK := Aside0.mk hk
    clear hk hc
    go_enter Try.func8, Try.ntmps8
    go_wp2_with fail
    refine (spec_Has.calls k _ _ true _ HK.out).mono ?_
    rintro e w' ⟨rfl, ⟨nd, rfl⟩⟩
    go_wp2_with fail
    go_ret
    exact ⟨rfl, pw_below_drewN (Below.refl _ _) _⟩

/-- The law, for all its arguments. -/
theorem law_any (s : ByteArray) (n : Int) (w : World) (w0 : s.size ≤ 140737488351232) (w1 : (Lit.int .i64 n).wf = true) :
    Calls Try.prog 8 #[.string s, .int .i64 n] w fun e w' => e = .returned (.bool true) ∧ Below w.heap.size w w' := by
  by_cases hs : s.size ≤ 2147483647
  · by_cases hn : n < 0 ∨ 200 < n
    · exact law_out s n w hs hn
    · obtain ⟨m, rfl⟩ : ∃ m : Nat, n = m := ⟨n.toNat, by omega⟩
      exact law_in s m w hs (by omega)
  · exact law_large s n w hs w0

end Go.Proofs.Ytbicbdcbbeifhaa.OutW
