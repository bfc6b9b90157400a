/- Walks of FnPartAdded: Tokens.Add. -/
import Derived.Test.YtbicbdcbbeifhaaAddWalk5
namespace Go.Proofs.Ytbicbdcbbeifhaa.AddW
open Go.RowKit Go.Proofs.Ytbicbdcbbeifhaa.PFnPartAdded Go.Proofs.YtbicbdcbbeifhaaW.PrintWords Go.Proofs.YtbicbdcbbeifhaaW.PrintLast Go.Proofs.YtbicbdcbbeifhaaW.PrintMore
open Go.Proofs.Ytbicbdcbbeifhaa.AddM
set_option linter.unusedSimpArgs false
set_option linter.unusedVariables false

/-- One round of Add: what the call of add leaves. -/
theorem add_round (B : Nat) (w0 wr : World) (q : Nat) (ts : List Tk) (tb pb : List Nat) (vm : Value) (k b : Nat) (h : Adding B w0 wr q ts tb pb vm k) (hl : tb.length = ts.length) (hp : pb.length = ts.length) (hn : ts.length ≤ 1000) (hB : B ≤ wr.heap.size) (hBq : B ≤ q) (hb : tb[k]? = some b) :
    Calls Try.prog 32 #[.pointer (some ⟨q, 0, none⟩), .pointer (some ⟨b, 0, none⟩)] wr fun e w' => e = .returned (.tuple #[]) ∧ Adding B w0 w' q ts tb pb vm (k + 1) := by
  have hk : k < tb.length := (List.getElem?_eq_some_iff.1 hb).1
  obtain ⟨v, hq, hown, hz, hs, hap⟩ := h.lst
  cases k with
  | zero =>
    obtain rfl := hz rfl
    exact (add_first B w0 wr q b h.bel hB hBq hq).mono fun e w' ⟨he, hg⟩ => ⟨he, adding_first h hb hq hg⟩
  | succ m =>
    obtain ⟨gg, cap, rfl⟩ := hs (by omega)
    obtain ⟨b', hb'⟩ : ∃ b', tb[m]? = some b' := ⟨_, List.getElem?_eq_getElem (by omega)⟩
    obtain ⟨p, hp1⟩ : ∃ p, pb[m + 1]? = some p := ⟨_, List.getElem?_eq_getElem (by omega)⟩
    obtain ⟨p', hp1'⟩ : ∃ p, pb[m]? = some p := ⟨_, List.getElem?_eq_getElem (by omega)⟩
    obtain ⟨t, ht⟩ : ∃ t, ts[m + 1]? = some t := ⟨_, List.getElem?_eq_getElem (by omega)⟩
    obtain ⟨t', ht'⟩ : ∃ t, ts[m]? = some t := ⟨_, List.getElem?_eq_getElem (by omega)⟩
    obtain ⟨a1, a2, a3, a4⟩ := h.toks.2 (m + 1) t b p ht hb hp1
    obtain ⟨d1, d2, d3, d4⟩ := h.toks.2 m t' b' p' ht' hb' hp1'
    have hne : b ≠ b' := by
      intro e
      rw [e, ← hb'] at hb
      have := (List.getElem?_inj hk h.toks.1).1 hb
      omega
    have n1 : nxk tb (m + 1) (m + 1) = none := by unfold nxk; rw [if_neg (by omega)]
    have n2 : pvk tb (m + 1) (m + 1) = none := by unfold pvk; rw [if_neg (by omega)]
    have n3 : nxk tb (m + 1) m = none := by unfold nxk; rw [if_neg (by omega)]
    rw [n1, n2] at a3
    rw [n3] at d3
    have hx : (ptrs (tb.take (m + 1)))[m]? = some (ptr (some b')) := by
      rw [ptrs, List.getElem?_map, List.getElem?_take, if_pos (by omega), hb']
      rfl
    refine (add_next B w0 wr q b b' gg m cap _ _ _ h.bel hB hBq a1 d1 (by omega) hq hown hx a3 d3 rfl rfl hne).mono ?_
    rintro e w' ⟨he, hg, h8, h7⟩
    exact ⟨he, adding_next h hb hb' hp1 hp1' ht ht' hq hown hap hg h8 h7⟩

set_option maxRecDepth 100000 in
set_option maxHeartbeats 1000000 in
theorem addAll_any (B : Nat) (w0 w : World) (q : Nat) (ts : List Tk) (tb pb : List Nat) (A : Option Addr) (c : Nat) (h : Adding B w0 w q ts tb pb (.slice A ts.length c) 0) (hl : tb.length = ts.length) (hp : pb.length = ts.length) (hn : ts.length ≤ 1000) (hB : B ≤ w.heap.size) (hB0 : B = w0.heap.size) (hBq : B ≤ q) :
    Calls Try.prog 24 #[.pointer (some ⟨q, 0, none⟩), .slice A ts.length c] w fun e w' => e = .returned (.tuple #[]) ∧ Adding B w0 w' q ts tb pb (.slice A ts.length c) ts.length := by
  have H := Aside0.mk h
  have HL := Aside0.mk hl
  have HP := Aside0.mk hp
  subst hB0
  clear h hl hp
  go_enter Try.func24, Try.ntmps24
  go_wp2
  go_loopw [5, 8] (fun _ i wr => ∃ k : Nat, k ≤ ts.length ∧ i = .int .i64 k ∧ Aside0 (Adding w0.heap.size w0 wr q ts tb pb (.slice A ts.length c) k)) (fun _ i _ => ts.length - (intOf i).toNat)
  case atStart => exact ⟨0, by omega, rfl, H⟩
  case round =>
    obtain ⟨k, hk, rfl, hA⟩ := hrel
    clear H
    by_cases hlt : k < ts.length
    · obtain ⟨b, hb⟩ : ∃ b, tb[k]? = some b := ⟨_, List.getElem?_eq_getElem (by rw [HL.out]; exact hlt)⟩
      have hr := hA.out.row
      obtain ⟨g, cap', hv, _, _⟩ := hr.form (by omega)
      simp only [Value.slice.injEq] at hv
      obtain ⟨rfl, _, rfl⟩ := hv
      have hcell : wr.cell? ⟨g, k, none⟩ = some (.pointer (some ⟨b, 0, none⟩)) := by
        have := hr.cells (g := g) rfl k (ptr (some b)) (by rw [ptrs, List.getElem?_map, hb]; rfl)
        rwa [add_plain] at this
      have hBw : w0.heap.size ≤ wr.heap.size := hA.out.bel.size
      have R := Aside0.mk (add_round w0.heap.size w0 wr q ts tb pb _ k b hA.out HL.out HP.out hn hBw hBq hb)
      clear hr hb hA
      go_wp2_with (go_at_call 32; refine R.out.mono ?_; rintro e w' ⟨rfl, hA'⟩; have HA := Aside0.mk hA'; clear hA')
      go_roundw
      case rel => exact ⟨k + 1, by omega, by go_num, HA⟩
      case measure => simp [intOf]; omega
    · obtain rfl : k = ts.length := by omega
      go_wp2
      go_end0
      exact ⟨rfl, hA.out⟩

end Go.Proofs.Ytbicbdcbbeifhaa.AddW
