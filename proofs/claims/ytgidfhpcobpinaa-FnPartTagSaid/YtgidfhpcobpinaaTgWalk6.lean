/- Walks of FnPartTag: letters and digits, and the scanned tokens as data. -/
import Derived.Test.YtgidfhpcobpinaaTgWalk5
import Derived.Test.YtgidfhpcobpinaaTgPlain
import Derived.Lib.OthersKept
namespace Go.Proofs.Ytgidfhpcobpinaa.TgW
open Go.RowKit Go.Proofs.Ytgidfhpcobpinaa.PFnPartTag Go.Proofs.YtgidfhpcobpinaaW.PrintWords Go.Proofs.YtgidfhpcobpinaaW.PrintLast Go.Proofs.YtgidfhpcobpinaaW.PrintMore
open Go.Proofs.Ytgidfhpcobpinaa.AddM Go.Proofs.Ytgidfhpcobpinaa.Rn Go.Proofs.Ytgidfhpcobpinaa.TgP
attribute [local go_sem ↓] Go.wp_at_zero Go.wp_at_succ
set_option linter.unusedSimpArgs false
set_option linter.unusedVariables false

theorem own_mono {w : World} {base base' : Nat} {e : TypeId} {size : Nat} {v : Value} {n : Nat} {xs : List Value} (h : w.ownsRow base e size v n xs) (hb : base' ≤ base) : w.ownsRow base' e size v n xs :=
  ⟨h.1, h.2.imp id fun ⟨g, cap, cur, h1, h2, h3⟩ => ⟨g, cap, cur, h1, Nat.le_trans hb h2, h3⟩⟩

/-- A letter or a digit. -/
def letterB (r : Int) : Bool := decide ((48 ≤ r ∧ r ≤ 57) ∨ (65 ≤ r ∧ r ≤ 90) ∨ (97 ≤ r ∧ r ≤ 122))
theorem letter_f (r : Int) : spec_scLetter.f r = some (letterB r) := by
  unfold spec_scLetter.f letterB
  repeat' split
  all_goals simp only [Option.some.injEq]
  all_goals first | (symm; rw [decide_eq_true_iff]; omega) | (symm; rw [decide_eq_false_iff_not]; omega) | (rw [decide_eq_decide]; omega)

/-- The letters and digits before a place. -/
structure AScan (W wr : World) (s : ByteArray) (k : Nat) : Prop where
  bel : Below W.heap.size W wr
  iter : wr.heap[W.heap.size]? = some (.stringIter s k)
  le : k ≤ s.size
  pre : ∀ (j : Nat) (h : j < s.size), j < k → letterB ((s[j]'h).toNat : Int) = true

theorem AScan.next {W wr : World} {s : ByteArray} {k : Nat} (h : AScan W wr s k) (hlt : k < s.size) (hl : letterB ((s[k]'hlt).toNat : Int) = true) : AScan W (wr.iterAt W.heap.size s (k + 1)) s (k + 1) := by
  refine ⟨?_, Lib.iterAt_heap _ _ _ _ _ h.iter, by omega, fun j hj hk => ?_⟩
  · exact ⟨h.bel.os, h.bel.tape, h.bel.output, by simpa [World.iterAt] using h.bel.size, fun i hi => by rw [Lib.iterAt_other _ _ _ _ _ (by omega)]; exact h.bel.block i hi⟩
  · by_cases hjk : j < k
    · exact h.pre j hj hjk
    · obtain rfl : j = k := by omega
      exact hl

theorem AScan.drewN {W wr : World} {s : ByteArray} {k : Nat} (h : AScan W wr s k) (n : Nat) : AScan W (wr.drewN n) s k :=
  ⟨pw_below_drewN h.bel n, by simpa using h.iter, h.le, h.pre⟩

/-- What Alnum tells. -/
def AllLetters (s : ByteArray) (b : Bool) : Prop := b = true → ∀ (j : Nat) (h : j < s.size), letterB ((s[j]'h).toNat : Int) = true

theorem below_iter {W wr : World} (h : Below W.heap.size W wr) (s : ByteArray) (p : Nat) : Below W.heap.size W (wr.iterAt W.heap.size s p) :=
  ⟨h.os, h.tape, h.output, by simpa [World.iterAt] using h.size, fun i hi => by rw [Lib.iterAt_other _ _ _ _ _ (by omega)]; exact h.block i hi⟩

set_option maxRecDepth 100000 in
set_option maxHeartbeats 1000000 in
theorem alnum_any (s : ByteArray) (W : World) (hs : s.size ≤ 2147483647) :
    Calls Try.prog 4 #[.string s] W fun e w' => (∃ b, e = .returned (.bool b) ∧ AllLetters s b) ∧ Below W.heap.size W w' := by
  have HS0 : Aside0 (AScan W (W.iter s 0) s 0) := ⟨⟨(Below.refl _ _).alloc (Nat.le_refl _) _, World.iter_heap _ _ _, Nat.zero_le _, fun j _ h => by omega⟩⟩
  go_enter Try.func4, Try.ntmps4
  go_wp2
  go_loopw [4, 7, 8, 9, 10, 11, 12] (fun _ _ _ _ _ _ _ wr => ∃ k : Nat, Aside0 (AScan W wr s k)) (fun _ _ _ _ _ _ _ wr => s.size - wr.iterPos W.heap.size)
  case atStart => exact ⟨0, HS0⟩
  case round =>
    obtain ⟨k, hK⟩ := hrel
    clear HS0
    have hpos : wr.iterPos W.heap.size = k := by simp [World.iterPos, hK.out.iter]
    have HPOS := Aside0.mk hpos
    clear hpos
    by_cases hlt : k < s.size
    · by_cases ha : (s[k]'hlt).toNat < 128
      · have hnx : ∀ ty, (Instr.next (.pointer (some ⟨W.heap.size, 0, none⟩)) true ty).run Try.prog wr = .ok (.tuple #[.bool true, .int .i64 k, .int .i32 ((s[k]'hlt).toNat : Int)]) (wr.iterAt W.heap.size s (k + 1)) := fun ty => Lib.run_next_ascii_at (P := Try.prog) wr W.heap.size s k ty hK.out.iter hlt ha
        have HB := Aside0.mk (below_iter hK.out.bel s (k + 1))
        have HN := Aside0.mk fun h => hK.out.next hlt h
        clear ha
        have HKK := hK
        clear hK
        generalize hr : ((s[k]'hlt).toNat : Int) = r at *
        have HLT := Aside0.mk hlt
        clear hlt hr
        cases hl : letterB r
        · have HL := Aside0.mk ((letter_f r).trans (by rw [hl]))
          clear hl
          go_wp2_with (go_at_call 6; refine (spec_scLetter.calls r false _ HL.out).mono ?_; rintro e w' ⟨rfl, ⟨nd, rfl⟩⟩)
          go_ret
          exact ⟨⟨false, rfl, fun h => by cases h⟩, pw_below_drewN HB.out nd⟩
        · have HL := Aside0.mk ((letter_f r).trans (by rw [hl]))
          have HNN := Aside0.mk (HN.out hl)
          clear hl HN
          go_wp2_with (go_at_call 6; refine (spec_scLetter.calls r true _ HL.out).mono ?_; rintro e w' ⟨rfl, ⟨nd, rfl⟩⟩)
          go_roundw
          case rel => exact ⟨k + 1, ⟨HNN.out.drewN nd⟩⟩
          case measure =>
            have : World.iterPos ((wr.iterAt W.heap.size s (k + 1)).drewN nd) W.heap.size = k + 1 := by unfold World.iterPos; rw [(HNN.out.drewN nd).iter]
            rw [this, HPOS.out]
            have := HLT.out
            omega
      · obtain ⟨r, pp, hnx, hr⟩ : ∃ (r : Int) (pp : Nat), (∀ ty, (Instr.next (.pointer (some ⟨W.heap.size, 0, none⟩)) true ty).run Try.prog wr = .ok (.tuple #[.bool true, .int .i64 k, .int .i32 r]) (wr.iterAt W.heap.size s pp)) ∧ letterB r = false := by
          refine ⟨_, _, fun ty => Lib.run_next_any_at (P := Try.prog) wr W.heap.size s k ty hK.out.iter hlt, ?_⟩
          have := (decode_high s k hlt (by omega)).1
          unfold letterB
          rw [decide_eq_false_iff_not]
          omega
        have HB := Aside0.mk (below_iter hK.out.bel s pp)
        have HL := Aside0.mk ((letter_f r).trans (by rw [hr]))
        clear hr ha
        go_wp2_with (go_at_call 6; refine (spec_scLetter.calls r false _ HL.out).mono ?_; rintro e w' ⟨rfl, ⟨nd, rfl⟩⟩)
        go_ret
        exact ⟨⟨false, rfl, fun h => by cases h⟩, pw_below_drewN HB.out nd⟩
    · have hnx : ∀ ty, (Instr.next (.pointer (some ⟨W.heap.size, 0, none⟩)) true ty).run Try.prog wr = .ok (.tuple #[.bool false]) wr := fun ty => Lib.run_next_end_at (P := Try.prog) wr W.heap.size s k ty hK.out.iter hlt
      have HF : Aside0 (AllLetters s true) := ⟨fun _ j h => hK.out.pre j h (by omega)⟩
      have HB := Aside0.mk hK.out.bel
      clear hK
      go_wp2
      go_ret
      exact ⟨⟨true, rfl, HF.out⟩, HB.out⟩

open Go.Proofs.Ytgidfhpcobpinaa.AddW (nxk pvk ptrs list_any Listed res)

/-- The first token as data is a tag with this value. -/
def FirstTag (w : World) (A : Option Addr) (v : ByteArray) : Prop :=
  ∃ g, A = some ⟨g, 0, none⟩ ∧ w.cell? ⟨g, 0, none⟩ = some (.int .i64 15) ∧ w.cell? ⟨g, 3, none⟩ = some (.string v)

set_option maxRecDepth 100000 in
set_option maxHeartbeats 1000000 in
theorem scanTagI_any (s : ByteArray) (l : List Int) (M : Nat) (sep : Int) (flow : Bool) (v : ByteArray) (w : World) (h : TagText s l M sep flow) (hv : runesBytes (l.take M) = v) :
    Calls Try.prog 5 #[.string s, .bool flow] w fun e w' => ∃ A c sp, e = .returned (.tuple #[.slice A 1 c, .int .i64 sp, .bool true]) ∧ FirstTag w' A v ∧ Below w.heap.size w w' := by
  have HZ := Aside0.mk (zzTag_any s l M sep flow w h)
  have HV := Aside0.mk hv
  clear h hv
  go_enter Try.func5, Try.ntmps5
  go_wp2_with fail
  refine HZ.out.mono ?_
  rintro e wa ⟨A, c, sp, rfl, hb, tb, pb, o, pl, hown, htok⟩
  rw [HV.out] at htok
  have HL := Aside0.mk (list_any 0 wa [tagTk v o pl] [tb] [pb] A c (own_mono hown (Nat.zero_le _)) htok rfl rfl (by show 1 ≤ 1000; omega))
  have HB := Aside0.mk hb
  clear HZ hb hown htok HV
  go_wp2_with fail
  refine HL.out.mono ?_
  rintro e wb ⟨vv, rfl, hb2, hown2⟩
  obtain ⟨g, cap, hvv, _, _⟩ := hown2.form (by show 1 ≤ 1; omega)
  subst hvv
  have h0 : wb.cell? ⟨g, 0, none⟩ = some (.int .i64 15) := by
    have := hown2.cells (g := g) rfl 0 (.int .i64 15) rfl
    rwa [add_plain] at this
  have h3 : wb.cell? ⟨g, 3, none⟩ = some (.string v) := by
    have := hown2.cells (g := g) rfl 3 (.string v) rfl
    rwa [add_plain] at this
  have HF : Aside0 (FirstTag wb (some ⟨g, 0, none⟩) v) := ⟨g, rfl, h0, h3⟩
  have HB2 := Aside0.mk (below_then HB.out HB.out.size hb2)
  clear hown2 h0 h3 hb2 HL HB
  go_wp2
  go_ret3
  exact ⟨_, _, _, rfl, HF.out, HB2.out⟩

end Go.Proofs.Ytgidfhpcobpinaa.TgW
