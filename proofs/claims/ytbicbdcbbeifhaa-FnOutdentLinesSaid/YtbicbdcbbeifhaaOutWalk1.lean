/- Walks of FnOutdentLines: a line without spaces ahead. -/
import Derived.Test.YtbicbdcbbeifhaaOutPure
import Derived.WalkSpells
import Derived.WalkLawsBesides
import Derived.Lib.OthersKept
namespace Go.Proofs.Ytbicbdcbbeifhaa.OutW
open Go.RowKit Go.Proofs.Ytbicbdcbbeifhaa.PFnOutdentLines Go.Proofs.YtbicbdcbbeifhaaW.PrintWords Go.Proofs.YtbicbdcbbeifhaaW.PrintLast Go.Proofs.YtbicbdcbbeifhaaW.PrintMore
open Go.Proofs.Ytbicbdcbbeifhaa.OutP Go.Proofs.Ytbicbdcbbeifhaa.OutH
set_option linter.unusedSimpArgs false
set_option linter.unusedVariables false

set_option maxRecDepth 100000 in
set_option maxHeartbeats 400000 in
theorem clos_yes (cb nb : Nat) (c n : Int) (w : World) (hc : w.cell? ⟨cb, 0, none⟩ = some (.int .i64 c)) (hf : w.frozen? ⟨cb, 0, none⟩ = false) (hn : w.cell? ⟨nb, 0, none⟩ = some (.int .i64 n)) (hne : nb ≠ cb) (h0 : 0 ≤ c) (h1 : c + 1 ≤ n) (h2 : n ≤ 200) :
    Calls Try.prog 46 #[.int .i32 32, .pointer (some ⟨cb, 0, none⟩), .pointer (some ⟨nb, 0, none⟩)] w fun e w' => e = .returned (.bool true) ∧ w.setCell ⟨cb, 0, none⟩ (.int .i64 (c + 1)) = w' := by
  have hn' : (w.setCell ⟨cb, 0, none⟩ (.int .i64 (c + 1))).cell? ⟨nb, 0, none⟩ = some (.int .i64 n) := (World.cell?_setCell_other w _ _ _ (fun e => hne (by injection e with e1 _ _; exact e1.symm))).trans hn
  have hc' : (w.setCell ⟨cb, 0, none⟩ (.int .i64 (c + 1))).cell? ⟨cb, 0, none⟩ = some (.int .i64 (c + 1)) := World.cell?_setCell_same _ _ _ hc
  have hd : decide (c + 1 ≤ n) = true := by simpa using h1
  go_enter Try.func46, Try.ntmps46
  go_wp2
  go_ret
  exact ⟨rfl, rfl⟩

set_option maxRecDepth 100000 in
set_option maxHeartbeats 400000 in
theorem clos_full (cb nb : Nat) (c n : Int) (w : World) (hc : w.cell? ⟨cb, 0, none⟩ = some (.int .i64 c)) (hf : w.frozen? ⟨cb, 0, none⟩ = false) (hn : w.cell? ⟨nb, 0, none⟩ = some (.int .i64 n)) (hne : nb ≠ cb) (h0 : 0 ≤ c) (h1 : n < c + 1) (h2 : c ≤ 200) :
    Calls Try.prog 46 #[.int .i32 32, .pointer (some ⟨cb, 0, none⟩), .pointer (some ⟨nb, 0, none⟩)] w fun e w' => e = .returned (.bool false) ∧ w.setCell ⟨cb, 0, none⟩ (.int .i64 (c + 1)) = w' := by
  have hn' : (w.setCell ⟨cb, 0, none⟩ (.int .i64 (c + 1))).cell? ⟨nb, 0, none⟩ = some (.int .i64 n) := (World.cell?_setCell_other w _ _ _ (fun e => hne (by injection e with e1 _ _; exact e1.symm))).trans hn
  have hc' : (w.setCell ⟨cb, 0, none⟩ (.int .i64 (c + 1))).cell? ⟨cb, 0, none⟩ = some (.int .i64 (c + 1)) := World.cell?_setCell_same _ _ _ hc
  have hd : decide (c + 1 ≤ n) = false := by simp; omega
  go_enter Try.func46, Try.ntmps46
  go_wp2
  go_ret
  exact ⟨rfl, rfl⟩

set_option maxRecDepth 100000 in
set_option maxHeartbeats 400000 in
theorem clos_other (cb nb : Nat) (c : Int) (r : Int) (w : World) (hc : w.cell? ⟨cb, 0, none⟩ = some (.int .i64 c)) (hf : w.frozen? ⟨cb, 0, none⟩ = false) (h0 : 0 ≤ c) (h2 : c ≤ 200) (hr : r ≠ 32) :
    Calls Try.prog 46 #[.int .i32 r, .pointer (some ⟨cb, 0, none⟩), .pointer (some ⟨nb, 0, none⟩)] w fun e w' => e = .returned (.bool false) ∧ w.setCell ⟨cb, 0, none⟩ (.int .i64 (c + 1)) = w' := by
  have hb : (r == 32) = false := beq_eq_false_iff_ne.2 hr
  go_enter Try.func46, Try.ntmps46
  go_wp2
  go_ret
  exact ⟨rfl, rfl⟩

/-! ### Which place is told -/
/-- So many spaces stand ahead, and no more than may go. -/
structure Pre (s : ByteArray) (n k : Nat) : Prop where
  le : k ≤ n
  lt : k ≤ s.size
  all : trim n s.data.toList = trim (n - k) (s.data.toList.drop k)

theorem Pre.start (s : ByteArray) (n : Nat) : Pre s n 0 := ⟨by omega, by omega, by simp⟩
theorem Pre.step {s : ByteArray} {n k : Nat} (h : Pre s n k) (hlt : k < s.size) (h32 : (s[k]'hlt).toNat = 32) (hk : k < n) : Pre s n (k + 1) := by
  refine ⟨by omega, by omega, ?_⟩
  rw [h.all, drop_at s k hlt]
  obtain ⟨m, hm⟩ : ∃ m, n - k = m + 1 := ⟨n - k - 1, by omega⟩
  have e : s[k]'hlt = 32 := UInt8.toNat_inj.1 h32
  rw [hm, show n - (k + 1) = m from by omega]
  simp only [trim, e, if_true]
theorem Pre.stop {s : ByteArray} {n k : Nat} (h : Pre s n k) (hlt : k < s.size) (hs : (s[k]'hlt).toNat ≠ 32 ∨ ¬ k < n) : OutP.mk (trim n s.data.toList) = s.extract k s.size := by
  have e : trim n s.data.toList = s.data.toList.drop k := by
    rw [h.all]
    rcases hs with h1 | h1
    · rw [drop_at s k hlt]
      cases hm : n - k with
      | zero => exact trim_zero _
      | succ m =>
        simp only [trim]
        rw [if_neg (fun e => h1 (by rw [e]; rfl))]
    · rw [show n - k = 0 from by have := h.le; omega, trim_zero]
  rw [e]
  conv => rhs; rw [← mk_data s]
  rw [mk_data, ← mk_data s, extract_mk, mk_data]
  rw [List.take_of_length_le (by simp [ByteArray.size_data])]
theorem Pre.over {s : ByteArray} {n k : Nat} (h : Pre s n k) (hlt : ¬ k < s.size) : OutP.mk (trim n s.data.toList) = ⟨#[]⟩ := by
  rw [h.all, drop_all s k hlt, trim_nil]
  rfl

/-- What indexFunc tells for a line. -/
def Told (s : ByteArray) (n : Nat) (r : Int) : Prop := (r = -1 ∧ OutP.mk (trim n s.data.toList) = ⟨#[]⟩) ∨ ∃ k : Nat, r = k ∧ k < s.size ∧ OutP.mk (trim n s.data.toList) = s.extract k s.size

theorem below_iterAt {B : Nat} {w w1 : World} (h : Below B w w1) (k : Nat) (s : ByteArray) (p : Nat) (hk : B ≤ k) : Below B w (w1.iterAt k s p) :=
  ⟨h.os, h.tape, h.output, by simpa [World.iterAt] using h.size, fun i hi => by rw [Lib.iterAt_other _ _ _ _ _ (by omega)]; exact h.block i hi⟩

structure Scan (cb it : Nat) (W wr : World) (s : ByteArray) (n k : Nat) : Prop where
  bel : Below cb W wr
  iter : wr.heap[it]? = some (.stringIter s k)
  cnt : wr.heap[cb]? = some (.cells #[.int .i64 k] 3 (0, 0))
  pre : Pre s n k

theorem Scan.next {cb it : Nat} {W wr : World} {s : ByteArray} {n k : Nat} (h : Scan cb it W wr s n k) (hne : cb < it) (hlt : k < s.size) (h32 : (s[k]'hlt).toNat = 32) (hk : k < n) :
    Scan cb it W ((wr.iterAt it s (k + 1)).setCell ⟨cb, 0, none⟩ (.int .i64 ((k : Int) + 1))) s n (k + 1) := by
  refine ⟨(below_iterAt h.bel it s (k + 1) (by omega)).setCell (Nat.le_refl _) _, ?_, ?_, h.pre.step hlt h32 hk⟩
  · rw [Below.heap_setCell _ _ _ _ (by show it ≠ cb; omega)]
    exact Lib.iterAt_heap _ _ _ _ _ h.iter
  · have : (wr.iterAt it s (k + 1)).heap[cb]? = some (.cells #[.int .i64 k] 3 (0, 0)) := by
      rw [Lib.iterAt_other _ _ _ _ _ (by omega)]
      exact h.cnt
    have := blk_set this 0 (.int .i64 ((k : Int) + 1))
    simpa using this

set_option maxRecDepth 100000 in
set_option maxHeartbeats 1000000 in
theorem index_any (s : ByteArray) (cb nb n : Nat) (W : World) (hn : n ≤ 200) (hs : s.size ≤ 2147483647) (hcb : W.heap[cb]? = some (.cells #[.int .i64 0] 3 (0, 0))) (hnb : W.cell? ⟨nb, 0, none⟩ = some (.int .i64 n)) (hne : nb < cb) :
    Calls Try.prog 53 #[.string s, .func (.func 46) #[] #[.pointer (some ⟨cb, 0, none⟩), .pointer (some ⟨nb, 0, none⟩)], .bool false] W fun e w' => ∃ r : Int, e = .returned (.int .i64 r) ∧ Told s n r ∧ Below cb W w' := by
  have hlt0 := blk_lt hcb
  have HS0 : Aside0 (Scan cb W.heap.size W (W.iter s 0) s n 0) := ⟨⟨(Below.refl _ _).alloc (Nat.le_of_lt hlt0) _, World.iter_heap _ _ _, blk_alloc hcb _, Pre.start s n⟩⟩
  have HNB := Aside0.mk hnb
  clear hcb hnb
  obtain ⟨it, hit⟩ : ∃ it, it = W.heap.size := ⟨_, rfl⟩
  have HIT := Aside0.mk hit
  go_enter Try.func53, Try.ntmps53
  go_wp2
  go_loopw [7, 8] (fun _ _ wr => ∃ k : Nat, Aside0 (Scan cb W.heap.size W wr s n k)) (fun _ _ wr => s.size - wr.iterPos W.heap.size)
  case atStart => exact ⟨0, HS0⟩
  case round =>
    obtain ⟨k, hK⟩ := hrel
    clear HS0
    have hk1 : k ≤ n := hK.out.pre.le
    have hk2 : k ≤ s.size := hK.out.pre.lt
    have hpos : wr.iterPos W.heap.size = k := by simp [World.iterPos, hK.out.iter]
    have HPOS := Aside0.mk hpos
    clear hpos
    have hbB : nb < cb := hne
    by_cases hlt : k < s.size
    · have hcc : ∀ p, (wr.iterAt W.heap.size s p).cell? ⟨cb, 0, none⟩ = some (.int .i64 (k : Int)) := fun p => blk_cell (show (wr.iterAt W.heap.size s p).heap[cb]? = some (.cells #[.int .i64 (k : Int)] 3 (0, 0)) by rw [Lib.iterAt_other _ _ _ _ _ (by omega)]; exact hK.out.cnt) 0
      have hcf : ∀ p, (wr.iterAt W.heap.size s p).frozen? ⟨cb, 0, none⟩ = false := fun p => blk_frozen (show (wr.iterAt W.heap.size s p).heap[cb]? = some (.cells #[.int .i64 (k : Int)] 3 (0, 0)) by rw [Lib.iterAt_other _ _ _ _ _ (by omega)]; exact hK.out.cnt) 0
      have hnc : ∀ p, (wr.iterAt W.heap.size s p).cell? ⟨nb, 0, none⟩ = some (.int .i64 (n : Int)) := fun p => ((below_iterAt hK.out.bel W.heap.size s p (by omega)).cell (by exact hne)).trans HNB.out
      have HCC := Aside0.mk hcc
      have HCF := Aside0.mk hcf
      have HNC := Aside0.mk hnc
      clear hcc hcf hnc
      by_cases h32 : (s[k]'hlt).toNat = 32
      · have hnx : ∀ ty, (Instr.next (.pointer (some ⟨W.heap.size, 0, none⟩)) true ty).run Try.prog wr = .ok (.tuple #[.bool true, .int .i64 k, .int .i32 32]) (wr.iterAt W.heap.size s (k + 1)) := fun ty => by
          have := Lib.run_next_ascii_at (P := Try.prog) wr W.heap.size s k ty hK.out.iter hlt (by omega)
          rw [h32] at this
          exact this
        by_cases hmore : k < n
        · have HN := Aside0.mk (hK.out.next hlt0 hlt h32 hmore)
          clear h32
          go_wp2_with (go_at_call 46; refine (clos_yes cb nb (k : Int) (n : Int) _ (HCC.out _) (HCF.out _) (HNC.out _) (by omega) (by omega) (by omega) (by omega)).mono ?_; rintro e w' ⟨rfl, rfl⟩)
          go_roundw
          case rel => exact ⟨k + 1, HN⟩
          case measure =>
            have : World.iterPos ((wr.iterAt W.heap.size s (k + 1)).setCell ⟨cb, 0, none⟩ (.int .i64 ((k : Int) + 1))) W.heap.size = k + 1 := by simp [World.iterPos, HN.out.iter]
            rw [this, HPOS.out]
            omega
        · have HP := Aside0.mk (hK.out.pre.stop hlt (.inr hmore))
          have HB : Aside0 (∀ v, Below cb W ((wr.iterAt W.heap.size s (k + 1)).setCell ⟨cb, 0, none⟩ v)) := ⟨fun v => (below_iterAt hK.out.bel _ s _ (by omega)).setCell (Nat.le_refl _) v⟩
          clear h32
          go_wp2_with (go_at_call 46; refine (clos_full cb nb (k : Int) (n : Int) _ (HCC.out _) (HCF.out _) (HNC.out _) (by omega) (by omega) (by omega) (by omega)).mono ?_; rintro e w' ⟨rfl, rfl⟩)
          go_ret
          exact ⟨_, rfl, .inr ⟨k, rfl, hlt, HP.out⟩, HB.out _⟩
      · obtain ⟨r, pp, hnx, hr⟩ : ∃ (r : Int) (pp : Nat), (∀ ty, (Instr.next (.pointer (some ⟨W.heap.size, 0, none⟩)) true ty).run Try.prog wr = .ok (.tuple #[.bool true, .int .i64 k, .int .i32 r]) (wr.iterAt W.heap.size s pp)) ∧ r ≠ 32 := by
          refine ⟨_, _, fun ty => Lib.run_next_any_at (P := Try.prog) wr W.heap.size s k ty hK.out.iter hlt, ?_⟩
          by_cases ha : (s[k]'hlt).toNat < 128
          · rw [decode_ascii s k hlt ha]; simp only; omega
          · have := (decode_high s k hlt (by omega)).1
            omega
        have HP := Aside0.mk (hK.out.pre.stop hlt (.inl h32))
        have HB : Aside0 (∀ v, Below cb W ((wr.iterAt W.heap.size s pp).setCell ⟨cb, 0, none⟩ v)) := ⟨fun v => (below_iterAt hK.out.bel _ s _ (by omega)).setCell (Nat.le_refl _) v⟩
        have HR := Aside0.mk hr
        clear h32 hr
        go_wp2_with (go_at_call 46; refine (clos_other cb nb (k : Int) r _ (HCC.out _) (HCF.out _) (by omega) (by omega) HR.out).mono ?_; rintro e w' ⟨rfl, rfl⟩)
        go_ret
        exact ⟨_, rfl, .inr ⟨k, rfl, hlt, HP.out⟩, HB.out _⟩
    · have hnx : ∀ ty, (Instr.next (.pointer (some ⟨W.heap.size, 0, none⟩)) true ty).run Try.prog wr = .ok (.tuple #[.bool false]) wr := fun ty => Lib.run_next_end_at (P := Try.prog) wr W.heap.size s k ty hK.out.iter hlt
      have HP := Aside0.mk (hK.out.pre.over hlt)
      go_wp2
      go_ret
      exact ⟨_, rfl, .inl ⟨rfl, HP.out⟩, hK.out.bel⟩

set_option maxRecDepth 100000 in
set_option maxHeartbeats 1000000 in
theorem trimLeft_any (s : ByteArray) (cb nb n : Nat) (W : World) (hn : n ≤ 200) (hs : s.size ≤ 2147483647) (hcb : W.heap[cb]? = some (.cells #[.int .i64 0] 3 (0, 0))) (hnb : W.cell? ⟨nb, 0, none⟩ = some (.int .i64 n)) (hne : nb < cb) :
    Calls Try.prog 45 #[.string s, .func (.func 46) #[] #[.pointer (some ⟨cb, 0, none⟩), .pointer (some ⟨nb, 0, none⟩)]] W fun e w' => e = .returned (.string (OutP.mk (trim n s.data.toList))) ∧ Below cb W w' := by
  have HI := Aside0.mk (index_any s cb nb n W hn hs hcb hnb hne)
  clear hcb hnb
  go_enter Try.func45, Try.ntmps45
  go_wp2_with fail
  refine HI.out.mono ?_
  rintro e w' ⟨r, rfl, ht, hb⟩
  have HB := Aside0.mk hb
  clear hb HI
  rcases ht with ⟨rfl, h⟩ | ⟨k, rfl, hk, h⟩
  · have HT := Aside0.mk h
    clear h
    go_wp2
    go_ret
    exact ⟨by rw [HT.out]; rfl, HB.out⟩
  · have HT := Aside0.mk h
    clear h
    have hb : ((k : Int) == -1) = false := beq_eq_false_iff_ne.2 (by omega)
    go_wp2
    go_ret
    exact ⟨by rw [HT.out]; rfl, HB.out⟩

end Go.Proofs.Ytbicbdcbbeifhaa.OutW
