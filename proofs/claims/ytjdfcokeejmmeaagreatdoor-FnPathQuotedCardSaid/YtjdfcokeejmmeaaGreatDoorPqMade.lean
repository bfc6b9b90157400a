/- Walks of FnPathQuoted: a path that is made of one step. -/
import Derived.Test.YtjdfcokeejmmeaaGreatDoorPqMem
import Derived.Defers
import Derived.Recover
import Derived.Laws.Pointers
namespace Go.Proofs.YtjdfcokeejmmeaaGreatDoor.PqW
open Go.RowKit Go.Proofs.YtjdfcokeejmmeaaGreatDoorW.PrintWords Go.Proofs.YtjdfcokeejmmeaaGreatDoorW.PrintLast Go.Proofs.YtjdfcokeejmmeaaGreatDoorW.PrintMore
attribute [local go_sem ↓] Go.wp_at_zero Go.wp_at_succ
set_option linter.unusedSimpArgs false
set_option linter.unusedVariables false

/-- A path with one key. -/
def Pathed (n : ByteArray) (w : World) (e : Ending) (w' : World) : Prop :=
  ∃ p b r s sel s2, e = .returned (.pointer (some ⟨p, 0, none⟩)) ∧ w'.heap[p]? = some (.cells #[.iface 45 (.pointer (some ⟨r, 0, none⟩))] 55 (0, 0)) ∧ Ch w' b r s sel s2 n ∧ Below w.heap.size w w'

/-- What the steps' loop knows. -/
def Stp (n : ByteArray) (w wr : World) (j : Nat) (v : Value) : Prop :=
  ∃ b r s, v = .pointer (some ⟨b, 0, none⟩) ∧ w.heap.size ≤ b ∧ w.heap.size ≤ s ∧ Below w.heap.size w wr ∧ (j = 0 → Bd wr b r s (.iface 45 (.pointer (some ⟨r, 0, none⟩))) .nilIface) ∧ (j = 1 → ∃ sel s2, Ch wr b r s sel s2 n)

set_option maxRecDepth 100000 in
set_option maxHeartbeats 400000 in
theorem path_any {w : World} {g c : Nat} {key n : ByteArray} (h : w.heap[g]? = some (.cells #[.int .i64 0, .string key, .int .u64 0] 31 (0, 0))) (hn : Norm key n) :
    Calls Tryz.prog 8 #[.slice (some ⟨g, 0, none⟩) 1 c] w (Pathed n w) := by
  have HN := Aside0.mk hn
  have HG := Aside0.mk h
  clear hn h
  go_enter Tryz.func8, Tryz.ntmps8
  go_wp2_with (go_at_call 13; refine (root_any _ _).mono ?_; rintro e w1 ⟨b, r, s, rfl, hb1, hr1, hs1, hbd, hbel⟩)
  have HS : Aside0 (Stp n w w1 0 (.pointer (some ⟨b, 0, none⟩))) := ⟨b, r, s, rfl, Nat.le_trans (below_alloc (Below.refl w.heap.size w) _).size hb1, Nat.le_trans (below_alloc (Below.refl w.heap.size w) _).size hs1, (below_then (below_alloc (Below.refl w.heap.size w) _) (by simp) hbel), fun _ => hbd, fun h => by cases h⟩
  clear hb1 hr1 hs1 hbd hbel
  go_loopw [3, 5, 11] (fun v _ i wr => ∃ j : Nat, j ≤ 1 ∧ i = .int .i64 j ∧ Aside0 (Stp n w wr j v)) (fun _ _ i _ => 1 - (intOf i).toNat)
  case atStart => exact ⟨0, by omega, rfl, HS⟩
  case round =>
    obtain ⟨j, hj, rfl, hS⟩ := hrel
    clear HS
    obtain ⟨b, r, s, rfl, hb1, hs1, hbel, h0, h1⟩ := hS.out
    have HB := Aside0.mk hbel
    have HB1 := Aside0.mk hb1
    have HS1 := Aside0.mk hs1
    by_cases hj0 : j = 0
    · subst hj0
      have gb := blk_below HG.out hbel
      have c0 := blk_cell gb 0
      have c1 := blk_cell gb 1
      have c2 := blk_cell gb 2
      simp at c0 c1 c2
      have HC := fun o : Obj => Aside0.mk (Child_any ((h0 rfl).below (below_alloc (Below.refl _ _) o)) HN.out)
      clear gb hS hb1 hs1 hbel h0 h1
      go_wp2_with fail
      refine (HC _).out.mono ?_
      rintro e w2 ⟨rfl, hch, hbl⟩
      have HF : Aside0 (Stp n w w2 1 (.pointer (some ⟨b, 0, none⟩))) := ⟨b, r, s, rfl, HB1.out, HS1.out, (below_alloc HB.out _).trans (hbl _ HB1.out HS1.out (Nat.le_trans HB.out.size (by simp))), fun h => absurd h (by decide), fun _ => hch⟩
      clear hch hbl HC
      go_wp2_with fail
      go_roundw
      case rel => exact ⟨1, by omega, rfl, HF⟩
      case measure => simp [intOf]
    · obtain rfl : j = 1 := by omega
      obtain ⟨sel, s2, hch⟩ := h1 rfl
      have HBA := Aside0.mk (build_any hch.bd)
      have HC := Aside0.mk hch
      clear hch h0 h1 hS hbel hb1 hs1 hj0
      go_wp2_with fail
      refine HBA.out.mono ?_
      rintro e w2 ⟨rfl, rfl⟩
      go_wp2_with fail
      go_ret
      exact ⟨_, b, r, s, sel, s2, rfl, heap_alloc_new _ _, HC.out.below (below_alloc (Below.refl _ _) _), below_alloc HB.out _⟩

def zero6 : Array Value := #[.int .i64 0, .int .i64 0, .int .i64 0, .int .i64 0, .int .i64 0, .int .i64 0]

theorem catch7 (p q : Addr) (w : World) :
    CallsD Tryz.prog 7 #[.pointer (some p), .pointer (some q)] .returning w fun e u' w' => e = .returned (.tuple #[]) ∧ u' = .returning ∧ w' = w := by
  refine callsD_of_wpS Tryz.func7 rfl fun c₀ cs hu => ?_
  apply wpS_seq
  apply wpS_region
  simp [wpOpsS, go_sem, recoverD, hu, Tryz.ntmps7, Exit.thenS]
  refine wpS_cond (t := false) (by simp [Act.eval, Array.replicate]) ?_
  simp only [Bool.false_eq_true, if_false]
  refine wpS_of_wp (wp_skip ?_)
  cases c₀
  simp_all [bodyPostS, results, Tryz.results7]
theorem catch10 (p q : Addr) (w : World) :
    CallsD Tryz.prog 10 #[.pointer (some p), .pointer (some q)] .returning w fun e u' w' => e = .returned (.tuple #[]) ∧ u' = .returning ∧ w' = w := by
  refine callsD_of_wpS Tryz.func10 rfl fun c₀ cs hu => ?_
  apply wpS_seq
  apply wpS_region
  simp [wpOpsS, go_sem, recoverD, hu, Tryz.ntmps10, Exit.thenS]
  refine wpS_cond (t := false) (by simp [Act.eval, Array.replicate]) ?_
  simp only [Bool.false_eq_true, if_false]
  refine wpS_of_wp (wp_skip ?_)
  cases c₀
  simp_all [bodyPostS, results, Tryz.results10]

/-- A text and no fault. -/
def Texted (t : ByteArray) (w : World) (e : Ending) (w' : World) : Prop := e = .returned (.tuple #[.string t, .agg zero6]) ∧ Below w.heap.size w w'

theorem close5 {w W : World} {t : ByteArray} {tmps : Array Value} (h2 : W.heap[w.heap.size]? = some (.cells #[.string t] 9 (0, 0))) (h3 : W.heap[w.heap.size + 1]? = some (.cells zero6 26 (0, 0)))
    (hG : Below w.heap.size w W) (t2 : tmps.getD 2 undef = .pointer (some ⟨w.heap.size, 0, none⟩)) (t3 : tmps.getD 3 undef = .pointer (some ⟨w.heap.size + 1, 0, none⟩)) :
    bodyPostD Tryz.prog Tryz.f5 (Texted t w) Exit.ret { tmps := tmps, defers := [{ target := Target.fn (Fn.func 7) #[.pointer (some ⟨w.heap.size, 0, none⟩), .pointer (some ⟨w.heap.size + 1, 0, none⟩)], args := #[] }] } W := by
  refine leaves_cons (f := 7) (args := #[.pointer (some ⟨w.heap.size, 0, none⟩), .pointer (some ⟨w.heap.size + 1, 0, none⟩)]) (by simp) (by simp [go_sem]) ?_
  refine (catch7 ⟨w.heap.size, 0, none⟩ ⟨w.heap.size + 1, 0, none⟩ _).mono ?_
  rintro e u' w'' ⟨rfl, rfl, rfl⟩
  have k0 := blk_cell h2 0
  have k1 := blk_cell h3 0
  have k2 := blk_cell h3 1
  have k3 := blk_cell h3 2
  have k4 := blk_cell h3 3
  have k5 := blk_cell h3 4
  have k6 := blk_cell h3 5
  simp [zero6] at k0 k1 k2 k3 k4 k5 k6 t2 t3
  simp [Leaves, settle, results, Tryz.results5, go_sem, t2, t3, k0, k1, k2, k3, k4, k5, k6]
  exact ⟨rfl, hG⟩
theorem close6 {w W : World} {t : ByteArray} {tmps : Array Value} (h2 : W.heap[w.heap.size]? = some (.cells #[.string t] 9 (0, 0))) (h3 : W.heap[w.heap.size + 1]? = some (.cells zero6 26 (0, 0)))
    (hG : Below w.heap.size w W) (t2 : tmps.getD 2 undef = .pointer (some ⟨w.heap.size, 0, none⟩)) (t3 : tmps.getD 3 undef = .pointer (some ⟨w.heap.size + 1, 0, none⟩)) :
    bodyPostD Tryz.prog Tryz.f6 (Texted t w) Exit.ret { tmps := tmps, defers := [{ target := Target.fn (Fn.func 10) #[.pointer (some ⟨w.heap.size, 0, none⟩), .pointer (some ⟨w.heap.size + 1, 0, none⟩)], args := #[] }] } W := by
  refine leaves_cons (f := 10) (args := #[.pointer (some ⟨w.heap.size, 0, none⟩), .pointer (some ⟨w.heap.size + 1, 0, none⟩)]) (by simp) (by simp [go_sem]) ?_
  refine (catch10 ⟨w.heap.size, 0, none⟩ ⟨w.heap.size + 1, 0, none⟩ _).mono ?_
  rintro e u' w'' ⟨rfl, rfl, rfl⟩
  have k0 := blk_cell h2 0
  have k1 := blk_cell h3 0
  have k2 := blk_cell h3 1
  have k3 := blk_cell h3 2
  have k4 := blk_cell h3 3
  have k5 := blk_cell h3 4
  have k6 := blk_cell h3 5
  simp [zero6] at k0 k1 k2 k3 k4 k5 k6 t2 t3
  simp [Leaves, settle, results, Tryz.results6, go_sem, t2, t3, k0, k1, k2, k3, k4, k5, k6]
  exact ⟨rfl, hG⟩

theorem texted_block {w W : World} {t : ByteArray} (h2 : W.heap[w.heap.size]? = some (.cells #[.string ⟨#[]⟩] 9 (0, 0))) (h3 : W.heap[w.heap.size + 1]? = some (.cells zero6 26 (0, 0))) :
    (((((((W.setCell ⟨w.heap.size, 0, none⟩ (.string t)).setCell ⟨w.heap.size + 1, 0, none⟩ (.int .i64 0)).setCell ⟨w.heap.size + 1, 1, none⟩ (.int .i64 0)).setCell ⟨w.heap.size + 1, 2, none⟩ (.int .i64 0)).setCell ⟨w.heap.size + 1, 3, none⟩ (.int .i64 0)).setCell ⟨w.heap.size + 1, 4, none⟩ (.int .i64 0)).setCell ⟨w.heap.size + 1, 5, none⟩ (.int .i64 0)).heap[w.heap.size]? = some (.cells #[.string t] 9 (0, 0)) ∧
    (((((((W.setCell ⟨w.heap.size, 0, none⟩ (.string t)).setCell ⟨w.heap.size + 1, 0, none⟩ (.int .i64 0)).setCell ⟨w.heap.size + 1, 1, none⟩ (.int .i64 0)).setCell ⟨w.heap.size + 1, 2, none⟩ (.int .i64 0)).setCell ⟨w.heap.size + 1, 3, none⟩ (.int .i64 0)).setCell ⟨w.heap.size + 1, 4, none⟩ (.int .i64 0)).setCell ⟨w.heap.size + 1, 5, none⟩ (.int .i64 0)).heap[w.heap.size + 1]? = some (.cells zero6 26 (0, 0)) := by
  constructor
  · repeat (refine blk_far ?_ (by show w.heap.size ≠ w.heap.size + 1; omega) _)
    exact blk_put h2 0 _ rfl
  · refine blk_put (cs := zero6) ?_ 5 _ rfl
    refine blk_put (cs := zero6) ?_ 4 _ rfl
    refine blk_put (cs := zero6) ?_ 3 _ rfl
    refine blk_put (cs := zero6) ?_ 2 _ rfl
    refine blk_put (cs := zero6) ?_ 1 _ rfl
    refine blk_put (cs := zero6) ?_ 0 _ rfl
    exact blk_far h3 (by show w.heap.size + 1 ≠ w.heap.size; omega) _

set_option maxRecDepth 100000 in
set_option maxHeartbeats 400000 in
theorem made_any {w : World} {g c : Nat} {key n : ByteArray} (h : w.heap[g]? = some (.cells #[.int .i64 0, .string key, .int .u64 0] 31 (0, 0))) (hn : Norm key n) (hn2 : Norm n n) (hz : n.size ≤ 900) :
    Calls Tryz.prog 5 #[.slice (some ⟨g, 0, none⟩) 1 c] w (Texted (⟨#[36]⟩ ++ (⟨#[46]⟩ ++ n)) w) := by
  have hmf : ∀ (fn : Fn) (first cap : Array Value) (w : World), (Instr.makeFunc fn first cap).run Tryz.prog w = .ok (.func fn first cap) w := fun _ _ _ _ => rfl
  obtain ⟨t, ht⟩ : ∃ t, (⟨#[36]⟩ ++ (⟨#[46]⟩ ++ n) : ByteArray) = t := ⟨_, rfl⟩
  rw [ht]
  have HT := Aside0.mk ht
  clear ht
  have HP := Aside0.mk (path_any (w := (w.alloc (.cells #[.string ⟨#[]⟩] 9)).alloc (.cells zero6 26)) (c := c) (blk_alloc (blk_alloc h _) _) hn)
  have HN := Aside0.mk hn2
  have HZ := Aside0.mk hz
  have P2 := Aside0.mk (blk_alloc (heap_alloc_new w (.cells #[.string ⟨#[]⟩] 9)) (.cells zero6 26))
  have P3 : Aside0 (((w.alloc (.cells #[.string ⟨#[]⟩] 9)).alloc (.cells zero6 26)).heap[w.heap.size + 1]? = some (.cells zero6 26 (0, 0))) := ⟨blk_top (by simp)⟩
  have HB1 : Aside0 (Below w.heap.size w ((w.alloc (.cells #[.string ⟨#[]⟩] 9)).alloc (.cells zero6 26))) := ⟨below_alloc (below_alloc (Below.refl _ _) _) _⟩
  clear h hn hn2 hz
  go_enter_defers Tryz.func5, Tryz.ntmps5
  go_wp2_with fail
  refine HP.out.mono ?_
  rintro e w2 ⟨p, b, r, s, sel, s2, rfl, hp, hch, hbel⟩
  have hs := pathstr_any hp hch HN.out HZ.out
  rw [HT.out] at hs
  have HS := Aside0.mk hs
  clear hs
  have Q2 := Aside0.mk (blk_below P2.out hbel)
  have Q3 := Aside0.mk (blk_below P3.out hbel)
  have HB2 : Aside0 (Below w.heap.size w w2) := ⟨below_then HB1.out HB1.out.size hbel⟩
  clear hp hch hbel HP P2 P3
  go_wp2_with fail
  refine HS.out.mono ?_
  rintro e w3 ⟨rfl, hb3⟩
  have R2 := Aside0.mk (blk_below Q2.out hb3)
  have R3 := Aside0.mk (blk_below Q3.out hb3)
  have HB3 : Aside0 (Below w.heap.size w w3) := ⟨below_then HB2.out HB2.out.size hb3⟩
  have k2 := blk_cell R2.out 0
  have f2 := blk_frozen R2.out 0
  have k30 := blk_cell R3.out 0
  have k31 := blk_cell R3.out 1
  have k32 := blk_cell R3.out 2
  have k33 := blk_cell R3.out 3
  have k34 := blk_cell R3.out 4
  have k35 := blk_cell R3.out 5
  have f3 := fun i : Nat => blk_frozen R3.out i
  simp [zero6] at k2 k30 k31 k32 k33 k34 k35
  clear hb3
  go_wp2_with fail
  have hT := texted_block (t := t) R2.out R3.out
  refine close5 hT.1 hT.2 ?_ rfl rfl
  repeat (with_reducible refine below_set ?_ (by omega))
  exact HB3.out

end Go.Proofs.YtjdfcokeejmmeaaGreatDoor.PqW
