/- Walks of FnPartAdded: the law. -/
import Derived.Test.YtbicbdcbbeifhaaAddWalk8
namespace Go.Proofs.Ytbicbdcbbeifhaa.AddW
open Go.RowKit Go.Proofs.Ytbicbdcbbeifhaa.PFnPartAdded Go.Proofs.YtbicbdcbbeifhaaW.PrintWords Go.Proofs.YtbicbdcbbeifhaaW.PrintLast Go.Proofs.YtbicbdcbbeifhaaW.PrintMore
open Go.Proofs.Ytbicbdcbbeifhaa.AddM
set_option linter.unusedSimpArgs false
set_option linter.unusedVariables false

/-! ### Rows of elements of so many cells -/
theorem flatten_at (n : Nat) : ∀ (xs : List (List Value)), (∀ x ∈ xs, x.length = n) → ∀ (j i : Nat) (x : List Value) (u : Value), xs[j]? = some x → x[i]? = some u → xs.flatten[j * n + i]? = some u
  | [], _, j, i, x, u, hj, _ => by simp at hj
  | y :: ys, h, 0, i, x, u, hj, hi => by
    simp only [List.getElem?_cons_zero, Option.some.injEq] at hj
    subst hj
    rw [List.flatten_cons, Nat.zero_mul, Nat.zero_add, List.getElem?_append_left (List.getElem?_eq_some_iff.1 hi).1]
    exact hi
  | y :: ys, h, j + 1, i, x, u, hj, hi => by
    simp only [List.getElem?_cons_succ] at hj
    have hy : y.length = n := h y (by simp)
    rw [List.flatten_cons, List.getElem?_append_right (by rw [hy, Nat.add_mul]; omega)]
    have e : (j + 1) * n + i - y.length = j * n + i := by rw [hy, Nat.add_mul]; omega
    rw [e]
    exact flatten_at n ys (fun z hz => h z (by simp [hz])) j i x u hj hi

theorem row_of_own {w : World} {B e n m c : Nat} {A : Option Addr} {xs : List (List Value)} (hx : ∀ x ∈ xs, x.length = n) (hl : xs.length = m) (h : w.ownsRow B e n (.slice A m c) m xs.flatten) : Row w n A xs := by
  refine ⟨hx, fun hn => ?_⟩
  obtain ⟨g, cap, hv, _, _⟩ := h.form (by omega)
  simp only [Value.slice.injEq] at hv
  obtain ⟨rfl, _, rfl⟩ := hv
  refine ⟨g, 0, rfl, fun j x i u hj hi => ?_⟩
  have := h.cells (g := g) rfl (j * n + i) u (flatten_at n xs hx j i x u hj hi)
  rw [add_plain] at this
  rwa [Nat.zero_add]

/-! ### The tokens of the law -/
def tkOf (s : ByteArray) (i : Nat) (z : Int) : Tk := { typ := z % 34, char := 0, sign := 0, value := s, origin := s, err := ⟨#[]⟩, pl := { line := 1, col := (i : Int) + 1, off := 0, ind := 0, lev := 0 } }
def tks (s : ByteArray) (zs : List Int) : List Tk := zs.mapIdx fun i z => tkOf s i z

theorem tks_at (s : ByteArray) (zs : List Int) (k : Nat) (z : Int) (h : zs[k]? = some z) : (tks s zs)[k]? = some (tkOf s k z) := by
  rw [tks, List.getElem?_mapIdx, h]; rfl
theorem tks_len (s : ByteArray) (zs : List Int) : (tks s zs).length = zs.length := by simp [tks]
theorem tks_ok (s : ByteArray) (zs : List Int) (h : zs.length ≤ 100) : ∀ t ∈ tks s zs, Ok t := by
  intro t ht
  obtain ⟨j, hj, e⟩ := List.mem_iff_getElem.1 ht
  rw [tks_len] at hj
  have := tks_at s zs j _ (List.getElem?_eq_getElem hj)
  rw [List.getElem?_eq_getElem (by rw [tks_len]; exact hj)] at this
  rw [← e, Option.some.inj this]
  unfold Ok tkOf
  simp only
  omega

/-- The law's first loop, behind k rounds. -/
def Laid (w wr : World) (ts : List Tk) (k : Nat) (v : Value) : Prop :=
  Below w.heap.size w wr ∧ wr.ownsRow w.heap.size 38 13 v k ((ts.map lone).take k).flatten

theorem laid_step {w wr w1 w2 : World} {ts : List Tk} {k : Nat} {v v1 : Value} {t : Tk} {C : Obj} (h : Laid w wr ts k v) (ht : ts[k]? = some t) (hb : Below wr.heap.size wr w1)
    (hg : (w1.alloc C).grownBy w2 v.ownBlock) (hown : w2.ownsRow w.heap.size 38 13 v1 (k + 1) (((ts.map lone).take k).flatten ++ lone t)) : Laid w w2 ts (k + 1) v1 := by
  have hb1 : Below w.heap.size w w1 := below_then h.1 h.1.size hb
  refine ⟨pw_below_grown (below_alloc hb1 C) _ (by have := hb1.size; simp; omega) hg (fun j hj => own_base h.2 j hj), ?_⟩
  have hk : (ts.map lone)[k]? = some (lone t) := by rw [List.getElem?_map, ht]; rfl
  have hlt : k < (ts.map lone).length := (List.getElem?_eq_some_iff.1 hk).1
  rw [List.take_succ_eq_append_getElem hlt, (List.getElem?_eq_some_iff.1 hk).2]
  simpa using hown

end Go.Proofs.Ytbicbdcbbeifhaa.AddW
