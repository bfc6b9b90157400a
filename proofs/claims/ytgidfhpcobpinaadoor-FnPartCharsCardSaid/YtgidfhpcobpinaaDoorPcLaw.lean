/- The walk of FnPartChars. -/
import Derived.Test.YtgidfhpcobpinaaDoorPcWalk3
namespace Go.Proofs.YtgidfhpcobpinaaDoor.PcW
open Go.RowKit Go.Proofs.YtgidfhpcobpinaaDoor.PFnPartChars Go.Proofs.YtgidfhpcobpinaaDoorW.PrintWords Go.Proofs.YtgidfhpcobpinaaDoorW.PrintLast Go.Proofs.YtgidfhpcobpinaaDoorW.PrintMore
open Go.Proofs.YtgidfhpcobpinaaDoor.PcP Go.Proofs.YtgidfhpcobpinaaDoor.Rn Go.Proofs.YtgidfhpcobpinaaDoor.AddM
open Go.Proofs.YtgidfhpcobpinaaDoor.AddW (Ok)
attribute [local go_sem ↓] Go.wp_at_zero Go.wp_at_succ
set_option linter.unusedSimpArgs false
set_option linter.unusedVariables false

/-! ### Rows of elements of so many cells -/
theorem flatten_at (n : Nat) : ∀ (xs : List (List Value)), (∀ x ∈ xs, x.length = n) → ∀ (j i : Nat) (x : List Value) (u : Value), xs[j]? = some x → x[i]? = some u → xs.flatten[j * n + i]? = some u
  | [], _, j, i, x, u, hj, _ => by simp at hj
  | y :: ys, h, 0, i, x, u, hj, hi => by
    simp only [List.getElem?_cons_zero, Option.some.injEq] at hj
    subst hj
    rw [List.flatten_cons, Nat.zero_mul, Nat.zero_add, List.getElem?_append_left (List.getElem?_eq_some_iff.1 hi).1]
    exact hi
  | y :: ys, h, j + 1, i, x, u, hj, hi => by
    simp only [List.getElem?_cons_succ] at hj
    have hy : y.length = n := h y (by simp)
    rw [List.flatten_cons, List.getElem?_append_right (by rw [hy, Nat.add_mul]; omega)]
    have e : (j + 1) * n + i - y.length = j * n + i := by rw [hy, Nat.add_mul]; omega
    rw [e]
    exact flatten_at n ys (fun z hz => h z (by simp [hz])) j i x u hj hi

theorem row_of_own {w : World} {B e n m c : Nat} {A : Option Addr} {xs : List (List Value)} (hx : ∀ x ∈ xs, x.length = n) (hl : xs.length = m) (h : w.ownsRow B e n (.slice A m c) m xs.flatten) : Row w n A xs := by
  refine ⟨hx, fun hn => ?_⟩
  obtain ⟨g, cap, hv, _, _⟩ := h.form (by omega)
  simp only [Value.slice.injEq] at hv
  obtain ⟨rfl, _, rfl⟩ := hv
  refine ⟨g, 0, rfl, fun j x i u hj hi => ?_⟩
  have := h.cells (g := g) rfl (j * n + i) u (flatten_at n xs hx j i x u hj hi)
  rw [add_plain] at this
  rwa [Nat.zero_add]

theorem row_take {w : World} {n : Nat} {A : Option Addr} {xs : List (List Value)} (h : Row w n A xs) (k : Nat) : Row w n A (xs.take k) :=
  ⟨fun x hx => h.1 x (List.mem_of_mem_take hx), fun hp => by
    have hp' : 0 < xs.length := by rw [List.length_take] at hp; omega
    obtain ⟨g, o, e, hc⟩ := h.2 hp'
    refine ⟨g, o, e, fun j x i u hj hi => hc j x i u ?_ hi⟩
    rw [List.getElem?_take] at hj
    split at hj
    · exact hj
    · cases hj⟩
theorem row_nil (w : World) (n : Nat) (A : Option Addr) : Row w n A [] := ⟨fun x hx => (by cases hx), fun h => (by cases h)⟩
theorem row_drop {w : World} {n g o : Nat} {xs : List (List Value)} (h : Row w n (some ⟨g, o, none⟩) xs) (k : Nat) : Row w n (some ⟨g, o + k * n, none⟩) (xs.drop k) :=
  ⟨fun x hx => h.1 x (List.mem_of_mem_drop hx), fun hp => by
    have hp' : 0 < xs.length := by rw [List.length_drop] at hp; omega
    obtain ⟨g', o', e, hc⟩ := h.2 hp'
    obtain ⟨rfl, rfl⟩ : g = g' ∧ o = o' := by injection e with e; injection e with e1 e2 _; exact ⟨e1, e2⟩
    refine ⟨g, o + k * n, rfl, fun j x i u hj hi => ?_⟩
    rw [List.getElem?_drop] at hj
    have := hc (k + j) x i u hj hi
    rwa [Nat.add_mul, ← Nat.add_assoc] at this⟩

/-! ### The tokens of the law -/
def tkOf (s : ByteArray) (i : Nat) : Tk := { typ := 31, char := 0, sign := 0, value := s, origin := s, err := ⟨#[]⟩, pl := { line := 1, col := (i : Int) + 1, off := 0, ind := 0, lev := 0 } }
def tks (ss : List ByteArray) : List Tk := ss.mapIdx fun i s => tkOf s i

theorem tks_at (ss : List ByteArray) (k : Nat) (s : ByteArray) (h : ss[k]? = some s) : (tks ss)[k]? = some (tkOf s k) := by
  rw [tks, List.getElem?_mapIdx, h]; rfl
theorem tks_len (ss : List ByteArray) : (tks ss).length = ss.length := by simp [tks]
theorem tks_origin (ss : List ByteArray) : (tks ss).map Tk.origin = ss := by
  apply List.ext_getElem?
  intro j
  rw [List.getElem?_map, tks, List.getElem?_mapIdx]
  cases ss[j]? <;> rfl

/-- What printing asks of a token. -/
def Fine (t : Tk) : Prop := Ok t ∧ t.typ = 31 ∧ NoFeed t.origin ∧ t.origin.size ≤ 2147483647
theorem tks_fine (ss : List ByteArray) (h : ss.length ≤ 100) (hf : ∀ s ∈ ss, NoFeed s ∧ s.size ≤ 2147483647) : ∀ t ∈ tks ss, Fine t := by
  intro t ht
  obtain ⟨j, hj, e⟩ := List.mem_iff_getElem.1 ht
  rw [tks_len] at hj
  have := tks_at ss j _ (List.getElem?_eq_getElem hj)
  rw [List.getElem?_eq_getElem (by rw [tks_len]; exact hj)] at this
  rw [← e, Option.some.inj this]
  have h2 := hf _ (List.getElem_mem hj)
  refine ⟨?_, rfl, h2⟩
  unfold Ok tkOf
  simp only
  omega

theorem print_fine (A : Option Addr) (n c : Nat) (ts : List Tk) (w : World) (hl : ts.length = n) (hn : n ≤ 100) (hf : ∀ t ∈ ts, Fine t) (hr : Row w 13 A (ts.map AddW.lone)) (x : ByteArray) (hx : cat (ts.map Tk.origin) = x) :
    Calls Tryd.prog 8 #[.slice A n c, .bool false] w fun e w' => e = .returned (.string x) ∧ Below w.heap.size w w' := by
  subst hl hx
  exact print_any A c ts w hn (fun t ht => (hf t ht).1) (fun t ht => (hf t ht).2.1) (fun t ht => (hf t ht).2.2) hr

/-- The law's loop, behind k rounds. -/
def Laid (w wr : World) (ss : List ByteArray) (k : Nat) (v : Value) : Prop :=
  Below w.heap.size w wr ∧ wr.ownsRow w.heap.size 29 13 v k (((tks ss).map AddW.lone).take k).flatten ∧ (k = 0 → v = .slice none 0 0) ∧ ∀ s ∈ ss.take k, NoFeed s ∧ s.size ≤ 2147483647

theorem laid_step {w wr w1 w2 : World} {ss : List ByteArray} {k : Nat} {v v1 : Value} {s : ByteArray} {C : Obj} (h : Laid w wr ss k v) (hs : ss[k]? = some s) (hf : NoFeed s ∧ s.size ≤ 2147483647) (hb : Below wr.heap.size wr w1)
    (hg : (w1.alloc C).grownBy w2 v.ownBlock) (hown : w2.ownsRow w.heap.size 29 13 v1 (k + 1) ((((tks ss).map AddW.lone).take k).flatten ++ AddW.lone (tkOf s k))) : Laid w w2 ss (k + 1) v1 := by
  have hb1 : Below w.heap.size w w1 := below_then h.1 h.1.size hb
  have hk : ((tks ss).map AddW.lone)[k]? = some (AddW.lone (tkOf s k)) := by rw [List.getElem?_map, tks_at ss k s hs]; rfl
  have hlt : k < ((tks ss).map AddW.lone).length := (List.getElem?_eq_some_iff.1 hk).1
  refine ⟨pw_below_grown (below_alloc hb1 C) _ (by have := hb1.size; simp; omega) hg (fun j hj => own_base h.2.1 j hj), ?_, fun e => by omega, fun x hx => ?_⟩
  · rw [List.take_succ_eq_append_getElem hlt, (List.getElem?_eq_some_iff.1 hk).2]
    simpa using hown
  · obtain ⟨hlt2, rfl⟩ := List.getElem?_eq_some_iff.1 hs
    rw [List.take_succ_eq_append_getElem hlt2] at hx
    rcases List.mem_append.1 hx with hx | hx
    · exact h.2.2.2 x hx
    · rw [List.mem_singleton.1 hx]; exact hf

theorem info29 : (Tryd.prog.info? 29).map (fun i => (i.zero, i.size, i.bytes)) = some (some (.agg #[.int .i64 0, .int .i64 0, .int .i64 0, .string ⟨#[]⟩, .string ⟨#[]⟩, .string ⟨#[]⟩, .int .i64 0, .int .i64 0, .int .i64 0, .int .i64 0, .int .i64 0, .int .i64 0, .int .i64 0]), 13, 128) := by kernel_rfl

theorem lx_any (i : Int) (s : ByteArray) (w : World) :
    Calls Tryd.prog 7 #[.int .i64 31, .string s, .int .i64 i] w fun e w' => e = .returned (.agg #[.int .i64 31, .int .i64 0, .int .i64 0, .string s, .string s, .string ⟨#[]⟩, .int .i64 1, .int .i64 i, .int .i64 0, .int .i64 0, .int .i64 0, .int .i64 (-1), .int .i64 (-1)]) ∧ Below w.heap.size w w' :=
  laws_lxToken.calls 31 s i _ _ _ _ _ _ _ _ _ _ _ _ _ w rfl

end Go.Proofs.YtgidfhpcobpinaaDoor.PcW
