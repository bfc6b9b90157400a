/- Tokens as data, and the blocks that hold them. -/
import Derived.Test.YtgidfhpcobpinaaDoorPc
namespace Go.Proofs.YtgidfhpcobpinaaDoor.AddM
open Go.RowKit Go.Proofs.YtgidfhpcobpinaaDoorW.PrintWords Go.Proofs.YtgidfhpcobpinaaDoorW.PrintLast Go.Proofs.YtgidfhpcobpinaaDoorW.PrintMore
set_option linter.unusedSimpArgs false
set_option linter.unusedVariables false

/-- A place. -/
structure Pl where
  line : Int
  col : Int
  off : Int
  ind : Int
  lev : Int
/-- A token as data, without what stands beside it. -/
structure Tk where
  typ : Int
  char : Int
  sign : Int
  value : ByteArray
  origin : ByteArray
  err : ByteArray
  pl : Pl

def plCells (p : Pl) : Array Value := #[.int .i64 p.line, .int .i64 p.col, .int .i64 p.off, .int .i64 p.ind, .int .i64 p.lev]
def tkList (t : Tk) (prev next : Int) : List Value :=
  [.int .i64 t.typ, .int .i64 t.char, .int .i64 t.sign, .string t.value, .string t.origin, .string t.err, .int .i64 t.pl.line, .int .i64 t.pl.col, .int .i64 t.pl.off, .int .i64 t.pl.ind, .int .i64 t.pl.lev, .int .i64 prev, .int .i64 next]
/-- A pointer to the head of a block, or nil. -/
def ptr : Option Nat → Value
  | none => .pointer none
  | some b => .pointer (some ⟨b, 0, none⟩)
def tokCells (t : Tk) (pb : Nat) (next prev : Option Nat) : Array Value :=
  #[.int .i64 t.typ, .int .i64 t.char, .int .i64 t.sign, .string t.value, .string t.origin, .string t.err, .pointer (some ⟨pb, 0, none⟩), ptr next, ptr prev]

theorem blk_top {W : World} {o : Obj} {H : Nat} (h : W.heap.size = H) : (W.alloc o).heap[H]? = some o := by
  subst h
  exact heap_alloc_new W o

theorem own_ne_blk {w : World} {base e size n : Nat} {v : Value} {xs : List Value} {q : Nat} {cs : Array Value} {t : TypeId} (h : w.ownsRow base e size v n xs) (hq : w.heap[q]? = some (.cells cs t (0, 0))) (hne : e ≠ t) : some q ≠ v.ownBlock := by
  intro hk
  obtain ⟨cells, hc⟩ := own_typed h q hk.symm
  rw [hc] at hq
  injection hq with hq
  injection hq with _ hq
  exact hne hq

/-- A slice that begins in the midst of a block, its elements' cells; nothing is said of an empty one. -/
def Row (w : World) (sz : Nat) (A : Option Addr) (xs : List (List Value)) : Prop :=
  (∀ x ∈ xs, x.length = sz) ∧ (0 < xs.length → ∃ g o, A = some ⟨g, o, none⟩ ∧ ∀ j x i u, xs[j]? = some x → x[i]? = some u → w.cell? ⟨g, o + j * sz + i, none⟩ = some u)
theorem Row.below {w w1 : World} {sz : Nat} {A : Option Addr} {xs : List (List Value)} (h : Row w sz A xs) (hb : Below w.heap.size w w1) : Row w1 sz A xs :=
  ⟨h.1, fun hn => by
    obtain ⟨g, o, e, hc⟩ := h.2 hn
    exact ⟨g, o, e, fun j x i u hj hi => pw_cell_below hb (hc j x i u hj hi)⟩⟩
theorem Row.at_ {w : World} {sz : Nat} {A : Option Addr} {xs : List (List Value)} (h : Row w sz A xs) {k : Nat} {x : List Value} (hk : xs[k]? = some x) :
    ∃ g o, A = some ⟨g, o, none⟩ ∧ ∀ i u, x[i]? = some u → w.cell? ⟨g, o + k * sz + i, none⟩ = some u := by
  have hlt : k < xs.length := (List.getElem?_eq_some_iff.1 hk).1
  obtain ⟨g, o, e, hc⟩ := h.2 (by omega)
  exact ⟨g, o, e, fun i u hi => hc k x i u hk hi⟩

/-- The blocks of so many tokens. -/
def Toks (B : Nat) (w : World) (ts : List Tk) (tb pb : List Nat) (nx pv : Nat → Option Nat) : Prop :=
  tb.Nodup ∧ ∀ j t b p, ts[j]? = some t → tb[j]? = some b → pb[j]? = some p →
    B ≤ b ∧ B ≤ p ∧ w.heap[b]? = some (.cells (tokCells t p (nx j) (pv j)) 77 (0, 0)) ∧ w.heap[p]? = some (.cells (plCells t.pl) 70 (0, 0))
theorem Toks.nil (B : Nat) (w : World) (ts : List Tk) (nx pv : Nat → Option Nat) : Toks B w ts [] [] nx pv := ⟨List.nodup_nil, fun j t b p _ h => by simp at h⟩
theorem Toks.lt {B : Nat} {w : World} {ts : List Tk} {tb pb : List Nat} {nx pv : Nat → Option Nat} (h : Toks B w ts tb pb nx pv) {b : Nat} (hp : pb.length = tb.length) (ht : tb.length ≤ ts.length) (hb : b ∈ tb) : b < w.heap.size := by
  obtain ⟨j, hj, e⟩ := List.mem_iff_getElem.1 hb
  have := (h.2 j (ts[j]'(by omega)) b (pb[j]'(by omega)) (List.getElem?_eq_getElem _) (by rw [List.getElem?_eq_getElem hj, e]) (List.getElem?_eq_getElem _)).2.2.1
  exact blk_lt this
/-- What moves no block of a token. -/
theorem Toks.move {B : Nat} {w w1 : World} {ts : List Tk} {tb pb : List Nat} {nx pv : Nat → Option Nat} (h : Toks B w ts tb pb nx pv)
    (hm : ∀ (k : Nat) (cs : Array Value) (t : TypeId), t = 77 ∨ t = 70 → w.heap[k]? = some (.cells cs t (0, 0)) → w1.heap[k]? = some (.cells cs t (0, 0))) : Toks B w1 ts tb pb nx pv :=
  ⟨h.1, fun j t b p ht hb hp => by
    obtain ⟨h1, h2, h3, h4⟩ := h.2 j t b p ht hb hp
    exact ⟨h1, h2, hm _ _ _ (.inl rfl) h3, hm _ _ _ (.inr rfl) h4⟩⟩
theorem Toks.below {B : Nat} {w w1 : World} {ts : List Tk} {tb pb : List Nat} {nx pv : Nat → Option Nat} (h : Toks B w ts tb pb nx pv) (hb : Below w.heap.size w w1) : Toks B w1 ts tb pb nx pv :=
  h.move fun k cs t _ hk => blk_below hk hb
/-- A row of another type of elements has been written. -/
theorem Toks.grown {B : Nat} {w w1 : World} {ts : List Tk} {tb pb : List Nat} {nx pv : Nat → Option Nat} (h : Toks B w ts tb pb nx pv) {base e size n : Nat} {v : Value} {xs : List Value} (ho : w.ownsRow base e size v n xs) (he : e ≠ 77 ∧ e ≠ 70)
    (hg : w.grownBy w1 v.ownBlock) : Toks B w1 ts tb pb nx pv :=
  h.move fun k cs t ht hk => blk_grown hk hg (by
    intro hk'
    obtain ⟨cells, hc⟩ := own_typed ho k hk'.symm
    rw [hc] at hk
    injection hk with hk
    injection hk with _ hk
    rcases ht with rfl | rfl
    · exact he.1 hk
    · exact he.2 hk)
/-- One token more, in new blocks. -/
theorem Toks.snoc {B : Nat} {w : World} {ts : List Tk} {tb pb : List Nat} {nx pv : Nat → Option Nat} (h : Toks B w ts tb pb nx pv) (hp : pb.length = tb.length) {t : Tk} (ht : ts[tb.length]? = some t) {b p : Nat} (hb : b ∉ tb) (hB : B ≤ b) (hB' : B ≤ p)
    (h1 : w.heap[b]? = some (.cells (tokCells t p (nx tb.length) (pv tb.length)) 77 (0, 0))) (h2 : w.heap[p]? = some (.cells (plCells t.pl) 70 (0, 0))) : Toks B w ts (tb ++ [b]) (pb ++ [p]) nx pv := by
  refine ⟨List.nodup_append.2 ⟨h.1, by simp, fun x hx y hy => ?_⟩, fun j t' b' p' ht' hb' hp' => ?_⟩
  · rw [List.mem_singleton.1 hy]
    rintro rfl
    exact hb hx
  · by_cases hj : j < tb.length
    · rw [List.getElem?_append_left hj] at hb'
      rw [List.getElem?_append_left (by omega)] at hp'
      exact h.2 j t' b' p' ht' hb' hp'
    · have hj' : j < (tb ++ [b]).length := (List.getElem?_eq_some_iff.1 hb').1
      obtain rfl : j = tb.length := by simp at hj'; omega
      rw [ht] at ht'
      obtain rfl := Option.some.inj ht'
      have e1 : (tb ++ [b])[tb.length]? = some b := by simp
      have e2 : (pb ++ [p])[tb.length]? = some p := by rw [← hp]; simp
      rw [e1] at hb'
      rw [e2] at hp'
      obtain rfl := Option.some.inj hb'
      obtain rfl := Option.some.inj hp'
      exact ⟨hB, hB', h1, h2⟩

end Go.Proofs.YtgidfhpcobpinaaDoor.AddM
