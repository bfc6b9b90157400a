/- FnGroupTokens: what goes into a pass, and what comes out. -/
import Derived.Test.YtgidfhpcobpinaaDoorGtHead
namespace Go.Proofs.YtgidfhpcobpinaaDoor.GtW
open Go.RowKit Go.Proofs.YtgidfhpcobpinaaDoor.PFnGroupTokens Go.Proofs.YtgidfhpcobpinaaDoorW.PrintWords Go.Proofs.YtgidfhpcobpinaaDoorW.PrintLast Go.Proofs.YtgidfhpcobpinaaDoorW.PrintMore
open Go.Proofs.YtgidfhpcobpinaaDoor.AddM Go.Proofs.YtgidfhpcobpinaaDoor.GtM
set_option linter.unusedSimpArgs false
set_option linter.unusedVariables false

/-- A list of groups. -/
structure Lst (B0 : Nat) (w0 w : World) (tb Y bs : List Nat) (r c : Nat) (out : List Tr) (F : List Nat) : Prop where
  row : RowAt w r bs
  nr : r ∉ F
  rb : B0 ≤ r
  rep : RepL w tb out bs F
  nd : F.Nodup
  lo : ∀ j ∈ F, B0 ≤ j
  y : yields out = Y
  full : ∀ t ∈ out, Full t
  bel : Below B0 w0 w
  b0 : B0 ≤ w.heap.size
  tok : ∀ (i a : Nat), tb[i]? = some a → ∃ z, TokAt w a z

theorem Lst.more {B0 : Nat} {w0 w w2 : World} {tb Y bs : List Nat} {r c : Nat} {out : List Tr} {F : List Nat} (h : Lst B0 w0 w tb Y bs r c out F) (hb : Below w.heap.size w w2) : Lst B0 w0 w2 tb Y bs r c out F :=
  { h with
    row := h.row.frame (hb.block _ (by obtain ⟨cs, h1, _⟩ := h.row; exact blk_lt h1))
    rep := RepL.frame _ _ _ h.rep fun k hk => hb.block k (RepL.lt _ _ _ h.rep k hk)
    bel := below_then h.bel h.b0 hb
    b0 := Nat.le_trans h.b0 hb.size
    tok := fun i a hi => by
      obtain ⟨z, hz⟩ := h.tok i a hi
      exact ⟨z, hz.frame fun j cs t _ hj => blk_below hj hb⟩ }

/-- What a loop knows, with m things made at most. -/
def Sx (B0 : Nat) (w0 w wr : World) (tb Y rs : List Nat) (v : Value) (m : Nat) : Prop :=
  ∃ obs out rem fo fr, St B0 w0 w wr tb Y rs v obs out rem fo fr ∧ obs.length ≤ m

section
variable {B0 : Nat} {w0 w wr w2 : World} {tb Y rs bs : List Nat} {v : Value} {obs : List Nat} {out rem : List Tr} {fo fr F : List Nat} {r c m : Nat}

theorem Lst.start (h : Lst B0 w0 w tb Y bs r c out F) (hb : Below w.heap.size w wr) (hl : bs.length ≤ maxLen) (hw : wr.heap[w.heap.size]? = some (.cells (Array.replicate bs.length (.pointer none)) 93 (0, 0))) : Sx B0 w0 w wr tb Y bs (.slice (some ⟨w.heap.size, 0, none⟩) 0 bs.length) 0 := by
  have hM := h.more hb
  refine ⟨[], [], out, [], F, ?_, Nat.le_refl _⟩
  exact
    { bel := hM.bel, b0 := h.b0, wz := hb.size, old := fun j cs t _ hj => blk_below hj hb, vs := ⟨_, _, _, rfl⟩
      own := ⟨rfl, .inr ⟨w.heap.size, bs.length, _, rfl, Nat.le_refl _, hw, Nat.zero_le _, hl, by simp, rfl⟩⟩
      ro := ⟨rfl, rfl⟩, rr := hM.rep, nd := by simpa using h.nd, lo := fun j hj => h.lo j (by simpa using hj)
      nv := fun j hj e => by
        have hlt := RepL.lt _ _ _ h.rep j (by simpa using hj)
        have : w.heap.size = j := by simpa [Value.ownBlock] using e
        omega
      y := by simpa [yields] using h.y, full := ⟨fun t ht => (by cases ht), h.full⟩ }

theorem St.end_ (h : St B0 w0 w wr tb Y [] v obs out rem fo fr) (htok : ∀ (i a : Nat), tb[i]? = some a → ∃ z, TokAt w a z) : ∃ r c, v = .slice (some ⟨r, 0, none⟩) obs.length c ∧ Lst B0 w0 wr tb Y obs r c out fo := by
  obtain ⟨r, m, c, rfl⟩ := h.vs
  have hm : obs.length = m ∨ True := .inr trivial
  obtain ⟨cs, hcs⟩ := own_typed h.own r rfl
  have hown := h.own
  have hr : w.heap.size ≤ r := own_base hown r rfl
  have hlen : m = obs.length := by
    rcases hown.2 with ⟨h1, _⟩ | ⟨g', cap', cur, h1, _⟩
    · cases h1
    · injection h1 with _ h1 _
  subst hlen
  have hrem : rem = [] ∧ fr = [] := by
    have hrr := h.rr
    cases rem with
    | nil => exact ⟨rfl, hrr.2⟩
    | cons t ts => obtain ⟨_, _, _, _, hb, _⟩ := hrr; cases hb
  obtain ⟨rfl, rfl⟩ := hrem
  refine ⟨r, c, rfl, ?_⟩
  have hb0 := h.b0
  have hwz := h.wz
  exact
    { row := ⟨cs, hcs, fun j b hj => by
        have := hown.cells (g := r) rfl j (ptr (some b)) (by rw [ptrs, List.getElem?_map, hj]; rfl)
        rw [add_plain, blk_cell hcs] at this
        exact this⟩
      nr := fun hj => h.nv r (by simpa using hj) rfl, rb := by omega
      rep := h.ro, nd := by simpa using h.nd, lo := fun j hj => h.lo j (by simpa using hj), y := by simpa [yields] using h.y, full := h.full.1, bel := h.bel, b0 := by omega
      tok := fun i a hi => by
        obtain ⟨z, hz⟩ := htok i a hi
        exact ⟨z, hz.frame h.old⟩ }

/-- Of what is left, each has a first token. -/
theorem St.head (h : St B0 w0 w wr tb Y rs v obs out rem fo fr) (htok : ∀ (i a : Nat), tb[i]? = some a → ∃ z, TokAt w a z) {j b : Nat} (hj : rs[j]? = some b) : ∃ a z, Head wr b a ∧ TokAt wr a z := by
  have key : ∀ (ts : List Tr) (bs fp : List Nat), RepL wr tb ts bs fp → (∀ t ∈ ts, Full t) → ∀ (j b : Nat), bs[j]? = some b → ∃ (i a : Nat), tb[i]? = some a ∧ Head wr b a := by
    intro ts
    induction ts with
    | nil => intro bs fp h _ j b hj; rw [h.1] at hj; simp at hj
    | cons t ts ih =>
      intro bs fp h hf j b hj
      obtain ⟨b', bs', f, f', rfl, rfl, h1, h2⟩ := h
      cases j with
      | zero =>
        simp only [List.getElem?_cons_zero, Option.some.injEq] at hj
        subst hj
        exact head_of t b' f h1 (hf t (List.mem_cons_self ..))
      | succ j => exact ih bs' f' h2 (fun x hx => hf x (List.mem_cons_of_mem _ hx)) j b (by simpa using hj)
  obtain ⟨i, a, hi, ha⟩ := key rem rs fr h.rr h.full.2 j b hj
  obtain ⟨z, hz⟩ := htok i a hi
  exact ⟨a, z, ha, hz.frame h.old⟩

/-- The row of what goes in. -/
theorem St.row (h : St B0 w0 w wr tb Y rs v obs out rem fo fr) (hr : RowAt w r bs) : RowAt wr r bs := by
  obtain ⟨cs, h1, h2⟩ := hr
  exact ⟨cs, h.old r cs 93 (by decide) h1, h2⟩

theorem Sx.keep {b gg cap : Nat} {C : Obj} (h : St B0 w0 w wr tb Y (b :: rs) v obs out rem fo fr) (hm : obs.length ≤ m) (hg : (wr.alloc C).grownBy w2 v.ownBlock) (hown : w2.ownsRow w.heap.size 93 1 (.slice (some ⟨gg, 0, none⟩) (obs.length + 1) cap) (obs.length + 1) (ptrs obs ++ [ptr (some b)]))
    (hat : v.ownBlock = some gg ∨ gg = wr.heap.size + 1) : Sx B0 w0 w w2 tb Y rs (.slice (some ⟨gg, 0, none⟩) (obs.length + 1) cap) (m + 1) := by
  obtain ⟨t, rem', f, fr', rfl, hS⟩ := h.keep hg hown hat
  exact ⟨_, _, _, _, _, hS, by rw [List.length_append]; simp; omega⟩
end

theorem info93 : (Tryd.prog.info? 93).map (fun i => (i.zero, i.size, i.bytes)) = some (some (.pointer none), 1, 8) := by kernel_rfl

theorem make_ptrs (n : Nat) (hn : n ≤ 1000) (W : World) : (Instr.makeSlice 57 (.int .i64 0) (.int .i64 (n : Int))).run Tryd.prog W = .ok (.slice (some ⟨W.heap.size, 0, none⟩) 0 n) (W.alloc (.cells (Array.replicate n (.pointer none)) 93)) := by
  obtain ⟨i0, hi0, hz0, hz1, hz2⟩ := info_parts info93
  have h := run_make (P := Tryd.prog) W 57 93 i0 (.pointer none) Tryd.underlying57 hi0 hz0 .i64 .i64 0 (n : Int) (by omega) (by omega) (by rw [hz2]; omega) (by omega)
  have e : madeCells (Value.pointer none).cells ((n : Int).toNat * i0.size) = Array.replicate n (.pointer none) := by
    rw [hz1, Int.toNat_natCast, Nat.mul_one]
    apply Array.ext
    · simp [madeCells]
    · intro j h1 h2
      simp [madeCells, Value.cells, Nat.mod_one]
  rw [e, Int.toNat_natCast] at h
  exact h

theorem drop_cons {bs : List Nat} {k : Nat} (h : k < bs.length) : ∃ b, bs[k]? = some b ∧ bs.drop k = b :: bs.drop (k + 1) := ⟨_, List.getElem?_eq_getElem h, List.drop_eq_getElem_cons h⟩

/-- What a pass hands back. -/
def Done (B0 : Nat) (w0 : World) (tb Y : List Nat) (n : Nat) (v : Value) (w' : World) : Prop :=
  ∃ bs r c out F, v = .slice (some ⟨r, 0, none⟩) bs.length c ∧ Lst B0 w0 w' tb Y bs r c out F ∧ bs.length ≤ n

theorem Sx.done {B0 : Nat} {w0 w wr : World} {tb Y : List Nat} {v : Value} {m n : Nat} (h : Sx B0 w0 w wr tb Y [] v m) (hm : m ≤ n) (htok : ∀ (i a : Nat), tb[i]? = some a → ∃ z, TokAt w a z) : Done B0 w0 tb Y n v wr := by
  obtain ⟨obs, out, rem, fo, fr, hS, hl⟩ := h
  obtain ⟨r, c, rfl, hL⟩ := St.end_ hS htok
  exact ⟨obs, r, c, out, fo, rfl, hL, by omega⟩

end Go.Proofs.YtgidfhpcobpinaaDoor.GtW
