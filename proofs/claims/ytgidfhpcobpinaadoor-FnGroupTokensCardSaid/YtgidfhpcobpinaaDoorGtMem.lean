/- Groups of tokens as trees, and the blocks that hold them. -/
import Derived.Test.YtgidfhpcobpinaaDoorAddMem
namespace Go.Proofs.YtgidfhpcobpinaaDoor.GtM
open Go.RowKit Go.Proofs.YtgidfhpcobpinaaDoorW.PrintWords Go.Proofs.YtgidfhpcobpinaaDoorW.PrintLast Go.Proofs.YtgidfhpcobpinaaDoorW.PrintMore
open Go.Proofs.YtgidfhpcobpinaaDoor.AddM
set_option linter.unusedSimpArgs false
set_option linter.unusedVariables false

/-- A group of tokens, or one token. -/
inductive Tr where
  | leaf (i : Nat)
  | node (ty : Int) (kids : List Tr)

mutual
/-- The tokens of a group, in their order. -/
def yield : Tr → List Nat
  | .leaf i => [i]
  | .node _ ks => yields ks
def yields : List Tr → List Nat
  | [] => []
  | t :: ts => yield t ++ yields ts
end
theorem yields_append : ∀ a b : List Tr, yields (a ++ b) = yields a ++ yields b
  | [], b => rfl
  | t :: a, b => by
    show yield t ++ yields (a ++ b) = yield t ++ yields a ++ yields b
    rw [yields_append a b, List.append_assoc]
theorem yields_one (t : Tr) : yields [t] = yield t := by show yield t ++ yields [] = _; simp [yields]

mutual
/-- No group is empty. -/
def Full : Tr → Prop
  | .leaf _ => True
  | .node _ ks => ks ≠ [] ∧ Fulls ks
def Fulls : List Tr → Prop
  | [] => True
  | t :: ts => Full t ∧ Fulls ts
end

def nodeCells (t g : Option Nat) : Array Value := #[ptr t, ptr g, ptr none]
def groupCells (ty : Int) (r n c : Nat) : Array Value := #[.int .i64 ty, .slice (some ⟨r, 0, none⟩) n c]
def ptrs (bs : List Nat) : List Value := bs.map fun b => ptr (some b)

/-- A row of pointers. -/
def RowAt (w : World) (r : Nat) (bs : List Nat) : Prop := ∃ cs, w.heap[r]? = some (.cells cs 93 (0, 0)) ∧ ∀ (j b : Nat), bs[j]? = some b → cs[j]? = some (ptr (some b))
theorem RowAt.frame {w w' : World} {r : Nat} {bs : List Nat} (h : RowAt w r bs) (hk : w'.heap[r]? = w.heap[r]?) : RowAt w' r bs := by
  obtain ⟨cs, h1, h2⟩ := h
  exact ⟨cs, hk.trans h1, h2⟩
theorem RowAt.cell {w : World} {r : Nat} {bs : List Nat} (h : RowAt w r bs) {j b : Nat} (hj : bs[j]? = some b) : w.cell? ⟨r, j, none⟩ = some (ptr (some b)) := by
  obtain ⟨cs, h1, h2⟩ := h
  rw [blk_cell h1]
  exact h2 j b hj

mutual
/-- A block holds a group; the blocks that it takes up. -/
def Rep (w : World) (tb : List Nat) : Tr → Nat → List Nat → Prop
  | .leaf i, b, fp => fp = [b] ∧ ∃ a, tb[i]? = some a ∧ w.heap[b]? = some (.cells (nodeCells (some a) none) 96 (0, 0))
  | .node ty ks, b, fp => ∃ g r c bs f, fp = b :: g :: r :: f ∧ w.heap[b]? = some (.cells (nodeCells none (some g)) 96 (0, 0)) ∧ w.heap[g]? = some (.cells (groupCells ty r bs.length c) 100 (0, 0)) ∧ RowAt w r bs ∧ RepL w tb ks bs f
def RepL (w : World) (tb : List Nat) : List Tr → List Nat → List Nat → Prop
  | [], bs, fp => bs = [] ∧ fp = []
  | t :: ts, bs, fp => ∃ b bs' f f', bs = b :: bs' ∧ fp = f ++ f' ∧ Rep w tb t b f ∧ RepL w tb ts bs' f'
end

mutual
theorem Rep.frame {w w' : World} {tb : List Nat} : ∀ (t : Tr) (b : Nat) (fp : List Nat), Rep w tb t b fp → (∀ k ∈ fp, w'.heap[k]? = w.heap[k]?) → Rep w' tb t b fp
  | .leaf i, b, fp, h, hk => by
    obtain ⟨rfl, a, h1, h2⟩ := h
    exact ⟨rfl, a, h1, (hk b (by simp)).trans h2⟩
  | .node ty ks, b, fp, h, hk => by
    obtain ⟨g, r, c, bs, f, rfl, h1, h2, h3, h4⟩ := h
    exact ⟨g, r, c, bs, f, rfl, (hk b (by simp)).trans h1, (hk g (by simp)).trans h2, h3.frame (hk r (by simp)), RepL.frame ks bs f h4 (fun k hf => hk k (by simp [hf]))⟩
theorem RepL.frame {w w' : World} {tb : List Nat} : ∀ (ts : List Tr) (bs fp : List Nat), RepL w tb ts bs fp → (∀ k ∈ fp, w'.heap[k]? = w.heap[k]?) → RepL w' tb ts bs fp
  | [], bs, fp, h, hk => h
  | t :: ts, bs, fp, h, hk => by
    obtain ⟨b, bs', f, f', rfl, rfl, h1, h2⟩ := h
    exact ⟨b, bs', f, f', rfl, rfl, Rep.frame t b f h1 (fun k hf => hk k (List.mem_append_left _ hf)), RepL.frame ts bs' f' h2 (fun k hf => hk k (List.mem_append_right _ hf))⟩
end

mutual
theorem Rep.lt {w : World} {tb : List Nat} : ∀ (t : Tr) (b : Nat) (fp : List Nat), Rep w tb t b fp → ∀ k ∈ fp, k < w.heap.size
  | .leaf i, b, fp, h, k, hk => by
    obtain ⟨rfl, a, h1, h2⟩ := h
    rw [List.mem_singleton.1 hk]
    exact blk_lt h2
  | .node ty ks, b, fp, h, k, hk => by
    obtain ⟨g, r, c, bs, f, rfl, h1, h2, ⟨cs, h3, _⟩, h4⟩ := h
    rcases List.mem_cons.1 hk with rfl | hk
    · exact blk_lt h1
    · rcases List.mem_cons.1 hk with rfl | hk
      · exact blk_lt h2
      · rcases List.mem_cons.1 hk with rfl | hk
        · exact blk_lt h3
        · exact RepL.lt ks bs f h4 k hk
theorem RepL.lt {w : World} {tb : List Nat} : ∀ (ts : List Tr) (bs fp : List Nat), RepL w tb ts bs fp → ∀ k ∈ fp, k < w.heap.size
  | [], bs, fp, h, k, hk => by rw [h.2] at hk; cases hk
  | t :: ts, bs, fp, h, k, hk => by
    obtain ⟨b, bs', f, f', rfl, rfl, h1, h2⟩ := h
    rcases List.mem_append.1 hk with hk | hk
    · exact Rep.lt t b f h1 k hk
    · exact RepL.lt ts bs' f' h2 k hk
end

theorem Rep.root {w : World} {tb : List Nat} {t : Tr} {b : Nat} {fp : List Nat} (h : Rep w tb t b fp) : ∃ f, fp = b :: f := by
  cases t with
  | leaf i => exact ⟨[], h.1⟩
  | node ty ks =>
    obtain ⟨g, r, c, bs, f, rfl, _⟩ := h
    exact ⟨_, rfl⟩

theorem RepL.append {w : World} {tb : List Nat} : ∀ (l1 l2 : List Tr) (b1 b2 f1 f2 : List Nat), RepL w tb l1 b1 f1 → RepL w tb l2 b2 f2 → RepL w tb (l1 ++ l2) (b1 ++ b2) (f1 ++ f2)
  | [], l2, b1, b2, f1, f2, h1, h2 => by obtain ⟨rfl, rfl⟩ := h1; exact h2
  | t :: l1, l2, b1, b2, f1, f2, h1, h2 => by
    obtain ⟨b, bs', f, f', rfl, rfl, h3, h4⟩ := h1
    exact ⟨b, bs' ++ b2, f, f' ++ f2, rfl, by rw [List.append_assoc], h3, RepL.append l1 l2 bs' b2 f' f2 h4 h2⟩
theorem RepL.one {w : World} {tb : List Nat} {t : Tr} {b : Nat} {f : List Nat} (h : Rep w tb t b f) : RepL w tb [t] [b] f := ⟨b, [], f, [], rfl, by simp, h, rfl, rfl⟩
theorem RepL.length {w : World} {tb : List Nat} : ∀ (ts : List Tr) (bs fp : List Nat), RepL w tb ts bs fp → bs.length = ts.length
  | [], bs, fp, h => by rw [h.1]; rfl
  | t :: ts, bs, fp, h => by
    obtain ⟨b, bs', f, f', rfl, rfl, h1, h2⟩ := h
    rw [List.length_cons, List.length_cons, RepL.length ts bs' f' h2]
theorem RepL.last {w : World} {tb : List Nat} : ∀ (ts : List Tr) (bs fp : List Nat) (b : Nat), RepL w tb ts (bs ++ [b]) fp → ∃ ts' t f f', ts = ts' ++ [t] ∧ fp = f ++ f' ∧ RepL w tb ts' bs f ∧ Rep w tb t b f'
  | [], bs, fp, b, h => by have := h.1; simp at this
  | t :: ts, [], fp, b, h => by
    obtain ⟨b', bs', f, f', hb, rfl, h1, h2⟩ := h
    simp only [List.nil_append, List.cons.injEq] at hb
    obtain ⟨rfl, rfl⟩ := hb
    cases ts with
    | nil =>
      obtain ⟨_, rfl⟩ := h2
      exact ⟨[], t, [], f, rfl, by simp, ⟨rfl, rfl⟩, h1⟩
    | cons t2 ts =>
      obtain ⟨b2, bs2, _, _, hb, _⟩ := h2
      cases hb
  | t :: ts, b0 :: bs, fp, b, h => by
    obtain ⟨b', bs', f, f', hb, rfl, h1, h2⟩ := h
    simp only [List.cons_append, List.cons.injEq] at hb
    obtain ⟨rfl, rfl⟩ := hb
    obtain ⟨ts', t', g, g', rfl, rfl, h3, h4⟩ := RepL.last ts bs f' b h2
    exact ⟨t :: ts', t', f ++ g, g', rfl, by rw [List.append_assoc], ⟨b0, bs, f, g, rfl, rfl, h1, h3⟩, h4⟩

/-- The first token of a block's group. -/
inductive Head (w : World) : Nat → Nat → Prop
  | leaf (b a : Nat) (h : w.heap[b]? = some (.cells (nodeCells (some a) none) 96 (0, 0))) : Head w b a
  | node (b g r n c : Nat) (ty : Int) (b' a : Nat) (h1 : w.heap[b]? = some (.cells (nodeCells none (some g)) 96 (0, 0))) (h2 : w.heap[g]? = some (.cells (groupCells ty r (n + 1) c) 100 (0, 0))) (h3 : w.cell? ⟨r, 0, none⟩ = some (ptr (some b'))) (h4 : Head w b' a) : Head w b a

theorem head_of {w : World} {tb : List Nat} : ∀ (t : Tr) (b : Nat) (fp : List Nat), Rep w tb t b fp → Full t → ∃ (i a : Nat), tb[i]? = some a ∧ Head w b a
  | .leaf i, b, fp, h, _ => by
    obtain ⟨_, a, h1, h2⟩ := h
    exact ⟨i, a, h1, Head.leaf b a h2⟩
  | .node ty [], b, fp, h, hf => absurd rfl hf.1
  | .node ty (k :: ks), b, fp, h, hf => by
    obtain ⟨g, r, c, bs, f, rfl, h1, h2, h3, h4⟩ := h
    obtain ⟨b', bs', f1, f2, rfl, rfl, h5, h6⟩ := h4
    obtain ⟨i, a, hi, ha⟩ := head_of k b' f1 h5 hf.2.1
    exact ⟨i, a, hi, Head.node b g r bs'.length c ty b' a h1 h2 (h3.cell (j := 0) rfl) ha⟩

/-! ### What a pass knows -/
structure St (B0 : Nat) (w0 w wr : World) (tb Y rs : List Nat) (v : Value) (obs : List Nat) (out rem : List Tr) (fo fr : List Nat) : Prop where
  bel : Below B0 w0 wr
  b0 : B0 ≤ w.heap.size
  wz : w.heap.size ≤ wr.heap.size
  old : ∀ (j : Nat) (cs : Array Value) (t : TypeId), t ≠ 96 → w.heap[j]? = some (.cells cs t (0, 0)) → wr.heap[j]? = some (.cells cs t (0, 0))
  vs : ∃ r m c, v = .slice (some ⟨r, 0, none⟩) m c
  own : wr.ownsRow w.heap.size 93 1 v obs.length (ptrs obs)
  ro : RepL wr tb out obs fo
  rr : RepL wr tb rem rs fr
  nd : (fo ++ fr).Nodup
  lo : ∀ j ∈ fo ++ fr, B0 ≤ j
  nv : ∀ j ∈ fo ++ fr, v.ownBlock ≠ some j
  y : yields out ++ yields rem = Y
  full : (∀ t ∈ out, Full t) ∧ ∀ t ∈ rem, Full t

section
variable {B0 : Nat} {w0 w wr w2 : World} {tb Y rs : List Nat} {v : Value} {obs : List Nat} {out rem : List Tr} {fo fr : List Nat}

theorem St.mem_lt (h : St B0 w0 w wr tb Y rs v obs out rem fo fr) {j : Nat} (hj : j ∈ fo ++ fr) : j < wr.heap.size := by
  rcases List.mem_append.1 hj with hj | hj
  · exact RepL.lt _ _ _ h.ro j hj
  · exact RepL.lt _ _ _ h.rr j hj

/-- Nothing that was there has changed. -/
theorem St.more (h : St B0 w0 w wr tb Y rs v obs out rem fo fr) (hb : Below wr.heap.size wr w2) : St B0 w0 w w2 tb Y rs v obs out rem fo fr :=
  { h with
    bel := below_then h.bel (by have := h.b0; have := h.wz; omega) hb
    wz := by have := h.wz; have := hb.size; omega
    old := fun j cs t ht hj => blk_below (h.old j cs t ht hj) hb
    own := pw_own_below h.own hb
    ro := RepL.frame _ _ _ h.ro fun k hk => hb.block k (h.mem_lt (List.mem_append_left _ hk))
    rr := RepL.frame _ _ _ h.rr fun k hk => hb.block k (h.mem_lt (List.mem_append_right _ hk)) }

/-- The first of what is left is put to what has been made. -/
theorem St.keep {b gg cap : Nat} {C : Obj} (h : St B0 w0 w wr tb Y (b :: rs) v obs out rem fo fr) (hg : (wr.alloc C).grownBy w2 v.ownBlock) (hown : w2.ownsRow w.heap.size 93 1 (.slice (some ⟨gg, 0, none⟩) (obs.length + 1) cap) (obs.length + 1) (ptrs obs ++ [ptr (some b)]))
    (hat : v.ownBlock = some gg ∨ gg = wr.heap.size + 1) :
    ∃ t rem' f fr', rem = t :: rem' ∧ St B0 w0 w w2 tb Y rs (.slice (some ⟨gg, 0, none⟩) (obs.length + 1) cap) (obs ++ [b]) (out ++ [t]) rem' (fo ++ f) fr' := by
  have hsz : w2.heap.size ≥ wr.heap.size + 1 := by have := hg.size; simpa using this
  have hsame : ∀ k ∈ fo ++ fr, w2.heap[k]? = wr.heap[k]? := fun k hk => by
    have hlt := h.mem_lt hk
    rw [hg.block k (by simp; omega) (fun e => h.nv k hk e.symm), Below.heap_alloc _ _ _ hlt]
  have hold : ∀ (j : Nat) (cs : Array Value) (t : TypeId), t ≠ 96 → w.heap[j]? = some (.cells cs t (0, 0)) → w2.heap[j]? = some (.cells cs t (0, 0)) := fun j cs t ht hj => by
    have h1 := h.old j cs t ht hj
    refine blk_grown (blk_alloc h1 C) hg ?_
    intro e
    have := own_base h.own j e.symm
    have := blk_lt hj
    omega
  have hrr := h.rr
  cases rem with
  | nil => have := hrr.1; cases this
  | cons t rem' =>
    obtain ⟨b', bs', f, fr', hbs, rfl, h1, h2⟩ := hrr
    simp only [List.cons.injEq] at hbs
    obtain ⟨rfl, rfl⟩ := hbs
    refine ⟨t, rem', f, fr', rfl, ?_⟩
    have hf1 : RepL w2 tb (out ++ [t]) (obs ++ [b]) (fo ++ f) :=
      RepL.append _ _ _ _ _ _ (RepL.frame _ _ _ h.ro fun k hk => hsame k (List.mem_append_left _ hk)) (RepL.one (Rep.frame _ _ _ h1 fun k hk => hsame k (List.mem_append_right _ (List.mem_append_left _ hk))))
    refine { bel := ?_, b0 := h.b0, wz := by have := h.wz; omega, old := hold, vs := ⟨_, _, _, rfl⟩, own := by simpa [ptrs] using hown, ro := hf1, rr := RepL.frame _ _ _ h2 fun k hk => hsame k (List.mem_append_right _ (List.mem_append_right _ hk)), nd := by rw [List.append_assoc]; exact h.nd, lo := fun j hj => h.lo j (by rwa [List.append_assoc] at hj), nv := ?_, y := ?_, full := ⟨fun x hx => ?_, fun x hx => h.full.2 x (List.mem_cons_of_mem _ hx)⟩ }
    · exact pw_below_grown (h.bel.alloc (by have := h.b0; have := h.wz; omega) C) _ (by have := h.b0; have := h.wz; simp; omega) hg (fun k hk => by have := own_base h.own k hk; have := h.b0; omega)
    · intro j hj
      rw [List.append_assoc] at hj
      rcases hat with hat | hat
      · have := h.nv j hj
        rw [hat] at this
        exact this
      · have := h.mem_lt hj
        intro e
        have : gg = j := by simpa [Value.ownBlock] using e
        omega
    · rw [yields_append, yields_one, List.append_assoc]
      exact h.y
    · rcases List.mem_append.1 hx with hx | hx
      · exact h.full.1 x hx
      · rw [List.mem_singleton.1 hx]; exact h.full.2 t (List.mem_cons_self ..)

/-- Two of what is left have become one group. -/
theorem St.make {b1 b2 r g nb c : Nat} {ty : Int} (h : St B0 w0 w wr tb Y (b1 :: b2 :: rs) v obs out rem fo fr) (hb : Below wr.heap.size wr w2)
    (hr : w2.heap[r]? = some (.cells #[ptr (some b1), ptr (some b2)] 93 (0, 0))) (hg : w2.heap[g]? = some (.cells (groupCells ty r 2 c) 100 (0, 0))) (hn : w2.heap[nb]? = some (.cells (nodeCells none (some g)) 96 (0, 0)))
    (h1 : wr.heap.size ≤ r) (h2 : wr.heap.size ≤ g) (h3 : wr.heap.size ≤ nb) : ∃ rem' fr', St B0 w0 w w2 tb Y (nb :: rs) v obs out rem' fo fr' := by
  have hM := h.more hb
  have hrr := hM.rr
  cases rem with
  | nil => have := hrr.1; cases this
  | cons t1 rem =>
    obtain ⟨_, _, f1, fr1, hbs, rfl, k1, hrr⟩ := hrr
    simp only [List.cons.injEq] at hbs
    obtain ⟨rfl, rfl⟩ := hbs
    cases rem with
    | nil => have := hrr.1; cases this
    | cons t2 rem =>
      obtain ⟨_, _, f2, fr2, hbs, rfl, k2, k3⟩ := hrr
      simp only [List.cons.injEq] at hbs
      obtain ⟨rfl, rfl⟩ := hbs
      have hlt : ∀ j ∈ fo ++ (f1 ++ (f2 ++ fr2)), j < wr.heap.size := fun j hj => h.mem_lt hj
      have n1 : nb ≠ g := blk_ne hn hg (by decide)
      have n2 : nb ≠ r := blk_ne hn hr (by decide)
      have n3 : g ≠ r := blk_ne hg hr (by decide)
      refine ⟨.node ty [t1, t2] :: rem, (nb :: g :: r :: (f1 ++ f2)) ++ fr2, { hM with rr := ?_, nd := ?_, lo := ?_, nv := ?_, y := ?_, full := ⟨h.full.1, fun x hx => ?_⟩ }⟩
      · refine ⟨nb, rs, _, fr2, rfl, rfl, ⟨g, r, c, [b1, b2], f1 ++ f2, rfl, hn, hg, ⟨_, hr, fun j b hj => ?_⟩, ?_⟩, k3⟩
        · match j with
          | 0 => simp only [List.getElem?_cons_zero, Option.some.injEq] at hj; subst hj; rfl
          | 1 => simp only [List.getElem?_cons_succ, List.getElem?_cons_zero, Option.some.injEq] at hj; subst hj; rfl
          | j + 2 => simp at hj
        · exact ⟨b1, [b2], f1, f2, rfl, rfl, k1, RepL.one k2⟩
      · have hnd := h.nd
        have e : fo ++ (nb :: g :: r :: (f1 ++ f2) ++ fr2) = fo ++ ([nb, g, r] ++ (f1 ++ (f2 ++ fr2))) := by simp
        rw [e]
        have hp : (fo ++ ([nb, g, r] ++ (f1 ++ (f2 ++ fr2)))).Perm ([nb, g, r] ++ (fo ++ (f1 ++ (f2 ++ fr2)))) := List.perm_append_comm_assoc ..
        rw [hp.nodup_iff]
        refine List.nodup_append.2 ⟨by simp [n1, n2, n3], hnd, fun x hx y' hy => ?_⟩
        rintro rfl
        have := hlt x hy
        simp only [List.mem_cons, List.mem_nil_iff, or_false] at hx
        rcases hx with rfl | rfl | rfl <;> omega
      · intro j hj
        have hb0 := h.b0
        have hwz := h.wz
        simp only [List.mem_append, List.mem_cons] at hj
        rcases hj with hj | (rfl | rfl | rfl | hj | hj) | hj
        · exact h.lo j (by simp [hj])
        · omega
        · omega
        · omega
        · exact h.lo j (by simp [hj])
        · exact h.lo j (by simp [hj])
        · exact h.lo j (by simp [hj])
      · intro j hj e
        have hv := own_lt h.own j e
        simp only [List.mem_append, List.mem_cons] at hj
        rcases hj with hj | (rfl | rfl | rfl | hj | hj) | hj
        · exact h.nv j (by simp [hj]) e
        · omega
        · omega
        · omega
        · exact h.nv j (by simp [hj]) e
        · exact h.nv j (by simp [hj]) e
        · exact h.nv j (by simp [hj]) e
      · have := h.y
        simp only [yields, yield] at this ⊢
        rw [← this]
        simp
      · rcases List.mem_cons.1 hx with rfl | hx
        · exact ⟨by simp, h.full.2 t1 (List.mem_cons_self ..), h.full.2 t2 (List.mem_cons_of_mem _ (List.mem_cons_self ..)), trivial⟩
        · exact h.full.2 x (List.mem_cons_of_mem _ (List.mem_cons_of_mem _ hx))
end

end Go.Proofs.YtgidfhpcobpinaaDoor.GtM
