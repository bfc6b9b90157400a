/- FnGroupTokens: a colon goes to the key ahead of it. -/
import Derived.Test.YtgidfhpcobpinaaDoorGtPass4
namespace Go.Proofs.YtgidfhpcobpinaaDoor.GtW
open Go.RowKit Go.Proofs.YtgidfhpcobpinaaDoor.PFnGroupTokens Go.Proofs.YtgidfhpcobpinaaDoorW.PrintWords Go.Proofs.YtgidfhpcobpinaaDoorW.PrintLast Go.Proofs.YtgidfhpcobpinaaDoorW.PrintMore
open Go.Proofs.YtgidfhpcobpinaaDoor.AddM Go.Proofs.YtgidfhpcobpinaaDoor.GtM
set_option linter.unusedSimpArgs false
set_option linter.unusedVariables false

theorem ptr_inj {a b : Option Nat} (h : ptr a = ptr b) : a = b := by
  cases a <;> cases b <;> simp [ptr] at h
  · rfl
  · rw [h]

theorem head_det {w : World} {b a a' : Nat} (h : Head w b a) (h' : Head w b a') : a = a' := by
  induction h generalizing a' with
  | leaf b a h =>
    cases h' with
    | leaf _ _ h2 =>
      rw [h] at h2
      simp only [nodeCells, Option.some.injEq, Obj.cells.injEq, Array.mk.injEq, List.cons.injEq] at h2
      have := ptr_inj h2.1.1
      injection this
    | node _ g r n c ty b' _ h2 _ _ _ =>
      rw [h] at h2
      simp only [nodeCells, Option.some.injEq, Obj.cells.injEq, Array.mk.injEq, List.cons.injEq] at h2
      have := ptr_inj h2.1.1
      cases this
  | node b g r n c ty b1 a h1 h2 h3 h4 ih =>
    cases h' with
    | leaf _ _ k1 =>
      rw [h1] at k1
      simp only [nodeCells, Option.some.injEq, Obj.cells.injEq, Array.mk.injEq, List.cons.injEq] at k1
      have := ptr_inj k1.1.1
      cases this
    | node _ g' r' n' c' ty' b1' _ k1 k2 k3 k4 =>
      rw [h1] at k1
      simp only [nodeCells, Option.some.injEq, Obj.cells.injEq, Array.mk.injEq, List.cons.injEq] at k1
      have e1 := ptr_inj k1.1.2.1
      simp only [Option.some.injEq] at e1
      subst e1
      rw [h2] at k2
      simp only [groupCells, Option.some.injEq, Obj.cells.injEq, Array.mk.injEq, List.cons.injEq, Value.slice.injEq, Addr.mk.injEq] at k2
      obtain ⟨⟨_, ⟨⟨e2, _⟩, _, _⟩, _⟩, _⟩ := k2
      subst e2
      rw [h3] at k3
      simp only [Option.some.injEq] at k3
      have e3 := ptr_inj k3
      simp only [Option.some.injEq] at e3
      subst e3
      exact ih k4

/-- The first token of a group. -/
def first : Tr → Nat
  | .leaf i => i
  | .node _ [] => 0
  | .node _ (k :: _) => first k

theorem head_first {w : World} {tb : List Nat} : ∀ (t : Tr) (b : Nat) (fp : List Nat), Rep w tb t b fp → Full t → ∃ a, tb[first t]? = some a ∧ Head w b a
  | .leaf i, b, fp, h, _ => by
    obtain ⟨_, a, h1, h2⟩ := h
    exact ⟨a, h1, Head.leaf b a h2⟩
  | .node ty [], b, fp, h, hf => absurd rfl hf.1
  | .node ty (k :: ks), b, fp, h, hf => by
    obtain ⟨g, r, c, bs, f, rfl, h1, h2, h3, h4⟩ := h
    obtain ⟨b', bs', f1, f2, rfl, rfl, h5, h6⟩ := h4
    obtain ⟨a, hi, ha⟩ := head_first k b' f1 h5 hf.2.1
    exact ⟨a, hi, Head.node b g r bs'.length c ty b' a h1 h2 (h3.cell (j := 0) rfl) ha⟩

/-- A group's node has been copied. -/
theorem Rep.moved {w w' : World} {tb : List Nat} {t : Tr} {b nb : Nat} {f : List Nat} (h : Rep w tb t b (b :: f)) (hn : w'.heap[nb]? = w.heap[b]?) (hk : ∀ k ∈ f, w'.heap[k]? = w.heap[k]?) : Rep w' tb t nb (nb :: f) := by
  cases t with
  | leaf i =>
    obtain ⟨e, a, h1, h2⟩ := h
    simp only [List.cons.injEq, true_and] at e
    subst e
    exact ⟨rfl, a, h1, hn.trans h2⟩
  | node ty ks =>
    obtain ⟨g, r, c, bs, f', e, h1, h2, h3, h4⟩ := h
    simp only [List.cons.injEq, true_and] at e
    subst e
    exact ⟨g, r, c, bs, f', rfl, hn.trans h1, (hk g (by simp)).trans h2, h3.frame (hk r (by simp)), RepL.frame _ _ _ h4 fun k hf => hk k (by simp [hf])⟩

theorem Rep.node_at {w : World} {tb : List Nat} {t : Tr} {b : Nat} {fp : List Nat} (h : Rep w tb t b fp) : ∃ x y, w.heap[b]? = some (.cells (nodeCells x y) 96 (0, 0)) := by
  cases t with
  | leaf i => obtain ⟨_, a, _, h2⟩ := h; exact ⟨_, _, h2⟩
  | node ty ks => obtain ⟨g, r, c, bs, f', _, h1, _⟩ := h; exact ⟨_, _, h1⟩

theorem Rep.node_or {w : World} {tb : List Nat} {t : Tr} {b : Nat} {fp : List Nat} (h : Rep w tb t b fp) : (∃ a, w.heap[b]? = some (.cells (nodeCells (some a) none) 96 (0, 0))) ∨ ∃ g, w.heap[b]? = some (.cells (nodeCells none (some g)) 96 (0, 0)) := by
  cases t with
  | leaf i => obtain ⟨_, a, _, h2⟩ := h; exact .inl ⟨_, h2⟩
  | node ty ks => obtain ⟨g, r, c, bs, f', _, h1, _⟩ := h; exact .inr ⟨_, h1⟩

section
variable {B0 : Nat} {w0 w wr w2 : World} {tb Y rs bs : List Nat} {v : Value} {obs : List Nat} {out rem : List Tr} {fo fr F : List Nat} {r c m : Nat}

/-- The last of what has been made has a first token. -/
theorem St.head_last {b : Nat} (h : St B0 w0 w wr tb Y rs v (obs ++ [b]) out rem fo fr) (htok : ∀ (i a : Nat), tb[i]? = some a → ∃ z, TokAt w a z) : (∃ a z, Head wr b a ∧ TokAt wr a z) ∧ ((∃ a, wr.heap[b]? = some (.cells (nodeCells (some a) none) 96 (0, 0))) ∨ ∃ g, wr.heap[b]? = some (.cells (nodeCells none (some g)) 96 (0, 0))) ∧ B0 ≤ b := by
  obtain ⟨ts', t, f, f', rfl, rfl, h1, h2⟩ := RepL.last _ _ _ _ h.ro
  obtain ⟨i, a, hi, ha⟩ := head_of t b f' h2 (h.full.1 t (by simp))
  obtain ⟨z, hz⟩ := htok i a hi
  refine ⟨⟨a, z, ha, hz.frame h.old⟩, Rep.node_or h2, h.lo b ?_⟩
  obtain ⟨f2, rfl⟩ := h2.root
  simp

/-- The first of what is left has become, with the last of what has been made, one group in its place. -/
theorem St.merge {b b2 nb r g c : Nat} (h : St B0 w0 w wr tb Y (b2 :: rs) v (obs ++ [b]) out rem fo fr) (hB : Below B0 w0 w2) (hsz : wr.heap.size ≤ w2.heap.size)
    (hkeep : ∀ j, j < wr.heap.size → j ≠ b → w2.heap[j]? = wr.heap[j]?) (hb : w2.heap[b]? = some (.cells (nodeCells none (some g)) 96 (0, 0))) (hg : w2.heap[g]? = some (.cells (groupCells 11 r 2 c) 100 (0, 0)))
    (hr : w2.heap[r]? = some (.cells #[ptr (some nb), ptr (some b2)] 93 (0, 0))) (hn : w2.heap[nb]? = wr.heap[b]?) (h1 : wr.heap.size ≤ r) (h2 : wr.heap.size ≤ g) (h3 : wr.heap.size ≤ nb) :
    (∃ out2 rem2 fo2 fr2, St B0 w0 w w2 tb Y rs v (obs ++ [b]) out2 rem2 fo2 fr2) ∧ ∃ a, Head wr b2 a ∧ Head w2 b2 a := by
  obtain ⟨ts', t, f, f', rfl, rfl, k1, k2⟩ := RepL.last _ _ _ _ h.ro
  obtain ⟨ft, rfl⟩ := k2.root
  have hrr := h.rr
  cases rem with
  | nil => have := hrr.1; cases this
  | cons t2 rem2 =>
    obtain ⟨_, _, f2, fr2, hbs, rfl, k3, k4⟩ := hrr
    simp only [List.cons.injEq] at hbs
    obtain ⟨rfl, rfl⟩ := hbs
    have hnd := h.nd
    have hlt : ∀ j ∈ f ++ b :: ft ++ (f2 ++ fr2), j < wr.heap.size := fun j hj => h.mem_lt hj
    have hbn : ∀ j, (j ∈ f ∨ j ∈ ft ∨ j ∈ f2 ∨ j ∈ fr2) → j ≠ b := by
      intro j hj e
      subst e
      have e : (f ++ j :: ft ++ (f2 ++ fr2)) = f ++ j :: (ft ++ (f2 ++ fr2)) := by simp
      rw [e, List.nodup_append] at hnd
      obtain ⟨_, hnd2, hnd3⟩ := hnd
      rw [List.nodup_cons] at hnd2
      rcases hj with hj | hj | hj | hj
      · exact hnd3 j hj j (by simp) rfl
      · exact hnd2.1 (by simp [hj])
      · exact hnd2.1 (by simp [hj])
      · exact hnd2.1 (by simp [hj])
    have hsame : ∀ j, (j ∈ f ∨ j ∈ ft ∨ j ∈ f2 ∨ j ∈ fr2) → w2.heap[j]? = wr.heap[j]? := fun j hj => hkeep j (hlt j (by rcases hj with hj | hj | hj | hj <;> simp [hj])) (hbn j hj)
    obtain ⟨x, y, hbx⟩ := Rep.node_at k2
    have n1 : nb ≠ g := blk_ne (hn.trans hbx) hg (by decide)
    have n2 : nb ≠ r := blk_ne (hn.trans hbx) hr (by decide)
    have n3 : g ≠ r := blk_ne hg hr (by decide)
    have m1 := RepL.frame _ _ _ k1 fun k hk => hsame k (.inl hk)
    have m2 : Rep w2 tb t nb (nb :: ft) := Rep.moved k2 hn fun k hk => hsame k (.inr (.inl hk))
    have m3 := Rep.frame _ _ _ k3 fun k hk => hsame k (.inr (.inr (.inl hk)))
    have m4 := RepL.frame _ _ _ k4 fun k hk => hsame k (.inr (.inr (.inr hk)))
    have hft2 : Full t2 := h.full.2 t2 (List.mem_cons_self ..)
    constructor
    · refine ⟨ts' ++ [.node 11 [t, t2]], rem2, f ++ (b :: g :: r :: (nb :: ft ++ f2)), fr2, ?_⟩
      refine { bel := hB, b0 := h.b0, wz := by have := h.wz; omega, old := ?_, vs := h.vs, own := ?_, ro := ?_, rr := m4, nd := ?_, lo := ?_, nv := ?_, y := ?_, full := ⟨fun u hu => ?_, fun u hu => h.full.2 u (List.mem_cons_of_mem _ hu)⟩ }
      · intro j cs ty hty hj
        have hj2 := h.old j cs ty hty hj
        rw [hkeep j (blk_lt hj2) (blk_ne hj2 hbx hty)]
        exact hj2
      · refine own_move h.own fun k hk => hkeep k (own_lt h.own k hk) ?_
        rintro rfl
        exact h.nv k (by simp) hk
      · refine RepL.append _ _ _ _ _ _ m1 (RepL.one ⟨g, r, c, [nb, b2], _, rfl, hb, hg, ⟨_, hr, fun j b' hj => ?_⟩, nb, [b2], nb :: ft, f2, rfl, rfl, m2, RepL.one m3⟩)
        match j with
        | 0 => simp only [List.getElem?_cons_zero, Option.some.injEq] at hj; subst hj; rfl
        | 1 => simp only [List.getElem?_cons_succ, List.getElem?_cons_zero, Option.some.injEq] at hj; subst hj; rfl
        | j + 2 => simp at hj
      · have hp : (f ++ (b :: g :: r :: (nb :: ft ++ f2)) ++ fr2).Perm ([g, r, nb] ++ (f ++ b :: ft ++ (f2 ++ fr2))) := by
          have e1 : f ++ (b :: g :: r :: (nb :: ft ++ f2)) ++ fr2 = (f ++ [b]) ++ ([g, r, nb] ++ (ft ++ (f2 ++ fr2))) := by simp
          have e2 : [g, r, nb] ++ (f ++ b :: ft ++ (f2 ++ fr2)) = [g, r, nb] ++ ((f ++ [b]) ++ (ft ++ (f2 ++ fr2))) := by simp
          rw [e1, e2]
          exact List.perm_append_comm_assoc ..
        rw [hp.nodup_iff]
        refine List.nodup_append.2 ⟨by simp [n3, n1.symm, n2.symm], h.nd, fun x hx y' hy => ?_⟩
        rintro rfl
        have := hlt x hy
        simp only [List.mem_cons, List.mem_nil_iff, or_false] at hx
        rcases hx with rfl | rfl | rfl <;> omega
      · intro j hj
        have hb0 := h.b0
        have hwz := h.wz
        simp only [List.mem_append, List.mem_cons] at hj
        rcases hj with (hj | rfl | rfl | rfl | (rfl | hj) | hj) | hj
        · exact h.lo j (by simp [hj])
        · exact h.lo j (by simp)
        · omega
        · omega
        · omega
        · exact h.lo j (by simp [hj])
        · exact h.lo j (by simp [hj])
        · exact h.lo j (by simp [hj])
      · intro j hj e
        have hv := own_lt h.own j e
        simp only [List.mem_append, List.mem_cons] at hj
        rcases hj with (hj | rfl | rfl | rfl | (rfl | hj) | hj) | hj
        · exact h.nv j (by simp [hj]) e
        · exact h.nv j (by simp) e
        · omega
        · omega
        · omega
        · exact h.nv j (by simp [hj]) e
        · exact h.nv j (by simp [hj]) e
        · exact h.nv j (by simp [hj]) e
      · have hy := h.y
        rw [yields_append, yields_one] at hy ⊢
        simp only [yields, yield] at hy ⊢
        rw [← hy]
        simp
      · rcases List.mem_append.1 hu with hu | hu
        · exact h.full.1 u (List.mem_append_left _ hu)
        · rw [List.mem_singleton.1 hu]; exact ⟨by simp, h.full.1 t (by simp), hft2, trivial⟩
    · obtain ⟨a, hi, ha⟩ := head_first t2 b2 f2 k3 hft2
      obtain ⟨a', hi', ha'⟩ := head_first t2 b2 f2 m3 hft2
      rw [hi] at hi'
      obtain rfl := Option.some.inj hi'
      exact ⟨a, ha, ha'⟩
end

end Go.Proofs.YtgidfhpcobpinaaDoor.GtW
