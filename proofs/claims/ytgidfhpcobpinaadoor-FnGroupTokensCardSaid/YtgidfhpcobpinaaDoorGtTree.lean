/- FnGroupTokens: the groups that are told. -/
import Derived.Test.YtgidfhpcobpinaaDoorGtPlace
namespace Go.Proofs.YtgidfhpcobpinaaDoor.GtW
open Go.RowKit Go.Proofs.YtgidfhpcobpinaaDoor.PFnGroupTokens Go.Proofs.YtgidfhpcobpinaaDoorW.PrintWords Go.Proofs.YtgidfhpcobpinaaDoorW.PrintLast Go.Proofs.YtgidfhpcobpinaaDoorW.PrintMore
open Go.Proofs.YtgidfhpcobpinaaDoor.AddM Go.Proofs.YtgidfhpcobpinaaDoor.GtM
set_option linter.unusedSimpArgs false
set_option linter.unusedVariables false

mutual
/-- How much a group holds. -/
def cnt : Tr → Nat
  | .leaf _ => 1
  | .node _ ks => 1 + cnts ks
def cnts : List Tr → Nat
  | [] => 0
  | t :: ts => cnt t + cnts ts
end
mutual
/-- A group as data. -/
def s66 : Tr → S66
  | .leaf i => ⟨0, i, -1, []⟩
  | .node ty ks => ⟨ty, -1, -1, s66s ks⟩
def s66s : List Tr → List S66
  | [] => []
  | t :: ts => s66 t :: s66s ts
end
theorem s66s_append : ∀ a b : List Tr, s66s (a ++ b) = s66s a ++ s66s b
  | [], b => rfl
  | t :: a, b => by show s66 t :: s66s (a ++ b) = s66 t :: s66s a ++ s66s b; rw [s66s_append a b]; rfl
theorem s66s_length : ∀ a : List Tr, (s66s a).length = a.length
  | [] => rfl
  | t :: a => by show (s66s a).length + 1 = a.length + 1; rw [s66s_length a]
mutual
theorem yield_pos : ∀ t : Tr, Full t → 0 < (yield t).length
  | .leaf i, _ => by simp [yield]
  | .node ty [], h => absurd rfl h.1
  | .node ty (k :: ks), h => by
    have := yield_pos k h.2.1
    simp only [yield, yields, List.length_append]
    omega
theorem yields_len : ∀ ts : List Tr, Fulls ts → ts.length ≤ (yields ts).length
  | [], _ => Nat.le_refl _
  | t :: ts, h => by
    have h1 := yield_pos t h.1
    have h2 := yields_len ts h.2
    simp only [yields, List.length_append, List.length_cons]
    omega
end
mutual
/-- No list of groups is long. -/
def Small : Tr → Prop
  | .leaf _ => True
  | .node _ ks => ks.length ≤ 1000 ∧ Smalls ks
def Smalls : List Tr → Prop
  | [] => True
  | t :: ts => Small t ∧ Smalls ts
end
mutual
theorem small_of : ∀ t : Tr, Full t → (yield t).length ≤ 1000 → Small t
  | .leaf i, _, _ => trivial
  | .node ty ks, h, hl => ⟨Nat.le_trans (yields_len ks h.2) hl, smalls_of ks h.2 hl⟩
theorem smalls_of : ∀ ts : List Tr, Fulls ts → (yields ts).length ≤ 1000 → Smalls ts
  | [], _, _ => trivial
  | t :: ts, h, hl => by
    simp only [yields, List.length_append] at hl
    exact ⟨small_of t h.1 (by omega), smalls_of ts h.2 (by omega)⟩
end
theorem smalls_at : ∀ (ts : List Tr), Smalls ts → ∀ t ∈ ts, Small t
  | [], _, t, ht => by cases ht
  | x :: ts, h, t, ht => by
    rcases List.mem_cons.1 ht with rfl | ht
    · exact h.1
    · exact smalls_at ts h.2 t ht
theorem fulls_of : ∀ ts : List Tr, (∀ t ∈ ts, Full t) → Fulls ts
  | [], _ => trivial
  | t :: ts, h => ⟨h t (List.mem_cons_self ..), fulls_of ts fun x hx => h x (List.mem_cons_of_mem _ hx)⟩
theorem fulls_at : ∀ (ts : List Tr), Fulls ts → ∀ t ∈ ts, Full t
  | [], _, t, ht => by cases ht
  | x :: ts, h, t, ht => by
    rcases List.mem_cons.1 ht with rfl | ht
    · exact h.1
    · exact fulls_at ts h.2 t ht
theorem cnt_at : ∀ (ts : List Tr) (t : Tr), t ∈ ts → cnt t ≤ cnts ts
  | [], t, ht => by cases ht
  | x :: ts, t, ht => by
    rcases List.mem_cons.1 ht with rfl | ht
    · show cnt _ ≤ cnt _ + cnts ts; omega
    · have := cnt_at ts t ht
      show cnt t ≤ cnt x + cnts ts; omega
theorem take_snoc {α : Type} (ts : List α) (j : Nat) (t : α) (h : ts[j]? = some t) : ts.take (j + 1) = ts.take j ++ [t] := by
  rw [List.take_add_one, h]; rfl

/-- One of a list of groups. -/
theorem RepL.nth {w : World} {tb : List Nat} : ∀ (ts : List Tr) (bs fp : List Nat), RepL w tb ts bs fp → ∀ (j b : Nat), bs[j]? = some b → ∃ t f, ts[j]? = some t ∧ Rep w tb t b f ∧ ∀ k ∈ f, k ∈ fp
  | [], bs, fp, h, j, b, hj => by rw [h.1] at hj; simp at hj
  | t :: ts, bs, fp, h, j, b, hj => by
    obtain ⟨b', bs', f, f', rfl, rfl, h1, h2⟩ := h
    cases j with
    | zero =>
      simp only [List.getElem?_cons_zero, Option.some.injEq] at hj
      subst hj
      exact ⟨t, f, rfl, h1, fun k hk => List.mem_append_left _ hk⟩
    | succ j =>
      obtain ⟨t', f2, h3, h4, h5⟩ := RepL.nth ts bs' f' h2 j b (by simpa using hj)
      exact ⟨t', f2, by simpa using h3, h4, fun k hk => List.mem_append_right _ (h5 k hk)⟩

/-- Where a group's tokens begin. -/
theorem range_at (ts : List Tr) (k m j : Nat) (t : Tr) (h : yields ts = List.range' k m) (hj : ts[j]? = some t) : yield t = List.range' (k + (yields (ts.take j)).length) (yield t).length ∧ (yields (ts.take j)).length + (yield t).length ≤ m := by
  have e1 : ts = ts.take j ++ t :: ts.drop (j + 1) := by
    obtain ⟨hlt, e⟩ := List.getElem?_eq_some_iff.1 hj
    rw [← e, List.getElem_cons_drop, List.take_append_drop]
  have e2 : yields ts = yields (ts.take j) ++ (yield t ++ yields (ts.drop (j + 1))) := by
    conv => lhs; rw [e1]
    rw [yields_append]; rfl
  rw [h] at e2
  have h0 : ((List.range' k m).drop (yields (ts.take j)).length).take (yield t).length = yield t := by
    rw [e2]; simp
  have hl : (List.range' k m).length = (yields (ts.take j)).length + ((yield t).length + (yields (ts.drop (j + 1))).length) := by rw [e2]; simp
  rw [List.length_range'] at hl
  refine ⟨?_, by omega⟩
  refine h0.symm.trans ?_
  apply List.ext_getElem?
  intro i
  rw [List.getElem?_take, List.getElem?_drop]
  by_cases hi : i < (yield t).length
  · rw [if_pos hi, List.getElem?_range' (by omega), List.getElem?_range' (by omega)]
    congr 1
    omega
  · rw [if_neg hi, List.getElem?_eq_none (by simp; omega)]

/-- A counter alone changes. -/
structure Fr (nr : Nat) (w w' : World) : Prop where
  bel : Below 0 w w'
  keep : ∀ k, k < w.heap.size → k ≠ nr → w'.heap[k]? = w.heap[k]?
theorem Fr.refl (nr : Nat) (w : World) : Fr nr w w := ⟨Below.refl _ _, fun _ _ _ => rfl⟩
theorem Fr.trans {nr : Nat} {a b c : World} (h : Fr nr a b) (k : Fr nr b c) : Fr nr a c :=
  ⟨h.bel.trans k.bel, fun i hi hn => (k.keep i (Nat.lt_of_lt_of_le hi h.bel.size) hn).trans (h.keep i hi hn)⟩
theorem Fr.of_below {nr : Nat} {a b : World} (h : Below a.heap.size a b) : Fr nr a b := ⟨h.mono (Nat.zero_le _), fun k hk _ => h.block k hk⟩
theorem Fr.alloc {nr : Nat} {a b : World} (h : Fr nr a b) (o : Obj) : Fr nr a (b.alloc o) := h.trans (Fr.of_below (below_alloc (Below.refl _ _) o))
theorem Fr.drewN {nr : Nat} {a b : World} (h : Fr nr a b) (n : Nat) : Fr nr a (b.drewN n) := ⟨pw_below_drewN h.bel n, h.keep⟩
theorem Fr.set {nr : Nat} {a b : World} (h : Fr nr a b) {g : Nat} (hg : g = nr ∨ a.heap.size ≤ g) (j : Nat) (u : Value) : Fr nr a (b.setCell ⟨g, j, none⟩ u) :=
  ⟨h.bel.setCell (Nat.zero_le _) u, fun k hk hn => by
    rw [Below.heap_setCell b ⟨g, j, none⟩ u k (by show k ≠ g; rcases hg with rfl | hg; exact hn; omega)]
    exact h.keep k hk hn⟩
theorem Fr.grown {nr : Nat} {a b c : World} (h : Fr nr a b) {row : Option Nat} (hg : b.grownBy c row) (hr : ∀ k, row = some k → a.heap.size ≤ k) : Fr nr a c :=
  ⟨h.bel.grown hg (Nat.zero_le _) (fun _ _ => Nat.zero_le _), fun k hk hn => by
    rw [hg.block k (Nat.lt_of_lt_of_le hk h.bel.size) (fun e => by have := hr k e.symm; omega)]
    exact h.keep k hk hn⟩

/-- What the groups' loop knows. -/
structure Gs (nr : Nat) (w wr : World) (k : Nat) (done : List Tr) (v : Value) : Prop where
  fr : Fr nr w wr
  near : wr.heap[nr]? = some (.cells #[.int .i64 ((k + (yields done).length : Nat) : Int)] 3 (0, 0))
  out : k66.R 66 wr w.heap.size (fun j => w.heap.size ≤ j) v (s66s done)

theorem Gs.step {nr k : Nat} {w wr W w1 : World} {done : List Tr} {t : Tr} {v v1 : Value} (h : Gs nr w wr k done v) (hf : Fr nr wr W) (hnr : nr < w.heap.size)
    (hnear : W.heap[nr]? = some (.cells #[.int .i64 ((k + (yields done).length + (yield t).length : Nat) : Int)] 3 (0, 0)))
    (hR : k66.R 66 w1 w.heap.size (fun j => w.heap.size ≤ j) v1 (s66s done ++ [s66 t])) (hg : W.grownBy w1 v.ownBlock) : Gs nr w w1 k (done ++ [t]) v1 := by
  have hb := Kd.R_base h.out
  refine ⟨(h.fr.trans hf).grown hg hb, ?_, ?_⟩
  · rw [yields_append, yields_one, List.length_append, ← Nat.add_assoc]
    exact blk_grown hnear hg (fun e => by have := hb nr e.symm; omega)
  · rw [s66s_append]; exact hR
theorem Gs.over {nr k : Nat} {w wr W : World} {done : List Tr} {v : Value} (h : Gs nr w wr k done v) (hf : Fr nr wr W) (hnr : nr < w.heap.size) : k66.R 66 W w.heap.size (fun j => w.heap.size ≤ j) v (s66s done) :=
  Kd.R_step h.out fun k hk hlt => hf.keep k hlt (by omega)

end Go.Proofs.YtgidfhpcobpinaaDoor.GtW
