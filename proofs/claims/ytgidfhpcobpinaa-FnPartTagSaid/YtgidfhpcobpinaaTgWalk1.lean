/- Walks of FnPartTag: a scanner and its context, block by block. -/
import Derived.Test.YtgidfhpcobpinaaLsMem
import Derived.Test.YtgidfhpcobpinaaRunes
import Derived.WalkSpells
import Derived.WalkLawsBesides
import Derived.Deep.RegionHeld3
import Derived.Deep.AppendLies
import Derived.Deep.DrawnRows
import Derived.Deep.QuietTactic
import Derived.BigQuiet
namespace Go.Proofs.Ytgidfhpcobpinaa.TgW
open Go.RowKit Go.Proofs.Ytgidfhpcobpinaa.PFnPartTag Go.Proofs.YtgidfhpcobpinaaW.PrintWords Go.Proofs.YtgidfhpcobpinaaW.PrintLast Go.Proofs.YtgidfhpcobpinaaW.PrintMore
open Go.Proofs.Ytgidfhpcobpinaa.AddM Go.Proofs.Ytgidfhpcobpinaa.Rn
attribute [local go_sem ↓] Go.wp_at_zero Go.wp_at_succ
set_option linter.unusedSimpArgs false
set_option linter.unusedVariables false

/-- The cells of a scanner. -/
def SC (src : Value) (len sp col off fm : Int) : Array Value :=
  #[src, .int .i64 sp, .int .i64 len, .int .i64 1, .int .i64 col, .int .i64 off, .int .i64 0, .int .i64 0, .int .i64 0, .int .i64 0, .bool true, .bool false, .bool false, .bool false, .int .i64 0, .int .i64 fm, .int .i64 0, .pointer none]
/-- The cells of a context. -/
def CX (src : Value) (len idx nso : Int) (ob tk : Value) : Array Value :=
  #[.int .i64 idx, .int .i64 len, .int .i64 0, .int .i64 nso, src, .slice none 0 0, ob, tk, .pointer none]

/-- What a walk knows: the two blocks, the row of the source's characters, the row of those that were passed, the row of tokens, and some blocks that stay. -/
structure St (w0 w1 w : World) (sb cb rb : Nat) (S C R : Array Value) (ob : Value) (n : Nat) (xs : List Int) (tk : Value) (m : Nat) (ts : List Value) (bs : List (Nat × Array Value × TypeId)) : Prop where
  bel : Below w0.heap.size w0 w
  sz : w1.heap.size ≤ w.heap.size
  row : w.heap[rb]? = some (.cells R 21 (0, 0))
  sc : w.heap[sb]? = some (.cells S 47 (0, 0))
  cx : w.heap[cb]? = some (.cells C 52 (0, 0))
  own : w.ownsRow w1.heap.size 21 1 ob n (xs.map (Value.int .i32))
  tok : w.ownsRow w0.heap.size 53 1 tk m ts
  blk : ∀ x ∈ bs, w.heap[x.1]? = some (.cells x.2.1 x.2.2 (0, 0)) ∧ x.2.2 ≠ 47 ∧ x.2.2 ≠ 52 ∧ x.2.2 ≠ 21 ∧ x.2.2 ≠ 53
  s0 : w0.heap.size ≤ sb
  c0 : w0.heap.size ≤ cb
  r1 : rb < w1.heap.size
  w01 : w0.heap.size ≤ w1.heap.size

section
variable {w0 w1 w : World} {sb cb rb : Nat} {S C R : Array Value} {ob : Value} {n : Nat} {xs : List Int} {tk : Value} {m : Nat} {ts : List Value} {bs : List (Nat × Array Value × TypeId)}

theorem St.own_ne (h : St w0 w1 w sb cb rb S C R ob n xs tk m ts bs) {k : Nat} (hk : ob.ownBlock = some k) : w1.heap.size ≤ k := own_base h.own k hk

/-- One block is written, and no other. -/
theorem St.setAt (h : St w0 w1 w sb cb rb S C R ob n xs tk m ts bs) (p : Nat) (i : Nat) (u : Value) {cs : Array Value} {t : TypeId} (hp : w.heap[p]? = some (.cells cs t (0, 0))) (h0 : w0.heap.size ≤ p) (ht : t = 47 ∨ t = 52) {S' C' : Array Value}
    (hS : (w.setCell ⟨p, i, none⟩ u).heap[sb]? = some (.cells S' 47 (0, 0))) (hC : (w.setCell ⟨p, i, none⟩ u).heap[cb]? = some (.cells C' 52 (0, 0))) : St w0 w1 (w.setCell ⟨p, i, none⟩ u) sb cb rb S' C' R ob n xs tk m ts bs :=
  { bel := h.bel.setCell h0 _, sz := by have := h.sz; simp [World.setCell] at this ⊢; omega
    row := blk_far h.row (by exact blk_ne h.row hp (by rcases ht with rfl | rfl <;> decide)) _
    sc := hS, cx := hC
    own := own_move h.own fun k hk => Below.heap_setCell _ _ _ _ (by
      have := own_ne_blk h.own hp (by rcases ht with rfl | rfl <;> decide)
      show k ≠ p
      rintro rfl
      exact this hk.symm)
    tok := own_move h.tok fun k hk => Below.heap_setCell _ _ _ _ (by
      have := own_ne_blk h.tok hp (by rcases ht with rfl | rfl <;> decide)
      show k ≠ p
      rintro rfl
      exact this hk.symm)
    blk := fun x hx => by
      obtain ⟨h1, h2, h3, h4⟩ := h.blk x hx
      exact ⟨blk_far h1 (by exact blk_ne h1 hp (by rcases ht with rfl | rfl <;> assumption)) _, h2, h3, h4⟩
    s0 := h.s0, c0 := h.c0, r1 := h.r1, w01 := h.w01 }

theorem St.setS (h : St w0 w1 w sb cb rb S C R ob n xs tk m ts bs) (i : Nat) (u : Value) : St w0 w1 (w.setCell ⟨sb, i, none⟩ u) sb cb rb (S.setIfInBounds i u) C R ob n xs tk m ts bs :=
  h.setAt sb i u h.sc h.s0 (.inl rfl) (blk_set h.sc i u) (blk_far h.cx (by exact blk_ne h.cx h.sc (by decide)) _)
theorem St.setC (h : St w0 w1 w sb cb rb S C R ob n xs tk m ts bs) (i : Nat) (u : Value) : St w0 w1 (w.setCell ⟨cb, i, none⟩ u) sb cb rb S (C.setIfInBounds i u) R ob n xs tk m ts bs :=
  h.setAt cb i u h.cx h.c0 (.inr rfl) (blk_far h.sc (by exact blk_ne h.sc h.cx (by decide)) _) (blk_set h.cx i u)

/-- Nothing that was there has changed. -/
theorem St.more (h : St w0 w1 w sb cb rb S C R ob n xs tk m ts bs) {w2 : World} (hb : Below w.heap.size w w2) : St w0 w1 w2 sb cb rb S C R ob n xs tk m ts bs :=
  { bel := below_then h.bel (by have := h.sz; have := h.w01; omega) hb, sz := by have := h.sz; have := hb.size; omega
    row := blk_below h.row hb, sc := blk_below h.sc hb, cx := blk_below h.cx hb, own := pw_own_below h.own hb, tok := pw_own_below h.tok hb
    blk := fun x hx => ⟨blk_below (h.blk x hx).1 hb, (h.blk x hx).2⟩
    s0 := h.s0, c0 := h.c0, r1 := h.r1, w01 := h.w01 }
/-- One block more is known. -/
theorem St.know (h : St w0 w1 w sb cb rb S C R ob n xs tk m ts bs) {b : Nat} {cs : Array Value} {t : TypeId} (hb : w.heap[b]? = some (.cells cs t (0, 0))) (ht : t ≠ 47 ∧ t ≠ 52 ∧ t ≠ 21 ∧ t ≠ 53) : St w0 w1 w sb cb rb S C R ob n xs tk m ts ((b, cs, t) :: bs) :=
  have hk : ∀ x ∈ (b, cs, t) :: bs, w.heap[x.1]? = some (.cells x.2.1 x.2.2 (0, 0)) ∧ x.2.2 ≠ 47 ∧ x.2.2 ≠ 52 ∧ x.2.2 ≠ 21 ∧ x.2.2 ≠ 53 := by
    intro x hx
    rcases List.mem_cons.1 hx with rfl | hx
    · exact ⟨hb, ht⟩
    · exact h.blk x hx
  { h with blk := hk }

/-- The row of characters has grown. -/
theorem St.grew (h : St w0 w1 w sb cb rb S C R ob n xs tk m ts bs) {K : Obj} {w2 : World} (hg : (w.alloc K).grownBy w2 ob.ownBlock) {ob' : Value} {n' : Nat} {xs' : List Int} (hown : w2.ownsRow w1.heap.size 21 1 ob' n' (xs'.map (Value.int .i32))) : St w0 w1 w2 sb cb rb S C R ob' n' xs' tk m ts bs :=
  { bel := pw_below_grown (below_alloc h.bel K) _ (by have := h.sz; have := h.w01; simp; omega) hg (fun k hk => by have := h.own_ne hk; have := h.w01; omega)
    sz := by have := h.sz; have := hg.size; simp at this; omega
    row := blk_grown (blk_alloc h.row K) hg (fun e => by have := h.own_ne e.symm; have := h.r1; omega)
    sc := blk_grown (blk_alloc h.sc K) hg (own_ne_blk h.own h.sc (by decide)), cx := blk_grown (blk_alloc h.cx K) hg (own_ne_blk h.own h.cx (by decide))
    own := hown, tok := own_other (own_alloc h.tok K) hg (own_type_ne h.tok h.own (by decide))
    blk := fun x hx => by
      obtain ⟨h1, h2, h3, h4, h5⟩ := h.blk x hx
      exact ⟨blk_grown (blk_alloc h1 K) hg (own_ne_blk h.own h1 (Ne.symm h4)), h2, h3, h4, h5⟩
    s0 := h.s0, c0 := h.c0, r1 := h.r1, w01 := h.w01 }
/-- The row of tokens has grown. -/
theorem St.grewT (h : St w0 w1 w sb cb rb S C R ob n xs tk m ts bs) {K : Obj} {w2 : World} (hg : (w.alloc K).grownBy w2 tk.ownBlock) {tk' : Value} {m' : Nat} {ts' : List Value} (hown : w2.ownsRow w0.heap.size 53 1 tk' m' ts') : St w0 w1 w2 sb cb rb S C R ob n xs tk' m' ts' bs :=
  { bel := pw_below_grown (below_alloc h.bel K) _ (by have := h.sz; have := h.w01; simp; omega) hg (fun k hk => own_base h.tok k hk)
    sz := by have := h.sz; have := hg.size; simp at this; omega
    row := blk_grown (blk_alloc h.row K) hg (own_ne_blk h.tok h.row (by decide))
    sc := blk_grown (blk_alloc h.sc K) hg (own_ne_blk h.tok h.sc (by decide)), cx := blk_grown (blk_alloc h.cx K) hg (own_ne_blk h.tok h.cx (by decide))
    own := own_other (own_alloc h.own K) hg (own_type_ne h.own h.tok (by decide)), tok := hown
    blk := fun x hx => by
      obtain ⟨h1, h2, h3, h4, h5⟩ := h.blk x hx
      exact ⟨blk_grown (blk_alloc h1 K) hg (own_ne_blk h.tok h1 (Ne.symm h5)), h2, h3, h4, h5⟩
    s0 := h.s0, c0 := h.c0, r1 := h.r1, w01 := h.w01 }
end

theorem info21 : (Try.prog.info? 21).map (fun i => (i.zero, i.size, i.bytes)) = some (some (.int .i32 0), 1, 4) := by kernel_rfl

set_option maxRecDepth 100000 in
set_option maxHeartbeats 1000000 in
theorem addO_any (w0 w1 w : World) (sb cb rb : Nat) (S R : Array Value) (src : Value) (len idx nso : Int) (ob tk : Value) (n : Nat) (xs : List Int) (r : Int) (m : Nat) (ts : List Value) (bs : List (Nat × Array Value × TypeId)) (h : St w0 w1 w sb cb rb S (CX src len idx nso ob tk) R ob n xs tk m ts bs) (hn : n ≤ 100000) :
    Calls Try.prog 16 #[.pointer (some ⟨cb, 0, none⟩), .int .i32 r] w fun e w' => e = .returned (.tuple #[]) ∧ ∃ ob' nso', St w0 w1 w' sb cb rb S (CX src len idx nso' ob' tk) R ob' (n + 1) (xs ++ [r]) tk m ts bs := by
  have HH := Aside0.mk h
  have hsz : w1.heap.size ≤ w.heap.size := h.sz
  have c6 : w.cell? ⟨cb, 6, none⟩ = some ob := blk_cell h.cx 6
  have hown := Aside0.mk h.own
  clear h
  obtain ⟨i0, hi0, hz0, hz1, hz2⟩ := info_parts info21
  by_cases h32 : r = 32
  · subst h32
    go_enter Try.func16, Try.ntmps16
    go_wp2_with (at_builtin; refine wpList_append_lies _ (by rfl) _ _ _ (by rfl) w1.heap.size 21 i0 _ 1 4 Try.underlying43 hi0 hz0 hz1 hz2 rfl (by omega) ob n _ (by rfl) (own_alloc hown.out _) ⟨w.heap.size, 0, none⟩ 1 1 [.int .i32 32] (by rfl) (by rfl) (World.news_of_block (cs := #[.int .i32 32]) (t := 21) (fr := (0, 0)) (blk_top (by simp))) (by simp [Value.oneCell']) (by omega) (by unfold maxLen; omega) (by omega) (by simp; omega) (w.heap.size + 1) (by simp) ?_; intro gg cap w2 hown1 hgrow hat hlt1; have HG := Aside0.mk (HH.out.grew (xs' := xs ++ [32]) hgrow (by simpa using hown1)); have g6 : w2.cell? ⟨cb, 6, none⟩ = some ob := blk_cell HG.out.cx 6; have f6 : w2.frozen? ⟨cb, 6, none⟩ = false := blk_frozen HG.out.cx 6; clear hown1 hgrow hat)
    all_goals go_end0
    all_goals exact ⟨rfl, _, _, HG.out.setC 6 _⟩
  by_cases h9 : r = 9
  · subst h9
    go_enter Try.func16, Try.ntmps16
    go_wp2_with (at_builtin; refine wpList_append_lies _ (by rfl) _ _ _ (by rfl) w1.heap.size 21 i0 _ 1 4 Try.underlying43 hi0 hz0 hz1 hz2 rfl (by omega) ob n _ (by rfl) (own_alloc hown.out _) ⟨w.heap.size, 0, none⟩ 1 1 [.int .i32 9] (by rfl) (by rfl) (World.news_of_block (cs := #[.int .i32 9]) (t := 21) (fr := (0, 0)) (blk_top (by simp))) (by simp [Value.oneCell']) (by omega) (by unfold maxLen; omega) (by omega) (by simp; omega) (w.heap.size + 1) (by simp) ?_; intro gg cap w2 hown1 hgrow hat hlt1; have HG := Aside0.mk (HH.out.grew (xs' := xs ++ [9]) hgrow (by simpa using hown1)); have g6 : w2.cell? ⟨cb, 6, none⟩ = some ob := blk_cell HG.out.cx 6; have f6 : w2.frozen? ⟨cb, 6, none⟩ = false := blk_frozen HG.out.cx 6; clear hown1 hgrow hat)
    all_goals go_end0
    all_goals exact ⟨rfl, _, _, HG.out.setC 6 _⟩
  have b1 : (r != 32) = true := bne_iff_ne.2 h32
  have b2 : (r != 9) = true := bne_iff_ne.2 h9
  go_enter Try.func16, Try.ntmps16
  go_wp2_with (at_builtin; refine wpList_append_lies _ (by rfl) _ _ _ (by rfl) w1.heap.size 21 i0 _ 1 4 Try.underlying43 hi0 hz0 hz1 hz2 rfl (by omega) ob n _ (by rfl) (own_alloc hown.out _) ⟨w.heap.size, 0, none⟩ 1 1 [.int .i32 r] (by rfl) (by rfl) (World.news_of_block (cs := #[.int .i32 r]) (t := 21) (fr := (0, 0)) (blk_top (by simp))) (by simp [Value.oneCell']) (by omega) (by unfold maxLen; omega) (by omega) (by simp; omega) (w.heap.size + 1) (by simp) ?_; intro gg cap w2 hown1 hgrow hat hlt1; have HG := Aside0.mk (HH.out.grew (xs' := xs ++ [r]) hgrow (by simpa using hown1)); have g6 : w2.cell? ⟨cb, 6, none⟩ = some ob := blk_cell HG.out.cx 6; have f6 : w2.frozen? ⟨cb, 6, none⟩ = false := blk_frozen HG.out.cx 6; have k6 : (w2.setCell ⟨cb, 6, none⟩ (.slice (some ⟨gg, 0, none⟩) (n + 1) cap)).cell? ⟨cb, 6, none⟩ = some (.slice (some ⟨gg, 0, none⟩) (n + 1) cap) := blk_cell (HG.out.setC 6 _).cx 6; have k3 : (w2.setCell ⟨cb, 6, none⟩ (.slice (some ⟨gg, 0, none⟩) (n + 1) cap)).cell? ⟨cb, 3, none⟩ = some (.int .i64 nso) := blk_cell (HG.out.setC 6 _).cx 3; have f3 : w2.frozen? ⟨cb, 3, none⟩ = false := blk_frozen HG.out.cx 3; clear hown1 hgrow hat)
  all_goals go_end0
  all_goals exact ⟨rfl, _, _, (HG.out.setC 6 _).setC 3 _⟩


end Go.Proofs.Ytgidfhpcobpinaa.TgW
