/- Walks of FnGroupTokens: tokens become groups of their own; at the end one group holds all. -/
import Derived.Test.YtgidfhpcobpinaaDoorGtPass6
namespace Go.Proofs.YtgidfhpcobpinaaDoor.GtW
open Go.RowKit Go.Proofs.YtgidfhpcobpinaaDoor.PFnGroupTokens Go.Proofs.YtgidfhpcobpinaaDoorW.PrintWords Go.Proofs.YtgidfhpcobpinaaDoorW.PrintLast Go.Proofs.YtgidfhpcobpinaaDoorW.PrintMore
open Go.Proofs.YtgidfhpcobpinaaDoor.AddM Go.Proofs.YtgidfhpcobpinaaDoor.GtM
attribute [local go_sem ↓] Go.wp_at_zero Go.wp_at_succ
set_option linter.unusedSimpArgs false
set_option linter.unusedVariables false

theorem St.leaf {B0 : Nat} {w0 w wr w2 : World} {tb Y : List Nat} {v : Value} {obs : List Nat} {out rem : List Tr} {fo fr : List Nat} {nb a i : Nat} (h : St B0 w0 w wr tb Y [] v obs out rem fo fr) (hb : Below wr.heap.size wr w2) (hn : w2.heap[nb]? = some (.cells (nodeCells (some a) none) 96 (0, 0))) (hi : tb[i]? = some a) (h1 : wr.heap.size ≤ nb) :
    ∃ rem' fr', St B0 w0 w w2 tb (Y ++ [i]) [nb] v obs out rem' fo fr' := by
  have hM := h.more hb
  have hrem : rem = [] ∧ fr = [] := by
    have hrr := h.rr
    cases rem with
    | nil => exact ⟨rfl, hrr.2⟩
    | cons t ts => obtain ⟨_, _, _, _, hb, _⟩ := hrr; cases hb
  obtain ⟨rfl, rfl⟩ := hrem
  refine ⟨[.leaf i], [nb], { hM with rr := RepL.one ⟨rfl, a, hi, hn⟩, nd := ?_, lo := ?_, nv := ?_, y := ?_, full := ⟨h.full.1, fun t ht => by rw [List.mem_singleton.1 ht]; trivial⟩ }⟩
  · have hnd := h.nd
    rw [List.append_nil] at hnd
    refine List.nodup_append.2 ⟨hnd, by simp, fun x hx y hy => ?_⟩
    rw [List.mem_singleton.1 hy]
    rintro rfl
    have := h.mem_lt (List.mem_append_left _ hx)
    omega
  · intro j hj
    have hb0 := h.b0
    have hwz := h.wz
    rcases List.mem_append.1 hj with hj | hj
    · exact h.lo j (List.mem_append_left _ hj)
    · rw [List.mem_singleton.1 hj]; omega
  · intro j hj e
    have hv := own_lt h.own j e
    rcases List.mem_append.1 hj with hj | hj
    · exact h.nv j (List.mem_append_left _ hj) e
    · rw [List.mem_singleton.1 hj] at hv; omega
  · have hy := h.y
    simp only [yields, yield, List.append_nil] at hy ⊢
    rw [hy]

/-- The row of the tokens. -/
def RowT (w : World) (g : Nat) (tb : List Nat) : Prop := ∃ G, w.heap[g]? = some (.cells G 75 (0, 0)) ∧ ∀ (j a : Nat), tb[j]? = some a → G[j]? = some (.pointer (some ⟨a, 0, none⟩))
theorem RowT.cell {w : World} {g : Nat} {tb : List Nat} (h : RowT w g tb) {j a : Nat} (hj : tb[j]? = some a) : w.cell? ⟨g, j, none⟩ = some (.pointer (some ⟨a, 0, none⟩)) := by
  obtain ⟨G, h1, h2⟩ := h
  rw [blk_cell h1]
  exact h2 j a hj
theorem RowT.old {w w' : World} {g : Nat} {tb : List Nat} (h : RowT w g tb) (hk : ∀ (j : Nat) (cs : Array Value) (t : TypeId), t ≠ 96 → w.heap[j]? = some (.cells cs t (0, 0)) → w'.heap[j]? = some (.cells cs t (0, 0))) : RowT w' g tb := by
  obtain ⟨G, h1, h2⟩ := h
  exact ⟨G, hk _ _ _ (by decide) h1, h2⟩

/-- The tokens, block by block. -/
structure Tbs (B0 : Nat) (w0 w : World) (tb : List Nat) (g : Nat) : Prop where
  row : RowT w g tb
  tok : ∀ (i a : Nat), tb[i]? = some a → ∃ z, TokAt w a z
  bel : Below B0 w0 w
  b0 : B0 ≤ w.heap.size

set_option maxRecDepth 100000 in
set_option maxHeartbeats 2000000 in
theorem newTokens_any {B0 : Nat} {w0 w : World} {tb : List Nat} {g c : Nat} (h : Tbs B0 w0 w tb g) (hn : tb.length ≤ 1000) :
    Calls Tryd.prog 28 #[.slice (some ⟨g, 0, none⟩) tb.length c] w fun e w' => ∃ v, e = .returned v ∧ Done B0 w0 tb (List.range tb.length) tb.length v w' := by
  have HL := Aside0.mk h
  clear h
  have hmk := make_ptrs tb.length hn
  obtain ⟨i0, hi0, hz0, hz1, hz2⟩ := info_parts info93
  have HS0 : Aside0 (Sx B0 w0 w (w.alloc (.cells (Array.replicate tb.length (.pointer none)) 93)) tb [] [] (.slice (some ⟨w.heap.size, 0, none⟩) 0 tb.length) 0) := ⟨[], [], [], [], [],
    { bel := HL.out.bel.alloc HL.out.b0 _, b0 := HL.out.b0, wz := by simp, old := fun j cs t _ hj => blk_alloc hj _, vs := ⟨_, _, _, rfl⟩
      own := ⟨rfl, .inr ⟨w.heap.size, tb.length, _, rfl, Nat.le_refl _, heap_alloc_new w _, Nat.zero_le _, by unfold maxLen; omega, by simp, rfl⟩⟩
      ro := ⟨rfl, rfl⟩, rr := ⟨rfl, rfl⟩, nd := by simp, lo := fun j hj => (by cases hj), nv := fun j hj => (by cases hj), y := rfl, full := ⟨fun t ht => (by cases ht), fun t ht => (by cases ht)⟩ }, Nat.le_refl _⟩
  go_enter Tryd.func28, Tryd.ntmps28
  go_wp2
  clear hmk
  go_loopw [3, 5, 11] (fun v _ i wr => ∃ k : Nat, k ≤ tb.length ∧ i = .int .i64 k ∧ Aside0 (Sx B0 w0 w wr tb (List.range k) [] v k)) (fun _ _ i _ => tb.length - (intOf i).toNat)
  case atStart => exact ⟨0, by omega, rfl, HS0⟩
  case round =>
    obtain ⟨k, hk, rfl, ⟨obs, out, rem, fo, fr, hS, hm⟩⟩ := hrel
    clear HS0
    by_cases hlt : k < tb.length
    · obtain ⟨a, ha⟩ : ∃ a, tb[k]? = some a := ⟨_, List.getElem?_eq_getElem hlt⟩
      have rc : wr.cell? ⟨g, k, none⟩ = some (.pointer (some ⟨a, 0, none⟩)) := (HL.out.row.old hS.old).cell ha
      have HS := Aside0.mk hS
      have hsz := hS.wz
      obtain ⟨rem', fr', hS1⟩ := St.leaf (w2 := wr.alloc (.cells #[.pointer (some ⟨a, 0, none⟩), .pointer none, .pointer none] 96)) hS (below_alloc (Below.refl _ _) _) (heap_alloc_new wr _) ha (Nat.le_refl _)
      have HS1 := Aside0.mk hS1
      clear hS hS1 ha
      go_wp2_with (at_builtin; refine wpList_append_lies _ (by rfl) _ _ _ (by rfl) w.heap.size 93 i0 _ 1 8 Tryd.underlying57 hi0 hz0 hz1 hz2 rfl (by omega) u3 obs.length _ (by rfl) (own_alloc (HS1.out.own) _) ⟨wr.heap.size + 1, 0, none⟩ 1 1 [.pointer (some ⟨wr.heap.size, 0, none⟩)] (by rfl) (by rfl) (World.news_of_block (cs := #[.pointer (some ⟨wr.heap.size, 0, none⟩)]) (t := 93) (fr := (0, 0)) (blk_top (by simp))) (by simp [Value.oneCell']) (by omega) (by unfold maxLen; omega) (by omega) (by simp; omega) (wr.heap.size + 1 + 1) (by simp) ?_; intro gg cap w2 hown2 hgrow hat hlt2; have HF := Aside0.mk (Sx.keep HS1.out hm hgrow hown2 (by simpa using hat)); clear hown2 hgrow hat hlt2)
      go_roundw
      case rel => exact ⟨k + 1, by omega, by go_num, ⟨by rw [List.range_succ]; exact HF.out⟩⟩
      case measure => simp [intOf]; omega
    · obtain rfl : k = tb.length := by omega
      have HF : Aside0 (Done B0 w0 tb (List.range tb.length) tb.length u3 wr) := ⟨Sx.done ⟨obs, out, rem, fo, fr, hS, hm⟩ (Nat.le_refl _) HL.out.tok⟩
      clear hS
      go_wp2
      go_ret
      exact ⟨_, rfl, HF.out⟩

/-- One group holds all. -/
def Whole (B0 : Nat) (w0 : World) (tb : List Nat) (Y : List Nat) (v : Value) (w' : World) : Prop :=
  ∃ r nb c out F, v = .slice (some ⟨r, 0, none⟩) 1 c ∧ RowAt w' r [nb] ∧ Rep w' tb (.node 3 out) nb F ∧ yields out = Y ∧ (∀ t ∈ out, Full t) ∧ Below B0 w0 w' ∧ B0 ≤ w'.heap.size

theorem whole_of {B0 : Nat} {w0 w w2 : World} {tb Y bs : List Nat} {r c gg cap : Nat} {out : List Tr} {F : List Nat} {C : Obj} (h : Lst B0 w0 w tb Y bs r c out F)
    (hg : (((w.alloc (.cells #[.int .i64 3, .slice (some ⟨r, 0, none⟩) bs.length c] 100)).alloc (.cells #[.pointer none, .pointer (some ⟨w.heap.size, 0, none⟩), .pointer none] 96)).alloc C).grownBy w2 none)
    (hown : w2.ownsRow B0 93 1 (.slice (some ⟨gg, 0, none⟩) 1 cap) 1 [.pointer (some ⟨w.heap.size + 1, 0, none⟩)]) : Whole B0 w0 tb Y (.slice (some ⟨gg, 0, none⟩) 1 cap) w2 := by
  have hb : Below w.heap.size w w2 := pw_below_grown (below_alloc (below_alloc (below_alloc (Below.refl _ _) _) _) _) _ (by simp; omega) hg (fun k hk => by cases hk)
  have hM := h.more hb
  obtain ⟨cs, hcs⟩ := own_typed hown gg rfl
  have c0 := hown.cells (g := gg) rfl 0 (.pointer (some ⟨w.heap.size + 1, 0, none⟩)) rfl
  rw [add_plain, blk_cell hcs] at c0
  refine ⟨gg, w.heap.size + 1, cap, out, (w.heap.size + 1) :: w.heap.size :: r :: F, rfl, ⟨cs, hcs, fun j b hj => ?_⟩, ⟨w.heap.size, r, c, bs, F, rfl, ?_, ?_, hM.row, hM.rep⟩, hM.y, hM.full, hM.bel, hM.b0⟩
  · match j with
    | 0 => simp only [List.getElem?_cons_zero, Option.some.injEq] at hj; subst hj; exact c0
    | j + 1 => simp at hj
  · exact blk_grown (blk_alloc (blk_top (by simp)) _) hg (by simp)
  · exact blk_grown (blk_alloc (blk_alloc (heap_alloc_new w _) _) _) hg (by simp)

set_option maxRecDepth 100000 in
set_option maxHeartbeats 2000000 in
theorem document_any {B0 : Nat} {w0 w : World} {tb Y bs : List Nat} {r c : Nat} {out : List Tr} {F : List Nat} (h : Lst B0 w0 w tb Y bs r c out F) (hn : bs.length ≤ 1000) :
    Calls Tryd.prog 37 #[.slice (some ⟨r, 0, none⟩) bs.length c] w fun e w' => ∃ v, e = .returned (.tuple #[v, .nilIface]) ∧ Whole B0 w0 tb Y v w' := by
  have HL := Aside0.mk h
  have hb0 := h.b0
  clear h
  obtain ⟨i0, hi0, hz0, hz1, hz2⟩ := info_parts info93
  go_enter Tryd.func37, Tryd.ntmps37
  go_wp2
  go_loop [4, 5] (fun v i => ∃ k : Nat, k ≤ bs.length ∧ i = .int .i64 k ∧ v = .slice none 0 0) (fun _ i => bs.length - (intOf i).toNat)
  case atStart => exact ⟨0, by omega, rfl, rfl⟩
  case round =>
    obtain ⟨k, hk, rfl, rfl⟩ := hrel
    by_cases hlt : k < bs.length
    · obtain ⟨b, hb, hd⟩ := drop_cons hlt
      have hh : ∃ a z, Head w b a ∧ TokAt w a z := by
        have key : ∀ (ts : List Tr) (bs fp : List Nat), RepL w tb ts bs fp → (∀ t ∈ ts, Full t) → ∀ (j b : Nat), bs[j]? = some b → ∃ (i a : Nat), tb[i]? = some a ∧ Head w b a := by
          intro ts
          induction ts with
          | nil => intro bs fp h _ j b hj; rw [h.1] at hj; simp at hj
          | cons t ts ih =>
            intro bs fp h hf j b hj
            obtain ⟨b', bs', f, f', rfl, rfl, h1, h2⟩ := h
            cases j with
            | zero =>
              simp only [List.getElem?_cons_zero, Option.some.injEq] at hj
              subst hj
              exact head_of t b' f h1 (hf t (List.mem_cons_self ..))
            | succ j => exact ih bs' f' h2 (fun x hx => hf x (List.mem_cons_of_mem _ hx)) j b (by simpa using hj)
        obtain ⟨i, a, hi, ha⟩ := key out bs F HL.out.rep HL.out.full k b hb
        obtain ⟨z, hz⟩ := HL.out.tok i a hi
        exact ⟨a, z, ha, hz⟩
      obtain ⟨a, z, hH, hT⟩ := hh
      have hok := hT.ok
      unfold Okt at hok
      have z1 : (z == 1) = false := by rw [beq_eq_false_iff_ne]; omega
      have z2 : (z == 2) = false := by rw [beq_eq_false_iff_ne]; omega
      have rc : w.cell? ⟨r, k, none⟩ = some (.pointer (some ⟨b, 0, none⟩)) := HL.out.row.cell hb
      have TY := Aside0.mk (type_any hH hT)
      clear hb hd hH hT hok
      go_wp2_with (go_at_call 49; refine TY.out.mono ?_; rintro e w' ⟨rfl, rfl⟩)
      go_round
      case rel => exact ⟨k + 1, by omega, by go_num, rfl⟩
      case measure => simp [intOf]; omega
    · obtain rfl : k = bs.length := by omega
      go_wp2_with (at_builtin; refine wpList_append_lies _ (by rfl) _ _ _ (by rfl) B0 93 i0 _ 1 8 Tryd.underlying57 hi0 hz0 hz1 hz2 rfl (by omega) (.slice none 0 0) 0 [] (by rfl) (World.ownsRow_nil _ _ _ _) ⟨w.heap.size + 1 + 1, 0, none⟩ 1 1 [.pointer (some ⟨w.heap.size + 1, 0, none⟩)] (by rfl) (by rfl) (World.news_of_block (cs := #[.pointer (some ⟨w.heap.size + 1, 0, none⟩)]) (t := 93) (fr := (0, 0)) (blk_top (by simp))) (by simp [Value.oneCell']) (by omega) (by unfold maxLen; omega) (by omega) (by simp; omega) (w.heap.size + 1 + 1 + 1) (by simp) ?_; intro gg cap w2 hown2 hgrow hat hlt2; have HF := Aside0.mk (whole_of HL.out hgrow hown2); clear hown2 hgrow hat hlt2)
      go_ret2
      exact ⟨_, rfl, HF.out⟩

end Go.Proofs.YtgidfhpcobpinaaDoor.GtW
