/- Walks of FnPartTag: a tag's token. -/
import Derived.Test.YtgidfhpcobpinaaTgWalk2
import Derived.Laws.Cover4
import Derived.BigRegion
namespace Go.Proofs.Ytgidfhpcobpinaa.TgW
open Go.RowKit Go.Proofs.Ytgidfhpcobpinaa.PFnPartTag Go.Proofs.YtgidfhpcobpinaaW.PrintWords Go.Proofs.YtgidfhpcobpinaaW.PrintLast Go.Proofs.YtgidfhpcobpinaaW.PrintMore
open Go.Proofs.Ytgidfhpcobpinaa.AddM Go.Proofs.Ytgidfhpcobpinaa.Rn
attribute [local go_sem ↓] Go.wp_at_zero Go.wp_at_succ
set_option linter.unusedSimpArgs false
set_option linter.unusedVariables false



set_option maxRecDepth 100000 in
set_option maxHeartbeats 1000000 in
theorem map_any (v : ByteArray) (w : World) : Calls Try.prog 31 #[.string v] w fun e w' => (e = .returned .nilFunc ∨ e = .returned (.func (.func 39) #[] #[])) ∧ w = w' := by
  go_enter Try.func31, Try.ntmps31
  go_wp2
  all_goals go_ret
  all_goals first | exact ⟨.inl rfl, rfl⟩ | exact ⟨.inr rfl, rfl⟩

/-- A token's cells, as the scanner makes one of a tag. -/
def tagCells (v o : ByteArray) (p : Nat) : Array Value := #[.int .i64 15, .int .i64 0, .int .i64 4, .string v, .string o, .string ⟨#[]⟩, .pointer (some ⟨p, 0, none⟩), .pointer none, .pointer none]

theorem run_neq_func_nil {P : Program} (w : World) {t : TypeId} {a b c} (h : P.underlying t = some (.func a b c)) : (binOp .neq t .nilFunc .nilFunc).run P w = .ok (.bool false) w := by
  have h1 : ∀ d : Nat, (Op.equalIn (d + 1) t .nilFunc .nilFunc).run P w = .ok true w := fun d => by simp [Op.equalIn, run_underlying h]
  simp only [binOp]
  simp [Op.equal, Op.maxDepth, h1 9999]
theorem run_neq_func_some {P : Program} (w : World) {t : TypeId} {a b c} (fn : Fn) (fi ca : Array Value) (h : P.underlying t = some (.func a b c)) : (binOp .neq t (.func fn fi ca) .nilFunc).run P w = .ok (.bool true) w := by
  have h1 : ∀ d : Nat, (Op.equalIn (d + 1) t (.func fn fi ca) .nilFunc).run P w = .ok false w := fun d => by simp [Op.equalIn, run_underlying h]
  simp only [binOp]
  simp [Op.equal, Op.maxDepth, h1 9999]

set_option maxRecDepth 100000 in
set_option maxHeartbeats 1000000 in
theorem tag_any (v o : ByteArray) (p : Nat) (w : World) : Calls Try.prog 20 #[.string v, .string o, .pointer (some ⟨p, 0, none⟩)] w fun e w' => e = .returned (.pointer (some ⟨w.heap.size, 0, none⟩)) ∧ ∃ q, w' = (w.alloc (.cells (tagCells v o p) 58)).drewN q := by
  have k1 := fun wx : World => run_neq_func_nil (P := Try.prog) wx Try.underlying68
  have k2 := fun wx : World => run_neq_func_some (P := Try.prog) wx (.func 39) #[] #[] Try.underlying68
  go_enter Try.func20, Try.ntmps20
  go_wp2_with fail
  refine (map_any v _).mono ?_
  rintro e w' ⟨he, rfl⟩
  rcases he with rfl | rfl
  · go_wp2
    go_ret
    exact ⟨rfl, 0, rfl⟩
  · go_wp2
    go_ret
    exact ⟨rfl, 0, rfl⟩


theorem info53 : (Try.prog.info? 53).map (fun i => (i.zero, i.size, i.bytes)) = some (some (.pointer none), 1, 8) := by kernel_rfl

variable {w0 w1 w : World} {sb cb rb : Nat} {S C R : Array Value} {src ob : Value} {n : Nat} {xs : List Int} {tk : Value} {m : Nat} {ts : List Value} {bs : List (Nat × Array Value × TypeId)} {len sp col off fm idx nso : Int}

set_option maxRecDepth 100000 in
set_option maxHeartbeats 1000000 in
theorem addT_any (b : Nat) (h : St w0 w1 w sb cb rb S (CX src len idx nso ob tk) R ob n xs tk m ts bs) (hm : m ≤ 100000) :
    Calls Try.prog 19 #[.pointer (some ⟨cb, 0, none⟩), .pointer (some ⟨b, 0, none⟩)] w fun e w' => e = .returned (.tuple #[]) ∧ ∃ gg cap, St w0 w1 w' sb cb rb S (CX src len idx nso ob (.slice (some ⟨gg, 0, none⟩) (m + 1) cap)) R ob n xs (.slice (some ⟨gg, 0, none⟩) (m + 1) cap) (m + 1) (ts ++ [.pointer (some ⟨b, 0, none⟩)]) bs ∧ (∀ (j : Nat) (G : Array Value), w.heap[j]? = some (.cells G 21 (0, 0)) → w'.heap[j]? = some (.cells G 21 (0, 0))) := by
  have HH := Aside0.mk h
  have hsz : w0.heap.size ≤ w.heap.size := by have := h.sz; have := h.w01; omega
  have c7 : w.cell? ⟨cb, 7, none⟩ = some tk := blk_cell h.cx 7
  have hown := Aside0.mk h.tok
  clear h
  obtain ⟨i0, hi0, hz0, hz1, hz2⟩ := info_parts info53
  go_enter Try.func19, Try.ntmps19
  go_wp2_with (at_builtin; refine wpList_append_lies _ (by rfl) _ _ _ (by rfl) w0.heap.size 53 i0 _ 1 8 Try.underlying33 hi0 hz0 hz1 hz2 rfl (by omega) tk m _ (by rfl) (own_alloc hown.out _) ⟨w.heap.size, 0, none⟩ 1 1 [.pointer (some ⟨b, 0, none⟩)] (by rfl) (by rfl) (World.news_of_block (cs := #[.pointer (some ⟨b, 0, none⟩)]) (t := 53) (fr := (0, 0)) (blk_top (by simp))) (by simp [Value.oneCell']) (by omega) (by unfold maxLen; omega) (by omega) (by simp; omega) (w.heap.size + 1) (by simp) ?_; intro gg cap w2 hown1 hgrow hat hlt1; have HG := Aside0.mk (HH.out.grewT hgrow hown1); have HK := Aside0.mk fun (j : Nat) (G : Array Value) (u : Value) (hj : w.heap[j]? = some (.cells G 21 (0, 0))) => blk_far (p := ⟨cb, 7, none⟩) (blk_grown (blk_alloc hj _) hgrow (own_ne_blk HH.out.tok hj (by decide))) (by exact blk_ne (blk_grown (blk_alloc hj _) hgrow (own_ne_blk HH.out.tok hj (by decide))) HG.out.cx (by decide)) u; have g7 : w2.cell? ⟨cb, 7, none⟩ = some tk := blk_cell HG.out.cx 7; have f7 : w2.frozen? ⟨cb, 7, none⟩ = false := blk_frozen HG.out.cx 7; clear hown1 hgrow hat)
  all_goals go_end0
  all_goals exact ⟨rfl, _, _, HG.out.setC 7 _, fun j G hj => HK.out j G _ hj⟩

end Go.Proofs.Ytgidfhpcobpinaa.TgW
