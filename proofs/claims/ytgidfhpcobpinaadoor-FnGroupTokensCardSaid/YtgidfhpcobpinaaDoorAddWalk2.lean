/- Walks of FnPartAdded: the tokens that are made. -/
import Derived.Test.YtgidfhpcobpinaaDoorAddWalk1
namespace Go.Proofs.YtgidfhpcobpinaaDoor.AddW
open Go.RowKit Go.Proofs.YtgidfhpcobpinaaDoor.PFnPartChars Go.Proofs.YtgidfhpcobpinaaDoorW.PrintWords Go.Proofs.YtgidfhpcobpinaaDoorW.PrintLast Go.Proofs.YtgidfhpcobpinaaDoorW.PrintMore
open Go.Proofs.YtgidfhpcobpinaaDoor.AddM
attribute [local go_sem ↓] Go.wp_at_zero Go.wp_at_succ
set_option linter.unusedSimpArgs false
set_option linter.unusedVariables false

def Ok (t : Tk) : Prop := 1 ≤ t.pl.col ∧ t.pl.col ≤ 200 ∧ 0 ≤ t.pl.ind ∧ t.pl.ind ≤ 200
def lone (t : Tk) : List Value := tkList t (-1) (-1)
def none2 : Nat → Option Nat := fun _ => none

/-- made's first loop, behind k rounds. -/
def Made (B : Nat) (w wr : World) (ts : List Tk) (k : Nat) (v : Value) : Prop :=
  Below B w wr ∧ ∃ tb pb : List Nat, tb.length = k ∧ pb.length = k ∧ wr.ownsRow B 75 1 v k (tb.map fun b => ptr (some b)) ∧ Toks B wr ts tb pb none2 none2

/-- What a loop knows of the tokens that it has made. -/
structure Have (B : Nat) (w wr : World) (ts : List Tk) (k : Nat) (v : Value) (tb pb : List Nat) : Prop where
  bel : Below B w wr
  ltb : tb.length = k
  lpb : pb.length = k
  own : wr.ownsRow B 75 1 v k (tb.map fun b => ptr (some b))
  toks : Toks B wr ts tb pb none2 none2

theorem below_new {w : World} (T P R K C : Obj) (n : Nat) : Below w.heap.size w ((((((w.alloc T).alloc P).alloc R).drewN n).alloc K).alloc C) :=
  below_alloc (below_alloc (pw_below_drewN (below_alloc (below_alloc (below_alloc (Below.refl _ _) _) _) _) _) _) _

theorem made_step {B : Nat} {w wr w1 : World} {ts : List Tk} {k : Nat} {v v1 : Value} {tb pb : List Nat} (hM : Have B w wr ts k v tb pb) (hB : B ≤ wr.heap.size) (hk : k < ts.length) {t : Tk} (ht : ts[k]? = some t) (T P C : Obj) (n : Nat)
    (hg : ((((((wr.alloc T).alloc P).alloc (.cells (plCells t.pl) 70)).drewN n).alloc (.cells (tokCells t (wr.heap.size + 1 + 1) none none) 77)).alloc C).grownBy w1 v.ownBlock)
    (hown : w1.ownsRow B 75 1 v1 (k + 1) ((tb.map fun b => ptr (some b)) ++ [ptr (some (wr.heap.size + 1 + 1 + 1))])) :
    Have B w w1 ts (k + 1) v1 (tb ++ [wr.heap.size + 1 + 1 + 1]) (pb ++ [wr.heap.size + 1 + 1]) := by
  have hb5 := below_new (w := wr) T P (.cells (plCells t.pl) 70) (.cells (tokCells t (wr.heap.size + 1 + 1) none none) 77) C n
  have hown5 := pw_own_below hM.own hb5
  have ht5 := hM.toks.below hb5
  have hnl : ∀ j, v.ownBlock = some j → j < wr.heap.size := fun j hj => own_lt hM.own j hj
  refine ⟨?_, by simp [hM.ltb], by simp [hM.lpb], by simpa using hown, ?_⟩
  · exact pw_below_grown (below_then hM.bel hB hb5) _ (Nat.le_trans hB hb5.size) hg (fun j hj => own_base hM.own j hj)
  · have ht1 := ht5.grown hown5 (by decide) hg
    have e : tb.length = k := hM.ltb
    refine ht1.snoc (by rw [hM.lpb, hM.ltb]) (by rw [e]; exact ht) ?_ (by omega) (by omega) ?_ ?_
    · intro hm
      have := hM.toks.lt (by rw [hM.lpb, hM.ltb]) (by rw [hM.ltb]; omega) hm
      omega
    · refine blk_grown ?_ hg (fun hj => by have := hnl _ hj.symm; omega)
      refine blk_alloc ?_ _
      exact blk_top (by simp)
    · refine blk_grown ?_ hg (fun hj => by have := hnl _ hj.symm; omega)
      refine blk_alloc (blk_alloc (blk_drewN ?_ _) _) _
      exact blk_top (by simp)

theorem made_more {B : Nat} {w wr w1 : World} {ts : List Tk} {k : Nat} {v : Value} (hM : Made B w wr ts k v) (hB : B ≤ wr.heap.size) (hb : Below wr.heap.size wr w1) : Made B w w1 ts k v := by
  obtain ⟨hbel, tb, pb, htb, hpb, hown, htok⟩ := hM
  exact ⟨below_then hbel hB hb, tb, pb, htb, hpb, pw_own_below hown hb, htok.below hb⟩

theorem info75 : (Tryd.prog.info? 75).map (fun i => (i.zero, i.size, i.bytes)) = some (some (.pointer none), 1, 8) := by kernel_rfl

theorem made_start (w : World) (ts : List Tk) : Made w.heap.size w (w.alloc (.cells #[] 75)) ts 0 (.slice (some ⟨w.heap.size, 0, none⟩) 0 0) := by
  refine ⟨below_alloc (Below.refl _ _) _, [], [], rfl, rfl, ?_, Toks.nil _ _ _ _ _⟩
  exact ⟨rfl, .inr ⟨w.heap.size, 0, #[], rfl, Nat.le_refl _, heap_alloc_new w _, Nat.le_refl _, by unfold maxLen; omega, rfl, rfl⟩⟩

set_option maxRecDepth 100000 in
set_option maxHeartbeats 1000000 in
theorem made_any (A : Option Addr) (c : Nat) (ts : List Tk) (w : World) (hn : ts.length ≤ 1000) (hok : ∀ t ∈ ts, Ok t) (hr : Row w 13 A (ts.map lone)) :
    Calls Tryd.prog 16 #[.slice A ts.length c] w fun e w' => ∃ v, e = .returned v ∧ Made w.heap.size w w' ts ts.length v := by
  have HR := Aside0.mk hr
  have HOK := Aside0.mk hok
  have hs := Aside0.mk (made_start w ts)
  clear hr hok
  obtain ⟨i0, hi0, hz0, hz1, hz2⟩ := info_parts info75
  go_enter Tryd.func16, Tryd.ntmps16
  go_wp2
  go_loopw [3, 5, 11] (fun v p i wr => ∃ k : Nat, k ≤ ts.length ∧ i = .int .i64 k ∧ Aside0 (Made w.heap.size w wr ts k v)) (fun _ _ i _ => ts.length - (intOf i).toNat)
  case atStart => exact ⟨0, by omega, rfl, hs⟩
  case round =>
    obtain ⟨k, hk, rfl, hM⟩ := hrel
    by_cases hlt : k < ts.length
    · obtain ⟨t, ht⟩ : ∃ t, ts[k]? = some t := ⟨_, List.getElem?_eq_getElem hlt⟩
      obtain ⟨o1, o2, o3, o4⟩ := HOK.out t (List.mem_of_getElem? ht)
      obtain ⟨g, o, rfl, hc⟩ := (HR.out.below hM.out.1).at_ (k := k) (x := lone t) (by rw [List.getElem?_map, ht]; rfl)
      have c0 : wr.cell? ⟨g, o + k * 13, none⟩ = some (.int .i64 t.typ) := hc 0 _ rfl
      have c1 := hc 1 _ rfl
      have c2 := hc 2 _ rfl
      have c3 := hc 3 _ rfl
      have c4 := hc 4 _ rfl
      have c5 := hc 5 _ rfl
      have c6 := hc 6 _ rfl
      have c7 := hc 7 _ rfl
      have c8 := hc 8 _ rfl
      have c9 := hc 9 _ rfl
      have c10 := hc 10 _ rfl
      have c11 := hc 11 _ rfl
      have c12 := hc 12 _ rfl
      have HT := Aside0.mk ht
      clear hc ht
      go_wp2_with fail
      clear c0 c1 c2 c3 c4 c5 c6 c7 c8 c9 c10 c11 c12
      have hM0 := hM.out
      obtain ⟨hbel, tb, pb, htb, hpb, hown, htok⟩ := hM0
      have hne : Aside0 (u3.ownBlock ≠ some wr.heap.size) := ⟨fun e => by have := own_lt hown _ e; omega⟩
      have HO := Aside0.mk hown
      have hsz : w.heap.size ≤ wr.heap.size := hbel.size
      have HV : Aside0 (Have w.heap.size w wr ts k u3 tb pb) := ⟨⟨hbel, htb, hpb, hown, htok⟩⟩
      clear hbel htb hpb hown htok hM
      go_region_held3 (fun w' => w'.cell? ⟨wr.heap.size, 0, none⟩ = some (.int .i64 t.typ) ∧ w'.cell? ⟨wr.heap.size, 1, none⟩ = some (.int .i64 t.char) ∧ w'.cell? ⟨wr.heap.size, 2, none⟩ = some (.int .i64 t.sign) ∧ w'.cell? ⟨wr.heap.size, 3, none⟩ = some (.string t.value) ∧ w'.cell? ⟨wr.heap.size, 4, none⟩ = some (.string t.origin) ∧ w'.cell? ⟨wr.heap.size, 5, none⟩ = some (.string t.err) ∧ w'.cell? ⟨wr.heap.size, 6, none⟩ = some (.int .i64 t.pl.line) ∧ w'.cell? ⟨wr.heap.size, 7, none⟩ = some (.int .i64 t.pl.col) ∧ w'.cell? ⟨wr.heap.size, 8, none⟩ = some (.int .i64 t.pl.off) ∧ w'.cell? ⟨wr.heap.size, 9, none⟩ = some (.int .i64 t.pl.ind) ∧ w'.cell? ⟨wr.heap.size, 10, none⟩ = some (.int .i64 t.pl.lev))
        (first
          | go_keep
          | (go_split_ands
             refine ⟨?_, ?_, ?_, ?_, ?_, ?_, ?_, ?_, ?_, ?_, ?_⟩ <;> (rw [hgrow.cell_far _ (by simp; omega) (Ne.symm hne.out)]; assumption)))
        (first
          | (go_at_call 27; refine (position_any _ _ _ _ _ _ (by omega) (by omega) (by omega) (by omega)).mono ?_; rintro e w' ⟨rfl, nd, rfl⟩)
          | (refine step_append_lies _ (by rfl) _ _ _ (by rfl) w.heap.size 75 i0 _ 1 8 Tryd.underlying55 hi0 hz0 hz1 hz2 rfl (by omega) u3 k _ (by rfl) (by (repeat (first | exact HO.out | apply own_alloc | apply pw_own_drewN | apply own_drew)))
               ⟨wr.heap.size + 1 + 1 + 1 + 1, 0, none⟩ 1 1 [.pointer (some ⟨wr.heap.size + 1 + 1 + 1, 0, none⟩)] (by rfl) (by rfl) (World.news_of_block (cs := #[.pointer (some ⟨wr.heap.size + 1 + 1 + 1, 0, none⟩)]) (t := 75) (fr := (0, 0)) (blk_top (by simp))) (by simp [Value.oneCell'])
               (by omega) (by unfold maxLen; omega) (by omega) (by simp; omega) (wr.heap.size + 1 + 1 + 1 + 1 + 1) (by simp) ?_; intro gg cap w1 hown1 hgrow hat hlt1))
      have HF := Aside0.mk (made_step HV.out hsz hlt HT.out _ _ _ _ hgrow hown1)
      clear hown1 hgrow hat hlt1
      go_wp2
      go_roundw
      case rel => exact ⟨k + 1, by omega, by go_num, ⟨⟨HF.out.bel, _, _, HF.out.ltb, HF.out.lpb, HF.out.own, HF.out.toks⟩⟩⟩
      case measure => simp [intOf]; omega
    · obtain rfl : k = ts.length := by omega
      go_wp2
      have hM1 := hM.out
      have HM : Aside0 (Made w.heap.size w wr ts ts.length u3) := hM
      clear hM hM1 hs
      obtain ⟨wo, rfl⟩ : ∃ wo : World, wo = wr := ⟨_, rfl⟩
      go_loopw [6, 7, 38] (fun _ _ i wx => ∃ j : Nat, j ≤ ts.length ∧ i = .int .i64 j ∧ Aside0 (Made w.heap.size w wx ts ts.length u3)) (fun _ _ i _ => ts.length - (intOf i).toNat)
      case atStart => exact ⟨0, by omega, rfl, HM⟩
      case round =>
        obtain ⟨j, hj, rfl, hX⟩ := hrel
        clear HM
        by_cases hlt' : j < ts.length
        · obtain ⟨t, ht⟩ : ∃ t, ts[j]? = some t := ⟨_, List.getElem?_eq_getElem hlt'⟩
          obtain ⟨g, o, rfl, hc⟩ := (HR.out.below hX.out.1).at_ (k := j) (x := lone t) (by rw [List.getElem?_map, ht]; rfl)
          have hsz : w.heap.size ≤ wr.heap.size := hX.out.1.size
          have c0 : wr.cell? ⟨g, o + j * 13, none⟩ = some (.int .i64 t.typ) := hc 0 _ rfl
          have c1 := hc 1 _ rfl
          have c2 := hc 2 _ rfl
          have c3 := hc 3 _ rfl
          have c4 := hc 4 _ rfl
          have c5 := hc 5 _ rfl
          have c6 := hc 6 _ rfl
          have c7 := hc 7 _ rfl
          have c8 := hc 8 _ rfl
          have c9 := hc 9 _ rfl
          have c10 := hc 10 _ rfl
          have c11 := hc 11 _ rfl
          have c12 := hc 12 _ rfl
          clear hc ht
          go_wp2
          go_roundw
          case rel => exact ⟨j + 1, by omega, by go_num, ⟨made_more hX.out hsz (below_alloc (Below.refl _ _) _)⟩⟩
          case measure => simp [intOf]; omega
        · obtain rfl : j = ts.length := by omega
          go_wp2
          go_ret
          exact ⟨_, rfl, hX.out⟩

end Go.Proofs.YtgidfhpcobpinaaDoor.AddW
