/- Walks of FnPartChars: a text on one line, what it is split into, how it is shown, and joined. -/
import Derived.Test.YtgidfhpcobpinaaDoorPcPure
import Derived.Test.YtgidfhpcobpinaaDoorShelf
import Derived.Test.YtgidfhpcobpinaaDoorAddWalk2
import Derived.WalkSpells
import Derived.WalkLawsBesides
import Derived.Deep.QuietTactic
import Derived.BigQuiet
namespace Go.Proofs.YtgidfhpcobpinaaDoor.PcW
open Go.RowKit Go.Proofs.YtgidfhpcobpinaaDoor.PFnPartChars Go.Proofs.YtgidfhpcobpinaaDoorW.PrintWords Go.Proofs.YtgidfhpcobpinaaDoorW.PrintLast Go.Proofs.YtgidfhpcobpinaaDoorW.PrintMore
open Go.Proofs.YtgidfhpcobpinaaDoor.PcP Go.Proofs.YtgidfhpcobpinaaDoor.Rn Go.Proofs.YtgidfhpcobpinaaDoor.AddM
attribute [local go_sem ↓] Go.wp_at_zero Go.wp_at_succ
set_option linter.unusedSimpArgs false
set_option linter.unusedVariables false

theorem below_down {B C : Nat} {w w' : World} (h : Below C w w') (hBC : B ≤ C) : Below B w w' := ⟨h.os, h.tape, h.output, h.size, fun i hi => h.block i (Nat.lt_of_lt_of_le hi hBC)⟩
theorem below_drewN0 {B : Nat} {w w' : World} (h : Below B w w') : ∀ q, Below B w (w'.drewN q)
  | 0 => h
  | q + 1 => (below_drewN0 h q).drew

theorem runes_row (w : World) (l : List Int) (spare : Array Value) (T : TypeId) (hl : l.length ≤ 9223372036854775807) :
    Kd.C (Kd.int .i32) (w.alloc (.cells ((l.map (Value.int .i32)).toArray ++ spare) T)) (some ⟨w.heap.size, 0, none⟩) l.length l := by
  refine ⟨rfl, hl, fun _ => ⟨_, rfl, fun j p hj => ⟨[.int .i32 p], rfl, rfl, fun i u hi => ?_⟩⟩⟩
  match i, hi with
  | 0, hi =>
    simp only [List.getElem?_cons_zero, Option.some.injEq] at hi
    subst hi
    have hlt : j < l.length := (List.getElem?_eq_some_iff.1 hj).1
    have hp : l[j] = p := (List.getElem?_eq_some_iff.1 hj).2
    show (w.alloc _).cell? ((⟨w.heap.size, 0, none⟩ : Addr).add (j * 1 + 0)) = _
    rw [show j * 1 + 0 = j from by omega, add_plain, World.cell?_alloc_mark]
    rw [Array.getElem?_append_left (by simpa using hlt)]
    simp [hj]

theorem runes_row' (w : World) (l : List Int) (n : Nat) (T : TypeId) (hl : l.length ≤ 9223372036854775807) :
    Kd.C (Kd.int .i32) (w.alloc (.cells ((l.map (Value.int .i32)).toArray ++ Array.replicate n (.int .i32 0)) T)).drew (some ⟨w.heap.size, 0, none⟩) l.length l :=
  Kd.C_below (runes_row w l _ T hl) (below_drew (Below.refl _ _))

/-- What scRunes hands back. -/
def Runes (s : ByteArray) (w : World) (e : Ending) (w' : World) : Prop :=
  e = .returned (.tuple #[.slice none 0 0, .bool false]) ∨
  (s.size ≤ 65536 ∧ ∃ b cap, e = .returned (.tuple #[.slice (some ⟨b, 0, none⟩) (runesAt s 0).length cap, .bool true]) ∧ Kd.C (Kd.int .i32) w' (some ⟨b, 0, none⟩) (runesAt s 0).length (runesAt s 0) ∧ (runesAt s 0).length ≤ cap)

set_option maxRecDepth 100000 in
set_option maxHeartbeats 400000 in
theorem scRunes_any (s : ByteArray) (w : World) (hz : s.size ≤ 2147483647) (hT : Lib.Utf8Tabs 3 4 w) :
    Calls Tryd.prog 13 #[.string s] w fun e w' => Runes s w e w' ∧ Below w.heap.size w w' := by
  by_cases hs : s.size ≤ 65536
  · have h1 : decide ((s.size : Int) > 65536) = false := by simp; omega
    have HV := Aside0.mk (Tryd.utf8_ValidString s w (by omega) hT)
    have HS := Aside0.mk hs
    clear hT
    cases hv : Lib.validD s.data.toList
    · rw [hv] at HV
      go_enter Tryd.func13, Tryd.ntmps13
      go_wp2_with fail
      refine HV.out.mono ?_
      rintro e w' ⟨rfl, hb⟩
      go_wp2
      go_ret2
      exact ⟨.inl rfl, hb⟩
    · rw [hv] at HV
      obtain ⟨l, hl⟩ : ∃ l, runesAt s 0 = l := ⟨_, rfl⟩
      have hrn := runesFrom_all s
      unfold Runes
      rw [hl] at hrn ⊢
      have hlen : l.length ≤ 65536 := by have := runesAt_length s 0; rw [hl] at this; omega
      have hcv := fun (wx : World) => run_runes_of_string (P := Tryd.prog) wx 9 44 21 s Tryd.underlying9 Tryd.underlying44 Tryd.underlying21 (by rw [hrn]; simp; omega)
      rw [hrn] at hcv
      clear hl hrn
      go_enter Tryd.func13, Tryd.ntmps13
      go_wp2_with fail
      refine HV.out.mono ?_
      rintro e w' ⟨rfl, hb⟩
      go_wp2
      go_ret2
      exact ⟨.inr ⟨HS.out, _, _, rfl, runes_row' _ l _ _ (by omega), grownCap_ge _ _ _ _⟩, (hb.trans (below_down (below_alloc (Below.refl _ _) _) hb.size)).drew⟩
  · have h1 : decide ((s.size : Int) > 65536) = true := by simp; omega
    clear hT
    go_enter Tryd.func13, Tryd.ntmps13
    go_wp2_with fail
    go_ret2
    exact ⟨.inl rfl, Below.refl _ _⟩

set_option maxRecDepth 100000 in
set_option maxHeartbeats 400000 in
theorem row_any (s : ByteArray) (w : World) (hz : s.size ≤ 2147483647) (hT : Lib.Utf8Tabs 3 4 w) :
    Calls Tryd.prog 6 #[.string s] w fun e w' => (∃ b, e = .returned (.bool b) ∧ (b = true → s.size ≤ 65536 ∧ ∀ r ∈ runesAt s 0, r ≠ 10)) ∧ Below w.heap.size w w' := by
  have HR := Aside0.mk (scRunes_any s w hz hT)
  clear hT
  go_enter Tryd.func6, Tryd.ntmps6
  go_wp2_with fail
  refine HR.out.mono ?_
  rintro e w' ⟨he, hb⟩
  have HB := Aside0.mk hb
  clear hb HR
  rcases he with rfl | ⟨hs, b, cap, rfl, hC, hcap⟩
  · go_wp2
    go_ret
    exact ⟨⟨false, rfl, fun h => by cases h⟩, HB.out⟩
  · have hlen : (runesAt s 0).length ≤ 2147483647 := by have := runesAt_length s 0; omega
    obtain ⟨k, r, hk, h13⟩ := scAll_told (runesAt s 0) hlen
    have HK := Aside0.mk hk
    have H13 := Aside0.mk h13
    have HC := Aside0.mk hC
    have HS := Aside0.mk hs
    clear hk h13 hC
    obtain ⟨l, hl⟩ : ∃ l, runesAt s 0 = l := ⟨_, rfl⟩
    have HL := Aside0.mk hl
    rw [hl] at HC hcap HK H13 hlen
    rw [hl]
    clear hl
    go_wp2_with fail
    refine (spec_scAll.calls k _ _ l false r _ HC.out hcap HK.out).mono ?_
    rintro e w1 ⟨rfl, ⟨nd, rfl⟩⟩
    go_wp2
    go_ret
    exact ⟨⟨r, rfl, fun h => ⟨HS.out, by rw [HL.out]; exact H13.out h⟩⟩, below_drewN0 HB.out nd⟩


theorem run_neq_func_nil {P : Program} (w : World) {t : TypeId} {a b c} (h : P.underlying t = some (.func a b c)) : (binOp .neq t .nilFunc .nilFunc).run P w = .ok (.bool false) w := by
  have h1 : ∀ d : Nat, (Op.equalIn (d + 1) t .nilFunc .nilFunc).run P w = .ok true w := fun d => by simp [Op.equalIn, run_underlying h]
  simp only [binOp]
  simp [Op.equal, Op.maxDepth, h1 9999]

set_option maxRecDepth 100000 in
set_option maxHeartbeats 1000000 in
theorem property_any (p b : Nat) (w : World) (h0 : w.cell? ⟨b, 0, none⟩ = some (.int .i64 31)) (h7 : w.cell? ⟨b, 7, none⟩ = some (.pointer none)) (h8 : w.cell? ⟨b, 8, none⟩ = some (.pointer none)) (hp : w.cell? ⟨p, 6, none⟩ = some .nilFunc) :
    Calls Tryd.prog 25 #[.pointer (some ⟨p, 0, none⟩), .pointer (some ⟨b, 0, none⟩)] w fun e w' => e = .returned (.pointer (some ⟨w.heap.size, 0, none⟩)) ∧ w' = w.alloc (.cells #[.string ⟨#[]⟩, .string ⟨#[]⟩] 82) := by
  have q0 := fun o : Obj => pw_cell_below (below_alloc (Below.refl _ _) o) h0
  have q7 := fun o : Obj => pw_cell_below (below_alloc (Below.refl _ _) o) h7
  have q8 := fun o : Obj => pw_cell_below (below_alloc (Below.refl _ _) o) h8
  have qp := fun o : Obj => pw_cell_below (below_alloc (Below.refl _ _) o) hp
  have k1 := fun wx : World => run_neq_func_nil (P := Tryd.prog) wx Tryd.underlying50
  clear h0 h7 h8 hp
  go_enter Tryd.func25, Tryd.ntmps25
  go_wp2
  go_ret
  exact ⟨rfl, rfl⟩

/-- A slice of one text. -/
def One (w : World) (v : Value) (s : ByteArray) : Prop := ∃ g c, v = .slice (some ⟨g, 0, none⟩) 1 c ∧ w.cell? ⟨g, 0, none⟩ = some (.string s)

theorem split_any (s : ByteArray) (w : World) (hz : s.size ≤ 2147483647) (hn : NoFeed s) :
    Calls Tryd.prog 24 #[.string s, .string ⟨#[10]⟩] w fun e w' => (∃ v, e = .returned v ∧ One w' v s) ∧ Below w.heap.size w w' := by
  obtain ⟨k, hk⟩ := split_one s hz hn
  refine (printer_zzSplit.calls k s nl [s] w hk).mono ?_
  rintro e w' ⟨v, rfl, hR, hb⟩
  refine ⟨⟨v, rfl, ?_⟩, hb⟩
  have hown := Kd.own_of_R hR
  obtain ⟨g, cap, hv, _, _⟩ := hown.form (by show 0 < 1; omega)
  subst hv
  refine ⟨g, cap, rfl, ?_⟩
  have := hown.cells (g := g) rfl 0 (.string s) rfl
  rwa [add_plain] at this

set_option maxRecDepth 100000 in
set_option maxHeartbeats 1000000 in
theorem join_one (g c : Nat) (s sep : ByteArray) (w : World) (h : w.cell? ⟨g, 0, none⟩ = some (.string s)) :
    Calls Tryd.prog 26 #[.slice (some ⟨g, 0, none⟩) 1 c, .string sep] w fun e w' => e = .returned (.string s) ∧ w = w' := by
  go_enter Tryd.func26, Tryd.ntmps26
  go_wp2
  go_ret
  exact ⟨rfl, rfl⟩

end Go.Proofs.YtgidfhpcobpinaaDoor.PcW
