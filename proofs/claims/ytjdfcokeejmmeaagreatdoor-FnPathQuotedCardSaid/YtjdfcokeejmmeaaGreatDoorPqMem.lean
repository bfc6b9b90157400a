/- Walks of FnPathQuoted: what builds a path. -/
import Derived.Test.YtjdfcokeejmmeaaGreatDoorProg
import Derived.Test.YtjdfcokeejmmeaaGreatDoorWWords
import Derived.Test.YtjdfcokeejmmeaaGreatDoorWLast
import Derived.Test.YtjdfcokeejmmeaaGreatDoorWMore
import Derived.WalkKit
import Derived.RowKit3
import Derived.Deep.LoopGhost
import Derived.WideLaws
import Derived.WalkSpells
import Derived.WalkLawsBesides
import Derived.Deep.QuietTactic
import Derived.BigQuiet
import Derived.Deep.RegionHeld3
import Derived.Deep.AppendLies
import Derived.Deep.DrawnRows
import Derived.StillTailTactics
namespace Go.Proofs.YtjdfcokeejmmeaaGreatDoor.PqW
open Go.RowKit Go.Proofs.YtjdfcokeejmmeaaGreatDoorW.PrintWords Go.Proofs.YtjdfcokeejmmeaaGreatDoorW.PrintLast Go.Proofs.YtjdfcokeejmmeaaGreatDoorW.PrintMore
attribute [local go_sem ↓] Go.wp_at_zero Go.wp_at_succ
set_option linter.unusedSimpArgs false
set_option linter.unusedVariables false

def pt (b : Nat) : Value := .pointer (some ⟨b, 0, none⟩)

/-- A builder that has a root alone, or one step more. -/
structure Bd (w : World) (b r s : Nat) (node child : Value) : Prop where
  b : w.heap[b]? = some (.cells #[.pointer (some ⟨r, 0, none⟩), node] 49 (0, 0))
  r : w.heap[r]? = some (.cells #[.pointer (some ⟨s, 0, none⟩)] 87 (0, 0))
  s : w.heap[s]? = some (.cells #[child] 85 (0, 0))

theorem blk_top {W : World} {o : Obj} {H : Nat} (h : W.heap.size = H) : (W.alloc o).heap[H]? = some o := by
  subst h
  exact heap_alloc_new W o

set_option maxRecDepth 100000 in
set_option maxHeartbeats 1000000 in
theorem root_any (v : Value) (w : World) : Calls Tryz.prog 13 #[v] w fun e w' => ∃ b r s, e = .returned (.pointer (some ⟨b, 0, none⟩)) ∧ w.heap.size ≤ b ∧ w.heap.size ≤ r ∧ w.heap.size ≤ s ∧ Bd w' b r s (.iface 45 (.pointer (some ⟨r, 0, none⟩))) .nilIface ∧ Below w.heap.size w w' := by
  go_enter Tryz.func13, Tryz.ntmps13
  go_wp2
  go_ret
  refine ⟨w.heap.size + 2, w.heap.size + 1, w.heap.size, rfl, by omega, by omega, Nat.le_refl _, ⟨?_, ?_, ?_⟩, ?_⟩
  · exact blk_top (by simp)
  · exact blk_alloc (blk_top (by simp)) _
  · exact blk_alloc (blk_alloc (heap_alloc_new w _) _) _
  · exact below_alloc (below_alloc (below_alloc (Below.refl _ _) _) _) _

set_option maxRecDepth 100000 in
set_option maxHeartbeats 1000000 in
theorem build_any {b r s : Nat} {nd c : Value} {w : World} (h : Bd w b r s nd c) : Calls Tryz.prog 18 #[.pointer (some ⟨b, 0, none⟩)] w fun e w' => e = .returned (.pointer (some ⟨w.heap.size, 0, none⟩)) ∧ w' = w.alloc (.cells #[.iface 45 (.pointer (some ⟨r, 0, none⟩))] 55) := by
  have c0 : w.cell? ⟨b, 0, none⟩ = some (.pointer (some ⟨r, 0, none⟩)) := blk_cell h.b 0
  clear h
  go_enter Tryz.func18, Tryz.ntmps18
  go_wp2
  go_ret
  exact ⟨rfl, rfl⟩

set_option maxRecDepth 100000 in
set_option maxHeartbeats 1000000 in
theorem sel_any (name : ByteArray) (w : World) : Calls Tryz.prog 31 #[.string name] w fun e w' => e = .returned (.pointer (some ⟨w.heap.size + 1, 0, none⟩)) ∧ w' = (w.alloc (.cells #[.nilIface] 85)).alloc (.cells #[.pointer (some ⟨w.heap.size, 0, none⟩), .string name] 98) := by
  go_enter Tryz.func31, Tryz.ntmps31
  go_wp2
  go_ret
  exact ⟨by simp, rfl⟩

set_option maxRecDepth 100000 in
set_option maxHeartbeats 1000000 in
theorem chain_any (s : Nat) (c v : Value) (w : World) (h : w.heap[s]? = some (.cells #[c] 85 (0, 0))) (hv : ∃ u x, v = .iface u x) : Calls Tryz.prog 82 #[.pointer (some ⟨s, 0, none⟩), v] w fun e w' => e = .returned v ∧ w' = w.setCell ⟨s, 0, none⟩ v := by
  obtain ⟨u, x, rfl⟩ := hv
  have c0 : w.cell? ⟨s, 0, none⟩ = some c := blk_cell h 0
  have f0 := blk_frozen h 0
  clear h
  go_enter Tryz.func82, Tryz.ntmps82
  go_wp2
  go_ret
  exact ⟨rfl, rfl⟩

theorem meth45 : ((Tryz.prog.info? 45).bind fun i => (i.methods.find? (·.name == "given.example/pub-palinode/pub/goccyyaml.chain")).map fun m => (m.path.toList, m.func)) = some ([⟨87, 0, true⟩], some (82, true)) := by kernel_rfl
theorem size83 : (Tryz.prog.info? 83).map (·.size) = some 1 := by kernel_rfl

theorem m_chain (r s : Nat) (W : World) (h : W.cell? ⟨r, 0, none⟩ = some (.pointer (some ⟨s, 0, none⟩))) : (method 282 45 (.pointer (some ⟨r, 0, none⟩)) "given.example/pub-palinode/pub/goccyyaml.chain").run Tryz.prog W = .ok (82, .pointer (some ⟨s, 0, none⟩)) W := by
  obtain ⟨i, hi, hf⟩ := Option.bind_eq_some_iff.1 meth45
  obtain ⟨m, hm, hmm⟩ := Option.map_eq_some_iff.1 hf
  simp only [Prod.mk.injEq] at hmm
  obtain ⟨hp, hfn⟩ := hmm
  obtain ⟨i83, hi83, hz83⟩ := Option.map_eq_some_iff.1 size83
  unfold method
  simp [typeInfo, hi, hm, hp, hfn, follow, run_underlying Tryz.underlying87, Place.get, asAddr, fieldPlace, sizeOf, hi83, hz83, add_plain, receiverAt, run_underlying Tryz.underlying83, loadVar, isAgg, go_sem, h]

/-- A builder with a root and a key's step. -/
structure Ch (w : World) (b r s sel s2 : Nat) (name : ByteArray) : Prop where
  bd : Bd w b r s (.iface 88 (.pointer (some ⟨sel, 0, none⟩))) (.iface 88 (.pointer (some ⟨sel, 0, none⟩)))
  sel : w.heap[sel]? = some (.cells #[.pointer (some ⟨s2, 0, none⟩), .string name] 98 (0, 0))
  s2 : w.heap[s2]? = some (.cells #[.nilIface] 85 (0, 0))

def Childed (b r s : Nat) (name : ByteArray) (w : World) (e : Ending) (w' : World) : Prop :=
  e = .returned (.pointer (some ⟨b, 0, none⟩)) ∧ (∃ sel s2, Ch w' b r s sel s2 name) ∧ ∀ B, B ≤ b → B ≤ s → B ≤ w.heap.size → Below B w w'

theorem childed_of {b r s : Nat} {w : World} {name : ByteArray} (h : Bd w b r s (.iface 45 (.pointer (some ⟨r, 0, none⟩))) .nilIface) (W : World) (hW : W = ((w.alloc (.cells #[.nilIface] 85)).alloc (.cells #[.pointer (some ⟨w.heap.size, 0, none⟩), .string name] 98)).drew) :
    Childed b r s name w (.returned (.pointer (some ⟨b, 0, none⟩))) ((W.setCell ⟨s, 0, none⟩ (.iface 88 (.pointer (some ⟨w.heap.size + 1, 0, none⟩)))).setCell ⟨b, 1, none⟩ (.iface 88 (.pointer (some ⟨w.heap.size + 1, 0, none⟩)))) := by
  have hb : W.heap[b]? = some (.cells #[.pointer (some ⟨r, 0, none⟩), .iface 45 (.pointer (some ⟨r, 0, none⟩))] 49 (0, 0)) := by rw [hW]; exact blk_drew (blk_alloc (blk_alloc h.b _) _)
  have hr : W.heap[r]? = some (.cells #[.pointer (some ⟨s, 0, none⟩)] 87 (0, 0)) := by rw [hW]; exact blk_drew (blk_alloc (blk_alloc h.r _) _)
  have hs : W.heap[s]? = some (.cells #[.nilIface] 85 (0, 0)) := by rw [hW]; exact blk_drew (blk_alloc (blk_alloc h.s _) _)
  have h2 : W.heap[w.heap.size]? = some (.cells #[.nilIface] 85 (0, 0)) := by rw [hW]; exact blk_drew (blk_alloc (heap_alloc_new w _) _)
  have h3 : W.heap[w.heap.size + 1]? = some (.cells #[.pointer (some ⟨w.heap.size, 0, none⟩), .string name] 98 (0, 0)) := by rw [hW]; exact blk_drew (blk_top (by simp))
  have nb : b ≠ s := blk_ne hb hs (by decide)
  have nr : r ≠ s := blk_ne hr hs (by decide)
  have nrb : r ≠ b := blk_ne hr hb (by decide)
  have n2 : w.heap.size ≠ s := Nat.ne_of_gt (blk_lt h.s)
  have n2b : w.heap.size ≠ b := Nat.ne_of_gt (blk_lt h.b)
  have n3 : w.heap.size + 1 ≠ s := by have := blk_lt h.s; omega
  have n3b : w.heap.size + 1 ≠ b := by have := blk_lt h.b; omega
  refine ⟨rfl, ⟨w.heap.size + 1, w.heap.size, ⟨?_, ?_, ?_⟩, ?_, ?_⟩, fun B h1 h2 h3 => ?_⟩
  · exact blk_put (blk_far hb nb _) 1 _ rfl
  · exact blk_far (blk_far hr nr _) nrb _
  · exact blk_far (blk_put hs 0 _ rfl) nb.symm _
  · exact blk_far (blk_far h3 n3 _) n3b _
  · exact blk_far (blk_far h2 n2 _) n2b _
  · have hB : Below B w W := by rw [hW]; exact (((below_alloc (below_alloc (Below.refl w.heap.size w) _) _).mono h3).drew)
    exact (hB.setCell h2 _).setCell h1 _

set_option maxRecDepth 100000 in
set_option maxHeartbeats 2000000 in
theorem child_any {b r s : Nat} {w : World} (name : ByteArray) (h : Bd w b r s (.iface 45 (.pointer (some ⟨r, 0, none⟩))) .nilIface) : Calls Tryz.prog 23 #[.pointer (some ⟨b, 0, none⟩), .string name] w (Childed b r s name w) := by
  have c0 : w.cell? ⟨b, 0, none⟩ = some (.pointer (some ⟨r, 0, none⟩)) := blk_cell h.b 0
  have c1 : w.cell? ⟨b, 1, none⟩ = some (.iface 45 (.pointer (some ⟨r, 0, none⟩))) := blk_cell h.b 1
  have hm1 := fun o1 o2 : Obj => m_chain r s ((w.alloc o1).alloc o2).drew (blk_cell (blk_drew (blk_alloc (blk_alloc h.r o1) o2)) 0)
  have hm2 := fun o1 o2 : Obj => m_chain r s ((w.alloc o1).alloc o2) (blk_cell (blk_alloc (blk_alloc h.r o1) o2) 0)
  have HS := Aside0.mk h.s
  have HB := Aside0.mk h.b
  have HH := Aside0.mk h
  have nb : b ≠ s := blk_ne h.b h.s (by decide)
  have q2 := fun (o1 o2 : Obj) (v : Value) => (blk_cell (blk_far (blk_alloc (blk_alloc h.b o1) o2) (p := ⟨s, 0, none⟩) nb v) 1).trans (c := some (Value.iface 45 (.pointer (some ⟨r, 0, none⟩)))) rfl
  have q3 := fun (o1 o2 : Obj) (v : Value) => blk_frozen (blk_far (blk_alloc (blk_alloc h.b o1) o2) (p := ⟨s, 0, none⟩) nb v) 1
  have q4 := fun (o1 o2 : Obj) => (blk_cell (blk_alloc (blk_alloc h.b o1) o2) 1).trans (c := some (Value.iface 45 (.pointer (some ⟨r, 0, none⟩)))) rfl
  clear h
  go_enter Tryz.func23, Tryz.ntmps23
  go_wp2_with fail
  go_region_with (first | (go_at_call 31; refine (sel_any _ _).mono ?_; rintro e w' ⟨rfl, rfl⟩) | (go_at_call 82; refine (chain_any s .nilIface _ _ (by first | exact blk_drew (blk_alloc (blk_alloc HS.out _) _) | exact blk_alloc (blk_alloc HS.out _) _) ⟨_, _, rfl⟩).mono ?_; rintro e w' ⟨rfl, rfl⟩))
  all_goals go_wp2
  all_goals go_ret
  all_goals exact childed_of HH.out _ rfl

theorem methS45 : ((Tryz.prog.info? 45).bind fun i => (i.methods.find? (·.name == "String")).map fun m => (m.path.toList, m.func)) = some ([], some (81, true)) := by kernel_rfl
theorem m_root (r : Nat) (W : World) : (method 282 45 (.pointer (some ⟨r, 0, none⟩)) "String").run Tryz.prog W = .ok (81, .pointer (some ⟨r, 0, none⟩)) W := by kernel_rfl
theorem m_sel (r : Nat) (W : World) : (method 282 88 (.pointer (some ⟨r, 0, none⟩)) "String").run Tryz.prog W = .ok (100, .pointer (some ⟨r, 0, none⟩)) W := by kernel_rfl

/-- What normalizing a name comes to. -/
def Norm (name n : ByteArray) : Prop := ∀ (v : Value) (w : World), Calls Tryz.prog 24 #[v, .string name] w fun e w' => e = .returned (.string n) ∧ Below w.heap.size w w'

set_option maxRecDepth 100000 in
set_option maxHeartbeats 1000000 in
theorem selstr_any {w : World} {sel s2 : Nat} {name n : ByteArray} (h1 : w.heap[sel]? = some (.cells #[.pointer (some ⟨s2, 0, none⟩), .string name] 98 (0, 0))) (h2 : w.heap[s2]? = some (.cells #[.nilIface] 85 (0, 0))) (hn : Norm name n) (hz : n.size ≤ 1000) :
    Calls Tryz.prog 100 #[.pointer (some ⟨sel, 0, none⟩)] w fun e w' => e = .returned (.string (⟨#[46]⟩ ++ n)) ∧ Below w.heap.size w w' := by
  have q1 := fun o : Obj => pw_cell_below (below_alloc (Below.refl _ _) o) (blk_cell h1 1)
  have H1 := Aside0.mk h1
  have H2 := Aside0.mk h2
  have HN := Aside0.mk hn
  simp at q1
  have e0 : ¬ 9223372036854775807 < 1 + n.size := by omega
  clear h1 h2 hn hz
  go_enter Tryz.func100, Tryz.ntmps100
  go_wp2_with fail
  refine (HN.out _ _).mono ?_
  rintro e w1 ⟨rfl, hb⟩
  have HB := Aside0.mk (below_then (below_alloc (Below.refl w.heap.size w) _) (by simp) hb)
  have k0 := blk_cell (blk_below H1.out HB.out) 0
  have k1 := blk_cell (blk_below H2.out HB.out) 0
  simp at k0 k1
  clear hb q1
  go_wp2_with fail
  go_ret
  exact ⟨rfl, HB.out⟩

theorem Bd.below {w w1 : World} {b r s : Nat} {nd c : Value} (h : Bd w b r s nd c) (hb : Below w.heap.size w w1) : Bd w1 b r s nd c := ⟨blk_below h.b hb, blk_below h.r hb, blk_below h.s hb⟩
theorem Ch.below {w w1 : World} {b r s sel s2 : Nat} {name : ByteArray} (h : Ch w b r s sel s2 name) (hb : Below w.heap.size w w1) : Ch w1 b r s sel s2 name := ⟨h.bd.below hb, blk_below h.sel hb, blk_below h.s2 hb⟩

set_option maxRecDepth 100000 in
set_option maxHeartbeats 1000000 in
theorem rootstr_any {w : World} {b r s sel s2 : Nat} {name n : ByteArray} (h : Ch w b r s sel s2 name) (hn : Norm name n) (hz : n.size ≤ 900) :
    Calls Tryz.prog 81 #[.pointer (some ⟨r, 0, none⟩)] w fun e w' => e = .returned (.string (⟨#[36]⟩ ++ (⟨#[46]⟩ ++ n))) ∧ Below w.heap.size w w' := by
  have c0 := blk_cell h.bd.r 0
  have c1 := blk_cell h.bd.s 0
  simp at c0 c1
  have HS := Aside0.mk (selstr_any h.sel h.s2 hn (by omega))
  have hm := m_sel sel
  have e0 : ¬ 9223372036854775807 < 1 + (1 + n.size) := by omega
  clear h hn hz
  go_enter Tryz.func81, Tryz.ntmps81
  go_wp2_with fail
  refine HS.out.mono ?_
  rintro e w1 ⟨rfl, hb⟩
  have HB := Aside0.mk hb
  clear hb
  go_wp2_with fail
  go_ret
  exact ⟨rfl, HB.out⟩

set_option maxRecDepth 100000 in
set_option maxHeartbeats 1000000 in
theorem pathstr_any {w : World} {p b r s sel s2 : Nat} {name n : ByteArray} (hp : w.heap[p]? = some (.cells #[.iface 45 (.pointer (some ⟨r, 0, none⟩))] 55 (0, 0))) (h : Ch w b r s sel s2 name) (hn : Norm name n) (hz : n.size ≤ 900) :
    Calls Tryz.prog 9 #[.pointer (some ⟨p, 0, none⟩)] w fun e w' => e = .returned (.string (⟨#[36]⟩ ++ (⟨#[46]⟩ ++ n))) ∧ Below w.heap.size w w' := by
  have c0 := blk_cell hp 0
  simp at c0
  have HS := Aside0.mk (rootstr_any h hn hz)
  have hm := m_root r
  clear h hn hp hz
  go_enter Tryz.func9, Tryz.ntmps9
  go_wp2_with fail
  refine HS.out.mono ?_
  rintro e w1 ⟨rfl, hb⟩
  have HB := Aside0.mk hb
  clear hb
  go_wp2_with fail
  go_ret
  exact ⟨rfl, HB.out⟩

set_option maxRecDepth 100000 in
set_option maxHeartbeats 1000000 in
theorem Child_any {b r s : Nat} {w : World} {key n : ByteArray} (h : Bd w b r s (.iface 45 (.pointer (some ⟨r, 0, none⟩))) .nilIface) (hn : Norm key n) : Calls Tryz.prog 14 #[.pointer (some ⟨b, 0, none⟩), .string key] w (Childed b r s n w) := by
  have HN := Aside0.mk hn
  have HH := Aside0.mk h
  clear h hn
  go_enter Tryz.func14, Tryz.ntmps14
  go_wp2_with fail
  refine (HN.out _ _).mono ?_
  rintro e w1 ⟨rfl, hb⟩
  have HC := Aside0.mk (child_any n (HH.out.below hb))
  have HB := Aside0.mk hb
  clear hb
  go_wp2_with fail
  refine HC.out.mono ?_
  rintro e w2 ⟨rfl, hch, hbel⟩
  have HF : Aside0 (Childed b r s n w (.returned (.pointer (some ⟨b, 0, none⟩))) w2) := ⟨rfl, hch, fun B h1 h2 h3 => (HB.out.mono h3).trans (hbel B h1 h2 (Nat.le_trans h3 HB.out.size))⟩
  clear hch hbel
  go_wp2_with fail
  go_ret
  exact HF.out

end Go.Proofs.YtjdfcokeejmmeaaGreatDoor.PqW
