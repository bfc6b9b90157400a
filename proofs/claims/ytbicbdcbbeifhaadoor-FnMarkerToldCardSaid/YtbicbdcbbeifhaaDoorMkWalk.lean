/- Walks of FnMarkerTold. -/
import Derived.Test.YtbicbdcbbeifhaaDoorMkPure
import Derived.Test.YtbicbdcbbeifhaaDoorShelf
import Derived.WalkSpells
import Derived.WalkLawsBesides
namespace Go.Proofs.YtbicbdcbbeifhaaDoor.MkW
open Go.RowKit Go.Proofs.YtbicbdcbbeifhaaDoor.PFnMarkerTold Go.Proofs.YtbicbdcbbeifhaaDoorW.PrintWords Go.Proofs.YtbicbdcbbeifhaaDoorW.PrintLast Go.Proofs.YtbicbdcbbeifhaaDoorW.PrintMore
open Go.Proofs.YtbicbdcbbeifhaaDoor.MkP Go.Proofs.YtbicbdcbbeifhaaDoor.Rn
set_option linter.unusedSimpArgs false
set_option linter.unusedVariables false

theorem below_down {B C : Nat} {w w' : World} (h : Below C w w') (hBC : B ≤ C) : Below B w w' := ⟨h.os, h.tape, h.output, h.size, fun i hi => h.block i (Nat.lt_of_lt_of_le hi hBC)⟩
theorem below_drewN0 {B : Nat} {w w' : World} (h : Below B w w') : ∀ q, Below B w (w'.drewN q)
  | 0 => h
  | q + 1 => (below_drewN0 h q).drew

set_option maxRecDepth 100000 in
set_option maxHeartbeats 400000 in
theorem white_any (W : World) (x : Nat) : Calls Tryd.prog 16 (#[.int .i32 (x : Int)] ++ #[]) W fun e w' => e = .returned (.bool (white x)) ∧ ∃ q, w' = W.drewN q := by
  unfold white
  by_cases h1 : x = 32
  · subst h1
    go_enter Tryd.func16, Tryd.ntmps16
    go_wp2
    go_ret
    exact ⟨rfl, 0, rfl⟩
  · have b1 : ((x : Int) == 32) = false := beq_eq_false_iff_ne.2 (by omega)
    by_cases h2 : x = 9
    · subst h2
      go_enter Tryd.func16, Tryd.ntmps16
      go_wp2
      go_ret
      exact ⟨rfl, 0, rfl⟩
    · have b2 : ((x : Int) == 9) = false := beq_eq_false_iff_ne.2 (by omega)
      by_cases h3 : x = 10
      · subst h3
        go_enter Tryd.func16, Tryd.ntmps16
        go_wp2
        go_ret
        exact ⟨rfl, 0, rfl⟩
      · have b3 : ((x : Int) == 10) = false := beq_eq_false_iff_ne.2 (by omega)
        have e : (x == 32 || x == 9 || x == 10 || x == 13) = ((x : Int) == 13) := by
          rw [Bool.eq_iff_iff]; simp; omega
        rw [e]
        go_enter Tryd.func16, Tryd.ntmps16
        go_wp2
        go_ret
        exact ⟨rfl, 0, rfl⟩

theorem enters16 : ∀ args w, (callFunc 16 args).run Tryd.prog w = .ok (.enter 16 args) w := enters_of Tryd.func16 (by kernel_rfl) rfl

/-- The row of the runes. -/
def Row (w : World) (b : Nat) (zs : List Int) : Prop := ∀ j, j < zs.length → w.cell? ((⟨b, 0, none⟩ : Addr).add j) = some (.int .i32 (zs.getD j 0))

set_option maxRecDepth 100000 in
set_option maxHeartbeats 1000000 in
theorem found_any (p : Value) (b cap : Nat) (zs : List Int) (w : World) (hl : zs.length ≤ 65536) (hcap : zs.length ≤ cap) (hr : Row w b zs) (hT : Lib.Utf8Tabs 0 1 w) :
    Calls Tryd.prog 13 #[p, .slice (some ⟨b, 0, none⟩) zs.length cap] w fun e w' => e = .returned (.bool (found zs)) ∧ Below w.heap.size w w' := by
  by_cases h3 : zs.length < 3
  · have e : found zs = false := by unfold found; rw [if_pos h3]
    rw [e]
    clear hr
    go_enter Tryd.func13, Tryd.ntmps13
    go_wp2
    go_ret
    exact ⟨rfl, Below.refl _ _⟩
  · obtain ⟨m, hm⟩ : ∃ m, tb zs = m := ⟨_, rfl⟩
    have cmp : ∀ (a b : ByteArray) (l : List UInt8), b.toList = l → decide (a = b) = (a.toList == l) := by
      intro a b l hl
      rw [Bool.eq_iff_iff, ← hl]
      simp only [beq_iff_eq, decide_eq_true_eq, ByteArray.toList_eq]
      exact ⟨fun h => by rw [h], fun h => ByteArray.ext (Array.ext' h)⟩
    have e : found zs = (m.toList == [45, 45, 45] || m.toList == [46, 46, 46]) := by
      unfold found; rw [if_neg h3, hm, cmp m _ [45, 45, 45] (by rw [ByteArray.toList_eq]), cmp m _ [46, 46, 46] (by rw [ByteArray.toList_eq])]
    rw [e]
    clear cmp
    by_cases he : zs.length = 3
    · have hm' : runesBytes zs = m := by rw [← hm, tb, if_pos he]
      have hcv : (convert 23 9 (.slice (some ⟨b, 0, none⟩) zs.length cap)).run Tryd.prog w = .ok (.string m) w := by
        have := run_convert_runes w 23 9 21 ⟨b, 0, none⟩ zs.length cap zs (Nat.le_refl _) Tryd.underlying23 Tryd.underlying21 Tryd.underlying9 hr
        rwa [List.take_of_length_le (Nat.le_refl _), hm'] at this
      rw [he] at hcv ⊢
      clear hr hm hm' e
      go_enter Tryd.func13, Tryd.ntmps13
      go_wp2_with (simp only [hcv])
      all_goals go_ret
      all_goals first | exact ⟨rfl, Below.refl _ _⟩ | (rename_i h; exact ⟨by rw [h]; rfl, Below.refl _ _⟩)
    · have hm' : Lib.trimRightF white (runesBytes (zs.take 4)) = m := by rw [← hm, tb, if_neg he]
      have hcv : (convert 23 9 (.slice (some ⟨b, 0, none⟩) 4 cap)).run Tryd.prog w = .ok (.string (runesBytes (zs.take 4))) w :=
        run_convert_runes w 23 9 21 ⟨b, 0, none⟩ 4 cap zs (by omega) Tryd.underlying23 Tryd.underlying21 Tryd.underlying9 hr
      have hz : (runesBytes (zs.take 4)).size ≤ 9223372036854775807 := by
        rw [Lib.size_eq, encs_at]
        have key : ∀ l : List Int, (MkP.encs l).length ≤ 4 * l.length := by
          intro l
          induction l with
          | nil => simp [MkP.encs]
          | cons n t ih =>
            have e1 : MkP.encs (n :: t) = enc n ++ MkP.encs t := by simp [MkP.encs]
            have e2 : (enc n).length ≤ 4 := by
              unfold enc Utf8.encode
              simp only
              repeat' split
              all_goals simp
            rw [e1, List.length_append, List.length_cons]
            omega
        have := key (zs.take 4)
        have := List.length_take_le 4 zs
        omega
      have CT := Aside0.mk fun (W : World) (hb : Below w.heap.size w W) => Tryd.strings_TrimRightFunc 16 #[] enters16 white (runesBytes (zs.take 4)) W hz (Utf8Tabs_below hT hb) (fun W' x _ => white_any W' x)
      rw [hm'] at CT
      generalize runesBytes (zs.take 4) = X at *
      clear hr hm hm' e hT
      go_enter Tryd.func13, Tryd.ntmps13
      go_wp2_with (first | simp only [hcv] | (go_at_call 15; refine (CT.out _ (Below.refl _ _)).mono ?_; rintro e w' ⟨rfl, hb⟩))
      all_goals go_ret
      all_goals first | exact ⟨rfl, hb⟩ | (rename_i h; exact ⟨by rw [h]; rfl, hb⟩)

theorem runes_row (w : World) (l : List Int) (spare : Array Value) (T : TypeId) (hl : l.length ≤ 9223372036854775807) :
    Kd.C (Kd.int .i32) (w.alloc (.cells ((l.map (Value.int .i32)).toArray ++ spare) T)) (some ⟨w.heap.size, 0, none⟩) l.length l := by
  refine ⟨rfl, hl, fun _ => ⟨_, rfl, fun j p hj => ⟨[.int .i32 p], rfl, rfl, fun i u hi => ?_⟩⟩⟩
  match i, hi with
  | 0, hi =>
    simp only [List.getElem?_cons_zero, Option.some.injEq] at hi
    subst hi
    have hlt : j < l.length := (List.getElem?_eq_some_iff.1 hj).1
    have hp : l[j] = p := (List.getElem?_eq_some_iff.1 hj).2
    show (w.alloc _).cell? ((⟨w.heap.size, 0, none⟩ : Addr).add (j * 1 + 0)) = _
    rw [show j * 1 + 0 = j from by omega, add_plain, World.cell?_alloc_mark]
    rw [Array.getElem?_append_left (by simpa using hlt)]
    simp [hj]

theorem runes_row' (w : World) (l : List Int) (n : Nat) (T : TypeId) (hl : l.length ≤ 9223372036854775807) :
    Kd.C (Kd.int .i32) (w.alloc (.cells ((l.map (Value.int .i32)).toArray ++ Array.replicate n (.int .i32 0)) T)).drew (some ⟨w.heap.size, 0, none⟩) l.length l :=
  Kd.C_below (runes_row w l _ T hl) (below_drew (Below.refl _ _))

theorem row_new (w : World) (l : List Int) (n : Nat) (T : TypeId) : Row (w.alloc (.cells ((l.map (Value.int .i32)).toArray ++ Array.replicate n (.int .i32 0)) T)).drew w.heap.size l := by
  intro j hj
  show (w.alloc _).cell? ((⟨w.heap.size, 0, none⟩ : Addr).add j) = _
  rw [add_plain, World.cell?_alloc_mark, Array.getElem?_append_left (by simpa using hj)]
  simp [List.getD, hj]

theorem row_new2 (w : World) (O : Obj) (l : List Int) (n : Nat) (T : TypeId) : Row ((w.alloc O).alloc (.cells ((l.map (Value.int .i32)).toArray ++ Array.replicate n (.int .i32 0)) T)).drew (w.heap.size + 1) l := by
  have := row_new (w.alloc O) l n T
  rwa [show (w.alloc O).heap.size = w.heap.size + 1 from by simp] at this
theorem below_two (w : World) (O O2 : Obj) : Below w.heap.size w ((w.alloc O).alloc O2).drew :=
  ((below_alloc (Below.refl _ _) _ : Below w.heap.size w _).trans (below_down (below_alloc (Below.refl _ _) _) (by simp))).drew

set_option maxRecDepth 100000 in
set_option maxHeartbeats 400000 in
theorem zzMarker_any (s : ByteArray) (w : World) (hs : s.size ≤ 65536) (hT : Lib.Utf8Tabs 0 1 w) :
    Calls Tryd.prog 9 #[.string s] w fun e w' => e = .returned (.bool (found (runesAt s 0))) ∧ Below w.heap.size w w' := by
  obtain ⟨l, hl⟩ : ∃ l, runesAt s 0 = l := ⟨_, rfl⟩
  have hrn := runesFrom_all s
  rw [hl] at hrn ⊢
  have hlen : l.length ≤ 65536 := by have := runesAt_length s 0; rw [hl] at this; omega
  have hcv := fun (wx : World) => run_runes_of_string (P := Tryd.prog) wx 9 23 21 s Tryd.underlying9 Tryd.underlying23 Tryd.underlying21 (by rw [hrn]; simp; omega)
  rw [hrn] at hcv
  have HT := Aside0.mk hT
  clear hl hrn hT
  go_enter Tryd.func9, Tryd.ntmps9
  go_wp2_with fail
  have HB : ∀ O O2, Aside0 (Below w.heap.size w ((w.alloc O).alloc O2).drew) := fun O O2 => ⟨below_two w O O2⟩
  refine (found_any _ (w.heap.size + 1) _ l _ hlen (grownCap_ge _ _ _ _) (row_new2 w _ l _ _) (Utf8Tabs_below HT.out (HB _ _).out)).mono ?_
  rintro e w' ⟨rfl, hb⟩
  have HF := Aside0.mk (below_then (HB _ _).out (HB _ _).out.size hb)
  clear hb
  go_wp2
  go_ret
  exact ⟨rfl, HF.out⟩

set_option maxRecDepth 100000 in
set_option maxHeartbeats 400000 in
theorem marker_any (s : ByteArray) (w : World) (hs : s.size ≤ 65536) (hT : Lib.Utf8Tabs 0 1 w) :
    Calls Tryd.prog 5 #[.string s] w fun e w' => e = .returned (.bool (found (runesAt s 0))) ∧ Below w.heap.size w w' := by
  have HM := Aside0.mk (zzMarker_any s w hs hT)
  clear hT
  generalize found (runesAt s 0) = r at *
  go_enter Tryd.func5, Tryd.ntmps5
  go_wp2_with fail
  refine HM.out.mono ?_
  rintro e w' ⟨rfl, hb⟩
  go_wp2
  go_ret
  exact ⟨rfl, hb⟩

/-- What scRunes hands back. -/
def Runes (s : ByteArray) (w : World) (e : Ending) (w' : World) : Prop :=
  e = .returned (.tuple #[.slice none 0 0, .bool false]) ∨
  (s.size ≤ 65536 ∧ ∃ b cap, e = .returned (.tuple #[.slice (some ⟨b, 0, none⟩) (runesAt s 0).length cap, .bool true]) ∧ Kd.C (Kd.int .i32) w' (some ⟨b, 0, none⟩) (runesAt s 0).length (runesAt s 0) ∧ (runesAt s 0).length ≤ cap)

set_option maxRecDepth 100000 in
set_option maxHeartbeats 400000 in
theorem scRunes_any (s : ByteArray) (w : World) (hz : s.size ≤ 2147483647) (hT : Lib.Utf8Tabs 0 1 w) :
    Calls Tryd.prog 7 #[.string s] w fun e w' => Runes s w e w' ∧ Below w.heap.size w w' := by
  by_cases hs : s.size ≤ 65536
  · have h1 : decide ((s.size : Int) > 65536) = false := by simp; omega
    have HV := Aside0.mk (Tryd.utf8_ValidString s w (by omega) hT)
    have HS := Aside0.mk hs
    clear hT
    cases hv : Lib.validD s.data.toList
    · rw [hv] at HV
      go_enter Tryd.func7, Tryd.ntmps7
      go_wp2_with fail
      refine HV.out.mono ?_
      rintro e w' ⟨rfl, hb⟩
      go_wp2
      go_ret2
      exact ⟨.inl rfl, hb⟩
    · rw [hv] at HV
      obtain ⟨l, hl⟩ : ∃ l, runesAt s 0 = l := ⟨_, rfl⟩
      have hrn := runesFrom_all s
      unfold Runes
      rw [hl] at hrn ⊢
      have hlen : l.length ≤ 65536 := by have := runesAt_length s 0; rw [hl] at this; omega
      have hcv := fun (wx : World) => run_runes_of_string (P := Tryd.prog) wx 9 23 21 s Tryd.underlying9 Tryd.underlying23 Tryd.underlying21 (by rw [hrn]; simp; omega)
      rw [hrn] at hcv
      clear hl hrn
      go_enter Tryd.func7, Tryd.ntmps7
      go_wp2_with fail
      refine HV.out.mono ?_
      rintro e w' ⟨rfl, hb⟩
      go_wp2
      go_ret2
      exact ⟨.inr ⟨HS.out, _, _, rfl, runes_row' _ l _ _ (by omega), grownCap_ge _ _ _ _⟩, (hb.trans (below_down (below_alloc (Below.refl _ _) _) hb.size)).drew⟩
  · have h1 : decide ((s.size : Int) > 65536) = true := by simp; omega
    clear hT
    go_enter Tryd.func7, Tryd.ntmps7
    go_wp2_with fail
    go_ret2
    exact ⟨.inl rfl, Below.refl _ _⟩

end Go.Proofs.YtbicbdcbbeifhaaDoor.MkW
