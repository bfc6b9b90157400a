/- Walks of FnPathQuoted: a name, put between quotes or left. -/
import Derived.Test.YtjdfcokeejmmeaaGreatDoorPqMem
import Derived.Test.YtjdfcokeejmmeaaGreatDoorPFnPathQuotedx2
namespace Go.Proofs.YtjdfcokeejmmeaaGreatDoor.PqW
open Go.RowKit Go.Proofs.YtjdfcokeejmmeaaGreatDoor.PFnPathQuoted Go.Proofs.YtjdfcokeejmmeaaGreatDoorW.PrintWords Go.Proofs.YtjdfcokeejmmeaaGreatDoorW.PrintLast Go.Proofs.YtjdfcokeejmmeaaGreatDoorW.PrintMore
attribute [local go_sem ↓] Go.wp_at_zero Go.wp_at_succ
set_option linter.unusedSimpArgs false
set_option linter.unusedVariables false

theorem drawn_below {w : World} (n : Nat) : Below w.heap.size w (w.drewN n) := pw_below_drewN (Below.refl _ _) n

set_option maxRecDepth 100000 in
set_option maxHeartbeats 1000000 in
theorem enclosed_no (v : Value) (s : ByteArray) (w : World) (h : strings_HasPrefix.f s ⟨#[39]⟩ = some false) : Calls Tryz.prog 32 #[v, .string s] w fun e w' => e = .returned (.bool false) ∧ Below w.heap.size w w' := by
  have H := Aside0.mk (strings_HasPrefix.calls s ⟨#[39]⟩ false w h)
  clear h
  go_enter Tryz.func32, Tryz.ntmps32
  go_wp2_with fail
  refine H.out.mono ?_
  rintro e w' ⟨rfl, ⟨nd, rfl⟩⟩
  go_wp2_with fail
  go_ret
  exact ⟨rfl, drawn_below nd⟩

set_option maxRecDepth 100000 in
set_option maxHeartbeats 1000000 in
theorem enclosed_yes (v : Value) (s : ByteArray) (w : World) (h : strings_HasPrefix.f s ⟨#[39]⟩ = some true) (h' : strings_HasSuffix.f s ⟨#[39]⟩ = some true) : Calls Tryz.prog 32 #[v, .string s] w fun e w' => e = .returned (.bool true) ∧ Below w.heap.size w w' := by
  have H := Aside0.mk (strings_HasPrefix.calls s ⟨#[39]⟩ true w h)
  have H2 := fun wx => Aside0.mk (strings_HasSuffix.calls s ⟨#[39]⟩ true wx h')
  clear h h'
  go_enter Tryz.func32, Tryz.ntmps32
  go_wp2_with fail
  refine H.out.mono ?_
  rintro e w' ⟨rfl, ⟨nd, rfl⟩⟩
  go_wp2_with fail
  refine (H2 _).out.mono ?_
  rintro e w' ⟨rfl, ⟨nd2, rfl⟩⟩
  go_wp2_with fail
  go_ret
  exact ⟨rfl, drawn_below (nd + nd2)⟩

set_option maxRecDepth 100000 in
set_option maxHeartbeats 1000000 in
theorem reserved_yes (v : Value) (s : ByteArray) (w : World) (k1 k2 : Nat) (b1 : Bool) (h1 : goccyyaml_zzContains.f k1 s ⟨#[46]⟩ = some b1) (h2 : b1 = false → goccyyaml_zzContains.f k2 s ⟨#[42]⟩ = some true) : Calls Tryz.prog 33 #[v, .string s] w fun e w' => e = .returned (.bool true) ∧ Below w.heap.size w w' := by
  have H := Aside0.mk (goccyyaml_zzContains.calls k1 s ⟨#[46]⟩ b1 w h1)
  have H2 := fun (hb : b1 = false) wx => Aside0.mk (goccyyaml_zzContains.calls k2 s ⟨#[42]⟩ true wx (h2 hb))
  clear h1 h2
  cases b1 with
  | true =>
    clear H2
    go_enter Tryz.func33, Tryz.ntmps33
    go_wp2_with fail
    refine H.out.mono ?_
    rintro e w' ⟨rfl, ⟨nd, rfl⟩⟩
    go_wp2_with fail
    go_ret
    exact ⟨rfl, drawn_below nd⟩
  | false =>
    have H3 := H2 rfl
    clear H2
    go_enter Tryz.func33, Tryz.ntmps33
    go_wp2_with fail
    refine H.out.mono ?_
    rintro e w' ⟨rfl, ⟨nd, rfl⟩⟩
    go_wp2_with fail
    refine (H3 _).out.mono ?_
    rintro e w' ⟨rfl, ⟨nd2, rfl⟩⟩
    go_wp2_with fail
    go_ret
    exact ⟨rfl, drawn_below (nd + nd2)⟩

set_option maxRecDepth 100000 in
set_option maxHeartbeats 1000000 in
theorem norm_quoted (s : ByteArray) (h : strings_HasPrefix.f s ⟨#[39]⟩ = some true) (h' : strings_HasSuffix.f s ⟨#[39]⟩ = some true) : Norm s s := by
  intro v w
  have H := Aside0.mk (enclosed_yes v s w h h')
  clear h h'
  go_enter Tryz.func24, Tryz.ntmps24
  go_wp2_with fail
  refine H.out.mono ?_
  rintro e w' ⟨rfl, hb⟩
  have HB := Aside0.mk hb
  clear hb
  go_wp2_with fail
  go_ret
  exact ⟨rfl, HB.out⟩

set_option maxRecDepth 100000 in
set_option maxHeartbeats 1000000 in
theorem norm_plain (s : ByteArray) (k1 k2 k3 : Nat) (b1 : Bool) (hz : s.size ≤ 900) (h : strings_HasPrefix.f s ⟨#[39]⟩ = some false) (h1 : goccyyaml_zzContains.f k1 s ⟨#[46]⟩ = some b1) (h2 : b1 = false → goccyyaml_zzContains.f k2 s ⟨#[42]⟩ = some true) (h3 : goccyyaml_zzReplaceAll.f k3 s ⟨#[39]⟩ ⟨#[92, 39]⟩ = some s) :
    Norm s (⟨#[39]⟩ ++ s ++ ⟨#[39]⟩) := by
  intro v w
  have H := Aside0.mk (enclosed_no v s w h)
  have H2 := fun wx => Aside0.mk (reserved_yes v s wx k1 k2 b1 h1 h2)
  have H3 := fun wx => Aside0.mk (goccyyaml_zzReplaceAll.calls k3 s ⟨#[39]⟩ ⟨#[92, 39]⟩ s wx h3)
  have e0 : ¬ 9223372036854775807 < 1 + s.size := by omega
  have e1 : ¬ 9223372036854775807 < 1 + s.size + 1 := by omega
  clear h h1 h2 h3
  go_enter Tryz.func24, Tryz.ntmps24
  go_wp2_with fail
  refine H.out.mono ?_
  rintro e w1 ⟨rfl, hb1⟩
  have HB1 := Aside0.mk hb1
  clear hb1
  go_wp2_with fail
  refine (H2 _).out.mono ?_
  rintro e w2 ⟨rfl, hb2⟩
  have HB2 := Aside0.mk (below_then HB1.out HB1.out.size hb2)
  clear hb2
  go_wp2_with fail
  refine (H3 _).out.mono ?_
  rintro e w3 ⟨rfl, hb3⟩
  have HB3 := Aside0.mk (below_then HB2.out HB2.out.size hb3)
  clear hb3
  go_wp2_with fail
  go_ret
  exact ⟨rfl, HB3.out⟩

end Go.Proofs.YtjdfcokeejmmeaaGreatDoor.PqW
