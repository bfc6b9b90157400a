/- Walks of FnGroupTokens: all passes, one behind the other. -/
import Derived.Test.YtgidfhpcobpinaaDoorGtNew
namespace Go.Proofs.YtgidfhpcobpinaaDoor.GtW
open Go.RowKit Go.Proofs.YtgidfhpcobpinaaDoor.PFnGroupTokens Go.Proofs.YtgidfhpcobpinaaDoorW.PrintWords Go.Proofs.YtgidfhpcobpinaaDoorW.PrintLast Go.Proofs.YtgidfhpcobpinaaDoorW.PrintMore
open Go.Proofs.YtgidfhpcobpinaaDoor.AddM Go.Proofs.YtgidfhpcobpinaaDoor.GtM
attribute [local go_sem ↓] Go.wp_at_zero Go.wp_at_succ
set_option linter.unusedSimpArgs false
set_option linter.unusedVariables false

theorem Done.mono {B0 : Nat} {w0 w' : World} {tb Y : List Nat} {n n' : Nat} {v : Value} (h : Done B0 w0 tb Y n v w') (hn : n ≤ n') : Done B0 w0 tb Y n' v w' := by
  obtain ⟨bs, r, c, out, F, rfl, hL, hl⟩ := h
  exact ⟨bs, r, c, out, F, rfl, hL, by omega⟩
theorem PassPost.mono {B0 : Nat} {w0 w' : World} {tb Y : List Nat} {n n' : Nat} {e : Ending} (h : PassPost B0 w0 tb Y n e w') (hn : n ≤ n') : PassPost B0 w0 tb Y n' e w' := by
  cases h with
  | ok v he h => exact .ok v he (h.mono hn)
  | bad x he h hb h0 => exact .bad x he h hb (by omega)

set_option maxRecDepth 100000 in
set_option maxHeartbeats 2000000 in
theorem pass34 {B0 : Nat} {w0 w : World} {tb Y bs : List Nat} {r c : Nat} {out : List Tr} {F : List Nat} (h : Lst B0 w0 w tb Y bs r c out F) (hn : bs.length ≤ 1000) :
    Calls Tryd.prog 34 #[.slice (some ⟨r, 0, none⟩) bs.length c] w (PassPost B0 w0 tb Y bs.length) := by
  have HP := Aside0.mk (pass57 h hn)
  clear h
  go_enter Tryd.func34, Tryd.ntmps34
  go_wp2_with fail
  refine HP.out.mono ?_
  rintro e w1 ⟨v, rfl, bs1, r1, c1, out1, F1, rfl, hL, hl⟩
  have HQ := Aside0.mk (pass58 hL (by omega))
  clear hL HP
  go_wp2_with fail
  refine HQ.out.mono ?_
  intro e w2 hP
  cases hP with
  | ok v he h =>
    subst he
    have HD := Aside0.mk (h.mono hl)
    clear h
    go_wp2
    go_ret2
    exact .ok _ rfl HD.out
  | bad x he h hb h0 =>
    subst he
    have HE := Aside0.mk h
    have HB := Aside0.mk hb
    clear h hb
    go_wp2
    go_ret2
    exact .bad _ rfl HE.out HB.out (by omega)

/-- What grouping comes to. -/
inductive Grouped (B0 : Nat) (w0 : World) (tb Y : List Nat) (n : Nat) (e : Ending) (w' : World) : Prop
  | ok (v : Value) (he : e = .returned (.tuple #[v, .nilIface])) (h : Whole B0 w0 tb Y v w') : Grouped B0 w0 tb Y n e w'
  | bad (x : Value) (he : e = .returned (.tuple #[.slice none 0 0, x])) (h : ErrAt w' x) (hb : Below B0 w0 w') (hn : 0 < n) : Grouped B0 w0 tb Y n e w'

set_option maxRecDepth 100000 in
set_option maxHeartbeats 4000000 in
theorem all_any {B0 : Nat} {w0 w : World} {tb : List Nat} {g c : Nat} (h : Tbs B0 w0 w tb g) (hn : tb.length ≤ 1000) :
    Calls Tryd.prog 18 #[.slice (some ⟨g, 0, none⟩) tb.length c] w (Grouped B0 w0 tb (List.range tb.length) tb.length) := by
  have HP := Aside0.mk (newTokens_any (c := c) h hn)
  clear h
  go_enter Tryd.func18, Tryd.ntmps18
  go_wp2_with fail
  refine HP.out.mono ?_
  rintro e w1 ⟨v, rfl, bs1, r1, c1, out1, F1, rfl, hL1, hl1⟩
  have HP1 := Aside0.mk (pass29 (c := c1) hL1 (by omega))
  clear hL1 HP
  go_wp2_with fail
  refine HP1.out.mono ?_
  rintro e w2 ⟨v, rfl, bs2, r2, c2, out2, F2, rfl, hL2, hl2⟩
  replace hl2 := Nat.le_trans hl2 hl1
  have HP2 := Aside0.mk (pass30 (c := c2) hL2 (by omega))
  clear hL2 HP1
  go_wp2_with fail
  refine HP2.out.mono ?_
  rintro e w3 ⟨v, rfl, bs3, r3, c3, out3, F3, rfl, hL3, hl3⟩
  replace hl3 := Nat.le_trans hl3 hl2
  have HP3 := Aside0.mk (pass31 (c := c3) hL3 (by omega))
  clear hL3 HP2
  go_wp2_with fail
  refine HP3.out.mono ?_
  intro e w4 hP
  cases hP with
  | bad x he h hb h0 =>
    subst he
    obtain ⟨s, m, a, rfl, hs, hz⟩ := h
    have HE : Aside0 (ErrAt w4 (.iface 88 (.pointer (some ⟨s, 0, none⟩)))) := ⟨⟨s, m, a, rfl, hs, hz⟩⟩
    have HB := Aside0.mk hb
    clear hs hz hb
    go_wp2_with fail
    go_ret2
    exact .bad _ rfl HE.out HB.out (by omega)
  | ok v he h =>
    subst he
    obtain ⟨bs4, r4, c4, out4, F4, rfl, hL4, hl4⟩ := h
    replace hl4 := Nat.le_trans hl4 hl3
    have HP4 := Aside0.mk (pass32 (c := c4) hL4 (by omega))
    clear hL4 HP3
    go_wp2_with fail
    refine HP4.out.mono ?_
    intro e w5 hP
    cases hP with
    | bad x he h hb h0 =>
      subst he
      obtain ⟨s, m, a, rfl, hs, hz⟩ := h
      have HE : Aside0 (ErrAt w5 (.iface 88 (.pointer (some ⟨s, 0, none⟩)))) := ⟨⟨s, m, a, rfl, hs, hz⟩⟩
      have HB := Aside0.mk hb
      clear hs hz hb
      go_wp2_with fail
      go_ret2
      exact .bad _ rfl HE.out HB.out (by omega)
    | ok v he h =>
      subst he
      obtain ⟨bs5, r5, c5, out5, F5, rfl, hL5, hl5⟩ := h
      replace hl5 := Nat.le_trans hl5 hl4
      have HP5 := Aside0.mk (pass33 (c := c5) hL5 (by omega))
      clear hL5 HP4
      go_wp2_with fail
      refine HP5.out.mono ?_
      intro e w6 hP
      cases hP with
      | bad x he h hb h0 =>
        subst he
        obtain ⟨s, m, a, rfl, hs, hz⟩ := h
        have HE : Aside0 (ErrAt w6 (.iface 88 (.pointer (some ⟨s, 0, none⟩)))) := ⟨⟨s, m, a, rfl, hs, hz⟩⟩
        have HB := Aside0.mk hb
        clear hs hz hb
        go_wp2_with fail
        go_ret2
        exact .bad _ rfl HE.out HB.out (by omega)
      | ok v he h =>
        subst he
        obtain ⟨bs6, r6, c6, out6, F6, rfl, hL6, hl6⟩ := h
        replace hl6 := Nat.le_trans hl6 hl5
        have HP6 := Aside0.mk (pass34 (c := c6) hL6 (by omega))
        clear hL6 HP5
        go_wp2_with fail
        refine HP6.out.mono ?_
        intro e w7 hP
        cases hP with
        | bad x he h hb h0 =>
          subst he
          obtain ⟨s, m, a, rfl, hs, hz⟩ := h
          have HE : Aside0 (ErrAt w7 (.iface 88 (.pointer (some ⟨s, 0, none⟩)))) := ⟨⟨s, m, a, rfl, hs, hz⟩⟩
          have HB := Aside0.mk hb
          clear hs hz hb
          go_wp2_with fail
          go_ret2
          exact .bad _ rfl HE.out HB.out (by omega)
        | ok v he h =>
          subst he
          obtain ⟨bs7, r7, c7, out7, F7, rfl, hL7, hl7⟩ := h
          replace hl7 := Nat.le_trans hl7 hl6
          have HP7 := Aside0.mk (pass35 (c := c7) hL7 (by omega))
          clear hL7 HP6
          go_wp2_with fail
          refine HP7.out.mono ?_
          rintro e w8 ⟨v, rfl, bs8, r8, c8, out8, F8, rfl, hL8, hl8⟩
          replace hl8 := Nat.le_trans hl8 hl7
          have HP8 := Aside0.mk (pass36 (c := c8) hL8 (by omega))
          clear hL8 HP7
          go_wp2_with fail
          refine HP8.out.mono ?_
          rintro e w9 ⟨v, rfl, bs9, r9, c9, out9, F9, rfl, hL9, hl9⟩
          replace hl9 := Nat.le_trans hl9 hl8
          have HP9 := Aside0.mk (document_any (c := c9) hL9 (by omega))
          clear hL9 HP8
          go_wp2_with fail
          refine HP9.out.mono ?_
          rintro e w10 ⟨v, rfl, hW⟩
          have HW := Aside0.mk hW
          clear hW HP9
          go_wp2_with fail
          go_ret2
          exact .ok _ rfl HW.out

end Go.Proofs.YtgidfhpcobpinaaDoor.GtW
