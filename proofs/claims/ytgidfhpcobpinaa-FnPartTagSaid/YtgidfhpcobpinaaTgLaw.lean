/- The walk of FnPartTag. -/
import Derived.Test.YtgidfhpcobpinaaTgWalk6
namespace Go.Proofs.Ytgidfhpcobpinaa.TgW
open Go.RowKit Go.Proofs.Ytgidfhpcobpinaa.PFnPartTag Go.Proofs.YtgidfhpcobpinaaW.PrintWords Go.Proofs.YtgidfhpcobpinaaW.PrintLast Go.Proofs.YtgidfhpcobpinaaW.PrintMore
open Go.Proofs.Ytgidfhpcobpinaa.AddM Go.Proofs.Ytgidfhpcobpinaa.Rn Go.Proofs.Ytgidfhpcobpinaa.TgP
attribute [local go_sem ↓] Go.wp_at_zero Go.wp_at_succ
set_option linter.unusedSimpArgs false
set_option linter.unusedVariables false

theorem tag_bytes {s : ByteArray} (h : ∀ (j : Nat) (h : j < s.size), letterB ((s[j]'h).toNat : Int) = true) : ∀ b ∈ s.data.toList, TagByte b := by
  intro b hb
  obtain ⟨j, hj, rfl⟩ := List.mem_iff_getElem.1 hb
  have hj' : j < s.size := by rw [Array.length_toList] at hj; exact hj
  have := h j hj'
  unfold letterB at this
  rw [decide_eq_true_iff] at this
  show TagByte (s[j]'hj')
  unfold TagByte
  omega
theorem tag_one {s : ByteArray} (h : ∀ (j : Nat) (h : j < s.size), letterB ((s[j]'h).toNat : Int) = true) : ∀ b ∈ ((⟨#[33]⟩ : ByteArray) ++ s).data.toList, TagByte b := by
  intro b hb
  rw [ByteArray.data_append, Array.toList_append] at hb
  rcases List.mem_append.1 hb with hb | hb
  · have : b = 33 := by simpa using hb
    subst this
    exact .inl rfl
  · exact tag_bytes h b hb
theorem tag_two {s : ByteArray} (h : ∀ (j : Nat) (h : j < s.size), letterB ((s[j]'h).toNat : Int) = true) : ∀ b ∈ ((⟨#[33]⟩ : ByteArray) ++ ((⟨#[33]⟩ : ByteArray) ++ s)).data.toList, TagByte b := by
  intro b hb
  rw [ByteArray.data_append, Array.toList_append] at hb
  rcases List.mem_append.1 hb with hb | hb
  · have : b = 33 := by simpa using hb
    subst this
    exact .inl rfl
  · exact tag_one h b hb

theorem size_one (s : ByteArray) : ((⟨#[33]⟩ : ByteArray) ++ s).size = 1 + s.size := by rw [ByteArray.size_append]; rfl
theorem size_two (s : ByteArray) : ((⟨#[33]⟩ : ByteArray) ++ ((⟨#[33]⟩ : ByteArray) ++ s)).size = 2 + s.size := by rw [ByteArray.size_append, size_one]; show 1 + _ = _; omega

/-- What ScanTag tells of a tag and its end. -/
theorem scan_of (v rest : ByteArray) (c : UInt8) (flow : Bool) (w : World) (hv : ∀ b ∈ v.data.toList, TagByte b) (h1 : 1 ≤ v.size) (h2 : v.size ≤ 1002) (h3 : rest.size ≤ 1000) (hc : c = 32 ∨ c = 10 ∨ (c = 44 ∧ flow = true)) :
    Calls Try.prog 5 #[.string (v ++ ⟨#[c]⟩ ++ rest), .bool flow] w fun e w' => ∃ A cp sp, e = .returned (.tuple #[.slice A 1 cp, .int .i64 sp, .bool true]) ∧ FirstTag w' A v ∧ Below w.heap.size w w' := by
  have hb := TgP.begun (v ++ ⟨#[c]⟩ ++ rest) v rest c (by simp [ByteArray.data_append]) hv (by rcases hc with rfl | rfl | ⟨rfl, _⟩ <;> decide)
  have hz : (v ++ (⟨#[c]⟩ : ByteArray) ++ rest).size = v.size + 1 + rest.size := by rw [ByteArray.size_append, ByteArray.size_append]; rfl
  exact scanTagI_any _ _ v.size c.toNat flow v w ⟨rfl, by omega, h1, hb.lt, hb.stop, by rcases hc with rfl | rfl | ⟨rfl, rfl⟩; exact .inl rfl; exact .inr (.inl rfl); exact .inr (.inr ⟨rfl, rfl⟩), hb.plain, by rw [hb.back]; exact hb.again⟩ hb.back

set_option maxRecDepth 100000 in
set_option maxHeartbeats 4000000 in
theorem law_in (two flow : Bool) (name rest : ByteArray) (en : Int) (w : World) (h1 : name.size ≤ 1000) (h2 : rest.size ≤ 1000) :
    Calls Try.prog 3 #[.bool two, .string name, .int .i64 en, .string rest, .bool flow] w fun e w' => e = .returned (.bool true) ∧ Below w.heap.size w w' := by
  have HA := Aside0.mk (alnum_any name w (by omega))
  go_enter Try.func3, Try.ntmps3
  go_wp2_with fail
  refine HA.out.mono ?_
  rintro e wa ⟨⟨b, rfl, hb⟩, hbel⟩
  have HB := Aside0.mk hbel
  clear hbel HA
  cases b
  · go_wp2_with fail
    go_ret
    exact ⟨rfl, HB.out⟩
  · have HT := Aside0.mk (hb rfl)
    clear hb
    cases two
    · by_cases e1 : en = 1
      · subst e1
        have HV := Aside0.mk (scan_of (⟨#[33]⟩ ++ name) rest 32 flow wa (tag_one HT.out) (by rw [size_one name]; omega) (by rw [size_one name]; omega) h2 (by simp))
        go_wp2_with fail
        refine HV.out.mono ?_
        rintro e wb ⟨A, cp, sp, rfl, ⟨g, rfl, k0, k3⟩, hb2⟩
        have HB2 := Aside0.mk (below_then HB.out HB.out.size hb2)
        clear hb2 HV HB HT
        generalize (⟨#[33]⟩ ++ name : ByteArray) = v at *
        go_wp2
        go_ret
        exact ⟨rfl, HB2.out⟩
      · have b1 : (en == 1) = false := beq_eq_false_iff_ne.2 e1
        by_cases e2 : en = 2
        · subst e2
          have HV := Aside0.mk (scan_of (⟨#[33]⟩ ++ name) rest 10 flow wa (tag_one HT.out) (by rw [size_one name]; omega) (by rw [size_one name]; omega) h2 (by simp))
          go_wp2_with fail
          refine HV.out.mono ?_
          rintro e wb ⟨A, cp, sp, rfl, ⟨g, rfl, k0, k3⟩, hb2⟩
          have HB2 := Aside0.mk (below_then HB.out HB.out.size hb2)
          clear hb2 HV HB HT
          generalize (⟨#[33]⟩ ++ name : ByteArray) = v at *
          go_wp2
          go_ret
          exact ⟨rfl, HB2.out⟩
        · have b2 : (en == 2) = false := beq_eq_false_iff_ne.2 e2
          by_cases e3 : en = 3
          · subst e3
            cases flow
            · go_wp2_with fail
              go_ret
              exact ⟨rfl, HB.out⟩
            · have HV := Aside0.mk (scan_of (⟨#[33]⟩ ++ name) rest 44 true wa (tag_one HT.out) (by rw [size_one name]; omega) (by rw [size_one name]; omega) h2 (by simp))
              go_wp2_with fail
              refine HV.out.mono ?_
              rintro e wb ⟨A, cp, sp, rfl, ⟨g, rfl, k0, k3⟩, hb2⟩
              have HB2 := Aside0.mk (below_then HB.out HB.out.size hb2)
              clear hb2 HV HB HT
              generalize (⟨#[33]⟩ ++ name : ByteArray) = v at *
              go_wp2
              go_ret
              exact ⟨rfl, HB2.out⟩
          · have b3 : (en == 3) = false := beq_eq_false_iff_ne.2 e3
            go_wp2_with fail
            go_ret
            exact ⟨rfl, HB.out⟩
    · by_cases e1 : en = 1
      · subst e1
        have HV := Aside0.mk (scan_of (⟨#[33]⟩ ++ (⟨#[33]⟩ ++ name)) rest 32 flow wa (tag_two HT.out) (by rw [size_two name]; omega) (by rw [size_two name]; omega) h2 (by simp))
        go_wp2_with fail
        refine HV.out.mono ?_
        rintro e wb ⟨A, cp, sp, rfl, ⟨g, rfl, k0, k3⟩, hb2⟩
        have HB2 := Aside0.mk (below_then HB.out HB.out.size hb2)
        clear hb2 HV HB HT
        generalize (⟨#[33]⟩ ++ (⟨#[33]⟩ ++ name) : ByteArray) = v at *
        go_wp2
        go_ret
        exact ⟨rfl, HB2.out⟩
      · have b1 : (en == 1) = false := beq_eq_false_iff_ne.2 e1
        by_cases e2 : en = 2
        · subst e2
          have HV := Aside0.mk (scan_of (⟨#[33]⟩ ++ (⟨#[33]⟩ ++ name)) rest 10 flow wa (tag_two HT.out) (by rw [size_two name]; omega) (by rw [size_two name]; omega) h2 (by simp))
          go_wp2_with fail
          refine HV.out.mono ?_
          rintro e wb ⟨A, cp, sp, rfl, ⟨g, rfl, k0, k3⟩, hb2⟩
          have HB2 := Aside0.mk (below_then HB.out HB.out.size hb2)
          clear hb2 HV HB HT
          generalize (⟨#[33]⟩ ++ (⟨#[33]⟩ ++ name) : ByteArray) = v at *
          go_wp2
          go_ret
          exact ⟨rfl, HB2.out⟩
        · have b2 : (en == 2) = false := beq_eq_false_iff_ne.2 e2
          by_cases e3 : en = 3
          · subst e3
            cases flow
            · go_wp2_with fail
              go_ret
              exact ⟨rfl, HB.out⟩
            · have HV := Aside0.mk (scan_of (⟨#[33]⟩ ++ (⟨#[33]⟩ ++ name)) rest 44 true wa (tag_two HT.out) (by rw [size_two name]; omega) (by rw [size_two name]; omega) h2 (by simp))
              go_wp2_with fail
              refine HV.out.mono ?_
              rintro e wb ⟨A, cp, sp, rfl, ⟨g, rfl, k0, k3⟩, hb2⟩
              have HB2 := Aside0.mk (below_then HB.out HB.out.size hb2)
              clear hb2 HV HB HT
              generalize (⟨#[33]⟩ ++ (⟨#[33]⟩ ++ name) : ByteArray) = v at *
              go_wp2
              go_ret
              exact ⟨rfl, HB2.out⟩
          · have b3 : (en == 3) = false := beq_eq_false_iff_ne.2 e3
            go_wp2_with fail
            go_ret
            exact ⟨rfl, HB.out⟩

set_option maxRecDepth 100000 in
set_option maxHeartbeats 400000 in
theorem law_large (two flow : Bool) (name rest : ByteArray) (en : Int) (w : World) (h1 : name.size ≤ 140737488351232) (h2 : rest.size ≤ 140737488351232) (h : 1000 < name.size ∨ 1000 < rest.size) :
    Calls Try.prog 3 #[.bool two, .string name, .int .i64 en, .string rest, .bool flow] w fun e w' => e = .returned (.bool true) ∧ Below w.heap.size w w' := by
  by_cases g1 : 2147483647 < name.size
  · go_enter Try.func3, Try.ntmps3
    go_wp2_with fail
    go_ret
    exact ⟨rfl, Below.refl _ _⟩
  · by_cases g2 : 2147483647 < rest.size
    · go_enter Try.func3, Try.ntmps3
      go_wp2_with fail
      go_ret
      exact ⟨rfl, Below.refl _ _⟩
    · by_cases g3 : 1000 < name.size
      · go_enter Try.func3, Try.ntmps3
        go_wp2_with fail
        go_ret
        exact ⟨rfl, Below.refl _ _⟩
      · have g4 : 1000 < rest.size := by omega
        go_enter Try.func3, Try.ntmps3
        go_wp2_with fail
        go_ret
        exact ⟨rfl, Below.refl _ _⟩

/-- The law, for all its arguments. -/
theorem law_any (two : Bool) (name : ByteArray) (en : Int) (rest : ByteArray) (flow : Bool) (w : World) (h1 : name.size ≤ 140737488351232) (he : (Lit.int .i64 en).wf = true) (h2 : rest.size ≤ 140737488351232) :
    Calls Try.prog 3 #[.bool two, .string name, .int .i64 en, .string rest, .bool flow] w fun e w' => e = .returned (.bool true) ∧ Below w.heap.size w w' := by
  clear he
  by_cases h : name.size ≤ 1000 ∧ rest.size ≤ 1000
  · exact law_in two flow name rest en w h.1 h.2
  · exact law_large two flow name rest en w h1 h2 (by omega)

end Go.Proofs.Ytgidfhpcobpinaa.TgW
