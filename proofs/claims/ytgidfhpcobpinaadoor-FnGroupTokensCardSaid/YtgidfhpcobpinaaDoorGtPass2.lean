/- Walks of FnGroupTokens: anchors and aliases with their names. -/
import Derived.Test.YtgidfhpcobpinaaDoorGtPass1
namespace Go.Proofs.YtgidfhpcobpinaaDoor.GtW
open Go.RowKit Go.Proofs.YtgidfhpcobpinaaDoor.PFnGroupTokens Go.Proofs.YtgidfhpcobpinaaDoorW.PrintWords Go.Proofs.YtgidfhpcobpinaaDoorW.PrintLast Go.Proofs.YtgidfhpcobpinaaDoorW.PrintMore
open Go.Proofs.YtgidfhpcobpinaaDoor.AddM Go.Proofs.YtgidfhpcobpinaaDoor.GtM
attribute [local go_sem ↓] Go.wp_at_zero Go.wp_at_succ
set_option linter.unusedSimpArgs false
set_option linter.unusedVariables false

theorem Sx.mono {B0 : Nat} {w0 w wr : World} {tb Y rs rs' : List Nat} {v : Value} {m m' : Nat} (h : Sx B0 w0 w wr tb Y rs v m) (e : rs = rs') (hm : m ≤ m') : Sx B0 w0 w wr tb Y rs' v m' := by
  subst e
  obtain ⟨obs, out, rem, fo, fr, hS, hl⟩ := h
  exact ⟨obs, out, rem, fo, fr, hS, by omega⟩

/-- What a pass that may fail comes to. -/
inductive PassPost (B0 : Nat) (w0 : World) (tb Y : List Nat) (n : Nat) (e : Ending) (w' : World) : Prop
  | ok (v : Value) (he : e = .returned (.tuple #[v, .nilIface])) (h : Done B0 w0 tb Y n v w') : PassPost B0 w0 tb Y n e w'
  | bad (x : Value) (he : e = .returned (.tuple #[.slice none 0 0, x])) (h : ErrAt w' x) (hb : Below B0 w0 w') (hn : 0 < n) : PassPost B0 w0 tb Y n e w'

theorem err_new {w : World} {m : ByteArray} {a H : Nat} {z : Int} (h : TokAt w a z) (hH : w.heap.size = H) : ErrAt (w.alloc (.cells #[.string m, .pointer (some ⟨a, 0, none⟩)] 91)) (.iface 88 (.pointer (some ⟨H, 0, none⟩))) :=
  ⟨H, m, a, rfl, blk_top hH, z, h.frame fun j cs t _ hj => blk_alloc hj _⟩

theorem head_more {w w2 : World} {b a : Nat} (h : Head w b a) (hb : Below w.heap.size w w2) : Head w2 b a := by
  induction h with
  | leaf b a h => exact .leaf b a (blk_below h hb)
  | node b g r n c ty b' a h1 h2 h3 h4 ih => exact .node b g r n c ty b' a (blk_below h1 hb) (blk_below h2 hb) (pw_cell_below hb h3) ih
theorem tok_more {w w2 : World} {a : Nat} {z : Int} (h : TokAt w a z) (hb : Below w.heap.size w w2) : TokAt w2 a z := h.frame fun j cs t _ hj => blk_below hj hb

/-- What is told of a group, in any world that has it. -/
structure Tells (w : World) (b a : Nat) (z : Int) : Prop where
  typ : ∀ W, Below w.heap.size w W → Calls Tryd.prog 49 #[.pointer (some ⟨b, 0, none⟩)] W fun e w' => e = .returned (.int .i64 z) ∧ W = w'
  line : ∀ W, Below w.heap.size w W → Calls Tryd.prog 50 #[.pointer (some ⟨b, 0, none⟩)] W fun e w' => e = .returned (.int .i64 1) ∧ W = w'
  raw : ∀ W, Below w.heap.size w W → Calls Tryd.prog 51 #[.pointer (some ⟨b, 0, none⟩)] W fun e w' => e = .returned (.pointer (some ⟨a, 0, none⟩)) ∧ W = w'
  scal : ∀ W, Below w.heap.size w W → Calls Tryd.prog 53 #[.pointer (some ⟨b, 0, none⟩)] W (SomeBool W)
  grp : ∀ W, Below w.heap.size w W → Calls Tryd.prog 55 #[.pointer (some ⟨b, 0, none⟩)] W (SomeInt W)
  flow : ∀ W, Below w.heap.size w W → Calls Tryd.prog 56 #[.pointer (some ⟨b, 0, none⟩)] W (SomeBool W)
  nokey : ∀ W, Below w.heap.size w W → Calls Tryd.prog 67 #[.pointer (some ⟨b, 0, none⟩)] W (NoKey z W)
  tok : ∀ W, Below w.heap.size w W → TokAt W a z
theorem tells {w : World} {b a : Nat} {z : Int} (hH : Head w b a) (hT : TokAt w a z) : Tells w b a z :=
  ⟨fun W h => type_any (head_more hH h) (tok_more hT h), fun W h => line_any (head_more hH h) (tok_more hT h), fun W h => raw_any (head_more hH h), fun W h => scalar_any (head_more hH h) (tok_more hT h), fun W h => group_any (head_more hH h),
   fun W h => flow_any (head_more hH h) (tok_more hT h), fun W h => notkey_any (head_more hH h) (tok_more hT h), fun W h => tok_more hT h⟩

/-- Three blocks more: a row of two, a group, a node. -/
abbrev made3 (w : World) (H b1 b2 : Nat) (ty : Int) : World := ((w.alloc (.cells #[.pointer (some ⟨b1, 0, none⟩), .pointer (some ⟨b2, 0, none⟩)] 93)).alloc (.cells #[.int .i64 ty, .slice (some ⟨H, 0, none⟩) 2 2] 100)).alloc (.cells #[.pointer none, .pointer (some ⟨H + 1, 0, none⟩), .pointer none] 96)
theorem below3 (w : World) (H b1 b2 : Nat) (ty : Int) : Below w.heap.size w (made3 w H b1 b2 ty) := below_alloc (below_alloc (below_alloc (Below.refl _ _) _) _) _
theorem size3 {w : World} {H : Nat} (h : w.heap.size = H) (b1 b2 : Nat) (ty : Int) : (made3 w H b1 b2 ty).heap.size = H + 1 + 1 + 1 := by simp [made3, h]
theorem St.make3 {B0 : Nat} {w0 w wr : World} {tb Y rs : List Nat} {v : Value} {obs : List Nat} {out rem : List Tr} {fo fr : List Nat} {b1 b2 H : Nat} (ty : Int) (h : St B0 w0 w wr tb Y (b1 :: b2 :: rs) v obs out rem fo fr) (hH : wr.heap.size = H) :
    ∃ rem' fr', St B0 w0 w (made3 wr H b1 b2 ty) tb Y ((H + 1 + 1) :: rs) v obs out rem' fo fr' :=
  St.make (ty := ty) (c := 2) (r := H) (g := H + 1) (nb := H + 1 + 1) h (below3 ..) (blk_alloc (blk_alloc (blk_top hH) _) _) (blk_alloc (blk_top (by simp [hH])) _) (blk_top (by simp [hH])) (by omega) (by omega) (by omega)

set_option maxRecDepth 100000 in
set_option maxHeartbeats 4000000 in
theorem pass31 {B0 : Nat} {w0 w : World} {tb Y bs : List Nat} {r c : Nat} {out : List Tr} {F : List Nat} (h : Lst B0 w0 w tb Y bs r c out F) (hn : bs.length ≤ 1000) :
    Calls Tryd.prog 31 #[.slice (some ⟨r, 0, none⟩) bs.length c] w (PassPost B0 w0 tb Y bs.length) := by
  have HL := Aside0.mk h
  clear h
  have hmk := make_ptrs bs.length hn
  obtain ⟨i0, hi0, hz0, hz1, hz2⟩ := info_parts info93
  have HS0 := Aside0.mk (HL.out.start (below_alloc (Below.refl _ _) _) (by unfold maxLen; omega) (heap_alloc_new w (.cells (Array.replicate bs.length (.pointer none)) 93)))
  go_enter Tryd.func31, Tryd.ntmps31
  go_wp2
  clear hmk
  go_loopw [4, 5, 6, 7, 8] (fun v i _ _ _ wr => ∃ k : Nat, k ≤ bs.length ∧ i = .int .i64 k ∧ Aside0 (Sx B0 w0 w wr tb Y (bs.drop k) v k)) (fun _ i _ _ _ _ => bs.length - (intOf i).toNat)
  case atStart => exact ⟨0, by omega, rfl, HS0⟩
  case round =>
    obtain ⟨k, hk, rfl, ⟨obs, out, rem, fo, fr, hS, hm⟩⟩ := hrel
    clear HS0
    by_cases hlt : k < bs.length
    · obtain ⟨b, hb, hd⟩ := drop_cons hlt
      rw [hd] at hS
      obtain ⟨a, z, hH, hT⟩ := St.head hS HL.out.tok (j := 0) (b := b) rfl
      have hok := hT.ok
      unfold Okt at hok
      have rc : wr.cell? ⟨r, k, none⟩ = some (.pointer (some ⟨b, 0, none⟩)) := (St.row hS HL.out.row).cell hb
      have TL := Aside0.mk (tells hH hT)
      have HS := Aside0.mk hS
      have hsz := hS.wz
      clear hb hS hH hT
      by_cases h13 : z = 13
      · subst h13
        by_cases h1 : k + 1 < bs.length
        · obtain ⟨b1, hb1, hd1⟩ := drop_cons h1
          rw [hd1] at HS
          have rc1 : wr.cell? ⟨r, k + 1, none⟩ = some (.pointer (some ⟨b1, 0, none⟩)) := (St.row HS.out HL.out.row).cell hb1
          have e1 : decide ((k : Int) + 1 ≥ (bs.length : Int)) = false := by simp; omega
          clear hb1
          by_cases h2 : k + 2 < bs.length
          · obtain ⟨b2, hb2, hd2⟩ := drop_cons h2
            rw [hd2] at HS
            obtain ⟨a2, z2, hH2, hT2⟩ := St.head HS.out HL.out.tok (j := 2) (b := b2) rfl
            have TL2 := Aside0.mk (tells hH2 hT2)
            have rc2 := fun O1 O2 O3 => pw_cell_below (below_alloc (below_alloc (below_alloc (Below.refl _ _) O1) O2) O3) ((St.row HS.out HL.out.row).cell hb2)
            have rc3 : ∀ O1 O2 O3, (((wr.alloc O1).alloc O2).alloc O3).cell? ⟨r, k + 2, none⟩ = some (.pointer (some ⟨b2, 0, none⟩)) := rc2
            have e2 : decide ((k : Int) + 2 ≥ (bs.length : Int)) = false := by simp; omega
            clear hb2 hok rc2 hH2 hT2
            by_cases h3 : z2 = 3
            · subst h3
              have HE := Aside0.mk fun (m : ByteArray) => err_new (m := m) (TL2.out.tok _ (below3 wr wr.heap.size b b1 6)) (size3 rfl b b1 6)
              have HBE : Aside0 (∀ O, Below B0 w0 ((made3 wr wr.heap.size b b1 6).alloc O)) := ⟨fun O => by
                obtain ⟨_, _, h⟩ := St.make3 6 HS.out rfl
                exact h.bel.alloc (by have := h.b0; have := h.wz; omega) O⟩
              go_wp2_with (first
                | (go_at_call 49; with_reducible refine Calls.mono (TL.out.typ _ ?_) ?_; (repeat (first | exact Below.refl _ _ | apply below_alloc)); rintro e w' ⟨rfl, rfl⟩)
                | (go_at_call 49; with_reducible refine Calls.mono (TL2.out.typ _ ?_) ?_; (repeat (first | exact Below.refl _ _ | apply below_alloc)); rintro e w' ⟨rfl, rfl⟩)
                | (go_at_call 50; with_reducible refine Calls.mono (TL.out.line _ ?_) ?_; (repeat (first | exact Below.refl _ _ | apply below_alloc)); rintro e w' ⟨rfl, rfl⟩)
                | (go_at_call 50; with_reducible refine Calls.mono (TL2.out.line _ ?_) ?_; (repeat (first | exact Below.refl _ _ | apply below_alloc)); rintro e w' ⟨rfl, rfl⟩)
                | (go_at_call 51; with_reducible refine Calls.mono (TL2.out.raw _ ?_) ?_; (repeat (first | exact Below.refl _ _ | apply below_alloc)); rintro e w' ⟨rfl, rfl⟩)
                | (go_at_call 52; refine (syntax_any _ _ _).mono ?_; rintro e w' ⟨rfl, rfl⟩))
              go_ret2
              exact .bad _ rfl (HE.out _) (HBE.out _) (by omega)
            · have b3 : (z2 == 3) = false := beq_eq_false_iff_ne.2 h3
              go_wp2_with (first
                | (go_at_call 49; with_reducible refine Calls.mono (TL.out.typ _ ?_) ?_; (repeat (first | exact Below.refl _ _ | apply below_alloc)); rintro e w' ⟨rfl, rfl⟩)
                | (go_at_call 49; with_reducible refine Calls.mono (TL2.out.typ _ ?_) ?_; (repeat (first | exact Below.refl _ _ | apply below_alloc)); rintro e w' ⟨rfl, rfl⟩)
                | (go_at_call 50; with_reducible refine Calls.mono (TL.out.line _ ?_) ?_; (repeat (first | exact Below.refl _ _ | apply below_alloc)); rintro e w' ⟨rfl, rfl⟩)
                | (go_at_call 50; with_reducible refine Calls.mono (TL2.out.line _ ?_) ?_; (repeat (first | exact Below.refl _ _ | apply below_alloc)); rintro e w' ⟨rfl, rfl⟩))
              refine Calls.mono (TL2.out.scal _ ?_) ?_
              · repeat (first | exact Below.refl _ _ | apply below_alloc)
              rintro e w' ⟨q, rfl, rfl⟩
              obtain ⟨rem3, fr3, M3⟩ := St.make3 6 HS.out rfl
              have HM3 := Aside0.mk M3
              clear M3
              cases q
              · go_wp2_with (at_builtin; refine wpList_append_lies _ (by rfl) _ _ _ (by rfl) w.heap.size 93 i0 _ 1 8 Tryd.underlying57 hi0 hz0 hz1 hz2 rfl (by omega) u4 obs.length _ (by rfl) (own_alloc (HM3.out.own) _) ⟨wr.heap.size + 1 + 1 + 1, 0, none⟩ 1 1 [.pointer (some ⟨wr.heap.size + 1 + 1, 0, none⟩)] (by rfl) (by rfl) (World.news_of_block (cs := #[.pointer (some ⟨wr.heap.size + 1 + 1, 0, none⟩)]) (t := 93) (fr := (0, 0)) (blk_top (by simp))) (by simp [Value.oneCell']) (by omega) (by unfold maxLen; omega) (by omega) (by simp; omega) (wr.heap.size + 1 + 1 + 1 + 1) (by simp) ?_; intro gg cap w2 hown2 hgrow hat hlt2; have HF := Aside0.mk (Sx.keep HM3.out hm hgrow hown2 (by simpa using hat)); clear hown2 hgrow hat hlt2)
                go_roundw
                case rel => exact ⟨k + 1 + 1, by omega, by go_num, ⟨Sx.mono HF.out hd2.symm (by omega)⟩⟩
                case measure => simp [intOf]; omega
              · obtain ⟨rem6, fr6, M6⟩ := St.make3 5 HM3.out (size3 rfl b b1 6)
                have HM6 := Aside0.mk M6
                clear M6
                go_wp2_with (at_builtin; refine wpList_append_lies _ (by rfl) _ _ _ (by rfl) w.heap.size 93 i0 _ 1 8 Tryd.underlying57 hi0 hz0 hz1 hz2 rfl (by omega) u4 obs.length _ (by rfl) (own_alloc (HM6.out.own) _) ⟨wr.heap.size + 1 + 1 + 1 + 1 + 1 + 1, 0, none⟩ 1 1 [.pointer (some ⟨wr.heap.size + 1 + 1 + 1 + 1 + 1, 0, none⟩)] (by rfl) (by rfl) (World.news_of_block (cs := #[.pointer (some ⟨wr.heap.size + 1 + 1 + 1 + 1 + 1, 0, none⟩)]) (t := 93) (fr := (0, 0)) (blk_top (by simp))) (by simp [Value.oneCell']) (by omega) (by unfold maxLen; omega) (by omega) (by simp; omega) (wr.heap.size + 1 + 1 + 1 + 1 + 1 + 1 + 1) (by simp) ?_; intro gg cap w2 hown2 hgrow hat hlt2; have HF := Aside0.mk (Sx.keep HM6.out hm hgrow hown2 (by simpa using hat)); clear hown2 hgrow hat hlt2)
                go_roundw
                case rel => exact ⟨k + 1 + 1 + 1, by omega, by go_num, ⟨Sx.mono HF.out rfl (by omega)⟩⟩
                case measure => simp [intOf]; omega
          · have e2 : decide ((k : Int) + 2 ≥ (bs.length : Int)) = true := by simp; omega
            have HE := Aside0.mk fun (m : ByteArray) => err_new (m := m) (TL.out.tok _ (Below.refl _ _)) rfl
            have HBE : Aside0 (∀ O, Below B0 w0 (wr.alloc O)) := ⟨fun O => HS.out.bel.alloc (by have := HS.out.b0; omega) O⟩
            go_wp2_with (first | (go_at_call 49; with_reducible refine Calls.mono (TL.out.typ _ ?_) ?_; (repeat (first | exact Below.refl _ _ | apply below_alloc)); rintro e w' ⟨rfl, rfl⟩) | (go_at_call 51; with_reducible refine Calls.mono (TL.out.raw _ ?_) ?_; (repeat (first | exact Below.refl _ _ | apply below_alloc)); rintro e w' ⟨rfl, rfl⟩) | (go_at_call 52; refine (syntax_any _ _ _).mono ?_; rintro e w' ⟨rfl, rfl⟩))
            go_ret2
            exact .bad _ rfl (HE.out _) (HBE.out _) (by omega)
        · have e1 : decide ((k : Int) + 1 ≥ (bs.length : Int)) = true := by simp; omega
          have HE := Aside0.mk fun (m : ByteArray) => err_new (m := m) (TL.out.tok _ (Below.refl _ _)) rfl
          have HBE : Aside0 (∀ O, Below B0 w0 (wr.alloc O)) := ⟨fun O => HS.out.bel.alloc (by have := HS.out.b0; omega) O⟩
          go_wp2_with (first | (go_at_call 49; with_reducible refine Calls.mono (TL.out.typ _ ?_) ?_; (repeat (first | exact Below.refl _ _ | apply below_alloc)); rintro e w' ⟨rfl, rfl⟩) | (go_at_call 51; with_reducible refine Calls.mono (TL.out.raw _ ?_) ?_; (repeat (first | exact Below.refl _ _ | apply below_alloc)); rintro e w' ⟨rfl, rfl⟩) | (go_at_call 52; refine (syntax_any _ _ _).mono ?_; rintro e w' ⟨rfl, rfl⟩))
          go_ret2
          exact .bad _ rfl (HE.out _) (HBE.out _) (by omega)
      · have b13 : (z == 13) = false := beq_eq_false_iff_ne.2 h13
        by_cases h14 : z = 14
        · subst h14
          by_cases h1 : k + 1 < bs.length
          · obtain ⟨b1, hb1, hd1⟩ := drop_cons h1
            rw [hd1] at HS
            have rc1 : wr.cell? ⟨r, k + 1, none⟩ = some (.pointer (some ⟨b1, 0, none⟩)) := (St.row HS.out HL.out.row).cell hb1
            have e1 : ((k : Int) + 1 == (bs.length : Int)) = false := beq_eq_false_iff_ne.2 (by omega)
            obtain ⟨rem3, fr3, M3⟩ := St.make3 7 HS.out rfl
            have HM3 := Aside0.mk M3
            clear hb1 M3 hok h13 b13
            go_wp2_with (first | (go_at_call 49; with_reducible refine Calls.mono (TL.out.typ _ ?_) ?_; (repeat (first | exact Below.refl _ _ | apply below_alloc)); rintro e w' ⟨rfl, rfl⟩) | (at_builtin; refine wpList_append_lies _ (by rfl) _ _ _ (by rfl) w.heap.size 93 i0 _ 1 8 Tryd.underlying57 hi0 hz0 hz1 hz2 rfl (by omega) u4 obs.length _ (by rfl) (own_alloc (HM3.out.own) _) ⟨wr.heap.size + 1 + 1 + 1, 0, none⟩ 1 1 [.pointer (some ⟨wr.heap.size + 1 + 1, 0, none⟩)] (by rfl) (by rfl) (World.news_of_block (cs := #[.pointer (some ⟨wr.heap.size + 1 + 1, 0, none⟩)]) (t := 93) (fr := (0, 0)) (blk_top (by simp))) (by simp [Value.oneCell']) (by omega) (by unfold maxLen; omega) (by omega) (by simp; omega) (wr.heap.size + 1 + 1 + 1 + 1) (by simp) ?_; intro gg cap w2 hown2 hgrow hat hlt2; have HF := Aside0.mk (Sx.keep HM3.out hm hgrow hown2 (by simpa using hat)); clear hown2 hgrow hat hlt2))
            go_roundw
            case rel => exact ⟨k + 1 + 1, by omega, by go_num, ⟨Sx.mono HF.out rfl (by omega)⟩⟩
            case measure => simp [intOf]; omega
          · have e1 : ((k : Int) + 1 == (bs.length : Int)) = true := beq_iff_eq.2 (by omega)
            have HE := Aside0.mk fun (m : ByteArray) => err_new (m := m) (TL.out.tok _ (Below.refl _ _)) rfl
            have HBE : Aside0 (∀ O, Below B0 w0 (wr.alloc O)) := ⟨fun O => HS.out.bel.alloc (by have := HS.out.b0; omega) O⟩
            clear h13 b13
            go_wp2_with (first | (go_at_call 49; with_reducible refine Calls.mono (TL.out.typ _ ?_) ?_; (repeat (first | exact Below.refl _ _ | apply below_alloc)); rintro e w' ⟨rfl, rfl⟩) | (go_at_call 51; with_reducible refine Calls.mono (TL.out.raw _ ?_) ?_; (repeat (first | exact Below.refl _ _ | apply below_alloc)); rintro e w' ⟨rfl, rfl⟩) | (go_at_call 52; refine (syntax_any _ _ _).mono ?_; rintro e w' ⟨rfl, rfl⟩))
            go_ret2
            exact .bad _ rfl (HE.out _) (HBE.out _) (by omega)
        · have b14 : (z == 14) = false := beq_eq_false_iff_ne.2 h14
          clear hok h13 h14
          go_wp2_with (first | (go_at_call 49; with_reducible refine Calls.mono (TL.out.typ _ ?_) ?_; (repeat (first | exact Below.refl _ _ | apply below_alloc)); rintro e w' ⟨rfl, rfl⟩) | (at_builtin; refine wpList_append_lies _ (by rfl) _ _ _ (by rfl) w.heap.size 93 i0 _ 1 8 Tryd.underlying57 hi0 hz0 hz1 hz2 rfl (by omega) u4 obs.length _ (by rfl) (own_alloc (HS.out.own) _) ⟨wr.heap.size, 0, none⟩ 1 1 [.pointer (some ⟨b, 0, none⟩)] (by rfl) (by rfl) (World.news_of_block (cs := #[.pointer (some ⟨b, 0, none⟩)]) (t := 93) (fr := (0, 0)) (blk_top (by simp))) (by simp [Value.oneCell']) (by omega) (by unfold maxLen; omega) (by omega) (by simp; omega) (wr.heap.size + 1) (by simp) ?_; intro gg cap w2 hown2 hgrow hat hlt2; have HF := Aside0.mk (Sx.keep HS.out hm hgrow hown2 (by simpa using hat)); clear hown2 hgrow hat hlt2))
          go_roundw
          case rel => exact ⟨k + 1, by omega, by go_num, HF⟩
          case measure => simp [intOf]; omega
    · obtain rfl : k = bs.length := by omega
      have HF : Aside0 (Done B0 w0 tb Y bs.length u4 wr) := ⟨Sx.done ⟨obs, out, rem, fo, fr, by rwa [List.drop_of_length_le (Nat.le_refl _)] at hS, hm⟩ (Nat.le_refl _) HL.out.tok⟩
      clear hS
      go_wp2
      go_ret2
      exact .ok _ rfl HF.out

end Go.Proofs.YtgidfhpcobpinaaDoor.GtW
