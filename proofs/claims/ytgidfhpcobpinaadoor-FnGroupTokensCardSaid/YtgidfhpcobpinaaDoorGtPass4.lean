/- Walks of FnGroupTokens: anchors ahead of tagged scalars, and values behind their keys. -/
import Derived.Test.YtgidfhpcobpinaaDoorGtPass3
namespace Go.Proofs.YtgidfhpcobpinaaDoor.GtW
open Go.RowKit Go.Proofs.YtgidfhpcobpinaaDoor.PFnGroupTokens Go.Proofs.YtgidfhpcobpinaaDoorW.PrintWords Go.Proofs.YtgidfhpcobpinaaDoorW.PrintLast Go.Proofs.YtgidfhpcobpinaaDoorW.PrintMore
open Go.Proofs.YtgidfhpcobpinaaDoor.AddM Go.Proofs.YtgidfhpcobpinaaDoor.GtM
attribute [local go_sem ↓] Go.wp_at_zero Go.wp_at_succ
set_option linter.unusedSimpArgs false
set_option linter.unusedVariables false

set_option maxRecDepth 100000 in
set_option maxHeartbeats 4000000 in
theorem pass33 {B0 : Nat} {w0 w : World} {tb Y bs : List Nat} {r c : Nat} {out : List Tr} {F : List Nat} (h : Lst B0 w0 w tb Y bs r c out F) (hn : bs.length ≤ 1000) :
    Calls Tryd.prog 33 #[.slice (some ⟨r, 0, none⟩) bs.length c] w (PassPost B0 w0 tb Y bs.length) := by
  have HL := Aside0.mk h
  clear h
  have hmk := make_ptrs bs.length hn
  obtain ⟨i0, hi0, hz0, hz1, hz2⟩ := info_parts info93
  have HS0 := Aside0.mk (HL.out.start (below_alloc (Below.refl _ _) _) (by unfold maxLen; omega) (heap_alloc_new w (.cells (Array.replicate bs.length (.pointer none)) 93)))
  go_enter Tryd.func33, Tryd.ntmps33
  go_wp2
  clear hmk
  go_loopw [4, 5, 6, 7] (fun v i _ _ wr => ∃ k : Nat, k ≤ bs.length ∧ i = .int .i64 k ∧ Aside0 (Sx B0 w0 w wr tb Y (bs.drop k) v k)) (fun _ i _ _ _ => bs.length - (intOf i).toNat)
  case atStart => exact ⟨0, by omega, rfl, HS0⟩
  case round =>
    obtain ⟨k, hk, rfl, ⟨obs, out, rem, fo, fr, hS, hm⟩⟩ := hrel
    clear HS0
    by_cases hlt : k < bs.length
    · obtain ⟨b, hb, hd⟩ := drop_cons hlt
      rw [hd] at hS
      obtain ⟨a, z, hH, hT⟩ := St.head hS HL.out.tok (j := 0) (b := b) rfl
      have rc : wr.cell? ⟨r, k, none⟩ = some (.pointer (some ⟨b, 0, none⟩)) := (St.row hS HL.out.row).cell hb
      have TL := Aside0.mk (tells hH hT)
      have HS := Aside0.mk hS
      have hsz := hS.wz
      clear hb hS hH hT hd
      go_wp2_with fail
      refine Calls.mono (TL.out.grp _ (Below.refl _ _)) ?_
      rintro e w' ⟨y, rfl, rfl⟩
      by_cases h6 : y = 6
      · subst h6
        by_cases h1 : k + 1 < bs.length
        · obtain ⟨b1, hb1, hd1⟩ := drop_cons h1
          rw [hd1] at HS
          obtain ⟨a1, z1, hH1, hT1⟩ := St.head HS.out HL.out.tok (j := 1) (b := b1) rfl
          have TL2 := Aside0.mk (tells hH1 hT1)
          have rc1 : wr.cell? ⟨r, k + 1, none⟩ = some (.pointer (some ⟨b1, 0, none⟩)) := (St.row HS.out HL.out.row).cell hb1
          have HD1 := Aside0.mk hd1
          clear hb1 hH1 hT1 hd1
          have e1 : decide ((k : Int) + 1 ≥ (bs.length : Int)) = false := by simp; omega
          go_wp2_with (first | (go_at_call 50; with_reducible refine Calls.mono (TL.out.line _ ?_) ?_; (repeat (first | assumption | exact Below.refl _ _ | apply below_alloc | apply pw_below_drewN)); rintro e w' ⟨rfl, rfl⟩) | (go_at_call 50; with_reducible refine Calls.mono (TL2.out.line _ ?_) ?_; (repeat (first | assumption | exact Below.refl _ _ | apply below_alloc | apply pw_below_drewN)); rintro e w' ⟨rfl, rfl⟩))
          refine Calls.mono (TL2.out.grp _ (Below.refl _ _)) ?_
          rintro e w' ⟨y2, rfl, rfl⟩
          obtain ⟨rem3, fr3, M3⟩ := St.make3 5 HS.out rfl
          have HM3 := Aside0.mk M3
          clear M3
          by_cases h10 : y2 = 10
          · subst h10
            go_wp2_with (at_builtin; refine wpList_append_lies _ (by rfl) _ _ _ (by rfl) w.heap.size 93 i0 _ 1 8 Tryd.underlying57 hi0 hz0 hz1 hz2 rfl (by omega) u4 obs.length _ (by rfl) (own_alloc (HM3.out.own) _) ⟨wr.heap.size + 1 + 1 + 1, 0, none⟩ 1 1 [.pointer (some ⟨wr.heap.size + 1 + 1, 0, none⟩)] (by rfl) (by rfl) (World.news_of_block (cs := #[.pointer (some ⟨wr.heap.size + 1 + 1, 0, none⟩)]) (t := 93) (fr := (0, 0)) (blk_top (by simp))) (by simp [Value.oneCell']) (by omega) (by unfold maxLen; omega) (by omega) (by simp; omega) (wr.heap.size + 1 + 1 + 1 + 1) (by simp) ?_; intro gg cap w2 hown2 hgrow hat hlt2; have HF := Aside0.mk (Sx.keep HM3.out hm hgrow hown2 (by simpa using hat)); clear hown2 hgrow hat hlt2)
            go_roundw
            case rel => exact ⟨k + 1 + 1, by omega, by go_num, ⟨Sx.mono HF.out rfl (by omega)⟩⟩
            case measure => simp [intOf]; omega
          · have b10 : (y2 == 10) = false := beq_eq_false_iff_ne.2 h10
            clear h10
            go_wp2_with (at_builtin; refine wpList_append_lies _ (by rfl) _ _ _ (by rfl) w.heap.size 93 i0 _ 1 8 Tryd.underlying57 hi0 hz0 hz1 hz2 rfl (by omega) u4 obs.length _ (by rfl) (own_alloc (HS.out.own) _) ⟨wr.heap.size, 0, none⟩ 1 1 [.pointer (some ⟨b, 0, none⟩)] (by rfl) (by rfl) (World.news_of_block (cs := #[.pointer (some ⟨b, 0, none⟩)]) (t := 93) (fr := (0, 0)) (blk_top (by simp))) (by simp [Value.oneCell']) (by omega) (by unfold maxLen; omega) (by omega) (by simp; omega) (wr.heap.size + 1) (by simp) ?_; intro gg cap w2 hown2 hgrow hat hlt2; have HF := Aside0.mk (Sx.keep HS.out hm hgrow hown2 (by simpa using hat)); clear hown2 hgrow hat hlt2)
            go_roundw
            case rel => exact ⟨k + 1, by omega, by go_num, ⟨Sx.mono HF.out (by rw [HD1.out]) (by omega)⟩⟩
            case measure => simp [intOf]; omega
        · have e1 : decide ((k : Int) + 1 ≥ (bs.length : Int)) = true := by simp; omega
          have HE := Aside0.mk fun (m : ByteArray) => err_new (m := m) (TL.out.tok _ (Below.refl _ _)) rfl
          have HBE : Aside0 (∀ O, Below B0 w0 (wr.alloc O)) := ⟨fun O => HS.out.bel.alloc (by have := HS.out.b0; omega) O⟩
          go_wp2_with (first | (go_at_call 51; with_reducible refine Calls.mono (TL.out.raw _ ?_) ?_; (repeat (first | assumption | exact Below.refl _ _ | apply below_alloc | apply pw_below_drewN)); rintro e w' ⟨rfl, rfl⟩) | (go_at_call 52; refine (syntax_any _ _ _).mono ?_; rintro e w' ⟨rfl, rfl⟩))
          go_ret2
          exact .bad _ rfl (HE.out _) (HBE.out _) (by omega)
      · have b6 : (y == 6) = false := beq_eq_false_iff_ne.2 h6
        clear h6
        go_wp2_with (at_builtin; refine wpList_append_lies _ (by rfl) _ _ _ (by rfl) w.heap.size 93 i0 _ 1 8 Tryd.underlying57 hi0 hz0 hz1 hz2 rfl (by omega) u4 obs.length _ (by rfl) (own_alloc (HS.out.own) _) ⟨wr.heap.size, 0, none⟩ 1 1 [.pointer (some ⟨b, 0, none⟩)] (by rfl) (by rfl) (World.news_of_block (cs := #[.pointer (some ⟨b, 0, none⟩)]) (t := 93) (fr := (0, 0)) (blk_top (by simp))) (by simp [Value.oneCell']) (by omega) (by unfold maxLen; omega) (by omega) (by simp; omega) (wr.heap.size + 1) (by simp) ?_; intro gg cap w2 hown2 hgrow hat hlt2; have HF := Aside0.mk (Sx.keep HS.out hm hgrow hown2 (by simpa using hat)); clear hown2 hgrow hat hlt2)
        go_roundw
        case rel => exact ⟨k + 1, by omega, by go_num, ⟨Sx.mono HF.out rfl (by omega)⟩⟩
        case measure => simp [intOf]; omega
    · obtain rfl : k = bs.length := by omega
      have HF : Aside0 (Done B0 w0 tb Y bs.length u4 wr) := ⟨Sx.done ⟨obs, out, rem, fo, fr, by rwa [List.drop_of_length_le (Nat.le_refl _)] at hS, hm⟩ (Nat.le_refl _) HL.out.tok⟩
      clear hS
      go_wp2
      go_ret2
      exact .ok _ rfl HF.out

set_option maxRecDepth 100000 in
set_option maxHeartbeats 4000000 in
theorem pass35 {B0 : Nat} {w0 w : World} {tb Y bs : List Nat} {r c : Nat} {out : List Tr} {F : List Nat} (h : Lst B0 w0 w tb Y bs r c out F) (hn : bs.length ≤ 1000) :
    Calls Tryd.prog 35 #[.slice (some ⟨r, 0, none⟩) bs.length c] w fun e w' => ∃ v, e = .returned v ∧ Done B0 w0 tb Y bs.length v w' := by
  have HL := Aside0.mk h
  clear h
  have hmk := make_ptrs bs.length hn
  obtain ⟨i0, hi0, hz0, hz1, hz2⟩ := info_parts info93
  have HS0 := Aside0.mk (HL.out.start (below_alloc (Below.refl _ _) _) (by unfold maxLen; omega) (heap_alloc_new w (.cells (Array.replicate bs.length (.pointer none)) 93)))
  go_enter Tryd.func35, Tryd.ntmps35
  go_wp2
  clear hmk
  go_loopw [3, 4, 5, 6] (fun v i _ _ wr => ∃ k : Nat, k ≤ bs.length ∧ i = .int .i64 k ∧ Aside0 (Sx B0 w0 w wr tb Y (bs.drop k) v k)) (fun _ i _ _ _ => bs.length - (intOf i).toNat)
  case atStart => exact ⟨0, by omega, rfl, HS0⟩
  case round =>
    obtain ⟨k, hk, rfl, ⟨obs, out, rem, fo, fr, hS, hm⟩⟩ := hrel
    clear HS0
    by_cases hlt : k < bs.length
    · obtain ⟨b, hb, hd⟩ := drop_cons hlt
      rw [hd] at hS
      obtain ⟨a, z, hH, hT⟩ := St.head hS HL.out.tok (j := 0) (b := b) rfl
      have rc : wr.cell? ⟨r, k, none⟩ = some (.pointer (some ⟨b, 0, none⟩)) := (St.row hS HL.out.row).cell hb
      have TL := Aside0.mk (tells hH hT)
      have HS := Aside0.mk hS
      have hsz := hS.wz
      clear hb hS hH hT hd
      go_wp2_with fail
      refine Calls.mono (TL.out.grp _ (Below.refl _ _)) ?_
      rintro e w' ⟨y, rfl, rfl⟩
      by_cases h11 : y = 11
      · subst h11
        by_cases h1 : k + 1 < bs.length
        · obtain ⟨b1, hb1, hd1⟩ := drop_cons h1
          rw [hd1] at HS
          obtain ⟨a1, z1, hH1, hT1⟩ := St.head HS.out HL.out.tok (j := 1) (b := b1) rfl
          have TL2 := Aside0.mk (tells hH1 hT1)
          have rc1 : wr.cell? ⟨r, k + 1, none⟩ = some (.pointer (some ⟨b1, 0, none⟩)) := (St.row HS.out HL.out.row).cell hb1
          have HD1 := Aside0.mk hd1
          clear hb1 hH1 hT1 hd1
          have e1 : decide ((bs.length : Int) ≤ (k : Int) + 1) = false := by simp; omega
          go_wp2_with (first | (go_at_call 50; with_reducible refine Calls.mono (TL.out.line _ ?_) ?_; (repeat (first | assumption | exact Below.refl _ _ | apply below_alloc | apply pw_below_drewN)); rintro e w' ⟨rfl, rfl⟩) | (go_at_call 50; with_reducible refine Calls.mono (TL2.out.line _ ?_) ?_; (repeat (first | assumption | exact Below.refl _ _ | apply below_alloc | apply pw_below_drewN)); rintro e w' ⟨rfl, rfl⟩))
          refine Calls.mono (TL2.out.grp _ (Below.refl _ _)) ?_
          rintro e w' ⟨y2, rfl, rfl⟩
          by_cases h6 : y2 = 6
          · subst h6
            go_wp2_with (at_builtin; refine wpList_append_lies _ (by rfl) _ _ _ (by rfl) w.heap.size 93 i0 _ 1 8 Tryd.underlying57 hi0 hz0 hz1 hz2 rfl (by omega) u3 obs.length _ (by rfl) (own_alloc (HS.out.own) _) ⟨wr.heap.size, 0, none⟩ 1 1 [.pointer (some ⟨b, 0, none⟩)] (by rfl) (by rfl) (World.news_of_block (cs := #[.pointer (some ⟨b, 0, none⟩)]) (t := 93) (fr := (0, 0)) (blk_top (by simp))) (by simp [Value.oneCell']) (by omega) (by unfold maxLen; omega) (by omega) (by simp; omega) (wr.heap.size + 1) (by simp) ?_; intro gg cap w2 hown2 hgrow hat hlt2; have HF := Aside0.mk (Sx.keep HS.out hm hgrow hown2 (by simpa using hat)); clear hown2 hgrow hat hlt2)
            go_roundw
            case rel => exact ⟨k + 1, by omega, by go_num, ⟨Sx.mono HF.out (by rw [HD1.out]) (by omega)⟩⟩
            case measure => simp [intOf]; omega
          · have b6 : (y2 == 6) = false := beq_eq_false_iff_ne.2 h6
            clear h6
            obtain ⟨rem3, fr3, M3⟩ := St.make3 12 HS.out rfl
            have HM3 := Aside0.mk M3
            clear M3
            by_cases h15 : z1 = 15
            · subst h15
              go_wp2_with (go_at_call 49; with_reducible refine Calls.mono (TL2.out.typ _ ?_) ?_; (repeat (first | assumption | exact Below.refl _ _ | apply below_alloc | apply pw_below_drewN)); rintro e w' ⟨rfl, rfl⟩)
              refine Calls.mono (TL2.out.grp _ (Below.refl _ _)) ?_
              rintro e w' ⟨y3, rfl, rfl⟩
              by_cases h10 : y3 = 10
              · subst h10
                go_wp2_with fail
                refine Calls.mono (TL2.out.scal _ (Below.refl _ _)) ?_
                rintro e w' ⟨q, rfl, rfl⟩
                cases q
                · go_wp2_with (first | (go_at_call 49; with_reducible refine Calls.mono (TL2.out.typ _ ?_) ?_; (repeat (first | assumption | exact Below.refl _ _ | apply below_alloc | apply pw_below_drewN)); rintro e w' ⟨rfl, rfl⟩) | (at_builtin; refine wpList_append_lies _ (by rfl) _ _ _ (by rfl) w.heap.size 93 i0 _ 1 8 Tryd.underlying57 hi0 hz0 hz1 hz2 rfl (by omega) u3 obs.length _ (by rfl) (own_alloc (HM3.out.own) _) ⟨wr.heap.size + 1 + 1 + 1, 0, none⟩ 1 1 [.pointer (some ⟨wr.heap.size + 1 + 1, 0, none⟩)] (by rfl) (by rfl) (World.news_of_block (cs := #[.pointer (some ⟨wr.heap.size + 1 + 1, 0, none⟩)]) (t := 93) (fr := (0, 0)) (blk_top (by simp))) (by simp [Value.oneCell']) (by omega) (by unfold maxLen; omega) (by omega) (by simp; omega) (wr.heap.size + 1 + 1 + 1 + 1) (by simp) ?_; intro gg cap w2 hown2 hgrow hat hlt2; have HF := Aside0.mk (Sx.keep HM3.out hm hgrow hown2 (by simpa using hat)); clear hown2 hgrow hat hlt2))
                  go_roundw
                  case rel => exact ⟨k + 1 + 1, by omega, by go_num, ⟨Sx.mono HF.out rfl (by omega)⟩⟩
                  case measure => simp [intOf]; omega
                · go_wp2_with (first | (go_at_call 49; with_reducible refine Calls.mono (TL2.out.typ _ ?_) ?_; (repeat (first | assumption | exact Below.refl _ _ | apply below_alloc | apply pw_below_drewN)); rintro e w' ⟨rfl, rfl⟩) | (at_builtin; refine wpList_append_lies _ (by rfl) _ _ _ (by rfl) w.heap.size 93 i0 _ 1 8 Tryd.underlying57 hi0 hz0 hz1 hz2 rfl (by omega) u3 obs.length _ (by rfl) (own_alloc (HM3.out.own) _) ⟨wr.heap.size + 1 + 1 + 1, 0, none⟩ 1 1 [.pointer (some ⟨wr.heap.size + 1 + 1, 0, none⟩)] (by rfl) (by rfl) (World.news_of_block (cs := #[.pointer (some ⟨wr.heap.size + 1 + 1, 0, none⟩)]) (t := 93) (fr := (0, 0)) (blk_top (by simp))) (by simp [Value.oneCell']) (by omega) (by unfold maxLen; omega) (by omega) (by simp; omega) (wr.heap.size + 1 + 1 + 1 + 1) (by simp) ?_; intro gg cap w2 hown2 hgrow hat hlt2; have HF := Aside0.mk (Sx.keep HM3.out hm hgrow hown2 (by simpa using hat)); clear hown2 hgrow hat hlt2))
                  go_roundw
                  case rel => exact ⟨k + 1 + 1, by omega, by go_num, ⟨Sx.mono HF.out rfl (by omega)⟩⟩
                  case measure => simp [intOf]; omega
              · have b10 : (y3 != 10) = true := bne_iff_ne.2 h10
                clear h10
                go_wp2_with (at_builtin; refine wpList_append_lies _ (by rfl) _ _ _ (by rfl) w.heap.size 93 i0 _ 1 8 Tryd.underlying57 hi0 hz0 hz1 hz2 rfl (by omega) u3 obs.length _ (by rfl) (own_alloc (HS.out.own) _) ⟨wr.heap.size, 0, none⟩ 1 1 [.pointer (some ⟨b, 0, none⟩)] (by rfl) (by rfl) (World.news_of_block (cs := #[.pointer (some ⟨b, 0, none⟩)]) (t := 93) (fr := (0, 0)) (blk_top (by simp))) (by simp [Value.oneCell']) (by omega) (by unfold maxLen; omega) (by omega) (by simp; omega) (wr.heap.size + 1) (by simp) ?_; intro gg cap w2 hown2 hgrow hat hlt2; have HF := Aside0.mk (Sx.keep HS.out hm hgrow hown2 (by simpa using hat)); clear hown2 hgrow hat hlt2)
                go_roundw
                case rel => exact ⟨k + 1, by omega, by go_num, ⟨Sx.mono HF.out (by rw [HD1.out]) (by omega)⟩⟩
                case measure => simp [intOf]; omega
            · have b15 : (z1 == 15) = false := beq_eq_false_iff_ne.2 h15
              clear h15
              go_wp2_with (go_at_call 49; with_reducible refine Calls.mono (TL2.out.typ _ ?_) ?_; (repeat (first | assumption | exact Below.refl _ _ | apply below_alloc | apply pw_below_drewN)); rintro e w' ⟨rfl, rfl⟩)
              refine Calls.mono (TL2.out.scal _ (Below.refl _ _)) ?_
              rintro e w' ⟨q, rfl, rfl⟩
              cases q
              · go_wp2_with (first | (go_at_call 49; with_reducible refine Calls.mono (TL2.out.typ _ ?_) ?_; (repeat (first | assumption | exact Below.refl _ _ | apply below_alloc | apply pw_below_drewN)); rintro e w' ⟨rfl, rfl⟩) | (at_builtin; refine wpList_append_lies _ (by rfl) _ _ _ (by rfl) w.heap.size 93 i0 _ 1 8 Tryd.underlying57 hi0 hz0 hz1 hz2 rfl (by omega) u3 obs.length _ (by rfl) (own_alloc (HS.out.own) _) ⟨wr.heap.size, 0, none⟩ 1 1 [.pointer (some ⟨b, 0, none⟩)] (by rfl) (by rfl) (World.news_of_block (cs := #[.pointer (some ⟨b, 0, none⟩)]) (t := 93) (fr := (0, 0)) (blk_top (by simp))) (by simp [Value.oneCell']) (by omega) (by unfold maxLen; omega) (by omega) (by simp; omega) (wr.heap.size + 1) (by simp) ?_; intro gg cap w2 hown2 hgrow hat hlt2; have HF := Aside0.mk (Sx.keep HS.out hm hgrow hown2 (by simpa using hat)); clear hown2 hgrow hat hlt2))
                go_roundw
                case rel => exact ⟨k + 1, by omega, by go_num, ⟨Sx.mono HF.out (by rw [HD1.out]) (by omega)⟩⟩
                case measure => simp [intOf]; omega
              · go_wp2_with (first | (go_at_call 49; with_reducible refine Calls.mono (TL2.out.typ _ ?_) ?_; (repeat (first | assumption | exact Below.refl _ _ | apply below_alloc | apply pw_below_drewN)); rintro e w' ⟨rfl, rfl⟩) | (at_builtin; refine wpList_append_lies _ (by rfl) _ _ _ (by rfl) w.heap.size 93 i0 _ 1 8 Tryd.underlying57 hi0 hz0 hz1 hz2 rfl (by omega) u3 obs.length _ (by rfl) (own_alloc (HM3.out.own) _) ⟨wr.heap.size + 1 + 1 + 1, 0, none⟩ 1 1 [.pointer (some ⟨wr.heap.size + 1 + 1, 0, none⟩)] (by rfl) (by rfl) (World.news_of_block (cs := #[.pointer (some ⟨wr.heap.size + 1 + 1, 0, none⟩)]) (t := 93) (fr := (0, 0)) (blk_top (by simp))) (by simp [Value.oneCell']) (by omega) (by unfold maxLen; omega) (by omega) (by simp; omega) (wr.heap.size + 1 + 1 + 1 + 1) (by simp) ?_; intro gg cap w2 hown2 hgrow hat hlt2; have HF := Aside0.mk (Sx.keep HM3.out hm hgrow hown2 (by simpa using hat)); clear hown2 hgrow hat hlt2))
                go_roundw
                case rel => exact ⟨k + 1 + 1, by omega, by go_num, ⟨Sx.mono HF.out rfl (by omega)⟩⟩
                case measure => simp [intOf]; omega
        · have e1 : decide ((bs.length : Int) ≤ (k : Int) + 1) = true := by simp; omega
          go_wp2_with (at_builtin; refine wpList_append_lies _ (by rfl) _ _ _ (by rfl) w.heap.size 93 i0 _ 1 8 Tryd.underlying57 hi0 hz0 hz1 hz2 rfl (by omega) u3 obs.length _ (by rfl) (own_alloc (HS.out.own) _) ⟨wr.heap.size, 0, none⟩ 1 1 [.pointer (some ⟨b, 0, none⟩)] (by rfl) (by rfl) (World.news_of_block (cs := #[.pointer (some ⟨b, 0, none⟩)]) (t := 93) (fr := (0, 0)) (blk_top (by simp))) (by simp [Value.oneCell']) (by omega) (by unfold maxLen; omega) (by omega) (by simp; omega) (wr.heap.size + 1) (by simp) ?_; intro gg cap w2 hown2 hgrow hat hlt2; have HF := Aside0.mk (Sx.keep HS.out hm hgrow hown2 (by simpa using hat)); clear hown2 hgrow hat hlt2)
          go_roundw
          case rel => exact ⟨k + 1, by omega, by go_num, ⟨Sx.mono HF.out rfl (by omega)⟩⟩
          case measure => simp [intOf]; omega
      · have b11 : (y == 11) = false := beq_eq_false_iff_ne.2 h11
        clear h11
        go_wp2_with (at_builtin; refine wpList_append_lies _ (by rfl) _ _ _ (by rfl) w.heap.size 93 i0 _ 1 8 Tryd.underlying57 hi0 hz0 hz1 hz2 rfl (by omega) u3 obs.length _ (by rfl) (own_alloc (HS.out.own) _) ⟨wr.heap.size, 0, none⟩ 1 1 [.pointer (some ⟨b, 0, none⟩)] (by rfl) (by rfl) (World.news_of_block (cs := #[.pointer (some ⟨b, 0, none⟩)]) (t := 93) (fr := (0, 0)) (blk_top (by simp))) (by simp [Value.oneCell']) (by omega) (by unfold maxLen; omega) (by omega) (by simp; omega) (wr.heap.size + 1) (by simp) ?_; intro gg cap w2 hown2 hgrow hat hlt2; have HF := Aside0.mk (Sx.keep HS.out hm hgrow hown2 (by simpa using hat)); clear hown2 hgrow hat hlt2)
        go_roundw
        case rel => exact ⟨k + 1, by omega, by go_num, ⟨Sx.mono HF.out rfl (by omega)⟩⟩
        case measure => simp [intOf]; omega
    · obtain rfl : k = bs.length := by omega
      have HF : Aside0 (Done B0 w0 tb Y bs.length u3 wr) := ⟨Sx.done ⟨obs, out, rem, fo, fr, by rwa [List.drop_of_length_le (Nat.le_refl _)] at hS, hm⟩ (Nat.le_refl _) HL.out.tok⟩
      clear hS
      go_wp2
      go_ret
      exact ⟨_, rfl, HF.out⟩

end Go.Proofs.YtgidfhpcobpinaaDoor.GtW
