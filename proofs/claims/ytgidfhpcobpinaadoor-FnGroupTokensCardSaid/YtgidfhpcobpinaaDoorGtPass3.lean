/- Walks of FnGroupTokens: scalars behind their tags. -/
import Derived.Test.YtgidfhpcobpinaaDoorGtPass2
namespace Go.Proofs.YtgidfhpcobpinaaDoor.GtW
open Go.RowKit Go.Proofs.YtgidfhpcobpinaaDoor.PFnGroupTokens Go.Proofs.YtgidfhpcobpinaaDoorW.PrintWords Go.Proofs.YtgidfhpcobpinaaDoorW.PrintLast Go.Proofs.YtgidfhpcobpinaaDoorW.PrintMore
open Go.Proofs.YtgidfhpcobpinaaDoor.AddM Go.Proofs.YtgidfhpcobpinaaDoor.GtM
attribute [local go_sem ↓] Go.wp_at_zero Go.wp_at_succ
set_option linter.unusedSimpArgs false
set_option linter.unusedVariables false

theorem no_second : strings_HasPrefix.f ⟨#[33, 116]⟩ ⟨#[33, 33]⟩ = some false := by kernel_rfl

theorem Tells.more {w w2 : World} {b a : Nat} {z : Int} (h : Tells w b a z) (hb : Below w.heap.size w w2) : Tells w2 b a z :=
  have H : ∀ {W}, Below w2.heap.size w2 W → Below w.heap.size w W := fun h2 => below_then hb hb.size h2
  ⟨fun W h2 => h.typ W (H h2), fun W h2 => h.line W (H h2), fun W h2 => h.raw W (H h2), fun W h2 => h.scal W (H h2), fun W h2 => h.grp W (H h2), fun W h2 => h.flow W (H h2), fun W h2 => h.nokey W (H h2), fun W h2 => h.tok W (H h2)⟩

/-- A call that only reads, at whatever count of draws. -/
theorem line_quiet {w : World} {b a : Nat} {z : Int} (h : Tells w b a z) (q : Nat) : Calls Tryd.prog 50 #[.pointer (some ⟨b, 0, none⟩)] (w.drewN q) fun e w' => e = .returned (.int .i64 1) ∧ ∃ nd, w' = (w.drewN q).drewN nd :=
  (h.line (w.drewN q) (pw_below_drewN (Below.refl _ _) q)).mono fun e w' ⟨he, hw⟩ => ⟨he, 0, hw.symm⟩

set_option maxRecDepth 100000 in
set_option maxHeartbeats 4000000 in
theorem pass32 {B0 : Nat} {w0 w : World} {tb Y bs : List Nat} {r c : Nat} {out : List Tr} {F : List Nat} (h : Lst B0 w0 w tb Y bs r c out F) (hn : bs.length ≤ 1000) :
    Calls Tryd.prog 32 #[.slice (some ⟨r, 0, none⟩) bs.length c] w (PassPost B0 w0 tb Y bs.length) := by
  have HL := Aside0.mk h
  clear h
  have hmk := make_ptrs bs.length hn
  obtain ⟨i0, hi0, hz0, hz1, hz2⟩ := info_parts info93
  have HS0 := Aside0.mk (HL.out.start (below_alloc (Below.refl _ _) _) (by unfold maxLen; omega) (heap_alloc_new w (.cells (Array.replicate bs.length (.pointer none)) 93)))
  go_enter Tryd.func32, Tryd.ntmps32
  go_wp2
  clear hmk
  go_loopw [4, 5, 6, 7] (fun v i _ _ wr => ∃ k : Nat, k ≤ bs.length ∧ i = .int .i64 k ∧ Aside0 (Sx B0 w0 w wr tb Y (bs.drop k) v k)) (fun _ i _ _ _ => bs.length - (intOf i).toNat)
  case atStart => exact ⟨0, by omega, rfl, HS0⟩
  case round =>
    obtain ⟨k, hk, rfl, ⟨obs, out, rem, fo, fr, hS, hm⟩⟩ := hrel
    clear HS0
    by_cases hlt : k < bs.length
    · obtain ⟨b, hb, hd⟩ := drop_cons hlt
      rw [hd] at hS
      obtain ⟨a, z, hH, hT⟩ := St.head hS HL.out.tok (j := 0) (b := b) rfl
      have rc : wr.cell? ⟨r, k, none⟩ = some (.pointer (some ⟨b, 0, none⟩)) := (St.row hS HL.out.row).cell hb
      have TL := Aside0.mk (tells hH hT)
      have HS := Aside0.mk hS
      have hsz := hS.wz
      have HTT := Aside0.mk hT
      clear hb hS hH hT hd
      by_cases h15 : z = 15
      · subst h15
        obtain ⟨p, t, nx, pv, ha, _, _, _, hval⟩ := HTT.out.ex
        have a3 : wr.cell? ⟨a, 3, none⟩ = some (.string ⟨#[33, 116]⟩) := by rw [← hval rfl]; exact blk_cell ha 3
        clear ha hval
        go_wp2_with (first | (go_at_call 49; with_reducible refine Calls.mono (TL.out.typ _ ?_) ?_; (repeat (first | assumption | exact Below.refl _ _ | apply below_alloc | apply pw_below_drewN)); rintro e w' ⟨rfl, rfl⟩) | (go_at_call 51; with_reducible refine Calls.mono (TL.out.raw _ ?_) ?_; (repeat (first | assumption | exact Below.refl _ _ | apply below_alloc | apply pw_below_drewN)); rintro e w' ⟨rfl, rfl⟩))
        refine (strings_HasPrefix.calls _ _ false _ no_second).mono ?_
        rintro e w' ⟨rfl, ⟨nd, rfl⟩⟩
        have hbd : Below wr.heap.size wr (wr.drewN nd) := pw_below_drewN (Below.refl _ _) nd
        have TL1 := Aside0.mk (TL.out.more hbd)
        have HS1 := Aside0.mk (HS.out.more hbd)
        have rc0 := pw_cell_below hbd rc
        clear TL HS a3 rc HTT hbd
        generalize wr.drewN nd = wd at *
        have hsz1 := HS1.out.wz
        by_cases h1 : k + 1 < bs.length
        · obtain ⟨b1, hb1, hd1⟩ := drop_cons h1
          rw [hd1] at HS1
          obtain ⟨a1, z1, hH1, hT1⟩ := St.head HS1.out HL.out.tok (j := 1) (b := b1) rfl
          have TL2 := Aside0.mk (tells hH1 hT1)
          have rc1 : wd.cell? ⟨r, k + 1, none⟩ = some (.pointer (some ⟨b1, 0, none⟩)) := (St.row HS1.out HL.out.row).cell hb1
          have e1 : decide ((bs.length : Int) ≤ (k : Int) + 1) = false := by simp; omega
          have k0 : (0 : Int) ≤ (k : Int) + 1 := by omega
          have k1 : (k : Int) + 1 < (bs.length : Int) := by omega
          have kw : IntKind.i64.wrap ((k : Int) + 1) = (k : Int) + 1 := by rw [IntKind.wrap_i64] <;> omega
          have kn : ((k : Int) + 1).toNat = k + 1 := by omega
          clear hb1 hH1 hT1
          go_wp2_with fail
          have LQ := Aside0.mk (fun q => line_quiet TL1.out q)
          have LQ2 := Aside0.mk (fun q => line_quiet TL2.out q)
          go_quiet ((go_at_call 50; first | (with_reducible refine Calls.quiet_of (LQ.out _)) | (with_reducible refine Calls.quiet_of (LQ2.out _))))
          clear kw kn k0 k1
          have hbe : Below wd.heap.size wd (wd.drewN nq) := pw_below_drewN (Below.refl _ _) nq
          have HS2 := Aside0.mk (HS1.out.more hbe)
          have TL3 := Aside0.mk (TL2.out.more hbe)
          have rc2 := pw_cell_below hbe rc1
          clear HS1 TL1 TL2 LQ LQ2 rc1 rc0 hbe
          generalize wd.drewN nq = we at *
          have hsz2 := HS2.out.wz
          go_wp2_with fail
          refine Calls.mono (TL3.out.grp _ (Below.refl _ _)) ?_
          rintro e w' ⟨y, rfl, rfl⟩
          by_cases h6 : y = 6
          · subst h6
            go_wp2_with (at_builtin; refine wpList_append_lies _ (by rfl) _ _ _ (by rfl) w.heap.size 93 i0 _ 1 8 Tryd.underlying57 hi0 hz0 hz1 hz2 rfl (by omega) u4 obs.length _ (by rfl) (own_alloc (HS2.out.own) _) ⟨we.heap.size, 0, none⟩ 1 1 [.pointer (some ⟨b, 0, none⟩)] (by rfl) (by rfl) (World.news_of_block (cs := #[.pointer (some ⟨b, 0, none⟩)]) (t := 93) (fr := (0, 0)) (blk_top (by simp))) (by simp [Value.oneCell']) (by omega) (by unfold maxLen; omega) (by omega) (by simp; omega) (we.heap.size + 1) (by simp) ?_; intro gg cap w2 hown2 hgrow hat hlt2; have HF := Aside0.mk (Sx.keep HS2.out hm hgrow hown2 (by simpa using hat)); clear hown2 hgrow hat hlt2)
            go_roundw
            case rel => exact ⟨k + 1, by omega, by go_num, ⟨Sx.mono HF.out (by rw [hd1]) (by omega)⟩⟩
            case measure => simp [intOf]; omega
          · have b6 : (y == 6) = false := beq_eq_false_iff_ne.2 h6
            clear h6
            go_wp2_with fail
            refine Calls.mono (TL3.out.flow _ (Below.refl _ _)) ?_
            rintro e w' ⟨q, rfl, rfl⟩
            obtain ⟨rem3, fr3, M3⟩ := St.make3 10 HS2.out rfl
            have HM3 := Aside0.mk M3
            clear M3
            cases q
            · go_wp2_with (at_builtin; refine wpList_append_lies _ (by rfl) _ _ _ (by rfl) w.heap.size 93 i0 _ 1 8 Tryd.underlying57 hi0 hz0 hz1 hz2 rfl (by omega) u4 obs.length _ (by rfl) (own_alloc (HM3.out.own) _) ⟨we.heap.size + 1 + 1 + 1, 0, none⟩ 1 1 [.pointer (some ⟨we.heap.size + 1 + 1, 0, none⟩)] (by rfl) (by rfl) (World.news_of_block (cs := #[.pointer (some ⟨we.heap.size + 1 + 1, 0, none⟩)]) (t := 93) (fr := (0, 0)) (blk_top (by simp))) (by simp [Value.oneCell']) (by omega) (by unfold maxLen; omega) (by omega) (by simp; omega) (we.heap.size + 1 + 1 + 1 + 1) (by simp) ?_; intro gg cap w2 hown2 hgrow hat hlt2; have HF := Aside0.mk (Sx.keep HM3.out hm hgrow hown2 (by simpa using hat)); clear hown2 hgrow hat hlt2)
              go_roundw
              case rel => exact ⟨k + 1 + 1, by omega, by go_num, ⟨Sx.mono HF.out rfl (by omega)⟩⟩
              case measure => simp [intOf]; omega
            · go_wp2_with (at_builtin; refine wpList_append_lies _ (by rfl) _ _ _ (by rfl) w.heap.size 93 i0 _ 1 8 Tryd.underlying57 hi0 hz0 hz1 hz2 rfl (by omega) u4 obs.length _ (by rfl) (own_alloc (HS2.out.own) _) ⟨we.heap.size, 0, none⟩ 1 1 [.pointer (some ⟨b, 0, none⟩)] (by rfl) (by rfl) (World.news_of_block (cs := #[.pointer (some ⟨b, 0, none⟩)]) (t := 93) (fr := (0, 0)) (blk_top (by simp))) (by simp [Value.oneCell']) (by omega) (by unfold maxLen; omega) (by omega) (by simp; omega) (we.heap.size + 1) (by simp) ?_; intro gg cap w2 hown2 hgrow hat hlt2; have HF := Aside0.mk (Sx.keep HS2.out hm hgrow hown2 (by simpa using hat)); clear hown2 hgrow hat hlt2)
              go_roundw
              case rel => exact ⟨k + 1, by omega, by go_num, ⟨Sx.mono HF.out (by rw [hd1]) (by omega)⟩⟩
              case measure => simp [intOf]; omega
        · have e1 : decide ((bs.length : Int) ≤ (k : Int) + 1) = true := by simp; omega
          go_wp2_with (at_builtin; refine wpList_append_lies _ (by rfl) _ _ _ (by rfl) w.heap.size 93 i0 _ 1 8 Tryd.underlying57 hi0 hz0 hz1 hz2 rfl (by omega) u4 obs.length _ (by rfl) (own_alloc (HS1.out.own) _) ⟨wd.heap.size, 0, none⟩ 1 1 [.pointer (some ⟨b, 0, none⟩)] (by rfl) (by rfl) (World.news_of_block (cs := #[.pointer (some ⟨b, 0, none⟩)]) (t := 93) (fr := (0, 0)) (blk_top (by simp))) (by simp [Value.oneCell']) (by omega) (by unfold maxLen; omega) (by omega) (by simp; omega) (wd.heap.size + 1) (by simp) ?_; intro gg cap w2 hown2 hgrow hat hlt2; have HF := Aside0.mk (Sx.keep HS1.out hm hgrow hown2 (by simpa using hat)); clear hown2 hgrow hat hlt2)
          go_roundw
          case rel => exact ⟨k + 1, by omega, by go_num, ⟨Sx.mono HF.out rfl (by omega)⟩⟩
          case measure => simp [intOf]; omega
      · have b15 : (z != 15) = true := bne_iff_ne.2 h15
        clear h15
        go_wp2_with (first | (go_at_call 49; with_reducible refine Calls.mono (TL.out.typ _ ?_) ?_; (repeat (first | assumption | exact Below.refl _ _ | apply below_alloc | apply pw_below_drewN)); rintro e w' ⟨rfl, rfl⟩) | (at_builtin; refine wpList_append_lies _ (by rfl) _ _ _ (by rfl) w.heap.size 93 i0 _ 1 8 Tryd.underlying57 hi0 hz0 hz1 hz2 rfl (by omega) u4 obs.length _ (by rfl) (own_alloc (HS.out.own) _) ⟨wr.heap.size, 0, none⟩ 1 1 [.pointer (some ⟨b, 0, none⟩)] (by rfl) (by rfl) (World.news_of_block (cs := #[.pointer (some ⟨b, 0, none⟩)]) (t := 93) (fr := (0, 0)) (blk_top (by simp))) (by simp [Value.oneCell']) (by omega) (by unfold maxLen; omega) (by omega) (by simp; omega) (wr.heap.size + 1) (by simp) ?_; intro gg cap w2 hown2 hgrow hat hlt2; have HF := Aside0.mk (Sx.keep HS.out hm hgrow hown2 (by simpa using hat)); clear hown2 hgrow hat hlt2))
        go_roundw
        case rel => exact ⟨k + 1, by omega, by go_num, ⟨Sx.mono HF.out rfl (by omega)⟩⟩
        case measure => simp [intOf]; omega
    · obtain rfl : k = bs.length := by omega
      have HF : Aside0 (Done B0 w0 tb Y bs.length u4 wr) := ⟨Sx.done ⟨obs, out, rem, fo, fr, by rwa [List.drop_of_length_le (Nat.le_refl _)] at hS, hm⟩ (Nat.le_refl _) HL.out.tok⟩
      clear hS
      go_wp2
      go_ret2
      exact .ok _ rfl HF.out

end Go.Proofs.YtgidfhpcobpinaaDoor.GtW
