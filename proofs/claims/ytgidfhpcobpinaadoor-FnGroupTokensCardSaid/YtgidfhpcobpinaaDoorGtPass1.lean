/- Walks of FnGroupTokens: passes that change nothing at the law's tokens. -/
import Derived.Test.YtgidfhpcobpinaaDoorGtPass0
import Derived.Deep.AppendLies
namespace Go.Proofs.YtgidfhpcobpinaaDoor.GtW
open Go.RowKit Go.Proofs.YtgidfhpcobpinaaDoor.PFnGroupTokens Go.Proofs.YtgidfhpcobpinaaDoorW.PrintWords Go.Proofs.YtgidfhpcobpinaaDoorW.PrintLast Go.Proofs.YtgidfhpcobpinaaDoorW.PrintMore
open Go.Proofs.YtgidfhpcobpinaaDoor.AddM Go.Proofs.YtgidfhpcobpinaaDoor.GtM
attribute [local go_sem ↓] Go.wp_at_zero Go.wp_at_succ
set_option linter.unusedSimpArgs false
set_option linter.unusedVariables false

set_option maxRecDepth 100000 in
set_option maxHeartbeats 2000000 in
theorem pass29 {B0 : Nat} {w0 w : World} {tb Y bs : List Nat} {r c : Nat} {out : List Tr} {F : List Nat} (h : Lst B0 w0 w tb Y bs r c out F) (hn : bs.length ≤ 1000) :
    Calls Tryd.prog 29 #[.slice (some ⟨r, 0, none⟩) bs.length c] w fun e w' => ∃ v, e = .returned v ∧ Done B0 w0 tb Y bs.length v w' := by
  have HL := Aside0.mk h
  clear h
  have hmk := make_ptrs bs.length hn
  obtain ⟨i0, hi0, hz0, hz1, hz2⟩ := info_parts info93
  have HS0 := Aside0.mk (HL.out.start (below_alloc (Below.refl _ _) _) (by unfold maxLen; omega) (heap_alloc_new w (.cells (Array.replicate bs.length (.pointer none)) 93)))
  go_enter Tryd.func29, Tryd.ntmps29
  go_wp2
  clear hmk
  go_loopw [3, 4, 5] (fun v i _ wr => ∃ k : Nat, k ≤ bs.length ∧ i = .int .i64 k ∧ Aside0 (Sx B0 w0 w wr tb Y (bs.drop k) v k)) (fun _ i _ _ => bs.length - (intOf i).toNat)
  case atStart => exact ⟨0, by omega, rfl, HS0⟩
  case round =>
    obtain ⟨k, hk, rfl, ⟨obs, out, rem, fo, fr, hS, hm⟩⟩ := hrel
    clear HS0
    by_cases hlt : k < bs.length
    · obtain ⟨b, hb, hd⟩ := drop_cons hlt
      rw [hd] at hS
      obtain ⟨a, z, hH, hT⟩ := St.head hS HL.out.tok (j := 0) (b := b) rfl
      have hok := hT.ok
      unfold Okt at hok
      have hz9 : (z == 12) = false := by rw [beq_eq_false_iff_ne]; omega
      have rc : wr.cell? ⟨r, k, none⟩ = some (.pointer (some ⟨b, 0, none⟩)) := (St.row hS HL.out.row).cell hb
      have TY := Aside0.mk (type_any hH hT)
      have HS := Aside0.mk hS
      have hsz := hS.wz
      clear hb hd hS hH hT hok
      go_wp2_with (first | (go_at_call 49; refine TY.out.mono ?_; rintro e w' ⟨rfl, rfl⟩) | (at_builtin; refine wpList_append_lies _ (by rfl) _ _ _ (by rfl) w.heap.size 93 i0 _ 1 8 Tryd.underlying57 hi0 hz0 hz1 hz2 rfl (by omega) u3 obs.length _ (by rfl) (own_alloc (HS.out.own) _) ⟨wr.heap.size, 0, none⟩ 1 1 [.pointer (some ⟨b, 0, none⟩)] (by rfl) (by rfl) (World.news_of_block (cs := #[.pointer (some ⟨b, 0, none⟩)]) (t := 93) (fr := (0, 0)) (blk_top (by simp))) (by simp [Value.oneCell']) (by omega) (by unfold maxLen; omega) (by omega) (by simp; omega) (wr.heap.size + 1) (by simp) ?_; intro gg cap w2 hown2 hgrow hat hlt2; have HF := Aside0.mk (Sx.keep HS.out hm hgrow hown2 hat); clear hown2 hgrow hat hlt2))
      go_roundw
      case rel => exact ⟨k + 1, by omega, by go_num, HF⟩
      case measure => simp [intOf]; omega
    · obtain rfl : k = bs.length := by omega
      have HF : Aside0 (Done B0 w0 tb Y bs.length u3 wr) := ⟨Sx.done ⟨obs, out, rem, fo, fr, by rwa [List.drop_of_length_le (Nat.le_refl _)] at hS, hm⟩ (Nat.le_refl _) HL.out.tok⟩
      clear hS
      go_wp2
      go_ret
      exact ⟨_, rfl, HF.out⟩

set_option maxRecDepth 100000 in
set_option maxHeartbeats 2000000 in
theorem pass30 {B0 : Nat} {w0 w : World} {tb Y bs : List Nat} {r c : Nat} {out : List Tr} {F : List Nat} (h : Lst B0 w0 w tb Y bs r c out F) (hn : bs.length ≤ 1000) :
    Calls Tryd.prog 30 #[.slice (some ⟨r, 0, none⟩) bs.length c] w fun e w' => ∃ v, e = .returned (.tuple #[v, .nilIface]) ∧ Done B0 w0 tb Y bs.length v w' := by
  have HL := Aside0.mk h
  clear h
  have hmk := make_ptrs bs.length hn
  obtain ⟨i0, hi0, hz0, hz1, hz2⟩ := info_parts info93
  have HS0 := Aside0.mk (HL.out.start (below_alloc (Below.refl _ _) _) (by unfold maxLen; omega) (heap_alloc_new w (.cells (Array.replicate bs.length (.pointer none)) 93)))
  go_enter Tryd.func30, Tryd.ntmps30
  go_wp2
  clear hmk
  go_loopw [4, 5, 6] (fun v i _ wr => ∃ k : Nat, k ≤ bs.length ∧ i = .int .i64 k ∧ Aside0 (Sx B0 w0 w wr tb Y (bs.drop k) v k)) (fun _ i _ _ => bs.length - (intOf i).toNat)
  case atStart => exact ⟨0, by omega, rfl, HS0⟩
  case round =>
    obtain ⟨k, hk, rfl, ⟨obs, out, rem, fo, fr, hS, hm⟩⟩ := hrel
    clear HS0
    by_cases hlt : k < bs.length
    · obtain ⟨b, hb, hd⟩ := drop_cons hlt
      rw [hd] at hS
      obtain ⟨a, z, hH, hT⟩ := St.head hS HL.out.tok (j := 0) (b := b) rfl
      have hok := hT.ok
      unfold Okt at hok
      have hz9 : (z == 16) = false := by rw [beq_eq_false_iff_ne]; omega
      have hz10 : (z == 17) = false := by rw [beq_eq_false_iff_ne]; omega
      have rc : wr.cell? ⟨r, k, none⟩ = some (.pointer (some ⟨b, 0, none⟩)) := (St.row hS HL.out.row).cell hb
      have TY := Aside0.mk (type_any hH hT)
      have HS := Aside0.mk hS
      have hsz := hS.wz
      clear hb hd hS hH hT hok
      go_wp2_with (first | (go_at_call 49; refine TY.out.mono ?_; rintro e w' ⟨rfl, rfl⟩) | (at_builtin; refine wpList_append_lies _ (by rfl) _ _ _ (by rfl) w.heap.size 93 i0 _ 1 8 Tryd.underlying57 hi0 hz0 hz1 hz2 rfl (by omega) u4 obs.length _ (by rfl) (own_alloc (HS.out.own) _) ⟨wr.heap.size, 0, none⟩ 1 1 [.pointer (some ⟨b, 0, none⟩)] (by rfl) (by rfl) (World.news_of_block (cs := #[.pointer (some ⟨b, 0, none⟩)]) (t := 93) (fr := (0, 0)) (blk_top (by simp))) (by simp [Value.oneCell']) (by omega) (by unfold maxLen; omega) (by omega) (by simp; omega) (wr.heap.size + 1) (by simp) ?_; intro gg cap w2 hown2 hgrow hat hlt2; have HF := Aside0.mk (Sx.keep HS.out hm hgrow hown2 hat); clear hown2 hgrow hat hlt2))
      go_roundw
      case rel => exact ⟨k + 1, by omega, by go_num, HF⟩
      case measure => simp [intOf]; omega
    · obtain rfl : k = bs.length := by omega
      have HF : Aside0 (Done B0 w0 tb Y bs.length u4 wr) := ⟨Sx.done ⟨obs, out, rem, fo, fr, by rwa [List.drop_of_length_le (Nat.le_refl _)] at hS, hm⟩ (Nat.le_refl _) HL.out.tok⟩
      clear hS
      go_wp2
      go_ret2
      exact ⟨_, rfl, HF.out⟩

set_option maxRecDepth 100000 in
set_option maxHeartbeats 2000000 in
theorem pass57 {B0 : Nat} {w0 w : World} {tb Y bs : List Nat} {r c : Nat} {out : List Tr} {F : List Nat} (h : Lst B0 w0 w tb Y bs r c out F) (hn : bs.length ≤ 1000) :
    Calls Tryd.prog 57 #[.slice (some ⟨r, 0, none⟩) bs.length c] w fun e w' => ∃ v, e = .returned (.tuple #[v, .nilIface]) ∧ Done B0 w0 tb Y bs.length v w' := by
  have HL := Aside0.mk h
  clear h
  have hmk := make_ptrs bs.length hn
  obtain ⟨i0, hi0, hz0, hz1, hz2⟩ := info_parts info93
  have HS0 := Aside0.mk (HL.out.start (below_alloc (Below.refl _ _) _) (by unfold maxLen; omega) (heap_alloc_new w (.cells (Array.replicate bs.length (.pointer none)) 93)))
  go_enter Tryd.func57, Tryd.ntmps57
  go_wp2
  clear hmk
  go_loopw [4, 5, 6] (fun v i _ wr => ∃ k : Nat, k ≤ bs.length ∧ i = .int .i64 k ∧ Aside0 (Sx B0 w0 w wr tb Y (bs.drop k) v k)) (fun _ i _ _ => bs.length - (intOf i).toNat)
  case atStart => exact ⟨0, by omega, rfl, HS0⟩
  case round =>
    obtain ⟨k, hk, rfl, ⟨obs, out, rem, fo, fr, hS, hm⟩⟩ := hrel
    clear HS0
    by_cases hlt : k < bs.length
    · obtain ⟨b, hb, hd⟩ := drop_cons hlt
      rw [hd] at hS
      obtain ⟨a, z, hH, hT⟩ := St.head hS HL.out.tok (j := 0) (b := b) rfl
      have hok := hT.ok
      unfold Okt at hok
      have hz9 : (z == 4) = false := by rw [beq_eq_false_iff_ne]; omega
      have rc : wr.cell? ⟨r, k, none⟩ = some (.pointer (some ⟨b, 0, none⟩)) := (St.row hS HL.out.row).cell hb
      have TY := Aside0.mk (type_any hH hT)
      have HS := Aside0.mk hS
      have hsz := hS.wz
      clear hb hd hS hH hT hok
      go_wp2_with (first | (go_at_call 49; refine TY.out.mono ?_; rintro e w' ⟨rfl, rfl⟩) | (at_builtin; refine wpList_append_lies _ (by rfl) _ _ _ (by rfl) w.heap.size 93 i0 _ 1 8 Tryd.underlying57 hi0 hz0 hz1 hz2 rfl (by omega) u4 obs.length _ (by rfl) (own_alloc (HS.out.own) _) ⟨wr.heap.size, 0, none⟩ 1 1 [.pointer (some ⟨b, 0, none⟩)] (by rfl) (by rfl) (World.news_of_block (cs := #[.pointer (some ⟨b, 0, none⟩)]) (t := 93) (fr := (0, 0)) (blk_top (by simp))) (by simp [Value.oneCell']) (by omega) (by unfold maxLen; omega) (by omega) (by simp; omega) (wr.heap.size + 1) (by simp) ?_; intro gg cap w2 hown2 hgrow hat hlt2; have HF := Aside0.mk (Sx.keep HS.out hm hgrow hown2 hat); clear hown2 hgrow hat hlt2))
      go_roundw
      case rel => exact ⟨k + 1, by omega, by go_num, HF⟩
      case measure => simp [intOf]; omega
    · obtain rfl : k = bs.length := by omega
      have HF : Aside0 (Done B0 w0 tb Y bs.length u4 wr) := ⟨Sx.done ⟨obs, out, rem, fo, fr, by rwa [List.drop_of_length_le (Nat.le_refl _)] at hS, hm⟩ (Nat.le_refl _) HL.out.tok⟩
      clear hS
      go_wp2
      go_ret2
      exact ⟨_, rfl, HF.out⟩

set_option maxRecDepth 100000 in
set_option maxHeartbeats 2000000 in
theorem pass36 {B0 : Nat} {w0 w : World} {tb Y bs : List Nat} {r c : Nat} {out : List Tr} {F : List Nat} (h : Lst B0 w0 w tb Y bs r c out F) (hn : bs.length ≤ 1000) :
    Calls Tryd.prog 36 #[.slice (some ⟨r, 0, none⟩) bs.length c] w fun e w' => ∃ v, e = .returned (.tuple #[v, .nilIface]) ∧ Done B0 w0 tb Y bs.length v w' := by
  have HL := Aside0.mk h
  clear h
  have hmk := make_ptrs bs.length hn
  obtain ⟨i0, hi0, hz0, hz1, hz2⟩ := info_parts info93
  have HS0 := Aside0.mk (HL.out.start (below_alloc (Below.refl _ _) _) (by unfold maxLen; omega) (heap_alloc_new w (.cells (Array.replicate bs.length (.pointer none)) 93)))
  go_enter Tryd.func36, Tryd.ntmps36
  go_wp2
  clear hmk
  go_loopw [4, 5, 6] (fun v i _ wr => ∃ k : Nat, k ≤ bs.length ∧ i = .int .i64 k ∧ Aside0 (Sx B0 w0 w wr tb Y (bs.drop k) v k)) (fun _ i _ _ => bs.length - (intOf i).toNat)
  case atStart => exact ⟨0, by omega, rfl, HS0⟩
  case round =>
    obtain ⟨k, hk, rfl, ⟨obs, out, rem, fo, fr, hS, hm⟩⟩ := hrel
    clear HS0
    by_cases hlt : k < bs.length
    · obtain ⟨b, hb, hd⟩ := drop_cons hlt
      rw [hd] at hS
      obtain ⟨a, z, hH, hT⟩ := St.head hS HL.out.tok (j := 0) (b := b) rfl
      have hok := hT.ok
      unfold Okt at hok
      have hz9 : (z == 20) = false := by rw [beq_eq_false_iff_ne]; omega
      have rc : wr.cell? ⟨r, k, none⟩ = some (.pointer (some ⟨b, 0, none⟩)) := (St.row hS HL.out.row).cell hb
      have TY := Aside0.mk (type_any hH hT)
      have HS := Aside0.mk hS
      have hsz := hS.wz
      clear hb hd hS hH hT hok
      go_wp2_with (first | (go_at_call 49; refine TY.out.mono ?_; rintro e w' ⟨rfl, rfl⟩) | (at_builtin; refine wpList_append_lies _ (by rfl) _ _ _ (by rfl) w.heap.size 93 i0 _ 1 8 Tryd.underlying57 hi0 hz0 hz1 hz2 rfl (by omega) u4 obs.length _ (by rfl) (own_alloc (HS.out.own) _) ⟨wr.heap.size, 0, none⟩ 1 1 [.pointer (some ⟨b, 0, none⟩)] (by rfl) (by rfl) (World.news_of_block (cs := #[.pointer (some ⟨b, 0, none⟩)]) (t := 93) (fr := (0, 0)) (blk_top (by simp))) (by simp [Value.oneCell']) (by omega) (by unfold maxLen; omega) (by omega) (by simp; omega) (wr.heap.size + 1) (by simp) ?_; intro gg cap w2 hown2 hgrow hat hlt2; have HF := Aside0.mk (Sx.keep HS.out hm hgrow hown2 hat); clear hown2 hgrow hat hlt2))
      go_roundw
      case rel => exact ⟨k + 1, by omega, by go_num, HF⟩
      case measure => simp [intOf]; omega
    · obtain rfl : k = bs.length := by omega
      have HF : Aside0 (Done B0 w0 tb Y bs.length u4 wr) := ⟨Sx.done ⟨obs, out, rem, fo, fr, by rwa [List.drop_of_length_le (Nat.le_refl _)] at hS, hm⟩ (Nat.le_refl _) HL.out.tok⟩
      clear hS
      go_wp2
      go_ret2
      exact ⟨_, rfl, HF.out⟩

end Go.Proofs.YtgidfhpcobpinaaDoor.GtW
