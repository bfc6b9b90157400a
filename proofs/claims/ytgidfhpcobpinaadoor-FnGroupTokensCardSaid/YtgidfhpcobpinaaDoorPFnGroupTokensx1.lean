-- PRINTED BY print.sh 35421559b90ae4d0a3588c463048766b98c2df88dd9212a6774a882060cdf62d: not written by this session
import Derived.Test.YtgidfhpcobpinaaDoorPFnGroupTokensx0
namespace Go.Proofs.YtgidfhpcobpinaaDoor.PFnGroupTokens
open Go.RowKit Go.Proofs.YtgidfhpcobpinaaDoorW.PrintWords Go.Proofs.YtgidfhpcobpinaaDoorW.PrintLast Go.Proofs.YtgidfhpcobpinaaDoorW.PrintMore
attribute [local go_sem] max2_int min2_int max_two min_two max_three min_three max_four min_four   -- for this text's walks alone
set_option linter.unusedVariables false
set_option linter.unusedSimpArgs false

/-! ### laws_trTokens: function 9 -/
def laws_trTokens.l0 : Nat → List Int → List (S29) → List ByteArray → Int → Option ((List (S29)))
  | 0, _, _, _, _ => none
  | k + 1, x0, x3, x4, x5 => if x5 < (x0.length : Int) then (if x5 < 16 then ((some (([31, 5, 3, 13, 14, 15, 18, 19, 26, 22, 7, 31, 5, 31] : List Int) : List Int)).bind fun y104 => (if 0 ≤ x5 then (if 0 ≤ (Int.tmod (wrap64 (rd x0 x5)) 14) then (if (Int.tmod (wrap64 (rd x0 x5)) 14) < (y104.length : Int) then (if 0 ≤ (rd y104 (Int.tmod (wrap64 (rd x0 x5)) 14)) then (if (rd y104 (Int.tmod (wrap64 (rd x0 x5)) 14)) < (x4.length : Int) then (if x3.length < 1099511627776 then (laws_trTokens.l0 k x0 (x3 ++ [(⟨rd y104 (Int.tmod (wrap64 (rd x0 x5)) 14), 0, 0, rdOf ByteArray.empty x4 (rd y104 (Int.tmod (wrap64 (rd x0 x5)) 14)), rdOf ByteArray.empty x4 (rd y104 (Int.tmod (wrap64 (rd x0 x5)) 14)), (⟨#[]⟩ : ByteArray), (⟨1, wrap64 (1 + x5), wrap64 (1 + x5), 0, 0⟩ : S27), wrap64 (x5 - 1), wrap64 (x5 + 1)⟩ : S29)]) x4 (wrap64 (x5 + 1))) else (none)) else (none)) else (none)) else (none)) else (none)) else (none))) else (some x3)) else (some x3)
def laws_trTokens.f (k : Nat) (l0 : List Int) : Option ((List (S29))) := laws_trTokens.l0 k l0 ([] : List (S29)) (([(⟨#[]⟩ : ByteArray), (⟨#[45, 45, 45]⟩ : ByteArray), (⟨#[46, 46, 46]⟩ : ByteArray), (⟨#[45]⟩ : ByteArray), (⟨#[63]⟩ : ByteArray), (⟨#[58]⟩ : ByteArray), (⟨#[60, 60]⟩ : ByteArray), (⟨#[44]⟩ : ByteArray), (⟨#[91]⟩ : ByteArray), (⟨#[93]⟩ : ByteArray), (⟨#[123]⟩ : ByteArray), (⟨#[125]⟩ : ByteArray), (⟨#[35, 32, 99]⟩ : ByteArray), (⟨#[38]⟩ : ByteArray), (⟨#[42]⟩ : ByteArray), (⟨#[33, 116]⟩ : ByteArray), (⟨#[124]⟩ : ByteArray), (⟨#[62]⟩ : ByteArray), (⟨#[113]⟩ : ByteArray), (⟨#[100]⟩ : ByteArray), (⟨#[37]⟩ : ByteArray), (⟨#[32]⟩ : ByteArray), (⟨#[110, 117, 108, 108]⟩ : ByteArray), (⟨#[]⟩ : ByteArray), (⟨#[46, 105, 110, 102]⟩ : ByteArray), (⟨#[46, 110, 97, 110]⟩ : ByteArray), (⟨#[49]⟩ : ByteArray), (⟨#[48, 98, 49]⟩ : ByteArray), (⟨#[48, 111, 49]⟩ : ByteArray), (⟨#[48, 120, 49]⟩ : ByteArray), (⟨#[49, 46, 53]⟩ : ByteArray), (⟨#[115]⟩ : ByteArray), (⟨#[116, 114, 117, 101]⟩ : ByteArray)] : List ByteArray)) 0
theorem laws_trTokens.mono_l : ∀ k, (∀ y0 y1 y2 y3, LeO (laws_trTokens.l0 k y0 y1 y2 y3) (laws_trTokens.l0 (k + 1) y0 y1 y2 y3))
  | 0 => fun _ _ _ _ r h => by simp [laws_trTokens.l0] at h
  | k + 1 => by
    have ih0 := laws_trTokens.mono_l k
    · intro y0 y1 y2 y3
      unfold laws_trTokens.l0
      repeat' first
      | (with_reducible exact ih0 _ _ _ _)
      | (with_reducible exact LeO.refl _)
      | (with_reducible exact LeO.none _)
      | (with_reducible refine LeO.ite ?_ ?_)
      | (with_reducible refine LeO.bind ?_ (fun _ => ?_))
      | exact ih0 _ _ _ _
      | exact LeO.none _
      | refine LeO.ite ?_ ?_
      | refine LeO.bind ?_ (fun _ => ?_)
theorem laws_trTokens.mono : ∀ a0 k, LeO (laws_trTokens.f k a0) (laws_trTokens.f (k + 1) a0) := by
  intro a0 k
  have ih0 := laws_trTokens.mono_l k
  unfold laws_trTokens.f
  repeat' first
      | (with_reducible exact ih0 _ _ _ _)
      | (with_reducible exact LeO.refl _)
      | (with_reducible exact LeO.none _)
      | (with_reducible refine LeO.ite ?_ ?_)
      | (with_reducible refine LeO.bind ?_ (fun _ => ?_))
      | exact ih0 _ _ _ _
      | exact LeO.none _
      | refine LeO.ite ?_ ?_
      | refine LeO.bind ?_ (fun _ => ?_)
def laws_trTokens.T7 : Bool × List (List Nat × List Nat) := (true, [([], []), ([], []), ([], []), ([], []), ([2, 3], [2, 3]), ([4], [4]), ([], []), ([], []), ([6, 7], [6, 7]), ([8], [8]), ([], []), ([10], [10]), ([], []), ([12], [12]), ([11, 13], [11, 13]), ([], []), ([15], [15]), ([], []), ([17], [17]), ([1, 5, 9, 14, 16, 18], [1, 5, 9, 14, 16, 18]), ([19], [19]), ([0, 20], [0, 20]), ([21, 21, 0, 1, 2, 3, 4, 5, 6, 7, 8, 9, 10, 11, 12, 13, 14, 15, 16, 17, 18, 19, 20, 21], [0, 21])])
def laws_trTokens.B7 : List Nat := [0, 0, 0, 0, 12, 28, 0, 0, 192, 448, 0, 1024, 0, 4096, 15360, 0, 32768, 0, 131072, 524286, 1048574, 2097151, 4194303]
theorem laws_trTokens.tab7 : rtab .any (opsOf Tryd.f9 7) = laws_trTokens.T7 := by kernel_rfl
theorem laws_trTokens.bits7 : waitsOk laws_trTokens.T7.2 laws_trTokens.B7 = true := by kernel_rfl
set_option maxHeartbeats 8000000 in
set_option maxRecDepth 100000 in
theorem laws_trTokens.calls (k : Nat) (A0 : Option Addr) (c0 : Nat) (l0 : List Int) (r : List (S29)) (w : World) (hr0 : Kd.C (Kd.int .u8) w A0 l0.length l0) (hc0 : l0.length ≤ c0) (h : laws_trTokens.f k l0 = some r) :
    Calls Tryd.prog 9 #[.slice A0 l0.length c0] w fun e w' => ∃ v0_ : Value, e = .returned (v0_) ∧ Kd.R k29 29 w' w.heap.size (fun _ => True) v0_ r ∧ Below w.heap.size w w' := by
  have hu27 := Tryd.underlying27
  have hu29 := Tryd.underlying29
  have HR0 := Aside0.mk hr0
  have HC0 := Aside0.mk hc0
  clear hr0 hc0
  have HB := Aside0.mk (Below.refl w.heap.size w)
  have H : (laws_trTokens.l0 k l0 ([] : List (S29)) (([(⟨#[]⟩ : ByteArray), (⟨#[45, 45, 45]⟩ : ByteArray), (⟨#[46, 46, 46]⟩ : ByteArray), (⟨#[45]⟩ : ByteArray), (⟨#[63]⟩ : ByteArray), (⟨#[58]⟩ : ByteArray), (⟨#[60, 60]⟩ : ByteArray), (⟨#[44]⟩ : ByteArray), (⟨#[91]⟩ : ByteArray), (⟨#[93]⟩ : ByteArray), (⟨#[123]⟩ : ByteArray), (⟨#[125]⟩ : ByteArray), (⟨#[35, 32, 99]⟩ : ByteArray), (⟨#[38]⟩ : ByteArray), (⟨#[42]⟩ : ByteArray), (⟨#[33, 116]⟩ : ByteArray), (⟨#[124]⟩ : ByteArray), (⟨#[62]⟩ : ByteArray), (⟨#[113]⟩ : ByteArray), (⟨#[100]⟩ : ByteArray), (⟨#[37]⟩ : ByteArray), (⟨#[32]⟩ : ByteArray), (⟨#[110, 117, 108, 108]⟩ : ByteArray), (⟨#[]⟩ : ByteArray), (⟨#[46, 105, 110, 102]⟩ : ByteArray), (⟨#[46, 110, 97, 110]⟩ : ByteArray), (⟨#[49]⟩ : ByteArray), (⟨#[48, 98, 49]⟩ : ByteArray), (⟨#[48, 111, 49]⟩ : ByteArray), (⟨#[48, 120, 49]⟩ : ByteArray), (⟨#[49, 46, 53]⟩ : ByteArray), (⟨#[115]⟩ : ByteArray), (⟨#[116, 114, 117, 101]⟩ : ByteArray)] : List ByteArray)) 0) = some r := h
  clear h
  obtain ⟨y101, hy101⟩ : ∃ y_ : List ByteArray, y_ = (([(⟨#[]⟩ : ByteArray), (⟨#[45, 45, 45]⟩ : ByteArray), (⟨#[46, 46, 46]⟩ : ByteArray), (⟨#[45]⟩ : ByteArray), (⟨#[63]⟩ : ByteArray), (⟨#[58]⟩ : ByteArray), (⟨#[60, 60]⟩ : ByteArray), (⟨#[44]⟩ : ByteArray), (⟨#[91]⟩ : ByteArray), (⟨#[93]⟩ : ByteArray), (⟨#[123]⟩ : ByteArray), (⟨#[125]⟩ : ByteArray), (⟨#[35, 32, 99]⟩ : ByteArray), (⟨#[38]⟩ : ByteArray), (⟨#[42]⟩ : ByteArray), (⟨#[33, 116]⟩ : ByteArray), (⟨#[124]⟩ : ByteArray), (⟨#[62]⟩ : ByteArray), (⟨#[113]⟩ : ByteArray), (⟨#[100]⟩ : ByteArray), (⟨#[37]⟩ : ByteArray), (⟨#[32]⟩ : ByteArray), (⟨#[110, 117, 108, 108]⟩ : ByteArray), (⟨#[]⟩ : ByteArray), (⟨#[46, 105, 110, 102]⟩ : ByteArray), (⟨#[46, 110, 97, 110]⟩ : ByteArray), (⟨#[49]⟩ : ByteArray), (⟨#[48, 98, 49]⟩ : ByteArray), (⟨#[48, 111, 49]⟩ : ByteArray), (⟨#[48, 120, 49]⟩ : ByteArray), (⟨#[49, 46, 53]⟩ : ByteArray), (⟨#[115]⟩ : ByteArray), (⟨#[116, 114, 117, 101]⟩ : ByteArray)] : List ByteArray)) := ⟨_, rfl⟩
  replace H : (laws_trTokens.l0 k l0 ([] : List (S29)) y101 0) = some r := by first | (rw [hy101]; with_reducible exact H) | (have H2_ := (Option.bind_some _ _).symm.trans H; rw [hy101]; with_reducible exact H2_) | (have H2_ := (Option.bind_some _ _).symm.trans H; with_reducible exact H2_) | with_reducible exact H | (rw [hy101]; exact H) | exact H
  have Ny101 := Aside0.mk hy101
  clear hy101
  have H' := Aside0.mk H
  clear H
  go_enter Tryd.func9, Tryd.ntmps9
  go_wp2_with (first | ((with_reducible refine gate_dst (N := 7) rfl ?_); refine Kd.R_lit Kd.string _ 9 ?hg (N := 7) ?hd (xs := ([(⟨#[]⟩ : ByteArray), (⟨#[45, 45, 45]⟩ : ByteArray), (⟨#[46, 46, 46]⟩ : ByteArray), (⟨#[45]⟩ : ByteArray), (⟨#[63]⟩ : ByteArray), (⟨#[58]⟩ : ByteArray), (⟨#[60, 60]⟩ : ByteArray), (⟨#[44]⟩ : ByteArray), (⟨#[91]⟩ : ByteArray), (⟨#[93]⟩ : ByteArray), (⟨#[123]⟩ : ByteArray), (⟨#[125]⟩ : ByteArray), (⟨#[35, 32, 99]⟩ : ByteArray), (⟨#[38]⟩ : ByteArray), (⟨#[42]⟩ : ByteArray), (⟨#[33, 116]⟩ : ByteArray), (⟨#[124]⟩ : ByteArray), (⟨#[62]⟩ : ByteArray), (⟨#[113]⟩ : ByteArray), (⟨#[100]⟩ : ByteArray), (⟨#[37]⟩ : ByteArray), (⟨#[32]⟩ : ByteArray), (⟨#[110, 117, 108, 108]⟩ : ByteArray), (⟨#[]⟩ : ByteArray), (⟨#[46, 105, 110, 102]⟩ : ByteArray), (⟨#[46, 110, 97, 110]⟩ : ByteArray), (⟨#[49]⟩ : ByteArray), (⟨#[48, 98, 49]⟩ : ByteArray), (⟨#[48, 111, 49]⟩ : ByteArray), (⟨#[48, 120, 49]⟩ : ByteArray), (⟨#[49, 46, 53]⟩ : ByteArray), (⟨#[115]⟩ : ByteArray), (⟨#[116, 114, 117, 101]⟩ : ByteArray)] : List ByteArray)) (inner := [.string (⟨#[]⟩ : ByteArray), .string (⟨#[45, 45, 45]⟩ : ByteArray), .string (⟨#[46, 46, 46]⟩ : ByteArray), .string (⟨#[45]⟩ : ByteArray), .string (⟨#[63]⟩ : ByteArray), .string (⟨#[58]⟩ : ByteArray), .string (⟨#[60, 60]⟩ : ByteArray), .string (⟨#[44]⟩ : ByteArray), .string (⟨#[91]⟩ : ByteArray), .string (⟨#[93]⟩ : ByteArray), .string (⟨#[123]⟩ : ByteArray), .string (⟨#[125]⟩ : ByteArray), .string (⟨#[35, 32, 99]⟩ : ByteArray), .string (⟨#[38]⟩ : ByteArray), .string (⟨#[42]⟩ : ByteArray), .string (⟨#[33, 116]⟩ : ByteArray), .string (⟨#[124]⟩ : ByteArray), .string (⟨#[62]⟩ : ByteArray), .string (⟨#[113]⟩ : ByteArray), .string (⟨#[100]⟩ : ByteArray), .string (⟨#[37]⟩ : ByteArray), .string (⟨#[32]⟩ : ByteArray), .string (⟨#[110, 117, 108, 108]⟩ : ByteArray), .string (⟨#[]⟩ : ByteArray), .string (⟨#[46, 105, 110, 102]⟩ : ByteArray), .string (⟨#[46, 110, 97, 110]⟩ : ByteArray), .string (⟨#[49]⟩ : ByteArray), .string (⟨#[48, 98, 49]⟩ : ByteArray), .string (⟨#[48, 111, 49]⟩ : ByteArray), .string (⟨#[48, 120, 49]⟩ : ByteArray), .string (⟨#[49, 46, 53]⟩ : ByteArray), .string (⟨#[115]⟩ : ByteArray), .string (⟨#[116, 114, 117, 101]⟩ : ByteArray)]) (ok := fun _ => True) (okp := fun _ => True) ?hr ?hp (fun _ hk => hk) trivial (Below.refl _ _) (Nat.le_refl _) (by simp) ?_; (case hd => rfl); (case hg => rfl); (case hr => first | (go_simp; done) | (go_simp; rfl)); (case hp => exact (Reps.one (show Kd.M Kd.string _ _ _ (⟨#[]⟩ : ByteArray) [.string (⟨#[]⟩ : ByteArray)] from rfl) (Reps.one (show Kd.M Kd.string _ _ _ (⟨#[45, 45, 45]⟩ : ByteArray) [.string (⟨#[45, 45, 45]⟩ : ByteArray)] from rfl) (Reps.one (show Kd.M Kd.string _ _ _ (⟨#[46, 46, 46]⟩ : ByteArray) [.string (⟨#[46, 46, 46]⟩ : ByteArray)] from rfl) (Reps.one (show Kd.M Kd.string _ _ _ (⟨#[45]⟩ : ByteArray) [.string (⟨#[45]⟩ : ByteArray)] from rfl) (Reps.one (show Kd.M Kd.string _ _ _ (⟨#[63]⟩ : ByteArray) [.string (⟨#[63]⟩ : ByteArray)] from rfl) (Reps.one (show Kd.M Kd.string _ _ _ (⟨#[58]⟩ : ByteArray) [.string (⟨#[58]⟩ : ByteArray)] from rfl) (Reps.one (show Kd.M Kd.string _ _ _ (⟨#[60, 60]⟩ : ByteArray) [.string (⟨#[60, 60]⟩ : ByteArray)] from rfl) (Reps.one (show Kd.M Kd.string _ _ _ (⟨#[44]⟩ : ByteArray) [.string (⟨#[44]⟩ : ByteArray)] from rfl) (Reps.one (show Kd.M Kd.string _ _ _ (⟨#[91]⟩ : ByteArray) [.string (⟨#[91]⟩ : ByteArray)] from rfl) (Reps.one (show Kd.M Kd.string _ _ _ (⟨#[93]⟩ : ByteArray) [.string (⟨#[93]⟩ : ByteArray)] from rfl) (Reps.one (show Kd.M Kd.string _ _ _ (⟨#[123]⟩ : ByteArray) [.string (⟨#[123]⟩ : ByteArray)] from rfl) (Reps.one (show Kd.M Kd.string _ _ _ (⟨#[125]⟩ : ByteArray) [.string (⟨#[125]⟩ : ByteArray)] from rfl) (Reps.one (show Kd.M Kd.string _ _ _ (⟨#[35, 32, 99]⟩ : ByteArray) [.string (⟨#[35, 32, 99]⟩ : ByteArray)] from rfl) (Reps.one (show Kd.M Kd.string _ _ _ (⟨#[38]⟩ : ByteArray) [.string (⟨#[38]⟩ : ByteArray)] from rfl) (Reps.one (show Kd.M Kd.string _ _ _ (⟨#[42]⟩ : ByteArray) [.string (⟨#[42]⟩ : ByteArray)] from rfl) (Reps.one (show Kd.M Kd.string _ _ _ (⟨#[33, 116]⟩ : ByteArray) [.string (⟨#[33, 116]⟩ : ByteArray)] from rfl) (Reps.one (show Kd.M Kd.string _ _ _ (⟨#[124]⟩ : ByteArray) [.string (⟨#[124]⟩ : ByteArray)] from rfl) (Reps.one (show Kd.M Kd.string _ _ _ (⟨#[62]⟩ : ByteArray) [.string (⟨#[62]⟩ : ByteArray)] from rfl) (Reps.one (show Kd.M Kd.string _ _ _ (⟨#[113]⟩ : ByteArray) [.string (⟨#[113]⟩ : ByteArray)] from rfl) (Reps.one (show Kd.M Kd.string _ _ _ (⟨#[100]⟩ : ByteArray) [.string (⟨#[100]⟩ : ByteArray)] from rfl) (Reps.one (show Kd.M Kd.string _ _ _ (⟨#[37]⟩ : ByteArray) [.string (⟨#[37]⟩ : ByteArray)] from rfl) (Reps.one (show Kd.M Kd.string _ _ _ (⟨#[32]⟩ : ByteArray) [.string (⟨#[32]⟩ : ByteArray)] from rfl) (Reps.one (show Kd.M Kd.string _ _ _ (⟨#[110, 117, 108, 108]⟩ : ByteArray) [.string (⟨#[110, 117, 108, 108]⟩ : ByteArray)] from rfl) (Reps.one (show Kd.M Kd.string _ _ _ (⟨#[]⟩ : ByteArray) [.string (⟨#[]⟩ : ByteArray)] from rfl) (Reps.one (show Kd.M Kd.string _ _ _ (⟨#[46, 105, 110, 102]⟩ : ByteArray) [.string (⟨#[46, 105, 110, 102]⟩ : ByteArray)] from rfl) (Reps.one (show Kd.M Kd.string _ _ _ (⟨#[46, 110, 97, 110]⟩ : ByteArray) [.string (⟨#[46, 110, 97, 110]⟩ : ByteArray)] from rfl) (Reps.one (show Kd.M Kd.string _ _ _ (⟨#[49]⟩ : ByteArray) [.string (⟨#[49]⟩ : ByteArray)] from rfl) (Reps.one (show Kd.M Kd.string _ _ _ (⟨#[48, 98, 49]⟩ : ByteArray) [.string (⟨#[48, 98, 49]⟩ : ByteArray)] from rfl) (Reps.one (show Kd.M Kd.string _ _ _ (⟨#[48, 111, 49]⟩ : ByteArray) [.string (⟨#[48, 111, 49]⟩ : ByteArray)] from rfl) (Reps.one (show Kd.M Kd.string _ _ _ (⟨#[48, 120, 49]⟩ : ByteArray) [.string (⟨#[48, 120, 49]⟩ : ByteArray)] from rfl) (Reps.one (show Kd.M Kd.string _ _ _ (⟨#[49, 46, 53]⟩ : ByteArray) [.string (⟨#[49, 46, 53]⟩ : ByteArray)] from rfl) (Reps.one (show Kd.M Kd.string _ _ _ (⟨#[115]⟩ : ByteArray) [.string (⟨#[115]⟩ : ByteArray)] from rfl) (Reps.one (show Kd.M Kd.string _ _ _ (⟨#[116, 114, 117, 101]⟩ : ByteArray) [.string (⟨#[116, 114, 117, 101]⟩ : ByteArray)] from rfl) (Reps.none _ _))))))))))))))))))))))))))))))))))); intro v102 w2 ho3 hb hg_ hnew_; clear hg_ hnew_; (first | rw [← Ny101.out] at ho3 | (simp only [Int.reduceToNat] at ho3; rw [← Ny101.out] at ho3)); have n0_ := Aside0.mk (Kd.R_lower ho3 (below_size (by repeat (first | (with_reducible first | exact HB.out | apply below_alloc | apply pw_below_drewN | apply below_drew1) | exact HB.out)))); have n1_ := Aside0.mk (below_step (by repeat (first | (with_reducible first | exact HB.out | apply below_alloc | apply pw_below_drewN | apply below_drew1) | exact HB.out)) hb); clear HB; have HO103 := n0_; have HB := n1_; clear n0_ n1_; clear hb ho3))
  go_loopg [3, 5] k (fun kq v3 v5 w' => ∃ (x3_1 : List (S29)) (x5_1 : Int), v5 = .int .i64 x5_1 ∧ Aside0 (laws_trTokens.l0 kq l0 x3_1 y101 x5_1 = some r) ∧ Aside0 (kq ≤ k) ∧ Aside0 (Kd.R k29 29 w' w.heap.size (fun _ => True) v3 x3_1) ∧ Aside0 (Kd.R Kd.string 9 w' w.heap.size (fun _ => True) v102 y101) ∧ Aside0 (Below w.heap.size w w'))
  case atStart => exact ⟨(([] : List (S29))), (0), (by first | rfl | (simp; done) | (simp [*]; done)), H', ⟨Nat.le_refl _⟩, ⟨by first | exact Kd.R_nil _ _ _ _ _ | exact Kd.N_nil _ _ _ _ _ | exact Kd.V_nil _ _ _ _ _ | exact Kd.Q_nil _ _ _ _ _ | exact Kd.S_nil _ _ _ _ _⟩, ⟨by (with_reducible repeat (first | apply Kd.R_alloc | apply Kd.R_drewN | apply Kd.R_drew)); exact HO103.out⟩, ⟨by repeat (first | (with_reducible first | exact HB.out | apply below_alloc | apply pw_below_drewN | apply below_drew1) | exact HB.out)⟩⟩
  case round =>
    clear H'
    try clear p2
    obtain ⟨x3_1, x5_1, rfl, HA, HK1, HO_3, HO_4, HB⟩ := hrel
    cases gk with
    | zero => exact absurd HA.out (by simp [laws_trTokens.l0])
    | succ k1 =>
      have H := HA.out
      clear HA
      simp only [laws_trTokens.l0] at H
      by_cases c4 : x5_1 < (l0.length : Int)
      · rw [if_pos c4] at H
        have c4b0 : decide (x5_1 < (l0.length : Int)) = true := decide_eq_true c4
        clear c4
        by_cases c5 : x5_1 < 16
        · rw [if_pos c5] at H
          have c5b0 : decide (x5_1 < 16) = true := decide_eq_true c5
          clear c5
          obtain ⟨y104, hy104⟩ : ∃ y_ : List Int, y_ = (([31, 5, 3, 13, 14, 15, 18, 19, 26, 22, 7, 31, 5, 31] : List Int)) := ⟨_, rfl⟩
          replace H : (if 0 ≤ x5_1 then (if 0 ≤ (Int.tmod (wrap64 (rd l0 x5_1)) 14) then (if (Int.tmod (wrap64 (rd l0 x5_1)) 14) < (y104.length : Int) then (if 0 ≤ (rd y104 (Int.tmod (wrap64 (rd l0 x5_1)) 14)) then (if (rd y104 (Int.tmod (wrap64 (rd l0 x5_1)) 14)) < (y101.length : Int) then (if x3_1.length < 1099511627776 then (laws_trTokens.l0 k1 l0 (x3_1 ++ [(⟨rd y104 (Int.tmod (wrap64 (rd l0 x5_1)) 14), 0, 0, rdOf ByteArray.empty y101 (rd y104 (Int.tmod (wrap64 (rd l0 x5_1)) 14)), rdOf ByteArray.empty y101 (rd y104 (Int.tmod (wrap64 (rd l0 x5_1)) 14)), (⟨#[]⟩ : ByteArray), (⟨1, wrap64 (1 + x5_1), wrap64 (1 + x5_1), 0, 0⟩ : S27), wrap64 (x5_1 - 1), wrap64 (x5_1 + 1)⟩ : S29)]) y101 (wrap64 (x5_1 + 1))) else (none)) else (none)) else (none)) else (none)) else (none)) else (none)) = some r := by first | (rw [hy104]; with_reducible exact H) | (have H2_ := (Option.bind_some _ _).symm.trans H; rw [hy104]; with_reducible exact H2_) | (have H2_ := (Option.bind_some _ _).symm.trans H; with_reducible exact H2_) | with_reducible exact H | (rw [hy104]; exact H) | exact H
          have Ny104 := Aside0.mk hy104
          clear hy104
          by_cases c6 : 0 ≤ x5_1
          · rw [if_pos c6] at H
            have c6b0 : decide (0 ≤ x5_1) = true := decide_eq_true c6
            clear c6
            obtain ⟨ji7, hji7⟩ : ∃ j_ : Int, (Int.tmod (wrap64 (rd l0 x5_1)) 14) = j_ := ⟨_, rfl⟩
            replace H : (if 0 ≤ (ji7) then (if (ji7) < (y104.length : Int) then (if 0 ≤ (rd y104 (ji7)) then (if (rd y104 (ji7)) < (y101.length : Int) then (if x3_1.length < 1099511627776 then (laws_trTokens.l0 k1 l0 (x3_1 ++ [(⟨rd y104 (ji7), 0, 0, rdOf ByteArray.empty y101 (rd y104 (ji7)), rdOf ByteArray.empty y101 (rd y104 (ji7)), (⟨#[]⟩ : ByteArray), (⟨1, wrap64 (1 + x5_1), wrap64 (1 + x5_1), 0, 0⟩ : S27), wrap64 (x5_1 - 1), wrap64 (x5_1 + 1)⟩ : S29)]) y101 (wrap64 (x5_1 + 1))) else (none)) else (none)) else (none)) else (none)) else (none)) = some r := by first | (rw [hji7] at H; exact H) | (simp only [hji7] at H ⊢; exact H)
            by_cases c8 : 0 ≤ (ji7)
            · rw [if_pos c8] at H
              have c8b0 : decide (0 ≤ (ji7)) = true := decide_eq_true c8
              clear c8
              by_cases c9 : (ji7) < (y104.length : Int)
              · rw [if_pos c9] at H
                have c9b0 : decide ((ji7) < (y104.length : Int)) = true := decide_eq_true c9
                clear c9
                by_cases c10 : 0 ≤ (rd y104 (ji7))
                · rw [if_pos c10] at H
                  have c10b0 : decide (0 ≤ (rd y104 (ji7))) = true := decide_eq_true c10
                  clear c10
                  by_cases c11 : (rd y104 (ji7)) < (y101.length : Int)
                  · rw [if_pos c11] at H
                    have c11b0 : decide ((rd y104 (ji7)) < (y101.length : Int)) = true := decide_eq_true c11
                    clear c11
                    by_cases c12 : x3_1.length < 1099511627776
                    · rw [if_pos c12] at H
                      have LMc12 := Aside0.mk c12
                      clear c12
                      obtain ⟨y111, hy111⟩ : ∃ y_ : List (S29), y_ = (x3_1 ++ [(⟨rd y104 (ji7), 0, 0, rdOf ByteArray.empty y101 (rd y104 (ji7)), rdOf ByteArray.empty y101 (rd y104 (ji7)), (⟨#[]⟩ : ByteArray), (⟨1, wrap64 (1 + x5_1), wrap64 (1 + x5_1), 0, 0⟩ : S27), wrap64 (x5_1 - 1), wrap64 (x5_1 + 1)⟩ : S29)]) := ⟨_, rfl⟩
                      replace H : (laws_trTokens.l0 k1 l0 y111 y101 (wrap64 (x5_1 + 1))) = some r := by first | (rw [hy111]; with_reducible exact H) | (have H2_ := (Option.bind_some _ _).symm.trans H; rw [hy111]; with_reducible exact H2_) | (have H2_ := (Option.bind_some _ _).symm.trans H; with_reducible exact H2_) | with_reducible exact H | (rw [hy111]; exact H) | exact H
                      have Ny111 := Aside0.mk hy111
                      clear hy111
                      have H' := Aside0.mk H
                      clear H
                      try go_wp2_with (first | ((with_reducible refine gate_dst (N := 18) rfl ?_); refine Kd.R_lit (Kd.int .i64) _ 3 ?hg (N := 18) ?hd (xs := ([31, 5, 3, 13, 14, 15, 18, 19, 26, 22, 7, 31, 5, 31] : List Int)) (inner := [.int .i64 31, .int .i64 5, .int .i64 3, .int .i64 13, .int .i64 14, .int .i64 15, .int .i64 18, .int .i64 19, .int .i64 26, .int .i64 22, .int .i64 7, .int .i64 31, .int .i64 5, .int .i64 31]) (ok := fun _ => True) (okp := fun _ => True) ?hr ?hp (fun _ hk => hk) trivial (Below.refl _ _) (Nat.le_refl _) (by simp) ?_; (case hd => rfl); (case hg => rfl); (case hr => first | (go_simp; done) | (go_simp; rfl)); (case hp => exact (Reps.one (show Kd.M (Kd.int .i64) _ _ _ 31 [.int .i64 31] from rfl) (Reps.one (show Kd.M (Kd.int .i64) _ _ _ 5 [.int .i64 5] from rfl) (Reps.one (show Kd.M (Kd.int .i64) _ _ _ 3 [.int .i64 3] from rfl) (Reps.one (show Kd.M (Kd.int .i64) _ _ _ 13 [.int .i64 13] from rfl) (Reps.one (show Kd.M (Kd.int .i64) _ _ _ 14 [.int .i64 14] from rfl) (Reps.one (show Kd.M (Kd.int .i64) _ _ _ 15 [.int .i64 15] from rfl) (Reps.one (show Kd.M (Kd.int .i64) _ _ _ 18 [.int .i64 18] from rfl) (Reps.one (show Kd.M (Kd.int .i64) _ _ _ 19 [.int .i64 19] from rfl) (Reps.one (show Kd.M (Kd.int .i64) _ _ _ 26 [.int .i64 26] from rfl) (Reps.one (show Kd.M (Kd.int .i64) _ _ _ 22 [.int .i64 22] from rfl) (Reps.one (show Kd.M (Kd.int .i64) _ _ _ 7 [.int .i64 7] from rfl) (Reps.one (show Kd.M (Kd.int .i64) _ _ _ 31 [.int .i64 31] from rfl) (Reps.one (show Kd.M (Kd.int .i64) _ _ _ 5 [.int .i64 5] from rfl) (Reps.one (show Kd.M (Kd.int .i64) _ _ _ 31 [.int .i64 31] from rfl) (Reps.none _ _)))))))))))))))); intro v105 w13 ho14 hb hg_ hnew_; clear hg_ hnew_; (first | rw [← Ny104.out] at ho14 | (simp only [Int.reduceToNat] at ho14; rw [← Ny104.out] at ho14)); have n0_ := Aside0.mk (Kd.R_below (by (with_reducible repeat (first | apply Kd.R_alloc | apply Kd.R_drewN | apply Kd.R_drew)); exact HO_3.out) hb); have n1_ := Aside0.mk (Kd.R_below (by (with_reducible repeat (first | apply Kd.R_alloc | apply Kd.R_drewN | apply Kd.R_drew)); exact HO_4.out) hb); have n2_ := Aside0.mk (Kd.R_lower ho14 (below_size (by repeat (first | (with_reducible first | exact HB.out | apply below_alloc | apply pw_below_drewN | apply below_drew1) | exact HB.out)))); have n3_ := Aside0.mk (below_step (by repeat (first | (with_reducible first | exact HB.out | apply below_alloc | apply pw_below_drewN | apply below_drew1) | exact HB.out)) hb); clear HO_3; clear HO_4; clear HB; have HO_3 := n0_; have HO_4 := n1_; have HO106 := n2_; have HB := n3_; clear n0_ n1_ n2_ n3_; clear hb ho14; have p107 : 0 ≤ (x5_1 : Int) := of_decide_eq_true (by first | (with_reducible assumption) | assumption); have q107 : x5_1 < (l0.length : Int) := of_decide_eq_true (by first | (with_reducible assumption) | assumption); obtain ⟨ad107, e107, hx107_0⟩ := Kd.at_int HR0.out x5_1 p107 q107; cases e107; replace hx107_0 := (HB.out.cell (World.block_lt_of_cell? w _ hx107_0)).trans hx107_0; replace p107 := eq_true p107; replace q107 := eq_true q107; obtain ⟨Ao15, co15, eo15⟩ := Kd.R_slice HO106.out; subst eo15; have p108 : 0 ≤ ((ji7) : Int) := of_decide_eq_true (by first | (with_reducible assumption) | assumption); have q108 : (ji7) < (y104.length : Int) := of_decide_eq_true (by first | (with_reducible assumption) | assumption); obtain ⟨ad108, e108, hx108_0⟩ := Kd.at_int (Kd.R_reads' HO106.out).2.2 (ji7) p108 q108; cases e108; replace p108 := eq_true p108; replace q108 := eq_true q108))
                      have n0_ := Aside0.mk (Kd.R_drew HO_3.out)
                      have n1_ := Aside0.mk (Kd.R_drew HO_4.out)
                      have n2_ := Aside0.mk (Kd.R_drew HO106.out)
                      have n3_ := Aside0.mk (below_drew1 HB.out)
                      clear HO_3
                      clear HO_4
                      clear HO106
                      clear HB
                      have HO_3 := n0_
                      have HO_4 := n1_
                      have HO106 := n2_
                      have HB := n3_
                      clear n0_ n1_ n2_ n3_
                      obtain ⟨Ao17, co17, eo17⟩ := Kd.R_slice HO_4.out
                      (first | subst eo17 | (injection eo17 with f1_ f2_ f3_; have f4_ := f1_.symm; have f5_ := f3_.symm; clear f1_ f2_ f3_; subst f4_; subst f5_))
                      have p109 : 0 ≤ ((rd y104 (ji7)) : Int) := of_decide_eq_true (by first | (with_reducible assumption) | assumption)
                      have q109 : (rd y104 (ji7)) < (y101.length : Int) := of_decide_eq_true (by first | (with_reducible assumption) | assumption)
                      obtain ⟨ad109, e109, hx109_0⟩ := Kd.at_string (Kd.R_reads' HO_4.out).2.2 (rd y104 (ji7)) p109 q109
                      cases e109
                      replace p109 := eq_true p109
                      replace q109 := eq_true q109
                      have p110 : 0 ≤ ((rd y104 (ji7)) : Int) := of_decide_eq_true (by first | (with_reducible assumption) | assumption)
                      have q110 : (rd y104 (ji7)) < (y101.length : Int) := of_decide_eq_true (by first | (with_reducible assumption) | assumption)
                      obtain ⟨ad110, e110, hx110_0⟩ := Kd.at_string (Kd.R_reads' HO_4.out).2.2 (rd y104 (ji7)) p110 q110
                      obtain rfl : ad109 = ad110 := (by injection e110)
                      replace p110 := eq_true p110
                      replace q110 := eq_true q110
                      refine start_ (n := 23) (S := fun w' => w'.cell? (ad109.add ((rd y104 (ji7))).toNat) = some (.string (rdOf ByteArray.empty y101 (rd y104 (ji7)))) ∧ w'.cell? (ad109.add ((rd y104 (ji7))).toNat) = some (.string (rdOf ByteArray.empty y101 (rd y104 (ji7))))) (ds := [20, 21]) #[false, false, false, false, false, false, false, false, false, false, false, false, false, false, false, false, false, false, false, false, false, false, false] (by kernel_rfl) rfl rfl ⟨hx109_0, hx110_0⟩ (fun hHeld => ?_); refine with_tabW laws_trTokens.tab7 laws_trTokens.bits7 (fun HT_ HW_ => ?_)
                      generalize w13.drew = w16 at HO_3 HO_4 HO106 HB hx109_0 hx110_0 hHeld ⊢
                      refine pure_ (i := 0) (N := some 27) (v := ?_) (a' := ?_) #[true, false, false, false, false, false, false, false, false, false, false, false, false, false, false, false, false, false, false, false, false, false, false] rfl rfl (any_of HT_.out (by kernel_rfl)) (fun _ _ _ h => h) (Or.inl ⟨by rfl, ?_⟩) ?_ ?_
                      rotate_left
                      · intro w'
                        go_simp
                        with_reducible rfl
                      rotate_left
                      · simp only [Act.put, List.setIfInBounds_toArray, List.set_cons_zero, List.set_cons_succ, i64_w, i32_w]
                        rfl
                      refine pure_ (i := 1) (N := some 28) (v := ?_) (a' := ?_) #[true, true, false, false, false, false, false, false, false, false, false, false, false, false, false, false, false, false, false, false, false, false, false] rfl rfl (any_of HT_.out (by kernel_rfl)) (fun _ _ _ h => h) (Or.inl ⟨by rfl, ?_⟩) ?_ ?_
                      rotate_left
                      · intro w'
                        go_simp
                        with_reducible rfl
                      rotate_left
                      · simp only [Act.put, List.setIfInBounds_toArray, List.set_cons_zero, List.set_cons_succ, i64_w, i32_w]
                        rfl
                      refine pure_ (i := 2) (N := some 29) (v := ?_) (a' := ?_) #[true, true, true, false, false, false, false, false, false, false, false, false, false, false, false, false, false, false, false, false, false, false, false] rfl rfl (any_of HT_.out (by kernel_rfl)) (fun _ _ _ h => h) (Or.inl ⟨by rfl, ?_⟩) ?_ ?_
                      rotate_left
                      · intro w'
                        go_simp
                        with_reducible rfl
                      rotate_left
                      · simp only [Act.put, List.setIfInBounds_toArray, List.set_cons_zero, List.set_cons_succ, i64_w, i32_w]
                        rfl
                      refine pure_ (i := 3) (N := some 30) (v := ?_) (a' := ?_) #[true, true, true, true, false, false, false, false, false, false, false, false, false, false, false, false, false, false, false, false, false, false, false] rfl rfl (any_of HT_.out (by kernel_rfl)) (fun _ _ _ h => h) (Or.inl ⟨by rfl, ?_⟩) ?_ ?_
                      rotate_left
                      · intro w'
                        go_simp
                        with_reducible rfl
                      rotate_left
                      · simp only [Act.put, List.setIfInBounds_toArray, List.set_cons_zero, List.set_cons_succ, i64_w, i32_w]
                        rfl
                      refine pure_ (i := 4) (N := some 31) (v := ?_) (a' := ?_) #[true, true, true, true, true, false, false, false, false, false, false, false, false, false, false, false, false, false, false, false, false, false, false] rfl rfl (any_of HT_.out (by kernel_rfl)) (fun _ _ _ h => h) (Or.inl ⟨by rfl, ?_⟩) ?_ ?_
                      rotate_left
                      · intro w'
                        go_simp
                        with_reducible rfl
                      rotate_left
                      · simp only [Act.put, List.setIfInBounds_toArray, List.set_cons_zero, List.set_cons_succ, i64_w, i32_w]
                        rfl
                      refine pure_ (i := 6) (N := some 33) (v := ?_) (a' := ?_) #[true, true, true, true, true, false, true, false, false, false, false, false, false, false, false, false, false, false, false, false, false, false, false] rfl rfl (any_of HT_.out (by kernel_rfl)) (fun _ _ _ h => h) (Or.inl ⟨by rfl, ?_⟩) ?_ ?_
                      rotate_left
                      · intro w'
                        go_simp
                        with_reducible rfl
                      rotate_left
                      · simp only [Act.put, List.setIfInBounds_toArray, List.set_cons_zero, List.set_cons_succ, i64_w, i32_w]
                        rfl
                      refine pure_ (i := 7) (N := some 34) (v := ?_) (a' := ?_) #[true, true, true, true, true, false, true, true, false, false, false, false, false, false, false, false, false, false, false, false, false, false, false] rfl rfl (any_of HT_.out (by kernel_rfl)) (fun _ _ _ h => h) (Or.inl ⟨by rfl, ?_⟩) ?_ ?_
                      rotate_left
                      · intro w'
                        go_simp
                        with_reducible rfl
                      rotate_left
                      · simp only [Act.put, List.setIfInBounds_toArray, List.set_cons_zero, List.set_cons_succ, i64_w, i32_w]
                        rfl
                      refine pure_ (i := 8) (N := some 35) (v := ?_) (a' := ?_) #[true, true, true, true, true, false, true, true, true, false, false, false, false, false, false, false, false, false, false, false, false, false, false] rfl rfl (any_of HT_.out (by kernel_rfl)) (fun _ _ _ h => h) (Or.inl ⟨by rfl, ?_⟩) ?_ ?_
                      rotate_left
                      · intro w'
                        go_simp
                        with_reducible rfl
                      rotate_left
                      · simp only [Act.put, List.setIfInBounds_toArray, List.set_cons_zero, List.set_cons_succ, i64_w, i32_w]
                        rfl
                      refine pure_ (i := 10) (N := some 37) (v := ?_) (a' := ?_) #[true, true, true, true, true, false, true, true, true, false, true, false, false, false, false, false, false, false, false, false, false, false, false] rfl rfl (any_of HT_.out (by kernel_rfl)) (fun _ _ _ h => h) (Or.inl ⟨by rfl, ?_⟩) ?_ ?_
                      rotate_left
                      · intro w'
                        go_simp
                        with_reducible rfl
                      rotate_left
                      · simp only [Act.put, List.setIfInBounds_toArray, List.set_cons_zero, List.set_cons_succ, i64_w, i32_w]
                        rfl
                      refine pure_ (i := 11) (N := some 38) (v := ?_) (a' := ?_) #[true, true, true, true, true, false, true, true, true, false, true, true, false, false, false, false, false, false, false, false, false, false, false] rfl rfl (any_of HT_.out (by kernel_rfl)) (fun _ _ _ h => h) (Or.inl ⟨by rfl, ?_⟩) ?_ ?_
                      rotate_left
                      · intro w'
                        go_simp
                        with_reducible rfl
                      rotate_left
                      · simp only [Act.put, List.setIfInBounds_toArray, List.set_cons_zero, List.set_cons_succ, i64_w, i32_w]
                        rfl
                      refine pure_ (i := 12) (N := some 39) (v := ?_) (a' := ?_) #[true, true, true, true, true, false, true, true, true, false, true, true, true, false, false, false, false, false, false, false, false, false, false] rfl rfl (any_of HT_.out (by kernel_rfl)) (fun _ _ _ h => h) (Or.inl ⟨by rfl, ?_⟩) ?_ ?_
                      rotate_left
                      · intro w'
                        go_simp
                        with_reducible rfl
                      rotate_left
                      · simp only [Act.put, List.setIfInBounds_toArray, List.set_cons_zero, List.set_cons_succ, i64_w, i32_w]
                        rfl
                      refine pure_ (i := 13) (N := some 40) (v := ?_) (a' := ?_) #[true, true, true, true, true, false, true, true, true, false, true, true, true, true, false, false, false, false, false, false, false, false, false] rfl rfl (any_of HT_.out (by kernel_rfl)) (fun _ _ _ h => h) (Or.inl ⟨by rfl, ?_⟩) ?_ ?_
                      rotate_left
                      · intro w'
                        go_simp
                        with_reducible rfl
                      rotate_left
                      · simp only [Act.put, List.setIfInBounds_toArray, List.set_cons_zero, List.set_cons_succ, i64_w, i32_w]
                        rfl
                      refine pure_ (i := 14) (N := some 41) (v := ?_) (a' := ?_) #[true, true, true, true, true, false, true, true, true, false, true, true, true, true, true, false, false, false, false, false, false, false, false] rfl rfl (any_of HT_.out (by kernel_rfl)) (fun _ _ _ h => h) (Or.inl ⟨by rfl, ?_⟩) ?_ ?_
                      rotate_left
                      · intro w'
                        go_simp
                        with_reducible rfl
                      rotate_left
                      · simp only [Act.put, List.setIfInBounds_toArray, List.set_cons_zero, List.set_cons_succ, i64_w, i32_w]
                        rfl
                      refine pure_ (i := 15) (N := some 42) (v := ?_) (a' := ?_) #[true, true, true, true, true, false, true, true, true, false, true, true, true, true, true, true, false, false, false, false, false, false, false] rfl rfl (any_of HT_.out (by kernel_rfl)) (fun _ _ _ h => h) (Or.inl ⟨by rfl, ?_⟩) ?_ ?_
                      rotate_left
                      · intro w'
                        go_simp
                        with_reducible rfl
                      rotate_left
                      · simp only [Act.put, List.setIfInBounds_toArray, List.set_cons_zero, List.set_cons_succ, i64_w, i32_w]
                        rfl
                      refine pure_ (i := 16) (N := some 43) (v := ?_) (a' := ?_) #[true, true, true, true, true, false, true, true, true, false, true, true, true, true, true, true, true, false, false, false, false, false, false] rfl rfl (any_of HT_.out (by kernel_rfl)) (fun _ _ _ h => h) (Or.inl ⟨by rfl, ?_⟩) ?_ ?_
                      rotate_left
                      · intro w'
                        go_simp
                        with_reducible rfl
                      rotate_left
                      · simp only [Act.put, List.setIfInBounds_toArray, List.set_cons_zero, List.set_cons_succ, i64_w, i32_w]
                        rfl
                      refine pure_ (i := 17) (N := some 44) (v := ?_) (a' := ?_) #[true, true, true, true, true, false, true, true, true, false, true, true, true, true, true, true, true, true, false, false, false, false, false] rfl rfl (any_of HT_.out (by kernel_rfl)) (fun _ _ _ h => h) (Or.inl ⟨by rfl, ?_⟩) ?_ ?_
                      rotate_left
                      · intro w'
                        go_simp
                        with_reducible rfl
                      rotate_left
                      · simp only [Act.put, List.setIfInBounds_toArray, List.set_cons_zero, List.set_cons_succ, i64_w, i32_w]
                        rfl
                      refine pure_ (i := 18) (N := some 45) (v := ?_) (a' := ?_) #[true, true, true, true, true, false, true, true, true, false, true, true, true, true, true, true, true, true, true, false, false, false, false] rfl rfl (any_of HT_.out (by kernel_rfl)) (fun _ _ _ h => h) (Or.inl ⟨by rfl, ?_⟩) ?_ ?_
                      rotate_left
                      · intro w'
                        go_simp
                        with_reducible rfl
                      rotate_left
                      · simp only [Act.put, List.setIfInBounds_toArray, List.set_cons_zero, List.set_cons_succ, i64_w, i32_w]
                        rfl
                      refine take_ (i := 5) (N := some 32) (v := ?_) (a' := ?_) #[true, true, true, true, true, true, true, true, true, false, true, true, true, true, true, true, true, true, true, false, false, false, false] rfl rfl (take_ofW HT_.out HW_.out (by kernel_rfl)) (fun _ _ _ h => h) (Or.inl ⟨by rfl, ?_⟩) hHeld ?_ ?_
                      rotate_left
                      · rintro w' ⟨s0, s1⟩
                        go_simp
                        with_reducible rfl
                      rotate_left
                      · simp only [Act.put, List.setIfInBounds_toArray, List.set_cons_zero, List.set_cons_succ, i64_w, i32_w]
                        rfl
                      refine take_ (i := 9) (N := some 36) (v := ?_) (a' := ?_) #[true, true, true, true, true, true, true, true, true, true, true, true, true, true, true, true, true, true, true, false, false, false, false] rfl rfl (take_ofW HT_.out HW_.out (by kernel_rfl)) (fun _ _ _ h => h) (Or.inl ⟨by rfl, ?_⟩) hHeld ?_ ?_
                      rotate_left
                      · rintro w' ⟨s0, s1⟩
                        go_simp
                        with_reducible rfl
                      rotate_left
                      · simp only [Act.put, List.setIfInBounds_toArray, List.set_cons_zero, List.set_cons_succ, i64_w, i32_w]
                        rfl
                      refine pure_ (i := 19) (N := some 46) (v := ?_) (a' := ?_) #[true, true, true, true, true, true, true, true, true, true, true, true, true, true, true, true, true, true, true, true, false, false, false] rfl rfl (any_of HT_.out (by kernel_rfl)) (fun _ _ _ h => h) (Or.inl ⟨by rfl, ?_⟩) ?_ ?_
                      rotate_left
                      · intro w'
                        go_simp
                        with_reducible rfl
                      rotate_left
                      · simp only [Act.put, List.setIfInBounds_toArray, List.set_cons_zero, List.set_cons_succ, i64_w, i32_w]
                        rfl
                      refine last_ (i := 20) (N := some 47) #[true, true, true, true, true, true, true, true, true, true, true, true, true, true, true, true, true, true, true, true, true, false, false] rfl rfl (one_of HT_.out (by kernel_rfl)) (by decide) (fun K hK => ?_)
                      refine value_ (w1 := ?_) (v := ?_) (by rfl) rfl ?_ ?_
                      rotate_left 2
                      · go_simp
                        constructor
                        · rfl
                        · rfl
                      refine hK.out _ _ ?_
                      clear hK K
                      refine norm_ (a' := ?_) ?_ ?_
                      rotate_left
                      · show Act.put _ (some 47) _ = _
                        simp only [Act.put, List.setIfInBounds_toArray, List.set_cons_zero, List.set_cons_succ, i64_w, i32_w]
                        rfl
                      refine last_ (i := 21) (N := some 48) #[true, true, true, true, true, true, true, true, true, true, true, true, true, true, true, true, true, true, true, true, true, true, false] rfl rfl (one_of HT_.out (by kernel_rfl)) (by decide) (fun K hK => ?_)
                      refine Kd.R_append_step k29 (w0 := w) w.heap.size (by rfl) (.tmp 27) (.tmp 47) 24 29 (.agg #[(.int .i64 0), (.int .i64 0), (.int .i64 0), (.string ⟨#[]⟩), (.string ⟨#[]⟩), (.string ⟨#[]⟩), (.int .i64 0), (.int .i64 0), (.int .i64 0), (.int .i64 0), (.int .i64 0), (.int .i64 0), (.int .i64 0)]) 128 rfl Tryd.underlying24 info29 rfl (by decide) (by omega) u3 x3_1 (⟨rd y104 (ji7), 0, 0, rdOf ByteArray.empty y101 (rd y104 (ji7)), rdOf ByteArray.empty y101 (rd y104 (ji7)), (⟨#[]⟩ : ByteArray), (⟨1, wrap64 (1 + x5_1), wrap64 (1 + x5_1), 0, 0⟩ : S27), wrap64 (x5_1 - 1), wrap64 (x5_1 + 1)⟩ : S29) [.int .i64 (rd y104 (ji7)), .int .i64 0, .int .i64 0, .string (rdOf ByteArray.empty y101 (rd y104 (ji7))), .string (rdOf ByteArray.empty y101 (rd y104 (ji7))), .string (⟨#[]⟩ : ByteArray), .int .i64 1, .int .i64 (wrap64 (1 + x5_1)), .int .i64 (wrap64 (1 + x5_1)), .int .i64 0, .int .i64 0, .int .i64 (wrap64 (x5_1 - 1)), .int .i64 (wrap64 (x5_1 + 1))] (fun _ => True) (fun _ => False) rfl rfl ?aP (fun _ hk => hk.elim) ?aF ?aO ?aB ?aS ?aL ?_
                      (case aP => exact k29_mkM _ _ _ (⟨rd y104 (ji7), 0, 0, rdOf ByteArray.empty y101 (rd y104 (ji7)), rdOf ByteArray.empty y101 (rd y104 (ji7)), (⟨#[]⟩ : ByteArray), (⟨1, wrap64 (1 + x5_1), wrap64 (1 + x5_1), 0, 0⟩ : S27), wrap64 (x5_1 - 1), wrap64 (x5_1 + 1)⟩ : S29))
                      (case aB => exact (by repeat (first | (with_reducible first | exact HB.out | apply below_alloc | apply pw_below_drewN | apply below_drew1) | exact HB.out)))
                      (case aF => exact (fun _ _ => trivial))
                      (case aO => exact (by (with_reducible repeat (first | apply Kd.R_alloc | apply Kd.R_drewN | apply Kd.R_drew)); exact HO_3.out))
                      (case aS => exact (below_size (by repeat (first | (with_reducible first | exact HB.out | apply below_alloc | apply pw_below_drewN | apply below_drew1) | exact HB.out))))
                      (case aL => have := LMc12.out; omega)
                      intro v112 w18 ho hb hg hat
                      rw [← Ny111.out] at ho
                      have n0_ := Aside0.mk (Kd.R_over' (by (with_reducible repeat (first | apply Kd.R_alloc | apply Kd.R_drewN | apply Kd.R_drew)); exact HO_4.out) (Kd.R_typed (by (with_reducible repeat (first | apply Kd.R_alloc | apply Kd.R_drewN | apply Kd.R_drew)); exact HO_3.out)) (by decide) hg)
                      have n1_ := Aside0.mk (Kd.R_over' (by (with_reducible repeat (first | apply Kd.R_alloc | apply Kd.R_drewN | apply Kd.R_drew)); exact HO106.out) (Kd.R_typed (by (with_reducible repeat (first | apply Kd.R_alloc | apply Kd.R_drewN | apply Kd.R_drew)); exact HO_3.out)) (by decide) hg)
                      have n2_ := Aside0.mk (hb)
                      have n3_ := Aside0.mk (ho)
                      clear HO_4
                      clear HO106
                      clear HB
                      clear HO_3
                      have HO_4 := n0_
                      have HO106 := n1_
                      have HB := n2_
                      have HO113 := n3_
                      clear n0_ n1_ n2_ n3_
                      clear ho hb hg hat
                      refine hK.out _ _ ?_
                      clear hK K
                      refine norm_ (a' := ?_) ?_ ?_
                      rotate_left
                      · show Act.put _ (some 48) _ = _
                        simp only [Act.put, List.setIfInBounds_toArray, List.set_cons_zero, List.set_cons_succ, i64_w, i32_w]
                        rfl
                      refine pure_ (i := 22) (N := some 3) (v := ?_) (a' := ?_) #[true, true, true, true, true, true, true, true, true, true, true, true, true, true, true, true, true, true, true, true, true, true, true] rfl rfl (any_of HT_.out (by kernel_rfl)) (fun _ _ _ h => h) (Or.inl ⟨by rfl, ?_⟩) ?_ ?_
                      rotate_left
                      · intro w'
                        go_simp
                        with_reducible rfl
                      rotate_left
                      · simp only [Act.put, List.setIfInBounds_toArray, List.set_cons_zero, List.set_cons_succ, i64_w, i32_w]
                        rfl
                      refine done_ (done_of HT_.out (by kernel_rfl)) ?_
                      try go_wp2
                      go_roundg k1
                      case measure => have := HK1.out; omega
                      case rel => exact ⟨(y111), (wrap64 (x5_1 + 1)), (by first | rfl | (simp; done) | (simp [*]; done)), H', ⟨by have := HK1.out; omega⟩, ⟨by (with_reducible repeat (first | apply Kd.R_alloc | apply Kd.R_drewN | apply Kd.R_drew)); exact HO113.out⟩, ⟨by (with_reducible repeat (first | apply Kd.R_alloc | apply Kd.R_drewN | apply Kd.R_drew)); exact HO_4.out⟩, ⟨by repeat (first | (with_reducible first | exact HB.out | apply below_alloc | apply pw_below_drewN | apply below_drew1) | exact HB.out)⟩⟩
                    · rw [if_neg c12] at H
                      exact absurd H (by simp)
                  · rw [if_neg c11] at H
                    exact absurd H (by simp)
                · rw [if_neg c10] at H
                  exact absurd H (by simp)
              · rw [if_neg c9] at H
                exact absurd H (by simp)
            · rw [if_neg c8] at H
              exact absurd H (by simp)
          · rw [if_neg c6] at H
            exact absurd H (by simp)
        · rw [if_neg c5] at H
          have c5b0 : decide (x5_1 < 16) = false := decide_eq_false c5
          clear c5
          obtain rfl := Option.some.inj H
          go_wp2
          go_ret
          exact ⟨_, by first | rfl | (simp [errW_none, errW_some] <;> rfl) | (simp [*, errW_none, errW_some] <;> rfl), by (with_reducible repeat (first | apply Kd.R_alloc | apply Kd.R_drewN | apply Kd.R_drew)); exact HO_3.out, by repeat (first | (with_reducible first | exact HB.out | apply below_alloc | apply pw_below_drewN | apply below_drew1) | exact HB.out)⟩
      · rw [if_neg c4] at H
        have c4b0 : decide (x5_1 < (l0.length : Int)) = false := decide_eq_false c4
        clear c4
        obtain rfl := Option.some.inj H
        go_wp2
        go_ret
        exact ⟨_, by first | rfl | (simp [errW_none, errW_some] <;> rfl) | (simp [*, errW_none, errW_some] <;> rfl), by (with_reducible repeat (first | apply Kd.R_alloc | apply Kd.R_drewN | apply Kd.R_drew)); exact HO_3.out, by repeat (first | (with_reducible first | exact HB.out | apply below_alloc | apply pw_below_drewN | apply below_drew1) | exact HB.out)⟩

/-! ### impl_small: function 48 -/
def impl_small.f (a0 : Int) : Option (Int) := if a0 < 0 then (some 0) else (if a0 > 200 then (some 0) else (some a0))
set_option maxHeartbeats 8000000 in
set_option maxRecDepth 100000 in
theorem impl_small.calls (a0 : Int) (r : Int) (w : World) (h : impl_small.f a0 = some r) :
    Calls Tryd.prog 48 #[.int .i64 a0] w fun e w' => e = .returned (.int .i64 r) ∧ Drawn0 w w' := by
  have H : (if a0 < 0 then (some 0) else (if a0 > 200 then (some 0) else (some a0))) = some r := h
  clear h
  by_cases c2 : a0 < 0
  · rw [if_pos c2] at H
    have c2b0 : decide (a0 < 0) = true := decide_eq_true c2
    clear c2
    obtain rfl := Option.some.inj H
    go_enter Tryd.func48, Tryd.ntmps48
    go_wp2
    go_ret
    exact ⟨by first | rfl | (simp; done) | (simp [*]; done), by repeat (first | exact Drawn0.refl _ | apply Drawn0.step)⟩
  · rw [if_neg c2] at H
    have c2b0 : decide (a0 < 0) = false := decide_eq_false c2
    clear c2
    by_cases c3 : a0 > 200
    · rw [if_pos c3] at H
      have c3b0 : decide (200 < a0) = true := decide_eq_true c3
      clear c3
      obtain rfl := Option.some.inj H
      go_enter Tryd.func48, Tryd.ntmps48
      go_wp2
      go_ret
      exact ⟨by first | rfl | (simp; done) | (simp [*]; done), by repeat (first | exact Drawn0.refl _ | apply Drawn0.step)⟩
    · rw [if_neg c3] at H
      have c3b0 : decide (200 < a0) = false := decide_eq_false c3
      clear c3
      obtain rfl := Option.some.inj H
      go_enter Tryd.func48, Tryd.ntmps48
      go_wp2
      go_ret
      exact ⟨by first | rfl | (simp; done) | (simp [*]; done), by repeat (first | exact Drawn0.refl _ | apply Drawn0.step)⟩

-- NOT PRINTED: function 27 (impl_position)

-- NOT PRINTED: function 16 (impl_made)

-- NOT PRINTED: function 28 (parser_newTokens)

-- NOT PRINTED: function 63 (parser_TokenGroup_TokenType)

-- NOT PRINTED: function 49 (parser_Token_Type)

-- NOT PRINTED: function 64 (parser_TokenGroup_Line)

-- NOT PRINTED: function 50 (parser_Token_Line)

-- NOT PRINTED: function 65 (parser_TokenGroup_RawToken)

-- NOT PRINTED: function 51 (parser_Token_RawToken)

-- NOT PRINTED: function 29 (parser_createLineCommentTokenGroups)

-- NOT PRINTED: function 30 (parser_createLiteralAndFoldedTokenGroups)

-- NOT PRINTED: function 52 (errors_ErrSyntax)

-- NOT PRINTED: function 55 (parser_Token_GroupType)

-- NOT PRINTED: function 53 (parser_isScalarType)

-- NOT PRINTED: function 31 (parser_createAnchorAndAliasTokenGroups)

/-! ### stringslite_HasPrefix: function 66 -/
def stringslite_HasPrefix.f (a0 : ByteArray) (a1 : ByteArray) : Option (Bool) := if (a0.size : Int) ≥ (a1.size : Int) then (if 0 ≤ (a1.size : Int) then (if (a1.size : Int) ≤ (a0.size : Int) then (some ((a0.extract 0 ((a1.size : Int) : Int).toNat).toList == a1.toList)) else (none)) else (none)) else (some false)
set_option maxHeartbeats 8000000 in
set_option maxRecDepth 100000 in
theorem stringslite_HasPrefix.calls (a0 : ByteArray) (a1 : ByteArray) (r : Bool) (w : World) (h : stringslite_HasPrefix.f a0 a1 = some r) :
    Calls Tryd.prog 66 #[.string a0, .string a1] w fun e w' => e = .returned (.bool r) ∧ Drawn0 w w' := by
  have H : (if (a0.size : Int) ≥ (a1.size : Int) then (if 0 ≤ (a1.size : Int) then (if (a1.size : Int) ≤ (a0.size : Int) then (some ((a0.extract 0 ((a1.size : Int) : Int).toNat).toList == a1.toList)) else (none)) else (none)) else (some false)) = some r := h
  clear h
  by_cases c3 : (a0.size : Int) ≥ (a1.size : Int)
  · rw [if_pos c3] at H
    have c3b0 : decide ((a1.size : Int) ≤ (a0.size : Int)) = true := decide_eq_true c3
    have c3b1 : decide (a1.size ≤ a0.size) = true := decide_eq_true (Int.ofNat_le.mp c3)
    clear c3
    by_cases c4 : 0 ≤ (a1.size : Int)
    · rw [if_pos c4] at H
      have c4b0 := eq_true c4
      have c4b1 : decide (0 ≤ (a1.size : Int)) = true := decide_eq_true c4
      clear c4
      by_cases c5 : (a1.size : Int) ≤ (a0.size : Int)
      · rw [if_pos c5] at H
        have c5b0 := eq_true c5
        have c5b1 : decide ((a1.size : Int) ≤ (a0.size : Int)) = true := decide_eq_true c5
        clear c5
        obtain rfl := Option.some.inj H
        go_enter Tryd.func66, Tryd.ntmps66
        go_wp2
        go_ret
        exact ⟨by first | rfl | (simp; done) | (simp [*]; done), by repeat (first | exact Drawn0.refl _ | apply Drawn0.step)⟩
      · rw [if_neg c5] at H
        exact absurd H (by simp)
    · rw [if_neg c4] at H
      exact absurd H (by simp)
  · rw [if_neg c3] at H
    have c3b0 : decide ((a1.size : Int) ≤ (a0.size : Int)) = false := decide_eq_false c3
    have c3b1 : decide (a1.size ≤ a0.size) = false := decide_eq_false (fun h => c3 (Int.ofNat_le.mpr h))
    clear c3
    obtain rfl := Option.some.inj H
    go_enter Tryd.func66, Tryd.ntmps66
    go_wp2
    go_ret
    exact ⟨by first | rfl | (simp; done) | (simp [*]; done), by repeat (first | exact Drawn0.refl _ | apply Drawn0.step)⟩

/-! ### strings_HasPrefix: function 54 -/
def strings_HasPrefix.f (a0 : ByteArray) (a1 : ByteArray) : Option (Bool) := (stringslite_HasPrefix.f a0 a1).bind fun t118 => (some t118)
set_option maxHeartbeats 8000000 in
set_option maxRecDepth 100000 in
theorem strings_HasPrefix.calls (a0 : ByteArray) (a1 : ByteArray) (r : Bool) (w : World) (h : strings_HasPrefix.f a0 a1 = some r) :
    Calls Tryd.prog 54 #[.string a0, .string a1] w fun e w' => e = .returned (.bool r) ∧ Drawn0 w w' := by
  have H : ((stringslite_HasPrefix.f a0 a1).bind fun t118 => (some t118)) = some r := h
  clear h
  replace H := Option.bind_eq_some_iff.mp H
  obtain ⟨t118, A30, H⟩ := H
  replace H : (some t118) = some r := H
  have A3 := Aside0.mk A30
  clear A30
  obtain rfl := Option.some.inj H
  go_enter Tryd.func54, Tryd.ntmps54
  go_wp2_with (first | ((with_reducible refine gate_callee (f := 66) rfl ?_); refine goesL_ (some 7) rfl rfl Tryd.func66 (by kernel_rfl) rfl #[.string a0, .string a1] rfl (by (try simp only [List.map_toArray, List.map_cons, List.map_nil]); first | done | rfl | (simp only [List.length_drop, List.length_take]; rfl)) ?_; (with_reducible refine (stringslite_HasPrefix.calls a0 a1 t118 _ A3.out).mono ?_); rintro e w' ⟨rfl, ⟨nd, rfl⟩⟩; refine ⟨_, rfl, ?_⟩))
  go_ret
  exact ⟨by first | rfl | (simp; done) | (simp [*]; done), by repeat (first | exact Drawn0.refl _ | apply Drawn0.step)⟩

-- NOT PRINTED: function 56 (parser_isFlowType)

-- NOT PRINTED: function 32 (parser_createScalarTagTokenGroups)

-- NOT PRINTED: function 33 (parser_createAnchorWithScalarTagTokenGroups)

-- NOT PRINTED: function 57 (parser_createMapKeyByMappingKey)

-- NOT PRINTED: function 67 (parser_isNotMapKeyType)

-- NOT PRINTED: function 58 (parser_createMapKeyByMappingValue)

-- NOT PRINTED: function 34 (parser_createMapKeyTokenGroups)

-- NOT PRINTED: function 35 (parser_createMapKeyValueTokenGroups)

-- NOT PRINTED: function 36 (parser_createDirectiveTokenGroups)

-- NOT PRINTED: function 59 (parser_Token_SetGroupType)

-- NOT PRINTED: function 37 (parser_createDocumentTokens)

-- NOT PRINTED: function 18 (parser_CreateGroupedTokens)

-- NOT PRINTED: function 38 (impl_place)

-- NOT PRINTED: function 19 (impl_refused)

-- NOT PRINTED: function 39 (impl_index)

-- NOT PRINTED: function 20 (impl_groups)

-- NOT PRINTED: function 10 (impl_GroupTokens)

/-! ### laws_trCounted: function 11 -/
def laws_trCounted.l0 : Nat → List Int → Int → List Int → Int → Int → Option (Bool)
  | 0, _, _, _, _, _ => none
  | k + 1, x0, x1, x7, x8, x9 => if x9 < x8 then (if 0 ≤ x9 then (if x9 < (x7.length : Int) then (if (rd x7 x9) = x9 then (laws_trCounted.l0 k x0 x1 x7 x8 (wrap64 (x9 + 1))) else (some false)) else (none)) else (none)) else (some ((x0.length : Int) == x1))
def laws_trCounted.f (k : Nat) (l0 : List Int) (a1 : Int) : Option (Bool) := laws_trCounted.l0 k l0 a1 l0 (l0.length : Int) 0
theorem laws_trCounted.mono_l : ∀ k, (∀ y0 y1 y2 y3 y4, LeO (laws_trCounted.l0 k y0 y1 y2 y3 y4) (laws_trCounted.l0 (k + 1) y0 y1 y2 y3 y4))
  | 0 => fun _ _ _ _ _ r h => by simp [laws_trCounted.l0] at h
  | k + 1 => by
    have ih0 := laws_trCounted.mono_l k
    · intro y0 y1 y2 y3 y4
      unfold laws_trCounted.l0
      repeat' first
      | (with_reducible exact ih0 _ _ _ _ _)
      | (with_reducible exact LeO.refl _)
      | (with_reducible exact LeO.none _)
      | (with_reducible refine LeO.ite ?_ ?_)
      | (with_reducible refine LeO.bind ?_ (fun _ => ?_))
      | exact ih0 _ _ _ _ _
      | exact LeO.none _
      | refine LeO.ite ?_ ?_
      | refine LeO.bind ?_ (fun _ => ?_)
theorem laws_trCounted.mono : ∀ a0 a1 k, LeO (laws_trCounted.f k a0 a1) (laws_trCounted.f (k + 1) a0 a1) := by
  intro a0 a1 k
  have ih0 := laws_trCounted.mono_l k
  unfold laws_trCounted.f
  repeat' first
      | (with_reducible exact ih0 _ _ _ _ _)
      | (with_reducible exact LeO.refl _)
      | (with_reducible exact LeO.none _)
      | (with_reducible refine LeO.ite ?_ ?_)
      | (with_reducible refine LeO.bind ?_ (fun _ => ?_))
      | exact ih0 _ _ _ _ _
      | exact LeO.none _
      | refine LeO.ite ?_ ?_
      | refine LeO.bind ?_ (fun _ => ?_)
set_option maxHeartbeats 8000000 in
set_option maxRecDepth 100000 in
theorem laws_trCounted.calls (k : Nat) (A0 : Option Addr) (c0 : Nat) (l0 : List Int) (a1 : Int) (r : Bool) (w : World) (hr0 : Kd.C (Kd.int .i64) w A0 l0.length l0) (hc0 : l0.length ≤ c0) (h : laws_trCounted.f k l0 a1 = some r) :
    Calls Tryd.prog 11 #[.slice A0 l0.length c0, .int .i64 a1] w fun e w' => e = .returned (.bool r) ∧ Drawn0 w w' := by
  have HR0 := Aside0.mk hr0
  have HC0 := Aside0.mk hc0
  clear hr0 hc0
  have H : (laws_trCounted.l0 k l0 a1 l0 (l0.length : Int) 0) = some r := h
  clear h
  have H' := Aside0.mk H
  clear H
  go_enter Tryd.func11, Tryd.ntmps11
  go_wp2
  go_loopg [9] k (fun kq v9 w' => ∃ (x9_1 : Int), v9 = .int .i64 x9_1 ∧ Aside0 (laws_trCounted.l0 kq l0 a1 l0 (l0.length : Int) x9_1 = some r) ∧ Aside0 (kq ≤ k) ∧ Drawn0 w w')
  case atStart => exact ⟨(0), (by first | rfl | (simp; done) | (simp [*]; done)), H', ⟨Nat.le_refl _⟩, by repeat (first | exact Drawn0.refl _ | apply Drawn0.step)⟩
  case round =>
    clear H'
    try clear c1
    try clear p2
    obtain ⟨x9_1, rfl, HA, HK1, ⟨m1, rfl⟩⟩ := hrel
    cases gk with
    | zero => exact absurd HA.out (by simp [laws_trCounted.l0])
    | succ k1 =>
      have H := HA.out
      clear HA
      simp only [laws_trCounted.l0] at H
      by_cases c3 : x9_1 < (l0.length : Int)
      · rw [if_pos c3] at H
        have c3b0 : decide (x9_1 < (l0.length : Int)) = true := decide_eq_true c3
        clear c3
        by_cases c4 : 0 ≤ x9_1
        · rw [if_pos c4] at H
          have c4b0 : decide (0 ≤ x9_1) = true := decide_eq_true c4
          clear c4
          by_cases c5 : x9_1 < (l0.length : Int)
          · rw [if_pos c5] at H
            have c5b0 : decide (x9_1 < (l0.length : Int)) = true := decide_eq_true c5
            clear c5
            by_cases c6 : (rd l0 x9_1) = x9_1
            · rw [if_pos c6] at H
              have c6b0 : ((rd l0 x9_1) == x9_1) = true := beq_iff_eq.mpr c6
              have c6b1 : ((rd l0 x9_1) != x9_1) = false := bne_eq_false_iff_eq.mpr c6
              clear c6
              have H' := Aside0.mk H
              clear H
              have p121 : 0 ≤ (x9_1 : Int) := of_decide_eq_true (by first | (with_reducible assumption) | assumption)
              have q121 : x9_1 < (l0.length : Int) := of_decide_eq_true (by first | (with_reducible assumption) | assumption)
              obtain ⟨ad121, e121, hx121_0⟩ := Kd.at_int HR0.out x9_1 p121 q121
              cases e121
              replace p121 := eq_true p121
              replace q121 := eq_true q121
              go_wp2
              go_roundg k1
              case measure => have := HK1.out; omega
              case rel => exact ⟨(wrap64 (x9_1 + 1)), (by first | rfl | (simp; done) | (simp [*]; done)), H', ⟨by have := HK1.out; omega⟩, by repeat (first | exact Drawn0.refl _ | apply Drawn0.step)⟩
            · rw [if_neg c6] at H
              have c6b0 : ((rd l0 x9_1) == x9_1) = false := beq_eq_false_iff_ne.mpr c6
              have c6b1 : ((rd l0 x9_1) != x9_1) = true := bne_iff_ne.mpr c6
              obtain rfl := Option.some.inj H
              have p121 : 0 ≤ (x9_1 : Int) := of_decide_eq_true (by first | (with_reducible assumption) | assumption)
              have q121 : x9_1 < (l0.length : Int) := of_decide_eq_true (by first | (with_reducible assumption) | assumption)
              obtain ⟨ad121, e121, hx121_0⟩ := Kd.at_int HR0.out x9_1 p121 q121
              cases e121
              replace p121 := eq_true p121
              replace q121 := eq_true q121
              go_wp2
              go_ret
              exact ⟨by first | rfl | (simp; done) | (simp [*]; done), by repeat (first | exact Drawn0.refl _ | apply Drawn0.step)⟩
          · rw [if_neg c5] at H
            exact absurd H (by simp)
        · rw [if_neg c4] at H
          exact absurd H (by simp)
      · rw [if_neg c3] at H
        have c3b0 : decide (x9_1 < (l0.length : Int)) = false := decide_eq_false c3
        clear c3
        obtain rfl := Option.some.inj H
        go_wp2
        go_ret
        exact ⟨by first | rfl | (simp; done) | (simp [*]; done), by repeat (first | exact Drawn0.refl _ | apply Drawn0.step)⟩

/-! ### spec_Grouped: function 12 -/
mutual
def spec_Grouped.l0 : Nat → List Int → List (S66) → Int → Int → Option (List Int)
  | 0, _, _, _, _ => none
  | k + 1, x3, x6, x7, x8 => if x8 < x7 then (if 0 ≤ x8 then (if x8 < (x6.length : Int) then (if ((rd_T66 x6 x8).f1) ≥ 0 then (if x3.length < 17592186044416 then ((some (x3 ++ [(rd_T66 x6 x8).f1] : List Int)).bind fun y124 => ((spec_Grouped.f k ((rd_T66 x6 x8).f3)).bind fun t127 => (if y124.length + t127.length < 17592186044416 then (spec_Grouped.l0 k (y124 ++ t127) x6 x7 (wrap64 (x8 + 1))) else (none)))) else (none)) else ((spec_Grouped.f k ((rd_T66 x6 x8).f3)).bind fun t133 => (if x3.length + t133.length < 17592186044416 then (spec_Grouped.l0 k (x3 ++ t133) x6 x7 (wrap64 (x8 + 1))) else (none)))) else (none)) else (none)) else (some x3)
def spec_Grouped.f : Nat → List (S66) → Option (List Int)
  | 0, _ => none
  | k + 1, l0 => spec_Grouped.l0 k ([] : List Int) l0 (l0.length : Int) 0
end
theorem spec_Grouped.mono_l : ∀ k, (∀ y0, LeO (spec_Grouped.f k y0) (spec_Grouped.f (k + 1) y0)) ∧ (∀ y0 y1 y2 y3, LeO (spec_Grouped.l0 k y0 y1 y2 y3) (spec_Grouped.l0 (k + 1) y0 y1 y2 y3))
  | 0 => ⟨fun _ r h => by simp [spec_Grouped.f] at h, fun _ _ _ _ r h => by simp [spec_Grouped.l0] at h⟩
  | k + 1 => by
    obtain ⟨ih0, ih1⟩ := spec_Grouped.mono_l k
    refine ⟨?_, ?_⟩
    · intro y0
      unfold spec_Grouped.f
      repeat' first
      | (with_reducible exact ih0 _)
      | (with_reducible exact ih1 _ _ _ _)
      | (with_reducible exact LeO.refl _)
      | (with_reducible exact LeO.none _)
      | (with_reducible refine LeO.ite ?_ ?_)
      | (with_reducible refine LeO.bind ?_ (fun _ => ?_))
      | exact ih0 _
      | exact ih1 _ _ _ _
      | exact LeO.none _
      | refine LeO.ite ?_ ?_
      | refine LeO.bind ?_ (fun _ => ?_)
    · intro y0 y1 y2 y3
      unfold spec_Grouped.l0
      repeat' first
      | (with_reducible exact ih0 _)
      | (with_reducible exact ih1 _ _ _ _)
      | (with_reducible exact LeO.refl _)
      | (with_reducible exact LeO.none _)
      | (with_reducible refine LeO.ite ?_ ?_)
      | (with_reducible refine LeO.bind ?_ (fun _ => ?_))
      | exact ih0 _
      | exact ih1 _ _ _ _
      | exact LeO.none _
      | refine LeO.ite ?_ ?_
      | refine LeO.bind ?_ (fun _ => ?_)
theorem spec_Grouped.mono : ∀ a0 k, LeO (spec_Grouped.f k a0) (spec_Grouped.f (k + 1) a0) := by
  intro a0 k
  obtain ⟨ih0, ih1⟩ := spec_Grouped.mono_l k
  exact ih0 a0
set_option maxHeartbeats 8000000 in
set_option maxRecDepth 100000 in
theorem spec_Grouped.calls (k : Nat) : ∀ (A0 : Option Addr) (c0 : Nat) (l0 : List (S66)) (r : List Int) (w : World) (hr0 : Kd.C k66 w A0 l0.length l0) (hc0 : l0.length ≤ c0) (h : spec_Grouped.f k l0 = some r),
    Calls Tryd.prog 12 #[.slice A0 l0.length c0] w fun e w' => ∃ v0_ : Value, e = .returned (v0_) ∧ Kd.R (Kd.int .i64) 3 w' w.heap.size (fun _ => True) v0_ r ∧ Below w.heap.size w w' := by
  induction k using Nat.strongRecOn with
  | _ k ih =>
  intro A0 c0 l0 r w hr0 hc0 h
  cases k with
  | zero => exact absurd h (by simp [spec_Grouped.f])
  | succ k =>
  simp only [spec_Grouped.f] at h
  have hu66 := Tryd.underlying66
  have HR0 := Aside0.mk hr0
  have HC0 := Aside0.mk hc0
  clear hr0 hc0
  have HB := Aside0.mk (Below.refl w.heap.size w)
  have H : (spec_Grouped.l0 k ([] : List Int) l0 (l0.length : Int) 0) = some r := h
  clear h
  have H' := Aside0.mk H
  clear H
  go_enter Tryd.func12, Tryd.ntmps12
  go_wp2
  go_loopg [3, 8] k (fun kq v3 v8 w' => ∃ (x3_1 : List Int) (x8_1 : Int), v8 = .int .i64 x8_1 ∧ Aside0 (spec_Grouped.l0 kq x3_1 l0 (l0.length : Int) x8_1 = some r) ∧ Aside0 (kq ≤ k) ∧ Aside0 (Kd.R (Kd.int .i64) 3 w' w.heap.size (fun _ => True) v3 x3_1) ∧ Aside0 (Below w.heap.size w w'))
  case atStart => exact ⟨(([] : List Int)), (0), (by first | rfl | (simp; done) | (simp [*]; done)), H', ⟨Nat.le_refl _⟩, ⟨by first | exact Kd.R_nil _ _ _ _ _ | exact Kd.N_nil _ _ _ _ _ | exact Kd.V_nil _ _ _ _ _ | exact Kd.Q_nil _ _ _ _ _ | exact Kd.S_nil _ _ _ _ _⟩, ⟨by repeat (first | (with_reducible first | exact HB.out | apply below_alloc | apply pw_below_drewN | apply below_drew1) | exact HB.out)⟩⟩
  case round =>
    clear H'
    try clear c1
    obtain ⟨x3_1, x8_1, rfl, HA, HK1, HO_3, HB⟩ := hrel
    cases gk with
    | zero => exact absurd HA.out (by simp [spec_Grouped.l0])
    | succ k1 =>
      have H := HA.out
      clear HA
      simp only [spec_Grouped.l0] at H
      by_cases c2 : x8_1 < (l0.length : Int)
      · rw [if_pos c2] at H
        have c2b0 : decide (x8_1 < (l0.length : Int)) = true := decide_eq_true c2
        clear c2
        by_cases c3 : 0 ≤ x8_1
        · rw [if_pos c3] at H
          have c3b0 : decide (0 ≤ x8_1) = true := decide_eq_true c3
          clear c3
          by_cases c4 : x8_1 < (l0.length : Int)
          · rw [if_pos c4] at H
            have c4b0 : decide (x8_1 < (l0.length : Int)) = true := decide_eq_true c4
            clear c4
            by_cases c5 : ((rd_T66 l0 x8_1).f1) ≥ 0
            · rw [if_pos c5] at H
              have c5b0 : decide (0 ≤ ((rd_T66 l0 x8_1).f1)) = true := decide_eq_true c5
              clear c5
              by_cases c6 : x3_1.length < 17592186044416
              · rw [if_pos c6] at H
                have LMc6 := Aside0.mk c6
                clear c6
                obtain ⟨y124, hy124⟩ : ∃ y_ : List Int, y_ = (x3_1 ++ [(rd_T66 l0 x8_1).f1]) := ⟨_, rfl⟩
                replace H : ((spec_Grouped.f k1 ((rd_T66 l0 x8_1).f3)).bind fun t127 => (if y124.length + t127.length < 17592186044416 then (spec_Grouped.l0 k1 (y124 ++ t127) l0 (l0.length : Int) (wrap64 (x8_1 + 1))) else (none))) = some r := by first | (rw [hy124]; with_reducible exact H) | (have H2_ := (Option.bind_some _ _).symm.trans H; rw [hy124]; with_reducible exact H2_) | (have H2_ := (Option.bind_some _ _).symm.trans H; with_reducible exact H2_) | with_reducible exact H | (rw [hy124]; exact H) | exact H
                have Ny124 := Aside0.mk hy124
                clear hy124
                replace H := Option.bind_eq_some_iff.mp H
                obtain ⟨t127, A70, H⟩ := H
                replace H : (if y124.length + t127.length < 17592186044416 then (spec_Grouped.l0 k1 (y124 ++ t127) l0 (l0.length : Int) (wrap64 (x8_1 + 1))) else (none)) = some r := H
                have A7 := Aside0.mk A70
                clear A70
                by_cases c8 : y124.length + t127.length < 17592186044416
                · rw [if_pos c8] at H
                  have LMc8 := Aside0.mk c8
                  clear c8
                  obtain ⟨y130, hy130⟩ : ∃ y_ : List Int, y_ = (y124 ++ t127) := ⟨_, rfl⟩
                  replace H : (spec_Grouped.l0 k1 y130 l0 (l0.length : Int) (wrap64 (x8_1 + 1))) = some r := by first | (rw [hy130]; with_reducible exact H) | (have H2_ := (Option.bind_some _ _).symm.trans H; rw [hy130]; with_reducible exact H2_) | (have H2_ := (Option.bind_some _ _).symm.trans H; with_reducible exact H2_) | with_reducible exact H | (rw [hy130]; exact H) | exact H
                  have Ny130 := Aside0.mk hy130
                  clear hy130
                  have H' := Aside0.mk H
                  clear H
                  have p122 : 0 ≤ (x8_1 : Int) := of_decide_eq_true (by first | (with_reducible assumption) | assumption)
                  have q122 : x8_1 < (l0.length : Int) := of_decide_eq_true (by first | (with_reducible assumption) | assumption)
                  obtain ⟨ad122, A122_3, c122_3, e122, hx122_0, hx122_1, hx122_2, hx122_3, hl122_3, hi122_3⟩ := at_T66 HR0.out x8_1 p122 q122
                  cases e122
                  replace hx122_0 := (HB.out.cell (World.block_lt_of_cell? w _ hx122_0)).trans hx122_0
                  replace hx122_1 := (HB.out.cell (World.block_lt_of_cell? w _ hx122_1)).trans hx122_1
                  replace hx122_2 := (HB.out.cell (World.block_lt_of_cell? w _ hx122_2)).trans hx122_2
                  replace hx122_3 := (HB.out.cell (World.block_lt_of_cell? w _ hx122_3)).trans hx122_3
                  have HR122_3 := Aside0.mk hi122_3
                  have HC122_3 := Aside0.mk hl122_3
                  clear hi122_3 hl122_3
                  replace p122 := eq_true p122
                  replace q122 := eq_true q122
                  go_wp2_with (first | ((with_reducible refine gate_dst (N := 5) rfl ?_); refine box_event ?hg (N := 5) ?hd (cs := #[.int .i64 0, .int .i64 0, .int .i64 0, .slice none 0 0]) (t := 66) ?hr ?_; (case hd => rfl); (case hg => rfl); (case hr => first | (go_simp; done) | (go_simp; rfl)); intro gb123 hg w9 hbox hb; have n0_ := Aside0.mk (Kd.R_below (by (with_reducible repeat (first | apply Kd.R_alloc | apply Kd.R_drewN | apply Kd.R_drew)); exact HO_3.out) hb); have n1_ := Aside0.mk (below_step (by repeat (first | (with_reducible first | exact HB.out | apply below_alloc | apply pw_below_drewN | apply below_drew1) | exact HB.out)) hb); have n2_ := Aside0.mk (hbox); have n3_ := Aside0.mk ((by rw [hg]; exact (below_size (by repeat (first | (with_reducible first | exact HB.out | apply below_alloc | apply pw_below_drewN | apply below_drew1) | exact HB.out))) : w.heap.size ≤ gb123)); have n4_ := Aside0.mk ((by rw [hg]; exact (below_size (by repeat (first | (with_reducible first | exact HB.out | apply below_alloc | apply pw_below_drewN | apply below_drew1) | exact HB.out))) : w.heap.size ≤ gb123)); clear HO_3; clear HB; have HO_3 := n0_; have HB := n1_; have BK123 := n2_; have GW123 := n3_; have GE123 := n4_; clear n0_ n1_ n2_ n3_ n4_; clear hb hbox hg; have hcz10_0 : w9.cell? ⟨gb123, 0, none⟩ = some (.int .i64 0) := (blk_cell BK123.out 0).trans rfl; have hcz10_1 : w9.cell? ⟨gb123, 1, none⟩ = some (.int .i64 0) := (blk_cell BK123.out 1).trans rfl; have hcz10_2 : w9.cell? ⟨gb123, 2, none⟩ = some (.int .i64 0) := (blk_cell BK123.out 2).trans rfl; have hcz10_3 : w9.cell? ⟨gb123, 3, none⟩ = some (.slice none 0 0) := (blk_cell BK123.out 3).trans rfl; have hfz10_0 := blk_frozen BK123.out 0; have hfz10_1 := blk_frozen BK123.out 1; have hfz10_2 := blk_frozen BK123.out 2; have hfz10_3 := blk_frozen BK123.out 3) | ((with_reducible refine gate_builtin (b := .append) (xs := #[.tmp 15, .tmp 18]) rfl ?_); at_builtin; refine Kd.R_append (Kd.int .i64) (w0 := w) w.heap.size rfl (.tmp 15) (.tmp 18) 41 3 (.int .i64 0) 8 rfl Tryd.underlying41 info3 rfl (by decide) (by omega) u3 x3_1 ((rd_T66 l0 x8_1).f1) [.int .i64 ((rd_T66 l0 x8_1).f1)] (fun _ => True) (fun _ => False) rfl (by first | (go_simp; done) | (go_simp; rfl)) ?aP (fun _ hk => hk.elim) ?aF ?aO ?aB ?aS ?aL ?_; (case aP => exact rfl); (case aB => exact (by repeat (first | (with_reducible first | exact HB.out | apply below_alloc | apply pw_below_drewN | apply below_drew1 | refine below_set ?_ GE123.out) | exact HB.out))); (case aF => exact (fun _ _ => trivial)); (case aO => exact (by (with_reducible repeat (first | apply Kd.R_alloc | apply Kd.R_drewN | apply Kd.R_drew)); exact Kd.R_mono (Kd.R_far (p := ⟨gb123, 3, none⟩) (Kd.R_far (p := ⟨gb123, 2, none⟩) (Kd.R_far (p := ⟨gb123, 1, none⟩) (Kd.R_far (p := ⟨gb123, 0, none⟩) (Kd.R_types HO_3.out BK123.out (by decide)) (fun _ hk => hk.2) (.int .i64 ((rd_T66 l0 x8_1).f0))) (fun _ hk => hk.2) (.int .i64 ((rd_T66 l0 x8_1).f1))) (fun _ hk => hk.2) (.int .i64 ((rd_T66 l0 x8_1).f2))) (fun _ hk => hk.2) (.slice A122_3 ((rd_T66 l0 x8_1).f3).length c122_3)) (fun _ hk => trivial))); (case aS => exact (below_size (by repeat (first | (with_reducible first | exact HB.out | apply below_alloc | apply pw_below_drewN | apply below_drew1 | refine below_set ?_ GE123.out) | exact HB.out)))); (case aL => have := LMc6.out; omega); intro v125 w11 ho hb hg hat; rw [← Ny124.out] at ho; have n0_ := Aside0.mk (blk_grown (g := gb123) (o := .cells #[.int .i64 ((rd_T66 l0 x8_1).f0), .int .i64 ((rd_T66 l0 x8_1).f1), .int .i64 ((rd_T66 l0 x8_1).f2), .slice A122_3 ((rd_T66 l0 x8_1).f3).length c122_3] 66 (0, 0)) (by (with_reducible repeat (first | refine blk_drewN ?_ _ | refine blk_drew ?_ | refine blk_alloc ?_ _)); refine blk_put (cs := #[.int .i64 ((rd_T66 l0 x8_1).f0), .int .i64 ((rd_T66 l0 x8_1).f1), .int .i64 ((rd_T66 l0 x8_1).f2), .slice none 0 0]) ?_ 3 _ rfl; (with_reducible repeat (first | refine blk_drewN ?_ _ | refine blk_drew ?_ | refine blk_alloc ?_ _)); refine blk_put (cs := #[.int .i64 ((rd_T66 l0 x8_1).f0), .int .i64 ((rd_T66 l0 x8_1).f1), .int .i64 0, .slice none 0 0]) ?_ 2 _ rfl; (with_reducible repeat (first | refine blk_drewN ?_ _ | refine blk_drew ?_ | refine blk_alloc ?_ _)); refine blk_put (cs := #[.int .i64 ((rd_T66 l0 x8_1).f0), .int .i64 0, .int .i64 0, .slice none 0 0]) ?_ 1 _ rfl; (with_reducible repeat (first | refine blk_drewN ?_ _ | refine blk_drew ?_ | refine blk_alloc ?_ _)); refine blk_put (cs := #[.int .i64 0, .int .i64 0, .int .i64 0, .slice none 0 0]) ?_ 0 _ rfl; (with_reducible repeat (first | refine blk_drewN ?_ _ | refine blk_drew ?_ | refine blk_alloc ?_ _)); exact BK123.out) hg (Kd.R_ne HO_3.out BK123.out (by decide))); have n1_ := Aside0.mk (hb); have n2_ := Aside0.mk (ho); clear BK123; clear HB; clear HO_3; have BK123 := n0_; have HB := n1_; have HO126 := n2_; clear n0_ n1_ n2_; clear ho hb hg hat; have hcz12_0 : w11.cell? ⟨gb123, 0, none⟩ = some (.int .i64 ((rd_T66 l0 x8_1).f0)) := (blk_cell BK123.out 0).trans rfl; have hcz12_1 : w11.cell? ⟨gb123, 1, none⟩ = some (.int .i64 ((rd_T66 l0 x8_1).f1)) := (blk_cell BK123.out 1).trans rfl; have hcz12_2 : w11.cell? ⟨gb123, 2, none⟩ = some (.int .i64 ((rd_T66 l0 x8_1).f2)) := (blk_cell BK123.out 2).trans rfl; have hcz12_3 : w11.cell? ⟨gb123, 3, none⟩ = some (.slice A122_3 ((rd_T66 l0 x8_1).f3).length c122_3) := (blk_cell BK123.out 3).trans rfl; have hfz12_0 := blk_frozen BK123.out 0; have hfz12_1 := blk_frozen BK123.out 1; have hfz12_2 := blk_frozen BK123.out 2; have hfz12_3 := blk_frozen BK123.out 3) | ((with_reducible refine gate_callee (f := 12) rfl ?_); refine goesL_ (some 23) rfl rfl Tryd.func12 (by kernel_rfl) rfl #[.slice A122_3 ((rd_T66 l0 x8_1).f3).length c122_3] rfl (by (try simp only [List.map_toArray, List.map_cons, List.map_nil]); first | done | rfl | (simp only [List.length_drop, List.length_take]; rfl)) ?_; (with_reducible refine (ih k1 (by have := HK1.out; omega) _ _ ((rd_T66 l0 x8_1).f3) t127 _ ?side1 ?side2 A7.out).mono ?_); (case side1 => repeat (first | exact (Kd.C_below HR122_3.out HB.out) | (with_reducible refine Kd.C_alloc ?_ _) | (with_reducible refine Kd.C_drewN ?_ _) | (with_reducible refine Kd.C_drew ?_))); (case side2 => exact HC122_3.out); rintro e w13 ⟨v128, rfl, ho0, hb⟩; refine ⟨_, rfl, ?_⟩; have n0_ := Aside0.mk (Kd.R_elder' (by (with_reducible repeat (first | apply Kd.R_alloc | apply Kd.R_drewN | apply Kd.R_drew)); exact HO126.out) (Kd.R_base ho0) hb); have n1_ := Aside0.mk (Kd.R_lower (Kd.R_new' ho0 (Kd.R_lt (by (with_reducible repeat (first | apply Kd.R_alloc | apply Kd.R_drewN | apply Kd.R_drew)); exact HO126.out))) (below_size (by repeat (first | (with_reducible first | exact HB.out | apply below_alloc | apply pw_below_drewN | apply below_drew1 | refine below_set ?_ GE123.out) | exact HB.out)))); have n2_ := Aside0.mk (blk_below (g := gb123) (o := .cells #[.int .i64 ((rd_T66 l0 x8_1).f0), .int .i64 ((rd_T66 l0 x8_1).f1), .int .i64 ((rd_T66 l0 x8_1).f2), .slice A122_3 ((rd_T66 l0 x8_1).f3).length c122_3] 66 (0, 0)) (by (with_reducible repeat (first | refine blk_drewN ?_ _ | refine blk_drew ?_ | refine blk_alloc ?_ _)); exact BK123.out) hb); have n3_ := Aside0.mk (below_step (by repeat (first | (with_reducible first | exact HB.out | apply below_alloc | apply pw_below_drewN | apply below_drew1 | refine below_set ?_ GE123.out) | exact HB.out)) hb); clear HO126; clear BK123; clear HB; have HO126 := n0_; have HO129 := n1_; have BK123 := n2_; have HB := n3_; clear n0_ n1_ n2_ n3_; (try clear hb); (try clear hb2); (try clear hk); (try clear hi); (try clear ho0); obtain ⟨Ao15, co15, eo15⟩ := Kd.R_slice HO129.out; subst eo15) | ((with_reducible refine gate_builtin (b := .append) (xs := #[.tmp 20, .tmp 23]) rfl ?_); at_builtin; refine Kd.R_append_rows (Kd.int .i64) (w0 := w) w.heap.size rfl (.tmp 20) (.tmp 23) 41 3 (.int .i64 0) 8 rfl Tryd.underlying41 info3 rfl (by decide) (by omega) v125 y124 t127 _ _ _ (fun k_ => some k_ ≠ (.slice Ao15 t127.length co15 : Value).ownBlock) (fun _ => False) rfl rfl ?aO ?aR (fun _ _ h => h) (fun _ h => h.elim) ?aF ?aB ?aS ?aL ?_; (case aR => repeat (first | exact (Kd.R_reads' HO129.out).2.2 | (with_reducible refine Kd.C_alloc ?_ _) | (with_reducible refine Kd.C_drewN ?_ _) | (with_reducible refine Kd.C_drew ?_))); (case aB => exact (by repeat (first | (with_reducible first | exact HB.out | apply below_alloc | apply pw_below_drewN | apply below_drew1 | refine below_set ?_ GE123.out) | exact HB.out))); (case aF => exact (fun k_ hk => Kd.fresh' (Kd.R_lt (by (with_reducible repeat (first | apply Kd.R_alloc | apply Kd.R_drewN | apply Kd.R_drew)); exact HO129.out)) k_ hk)); (case aO => exact (by (with_reducible repeat (first | apply Kd.R_alloc | apply Kd.R_drewN | apply Kd.R_drew)); exact Kd.R_mono HO126.out (fun _ hk => hk.2))); (case aS => exact (below_size (by repeat (first | (with_reducible first | exact HB.out | apply below_alloc | apply pw_below_drewN | apply below_drew1 | refine below_set ?_ GE123.out) | exact HB.out)))); (case aL => have := LMc8.out; omega); intro v131 w14 ho hb hg hat; rw [← Ny130.out] at ho; have n0_ := Aside0.mk (blk_grown (g := gb123) (o := .cells #[.int .i64 ((rd_T66 l0 x8_1).f0), .int .i64 ((rd_T66 l0 x8_1).f1), .int .i64 ((rd_T66 l0 x8_1).f2), .slice A122_3 ((rd_T66 l0 x8_1).f3).length c122_3] 66 (0, 0)) (by (with_reducible repeat (first | refine blk_drewN ?_ _ | refine blk_drew ?_ | refine blk_alloc ?_ _)); exact BK123.out) hg (Kd.R_ne HO126.out BK123.out (by decide))); have n1_ := Aside0.mk (Kd.R_after (ok := (fun _ => True)) (by (with_reducible repeat (first | apply Kd.R_alloc | apply Kd.R_drewN | apply Kd.R_drew)); exact HO129.out) hg hat); have n2_ := Aside0.mk (hb); have n3_ := Aside0.mk (ho); clear BK123; clear HO129; clear HB; clear HO126; have BK123 := n0_; have HO129 := n1_; have HB := n2_; have HO132 := n3_; clear n0_ n1_ n2_ n3_; clear ho hb hg hat))
                  go_roundg k1
                  case measure => have := HK1.out; omega
                  case rel => exact ⟨(y130), (wrap64 (x8_1 + 1)), (by first | rfl | (simp; done) | (simp [*]; done)), H', ⟨by have := HK1.out; omega⟩, ⟨by (with_reducible repeat (first | apply Kd.R_alloc | apply Kd.R_drewN | apply Kd.R_drew)); exact Kd.R_mono HO132.out (fun _ hk => trivial)⟩, ⟨by repeat (first | (with_reducible first | exact HB.out | apply below_alloc | apply pw_below_drewN | apply below_drew1 | refine below_set ?_ GE123.out) | exact HB.out)⟩⟩
                · rw [if_neg c8] at H
                  exact absurd H (by simp)
              · rw [if_neg c6] at H
                exact absurd H (by simp)
            · rw [if_neg c5] at H
              have c5b0 : decide (0 ≤ ((rd_T66 l0 x8_1).f1)) = false := decide_eq_false c5
              clear c5
              replace H := Option.bind_eq_some_iff.mp H
              obtain ⟨t133, A160, H⟩ := H
              replace H : (if x3_1.length + t133.length < 17592186044416 then (spec_Grouped.l0 k1 (x3_1 ++ t133) l0 (l0.length : Int) (wrap64 (x8_1 + 1))) else (none)) = some r := H
              have A16 := Aside0.mk A160
              clear A160
              by_cases c17 : x3_1.length + t133.length < 17592186044416
              · rw [if_pos c17] at H
                have LMc17 := Aside0.mk c17
                clear c17
                obtain ⟨y136, hy136⟩ : ∃ y_ : List Int, y_ = (x3_1 ++ t133) := ⟨_, rfl⟩
                replace H : (spec_Grouped.l0 k1 y136 l0 (l0.length : Int) (wrap64 (x8_1 + 1))) = some r := by first | (rw [hy136]; with_reducible exact H) | (have H2_ := (Option.bind_some _ _).symm.trans H; rw [hy136]; with_reducible exact H2_) | (have H2_ := (Option.bind_some _ _).symm.trans H; with_reducible exact H2_) | with_reducible exact H | (rw [hy136]; exact H) | exact H
                have Ny136 := Aside0.mk hy136
                clear hy136
                have H' := Aside0.mk H
                clear H
                have p122 : 0 ≤ (x8_1 : Int) := of_decide_eq_true (by first | (with_reducible assumption) | assumption)
                have q122 : x8_1 < (l0.length : Int) := of_decide_eq_true (by first | (with_reducible assumption) | assumption)
                obtain ⟨ad122, A122_3, c122_3, e122, hx122_0, hx122_1, hx122_2, hx122_3, hl122_3, hi122_3⟩ := at_T66 HR0.out x8_1 p122 q122
                cases e122
                replace hx122_0 := (HB.out.cell (World.block_lt_of_cell? w _ hx122_0)).trans hx122_0
                replace hx122_1 := (HB.out.cell (World.block_lt_of_cell? w _ hx122_1)).trans hx122_1
                replace hx122_2 := (HB.out.cell (World.block_lt_of_cell? w _ hx122_2)).trans hx122_2
                replace hx122_3 := (HB.out.cell (World.block_lt_of_cell? w _ hx122_3)).trans hx122_3
                have HR122_3 := Aside0.mk hi122_3
                have HC122_3 := Aside0.mk hl122_3
                clear hi122_3 hl122_3
                replace p122 := eq_true p122
                replace q122 := eq_true q122
                go_wp2_with (first | ((with_reducible refine gate_dst (N := 5) rfl ?_); refine box_event ?hg (N := 5) ?hd (cs := #[.int .i64 0, .int .i64 0, .int .i64 0, .slice none 0 0]) (t := 66) ?hr ?_; (case hd => rfl); (case hg => rfl); (case hr => first | (go_simp; done) | (go_simp; rfl)); intro gb123 hg w18 hbox hb; have n0_ := Aside0.mk (Kd.R_below (by (with_reducible repeat (first | apply Kd.R_alloc | apply Kd.R_drewN | apply Kd.R_drew)); exact HO_3.out) hb); have n1_ := Aside0.mk (below_step (by repeat (first | (with_reducible first | exact HB.out | apply below_alloc | apply pw_below_drewN | apply below_drew1) | exact HB.out)) hb); have n2_ := Aside0.mk (hbox); have n3_ := Aside0.mk ((by rw [hg]; exact (below_size (by repeat (first | (with_reducible first | exact HB.out | apply below_alloc | apply pw_below_drewN | apply below_drew1) | exact HB.out))) : w.heap.size ≤ gb123)); have n4_ := Aside0.mk ((by rw [hg]; exact (below_size (by repeat (first | (with_reducible first | exact HB.out | apply below_alloc | apply pw_below_drewN | apply below_drew1) | exact HB.out))) : w.heap.size ≤ gb123)); clear HO_3; clear HB; have HO_3 := n0_; have HB := n1_; have BK123 := n2_; have GW123 := n3_; have GE123 := n4_; clear n0_ n1_ n2_ n3_ n4_; clear hb hbox hg; have hcz19_0 : w18.cell? ⟨gb123, 0, none⟩ = some (.int .i64 0) := (blk_cell BK123.out 0).trans rfl; have hcz19_1 : w18.cell? ⟨gb123, 1, none⟩ = some (.int .i64 0) := (blk_cell BK123.out 1).trans rfl; have hcz19_2 : w18.cell? ⟨gb123, 2, none⟩ = some (.int .i64 0) := (blk_cell BK123.out 2).trans rfl; have hcz19_3 : w18.cell? ⟨gb123, 3, none⟩ = some (.slice none 0 0) := (blk_cell BK123.out 3).trans rfl; have hfz19_0 := blk_frozen BK123.out 0; have hfz19_1 := blk_frozen BK123.out 1; have hfz19_2 := blk_frozen BK123.out 2; have hfz19_3 := blk_frozen BK123.out 3) | ((with_reducible refine gate_callee (f := 12) rfl ?_); refine goesL_ (some 23) rfl rfl Tryd.func12 (by kernel_rfl) rfl #[.slice A122_3 ((rd_T66 l0 x8_1).f3).length c122_3] rfl (by (try simp only [List.map_toArray, List.map_cons, List.map_nil]); first | done | rfl | (simp only [List.length_drop, List.length_take]; rfl)) ?_; (with_reducible refine (ih k1 (by have := HK1.out; omega) _ _ ((rd_T66 l0 x8_1).f3) t133 _ ?side1 ?side2 A16.out).mono ?_); (case side1 => exact Kd.C_below HR122_3.out (by repeat (first | (with_reducible first | exact HB.out | apply below_alloc | apply pw_below_drewN | apply below_drew1 | refine below_set ?_ GE123.out) | exact HB.out))); (case side2 => exact HC122_3.out); rintro e w20 ⟨v134, rfl, ho0, hb⟩; refine ⟨_, rfl, ?_⟩; have n0_ := Aside0.mk (Kd.R_elder' (by (with_reducible repeat (first | apply Kd.R_alloc | apply Kd.R_drewN | apply Kd.R_drew)); exact (Kd.R_mono (Kd.R_far (p := ⟨gb123, 3, none⟩) (Kd.R_far (p := ⟨gb123, 2, none⟩) (Kd.R_far (p := ⟨gb123, 1, none⟩) (Kd.R_far (p := ⟨gb123, 0, none⟩) (Kd.R_types HO_3.out BK123.out (by decide)) (fun _ hk => hk.2) (.int .i64 ((rd_T66 l0 x8_1).f0))) (fun _ hk => hk.2) (.int .i64 ((rd_T66 l0 x8_1).f1))) (fun _ hk => hk.2) (.int .i64 ((rd_T66 l0 x8_1).f2))) (fun _ hk => hk.2) (.slice A122_3 ((rd_T66 l0 x8_1).f3).length c122_3)) (fun _ h_ => h_.1))) (Kd.R_base ho0) hb); have n1_ := Aside0.mk (Kd.R_lower (Kd.R_new' ho0 (Kd.R_lt (by (with_reducible repeat (first | apply Kd.R_alloc | apply Kd.R_drewN | apply Kd.R_drew)); exact (Kd.R_mono (Kd.R_far (p := ⟨gb123, 3, none⟩) (Kd.R_far (p := ⟨gb123, 2, none⟩) (Kd.R_far (p := ⟨gb123, 1, none⟩) (Kd.R_far (p := ⟨gb123, 0, none⟩) (Kd.R_types HO_3.out BK123.out (by decide)) (fun _ hk => hk.2) (.int .i64 ((rd_T66 l0 x8_1).f0))) (fun _ hk => hk.2) (.int .i64 ((rd_T66 l0 x8_1).f1))) (fun _ hk => hk.2) (.int .i64 ((rd_T66 l0 x8_1).f2))) (fun _ hk => hk.2) (.slice A122_3 ((rd_T66 l0 x8_1).f3).length c122_3)) (fun _ h_ => h_.1))))) (below_size (by repeat (first | (with_reducible first | exact HB.out | apply below_alloc | apply pw_below_drewN | apply below_drew1 | refine below_set ?_ GE123.out) | exact HB.out)))); have n2_ := Aside0.mk (blk_below (g := gb123) (o := .cells #[.int .i64 ((rd_T66 l0 x8_1).f0), .int .i64 ((rd_T66 l0 x8_1).f1), .int .i64 ((rd_T66 l0 x8_1).f2), .slice A122_3 ((rd_T66 l0 x8_1).f3).length c122_3] 66 (0, 0)) (by (with_reducible repeat (first | refine blk_drewN ?_ _ | refine blk_drew ?_ | refine blk_alloc ?_ _)); refine blk_put (cs := #[.int .i64 ((rd_T66 l0 x8_1).f0), .int .i64 ((rd_T66 l0 x8_1).f1), .int .i64 ((rd_T66 l0 x8_1).f2), .slice none 0 0]) ?_ 3 _ rfl; (with_reducible repeat (first | refine blk_drewN ?_ _ | refine blk_drew ?_ | refine blk_alloc ?_ _)); refine blk_put (cs := #[.int .i64 ((rd_T66 l0 x8_1).f0), .int .i64 ((rd_T66 l0 x8_1).f1), .int .i64 0, .slice none 0 0]) ?_ 2 _ rfl; (with_reducible repeat (first | refine blk_drewN ?_ _ | refine blk_drew ?_ | refine blk_alloc ?_ _)); refine blk_put (cs := #[.int .i64 ((rd_T66 l0 x8_1).f0), .int .i64 0, .int .i64 0, .slice none 0 0]) ?_ 1 _ rfl; (with_reducible repeat (first | refine blk_drewN ?_ _ | refine blk_drew ?_ | refine blk_alloc ?_ _)); refine blk_put (cs := #[.int .i64 0, .int .i64 0, .int .i64 0, .slice none 0 0]) ?_ 0 _ rfl; (with_reducible repeat (first | refine blk_drewN ?_ _ | refine blk_drew ?_ | refine blk_alloc ?_ _)); exact BK123.out) hb); have n3_ := Aside0.mk (below_step (by repeat (first | (with_reducible first | exact HB.out | apply below_alloc | apply pw_below_drewN | apply below_drew1 | refine below_set ?_ GE123.out) | exact HB.out)) hb); clear HO_3; clear BK123; clear HB; have HO_3 := n0_; have HO135 := n1_; have BK123 := n2_; have HB := n3_; clear n0_ n1_ n2_ n3_; (try clear hb); (try clear hb2); (try clear hk); (try clear hi); (try clear ho0); obtain ⟨Ao22, co22, eo22⟩ := Kd.R_slice HO135.out; subst eo22) | ((with_reducible refine gate_builtin (b := .append) (xs := #[.tmp 20, .tmp 23]) rfl ?_); at_builtin; refine Kd.R_append_rows (Kd.int .i64) (w0 := w) w.heap.size rfl (.tmp 20) (.tmp 23) 41 3 (.int .i64 0) 8 rfl Tryd.underlying41 info3 rfl (by decide) (by omega) u3 x3_1 t133 _ _ _ (fun k_ => some k_ ≠ (.slice Ao22 t133.length co22 : Value).ownBlock) (fun _ => False) rfl rfl ?aO ?aR (fun _ _ h => h) (fun _ h => h.elim) ?aF ?aB ?aS ?aL ?_; (case aR => repeat (first | exact (Kd.R_reads' HO135.out).2.2 | (with_reducible refine Kd.C_alloc ?_ _) | (with_reducible refine Kd.C_drewN ?_ _) | (with_reducible refine Kd.C_drew ?_))); (case aB => exact (by repeat (first | (with_reducible first | exact HB.out | apply below_alloc | apply pw_below_drewN | apply below_drew1 | refine below_set ?_ GE123.out) | exact HB.out))); (case aF => exact (fun k_ hk => Kd.fresh' (Kd.R_lt (by (with_reducible repeat (first | apply Kd.R_alloc | apply Kd.R_drewN | apply Kd.R_drew)); exact HO135.out)) k_ hk)); (case aO => exact (by (with_reducible repeat (first | apply Kd.R_alloc | apply Kd.R_drewN | apply Kd.R_drew)); exact Kd.R_mono HO_3.out (fun _ hk => hk.2))); (case aS => exact (below_size (by repeat (first | (with_reducible first | exact HB.out | apply below_alloc | apply pw_below_drewN | apply below_drew1 | refine below_set ?_ GE123.out) | exact HB.out)))); (case aL => have := LMc17.out; omega); intro v137 w21 ho hb hg hat; rw [← Ny136.out] at ho; have n0_ := Aside0.mk (blk_grown (g := gb123) (o := .cells #[.int .i64 ((rd_T66 l0 x8_1).f0), .int .i64 ((rd_T66 l0 x8_1).f1), .int .i64 ((rd_T66 l0 x8_1).f2), .slice A122_3 ((rd_T66 l0 x8_1).f3).length c122_3] 66 (0, 0)) (by (with_reducible repeat (first | refine blk_drewN ?_ _ | refine blk_drew ?_ | refine blk_alloc ?_ _)); exact BK123.out) hg (Kd.R_ne HO_3.out BK123.out (by decide))); have n1_ := Aside0.mk (Kd.R_after (ok := (fun _ => True)) (by (with_reducible repeat (first | apply Kd.R_alloc | apply Kd.R_drewN | apply Kd.R_drew)); exact HO135.out) hg hat); have n2_ := Aside0.mk (hb); have n3_ := Aside0.mk (ho); clear BK123; clear HO135; clear HB; clear HO_3; have BK123 := n0_; have HO135 := n1_; have HB := n2_; have HO138 := n3_; clear n0_ n1_ n2_ n3_; clear ho hb hg hat))
                go_roundg k1
                case measure => have := HK1.out; omega
                case rel => exact ⟨(y136), (wrap64 (x8_1 + 1)), (by first | rfl | (simp; done) | (simp [*]; done)), H', ⟨by have := HK1.out; omega⟩, ⟨by (with_reducible repeat (first | apply Kd.R_alloc | apply Kd.R_drewN | apply Kd.R_drew)); exact Kd.R_mono HO138.out (fun _ hk => trivial)⟩, ⟨by repeat (first | (with_reducible first | exact HB.out | apply below_alloc | apply pw_below_drewN | apply below_drew1 | refine below_set ?_ GE123.out) | exact HB.out)⟩⟩
              · rw [if_neg c17] at H
                exact absurd H (by simp)
          · rw [if_neg c4] at H
            exact absurd H (by simp)
        · rw [if_neg c3] at H
          exact absurd H (by simp)
      · rw [if_neg c2] at H
        have c2b0 : decide (x8_1 < (l0.length : Int)) = false := decide_eq_false c2
        clear c2
        obtain rfl := Option.some.inj H
        go_wp2
        go_ret
        exact ⟨_, by first | rfl | (simp [errW_none, errW_some] <;> rfl) | (simp [*, errW_none, errW_some] <;> rfl), by (with_reducible repeat (first | apply Kd.R_alloc | apply Kd.R_drewN | apply Kd.R_drew)); exact HO_3.out, by repeat (first | (with_reducible first | exact HB.out | apply below_alloc | apply pw_below_drewN | apply below_drew1) | exact HB.out)⟩

-- NOT PRINTED: function 4 (laws_FnGroupTokens)

end Go.Proofs.YtgidfhpcobpinaaDoor.PFnGroupTokens
