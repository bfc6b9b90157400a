/- Plain facts on the reference's Has, for another law's printed functions. -/
import Derived.Test.YtbicbdcbbeifhaaDoorPFnMarkerToldx
namespace Go.Proofs.YtbicbdcbbeifhaaDoor.MkH
open Go.RowKit Go.Proofs.YtbicbdcbbeifhaaDoor.PFnMarkerTold Go.Proofs.YtbicbdcbbeifhaaDoorW.PrintWords Go.Proofs.YtbicbdcbbeifhaaDoorW.PrintLast Go.Proofs.YtbicbdcbbeifhaaDoorW.PrintMore
set_option linter.unusedSimpArgs false
set_option linter.unusedVariables false

theorem bt_nat (s : ByteArray) (i : Nat) (h : i < s.size) : bt s (i : Int) = ((s[i]'h).toNat : Int) := by
  unfold bt
  simp [h]
theorem drop_at (s : ByteArray) (i : Nat) (h : i < s.size) : s.data.toList.drop i = s[i]'h :: s.data.toList.drop (i + 1) := by
  rw [List.drop_eq_getElem_cons (by simp [ByteArray.size_data]; omega)]
  rfl
theorem drop_all (s : ByteArray) (i : Nat) (h : ¬ i < s.size) : s.data.toList.drop i = [] :=
  List.drop_of_length_le (by rw [Array.length_toList, ByteArray.size_data]; omega)

theorem has_l1 (s sub : ByteArray) (hs : s.size ≤ 2147483647) (hb : sub.size ≤ 2147483647) (i : Nat) (hi : i < s.size) (r : Bool) (hr : Ev (fun k => spec_Has.l0 k s sub ((i + 1 : Nat) : Int)) r) (e : Nat) : ∀ j : Nat, sub.size - j = e →
    Ev (fun k => spec_Has.l1 k s sub (i : Int) (j : Int)) ((sub.data.toList.drop j).contains (s[i]'hi) || r) := by
  induction e with
  | zero =>
    intro j hj
    rw [drop_all sub j (by omega)]
    refine Ev.step (f := fun k => spec_Has.l0 k s sub ((i + 1 : Nat) : Int)) (fun k => ?_) hr
    simp only [spec_Has.l1]
    rw [if_neg (by omega), show wrap64 ((i : Int) + 1) = ((i + 1 : Nat) : Int) from by unfold wrap64; omega]
  | succ e ih =>
    intro j hj
    have hlt : j < sub.size := by omega
    rw [drop_at sub j hlt]
    by_cases he : s[i]'hi = sub[j]'hlt
    · refine Ev.step (f := fun _ => some true) (fun k => ?_) (by rw [List.contains_cons]; simp only [he, beq_self_eq_true, Bool.true_or]; exact Ev.now _)
      simp only [spec_Has.l1]
      rw [if_pos (by omega), if_pos (by omega), if_pos (by omega), if_pos (by omega), bt_nat s i hi, bt_nat sub j hlt, if_pos (by rw [he])]
    · refine Ev.step (f := fun k => spec_Has.l1 k s sub (i : Int) ((j + 1 : Nat) : Int)) (fun k => ?_) ?_
      · simp only [spec_Has.l1]
        rw [if_pos (by omega), if_pos (by omega), if_pos (by omega), if_pos (by omega), bt_nat s i hi, bt_nat sub j hlt, if_neg (fun h => he (UInt8.toNat_inj.1 (by omega))),
          show wrap64 ((j : Int) + 1) = ((j + 1 : Nat) : Int) from by unfold wrap64; omega]
      · have := ih (j + 1) (by omega)
        rw [List.contains_cons]
        have hf : (s[i]'hi == sub[j]'hlt) = false := by simpa using he
        rw [hf, Bool.false_or]
        exact this

theorem has_l0 (s sub : ByteArray) (hs : s.size ≤ 2147483647) (hb : sub.size ≤ 2147483647) (d : Nat) : ∀ i : Nat, s.size - i = d →
    Ev (fun k => spec_Has.l0 k s sub (i : Int)) ((s.data.toList.drop i).any fun c => sub.data.toList.contains c) := by
  induction d with
  | zero =>
    intro i hi
    rw [drop_all s i (by omega)]
    refine Ev.step (f := fun _ => some false) (fun k => ?_) (Ev.now _)
    simp only [spec_Has.l0]
    rw [if_neg (by omega)]
  | succ d ih =>
    intro i hi
    have hlt : i < s.size := by omega
    rw [drop_at s i hlt]
    refine Ev.step (f := fun k => spec_Has.l1 k s sub (i : Int) ((0 : Nat) : Int)) (fun k => ?_) ?_
    · simp only [spec_Has.l0]
      rw [if_pos (by omega)]
      rfl
    · have := has_l1 s sub hs hb i hlt _ (ih (i + 1) (by omega)) sub.size 0 (by omega)
      simpa using this

/-- The reference's Has. -/
theorem has_all (s sub : ByteArray) (hs : s.size ≤ 2147483647) (hb : sub.size ≤ 2147483647) : ∃ k, spec_Has.f k s sub = some (s.data.toList.any fun c => sub.data.toList.contains c) := by
  have := (has_l0 s sub hs hb s.size 0 (by omega)).rounds
  simpa [spec_Has.f] using this

end Go.Proofs.YtbicbdcbbeifhaaDoor.MkH
