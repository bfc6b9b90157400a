/- Plain facts behind FnPartChars: texts on one line, and what is split of them. -/
import Derived.Test.YtgidfhpcobpinaaDoorPc
import Derived.Test.YtgidfhpcobpinaaDoorRunes
namespace Go.Proofs.YtgidfhpcobpinaaDoor.PcP
open Go.RowKit Go.Proofs.YtgidfhpcobpinaaDoor.PFnPartChars Go.Proofs.YtgidfhpcobpinaaDoorW.PrintWords Go.Proofs.YtgidfhpcobpinaaDoorW.PrintLast Go.Proofs.YtgidfhpcobpinaaDoorW.PrintMore
open Go.Proofs.YtgidfhpcobpinaaDoor.Rn
set_option linter.unusedSimpArgs false
set_option linter.unusedVariables false

/-! ### A text whose runes are no line feeds has no line feed -/
theorem decode_four (s : ByteArray) (i : Nat) : (Utf8.decode s i).2 ≤ 4 := by
  unfold Utf8.decode
  simp only
  repeat' split
  all_goals simp

theorem decode_inner (s : ByteArray) (i m : Nat) (h0 : 0 < m) (h : m < (Utf8.decode s i).2) : i + m < s.size ∧ 128 ≤ (s.get! (i + m)).toNat := by
  have h4 := decode_four s i
  unfold Utf8.decode at h
  simp only at h
  split at h
  · simp at h; omega
  · split at h
    · rename_i _ hc
      split at h
      · simp at h
        obtain rfl : m = 1 := by omega
        simp at hc
        exact ⟨hc.2.1, by have := hc.2.2; omega⟩
      · simp at h; omega
    · split at h
      · rename_i _ _ hc
        split at h
        · simp at h
          simp at hc
          obtain rfl | rfl : m = 1 ∨ m = 2 := by omega
          · exact ⟨hc.1.2.1, by have := hc.1.2.2; omega⟩
          · exact ⟨hc.2.1, by have := hc.2.2; omega⟩
        · simp at h; omega
      · split at h
        · rename_i _ _ _ hc
          split at h
          · simp at h
            simp at hc
            obtain rfl | rfl | rfl : m = 1 ∨ m = 2 ∨ m = 3 := by omega
            · exact ⟨hc.1.1.2.1, by have := hc.1.1.2.2; omega⟩
            · exact ⟨hc.1.2.1, by have := hc.1.2.2; omega⟩
            · exact ⟨hc.2.1, by have := hc.2.2; omega⟩
          · simp at h; omega
        · simp at h; omega

theorem no_feed_at (s : ByteArray) (n : Nat) : ∀ i, s.size - i ≤ n → (∀ r ∈ runesAt s i, r ≠ 10) → ∀ (j : Nat) (hj : j < s.size), i ≤ j → (s[j]'hj).toNat ≠ 10 := by
  induction n with
  | zero => intro i hi _ j hj hij; omega
  | succ n ih =>
    intro i hi hr j hj hij
    have hlt : i < s.size := by omega
    have hw := Lib.decode_width_pos s i hlt
    rw [runesAt_step s i hlt] at hr
    by_cases h1 : j < i + (Utf8.decode s i).2
    · by_cases h2 : j = i
      · subst h2
        intro h10
        have := hr _ (List.mem_cons_self ..)
        rw [decode_ascii s j hlt (by omega)] at this
        simp only at this
        omega
      · obtain ⟨m, rfl⟩ : ∃ m, j = i + m := ⟨j - i, by omega⟩
        have := (decode_inner s i m (by omega) (by omega)).2
        have e : s.get! (i + m) = s[i + m]'hj := by
          have := get_at s (i + m) hj
          simpa using this
        rw [e] at this
        omega
    · exact ih _ (by omega) (fun r h => hr r (List.mem_cons_of_mem _ h)) j hj (by omega)

/-- No line feed. -/
def NoFeed (s : ByteArray) : Prop := ∀ (j : Nat) (hj : j < s.size), (s[j]'hj).toNat ≠ 10
theorem no_feed (s : ByteArray) (h : ∀ r ∈ runesAt s 0, r ≠ 10) : NoFeed s := fun j hj => no_feed_at s s.size 0 (by omega) h j hj (by omega)

/-! ### What scAll tells -/
theorem cont_all (c : Int) : ∃ b, ∀ k, spec_scContent.f (k + 1) c = some b := by
  have j : ∀ x, ∃ b, ∀ k, spec_scContent.j0 (k + 1) c x = some b := by
    intro x
    simp only [spec_scContent.j0]
    repeat' split
    all_goals exact ⟨_, fun _ => rfl⟩
  unfold spec_scContent.f
  repeat' split
  all_goals exact j _
theorem cont_lf (k : Nat) : spec_scContent.f (k + 1) 10 = some false := rfl

theorem scAll_l (l : List Int) (hl : l.length ≤ 2147483647) (d : Nat) : ∀ i : Nat, l.length - i = d → ∃ r, Ev (fun k => spec_scAll.l0 k false l (l.length : Int) (i : Int)) r ∧ (r = true → ∀ x ∈ l.drop i, x ≠ 10) := by
  induction d with
  | zero =>
    intro i hi
    refine ⟨true, Ev.step (f := fun _ => some true) (fun k => ?_) (Ev.now _), fun _ x hx => ?_⟩
    · simp only [spec_scAll.l0]
      rw [if_neg (by omega)]
    · rw [List.drop_of_length_le (by omega)] at hx
      cases hx
  | succ d ih =>
    intro i hi
    have hlt : i < l.length := by omega
    obtain ⟨r, hr, h10⟩ := ih (i + 1) (by omega)
    obtain ⟨b, hb⟩ := cont_all l[i]
    have e1 : wrap64 ((i : Int) + 1) = ((i + 1 : Nat) : Int) := by unfold wrap64; omega
    have e2 : rd l (i : Int) = l[i] := by unfold rd; simp [hlt]
    have hd : l.drop i = l[i] :: l.drop (i + 1) := List.drop_eq_getElem_cons hlt
    obtain ⟨K, hK⟩ := hr
    cases b
    · refine ⟨false, ⟨K + 2, fun k hk => ?_⟩, fun he => by cases he⟩
      obtain ⟨m, rfl⟩ : ∃ m, k = m + 2 := ⟨k - 2, by omega⟩
      simp only [spec_scAll.l0, e1, e2, hb]
      rw [if_pos (by omega), if_pos (by omega), if_pos (by omega)]
      simp only [Option.bind_some, Bool.false_eq_true, if_false]
    · refine ⟨r, ⟨K + 2, fun k hk => ?_⟩, fun he x hx => ?_⟩
      · obtain ⟨m, rfl⟩ : ∃ m, k = m + 2 := ⟨k - 2, by omega⟩
        simp only [spec_scAll.l0, e1, e2, hb]
        rw [if_pos (by omega), if_pos (by omega), if_pos (by omega)]
        simp only [Option.bind_some, if_true]
        exact hK (m + 1) (by omega)
      · rw [hd] at hx
        rcases List.mem_cons.1 hx with rfl | hx
        · intro h
          rw [h] at hb
          have := (hb 0).symm.trans (cont_lf 0)
          cases this
        · exact h10 he x hx

theorem scAll_told (l : List Int) (hl : l.length ≤ 2147483647) : ∃ k r, spec_scAll.f k l false = some r ∧ (r = true → ∀ x ∈ l, x ≠ 10) := by
  obtain ⟨r, hr, h⟩ := scAll_l l hl _ 0 rfl
  obtain ⟨k, hk⟩ := hr.rounds
  exact ⟨k, r, hk, by simpa using h⟩

/-! ### One line is not split -/
theorem extract_one (s : ByteArray) (i : Nat) (h : i < s.size) : (s.extract i (i + 1)).toList = [s[i]'h] := by
  have hl : i < s.data.toList.length := by rw [Array.length_toList]; exact h
  rw [ByteArray.toList_eq, ByteArray.data_extract, Array.toList_extract]
  simp only [List.extract_eq_take_drop, show i + 1 - i = 1 from by omega]
  rw [List.drop_eq_getElem_cons hl, List.take_succ_cons, List.take_zero]
  rfl

def nl : ByteArray := ⟨#[10]⟩
theorem nl_size : (nl.size : Int) = 1 := rfl
theorem nl_list : nl.toList = [10] := by rw [ByteArray.toList_eq]; rfl

theorem index_l (s : ByteArray) (hz : s.size ≤ 2147483647) (hn : NoFeed s) (d : Nat) : ∀ i : Nat, s.size - i = d → i ≤ s.size → Ev (fun k => printer_zzIndex.l0 k s nl (i : Int)) (-1) := by
  induction d with
  | zero =>
    intro i hi hle
    have e1 : wrap64 ((i : Int) + 1) = ((i + 1 : Nat) : Int) := by unfold wrap64; omega
    refine Ev.step (f := fun _ => some (-1)) (fun k => ?_) (Ev.now _)
    simp only [printer_zzIndex.l0, nl_size, e1]
    rw [if_neg (by omega)]
  | succ d ih =>
    intro i hi hle
    have e1 : wrap64 ((i : Int) + 1) = ((i + 1 : Nat) : Int) := by unfold wrap64; omega
    obtain ⟨K, hK⟩ := ih (i + 1) (by omega) (by omega)
    refine ⟨K + 1, fun k hk => ?_⟩
    obtain ⟨m, rfl⟩ : ∃ m, k = m + 1 := ⟨k - 1, by omega⟩
    simp only [printer_zzIndex.l0, nl_size, e1]
    rw [if_pos (by omega), if_pos (by omega), if_pos (by omega), Int.toNat_natCast, Int.toNat_natCast, extract_one s i (by omega), nl_list, if_neg]
    · exact hK m (by omega)
    · intro h
      have : s[i]'(by omega) = 10 := by simpa using h
      exact hn i (by omega) (by rw [this]; rfl)

theorem split_one (s : ByteArray) (hz : s.size ≤ 2147483647) (hn : NoFeed s) : ∃ k, printer_zzSplit.f k s nl = some [s] := by
  obtain ⟨K, hK⟩ := index_l s hz hn _ 0 rfl (Nat.zero_le _)
  refine ⟨K + 1, ?_⟩
  unfold printer_zzSplit.f
  simp only [printer_zzSplit.l0]
  have e : printer_zzIndex.f K s nl = some (-1) := hK K (Nat.le_refl _)
  rw [e]
  simp only [Option.bind_some]
  rw [if_pos (by omega), if_pos (by simp)]
  rfl

/-! ### What zzFits2 tells -/
theorem rdOf_nat (l : List ByteArray) (i : Nat) (h : i < l.length) : rdOf ByteArray.empty l (i : Int) = l[i] := by unfold rdOf; simp [h]
theorem fits_l (l : List ByteArray) (hl : l.length ≤ 2147483647) (d : Nat) : ∀ i : Nat, l.length - i = d → ∃ b, Ev (fun k => laws_zzFits2.l0 k l (l.length : Int) (i : Int)) b ∧ (b = true → ∀ s ∈ l.drop i, s.size ≤ 2147483647) := by
  induction d with
  | zero =>
    intro i hi
    refine ⟨true, Ev.step (f := fun _ => some true) (fun k => ?_) (Ev.now _), fun _ x hx => ?_⟩
    · simp only [laws_zzFits2.l0]
      rw [if_neg (by omega)]
    · rw [List.drop_of_length_le (by omega)] at hx
      cases hx
  | succ d ih =>
    intro i hi
    have hlt : i < l.length := by omega
    obtain ⟨r, hr, hs⟩ := ih (i + 1) (by omega)
    have e1 : wrap64 ((i : Int) + 1) = ((i + 1 : Nat) : Int) := by unfold wrap64; omega
    have hd : l.drop i = l[i] :: l.drop (i + 1) := List.drop_eq_getElem_cons hlt
    obtain ⟨K, hK⟩ := hr
    by_cases hbig : (l[i].size : Int) > 2147483647
    · refine ⟨false, ⟨K + 1, fun k hk => ?_⟩, fun he => by cases he⟩
      obtain ⟨m, rfl⟩ : ∃ m, k = m + 1 := ⟨k - 1, by omega⟩
      simp only [laws_zzFits2.l0, e1, rdOf_nat l i hlt]
      rw [if_pos (by omega), if_pos (by omega), if_pos (by omega), if_pos hbig]
    · refine ⟨r, ⟨K + 1, fun k hk => ?_⟩, fun he x hx => ?_⟩
      · obtain ⟨m, rfl⟩ : ∃ m, k = m + 1 := ⟨k - 1, by omega⟩
        simp only [laws_zzFits2.l0, e1, rdOf_nat l i hlt]
        rw [if_pos (by omega), if_pos (by omega), if_pos (by omega), if_neg hbig]
        exact hK m (by omega)
      · rw [hd] at hx
        rcases List.mem_cons.1 hx with rfl | hx
        · omega
        · exact hs he x hx

theorem fits_told (l : List ByteArray) : ∃ k b, laws_zzFits2.f k l = some b ∧ (b = true → l.length ≤ 2147483647 ∧ ∀ s ∈ l, s.size ≤ 2147483647) := by
  by_cases h : (l.length : Int) > 2147483647
  · exact ⟨0, false, by unfold laws_zzFits2.f; rw [if_pos h], fun he => by cases he⟩
  · obtain ⟨b, hb, hs⟩ := fits_l l (by omega) _ 0 rfl
    obtain ⟨k, hk⟩ := hb.rounds
    exact ⟨k, b, by unfold laws_zzFits2.f; rw [if_neg h]; exact hk, fun he => ⟨by omega, by simpa using hs he⟩⟩

/-! ### Texts, one behind the other -/
def cat : List ByteArray → ByteArray
  | [] => ⟨#[]⟩
  | s :: l => s ++ cat l
theorem nil_app (s : ByteArray) : (⟨#[]⟩ : ByteArray) ++ s = s := by apply ByteArray.ext; simp
theorem app_nil (s : ByteArray) : s ++ (⟨#[]⟩ : ByteArray) = s := by apply ByteArray.ext; simp
theorem app_assoc (a b c : ByteArray) : a ++ b ++ c = a ++ (b ++ c) := by apply ByteArray.ext; simp [Array.append_assoc]
theorem cat_append : ∀ l r : List ByteArray, cat (l ++ r) = cat l ++ cat r
  | [], r => (nil_app _).symm
  | s :: l, r => by show s ++ cat (l ++ r) = s ++ cat l ++ cat r; rw [cat_append l r, app_assoc]
theorem cat_snoc (l : List ByteArray) (s : ByteArray) : cat (l ++ [s]) = cat l ++ s := by
  rw [cat_append]
  show cat l ++ (s ++ ⟨#[]⟩) = _
  rw [app_nil]
theorem cat_take (l : List ByteArray) (k : Nat) (s : ByteArray) (h : l[k]? = some s) : cat (l.take (k + 1)) = cat (l.take k) ++ s := by
  obtain ⟨hlt, rfl⟩ := List.getElem?_eq_some_iff.1 h
  rw [List.take_succ_eq_append_getElem hlt, cat_snoc]
theorem cat_split (l : List ByteArray) (k : Nat) : cat l = cat (l.take k) ++ cat (l.drop k) := by rw [← cat_append, List.take_append_drop]

end Go.Proofs.YtgidfhpcobpinaaDoor.PcP
