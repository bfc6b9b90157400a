/- Plain facts behind FnPathQuoted: names, keys, and what the printed functions tell of them, with no program in sight. -/
import Derived.Test.YtjdfcokeejmmeaaGreatDoorPFnPathQuotedx1
import Derived.Test.YtjdfcokeejmmeaaGreatDoorPFnPathQuotedx2
import Derived.Test.YtjdfcokeejmmeaaGreatDoorRunes
import Derived.Laws.Cover4
namespace Go.Proofs.YtjdfcokeejmmeaaGreatDoor.PqP
open Go.RowKit Go.Proofs.YtjdfcokeejmmeaaGreatDoor.PFnPathQuoted Go.Proofs.YtjdfcokeejmmeaaGreatDoorW.PrintWords Go.Proofs.YtjdfcokeejmmeaaGreatDoorW.PrintLast Go.Proofs.YtjdfcokeejmmeaaGreatDoorW.PrintMore
open Go.Proofs.YtjdfcokeejmmeaaGreatDoor.Rn
set_option linter.unusedSimpArgs false
set_option linter.unusedVariables false

/-- A byte of a key: of ASCII, no quote, no backslash. -/
def Pl (b : UInt8) : Prop := b.toNat < 128 ∧ b.toNat ≠ 39 ∧ b.toNat ≠ 92

/-- A name. -/
structure Name (t : ByteArray) : Prop where
  pos : 1 ≤ t.size
  le : t.size ≤ 9
  pl : ∀ b ∈ t.data.toList, Pl b

def PlI (z : Int) : Prop := 0 ≤ z ∧ z < 128 ∧ z ≠ 39 ∧ z ≠ 92

theorem name_of (l : List Int) (h1 : 1 ≤ l.length) (h9 : l.length ≤ 9) (h : ∀ z ∈ l, PlI z) : Name (strOfNums l) := by
  refine ⟨by rw [strOfNums_size]; exact h1, by rw [strOfNums_size]; exact h9, fun b hb => ?_⟩
  rw [strOfNums_data] at hb
  obtain ⟨z, hz, rfl⟩ := List.mem_map.1 hb
  obtain ⟨a1, a2, a3, a4⟩ := h z hz
  have e : (UInt8.ofNat z.toNat).toNat = z.toNat := by
    rw [UInt8.toNat_ofNat']
    omega
  unfold Pl
  rw [e]
  omega

def App (b : Int) : Prop := (97 ≤ b ∧ b ≤ 122) ∨ (65 ≤ b ∧ b ≤ 90) ∨ (48 ≤ b ∧ b ≤ 57) ∨ b = 95 ∨ b = 45
instance (b : Int) : Decidable (App b) := by unfold App; infer_instance

set_option maxHeartbeats 2000000 in
theorem tr_step (s : ByteArray) (l : List Int) (i : Nat) (hi : i < s.size) (hl : l.length < 9) (k : Nat) :
    laws_trName.l0 (k + 2) s l (i : Int) = if App (bt s i) then laws_trName.l0 k s (l ++ [bt s i]) (wrap64 ((i : Int) + 1)) else laws_trName.l0 k s l (wrap64 ((i : Int) + 1)) := by
  by_cases ha : App (bt s i)
  · rw [if_pos ha]
    simp only [laws_trName.l0, laws_trName.j1]
    rw [if_pos (by omega), if_pos (decide_eq_true (by omega)), if_pos (by omega), if_pos (by omega)]
    unfold App at ha
    generalize bt s i = b at *
    repeat' split
    all_goals first | rfl | (exfalso; omega)
  · rw [if_neg ha]
    simp only [laws_trName.l0, laws_trName.j1]
    rw [if_pos (by omega), if_pos (decide_eq_true (by omega)), if_pos (by omega), if_pos (by omega)]
    unfold App at ha
    generalize bt s i = b at *
    repeat' split
    all_goals first | rfl | (exfalso; omega)

theorem tr_l (s : ByteArray) (hz : s.size ≤ 2147483647) (d : Nat) : ∀ (i : Nat) (l : List Int), s.size - i = d → i ≤ s.size → 1 ≤ l.length → l.length ≤ 9 → (∀ z ∈ l, PlI z) → ∃ t, Ev (fun k => laws_trName.l0 k s l (i : Int)) t ∧ Name t := by
  induction d with
  | zero =>
    intro i l hi hle h1 h9 hp
    refine ⟨_, ⟨2, fun k hk => ?_⟩, name_of l h1 h9 hp⟩
    obtain ⟨m, rfl⟩ : ∃ m, k = m + 2 := ⟨k - 2, by omega⟩
    simp only [laws_trName.l0, laws_trName.j1]
    rw [if_neg (by omega), if_neg (by simp)]
  | succ d ih =>
    intro i l hi hle h1 h9 hp
    have hlt : i < s.size := by omega
    have e1 : wrap64 ((i : Int) + 1) = ((i + 1 : Nat) : Int) := by unfold wrap64; omega
    by_cases hl : l.length < 9
    · by_cases ha : App (bt s i)
      · obtain ⟨t, ⟨K, hK⟩, ht⟩ := ih (i + 1) (l ++ [bt s i]) (by omega) (by omega) (by simp) (by simp; omega) (fun z hz => by
          rcases List.mem_append.1 hz with hz | hz
          · exact hp z hz
          · obtain rfl := List.mem_singleton.1 hz
            unfold App at ha
            unfold PlI
            omega)
        refine ⟨t, ⟨K + 2, fun k hk => ?_⟩, ht⟩
        obtain ⟨m, rfl⟩ : ∃ m, k = m + 2 := ⟨k - 2, by omega⟩
        show laws_trName.l0 (m + 2) s l i = _
        rw [tr_step s l i hlt hl, if_pos ha, e1]
        exact hK m (by omega)
      · obtain ⟨t, ⟨K, hK⟩, ht⟩ := ih (i + 1) l (by omega) (by omega) h1 h9 hp
        refine ⟨t, ⟨K + 2, fun k hk => ?_⟩, ht⟩
        obtain ⟨m, rfl⟩ : ∃ m, k = m + 2 := ⟨k - 2, by omega⟩
        show laws_trName.l0 (m + 2) s l i = _
        rw [tr_step s l i hlt hl, if_neg ha, e1]
        exact hK m (by omega)
    · refine ⟨_, ⟨2, fun k hk => ?_⟩, name_of l h1 h9 hp⟩
      obtain ⟨m, rfl⟩ : ∃ m, k = m + 2 := ⟨k - 2, by omega⟩
      simp only [laws_trName.l0, laws_trName.j1]
      rw [if_pos (by omega), if_neg (by simp; omega)]

theorem tr_any (s : ByteArray) (hz : s.size ≤ 2147483647) : ∃ k t, laws_trName.f k s = some t ∧ Name t := by
  obtain ⟨t, h, ht⟩ := tr_l s hz _ 0 [120] rfl (Nat.zero_le _) (by simp) (by simp) (fun z hz => by obtain rfl := List.mem_singleton.1 hz; unfold PlI; omega)
  obtain ⟨k, hk⟩ := h.rounds
  exact ⟨k, t, hk, ht⟩

/-! ### A key -/
/-- A key: two names and a sign between them. -/
structure Key (K : ByteArray) : Prop where
  pos : 1 ≤ K.size
  le : K.size ≤ 19
  pl : ∀ b ∈ K.data.toList, Pl b
  sign : (46 : UInt8) ∈ K.data.toList ∨ (42 : UInt8) ∈ K.data.toList

theorem key_of {a b : ByteArray} (sg : UInt8) (ha : Name a) (hb : Name b) (hs : sg = 46 ∨ sg = 42) : Key (a ++ ⟨#[sg]⟩ ++ b) := by
  have e : (a ++ ⟨#[sg]⟩ ++ b : ByteArray).data.toList = a.data.toList ++ sg :: b.data.toList := by simp
  have z : (a ++ ⟨#[sg]⟩ ++ b : ByteArray).size = a.size + 1 + b.size := by simp only [ByteArray.size_append]; rfl
  have := ha.pos
  have := ha.le
  have := hb.le
  refine ⟨by omega, by omega, fun x hx => ?_, ?_⟩
  · rw [e] at hx
    rcases List.mem_append.1 hx with hx | hx
    · exact ha.pl x hx
    · rcases List.mem_cons.1 hx with rfl | hx
      · rcases hs with rfl | rfl <;> (unfold Pl; decide)
      · exact hb.pl x hx
  · rw [e]
    rcases hs with rfl | rfl
    · exact .inl (List.mem_append.2 (.inr (List.mem_cons_self ..)))
    · exact .inr (List.mem_append.2 (.inr (List.mem_cons_self ..)))

theorem extract_one (s : ByteArray) (i : Nat) (h : i < s.size) : (s.extract i (i + 1)).toList = [s[i]'h] := by
  have hl : i < s.data.toList.length := by rw [Array.length_toList]; exact h
  rw [ByteArray.toList_eq, ByteArray.data_extract, Array.toList_extract]
  simp only [List.extract_eq_take_drop, show i + 1 - i = 1 from by omega]
  rw [List.drop_eq_getElem_cons hl, List.take_succ_cons, List.take_zero]
  rfl

def one (c : UInt8) : ByteArray := ⟨#[c]⟩
theorem one_size (c : UInt8) : ((one c).size : Int) = 1 := rfl
theorem one_list (c : UInt8) : (one c).toList = [c] := by rw [ByteArray.toList_eq]; rfl

theorem index_none (s : ByteArray) (c : UInt8) (hz : s.size ≤ 2147483647) (hn : ∀ (j : Nat) (hj : j < s.size), s[j]'hj ≠ c) (d : Nat) : ∀ i : Nat, s.size - i = d → i ≤ s.size → Ev (fun k => goccyyaml_zzIndex.l0 k s (one c) (i : Int)) (-1) := by
  induction d with
  | zero =>
    intro i hi hle
    have e1 : wrap64 ((i : Int) + 1) = ((i + 1 : Nat) : Int) := by unfold wrap64; omega
    refine Ev.step (f := fun _ => some (-1)) (fun k => ?_) (Ev.now _)
    simp only [goccyyaml_zzIndex.l0, one_size, e1]
    rw [if_neg (by omega)]
  | succ d ih =>
    intro i hi hle
    have e1 : wrap64 ((i : Int) + 1) = ((i + 1 : Nat) : Int) := by unfold wrap64; omega
    obtain ⟨K, hK⟩ := ih (i + 1) (by omega) (by omega)
    refine ⟨K + 1, fun k hk => ?_⟩
    obtain ⟨m, rfl⟩ : ∃ m, k = m + 1 := ⟨k - 1, by omega⟩
    simp only [goccyyaml_zzIndex.l0, one_size, e1]
    rw [if_pos (by omega), if_pos (by omega), if_pos (by omega), Int.toNat_natCast, Int.toNat_natCast, extract_one s i (by omega), one_list, if_neg]
    · exact hK m (by omega)
    · intro h
      exact hn i (by omega) (by simpa using h)

theorem index_some (s : ByteArray) (c : UInt8) (hz : s.size ≤ 2147483647) (j : Nat) (hj : j < s.size) (hc : s[j]'hj = c) (d : Nat) : ∀ i : Nat, j - i = d → i ≤ j → ∃ r : Nat, Ev (fun k => goccyyaml_zzIndex.l0 k s (one c) (i : Int)) (r : Int) := by
  induction d with
  | zero =>
    intro i hi hle
    obtain rfl : i = j := by omega
    have e1 : wrap64 ((i : Int) + 1) = ((i + 1 : Nat) : Int) := by unfold wrap64; omega
    refine ⟨i, Ev.step (f := fun _ => some (i : Int)) (fun k => ?_) (Ev.now _)⟩
    simp only [goccyyaml_zzIndex.l0, one_size, e1]
    rw [if_pos (by omega), if_pos (by omega), if_pos (by omega), Int.toNat_natCast, Int.toNat_natCast, extract_one s i (by omega), one_list, if_pos (by rw [hc])]
  | succ d ih =>
    intro i hi hle
    have e1 : wrap64 ((i : Int) + 1) = ((i + 1 : Nat) : Int) := by unfold wrap64; omega
    by_cases he : s[i]'(by omega) = c
    · refine ⟨i, Ev.step (f := fun _ => some (i : Int)) (fun k => ?_) (Ev.now _)⟩
      simp only [goccyyaml_zzIndex.l0, one_size, e1]
      rw [if_pos (by omega), if_pos (by omega), if_pos (by omega), Int.toNat_natCast, Int.toNat_natCast, extract_one s i (by omega), one_list, if_pos (by rw [he])]
    · obtain ⟨r, K, hK⟩ := ih (i + 1) (by omega) (by omega)
      refine ⟨r, K + 1, fun k hk => ?_⟩
      obtain ⟨m, rfl⟩ : ∃ m, k = m + 1 := ⟨k - 1, by omega⟩
      simp only [goccyyaml_zzIndex.l0, one_size, e1]
      rw [if_pos (by omega), if_pos (by omega), if_pos (by omega), Int.toNat_natCast, Int.toNat_natCast, extract_one s i (by omega), one_list, if_neg (by simpa using he)]
      exact hK m (by omega)

theorem contains_yes (s : ByteArray) (c : UInt8) (hz : s.size ≤ 2147483647) (h : c ∈ s.data.toList) : ∃ k, goccyyaml_zzContains.f k s (one c) = some true := by
  obtain ⟨j, hj, hc⟩ := List.getElem_of_mem h
  have hj' : j < s.size := by rw [Array.length_toList] at hj; exact hj
  obtain ⟨r, hr⟩ := index_some s c hz j hj' hc _ 0 rfl (Nat.zero_le _)
  obtain ⟨k, hk⟩ := hr.rounds
  refine ⟨k, ?_⟩
  have e : goccyyaml_zzIndex.f k s (one c) = some (r : Int) := hk
  unfold goccyyaml_zzContains.f
  rw [e]
  simp only [Option.bind_some]
  rw [decide_eq_true (by omega)]

theorem contains_no (s : ByteArray) (c : UInt8) (hz : s.size ≤ 2147483647) (h : ¬ c ∈ s.data.toList) : ∃ k, goccyyaml_zzContains.f k s (one c) = some false := by
  obtain ⟨k, hk⟩ := (index_none s c hz (fun j hj e => h (by rw [← e]; exact Array.getElem_mem_toList (xs := s.data) hj)) _ 0 rfl (Nat.zero_le _)).rounds
  refine ⟨k, ?_⟩
  have e : goccyyaml_zzIndex.f k s (one c) = some (-1) := hk
  unfold goccyyaml_zzContains.f
  rw [e]
  rfl

theorem strOfNums_bytesOf (s : ByteArray) : strOfNums (bytesOf s) = s := by
  apply ByteArray.ext
  apply Array.toList_inj.1
  rw [strOfNums_data, bytesOf, List.map_map]
  conv => rhs; rw [← List.map_id s.data.toList]
  apply List.map_congr_left
  intro b _
  simp

theorem replace_none (s : ByteArray) (c : UInt8) (x2 : ByteArray) (hz : s.size ≤ 2147483647) (h : ¬ c ∈ s.data.toList) : ∃ k, goccyyaml_zzReplaceAll.f k s (one c) x2 = some s := by
  obtain ⟨k, hk⟩ := (index_none s c hz (fun j hj e => h (by rw [← e]; exact Array.getElem_mem_toList (xs := s.data) hj)) _ 0 rfl (Nat.zero_le _)).rounds
  refine ⟨k + 1, ?_⟩
  have e : goccyyaml_zzIndex.f k s (one c) = some (-1) := hk
  unfold goccyyaml_zzReplaceAll.f
  simp only [goccyyaml_zzReplaceAll.l0]
  rw [e]
  simp only [Option.bind_some]
  rw [if_pos (by omega), if_pos (by simp; omega), List.nil_append, strOfNums_bytesOf]

theorem prefix_one (s : ByteArray) (c : UInt8) (h : 0 < s.size) : strings_HasPrefix.f s (one c) = some ([s[0]'h] == [c]) := by
  unfold strings_HasPrefix.f stringslite_HasPrefix.f
  rw [one_size, if_pos (by omega), if_pos (by omega), if_pos (by omega)]
  simp only [Option.bind_some]
  rw [show ((1 : Int)).toNat = 0 + 1 from rfl, extract_one s 0 h, one_list]

theorem suffix_one (s : ByteArray) (c : UInt8) (hz : s.size ≤ 2147483647) (h : s.size - 1 < s.size) : strings_HasSuffix.f s (one c) = some ([s[s.size - 1]'h] == [c]) := by
  have e1 : wrap64 ((s.size : Int) - 1) = ((s.size - 1 : Nat) : Int) := by unfold wrap64; omega
  unfold strings_HasSuffix.f stringslite_HasSuffix.f
  rw [one_size, if_pos (by omega), e1, if_pos (by omega), if_pos (by omega)]
  simp only [Option.bind_some]
  have e2 : s.extract (s.size - 1) s.size = s.extract (s.size - 1) (s.size - 1 + 1) := by rw [show s.size - 1 + 1 = s.size by omega]
  rw [Int.toNat_natCast, e2, extract_one s _ h, one_list]

/-- A key between quotes. -/
def qk (K : ByteArray) : ByteArray := ⟨#[39]⟩ ++ K ++ ⟨#[39]⟩
theorem quoted_size (K : ByteArray) : (qk K).size = K.size + 2 := by
  unfold qk
  simp only [ByteArray.size_append]
  show 1 + K.size + 1 = _
  omega
theorem quoted_list (K : ByteArray) : (qk K).data.toList = 39 :: (K.data.toList ++ [39]) := by unfold qk; simp

theorem quoted_prefix (K : ByteArray) : strings_HasPrefix.f (qk K) (one 39) = some true := by
  rw [prefix_one _ _ (by rw [quoted_size]; omega)]
  have e : (qk K)[0]'(by rw [quoted_size]; omega) = 39 := by
    have : (qk K)[0]'(by rw [quoted_size]; omega) = (qk K).data.toList[0]'(by rw [quoted_list]; simp) := rfl
    rw [this]
    simp only [quoted_list, List.getElem_cons_zero]
  rw [e]
  rfl
theorem quoted_suffix (K : ByteArray) (hz : K.size ≤ 1000) : strings_HasSuffix.f (qk K) (one 39) = some true := by
  have hq := quoted_size K
  rw [suffix_one _ _ (by omega) (by omega)]
  have hlen : K.data.toList.length = K.size := Array.length_toList
  have e : (qk K)[(qk K).size - 1]'(by omega) = 39 := by
    have : (qk K)[(qk K).size - 1]'(by omega) = (qk K).data.toList[(qk K).size - 1]'(by rw [Array.length_toList]; show _ < (qk K).size; omega) := rfl
    rw [this]
    have h2 : (qk K).data.toList[(qk K).size - 1]? = some 39 := by
      rw [quoted_list, hq, show K.size + 2 - 1 = K.size + 1 from rfl, List.getElem?_cons_succ, List.getElem?_append_right (by omega), hlen, Nat.sub_self]
      rfl
    exact (List.getElem?_eq_some_iff.1 h2).2
  rw [e]
  rfl
theorem key_prefix {K : ByteArray} (h : Key K) : strings_HasPrefix.f K (one 39) = some false := by
  have hp : 0 < K.size := h.pos
  rw [prefix_one K 39 hp]
  have hb := h.pl (K[0]'hp) (Array.getElem_mem_toList (xs := K.data) hp)
  generalize K[0]'hp = b at hb
  have : b ≠ 39 := fun e => hb.2.1 (by rw [e]; rfl)
  simpa using this
theorem key_39 {K : ByteArray} (h : Key K) : ¬ (39 : UInt8) ∈ K.data.toList := fun hm => (h.pl _ hm).2.1 rfl

end Go.Proofs.YtjdfcokeejmmeaaGreatDoor.PqP
