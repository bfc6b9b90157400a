/- Plain facts on texts that begin with a tag, with no program in sight. -/
import Derived.Test.YtgidfhpcobpinaaRunes
import Derived.Laws.Cover4
namespace Go.Proofs.Ytgidfhpcobpinaa.TgP
open Go.Proofs.Ytgidfhpcobpinaa.Rn

/-- A byte of a tag. -/
def TagByte (b : UInt8) : Prop := b.toNat = 33 ∨ (48 ≤ b.toNat ∧ b.toNat ≤ 57) ∨ (65 ≤ b.toNat ∧ b.toNat ≤ 90) ∨ (97 ≤ b.toNat ∧ b.toNat ≤ 122)

def ints (l : List UInt8) : List Int := l.map fun b => (b.toNat : Int)

theorem runesAt_prefix (s : ByteArray) (n : Nat) (hn : n ≤ s.size) (h : ∀ (j : Nat) (hj : j < s.size), j < n → (s[j]'hj).toNat < 128) :
    ∀ (d i : Nat), n - i = d → i ≤ n → runesAt s i = ints ((s.data.toList.take n).drop i) ++ runesAt s n := by
  intro d
  induction d with
  | zero =>
    intro i hd hi
    obtain rfl : i = n := by omega
    rw [List.drop_of_length_le (by rw [List.length_take]; omega)]
    rfl
  | succ d ih =>
    intro i hd hi
    have hlt : i < s.size := by omega
    rw [runesAt_ascii s i hlt (h i hlt (by omega)), ih (i + 1) (by omega) (by omega)]
    have hl : i < (s.data.toList.take n).length := by
      rw [List.length_take, Array.length_toList]
      have : s.data.size = s.size := rfl
      omega
    have e : (s.data.toList.take n).drop i = s[i]'hlt :: (s.data.toList.take n).drop (i + 1) := by
      rw [List.drop_eq_getElem_cons hl, List.getElem_take]
      rfl
    rw [e]
    rfl

theorem runes_of_ascii (t : ByteArray) (h : ∀ b ∈ t.data.toList, b.toNat < 128) : runesAt t 0 = ints t.data.toList := by
  have hz : t.data.toList.length = t.size := Array.length_toList
  rw [runesAt_prefix t t.size (Nat.le_refl _) (fun j hj _ => h _ (Array.getElem_mem_toList (xs := t.data) hj)) t.size 0 rfl (Nat.zero_le _), runesAt_end t t.size (by omega), List.drop_zero, List.take_of_length_le (by omega), List.append_nil]

theorem encode_ascii (b : UInt8) (h : b.toNat < 128) : Utf8.encode (b.toNat : Int) = ⟨#[b]⟩ := by
  have hv : Utf8.valid (b.toNat : Int) = true := by
    rw [validRune_eq]; unfold validRune; rw [decide_eq_true_iff]; omega
  have hc : ((b.toNat : Int)).toNat < 128 := by omega
  unfold Utf8.encode
  simp only [hv, if_true, hc]
  simp

theorem fold_ascii : ∀ (l : List UInt8) (acc : ByteArray), (∀ b ∈ l, b.toNat < 128) → (ints l).foldl (fun r n => r ++ Utf8.encode n) acc = acc ++ ⟨l.toArray⟩
  | [], acc, _ => by
    apply ByteArray.ext
    simp [ints]
  | b :: l, acc, h => by
    show (ints l).foldl _ (acc ++ Utf8.encode (b.toNat : Int)) = _
    rw [fold_ascii l _ (fun c hc => h c (List.mem_cons_of_mem _ hc)), encode_ascii b (h b (List.mem_cons_self ..))]
    apply ByteArray.ext
    simp

theorem bytes_ascii (l : List UInt8) (h : ∀ b ∈ l, b.toNat < 128) : runesBytes (ints l) = ⟨l.toArray⟩ := by
  unfold runesBytes
  rw [fold_ascii l _ h]
  apply ByteArray.ext
  simp

theorem TagByte.ascii {b : UInt8} (h : TagByte b) : b.toNat < 128 := by
  unfold TagByte at h; omega

/-- What a text is that begins with a tag and its end. -/
structure Begun (s : ByteArray) (tag : ByteArray) (M : Nat) (sep : Int) : Prop where
  lt : M < (runesAt s 0).length
  stop : (runesAt s 0)[M]? = some sep
  plain : ∀ j c, 1 ≤ j → j < M → (runesAt s 0)[j]? = some c → c ≠ 32 ∧ c ≠ 44 ∧ c ≠ 10 ∧ c ≠ 13 ∧ c ≠ 123 ∧ c ≠ 125
  back : runesBytes ((runesAt s 0).take M) = tag
  again : (runesAt tag 0).length = M

theorem begun (s tag rest : ByteArray) (sep : UInt8) (hs : s.data.toList = tag.data.toList ++ sep :: rest.data.toList) (ht : ∀ b ∈ tag.data.toList, TagByte b) (hsep : sep.toNat < 128) : Begun s tag tag.size (sep.toNat : Int) := by
  have hz : tag.data.toList.length = tag.size := Array.length_toList
  have hzs : s.data.toList.length = s.size := Array.length_toList
  have hlen : s.size = tag.size + 1 + rest.size := by
    have : rest.data.toList.length = rest.size := Array.length_toList
    rw [← hzs, hs, List.length_append, List.length_cons]; omega
  have hp : runesAt s 0 = ints (tag.data.toList ++ [sep]) ++ runesAt s (tag.size + 1) := by
    rw [runesAt_prefix s (tag.size + 1) (by omega) ?_ (tag.size + 1) 0 rfl (Nat.zero_le _), List.drop_zero]
    · congr 1
      rw [hs, List.take_append, List.take_of_length_le (by omega), hz]
      rw [show tag.size + 1 - tag.size = 1 from by omega]
      rfl
    · intro j hj hlt
      have e : s[j]'hj = (tag.data.toList ++ sep :: rest.data.toList)[j]'(by rw [← hs]; omega) := by
        have : s[j]'hj = s.data.toList[j]'(by omega) := rfl
        rw [this]
        simp only [hs]
      rw [e]
      by_cases h : j < tag.size
      · rw [List.getElem_append_left (by omega)]
        exact (ht _ (List.getElem_mem ..)).ascii
      · obtain rfl : j = tag.size := by omega
        rw [List.getElem_append_right (by omega)]
        simp only [hz, Nat.sub_self, List.getElem_cons_zero]
        exact hsep
  have hi : (ints tag.data.toList).length = tag.size := by simp [ints, hz]
  have hi2 : ints (tag.data.toList ++ [sep]) = ints tag.data.toList ++ [(sep.toNat : Int)] := by simp [ints]
  have hasc : ∀ b ∈ tag.data.toList, b.toNat < 128 := fun b hb => (ht b hb).ascii
  refine ⟨?_, ?_, ?_, ?_, ?_⟩
  · rw [hp, hi2]; simp only [List.length_append, hi, List.length_singleton]; omega
  · rw [hp, hi2, List.append_assoc, List.getElem?_append_right (by omega), hi, Nat.sub_self]
    rfl
  · intro j c h1 h2 hc
    rw [hp, hi2, List.append_assoc, List.getElem?_append_left (by omega)] at hc
    simp only [ints, List.getElem?_map] at hc
    obtain ⟨b, hb, rfl⟩ := Option.map_eq_some_iff.1 hc
    have := ht b (List.mem_of_getElem? hb)
    unfold TagByte at this
    omega
  · rw [hp, hi2, List.append_assoc, List.take_append_of_le_length (by omega), List.take_of_length_le (by omega), bytes_ascii _ hasc]
  · rw [runes_of_ascii tag hasc, hi]

end Go.Proofs.Ytgidfhpcobpinaa.TgP
