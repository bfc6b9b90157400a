/- Plain facts on the runes of a string as the conversion to a slice of runes makes them, with no program in sight. -/
import Derived.Laws.Runes
import Derived.Laws.RangeAny
import Derived.Laws.RangeString
import Derived.Laws.IdiomStrings
import Derived.Lib.RuneCount
namespace Go.Proofs.YtjdfcokeejmmeaaGreatDoor.Rn

/-- The runes of s from place i on, at most b of them. -/
def runesL (s : ByteArray) : Nat → Nat → List Int
  | 0, _ => []
  | b + 1, i => if i < s.size then ((Utf8.decode s i).1 : Int) :: runesL s b (i + (Utf8.decode s i).2) else []

theorem runesFrom_eq (s : ByteArray) : ∀ (b i : Nat) (acc : Array Value), Conv.runesFrom s b i acc = acc ++ ((runesL s b i).map (Value.int .i32)).toArray
  | 0, _, acc => by simp [Conv.runesFrom, runesL]
  | b + 1, i, acc => by
    unfold Conv.runesFrom runesL
    split
    · simp only [List.map_cons]
      rw [runesFrom_eq s b]
      simp
    · simp

theorem runesL_length (s : ByteArray) : ∀ (b i : Nat), (runesL s b i).length ≤ b
  | 0, _ => by simp [runesL]
  | b + 1, i => by
    unfold runesL
    split
    · have := runesL_length s b (i + (Utf8.decode s i).2)
      simp only [List.length_cons]; omega
    · simp

/-- More room tells the same runes. -/
theorem runesL_enough (s : ByteArray) : ∀ (b b' i : Nat), s.size - i ≤ b → s.size - i ≤ b' → runesL s b i = runesL s b' i
  | 0, 0, _, _, _ => rfl
  | 0, b' + 1, i, h, _ => by unfold runesL; rw [if_neg (by omega)]
  | b + 1, 0, i, _, h => by unfold runesL; rw [if_neg (by omega)]
  | b + 1, b' + 1, i, h, h' => by
    unfold runesL
    split
    · rename_i hi
      have hw := Lib.decode_width_pos s i hi
      rw [runesL_enough s b b' _ (by omega) (by omega)]
    · rfl

/-- The runes of s from place i on. -/
def runesAt (s : ByteArray) (i : Nat) : List Int := runesL s (s.size - i) i
theorem runesL_at (s : ByteArray) (b i : Nat) (h : s.size - i ≤ b) : runesL s b i = runesAt s i := runesL_enough s _ _ _ h (Nat.le_refl _)

theorem runesAt_step (s : ByteArray) (i : Nat) (h : i < s.size) : runesAt s i = ((Utf8.decode s i).1 : Int) :: runesAt s (i + (Utf8.decode s i).2) := by
  have hw := Lib.decode_width_pos s i h
  unfold runesAt
  obtain ⟨n, hn⟩ : ∃ n, s.size - i = n + 1 := ⟨s.size - i - 1, by omega⟩
  rw [hn]
  conv => lhs; unfold runesL
  rw [if_pos h, runesL_at s n _ (by omega)]
  rfl

theorem runesAt_end (s : ByteArray) (i : Nat) (h : ¬ i < s.size) : runesAt s i = [] := by
  unfold runesAt
  have : s.size - i = 0 := by omega
  rw [this]; rfl

theorem runesAt_ascii (s : ByteArray) (i : Nat) (h : i < s.size) (ha : (s[i]'h).toNat < 128) : runesAt s i = ((s[i]'h).toNat : Int) :: runesAt s (i + 1) := by
  rw [runesAt_step s i h, decode_ascii s i h ha]

/-- A byte that is none of ASCII begins a rune that is none of ASCII. -/
theorem runesAt_high (s : ByteArray) (i : Nat) (h : i < s.size) (ha : 128 ≤ (s[i]'h).toNat) : ∃ r j, runesAt s i = r :: runesAt s j ∧ 128 ≤ r := by
  refine ⟨_, _, runesAt_step s i h, ?_⟩
  have := (decode_high s i h ha).1
  omega

theorem runesAt_length (s : ByteArray) (i : Nat) : (runesAt s i).length ≤ s.size - i := runesL_length s _ _

/-- What the conversion makes, as a list. -/
theorem runesFrom_all (s : ByteArray) : Conv.runesFrom s s.size 0 #[] = ((runesAt s 0).map (Value.int .i32)).toArray := by
  rw [runesFrom_eq, runesL_at s s.size 0 (by omega)]
  simp

/-- Of a text of ASCII the runes are the bytes. -/
theorem runesAt_all_ascii (s : ByteArray) (hs : ∀ (j : Nat) (h : j < s.size), (s[j]'h).toNat < 128) (n : Nat) : ∀ i, s.size - i = n → runesAt s i = (s.data.toList.drop i).map fun b => (b.toNat : Int) := by
  induction n with
  | zero =>
    intro i hi
    rw [runesAt_end s i (by omega), List.drop_of_length_le (by simp [ByteArray.size_data]; omega)]
    rfl
  | succ n ih =>
    intro i hi
    have h : i < s.size := by omega
    rw [runesAt_ascii s i h (hs i h), ih (i + 1) (by omega)]
    have : s.data.toList.drop i = s[i]'h :: s.data.toList.drop (i + 1) := by
      rw [List.drop_eq_getElem_cons (by simp [ByteArray.size_data]; omega)]
      rfl
    rw [this]; rfl

end Go.Proofs.YtjdfcokeejmmeaaGreatDoor.Rn
