/- Plain facts behind FnPartMerges: how many signs < the runes of a text begin with. -/
import Derived.Test.YtbicbdcbbeifhaaRunes
namespace Go.Proofs.Ytbicbdcbbeifhaa.MrgP
open Go.Proofs.Ytbicbdcbbeifhaa.Rn

/-- How many runes r a list begins with. -/
def lead (r : Int) : List Int → Nat
  | [] => 0
  | c :: t => if c = r then lead r t + 1 else 0

theorem lead_hit (r : Int) (l : List Int) (k : Nat) (h : l[k]? = some r) (hk : lead r l = k + lead r (l.drop k)) : lead r l = (k + 1) + lead r (l.drop (k + 1)) := by
  have hlt : k < l.length := (List.getElem?_eq_some_iff.1 h).1
  have e : l.drop k = r :: l.drop (k + 1) := by
    rw [List.drop_eq_getElem_cons hlt, (List.getElem?_eq_some_iff.1 h).2]
  rw [e] at hk
  simp only [lead, if_true] at hk
  omega
theorem lead_miss (r c : Int) (l : List Int) (k : Nat) (h : l[k]? = some c) (hc : c ≠ r) (hk : lead r l = k + lead r (l.drop k)) : lead r l = k := by
  have hlt : k < l.length := (List.getElem?_eq_some_iff.1 h).1
  have e : l.drop k = c :: l.drop (k + 1) := by
    rw [List.drop_eq_getElem_cons hlt, (List.getElem?_eq_some_iff.1 h).2]
  rw [e] at hk
  simp only [lead, if_neg hc] at hk
  omega
theorem lead_over (r : Int) (l : List Int) (k : Nat) (h : l.length ≤ k) (hk : lead r l = k + lead r (l.drop k)) : lead r l = k := by
  rw [List.drop_of_length_le h] at hk
  simpa [lead] using hk

theorem rune_ne (s : ByteArray) (i : Nat) (h : i < s.size) (c : Nat) (hc : c < 128) (hne : (s[i]'h).toNat ≠ c) : lead (c : Int) (runesAt s i) = 0 := by
  by_cases ha : (s[i]'h).toNat < 128
  · rw [runesAt_ascii s i h ha]
    simp only [lead]
    rw [if_neg (by omega)]
  · obtain ⟨r, j, e, hr⟩ := runesAt_high s i h (by omega)
    rw [e]
    simp only [lead]
    rw [if_neg (by omega)]

theorem no_merge (s : ByteArray) (h : s.size < 2 ∨ (∃ h : 0 < s.size, (s[0]'h).toNat ≠ 60) ∨ (∃ h : 1 < s.size, (s[1]'h).toNat ≠ 60)) : lead 60 (runesAt s 0) < 2 := by
  by_cases h0 : 0 < s.size
  · by_cases e0 : (s[0]'h0).toNat = 60
    · rw [runesAt_ascii s 0 h0 (by omega), e0]
      simp only [lead]
      rw [if_pos (by decide)]
      by_cases h1 : 1 < s.size
      · rcases h with h | ⟨_, h⟩ | ⟨_, h⟩
        · omega
        · omega
        · have := rune_ne s 1 h1 60 (by decide) h
          have e : ((60 : Nat) : Int) = 60 := rfl
          rw [e] at this
          show lead 60 (runesAt s (0 + 1)) + 1 < 2
          rw [this]; omega
      · rw [runesAt_end s (0 + 1) (by omega)]
        simp [lead]
    · have := rune_ne s 0 h0 60 (by decide) e0
      have e : ((60 : Nat) : Int) = 60 := rfl
      rw [e] at this
      rw [this]; omega
  · rw [runesAt_end s 0 h0]
    simp [lead]

theorem merge_runes (s : ByteArray) (h : 3 < s.size) (h0 : (s[0]'(by omega)).toNat = 60) (h1 : (s[1]'(by omega)).toNat = 60) (h2 : (s[2]'(by omega)).toNat = 58) (h3 : (s[3]'h).toNat = 32 ∨ (s[3]'h).toNat = 10) :
    ∃ t : List Int, runesAt s 0 = (60 : Int) :: 60 :: 58 :: ((s[3]'h).toNat : Int) :: t := by
  refine ⟨runesAt s 4, ?_⟩
  have a0 := runesAt_ascii s 0 (by omega) (by omega)
  have a1 := runesAt_ascii s 1 (by omega) (by omega)
  have a2 := runesAt_ascii s 2 (by omega) (by omega)
  have a3 := runesAt_ascii s 3 (by omega) (by omega)
  rw [a0, a1, a2, a3, h0, h1, h2]
  rfl

end Go.Proofs.Ytbicbdcbbeifhaa.MrgP
