/- Plain facts behind FnHexRead: what the reference writes as hex digits, and what the scanner reads from such digits. -/
import Derived.Test.YtbicbdcbbeifhaaPFnHexReadx1
namespace Go.Proofs.Ytbicbdcbbeifhaa.HexP
open Go.RowKit Go.Proofs.Ytbicbdcbbeifhaa.PFnHexRead Go.Proofs.YtbicbdcbbeifhaaW.PrintWords Go.Proofs.YtbicbdcbbeifhaaW.PrintLast Go.Proofs.YtbicbdcbbeifhaaW.PrintMore

/-- A hex digit's number. -/
def hx (c : Int) : Int := if 65 ≤ c ∧ c ≤ 70 then c - 55 else if 97 ≤ c ∧ c ≤ 102 then c - 87 else c - 48
def val (l : List Int) : Int := l.foldl (fun a c => a * 16 + hx c) 0
def okc (c : Int) : Prop := 0 ≤ c ∧ c < 128 ∧ 0 ≤ hx c ∧ hx c ≤ 15
def ints (s : ByteArray) : List Int := s.data.toList.map fun b => (b.toNat : Int)

theorem val_snoc (l : List Int) (c : Int) : val (l ++ [c]) = val l * 16 + hx c := by simp [val, List.foldl_append]

theorem val_bd' (n : Nat) : ∀ (l : List Int), l.length = n → (∀ c ∈ l, okc c) → 0 ≤ val l ∧ val l < 16 ^ n := by
  induction n with
  | zero =>
    intro l hl _
    have : l = [] := List.length_eq_zero_iff.1 hl
    subst this
    simp [val]
  | succ n ih =>
    intro l hl h
    rcases List.eq_nil_or_concat l with rfl | ⟨t, c, rfl⟩
    · simp at hl
    · rw [List.concat_eq_append] at *
      have i := ih t (by simpa using hl) (fun x hx => h x (by simp [hx]))
      have hc := h c (by simp)
      obtain ⟨_, _, h3, h4⟩ := hc
      rw [val_snoc]
      have : (16 : Int) ^ (n + 1) = 16 ^ n * 16 := Int.pow_succ _ _
      rw [this]
      omega
theorem val_bd (l : List Int) (h : ∀ c ∈ l, okc c) : 0 ≤ val l ∧ val l < 16 ^ l.length := val_bd' _ l rfl h

theorem hexToInt_eq (k : Nat) (c : Int) (h0 : 0 ≤ c) (h1 : c < 128) : scanner_hexToInt.f (k + 1) c = some (hx c) := by
  unfold scanner_hexToInt.f hx
  simp only [scanner_hexToInt.j0]
  by_cases a : c ≥ 65
  · by_cases b : c ≤ 70
    · rw [if_pos a]; simp only [b, decide_true, if_true]
      rw [if_pos ⟨a, trivial⟩]; congr 1; unfold wrap64; omega
    · rw [if_pos a]; simp only [b, decide_false, Bool.false_eq_true, if_false, and_false]
      by_cases d : c ≥ 97
      · by_cases e : c ≤ 102
        · rw [if_pos d, if_pos e, if_pos ⟨d, e⟩]; congr 1; unfold wrap64; omega
        · rw [if_pos d, if_neg e, if_neg (by omega)]; congr 1; unfold wrap64; omega
      · rw [if_neg d, if_neg (by omega)]; congr 1; unfold wrap64; omega
  · rw [if_neg a]; simp only [Bool.false_eq_true, if_false]
    rw [if_neg (by omega), if_neg (by omega), if_neg (by omega)]; congr 1; unfold wrap64; omega

theorem take_succ_rd (l : List Int) (i : Nat) (h : i < l.length) : l.take (i + 1) = l.take i ++ [rd l i] := by
  rw [List.take_succ_eq_append_getElem h]
  simp [rd, List.getD, List.getElem?_eq_getElem h]

theorem shl_ok (t : Int) (n : Nat) (h0 : 0 ≤ t) (h1 : t ≤ 15) (hn : n ≤ 28) : shl .i64 t n = t * 2 ^ n := by
  unfold shl
  have : min (n : Int).toNat IntKind.i64.bits = n := by
    show min (n : Int).toNat 64 = n
    omega
  rw [this]
  have h2 : (2 : Int) ^ n ≤ 2 ^ 28 := by
    have : (2 : Nat) ^ n ≤ 2 ^ 28 := Nat.pow_le_pow_right (by decide) hn
    exact_mod_cast this
  have h3 : (0 : Int) ≤ 2 ^ n := by
    have : (0 : Nat) ≤ 2 ^ n := Nat.zero_le _
    exact_mod_cast this
  have h4 : t * 2 ^ n ≤ 15 * 2 ^ 28 := by
    calc t * 2 ^ n ≤ 15 * 2 ^ n := Int.mul_le_mul_of_nonneg_right h1 h3
      _ ≤ 15 * 2 ^ 28 := Int.mul_le_mul_of_nonneg_left h2 (by decide)
  have h5 : 0 ≤ t * 2 ^ n := Int.mul_nonneg h0 h3
  generalize t * 2 ^ n = z at *
  rw [IntKind.wrap_i64]
  omega

theorem two_four (m : Nat) : (2 : Int) ^ (4 * m) = 16 ^ m := by
  rw [Int.pow_mul]; rfl

theorem p16 (n m : Nat) (h : n ≤ m) : (16 : Int) ^ n ≤ ((16 ^ m : Nat) : Int) := by
  have e : (16 : Int) ^ n = ((16 ^ n : Nat) : Int) := by rw [Int.natCast_pow]; rfl
  rw [e]
  exact Int.ofNat_le.2 (Nat.pow_le_pow_right (by decide) h)
theorem p16_8 : (16 ^ 8 : Nat) = 4294967296 := by decide
theorem p16_7 : (16 ^ 7 : Nat) = 268435456 := by decide

/-- What the scanner's loop reads, from place i on. -/
theorem read_l (l : List Int) (hl : l.length ≤ 8) (hok : ∀ c ∈ l, okc c) (d : Nat) : ∀ (k i : Nat), i + d = l.length → d + 1 < k →
    scanner_hexRunesToInt.l0 k l (val (l.take i) * 16 ^ (l.length - i)) i = some (val l) := by
  induction d with
  | zero =>
    intro k i hi hk
    obtain ⟨k, rfl⟩ : ∃ m, k = m + 1 := ⟨k - 1, by omega⟩
    simp only [scanner_hexRunesToInt.l0]
    rw [if_neg (by omega)]
    have : i = l.length := by omega
    subst this
    simp
  | succ d ih =>
    intro k i hi hk
    obtain ⟨k, rfl⟩ : ∃ m, k = m + 2 := ⟨k - 2, by omega⟩
    have hlt : i < l.length := by omega
    have hmem : rd l i ∈ l := by
      simp [rd, List.getD, List.getElem?_eq_getElem hlt]
    obtain ⟨c0, c1, c2, c3⟩ := hok _ hmem
    simp only [scanner_hexRunesToInt.l0]
    rw [if_pos (by omega), if_pos (by omega), hexToInt_eq _ _ c0 c1]
    simp only [Option.bind_some]
    have e1 : IntKind.u64.wrap (IntKind.u64.wrap (wrap64 (wrap64 ((l.length : Int) - i) - 1)) * 4) = ((4 * d : Nat) : Int) := by
      have : wrap64 (wrap64 ((l.length : Int) - i) - 1) = (d : Int) := by unfold wrap64; omega
      rw [this, IntKind.wrap_u64, IntKind.wrap_u64]
      omega
    rw [e1, if_pos (by omega), shl_ok _ _ c2 c3 (by omega), two_four]
    have e2 : wrap64 ((i : Int) + 1) = ((i + 1 : Nat) : Int) := by unfold wrap64; omega
    rw [e2]
    have e3 : wrap64 (val (l.take i) * 16 ^ (l.length - i) + hx (rd l i) * 16 ^ d) = val (l.take (i + 1)) * 16 ^ (l.length - (i + 1)) := by
      have a1 : l.length - i = d + 1 := by omega
      have a2 : l.length - (i + 1) = d := by omega
      rw [a1, a2, take_succ_rd l i hlt, val_snoc]
      have a3 : val (l.take i) * 16 ^ (d + 1) + hx (rd l i) * 16 ^ d = (val (l.take i) * 16 + hx (rd l i)) * 16 ^ d := by
        rw [Int.pow_succ, Int.add_mul, Int.mul_assoc, Int.mul_comm (16 ^ d) 16]
      rw [a3]
      have b := val_bd (l.take (i + 1)) (fun c hc => hok c (List.mem_of_mem_take hc))
      rw [take_succ_rd l i hlt, val_snoc] at b
      have b1 : (l.take i ++ [rd l i]).length = i + 1 := by simp; omega
      rw [b1] at b
      obtain ⟨b2, b3⟩ := b
      generalize val (l.take i) * 16 + hx (rd l i) = z at *
      have p0 : (0 : Int) ≤ 16 ^ d := by
        have : (0 : Nat) ≤ 16 ^ d := Nat.zero_le _
        exact_mod_cast this
      have p1 : z * 16 ^ d ≤ 16 ^ (i + 1) * 16 ^ d := Int.mul_le_mul_of_nonneg_right (by omega) p0
      have p2 : (16 : Int) ^ (i + 1) * 16 ^ d ≤ 4294967296 := by
        rw [← Int.pow_add]
        have := p16 (i + 1 + d) 8 (by omega)
        rwa [p16_8] at this
      have p3 : 0 ≤ z * 16 ^ d := Int.mul_nonneg b2 p0
      generalize z * 16 ^ d = y at *
      unfold wrap64; omega
    rw [e3]
    exact ih (k + 1) (i + 1) (by omega) (by omega)

theorem read_all (l : List Int) (hl : l.length ≤ 8) (hok : ∀ c ∈ l, okc c) : scanner_hexRunesToInt.f 11 l = some (val l) := by
  unfold scanner_hexRunesToInt.f
  have h := read_l l hl hok l.length 11 0 (by omega) (by omega)
  simpa [val] using h

/-! ### What the reference writes -/
structure Good (s : ByteArray) (n : Int) (m : Nat) : Prop where
  ok : ∀ c ∈ ints s, okc c
  eq : n = val (ints s)
  size : s.size = m

def lower : ByteArray := ⟨#[48, 49, 50, 51, 52, 53, 54, 55, 56, 57, 97, 98, 99, 100, 101, 102]⟩
def upper : ByteArray := ⟨#[48, 49, 50, 51, 52, 53, 54, 55, 56, 57, 65, 66, 67, 68, 69, 70]⟩

theorem digit (A : ByteArray) (hA : A = lower ∨ A = upper) (d : Int) (h0 : 0 ≤ d) (h1 : d ≤ 15) :
    ∃ c : UInt8, A.extract d.toNat (d + 1).toNat = ⟨#[c]⟩ ∧ okc (c.toNat : Int) ∧ hx (c.toNat : Int) = d := by
  have hd : d = 0 ∨ d = 1 ∨ d = 2 ∨ d = 3 ∨ d = 4 ∨ d = 5 ∨ d = 6 ∨ d = 7 ∨ d = 8 ∨ d = 9 ∨ d = 10 ∨ d = 11 ∨ d = 12 ∨ d = 13 ∨ d = 14 ∨ d = 15 := by omega
  have key : ∀ B : ByteArray, B = lower ∨ B = upper → ∀ n : Fin 16, B.extract n.val (n.val + 1) = ⟨#[B.data.getD n.val 0]⟩ ∧ okc ((B.data.getD n.val 0).toNat : Int) ∧ hx ((B.data.getD n.val 0).toNat : Int) = (n.val : Int) := by
    intro B hB
    rcases hB with rfl | rfl
    · unfold okc hx; decide +kernel
    · unfold okc hx; decide +kernel
  obtain ⟨n, rfl⟩ := Int.eq_ofNat_of_zero_le h0
  have := key A hA ⟨n, by omega⟩
  refine ⟨A.data.getD n 0, ?_, this.2.1, this.2.2⟩
  have e : ((n : Int) + 1).toNat = n + 1 := by omega
  rw [e, Int.toNat_natCast]
  exact this.1

theorem good_step (s : ByteArray) (n d : Int) (m : Nat) (hm : m < 8) (h : Good s n m) (A : ByteArray) (hA : A = lower ∨ A = upper) (h0 : 0 ≤ d) (h1 : d ≤ 15) :
    Good (s ++ A.extract d.toNat (d + 1).toNat) (wrap64 (wrap64 (n * 16) + d)) (m + 1) := by
  obtain ⟨c, e, hc, hv⟩ := digit A hA d h0 h1
  have hi : ints (s ++ A.extract d.toNat (d + 1).toNat) = ints s ++ [(c.toNat : Int)] := by
    rw [e]; simp [ints, ByteArray.data_append]
  have hb := val_bd (ints s) h.ok
  have hl : (ints s).length = m := by simp [ints, ByteArray.size_data, h.size]
  rw [hl, ← h.eq] at hb
  have p : (16 : Int) ^ m ≤ 268435456 := by
    have := p16 m 7 (by omega)
    rwa [p16_7] at this
  refine ⟨?_, ?_, ?_⟩
  · rw [hi]
    intro x hx
    rcases List.mem_append.1 hx with hx | hx
    · exact h.ok x hx
    · rw [List.mem_singleton.1 hx]; exact hc
  · rw [hi, val_snoc, ← h.eq, hv]
    unfold wrap64; omega
  · rw [e, ByteArray.size_append, h.size]; rfl

theorem nibble (x y : Int) (h0 : 0 ≤ x) (h1 : x < 4294967296) : 0 ≤ wrap64 (Go.bits .and .u32 (shr .u32 x y) 15) ∧ wrap64 (Go.bits .and .u32 (shr .u32 x y) 15) ≤ 15 := by
  have hp : (0 : Int) < 2 ^ min y.toNat IntKind.u32.bits := by
    have : 0 < 2 ^ min y.toNat IntKind.u32.bits := Nat.two_pow_pos _
    exact_mod_cast this
  have a0 : 0 ≤ shr .u32 x y := Int.ediv_nonneg h0 (Int.le_of_lt hp)
  have a1 : shr .u32 x y ≤ x := Int.ediv_le_self _ h0
  have e : Go.bits .and .u32 (shr .u32 x y) 15 = shr .u32 x y % 16 :=
    bits_mask .u32 32 (by decide) (fun n h h' => by rw [IntKind.wrap_u32]; omega) 4 (by decide) _ a0 (by omega)
  rw [e]
  unfold wrap64; omega

theorem write_l (x cases : Int) (h0 : 0 ≤ x) (h1 : x < 4294967296) (n : Nat) : ∀ (k m : Nat) (s : ByteArray) (v : Int), n + 1 < k → m + n ≤ 8 → Good s v m →
    ∃ r z, spec_HexDigits.l0 k x cases s v ((n : Int) - 1) = some (r, z) ∧ Good r z (m + n) := by
  induction n with
  | zero =>
    intro k m s v hk hm hg
    obtain ⟨k, rfl⟩ : ∃ j, k = j + 1 := ⟨k - 1, by omega⟩
    refine ⟨s, v, ?_, hg⟩
    simp only [spec_HexDigits.l0]
    rw [if_neg (by omega)]
  | succ n ih =>
    intro k m s v hk hm hg
    obtain ⟨k, rfl⟩ : ∃ j, k = j + 1 := ⟨k - 1, by omega⟩
    have e0 : ((n + 1 : Nat) : Int) - 1 = (n : Int) := by omega
    have e1 : wrap64 (4 * (n : Int)) = 4 * (n : Int) := by unfold wrap64; omega
    have e2 : wrap64 ((n : Int) - 1) = (n : Int) - 1 := by unfold wrap64; omega
    obtain ⟨d0, d1⟩ := nibble x (4 * (n : Int)) h0 h1
    rw [e0]
    simp only [spec_HexDigits.l0, e1, e2]
    generalize wrap64 (Go.bits .and .u32 (shr .u32 x (4 * (n : Int))) 15) = d at *
    have e3 : wrap64 (d + 1) = d + 1 := by unfold wrap64; omega
    simp only [e3]
    have hs := hg.size
    rw [if_pos (by omega), if_pos (by omega), if_pos (by omega)]
    by_cases hb : Go.bits .and .u32 (shr .u32 cases (n : Int)) 1 = 1
    · have g := good_step s v d m (by omega) hg upper (.inr rfl) d0 d1
      have gs := g.size
      rw [ByteArray.size_append] at gs
      rw [if_pos hb, if_pos (by omega), if_pos (by omega), if_pos (by omega)]
      change ∃ r z, (if s.size + (upper.extract d.toNat (d + 1).toNat).size ≤ 9223372036854775807 then spec_HexDigits.l0 k x cases (s ++ upper.extract d.toNat (d + 1).toNat) (wrap64 (wrap64 (v * 16) + d)) ((n : Int) - 1) else none) = some (r, z) ∧ Good r z (m + (n + 1))
      rw [if_pos (by omega)]
      obtain ⟨r, z, hr, hz⟩ := ih k (m + 1) _ _ (by omega) (by omega) g
      exact ⟨r, z, hr, by rwa [show m + (n + 1) = m + 1 + n from by omega]⟩
    · have g := good_step s v d m (by omega) hg lower (.inl rfl) d0 d1
      have gs := g.size
      rw [ByteArray.size_append] at gs
      rw [if_neg hb, if_pos (by omega), if_pos (by omega), if_pos (by omega)]
      change ∃ r z, (if s.size + (lower.extract d.toNat (d + 1).toNat).size ≤ 9223372036854775807 then spec_HexDigits.l0 k x cases (s ++ lower.extract d.toNat (d + 1).toNat) (wrap64 (wrap64 (v * 16) + d)) ((n : Int) - 1) else none) = some (r, z) ∧ Good r z (m + (n + 1))
      rw [if_pos (by omega)]
      obtain ⟨r, z, hr, hz⟩ := ih k (m + 1) _ _ (by omega) (by omega) g
      exact ⟨r, z, hr, by rwa [show m + (n + 1) = m + 1 + n from by omega]⟩

/-- The reference's digits, for a count from 1 to 8. -/
theorem write_all (x most cases : Int) (h0 : 0 ≤ x) (h1 : x < 4294967296) (hm0 : 1 ≤ most) (hm1 : most ≤ 8) :
    ∃ r z, spec_HexDigits.f 11 x most cases = some (r, z) ∧ Good r z most.toNat := by
  obtain ⟨n, rfl⟩ := Int.eq_ofNat_of_zero_le (show 0 ≤ most by omega)
  have g : Good (⟨#[]⟩ : ByteArray) 0 0 := ⟨fun c hc => by simp [ints] at hc, by simp [ints, val], rfl⟩
  obtain ⟨r, z, hr, hz⟩ := write_l x cases h0 h1 n 10 0 _ _ (by omega) (by omega) g
  refine ⟨r, z, ?_, by simpa using hz⟩
  unfold spec_HexDigits.f
  rw [if_neg (by omega)]
  have : decide ((n : Int) > 8) = false := by simp; omega
  rw [this]
  simp only [spec_HexDigits.j0, Bool.false_eq_true, if_false]
  have e2 : wrap64 ((n : Int) - 1) = (n : Int) - 1 := by unfold wrap64; omega
  rw [e2]
  exact hr

/-- For any other count: no digits. -/
theorem write_none (x most cases : Int) (h : most < 1 ∨ 8 < most) : spec_HexDigits.f 11 x most cases = some (⟨#[]⟩, 0) := by
  unfold spec_HexDigits.f
  by_cases a : most < 1
  · rw [if_pos a]; simp [spec_HexDigits.j0]
  · rw [if_neg a]
    have : decide (most > 8) = true := by simp; omega
    rw [this]; simp [spec_HexDigits.j0]

end Go.Proofs.Ytbicbdcbbeifhaa.HexP
