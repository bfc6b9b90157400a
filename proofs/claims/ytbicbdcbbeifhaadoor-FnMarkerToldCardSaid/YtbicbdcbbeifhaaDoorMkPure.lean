/- Plain facts behind FnMarkerTold: what a text's first runes are, and what is left of them. -/
import Derived.Test.YtbicbdcbbeifhaaDoorMkHas
import Derived.Test.YtbicbdcbbeifhaaDoorRunes
import Derived.Laws.Cover4
import Derived.Shelf.GgClosure.StringsTrimFunc
import Derived.Lib.TrimAscii
namespace Go.Proofs.YtbicbdcbbeifhaaDoor.MkP
open Go.RowKit Go.Proofs.YtbicbdcbbeifhaaDoor.PFnMarkerTold Go.Proofs.YtbicbdcbbeifhaaDoorW.PrintWords Go.Proofs.YtbicbdcbbeifhaaDoorW.PrintLast Go.Proofs.YtbicbdcbbeifhaaDoorW.PrintMore
open Go.Proofs.YtbicbdcbbeifhaaDoor.MkH Go.Proofs.YtbicbdcbbeifhaaDoor.Rn
set_option linter.unusedSimpArgs false
set_option linter.unusedVariables false

/-! ### Runes and their bytes -/
def enc (n : Int) : List UInt8 := (Utf8.encode n).data.toList

theorem enc_low (n : Int) (h0 : 0 ≤ n) (h1 : n < 128) : enc n = [UInt8.ofNat n.toNat] := by
  have hv : Utf8.valid n = true := by unfold Utf8.valid; simp; omega
  unfold enc Utf8.encode
  simp only [hv, if_true]
  rw [if_pos (by omega)]

theorem enc_high (n : Int) (h : n < 0 ∨ 128 ≤ n) : enc n ≠ [] ∧ ∀ b ∈ enc n, 128 ≤ b.toNat := by
  have hc : ∃ c : Nat, (if Utf8.valid n then n.toNat else Utf8.runeError) = c ∧ 128 ≤ c ∧ c ≤ 1114111 := by
    refine ⟨_, rfl, ?_, ?_⟩
    · cases hv : Utf8.valid n
      · simp [Utf8.runeError]
      · unfold Utf8.valid at hv
        simp at hv ⊢
        omega
    · cases hv : Utf8.valid n
      · simp [Utf8.runeError]
      · unfold Utf8.valid at hv
        simp at hv ⊢
        omega
  obtain ⟨c, hc, h1, h2⟩ := hc
  unfold enc Utf8.encode
  simp only [hc]
  rw [if_neg (by omega)]
  split
  · refine ⟨by simp, fun b hb => ?_⟩
    simp at hb
    rcases hb with rfl | rfl <;> simp <;> omega
  · split
    · refine ⟨by simp, fun b hb => ?_⟩
      simp at hb
      rcases hb with rfl | rfl | rfl <;> simp <;> omega
    · refine ⟨by simp, fun b hb => ?_⟩
      simp at hb
      rcases hb with rfl | rfl | rfl | rfl <;> simp <;> omega

def encs (l : List Int) : List UInt8 := l.flatMap enc

theorem encs_at (l : List Int) : (runesBytes l).data.toList = encs l := by
  have key : ∀ (l : List Int) (r : ByteArray), (l.foldl (fun r n => r ++ Utf8.encode n) r).data.toList = r.data.toList ++ encs l := by
    intro l
    induction l with
    | nil => intro r; simp [encs]
    | cons n t ih =>
      intro r
      rw [List.foldl_cons, ih]
      simp [encs, enc, ByteArray.data_append]
  have := key l ByteArray.empty
  simpa [runesBytes] using this

theorem encs_first {l : List Int} {c : UInt8} {x : List UInt8} (h : encs l = c :: x) (hc : c.toNat < 128) : ∃ t, l = (c.toNat : Int) :: t ∧ encs t = x := by
  cases l with
  | nil => cases h
  | cons n t =>
    refine ⟨t, ?_⟩
    have e : encs (n :: t) = enc n ++ encs t := by simp [encs]
    rw [e] at h
    by_cases hn : 0 ≤ n ∧ n < 128
    · rw [enc_low n hn.1 hn.2] at h
      simp only [List.singleton_append, List.cons.injEq] at h
      obtain ⟨h1, h2⟩ := h
      refine ⟨?_, h2⟩
      rw [← h1]
      have : (UInt8.ofNat n.toNat).toNat = n.toNat := by simp; omega
      rw [this]
      congr 1
      omega
    · obtain ⟨h1, h2⟩ := enc_high n (by omega)
      cases he : enc n with
      | nil => exact absurd he h1
      | cons b y =>
        rw [he] at h
        simp only [List.cons_append, List.cons.injEq] at h
        have := h2 b (by rw [he]; simp)
        rw [h.1] at this
        omega

theorem runes_head {s : ByteArray} {i : Nat} {r : Int} {t : List Int} (h : runesAt s i = r :: t) (hr : r < 128) : ∃ hi : i < s.size, ((s[i]'hi).toNat : Int) = r ∧ runesAt s (i + 1) = t := by
  by_cases hi : i < s.size
  · refine ⟨hi, ?_⟩
    by_cases ha : (s[i]'hi).toNat < 128
    · rw [runesAt_ascii s i hi ha] at h
      simpa using h
    · obtain ⟨r', j, e, h128⟩ := runesAt_high s i hi (by omega)
      rw [e] at h
      simp only [List.cons.injEq] at h
      omega
  · rw [runesAt_end s i hi] at h
    cases h

/-! ### The end of a text is white -/
def white (r : Nat) : Bool := r == 32 || r == 9 || r == 10 || r == 13

theorem trim_low : ∀ c ∈ [(45 : UInt8), 46], ∀ x : Fin 128, Lib.trimRightF white ⟨#[c, c, c, UInt8.ofNat x.val]⟩ = if white x.val then ⟨#[c, c, c]⟩ else ⟨#[c, c, c, UInt8.ofNat x.val]⟩ := by
  decide +kernel

theorem last_high (l : List UInt8) (hne : l ≠ []) (h : 128 ≤ (l.getD (l.length - 1) 0).toNat) :
    128 ≤ (Lib.decodeLastL l).1 ∧ 128 ≤ (l.getD (l.length - (Lib.decodeLastL l).2) 0).toNat := by
  unfold Lib.decodeLastL
  rw [if_neg hne, if_neg (by omega)]
  have hpos : 0 < l.length := List.length_pos_iff.2 hne
  simp only
  by_cases hd : Lib.lastStart l + (Lib.decodeL (l.drop (Lib.lastStart l))).2 = l.length
  · rw [if_pos hd]
    have hw := Lib.decodeL_width (l.drop (Lib.lastStart l))
    have hst : Lib.lastStart l < l.length := by omega
    have hat : l.getD (Lib.lastStart l) 0 = l[Lib.lastStart l]'hst := by simp [List.getD, List.getElem?_eq_getElem hst]
    have hdr : l.drop (Lib.lastStart l) = l[Lib.lastStart l]'hst :: l.drop (Lib.lastStart l + 1) := List.drop_eq_getElem_cons hst
    have e : l.length - (Lib.decodeL (l.drop (Lib.lastStart l))).2 = Lib.lastStart l := by omega
    rw [e, hat]
    by_cases ha : (l[Lib.lastStart l]'hst).toNat < 128
    · rw [hdr, Lib.decodeL_ascii _ _ ha] at hd
      simp only at hd
      have e1 : l.length - 1 = Lib.lastStart l := by omega
      rw [e1, hat] at h
      omega
    · refine ⟨?_, by omega⟩
      rw [hdr]
      unfold Lib.decodeL
      exact (decode_high _ 0 (by simp [ByteArray.size]; omega) (by
        show 128 ≤ (l[Lib.lastStart l]'hst).toNat
        omega)).1
  · rw [if_neg hd]
    exact ⟨by simp [Utf8.runeError], h⟩

theorem white_high (r : Nat) (h : 128 ≤ r) : white r = false := by
  unfold white
  simp
  omega

theorem trim_high (c : UInt8) (hc : c.toNat < 128) (y : List UInt8) (hne : y ≠ []) (hy : ∀ b ∈ y, 128 ≤ b.toNat) (X : ByteArray) (hX : X.data.toList = c :: c :: c :: y) (q : UInt8) : Lib.trimRightF white X ≠ ⟨#[q, q, q]⟩ := by
  have hyl : 0 < y.length := List.length_pos_iff.2 hne
  have hn : X.size = y.length + 3 := by rw [Lib.size_eq, hX]; simp
  have hget : ∀ i, (X.data.toList.getD (i + 3) 0) = y.getD i 0 := by intro i; rw [hX]; simp [List.getD]
  obtain ⟨h1, h2⟩ := last_high X.data.toList (by rw [hX]; simp) (by
    have e : X.data.toList.length - 1 = (y.length - 1) + 3 := by rw [← Lib.size_eq, hn]; omega
    rw [e, hget]
    refine hy _ ?_
    have : y.length - 1 < y.length := by omega
    simp [List.getD, List.getElem?_eq_getElem this])
  have hw := Lib.decodeLastL_width X.data.toList (by rw [← Lib.size_eq]; omega)
  rw [← Lib.size_eq] at h2 hw
  have hst : 3 ≤ X.size - (Lib.decodeLastL X.data.toList).2 := by
    apply Decidable.byContradiction
    intro hlt
    have : (X.data.toList.getD (X.size - (Lib.decodeLastL X.data.toList).2) 0) = c := by
      have key : ∀ i, i < 3 → (c :: c :: c :: y).getD i 0 = c := by
        intro i hi
        match i, hi with
        | 0, _ => rfl
        | 1, _ => rfl
        | 2, _ => rfl
      have := key (X.size - (Lib.decodeLastL X.data.toList).2) (by omega)
      rwa [← hX] at this
    rw [this] at h2
    omega
  have hI : Lib.lastIdxFunc white false X = ((X.size - (Lib.decodeLastL X.data.toList).2 : Nat) : Int) := by
    unfold Lib.lastIdxFunc
    obtain ⟨m, hm⟩ : ∃ m, X.size = m + 1 := ⟨X.size - 1, by omega⟩
    rw [hm]
    unfold Lib.lastIdxFuncFrom
    have ht : X.data.toList.take (m + 1) = X.data.toList := List.take_of_length_le (by rw [← Lib.size_eq]; omega)
    rw [if_pos (by omega), ht, white_high _ h1, if_pos rfl]
  unfold Lib.trimRightF Lib.rightEndF
  rw [hI, if_pos (by omega), Int.toNat_natCast]
  generalize hk : X.size - (Lib.decodeLastL X.data.toList).2 = k at *
  have hkl : k < X.size := by omega
  have hd : 1 ≤ (Lib.decodeGoB (X.extract k X.size)).2 := by
    unfold Lib.decodeGoB
    rw [if_neg (by rw [Lib.size_eq, Lib.extract_data, List.length_take, List.length_drop, ← Lib.size_eq]; omega)]
    exact Lib.width_pos _ _
  intro heq
  have := congrArg ByteArray.size heq
  rw [Lib.size_eq, Lib.extract_data, List.length_take, List.length_drop, ← Lib.size_eq] at this
  have e3 : (⟨#[q, q, q]⟩ : ByteArray).size = 3 := rfl
  rw [e3] at this
  omega

/-! ### What both tell -/
/-- What the scanner looks at. -/
def tb (zs : List Int) : ByteArray := if zs.length = 3 then runesBytes zs else Lib.trimRightF white (runesBytes (zs.take 4))
def found (zs : List Int) : Bool := if zs.length < 3 then false else (decide (tb zs = ⟨#[45, 45, 45]⟩) || decide (tb zs = ⟨#[46, 46, 46]⟩))

/-- Three like signs stand ahead. -/
structure Three (s : ByteArray) (c : UInt8) : Prop where
  sz : 3 ≤ s.size
  b0 : s[0]'(by omega) = c
  b1 : s[1]'(by omega) = c
  b2 : s[2]'(by omega) = c
  sign : c ∈ [(45 : UInt8), 46]

theorem Three.low {s : ByteArray} {c : UInt8} (h : Three s c) : c.toNat < 128 := by
  have := h.sign
  simp at this
  rcases this with rfl | rfl <;> decide
theorem Three.runes {s : ByteArray} {c : UInt8} (h : Three s c) : runesAt s 0 = (c.toNat : Int) :: (c.toNat : Int) :: (c.toNat : Int) :: runesAt s 3 := by
  have hl := h.low
  have := h.sz
  rw [runesAt_ascii s 0 (by omega) (by rw [h.b0]; exact hl), runesAt_ascii s 1 (by omega) (by rw [h.b1]; exact hl), runesAt_ascii s 2 (by omega) (by rw [h.b2]; exact hl), h.b0, h.b1, h.b2]

theorem of_list (s : ByteArray) (l : List UInt8) (h : s.data.toList = l) : s = ⟨l.toArray⟩ := by
  apply ByteArray.ext
  apply Array.ext'
  simpa using h

theorem mark_two : ∀ c ∈ [(45 : UInt8), 46], (decide ((⟨#[c, c, c]⟩ : ByteArray) = ⟨#[45, 45, 45]⟩) || decide ((⟨#[c, c, c]⟩ : ByteArray) = ⟨#[46, 46, 46]⟩)) = true := by decide +kernel
theorem mark_four : ∀ c ∈ [(45 : UInt8), 46], ∀ x : Fin 128, (decide ((⟨#[c, c, c, UInt8.ofNat x.val]⟩ : ByteArray) = ⟨#[45, 45, 45]⟩) || decide ((⟨#[c, c, c, UInt8.ofNat x.val]⟩ : ByteArray) = ⟨#[46, 46, 46]⟩)) = false := by decide +kernel

theorem found_end {s : ByteArray} {c : UInt8} (h : Three s c) (h3 : s.size = 3) : found (runesAt s 0) = true := by
  rw [h.runes, runesAt_end s 3 (by omega)]
  have hc := h.sign
  have e : runesBytes [(c.toNat : Int), c.toNat, c.toNat] = ⟨#[c, c, c]⟩ := by
    refine of_list _ [c, c, c] ?_
    rw [encs_at]
    have := h.low
    simp [encs, enc_low (c.toNat : Int) (by omega) (by omega)]
  unfold found tb
  rw [if_neg (by simp), if_pos (by rfl), e]
  exact mark_two c hc

theorem found_low {s : ByteArray} {c : UInt8} (h : Three s c) (h3 : 3 < s.size) (hb : (s[3]'h3).toNat < 128) : found (runesAt s 0) = white (s[3]'h3).toNat := by
  rw [h.runes, runesAt_ascii s 3 h3 hb]
  have hc := h.sign
  have hl := h.low
  generalize s[3]'h3 = x at hb
  have e : runesBytes [(c.toNat : Int), c.toNat, c.toNat, x.toNat] = ⟨#[c, c, c, x]⟩ := by
    refine of_list _ [c, c, c, x] ?_
    rw [encs_at]
    simp [encs, enc_low (c.toNat : Int) (by omega) (by omega), enc_low (x.toNat : Int) (by omega) (by omega)]
  have t1 := trim_low c hc ⟨x.toNat, hb⟩
  have t2 := mark_two c hc
  have t3 := mark_four c hc ⟨x.toNat, hb⟩
  have ex : UInt8.ofNat x.toNat = x := by simp
  simp only [ex] at t1 t3
  unfold found tb
  rw [if_neg (by simp), if_neg (by simp)]
  have et : ((c.toNat : Int) :: (c.toNat : Int) :: (c.toNat : Int) :: (x.toNat : Int) :: runesAt s (3 + 1)).take 4 = [(c.toNat : Int), c.toNat, c.toNat, x.toNat] := rfl
  rw [et, e, t1]
  cases hw : white x.toNat
  · rw [if_neg (by simp)]; exact t3
  · rw [if_pos rfl]; exact t2

theorem found_high {s : ByteArray} {c : UInt8} (h : Three s c) (h3 : 3 < s.size) (hb : ¬ (s[3]'h3).toNat < 128) : found (runesAt s 0) = false := by
  obtain ⟨r, j, hr, h128⟩ := runesAt_high s 3 h3 (by omega)
  rw [h.runes, hr]
  have hl := h.low
  have e : (runesBytes [(c.toNat : Int), c.toNat, c.toNat, r]).data.toList = c :: c :: c :: enc r := by
    rw [encs_at]
    simp [encs, enc_low (c.toNat : Int) (by omega) (by omega)]
  obtain ⟨e1, e2⟩ := enc_high r (by omega)
  unfold found tb
  rw [if_neg (by simp), if_neg (by simp)]
  have et : ((c.toNat : Int) :: (c.toNat : Int) :: (c.toNat : Int) :: r :: runesAt s j).take 4 = [(c.toNat : Int), c.toNat, c.toNat, r] := rfl
  rw [et]
  have t := trim_high c hl (enc r) e1 e2 _ e
  rw [decide_eq_false (t 45), decide_eq_false (t 46)]
  rfl

theorem found_three (s : ByteArray) (h : found (runesAt s 0) = true) : ∃ c, Three s c := by
  obtain ⟨zs, hz⟩ : ∃ zs, runesAt s 0 = zs := ⟨_, rfl⟩
  rw [hz] at h
  have key : ∃ c ∈ [(45 : UInt8), 46], ∃ m x, encs (zs.take m) = c :: c :: c :: x := by
    unfold found at h
    split at h
    · cases h
    · have ht : ∃ c ∈ [(45 : UInt8), 46], tb zs = ⟨#[c, c, c]⟩ := by
        simp only [Bool.or_eq_true, decide_eq_true_eq] at h
        rcases h with h | h
        · exact ⟨45, by simp, h⟩
        · exact ⟨46, by simp, h⟩
      obtain ⟨c, hc, ht⟩ := ht
      refine ⟨c, hc, ?_⟩
      unfold tb at ht
      split at ht
      · rename_i h3
        refine ⟨3, [], ?_⟩
        rw [← encs_at, List.take_of_length_le (by omega), ht]
      · refine ⟨4, ?_⟩
        unfold Lib.trimRightF at ht
        have := congrArg (fun b : ByteArray => b.data.toList) ht
        simp only [Lib.extract_data, List.drop_zero] at this
        refine ⟨(runesBytes (zs.take 4)).data.toList.drop (Lib.rightEndF white (runesBytes (zs.take 4)) - 0), ?_⟩
        rw [← encs_at]
        conv => lhs; rw [← List.take_append_drop (Lib.rightEndF white (runesBytes (zs.take 4)) - 0) (runesBytes (zs.take 4)).data.toList]
        rw [this]
        rfl
  obtain ⟨c, hc, m, x, he⟩ := key
  have hl : c.toNat < 128 := by
    simp at hc
    rcases hc with rfl | rfl <;> decide
  obtain ⟨t0, h0, he⟩ := encs_first he hl
  obtain ⟨t1, h1, he⟩ := encs_first he hl
  obtain ⟨t2, h2, he⟩ := encs_first he hl
  subst h1
  subst h2
  have hzs : ∃ y, zs = (c.toNat : Int) :: (c.toNat : Int) :: (c.toNat : Int) :: y := by
    refine ⟨t2 ++ zs.drop m, ?_⟩
    conv => lhs; rw [← List.take_append_drop m zs, h0]
    rfl
  obtain ⟨y, rfl⟩ := hzs
  obtain ⟨i0, g0, hz⟩ := runes_head hz (by omega)
  obtain ⟨i1, g1, hz⟩ := runes_head hz (by omega)
  obtain ⟨i2, g2, hz⟩ := runes_head hz (by omega)
  have k1 : ((s[1]'i1).toNat : Int) = c.toNat := g1
  have k2 : ((s[2]'i2).toNat : Int) = c.toNat := g2
  exact ⟨c, by omega, UInt8.toNat_inj.1 (by omega), UInt8.toNat_inj.1 (by omega), UInt8.toNat_inj.1 (by omega), hc⟩

/-! ### The reference -/
theorem marked_none (s : ByteArray) (h : ¬ ∃ c, Three s c) : spec_Marked.f 1 s = some false := by
  unfold spec_Marked.f
  by_cases h3 : s.size < 3
  · rw [if_pos (by omega)]
  rw [if_neg (by omega), if_pos (by omega)]
  have e0 : bt s 0 = ((s[0]'(by omega)).toNat : Int) := bt_nat s 0 (by omega)
  have e1 : bt s 1 = ((s[1]'(by omega)).toNat : Int) := bt_nat s 1 (by omega)
  have e2 : bt s 2 = ((s[2]'(by omega)).toNat : Int) := bt_nat s 2 (by omega)
  rw [e0, e1, e2]
  have hno : ∀ c ∈ [(45 : UInt8), 46], s[0]'(by omega) = c → s[1]'(by omega) = c → s[2]'(by omega) = c → False := fun c hc a b d => h ⟨c, by omega, a, b, d, hc⟩
  have conv : ∀ (a b : UInt8), ((a.toNat : Int) = (b.toNat : Int)) ↔ a = b := fun a b => ⟨fun e => UInt8.toNat_inj.1 (by omega), fun e => by rw [e]⟩
  have c45 : ∀ a : UInt8, ((a.toNat : Int) = 45) ↔ a = 45 := fun a => ⟨fun e => UInt8.toNat_inj.1 (by show _ = 45; omega), fun e => by rw [e]; rfl⟩
  have c46 : ∀ a : UInt8, ((a.toNat : Int) = 46) ↔ a = 46 := fun a => ⟨fun e => UInt8.toNat_inj.1 (by show _ = 46; omega), fun e => by rw [e]; rfl⟩
  simp only [conv, c45, c46]
  split
  · rename_i g0
    rw [if_pos (by omega)]
    split
    · rename_i g1
      rw [if_pos (by omega)]
      rw [if_neg (fun g2 => hno 45 (by simp) g0 (g1.trans g0) (g2.trans g0))]
    · rfl
  · split
    · rename_i g0
      rw [if_pos (by omega)]
      split
      · rename_i g1
        rw [if_pos (by omega)]
        rw [if_neg (fun g2 => hno 46 (by simp) g0 (g1.trans g0) (g2.trans g0))]
      · rfl
    · rfl

def white3 (r : Nat) : Bool := r == 32 || r == 9 || r == 10

theorem one_char (s : ByteArray) (h4 : 3 < s.size) : (s.extract 3 4).data.toList = [s[3]'h4] := by
  rw [ByteArray.data_extract, Array.toList_extract, List.extract_eq_take_drop]
  have : s.data.toList.drop 3 = s[3]'h4 :: s.data.toList.drop 4 := by
    rw [List.drop_eq_getElem_cons (by rw [Array.length_toList, ByteArray.size_data]; omega)]
    rfl
  rw [this]; rfl

theorem marked_three (s : ByteArray) (c : UInt8) (h : Three s c) : ∃ k, spec_Marked.f k s = some (if h3 : 3 < s.size then white3 (s[3]'h3).toNat else true) := by
  have h0 := h.sz
  have e0 : bt s 0 = ((s[0]'(by omega)).toNat : Int) := bt_nat s 0 (by omega)
  have e1 : bt s 1 = ((s[1]'(by omega)).toNat : Int) := bt_nat s 1 (by omega)
  have e2 : bt s 2 = ((s[2]'(by omega)).toNat : Int) := bt_nat s 2 (by omega)
  rw [h.b0] at e0
  rw [h.b1] at e1
  rw [h.b2] at e2
  have hh : ∃ k, (s.size = 3 ∨ spec_Has.f k (s.extract 3 4) ⟨#[32, 9, 10]⟩ = some (if h3 : 3 < s.size then white3 (s[3]'h3).toNat else true)) := by
    by_cases h3 : 3 < s.size
    · have hz : (s.extract 3 4).size = 1 := by rw [Lib.size_eq, one_char s h3]; rfl
      obtain ⟨k, hk⟩ := has_all (s.extract 3 4) ⟨#[32, 9, 10]⟩ (by omega) (by decide)
      refine ⟨k, .inr (hk.trans ?_)⟩
      rw [one_char s h3, dif_pos h3]
      have conv : ∀ x : UInt8, ([(32 : UInt8), 9, 10].contains x) = white3 x.toNat := by
        intro x
        have := (by decide +kernel : ∀ y : Fin 256, ([(32 : UInt8), 9, 10].contains (UInt8.ofNat y.val)) = white3 y.val) ⟨x.toNat, x.toNat_lt⟩
        simpa using this
      have := conv (s[3]'h3)
      simpa using this
    · exact ⟨0, .inl (by omega)⟩
  obtain ⟨k, hh⟩ := hh
  refine ⟨k, ?_⟩
  have hc := h.sign
  unfold spec_Marked.f
  rw [if_neg (by omega), if_pos (by omega)]
  rw [e0, e1, e2]
  have arm : (if 1 < (s.size : Int) then (if (c.toNat : Int) = (c.toNat : Int) then (if 2 < (s.size : Int) then (if (c.toNat : Int) = (c.toNat : Int) then (if (s.size : Int) = 3 then (some true) else (if (3 : Int) ≤ 4 then (if 4 ≤ (s.size : Int) then ((spec_Has.f k (s.extract 3 4) (⟨#[32, 9, 10]⟩ : ByteArray)).bind fun t111 => (some t111)) else (none)) else (none))) else (some false)) else (none)) else (some false)) else (none)) = some (if h3 : 3 < s.size then white3 (s[3]'h3).toNat else true) := by
    rw [if_pos (by omega), if_pos rfl, if_pos (by omega), if_pos rfl]
    rcases hh with hh | hh
    · rw [if_pos (by omega), dif_neg (by omega)]
    · by_cases h3 : s.size = 3
      · rw [if_pos (by omega), dif_neg (by omega)]
      · rw [if_neg (by omega), if_pos (by omega), if_pos (by omega), hh]
        rfl
  simp at hc
  rcases hc with rfl | rfl
  · rw [if_pos (by decide)]
    exact arm
  · rw [if_neg (by decide), if_pos (by decide)]
    exact arm

/-- The scanner and the reference tell the same of a text without carriage returns. -/
theorem told (s : ByteArray) (h13 : ∀ r ∈ runesAt s 0, r ≠ 13) : ∃ k, spec_Marked.f k s = some (found (runesAt s 0)) := by
  by_cases h : ∃ c, Three s c
  · obtain ⟨c, h⟩ := h
    obtain ⟨k, hk⟩ := marked_three s c h
    refine ⟨k, hk.trans ?_⟩
    by_cases h3 : 3 < s.size
    · rw [dif_pos h3]
      by_cases hb : (s[3]'h3).toNat < 128
      · rw [found_low h h3 hb]
        have hne : ((s[3]'h3).toNat : Int) ≠ 13 := h13 _ (by rw [h.runes, runesAt_ascii s 3 h3 hb]; simp)
        have : (s[3]'h3).toNat ≠ 13 := by omega
        simp [white3, white, this]
      · rw [found_high h h3 hb]
        simp [white3]; omega
    · rw [dif_neg h3, found_end h (by have := h.sz; omega)]
  · refine ⟨1, (marked_none s h).trans ?_⟩
    cases hf : found (runesAt s 0)
    · rfl
    · exact absurd (found_three s hf) h

/-! ### Which texts have rows -/
theorem cont_all (c : Int) : ∃ b, ∀ k, spec_scContent.f (k + 1) c = some b := by
  have j : ∀ x, ∃ b, ∀ k, spec_scContent.j0 (k + 1) c x = some b := by
    intro x
    simp only [spec_scContent.j0]
    repeat' split
    all_goals exact ⟨_, fun _ => rfl⟩
  unfold spec_scContent.f
  repeat' split
  all_goals exact j _
theorem cont_cr (k : Nat) : spec_scContent.f (k + 1) 13 = some false := rfl

theorem scAll_l (l : List Int) (hl : l.length ≤ 2147483647) (d : Nat) : ∀ i : Nat, l.length - i = d → ∃ r, Ev (fun k => spec_scAll.l0 k true l (l.length : Int) (i : Int)) r ∧ (r = true → ∀ x ∈ l.drop i, x ≠ 13) := by
  induction d with
  | zero =>
    intro i hi
    refine ⟨true, Ev.step (f := fun _ => some true) (fun k => ?_) (Ev.now _), fun _ x hx => ?_⟩
    · simp only [spec_scAll.l0]
      rw [if_neg (by omega)]
    · rw [List.drop_of_length_le (by omega)] at hx
      cases hx
  | succ d ih =>
    intro i hi
    have hlt : i < l.length := by omega
    obtain ⟨r, hr, h13⟩ := ih (i + 1) (by omega)
    obtain ⟨b, hb⟩ := cont_all l[i]
    have e1 : wrap64 ((i : Int) + 1) = ((i + 1 : Nat) : Int) := by unfold wrap64; omega
    have e2 : rd l (i : Int) = l[i] := by unfold rd; simp [hlt]
    have hd : l.drop i = l[i] :: l.drop (i + 1) := List.drop_eq_getElem_cons hlt
    obtain ⟨K, hK⟩ := hr
    cases b
    · by_cases h10 : l[i] = 10
      · refine ⟨r, ⟨K + 2, fun k hk => ?_⟩, fun he x hx => ?_⟩
        · obtain ⟨m, rfl⟩ : ∃ m, k = m + 2 := ⟨k - 2, by omega⟩
          simp only [spec_scAll.l0, e1, e2, hb]
          rw [if_pos (by omega), if_pos (by omega), if_pos (by omega)]
          simp only [Option.bind_some, Bool.false_eq_true, if_false, if_true, h10]
          exact hK (m + 1) (by omega)
        · rw [hd] at hx
          rcases List.mem_cons.1 hx with rfl | hx
          · omega
          · exact h13 he x hx
      · refine ⟨false, ⟨K + 2, fun k hk => ?_⟩, fun he => by cases he⟩
        obtain ⟨m, rfl⟩ : ∃ m, k = m + 2 := ⟨k - 2, by omega⟩
        simp only [spec_scAll.l0, e1, e2, hb]
        rw [if_pos (by omega), if_pos (by omega), if_pos (by omega)]
        simp only [Option.bind_some, Bool.false_eq_true, if_false, if_true, if_neg h10]
    · refine ⟨r, ⟨K + 2, fun k hk => ?_⟩, fun he x hx => ?_⟩
      · obtain ⟨m, rfl⟩ : ∃ m, k = m + 2 := ⟨k - 2, by omega⟩
        simp only [spec_scAll.l0, e1, e2, hb]
        rw [if_pos (by omega), if_pos (by omega), if_pos (by omega)]
        simp only [Option.bind_some, if_true]
        exact hK (m + 1) (by omega)
      · rw [hd] at hx
        rcases List.mem_cons.1 hx with rfl | hx
        · intro h
          rw [h] at hb
          have := (hb 0).symm.trans (cont_cr 0)
          cases this
        · exact h13 he x hx

theorem scAll_told (l : List Int) (hl : l.length ≤ 2147483647) : ∃ k r, spec_scAll.f k l true = some r ∧ (r = true → ∀ x ∈ l, x ≠ 13) := by
  obtain ⟨r, hr, h⟩ := scAll_l l hl _ 0 rfl
  obtain ⟨k, hk⟩ := hr.rounds
  exact ⟨k, r, hk, by simpa using h⟩

end Go.Proofs.YtbicbdcbbeifhaaDoor.MkP
