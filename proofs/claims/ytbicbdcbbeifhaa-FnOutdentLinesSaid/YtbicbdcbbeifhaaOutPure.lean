/- Plain facts behind FnOutdentLines: lines, spaces ahead of them, and what the printed functions answer. -/
import Derived.Test.YtbicbdcbbeifhaaOutHas
import Derived.Lib.Join
namespace Go.Proofs.Ytbicbdcbbeifhaa.OutP
open Go.RowKit Go.Proofs.Ytbicbdcbbeifhaa.PFnOutdentLines Go.Proofs.YtbicbdcbbeifhaaW.PrintWords Go.Proofs.YtbicbdcbbeifhaaW.PrintLast Go.Proofs.YtbicbdcbbeifhaaW.PrintMore
open Go.Proofs.Ytbicbdcbbeifhaa.OutH
set_option linter.unusedSimpArgs false
set_option linter.unusedVariables false

/-! ### Lines -/
def spl : List UInt8 → List UInt8 × List (List UInt8)
  | [] => ([], [])
  | c :: t => if c = 10 then ([], (spl t).1 :: (spl t).2) else (c :: (spl t).1, (spl t).2)
def lines (l : List UInt8) : List (List UInt8) := (spl l).1 :: (spl l).2
/-- A line without up to so many spaces ahead. -/
def trim : Nat → List UInt8 → List UInt8
  | 0, l => l
  | _ + 1, [] => []
  | k + 1, c :: t => if c = 32 then trim k t else c :: t
/-- What the reference makes: so many spaces may still go. -/
def cut (n : Nat) : Nat → List UInt8 → List UInt8
  | _, [] => []
  | left, c :: t => if c = 32 ∧ 0 < left then cut n (left - 1) t else c :: cut n (if c = 10 then n else 0) t

theorem trim_zero (l : List UInt8) : trim 0 l = l := by cases l <;> rfl
theorem trim_nil (k : Nat) : trim k [] = [] := by cases k <;> rfl
theorem trim_le (k : Nat) (l : List UInt8) : (trim k l).length ≤ l.length := by
  induction k generalizing l with
  | zero => rw [trim_zero]; omega
  | succ k ih =>
    cases l with
    | nil => simp [trim]
    | cons c t =>
      simp only [trim]
      split
      · have := ih t; simp; omega
      · simp

theorem join_cons2 (x : List UInt8) (y : List UInt8) (r : List (List UInt8)) (sep : List UInt8) : Lib.join (x :: y :: r) sep = x ++ (sep ++ Lib.join (y :: r) sep) := by
  rw [Lib.join_cons, Lib.join_cons]
  simp [Lib.joinTail]

theorem join_head (c : UInt8) (x : List UInt8) (r : List (List UInt8)) (sep : List UInt8) : Lib.join ((c :: x) :: r) sep = c :: Lib.join (x :: r) sep := by
  rw [Lib.join_cons, Lib.join_cons]
  rfl

theorem cut_lines (n : Nat) (l : List UInt8) : ∀ left, Lib.join (trim left (spl l).1 :: (spl l).2.map (trim n)) [10] = cut n left l := by
  induction l with
  | nil => intro left; simp [spl, trim_nil, Lib.join_one, cut]
  | cons c t ih =>
    intro left
    by_cases h : c = 10
    · subst h
      simp only [spl, if_true, List.map_cons, trim_nil]
      rw [join_cons2, ih n]
      simp [cut]
    · simp only [spl, if_neg h]
      by_cases hs : c = 32 ∧ 0 < left
      · obtain ⟨rfl, hl⟩ := hs
        obtain ⟨k, rfl⟩ : ∃ k, left = k + 1 := ⟨left - 1, by omega⟩
        simp only [trim, if_true]
        rw [ih k]
        simp [cut]
      · have ht : trim left (c :: (spl t).1) = c :: (spl t).1 := by
          cases left with
          | zero => rfl
          | succ k =>
            simp only [trim]
            rw [if_neg (fun e => hs ⟨e, by omega⟩)]
        rw [ht, join_head]
        have := ih 0
        rw [trim_zero] at this
        rw [this]
        simp only [cut, if_neg hs, if_neg h]

theorem cut_all (n : Nat) (l : List UInt8) : Lib.join ((lines l).map (trim n)) [10] = cut n n l := cut_lines n l n

theorem cut_zero (l : List UInt8) : cut 0 0 l = l := by
  induction l with
  | nil => rfl
  | cons c t ih => simp [cut, ih]

theorem spl_none (l : List UInt8) (h : ∀ c ∈ l, c ≠ 10) : spl l = (l, []) := by
  induction l with
  | nil => rfl
  | cons c t ih =>
    rw [spl, if_neg (h c (by simp)), ih (fun x hx => h x (by simp [hx]))]

theorem lines_none (l : List UInt8) (h : ∀ c ∈ l, c ≠ 10) : lines l = [l] := by unfold lines; rw [spl_none l h]
theorem lines_at (a b : List UInt8) (h : ∀ c ∈ a, c ≠ 10) : lines (a ++ 10 :: b) = a :: lines b := by
  unfold lines
  induction a with
  | nil => simp [spl]
  | cons c t ih =>
    have := ih (fun x hx => h x (by simp [hx]))
    simp only [List.cons.injEq] at this
    simp only [List.cons_append, spl, if_neg (h c (by simp))]
    simp [this]

theorem lines_len (l : List UInt8) : (lines l).length ≤ l.length + 1 ∧ ∀ x ∈ lines l, x.length ≤ l.length := by
  unfold lines
  induction l with
  | nil => simp [spl]
  | cons c t ih =>
    simp only [spl]
    split
    · obtain ⟨h1, h2⟩ := ih
      constructor
      · simp at h1 ⊢; omega
      · intro x hx
        rcases List.mem_cons.1 hx with rfl | hx
        · simp
        · have := h2 x hx; simp; omega
    · obtain ⟨h1, h2⟩ := ih
      constructor
      · simp at h1 ⊢; omega
      · intro x hx
        rcases List.mem_cons.1 hx with rfl | hx
        · have := h2 _ (List.mem_cons_self); simp; omega
        · have := h2 x (List.mem_cons_of_mem _ hx); simp; omega

theorem cut_le (n : Nat) (l : List UInt8) : ∀ left, (cut n left l).length ≤ l.length := by
  induction l with
  | nil => intro left; simp [cut]
  | cons c t ih =>
    intro left
    simp only [cut]
    split
    · have := ih (left - 1); simp; omega
    · have := ih (if c = 10 then n else 0); simp; omega

/-! ### The printed functions -/
theorem w64 (n : Nat) (h : n ≤ 9223372036854775807) : wrap64 (n : Int) = (n : Int) := by unfold wrap64; omega

/-- sub stands in s at place j. -/
def hit (s sub : ByteArray) (j : Nat) : Prop := (s.extract j (j + sub.size)).toList = sub.toList

theorem idx_step (s sub : ByteArray) (hs : s.size ≤ 4294967296) (hb : sub.size ≤ 4294967296) (i : Nat) (hi : i + sub.size ≤ s.size) (k : Nat) :
    format_zzIndex.l0 (k + 1) s sub (i : Int) = if (s.extract i (i + sub.size)).toList = sub.toList then some (i : Int) else format_zzIndex.l0 k s sub ((i + 1 : Nat) : Int) := by
  have e1 : wrap64 ((i : Int) + (sub.size : Int)) = ((i + sub.size : Nat) : Int) := by unfold wrap64; omega
  have e2 : wrap64 ((i : Int) + 1) = ((i + 1 : Nat) : Int) := by unfold wrap64; omega
  simp only [format_zzIndex.l0, e1, e2]
  rw [if_pos (by omega), if_pos (by omega), if_pos (by omega), Int.toNat_natCast, Int.toNat_natCast]

theorem idx_over (s sub : ByteArray) (hs : s.size ≤ 4294967296) (hb : sub.size ≤ 4294967296) (i : Nat) (hi : ¬ i + sub.size ≤ s.size) (hi' : i ≤ s.size + 1) (k : Nat) : format_zzIndex.l0 (k + 1) s sub (i : Int) = some (-1) := by
  have e1 : wrap64 ((i : Int) + (sub.size : Int)) = ((i + sub.size : Nat) : Int) := by unfold wrap64; omega
  simp only [format_zzIndex.l0, e1]
  rw [if_neg (by omega)]

theorem idx_none (s sub : ByteArray) (hs : s.size ≤ 4294967296) (hb0 : 1 ≤ sub.size) (hb : sub.size ≤ 4294967296) (d : Nat) : ∀ i : Nat, s.size + 1 - i = d → i ≤ s.size + 1 → (∀ j, i ≤ j → j + sub.size ≤ s.size → ¬ hit s sub j) →
    Ev (fun k => format_zzIndex.l0 k s sub (i : Int)) (-1) := by
  induction d with
  | zero =>
    intro i hi hl h
    exact Ev.step (f := fun _ => some (-1)) (fun k => idx_over s sub hs hb i (by omega) hl k) (Ev.now _)
  | succ d ih =>
    intro i hi hl h
    by_cases hc : i + sub.size ≤ s.size
    · refine Ev.step (f := fun k => format_zzIndex.l0 k s sub ((i + 1 : Nat) : Int)) (fun k => ?_) (ih (i + 1) (by omega) (by omega) (fun j hj => h j (by omega)))
      have hx : ¬ (s.extract i (i + sub.size)).toList = sub.toList := h i (Nat.le_refl _) hc
      rw [idx_step s sub hs hb i hc k, if_neg hx]
    · exact Ev.step (f := fun _ => some (-1)) (fun k => idx_over s sub hs hb i hc hl k) (Ev.now _)

theorem idx_some (s sub : ByteArray) (hs : s.size ≤ 4294967296) (hb : sub.size ≤ 4294967296) (p : Nat) (hp : p + sub.size ≤ s.size) (hh : hit s sub p) (d : Nat) : ∀ i : Nat, p - i = d → i ≤ p → (∀ j, i ≤ j → j < p → ¬ hit s sub j) →
    Ev (fun k => format_zzIndex.l0 k s sub (i : Int)) (p : Int) := by
  induction d with
  | zero =>
    intro i hi hl h
    obtain rfl : i = p := by omega
    refine Ev.step (f := fun _ => some (i : Int)) (fun k => ?_) (Ev.now _)
    have hx : (s.extract i (i + sub.size)).toList = sub.toList := hh
    rw [idx_step s sub hs hb i hp k, if_pos hx]
  | succ d ih =>
    intro i hi hl h
    refine Ev.step (f := fun k => format_zzIndex.l0 k s sub ((i + 1 : Nat) : Int)) (fun k => ?_) (ih (i + 1) (by omega) (by omega) (fun j hj => h j (by omega)))
    have hx : ¬ (s.extract i (i + sub.size)).toList = sub.toList := h i (Nat.le_refl _) (by omega)
    rw [idx_step s sub hs hb i (by omega) k, if_neg hx]

theorem toList_of (l : List UInt8) : (⟨l.toArray⟩ : ByteArray).toList = l := by rw [ByteArray.toList_eq]
theorem cutAt (s : ByteArray) (k m : Nat) : (s.extract k (k + m)).toList = (s.data.toList.drop k).take m := by
  rw [ByteArray.toList_eq, ByteArray.data_extract, Array.toList_extract, List.extract_eq_take_drop]
  congr 1; omega
theorem len_data (s : ByteArray) : s.data.toList.length = s.size := by rw [Array.length_toList, ByteArray.size_data]

theorem hit_one (s : ByteArray) (c : UInt8) (j : Nat) : hit s ⟨#[c]⟩ j ↔ s.data.toList[j]? = some c := by
  unfold hit
  have e : (⟨#[c]⟩ : ByteArray).size = 1 := rfl
  rw [e, cutAt, toList_of]
  constructor
  · intro h
    have := congrArg (·[0]?) h
    simpa [List.getElem?_take, List.getElem?_drop] using this
  · intro h
    have hlt := (List.getElem?_eq_some_iff.1 h).1
    rw [List.drop_eq_getElem_cons hlt, (List.getElem?_eq_some_iff.1 h).2]
    rfl

/-- A carriage return stands nowhere: nothing is found that holds one. -/
theorem idx_cr (s sub : ByteArray) (hs : s.size ≤ 4294967296) (hb0 : 1 ≤ sub.size) (hb : sub.size ≤ 4294967296) (h13 : ∀ c ∈ s.data.toList, c ≠ 13) (hm : (13 : UInt8) ∈ sub.data.toList) : Ev (fun k => format_zzIndex.f k s sub) (-1) := by
  refine idx_none s sub hs hb0 hb _ 0 rfl (by omega) ?_
  intro j _ _ hh
  unfold hit at hh
  rw [cutAt, ByteArray.toList_eq] at hh
  rw [← hh] at hm
  exact h13 13 (List.mem_of_mem_drop (List.mem_of_mem_take hm)) rfl

theorem same_str (s : ByteArray) : strOfNums (([] : List Int) ++ bytesOf s) = s := by
  have : (bytesOf s).map (fun n => UInt8.ofNat n.toNat) = s.data.toList := by
    rw [bytesOf, List.map_map]
    conv => rhs; rw [← List.map_id s.data.toList]
    exact List.map_congr_left fun x _ => by simp
  unfold strOfNums
  rw [List.nil_append, this]

/-- Without a carriage return nothing is replaced. -/
theorem replace_cr (s sub new : ByteArray) (hs : s.size ≤ 2147483647) (hb0 : 1 ≤ sub.size) (hb : sub.size ≤ 4294967296) (h13 : ∀ c ∈ s.data.toList, c ≠ 13) (hm : (13 : UInt8) ∈ sub.data.toList) : Ev (fun k => format_zzReplaceAll.f k s sub new) s := by
  obtain ⟨K, hK⟩ := idx_cr s sub (by omega) hb0 hb h13 hm
  refine ⟨K + 1, fun k hk => ?_⟩
  obtain ⟨m, rfl⟩ : ∃ m, k = m + 1 := ⟨k - 1, by omega⟩
  have hf : format_zzIndex.f m s sub = some (-1) := hK m (by omega)
  simp only [format_zzReplaceAll.f, format_zzReplaceAll.l0]
  rw [hf]
  simp only [Option.bind_some]
  rw [if_pos (by decide), if_pos (by simp; omega), same_str]

theorem normal_all (s : ByteArray) (hs : s.size ≤ 2147483647) (h13 : ∀ c ∈ s.data.toList, c ≠ 13) : ∃ k, format_normalizeNewLineChars.f k s = some s := by
  have := (replace_cr s ⟨#[13, 10]⟩ ⟨#[10]⟩ hs (by decide) (by decide) h13 (by simp)).bind (f := fun n a => (format_zzReplaceAll.f n a (⟨#[13]⟩ : ByteArray) (⟨#[10]⟩ : ByteArray)).bind fun t119 => some t119)
    ((replace_cr s ⟨#[13]⟩ ⟨#[10]⟩ hs (by decide) (by decide) h13 (by simp)).bind (f := fun _ a => some a) (Ev.now _))
  exact this.rounds

def mk (l : List UInt8) : ByteArray := ⟨l.toArray⟩
theorem mk_data (s : ByteArray) : mk s.data.toList = s := by cases s; simp [mk]
theorem mk_size (l : List UInt8) : (mk l).size = l.length := by show l.toArray.size = _; simp

theorem extract_mk (l : List UInt8) (a b : Nat) : (mk l).extract a b = mk ((l.drop a).take (b - a)) := by
  unfold mk
  apply ByteArray.ext
  rw [ByteArray.data_extract]
  apply Array.ext'
  rw [Array.toList_extract, List.extract_eq_take_drop]

theorem split_l (n : Nat) : ∀ (l : List UInt8) (acc : List ByteArray), l.length = n → acc.length + n ≤ 4294967296 → Ev (fun k => format_zzSplit.l0 k (mk l) ⟨#[10]⟩ acc) (acc ++ (lines l).map mk) := by
  induction n using Nat.strongRecOn with
  | ind n ih =>
    intro l acc hn hb
    have hsz : (mk l).size = l.length := mk_size l
    have hdat : (mk l).data.toList = l := by simp [mk]
    by_cases h : (10 : UInt8) ∈ l
    · obtain ⟨a, b, rfl, ha⟩ : ∃ a b, l = a ++ 10 :: b ∧ ∀ c ∈ a, c ≠ 10 := by
        have := List.append_of_mem h
        clear ih hn hb hsz hdat
        induction l with
        | nil => simp at h
        | cons c t ih2 =>
          by_cases e : c = 10
          · subst e; exact ⟨[], t, rfl, by simp⟩
          · have ht : (10 : UInt8) ∈ t := by
              rcases List.mem_cons.1 h with e' | h'
              · exact absurd e'.symm e
              · exact h'
            obtain ⟨a, b, rfl, ha⟩ := ih2 ht (List.append_of_mem ht)
            exact ⟨c :: a, b, rfl, fun x hx => by
              rcases List.mem_cons.1 hx with rfl | hx
              · exact e
              · exact ha x hx⟩
      have hlen : a.length + (b.length + 1) = n := by simpa using hn
      have hhit : hit (mk (a ++ 10 :: b)) ⟨#[10]⟩ a.length := by
        rw [hit_one, hdat]; simp
      have hno : ∀ j, 0 ≤ j → j < a.length → ¬ hit (mk (a ++ 10 :: b)) ⟨#[10]⟩ j := by
        intro j _ hj hh
        rw [hit_one, hdat, List.getElem?_append_left hj] at hh
        exact ha _ (List.mem_of_getElem? hh) rfl
      have e1 : (⟨#[10]⟩ : ByteArray).size = 1 := rfl
      obtain ⟨K, hK⟩ := idx_some (mk (a ++ 10 :: b)) ⟨#[10]⟩ (by rw [hsz]; omega) (by rw [e1]; omega) a.length (by rw [hsz, e1]; omega) hhit _ 0 rfl (by omega) hno
      obtain ⟨K', hK'⟩ := ih b.length (by omega) b (acc ++ [mk a]) rfl (by simp; omega)
      refine ⟨max K K' + 1, fun k hk => ?_⟩
      obtain ⟨m, rfl⟩ : ∃ m, k = m + 1 := ⟨k - 1, by omega⟩
      have hf : format_zzIndex.f m (mk (a ++ 10 :: b)) ⟨#[10]⟩ = some (a.length : Int) := hK m (by omega)
      have e2 : wrap64 ((a.length : Int) + ((⟨#[10]⟩ : ByteArray).size : Int)) = ((a.length + 1 : Nat) : Int) := by rw [e1]; unfold wrap64; omega
      simp only [format_zzSplit.l0, hf, Option.bind_some, e2]
      have hs' : (mk (a ++ 10 :: b)).size = a.length + (b.length + 1) := by rw [hsz]; simp
      rw [if_neg (by omega), if_pos (by omega), if_pos (by omega), if_pos (by omega), if_pos (by omega), if_pos (by omega), Int.toNat_natCast, Int.toNat_natCast, hs', extract_mk, extract_mk]
      have d1 : ((a ++ 10 :: b).drop (a.length + 1)).take (a.length + (b.length + 1) - (a.length + 1)) = b := by
        rw [List.drop_append, List.drop_of_length_le (by omega), List.nil_append, show a.length + 1 - a.length = 1 from by omega]
        rw [List.take_of_length_le (by simp; omega)]
        rfl
      have d2 : ((a ++ 10 :: b).drop 0).take (a.length - 0) = a := by simp
      have hK'' : format_zzSplit.l0 m (mk b) ⟨#[10]⟩ (acc ++ [mk a]) = some (acc ++ [mk a] ++ (lines b).map mk) := hK' m (by omega)
      rw [d1, d2, hK'', lines_at a b ha]
      simp
    · have hne : ∀ c ∈ l, c ≠ 10 := fun c hc e => h (e ▸ hc)
      obtain ⟨K, hK⟩ := idx_none (mk l) ⟨#[10]⟩ (by rw [hsz]; omega) (by decide) (by decide) _ 0 rfl (by omega) (by
        intro j _ _ hh
        rw [hit_one, hdat] at hh
        exact hne _ (List.mem_of_getElem? hh) rfl)
      refine ⟨K + 1, fun k hk => ?_⟩
      obtain ⟨m, rfl⟩ : ∃ m, k = m + 1 := ⟨k - 1, by omega⟩
      have hf : format_zzIndex.f m (mk l) ⟨#[10]⟩ = some (-1) := hK m (by omega)
      simp only [format_zzSplit.l0, hf, Option.bind_some]
      rw [if_pos (by decide), if_pos (by omega), lines_none l hne]
      rfl

theorem split_all (s : ByteArray) (hs : s.size ≤ 2147483647) : ∃ k, format_zzSplit.f k s ⟨#[10]⟩ = some ((lines s.data.toList).map mk) := by
  have := (split_l s.size s.data.toList [] (len_data s) (by simp; omega)).rounds
  rw [mk_data] at this
  simpa [format_zzSplit.f] using this

theorem cut_l (s : ByteArray) (n : Nat) (hs : s.size ≤ 2147483647) (hn : n ≤ 200) (d : Nat) : ∀ (i left : Nat) (acc : List Int), s.size - i = d → i ≤ s.size → left ≤ 200 → acc.length ≤ i →
    Ev (fun k => spec_Cut.l0 k s (n : Int) acc (left : Int) (i : Int)) (strOfNums (acc ++ (cut n left (s.data.toList.drop i)).map fun b => (b.toNat : Int))) := by
  induction d with
  | zero =>
    intro i left acc hi hl hle ha
    rw [drop_all s i (by omega)]
    refine Ev.step (f := fun _ => some (strOfNums acc)) (fun k => ?_) (by simp [cut]; exact Ev.now _)
    simp only [spec_Cut.l0]
    rw [if_neg (by omega)]
  | succ d ih =>
    intro i left acc hi hl hle ha
    have hlt : i < s.size := by omega
    have e1 : wrap64 ((i : Int) + 1) = ((i + 1 : Nat) : Int) := by unfold wrap64; omega
    rw [drop_at s i hlt]
    by_cases hc : s[i]'hlt = 32 ∧ 0 < left
    · obtain ⟨h32, hpos⟩ := hc
      have hn32 : bt s (i : Int) = 32 := by rw [bt_nat s i hlt, h32]; rfl
      have e2 : wrap64 ((left : Int) - 1) = ((left - 1 : Nat) : Int) := by unfold wrap64; omega
      refine Ev.step (f := fun k => spec_Cut.j1 k s (n : Int) acc (left : Int) (i : Int) true) (fun k => ?_) (Ev.step (f := fun k => spec_Cut.l0 k s (n : Int) acc ((left - 1 : Nat) : Int) ((i + 1 : Nat) : Int)) (fun k => ?_) ?_)
      · simp only [spec_Cut.l0]
        have : decide ((left : Int) > 0) = true := by simp; omega
        rw [if_pos (by omega), if_pos (by omega), if_pos hn32, this]
      · simp only [spec_Cut.j1, if_true, e1, e2]
      · simp only [cut]
        rw [if_pos ⟨h32, hpos⟩]
        exact ih (i + 1) (left - 1) acc (by omega) (by omega) (by omega) (by omega)
    · have hstep : ∀ k, spec_Cut.l0 (k + 1) s (n : Int) acc (left : Int) (i : Int) = spec_Cut.j1 k s (n : Int) acc (left : Int) (i : Int) false := by
        intro k
        simp only [spec_Cut.l0]
        rw [if_pos (by omega), if_pos (by omega)]
        by_cases h32 : bt s (i : Int) = 32
        · have : ¬ 0 < left := by
            intro hp
            refine hc ⟨?_, hp⟩
            rw [bt_nat s i hlt] at h32
            exact UInt8.toNat_inj.1 (by show _ = 32; omega)
          have hd : decide ((left : Int) > 0) = false := by simp; omega
          rw [if_pos h32, hd]
        · rw [if_neg h32]
      refine Ev.step hstep ?_
      simp only [cut]
      rw [if_neg hc]
      by_cases h10 : s[i]'hlt = 10
      · have hn10 : bt s (i : Int) = 10 := by rw [bt_nat s i hlt, h10]; rfl
        refine Ev.step (f := fun k => spec_Cut.l0 k s (n : Int) (acc ++ [bt s (i : Int)]) (n : Int) ((i + 1 : Nat) : Int)) (fun k => ?_) ?_
        · simp only [spec_Cut.j1, Bool.false_eq_true, if_false]
          rw [if_pos (by omega), if_pos (by omega), if_pos hn10, if_pos (by omega), e1]
        · have := ih (i + 1) n (acc ++ [bt s (i : Int)]) (by omega) (by omega) (by omega) (by simp; omega)
          rw [if_pos h10]
          simpa [bt_nat s i hlt] using this
      · have hn10 : ¬ bt s (i : Int) = 10 := by
          rw [bt_nat s i hlt]
          intro h
          exact h10 (UInt8.toNat_inj.1 (by show _ = 10; omega))
        refine Ev.step (f := fun k => spec_Cut.l0 k s (n : Int) (acc ++ [bt s (i : Int)]) ((0 : Nat) : Int) ((i + 1 : Nat) : Int)) (fun k => ?_) ?_
        · simp only [spec_Cut.j1, Bool.false_eq_true, if_false]
          rw [if_pos (by omega), if_pos (by omega), if_neg hn10, if_pos (by omega), e1]
          rfl
        · have := ih (i + 1) 0 (acc ++ [bt s (i : Int)]) (by omega) (by omega) (by omega) (by simp; omega)
          rw [if_neg h10]
          simpa [bt_nat s i hlt] using this

theorem strOf (l : List UInt8) : strOfNums (l.map fun b => (b.toNat : Int)) = mk l := by
  have : (l.map fun b => (b.toNat : Int)).map (fun n => UInt8.ofNat n.toNat) = l := by
    rw [List.map_map]
    conv => rhs; rw [← List.map_id l]
    exact List.map_congr_left fun x _ => by simp
  unfold strOfNums mk
  rw [this]

theorem cut_told (s : ByteArray) (n : Nat) (hs : s.size ≤ 2147483647) (hn : n ≤ 200) : ∃ k, spec_Cut.f k s (n : Int) = some (mk (cut n n s.data.toList)) := by
  have := (cut_l s n hs hn s.size 0 n [] (by omega) (by omega) hn (by simp)).rounds
  simpa [spec_Cut.f, strOf] using this

end Go.Proofs.Ytbicbdcbbeifhaa.OutP
