/- Plain facts behind FnBreakTold: how often a text stands in another one; what the reference writes for each line feed. -/
import Derived.Test.YtbicbdcbbeifhaaPFnBreakToldx1
namespace Go.Proofs.Ytbicbdcbbeifhaa.BrkP
open Go.RowKit Go.Proofs.Ytbicbdcbbeifhaa.PFnBreakTold Go.Proofs.YtbicbdcbbeifhaaW.PrintWords Go.Proofs.YtbicbdcbbeifhaaW.PrintLast Go.Proofs.YtbicbdcbbeifhaaW.PrintMore
set_option linter.unusedSimpArgs false
set_option linter.unusedVariables false

/-- How often sub stands in l, by at most so many looks. -/
def cntL (sub : List UInt8) : Nat → List UInt8 → Nat
  | 0, _ => 0
  | f + 1, l => if sub.length ≤ l.length then (if l.take sub.length = sub then 1 + cntL sub f (l.drop sub.length) else cntL sub f (l.drop 1)) else 0
def cnt (sub l : List UInt8) : Nat := cntL sub (l.length + 1) l

theorem cntL_enough (sub : List UInt8) (hs : 1 ≤ sub.length) : ∀ (f g : Nat) (l : List UInt8), l.length < f → l.length < g → cntL sub f l = cntL sub g l
  | 0, _, _, h, _ => by omega
  | _, 0, _, _, h => by omega
  | f + 1, g + 1, l, h, h' => by
    unfold cntL
    split
    · split
      · rw [cntL_enough sub hs f g _ (by simp; omega) (by simp; omega)]
      · rw [cntL_enough sub hs f g _ (by simp; omega) (by simp; omega)]
    · rfl

theorem cnt_yes (sub l : List UInt8) (hs : 1 ≤ sub.length) (h : sub.length ≤ l.length) (he : l.take sub.length = sub) : cnt sub l = 1 + cnt sub (l.drop sub.length) := by
  unfold cnt
  conv => lhs; unfold cntL
  rw [if_pos h, if_pos he, cntL_enough sub hs l.length ((l.drop sub.length).length + 1) _ (by simp; omega) (by omega)]
theorem cnt_no (sub l : List UInt8) (hs : 1 ≤ sub.length) (h : sub.length ≤ l.length) (he : ¬ l.take sub.length = sub) : cnt sub l = cnt sub (l.drop 1) := by
  unfold cnt
  conv => lhs; unfold cntL
  rw [if_pos h, if_neg he, cntL_enough sub hs l.length ((l.drop 1).length + 1) _ (by simp; omega) (by omega)]
theorem cnt_end (sub l : List UInt8) (h : ¬ sub.length ≤ l.length) : cnt sub l = 0 := by
  unfold cnt cntL
  rw [if_neg h]

theorem cnt_one (c : UInt8) (l : List UInt8) : cnt [c] l = l.count c := by
  induction l with
  | nil => rw [cnt_end _ _ (by simp)]; rfl
  | cons a l ih =>
    by_cases h : a = c
    · subst h
      rw [cnt_yes _ _ (by simp) (by simp) (by simp)]
      simp [ih]; omega
    · rw [cnt_no _ _ (by simp) (by simp) (by simp [h])]
      rw [List.count_cons_of_ne h]
      simpa using ih

/-- What stands for a byte. -/
def brk1 (b : Bool) (c : UInt8) : List UInt8 := if c = 10 then (if b then [13, 10] else [13]) else [c]
def brk (b : Bool) (l : List UInt8) : List UInt8 := l.flatMap (brk1 b)

theorem brk_cons (b : Bool) (c : UInt8) (l : List UInt8) : brk b (c :: l) = brk1 b c ++ brk b l := rfl

theorem count13_both (l : List UInt8) (h : ∀ c ∈ l, c ≠ 13) : (brk true l).count 13 = l.count 10 ∧ (brk true l).count 10 = l.count 10 ∧ cnt [13, 10] (brk true l) = l.count 10 := by
  induction l with
  | nil => exact ⟨rfl, rfl, by rw [show brk true [] = [] from rfl, cnt_end _ _ (by simp)]; rfl⟩
  | cons c l ih =>
    obtain ⟨i1, i2, i3⟩ := ih (fun x hx => h x (by simp [hx]))
    have hc := h c (by simp)
    rw [brk_cons]
    by_cases e : c = 10
    · subst e
      have eb : brk1 true 10 = [13, 10] := rfl
      rw [eb]
      refine ⟨?_, ?_, ?_⟩
      · simp [List.count_cons, i1]
      · simp [List.count_cons, i2]
      · rw [cnt_yes _ _ (by simp) (by simp) (by simp)]
        simp [i3]; omega
    · have eb : brk1 true c = [c] := by simp [brk1, e]
      rw [eb]
      refine ⟨?_, ?_, ?_⟩
      · simp [List.count_cons, i1, e, hc]
      · simp [List.count_cons, i2, e]
      · by_cases hl : 2 ≤ ([c] ++ brk true l).length
        · rw [cnt_no _ _ (by simp) (by simpa using hl) (by
            cases hb : brk true l with
            | nil => simp
            | cons x y => simp [hc])]
          simp [i3, e]
        · rw [cnt_end _ _ (by simpa using hl)]
          have : brk true l = [] := by
            have : (brk true l).length = 0 := by rw [List.length_append, List.length_singleton] at hl; omega
            exact List.length_eq_zero_iff.1 this
          rw [this] at i2
          simp at i2
          simp [e, ← i2]
theorem count13_one (l : List UInt8) (h : ∀ c ∈ l, c ≠ 13) : (brk false l).count 13 = l.count 10 ∧ (brk false l).count 10 = 0 := by
  induction l with
  | nil => exact ⟨rfl, rfl⟩
  | cons c l ih =>
    obtain ⟨i1, i2⟩ := ih (fun x hx => h x (by simp [hx]))
    have hc := h c (by simp)
    rw [brk_cons]
    by_cases e : c = 10
    · subst e
      have eb : brk1 false 10 = [13] := rfl
      rw [eb]
      constructor
      · simp [List.count_cons, i1]
      · simp [List.count_cons, i2]
    · have eb : brk1 false c = [c] := by simp [brk1, e]
      rw [eb]
      constructor
      · simp [List.count_cons, i1, e, hc]
      · simp [List.count_cons, i2, e]
theorem cnt_none (l : List UInt8) (h : l.count 10 = 0 ∨ l.count 13 = 0) : cnt [13, 10] l = 0 := by
  generalize hn : l.length = n
  induction n generalizing l with
  | zero => rw [cnt_end _ _ (by simp; omega)]
  | succ n ih =>
    cases l with
    | nil => simp at hn
    | cons c t =>
      by_cases hl : 2 ≤ (c :: t).length
      · have hne : ¬ (c :: t).take [(13 : UInt8), 10].length = [13, 10] := by
          intro he
          cases t with
          | nil => simp at he
          | cons d t =>
            simp at he
            obtain ⟨rfl, rfl⟩ := he
            rcases h with h | h <;> simp [List.count_cons] at h
        rw [cnt_no _ _ (by simp) (by simpa using hl) hne]
        refine ih _ ?_ (by simp at hn ⊢; omega)
        simp only [List.drop_succ_cons, List.drop_zero]
        rcases h with h | h
        · left; rw [List.count_cons] at h; omega
        · right; rw [List.count_cons] at h; omega
      · rw [cnt_end _ _ (by simpa using hl)]

/-! ### The printed functions -/
theorem bt_nat (s : ByteArray) (i : Nat) (h : i < s.size) : bt s (i : Int) = ((s[i]'h).toNat : Int) := by
  unfold bt
  simp [h]
theorem drop_at (s : ByteArray) (i : Nat) (h : i < s.size) : s.data.toList.drop i = s[i]'h :: s.data.toList.drop (i + 1) := by
  rw [List.drop_eq_getElem_cons (by simp [ByteArray.size_data]; omega)]
  rfl
theorem drop_all (s : ByteArray) (i : Nat) (h : ¬ i < s.size) : s.data.toList.drop i = [] :=
  List.drop_of_length_le (by rw [Array.length_toList, ByteArray.size_data]; omega)

theorem has_l1 (s sub : ByteArray) (hs : s.size ≤ 2147483647) (hb : sub.size ≤ 2147483647) (i : Nat) (hi : i < s.size) (r : Bool) (hr : Ev (fun k => spec_Has.l0 k s sub ((i + 1 : Nat) : Int)) r) (e : Nat) : ∀ j : Nat, sub.size - j = e →
    Ev (fun k => spec_Has.l1 k s sub (i : Int) (j : Int)) ((sub.data.toList.drop j).contains (s[i]'hi) || r) := by
  induction e with
  | zero =>
    intro j hj
    rw [drop_all sub j (by omega)]
    refine Ev.step (f := fun k => spec_Has.l0 k s sub ((i + 1 : Nat) : Int)) (fun k => ?_) hr
    simp only [spec_Has.l1]
    rw [if_neg (by omega), show wrap64 ((i : Int) + 1) = ((i + 1 : Nat) : Int) from by unfold wrap64; omega]
  | succ e ih =>
    intro j hj
    have hlt : j < sub.size := by omega
    rw [drop_at sub j hlt]
    by_cases he : s[i]'hi = sub[j]'hlt
    · refine Ev.step (f := fun _ => some true) (fun k => ?_) (by rw [List.contains_cons]; simp only [he, beq_self_eq_true, Bool.true_or]; exact Ev.now _)
      simp only [spec_Has.l1]
      rw [if_pos (by omega), if_pos (by omega), if_pos (by omega), if_pos (by omega), bt_nat s i hi, bt_nat sub j hlt, if_pos (by rw [he])]
    · refine Ev.step (f := fun k => spec_Has.l1 k s sub (i : Int) ((j + 1 : Nat) : Int)) (fun k => ?_) ?_
      · simp only [spec_Has.l1]
        rw [if_pos (by omega), if_pos (by omega), if_pos (by omega), if_pos (by omega), bt_nat s i hi, bt_nat sub j hlt, if_neg (fun h => he (UInt8.toNat_inj.1 (by omega))),
          show wrap64 ((j : Int) + 1) = ((j + 1 : Nat) : Int) from by unfold wrap64; omega]
      · have := ih (j + 1) (by omega)
        rw [List.contains_cons]
        have hf : (s[i]'hi == sub[j]'hlt) = false := by simpa using he
        rw [hf, Bool.false_or]
        exact this

theorem has_l0 (s sub : ByteArray) (hs : s.size ≤ 2147483647) (hb : sub.size ≤ 2147483647) (d : Nat) : ∀ i : Nat, s.size - i = d →
    Ev (fun k => spec_Has.l0 k s sub (i : Int)) ((s.data.toList.drop i).any fun c => sub.data.toList.contains c) := by
  induction d with
  | zero =>
    intro i hi
    rw [drop_all s i (by omega)]
    refine Ev.step (f := fun _ => some false) (fun k => ?_) (Ev.now _)
    simp only [spec_Has.l0]
    rw [if_neg (by omega)]
  | succ d ih =>
    intro i hi
    have hlt : i < s.size := by omega
    rw [drop_at s i hlt]
    refine Ev.step (f := fun k => spec_Has.l1 k s sub (i : Int) ((0 : Nat) : Int)) (fun k => ?_) ?_
    · simp only [spec_Has.l0]
      rw [if_pos (by omega)]
      rfl
    · have := has_l1 s sub hs hb i hlt _ (ih (i + 1) (by omega)) sub.size 0 (by omega)
      simpa using this

/-- The reference's Has. -/
theorem has_all (s sub : ByteArray) (hs : s.size ≤ 2147483647) (hb : sub.size ≤ 2147483647) : ∃ k, spec_Has.f k s sub = some (s.data.toList.any fun c => sub.data.toList.contains c) := by
  have := (has_l0 s sub hs hb s.size 0 (by omega)).rounds
  simpa [spec_Has.f] using this

def natsOf (l : List UInt8) : List Int := l.map fun b => (b.toNat : Int)

theorem broken_l (s : ByteArray) (hs : s.size ≤ 2147483647) (b : Bool) (d : Nat) : ∀ (i : Nat) (acc : List Int), s.size - i = d → acc.length ≤ 2 * i → i ≤ s.size →
    Ev (fun k => spec_Broken.l0 k s b acc (i : Int)) (strOfNums (acc ++ natsOf (brk b (s.data.toList.drop i)))) := by
  induction d with
  | zero =>
    intro i acc hi ha hl
    rw [drop_all s i (by omega)]
    refine Ev.step (f := fun _ => some (strOfNums acc)) (fun k => ?_) (by simp [brk, natsOf]; exact Ev.now _)
    simp only [spec_Broken.l0]
    rw [if_neg (by omega)]
  | succ d ih =>
    intro i acc hi ha hl
    have hlt : i < s.size := by omega
    have e1 : wrap64 ((i : Int) + 1) = ((i + 1 : Nat) : Int) := by unfold wrap64; omega
    rw [drop_at s i hlt, brk_cons]
    by_cases hc : s[i]'hlt = 10
    · have hn : bt s (i : Int) = 10 := by rw [bt_nat s i hlt, hc]; rfl
      cases b with
      | true =>
        have eb : brk1 true (s[i]'hlt) = [13, 10] := by rw [hc]; rfl
        refine Ev.step (f := fun k => spec_Broken.l0 k s true (acc ++ [13, 10]) ((i + 1 : Nat) : Int)) (fun k => ?_) ?_
        · simp only [spec_Broken.l0]
          rw [if_pos (by omega), if_pos (by omega), if_pos hn]
          simp only [if_true, Option.bind_some]
          rw [if_pos (by simp; omega), e1]
        · have := ih (i + 1) (acc ++ [13, 10]) (by omega) (by simp; omega) (by omega)
          rw [eb]
          simpa [natsOf] using this
      | false =>
        have eb : brk1 false (s[i]'hlt) = [13] := by rw [hc]; rfl
        refine Ev.step (f := fun k => spec_Broken.l0 k s false (acc ++ [13]) ((i + 1 : Nat) : Int)) (fun k => ?_) ?_
        · simp only [spec_Broken.l0]
          rw [if_pos (by omega), if_pos (by omega), if_pos hn]
          simp only [Bool.false_eq_true, if_false]
          rw [if_pos (by omega), e1]
        · have := ih (i + 1) (acc ++ [13]) (by omega) (by simp; omega) (by omega)
          rw [eb]
          simpa [natsOf] using this
    · have hn : ¬ bt s (i : Int) = 10 := by
        rw [bt_nat s i hlt]
        intro h
        exact hc (UInt8.toNat_inj.1 (by show _ = 10; omega))
      have eb : brk1 b (s[i]'hlt) = [s[i]'hlt] := by simp [brk1, hc]
      refine Ev.step (f := fun k => spec_Broken.l0 k s b (acc ++ [bt s (i : Int)]) ((i + 1 : Nat) : Int)) (fun k => ?_) ?_
      · simp only [spec_Broken.l0]
        rw [if_pos (by omega), if_pos (by omega), if_neg hn, if_pos (by omega), e1]
      · have := ih (i + 1) (acc ++ [bt s (i : Int)]) (by omega) (by simp; omega) (by omega)
        rw [eb]
        rw [bt_nat s i hlt] at this
        simpa [natsOf, bt_nat s i hlt] using this

theorem strOfNums_nats (l : List UInt8) : strOfNums (natsOf l) = ⟨l.toArray⟩ := by
  have : (natsOf l).map (fun n => UInt8.ofNat n.toNat) = l := by
    rw [natsOf, List.map_map]
    conv => rhs; rw [← List.map_id l]
    exact List.map_congr_left fun x _ => by simp
  unfold strOfNums
  rw [this]

/-- The reference's Broken. -/
theorem broken_all (s : ByteArray) (hs : s.size ≤ 2147483647) (b : Bool) : ∃ k, spec_Broken.f k s b = some ⟨(brk b s.data.toList).toArray⟩ := by
  have := (broken_l s hs b s.size 0 [] (by omega) (by simp) (by omega)).rounds
  simpa [spec_Broken.f, strOfNums_nats] using this

end Go.Proofs.Ytbicbdcbbeifhaa.BrkP
