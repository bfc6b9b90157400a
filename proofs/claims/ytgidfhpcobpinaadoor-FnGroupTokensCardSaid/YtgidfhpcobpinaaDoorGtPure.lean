/- FnGroupTokens: what the printed functions come to. -/
import Derived.Test.YtgidfhpcobpinaaDoorGtTree
import Derived.Test.YtgidfhpcobpinaaDoorGtHead
namespace Go.Proofs.YtgidfhpcobpinaaDoor.GtW
open Go.RowKit Go.Proofs.YtgidfhpcobpinaaDoor.PFnGroupTokens Go.Proofs.YtgidfhpcobpinaaDoorW.PrintWords Go.Proofs.YtgidfhpcobpinaaDoorW.PrintLast Go.Proofs.YtgidfhpcobpinaaDoorW.PrintMore
open Go.Proofs.YtgidfhpcobpinaaDoor.AddM Go.Proofs.YtgidfhpcobpinaaDoor.GtM
set_option linter.unusedSimpArgs false
set_option linter.unusedVariables false

/-- A token of the law, by its number. -/
def TokS (s : S29) (j : Nat) : Prop := Okt s.f0 ∧ (s.f0 = 15 → s.f3 = ⟨#[33, 116]⟩) ∧ s.f6 = ⟨1, (j : Int) + 1, (j : Int) + 1, 0, 0⟩ ∧ s.f7 = (j : Int) - 1 ∧ s.f8 = (j : Int) + 1

def types14 : List Int := [31, 5, 3, 13, 14, 15, 18, 19, 26, 22, 7, 31, 5, 31]
theorem types_at : ∀ q : Fin 14, 0 ≤ rd types14 (q.val : Int) ∧ rd types14 (q.val : Int) < 33 ∧ (rd types14 (q.val : Int) = 31 ∨ rd types14 (q.val : Int) = 5 ∨ rd types14 (q.val : Int) = 3 ∨ rd types14 (q.val : Int) = 13 ∨ rd types14 (q.val : Int) = 14 ∨ rd types14 (q.val : Int) = 15 ∨ rd types14 (q.val : Int) = 18 ∨ rd types14 (q.val : Int) = 19 ∨ rd types14 (q.val : Int) = 26 ∨ rd types14 (q.val : Int) = 22 ∨ rd types14 (q.val : Int) = 7) := by decide

theorem wrap_small {x : Int} (h0 : -1000 ≤ x) (h1 : x ≤ 1000) : wrap64 x = x := by unfold wrap64; omega

theorem tr_loop (x0 : List Int) (x4 : List ByteArray) (hb : ∀ z ∈ x0, 0 ≤ z ∧ z < 256) (h4 : x4.length = 33) (h15 : rdOf ByteArray.empty x4 15 = ⟨#[33, 116]⟩) :
    ∀ (n i : Nat) (x3 : List S29), n + i = 16 → x3.length = i → (∀ j s, x3[j]? = some s → TokS s j) → ∃ r, laws_trTokens.l0 (n + 1) x0 x3 x4 (i : Int) = some r ∧ r.length ≤ 16 ∧ ∀ j s, r[j]? = some s → TokS s j := by
  intro n
  induction n with
  | zero =>
    intro i x3 hi hl hI
    obtain rfl : i = 16 := by omega
    refine ⟨x3, ?_, by omega, hI⟩
    unfold laws_trTokens.l0
    by_cases h : ((16 : Nat) : Int) < (x0.length : Int)
    · rw [if_pos h, if_neg (by omega)]
    · rw [if_neg h]
  | succ n ih =>
    intro i x3 hi hl hI
    unfold laws_trTokens.l0
    by_cases h : (i : Int) < (x0.length : Int)
    · have hz : 0 ≤ rd x0 (i : Int) ∧ rd x0 (i : Int) < 256 := by
        have hlt : i < x0.length := by omega
        have e : rd x0 (i : Int) = x0[i] := by simp [rd, hlt]
        rw [e]
        exact hb _ (List.getElem_mem _)
      have e1 : wrap64 (rd x0 (i : Int)) = rd x0 (i : Int) := by unfold wrap64; omega
      have hq0 : 0 ≤ Int.tmod (rd x0 (i : Int)) 14 := Int.tmod_nonneg _ hz.1
      have hq1 : Int.tmod (rd x0 (i : Int)) 14 < 14 := by rw [Int.tmod_eq_emod_of_nonneg hz.1]; omega
      obtain ⟨q, hq⟩ : ∃ q : Fin 14, Int.tmod (rd x0 (i : Int)) 14 = (q.val : Int) := ⟨⟨(Int.tmod (rd x0 (i : Int)) 14).toNat, by omega⟩, by show _ = (((Int.tmod (rd x0 (i : Int)) 14).toNat : Nat) : Int); omega⟩
      obtain ⟨t0, t1, t2⟩ := types_at q
      have hTok : TokS (⟨rd types14 (q.val : Int), 0, 0, rdOf ByteArray.empty x4 (rd types14 (q.val : Int)), rdOf ByteArray.empty x4 (rd types14 (q.val : Int)), (⟨#[]⟩ : ByteArray), ⟨1, (i : Int) + 1, (i : Int) + 1, 0, 0⟩, (i : Int) - 1, (i : Int) + 1⟩ : S29) i := ⟨t2, fun h => by show rdOf ByteArray.empty x4 (rd types14 (q.val : Int)) = _; rw [show rd types14 (q.val : Int) = 15 from h]; exact h15, rfl, rfl, rfl⟩
      obtain ⟨r, hr, h1, h2⟩ := ih (i + 1) (x3 ++ [(⟨rd types14 (q.val : Int), 0, 0, rdOf ByteArray.empty x4 (rd types14 (q.val : Int)), rdOf ByteArray.empty x4 (rd types14 (q.val : Int)), (⟨#[]⟩ : ByteArray), ⟨1, (i : Int) + 1, (i : Int) + 1, 0, 0⟩, (i : Int) - 1, (i : Int) + 1⟩ : S29)]) (by omega) (by simp [hl]) (fun j s hj => by
        by_cases hji : j < x3.length
        · rw [List.getElem?_append_left hji] at hj; exact hI j s hj
        · rw [List.getElem?_append_right (by omega)] at hj
          have hj0 : j - x3.length = 0 := by
            by_cases h0 : j - x3.length = 0
            · exact h0
            · rw [List.getElem?_eq_none (by simp; omega)] at hj; cases hj
          rw [hj0] at hj
          simp only [List.getElem?_cons_zero, Option.some.injEq] at hj
          subst hj
          obtain rfl : j = i := by omega
          exact hTok)
      refine ⟨r, ?_, h1, h2⟩
      rw [if_pos h, if_pos (by omega)]
      simp only [Option.bind_some]
      rw [show ([31, 5, 3, 13, 14, 15, 18, 19, 26, 22, 7, 31, 5, 31] : List Int) = types14 from rfl, e1, hq]
      rw [if_pos (by omega), if_pos (by omega), if_pos (by show (q.val : Int) < 14; omega), if_pos t0, if_pos (by omega), if_pos (by omega)]
      rw [show wrap64 (1 + (i : Int)) = (i : Int) + 1 by rw [wrap_small (by omega) (by omega)]; omega, show wrap64 ((i : Int) - 1) = (i : Int) - 1 from wrap_small (by omega) (by omega), show wrap64 ((i : Int) + 1) = (i : Int) + 1 from wrap_small (by omega) (by omega)]
      rw [show ((i : Int) + 1) = ((i + 1 : Nat) : Int) by omega] at hr ⊢
      exact hr
    · rw [if_neg h]
      exact ⟨x3, rfl, by omega, hI⟩

theorem tr_any (l : List Int) (hb : ∀ z ∈ l, 0 ≤ z ∧ z < 256) : ∃ r, laws_trTokens.f 17 l = some r ∧ r.length ≤ 16 ∧ ∀ j s, r[j]? = some s → TokS s j := by
  unfold laws_trTokens.f
  exact tr_loop l _ hb rfl rfl 16 0 [] rfl rfl (fun j s h => by simp at h)

def ints (l : List Nat) : List Int := l.map Int.ofNat

theorem counted_loop (n : Nat) (x0 : List Int) (hn : n ≤ 1000) : ∀ (m i : Nat), m + i = n → laws_trCounted.l0 (m + 1) x0 (n : Int) (ints (List.range n)) (n : Int) (i : Int) = some ((x0.length : Int) == (n : Int)) := by
  intro m
  induction m with
  | zero =>
    intro i hi
    unfold laws_trCounted.l0
    rw [if_neg (by omega)]
  | succ m ih =>
    intro i hi
    unfold laws_trCounted.l0
    have hl : (ints (List.range n)).length = n := by simp [ints]
    have hr : rd (ints (List.range n)) (i : Int) = (i : Int) := by
      have hin : i < n := by omega
      simp [rd, ints, hin]
    rw [if_pos (by omega), if_pos (by omega), if_pos (by rw [hl]; omega), hr, if_pos rfl, wrap_small (by omega) (by omega)]
    exact ih (i + 1) (by omega)
theorem counted_any (n : Nat) (hn : n ≤ 1000) : laws_trCounted.f (n + 1) (ints (List.range n)) (n : Int) = some true := by
  unfold laws_trCounted.f
  have hl : (ints (List.range n)).length = n := by simp [ints]
  have := counted_loop n (ints (List.range n)) hn n 0 (by omega)
  rw [hl] at this ⊢
  exact this.trans (by simp)

/-- What stands in a group. -/
def kids : Tr → List Tr
  | .leaf _ => []
  | .node _ ks => ks
def own1 : Tr → List Int
  | .leaf i => [(i : Int)]
  | .node _ _ => []
theorem s66_kids : ∀ t : Tr, (s66 t).f3 = s66s (kids t)
  | .leaf i => rfl
  | .node ty ks => rfl
theorem ints_yield : ∀ t : Tr, ints (yield t) = own1 t ++ ints (yields (kids t))
  | .leaf i => rfl
  | .node ty ks => rfl
theorem yields_kids_le : ∀ t : Tr, (yields (kids t)).length ≤ (yield t).length
  | .leaf i => by simp [kids, yields]
  | .node ty ks => Nat.le_refl _
theorem s66s_at : ∀ (ts : List Tr) (j : Nat) (t : Tr), ts[j]? = some t → rd_T66 (s66s ts) (j : Int) = s66 t
  | [], j, t, h => by simp at h
  | x :: ts, 0, t, h => by simp only [List.getElem?_cons_zero, Option.some.injEq] at h; subst h; rfl
  | x :: ts, j + 1, t, h => by
    have := s66s_at ts j t (by simpa using h)
    simpa [rd_T66, s66s] using this

theorem grouped_loop (ts : List Tr) (K : Nat) (hl : ts.length ≤ 1000) (hy : (yields ts).length ≤ 1000) (hk : ∀ t ∈ ts, ∀ k, K ≤ k → spec_Grouped.f k (s66s (kids t)) = some (ints (yields (kids t)))) :
    ∀ (n j k : Nat), n + j = ts.length → K + n + 1 ≤ k → spec_Grouped.l0 k (ints (yields (ts.take j))) (s66s ts) (ts.length : Int) (j : Int) = some (ints (yields ts)) := by
  intro n
  induction n with
  | zero =>
    intro j k hj hk'
    obtain ⟨k, rfl⟩ : ∃ m, k = m + 1 := ⟨k - 1, by omega⟩
    unfold spec_Grouped.l0
    rw [if_neg (by omega), List.take_of_length_le (by omega)]
  | succ n ih =>
    intro j k hj hk'
    obtain ⟨k, rfl⟩ : ∃ m, k = m + 1 := ⟨k - 1, by omega⟩
    obtain ⟨t, ht⟩ : ∃ t, ts[j]? = some t := ⟨_, List.getElem?_eq_getElem (by omega)⟩
    have hmem := List.mem_of_getElem? ht
    have hI := ih (j + 1) k (by omega) (by omega)
    have hsn : ints (yields (ts.take (j + 1))) = ints (yields (ts.take j)) ++ own1 t ++ ints (yields (kids t)) := by
      rw [take_snoc ts j t ht, yields_append, yields_one, ints, List.map_append, List.append_assoc]
      congr 1
      exact ints_yield t
    have hle : (ints (yields (ts.take (j + 1)))).length ≤ 1000 := by
      have e : yields ts = yields (ts.take (j + 1)) ++ yields (ts.drop (j + 1)) := by rw [← yields_append, List.take_append_drop]
      rw [e, List.length_append] at hy
      simp only [ints, List.length_map]
      omega
    rw [hsn, List.length_append, List.length_append] at hle
    have hf := hk t hmem k (by omega)
    unfold spec_Grouped.l0
    rw [if_pos (by omega), if_pos (by omega), if_pos (by rw [s66s_length]; omega), s66s_at ts j t ht, s66_kids, hf, wrap_small (by omega) (by omega)]
    rw [hsn] at hI
    rw [show ((j : Int) + 1) = ((j + 1 : Nat) : Int) by omega]
    cases t with
    | leaf i =>
      rw [if_pos (by show (0 : Int) ≤ (i : Int); omega), if_pos (by omega)]
      simp only [Option.bind_some]
      have h1 : (ints (yields (ts.take j)) ++ [(s66 (.leaf i)).f1]).length + (ints (yields (kids (.leaf i)))).length < 17592186044416 := by
        rw [List.length_append]
        show (ints (yields (ts.take j))).length + (own1 (.leaf i)).length + _ < _
        omega
      rw [if_pos h1]
      exact hI
    | node ty ks =>
      rw [if_neg (by show ¬ (-1 : Int) ≥ 0; omega)]
      simp only [Option.bind_some]
      rw [if_pos (by omega)]
      have e : ints (yields (ts.take j)) ++ own1 (.node ty ks) = ints (yields (ts.take j)) := List.append_nil _
      rw [e] at hI
      exact hI

theorem grouped_any : ∀ (N : Nat) (ts : List Tr), cnts ts < N → ts.length ≤ 1000 → Smalls ts → (yields ts).length ≤ 1000 → ∃ K, ∀ k, K ≤ k → spec_Grouped.f k (s66s ts) = some (ints (yields ts)) := by
  intro N
  induction N with
  | zero => intro ts h; omega
  | succ N ih =>
    intro ts hN hl hs hy
    have hK : ∀ us : List Tr, (∀ u ∈ us, u ∈ ts) → ∃ K, ∀ t ∈ us, ∀ k, K ≤ k → spec_Grouped.f k (s66s (kids t)) = some (ints (yields (kids t))) := by
      intro us
      induction us with
      | nil => intro _; exact ⟨0, fun t ht => by cases ht⟩
      | cons u us ihu =>
        intro hus
        obtain ⟨K1, h1⟩ := ihu fun x hx => hus x (List.mem_cons_of_mem _ hx)
        have hu := hus u (List.mem_cons_self ..)
        have hsu := smalls_at ts hs u hu
        have hyu : (yield u).length ≤ 1000 := by
          obtain ⟨j, hj⟩ := List.getElem?_of_mem hu
          have hjl := (List.getElem?_eq_some_iff.1 hj).1
          have e : yields ts = yields (ts.take (j + 1)) ++ yields (ts.drop (j + 1)) := by rw [← yields_append, List.take_append_drop]
          rw [take_snoc ts j u hj, yields_append, yields_one] at e
          rw [e] at hy
          simp only [List.length_append] at hy
          omega
        have hcu := cnt_at ts u hu
        obtain ⟨K2, h2⟩ : ∃ K, ∀ k, K ≤ k → spec_Grouped.f k (s66s (kids u)) = some (ints (yields (kids u))) := by
          cases u with
          | leaf i =>
            refine ⟨2, fun k hk => ?_⟩
            obtain ⟨k, rfl⟩ : ∃ m, k = m + 1 + 1 := ⟨k - 2, by omega⟩
            rfl
          | node ty ks =>
            exact ih ks (by simp only [cnt] at hcu; omega) hsu.1 hsu.2 hyu
        refine ⟨K1 + K2, fun t ht k hk => ?_⟩
        rcases List.mem_cons.1 ht with rfl | ht
        · exact h2 k (by omega)
        · exact h1 t ht k (by omega)
    obtain ⟨K, hK⟩ := hK ts fun _ h => h
    refine ⟨K + ts.length + 2, fun k hk => ?_⟩
    obtain ⟨k, rfl⟩ : ∃ m, k = m + 1 := ⟨k - 1, by omega⟩
    have := grouped_loop ts K hl hy hK ts.length 0 k (by omega) (by omega)
    unfold spec_Grouped.f
    rw [s66s_length]
    exact this

end Go.Proofs.YtgidfhpcobpinaaDoor.GtW
