/- FnGroupTokens: the row and its card: true for every slice of bytes: the tokens that a parser groups are all there once, in their order. Conditions: what the row lists (three package-level errors hold what the program's text lays), which the card ties to the text. -/
import Derived.Test.YtgidfhpcobpinaaDoorCards
import Derived.Test.YtgidfhpcobpinaaDoorTie
import Derived.Test.YtgidfhpcobpinaaDoorGtLaw
import Derived.Lib.LaidIn
import Derived.PinnedBridge
import Derived.Deep.DeepHandedRow
import Derived.Deep.DeepWitnessRowRef
import Derived.WalkKit
import Derived.ProofKit
import Derived.OpenShut
import Derived.SizedLaws
import Derived.SevenTiedAt
import Derived.ChangeSame
import Derived.ChangeVars
import Derived.RowKitTokens
import Derived.LaidLaws
namespace Go.Proofs.YtgidfhpcobpinaaDoor.fnGroupTokens
open Go.ChangeShapes Go.WideShapes Go.ChangeAt Go.RowKit Go.Lib
open Go.ChangeMaps (open_string shut_string)
set_option linter.unusedVariables false

theorem own : ownKnob Tryd.prog.godebug = none := by kernel_rfl
theorem laidOut : laidOutB Tryd.prog = true := by kernel_rfl
abbrev nQ : String := "given.example/pub-palinode/pub/goccyyaml.ErrInvalidQuery"
abbrev nP : String := "given.example/pub-palinode/pub/goccyyaml.ErrInvalidPathString"
abbrev nN : String := "given.example/pub-palinode/pub/goccyyaml.ErrNotFoundNode"
theorem gQ : Tryd.prog.globalNamed nQ = some 0 := by kernel_rfl
theorem gP : Tryd.prog.globalNamed nP = some 1 := by kernel_rfl
theorem gN : Tryd.prog.globalNamed nN = some 2 := by kernel_rfl
theorem tQ : (Tryd.prog.globals[0]?).map (·.type) = some 59 := by kernel_rfl
theorem tP : (Tryd.prog.globals[1]?).map (·.type) = some 59 := by kernel_rfl
theorem tN : (Tryd.prog.globals[2]?).map (·.type) = some 59 := by kernel_rfl

/-- What the condition gives: each variable holds an error. -/
theorem vars_of_laid {W : World} (h : laidMet Tryd.prog Rows.fnGroupTokensRow.laid W) :
    ∃ (u0 : TypeId) (v0 : Value) (u1 : TypeId) (v1 : Value) (u2 : TypeId) (v2 : Value), W.var? Tryd.prog nQ = some #[.iface u0 v0] ∧ W.var? Tryd.prog nP = some #[.iface u1 v1] ∧ W.var? Tryd.prog nN = some #[.iface u2 v2] := by
  obtain ⟨ps, ⟨g1, t1, cs1, f1, p1, q1, hg1, ht1, hv1, hd1, ⟨g0, t0, cs0, f0, p0, q0, hg0, ht0, hv0, hd0, ⟨g2, t2, cs2, f2, p2, q2, hg2, ht2, hv2, hd2, hq2, e2⟩, e0⟩, e1⟩, hnd, hrows⟩ := h
  obtain rfl := Option.some.inj (gP.symm.trans hg1)
  obtain rfl := Option.some.inj (gQ.symm.trans hg0)
  obtain rfl := Option.some.inj (gN.symm.trans hg2)
  obtain rfl := Option.some.inj (tP.symm.trans ht1)
  obtain rfl := Option.some.inj (tQ.symm.trans ht0)
  obtain rfl := Option.some.inj (tN.symm.trans ht2)
  obtain ⟨l0⟩ := cs0
  obtain ⟨l1⟩ := cs1
  obtain ⟨l2⟩ := cs2
  obtain ⟨_, u0, v0, rfl, _, _⟩ := iface_of_trod Tryd.underlying59 hd0
  obtain ⟨_, u1, v1, rfl, _, _⟩ := iface_of_trod Tryd.underlying59 hd1
  obtain ⟨_, u2, v2, rfl, _, _⟩ := iface_of_trod Tryd.underlying59 hd2
  exact ⟨u0, v0, u1, v1, u2, v2, hv0, hv1, hv2⟩

theorem vars_read {H : Type} (enc : TypeId × Value → H) {W : World} {x0 x1 x2 : Value} (h0 : W.var? Tryd.prog nQ = some #[x0]) (h1 : W.var? Tryd.prog nP = some #[x1]) (h2 : W.var? Tryd.prog nN = some #[x2]) (i0 : IsIface x0) (i1 : IsIface x1) (i2 : IsIface x2) (sp : Nat → Bool) :
    DataW.TrodVars enc Tryd.prog W sp [nQ, nP, nN] [tok enc x0, tok enc x1, tok enc x2] [.cell 0 0, .cell 1 0, .cell 2 0] :=
  ⟨0, 59, #[x0], 1, [], [.cell 1 0, .cell 2 0], gQ, tQ, h0, trod_held Tryd.underlying59 i0 0, ⟨1, 59, #[x1], 1, [], [.cell 2 0], gP, tP, h1, trod_held Tryd.underlying59 i1 0, ⟨2, 59, #[x2], 1, [], [], gN, tN, h2, trod_held Tryd.underlying59 i2 0, rfl, rfl⟩, rfl⟩, rfl⟩

theorem var_below {W W' : World} {n : String} {cs : Array Value} (hb : Below W.heap.size W W') (h : W.var? Tryd.prog n = some cs) : W'.var? Tryd.prog n = some cs := by
  unfold World.var? at h ⊢
  cases hg : Tryd.prog.globalNamed n with
  | none => simp [hg] at h
  | some g =>
    simp only [hg, Option.bind_some] at h ⊢
    have hlt : g < W.heap.size := by
      rcases Nat.lt_or_ge g W.heap.size with h' | h'
      · exact h'
      · simp [Array.getElem?_eq_none h'] at h
    rw [hb.block g hlt]
    exact h

abbrev sQ : ByteArray := { data := #[105, 110, 118, 97, 108, 105, 100, 32, 113, 117, 101, 114, 121] }
abbrev sP : ByteArray := { data := #[105, 110, 118, 97, 108, 105, 100, 32, 112, 97, 116, 104, 32, 115, 116, 114, 105, 110, 103] }
abbrev sN : ByteArray := { data := #[110, 111, 100, 101, 32, 110, 111, 116, 32, 102, 111, 117, 110, 100] }
noncomputable def low : Nat := (World.holding Tryd.prog default ⟨#[], #[], []⟩).heap.size

/-- The witness: the settled world, the variables holding what their initialisers lay. -/
noncomputable def laidWorld (os : Os) : World :=
  let w0 := World.holding Tryd.prog os ⟨#[.cells #[.string sQ] 163, .cells #[.string sP] 163, .cells #[.string sN] 163], #[], []⟩
  let put (h : Array Obj) (g : Nat) (cs : Array Value) : Array Obj := h.modify g fun
    | .cells _ t frozen => .cells cs t frozen
    | o => o
  let h1 := put w0.heap 0 #[.iface 145 (.pointer (some ⟨low, 0, none⟩))]
  let h2 := put h1 1 #[.iface 145 (.pointer (some ⟨low + 1, 0, none⟩))]
  let h3 := put h2 2 #[.iface 145 (.pointer (some ⟨low + 2, 0, none⟩))]
  { w0 with heap := h3 }
theorem laid_met (os : Os) (args : Array Value) : laidMet Tryd.prog Rows.fnGroupTokensRow.laid ((laidWorld os).forCall (fun _ _ => 0) ⟨#[], args, []⟩).memory :=
  laidMet_of_run (ps := [.cell 1 0, .cell (low + 1) 0, .cell 0 0, .cell low 0, .cell 2 0, .cell (low + 2) 0]) 8 (by kernel_rfl) (by kernel_rfl) (by kernel_rfl)

theorem witness_row (os : Os) {H : Type} (enc : TypeId × Value → H) :
    (OpenSpec.ofChange Rows.fnGroupTokensSpec).preRow enc Tryd.prog Tryd.f4 Rows.fnGroupTokensRow.domain false Rows.fnGroupTokensRow.laid ((laidWorld os).forCall (fun _ _ => 0) ⟨#[], #[.slice none 0 0], []⟩).memory #[.slice none 0 0] := by
  have hw : (DataW.whole enc Tryd.prog ((laidWorld os).forCall (fun _ _ => 0) ⟨#[], #[.slice none 0 0], []⟩).memory Tryd.f4.params.toList Rows.fnGroupTokensSpec.vars false #[Value.slice none 0 0].toList 8).map (fun x => (x.1, x.2.1)) =
      some ([.nil], [.held (enc (145, .pointer (some ⟨low, 0, none⟩))), .held (enc (145, .pointer (some ⟨low + 1, 0, none⟩))), .held (enc (145, .pointer (some ⟨low + 2, 0, none⟩)))]) := by kernel_rfl
  obtain ⟨⟨x1, x2, x3⟩, hx, hx1⟩ := Option.map_eq_some_iff.1 hw
  simp only [Prod.mk.injEq] at hx1
  obtain ⟨rfl, rfl⟩ := hx1
  exact OpenSpec.preRow_of_cond 8 hx (by kernel_rfl) (fun k hk => by cases hk) (by kernel_rfl) (laid_met os _)

set_option maxRecDepth 100000 in
set_option maxHeartbeats 2000000 in
theorem lifted (os : Os) (started : os.Started) (H : Type) (enc : TypeId × Value → H) (F : Stop.Interp) :
    ReturnsInHanded {} Tryd.checked os 4 .any ((OpenSpec.ofChange Rows.fnGroupTokensSpec).preRow enc Tryd.prog Tryd.f4 Rows.fnGroupTokensRow.domain false Rows.fnGroupTokensRow.laid) (((OpenSpec.ofChange Rows.fnGroupTokensSpec).at F).post enc Tryd.prog Tryd.f4 false true false false) := by
  refine returnsInHanded_of_row (C := Tryd.checked) (s := OpenSpec.ofChange Rows.fnGroupTokensSpec) own started (by kernel_rfl) Tryd.func4
    (witness_row_atRef (enc := enc) (C := Tryd.checked) false (laidWorld os) #[.slice none 0 0] rfl (by kernel_rfl) (by kernel_rfl) (by kernel_rfl) (witness_row os enc)) ?_
  intro W base args ds gs before hval0 hW _ _ _ hL _ _
  have hval : ∀ (j : Nat) t v, Tryd.f4.params[j]? = some t → args[j]? = some v → Value.okWide Tryd.prog W .any base t v := hval0
  have hW' := hW
  obtain ⟨p, q, hA0, hV0, rfl, _, _⟩ := hW
  have hA : DataW.TrodAll enc Tryd.prog W 0 (fun _ => true) true Tryd.f4.params.toList args.toList ds p := hA0
  have hV : DataW.TrodVars enc Tryd.prog W (fun _ => true) [nQ, nP, nN] gs q := hV0
  rw [Tryd.params4] at hA hval
  obtain ⟨v0, vs0, d0, ds0, p0, q0, hargs, rfl, rfl, h0, r0⟩ := trodAll_cons hA
  obtain ⟨rfl, rfl, rfl⟩ := trodAll_nil r0
  obtain rfl : args = #[v0] := by cases args; simp_all
  obtain ⟨u0, y0, u1, y1, u2, y2, hv0, hv1, hv2⟩ := vars_of_laid hL
  obtain ⟨rfl, rfl⟩ := hV.unique (vars_read enc hv0 hv1 hv2 trivial trivial trivial _)
  obtain ⟨a0, len0, cap0, rfl⟩ := okWide_slice Tryd.underlying33 (hval 0 33 v0 rfl rfl)
  have k0 := h0
  have lt0 : ∀ x ∈ p0, x.block < W.heap.size := by obtain ⟨m, hm⟩ := k0; exact DataW.trod_lt m _ _ _ hm
  obtain ⟨z0, w0⟩ : ∃ zs, GtW.IsRow8 W a0 len0 cap0 zs := by
    obtain ⟨fuel, hf⟩ := h0
    rcases open_ints Tryd.underlying33 Tryd.underlying5 (by kernel_rfl) hf with ⟨hcs, _⟩ | ⟨x, l, c, zs, hcs, _, hl, hm, hz, _, hcell, hwz⟩
    · simp [Value.cells] at hcs
      obtain ⟨rfl, rfl, rfl⟩ := hcs
      exact ⟨[], .inl ⟨rfl, rfl, rfl, rfl⟩⟩
    · simp [Value.cells] at hcs
      obtain ⟨rfl, rfl, rfl⟩ := hcs
      exact ⟨zs, .inr ⟨_, rfl, hl, hm, by simpa using hz, hcell, hwz⟩⟩
  clear hA0 hV0 hval0
  refine (GtW.law_any a0 len0 cap0 z0 W w0).mono ?_
  rintro e W' ⟨rfl, bel⟩
  have e1 : ((OpenSpec.ofChange Rows.fnGroupTokensSpec).at F).fn H ([d0] ++ [tok enc (.iface u0 y0), tok enc (.iface u1 y1), tok enc (.iface u2 y2)]) = { results := [.lit (.bool true)], args := [d0], vars := [tok enc (.iface u0 y0), tok enc (.iface u1 y1), tok enc (.iface u2 y2)] } := rfl
  refine ⟨_, rfl, _, _, _, [], p0 ++ [], [.cell 0 0, .cell 1 0, .cell 2 0], hW', ?_, ?_, ?_, bel.frame _, fun h => by cases h⟩
  · rw [e1]; exact trodAll_mk1 (shut_bool Tryd.underlying4 _)
  · rw [e1]; exact trodAll_cons_mk (Below.trod laidOut (by kernel_rfl) (of_decide_eq_true (by kernel_rfl)) k0 bel lt0) trodAll_mk0
  · rw [e1]; exact vars_read enc (var_below bel hv0) (var_below bel hv1) (var_below bel hv2) trivial trivial trivial _

theorem said : Rows.FnGroupTokensSaid :=
  OpenClaim.holds_of_cond 4 Tryd.f4 rfl rfl rfl rfl rfl rfl rfl ⟨rfl, rfl, rfl, rfl, rfl⟩ rfl rfl rfl rfl rfl (by kernel_rfl) Tryd.func4 (by kernel_rfl)
    (of_decide_eq_true (by kernel_rfl)) (by unfold Func.isWrapper; first | (rw [if_pos (by decide +kernel)]; kernel_rfl) | (rw [if_neg (by decide +kernel)]; exact ⟨rfl, rfl⟩))
    (fun os started H enc _ F => by rw [OpenClaim.pre_eq_preRow]; exact lifted os started H enc F)

/-- No parameter wants a stand-in; the program's own looks are off. -/
theorem plain (f : FuncId) (fn : Func) (hf : Tryd.pinned.checked.prog.funcNamed "given.example/pub-palinode/laws.FnGroupTokens" = some f) (hfn : Tryd.pinned.checked.prog.funcs[f]? = some fn) :
    true = Tryd.pinned.checked.prog.looks [] ∧ ∀ (j : Nat) t, fn.params[j]? = some t → Tryd.pinned.checked.prog.wantsStandIn t = false := by
  obtain rfl : f = 4 := Option.some.inj ((show Tryd.prog.funcNamed "given.example/pub-palinode/laws.FnGroupTokens" = some 4 by kernel_rfl).symm.trans hf) |>.symm
  obtain rfl : fn = Tryd.f4 := (Option.some.inj (Tryd.func4.symm.trans hfn)).symm
  refine ⟨by kernel_rfl, fun j t ht => ?_⟩
  rw [Tryd.params4] at ht
  have hm : t = 33 := by simpa using Array.mem_of_getElem? ht
  subst hm
  exact (show Tryd.prog.wantsStandIn 33 = false by kernel_rfl)

/-- The card. -/
theorem card : Rows.FnGroupTokensCardSaid :=
  Claim7.holds_tied_plain_at .later [] _ _ _ _ said (fun _ h => by cases h) (by kernel_rfl) (fun _ h => by cases h) fnGroupTokens_row_tie rfl ⟨rfl, rfl⟩ (by kernel_rfl) rfl plain (by kernel_rfl)
#print axioms card
end Go.Proofs.YtgidfhpcobpinaaDoor.fnGroupTokens
namespace Go.Proofs.YtgidfhpcobpinaaDoor
/-- The card, under a short name, for the claim. -/
theorem fnGroupTokens_holds : Rows.FnGroupTokensCardSaid := fnGroupTokens.card
end Go.Proofs.YtgidfhpcobpinaaDoor
