/- FnPathQuoted: the row and its card: true for every two strings and every bool: a key with a point or a star in it stands between quotes in a path, and is read back so. Conditions: what the row lists (three tables and five package-level errors hold what the program's text lays), which the card ties to the text. -/
import Derived.Test.YtjdfcokeejmmeaaGreatDoorCards
import Derived.Test.YtjdfcokeejmmeaaGreatDoorTie
import Derived.Test.YtjdfcokeejmmeaaGreatDoorPqLaw
import Derived.Lib.LaidIn
import Derived.Lib.LaidU8
import Derived.ShutString
import Derived.PinnedBridge
import Derived.Deep.DeepHandedRow
import Derived.Deep.DeepWitnessRowRef
import Derived.WalkKit
import Derived.ProofKit
import Derived.OpenShut
import Derived.SizedLaws
import Derived.SevenTiedAt
import Derived.ChangeSame
import Derived.ChangeVars
import Derived.RowKitTokens
import Derived.LaidLaws
namespace Go.Proofs.YtjdfcokeejmmeaaGreatDoor.fnPathQuoted
open Go.ChangeShapes Go.WideShapes Go.ChangeAt Go.RowKit Go.Lib
open Go.ChangeMaps (open_string shut_string)
set_option linter.unusedVariables false

theorem own : ownKnob Tryz.prog.godebug = none := by kernel_rfl
theorem laidOut : laidOutB Tryz.prog = true := by kernel_rfl
abbrev nP : String := "given.example/pub-palinode/pub/goccyyaml.ErrInvalidPathString"
abbrev nQ : String := "given.example/pub-palinode/pub/goccyyaml.ErrInvalidQuery"
abbrev nN : String := "given.example/pub-palinode/pub/goccyyaml.ErrNotFoundNode"
theorem gP : Tryz.prog.globalNamed nP = some 0 := by kernel_rfl
theorem gQ : Tryz.prog.globalNamed nQ = some 1 := by kernel_rfl
theorem gN : Tryz.prog.globalNamed nN = some 2 := by kernel_rfl
theorem tP : (Tryz.prog.globals[0]?).map (·.type) = some 40 := by kernel_rfl
theorem tQ : (Tryz.prog.globals[1]?).map (·.type) = some 40 := by kernel_rfl
theorem tN : (Tryz.prog.globals[2]?).map (·.type) = some 40 := by kernel_rfl

theorem iface_var {W : World} {n : String} {g : Nat} {name : String} {d : DataW Unit} (hg : Tryz.prog.globalNamed n = some g) (ht : (Tryz.prog.globals[g]?).map (·.type) = some 40) (h : VarReads Tryz.prog W n (.iface name d)) : ∃ (u : TypeId) (v : Value), W.var? Tryz.prog n = some #[.iface u v] := by
  obtain ⟨g', t, cs, fuel, p, h1, h2, h3, h4⟩ := h
  obtain rfl := Option.some.inj (hg.symm.trans h1)
  obtain rfl := Option.some.inj (ht.symm.trans h2)
  obtain ⟨l⟩ := cs
  obtain ⟨_, u, v, rfl, _, _⟩ := iface_of_trod Tryz.underlying40 h4
  exact ⟨u, v, h3⟩

/-- What the condition gives: each variable holds an error. -/
theorem vars_of_laid {W : World} (h : laidMet Tryz.prog Rows.fnPathQuotedRow.laid W) :
    ∃ (u0 : TypeId) (v0 : Value) (u1 : TypeId) (v1 : Value) (u2 : TypeId) (v2 : Value), W.var? Tryz.prog nP = some #[.iface u0 v0] ∧ W.var? Tryz.prog nQ = some #[.iface u1 v1] ∧ W.var? Tryz.prog nN = some #[.iface u2 v2] := by
  obtain ⟨u0, v0, h0⟩ := iface_var gP tP (Lib.laidMet.reads h (.tail _ (.tail _ (.tail _ (.tail _ (.tail _ (.head _)))))))
  obtain ⟨u1, v1, h1⟩ := iface_var gQ tQ (Lib.laidMet.reads h (.tail _ (.tail _ (.tail _ (.tail _ (.tail _ (.tail _ (.head _))))))))
  obtain ⟨u2, v2, h2⟩ := iface_var gN tN (Lib.laidMet.reads h (.tail _ (.tail _ (.tail _ (.tail _ (.tail _ (.tail _ (.tail _ (.head _)))))))))
  exact ⟨u0, v0, u1, v1, u2, v2, h0, h1, h2⟩

theorem vars_read {H : Type} (enc : TypeId × Value → H) {W : World} {x0 x1 x2 : Value} (h0 : W.var? Tryz.prog nP = some #[x0]) (h1 : W.var? Tryz.prog nQ = some #[x1]) (h2 : W.var? Tryz.prog nN = some #[x2]) (i0 : IsIface x0) (i1 : IsIface x1) (i2 : IsIface x2) (sp : Nat → Bool) :
    DataW.TrodVars enc Tryz.prog W sp [nP, nQ, nN] [tok enc x0, tok enc x1, tok enc x2] [.cell 0 0, .cell 1 0, .cell 2 0] :=
  ⟨0, 40, #[x0], 1, [], [.cell 1 0, .cell 2 0], gP, tP, h0, trod_held Tryz.underlying40 i0 0, ⟨1, 40, #[x1], 1, [], [.cell 2 0], gQ, tQ, h1, trod_held Tryz.underlying40 i1 0, ⟨2, 40, #[x2], 1, [], [], gN, tN, h2, trod_held Tryz.underlying40 i2 0, rfl, rfl⟩, rfl⟩, rfl⟩

theorem var_below {W W' : World} {n : String} {cs : Array Value} (hb : Below W.heap.size W W') (h : W.var? Tryz.prog n = some cs) : W'.var? Tryz.prog n = some cs := by
  unfold World.var? at h ⊢
  cases hg : Tryz.prog.globalNamed n with
  | none => simp [hg] at h
  | some g =>
    simp only [hg, Option.bind_some] at h ⊢
    have hlt : g < W.heap.size := by
      rcases Nat.lt_or_ge g W.heap.size with h' | h'
      · exact h'
      · simp [Array.getElem?_eq_none h'] at h
    rw [hb.block g hlt]
    exact h

abbrev sP : ByteArray := { data := #[105, 110, 118, 97, 108, 105, 100, 32, 112, 97, 116, 104, 32, 115, 116, 114, 105, 110, 103] }
abbrev sQ : ByteArray := { data := #[105, 110, 118, 97, 108, 105, 100, 32, 113, 117, 101, 114, 121] }
abbrev sN : ByteArray := { data := #[110, 111, 100, 101, 32, 110, 111, 116, 32, 102, 111, 117, 110, 100] }
abbrev sS : ByteArray := { data := #[105, 110, 118, 97, 108, 105, 100, 32, 115, 121, 110, 116, 97, 120] }
abbrev sR : ByteArray := { data := #[118, 97, 108, 117, 101, 32, 111, 117, 116, 32, 111, 102, 32, 114, 97, 110, 103, 101] }
noncomputable def low : Nat := (World.holding Tryz.prog default ⟨#[], #[], []⟩).heap.size

def litOf : DataW Unit → Value
  | .lit (.int k n) => .int k n
  | _ => .nilFunc
def cellsOf : DataW Unit → Array Value
  | .agg l => (l.map litOf).toArray
  | _ => #[]

/-- The witness: the settled world, the variables holding what their initialisers lay. -/
noncomputable def laidWorld (os : Os) : World :=
  let w0 := World.holding Tryz.prog os ⟨#[.cells #[.string sP] 116, .cells #[.string sQ] 116, .cells #[.string sN] 116, .cells #[.string sS] 116, .cells #[.string sR] 116], #[], []⟩
  let put (h : Array Obj) (g : Nat) (cs : Array Value) : Array Obj := h.modify g fun
    | .cells _ t frozen => .cells cs t frozen
    | o => o
  let h1 := put w0.heap 0 #[.iface 114 (.pointer (some ⟨low, 0, none⟩))]
  let h2 := put h1 1 #[.iface 114 (.pointer (some ⟨low + 1, 0, none⟩))]
  let h3 := put h2 2 #[.iface 114 (.pointer (some ⟨low + 2, 0, none⟩))]
  let h4 := put h3 3 #[.iface 114 (.pointer (some ⟨low + 3, 0, none⟩))]
  let h5 := put h4 4 #[.iface 114 (.pointer (some ⟨low + 4, 0, none⟩))]
  let h6 := put h5 5 (cellsOf Rows.laid_internal_strconv_uint64pow10)
  let h7 := put h6 6 (cellsOf Rows.laid_math_bits_deBruijn32tab)
  let h8 := put h7 7 (cellsOf Rows.laid_math_bits_deBruijn64tab)
  { w0 with heap := h8 }
theorem laid_met (os : Os) (args : Array Value) : laidMet Tryz.prog Rows.fnPathQuotedRow.laid ((laidWorld os).forCall (fun _ _ => 0) ⟨#[], args, []⟩).memory :=
  (LaidIn.of_run (l := Rows.fnPathQuotedRow.laid) [0, 1, 2, 3, 4, 5, 6, 7, low, low + 1, low + 2, low + 3, low + 4] 8 (by kernel_rfl) (by kernel_rfl) (by kernel_rfl) (by kernel_rfl)).met

theorem witness_row (os : Os) {H : Type} (enc : TypeId × Value → H) :
    (OpenSpec.ofChange Rows.fnPathQuotedSpec).preRow enc Tryz.prog Tryz.f3 Rows.fnPathQuotedRow.domain false Rows.fnPathQuotedRow.laid ((laidWorld os).forCall (fun _ _ => 0) ⟨#[], #[.string ByteArray.empty, .string ByteArray.empty, .bool false], []⟩).memory #[.string ByteArray.empty, .string ByteArray.empty, .bool false] := by
  have hw : (DataW.whole enc Tryz.prog ((laidWorld os).forCall (fun _ _ => 0) ⟨#[], #[.string ByteArray.empty, .string ByteArray.empty, .bool false], []⟩).memory Tryz.f3.params.toList Rows.fnPathQuotedSpec.vars false #[Value.string ByteArray.empty, .string ByteArray.empty, .bool false].toList 8).map (fun x => (x.1, x.2.1)) =
      some ([.lit (.string []), .lit (.string []), .lit (.bool false)], [.held (enc (114, .pointer (some ⟨low, 0, none⟩))), .held (enc (114, .pointer (some ⟨low + 1, 0, none⟩))), .held (enc (114, .pointer (some ⟨low + 2, 0, none⟩)))]) := by kernel_rfl
  obtain ⟨⟨x1, x2, x3⟩, hx, hx1⟩ := Option.map_eq_some_iff.1 hw
  simp only [Prod.mk.injEq] at hx1
  obtain ⟨rfl, rfl⟩ := hx1
  exact OpenSpec.preRow_of_cond 8 hx (by kernel_rfl) (fun k hk => by cases hk) (by kernel_rfl) (laid_met os _)

set_option maxRecDepth 100000 in
set_option maxHeartbeats 2000000 in
theorem lifted (os : Os) (started : os.Started) (H : Type) (enc : TypeId × Value → H) (F : Stop.Interp) :
    ReturnsInHanded {} Tryz.checked os 3 .any ((OpenSpec.ofChange Rows.fnPathQuotedSpec).preRow enc Tryz.prog Tryz.f3 Rows.fnPathQuotedRow.domain false Rows.fnPathQuotedRow.laid) (((OpenSpec.ofChange Rows.fnPathQuotedSpec).at F).post enc Tryz.prog Tryz.f3 false true false false) := by
  refine returnsInHanded_of_row (C := Tryz.checked) (s := OpenSpec.ofChange Rows.fnPathQuotedSpec) own started (by kernel_rfl) Tryz.func3
    (witness_row_atRef (enc := enc) (C := Tryz.checked) false (laidWorld os) #[.string ByteArray.empty, .string ByteArray.empty, .bool false] rfl (by kernel_rfl) (by kernel_rfl) (by kernel_rfl) (witness_row os enc)) ?_
  intro W base args ds gs before hval0 hW _ _ _ hL _ _
  have hval : ∀ (j : Nat) t v, Tryz.f3.params[j]? = some t → args[j]? = some v → Value.okWide Tryz.prog W .any base t v := hval0
  have hW' := hW
  obtain ⟨p, q, hA0, hV0, rfl, _, _⟩ := hW
  have hA : DataW.TrodAll enc Tryz.prog W 0 (fun _ => true) true Tryz.f3.params.toList args.toList ds p := hA0
  have hV : DataW.TrodVars enc Tryz.prog W (fun _ => true) [nP, nQ, nN] gs q := hV0
  rw [Tryz.params3] at hA hval
  obtain ⟨v0, vs0, d0, ds0, p0, q0, hargs, rfl, rfl, h0, r0⟩ := trodAll_cons hA
  obtain ⟨v1, vs1, d1, ds1, p1, q1, rfl, rfl, rfl, h1, r1⟩ := trodAll_cons r0
  obtain ⟨v2, vs2, d2, ds2, p2, q2, rfl, rfl, rfl, h2, r2⟩ := trodAll_cons r1
  obtain ⟨rfl, rfl, rfl⟩ := trodAll_nil r2
  obtain rfl : args = #[v0, v1, v2] := by cases args; simp_all
  obtain ⟨u0, y0, u1, y1, u2, y2, hv0, hv1, hv2⟩ := vars_of_laid hL
  obtain ⟨rfl, rfl⟩ := hV.unique (vars_read enc hv0 hv1 hv2 trivial trivial trivial _)
  obtain ⟨a0, rfl, rfl, rfl, z0⟩ := open_string Tryz.underlying9 (hval 0 9 v0 rfl rfl) h0
  obtain ⟨a1, rfl, rfl, rfl, z1⟩ := open_string Tryz.underlying9 (hval 1 9 v1 rfl rfl) h1
  obtain ⟨a2, rfl, rfl, rfl⟩ := open_bool Tryz.underlying4 (hval 2 4 v2 rfl rfl) h2
  clear hA0 hV0 hval0
  refine (PqW.law_any a0 a1 a2 W).mono ?_
  rintro e W' ⟨rfl, bel⟩
  have e1 : ∀ x0 x1 x2 g0 g1 g2 : DataW H, ((OpenSpec.ofChange Rows.fnPathQuotedSpec).at F).fn H ([x0, x1, x2] ++ [g0, g1, g2]) = { results := [.lit (.bool true)], args := [x0, x1, x2], vars := [g0, g1, g2] } := fun _ _ _ _ _ _ => rfl
  refine ⟨_, rfl, _, _, _, [], [] ++ ([] ++ ([] ++ [])), [.cell 0 0, .cell 1 0, .cell 2 0], hW', ?_, ?_, ?_, bel.frame _, fun h => by cases h⟩
  · rw [e1]; exact trodAll_mk1 (shut_bool Tryz.underlying4 _)
  · rw [e1]; exact trodAll_cons_mk (shut_string Tryz.underlying9 z0) (trodAll_cons_mk (shut_string Tryz.underlying9 z1) (trodAll_cons_mk (shut_bool Tryz.underlying4 _) trodAll_mk0))
  · rw [e1]; exact vars_read enc (var_below bel hv0) (var_below bel hv1) (var_below bel hv2) trivial trivial trivial _

theorem said : Rows.FnPathQuotedSaid :=
  OpenClaim.holds_of_cond 3 Tryz.f3 rfl rfl rfl rfl rfl rfl rfl ⟨rfl, rfl, rfl, rfl, rfl⟩ rfl rfl rfl rfl rfl (by kernel_rfl) Tryz.func3 (by kernel_rfl)
    (of_decide_eq_true (by kernel_rfl)) (by unfold Func.isWrapper; first | (rw [if_pos (by decide +kernel)]; kernel_rfl) | (rw [if_neg (by decide +kernel)]; exact ⟨rfl, rfl⟩))
    (fun os started H enc _ F => by rw [OpenClaim.pre_eq_preRow]; exact lifted os started H enc F)

/-- No parameter wants a stand-in; the program's own looks are off. -/
theorem plain (f : FuncId) (fn : Func) (hf : Tryz.pinned.checked.prog.funcNamed "given.example/pub-palinode/laws.FnPathQuoted" = some f) (hfn : Tryz.pinned.checked.prog.funcs[f]? = some fn) :
    true = Tryz.pinned.checked.prog.looks [] ∧ ∀ (j : Nat) t, fn.params[j]? = some t → Tryz.pinned.checked.prog.wantsStandIn t = false := by
  obtain rfl : f = 3 := Option.some.inj ((show Tryz.prog.funcNamed "given.example/pub-palinode/laws.FnPathQuoted" = some 3 by kernel_rfl).symm.trans hf) |>.symm
  obtain rfl : fn = Tryz.f3 := (Option.some.inj (Tryz.func3.symm.trans hfn)).symm
  refine ⟨by kernel_rfl, fun j t ht => ?_⟩
  rw [Tryz.params3] at ht
  have hm : t = 9 ∨ t = 4 := by
    have := Array.mem_of_getElem? ht
    simp at this
    omega
  rcases hm with rfl | rfl
  · exact (show Tryz.prog.wantsStandIn 9 = false by kernel_rfl)
  · exact (show Tryz.prog.wantsStandIn 4 = false by kernel_rfl)

/-- The card. -/
theorem card : Rows.FnPathQuotedCardSaid :=
  Claim7.holds_tied_plain_at .later [] _ _ _ _ said (fun _ h => by cases h) (by kernel_rfl) (fun _ h => by cases h) fnPathQuoted_row_tie rfl ⟨rfl, rfl⟩ (by kernel_rfl) rfl plain (by kernel_rfl)
#print axioms card
end Go.Proofs.YtjdfcokeejmmeaaGreatDoor.fnPathQuoted
namespace Go.Proofs.YtjdfcokeejmmeaaGreatDoor
/-- The card, under a short name, for the claim. -/
theorem fnPathQuoted_holds : Rows.FnPathQuotedCardSaid := fnPathQuoted.card
end Go.Proofs.YtjdfcokeejmmeaaGreatDoor
