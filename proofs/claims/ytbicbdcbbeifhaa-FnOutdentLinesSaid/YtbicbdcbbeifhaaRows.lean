/-
  No cell of these rows narrows 'for every input' (looked for: loops, veiled, ifaces, maps, wideKeys, modest, calm, conditions, laid).
  DERIVED. THE GIVEN ROWS OF THIS SEAT. 6 by the template 'for every input the law returns true; each argument reads behind the call as it read before'; 0 by the template 'total and deterministic' (their statements: YtbicbdcbbeifhaaTotals.lean).
  GIVEN WITH THE SEED: the statements are not yours to turn. If you find one false, say at which input.
  Laid BY PROGRAM, IN A SANDBOX (cutbox-rows.mjs): the forced cells as the released guide's own fill.sh prints them over the translation a9516a2fe3f37989… (all of the seat's roots in one cut). By AI agents, Wed Nov 11 2026. No macro, syntax, notation, axiom, sorry.
-/
import Derived.Test.YtbicbdcbbeifhaaChecked
import GoSem.Claim
import GoSem.ClaimJoined
import GoSem.ClaimMapViews
import Derived.JoinedTies
import Derived.KernelRfl
namespace Go.Proofs.Ytbicbdcbbeifhaa
/- THE CELL 'sum', in the pinned program and in every row, IS THE sha256 OF THE DUMP (.gsa) THAT YtbicbdcbbeifhaaProg.lean LOADS. Nothing in Lean hashes anything: it is a label: what it is worth is what the hold of that sum in a sandbox is worth. -/
noncomputable def Try.pinned : Pinned := { name := "ytbicbdcbbeifhaa", sum := "a9516a2fe3f379895f3569beaa6c1fda69ea7e926b56dab761949b3c3d74fc53", checked := Try.checked }
namespace Rows
def none {H : Type} : Left H := { results := [], args := [] }

/-- 'laws.FnHexRead': WHATEVER THE INPUT: true; the input reads as it did. -/
def fnHexReadSpec : ChangeSpec := { name := "fnHexRead", fn := fun _ => fun
  | [d1, d2, d3] => { results := [.lit (.bool true)], args := [d1, d2, d3] }
  | _ => none }
def fnHexReadRow : OpenClaim := { program := "ytbicbdcbbeifhaa", sum := "a9516a2fe3f379895f3569beaa6c1fda69ea7e926b56dab761949b3c3d74fc53", func := "given.example/pub-palinode/laws.FnHexRead", spec := "fnHexRead", apart := false }
def FnHexReadSaid : Prop := fnHexReadRow.holds Try.pinned (OpenSpec.ofChange fnHexReadSpec)

/-- ITS FALSE NEIGHBOUR: 'it returns false'. Refute it at one input. -/
def fnHexReadWrong : ChangeSpec := { name := "fnHexRead", fn := fun _ => fun
  | [d1, d2, d3] => { results := [.lit (.bool false)], args := [d1, d2, d3] }
  | _ => none }
def FnHexReadWrongFalsely : Prop := fnHexReadRow.holds Try.pinned (OpenSpec.ofChange fnHexReadWrong)

/-- 'laws.FnNamesSigns': WHATEVER THE INPUT: true; the input reads as it did. -/
def fnNamesSignsSpec : ChangeSpec := { name := "fnNamesSigns", fn := fun _ => fun
  | [d1, d2] => { results := [.lit (.bool true)], args := [d1, d2] }
  | _ => none }
def fnNamesSignsRow : OpenClaim := { program := "ytbicbdcbbeifhaa", sum := "a9516a2fe3f379895f3569beaa6c1fda69ea7e926b56dab761949b3c3d74fc53", func := "given.example/pub-palinode/laws.FnNamesSigns", spec := "fnNamesSigns", apart := false }
def FnNamesSignsSaid : Prop := fnNamesSignsRow.holds Try.pinned (OpenSpec.ofChange fnNamesSignsSpec)

/-- ITS FALSE NEIGHBOUR: 'it returns false'. Refute it at one input. -/
def fnNamesSignsWrong : ChangeSpec := { name := "fnNamesSigns", fn := fun _ => fun
  | [d1, d2] => { results := [.lit (.bool false)], args := [d1, d2] }
  | _ => none }
def FnNamesSignsWrongFalsely : Prop := fnNamesSignsRow.holds Try.pinned (OpenSpec.ofChange fnNamesSignsWrong)

/-- 'laws.FnBreakTold': WHATEVER THE INPUT: true; the input reads as it did. -/
def fnBreakToldSpec : ChangeSpec := { name := "fnBreakTold", fn := fun _ => fun
  | [d1, d2] => { results := [.lit (.bool true)], args := [d1, d2] }
  | _ => none }
def fnBreakToldRow : OpenClaim := { program := "ytbicbdcbbeifhaa", sum := "a9516a2fe3f379895f3569beaa6c1fda69ea7e926b56dab761949b3c3d74fc53", func := "given.example/pub-palinode/laws.FnBreakTold", spec := "fnBreakTold", apart := false }
def FnBreakToldSaid : Prop := fnBreakToldRow.holds Try.pinned (OpenSpec.ofChange fnBreakToldSpec)

/-- ITS FALSE NEIGHBOUR: 'it returns false'. Refute it at one input. -/
def fnBreakToldWrong : ChangeSpec := { name := "fnBreakTold", fn := fun _ => fun
  | [d1, d2] => { results := [.lit (.bool false)], args := [d1, d2] }
  | _ => none }
def FnBreakToldWrongFalsely : Prop := fnBreakToldRow.holds Try.pinned (OpenSpec.ofChange fnBreakToldWrong)

/-- 'laws.FnPartAdded': WHATEVER THE INPUT: true; the input reads as it did. -/
def fnPartAddedSpec : ChangeSpec := { name := "fnPartAdded", fn := fun _ => fun
  | [d1, d2] => { results := [.lit (.bool true)], args := [d1, d2] }
  | _ => none }
def fnPartAddedRow : OpenClaim := { program := "ytbicbdcbbeifhaa", sum := "a9516a2fe3f379895f3569beaa6c1fda69ea7e926b56dab761949b3c3d74fc53", func := "given.example/pub-palinode/laws.FnPartAdded", spec := "fnPartAdded", apart := false }
def FnPartAddedSaid : Prop := fnPartAddedRow.holds Try.pinned (OpenSpec.ofChange fnPartAddedSpec)

/-- ITS FALSE NEIGHBOUR: 'it returns false'. Refute it at one input. -/
def fnPartAddedWrong : ChangeSpec := { name := "fnPartAdded", fn := fun _ => fun
  | [d1, d2] => { results := [.lit (.bool false)], args := [d1, d2] }
  | _ => none }
def FnPartAddedWrongFalsely : Prop := fnPartAddedRow.holds Try.pinned (OpenSpec.ofChange fnPartAddedWrong)

/-- 'laws.FnPartMerges': WHATEVER THE INPUT: true; the input reads as it did. -/
def fnPartMergesSpec : ChangeSpec := { name := "fnPartMerges", fn := fun _ => fun
  | [d] => { results := [.lit (.bool true)], args := [d] }
  | _ => none }
def fnPartMergesRow : OpenClaim := { program := "ytbicbdcbbeifhaa", sum := "a9516a2fe3f379895f3569beaa6c1fda69ea7e926b56dab761949b3c3d74fc53", func := "given.example/pub-palinode/laws.FnPartMerges", spec := "fnPartMerges", apart := false }
def FnPartMergesSaid : Prop := fnPartMergesRow.holds Try.pinned (OpenSpec.ofChange fnPartMergesSpec)

/-- ITS FALSE NEIGHBOUR: 'it returns false'. Refute it at one input. -/
def fnPartMergesWrong : ChangeSpec := { name := "fnPartMerges", fn := fun _ => fun
  | [d] => { results := [.lit (.bool false)], args := [d] }
  | _ => none }
def FnPartMergesWrongFalsely : Prop := fnPartMergesRow.holds Try.pinned (OpenSpec.ofChange fnPartMergesWrong)

/-- 'laws.FnOutdentLines': WHATEVER THE INPUT: true; the input reads as it did. -/
def fnOutdentLinesSpec : ChangeSpec := { name := "fnOutdentLines", fn := fun _ => fun
  | [d1, d2] => { results := [.lit (.bool true)], args := [d1, d2] }
  | _ => none }
def fnOutdentLinesRow : OpenClaim := { program := "ytbicbdcbbeifhaa", sum := "a9516a2fe3f379895f3569beaa6c1fda69ea7e926b56dab761949b3c3d74fc53", func := "given.example/pub-palinode/laws.FnOutdentLines", spec := "fnOutdentLines", inPlace := ["internal/abi.NoEscape", "internal/bytealg.MakeNoZero"], unfollowed := true, recurses := true, apart := false }
def FnOutdentLinesSaid : Prop := fnOutdentLinesRow.holds Try.pinned (OpenSpec.ofChange fnOutdentLinesSpec)

/-- ITS FALSE NEIGHBOUR: 'it returns false'. Refute it at one input. -/
def fnOutdentLinesWrong : ChangeSpec := { name := "fnOutdentLines", fn := fun _ => fun
  | [d1, d2] => { results := [.lit (.bool false)], args := [d1, d2] }
  | _ => none }
def FnOutdentLinesWrongFalsely : Prop := fnOutdentLinesRow.holds Try.pinned (OpenSpec.ofChange fnOutdentLinesWrong)

/- THE SECOND FORM. 'bulk': how many values and letters a reading holds, each counted each time it is reached (what is shared counts as often as it is met; a slice's spare places count too). A statement '..UptoSaid' is the law's where the arguments, and the package variables that the reading takes, are together of bulk at most 1048576: NARROWER than '..Said'. Prove '..Said' where nothing that the law and all that it calls make is longer than what came in: it says more and counts as full. Else prove '..UptoSaid'. A law counts once. -/
mutual
def uptoBulk {H : Type} : DataW H → Nat
  | .lit (.string bytes) => bytes.length + 1
  | .lit _ => 1
  | .nil => 1
  | .ptr d => uptoBulk d + 1
  | .slice elems spare => uptoBulkAll elems + uptoBulkAll spare + 1
  | .agg parts => uptoBulkAll parts + 1
  | .iface _ d => uptoBulk d + 1
  | .map entries => uptoBulkEntries entries + 1
  | .held _ => 1
def uptoBulkAll {H : Type} : List (DataW H) → Nat
  | [] => 0
  | d :: r => uptoBulk d + uptoBulkAll r
def uptoBulkEntries {H : Type} : List (Lit × DataW H) → Nat
  | [] => 0
  | x :: r => uptoBulkEntry x + uptoBulkEntries r
def uptoBulkEntry {H : Type} : Lit × DataW H → Nat
  | (.string bytes, d) => bytes.length + uptoBulk d + 1
  | (_, d) => uptoBulk d + 1
 end
def uptoSmall : (H : Type) → List (DataW H) → Bool := fun _ ds => decide (uptoBulkAll ds ≤ 1048576)
def OpenSpec.upto (s : _root_.Go.ChangeSpec) : _root_.Go.OpenSpec := { _root_.Go.OpenSpec.ofChange s with cond := some uptoSmall }

/-- 'laws.FnHexRead', WHERE WHAT IT READS IS OF BULK AT MOST 1048576: true; the input reads as it did. -/
def fnHexReadUptoRow : OpenClaim := { program := "ytbicbdcbbeifhaa", sum := "a9516a2fe3f379895f3569beaa6c1fda69ea7e926b56dab761949b3c3d74fc53", func := "given.example/pub-palinode/laws.FnHexRead", spec := "fnHexRead", apart := false, narrowed := true }
def FnHexReadUptoSaid : Prop := fnHexReadUptoRow.holds Try.pinned (OpenSpec.upto fnHexReadSpec)

/-- 'laws.FnNamesSigns', WHERE WHAT IT READS IS OF BULK AT MOST 1048576: true; the input reads as it did. -/
def fnNamesSignsUptoRow : OpenClaim := { program := "ytbicbdcbbeifhaa", sum := "a9516a2fe3f379895f3569beaa6c1fda69ea7e926b56dab761949b3c3d74fc53", func := "given.example/pub-palinode/laws.FnNamesSigns", spec := "fnNamesSigns", apart := false, narrowed := true }
def FnNamesSignsUptoSaid : Prop := fnNamesSignsUptoRow.holds Try.pinned (OpenSpec.upto fnNamesSignsSpec)

/-- 'laws.FnBreakTold', WHERE WHAT IT READS IS OF BULK AT MOST 1048576: true; the input reads as it did. -/
def fnBreakToldUptoRow : OpenClaim := { program := "ytbicbdcbbeifhaa", sum := "a9516a2fe3f379895f3569beaa6c1fda69ea7e926b56dab761949b3c3d74fc53", func := "given.example/pub-palinode/laws.FnBreakTold", spec := "fnBreakTold", apart := false, narrowed := true }
def FnBreakToldUptoSaid : Prop := fnBreakToldUptoRow.holds Try.pinned (OpenSpec.upto fnBreakToldSpec)

/-- 'laws.FnPartAdded', WHERE WHAT IT READS IS OF BULK AT MOST 1048576: true; the input reads as it did. -/
def fnPartAddedUptoRow : OpenClaim := { program := "ytbicbdcbbeifhaa", sum := "a9516a2fe3f379895f3569beaa6c1fda69ea7e926b56dab761949b3c3d74fc53", func := "given.example/pub-palinode/laws.FnPartAdded", spec := "fnPartAdded", apart := false, narrowed := true }
def FnPartAddedUptoSaid : Prop := fnPartAddedUptoRow.holds Try.pinned (OpenSpec.upto fnPartAddedSpec)

/-- 'laws.FnPartMerges', WHERE WHAT IT READS IS OF BULK AT MOST 1048576: true; the input reads as it did. -/
def fnPartMergesUptoRow : OpenClaim := { program := "ytbicbdcbbeifhaa", sum := "a9516a2fe3f379895f3569beaa6c1fda69ea7e926b56dab761949b3c3d74fc53", func := "given.example/pub-palinode/laws.FnPartMerges", spec := "fnPartMerges", apart := false, narrowed := true }
def FnPartMergesUptoSaid : Prop := fnPartMergesUptoRow.holds Try.pinned (OpenSpec.upto fnPartMergesSpec)

/-- 'laws.FnOutdentLines', WHERE WHAT IT READS IS OF BULK AT MOST 1048576: true; the input reads as it did. -/
def fnOutdentLinesUptoRow : OpenClaim := { program := "ytbicbdcbbeifhaa", sum := "a9516a2fe3f379895f3569beaa6c1fda69ea7e926b56dab761949b3c3d74fc53", func := "given.example/pub-palinode/laws.FnOutdentLines", spec := "fnOutdentLines", inPlace := ["internal/abi.NoEscape", "internal/bytealg.MakeNoZero"], unfollowed := true, recurses := true, apart := false, narrowed := true }
def FnOutdentLinesUptoSaid : Prop := fnOutdentLinesUptoRow.holds Try.pinned (OpenSpec.upto fnOutdentLinesSpec)

end Rows
end Go.Proofs.Ytbicbdcbbeifhaa
