-- PRINTED BY print.sh 35421559b90ae4d0a3588c463048766b98c2df88dd9212a6774a882060cdf62d: not written by this session
import Derived.Test.YtgidfhpcobpinaaDoorProg
import Derived.Below
import Derived.Deep.Draws
import Derived.Deep.AppendLies
import Derived.Maps.AppendAt
import Derived.OwnWalk
import Derived.Laws.BytesArg
import Derived.Laws.MakeOwn
import Derived.Laws.OwnMore
import Derived.Deep.OwnRows
import Derived.Tactics
import Derived.Lib.ConvBytes
import Derived.Laws.Slices
import Derived.WalkKit
import Derived.KernelRfl
import Derived.RowKit3
import Derived.Deep.LoopGhost
import Derived.Deep.QuietTactic
import Derived.BigQuiet
import Derived.WideLaws
import Derived.Deep.DeepCutAuto
import Derived.Deep.CutBlock
import Derived.Deep.RegionHeld3
import Derived.Laws.Rows
import Derived.Lib.AppendStr
import Derived.ArgAppend
import Derived.Laws.IdiomCopy
import Derived.OrdersHeld
import Derived.Laws.BitsLemmas
import Derived.RowKit
import Derived.Test.YtgidfhpcobpinaaDoorWWords
import Derived.Test.YtgidfhpcobpinaaDoorWLast
import Derived.Test.YtgidfhpcobpinaaDoorWTab
import Derived.Test.YtgidfhpcobpinaaDoorWFour
import Derived.Test.YtgidfhpcobpinaaDoorWQPut
import Derived.Test.YtgidfhpcobpinaaDoorWApart
import Derived.Test.YtgidfhpcobpinaaDoorWArr
import Derived.Test.YtgidfhpcobpinaaDoorWZeros
import Derived.Test.YtgidfhpcobpinaaDoorWFoot
import Derived.Test.YtgidfhpcobpinaaDoorWKept
import Derived.Test.YtgidfhpcobpinaaDoorWShare
import Derived.Test.YtgidfhpcobpinaaDoorWN
import Derived.Test.YtgidfhpcobpinaaDoorWFootNe
import Derived.Test.YtgidfhpcobpinaaDoorWAt
import Derived.Test.YtgidfhpcobpinaaDoorWEqStruct
import Derived.Test.YtgidfhpcobpinaaDoorWRepsOne
import Derived.Test.YtgidfhpcobpinaaDoorWInv
import Derived.Test.YtgidfhpcobpinaaDoorWInvWords
import Derived.Test.YtgidfhpcobpinaaDoorWGuard
import Derived.Test.YtgidfhpcobpinaaDoorWNEv
import Derived.Test.YtgidfhpcobpinaaDoorWMore
namespace Go.Proofs.YtgidfhpcobpinaaDoor.PFnPartChars
open Go.RowKit Go.Proofs.YtgidfhpcobpinaaDoorW.PrintWords Go.Proofs.YtgidfhpcobpinaaDoorW.PrintLast Go.Proofs.YtgidfhpcobpinaaDoorW.PrintMore
attribute [local go_sem] max2_int min2_int max_two min_two max_three min_three max_four min_four   -- for this text's walks alone
set_option linter.unusedVariables false
set_option linter.unusedSimpArgs false



def errW : Option Int → Value
  | none => .nilIface
  | some c => .iface 0 (.int .i64 c)
theorem errW_none : errW none = .nilIface := rfl
theorem errW_some (c : Int) : errW (some c) = .iface 0 (.int .i64 c) := rfl

theorem info9 : (Tryd.prog.info? 9).map (fun i => (i.zero, i.size, i.bytes)) = some (some (.string ⟨#[]⟩), 1, 16) := by kernel_rfl
-- the values' own types

end Go.Proofs.YtgidfhpcobpinaaDoor.PFnPartChars
