-- PRINTED BY print.sh 35421559b90ae4d0a3588c463048766b98c2df88dd9212a6774a882060cdf62d: not written by this session
import Derived.Test.YthkmgjkajllemaaDoorProg
import Derived.Below
import Derived.Deep.Draws
import Derived.Deep.AppendLies
import Derived.Maps.AppendAt
import Derived.OwnWalk
import Derived.Laws.BytesArg
import Derived.Laws.MakeOwn
import Derived.Laws.OwnMore
import Derived.Deep.OwnRows
import Derived.Tactics
import Derived.Lib.ConvBytes
import Derived.Laws.Slices
import Derived.WalkKit
import Derived.KernelRfl
import Derived.RowKit3
import Derived.Deep.LoopGhost
import Derived.Deep.QuietTactic
import Derived.BigQuiet
import Derived.WideLaws
import Derived.Deep.DeepCutAuto
import Derived.Deep.CutBlock
import Derived.Deep.RegionHeld3
import Derived.Laws.Rows
import Derived.Lib.AppendStr
import Derived.ArgAppend
import Derived.Laws.IdiomCopy
import Derived.OrdersHeld
import Derived.Laws.BitsLemmas
import Derived.RowKit
import Derived.Test.YthkmgjkajllemaaDoorWWords
import Derived.Test.YthkmgjkajllemaaDoorWLast
import Derived.Test.YthkmgjkajllemaaDoorWTab
import Derived.Test.YthkmgjkajllemaaDoorWFour
import Derived.Test.YthkmgjkajllemaaDoorWQPut
import Derived.Test.YthkmgjkajllemaaDoorWApart
import Derived.Test.YthkmgjkajllemaaDoorWArr
import Derived.Test.YthkmgjkajllemaaDoorWZeros
import Derived.Test.YthkmgjkajllemaaDoorWFoot
import Derived.Test.YthkmgjkajllemaaDoorWKept
import Derived.Test.YthkmgjkajllemaaDoorWShare
import Derived.Test.YthkmgjkajllemaaDoorWN
import Derived.Test.YthkmgjkajllemaaDoorWFootNe
import Derived.Test.YthkmgjkajllemaaDoorWAt
import Derived.Test.YthkmgjkajllemaaDoorWEqStruct
import Derived.Test.YthkmgjkajllemaaDoorWRepsOne
import Derived.Test.YthkmgjkajllemaaDoorWInv
import Derived.Test.YthkmgjkajllemaaDoorWInvWords
import Derived.Test.YthkmgjkajllemaaDoorWGuard
import Derived.Test.YthkmgjkajllemaaDoorWNEv
import Derived.Test.YthkmgjkajllemaaDoorWMore
namespace Go.Proofs.YthkmgjkajllemaaDoor.PNatFrom
open Go.RowKit Go.Proofs.YthkmgjkajllemaaDoorW.PrintWords Go.Proofs.YthkmgjkajllemaaDoorW.PrintLast Go.Proofs.YthkmgjkajllemaaDoorW.PrintMore
attribute [local go_sem] max2_int min2_int max_two min_two max_three min_three max_four min_four   -- for this text's walks alone
set_option linter.unusedVariables false
set_option linter.unusedSimpArgs false



def errW : Option Int → Value
  | none => .nilIface
  | some c => .iface 0 (.int .i64 c)
theorem errW_none : errW none = .nilIface := rfl
theorem errW_some (c : Int) : errW (some c) = .iface 0 (.int .i64 c) := rfl

theorem info69 : (Tryd.prog.info? 69).map (fun i => (i.zero, i.size, i.bytes)) = some (some (.int .u32 0), 1, 4) := by kernel_rfl
-- the values' own types

end Go.Proofs.YthkmgjkajllemaaDoor.PNatFrom
