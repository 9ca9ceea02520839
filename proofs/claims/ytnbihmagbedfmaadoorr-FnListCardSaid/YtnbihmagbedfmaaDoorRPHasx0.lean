-- PRINTED BY print.sh 35421559b90ae4d0a3588c463048766b98c2df88dd9212a6774a882060cdf62d: not written by this session
import Derived.Test.YtnbihmagbedfmaaDoorRProg
import Derived.Below
import Derived.Deep.Draws
import Derived.Deep.AppendLies
import Derived.Maps.AppendAt
import Derived.OwnWalk
import Derived.Laws.BytesArg
import Derived.Laws.MakeOwn
import Derived.Laws.OwnMore
import Derived.Deep.OwnRows
import Derived.Tactics
import Derived.Lib.ConvBytes
import Derived.Laws.Slices
import Derived.WalkKit
import Derived.KernelRfl
import Derived.RowKit3
import Derived.Deep.LoopGhost
import Derived.Deep.QuietTactic
import Derived.BigQuiet
import Derived.WideLaws
import Derived.Deep.DeepCutAuto
import Derived.Deep.CutBlock
import Derived.Deep.RegionHeld3
import Derived.Laws.Rows
import Derived.Lib.AppendStr
import Derived.ArgAppend
import Derived.Laws.IdiomCopy
import Derived.OrdersHeld
import Derived.Laws.BitsLemmas
import Derived.RowKit
import Derived.Test.YtnbihmagbedfmaaDoorRWWords
import Derived.Test.YtnbihmagbedfmaaDoorRWLast
import Derived.Test.YtnbihmagbedfmaaDoorRWTab
import Derived.Test.YtnbihmagbedfmaaDoorRWFour
import Derived.Test.YtnbihmagbedfmaaDoorRWQPut
import Derived.Test.YtnbihmagbedfmaaDoorRWApart
import Derived.Test.YtnbihmagbedfmaaDoorRWArr
import Derived.Test.YtnbihmagbedfmaaDoorRWZeros
import Derived.Test.YtnbihmagbedfmaaDoorRWFoot
import Derived.Test.YtnbihmagbedfmaaDoorRWKept
import Derived.Test.YtnbihmagbedfmaaDoorRWShare
import Derived.Test.YtnbihmagbedfmaaDoorRWN
import Derived.Test.YtnbihmagbedfmaaDoorRWFootNe
import Derived.Test.YtnbihmagbedfmaaDoorRWAt
import Derived.Test.YtnbihmagbedfmaaDoorRWEqStruct
import Derived.Test.YtnbihmagbedfmaaDoorRWRepsOne
import Derived.Test.YtnbihmagbedfmaaDoorRWInv
import Derived.Test.YtnbihmagbedfmaaDoorRWInvWords
import Derived.Test.YtnbihmagbedfmaaDoorRWGuard
import Derived.Test.YtnbihmagbedfmaaDoorRWNEv
import Derived.Test.YtnbihmagbedfmaaDoorRWMore
namespace Go.Proofs.YtnbihmagbedfmaaDoorR.PHas
open Go.RowKit Go.Proofs.YtnbihmagbedfmaaDoorRW.PrintWords Go.Proofs.YtnbihmagbedfmaaDoorRW.PrintLast Go.Proofs.YtnbihmagbedfmaaDoorRW.PrintMore
attribute [local go_sem] max2_int min2_int max_two min_two max_three min_three max_four min_four   -- for this text's walks alone
set_option linter.unusedVariables false
set_option linter.unusedSimpArgs false



def errW : Option Int → Value
  | none => .nilIface
  | some c => .iface 0 (.int .i64 c)
theorem errW_none : errW none = .nilIface := rfl
theorem errW_some (c : Int) : errW (some c) = .iface 0 (.int .i64 c) := rfl

-- the values' own types

end Go.Proofs.YtnbihmagbedfmaaDoorR.PHas
