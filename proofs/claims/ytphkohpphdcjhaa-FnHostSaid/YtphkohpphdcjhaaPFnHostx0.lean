-- PRINTED BY print.sh 35421559b90ae4d0a3588c463048766b98c2df88dd9212a6774a882060cdf62d: not written by this session
import Derived.Test.YtphkohpphdcjhaaProg
import Derived.Below
import Derived.Deep.Draws
import Derived.Deep.AppendLies
import Derived.Maps.AppendAt
import Derived.OwnWalk
import Derived.Laws.BytesArg
import Derived.Laws.MakeOwn
import Derived.Laws.OwnMore
import Derived.Deep.OwnRows
import Derived.Tactics
import Derived.Lib.ConvBytes
import Derived.Laws.Slices
import Derived.WalkKit
import Derived.KernelRfl
import Derived.RowKit3
import Derived.Deep.LoopGhost
import Derived.Deep.QuietTactic
import Derived.BigQuiet
import Derived.WideLaws
import Derived.Deep.DeepCutAuto
import Derived.Deep.CutBlock
import Derived.Deep.RegionHeld3
import Derived.Laws.Rows
import Derived.Lib.AppendStr
import Derived.ArgAppend
import Derived.Laws.IdiomCopy
import Derived.OrdersHeld
import Derived.Laws.BitsLemmas
import Derived.RowKit
import Derived.Test.YtphkohpphdcjhaaWWords
import Derived.Test.YtphkohpphdcjhaaWLast
import Derived.Test.YtphkohpphdcjhaaWTab
import Derived.Test.YtphkohpphdcjhaaWFour
import Derived.Test.YtphkohpphdcjhaaWQPut
import Derived.Test.YtphkohpphdcjhaaWApart
import Derived.Test.YtphkohpphdcjhaaWArr
import Derived.Test.YtphkohpphdcjhaaWZeros
import Derived.Test.YtphkohpphdcjhaaWFoot
import Derived.Test.YtphkohpphdcjhaaWKept
import Derived.Test.YtphkohpphdcjhaaWShare
import Derived.Test.YtphkohpphdcjhaaWN
import Derived.Test.YtphkohpphdcjhaaWFootNe
import Derived.Test.YtphkohpphdcjhaaWAt
import Derived.Test.YtphkohpphdcjhaaWEqStruct
import Derived.Test.YtphkohpphdcjhaaWRepsOne
import Derived.Test.YtphkohpphdcjhaaWInv
import Derived.Test.YtphkohpphdcjhaaWInvWords
import Derived.Test.YtphkohpphdcjhaaWGuard
import Derived.Test.YtphkohpphdcjhaaWNEv
import Derived.Test.YtphkohpphdcjhaaWMore
namespace Go.Proofs.Ytphkohpphdcjhaa.PFnHost
open Go.RowKit Go.Proofs.YtphkohpphdcjhaaW.PrintWords Go.Proofs.YtphkohpphdcjhaaW.PrintLast Go.Proofs.YtphkohpphdcjhaaW.PrintMore
attribute [local go_sem] max2_int min2_int max_two min_two max_three min_three max_four min_four   -- for this text's walks alone
set_option linter.unusedVariables false
set_option linter.unusedSimpArgs false



def errW : Option Int → Value
  | none => .nilIface
  | some c => .iface 0 (.int .i64 c)
theorem errW_none : errW none = .nilIface := rfl
theorem errW_some (c : Int) : errW (some c) = .iface 0 (.int .i64 c) := rfl

theorem info9 : (Try.prog.info? 9).map (fun i => (i.zero, i.size, i.bytes)) = some (some (.string ⟨#[]⟩), 1, 16) := by kernel_rfl
-- the values' own types

end Go.Proofs.Ytphkohpphdcjhaa.PFnHost
