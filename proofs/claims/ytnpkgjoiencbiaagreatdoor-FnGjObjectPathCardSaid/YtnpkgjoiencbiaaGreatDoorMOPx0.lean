-- written by a program of this session (wip/myprint.py, a driver over the kit's print); Lean checks it
import Derived.Test.YtnpkgjoiencbiaaGreatDoorProg
import Derived.Below
import Derived.Deep.Draws
import Derived.Deep.AppendLies
import Derived.Maps.AppendAt
import Derived.OwnWalk
import Derived.Laws.BytesArg
import Derived.Laws.MakeOwn
import Derived.Laws.OwnMore
import Derived.Deep.OwnRows
import Derived.Tactics
import Derived.Lib.ConvBytes
import Derived.Laws.Slices
import Derived.WalkKit
import Derived.KernelRfl
import Derived.RowKit3
import Derived.Deep.LoopGhost
import Derived.Deep.QuietTactic
import Derived.BigQuiet
import Derived.WideLaws
import Derived.Deep.DeepCutAuto
import Derived.Deep.CutBlock
import Derived.Deep.RegionHeld3
import Derived.Laws.Rows
import Derived.Lib.AppendStr
import Derived.ArgAppend
import Derived.Laws.IdiomCopy
import Derived.OrdersHeld
import Derived.Laws.BitsLemmas
import Derived.RowKit
import Derived.Test.YtnpkgjoiencbiaaGreatDoorMB
import Derived.Test.YtnpkgjoiencbiaaGreatDoorWWords
import Derived.Test.YtnpkgjoiencbiaaGreatDoorWLast
import Derived.Test.YtnpkgjoiencbiaaGreatDoorWTab
import Derived.Test.YtnpkgjoiencbiaaGreatDoorWFour
import Derived.Test.YtnpkgjoiencbiaaGreatDoorWQPut
import Derived.Test.YtnpkgjoiencbiaaGreatDoorWApart
import Derived.Test.YtnpkgjoiencbiaaGreatDoorWArr
import Derived.Test.YtnpkgjoiencbiaaGreatDoorWZeros
import Derived.Test.YtnpkgjoiencbiaaGreatDoorWFoot
import Derived.Test.YtnpkgjoiencbiaaGreatDoorWKept
import Derived.Test.YtnpkgjoiencbiaaGreatDoorWShare
import Derived.Test.YtnpkgjoiencbiaaGreatDoorWN
import Derived.Test.YtnpkgjoiencbiaaGreatDoorWFootNe
import Derived.Test.YtnpkgjoiencbiaaGreatDoorWAt
import Derived.Test.YtnpkgjoiencbiaaGreatDoorWEqStruct
import Derived.Test.YtnpkgjoiencbiaaGreatDoorWRepsOne
import Derived.Test.YtnpkgjoiencbiaaGreatDoorWInv
import Derived.Test.YtnpkgjoiencbiaaGreatDoorWInvWords
import Derived.Test.YtnpkgjoiencbiaaGreatDoorWGuard
import Derived.Test.YtnpkgjoiencbiaaGreatDoorWNEv
import Derived.Test.YtnpkgjoiencbiaaGreatDoorWMore
namespace Go.Proofs.YtnpkgjoiencbiaaGreatDoor.MOP
open Go.RowKit Go.Proofs.YtnpkgjoiencbiaaGreatDoorW.PrintWords Go.Proofs.YtnpkgjoiencbiaaGreatDoorW.PrintLast Go.Proofs.YtnpkgjoiencbiaaGreatDoorW.PrintMore
attribute [local go_sem] max2_int min2_int max_two min_two max_three min_three max_four min_four   -- for this text's walks alone
set_option linter.unusedVariables false
set_option linter.unusedSimpArgs false



def errW : Option Int → Value
  | none => .nilIface
  | some c => .iface 0 (.int .i64 c)
theorem errW_none : errW none = .nilIface := rfl
theorem errW_some (c : Int) : errW (some c) = .iface 0 (.int .i64 c) := rfl

theorem info5 : (Tryz.prog.info? 5).map (fun i => (i.zero, i.size, i.bytes)) = some (some (.int .u8 0), 1, 1) := by kernel_rfl
theorem info9 : (Tryz.prog.info? 9).map (fun i => (i.zero, i.size, i.bytes)) = some (some (.string ⟨#[]⟩), 1, 16) := by kernel_rfl
-- the values' own types

end Go.Proofs.YtnpkgjoiencbiaaGreatDoor.MOP
