/- Merged by program out of: SpecF. -/
import Derived.Test.YtgoeiflddikihaaGreatDoorCsgM3
import Derived.Test.YtgoeiflddikihaaGreatDoorCsgM31
import Derived.Test.YtgoeiflddikihaaGreatDoorCsgM29
import Derived.Deep.Cut
import Derived.Deep.CutRange
import Derived.Deep.RegionWith
import Derived.Test.YtgoeiflddikihaaGreatDoorCsgM35
import Derived.Test.YtgoeiflddikihaaGreatDoorCsgM34
import Derived.Test.YtgoeiflddikihaaGreatDoorCsgM7
import Derived.Sort.Lot0
section
namespace Go.Proofs.YtgoeiflddikihaaGreatDoor.Ins
end Go.Proofs.YtgoeiflddikihaaGreatDoor.Ins
namespace Go.Proofs.YtgoeiflddikihaaGreatDoor.Ver
set_option linter.unusedSimpArgs false
set_option linter.unusedVariables false
open Go.Sort Go.RowKit Go.Proofs.YtgoeiflddikihaaGreatDoor.Dig Go.Proofs.YtgoeiflddikihaaGreatDoorW.PrintWords Go.Proofs.YtgoeiflddikihaaGreatDoor.Mem Go.Proofs.YtgoeiflddikihaaGreatDoor.Ord Go.Proofs.YtgoeiflddikihaaGreatDoor.Ins Go.Proofs.YtgoeiflddikihaaGreatDoor.PFnVersion
instance : ZeroC Tryz.prog 30 #[.int .i64 0, .string ⟨#[]⟩, .string ⟨#[]⟩] := ⟨by kernel_rfl⟩
end Go.Proofs.YtgoeiflddikihaaGreatDoor.Ver
end
