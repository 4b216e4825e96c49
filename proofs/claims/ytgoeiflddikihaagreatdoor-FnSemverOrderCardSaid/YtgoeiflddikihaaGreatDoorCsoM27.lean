/- Merged by program out of: SpecF. -/
import Derived.Test.YtgoeiflddikihaaGreatDoorCsoM3
import Derived.Test.YtgoeiflddikihaaGreatDoorCsoM22
import Derived.Test.YtgoeiflddikihaaGreatDoorCsoM20
import Derived.Test.YtgoeiflddikihaaGreatDoorCsoM9
import Derived.Test.YtgoeiflddikihaaGreatDoorCsoM6
import Derived.BigQuiet
import Derived.Lib.QuietBelow
import Derived.Deep.Cut
import Derived.Deep.CutRange
import Derived.Deep.RegionWith
import Derived.Test.YtgoeiflddikihaaGreatDoorCsoM25
import Derived.Test.YtgoeiflddikihaaGreatDoorCsoM21
import Derived.Test.YtgoeiflddikihaaGreatDoorCsoM8
import Derived.Test.YtgoeiflddikihaaGreatDoorCsoM2
section
namespace Go.Proofs.YtgoeiflddikihaaGreatDoor.Ver
set_option linter.unusedSimpArgs false
set_option linter.unusedVariables false
open Go.Sort Go.RowKit Go.Proofs.YtgoeiflddikihaaGreatDoor.Dig Go.Proofs.YtgoeiflddikihaaGreatDoorW.PrintWords Go.Proofs.YtgoeiflddikihaaGreatDoor.Mem Go.Proofs.YtgoeiflddikihaaGreatDoor.Ord Go.Proofs.YtgoeiflddikihaaGreatDoor.Ins Go.Proofs.YtgoeiflddikihaaGreatDoor.PFnVersion
instance : ZeroC Tryz.prog 30 #[.int .i64 0, .string ⟨#[]⟩, .string ⟨#[]⟩] := ⟨by kernel_rfl⟩
def cmpD (down : Bool) (x y : S30) : Int := versC down (verV x.f0 x.f1 x.f2) (verV y.f0 y.f1 y.f2)
end Go.Proofs.YtgoeiflddikihaaGreatDoor.Ver
end
