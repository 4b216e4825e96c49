/- Merged by program out of: SpecD. -/
import Derived.Test.YtgoeiflddikihaaGreatDoorCsoM3
import Derived.Test.YtgoeiflddikihaaGreatDoorCsoM22
import Derived.Test.YtgoeiflddikihaaGreatDoorCsoM20
import Derived.Test.YtgoeiflddikihaaGreatDoorCsoM9
import Derived.Test.YtgoeiflddikihaaGreatDoorCsoM6
import Derived.BigQuiet
import Derived.Lib.QuietBelow
import Derived.Deep.Cut
import Derived.Deep.CutRange
import Derived.Deep.RegionWith
section
namespace Go.Proofs.YtgoeiflddikihaaGreatDoor.Ver
set_option linter.unusedSimpArgs false
set_option linter.unusedVariables false
open Go.Sort Go.RowKit Go.Proofs.YtgoeiflddikihaaGreatDoor.Dig Go.Proofs.YtgoeiflddikihaaGreatDoorW.PrintWords Go.Proofs.YtgoeiflddikihaaGreatDoor.Mem Go.Proofs.YtgoeiflddikihaaGreatDoor.Ord
theorem PreOk.val {pp : List ByteArray} {P : Value} {X : List Blk} (h : PreOk pp P X) : ∃ A c, P = .slice A pp.length c := by
 rcases h with ⟨rfl, rfl, _⟩ | ⟨g, cap, rest, rfl, _⟩ <;> exact ⟨_, _, rfl⟩
end Go.Proofs.YtgoeiflddikihaaGreatDoor.Ver
end
