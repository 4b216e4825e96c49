/- Merged by program out of: ConF. -/
import Derived.Test.YtgoeiflddikihaaGreatDoorCsgM3
import Derived.Test.YtgoeiflddikihaaGreatDoorCsgM36
import Derived.Test.YtgoeiflddikihaaGreatDoorCsgM16
section
namespace Go.Proofs.YtgoeiflddikihaaGreatDoor.Ver
set_option linter.unusedSimpArgs false
set_option linter.unusedVariables false
open Go.RowKit Go.Proofs.YtgoeiflddikihaaGreatDoor.Dig Go.Proofs.YtgoeiflddikihaaGreatDoorW.PrintWords Go.Proofs.YtgoeiflddikihaaGreatDoor.Mem Go.Proofs.YtgoeiflddikihaaGreatDoor.PFnIntersectAny Go.Proofs.YtgoeiflddikihaaGreatDoor.Ord
theorem sem_pos {t : ByteArray} (hs : (qSemB0 t.data.toList).isSome = true) : 0 < t.size := by
  have := (not_wild hs).1
  rcases Nat.eq_zero_or_pos t.size with h | h
  · exact absurd (List.length_eq_zero_iff.1 (by rw [Array.length_toList]; exact h)) this
  · exact h
end Go.Proofs.YtgoeiflddikihaaGreatDoor.Ver
end
