/- Merged by program out of: VOf. -/
import Derived.Test.YtgoeiflddikihaaGreatDoorCsgM19
import Derived.Deep.CutRange
section
namespace Go.Proofs.YtgoeiflddikihaaGreatDoor.Ver
set_option linter.unusedSimpArgs false
open Go.RowKit Go.Proofs.YtgoeiflddikihaaGreatDoor.Dig Go.Proofs.YtgoeiflddikihaaGreatDoorW.PrintWords
def told (ty : Int) (text caret revision branch version under unpaired : ByteArray) (paired : Bool) : Value :=
  .agg #[.int .i64 ty, .string text, .string caret, .string revision, .string branch, .string version, .string under, .string unpaired, .bool paired]
abbrev zTold : Array Value := #[.int .i64 0, .string ⟨#[]⟩, .string ⟨#[]⟩, .string ⟨#[]⟩, .string ⟨#[]⟩, .string ⟨#[]⟩, .string ⟨#[]⟩, .string ⟨#[]⟩, .bool false]
theorem res_at {w w1 : World} {x y : Obj} (hb : Below ((w.alloc x).alloc y).heap.size ((w.alloc x).alloc y) w1) : w1.heap[w.heap.size + 1]? = some y := by
  have h := blk_below (alloc_at (w.alloc x) y) hb
  rw [alloc_size] at h
  exact h
end Go.Proofs.YtgoeiflddikihaaGreatDoor.Ver
end
