/- Merged by program out of: SpecB. -/
import Derived.Test.YtgoeiflddikihaaGreatDoorCsoM3
import Derived.Test.YtgoeiflddikihaaGreatDoorCsoM21
section
namespace Go.Proofs.YtgoeiflddikihaaGreatDoor.Ver
set_option linter.unusedSimpArgs false
set_option linter.unusedVariables false
open Go.RowKit Go.Proofs.YtgoeiflddikihaaGreatDoor.Dig Go.Proofs.YtgoeiflddikihaaGreatDoorW.PrintWords Go.Proofs.YtgoeiflddikihaaGreatDoor.Mem
instance : RowC Tryz.prog 30 3 := ⟨⟨_, Tryz.underlying30, rfl⟩, by kernel_rfl⟩
instance : OneC Tryz.prog 2 := ⟨⟨_, Tryz.underlying2, rfl⟩, by kernel_rfl⟩
def svOf (t : ByteArray) : SV := match qSemB0 t.data.toList with
  | none => zV
  | some (ns, pre, mt) => ⟨(ns.getD 0 0 : Nat), (ns.getD 1 0 : Nat), (ns.getD 2 0 : Nat), mkB pre, mkB mt, t⟩
def cntOf (t : ByteArray) : Nat := match qSemB0 t.data.toList with
  | none => 0
  | some (ns, _, _) => ns.length
theorem sv_read (t : ByteArray) (h : (qSemB0 t.data.toList).isSome = true) : readV t = some (svOf t, cntOf t) := by
  rw [readV_eq, qReadB]
  unfold svOf cntOf
  cases hq : qSemB0 t.data.toList with
  | none => rw [hq] at h; cases h
  | some q => obtain ⟨ns, pre, mt⟩ := q; rfl
end Go.Proofs.YtgoeiflddikihaaGreatDoor.Ver
end
