/- Merged by program out of: SpecB. -/
import Derived.Test.YtgoeiflddikihaaGreatDoorCsgM3
import Derived.Test.YtgoeiflddikihaaGreatDoorCsgM25
section
namespace Go.Proofs.YtgoeiflddikihaaGreatDoor.Ver
set_option linter.unusedSimpArgs false
set_option linter.unusedVariables false
open Go.RowKit Go.Proofs.YtgoeiflddikihaaGreatDoor.Dig Go.Proofs.YtgoeiflddikihaaGreatDoorW.PrintWords Go.Proofs.YtgoeiflddikihaaGreatDoor.Mem
instance : RowC Tryz.prog 30 3 := ⟨⟨_, Tryz.underlying30, rfl⟩, by kernel_rfl⟩
instance : OneC Tryz.prog 2 := ⟨⟨_, Tryz.underlying2, rfl⟩, by kernel_rfl⟩
theorem Blks.strsAdd {w0 w w1 : World} {L : List Blk} (h : Blks w0 w L) (hb : Below w.heap.size w w1) {P : Value} {pp : List ByteArray} (hP : StrsAt 9 w1 w.heap.size P pp) : ∃ X, PreOk pp P X ∧ Blks w0 w1 (L ++ X) := by
  rcases hP with ⟨rfl, rfl⟩ | ⟨g, cap, cells, rest, rfl, h1, h2, h3⟩
  · exact ⟨[], Or.inl ⟨rfl, rfl, rfl⟩, by rw [List.append_nil]; exact h.call hb⟩
  · exact ⟨_, Or.inr ⟨g, cap, rest, rfl, rfl⟩, (h.add hb h1 h2 h3).perm (List.perm_append_comm (l₁ := [_]) (l₂ := L))⟩
def svOf (t : ByteArray) : SV := match qSemB0 t.data.toList with
  | none => zV
  | some (ns, pre, mt) => ⟨(ns.getD 0 0 : Nat), (ns.getD 1 0 : Nat), (ns.getD 2 0 : Nat), mkB pre, mkB mt, t⟩
def cntOf (t : ByteArray) : Nat := match qSemB0 t.data.toList with
  | none => 0
  | some (ns, _, _) => ns.length
theorem sv_read (t : ByteArray) (h : (qSemB0 t.data.toList).isSome = true) : readV t = some (svOf t, cntOf t) := by
  rw [readV_eq, qReadB]
  unfold svOf cntOf
  cases hq : qSemB0 t.data.toList with
  | none => rw [hq] at h; cases h
  | some q => obtain ⟨ns, pre, mt⟩ := q; rfl
theorem read_no (t : ByteArray) (ht : t.size ≤ 2200000000) (h : (qSemB0 t.data.toList).isSome = false) (w : World) : Calls Tryz.prog 34 #[.string t] w (RdNo w) := by
  refine (read_sem t ht w).mono ?_
  intro e w' hE
  cases hq : qSemB0 t.data.toList with
  | none => rw [hq] at hE; exact hE
  | some q => rw [hq] at h; cases h
end Go.Proofs.YtgoeiflddikihaaGreatDoor.Ver
end
