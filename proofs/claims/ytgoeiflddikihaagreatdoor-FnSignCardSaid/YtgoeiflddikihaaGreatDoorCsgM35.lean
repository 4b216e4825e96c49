/- Merged by program out of: SpecD. -/
import Derived.Test.YtgoeiflddikihaaGreatDoorCsgM3
import Derived.Test.YtgoeiflddikihaaGreatDoorCsgM31
import Derived.Test.YtgoeiflddikihaaGreatDoorCsgM29
import Derived.Deep.Cut
import Derived.Deep.CutRange
import Derived.Deep.RegionWith
section
namespace Go.Proofs.YtgoeiflddikihaaGreatDoor.Ver
set_option linter.unusedSimpArgs false
set_option linter.unusedVariables false
open Go.Sort Go.RowKit Go.Proofs.YtgoeiflddikihaaGreatDoor.Dig Go.Proofs.YtgoeiflddikihaaGreatDoorW.PrintWords Go.Proofs.YtgoeiflddikihaaGreatDoor.Mem Go.Proofs.YtgoeiflddikihaaGreatDoor.Ord
theorem PreOk.val {pp : List ByteArray} {P : Value} {X : List Blk} (h : PreOk pp P X) : ∃ A c, P = .slice A pp.length c := by
 rcases h with ⟨rfl, rfl, _⟩ | ⟨g, cap, rest, rfl, _⟩ <;> exact ⟨_, _, rfl⟩
theorem PreOk.strsIn {pp : List ByteArray} {P : Value} {X L : List Blk} {w0 w : World} (h : PreOk pp P X) (H : Blks w0 w L) (hs : ∀ x ∈ X, x ∈ L) : StrsAt 9 w w0.heap.size P pp := by
 rcases h with ⟨rfl, rfl, rfl⟩ | ⟨g, cap, rest, rfl, rfl⟩
 ·exact Or.inl ⟨rfl, rfl⟩
 ·exact Blks.strs H (hs _ (List.mem_singleton.2 rfl))
theorem sem_ok {l : List UInt8} {ns : List Nat} {pre mt : List UInt8} (h : qSemB0 l = some (ns, pre, mt)) : (pre = [] ∨ qIdentsB pre = true) ∧ pre.length ≤ l.length := by
 unfold qSemB0 at h
 simp only at h
 split at h
 ·cases h
 ·split at h
  ·cases h
  ·rename_i mt' hm pre' hp
   split at h
   ·cases h
   ·split at h
    ·cases h
    ·simp only [Option.some.injEq, Prod.mk.injEq] at h
     obtain ⟨_, rfl, _⟩ := h
     have h1 := qCutAt_len 43 (bare0 l)
     have h2 := qCutAt_len 45 (qCutAt 43 (bare0 l)).1
     have h3 := bare0_len l
     unfold qOptB at hp
     split at hp
     ·simp only [Option.some.injEq] at hp; subst hp; simp
     ·rename_i p hq
      split at hp
      ·simp only [Option.some.injEq] at hp
       subst hp
       exact ⟨Or.inr (by assumption), by have := h2.2 p hq; omega⟩
      ·cases hp
end Go.Proofs.YtgoeiflddikihaaGreatDoor.Ver
end
