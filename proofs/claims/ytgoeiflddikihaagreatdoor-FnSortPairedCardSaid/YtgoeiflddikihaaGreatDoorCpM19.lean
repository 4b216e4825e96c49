/- Merged by program out of: VAs, Scm. -/
import Derived.Test.YtgoeiflddikihaaGreatDoorCpM18
import Derived.Test.YtgoeiflddikihaaGreatDoorCpM9
import Derived.Test.YtgoeiflddikihaaGreatDoorCpM16
section
namespace Go.Proofs.YtgoeiflddikihaaGreatDoor.Ver
open Go.RowKit
theorem c_rev_rev (v : Value) (xT : TypeId) (w : World) : (Instr.typeAssert (.iface 135 v) xT 135 true).run Tryz.prog w = .ok (.tuple #[v, .bool true]) w := by kernel_rfl
theorem c_rev_branch (v : Value) (xT : TypeId) (w : World) : (Instr.typeAssert (.iface 135 v) xT 215 true).run Tryz.prog w = .ok (.tuple #[.agg #[.string ⟨#[]⟩, .bool false], .bool false]) w := by kernel_rfl
theorem c_rev_plain (v : Value) (xT : TypeId) (w : World) : (Instr.typeAssert (.iface 135 v) xT 224 true).run Tryz.prog w = .ok (.tuple #[.string ⟨#[]⟩, .bool false]) w := by kernel_rfl
theorem c_rev_sem (v : Value) (xT : TypeId) (w : World) : (Instr.typeAssert (.iface 135 v) xT 200 true).run Tryz.prog w = .ok (.tuple #[.agg zSV, .bool false]) w := by kernel_rfl
theorem c_rev_pair (v : Value) (xT : TypeId) (w : World) : (Instr.typeAssert (.iface 135 v) xT 212 true).run Tryz.prog w = .ok (.tuple #[.agg #[.nilIface, .string ⟨#[]⟩], .bool false]) w := by kernel_rfl
theorem c_branch_rev (v : Value) (xT : TypeId) (w : World) : (Instr.typeAssert (.iface 215 v) xT 135 true).run Tryz.prog w = .ok (.tuple #[.string ⟨#[]⟩, .bool false]) w := by kernel_rfl
theorem c_branch_branch (v : Value) (xT : TypeId) (w : World) : (Instr.typeAssert (.iface 215 v) xT 215 true).run Tryz.prog w = .ok (.tuple #[v, .bool true]) w := by kernel_rfl
theorem c_branch_plain (v : Value) (xT : TypeId) (w : World) : (Instr.typeAssert (.iface 215 v) xT 224 true).run Tryz.prog w = .ok (.tuple #[.string ⟨#[]⟩, .bool false]) w := by kernel_rfl
theorem c_branch_sem (v : Value) (xT : TypeId) (w : World) : (Instr.typeAssert (.iface 215 v) xT 200 true).run Tryz.prog w = .ok (.tuple #[.agg zSV, .bool false]) w := by kernel_rfl
theorem c_branch_pair (v : Value) (xT : TypeId) (w : World) : (Instr.typeAssert (.iface 215 v) xT 212 true).run Tryz.prog w = .ok (.tuple #[.agg #[.nilIface, .string ⟨#[]⟩], .bool false]) w := by kernel_rfl
theorem c_plain_rev (v : Value) (xT : TypeId) (w : World) : (Instr.typeAssert (.iface 224 v) xT 135 true).run Tryz.prog w = .ok (.tuple #[.string ⟨#[]⟩, .bool false]) w := by kernel_rfl
theorem c_plain_branch (v : Value) (xT : TypeId) (w : World) : (Instr.typeAssert (.iface 224 v) xT 215 true).run Tryz.prog w = .ok (.tuple #[.agg #[.string ⟨#[]⟩, .bool false], .bool false]) w := by kernel_rfl
theorem c_plain_plain (v : Value) (xT : TypeId) (w : World) : (Instr.typeAssert (.iface 224 v) xT 224 true).run Tryz.prog w = .ok (.tuple #[v, .bool true]) w := by kernel_rfl
theorem c_plain_sem (v : Value) (xT : TypeId) (w : World) : (Instr.typeAssert (.iface 224 v) xT 200 true).run Tryz.prog w = .ok (.tuple #[.agg zSV, .bool false]) w := by kernel_rfl
theorem c_plain_pair (v : Value) (xT : TypeId) (w : World) : (Instr.typeAssert (.iface 224 v) xT 212 true).run Tryz.prog w = .ok (.tuple #[.agg #[.nilIface, .string ⟨#[]⟩], .bool false]) w := by kernel_rfl
theorem c_sem_rev (v : Value) (xT : TypeId) (w : World) : (Instr.typeAssert (.iface 200 v) xT 135 true).run Tryz.prog w = .ok (.tuple #[.string ⟨#[]⟩, .bool false]) w := by kernel_rfl
theorem c_sem_branch (v : Value) (xT : TypeId) (w : World) : (Instr.typeAssert (.iface 200 v) xT 215 true).run Tryz.prog w = .ok (.tuple #[.agg #[.string ⟨#[]⟩, .bool false], .bool false]) w := by kernel_rfl
theorem c_sem_plain (v : Value) (xT : TypeId) (w : World) : (Instr.typeAssert (.iface 200 v) xT 224 true).run Tryz.prog w = .ok (.tuple #[.string ⟨#[]⟩, .bool false]) w := by kernel_rfl
theorem c_sem_sem (v : Value) (xT : TypeId) (w : World) : (Instr.typeAssert (.iface 200 v) xT 200 true).run Tryz.prog w = .ok (.tuple #[v, .bool true]) w := by kernel_rfl
theorem c_sem_pair (v : Value) (xT : TypeId) (w : World) : (Instr.typeAssert (.iface 200 v) xT 212 true).run Tryz.prog w = .ok (.tuple #[.agg #[.nilIface, .string ⟨#[]⟩], .bool false]) w := by kernel_rfl
theorem c_pair_rev (v : Value) (xT : TypeId) (w : World) : (Instr.typeAssert (.iface 212 v) xT 135 true).run Tryz.prog w = .ok (.tuple #[.string ⟨#[]⟩, .bool false]) w := by kernel_rfl
theorem c_pair_pair (v : Value) (xT : TypeId) (w : World) : (Instr.typeAssert (.iface 212 v) xT 212 true).run Tryz.prog w = .ok (.tuple #[v, .bool true]) w := by kernel_rfl
theorem c_range_sv (v : Value) (xT : TypeId) (w : World) : (Instr.typeAssert (.iface 238 v) xT 197 true).run Tryz.prog w = .ok (.tuple #[.agg zSV, .bool false]) w := by kernel_rfl
theorem c_range_range (v : Value) (xT : TypeId) (w : World) : (Instr.typeAssert (.iface 238 v) xT 238 true).run Tryz.prog w = .ok (.tuple #[v, .bool true]) w := by kernel_rfl
end Go.Proofs.YtgoeiflddikihaaGreatDoor.Ver
end
section
namespace Go.Proofs.YtgoeiflddikihaaGreatDoor.Ver
open Go.RowKit Go.Proofs.YtgoeiflddikihaaGreatDoorW.PrintWords
theorem scm (rv : Value) (v : SV) (w : World)
    (hm : ∀ W, Below w.heap.size w W → Calls Tryz.prog 296 #[.agg #[rv], .agg v.cells] W fun e w' => e = .returned .nilIface ∧ Below W.heap.size W w') :
    Calls Tryz.prog 251 #[.agg #[.iface 238 (.agg #[rv])], Vers.val (.un (.sem v))] w fun e w' => e = .returned (.bool true) ∧ Below w.heap.size w w' := by
  have HM := Lib.hid hm
  have HB := Aside0.mk (Below.refl w.heap.size w)
  have f1 := c_sem_sem
  have f2 := m_range_Matches
  obtain ⟨va, vb, vc, vp, vm, vo⟩ := v
  dsimp only [Vers.val, Vers.tid, Vers.inner, Unp.val, Unp.tid, Unp.inner, SV.cells] at HM ⊢
  clear hm
  go_enter Tryz.func251, Tryz.ntmps251
  go_wp2_with (first
    | (go_at_call 296; ((with_reducible refine (HM.out _ (by repeat (first | exact HB.out | apply below_alloc | apply pw_below_drewN))).mono ?_); rintro e w1 ⟨rfl, hb1⟩; have HB5 := Aside0.mk (below_trans (by repeat (first | exact HB.out | apply below_alloc | apply pw_below_drewN)) hb1); clear hb1)))
  go_ret
  exact ⟨rfl, HB5.out⟩
end Go.Proofs.YtgoeiflddikihaaGreatDoor.Ver
end
