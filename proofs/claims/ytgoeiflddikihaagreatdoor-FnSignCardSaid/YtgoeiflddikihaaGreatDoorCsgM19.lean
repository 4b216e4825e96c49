/- Merged by program out of: VTold. -/
import Derived.Test.YtgoeiflddikihaaGreatDoorCsgM13
section
namespace Go.Proofs.YtgoeiflddikihaaGreatDoor.Ver
set_option linter.unusedSimpArgs false
open Go.RowKit Go.Proofs.YtgoeiflddikihaaGreatDoor.Dig Go.Proofs.YtgoeiflddikihaaGreatDoorW.PrintWords
theorem a_rev_U (v : Value) (xT : TypeId) (w : World) : (Instr.typeAssert (.iface 135 v) xT 138 true).run Tryz.prog w = .ok (.tuple #[.nilIface, .bool false]) w := run_typeAssert_lacksB Tryz.underlying138 (by kernel_rfl) (by kernel_rfl) v xT w
theorem a_rev_P (v : Value) (xT : TypeId) (w : World) : (Instr.typeAssert (.iface 135 v) xT 133 true).run Tryz.prog w = .ok (.tuple #[.nilIface, .bool false]) w := run_typeAssert_lacksB Tryz.underlying133 (by kernel_rfl) (by kernel_rfl) v xT w
theorem a_branch_U (v : Value) (xT : TypeId) (w : World) : (Instr.typeAssert (.iface 215 v) xT 138 true).run Tryz.prog w = .ok (.tuple #[.iface 215 v, .bool true]) w := run_typeAssert_hasB Tryz.underlying138 (by kernel_rfl) v xT w
theorem a_branch_P (v : Value) (xT : TypeId) (w : World) : (Instr.typeAssert (.iface 215 v) xT 133 true).run Tryz.prog w = .ok (.tuple #[.nilIface, .bool false]) w := run_typeAssert_lacksB Tryz.underlying133 (by kernel_rfl) (by kernel_rfl) v xT w
theorem a_plain_U (v : Value) (xT : TypeId) (w : World) : (Instr.typeAssert (.iface 224 v) xT 138 true).run Tryz.prog w = .ok (.tuple #[.iface 224 v, .bool true]) w := run_typeAssert_hasB Tryz.underlying138 (by kernel_rfl) v xT w
theorem a_plain_P (v : Value) (xT : TypeId) (w : World) : (Instr.typeAssert (.iface 224 v) xT 133 true).run Tryz.prog w = .ok (.tuple #[.nilIface, .bool false]) w := run_typeAssert_lacksB Tryz.underlying133 (by kernel_rfl) (by kernel_rfl) v xT w
theorem a_sem_U (v : Value) (xT : TypeId) (w : World) : (Instr.typeAssert (.iface 200 v) xT 138 true).run Tryz.prog w = .ok (.tuple #[.iface 200 v, .bool true]) w := run_typeAssert_hasB Tryz.underlying138 (by kernel_rfl) v xT w
theorem a_sem_P (v : Value) (xT : TypeId) (w : World) : (Instr.typeAssert (.iface 200 v) xT 133 true).run Tryz.prog w = .ok (.tuple #[.nilIface, .bool false]) w := run_typeAssert_lacksB Tryz.underlying133 (by kernel_rfl) (by kernel_rfl) v xT w
theorem a_pair_U (v : Value) (xT : TypeId) (w : World) : (Instr.typeAssert (.iface 212 v) xT 138 true).run Tryz.prog w = .ok (.tuple #[.nilIface, .bool false]) w := run_typeAssert_lacksB Tryz.underlying138 (by kernel_rfl) (by kernel_rfl) v xT w
theorem a_pair_P (v : Value) (xT : TypeId) (w : World) : (Instr.typeAssert (.iface 212 v) xT 133 true).run Tryz.prog w = .ok (.tuple #[.iface 212 v, .bool true]) w := run_typeAssert_hasB Tryz.underlying133 (by kernel_rfl) v xT w
def Unp.ty : Unp → Int
  | .branch _ _ => 3
  | .plain _ => 1
  | .sem _ => 2
def Unp.text : Unp → ByteArray
  | .branch n _ => n
  | .plain n => n
  | .sem v => if v.orig = ⟨#[]⟩ then semB v else v.orig
def Unp.caret : Unp → ByteArray
  | .branch n _ => n
  | .plain n => n
  | .sem v => ⟨#[61]⟩ ++ semB v
def Vers.unp : Vers → Option Unp
  | .rev _ => none
  | .un u => some u
  | .pair u _ => some u
def Vers.ty (v : Vers) : Int := match v.unp with
  | none => 0
  | some u => u.ty
def Vers.text : Vers → ByteArray
  | .rev s => s
  | .un u => u.text
  | .pair u _ => u.text
def Vers.caret : Vers → ByteArray
  | .rev s => s
  | .un u => u.caret
  | .pair u _ => u.caret
def Vers.revision : Vers → ByteArray
  | .rev s => s
  | .un _ => ⟨#[]⟩
  | .pair _ r => r
set_option maxRecDepth 20000 in
theorem comp_psem (v : SV) (ho : v.orig ≠ ⟨#[]⟩) (r : ByteArray) (w : World) : Calls Tryz.prog 75 #[(Vers.pair (.sem v) r).val] w fun e w' => e = .returned (.tuple #[.string r, .string ⟨#[]⟩, .string v.orig]) ∧ Below w.heap.size w w' := by
  have c0 := c_sem_rev
  have c1 := c_pair_rev
  have h0 := a_rev_U
  have h1 := a_rev_P
  have h2 := a_branch_U
  have h3 := a_branch_P
  have h4 := a_plain_U
  have h5 := a_plain_P
  have h6 := a_sem_U
  have h7 := a_sem_P
  have h8 := a_pair_U
  have h9 := a_pair_P
  have g0 := m_sem_Type
  have g1 := m_sem_String
  have g2 := m_pair_Type
  have g3 := m_pair_String
  have g4 := m_pair_Revision
  obtain ⟨va, vb, vc, vp, vm, vo⟩ := v
  have e1 : vo.toList.isEmpty = false := isEmpty_false (size_pos ho)
  clear ho
  dsimp only [Vers.val, Vers.tid, Vers.inner, Unp.val, Unp.tid, Unp.inner, SV.cells]
  go_enter Tryz.func75, Tryz.ntmps75
  go_wp2
  go_ret3
  exact ⟨rfl, by repeat (first | exact Below.refl _ _ | apply below_alloc | apply pw_below_drewN)⟩
end Go.Proofs.YtgoeiflddikihaaGreatDoor.Ver
end
