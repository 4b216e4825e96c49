/- Merged by program out of: VarsRow. -/
import Derived.Test.YtgoeiflddikihaaGreatDoorCsgM2
import Derived.Test.YtgoeiflddikihaaGreatDoorRows
import Derived.Deep.DeepHandedRow
import Derived.Lib.LaidTab
import Derived.Stop.LaidErr
import Derived.MakeChecks
import Derived.ProofKit
section
namespace Go.Proofs.YtgoeiflddikihaaGreatDoor.VarsRow
open Go.RowKit Go.Proofs.YtgoeiflddikihaaGreatDoor.Dig
theorem own : ownKnob Tryz.prog.godebug = none := by kernel_rfl
theorem laidOut : laidOutB Tryz.prog = true := by kernel_rfl
def laid5 {H : Type} : List (String × DataW H) := [("math/bits.deBruijn32tab", Rows.laid_math_bits_deBruijn32tab), ("math/bits.deBruijn64tab", Rows.laid_math_bits_deBruijn64tab), ("internal/strconv.uint64pow10", Rows.laid_internal_strconv_uint64pow10), ("strconv.ErrRange", Rows.laid_strconv_ErrRange), ("strconv.ErrSyntax", Rows.laid_strconv_ErrSyntax)]
theorem gPow : Tryz.prog.globalNamed "internal/strconv.uint64pow10" = some 2 := by kernel_rfl
theorem gPowType : (Tryz.prog.globals[2]?).map (·.type) = some 282 := by kernel_rfl
theorem cPow : Tryz.prog.cellsOf 282 = 20 := by kernel_rfl
theorem cU64 : Tryz.prog.cellsOf 46 = 1 := by kernel_rfl
theorem gRng : Tryz.prog.globalNamed "strconv.ErrRange" = some 1 := by kernel_rfl
theorem gSyn : Tryz.prog.globalNamed "strconv.ErrSyntax" = some 0 := by kernel_rfl
theorem gRngType : (Tryz.prog.globals[1]?).map (·.type) = some 166 := by kernel_rfl
theorem gSynType : (Tryz.prog.globals[0]?).map (·.type) = some 166 := by kernel_rfl
theorem powData {H : Type} : (Rows.laid_internal_strconv_uint64pow10 : DataW H) = Lib.tabData .u64 Lib.pow10Tab := by rfl
theorem cErr : Tryz.prog.cellsOf 262 = 1 := by kernel_rfl
theorem cStr : Tryz.prog.cellsOf 9 = 1 := by kernel_rfl
theorem star : "*" ++ "errors.errorString" = "*errors.errorString" := by decide
theorem errName (u : TypeId) (h : Tryz.prog.typeName? 3 u = some "*errors.errorString") : u = 260 :=
  typeName_ptr_named (nm := "errors.errorString") (by rw [star]; kernel_rfl) (by kernel_rfl) (by decide) u (by rw [star]; exact h)
theorem vars_of {W : World} (h : laidMetH Tryz.prog laid5 W) : Vars W := by
  rw [Go.MakeChecks.laidMetH_plain _ _ _ (by kernel_rfl)] at h
  have h3 : laidMet Tryz.prog (("internal/strconv.uint64pow10", Lib.tabData .u64 Lib.pow10Tab) :: [("strconv.ErrRange", Rows.laid_strconv_ErrRange), ("strconv.ErrSyntax", Rows.laid_strconv_ErrSyntax)]) W := by
    have := h.tail.tail
    rw [powData] at this
    exact this
  have h4 := h.tail.tail.tail
  have h5 := h4.tail
  obtain ⟨a1, s1, hv1, _⟩ := laid_sentinel h4 gRng gRngType Tryz.underlying166 errName Tryz.underlying260 Tryz.underlying262 rfl rfl Tryz.underlying9 cErr cStr
  obtain ⟨a2, s2, hv2, _⟩ := laid_sentinel h5 gSyn gSynType Tryz.underlying166 errName Tryz.underlying260 Tryz.underlying262 rfl rfl Tryz.underlying9 cErr cStr
  exact ⟨⟨_, _, hv2⟩, ⟨_, _, hv1⟩, Lib.tabIs_of_head gPow gPowType Tryz.underlying282 Tryz.underlying46 cU64 cPow h3⟩
abbrev synS : ByteArray := { data := #[105, 110, 118, 97, 108, 105, 100, 32, 115, 121, 110, 116, 97, 120] }
abbrev rngS : ByteArray := { data := #[118, 97, 108, 117, 101, 32, 111, 117, 116, 32, 111, 102, 32, 114, 97, 110, 103, 101] }
noncomputable def low : Nat := (World.holding Tryz.prog default ⟨#[], #[], []⟩).heap.size
def cellsOfData : DataW Unit → Array Value
  | .agg l => (l.map fun | .lit (.int k n) => Value.int k n | _ => .nilFunc).toArray
  | _ => #[]
def setTo (cs : Array Value) : Obj → Obj
  | .cells _ t frozen => .cells cs t frozen
  | o => o
noncomputable def laidWorld (os : Os) : World :=
  let w0 := World.holding Tryz.prog os ⟨#[.cells #[.string synS] 262, .cells #[.string rngS] 262], #[], []⟩
  { w0 with heap := ((((w0.heap.modify 0 (setTo #[.iface 260 (.pointer (some ⟨low, 0, none⟩))])).modify 1 (setTo #[.iface 260 (.pointer (some ⟨low + 1, 0, none⟩))])).modify 2 (setTo (cellsOfData Rows.laid_internal_strconv_uint64pow10))).modify 3 (setTo (cellsOfData Rows.laid_math_bits_deBruijn32tab))).modify 4 (setTo (cellsOfData Rows.laid_math_bits_deBruijn64tab)) }
theorem laid_met (os : Os) (args : Array Value) : laidMet Tryz.prog laid5 ((laidWorld os).forCall (fun _ _ => 0) ⟨#[], args, []⟩).memory :=
  laidMet_of_run' 8 (by kernel_rfl) (by kernel_rfl)
end Go.Proofs.YtgoeiflddikihaaGreatDoor.VarsRow
end
