/- What the rows' listed variables give ('Vars'), and one world that holds them: for every row of this seat. -/
import Derived.Test.YtehcnjjkklogbaaDoorVars
import Derived.Test.YtehcnjjkklogbaaDoorRows
import Derived.Deep.DeepHandedRow
import Derived.Lib.LaidTab
import Derived.Stop.LaidErr
import Derived.MakeChecks
import Derived.ProofKit
namespace Go.Proofs.YtehcnjjkklogbaaDoor.VarsRow
open Go.RowKit Go.Proofs.YtehcnjjkklogbaaDoor.Dig

theorem own : ownKnob Tryd.prog.godebug = none := by kernel_rfl
theorem laidOut : laidOutB Tryd.prog = true := by kernel_rfl

def laid5 {H : Type} : List (String × DataW H) := [("math/bits.deBruijn32tab", Rows.laid_math_bits_deBruijn32tab), ("math/bits.deBruijn64tab", Rows.laid_math_bits_deBruijn64tab), ("internal/strconv.uint64pow10", Rows.laid_internal_strconv_uint64pow10), ("strconv.ErrRange", Rows.laid_strconv_ErrRange), ("strconv.ErrSyntax", Rows.laid_strconv_ErrSyntax)]

theorem gPow : Tryd.prog.globalNamed "internal/strconv.uint64pow10" = some 2 := by kernel_rfl
theorem gPowType : (Tryd.prog.globals[2]?).map (·.type) = some 75 := by kernel_rfl
theorem cPow : Tryd.prog.cellsOf 75 = 20 := by kernel_rfl
theorem cU64 : Tryd.prog.cellsOf 61 = 1 := by kernel_rfl
theorem gRng : Tryd.prog.globalNamed "strconv.ErrRange" = some 1 := by kernel_rfl
theorem gSyn : Tryd.prog.globalNamed "strconv.ErrSyntax" = some 0 := by kernel_rfl
theorem gRngType : (Tryd.prog.globals[1]?).map (·.type) = some 35 := by kernel_rfl
theorem gSynType : (Tryd.prog.globals[0]?).map (·.type) = some 35 := by kernel_rfl
theorem powData {H : Type} : (Rows.laid_internal_strconv_uint64pow10 : DataW H) = Lib.tabData .u64 Lib.pow10Tab := by rfl
theorem cErr : Tryd.prog.cellsOf 51 = 1 := by kernel_rfl
theorem cStr : Tryd.prog.cellsOf 9 = 1 := by kernel_rfl
theorem star : "*" ++ "errors.errorString" = "*errors.errorString" := by decide
theorem errName (u : TypeId) (h : Tryd.prog.typeName? 3 u = some "*errors.errorString") : u = 49 :=
  typeName_ptr_named (nm := "errors.errorString") (by rw [star]; kernel_rfl) (by kernel_rfl) (by decide) u (by rw [star]; exact h)

theorem vars_of {W : World} (h : laidMetH Tryd.prog laid5 W) : Vars W := by
  rw [Go.MakeChecks.laidMetH_plain _ _ _ (by kernel_rfl)] at h
  have h3 : laidMet Tryd.prog (("internal/strconv.uint64pow10", Lib.tabData .u64 Lib.pow10Tab) :: [("strconv.ErrRange", Rows.laid_strconv_ErrRange), ("strconv.ErrSyntax", Rows.laid_strconv_ErrSyntax)]) W := by
    have := h.tail.tail
    rw [powData] at this
    exact this
  have h4 := h.tail.tail.tail
  have h5 := h4.tail
  obtain ⟨a1, s1, hv1, _⟩ := laid_sentinel h4 gRng gRngType Tryd.underlying35 errName Tryd.underlying49 Tryd.underlying51 rfl rfl Tryd.underlying9 cErr cStr
  obtain ⟨a2, s2, hv2, _⟩ := laid_sentinel h5 gSyn gSynType Tryd.underlying35 errName Tryd.underlying49 Tryd.underlying51 rfl rfl Tryd.underlying9 cErr cStr
  exact ⟨⟨_, _, hv2⟩, ⟨_, _, hv1⟩, Lib.tabIs_of_head gPow gPowType Tryd.underlying75 Tryd.underlying61 cU64 cPow h3⟩

/-! ### One start that fits -/
abbrev synS : ByteArray := { data := #[105, 110, 118, 97, 108, 105, 100, 32, 115, 121, 110, 116, 97, 120] }
abbrev rngS : ByteArray := { data := #[118, 97, 108, 117, 101, 32, 111, 117, 116, 32, 111, 102, 32, 114, 97, 110, 103, 101] }
noncomputable def low : Nat := (World.holding Tryd.prog default ⟨#[], #[], []⟩).heap.size
def cellsOfData : DataW Unit → Array Value
  | .agg l => (l.map fun | .lit (.int k n) => Value.int k n | _ => .nilFunc).toArray
  | _ => #[]
def setTo (cs : Array Value) : Obj → Obj
  | .cells _ t frozen => .cells cs t frozen
  | o => o
noncomputable def laidWorld (os : Os) : World :=
  let w0 := World.holding Tryd.prog os ⟨#[.cells #[.string synS] 51, .cells #[.string rngS] 51], #[], []⟩
  { w0 with heap := ((((w0.heap.modify 0 (setTo #[.iface 49 (.pointer (some ⟨low, 0, none⟩))])).modify 1 (setTo #[.iface 49 (.pointer (some ⟨low + 1, 0, none⟩))])).modify 2 (setTo (cellsOfData Rows.laid_internal_strconv_uint64pow10))).modify 3 (setTo (cellsOfData Rows.laid_math_bits_deBruijn32tab))).modify 4 (setTo (cellsOfData Rows.laid_math_bits_deBruijn64tab)) }
theorem laid_met (os : Os) (args : Array Value) : laidMet Tryd.prog laid5 ((laidWorld os).forCall (fun _ _ => 0) ⟨#[], args, []⟩).memory :=
  laidMet_of_run' 8 (by kernel_rfl) (by kernel_rfl)

end Go.Proofs.YtehcnjjkklogbaaDoor.VarsRow
