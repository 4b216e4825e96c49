/- Merged by program out of: PFnIntersectAnyx0, Pcomparex0, Pfirstx0, VBase. -/
import Derived.Test.YtgoeiflddikihaaGreatDoorProg
import Derived.Below
import Derived.Deep.Draws
import Derived.Deep.AppendLies
import Derived.Maps.AppendAt
import Derived.OwnWalk
import Derived.Laws.BytesArg
import Derived.Laws.MakeOwn
import Derived.Laws.OwnMore
import Derived.Deep.OwnRows
import Derived.Tactics
import Derived.Lib.ConvBytes
import Derived.Laws.Slices
import Derived.WalkKit
import Derived.KernelRfl
import Derived.RowKit3
import Derived.Deep.LoopGhost
import Derived.Deep.QuietTactic
import Derived.BigQuiet
import Derived.WideLaws
import Derived.Deep.DeepCutAuto
import Derived.Deep.CutBlock
import Derived.Deep.RegionHeld3
import Derived.Laws.Rows
import Derived.Lib.AppendStr
import Derived.ArgAppend
import Derived.Laws.IdiomCopy
import Derived.OrdersHeld
import Derived.Laws.BitsLemmas
import Derived.RowKit
import Derived.Test.YtgoeiflddikihaaGreatDoorCpM0
import Derived.Test.YtgoeiflddikihaaGreatDoorCpM1
import Derived.Test.YtgoeiflddikihaaGreatDoorCpM2
import Derived.Stop.Asserts
import Derived.Lib.Hide
import Derived.WalkSpells
section
namespace Go.Proofs.YtgoeiflddikihaaGreatDoor.PFnIntersectAny
open Go.RowKit Go.Proofs.YtgoeiflddikihaaGreatDoorW.PrintWords Go.Proofs.YtgoeiflddikihaaGreatDoorW.PrintLast Go.Proofs.YtgoeiflddikihaaGreatDoorW.PrintMore
attribute [local go_sem] max2_int min2_int max_two min_two max_three min_three max_four min_four   -- for this text's walks alone
set_option linter.unusedVariables false
set_option linter.unusedSimpArgs false
def errW : Option Int → Value
  | none => .nilIface
  | some c => .iface 267 (.int .i64 c)
theorem errW_none : errW none = .nilIface := rfl
theorem errW_some (c : Int) : errW (some c) = .iface 267 (.int .i64 c) := rfl
theorem info9 : (Tryz.prog.info? 9).map (fun i => (i.zero, i.size, i.bytes)) = some (some (.string ⟨#[]⟩), 1, 16) := by kernel_rfl
structure S27 where
  f0 : Int
  f1 : ByteArray
  f2 : ByteArray
def z27 : S27 := ⟨(0 : Int), (⟨#[]⟩ : ByteArray), (⟨#[]⟩ : ByteArray)⟩
def k27 : Kd S27 := Kd.iso (Kd.pair (Kd.int .i64) (Kd.pair Kd.string Kd.string)) (fun x : S27 => (x.f0, x.f1, x.f2))
theorem k27_open {w : World} {x : S27} {cs : List Value} (h : k27.K w x cs) : cs = [.int .i64 x.f0, .string x.f1, .string x.f2] := by
  obtain ⟨_, _, rfl, rfl, ⟨_, _, rfl, rfl, rfl⟩⟩ := h
  exact rfl
theorem k27_mkM (w : World) (base : Nat) (ok : Nat → Prop) (x : S27)  : k27.M w base ok x [.int .i64 x.f0, .string x.f1, .string x.f2] := ⟨[.int .i64 x.f0], [.string x.f1, .string x.f2], rfl, rfl, ⟨[.string x.f1], [.string x.f2], rfl, rfl, rfl⟩⟩
def rd_T27 (xs : List S27) (i : Int) : S27 := xs.getD i.toNat z27
theorem at_T27 {w : World} {A : Option Addr} {n : Nat} {xs : List S27} (h : Kd.C k27 w A n xs) (i : Int) (h0 : 0 ≤ i) (h1 : i < n) : ∃ ad , A = some ad ∧ w.cell? (ad.add (i.toNat * 3)) = some (.int .i64 (rd_T27 xs i).f0) ∧ w.cell? ⟨(ad.add (i.toNat * 3)).block, (ad.add (i.toNat * 3)).off + 1, none⟩ = some (.string (rd_T27 xs i).f1) ∧ w.cell? ⟨(ad.add (i.toNat * 3)).block, (ad.add (i.toNat * 3)).off + 2, none⟩ = some (.string (rd_T27 xs i).f2) := by
  obtain ⟨ad, c, e, _, hK, hc0⟩ := Kd.C_get h z27 i h0 h1
  have hc : ∀ j u, c[j]? = some u → w.cell? (ad.add (i.toNat * 3 + j)) = some u := hc0
  obtain rfl := k27_open hK
  exact ⟨ad, e, hc 0 _ rfl, by rw [← add_field _ _ 1 (by omega)]; exact hc 1 _ rfl, by rw [← add_field _ _ 2 (by omega)]; exact hc 2 _ rfl⟩
structure S30 where
  f0 : Int
  f1 : ByteArray
  f2 : ByteArray
def z30 : S30 := ⟨(0 : Int), (⟨#[]⟩ : ByteArray), (⟨#[]⟩ : ByteArray)⟩
def k30 : Kd S30 := Kd.iso (Kd.pair (Kd.int .i64) (Kd.pair Kd.string Kd.string)) (fun x : S30 => (x.f0, x.f1, x.f2))
theorem k30_open {w : World} {x : S30} {cs : List Value} (h : k30.K w x cs) : cs = [.int .i64 x.f0, .string x.f1, .string x.f2] := by
  obtain ⟨_, _, rfl, rfl, ⟨_, _, rfl, rfl, rfl⟩⟩ := h
  exact rfl
theorem k30_openM {w : World} {base : Nat} {ok : Nat → Prop} {x : S30} {cs : List Value} (h : k30.M w base ok x cs) : cs = [.int .i64 x.f0, .string x.f1, .string x.f2] := by
  obtain ⟨_, _, rfl, rfl, ⟨_, _, rfl, rfl, rfl⟩⟩ := h
  exact rfl
theorem k30_mk (w : World) (x : S30)  : k30.K w x [.int .i64 x.f0, .string x.f1, .string x.f2] := ⟨[.int .i64 x.f0], [.string x.f1, .string x.f2], rfl, rfl, ⟨[.string x.f1], [.string x.f2], rfl, rfl, rfl⟩⟩
theorem k30_mkM (w : World) (base : Nat) (ok : Nat → Prop) (x : S30)  : k30.M w base ok x [.int .i64 x.f0, .string x.f1, .string x.f2] := ⟨[.int .i64 x.f0], [.string x.f1, .string x.f2], rfl, rfl, ⟨[.string x.f1], [.string x.f2], rfl, rfl, rfl⟩⟩
def rd_T30 (xs : List S30) (i : Int) : S30 := xs.getD i.toNat z30
theorem at_T30 {w : World} {A : Option Addr} {n : Nat} {xs : List S30} (h : Kd.C k30 w A n xs) (i : Int) (h0 : 0 ≤ i) (h1 : i < n) : ∃ ad , A = some ad ∧ w.cell? (ad.add (i.toNat * 3)) = some (.int .i64 (rd_T30 xs i).f0) ∧ w.cell? ⟨(ad.add (i.toNat * 3)).block, (ad.add (i.toNat * 3)).off + 1, none⟩ = some (.string (rd_T30 xs i).f1) ∧ w.cell? ⟨(ad.add (i.toNat * 3)).block, (ad.add (i.toNat * 3)).off + 2, none⟩ = some (.string (rd_T30 xs i).f2) := by
  obtain ⟨ad, c, e, _, hK, hc0⟩ := Kd.C_get h z30 i h0 h1
  have hc : ∀ j u, c[j]? = some u → w.cell? (ad.add (i.toNat * 3 + j)) = some u := hc0
  obtain rfl := k30_open hK
  exact ⟨ad, e, hc 0 _ rfl, by rw [← add_field _ _ 1 (by omega)]; exact hc 1 _ rfl, by rw [← add_field _ _ 2 (by omega)]; exact hc 2 _ rfl⟩
end Go.Proofs.YtgoeiflddikihaaGreatDoor.PFnIntersectAny
end
section
namespace Go.Proofs.YtgoeiflddikihaaGreatDoor.Pcompare
open Go.RowKit Go.Proofs.YtgoeiflddikihaaGreatDoorW.PrintWords Go.Proofs.YtgoeiflddikihaaGreatDoorW.PrintLast Go.Proofs.YtgoeiflddikihaaGreatDoorW.PrintMore
attribute [local go_sem] max2_int min2_int max_two min_two max_three min_three max_four min_four   -- for this text's walks alone
set_option linter.unusedVariables false
set_option linter.unusedSimpArgs false
def errW : Option Int → Value
  | none => .nilIface
  | some c => .iface 0 (.int .i64 c)
theorem errW_none : errW none = .nilIface := rfl
theorem errW_some (c : Int) : errW (some c) = .iface 0 (.int .i64 c) := rfl
end Go.Proofs.YtgoeiflddikihaaGreatDoor.Pcompare
end
section
namespace Go.Proofs.YtgoeiflddikihaaGreatDoor.Pfirst
open Go.RowKit Go.Proofs.YtgoeiflddikihaaGreatDoorW.PrintWords Go.Proofs.YtgoeiflddikihaaGreatDoorW.PrintLast Go.Proofs.YtgoeiflddikihaaGreatDoorW.PrintMore
attribute [local go_sem] max2_int min2_int max_two min_two max_three min_three max_four min_four   -- for this text's walks alone
set_option linter.unusedVariables false
set_option linter.unusedSimpArgs false
def errW : Option Int → Value
  | none => .nilIface
  | some c => .iface 0 (.int .i64 c)
theorem errW_none : errW none = .nilIface := rfl
theorem errW_some (c : Int) : errW (some c) = .iface 0 (.int .i64 c) := rfl
end Go.Proofs.YtgoeiflddikihaaGreatDoor.Pfirst
end
section
namespace Go.Proofs.YtgoeiflddikihaaGreatDoor.Ver
open Go.RowKit Go.Proofs.YtgoeiflddikihaaGreatDoorW.PrintWords
structure SV where
  major : Int
  minor : Int
  patch : Int
  pre : ByteArray
  mt : ByteArray
  orig : ByteArray
def SV.cells (v : SV) : Array Value := #[.int .u64 v.major, .int .u64 v.minor, .int .u64 v.patch, .string v.pre, .string v.mt, .string v.orig]
inductive Unp where
  | branch (name : ByteArray) (dflt : Bool)
  | plain (s : ByteArray)
  | sem (v : SV)
inductive Vers where
  | rev (s : ByteArray)
  | un (u : Unp)
  | pair (u : Unp) (r : ByteArray)
def Unp.tid : Unp → TypeId
  | .branch _ _ => 215
  | .plain _ => 224
  | .sem _ => 200
def Unp.inner : Unp → Value
  | .branch n d => .agg #[.string n, .bool d]
  | .plain s => .string s
  | .sem v => .agg v.cells
def Unp.val (u : Unp) : Value := .iface u.tid u.inner
def Vers.tid : Vers → TypeId
  | .rev _ => 135
  | .un u => u.tid
  | .pair _ _ => 212
def Vers.inner : Vers → Value
  | .rev s => .string s
  | .un u => u.inner
  | .pair u r => .agg #[u.val, .string r]
def Vers.val (v : Vers) : Value := .iface v.tid v.inner
theorem m_rev_String (v : Value) (w : World) : (method 417 135 v "String").run Tryz.prog w = .ok (101, v) w := by kernel_rfl
theorem m_rev_Type (v : Value) (w : World) : (method 417 135 v "Type").run Tryz.prog w = .ok (198, v) w := by kernel_rfl
theorem m_sem_ImpliedCaretString (v : Value) (w : World) : (method 417 200 v "ImpliedCaretString").run Tryz.prog w = .ok (237, v) w := by kernel_rfl
theorem m_sem_Pair (v : Value) (w : World) : (method 417 200 v "Pair").run Tryz.prog w = .ok (241, v) w := by kernel_rfl
theorem m_sem_String (v : Value) (w : World) : (method 417 200 v "String").run Tryz.prog w = .ok (242, v) w := by kernel_rfl
theorem m_sem_Type (v : Value) (w : World) : (method 417 200 v "Type").run Tryz.prog w = .ok (243, v) w := by kernel_rfl
theorem m_sc_Matches (v : Value) (w : World) : (method 417 202 v "Matches").run Tryz.prog w = .ok (251, v) w := by kernel_rfl
theorem m_pair_ImpliedCaretString (v : Value) (w : World) : (method 417 212 v "ImpliedCaretString").run Tryz.prog w = .ok (263, v) w := by kernel_rfl
theorem m_pair_Revision (v : Value) (w : World) : (method 417 212 v "Revision").run Tryz.prog w = .ok (267, v) w := by kernel_rfl
theorem m_pair_String (v : Value) (w : World) : (method 417 212 v "String").run Tryz.prog w = .ok (268, v) w := by kernel_rfl
theorem m_pair_Type (v : Value) (w : World) : (method 417 212 v "Type").run Tryz.prog w = .ok (269, v) w := by kernel_rfl
theorem m_pair_Unpair (v : Value) (w : World) : (method 417 212 v "Unpair").run Tryz.prog w = .ok (270, v) w := by kernel_rfl
theorem m_branch_Pair (v : Value) (w : World) : (method 417 215 v "Pair").run Tryz.prog w = .ok (278, v) w := by kernel_rfl
theorem m_branch_String (v : Value) (w : World) : (method 417 215 v "String").run Tryz.prog w = .ok (279, v) w := by kernel_rfl
theorem m_branch_Type (v : Value) (w : World) : (method 417 215 v "Type").run Tryz.prog w = .ok (280, v) w := by kernel_rfl
theorem m_plain_Pair (v : Value) (w : World) : (method 417 224 v "Pair").run Tryz.prog w = .ok (288, v) w := by kernel_rfl
theorem m_plain_String (v : Value) (w : World) : (method 417 224 v "String").run Tryz.prog w = .ok (289, v) w := by kernel_rfl
theorem m_plain_Type (v : Value) (w : World) : (method 417 224 v "Type").run Tryz.prog w = .ok (290, v) w := by kernel_rfl
theorem m_range_Intersect (v : Value) (w : World) : (method 417 238 v "Intersect").run Tryz.prog w = .ok (295, v) w := by kernel_rfl
theorem m_range_Matches (v : Value) (w : World) : (method 417 238 v "Matches").run Tryz.prog w = .ok (296, v) w := by kernel_rfl
end Go.Proofs.YtgoeiflddikihaaGreatDoor.Ver
end
