/- Merged by program out of: Opens2, PFnIntersectAnyx0, PFnVersionx0, Pcomparex0. -/
import Derived.Test.YtgoeiflddikihaaGreatDoorCvM4
import Derived.Test.YtgoeiflddikihaaGreatDoorProg
import Derived.Below
import Derived.Deep.Draws
import Derived.Deep.AppendLies
import Derived.Maps.AppendAt
import Derived.OwnWalk
import Derived.Laws.BytesArg
import Derived.Laws.MakeOwn
import Derived.Laws.OwnMore
import Derived.Deep.OwnRows
import Derived.Tactics
import Derived.Lib.ConvBytes
import Derived.Laws.Slices
import Derived.WalkKit
import Derived.KernelRfl
import Derived.RowKit3
import Derived.Deep.LoopGhost
import Derived.Deep.QuietTactic
import Derived.BigQuiet
import Derived.WideLaws
import Derived.Deep.DeepCutAuto
import Derived.Deep.CutBlock
import Derived.Deep.RegionHeld3
import Derived.Laws.Rows
import Derived.Lib.AppendStr
import Derived.ArgAppend
import Derived.Laws.IdiomCopy
import Derived.OrdersHeld
import Derived.Laws.BitsLemmas
import Derived.RowKit
import Derived.Test.YtgoeiflddikihaaGreatDoorCvM0
import Derived.Test.YtgoeiflddikihaaGreatDoorCvM1
import Derived.Test.YtgoeiflddikihaaGreatDoorCvM2
section
namespace Go.Proofs.YtgoeiflddikihaaGreatDoor.Opens
open Go.RowKit Go.Proofs.YtgoeiflddikihaaGreatDoorW.PrintWords
abbrev kVer : Kd (Int × ByteArray × ByteArray) := Kd.pair (Kd.int .i64) (Kd.pair Kd.string Kd.string)
theorem opens_ver : Opens Tryz.prog 27 kVer (fun a => (Lit.int .i64 a.1).wf = true ∧ a.2.1.size ≤ maxLen ∧ a.2.2.size ≤ maxLen) :=
  opens_imp (opens_struct Tryz.underlying27 (by kernel_rfl)
    (from_cons (opens_int Tryz.underlying2) rfl (by kernel_rfl) (from_cons (opens_string Tryz.underlying9) rfl (by kernel_rfl) (from_last (opens_string Tryz.underlying9) rfl (by kernel_rfl))))) (fun _ h => h)
theorem form_ver {w : World} {a : Int × ByteArray × ByteArray} {cs : Array Value} (h : kVer.K w a cs.toList) : cs = #[.int .i64 a.1, .string a.2.1, .string a.2.2] := by
  obtain ⟨c1, c2, e, h1, c3, c4, e2, h3, h4⟩ := h
  apply Array.ext'
  rw [e, e2, show c1 = [Value.int .i64 a.1] from h1, show c3 = [Value.string a.2.1] from h3, show c4 = [Value.string a.2.2] from h4]
  rfl
end Go.Proofs.YtgoeiflddikihaaGreatDoor.Opens
end
section
namespace Go.Proofs.YtgoeiflddikihaaGreatDoor.PFnIntersectAny
open Go.RowKit Go.Proofs.YtgoeiflddikihaaGreatDoorW.PrintWords Go.Proofs.YtgoeiflddikihaaGreatDoorW.PrintLast Go.Proofs.YtgoeiflddikihaaGreatDoorW.PrintMore
attribute [local go_sem] max2_int min2_int max_two min_two max_three min_three max_four min_four   -- for this text's walks alone
set_option linter.unusedVariables false
set_option linter.unusedSimpArgs false
def errW : Option Int → Value
  | none => .nilIface
  | some c => .iface 267 (.int .i64 c)
theorem errW_none : errW none = .nilIface := rfl
theorem errW_some (c : Int) : errW (some c) = .iface 267 (.int .i64 c) := rfl
theorem info9 : (Tryz.prog.info? 9).map (fun i => (i.zero, i.size, i.bytes)) = some (some (.string ⟨#[]⟩), 1, 16) := by kernel_rfl
structure S27 where
  f0 : Int
  f1 : ByteArray
  f2 : ByteArray
def z27 : S27 := ⟨(0 : Int), (⟨#[]⟩ : ByteArray), (⟨#[]⟩ : ByteArray)⟩
def k27 : Kd S27 := Kd.iso (Kd.pair (Kd.int .i64) (Kd.pair Kd.string Kd.string)) (fun x : S27 => (x.f0, x.f1, x.f2))
theorem k27_open {w : World} {x : S27} {cs : List Value} (h : k27.K w x cs) : cs = [.int .i64 x.f0, .string x.f1, .string x.f2] := by
  obtain ⟨_, _, rfl, rfl, ⟨_, _, rfl, rfl, rfl⟩⟩ := h
  exact rfl
def rd_T27 (xs : List S27) (i : Int) : S27 := xs.getD i.toNat z27
theorem at_T27 {w : World} {A : Option Addr} {n : Nat} {xs : List S27} (h : Kd.C k27 w A n xs) (i : Int) (h0 : 0 ≤ i) (h1 : i < n) : ∃ ad , A = some ad ∧ w.cell? (ad.add (i.toNat * 3)) = some (.int .i64 (rd_T27 xs i).f0) ∧ w.cell? ⟨(ad.add (i.toNat * 3)).block, (ad.add (i.toNat * 3)).off + 1, none⟩ = some (.string (rd_T27 xs i).f1) ∧ w.cell? ⟨(ad.add (i.toNat * 3)).block, (ad.add (i.toNat * 3)).off + 2, none⟩ = some (.string (rd_T27 xs i).f2) := by
  obtain ⟨ad, c, e, _, hK, hc0⟩ := Kd.C_get h z27 i h0 h1
  have hc : ∀ j u, c[j]? = some u → w.cell? (ad.add (i.toNat * 3 + j)) = some u := hc0
  obtain rfl := k27_open hK
  exact ⟨ad, e, hc 0 _ rfl, by rw [← add_field _ _ 1 (by omega)]; exact hc 1 _ rfl, by rw [← add_field _ _ 2 (by omega)]; exact hc 2 _ rfl⟩
structure S30 where
  f0 : Int
  f1 : ByteArray
  f2 : ByteArray
def z30 : S30 := ⟨(0 : Int), (⟨#[]⟩ : ByteArray), (⟨#[]⟩ : ByteArray)⟩
def k30 : Kd S30 := Kd.iso (Kd.pair (Kd.int .i64) (Kd.pair Kd.string Kd.string)) (fun x : S30 => (x.f0, x.f1, x.f2))
theorem k30_open {w : World} {x : S30} {cs : List Value} (h : k30.K w x cs) : cs = [.int .i64 x.f0, .string x.f1, .string x.f2] := by
  obtain ⟨_, _, rfl, rfl, ⟨_, _, rfl, rfl, rfl⟩⟩ := h
  exact rfl
theorem k30_mkM (w : World) (base : Nat) (ok : Nat → Prop) (x : S30)  : k30.M w base ok x [.int .i64 x.f0, .string x.f1, .string x.f2] := ⟨[.int .i64 x.f0], [.string x.f1, .string x.f2], rfl, rfl, ⟨[.string x.f1], [.string x.f2], rfl, rfl, rfl⟩⟩
def rd_T30 (xs : List S30) (i : Int) : S30 := xs.getD i.toNat z30
theorem at_T30 {w : World} {A : Option Addr} {n : Nat} {xs : List S30} (h : Kd.C k30 w A n xs) (i : Int) (h0 : 0 ≤ i) (h1 : i < n) : ∃ ad , A = some ad ∧ w.cell? (ad.add (i.toNat * 3)) = some (.int .i64 (rd_T30 xs i).f0) ∧ w.cell? ⟨(ad.add (i.toNat * 3)).block, (ad.add (i.toNat * 3)).off + 1, none⟩ = some (.string (rd_T30 xs i).f1) ∧ w.cell? ⟨(ad.add (i.toNat * 3)).block, (ad.add (i.toNat * 3)).off + 2, none⟩ = some (.string (rd_T30 xs i).f2) := by
  obtain ⟨ad, c, e, _, hK, hc0⟩ := Kd.C_get h z30 i h0 h1
  have hc : ∀ j u, c[j]? = some u → w.cell? (ad.add (i.toNat * 3 + j)) = some u := hc0
  obtain rfl := k30_open hK
  exact ⟨ad, e, hc 0 _ rfl, by rw [← add_field _ _ 1 (by omega)]; exact hc 1 _ rfl, by rw [← add_field _ _ 2 (by omega)]; exact hc 2 _ rfl⟩
end Go.Proofs.YtgoeiflddikihaaGreatDoor.PFnIntersectAny
end
section
namespace Go.Proofs.YtgoeiflddikihaaGreatDoor.PFnVersion
open Go.RowKit Go.Proofs.YtgoeiflddikihaaGreatDoorW.PrintWords Go.Proofs.YtgoeiflddikihaaGreatDoorW.PrintLast Go.Proofs.YtgoeiflddikihaaGreatDoorW.PrintMore
attribute [local go_sem] max2_int min2_int max_two min_two max_three min_three max_four min_four   -- for this text's walks alone
set_option linter.unusedVariables false
set_option linter.unusedSimpArgs false
def errW : Option Int → Value
  | none => .nilIface
  | some c => .iface 267 (.int .i64 c)
theorem errW_none : errW none = .nilIface := rfl
theorem errW_some (c : Int) : errW (some c) = .iface 267 (.int .i64 c) := rfl
theorem info9 : (Tryz.prog.info? 9).map (fun i => (i.zero, i.size, i.bytes)) = some (some (.string ⟨#[]⟩), 1, 16) := by kernel_rfl
end Go.Proofs.YtgoeiflddikihaaGreatDoor.PFnVersion
end
section
namespace Go.Proofs.YtgoeiflddikihaaGreatDoor.Pcompare
open Go.RowKit Go.Proofs.YtgoeiflddikihaaGreatDoorW.PrintWords Go.Proofs.YtgoeiflddikihaaGreatDoorW.PrintLast Go.Proofs.YtgoeiflddikihaaGreatDoorW.PrintMore
attribute [local go_sem] max2_int min2_int max_two min_two max_three min_three max_four min_four   -- for this text's walks alone
set_option linter.unusedVariables false
set_option linter.unusedSimpArgs false
def errW : Option Int → Value
  | none => .nilIface
  | some c => .iface 0 (.int .i64 c)
theorem errW_none : errW none = .nilIface := rfl
theorem errW_some (c : Int) : errW (some c) = .iface 0 (.int .i64 c) := rfl
end Go.Proofs.YtgoeiflddikihaaGreatDoor.Pcompare
end
