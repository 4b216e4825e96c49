/- Merged by program out of: PFnIntersectAnyx0, VBase, VPa. -/
import Derived.Test.YtgoeiflddikihaaGreatDoorProg
import Derived.Below
import Derived.Deep.Draws
import Derived.Deep.AppendLies
import Derived.Maps.AppendAt
import Derived.OwnWalk
import Derived.Laws.BytesArg
import Derived.Laws.MakeOwn
import Derived.Laws.OwnMore
import Derived.Deep.OwnRows
import Derived.Tactics
import Derived.Lib.ConvBytes
import Derived.Laws.Slices
import Derived.WalkKit
import Derived.KernelRfl
import Derived.RowKit3
import Derived.Deep.LoopGhost
import Derived.Deep.QuietTactic
import Derived.BigQuiet
import Derived.WideLaws
import Derived.Deep.DeepCutAuto
import Derived.Deep.CutBlock
import Derived.Deep.RegionHeld3
import Derived.Laws.Rows
import Derived.Lib.AppendStr
import Derived.ArgAppend
import Derived.Laws.IdiomCopy
import Derived.OrdersHeld
import Derived.Laws.BitsLemmas
import Derived.RowKit
import Derived.Test.YtgoeiflddikihaaGreatDoorCtM0
import Derived.Test.YtgoeiflddikihaaGreatDoorCtM1
import Derived.Stop.Asserts
import Derived.Lib.Hide
import Derived.WalkSpells
section
namespace Go.Proofs.YtgoeiflddikihaaGreatDoor.PFnIntersectAny
open Go.RowKit Go.Proofs.YtgoeiflddikihaaGreatDoorW.PrintWords Go.Proofs.YtgoeiflddikihaaGreatDoorW.PrintLast Go.Proofs.YtgoeiflddikihaaGreatDoorW.PrintMore
attribute [local go_sem] max2_int min2_int max_two min_two max_three min_three max_four min_four   -- for this text's walks alone
set_option linter.unusedVariables false
set_option linter.unusedSimpArgs false



def errW : Option Int → Value
  | none => .nilIface
  | some c => .iface 267 (.int .i64 c)
theorem errW_none : errW none = .nilIface := rfl
theorem errW_some (c : Int) : errW (some c) = .iface 267 (.int .i64 c) := rfl

theorem info9 : (Tryz.prog.info? 9).map (fun i => (i.zero, i.size, i.bytes)) = some (some (.string ⟨#[]⟩), 1, 16) := by kernel_rfl
theorem info104 : (Tryz.prog.info? 104).map (fun i => (i.zero, i.size, i.bytes)) = some (some (.agg #[(.int .i64 0), (.string ⟨#[]⟩), (.int .i64 0), (.string ⟨#[]⟩), (.string ⟨#[]⟩), (.slice none 0 0)]), 6, 88) := by kernel_rfl
-- the values' own types
/-! #### struct type 27 -/
structure S27 where
  f0 : Int
  f1 : ByteArray
  f2 : ByteArray
def z27 : S27 := ⟨(0 : Int), (⟨#[]⟩ : ByteArray), (⟨#[]⟩ : ByteArray)⟩
def k27 : Kd S27 := Kd.iso (Kd.pair (Kd.int .i64) (Kd.pair Kd.string Kd.string)) (fun x : S27 => (x.f0, x.f1, x.f2))
theorem k27_open {w : World} {x : S27} {cs : List Value} (h : k27.K w x cs) : cs = [.int .i64 x.f0, .string x.f1, .string x.f2] := by
  obtain ⟨_, _, rfl, rfl, ⟨_, _, rfl, rfl, rfl⟩⟩ := h
  exact rfl
theorem k27_openM {w : World} {base : Nat} {ok : Nat → Prop} {x : S27} {cs : List Value} (h : k27.M w base ok x cs) : cs = [.int .i64 x.f0, .string x.f1, .string x.f2] := by
  obtain ⟨_, _, rfl, rfl, ⟨_, _, rfl, rfl, rfl⟩⟩ := h
  exact rfl
theorem k27_mk (w : World) (x : S27)  : k27.K w x [.int .i64 x.f0, .string x.f1, .string x.f2] := ⟨[.int .i64 x.f0], [.string x.f1, .string x.f2], rfl, rfl, ⟨[.string x.f1], [.string x.f2], rfl, rfl, rfl⟩⟩
theorem k27_mkM (w : World) (base : Nat) (ok : Nat → Prop) (x : S27)  : k27.M w base ok x [.int .i64 x.f0, .string x.f1, .string x.f2] := ⟨[.int .i64 x.f0], [.string x.f1, .string x.f2], rfl, rfl, ⟨[.string x.f1], [.string x.f2], rfl, rfl, rfl⟩⟩
def rd_T27 (xs : List S27) (i : Int) : S27 := xs.getD i.toNat z27
theorem at_T27 {w : World} {A : Option Addr} {n : Nat} {xs : List S27} (h : Kd.C k27 w A n xs) (i : Int) (h0 : 0 ≤ i) (h1 : i < n) : ∃ ad , A = some ad ∧ w.cell? (ad.add (i.toNat * 3)) = some (.int .i64 (rd_T27 xs i).f0) ∧ w.cell? ⟨(ad.add (i.toNat * 3)).block, (ad.add (i.toNat * 3)).off + 1, none⟩ = some (.string (rd_T27 xs i).f1) ∧ w.cell? ⟨(ad.add (i.toNat * 3)).block, (ad.add (i.toNat * 3)).off + 2, none⟩ = some (.string (rd_T27 xs i).f2) := by
  obtain ⟨ad, c, e, _, hK, hc0⟩ := Kd.C_get h z27 i h0 h1
  have hc : ∀ j u, c[j]? = some u → w.cell? (ad.add (i.toNat * 3 + j)) = some u := hc0
  obtain rfl := k27_open hK
  exact ⟨ad, e, hc 0 _ rfl, by rw [← add_field _ _ 1 (by omega)]; exact hc 1 _ rfl, by rw [← add_field _ _ 2 (by omega)]; exact hc 2 _ rfl⟩

/-! #### struct type 29, nested in itself -/
structure S29 where
  f0 : Int
  f1 : ByteArray
  f2 : S27
  f3 : (List S29)
def z29 : S29 := ⟨(0 : Int), (⟨#[]⟩ : ByteArray), z27, ([] : List S29)⟩
def F29 (d : Kd S29) : Kd S29 := Kd.iso (Kd.pair (Kd.int .i64) (Kd.pair Kd.string (Kd.pair k27 (Kd.slice 29 d)))) (fun x : S29 => (x.f0, x.f1, x.f2, x.f3))
theorem mono29 : Kd.Mono F29 := Kd.mono_iso _ (Kd.mono_pair (Kd.mono_const _) (Kd.mono_pair (Kd.mono_const _) (Kd.mono_pair (Kd.mono_const _) (Kd.mono_slice 29 Kd.mono_id))))
theorem sub29 : Kd.Sub F29 [29] := Kd.sub_iso _ (Kd.sub_pair (Kd.sub_const _ (by decide)) (Kd.sub_pair (Kd.sub_const _ (by decide)) (Kd.sub_pair (Kd.sub_const _ (by decide)) (Kd.sub_slice 29 (by decide) Kd.sub_id))))
theorem sz29 : ∀ n, (Kd.upto F29 6 [29] n).sz = 6 := Kd.upto_sz (fun _ => rfl)
def k29 : Kd S29 := Kd.fix F29 6 [29] sz29 (Kd.upto_E sub29)
theorem k29_open {w : World} {x : S29} {cs : List Value} (h : k29.K w x cs) : ∃ A5 c5, cs = [.int .i64 x.f0, .string x.f1, .int .i64 x.f2.f0, .string x.f2.f1, .string x.f2.f2, .slice A5 x.f3.length c5] ∧ x.f3.length ≤ c5 ∧ k29.C w A5 x.f3.length x.f3 := by
  obtain ⟨n, h⟩ := h
  cases n with
  | zero => exact h.elim
  | succ n =>
    obtain ⟨_, _, rfl, rfl, ⟨_, _, rfl, rfl, ⟨_, _, rfl, s2, ⟨A5, c5, rfl, l5, g5⟩⟩⟩⟩ := h
    obtain rfl := k27_open s2
    exact ⟨A5, c5, rfl, l5, Kd.fix_C g5⟩
theorem k29_openM {w : World} {base : Nat} {ok : Nat → Prop} {x : S29} {cs : List Value} (h : k29.M w base ok x cs) : ∃ v5, cs = [.int .i64 x.f0, .string x.f1, .int .i64 x.f2.f0, .string x.f2.f1, .string x.f2.f2, v5] ∧ k29.R 29 w base ok v5 x.f3 := by
  obtain ⟨n, h⟩ := h
  cases n with
  | zero => exact h.elim
  | succ n =>
    obtain ⟨_, _, rfl, rfl, ⟨_, _, rfl, rfl, ⟨_, _, rfl, s2, ⟨v5, rfl, g5⟩⟩⟩⟩ := h
    obtain rfl := k27_openM s2
    exact ⟨v5, rfl, Kd.fix_R g5⟩
theorem k29_mk (w : World) (x : S29) {A5 : Option Addr} {c5 : Nat} (l5 : x.f3.length ≤ c5) (g5 : k29.C w A5 x.f3.length x.f3) : k29.K w x [.int .i64 x.f0, .string x.f1, .int .i64 x.f2.f0, .string x.f2.f1, .string x.f2.f2, .slice A5 x.f3.length c5] := by
  obtain ⟨n5, q5⟩ := Kd.fix_C_back mono29 g5
  have r5 := Kd.upto_C_le mono29 sz29 (show n5 ≤ n5 by omega) q5
  exact ⟨n5 + 1, ⟨[.int .i64 x.f0], [.string x.f1, .int .i64 x.f2.f0, .string x.f2.f1, .string x.f2.f2, .slice A5 x.f3.length c5], rfl, rfl, ⟨[.string x.f1], [.int .i64 x.f2.f0, .string x.f2.f1, .string x.f2.f2, .slice A5 x.f3.length c5], rfl, rfl, ⟨[.int .i64 x.f2.f0, .string x.f2.f1, .string x.f2.f2], [.slice A5 x.f3.length c5], rfl, (k27_mk w x.f2 ), ⟨A5, c5, rfl, l5, r5⟩⟩⟩⟩⟩
theorem k29_mkM (w : World) (base : Nat) (ok : Nat → Prop) (x : S29) {v5 : Value} (g5 : k29.R 29 w base ok v5 x.f3) : k29.M w base ok x [.int .i64 x.f0, .string x.f1, .int .i64 x.f2.f0, .string x.f2.f1, .string x.f2.f2, v5] := by
  obtain ⟨n5, q5⟩ := Kd.fix_R_back mono29 g5
  have r5 := Kd.upto_R_le mono29 sz29 (show n5 ≤ n5 by omega) q5
  exact ⟨n5 + 1, ⟨[.int .i64 x.f0], [.string x.f1, .int .i64 x.f2.f0, .string x.f2.f1, .string x.f2.f2, v5], rfl, rfl, ⟨[.string x.f1], [.int .i64 x.f2.f0, .string x.f2.f1, .string x.f2.f2, v5], rfl, rfl, ⟨[.int .i64 x.f2.f0, .string x.f2.f1, .string x.f2.f2], [v5], rfl, (k27_mkM w base ok x.f2 ), ⟨v5, rfl, r5⟩⟩⟩⟩⟩
def rd_T29 (xs : List S29) (i : Int) : S29 := xs.getD i.toNat z29
theorem at_T29 {w : World} {A : Option Addr} {n : Nat} {xs : List S29} (h : Kd.C k29 w A n xs) (i : Int) (h0 : 0 ≤ i) (h1 : i < n) : ∃ ad A5 c5, A = some ad ∧ w.cell? (ad.add (i.toNat * 6)) = some (.int .i64 (rd_T29 xs i).f0) ∧ w.cell? ⟨(ad.add (i.toNat * 6)).block, (ad.add (i.toNat * 6)).off + 1, none⟩ = some (.string (rd_T29 xs i).f1) ∧ w.cell? ⟨(ad.add (i.toNat * 6)).block, (ad.add (i.toNat * 6)).off + 2, none⟩ = some (.int .i64 (rd_T29 xs i).f2.f0) ∧ w.cell? ⟨(ad.add (i.toNat * 6)).block, (ad.add (i.toNat * 6)).off + 3, none⟩ = some (.string (rd_T29 xs i).f2.f1) ∧ w.cell? ⟨(ad.add (i.toNat * 6)).block, (ad.add (i.toNat * 6)).off + 4, none⟩ = some (.string (rd_T29 xs i).f2.f2) ∧ w.cell? ⟨(ad.add (i.toNat * 6)).block, (ad.add (i.toNat * 6)).off + 5, none⟩ = some (.slice A5 (rd_T29 xs i).f3.length c5) ∧ (rd_T29 xs i).f3.length ≤ c5 ∧ k29.C w A5 (rd_T29 xs i).f3.length (rd_T29 xs i).f3 := by
  obtain ⟨ad, c, e, _, hK, hc0⟩ := Kd.C_get h z29 i h0 h1
  have hc : ∀ j u, c[j]? = some u → w.cell? (ad.add (i.toNat * 6 + j)) = some u := hc0
  obtain ⟨A5, c5, rfl, l5, g5⟩ := k29_open hK
  exact ⟨ad, A5, c5, e, hc 0 _ rfl, by rw [← add_field _ _ 1 (by omega)]; exact hc 1 _ rfl, by rw [← add_field _ _ 2 (by omega)]; exact hc 2 _ rfl, by rw [← add_field _ _ 3 (by omega)]; exact hc 3 _ rfl, by rw [← add_field _ _ 4 (by omega)]; exact hc 4 _ rfl, by rw [← add_field _ _ 5 (by omega)]; exact hc 5 _ rfl, l5, g5⟩

/-! #### struct type 30 -/
structure S30 where
  f0 : Int
  f1 : ByteArray
  f2 : ByteArray
def z30 : S30 := ⟨(0 : Int), (⟨#[]⟩ : ByteArray), (⟨#[]⟩ : ByteArray)⟩
def k30 : Kd S30 := Kd.iso (Kd.pair (Kd.int .i64) (Kd.pair Kd.string Kd.string)) (fun x : S30 => (x.f0, x.f1, x.f2))
theorem k30_open {w : World} {x : S30} {cs : List Value} (h : k30.K w x cs) : cs = [.int .i64 x.f0, .string x.f1, .string x.f2] := by
  obtain ⟨_, _, rfl, rfl, ⟨_, _, rfl, rfl, rfl⟩⟩ := h
  exact rfl
theorem k30_openM {w : World} {base : Nat} {ok : Nat → Prop} {x : S30} {cs : List Value} (h : k30.M w base ok x cs) : cs = [.int .i64 x.f0, .string x.f1, .string x.f2] := by
  obtain ⟨_, _, rfl, rfl, ⟨_, _, rfl, rfl, rfl⟩⟩ := h
  exact rfl
theorem k30_mk (w : World) (x : S30)  : k30.K w x [.int .i64 x.f0, .string x.f1, .string x.f2] := ⟨[.int .i64 x.f0], [.string x.f1, .string x.f2], rfl, rfl, ⟨[.string x.f1], [.string x.f2], rfl, rfl, rfl⟩⟩
theorem k30_mkM (w : World) (base : Nat) (ok : Nat → Prop) (x : S30)  : k30.M w base ok x [.int .i64 x.f0, .string x.f1, .string x.f2] := ⟨[.int .i64 x.f0], [.string x.f1, .string x.f2], rfl, rfl, ⟨[.string x.f1], [.string x.f2], rfl, rfl, rfl⟩⟩
def rd_T30 (xs : List S30) (i : Int) : S30 := xs.getD i.toNat z30
theorem at_T30 {w : World} {A : Option Addr} {n : Nat} {xs : List S30} (h : Kd.C k30 w A n xs) (i : Int) (h0 : 0 ≤ i) (h1 : i < n) : ∃ ad , A = some ad ∧ w.cell? (ad.add (i.toNat * 3)) = some (.int .i64 (rd_T30 xs i).f0) ∧ w.cell? ⟨(ad.add (i.toNat * 3)).block, (ad.add (i.toNat * 3)).off + 1, none⟩ = some (.string (rd_T30 xs i).f1) ∧ w.cell? ⟨(ad.add (i.toNat * 3)).block, (ad.add (i.toNat * 3)).off + 2, none⟩ = some (.string (rd_T30 xs i).f2) := by
  obtain ⟨ad, c, e, _, hK, hc0⟩ := Kd.C_get h z30 i h0 h1
  have hc : ∀ j u, c[j]? = some u → w.cell? (ad.add (i.toNat * 3 + j)) = some u := hc0
  obtain rfl := k30_open hK
  exact ⟨ad, e, hc 0 _ rfl, by rw [← add_field _ _ 1 (by omega)]; exact hc 1 _ rfl, by rw [← add_field _ _ 2 (by omega)]; exact hc 2 _ rfl⟩

/-! #### struct type 104, nested in itself -/
structure S104 where
  f0 : Int
  f1 : ByteArray
  f2 : S30
  f3 : (List S104)
def z104 : S104 := ⟨(0 : Int), (⟨#[]⟩ : ByteArray), z30, ([] : List S104)⟩
def F104 (d : Kd S104) : Kd S104 := Kd.iso (Kd.pair (Kd.int .i64) (Kd.pair Kd.string (Kd.pair k30 (Kd.slice 104 d)))) (fun x : S104 => (x.f0, x.f1, x.f2, x.f3))
theorem mono104 : Kd.Mono F104 := Kd.mono_iso _ (Kd.mono_pair (Kd.mono_const _) (Kd.mono_pair (Kd.mono_const _) (Kd.mono_pair (Kd.mono_const _) (Kd.mono_slice 104 Kd.mono_id))))
theorem sub104 : Kd.Sub F104 [104] := Kd.sub_iso _ (Kd.sub_pair (Kd.sub_const _ (by decide)) (Kd.sub_pair (Kd.sub_const _ (by decide)) (Kd.sub_pair (Kd.sub_const _ (by decide)) (Kd.sub_slice 104 (by decide) Kd.sub_id))))
theorem sz104 : ∀ n, (Kd.upto F104 6 [104] n).sz = 6 := Kd.upto_sz (fun _ => rfl)
def k104 : Kd S104 := Kd.fix F104 6 [104] sz104 (Kd.upto_E sub104)
theorem k104_open {w : World} {x : S104} {cs : List Value} (h : k104.K w x cs) : ∃ A5 c5, cs = [.int .i64 x.f0, .string x.f1, .int .i64 x.f2.f0, .string x.f2.f1, .string x.f2.f2, .slice A5 x.f3.length c5] ∧ x.f3.length ≤ c5 ∧ k104.C w A5 x.f3.length x.f3 := by
  obtain ⟨n, h⟩ := h
  cases n with
  | zero => exact h.elim
  | succ n =>
    obtain ⟨_, _, rfl, rfl, ⟨_, _, rfl, rfl, ⟨_, _, rfl, s2, ⟨A5, c5, rfl, l5, g5⟩⟩⟩⟩ := h
    obtain rfl := k30_open s2
    exact ⟨A5, c5, rfl, l5, Kd.fix_C g5⟩
theorem k104_openM {w : World} {base : Nat} {ok : Nat → Prop} {x : S104} {cs : List Value} (h : k104.M w base ok x cs) : ∃ v5, cs = [.int .i64 x.f0, .string x.f1, .int .i64 x.f2.f0, .string x.f2.f1, .string x.f2.f2, v5] ∧ k104.R 104 w base ok v5 x.f3 := by
  obtain ⟨n, h⟩ := h
  cases n with
  | zero => exact h.elim
  | succ n =>
    obtain ⟨_, _, rfl, rfl, ⟨_, _, rfl, rfl, ⟨_, _, rfl, s2, ⟨v5, rfl, g5⟩⟩⟩⟩ := h
    obtain rfl := k30_openM s2
    exact ⟨v5, rfl, Kd.fix_R g5⟩
theorem k104_mk (w : World) (x : S104) {A5 : Option Addr} {c5 : Nat} (l5 : x.f3.length ≤ c5) (g5 : k104.C w A5 x.f3.length x.f3) : k104.K w x [.int .i64 x.f0, .string x.f1, .int .i64 x.f2.f0, .string x.f2.f1, .string x.f2.f2, .slice A5 x.f3.length c5] := by
  obtain ⟨n5, q5⟩ := Kd.fix_C_back mono104 g5
  have r5 := Kd.upto_C_le mono104 sz104 (show n5 ≤ n5 by omega) q5
  exact ⟨n5 + 1, ⟨[.int .i64 x.f0], [.string x.f1, .int .i64 x.f2.f0, .string x.f2.f1, .string x.f2.f2, .slice A5 x.f3.length c5], rfl, rfl, ⟨[.string x.f1], [.int .i64 x.f2.f0, .string x.f2.f1, .string x.f2.f2, .slice A5 x.f3.length c5], rfl, rfl, ⟨[.int .i64 x.f2.f0, .string x.f2.f1, .string x.f2.f2], [.slice A5 x.f3.length c5], rfl, (k30_mk w x.f2 ), ⟨A5, c5, rfl, l5, r5⟩⟩⟩⟩⟩
theorem k104_mkM (w : World) (base : Nat) (ok : Nat → Prop) (x : S104) {v5 : Value} (g5 : k104.R 104 w base ok v5 x.f3) : k104.M w base ok x [.int .i64 x.f0, .string x.f1, .int .i64 x.f2.f0, .string x.f2.f1, .string x.f2.f2, v5] := by
  obtain ⟨n5, q5⟩ := Kd.fix_R_back mono104 g5
  have r5 := Kd.upto_R_le mono104 sz104 (show n5 ≤ n5 by omega) q5
  exact ⟨n5 + 1, ⟨[.int .i64 x.f0], [.string x.f1, .int .i64 x.f2.f0, .string x.f2.f1, .string x.f2.f2, v5], rfl, rfl, ⟨[.string x.f1], [.int .i64 x.f2.f0, .string x.f2.f1, .string x.f2.f2, v5], rfl, rfl, ⟨[.int .i64 x.f2.f0, .string x.f2.f1, .string x.f2.f2], [v5], rfl, (k30_mkM w base ok x.f2 ), ⟨v5, rfl, r5⟩⟩⟩⟩⟩
def rd_T104 (xs : List S104) (i : Int) : S104 := xs.getD i.toNat z104
theorem at_T104 {w : World} {A : Option Addr} {n : Nat} {xs : List S104} (h : Kd.C k104 w A n xs) (i : Int) (h0 : 0 ≤ i) (h1 : i < n) : ∃ ad A5 c5, A = some ad ∧ w.cell? (ad.add (i.toNat * 6)) = some (.int .i64 (rd_T104 xs i).f0) ∧ w.cell? ⟨(ad.add (i.toNat * 6)).block, (ad.add (i.toNat * 6)).off + 1, none⟩ = some (.string (rd_T104 xs i).f1) ∧ w.cell? ⟨(ad.add (i.toNat * 6)).block, (ad.add (i.toNat * 6)).off + 2, none⟩ = some (.int .i64 (rd_T104 xs i).f2.f0) ∧ w.cell? ⟨(ad.add (i.toNat * 6)).block, (ad.add (i.toNat * 6)).off + 3, none⟩ = some (.string (rd_T104 xs i).f2.f1) ∧ w.cell? ⟨(ad.add (i.toNat * 6)).block, (ad.add (i.toNat * 6)).off + 4, none⟩ = some (.string (rd_T104 xs i).f2.f2) ∧ w.cell? ⟨(ad.add (i.toNat * 6)).block, (ad.add (i.toNat * 6)).off + 5, none⟩ = some (.slice A5 (rd_T104 xs i).f3.length c5) ∧ (rd_T104 xs i).f3.length ≤ c5 ∧ k104.C w A5 (rd_T104 xs i).f3.length (rd_T104 xs i).f3 := by
  obtain ⟨ad, c, e, _, hK, hc0⟩ := Kd.C_get h z104 i h0 h1
  have hc : ∀ j u, c[j]? = some u → w.cell? (ad.add (i.toNat * 6 + j)) = some u := hc0
  obtain ⟨A5, c5, rfl, l5, g5⟩ := k104_open hK
  exact ⟨ad, A5, c5, e, hc 0 _ rfl, by rw [← add_field _ _ 1 (by omega)]; exact hc 1 _ rfl, by rw [← add_field _ _ 2 (by omega)]; exact hc 2 _ rfl, by rw [← add_field _ _ 3 (by omega)]; exact hc 3 _ rfl, by rw [← add_field _ _ 4 (by omega)]; exact hc 4 _ rfl, by rw [← add_field _ _ 5 (by omega)]; exact hc 5 _ rfl, l5, g5⟩

end Go.Proofs.YtgoeiflddikihaaGreatDoor.PFnIntersectAny
end
section
namespace Go.Proofs.YtgoeiflddikihaaGreatDoor.Ver
open Go.RowKit Go.Proofs.YtgoeiflddikihaaGreatDoorW.PrintWords

/-- A semantic version: three numbers, identifiers, what stands behind +, and the text that was read. -/
structure SV where
  major : Int
  minor : Int
  patch : Int
  pre : ByteArray
  mt : ByteArray
  orig : ByteArray
def SV.cells (v : SV) : Array Value := #[.int .u64 v.major, .int .u64 v.minor, .int .u64 v.patch, .string v.pre, .string v.mt, .string v.orig]

/-- A version that is not paired. -/
inductive Unp where
  | branch (name : ByteArray) (dflt : Bool)
  | plain (s : ByteArray)
  | sem (v : SV)
/-- A version. -/
inductive Vers where
  | rev (s : ByteArray)
  | un (u : Unp)
  | pair (u : Unp) (r : ByteArray)
def Unp.tid : Unp → TypeId
  | .branch _ _ => 215
  | .plain _ => 224
  | .sem _ => 200
def Unp.inner : Unp → Value
  | .branch n d => .agg #[.string n, .bool d]
  | .plain s => .string s
  | .sem v => .agg v.cells
def Unp.val (u : Unp) : Value := .iface u.tid u.inner
def Vers.tid : Vers → TypeId
  | .rev _ => 135
  | .un u => u.tid
  | .pair _ _ => 212
def Vers.inner : Vers → Value
  | .rev s => .string s
  | .un u => u.inner
  | .pair u r => .agg #[u.val, .string r]
def Vers.val (v : Vers) : Value := .iface v.tid v.inner

/-! Which function a method is. -/
theorem m_rev_String (v : Value) (w : World) : (method 417 135 v "String").run Tryz.prog w = .ok (101, v) w := by kernel_rfl
theorem m_rev_ImpliedCaretString (v : Value) (w : World) : (method 417 135 v "ImpliedCaretString").run Tryz.prog w = .ok (194, v) w := by kernel_rfl
theorem m_rev_Intersect (v : Value) (w : World) : (method 417 135 v "Intersect").run Tryz.prog w = .ok (195, v) w := by kernel_rfl
theorem m_rev_Matches (v : Value) (w : World) : (method 417 135 v "Matches").run Tryz.prog w = .ok (196, v) w := by kernel_rfl
theorem m_rev_MatchesAny (v : Value) (w : World) : (method 417 135 v "MatchesAny").run Tryz.prog w = .ok (197, v) w := by kernel_rfl
theorem m_rev_Type (v : Value) (w : World) : (method 417 135 v "Type").run Tryz.prog w = .ok (198, v) w := by kernel_rfl
theorem m_sv_Prerelease (v : Value) (w : World) : (method 417 197 v "Prerelease").run Tryz.prog w = .ok (206, v) w := by kernel_rfl
theorem m_sv_LessThan (v : Value) (w : World) : (method 417 197 v "LessThan").run Tryz.prog w = .ok (207, v) w := by kernel_rfl
theorem m_sv_GreaterThan (v : Value) (w : World) : (method 417 197 v "GreaterThan").run Tryz.prog w = .ok (208, v) w := by kernel_rfl
theorem m_sv_Compare (v : Value) (w : World) : (method 417 197 v "Compare").run Tryz.prog w = .ok (209, v) w := by kernel_rfl
theorem m_any_ImpliedCaretString (v : Value) (w : World) : (method 417 191 v "ImpliedCaretString").run Tryz.prog w = .ok (223, v) w := by kernel_rfl
theorem m_any_Intersect (v : Value) (w : World) : (method 417 191 v "Intersect").run Tryz.prog w = .ok (224, v) w := by kernel_rfl
theorem m_any_Matches (v : Value) (w : World) : (method 417 191 v "Matches").run Tryz.prog w = .ok (225, v) w := by kernel_rfl
theorem m_any_MatchesAny (v : Value) (w : World) : (method 417 191 v "MatchesAny").run Tryz.prog w = .ok (226, v) w := by kernel_rfl
theorem m_any_String (v : Value) (w : World) : (method 417 191 v "String").run Tryz.prog w = .ok (227, v) w := by kernel_rfl
theorem m_sv_ImpliedCaretString (v : Value) (w : World) : (method 417 197 v "ImpliedCaretString").run Tryz.prog w = .ok (230, v) w := by kernel_rfl
theorem m_sv_Intersect (v : Value) (w : World) : (method 417 197 v "Intersect").run Tryz.prog w = .ok (231, v) w := by kernel_rfl
theorem m_sv_Matches (v : Value) (w : World) : (method 417 197 v "Matches").run Tryz.prog w = .ok (232, v) w := by kernel_rfl
theorem m_sv_String (v : Value) (w : World) : (method 417 197 v "String").run Tryz.prog w = .ok (233, v) w := by kernel_rfl
theorem m_sv_Equal (v : Value) (w : World) : (method 417 197 v "Equal").run Tryz.prog w = .ok (234, v) w := by kernel_rfl
theorem m_sem_ImpliedCaretString (v : Value) (w : World) : (method 417 200 v "ImpliedCaretString").run Tryz.prog w = .ok (237, v) w := by kernel_rfl
theorem m_sem_Intersect (v : Value) (w : World) : (method 417 200 v "Intersect").run Tryz.prog w = .ok (238, v) w := by kernel_rfl
theorem m_sem_Matches (v : Value) (w : World) : (method 417 200 v "Matches").run Tryz.prog w = .ok (239, v) w := by kernel_rfl
theorem m_sem_MatchesAny (v : Value) (w : World) : (method 417 200 v "MatchesAny").run Tryz.prog w = .ok (240, v) w := by kernel_rfl
theorem m_sem_Pair (v : Value) (w : World) : (method 417 200 v "Pair").run Tryz.prog w = .ok (241, v) w := by kernel_rfl
theorem m_sem_String (v : Value) (w : World) : (method 417 200 v "String").run Tryz.prog w = .ok (242, v) w := by kernel_rfl
theorem m_sem_Type (v : Value) (w : World) : (method 417 200 v "Type").run Tryz.prog w = .ok (243, v) w := by kernel_rfl
theorem m_sc_Intersect (v : Value) (w : World) : (method 417 202 v "Intersect").run Tryz.prog w = .ok (247, v) w := by kernel_rfl
theorem m_sv_Original (v : Value) (w : World) : (method 417 197 v "Original").run Tryz.prog w = .ok (248, v) w := by kernel_rfl
theorem m_sc_ImpliedCaretString (v : Value) (w : World) : (method 417 202 v "ImpliedCaretString").run Tryz.prog w = .ok (250, v) w := by kernel_rfl
theorem m_sc_Matches (v : Value) (w : World) : (method 417 202 v "Matches").run Tryz.prog w = .ok (251, v) w := by kernel_rfl
theorem m_sc_MatchesAny (v : Value) (w : World) : (method 417 202 v "MatchesAny").run Tryz.prog w = .ok (252, v) w := by kernel_rfl
theorem m_sc_String (v : Value) (w : World) : (method 417 202 v "String").run Tryz.prog w = .ok (253, v) w := by kernel_rfl
theorem m_none_ImpliedCaretString (v : Value) (w : World) : (method 417 203 v "ImpliedCaretString").run Tryz.prog w = .ok (256, v) w := by kernel_rfl
theorem m_none_Intersect (v : Value) (w : World) : (method 417 203 v "Intersect").run Tryz.prog w = .ok (257, v) w := by kernel_rfl
theorem m_none_Matches (v : Value) (w : World) : (method 417 203 v "Matches").run Tryz.prog w = .ok (258, v) w := by kernel_rfl
theorem m_none_MatchesAny (v : Value) (w : World) : (method 417 203 v "MatchesAny").run Tryz.prog w = .ok (259, v) w := by kernel_rfl
theorem m_none_String (v : Value) (w : World) : (method 417 203 v "String").run Tryz.prog w = .ok (260, v) w := by kernel_rfl
theorem m_pair_ImpliedCaretString (v : Value) (w : World) : (method 417 212 v "ImpliedCaretString").run Tryz.prog w = .ok (263, v) w := by kernel_rfl
theorem m_pair_Intersect (v : Value) (w : World) : (method 417 212 v "Intersect").run Tryz.prog w = .ok (264, v) w := by kernel_rfl
theorem m_pair_Matches (v : Value) (w : World) : (method 417 212 v "Matches").run Tryz.prog w = .ok (265, v) w := by kernel_rfl
theorem m_pair_MatchesAny (v : Value) (w : World) : (method 417 212 v "MatchesAny").run Tryz.prog w = .ok (266, v) w := by kernel_rfl
theorem m_pair_Revision (v : Value) (w : World) : (method 417 212 v "Revision").run Tryz.prog w = .ok (267, v) w := by kernel_rfl
theorem m_pair_String (v : Value) (w : World) : (method 417 212 v "String").run Tryz.prog w = .ok (268, v) w := by kernel_rfl
theorem m_pair_Type (v : Value) (w : World) : (method 417 212 v "Type").run Tryz.prog w = .ok (269, v) w := by kernel_rfl
theorem m_pair_Unpair (v : Value) (w : World) : (method 417 212 v "Unpair").run Tryz.prog w = .ok (270, v) w := by kernel_rfl
theorem m_branch_ImpliedCaretString (v : Value) (w : World) : (method 417 215 v "ImpliedCaretString").run Tryz.prog w = .ok (274, v) w := by kernel_rfl
theorem m_branch_Intersect (v : Value) (w : World) : (method 417 215 v "Intersect").run Tryz.prog w = .ok (275, v) w := by kernel_rfl
theorem m_branch_Matches (v : Value) (w : World) : (method 417 215 v "Matches").run Tryz.prog w = .ok (276, v) w := by kernel_rfl
theorem m_branch_MatchesAny (v : Value) (w : World) : (method 417 215 v "MatchesAny").run Tryz.prog w = .ok (277, v) w := by kernel_rfl
theorem m_branch_Pair (v : Value) (w : World) : (method 417 215 v "Pair").run Tryz.prog w = .ok (278, v) w := by kernel_rfl
theorem m_branch_String (v : Value) (w : World) : (method 417 215 v "String").run Tryz.prog w = .ok (279, v) w := by kernel_rfl
theorem m_branch_Type (v : Value) (w : World) : (method 417 215 v "Type").run Tryz.prog w = .ok (280, v) w := by kernel_rfl
theorem m_plain_ImpliedCaretString (v : Value) (w : World) : (method 417 224 v "ImpliedCaretString").run Tryz.prog w = .ok (284, v) w := by kernel_rfl
theorem m_plain_Intersect (v : Value) (w : World) : (method 417 224 v "Intersect").run Tryz.prog w = .ok (285, v) w := by kernel_rfl
theorem m_plain_Matches (v : Value) (w : World) : (method 417 224 v "Matches").run Tryz.prog w = .ok (286, v) w := by kernel_rfl
theorem m_plain_MatchesAny (v : Value) (w : World) : (method 417 224 v "MatchesAny").run Tryz.prog w = .ok (287, v) w := by kernel_rfl
theorem m_plain_Pair (v : Value) (w : World) : (method 417 224 v "Pair").run Tryz.prog w = .ok (288, v) w := by kernel_rfl
theorem m_plain_String (v : Value) (w : World) : (method 417 224 v "String").run Tryz.prog w = .ok (289, v) w := by kernel_rfl
theorem m_plain_Type (v : Value) (w : World) : (method 417 224 v "Type").run Tryz.prog w = .ok (290, v) w := by kernel_rfl
theorem m_range_ImpliedCaretString (v : Value) (w : World) : (method 417 238 v "ImpliedCaretString").run Tryz.prog w = .ok (294, v) w := by kernel_rfl
theorem m_range_Intersect (v : Value) (w : World) : (method 417 238 v "Intersect").run Tryz.prog w = .ok (295, v) w := by kernel_rfl
theorem m_range_Matches (v : Value) (w : World) : (method 417 238 v "Matches").run Tryz.prog w = .ok (296, v) w := by kernel_rfl
theorem m_range_String (v : Value) (w : World) : (method 417 238 v "String").run Tryz.prog w = .ok (297, v) w := by kernel_rfl

end Go.Proofs.YtgoeiflddikihaaGreatDoor.Ver
end
section
namespace Go.Proofs.YtgoeiflddikihaaGreatDoor.PFnIntersectAny
open Go.RowKit Go.Proofs.YtgoeiflddikihaaGreatDoorW.PrintWords Go.Proofs.YtgoeiflddikihaaGreatDoorW.PrintLast Go.Proofs.YtgoeiflddikihaaGreatDoorW.PrintMore
attribute [local go_sem] max2_int min2_int max_two min_two max_three min_three max_four min_four   -- for this text's walks alone
set_option linter.unusedVariables false
set_option linter.unusedSimpArgs false

/-! ### semver_identifiers: function 153 -/
mutual
def semver_identifiers.l0 : Nat → ByteArray → Int → Int → Int → Option (Int)
  | 0, _, _, _, _ => none
  | k + 1, x0, x3, x4, x5 => if x5 < (x0.size : Int) then (if 0 ≤ x5 then (if 48 ≤ (bt x0 x5) then (if (bt x0 x5) ≤ 57 then (semver_identifiers.j1 k x0 x3 x4 x5 (bt x0 x5) true) else (if 97 ≤ (bt x0 x5) then (if (bt x0 x5) ≤ 122 then (semver_identifiers.j1 k x0 x3 x4 x5 (bt x0 x5) true) else (if 65 ≤ (bt x0 x5) then (if (bt x0 x5) ≤ 90 then (semver_identifiers.j1 k x0 x3 x4 x5 (bt x0 x5) true) else (semver_identifiers.j1 k x0 x3 x4 x5 (bt x0 x5) ((bt x0 x5) == 45))) else (semver_identifiers.j1 k x0 x3 x4 x5 (bt x0 x5) ((bt x0 x5) == 45)))) else (if 65 ≤ (bt x0 x5) then (if (bt x0 x5) ≤ 90 then (semver_identifiers.j1 k x0 x3 x4 x5 (bt x0 x5) true) else (semver_identifiers.j1 k x0 x3 x4 x5 (bt x0 x5) ((bt x0 x5) == 45))) else (semver_identifiers.j1 k x0 x3 x4 x5 (bt x0 x5) ((bt x0 x5) == 45))))) else (if 97 ≤ (bt x0 x5) then (if (bt x0 x5) ≤ 122 then (semver_identifiers.j1 k x0 x3 x4 x5 (bt x0 x5) true) else (if 65 ≤ (bt x0 x5) then (if (bt x0 x5) ≤ 90 then (semver_identifiers.j1 k x0 x3 x4 x5 (bt x0 x5) true) else (semver_identifiers.j1 k x0 x3 x4 x5 (bt x0 x5) ((bt x0 x5) == 45))) else (semver_identifiers.j1 k x0 x3 x4 x5 (bt x0 x5) ((bt x0 x5) == 45)))) else (if 65 ≤ (bt x0 x5) then (if (bt x0 x5) ≤ 90 then (semver_identifiers.j1 k x0 x3 x4 x5 (bt x0 x5) true) else (semver_identifiers.j1 k x0 x3 x4 x5 (bt x0 x5) ((bt x0 x5) == 45))) else (semver_identifiers.j1 k x0 x3 x4 x5 (bt x0 x5) ((bt x0 x5) == 45))))) else (none)) else (some x3)
def semver_identifiers.j1 : Nat → ByteArray → Int → Int → Int → Int → Bool → Option (Int)
  | 0, _, _, _, _, _, _ => none
  | k + 1, x0, x3, x4, x5, x6, x17 => if x17 = true then (semver_identifiers.l0 k x0 (wrap64 (x5 + 1)) (wrap64 (x4 + 1)) (wrap64 (x5 + 1))) else (if x6 = 46 then (if x4 > 0 then (semver_identifiers.l0 k x0 x3 0 (wrap64 (x5 + 1))) else (some x3)) else (some x3))
end
def semver_identifiers.f (k : Nat) (a0 : ByteArray) : Option (Int) := semver_identifiers.l0 k a0 0 0 0
theorem semver_identifiers.mono_l : ∀ k, (∀ y0 y1 y2 y3, LeO (semver_identifiers.l0 k y0 y1 y2 y3) (semver_identifiers.l0 (k + 1) y0 y1 y2 y3)) ∧ (∀ y0 y1 y2 y3 y4 y5, LeO (semver_identifiers.j1 k y0 y1 y2 y3 y4 y5) (semver_identifiers.j1 (k + 1) y0 y1 y2 y3 y4 y5))
  | 0 => ⟨fun _ _ _ _ r h => by simp [semver_identifiers.l0] at h, fun _ _ _ _ _ _ r h => by simp [semver_identifiers.j1] at h⟩
  | k + 1 => by
    obtain ⟨ih0, ih1⟩ := semver_identifiers.mono_l k
    refine ⟨?_, ?_⟩
    · intro y0 y1 y2 y3
      unfold semver_identifiers.l0
      repeat' first
      | (with_reducible exact ih0 _ _ _ _)
      | (with_reducible exact ih1 _ _ _ _ _ _)
      | (with_reducible exact LeO.refl _)
      | (with_reducible exact LeO.none _)
      | (with_reducible refine LeO.ite ?_ ?_)
      | (with_reducible refine LeO.bind ?_ (fun _ => ?_))
      | exact ih0 _ _ _ _
      | exact ih1 _ _ _ _ _ _
      | exact LeO.none _
      | refine LeO.ite ?_ ?_
      | refine LeO.bind ?_ (fun _ => ?_)
    · intro y0 y1 y2 y3 y4 y5
      unfold semver_identifiers.j1
      repeat' first
      | (with_reducible exact ih0 _ _ _ _)
      | (with_reducible exact ih1 _ _ _ _ _ _)
      | (with_reducible exact LeO.refl _)
      | (with_reducible exact LeO.none _)
      | (with_reducible refine LeO.ite ?_ ?_)
      | (with_reducible refine LeO.bind ?_ (fun _ => ?_))
      | exact ih0 _ _ _ _
      | exact ih1 _ _ _ _ _ _
      | exact LeO.none _
      | refine LeO.ite ?_ ?_
      | refine LeO.bind ?_ (fun _ => ?_)
theorem semver_identifiers.mono : ∀ a0 k, LeO (semver_identifiers.f k a0) (semver_identifiers.f (k + 1) a0) := by
  intro a0 k
  obtain ⟨ih0, ih1⟩ := semver_identifiers.mono_l k
  unfold semver_identifiers.f
  repeat' first
      | (with_reducible exact ih0 _ _ _ _)
      | (with_reducible exact ih1 _ _ _ _ _ _)
      | (with_reducible exact LeO.refl _)
      | (with_reducible exact LeO.none _)
      | (with_reducible refine LeO.ite ?_ ?_)
      | (with_reducible refine LeO.bind ?_ (fun _ => ?_))
      | exact ih0 _ _ _ _
      | exact ih1 _ _ _ _ _ _
      | exact LeO.none _
      | refine LeO.ite ?_ ?_
      | refine LeO.bind ?_ (fun _ => ?_)
set_option maxHeartbeats 8000000 in
set_option maxRecDepth 100000 in
theorem semver_identifiers.calls (k : Nat) (a0 : ByteArray) (r : Int) (w : World) (h : semver_identifiers.f k a0 = some r) :
    Calls Tryz.prog 153 #[.string a0] w fun e w' => e = .returned (.int .i64 r) ∧ Drawn0 w w' := by
  have H : (semver_identifiers.l0 k a0 0 0 0) = some r := h
  clear h
  have H' := Aside0.mk H
  clear H
  go_enter Tryz.func153, Tryz.ntmps153
  go_wp2
  go_loopg [3, 4, 5] k (fun kq v3 v4 v5 w' => ∃ (x3_1 : Int) (x4_1 : Int) (x5_1 : Int), v3 = .int .i64 x3_1 ∧ v4 = .int .i64 x4_1 ∧ v5 = .int .i64 x5_1 ∧ Aside0 (semver_identifiers.l0 kq a0 x3_1 x4_1 x5_1 = some r) ∧ Aside0 (kq ≤ k) ∧ Drawn0 w w')
  case atStart => exact ⟨(0), (0), (0), (by first | rfl | (simp; done) | (simp [*]; done)), (by first | rfl | (simp; done) | (simp [*]; done)), (by first | rfl | (simp; done) | (simp [*]; done)), H', ⟨Nat.le_refl _⟩, by repeat (first | exact Drawn0.refl _ | apply Drawn0.step)⟩
  case round =>
    clear H'
    try clear c1
    obtain ⟨x3_1, x4_1, x5_1, rfl, rfl, rfl, HA, HK1, ⟨m1, rfl⟩⟩ := hrel
    cases gk with
    | zero => exact absurd HA.out (by simp [semver_identifiers.l0])
    | succ k1 =>
      have H := HA.out
      clear HA
      simp only [semver_identifiers.l0] at H
      by_cases c2 : x5_1 < (a0.size : Int)
      · rw [if_pos c2] at H
        have c2b0 : decide (x5_1 < (a0.size : Int)) = true := decide_eq_true c2
        clear c2
        by_cases c3 : 0 ≤ x5_1
        · rw [if_pos c3] at H
          have c3b0 : decide (0 ≤ x5_1) = true := decide_eq_true c3
          clear c3
          have HC5 := Aside0.mk H
          clear H
          have p4 : 0 ≤ (x5_1 : Int) := of_decide_eq_true (by first | (with_reducible assumption) | assumption)
          have q4 : x5_1 < (a0.size : Int) := of_decide_eq_true (by first | (with_reducible assumption) | assumption)
          have hx4 := bt_at a0 x5_1
          replace p4 := eq_true p4
          replace q4 := eq_true q4
          go_upto_region 7 with (fail)
          go_cut [17] (fun v17 wc => ∃ (kq : Nat) (x17_4 : Bool), v17 = .bool x17_4 ∧ Aside0 (semver_identifiers.j1 kq a0 x3_1 x4_1 x5_1 (bt a0 x5_1) x17_4 = some r) ∧ Aside0 (kq ≤ k1) ∧ Drawn0 w wc)
          case first =>
            have H := HC5.out
            clear HC5
            by_cases c6 : 48 ≤ (bt a0 x5_1)
            · rw [if_pos c6] at H
              have c6b0 : decide (48 ≤ (bt a0 x5_1)) = true := decide_eq_true c6
              clear c6
              (first | rw [c6b0] | (simp only [i64_w, i32_w]; rw [c6b0]) | skip)
              by_cases c7 : (bt a0 x5_1) ≤ 57
              · rw [if_pos c7] at H
                have c7b0 : decide ((bt a0 x5_1) ≤ 57) = true := decide_eq_true c7
                clear c7
                have H' := Aside0.mk H
                clear H
                go_wp2
                go_meet
                case rel => exact ⟨_, (true), (by first | rfl | (simp; done) | (simp [*]; done)), H', ⟨by have := HK1.out; first | omega | exact Nat.le_refl _⟩, by repeat (first | exact Drawn0.refl _ | apply Drawn0.step)⟩
              · rw [if_neg c7] at H
                have c7b0 : decide ((bt a0 x5_1) ≤ 57) = false := decide_eq_false c7
                clear c7
                by_cases c8 : 97 ≤ (bt a0 x5_1)
                · rw [if_pos c8] at H
                  have c8b0 : decide (97 ≤ (bt a0 x5_1)) = true := decide_eq_true c8
                  clear c8
                  by_cases c9 : (bt a0 x5_1) ≤ 122
                  · rw [if_pos c9] at H
                    have c9b0 : decide ((bt a0 x5_1) ≤ 122) = true := decide_eq_true c9
                    clear c9
                    have H' := Aside0.mk H
                    clear H
                    go_wp2
                    go_meet
                    case rel => exact ⟨_, (true), (by first | rfl | (simp; done) | (simp [*]; done)), H', ⟨by have := HK1.out; first | omega | exact Nat.le_refl _⟩, by repeat (first | exact Drawn0.refl _ | apply Drawn0.step)⟩
                  · rw [if_neg c9] at H
                    have c9b0 : decide ((bt a0 x5_1) ≤ 122) = false := decide_eq_false c9
                    clear c9
                    by_cases c10 : 65 ≤ (bt a0 x5_1)
                    · rw [if_pos c10] at H
                      have c10b0 : decide (65 ≤ (bt a0 x5_1)) = true := decide_eq_true c10
                      clear c10
                      by_cases c11 : (bt a0 x5_1) ≤ 90
                      · rw [if_pos c11] at H
                        have c11b0 : decide ((bt a0 x5_1) ≤ 90) = true := decide_eq_true c11
                        clear c11
                        have H' := Aside0.mk H
                        clear H
                        go_wp2
                        go_meet
                        case rel => exact ⟨_, (true), (by first | rfl | (simp; done) | (simp [*]; done)), H', ⟨by have := HK1.out; first | omega | exact Nat.le_refl _⟩, by repeat (first | exact Drawn0.refl _ | apply Drawn0.step)⟩
                      · rw [if_neg c11] at H
                        have c11b0 : decide ((bt a0 x5_1) ≤ 90) = false := decide_eq_false c11
                        clear c11
                        have H' := Aside0.mk H
                        clear H
                        go_wp2
                        go_meet
                        case rel => exact ⟨_, (((bt a0 x5_1) == 45)), (by first | rfl | (simp; done) | (simp [*]; done)), H', ⟨by have := HK1.out; first | omega | exact Nat.le_refl _⟩, by repeat (first | exact Drawn0.refl _ | apply Drawn0.step)⟩
                    · rw [if_neg c10] at H
                      have c10b0 : decide (65 ≤ (bt a0 x5_1)) = false := decide_eq_false c10
                      clear c10
                      have H' := Aside0.mk H
                      clear H
                      go_wp2
                      go_meet
                      case rel => exact ⟨_, (((bt a0 x5_1) == 45)), (by first | rfl | (simp; done) | (simp [*]; done)), H', ⟨by have := HK1.out; first | omega | exact Nat.le_refl _⟩, by repeat (first | exact Drawn0.refl _ | apply Drawn0.step)⟩
                · rw [if_neg c8] at H
                  have c8b0 : decide (97 ≤ (bt a0 x5_1)) = false := decide_eq_false c8
                  clear c8
                  by_cases c12 : 65 ≤ (bt a0 x5_1)
                  · rw [if_pos c12] at H
                    have c12b0 : decide (65 ≤ (bt a0 x5_1)) = true := decide_eq_true c12
                    clear c12
                    by_cases c13 : (bt a0 x5_1) ≤ 90
                    · rw [if_pos c13] at H
                      have c13b0 : decide ((bt a0 x5_1) ≤ 90) = true := decide_eq_true c13
                      clear c13
                      have H' := Aside0.mk H
                      clear H
                      go_wp2
                      go_meet
                      case rel => exact ⟨_, (true), (by first | rfl | (simp; done) | (simp [*]; done)), H', ⟨by have := HK1.out; first | omega | exact Nat.le_refl _⟩, by repeat (first | exact Drawn0.refl _ | apply Drawn0.step)⟩
                    · rw [if_neg c13] at H
                      have c13b0 : decide ((bt a0 x5_1) ≤ 90) = false := decide_eq_false c13
                      clear c13
                      have H' := Aside0.mk H
                      clear H
                      go_wp2
                      go_meet
                      case rel => exact ⟨_, (((bt a0 x5_1) == 45)), (by first | rfl | (simp; done) | (simp [*]; done)), H', ⟨by have := HK1.out; first | omega | exact Nat.le_refl _⟩, by repeat (first | exact Drawn0.refl _ | apply Drawn0.step)⟩
                  · rw [if_neg c12] at H
                    have c12b0 : decide (65 ≤ (bt a0 x5_1)) = false := decide_eq_false c12
                    clear c12
                    have H' := Aside0.mk H
                    clear H
                    go_wp2
                    go_meet
                    case rel => exact ⟨_, (((bt a0 x5_1) == 45)), (by first | rfl | (simp; done) | (simp [*]; done)), H', ⟨by have := HK1.out; first | omega | exact Nat.le_refl _⟩, by repeat (first | exact Drawn0.refl _ | apply Drawn0.step)⟩
            · rw [if_neg c6] at H
              have c6b0 : decide (48 ≤ (bt a0 x5_1)) = false := decide_eq_false c6
              clear c6
              (first | rw [c6b0] | (simp only [i64_w, i32_w]; rw [c6b0]) | skip)
              by_cases c14 : 97 ≤ (bt a0 x5_1)
              · rw [if_pos c14] at H
                have c14b0 : decide (97 ≤ (bt a0 x5_1)) = true := decide_eq_true c14
                clear c14
                by_cases c15 : (bt a0 x5_1) ≤ 122
                · rw [if_pos c15] at H
                  have c15b0 : decide ((bt a0 x5_1) ≤ 122) = true := decide_eq_true c15
                  clear c15
                  have H' := Aside0.mk H
                  clear H
                  go_wp2
                  go_meet
                  case rel => exact ⟨_, (true), (by first | rfl | (simp; done) | (simp [*]; done)), H', ⟨by have := HK1.out; first | omega | exact Nat.le_refl _⟩, by repeat (first | exact Drawn0.refl _ | apply Drawn0.step)⟩
                · rw [if_neg c15] at H
                  have c15b0 : decide ((bt a0 x5_1) ≤ 122) = false := decide_eq_false c15
                  clear c15
                  by_cases c16 : 65 ≤ (bt a0 x5_1)
                  · rw [if_pos c16] at H
                    have c16b0 : decide (65 ≤ (bt a0 x5_1)) = true := decide_eq_true c16
                    clear c16
                    by_cases c17 : (bt a0 x5_1) ≤ 90
                    · rw [if_pos c17] at H
                      have c17b0 : decide ((bt a0 x5_1) ≤ 90) = true := decide_eq_true c17
                      clear c17
                      have H' := Aside0.mk H
                      clear H
                      go_wp2
                      go_meet
                      case rel => exact ⟨_, (true), (by first | rfl | (simp; done) | (simp [*]; done)), H', ⟨by have := HK1.out; first | omega | exact Nat.le_refl _⟩, by repeat (first | exact Drawn0.refl _ | apply Drawn0.step)⟩
                    · rw [if_neg c17] at H
                      have c17b0 : decide ((bt a0 x5_1) ≤ 90) = false := decide_eq_false c17
                      clear c17
                      have H' := Aside0.mk H
                      clear H
                      go_wp2
                      go_meet
                      case rel => exact ⟨_, (((bt a0 x5_1) == 45)), (by first | rfl | (simp; done) | (simp [*]; done)), H', ⟨by have := HK1.out; first | omega | exact Nat.le_refl _⟩, by repeat (first | exact Drawn0.refl _ | apply Drawn0.step)⟩
                  · rw [if_neg c16] at H
                    have c16b0 : decide (65 ≤ (bt a0 x5_1)) = false := decide_eq_false c16
                    clear c16
                    have H' := Aside0.mk H
                    clear H
                    go_wp2
                    go_meet
                    case rel => exact ⟨_, (((bt a0 x5_1) == 45)), (by first | rfl | (simp; done) | (simp [*]; done)), H', ⟨by have := HK1.out; first | omega | exact Nat.le_refl _⟩, by repeat (first | exact Drawn0.refl _ | apply Drawn0.step)⟩
              · rw [if_neg c14] at H
                have c14b0 : decide (97 ≤ (bt a0 x5_1)) = false := decide_eq_false c14
                clear c14
                by_cases c18 : 65 ≤ (bt a0 x5_1)
                · rw [if_pos c18] at H
                  have c18b0 : decide (65 ≤ (bt a0 x5_1)) = true := decide_eq_true c18
                  clear c18
                  by_cases c19 : (bt a0 x5_1) ≤ 90
                  · rw [if_pos c19] at H
                    have c19b0 : decide ((bt a0 x5_1) ≤ 90) = true := decide_eq_true c19
                    clear c19
                    have H' := Aside0.mk H
                    clear H
                    go_wp2
                    go_meet
                    case rel => exact ⟨_, (true), (by first | rfl | (simp; done) | (simp [*]; done)), H', ⟨by have := HK1.out; first | omega | exact Nat.le_refl _⟩, by repeat (first | exact Drawn0.refl _ | apply Drawn0.step)⟩
                  · rw [if_neg c19] at H
                    have c19b0 : decide ((bt a0 x5_1) ≤ 90) = false := decide_eq_false c19
                    clear c19
                    have H' := Aside0.mk H
                    clear H
                    go_wp2
                    go_meet
                    case rel => exact ⟨_, (((bt a0 x5_1) == 45)), (by first | rfl | (simp; done) | (simp [*]; done)), H', ⟨by have := HK1.out; first | omega | exact Nat.le_refl _⟩, by repeat (first | exact Drawn0.refl _ | apply Drawn0.step)⟩
                · rw [if_neg c18] at H
                  have c18b0 : decide (65 ≤ (bt a0 x5_1)) = false := decide_eq_false c18
                  clear c18
                  have H' := Aside0.mk H
                  clear H
                  go_wp2
                  go_meet
                  case rel => exact ⟨_, (((bt a0 x5_1) == 45)), (by first | rfl | (simp; done) | (simp [*]; done)), H', ⟨by have := HK1.out; first | omega | exact Nat.le_refl _⟩, by repeat (first | exact Drawn0.refl _ | apply Drawn0.step)⟩
          case rest =>
            clear HC5
            try clear c1
            try clear c2
            try clear c2b0
            try clear p2
            try clear c3
            try clear c3b0
            try clear p4
            try clear q4
            try clear hx4
            try clear c6
            try clear c6b0
            try clear c7
            try clear c7b0
            try clear c8
            try clear c8b0
            try clear c9
            try clear c9b0
            try clear c10
            try clear c10b0
            try clear c11
            try clear c11b0
            try clear c12
            try clear c12b0
            try clear c13
            try clear c13b0
            try clear c14
            try clear c14b0
            try clear c15
            try clear c15b0
            try clear c16
            try clear c16b0
            try clear c17
            try clear c17b0
            try clear c18
            try clear c18b0
            try clear c19
            try clear c19b0
            try clear p4
            try clear q4
            obtain ⟨kq, x17_4, rfl, HA, HJ4, ⟨mc4, rfl⟩⟩ := hcut
            cases kq with
            | zero => exact absurd HA.out (by simp [semver_identifiers.j1])
            | succ kj4 =>
              have H := HA.out
              clear HA
              simp only [semver_identifiers.j1] at H
              by_cases c20 : x17_4 = true
              · subst c20
                have H1 : (semver_identifiers.l0 kj4 a0 (wrap64 (x5_1 + 1)) (wrap64 (x4_1 + 1)) (wrap64 (x5_1 + 1))) = some r := by rw [if_pos rfl] at H; exact H
                clear H
                have H := H1
                clear H1
                have H' := Aside0.mk H
                clear H
                go_wp2
                go_roundg kj4
                case measure => have := HK1.out; have := HJ4.out; omega
                case rel => exact ⟨(wrap64 (x5_1 + 1)), (wrap64 (x4_1 + 1)), (wrap64 (x5_1 + 1)), (by first | rfl | (simp; done) | (simp [*]; done)), (by first | rfl | (simp; done) | (simp [*]; done)), (by first | rfl | (simp; done) | (simp [*]; done)), H', ⟨by have := HK1.out; have := HJ4.out; omega⟩, by repeat (first | exact Drawn0.refl _ | apply Drawn0.step)⟩
              · replace c20 := Bool.eq_false_iff.mpr c20
                subst c20
                have H1 : (if (bt a0 x5_1) = 46 then (if x4_1 > 0 then (semver_identifiers.l0 kj4 a0 x3_1 0 (wrap64 (x5_1 + 1))) else (some x3_1)) else (some x3_1)) = some r := by rw [if_neg (show ¬ (false = true) by decide)] at H; exact H
                clear H
                have H := H1
                clear H1
                by_cases c21 : (bt a0 x5_1) = 46
                · rw [if_pos c21] at H
                  have c21b0 : ((bt a0 x5_1) == 46) = true := beq_iff_eq.mpr c21
                  have c21b1 : ((bt a0 x5_1) != 46) = false := bne_eq_false_iff_eq.mpr c21
                  clear c21
                  by_cases c22 : x4_1 > 0
                  · rw [if_pos c22] at H
                    have c22b0 : decide (0 < x4_1) = true := decide_eq_true c22
                    clear c22
                    have H' := Aside0.mk H
                    clear H
                    go_wp2
                    go_roundg kj4
                    case measure => have := HK1.out; have := HJ4.out; omega
                    case rel => exact ⟨(x3_1), (0), (wrap64 (x5_1 + 1)), (by first | rfl | (simp; done) | (simp [*]; done)), (by first | rfl | (simp; done) | (simp [*]; done)), (by first | rfl | (simp; done) | (simp [*]; done)), H', ⟨by have := HK1.out; have := HJ4.out; omega⟩, by repeat (first | exact Drawn0.refl _ | apply Drawn0.step)⟩
                  · rw [if_neg c22] at H
                    have c22b0 : decide (0 < x4_1) = false := decide_eq_false c22
                    clear c22
                    obtain rfl := Option.some.inj H
                    go_wp2
                    go_ret
                    exact ⟨by first | rfl | (simp; done) | (simp [*]; done), by repeat (first | exact Drawn0.refl _ | apply Drawn0.step)⟩
                · rw [if_neg c21] at H
                  have c21b0 : ((bt a0 x5_1) == 46) = false := beq_eq_false_iff_ne.mpr c21
                  have c21b1 : ((bt a0 x5_1) != 46) = true := bne_iff_ne.mpr c21
                  obtain rfl := Option.some.inj H
                  go_wp2
                  go_ret
                  exact ⟨by first | rfl | (simp; done) | (simp [*]; done), by repeat (first | exact Drawn0.refl _ | apply Drawn0.step)⟩
        · rw [if_neg c3] at H
          exact absurd H (by simp)
      · rw [if_neg c2] at H
        have c2b0 : decide (x5_1 < (a0.size : Int)) = false := decide_eq_false c2
        clear c2
        obtain rfl := Option.some.inj H
        go_wp2
        go_ret
        exact ⟨by first | rfl | (simp; done) | (simp [*]; done), by repeat (first | exact Drawn0.refl _ | apply Drawn0.step)⟩

end Go.Proofs.YtgoeiflddikihaaGreatDoor.PFnIntersectAny
end
