/- Merged by program out of: HeadRow, Mem2, Mem3, Drawn. -/
import Derived.Test.YtgoeiflddikihaaGreatDoorCards
import Derived.Test.YtgoeiflddikihaaGreatDoorCvM3
import Derived.ProofKit
import Derived.Test.YtgoeiflddikihaaGreatDoorCvM4
import Derived.Test.YtgoeiflddikihaaGreatDoorCvM0
import Derived.Deep.RegionHeld
import Derived.OrdersHeld
section
namespace Go.Proofs.YtgoeiflddikihaaGreatDoor.HeadRow
open Go.Proofs.YtgoeiflddikihaaGreatDoorW.Head
set_option maxRecDepth 100000
def sum : List Char := ['4', 'b', '7', '0', 'e', 'b', '2', '2', 'f', '5', 'a', '0', '2', 'e', '1', 'd', '0', 'd', 'e', '1', '2', '6', 'a', 'e', '3', 'c', 'b', 'c', '2', 'f', '2', '0', '8', '6', 'a', '1', '6', 'd', '4', '4', '4', '1', 'a', 'a', '3', '7', '0', '5', 'b', '2', 'e', '5', '4', 'c', 'f', 'f', 'b', '6', '6', '6', '0', 'a', '3', '2']
def rest : List Char := ['a', 't', ' ', 'p', 'u', 'b', '-', 'c', 'a', 'r', 'a', 'v', 'a', 'n', 's', 'e', 'r', 'a', 'i', '/', 'l', 'a', 'w', 's', '.', 'F', 'n', 'I', 'n', 't', 'e', 'r', 's', 'e', 'c', 't', 'M', 'a', 'n', 'y', ' ', 'p', 'u', 'b', '-', 'c', 'a', 'r', 'a', 'v', 'a', 'n', 's', 'e', 'r', 'a', 'i', '/', 'l', 'a', 'w', 's', '.', 'F', 'n', 'M', 'a', 't', 'c', 'h', 'e', 's', ' ', 'p', 'u', 'b', '-', 'c', 'a', 'r', 'a', 'v', 'a', 'n', 's', 'e', 'r', 'a', 'i', '/', 'l', 'a', 'w', 's', '.', 'F', 'n', 'S', 'e', 'm', 'v', 'e', 'r', ' ', 'p', 'u', 'b', '-', 'c', 'a', 'r', 'a', 'v', 'a', 'n', 's', 'e', 'r', 'a', 'i', '/', 'l', 'a', 'w', 's', '.', 'F', 'n', 'S', 'e', 'm', 'v', 'e', 'r', 'O', 'r', 'd', 'e', 'r', ' ', 'p', 'u', 'b', '-', 'c', 'a', 'r', 'a', 'v', 'a', 'n', 's', 'e', 'r', 'a', 'i', '/', 'l', 'a', 'w', 's', '.', 'F', 'n', 'S', 'i', 'g', 'n', ' ', 'p', 'u', 'b', '-', 'c', 'a', 'r', 'a', 'v', 'a', 'n', 's', 'e', 'r', 'a', 'i', '/', 'l', 'a', 'w', 's', '.', 'F', 'n', 'S', 'o', 'r', 't', 'A', 'g', 'a', 'i', 'n', ' ', 'p', 'u', 'b', '-', 'c', 'a', 'r', 'a', 'v', 'a', 'n', 's', 'e', 'r', 'a', 'i', '/', 'l', 'a', 'w', 's', '.', 'F', 'n', 'S', 'o', 'r', 't', 'D', 'o', 'w', 'n', 'g', 'r', 'a', 'd', 'e', ' ', 'p', 'u', 'b', '-', 'c', 'a', 'r', 'a', 'v', 'a', 'n', 's', 'e', 'r', 'a', 'i', '/', 'l', 'a', 'w', 's', '.', 'F', 'n', 'S', 'o', 'r', 't', 'P', 'a', 'i', 'r', 'e', 'd', ' ', 'p', 'u', 'b', '-', 'c', 'a', 'r', 'a', 'v', 'a', 'n', 's', 'e', 'r', 'a', 'i', '/', 'l', 'a', 'w', 's', '.', 'F', 'n', 'S', 'o', 'r', 't', 'U', 'p', 'g', 'r', 'a', 'd', 'e', ' ', 'p', 'u', 'b', '-', 'c', 'a', 'r', 'a', 'v', 'a', 'n', 's', 'e', 'r', 'a', 'i', '/', 'l', 'a', 'w', 's', '.', 'F', 'n', 'V', 'e', 'r', 's', 'i', 'o', 'n', ' ', 'p', 'u', 'b', '-', 'c', 'a', 'r', 'a', 'v', 'a', 'n', 's', 'e', 'r', 'a', 'i', '/', 'l', 'a', 'w', 's', '.', 'F', 'n', 'I', 'd', 'e', 'n', 't', 'L', 'e', 's', 's', ' ', 'p', 'u', 'b', '-', 'c', 'a', 'r', 'a', 'v', 'a', 'n', 's', 'e', 'r', 'a', 'i', '/', 'l', 'a', 'w', 's', '.', 'F', 'n', 'I', 'd', 'e', 'n', 't', 'T', 'e', 'x', 't', ' ', 'p', 'u', 'b', '-', 'c', 'a', 'r', 'a', 'v', 'a', 'n', 's', 'e', 'r', 'a', 'i', '/', 'l', 'a', 'w', 's', '.', 'F', 'n', 'B', 'l', 'a', 'n', 'k', 's', ' ', 'p', 'u', 'b', '-', 'c', 'a', 'r', 'a', 'v', 'a', 'n', 's', 'e', 'r', 'a', 'i', '/', 'l', 'a', 'w', 's', '.', 'F', 'n', 'C', 'a', 'r', 'e', 't', ' ', 'p', 'u', 'b', '-', 'c', 'a', 'r', 'a', 'v', 'a', 'n', 's', 'e', 'r', 'a', 'i', '/', 'l', 'a', 'w', 's', '.', 'F', 'n', 'C', 'o', 'n', 's', 't', 'r', 'a', 'i', 'n', 't', ' ', 'p', 'u', 'b', '-', 'c', 'a', 'r', 'a', 'v', 'a', 'n', 's', 'e', 'r', 'a', 'i', '/', 'l', 'a', 'w', 's', '.', 'F', 'n', 'T', 'e', 'x', 't', 'B', 'a', 'c', 'k', ' ', 'p', 'u', 'b', '-', 'c', 'a', 'r', 'a', 'v', 'a', 'n', 's', 'e', 'r', 'a', 'i', '/', 'l', 'a', 'w', 's', '.', 'F', 'n', 'I', 'n', 't', 'e', 'r', 's', 'e', 'c', 't', ' ', 'p', 'u', 'b', '-', 'c', 'a', 'r', 'a', 'v', 'a', 'n', 's', 'e', 'r', 'a', 'i', '/', 'l', 'a', 'w', 's', '.', 'F', 'n', 'I', 'n', 't', 'e', 'r', 's', 'e', 'c', 't', 'S', 'e', 't', ' ', 'p', 'u', 'b', '-', 'c', 'a', 'r', 'a', 'v', 'a', 'n', 's', 'e', 'r', 'a', 'i', '/', 'l', 'a', 'w', 's', '.', 'F', 'n', 'M', 'a', 't', 'c', 'h', 'e', 's', 'A', 'n', 'y', ' ', 'p', 'u', 'b', '-', 'c', 'a', 'r', 'a', 'v', 'a', 'n', 's', 'e', 'r', 'a', 'i', '/', 'l', 'a', 'w', 's', '.', 'F', 'n', 'I', 'n', 't', 'e', 'r', 's', 'e', 'c', 't', 'A', 'n', 'y']
theorem order : Tryz.prog.initOrder.toList = "harness".toList ++ ' ' :: (sum ++ ' ' :: ("cut".toList ++ ' ' :: rest)) := by
  show String.toList "harness 4b70eb22f5a02e1d0de126ae3cbc2f2086a16d4441aa3705b2e54cffb6660a32 cut at pub-caravanserai/laws.FnIntersectMany pub-caravanserai/laws.FnMatches pub-caravanserai/laws.FnSemver pub-caravanserai/laws.FnSemverOrder pub-caravanserai/laws.FnSign pub-caravanserai/laws.FnSortAgain pub-caravanserai/laws.FnSortDowngrade pub-caravanserai/laws.FnSortPaired pub-caravanserai/laws.FnSortUpgrade pub-caravanserai/laws.FnVersion pub-caravanserai/laws.FnIdentLess pub-caravanserai/laws.FnIdentText pub-caravanserai/laws.FnBlanks pub-caravanserai/laws.FnCaret pub-caravanserai/laws.FnConstraint pub-caravanserai/laws.FnTextBack pub-caravanserai/laws.FnIntersect pub-caravanserai/laws.FnIntersectSet pub-caravanserai/laws.FnMatchesAny pub-caravanserai/laws.FnIntersectAny" = _
  have : String.toList "harness 4b70eb22f5a02e1d0de126ae3cbc2f2086a16d4441aa3705b2e54cffb6660a32 cut at pub-caravanserai/laws.FnIntersectMany pub-caravanserai/laws.FnMatches pub-caravanserai/laws.FnSemver pub-caravanserai/laws.FnSemverOrder pub-caravanserai/laws.FnSign pub-caravanserai/laws.FnSortAgain pub-caravanserai/laws.FnSortDowngrade pub-caravanserai/laws.FnSortPaired pub-caravanserai/laws.FnSortUpgrade pub-caravanserai/laws.FnVersion pub-caravanserai/laws.FnIdentLess pub-caravanserai/laws.FnIdentText pub-caravanserai/laws.FnBlanks pub-caravanserai/laws.FnCaret pub-caravanserai/laws.FnConstraint pub-caravanserai/laws.FnTextBack pub-caravanserai/laws.FnIntersect pub-caravanserai/laws.FnIntersectSet pub-caravanserai/laws.FnMatchesAny pub-caravanserai/laws.FnIntersectAny" = ['h', 'a', 'r', 'n', 'e', 's', 's', ' ', '4', 'b', '7', '0', 'e', 'b', '2', '2', 'f', '5', 'a', '0', '2', 'e', '1', 'd', '0', 'd', 'e', '1', '2', '6', 'a', 'e', '3', 'c', 'b', 'c', '2', 'f', '2', '0', '8', '6', 'a', '1', '6', 'd', '4', '4', '4', '1', 'a', 'a', '3', '7', '0', '5', 'b', '2', 'e', '5', '4', 'c', 'f', 'f', 'b', '6', '6', '6', '0', 'a', '3', '2', ' ', 'c', 'u', 't', ' ', 'a', 't', ' ', 'p', 'u', 'b', '-', 'c', 'a', 'r', 'a', 'v', 'a', 'n', 's', 'e', 'r', 'a', 'i', '/', 'l', 'a', 'w', 's', '.', 'F', 'n', 'I', 'n', 't', 'e', 'r', 's', 'e', 'c', 't', 'M', 'a', 'n', 'y', ' ', 'p', 'u', 'b', '-', 'c', 'a', 'r', 'a', 'v', 'a', 'n', 's', 'e', 'r', 'a', 'i', '/', 'l', 'a', 'w', 's', '.', 'F', 'n', 'M', 'a', 't', 'c', 'h', 'e', 's', ' ', 'p', 'u', 'b', '-', 'c', 'a', 'r', 'a', 'v', 'a', 'n', 's', 'e', 'r', 'a', 'i', '/', 'l', 'a', 'w', 's', '.', 'F', 'n', 'S', 'e', 'm', 'v', 'e', 'r', ' ', 'p', 'u', 'b', '-', 'c', 'a', 'r', 'a', 'v', 'a', 'n', 's', 'e', 'r', 'a', 'i', '/', 'l', 'a', 'w', 's', '.', 'F', 'n', 'S', 'e', 'm', 'v', 'e', 'r', 'O', 'r', 'd', 'e', 'r', ' ', 'p', 'u', 'b', '-', 'c', 'a', 'r', 'a', 'v', 'a', 'n', 's', 'e', 'r', 'a', 'i', '/', 'l', 'a', 'w', 's', '.', 'F', 'n', 'S', 'i', 'g', 'n', ' ', 'p', 'u', 'b', '-', 'c', 'a', 'r', 'a', 'v', 'a', 'n', 's', 'e', 'r', 'a', 'i', '/', 'l', 'a', 'w', 's', '.', 'F', 'n', 'S', 'o', 'r', 't', 'A', 'g', 'a', 'i', 'n', ' ', 'p', 'u', 'b', '-', 'c', 'a', 'r', 'a', 'v', 'a', 'n', 's', 'e', 'r', 'a', 'i', '/', 'l', 'a', 'w', 's', '.', 'F', 'n', 'S', 'o', 'r', 't', 'D', 'o', 'w', 'n', 'g', 'r', 'a', 'd', 'e', ' ', 'p', 'u', 'b', '-', 'c', 'a', 'r', 'a', 'v', 'a', 'n', 's', 'e', 'r', 'a', 'i', '/', 'l', 'a', 'w', 's', '.', 'F', 'n', 'S', 'o', 'r', 't', 'P', 'a', 'i', 'r', 'e', 'd', ' ', 'p', 'u', 'b', '-', 'c', 'a', 'r', 'a', 'v', 'a', 'n', 's', 'e', 'r', 'a', 'i', '/', 'l', 'a', 'w', 's', '.', 'F', 'n', 'S', 'o', 'r', 't', 'U', 'p', 'g', 'r', 'a', 'd', 'e', ' ', 'p', 'u', 'b', '-', 'c', 'a', 'r', 'a', 'v', 'a', 'n', 's', 'e', 'r', 'a', 'i', '/', 'l', 'a', 'w', 's', '.', 'F', 'n', 'V', 'e', 'r', 's', 'i', 'o', 'n', ' ', 'p', 'u', 'b', '-', 'c', 'a', 'r', 'a', 'v', 'a', 'n', 's', 'e', 'r', 'a', 'i', '/', 'l', 'a', 'w', 's', '.', 'F', 'n', 'I', 'd', 'e', 'n', 't', 'L', 'e', 's', 's', ' ', 'p', 'u', 'b', '-', 'c', 'a', 'r', 'a', 'v', 'a', 'n', 's', 'e', 'r', 'a', 'i', '/', 'l', 'a', 'w', 's', '.', 'F', 'n', 'I', 'd', 'e', 'n', 't', 'T', 'e', 'x', 't', ' ', 'p', 'u', 'b', '-', 'c', 'a', 'r', 'a', 'v', 'a', 'n', 's', 'e', 'r', 'a', 'i', '/', 'l', 'a', 'w', 's', '.', 'F', 'n', 'B', 'l', 'a', 'n', 'k', 's', ' ', 'p', 'u', 'b', '-', 'c', 'a', 'r', 'a', 'v', 'a', 'n', 's', 'e', 'r', 'a', 'i', '/', 'l', 'a', 'w', 's', '.', 'F', 'n', 'C', 'a', 'r', 'e', 't', ' ', 'p', 'u', 'b', '-', 'c', 'a', 'r', 'a', 'v', 'a', 'n', 's', 'e', 'r', 'a', 'i', '/', 'l', 'a', 'w', 's', '.', 'F', 'n', 'C', 'o', 'n', 's', 't', 'r', 'a', 'i', 'n', 't', ' ', 'p', 'u', 'b', '-', 'c', 'a', 'r', 'a', 'v', 'a', 'n', 's', 'e', 'r', 'a', 'i', '/', 'l', 'a', 'w', 's', '.', 'F', 'n', 'T', 'e', 'x', 't', 'B', 'a', 'c', 'k', ' ', 'p', 'u', 'b', '-', 'c', 'a', 'r', 'a', 'v', 'a', 'n', 's', 'e', 'r', 'a', 'i', '/', 'l', 'a', 'w', 's', '.', 'F', 'n', 'I', 'n', 't', 'e', 'r', 's', 'e', 'c', 't', ' ', 'p', 'u', 'b', '-', 'c', 'a', 'r', 'a', 'v', 'a', 'n', 's', 'e', 'r', 'a', 'i', '/', 'l', 'a', 'w', 's', '.', 'F', 'n', 'I', 'n', 't', 'e', 'r', 's', 'e', 'c', 't', 'S', 'e', 't', ' ', 'p', 'u', 'b', '-', 'c', 'a', 'r', 'a', 'v', 'a', 'n', 's', 'e', 'r', 'a', 'i', '/', 'l', 'a', 'w', 's', '.', 'F', 'n', 'M', 'a', 't', 'c', 'h', 'e', 's', 'A', 'n', 'y', ' ', 'p', 'u', 'b', '-', 'c', 'a', 'r', 'a', 'v', 'a', 'n', 's', 'e', 'r', 'a', 'i', '/', 'l', 'a', 'w', 's', '.', 'F', 'n', 'I', 'n', 't', 'e', 'r', 's', 'e', 'c', 't', 'A', 'n', 'y'] := String.toList_ofList
  rw [this]
  decide
theorem cut : Cut Tryz.prog sum := cut_of order (by decide)
theorem laysLater : Tryz.prog.laysLater = false := by kernel_rfl
theorem bearsReflect : Tryz.prog.bearsReflect = false := by kernel_rfl
theorem doorFits : Tryz.prog.doorFits [] = true := by kernel_rfl
theorem enter : Tryz.prog.mayEnter = true := cut.enter laysLater bearsReflect doorFits
theorem final : Tryz.prog.liftsFinal = false := cut.final
theorem make : Tryz.prog.make = some .cut := cut.make
theorem main : Tryz.prog.mainIs = some (true, sum) := cut.main
theorem laidOut : laidOutB Tryz.prog = true := by kernel_rfl
theorem mapsRowed : mapsRowed Tryz.prog = true := by kernel_rfl
theorem stops : (Tryz.prog.stops == []) = true := by kernel_rfl
theorem stopKnobs : (Tryz.prog.stopKnobs == []) = true := by kernel_rfl
theorem stopsHeard : Tryz.prog.stopsHeard = true := by kernel_rfl
theorem looks : true = Tryz.prog.looks [] := by kernel_rfl
theorem own : ownKnob Tryz.prog.godebug = none := by kernel_rfl
end Go.Proofs.YtgoeiflddikihaaGreatDoor.HeadRow
end
section
namespace Go.Proofs.YtgoeiflddikihaaGreatDoor.Mem
open Go.RowKit Go.Proofs.YtgoeiflddikihaaGreatDoorW.PrintWords
theorem Blks.add {w0 w w1 : World} {L : List Blk} (h : Blks w0 w L) (hb : Below w.heap.size w w1) {g : Nat} (hg : w.heap.size ≤ g) {cs : Array Value} {t : TypeId} (hc : w1.heap[g]? = some (.cells cs t (0, 0))) {l : List Value} (hl : cs.toList = l) : Blks w0 w1 ((g, l, t) :: L) := by
  have h1 := h.call hb
  subst hl
  refine ⟨h1.bel, ?_, ?_, ?_⟩
  · intro x hx
    rcases List.mem_cons.1 hx with rfl | hx
    · exact hc
    · exact h1.has x hx
  · intro x hx
    rcases List.mem_cons.1 hx with rfl | hx
    · exact Nat.le_trans h.bel.size hg
    · exact h1.new x hx
  · rw [List.map_cons, List.nodup_cons]
    refine ⟨?_, h1.nd⟩
    intro hm
    obtain ⟨x, hx, e⟩ := List.mem_map.1 hm
    have := hlt (h.has x hx)
    simp only at e
    omega
structure RowF (n cap size : Nat) (xs rest : List Value) : Prop where
  len : xs.length = n * size
  le : n ≤ cap
  most : cap ≤ maxLen
  all : (xs ++ rest).length = cap * size
theorem row_block {w : World} {base n size : Nat} {e : TypeId} {v : Value} {xs : List Value} (h : w.ownsRow base e size v n xs) (hp : 0 < n) :
    ∃ g cap cells rest, v = .slice (some ⟨g, 0, none⟩) n cap ∧ base ≤ g ∧ w.heap[g]? = some (.cells cells e (0, 0)) ∧ cells.toList = xs ++ rest ∧ RowF n cap size xs rest := by
  obtain ⟨hl, h⟩ := h
  rcases h with ⟨_, rfl⟩ | ⟨g, cap, cur, rfl, hb, hc, h1, h2, h3, ht⟩
  · omega
  · have e1 : cur.toList = xs ++ cur.toList.drop (n * size) := by rw [← ht, List.take_append_drop]
    exact ⟨g, cap, cur, cur.toList.drop (n * size), rfl, hb, hc, e1, hl, h1, h2, by rw [← e1, Array.length_toList, h3]⟩
theorem Blks.rowOf {w0 w : World} {L : List Blk} (h : Blks w0 w L) {g n cap size : Nat} {xs rest : List Value} {e : TypeId} (hm : (g, xs ++ rest, e) ∈ L) (hf : RowF n cap size xs rest) : w.ownsRow w0.heap.size e size (.slice (some ⟨g, 0, none⟩) n cap) n xs :=
  ⟨hf.len, Or.inr ⟨g, cap, (xs ++ rest).toArray, rfl, h.new _ hm, h.has _ hm, hf.le, hf.most, by simpa using hf.all, by simp [← hf.len]⟩⟩
theorem Blks.addr {w0 w : World} {L : List Blk} (h : Blks w0 w L) {g : Nat} {xs rest : List Value} {e : TypeId} (hm : (g, xs ++ rest, e) ∈ L) : ∀ (j : Nat) (u : Value), xs[j]? = some u → w.cell? ((⟨g, 0, none⟩ : Addr).add j) = some u := by
  intro j u hu
  rw [Addr.add_mid]
  have := cell_of_row w g (0 + j) (xs ++ rest).toArray e (0, 0) (h.has _ hm)
  rw [this]
  have hj : j < xs.length := (List.getElem?_eq_some_iff.1 hu).1
  simp only [Nat.zero_add, List.getElem?_toArray]
  rw [List.getElem?_append_left hj, hu]
theorem reps_strings {w : World} {base : Nat} {ok : Nat → Prop} {xs : List ByteArray} {inner : List Value} (h : Reps (Kd.string.M w base ok) 1 xs inner) : inner = xs.map Value.string := by
  obtain ⟨h1, h2⟩ := h
  refine List.ext_getElem (by simp [h1]) fun j hj hj' => ?_
  have hx : j < xs.length := by simpa using hj'
  have := h2 j xs[j] (List.getElem?_eq_getElem hx)
  have e : List.take 1 (List.drop (j * 1) inner) = [Value.string xs[j]] := this
  rw [Nat.mul_one, List.drop_eq_getElem_cons hj, List.take_succ_cons] at e
  injection e with e _
  simp [e]
theorem strs_block {w : World} {base : Nat} {ok : Nat → Prop} {e : TypeId} {v : Value} {xs : List ByteArray} (h : Kd.R Kd.string e w base ok v xs) (hp : 0 < xs.length) :
    ∃ g cap cells rest, v = .slice (some ⟨g, 0, none⟩) xs.length cap ∧ base ≤ g ∧ w.heap[g]? = some (.cells cells e (0, 0)) ∧ cells.toList = xs.map Value.string ++ rest := by
  obtain ⟨_, inner, ho, hr⟩ := h
  obtain ⟨g, cap, cells, rest, h1, h2, h3, h4, _⟩ := row_block ho hp
  rw [reps_strings hr] at h4
  exact ⟨g, cap, cells, rest, h1, h2, h3, h4⟩
end Go.Proofs.YtgoeiflddikihaaGreatDoor.Mem
end
section
namespace Go.Proofs.YtgoeiflddikihaaGreatDoor.Mem
open Go.RowKit Go.Proofs.YtgoeiflddikihaaGreatDoorW.PrintWords
class RowC (P : Program) (ty : TypeId) (n : outParam Nat) : Prop where out : RowT P ty n
class OneC (P : Program) (ty : TypeId) : Prop where out : OneT P ty
class ZeroC (P : Program) (ty : TypeId) (zs : outParam (Array Value)) : Prop where out : (P.info? ty).bind (fun i => i.zero.map (·.cells)) = some zs
class Plain (v : Value) : Prop where out : v.oneCell' = true
instance (b : Bool) : Plain (.bool b) := ⟨rfl⟩
instance (k : IntKind) (n : Int) : Plain (.int k n) := ⟨rfl⟩
instance (s : ByteArray) : Plain (.string s) := ⟨rfl⟩
instance (x : Option Addr) (n m : Nat) : Plain (.slice x n m) := ⟨rfl⟩
instance (t : TypeId) (v : Value) : Plain (.iface t v) := ⟨rfl⟩
instance : Plain .nilIface := ⟨rfl⟩
instance (x : Option Addr) : Plain (.pointer x) := ⟨rfl⟩
section ops
variable {P : Program} {ops : Array Oper} {rest : List Oper} {a : Act} {w0 w : World} {Q : Exit → Act → World → Prop} {L L' : List Blk}
variable {d : Option Tmp} {tt : TypeId} {pos : String} {af : Array Edge}
theorem m_load {ty : TypeId} {x : Operand} {b off n : Nat} {cs vs : List Value} {t : TypeId} (H : Blks w0 w L)
    (hx : a.eval x = .pointer (some ⟨b, off, none⟩) := by rfl) (hm : (b, cs, t) ∈ L := by repeat (first | exact List.Mem.head _ | apply List.Mem.tail))
    [ht : RowC P ty n] (hr : Rd cs off n vs := by repeat (first | exact Rd.nil | apply Rd.here | apply Rd.skip)) (h : wpList P ops Q rest (a.put d (.agg vs.toArray)) w) :
    wpList P ops Q (⟨d, .load ty x, tt, pos, af, none⟩ :: rest) a w := bk_load (o := ⟨d, .load ty x, tt, pos, af, none⟩) rfl rfl hx H hm ht.out hr h
theorem m_load1 {ty : TypeId} {x : Operand} {b off : Nat} {cs : List Value} {v : Value} {t : TypeId} (H : Blks w0 w L)
    (hx : a.eval x = .pointer (some ⟨b, off, none⟩) := by rfl) (hm : (b, cs, t) ∈ L := by repeat (first | exact List.Mem.head _ | apply List.Mem.tail))
    [ht : OneC P ty] (hr : Rd cs off 1 [v] := by repeat (first | exact Rd.nil | apply Rd.here | apply Rd.skip)) (h : wpList P ops Q rest (a.put d v) w) :
    wpList P ops Q (⟨d, .load ty x, tt, pos, af, none⟩ :: rest) a w := bk_load1 (o := ⟨d, .load ty x, tt, pos, af, none⟩) rfl rfl hx H hm ht.out hr h
theorem m_store {ty : TypeId} {x y : Operand} {b off n : Nat} {vs : Array Value} {cs cs' : List Value} {t : TypeId} (H : Blks w0 w L)
    (hx : a.eval x = .pointer (some ⟨b, off, none⟩) := by rfl) (hy : a.eval y = .agg vs := by rfl) [ht : RowC P ty n] (hn : vs.size = n := by rfl) (h1 : vs.all (·.oneCell') = true := by simp [Value.oneCell'])
    (hm : (b, cs, t) ∈ L := by repeat (first | exact List.Mem.head _ | apply List.Mem.tail)) (hw : Wr cs off vs.toList cs' := by repeat (first | exact Wr.nil | apply Wr.here | apply Wr.skip))
    (hu : Up L b cs t cs' L' := by repeat (first | exact Up.here | apply Up.skip)) (h : ∀ w', Aside0 (Blks w0 w' L') → wpList P ops Q rest a w') :
    wpList P ops Q (⟨none, .store ty x y, tt, pos, af, none⟩ :: rest) a w :=
  bk_store (o := ⟨none, .store ty x y, tt, pos, af, none⟩) rfl rfl rfl hx hy H ht.out hn h1 hm hw hu fun w' h' => h w' ⟨h'⟩
theorem m_store1 {ty : TypeId} {x y : Operand} {b off : Nat} {v : Value} {cs cs' : List Value} {t : TypeId} (H : Blks w0 w L)
    (hx : a.eval x = .pointer (some ⟨b, off, none⟩) := by rfl) (hy : a.eval y = v) [ht : OneC P ty] [h1 : Plain v]
    (hm : (b, cs, t) ∈ L := by repeat (first | exact List.Mem.head _ | apply List.Mem.tail)) (hw : Wr cs off [v] cs' := by repeat (first | exact Wr.nil | apply Wr.here | apply Wr.skip))
    (hu : Up L b cs t cs' L' := by repeat (first | exact Up.here | apply Up.skip)) (h : ∀ w', Aside0 (Blks w0 w' L') → wpList P ops Q rest a w') :
    wpList P ops Q (⟨none, .store ty x y, tt, pos, af, none⟩ :: rest) a w :=
  bk_store1 (o := ⟨none, .store ty x y, tt, pos, af, none⟩) rfl rfl rfl hx hy H ht.out h1.out hm hw hu fun w' h' => h w' ⟨h'⟩
theorem m_alloc {ty : TypeId} {zs : Array Value} (H : Blks w0 w L) [hz : ZeroC P ty zs]
    (h : ∀ (b : Nat) (w' : World), Aside0 (Blks w0 w' ((b, zs.toList, ty) :: L)) → wpList P ops Q rest (a.put d (.pointer (some ⟨b, 0, none⟩))) w') :
    wpList P ops Q (⟨d, .alloc ty, tt, pos, af, none⟩ :: rest) a w := bk_alloc (o := ⟨d, .alloc ty, tt, pos, af, none⟩) rfl rfl H hz.out fun b w' h' => h b w' ⟨h'⟩
theorem m_box {ty : TypeId} {x : Operand} {cs : Array Value} (H : Blks w0 w L) (hx : a.eval x = .agg cs := by rfl)
    (h : ∀ (b : Nat) (w' : World), Aside0 (Blks w0 w' ((b, cs.toList, ty) :: L)) → wpList P ops Q rest (a.put d (.pointer (some ⟨b, 0, none⟩))) w') :
    wpList P ops Q (⟨d, .box ty x, tt, pos, af, none⟩ :: rest) a w := bk_box (o := ⟨d, .box ty x, tt, pos, af, none⟩) rfl rfl H hx fun b w' h' => h b w' ⟨h'⟩
theorem m_build {t : TypeId} {parts : Array (Nat × Operand)} {cells : Array Value} (hf : P.built t (parts.map fun (i, x) => (i, a.eval x)).toList = some cells)
    (h : wpList P ops Q rest (a.put d (.agg cells)) w) : wpList P ops Q (⟨d, .build t parts, tt, pos, af, none⟩ :: rest) a w := bk_build (o := ⟨d, .build t parts, tt, pos, af, none⟩) rfl rfl hf h
end ops
def StrsAt (e : TypeId) (w : World) (base : Nat) (v : Value) (pp : List ByteArray) : Prop :=
  (v = .slice none 0 0 ∧ pp = []) ∨ ∃ g cap cells rest, v = .slice (some ⟨g, 0, none⟩) pp.length cap ∧ base ≤ g ∧ w.heap[g]? = some (.cells cells e (0, 0)) ∧ cells.toList = pp.map Value.string ++ rest
theorem StrsAt.below {e : TypeId} {w w' : World} {base : Nat} {v : Value} {pp : List ByteArray} (h : StrsAt e w base v pp) (hb : Below w.heap.size w w') : StrsAt e w' base v pp := by
  rcases h with h | ⟨g, cap, cells, rest, h1, h2, h3, h4⟩
  · exact Or.inl h
  · exact Or.inr ⟨g, cap, cells, rest, h1, h2, (hb.block g (hlt h3)).trans h3, h4⟩
theorem StrsAt.mono {e : TypeId} {w : World} {base base' : Nat} {v : Value} {pp : List ByteArray} (h : StrsAt e w base v pp) (hb : base' ≤ base) : StrsAt e w base' v pp := by
  rcases h with h | ⟨g, cap, cells, rest, h1, h2, h3, h4⟩
  · exact Or.inl h
  · exact Or.inr ⟨g, cap, cells, rest, h1, Nat.le_trans hb h2, h3, h4⟩
theorem StrsAt.val {e : TypeId} {w : World} {base : Nat} {v : Value} {pp : List ByteArray} (h : StrsAt e w base v pp) : ∃ A c, v = .slice A pp.length c := by
  rcases h with ⟨h, rfl⟩ | ⟨g, cap, _, _, h, _⟩
  · exact ⟨_, _, h⟩
  · exact ⟨_, _, h⟩
theorem StrsAt.get {e : TypeId} {w : World} {base : Nat} {v : Value} {pp : List ByteArray} (h : StrsAt e w base v pp) (hp : pp ≠ []) :
    ∃ g cap, v = .slice (some ⟨g, 0, none⟩) pp.length cap ∧ base ≤ g ∧ g < w.heap.size ∧ ∀ j (hj : j < pp.length), w.cell? ⟨g, j, none⟩ = some (.string pp[j]) := by
  rcases h with ⟨_, rfl⟩ | ⟨g, cap, cells, rest, h1, h2, h3, h4⟩
  · exact absurd rfl hp
  · refine ⟨g, cap, h1, h2, hlt h3, fun j hj => ?_⟩
    have := cell_of_row w g j cells e (0, 0) h3
    rw [this, ← Array.getElem?_toList, h4, List.getElem?_append_left (by simpa using hj), List.getElem?_map, List.getElem?_eq_getElem hj]
    rfl
theorem Blks.strs {w0 w : World} {L : List Blk} (h : Blks w0 w L) {g cap : Nat} {pp : List ByteArray} {rest : List Value} {e : TypeId} (hm : (g, pp.map Value.string ++ rest, e) ∈ L) : StrsAt e w w0.heap.size (.slice (some ⟨g, 0, none⟩) pp.length cap) pp :=
  Or.inr ⟨g, cap, _, rest, rfl, h.new _ hm, h.has _ hm, rfl⟩
theorem Blks.perm {w0 w : World} {L L' : List Blk} (h : Blks w0 w L) (hp : L.Perm L') : Blks w0 w L' :=
  ⟨h.bel, fun x hx => h.has x (hp.symm.subset hx), fun x hx => h.new x (hp.symm.subset hx), (hp.map _).nodup_iff.1 h.nd⟩
theorem Blks.turn3 {w0 w : World} {x y z : Blk} {L : List Blk} (h : Blks w0 w (x :: y :: z :: L)) : Blks w0 w (y :: z :: x :: L) :=
  h.perm ((List.Perm.swap y x (z :: L)).trans ((List.Perm.swap z x L).cons y))
end Go.Proofs.YtgoeiflddikihaaGreatDoor.Mem
end
section
namespace Go.Proofs.YtgoeiflddikihaaGreatDoor.Mem
open Go.RowKit Go.Proofs.YtgoeiflddikihaaGreatDoorW.PrintWords
section
variable {P : Program} {ops : Array Oper} {a : Act} {w0 w : World} {K : Act → World → Prop} {Q : Exit → Act → World → Prop} {L L' : List Blk} {E : Prop}
variable {d : Option Tmp} {tt : TypeId} {pos : String} {af : Array Edge}
theorem d_alloc {ty : TypeId} {zs : Array Value} (H : Blks w0 w L) [hz : ZeroC P ty zs]
    (h : ∀ (b : Nat) (w' : World), Aside0 (Blks w0 w' ((b, zs.toList, ty) :: L)) → K (a.put d (.pointer (some ⟨b, 0, none⟩))) w') :
    if Region.wanted ⟨d, .alloc ty, tt, pos, af, none⟩ (yielded ops a.tmps) = true then Oper.wp P ⟨d, .alloc ty, tt, pos, af, none⟩ a w K Q else E := by
  rw [if_pos (by simp [Region.wanted])]
  have hz := hz.out
  unfold Oper.wp execOp
  cases hq : P.info? ty with
  | none => simp [hq] at hz
  | some i =>
    simp only [hq, Option.bind_some] at hz
    cases hv : i.zero with
    | none => simp [hv] at hz
    | some z =>
      simp only [hv, Option.map_some, Option.some.injEq] at hz
      have hrun : (Instr.alloc ty true (.tuple #[])).run P w = .ok (.pointer (some ⟨w.heap.size, 0, none⟩)) (w.alloc (.cells zs ty)) := by
        simp [Instr.alloc, zeroValue, typeInfo, hq, hv, newVar, newRow, hz]
      simp only [Sem.run_bind, hrun, Result.andThen_ok, Sem.run_pure]
      exact h _ _ ⟨H.alloc zs ty⟩
theorem d_store {ty : TypeId} {x y : Operand} {b off n : Nat} {vs : Array Value} {cs cs' : List Value} {t : TypeId} (H : Blks w0 w L)
    (hx : a.eval x = .pointer (some ⟨b, off, none⟩)) (hy : a.eval y = .agg vs) [ht : RowC P ty n] (hn : vs.size = n) (h1 : vs.all (·.oneCell') = true)
    (_hm : (b, cs, t) ∈ L) (hw : Wr cs off vs.toList cs') (hu : Up L b cs t cs' L') (h : ∀ w', Aside0 (Blks w0 w' L') → K (a.put none undef) w') :
    if Region.wanted ⟨none, .store ty x y, tt, pos, af, none⟩ (yielded ops a.tmps) = true then Oper.wp P ⟨none, .store ty x y, tt, pos, af, none⟩ a w K Q else E := by
  rw [if_pos (by simp [Region.wanted])]
  have hle := hw.len.2
  rw [Array.length_toList] at hle
  exact wp_store_mid ty x y rfl b off vs hx hy (H.there hu.mem hle) (by rw [ht.out.size, hn]) h1 (h _ ⟨H.set hw hu⟩)
theorem d_load {ty : TypeId} {x : Operand} {b off n : Nat} {cs vs : List Value} {t : TypeId} {S : World → Prop} (hw : Region.wanted ⟨d, .load ty x, tt, pos, af, none⟩ (yielded ops a.tmps) = true)
    (hx : a.eval x = .pointer (some ⟨b, off, none⟩)) (hS : ∀ w, S w → Blks w0 w L) (hm : (b, cs, t) ∈ L) [ht : RowC P ty n] (hr : Rd cs off n vs) :
    YieldsIf P ops S ⟨d, .load ty x, tt, pos, af, none⟩ (.agg vs.toArray) a := by
  obtain ⟨d', hu, hd⟩ := ht.out.row
  exact yieldsIf_load_mid hw ty x rfl b off hx vs d' (fun w h => (hS w h).range hm hr) hu hd (by rw [ht.out.size, hr.len])
end
theorem Blks.less {w0 w : World} {L L' : List Blk} (h : Blks w0 w L) (hs : L'.Sublist L) : Blks w0 w L' :=
  ⟨h.bel, fun x hx => h.has x (hs.subset hx), fun x hx => h.new x (hs.subset hx), (hs.map _).nodup h.nd⟩
end Go.Proofs.YtgoeiflddikihaaGreatDoor.Mem
end
