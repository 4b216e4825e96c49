/- Merged by program out of: Opens2, Head, HeadRow. -/
import Derived.Test.YtgoeiflddikihaaGreatDoorCtM2
import Derived.Test.YtgoeiflddikihaaGreatDoorProg
import Derived.JoinedOf
import Derived.JoinedCond
import Derived.ProofKit
import Derived.Test.YtgoeiflddikihaaGreatDoorCards
section
namespace Go.Proofs.YtgoeiflddikihaaGreatDoor.Opens
open Go.RowKit Go.Proofs.YtgoeiflddikihaaGreatDoorW.PrintWords

abbrev kId : Kd (ByteArray × ByteArray) := Kd.pair Kd.string Kd.string
theorem opens_id : Opens Tryz.prog 76 kId (fun a => a.1.size ≤ maxLen ∧ a.2.size ≤ maxLen) :=
  opens_imp (opens_struct Tryz.underlying76 (by kernel_rfl)
    (from_cons (opens_string Tryz.underlying9) rfl (by kernel_rfl) (from_last (opens_string Tryz.underlying9) rfl (by kernel_rfl)))) (fun _ h => h)
theorem form_id {w : World} {a : ByteArray × ByteArray} {cs : Array Value} (h : kId.K w a cs.toList) : cs = #[.string a.1, .string a.2] := by
  obtain ⟨c1, c2, e, h1, h2⟩ := h
  apply Array.ext'
  rw [e, show c1 = [Value.string a.1] from h1, show c2 = [Value.string a.2] from h2]
  rfl
abbrev kVer : Kd (Int × ByteArray × ByteArray) := Kd.pair (Kd.int .i64) (Kd.pair Kd.string Kd.string)
theorem opens_ver : Opens Tryz.prog 27 kVer (fun a => (Lit.int .i64 a.1).wf = true ∧ a.2.1.size ≤ maxLen ∧ a.2.2.size ≤ maxLen) :=
  opens_imp (opens_struct Tryz.underlying27 (by kernel_rfl)
    (from_cons (opens_int Tryz.underlying2) rfl (by kernel_rfl) (from_cons (opens_string Tryz.underlying9) rfl (by kernel_rfl) (from_last (opens_string Tryz.underlying9) rfl (by kernel_rfl))))) (fun _ h => h)
theorem form_ver {w : World} {a : Int × ByteArray × ByteArray} {cs : Array Value} (h : kVer.K w a cs.toList) : cs = #[.int .i64 a.1, .string a.2.1, .string a.2.2] := by
  obtain ⟨c1, c2, e, h1, c3, c4, e2, h3, h4⟩ := h
  apply Array.ext'
  rw [e, e2, show c1 = [Value.int .i64 a.1] from h1, show c3 = [Value.string a.2.1] from h3, show c4 = [Value.string a.2.2] from h4]
  rfl
theorem opens_vers : Opens Tryz.prog 23 (Kd.slice 27 kVer) (fun l => ∀ a ∈ l, (Lit.int .i64 a.1).wf = true ∧ a.2.1.size ≤ maxLen ∧ a.2.2.size ≤ maxLen) :=
  opens_slice Tryz.underlying23 (by kernel_rfl) opens_ver
end Go.Proofs.YtgoeiflddikihaaGreatDoor.Opens
end
section
namespace Go.Proofs.YtgoeiflddikihaaGreatDoorW.Head
open Go

theorem words_step (w r : List Char) (hw : w.all (· != ' ') = true) : wordsSigns (w ++ ' ' :: r) = w :: wordsSigns r := by
  induction w with
  | nil => rfl
  | cons c w ih =>
    simp only [List.all_cons, Bool.and_eq_true] at hw
    have hc : c ≠ ' ' := by simpa using hw.1
    show wordsSigns (c :: (w ++ ' ' :: r)) = _
    rw [wordsSigns.eq_def]
    split
    · next h => cases h
    · next h => cases h; exact absurd rfl hc
    · next c' r' _ h => cases h; rw [ih hw.2]

theorem sum_plain {s : List Char} (h : isSumSigns s = true) : s.all (· != ' ') = true := by
  unfold isSumSigns at h
  simp only [Bool.and_eq_true] at h
  rw [List.all_eq_true] at *
  intro c hc
  have := h.2 c hc
  rw [bne_iff_ne]
  rintro rfl
  revert this
  decide

structure Cut (P : Program) (s : List Char) : Prop where
  words : ∃ r, behindMainWord (wordsSigns P.initOrder.toList) = "cut".toList :: r
  main : P.mainIs = some (true, s)

theorem cut_of {P : Program} {s r : List Char} (h : P.initOrder.toList = "harness".toList ++ ' ' :: (s ++ ' ' :: ("cut".toList ++ ' ' :: r))) (hs : isSumSigns s = true) : Cut P s := by
  have e : wordsSigns P.initOrder.toList = "harness".toList :: s :: "cut".toList :: wordsSigns r := by
    rw [h, words_step _ _ (by decide), words_step _ _ (sum_plain hs), words_step _ _ (by decide)]
  constructor
  · refine ⟨wordsSigns r, ?_⟩
    rw [e]
    show (if (("harness".toList == "harness".toList || _) && isSumSigns s) = true then _ else _) = _
    rw [hs]; simp
  · unfold Program.mainIs
    rw [e]; simp [hs]

variable {P : Program} {s : List Char}

theorem strip (r : List (List Char)) : stripLifts liftWords ("cut".toList :: r) = ([], "cut".toList :: r) := by
  have go : ∀ l : List String, (∀ o ∈ l, ("cut".toList == o.toList) = false) → stripLifts l ("cut".toList :: r) = ([], "cut".toList :: r) := by
    intro l hl
    induction l with
    | nil => rfl
    | cons o os ih =>
      unfold stripLifts
      rw [hl o (by simp), ih (fun o ho => hl o (by simp [ho]))]
      rfl
  exact go _ (by decide)

theorem Cut.lifts (h : Cut P s) : P.headLifts = [] := by
  obtain ⟨r, hr⟩ := h.words
  unfold Program.headLifts
  rw [hr, strip]; simp

theorem Cut.final (h : Cut P s) : P.liftsFinal = false := by
  have hl := h.lifts
  obtain ⟨r, hr⟩ := h.words
  unfold Program.liftsFinal
  rw [hr, hl]
  simp

theorem Cut.make (h : Cut P s) : P.make = some .cut := by
  obtain ⟨r, hr⟩ := h.words
  unfold Program.make
  rw [hr]
  simp

theorem Cut.enter (h : Cut P s) (hl : P.laysLater = false) (hb : P.bearsReflect = false) (hd : P.doorFits [] = true) : P.mayEnter = true := by
  obtain ⟨r, hr⟩ := h.words
  unfold Program.mayEnter
  rw [hr]
  show (_ || _ || _) = true
  rw [strip, hl, hb]
  simp [hd]

end Go.Proofs.YtgoeiflddikihaaGreatDoorW.Head
end
section
namespace Go.Proofs.YtgoeiflddikihaaGreatDoor.HeadRow
open Go.Proofs.YtgoeiflddikihaaGreatDoorW.Head
set_option maxRecDepth 100000
def sum : List Char := ['4', 'b', '7', '0', 'e', 'b', '2', '2', 'f', '5', 'a', '0', '2', 'e', '1', 'd', '0', 'd', 'e', '1', '2', '6', 'a', 'e', '3', 'c', 'b', 'c', '2', 'f', '2', '0', '8', '6', 'a', '1', '6', 'd', '4', '4', '4', '1', 'a', 'a', '3', '7', '0', '5', 'b', '2', 'e', '5', '4', 'c', 'f', 'f', 'b', '6', '6', '6', '0', 'a', '3', '2']
def rest : List Char := ['a', 't', ' ', 'p', 'u', 'b', '-', 'c', 'a', 'r', 'a', 'v', 'a', 'n', 's', 'e', 'r', 'a', 'i', '/', 'l', 'a', 'w', 's', '.', 'F', 'n', 'I', 'n', 't', 'e', 'r', 's', 'e', 'c', 't', 'M', 'a', 'n', 'y', ' ', 'p', 'u', 'b', '-', 'c', 'a', 'r', 'a', 'v', 'a', 'n', 's', 'e', 'r', 'a', 'i', '/', 'l', 'a', 'w', 's', '.', 'F', 'n', 'M', 'a', 't', 'c', 'h', 'e', 's', ' ', 'p', 'u', 'b', '-', 'c', 'a', 'r', 'a', 'v', 'a', 'n', 's', 'e', 'r', 'a', 'i', '/', 'l', 'a', 'w', 's', '.', 'F', 'n', 'S', 'e', 'm', 'v', 'e', 'r', ' ', 'p', 'u', 'b', '-', 'c', 'a', 'r', 'a', 'v', 'a', 'n', 's', 'e', 'r', 'a', 'i', '/', 'l', 'a', 'w', 's', '.', 'F', 'n', 'S', 'e', 'm', 'v', 'e', 'r', 'O', 'r', 'd', 'e', 'r', ' ', 'p', 'u', 'b', '-', 'c', 'a', 'r', 'a', 'v', 'a', 'n', 's', 'e', 'r', 'a', 'i', '/', 'l', 'a', 'w', 's', '.', 'F', 'n', 'S', 'i', 'g', 'n', ' ', 'p', 'u', 'b', '-', 'c', 'a', 'r', 'a', 'v', 'a', 'n', 's', 'e', 'r', 'a', 'i', '/', 'l', 'a', 'w', 's', '.', 'F', 'n', 'S', 'o', 'r', 't', 'A', 'g', 'a', 'i', 'n', ' ', 'p', 'u', 'b', '-', 'c', 'a', 'r', 'a', 'v', 'a', 'n', 's', 'e', 'r', 'a', 'i', '/', 'l', 'a', 'w', 's', '.', 'F', 'n', 'S', 'o', 'r', 't', 'D', 'o', 'w', 'n', 'g', 'r', 'a', 'd', 'e', ' ', 'p', 'u', 'b', '-', 'c', 'a', 'r', 'a', 'v', 'a', 'n', 's', 'e', 'r', 'a', 'i', '/', 'l', 'a', 'w', 's', '.', 'F', 'n', 'S', 'o', 'r', 't', 'P', 'a', 'i', 'r', 'e', 'd', ' ', 'p', 'u', 'b', '-', 'c', 'a', 'r', 'a', 'v', 'a', 'n', 's', 'e', 'r', 'a', 'i', '/', 'l', 'a', 'w', 's', '.', 'F', 'n', 'S', 'o', 'r', 't', 'U', 'p', 'g', 'r', 'a', 'd', 'e', ' ', 'p', 'u', 'b', '-', 'c', 'a', 'r', 'a', 'v', 'a', 'n', 's', 'e', 'r', 'a', 'i', '/', 'l', 'a', 'w', 's', '.', 'F', 'n', 'V', 'e', 'r', 's', 'i', 'o', 'n', ' ', 'p', 'u', 'b', '-', 'c', 'a', 'r', 'a', 'v', 'a', 'n', 's', 'e', 'r', 'a', 'i', '/', 'l', 'a', 'w', 's', '.', 'F', 'n', 'I', 'd', 'e', 'n', 't', 'L', 'e', 's', 's', ' ', 'p', 'u', 'b', '-', 'c', 'a', 'r', 'a', 'v', 'a', 'n', 's', 'e', 'r', 'a', 'i', '/', 'l', 'a', 'w', 's', '.', 'F', 'n', 'I', 'd', 'e', 'n', 't', 'T', 'e', 'x', 't', ' ', 'p', 'u', 'b', '-', 'c', 'a', 'r', 'a', 'v', 'a', 'n', 's', 'e', 'r', 'a', 'i', '/', 'l', 'a', 'w', 's', '.', 'F', 'n', 'B', 'l', 'a', 'n', 'k', 's', ' ', 'p', 'u', 'b', '-', 'c', 'a', 'r', 'a', 'v', 'a', 'n', 's', 'e', 'r', 'a', 'i', '/', 'l', 'a', 'w', 's', '.', 'F', 'n', 'C', 'a', 'r', 'e', 't', ' ', 'p', 'u', 'b', '-', 'c', 'a', 'r', 'a', 'v', 'a', 'n', 's', 'e', 'r', 'a', 'i', '/', 'l', 'a', 'w', 's', '.', 'F', 'n', 'C', 'o', 'n', 's', 't', 'r', 'a', 'i', 'n', 't', ' ', 'p', 'u', 'b', '-', 'c', 'a', 'r', 'a', 'v', 'a', 'n', 's', 'e', 'r', 'a', 'i', '/', 'l', 'a', 'w', 's', '.', 'F', 'n', 'T', 'e', 'x', 't', 'B', 'a', 'c', 'k', ' ', 'p', 'u', 'b', '-', 'c', 'a', 'r', 'a', 'v', 'a', 'n', 's', 'e', 'r', 'a', 'i', '/', 'l', 'a', 'w', 's', '.', 'F', 'n', 'I', 'n', 't', 'e', 'r', 's', 'e', 'c', 't', ' ', 'p', 'u', 'b', '-', 'c', 'a', 'r', 'a', 'v', 'a', 'n', 's', 'e', 'r', 'a', 'i', '/', 'l', 'a', 'w', 's', '.', 'F', 'n', 'I', 'n', 't', 'e', 'r', 's', 'e', 'c', 't', 'S', 'e', 't', ' ', 'p', 'u', 'b', '-', 'c', 'a', 'r', 'a', 'v', 'a', 'n', 's', 'e', 'r', 'a', 'i', '/', 'l', 'a', 'w', 's', '.', 'F', 'n', 'M', 'a', 't', 'c', 'h', 'e', 's', 'A', 'n', 'y', ' ', 'p', 'u', 'b', '-', 'c', 'a', 'r', 'a', 'v', 'a', 'n', 's', 'e', 'r', 'a', 'i', '/', 'l', 'a', 'w', 's', '.', 'F', 'n', 'I', 'n', 't', 'e', 'r', 's', 'e', 'c', 't', 'A', 'n', 'y']
theorem order : Tryz.prog.initOrder.toList = "harness".toList ++ ' ' :: (sum ++ ' ' :: ("cut".toList ++ ' ' :: rest)) := by
  show String.toList "harness 4b70eb22f5a02e1d0de126ae3cbc2f2086a16d4441aa3705b2e54cffb6660a32 cut at pub-caravanserai/laws.FnIntersectMany pub-caravanserai/laws.FnMatches pub-caravanserai/laws.FnSemver pub-caravanserai/laws.FnSemverOrder pub-caravanserai/laws.FnSign pub-caravanserai/laws.FnSortAgain pub-caravanserai/laws.FnSortDowngrade pub-caravanserai/laws.FnSortPaired pub-caravanserai/laws.FnSortUpgrade pub-caravanserai/laws.FnVersion pub-caravanserai/laws.FnIdentLess pub-caravanserai/laws.FnIdentText pub-caravanserai/laws.FnBlanks pub-caravanserai/laws.FnCaret pub-caravanserai/laws.FnConstraint pub-caravanserai/laws.FnTextBack pub-caravanserai/laws.FnIntersect pub-caravanserai/laws.FnIntersectSet pub-caravanserai/laws.FnMatchesAny pub-caravanserai/laws.FnIntersectAny" = _
  have : String.toList "harness 4b70eb22f5a02e1d0de126ae3cbc2f2086a16d4441aa3705b2e54cffb6660a32 cut at pub-caravanserai/laws.FnIntersectMany pub-caravanserai/laws.FnMatches pub-caravanserai/laws.FnSemver pub-caravanserai/laws.FnSemverOrder pub-caravanserai/laws.FnSign pub-caravanserai/laws.FnSortAgain pub-caravanserai/laws.FnSortDowngrade pub-caravanserai/laws.FnSortPaired pub-caravanserai/laws.FnSortUpgrade pub-caravanserai/laws.FnVersion pub-caravanserai/laws.FnIdentLess pub-caravanserai/laws.FnIdentText pub-caravanserai/laws.FnBlanks pub-caravanserai/laws.FnCaret pub-caravanserai/laws.FnConstraint pub-caravanserai/laws.FnTextBack pub-caravanserai/laws.FnIntersect pub-caravanserai/laws.FnIntersectSet pub-caravanserai/laws.FnMatchesAny pub-caravanserai/laws.FnIntersectAny" = ['h', 'a', 'r', 'n', 'e', 's', 's', ' ', '4', 'b', '7', '0', 'e', 'b', '2', '2', 'f', '5', 'a', '0', '2', 'e', '1', 'd', '0', 'd', 'e', '1', '2', '6', 'a', 'e', '3', 'c', 'b', 'c', '2', 'f', '2', '0', '8', '6', 'a', '1', '6', 'd', '4', '4', '4', '1', 'a', 'a', '3', '7', '0', '5', 'b', '2', 'e', '5', '4', 'c', 'f', 'f', 'b', '6', '6', '6', '0', 'a', '3', '2', ' ', 'c', 'u', 't', ' ', 'a', 't', ' ', 'p', 'u', 'b', '-', 'c', 'a', 'r', 'a', 'v', 'a', 'n', 's', 'e', 'r', 'a', 'i', '/', 'l', 'a', 'w', 's', '.', 'F', 'n', 'I', 'n', 't', 'e', 'r', 's', 'e', 'c', 't', 'M', 'a', 'n', 'y', ' ', 'p', 'u', 'b', '-', 'c', 'a', 'r', 'a', 'v', 'a', 'n', 's', 'e', 'r', 'a', 'i', '/', 'l', 'a', 'w', 's', '.', 'F', 'n', 'M', 'a', 't', 'c', 'h', 'e', 's', ' ', 'p', 'u', 'b', '-', 'c', 'a', 'r', 'a', 'v', 'a', 'n', 's', 'e', 'r', 'a', 'i', '/', 'l', 'a', 'w', 's', '.', 'F', 'n', 'S', 'e', 'm', 'v', 'e', 'r', ' ', 'p', 'u', 'b', '-', 'c', 'a', 'r', 'a', 'v', 'a', 'n', 's', 'e', 'r', 'a', 'i', '/', 'l', 'a', 'w', 's', '.', 'F', 'n', 'S', 'e', 'm', 'v', 'e', 'r', 'O', 'r', 'd', 'e', 'r', ' ', 'p', 'u', 'b', '-', 'c', 'a', 'r', 'a', 'v', 'a', 'n', 's', 'e', 'r', 'a', 'i', '/', 'l', 'a', 'w', 's', '.', 'F', 'n', 'S', 'i', 'g', 'n', ' ', 'p', 'u', 'b', '-', 'c', 'a', 'r', 'a', 'v', 'a', 'n', 's', 'e', 'r', 'a', 'i', '/', 'l', 'a', 'w', 's', '.', 'F', 'n', 'S', 'o', 'r', 't', 'A', 'g', 'a', 'i', 'n', ' ', 'p', 'u', 'b', '-', 'c', 'a', 'r', 'a', 'v', 'a', 'n', 's', 'e', 'r', 'a', 'i', '/', 'l', 'a', 'w', 's', '.', 'F', 'n', 'S', 'o', 'r', 't', 'D', 'o', 'w', 'n', 'g', 'r', 'a', 'd', 'e', ' ', 'p', 'u', 'b', '-', 'c', 'a', 'r', 'a', 'v', 'a', 'n', 's', 'e', 'r', 'a', 'i', '/', 'l', 'a', 'w', 's', '.', 'F', 'n', 'S', 'o', 'r', 't', 'P', 'a', 'i', 'r', 'e', 'd', ' ', 'p', 'u', 'b', '-', 'c', 'a', 'r', 'a', 'v', 'a', 'n', 's', 'e', 'r', 'a', 'i', '/', 'l', 'a', 'w', 's', '.', 'F', 'n', 'S', 'o', 'r', 't', 'U', 'p', 'g', 'r', 'a', 'd', 'e', ' ', 'p', 'u', 'b', '-', 'c', 'a', 'r', 'a', 'v', 'a', 'n', 's', 'e', 'r', 'a', 'i', '/', 'l', 'a', 'w', 's', '.', 'F', 'n', 'V', 'e', 'r', 's', 'i', 'o', 'n', ' ', 'p', 'u', 'b', '-', 'c', 'a', 'r', 'a', 'v', 'a', 'n', 's', 'e', 'r', 'a', 'i', '/', 'l', 'a', 'w', 's', '.', 'F', 'n', 'I', 'd', 'e', 'n', 't', 'L', 'e', 's', 's', ' ', 'p', 'u', 'b', '-', 'c', 'a', 'r', 'a', 'v', 'a', 'n', 's', 'e', 'r', 'a', 'i', '/', 'l', 'a', 'w', 's', '.', 'F', 'n', 'I', 'd', 'e', 'n', 't', 'T', 'e', 'x', 't', ' ', 'p', 'u', 'b', '-', 'c', 'a', 'r', 'a', 'v', 'a', 'n', 's', 'e', 'r', 'a', 'i', '/', 'l', 'a', 'w', 's', '.', 'F', 'n', 'B', 'l', 'a', 'n', 'k', 's', ' ', 'p', 'u', 'b', '-', 'c', 'a', 'r', 'a', 'v', 'a', 'n', 's', 'e', 'r', 'a', 'i', '/', 'l', 'a', 'w', 's', '.', 'F', 'n', 'C', 'a', 'r', 'e', 't', ' ', 'p', 'u', 'b', '-', 'c', 'a', 'r', 'a', 'v', 'a', 'n', 's', 'e', 'r', 'a', 'i', '/', 'l', 'a', 'w', 's', '.', 'F', 'n', 'C', 'o', 'n', 's', 't', 'r', 'a', 'i', 'n', 't', ' ', 'p', 'u', 'b', '-', 'c', 'a', 'r', 'a', 'v', 'a', 'n', 's', 'e', 'r', 'a', 'i', '/', 'l', 'a', 'w', 's', '.', 'F', 'n', 'T', 'e', 'x', 't', 'B', 'a', 'c', 'k', ' ', 'p', 'u', 'b', '-', 'c', 'a', 'r', 'a', 'v', 'a', 'n', 's', 'e', 'r', 'a', 'i', '/', 'l', 'a', 'w', 's', '.', 'F', 'n', 'I', 'n', 't', 'e', 'r', 's', 'e', 'c', 't', ' ', 'p', 'u', 'b', '-', 'c', 'a', 'r', 'a', 'v', 'a', 'n', 's', 'e', 'r', 'a', 'i', '/', 'l', 'a', 'w', 's', '.', 'F', 'n', 'I', 'n', 't', 'e', 'r', 's', 'e', 'c', 't', 'S', 'e', 't', ' ', 'p', 'u', 'b', '-', 'c', 'a', 'r', 'a', 'v', 'a', 'n', 's', 'e', 'r', 'a', 'i', '/', 'l', 'a', 'w', 's', '.', 'F', 'n', 'M', 'a', 't', 'c', 'h', 'e', 's', 'A', 'n', 'y', ' ', 'p', 'u', 'b', '-', 'c', 'a', 'r', 'a', 'v', 'a', 'n', 's', 'e', 'r', 'a', 'i', '/', 'l', 'a', 'w', 's', '.', 'F', 'n', 'I', 'n', 't', 'e', 'r', 's', 'e', 'c', 't', 'A', 'n', 'y'] := String.toList_ofList
  rw [this]
  decide
theorem cut : Cut Tryz.prog sum := cut_of order (by decide)
theorem laysLater : Tryz.prog.laysLater = false := by kernel_rfl
theorem bearsReflect : Tryz.prog.bearsReflect = false := by kernel_rfl
theorem doorFits : Tryz.prog.doorFits [] = true := by kernel_rfl
theorem enter : Tryz.prog.mayEnter = true := cut.enter laysLater bearsReflect doorFits
theorem final : Tryz.prog.liftsFinal = false := cut.final
theorem make : Tryz.prog.make = some .cut := cut.make
theorem main : Tryz.prog.mainIs = some (true, sum) := cut.main
theorem laidOut : laidOutB Tryz.prog = true := by kernel_rfl
theorem mapsRowed : mapsRowed Tryz.prog = true := by kernel_rfl
theorem stops : (Tryz.prog.stops == []) = true := by kernel_rfl
theorem stopKnobs : (Tryz.prog.stopKnobs == []) = true := by kernel_rfl
theorem stopsHeard : Tryz.prog.stopsHeard = true := by kernel_rfl
theorem looks : true = Tryz.prog.looks [] := by kernel_rfl
theorem own : ownKnob Tryz.prog.godebug = none := by kernel_rfl
end Go.Proofs.YtgoeiflddikihaaGreatDoor.HeadRow
end
