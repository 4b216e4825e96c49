/- Merged by program out of: SemJ, VVer, Pcomparex0, VPd, Pfirstx0, VPe. -/
import Derived.Test.YtgoeiflddikihaaGreatDoorCsM5
import Derived.Test.YtgoeiflddikihaaGreatDoorCsM3
import Derived.Test.YtgoeiflddikihaaGreatDoorProg
import Derived.Below
import Derived.Deep.Draws
import Derived.Deep.AppendLies
import Derived.Maps.AppendAt
import Derived.OwnWalk
import Derived.Laws.BytesArg
import Derived.Laws.MakeOwn
import Derived.Laws.OwnMore
import Derived.Deep.OwnRows
import Derived.Tactics
import Derived.Lib.ConvBytes
import Derived.Laws.Slices
import Derived.WalkKit
import Derived.KernelRfl
import Derived.RowKit3
import Derived.Deep.LoopGhost
import Derived.Deep.QuietTactic
import Derived.BigQuiet
import Derived.WideLaws
import Derived.Deep.DeepCutAuto
import Derived.Deep.CutBlock
import Derived.Deep.RegionHeld3
import Derived.Laws.Rows
import Derived.Lib.AppendStr
import Derived.ArgAppend
import Derived.Laws.IdiomCopy
import Derived.OrdersHeld
import Derived.Laws.BitsLemmas
import Derived.RowKit
import Derived.Test.YtgoeiflddikihaaGreatDoorCsM0
import Derived.Test.YtgoeiflddikihaaGreatDoorCsM1
import Derived.Laws.StructEq
section
namespace Go.Proofs.YtgoeiflddikihaaGreatDoor.Ver
set_option linter.unusedSimpArgs false
set_option linter.unusedVariables false
open Go.RowKit Go.Proofs.YtgoeiflddikihaaGreatDoor.PFnVersion Go.Proofs.YtgoeiflddikihaaGreatDoorW.PrintWords Go.Proofs.YtgoeiflddikihaaGreatDoor.Mem Go.Proofs.YtgoeiflddikihaaGreatDoor.Dig
theorem mkB_list (l : List UInt8) : (mkB l).data.toList = l := rfl
theorem mkB_size (l : List UInt8) : (mkB l).size = l.length := by show l.toArray.size = _; rw [List.size_toArray]
theorem list_size (s : ByteArray) : s.data.toList.length = s.size := by rw [Array.length_toList]; rfl
theorem mkB_back (s : ByteArray) : mkB s.data.toList = s := (mkB_of rfl).symm
theorem qCutAt_len (c : UInt8) : ∀ l : List UInt8, (qCutAt c l).1.length ≤ l.length ∧ ∀ b, (qCutAt c l).2 = some b → b.length ≤ l.length
  | [] => ⟨by simp [qCutAt], fun b h => by simp [qCutAt] at h⟩
  | x :: r => by
    have ih := qCutAt_len c r
    unfold qCutAt
    split
    · exact ⟨by simp, fun b h => by simp at h; subst h; simp⟩
    · exact ⟨by simp; exact ih.1, fun b h => by have := ih.2 b h; simp; omega⟩
theorem vcut_none (s : ByteArray) (hs : s.size ≤ 140737488351232) (c : UInt8) {a : List UInt8} (h : qCutAt c s.data.toList = (a, none)) (W : World) :
    Calls Tryz.prog 71 #[.string s, .int .u8 (c.toNat : Int)] W fun e w' => e = .returned (.tuple #[.string s, .string (mkB []), .bool false]) ∧ Drawn0 W w' := by
  refine spec_verCut.calls (s.size + 1) s c.toNat s (mkB []) false W ?_
  have := cut_tells s hs c s.size 0 (Nat.zero_le _) (by omega) (s.size + 1) (by omega)
  rw [List.take_zero, List.drop_zero, h] at this
  exact this
theorem vcut_some (s : ByteArray) (hs : s.size ≤ 140737488351232) (c : UInt8) {a b : List UInt8} (h : qCutAt c s.data.toList = (a, some b)) (W : World) :
    Calls Tryz.prog 71 #[.string s, .int .u8 (c.toNat : Int)] W fun e w' => e = .returned (.tuple #[.string (mkB a), .string (mkB b), .bool true]) ∧ Drawn0 W w' := by
  refine spec_verCut.calls (s.size + 1) s c.toNat (mkB a) (mkB b) true W ?_
  have := cut_tells s hs c s.size 0 (Nat.zero_le _) (by omega) (s.size + 1) (by omega)
  rw [List.take_zero, List.drop_zero, h] at this
  exact this
theorem partsV_pos (c : UInt8) (s : ByteArray) : 0 < (partsV c s).length := by
  unfold partsV; rw [List.length_map]; exact List.length_pos_iff.2 (qSplitOn_ne _ _)
theorem vsplit_any (s : ByteArray) (hs : s.size ≤ 1000000000) (c : UInt8) (W : World) : Calls Tryz.prog 73 #[.string s, .int .u8 (c.toNat : Int)] W (SpEnd (partsV c s) W) := by
  refine (spec_verSplit.calls (s.size + 2) s c.toNat _ W (split_f s hs c _ (by omega))).mono ?_
  rintro e w' ⟨v, rfl, hr, hb⟩
  obtain ⟨g, cap, cells, rest, rfl, h1, h2, h3⟩ := strs_block hr (partsV_pos c s)
  exact ⟨g, cap, cells, rest, rfl, h1, h2, h3, hb⟩
theorem row_slice {w : World} {base n size : Nat} {e : TypeId} {v : Value} {xs : List Value} (h : w.ownsRow base e size v n xs) : ∃ A m c, v = .slice A m c := by
  obtain ⟨_, h⟩ := h
  rcases h with ⟨rfl, _⟩ | ⟨g, cap, _, rfl, _⟩
  · exact ⟨_, _, _, rfl⟩
  · exact ⟨_, _, _, rfl⟩
theorem vidents_any (s : ByteArray) (hs : s.size ≤ 100000000) (W : World) : Calls Tryz.prog 72 #[.string s] W (IdEnd (qIdentsB s.data.toList) (partsV 46 s) W) := by
  obtain ⟨k, hk⟩ := idents_f s hs
  cases hq : qIdentsB s.data.toList with
  | true =>
    rw [hq, if_pos rfl] at hk
    refine (spec_verIdents.calls k s _ _ W hk).mono ?_
    rintro e w' ⟨v, rfl, hr, hb⟩
    obtain ⟨g, cap, cells, rest, rfl, h1, h2, h3⟩ := strs_block hr (partsV_pos 46 s)
    exact ⟨g, cap, cells, rest, rfl, h1, h2, h3, hb⟩
  | false =>
    rw [hq, if_neg (by decide)] at hk
    refine (spec_verIdents.calls k s _ _ W hk).mono ?_
    rintro e w' ⟨v, rfl, hr, hb⟩
    obtain ⟨_, inner, ho, _⟩ := hr
    obtain ⟨A, m, c, rfl⟩ := row_slice ho
    exact ⟨⟨A, m, c, rfl⟩, hb⟩
theorem vnumber_any (p : List UInt8) (hp : p.length ≤ 140737488351232) : ∃ n : Int, (∀ u, qNumB p = some u → n = (u : Int)) ∧ ∀ W, Calls Tryz.prog 74 #[.string (mkB p)] W fun e w' => e = .returned (.tuple #[.int .u64 n, .bool (qNumB p).isSome]) ∧ Drawn0 W w' := by
  obtain ⟨n, k, h1, h2⟩ := number_f (mkB p) (by rw [mkB_size]; exact hp)
  exact ⟨n, h2, fun W => spec_verNumber.calls k (mkB p) n _ W h1⟩
def RsEnd (q : Option (List Nat × List UInt8 × List UInt8)) (w : World) (e : Ending) (w' : World) : Prop := match q with
  | none => RdNo w e w'
  | some (ns, pre, mt) => RdYes (ns.getD 0 0 : Nat) (ns.getD 1 0 : Nat) (ns.getD 2 0 : Nat) ns.length (mkB mt) ((preParts pre).map mkB) w e w'
theorem read_nums (s x1 x2 mt pre : ByteArray) (hs : s.size ≤ 100000) (has1 ok1 has2 ok2 : Bool) (hg1 : (has1 && !ok1) = false) (hg2 : (has2 && !ok2) = false) (pp : List ByteArray) (hpp : has2 = false → pp = []) (hx : x2.size ≤ 100000)
    (HC1 : ∀ W, Calls Tryz.prog 71 #[.string (mkB (bare0 s.data.toList)), .int .u8 43] W fun e w' => e = .returned (.tuple #[.string x1, .string mt, .bool has1]) ∧ Drawn0 W w')
    (HI1 : ∀ W, Calls Tryz.prog 72 #[.string mt] W (IdW ok1 W))
    (HC2 : ∀ W, Calls Tryz.prog 71 #[.string x1, .int .u8 45] W fun e w' => e = .returned (.tuple #[.string x2, .string pre, .bool has2]) ∧ Drawn0 W w')
    (HI2 : ∀ W, Calls Tryz.prog 72 #[.string pre] W (IdEnd ok2 pp W)) (w : World) :
    Calls Tryz.prog 34 #[.string s] w (match (if 3 < (qSplitOn 46 x2.data.toList).length then none else qNumsB (qSplitOn 46 x2.data.toList)) with
      | none => RdNo w
      | some ns => RdYes (ns.getD 0 0 : Nat) (ns.getD 1 0 : Nat) (ns.getD 2 0 : Nat) ns.length mt pp w) := by
  have hs1 : ∀ r : ByteArray, r.data.toList = bare0 s.data.toList → r = mkB (bare0 s.data.toList) := fun r h => mkB_of h
  have HS := fun W => vsplit_any x2 (by omega) 46 W
  have hlen : ∀ y ∈ qSplitOn 46 x2.data.toList, y.length ≤ 140737488351232 := fun y hy => by
    have h1 := parts_size 46 x2.data.toList y hy
    rw [list_size] at h1; omega
  unfold partsV at HS
  have hne := qSplitOn_ne 46 x2.data.toList
  generalize qSplitOn 46 x2.data.toList = Q at HS hlen hne ⊢
  rcases Q with _ | ⟨p, _ | ⟨q, _ | ⟨r, _ | ⟨t, u⟩⟩⟩⟩
  · exact absurd rfl hne
  · skip
    obtain ⟨n0, h0, HN0⟩ := vnumber_any p (hlen p (by simp))
    have H := rs_n1 s _ x1 mt hs1 x2 pre pp (mkB p) has1 ok1 has2 ok2 hg1 hg2 hpp HC1 HI1 HC2 HI2 HS n0 _ HN0 w
    rw [if_neg (by simp)]
    simp only [qNumsB]
    cases e0 : qNumB p with
    | none =>
      simp only [e0, Option.isSome_none, Option.isSome_some, Bool.true_and, Bool.false_and, Bool.and_true, Bool.and_false] at H
      exact H
    | some u0 =>
      obtain rfl := h0 u0 e0
      simp only [e0, Option.isSome_some, Bool.and_true] at H
      exact H
  · skip
    obtain ⟨n0, h0, HN0⟩ := vnumber_any p (hlen p (by simp))
    obtain ⟨n1, h1, HN1⟩ := vnumber_any q (hlen q (by simp))
    have H := rs_n2 s _ x1 mt hs1 x2 pre pp (mkB p) (mkB q) has1 ok1 has2 ok2 hg1 hg2 hpp HC1 HI1 HC2 HI2 HS n0 _ HN0 n1 _ HN1 w
    rw [if_neg (by simp)]
    simp only [qNumsB]
    cases e0 : qNumB p with
    | none =>
      simp only [e0, Option.isSome_none, Option.isSome_some, Bool.true_and, Bool.false_and, Bool.and_true, Bool.and_false] at H
      exact H
    | some u0 =>
      obtain rfl := h0 u0 e0
      cases e1 : qNumB q with
      | none =>
        simp only [e0, e1, Option.isSome_none, Option.isSome_some, Bool.true_and, Bool.false_and, Bool.and_true, Bool.and_false] at H
        exact H
      | some u1 =>
        obtain rfl := h1 u1 e1
        simp only [e0, e1, Option.isSome_some, Bool.and_true] at H
        exact H
  · skip
    obtain ⟨n0, h0, HN0⟩ := vnumber_any p (hlen p (by simp))
    obtain ⟨n1, h1, HN1⟩ := vnumber_any q (hlen q (by simp))
    obtain ⟨n2, h2, HN2⟩ := vnumber_any r (hlen r (by simp))
    have H := rs_n3 s _ x1 mt hs1 x2 pre pp (mkB p) (mkB q) (mkB r) has1 ok1 has2 ok2 hg1 hg2 hpp HC1 HI1 HC2 HI2 HS n0 _ HN0 n1 _ HN1 n2 _ HN2 w
    rw [if_neg (by simp)]
    simp only [qNumsB]
    cases e0 : qNumB p with
    | none =>
      simp only [e0, Option.isSome_none, Option.isSome_some, Bool.true_and, Bool.false_and, Bool.and_true, Bool.and_false] at H
      exact H
    | some u0 =>
      obtain rfl := h0 u0 e0
      cases e1 : qNumB q with
      | none =>
        simp only [e0, e1, Option.isSome_none, Option.isSome_some, Bool.true_and, Bool.false_and, Bool.and_true, Bool.and_false] at H
        exact H
      | some u1 =>
        obtain rfl := h1 u1 e1
        cases e2 : qNumB r with
        | none =>
          simp only [e0, e1, e2, Option.isSome_none, Option.isSome_some, Bool.true_and, Bool.false_and, Bool.and_true, Bool.and_false] at H
          exact H
        | some u2 =>
          obtain rfl := h2 u2 e2
          simp only [e0, e1, e2, Option.isSome_some, Bool.and_true] at H
          exact H
  · rw [if_pos (by simp)]
    exact rs_n4 s _ x1 mt hs1 x2 pre pp (mkB p) (mkB q) (mkB r) (mkB t) (u.map mkB) has1 ok1 has2 ok2 hg1 hg2 hpp HC1 HI1 HC2 HI2 HS w
theorem bare0_len (l : List UInt8) : (bare0 l).length ≤ l.length := by
  cases l with
  | nil => exact Nat.le_refl _
  | cons c r =>
    simp only [bare0]
    split
    · simp
    · exact Nat.le_refl _
theorem read_sem (s : ByteArray) (hs : s.size ≤ 100000) (w : World) : Calls Tryz.prog 34 #[.string s] w (RsEnd (qSemB0 s.data.toList) w) := by
  have hs1 : ∀ r : ByteArray, r.data.toList = bare0 s.data.toList → r = mkB (bare0 s.data.toList) := fun r h => mkB_of h
  have hb := bare0_len s.data.toList
  rw [list_size] at hb
  unfold qSemB0
  simp only
  rcases e1 : qCutAt 43 (bare0 s.data.toList) with ⟨a1, om⟩
  have l1 := qCutAt_len 43 (bare0 s.data.toList)
  rw [e1] at l1
  -- what is behind +
  have key : ∀ (x1 mt : ByteArray) (has1 ok1 : Bool) (hg1 : (has1 && !ok1) = false) (hx1 : x1.data.toList = a1),
      (∀ W, Calls Tryz.prog 71 #[.string (mkB (bare0 s.data.toList)), .int .u8 43] W fun e w' => e = .returned (.tuple #[.string x1, .string mt, .bool has1]) ∧ Drawn0 W w') →
      (∀ W, Calls Tryz.prog 72 #[.string mt] W (IdW ok1 W)) →
      Calls Tryz.prog 34 #[.string s] w (RsEnd (match qOptB (qCutAt 45 a1).2 with
        | none => none
        | some pre => if 3 < (qSplitOn 46 (qCutAt 45 a1).1).length then none else match qNumsB (qSplitOn 46 (qCutAt 45 a1).1) with
          | none => none
          | some ns => some (ns, pre, mt.data.toList)) w) := by
    intro x1 mt has1 ok1 hg1 hx1 HC1 HI1
    have hl1 : x1.size ≤ 100000 := by have := list_size x1; rw [hx1] at this; have := l1.1; simp only at this; omega
    rcases e2 : qCutAt 45 a1 with ⟨a2, op⟩
    have l2 := qCutAt_len 45 a1
    rw [e2] at l2
    simp only at l2
    have hr : ∀ (ns : Option (List Nat)) (pp : List ByteArray) (pre : List UInt8), pp = (preParts pre).map mkB → (match ns with
        | none => RdNo w
        | some ns => RdYes (ns.getD 0 0 : Nat) (ns.getD 1 0 : Nat) (ns.getD 2 0 : Nat) ns.length mt pp w) = RsEnd (match ns with | none => none | some ns => some (ns, pre, mt.data.toList)) w := by
      intro ns pp pre hp
      subst hp
      cases ns with
      | none => rfl
      | some ns => show _ = RdYes _ _ _ _ (mkB mt.data.toList) _ w; rw [mkB_back]
    cases op with
    | none =>
      obtain ⟨h1, _⟩ := qCutAt_none e2
      subst h1
      have hq : qCutAt 45 x1.data.toList = (a2, none) := by rw [hx1]; exact e2
      have H := read_nums s x1 x1 mt (mkB []) hs has1 ok1 false false hg1 rfl [] (fun _ => rfl) hl1 HC1 HI1 (fun W => vcut_none x1 (by omega) 45 hq W) (fun W => (vidents_any (mkB []) (by rw [mkB_size]; simp) W).mono fun e w' h => by
        have : qIdentsB (mkB []).data.toList = false := by decide
        rw [this] at h; exact h) w
      rw [hx1, hr _ [] [] rfl] at H
      simp only [qOptB]
      refine H.mono fun e w' h => ?_
      split
      · rename_i h3; rw [if_pos h3] at h; exact h
      · rename_i h3; rw [if_neg h3] at h; exact h
    | some b =>
      have hq : qCutAt 45 x1.data.toList = (a2, some b) := by rw [hx1]; exact e2
      have hb2 := l2.2 b rfl
      have hbl : b.length ≤ 100000 := by have := list_size x1; rw [hx1] at this; omega
      have hal : a2.length ≤ 100000 := by have := list_size x1; rw [hx1] at this; have := l2.1; omega
      cases hi : qIdentsB b with
      | false =>
        simp only [qOptB, hi]
        exact rs_pre s _ x1 mt hs1 (mkB a2) (mkB b) (partsV 46 (mkB b)) has1 ok1 hg1 HC1 HI1 (fun W => vcut_some x1 (by omega) 45 hq W) (fun W => (vidents_any (mkB b) (by rw [mkB_size]; omega) W).mono fun e w' h => by
          rw [mkB_list, hi] at h; exact h) w
      | true =>
        have H := read_nums s x1 (mkB a2) mt (mkB b) hs has1 ok1 true true hg1 rfl (partsV 46 (mkB b)) (fun h => by cases h) (by rw [mkB_size]; exact hal) HC1 HI1 (fun W => vcut_some x1 (by omega) 45 hq W) (fun W => (vidents_any (mkB b) (by rw [mkB_size]; omega) W).mono fun e w' h => by
          rw [mkB_list, hi] at h; exact h) w
        have hne : b ≠ [] := by rintro rfl; exact absurd hi (by decide)
        rw [mkB_list, hr _ (partsV 46 (mkB b)) b (by unfold partsV preParts; rw [mkB_list, if_neg hne])] at H
        simp only [qOptB, hi, if_true]
        refine H.mono fun e w' h => ?_
        split
        · rename_i h3; rw [if_pos h3] at h; exact h
        · rename_i h3; rw [if_neg h3] at h; exact h
  cases om with
  | none =>
    obtain ⟨h1, _⟩ := qCutAt_none e1
    have H := key (mkB (bare0 s.data.toList)) (mkB []) false false rfl (by rw [mkB_list]; exact h1.symm) (fun W => vcut_none (mkB (bare0 s.data.toList)) (by rw [mkB_size]; omega) 43 e1 W) (fun W => (vidents_any (mkB []) (by rw [mkB_size]; simp) W).mono fun e w' h => by
      have : qIdentsB (mkB []).data.toList = false := by decide
      rw [this] at h; exact h.weak)
    exact H
  | some m =>
    have hml := l1.2 m rfl
    cases hi : qIdentsB m with
    | false =>
      simp only [qOptB, hi]
      exact rs_meta s _ (mkB a1) (mkB m) hs1 (fun W => vcut_some (mkB (bare0 s.data.toList)) (by rw [mkB_size]; omega) 43 e1 W) (fun W => (vidents_any (mkB m) (by rw [mkB_size]; omega) W).mono fun e w' h => by
        rw [mkB_list, hi] at h; exact h.weak) w
    | true =>
      have H := key (mkB a1) (mkB m) true true rfl rfl (fun W => vcut_some (mkB (bare0 s.data.toList)) (by rw [mkB_size]; omega) 43 e1 W) (fun W => (vidents_any (mkB m) (by rw [mkB_size]; omega) W).mono fun e w' h => by
        rw [mkB_list, hi] at h; exact h.weak)
      simp only [qOptB, hi, if_true]
      exact H
end Go.Proofs.YtgoeiflddikihaaGreatDoor.Ver
end
section
namespace Go.Proofs.YtgoeiflddikihaaGreatDoor.Ver
open Go.RowKit Go.Proofs.YtgoeiflddikihaaGreatDoor.Dig Go.Proofs.YtgoeiflddikihaaGreatDoorW.PrintWords
theorem below_trans {a b c : World} (h : Below a.heap.size a b) (k : Below b.heap.size b c) : Below a.heap.size a c := h.trans (k.mono h.size)
theorem nums_len : ∀ (m : Nat) (acc ns : List Nat) (l r : List UInt8), nums m acc l = some (ns, r) → 1 ≤ ns.length
  | 0, _, _, _, _, h => by simp [nums] at h
  | m + 1, acc, ns, l, r, h => by
    rw [nums] at h
    split at h
    · cases h
    · split at h
      · exact nums_len m _ _ _ _ h
      · simp at h; rw [← h.1]; simp
theorem readV_pos {s : ByteArray} {v : SV} {k : Nat} (h : readV s = some (v, k)) : 1 ≤ k := by
  unfold readV at h
  split at h
  · cases h
  · rename_i ns r hn
    split at h
    · cases h
    · split at h
      · cases h
      · split at h
        · injection h with h; injection h with _ h2; rw [← h2]; exact nums_len _ _ _ _ _ hn
        · cases h
def newV (s : ByteArray) : Unp := match readV s with
  | none => .plain s
  | some (v, _) => .sem v
def NewEnd (s : ByteArray) (w : World) (e : Ending) (w' : World) : Prop :=
  Below w.heap.size w w' ∧ match readV s with
    | none => ∃ a, e = .returned (.tuple #[.agg zSV, .iface 260 (.pointer (some a))])
    | some (v, _) => e = .returned (.tuple #[.agg v.cells, .nilIface])
theorem new_any' (s : ByteArray) (hs : s.size ≤ 2147483647) (w : World) (hv : Vars w) : Calls Tryz.prog 129 #[.string s] w (NewEnd s w) := by
  have HR := Lib.hid (fun W hb => read_any s hs W (Vars.below (w := w) hv hb))
  have HB := Aside0.mk (Below.refl w.heap.size w)
  clear hv
  cases hq : readV s with
  | none =>
    have HQ := Lib.hid hq
    clear hq
    go_enter Tryz.func129, Tryz.ntmps129
    go_wp2_with (first
      | (go_at_call 143; ((with_reducible refine (HR.out _ (by repeat (first | exact HB.out | apply below_alloc | apply pw_below_drewN))).mono ?_); rintro e w5 ⟨hb, hm⟩; rw [HQ.out] at hm; obtain ⟨a, rfl⟩ := hm; refine Hid.out ?_)))
    have hk := blk_below (alloc_at w (.cells zSV 197)) hb
    have HB5 := Aside0.mk (below_trans (by repeat (first | exact HB.out | apply below_alloc | apply pw_below_drewN)) hb)
    have hk2 := blk_alloc hk (.cells zSV 197)
    have r0 := blk_cell hk2 0
    have t0 := blk_frozen hk2 0
    have r1 := blk_cell hk2 1
    have t1 := blk_frozen hk2 1
    have r2 := blk_cell hk2 2
    have t2 := blk_frozen hk2 2
    have r3 := blk_cell hk2 3
    have t3 := blk_frozen hk2 3
    have r4 := blk_cell hk2 4
    have t4 := blk_frozen hk2 4
    have r5 := blk_cell hk2 5
    have t5 := blk_frozen hk2 5
    clear hk hk2 hb
    refine Lib.hid ?_
    go_wp2_with fail
    refine bodyPost_ret (v := .tuple #[.agg zSV, .iface 260 (.pointer (some a))]) (by simp [results, Tryz.results129, go_sem, *]) rfl ⟨?_, by rw [HQ.out]; exact ⟨a, rfl⟩⟩
    exact ((((((below_alloc HB5.out _).setCell (Nat.le_refl _) _).setCell (Nat.le_refl _) _).setCell (Nat.le_refl _) _).setCell (Nat.le_refl _) _).setCell (Nat.le_refl _) _).setCell (Nat.le_refl _) _
  | some p =>
    obtain ⟨v, k⟩ := p
    have hk0 := readV_pos hq
    have HQ := Lib.hid hq
    clear hq
    go_enter Tryz.func129, Tryz.ntmps129
    go_wp2_with (first
      | (go_at_call 143; ((with_reducible refine (HR.out _ (by repeat (first | exact HB.out | apply below_alloc | apply pw_below_drewN))).mono ?_); rintro e w5 ⟨hb, hm⟩; rw [HQ.out] at hm; obtain rfl := hm; refine Hid.out ?_)))
    obtain ⟨va, vb, vc, vp, vm, vo⟩ := v
    have hk := blk_below (alloc_at w (.cells zSV 197)) hb
    have HB5 := Aside0.mk (below_trans (by repeat (first | exact HB.out | apply below_alloc | apply pw_below_drewN)) hb)
    have hk2 := blk_alloc hk (.cells #[.int .u64 va, .int .u64 vb, .int .u64 vc, .string vp, .string vm, .string vo] 197)
    have r0 := blk_cell hk2 0
    have t0 := blk_frozen hk2 0
    have r1 := blk_cell hk2 1
    have t1 := blk_frozen hk2 1
    have r2 := blk_cell hk2 2
    have t2 := blk_frozen hk2 2
    have r3 := blk_cell hk2 3
    have t3 := blk_frozen hk2 3
    have r4 := blk_cell hk2 4
    have t4 := blk_frozen hk2 4
    have r5 := blk_cell hk2 5
    have t5 := blk_frozen hk2 5
    have q0 : ((k : Int) == 0) = false := by rw [beq_eq_false_iff_ne]; omega
    clear hk hk2 hb hk0
    refine Lib.hid ?_
    dsimp only [SV.cells]
    go_wp2_with fail
    refine bodyPost_ret (v := .tuple #[.agg #[.int .u64 va, .int .u64 vb, .int .u64 vc, .string vp, .string vm, .string vo], .nilIface]) (by simp [results, Tryz.results129, go_sem, *]) rfl ⟨?_, by rw [HQ.out]; rfl⟩
    exact ((((((below_alloc HB5.out _).setCell (Nat.le_refl _) _).setCell (Nat.le_refl _) _).setCell (Nat.le_refl _) _).setCell (Nat.le_refl _) _).setCell (Nat.le_refl _) _).setCell (Nat.le_refl _) _
theorem newV_any (s : ByteArray) (hs : s.size ≤ 2147483647) (w : World) (hv : Vars w) : Calls Tryz.prog 122 #[.string s] w fun e w' => e = .returned (newV s).val ∧ Below w.heap.size w w' := by
  have HR := Lib.hid (fun W hb => new_any' s hs W (Vars.below (w := w) hv hb))
  have HB := Aside0.mk (Below.refl w.heap.size w)
  clear hv
  cases hq : readV s with
  | none =>
    have hN : newV s = .plain s := by unfold newV; rw [hq]
    rw [hN]
    have HQ := Lib.hid hq
    clear hq hN
    go_enter Tryz.func122, Tryz.ntmps122
    go_wp2_with (first
      | (go_at_call 129; ((with_reducible refine (HR.out _ (by repeat (first | exact HB.out | apply below_alloc | apply pw_below_drewN))).mono ?_); rintro e w5 ⟨hb, hm⟩; rw [HQ.out] at hm; obtain ⟨a, rfl⟩ := hm; have HB5 := Aside0.mk (below_trans (by repeat (first | exact HB.out | apply below_alloc | apply pw_below_drewN)) hb); clear hb)))
    go_ret
    exact ⟨rfl, by repeat (first | exact HB5.out | apply below_alloc | apply pw_below_drewN)⟩
  | some p =>
    obtain ⟨v, k⟩ := p
    have hN : newV s = .sem v := by unfold newV; rw [hq]
    rw [hN]
    have HQ := Lib.hid hq
    clear hq hN
    go_enter Tryz.func122, Tryz.ntmps122
    go_wp2_with (first
      | (go_at_call 129; ((with_reducible refine (HR.out _ (by repeat (first | exact HB.out | apply below_alloc | apply pw_below_drewN))).mono ?_); rintro e w5 ⟨hb, hm⟩; rw [HQ.out] at hm; obtain rfl := hm; have HB5 := Aside0.mk (below_trans (by repeat (first | exact HB.out | apply below_alloc | apply pw_below_drewN)) hb); clear hb; dsimp only [SV.cells])))
    go_ret
    exact ⟨rfl, by repeat (first | exact HB5.out | apply below_alloc | apply pw_below_drewN)⟩
def unpV (k : Int) (t : ByteArray) : Option Unp := if k = 1 then some (.branch t false) else if k = 2 then some (.branch t true) else if k = 3 then some (newV t) else none
def verV (k : Int) (t r : ByteArray) : Vers := match unpV k t with
  | none => .rev t
  | some u => if r = ⟨#[]⟩ then .un u else .pair u r
def unpVal : Option Unp → Value
  | none => .nilIface
  | some u => u.val
theorem unp_any (k : Int) (t r : ByteArray) (ht : t.size ≤ 2147483647) (w : World) (hv : Vars w) : Calls Tryz.prog 98 #[.agg #[.int .i64 k, .string t, .string r]] w fun e w' => e = .returned (unpVal (unpV k t)) ∧ Below w.heap.size w w' := by
  have HR := Lib.hid (fun W hb => newV_any t ht W (Vars.below (w := w) hv hb))
  have HB := Aside0.mk (Below.refl w.heap.size w)
  clear hv
  by_cases h1 : k = 1
  · subst h1
    go_enter Tryz.func98, Tryz.ntmps98
    go_wp2
    go_ret
    exact ⟨rfl, by repeat (first | exact HB.out | apply below_alloc | apply pw_below_drewN)⟩
  by_cases h2 : k = 2
  · subst h2
    go_enter Tryz.func98, Tryz.ntmps98
    go_wp2
    go_ret
    exact ⟨rfl, by repeat (first | exact HB.out | apply below_alloc | apply pw_below_drewN)⟩
  by_cases h3 : k = 3
  · subst h3
    go_enter Tryz.func98, Tryz.ntmps98
    go_wp2_with (first
      | (go_at_call 122; ((with_reducible refine (HR.out _ (by repeat (first | exact HB.out | apply below_alloc | apply pw_below_drewN))).mono ?_); rintro e w5 ⟨rfl, hb⟩; have HB5 := Aside0.mk (below_trans (by repeat (first | exact HB.out | apply below_alloc | apply pw_below_drewN)) hb); clear hb)))
    go_ret
    exact ⟨rfl, by repeat (first | exact HB5.out | apply below_alloc | apply pw_below_drewN)⟩
  · have q1 : (k == 1) = false := beq_eq_false_iff_ne.2 h1
    have q2 : (k == 2) = false := beq_eq_false_iff_ne.2 h2
    have q3 : (k == 3) = false := beq_eq_false_iff_ne.2 h3
    have hN : unpV k t = none := by unfold unpV; rw [if_neg h1, if_neg h2, if_neg h3]
    rw [hN]
    clear h1 h2 h3 hN
    go_enter Tryz.func98, Tryz.ntmps98
    go_wp2
    go_ret
    exact ⟨rfl, by repeat (first | exact HB.out | apply below_alloc | apply pw_below_drewN)⟩
theorem size_pos {r : ByteArray} (h : r ≠ ⟨#[]⟩) : 0 < r.size := by
  rcases Nat.eq_zero_or_pos r.size with h0 | h0
  · exact absurd (ByteArray.ext (Array.ext' (list_nil h0))) h
  · exact h0
theorem ver_any (k : Int) (t r : ByteArray) (ht : t.size ≤ 2147483647) (w : World) (hv : Vars w) : Calls Tryz.prog 66 #[.agg #[.int .i64 k, .string t, .string r]] w fun e w' => e = .returned (verV k t r).val ∧ Below w.heap.size w w' := by
  have HR := Lib.hid (fun W hb => unp_any k t r ht W (Vars.below (w := w) hv hb))
  have HB := Aside0.mk (Below.refl w.heap.size w)
  clear hv
  have mb := m_branch_Pair
  have mp := m_plain_Pair
  have ms := m_sem_Pair
  cases hq : unpV k t with
  | none =>
    have hN : verV k t r = .rev t := by unfold verV; rw [hq]
    rw [hN]
    have HQ := Lib.hid hq
    clear hq hN
    go_enter Tryz.func66, Tryz.ntmps66
    go_wp2_with (first
      | (go_at_call 98; ((with_reducible refine (HR.out _ (by repeat (first | exact HB.out | apply below_alloc | apply pw_below_drewN))).mono ?_); rintro e w5 ⟨rfl, hb⟩; refine Hid.out ?_)))
    have hk := blk_below (alloc_at w (.cells #[.int .i64 k, .string t, .string r] 27)) hb
    have HB5 := Aside0.mk (below_trans (by repeat (first | exact HB.out | apply below_alloc | apply pw_below_drewN)) hb)
    have r0 := blk_cell hk 0
    have r1 := blk_cell hk 1
    have r2 := blk_cell hk 2
    clear hk hb
    rw [HQ.out]
    dsimp only [unpVal, Unp.val, Unp.tid, Unp.inner, SV.cells]
    refine Lib.hid ?_
    go_wp2
    go_ret
    exact ⟨rfl, by repeat (first | exact HB5.out | apply below_alloc | apply pw_below_drewN)⟩
  | some u =>
    by_cases hr : r = ⟨#[]⟩
    · have hN : verV k t r = .un u := by unfold verV; rw [hq]; simp only; rw [if_pos hr]
      rw [hN]
      have hem : r.toList.isEmpty = true := isEmpty_true (by rw [hr]; rfl)
      have HQ := Lib.hid hq
      clear hq hN hr
      rcases u with ⟨n, d⟩ | n | v
      · go_enter Tryz.func66, Tryz.ntmps66
        go_wp2_with (first
          | (go_at_call 98; ((with_reducible refine (HR.out _ (by repeat (first | exact HB.out | apply below_alloc | apply pw_below_drewN))).mono ?_); rintro e w5 ⟨rfl, hb⟩; refine Hid.out ?_)))
        have hk := blk_below (alloc_at w (.cells #[.int .i64 k, .string t, .string r] 27)) hb
        have HB5 := Aside0.mk (below_trans (by repeat (first | exact HB.out | apply below_alloc | apply pw_below_drewN)) hb)
        have r0 := blk_cell hk 0
        have r1 := blk_cell hk 1
        have r2 := blk_cell hk 2
        clear hk hb
        rw [HQ.out]
        dsimp only [unpVal, Unp.val, Unp.tid, Unp.inner, SV.cells]
        refine Lib.hid ?_
        go_wp2
        go_ret
        exact ⟨rfl, by repeat (first | exact HB5.out | apply below_alloc | apply pw_below_drewN)⟩
      · go_enter Tryz.func66, Tryz.ntmps66
        go_wp2_with (first
          | (go_at_call 98; ((with_reducible refine (HR.out _ (by repeat (first | exact HB.out | apply below_alloc | apply pw_below_drewN))).mono ?_); rintro e w5 ⟨rfl, hb⟩; refine Hid.out ?_)))
        have hk := blk_below (alloc_at w (.cells #[.int .i64 k, .string t, .string r] 27)) hb
        have HB5 := Aside0.mk (below_trans (by repeat (first | exact HB.out | apply below_alloc | apply pw_below_drewN)) hb)
        have r0 := blk_cell hk 0
        have r1 := blk_cell hk 1
        have r2 := blk_cell hk 2
        clear hk hb
        rw [HQ.out]
        dsimp only [unpVal, Unp.val, Unp.tid, Unp.inner, SV.cells]
        refine Lib.hid ?_
        go_wp2
        go_ret
        exact ⟨rfl, by repeat (first | exact HB5.out | apply below_alloc | apply pw_below_drewN)⟩
      · go_enter Tryz.func66, Tryz.ntmps66
        go_wp2_with (first
          | (go_at_call 98; ((with_reducible refine (HR.out _ (by repeat (first | exact HB.out | apply below_alloc | apply pw_below_drewN))).mono ?_); rintro e w5 ⟨rfl, hb⟩; refine Hid.out ?_)))
        have hk := blk_below (alloc_at w (.cells #[.int .i64 k, .string t, .string r] 27)) hb
        have HB5 := Aside0.mk (below_trans (by repeat (first | exact HB.out | apply below_alloc | apply pw_below_drewN)) hb)
        have r0 := blk_cell hk 0
        have r1 := blk_cell hk 1
        have r2 := blk_cell hk 2
        clear hk hb
        rw [HQ.out]
        dsimp only [unpVal, Unp.val, Unp.tid, Unp.inner, SV.cells]
        refine Lib.hid ?_
        go_wp2
        go_ret
        exact ⟨rfl, by repeat (first | exact HB5.out | apply below_alloc | apply pw_below_drewN)⟩
    · have hN : verV k t r = .pair u r := by unfold verV; rw [hq]; simp only; rw [if_neg hr]
      rw [hN]
      have hem : r.toList.isEmpty = false := isEmpty_false (size_pos hr)
      have HQ := Lib.hid hq
      clear hq hN hr
      rcases u with ⟨n, d⟩ | n | v
      · go_enter Tryz.func66, Tryz.ntmps66
        go_wp2_with (first
          | (go_at_call 98; ((with_reducible refine (HR.out _ (by repeat (first | exact HB.out | apply below_alloc | apply pw_below_drewN))).mono ?_); rintro e w5 ⟨rfl, hb⟩; refine Hid.out ?_)))
        have hk := blk_below (alloc_at w (.cells #[.int .i64 k, .string t, .string r] 27)) hb
        have HB5 := Aside0.mk (below_trans (by repeat (first | exact HB.out | apply below_alloc | apply pw_below_drewN)) hb)
        have r0 := blk_cell hk 0
        have r1 := blk_cell hk 1
        have r2 := blk_cell hk 2
        clear hk hb
        rw [HQ.out]
        dsimp only [unpVal, Unp.val, Unp.tid, Unp.inner, SV.cells]
        refine Lib.hid ?_
        go_wp2
        go_ret
        exact ⟨rfl, by repeat (first | exact HB5.out | apply below_alloc | apply pw_below_drewN)⟩
      · go_enter Tryz.func66, Tryz.ntmps66
        go_wp2_with (first
          | (go_at_call 98; ((with_reducible refine (HR.out _ (by repeat (first | exact HB.out | apply below_alloc | apply pw_below_drewN))).mono ?_); rintro e w5 ⟨rfl, hb⟩; refine Hid.out ?_)))
        have hk := blk_below (alloc_at w (.cells #[.int .i64 k, .string t, .string r] 27)) hb
        have HB5 := Aside0.mk (below_trans (by repeat (first | exact HB.out | apply below_alloc | apply pw_below_drewN)) hb)
        have r0 := blk_cell hk 0
        have r1 := blk_cell hk 1
        have r2 := blk_cell hk 2
        clear hk hb
        rw [HQ.out]
        dsimp only [unpVal, Unp.val, Unp.tid, Unp.inner, SV.cells]
        refine Lib.hid ?_
        go_wp2
        go_ret
        exact ⟨rfl, by repeat (first | exact HB5.out | apply below_alloc | apply pw_below_drewN)⟩
      · go_enter Tryz.func66, Tryz.ntmps66
        go_wp2_with (first
          | (go_at_call 98; ((with_reducible refine (HR.out _ (by repeat (first | exact HB.out | apply below_alloc | apply pw_below_drewN))).mono ?_); rintro e w5 ⟨rfl, hb⟩; refine Hid.out ?_)))
        have hk := blk_below (alloc_at w (.cells #[.int .i64 k, .string t, .string r] 27)) hb
        have HB5 := Aside0.mk (below_trans (by repeat (first | exact HB.out | apply below_alloc | apply pw_below_drewN)) hb)
        have r0 := blk_cell hk 0
        have r1 := blk_cell hk 1
        have r2 := blk_cell hk 2
        clear hk hb
        rw [HQ.out]
        dsimp only [unpVal, Unp.val, Unp.tid, Unp.inner, SV.cells]
        refine Lib.hid ?_
        go_wp2
        go_ret
        exact ⟨rfl, by repeat (first | exact HB5.out | apply below_alloc | apply pw_below_drewN)⟩
end Go.Proofs.YtgoeiflddikihaaGreatDoor.Ver
end
section
namespace Go.Proofs.YtgoeiflddikihaaGreatDoor.Pcompare
open Go.RowKit Go.Proofs.YtgoeiflddikihaaGreatDoorW.PrintWords Go.Proofs.YtgoeiflddikihaaGreatDoorW.PrintLast Go.Proofs.YtgoeiflddikihaaGreatDoorW.PrintMore
attribute [local go_sem] max2_int min2_int max_two min_two max_three min_three max_four min_four   -- for this text's walks alone
set_option linter.unusedVariables false
set_option linter.unusedSimpArgs false
def errW : Option Int → Value
  | none => .nilIface
  | some c => .iface 0 (.int .i64 c)
theorem errW_none : errW none = .nilIface := rfl
theorem errW_some (c : Int) : errW (some c) = .iface 0 (.int .i64 c) := rfl
end Go.Proofs.YtgoeiflddikihaaGreatDoor.Pcompare
end
section
namespace Go.Proofs.YtgoeiflddikihaaGreatDoor.Pcompare
open Go.RowKit Go.Proofs.YtgoeiflddikihaaGreatDoorW.PrintWords Go.Proofs.YtgoeiflddikihaaGreatDoorW.PrintLast Go.Proofs.YtgoeiflddikihaaGreatDoorW.PrintMore
attribute [local go_sem] max2_int min2_int max_two min_two max_three min_three max_four min_four   -- for this text's walks alone
set_option linter.unusedVariables false
set_option linter.unusedSimpArgs false
def semver_number.l0 : Nat → ByteArray → Int → Option (Bool)
  | 0, _, _ => none
  | k + 1, x0, x3 => if x3 < (x0.size : Int) then (if 0 ≤ x3 then (if (bt x0 x3) < 48 then (some false) else (if (bt x0 x3) > 57 then (some false) else (semver_number.l0 k x0 (wrap64 (x3 + 1))))) else (none)) else (some (x0.toList != ([] : List UInt8)))
def semver_number.f (k : Nat) (a0 : ByteArray) : Option (Bool) := semver_number.l0 k a0 0
theorem semver_number.mono_l : ∀ k, (∀ y0 y1, LeO (semver_number.l0 k y0 y1) (semver_number.l0 (k + 1) y0 y1))
  | 0 => fun _ _ r h => by simp [semver_number.l0] at h
  | k + 1 => by
    have ih0 := semver_number.mono_l k
    · intro y0 y1
      unfold semver_number.l0
      repeat' first
      | (with_reducible exact ih0 _ _)
      | (with_reducible exact LeO.refl _)
      | (with_reducible exact LeO.none _)
      | (with_reducible refine LeO.ite ?_ ?_)
      | (with_reducible refine LeO.bind ?_ (fun _ => ?_))
      | exact ih0 _ _
      | exact LeO.none _
      | refine LeO.ite ?_ ?_
      | refine LeO.bind ?_ (fun _ => ?_)
theorem semver_number.mono : ∀ a0 k, LeO (semver_number.f k a0) (semver_number.f (k + 1) a0) := by
  intro a0 k
  have ih0 := semver_number.mono_l k
  unfold semver_number.f
  repeat' first
      | (with_reducible exact ih0 _ _)
      | (with_reducible exact LeO.refl _)
      | (with_reducible exact LeO.none _)
      | (with_reducible refine LeO.ite ?_ ?_)
      | (with_reducible refine LeO.bind ?_ (fun _ => ?_))
      | exact ih0 _ _
      | exact LeO.none _
      | refine LeO.ite ?_ ?_
      | refine LeO.bind ?_ (fun _ => ?_)
set_option maxHeartbeats 8000000 in
set_option maxRecDepth 100000 in
theorem semver_number.calls (k : Nat) (a0 : ByteArray) (r : Bool) (w : World) (h : semver_number.f k a0 = some r) :
    Calls Tryz.prog 212 #[.string a0] w fun e w' => e = .returned (.bool r) ∧ Drawn0 w w' := by
  have H : (semver_number.l0 k a0 0) = some r := h
  clear h
  have H' := Aside0.mk H
  clear H
  go_enter Tryz.func212, Tryz.ntmps212
  go_wp2
  go_loopg [3] k (fun kq v3 w' => ∃ (x3_1 : Int), v3 = .int .i64 x3_1 ∧ Aside0 (semver_number.l0 kq a0 x3_1 = some r) ∧ Aside0 (kq ≤ k) ∧ Drawn0 w w')
  case atStart => exact ⟨(0), (by first | rfl | (simp; done) | (simp [*]; done)), H', ⟨Nat.le_refl _⟩, by repeat (first | exact Drawn0.refl _ | apply Drawn0.step)⟩
  case round =>
    clear H'
    obtain ⟨x3_1, rfl, HA, HK1, ⟨m1, rfl⟩⟩ := hrel
    cases gk with
    | zero => exact absurd HA.out (by simp [semver_number.l0])
    | succ k1 =>
      have H := HA.out
      clear HA
      simp only [semver_number.l0] at H
      by_cases c2 : x3_1 < (a0.size : Int)
      · rw [if_pos c2] at H
        have c2b0 : decide (x3_1 < (a0.size : Int)) = true := decide_eq_true c2
        clear c2
        by_cases c3 : 0 ≤ x3_1
        · rw [if_pos c3] at H
          have c3b0 : decide (0 ≤ x3_1) = true := decide_eq_true c3
          clear c3
          by_cases c5 : (bt a0 x3_1) < 48
          · rw [if_pos c5] at H
            have c5b0 : decide ((bt a0 x3_1) < 48) = true := decide_eq_true c5
            clear c5
            obtain rfl := Option.some.inj H
            have p4 : 0 ≤ (x3_1 : Int) := of_decide_eq_true (by first | (with_reducible assumption) | assumption)
            have q4 : x3_1 < (a0.size : Int) := of_decide_eq_true (by first | (with_reducible assumption) | assumption)
            have hx4 := bt_at a0 x3_1
            replace p4 := eq_true p4
            replace q4 := eq_true q4
            go_wp2
            go_ret
            exact ⟨by first | rfl | (simp; done) | (simp [*]; done), by repeat (first | exact Drawn0.refl _ | apply Drawn0.step)⟩
          · rw [if_neg c5] at H
            have c5b0 : decide ((bt a0 x3_1) < 48) = false := decide_eq_false c5
            clear c5
            by_cases c7 : (bt a0 x3_1) > 57
            · rw [if_pos c7] at H
              have c7b0 : decide (57 < (bt a0 x3_1)) = true := decide_eq_true c7
              clear c7
              obtain rfl := Option.some.inj H
              have p4 : 0 ≤ (x3_1 : Int) := of_decide_eq_true (by first | (with_reducible assumption) | assumption)
              have q4 : x3_1 < (a0.size : Int) := of_decide_eq_true (by first | (with_reducible assumption) | assumption)
              have hx4 := bt_at a0 x3_1
              replace p4 := eq_true p4
              replace q4 := eq_true q4
              have p6 : 0 ≤ (x3_1 : Int) := of_decide_eq_true (by first | (with_reducible assumption) | assumption)
              have q6 : x3_1 < (a0.size : Int) := of_decide_eq_true (by first | (with_reducible assumption) | assumption)
              have hx6 := bt_at a0 x3_1
              replace p6 := eq_true p6
              replace q6 := eq_true q6
              go_wp2
              go_ret
              exact ⟨by first | rfl | (simp; done) | (simp [*]; done), by repeat (first | exact Drawn0.refl _ | apply Drawn0.step)⟩
            · rw [if_neg c7] at H
              have c7b0 : decide (57 < (bt a0 x3_1)) = false := decide_eq_false c7
              clear c7
              have H' := Aside0.mk H
              clear H
              have p4 : 0 ≤ (x3_1 : Int) := of_decide_eq_true (by first | (with_reducible assumption) | assumption)
              have q4 : x3_1 < (a0.size : Int) := of_decide_eq_true (by first | (with_reducible assumption) | assumption)
              have hx4 := bt_at a0 x3_1
              replace p4 := eq_true p4
              replace q4 := eq_true q4
              have p6 : 0 ≤ (x3_1 : Int) := of_decide_eq_true (by first | (with_reducible assumption) | assumption)
              have q6 : x3_1 < (a0.size : Int) := of_decide_eq_true (by first | (with_reducible assumption) | assumption)
              have hx6 := bt_at a0 x3_1
              replace p6 := eq_true p6
              replace q6 := eq_true q6
              go_wp2
              go_roundg k1
              case measure => have := HK1.out; omega
              case rel => exact ⟨(wrap64 (x3_1 + 1)), (by first | rfl | (simp; done) | (simp [*]; done)), H', ⟨by have := HK1.out; omega⟩, by repeat (first | exact Drawn0.refl _ | apply Drawn0.step)⟩
        · rw [if_neg c3] at H
          exact absurd H (by simp)
      · rw [if_neg c2] at H
        have c2b0 : decide (x3_1 < (a0.size : Int)) = false := decide_eq_false c2
        clear c2
        obtain rfl := Option.some.inj H
        go_wp2
        go_ret
        refine ⟨?_, by repeat (first | exact Drawn0.refl _ | apply Drawn0.step)⟩
        show Ending.returned (Value.bool (!a0.toList.isEmpty)) = _
        cases a0.toList <;> rfl
def semver_bare.l0 : Nat → ByteArray → Option (ByteArray)
  | 0, _ => none
  | k + 1, x0 => if (x0.size : Int) > 1 then (if 0 < (x0.size : Int) then (if (bt x0 0) = 48 then (if 1 ≤ (x0.size : Int) then (semver_bare.l0 k (x0.extract 1 x0.size)) else (none)) else (some x0)) else (none)) else (some x0)
def semver_bare.f (k : Nat) (a0 : ByteArray) : Option (ByteArray) := semver_bare.l0 k a0
theorem semver_bare.mono_l : ∀ k, (∀ y0, LeO (semver_bare.l0 k y0) (semver_bare.l0 (k + 1) y0))
  | 0 => fun _ r h => by simp [semver_bare.l0] at h
  | k + 1 => by
    have ih0 := semver_bare.mono_l k
    · intro y0
      unfold semver_bare.l0
      repeat' first
      | (with_reducible exact ih0 _)
      | (with_reducible exact LeO.refl _)
      | (with_reducible exact LeO.none _)
      | (with_reducible refine LeO.ite ?_ ?_)
      | (with_reducible refine LeO.bind ?_ (fun _ => ?_))
      | exact ih0 _
      | exact LeO.none _
      | refine LeO.ite ?_ ?_
      | refine LeO.bind ?_ (fun _ => ?_)
theorem semver_bare.mono : ∀ a0 k, LeO (semver_bare.f k a0) (semver_bare.f (k + 1) a0) := by
  intro a0 k
  have ih0 := semver_bare.mono_l k
  unfold semver_bare.f
  repeat' first
      | (with_reducible exact ih0 _)
      | (with_reducible exact LeO.refl _)
      | (with_reducible exact LeO.none _)
      | (with_reducible refine LeO.ite ?_ ?_)
      | (with_reducible refine LeO.bind ?_ (fun _ => ?_))
      | exact ih0 _
      | exact LeO.none _
      | refine LeO.ite ?_ ?_
      | refine LeO.bind ?_ (fun _ => ?_)
set_option maxHeartbeats 8000000 in
set_option maxRecDepth 100000 in
theorem semver_bare.calls (k : Nat) (a0 : ByteArray) (r : ByteArray) (w : World) (h : semver_bare.f k a0 = some r) :
    Calls Tryz.prog 213 #[.string a0] w fun e w' => e = .returned (.string r) ∧ Drawn0 w w' := by
  have H : (semver_bare.l0 k a0) = some r := h
  clear h
  have H' := Aside0.mk H
  clear H
  go_enter Tryz.func213, Tryz.ntmps213
  go_wp2
  go_loopg [0] k (fun kq v0 w' => ∃ (x0_1 : ByteArray), v0 = .string x0_1 ∧ Aside0 (semver_bare.l0 kq x0_1 = some r) ∧ Aside0 (kq ≤ k) ∧ Drawn0 w w')
  case atStart => exact ⟨(a0), (by first | rfl | (simp; done) | (simp [*]; done)), H', ⟨Nat.le_refl _⟩, by repeat (first | exact Drawn0.refl _ | apply Drawn0.step)⟩
  case round =>
    clear H'
    obtain ⟨x0_1, rfl, HA, HK1, ⟨m1, rfl⟩⟩ := hrel
    cases gk with
    | zero => exact absurd HA.out (by simp [semver_bare.l0])
    | succ k1 =>
      have H := HA.out
      clear HA
      simp only [semver_bare.l0] at H
      by_cases c2 : (x0_1.size : Int) > 1
      · rw [if_pos c2] at H
        have c2b0 : decide (1 < (x0_1.size : Int)) = true := decide_eq_true c2
        have c2b1 : decide (1 < x0_1.size) = true := decide_eq_true (by omega)
        clear c2
        by_cases c3 : 0 < (x0_1.size : Int)
        · rw [if_pos c3] at H
          have c3b0 : decide (0 < (x0_1.size : Int)) = true := decide_eq_true c3
          have c3b1 : decide (0 < x0_1.size) = true := decide_eq_true (by omega)
          clear c3
          by_cases c5 : (bt x0_1 0) = 48
          · rw [if_pos c5] at H
            have c5b0 : ((bt x0_1 0) == 48) = true := beq_iff_eq.mpr c5
            have c5b1 : ((bt x0_1 0) != 48) = false := bne_eq_false_iff_eq.mpr c5
            clear c5
            by_cases c6 : 1 ≤ (x0_1.size : Int)
            · rw [if_pos c6] at H
              have c6b0 := eq_true c6
              have c6b1 : decide (1 ≤ (x0_1.size : Int)) = true := decide_eq_true c6
              clear c6
              have H' := Aside0.mk H
              clear H
              have p4 : 0 ≤ (0 : Int) := (by omega)
              have q4 : 0 < x0_1.size := (by have : (0 : Int) < (x0_1.size : Int) := of_decide_eq_true (by first | (with_reducible assumption) | assumption); omega)
              have hx4 : ∀ h : 0 < x0_1.size, ((x0_1[0]'h).toNat : Int) = bt x0_1 0 := bt_at x0_1 0
              clear p4
              have qi4 : (0 < (x0_1.size : Int)) = True := eq_true (of_decide_eq_true (by first | (with_reducible assumption) | assumption))
              replace q4 := eq_true q4
              go_wp2
              go_roundg k1
              case measure => have := HK1.out; omega
              case rel => exact ⟨(x0_1.extract 1 x0_1.size), (by first | rfl | (simp; done) | (simp [*]; done)), H', ⟨by have := HK1.out; omega⟩, by repeat (first | exact Drawn0.refl _ | apply Drawn0.step)⟩
            · rw [if_neg c6] at H
              exact absurd H (by simp)
          · rw [if_neg c5] at H
            have c5b0 : ((bt x0_1 0) == 48) = false := beq_eq_false_iff_ne.mpr c5
            have c5b1 : ((bt x0_1 0) != 48) = true := bne_iff_ne.mpr c5
            obtain rfl := Option.some.inj H
            have p4 : 0 ≤ (0 : Int) := (by omega)
            have q4 : 0 < x0_1.size := (by have : (0 : Int) < (x0_1.size : Int) := of_decide_eq_true (by first | (with_reducible assumption) | assumption); omega)
            have hx4 : ∀ h : 0 < x0_1.size, ((x0_1[0]'h).toNat : Int) = bt x0_1 0 := bt_at x0_1 0
            clear p4
            have qi4 : (0 < (x0_1.size : Int)) = True := eq_true (of_decide_eq_true (by first | (with_reducible assumption) | assumption))
            replace q4 := eq_true q4
            go_wp2
            go_ret
            exact ⟨by first | rfl | (simp; done) | (simp [*]; done), by repeat (first | exact Drawn0.refl _ | apply Drawn0.step)⟩
        · rw [if_neg c3] at H
          exact absurd H (by simp)
      · rw [if_neg c2] at H
        have c2b0 : decide (1 < (x0_1.size : Int)) = false := decide_eq_false c2
        have c2b1 : decide (1 < x0_1.size) = false := decide_eq_false (by omega)
        clear c2
        obtain rfl := Option.some.inj H
        go_wp2
        go_ret
        exact ⟨by first | rfl | (simp; done) | (simp [*]; done), by repeat (first | exact Drawn0.refl _ | apply Drawn0.step)⟩
end Go.Proofs.YtgoeiflddikihaaGreatDoor.Pcompare
end
section
namespace Go.Proofs.YtgoeiflddikihaaGreatDoor.Pfirst
open Go.RowKit Go.Proofs.YtgoeiflddikihaaGreatDoorW.PrintWords Go.Proofs.YtgoeiflddikihaaGreatDoorW.PrintLast Go.Proofs.YtgoeiflddikihaaGreatDoorW.PrintMore
attribute [local go_sem] max2_int min2_int max_two min_two max_three min_three max_four min_four   -- for this text's walks alone
set_option linter.unusedVariables false
set_option linter.unusedSimpArgs false
def errW : Option Int → Value
  | none => .nilIface
  | some c => .iface 0 (.int .i64 c)
theorem errW_none : errW none = .nilIface := rfl
theorem errW_some (c : Int) : errW (some c) = .iface 0 (.int .i64 c) := rfl
end Go.Proofs.YtgoeiflddikihaaGreatDoor.Pfirst
end
section
namespace Go.Proofs.YtgoeiflddikihaaGreatDoor.Pfirst
open Go.RowKit Go.Proofs.YtgoeiflddikihaaGreatDoorW.PrintWords Go.Proofs.YtgoeiflddikihaaGreatDoorW.PrintLast Go.Proofs.YtgoeiflddikihaaGreatDoorW.PrintMore
attribute [local go_sem] max2_int min2_int max_two min_two max_three min_three max_four min_four   -- for this text's walks alone
set_option linter.unusedVariables false
set_option linter.unusedSimpArgs false
def semver_first.l0 : Nat → ByteArray → Int → Option (ByteArray × ByteArray)
  | 0, _, _ => none
  | k + 1, x0, x4 => if x4 < (x0.size : Int) then (if 0 ≤ x4 then (if (bt x0 x4) = 46 then (if x4 ≤ (x0.size : Int) then (if 0 ≤ (wrap64 (x4 + 1)) then (if (wrap64 (x4 + 1)) ≤ (x0.size : Int) then (some (x0.extract 0 (x4 : Int).toNat, x0.extract ((wrap64 (x4 + 1)) : Int).toNat x0.size)) else (none)) else (none)) else (none)) else (semver_first.l0 k x0 (wrap64 (x4 + 1)))) else (none)) else (some (x0, (⟨#[]⟩ : ByteArray)))
def semver_first.f (k : Nat) (a0 : ByteArray) : Option (ByteArray × ByteArray) := semver_first.l0 k a0 0
theorem semver_first.mono_l : ∀ k, (∀ y0 y1, LeO (semver_first.l0 k y0 y1) (semver_first.l0 (k + 1) y0 y1))
  | 0 => fun _ _ r h => by simp [semver_first.l0] at h
  | k + 1 => by
    have ih0 := semver_first.mono_l k
    · intro y0 y1
      unfold semver_first.l0
      repeat' first
      | (with_reducible exact ih0 _ _)
      | (with_reducible exact LeO.refl _)
      | (with_reducible exact LeO.none _)
      | (with_reducible refine LeO.ite ?_ ?_)
      | (with_reducible refine LeO.bind ?_ (fun _ => ?_))
      | exact ih0 _ _
      | exact LeO.none _
      | refine LeO.ite ?_ ?_
      | refine LeO.bind ?_ (fun _ => ?_)
theorem semver_first.mono : ∀ a0 k, LeO (semver_first.f k a0) (semver_first.f (k + 1) a0) := by
  intro a0 k
  have ih0 := semver_first.mono_l k
  unfold semver_first.f
  repeat' first
      | (with_reducible exact ih0 _ _)
      | (with_reducible exact LeO.refl _)
      | (with_reducible exact LeO.none _)
      | (with_reducible refine LeO.ite ?_ ?_)
      | (with_reducible refine LeO.bind ?_ (fun _ => ?_))
      | exact ih0 _ _
      | exact LeO.none _
      | refine LeO.ite ?_ ?_
      | refine LeO.bind ?_ (fun _ => ?_)
set_option maxHeartbeats 8000000 in
set_option maxRecDepth 100000 in
theorem semver_first.calls (k : Nat) (a0 : ByteArray) (r1 : ByteArray) (r2 : ByteArray) (w : World) (h : semver_first.f k a0 = some (r1, r2)) :
    Calls Tryz.prog 210 #[.string a0] w fun e w' => e = .returned (.tuple #[.string r1, .string r2]) ∧ Drawn0 w w' := by
  have H : (semver_first.l0 k a0 0) = some (r1, r2) := h
  clear h
  have H' := Aside0.mk H
  clear H
  go_enter Tryz.func210, Tryz.ntmps210
  go_wp2
  repeat (go_quiet (fail); try go_wp2)
  go_loopg [4] k (fun kq v4 w' => ∃ (x4_1 : Int), v4 = .int .i64 x4_1 ∧ Aside0 (semver_first.l0 kq a0 x4_1 = some (r1, r2)) ∧ Aside0 (kq ≤ k) ∧ Drawn0 w w')
  case atStart => exact ⟨(0), (by first | rfl | (simp; done) | (simp [*]; done)), H', ⟨Nat.le_refl _⟩, by repeat (first | exact Drawn0.refl _ | apply Drawn0.step)⟩
  case round =>
    clear H'
    obtain ⟨x4_1, rfl, HA, HK1, ⟨m1, rfl⟩⟩ := hrel
    cases gk with
    | zero => exact absurd HA.out (by simp [semver_first.l0])
    | succ k1 =>
      have H := HA.out
      clear HA
      simp only [semver_first.l0] at H
      by_cases c2 : x4_1 < (a0.size : Int)
      · rw [if_pos c2] at H
        have c2b0 : decide (x4_1 < (a0.size : Int)) = true := decide_eq_true c2
        clear c2
        by_cases c3 : 0 ≤ x4_1
        · rw [if_pos c3] at H
          have c3b0 : decide (0 ≤ x4_1) = true := decide_eq_true c3
          clear c3
          by_cases c5 : (bt a0 x4_1) = 46
          · rw [if_pos c5] at H
            have c5b0 : ((bt a0 x4_1) == 46) = true := beq_iff_eq.mpr c5
            have c5b1 : ((bt a0 x4_1) != 46) = false := bne_eq_false_iff_eq.mpr c5
            clear c5
            have c6b0 := eq_true (of_decide_eq_true (by first | (with_reducible assumption) | assumption) : 0 ≤ x4_1)
            by_cases c7 : x4_1 ≤ (a0.size : Int)
            · rw [if_pos c7] at H
              have c7b0 := eq_true c7
              have c7b1 : decide (x4_1 ≤ (a0.size : Int)) = true := decide_eq_true c7
              clear c7
              obtain ⟨ji8, hji8⟩ : ∃ j_ : Int, (wrap64 (x4_1 + 1)) = j_ := ⟨_, rfl⟩
              replace H : (if 0 ≤ (ji8) then (if (ji8) ≤ (a0.size : Int) then (some (a0.extract 0 (x4_1 : Int).toNat, a0.extract ((ji8) : Int).toNat a0.size)) else (none)) else (none)) = some (r1, r2) := by first | (rw [hji8] at H; exact H) | (simp only [hji8] at H ⊢; exact H)
              have hji8w : (IntKind.i64.wrap (x4_1 + 1)) = ji8 := (i64_w _).trans hji8
              by_cases c9 : 0 ≤ (ji8)
              · rw [if_pos c9] at H
                have c9b0 := eq_true c9
                have c9b1 : decide (0 ≤ (ji8)) = true := decide_eq_true c9
                clear c9
                by_cases c10 : (ji8) ≤ (a0.size : Int)
                · rw [if_pos c10] at H
                  have c10b0 := eq_true c10
                  have c10b1 : decide ((ji8) ≤ (a0.size : Int)) = true := decide_eq_true c10
                  clear c10
                  simp only [Option.some.injEq, Prod.mk.injEq] at H
                  obtain ⟨rfl, rfl⟩ := H
                  have p4 : 0 ≤ (x4_1 : Int) := of_decide_eq_true (by first | (with_reducible assumption) | assumption)
                  have q4 : x4_1 < (a0.size : Int) := of_decide_eq_true (by first | (with_reducible assumption) | assumption)
                  have hx4 := bt_at a0 x4_1
                  replace p4 := eq_true p4
                  replace q4 := eq_true q4
                  go_wp2
                  repeat (go_quiet (fail); try go_wp2)
                  go_ret2
                  exact ⟨by first | rfl | (simp; done) | (simp only [← hji8] <;> (first | rfl | simp)) | (simp [*]; done), by repeat (first | exact Drawn0.refl _ | apply Drawn0.step)⟩
                · rw [if_neg c10] at H
                  exact absurd H (by simp)
              · rw [if_neg c9] at H
                exact absurd H (by simp)
            · rw [if_neg c7] at H
              exact absurd H (by simp)
          · rw [if_neg c5] at H
            have c5b0 : ((bt a0 x4_1) == 46) = false := beq_eq_false_iff_ne.mpr c5
            have c5b1 : ((bt a0 x4_1) != 46) = true := bne_iff_ne.mpr c5
            have H' := Aside0.mk H
            clear H
            have p4 : 0 ≤ (x4_1 : Int) := of_decide_eq_true (by first | (with_reducible assumption) | assumption)
            have q4 : x4_1 < (a0.size : Int) := of_decide_eq_true (by first | (with_reducible assumption) | assumption)
            have hx4 := bt_at a0 x4_1
            replace p4 := eq_true p4
            replace q4 := eq_true q4
            go_wp2
            repeat (go_quiet (fail); try go_wp2)
            go_roundg k1
            case measure => have := HK1.out; omega
            case rel => exact ⟨(wrap64 (x4_1 + 1)), (by first | rfl | (simp; done) | (simp [*]; done)), H', ⟨by have := HK1.out; omega⟩, by repeat (first | exact Drawn0.refl _ | apply Drawn0.step)⟩
        · rw [if_neg c3] at H
          exact absurd H (by simp)
      · rw [if_neg c2] at H
        have c2b0 : decide (x4_1 < (a0.size : Int)) = false := decide_eq_false c2
        clear c2
        simp only [Option.some.injEq, Prod.mk.injEq] at H
        obtain ⟨rfl, rfl⟩ := H
        go_wp2
        repeat (go_quiet (fail); try go_wp2)
        go_ret2
        exact ⟨by first | rfl | (simp; done) | (simp [*]; done), by repeat (first | exact Drawn0.refl _ | apply Drawn0.step)⟩
end Go.Proofs.YtgoeiflddikihaaGreatDoor.Pfirst
end
