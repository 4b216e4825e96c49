/- Merged by program out of: SemJ, Sorter. -/
import Derived.Test.YtgoeiflddikihaaGreatDoorCpM30
import Derived.Test.YtgoeiflddikihaaGreatDoorCpM31
import Derived.Test.YtgoeiflddikihaaGreatDoorCpM29
import Derived.Test.YtgoeiflddikihaaGreatDoorCpM17
import Derived.Test.YtgoeiflddikihaaGreatDoorCpM18
import Derived.RegionTactic
import Derived.BigRegion
import Derived.ChangeAlike
section
namespace Go.Proofs.YtgoeiflddikihaaGreatDoor.Ver
set_option linter.unusedSimpArgs false
set_option linter.unusedVariables false
open Go.RowKit Go.Proofs.YtgoeiflddikihaaGreatDoor.PFnVersion Go.Proofs.YtgoeiflddikihaaGreatDoorW.PrintWords Go.Proofs.YtgoeiflddikihaaGreatDoor.Mem Go.Proofs.YtgoeiflddikihaaGreatDoor.Dig
theorem mkB_list (l : List UInt8) : (mkB l).data.toList = l := rfl
theorem mkB_size (l : List UInt8) : (mkB l).size = l.length := by show l.toArray.size = _; rw [List.size_toArray]
theorem list_size (s : ByteArray) : s.data.toList.length = s.size := by rw [Array.length_toList]; rfl
theorem mkB_back (s : ByteArray) : mkB s.data.toList = s := (mkB_of rfl).symm
theorem qCutAt_len (c : UInt8) : ∀ l : List UInt8, (qCutAt c l).1.length ≤ l.length ∧ ∀ b, (qCutAt c l).2 = some b → b.length ≤ l.length
  | [] => ⟨by simp [qCutAt], fun b h => by simp [qCutAt] at h⟩
  | x :: r => by
    have ih := qCutAt_len c r
    unfold qCutAt
    split
    · exact ⟨by simp, fun b h => by simp at h; subst h; simp⟩
    · exact ⟨by simp; exact ih.1, fun b h => by have := ih.2 b h; simp; omega⟩
theorem vcut_none (s : ByteArray) (hs : s.size ≤ 140737488351232) (c : UInt8) {a : List UInt8} (h : qCutAt c s.data.toList = (a, none)) (W : World) :
    Calls Tryz.prog 71 #[.string s, .int .u8 (c.toNat : Int)] W fun e w' => e = .returned (.tuple #[.string s, .string (mkB []), .bool false]) ∧ Drawn0 W w' := by
  refine spec_verCut.calls (s.size + 1) s c.toNat s (mkB []) false W ?_
  have := cut_tells s hs c s.size 0 (Nat.zero_le _) (by omega) (s.size + 1) (by omega)
  rw [List.take_zero, List.drop_zero, h] at this
  exact this
theorem vcut_some (s : ByteArray) (hs : s.size ≤ 140737488351232) (c : UInt8) {a b : List UInt8} (h : qCutAt c s.data.toList = (a, some b)) (W : World) :
    Calls Tryz.prog 71 #[.string s, .int .u8 (c.toNat : Int)] W fun e w' => e = .returned (.tuple #[.string (mkB a), .string (mkB b), .bool true]) ∧ Drawn0 W w' := by
  refine spec_verCut.calls (s.size + 1) s c.toNat (mkB a) (mkB b) true W ?_
  have := cut_tells s hs c s.size 0 (Nat.zero_le _) (by omega) (s.size + 1) (by omega)
  rw [List.take_zero, List.drop_zero, h] at this
  exact this
theorem partsV_pos (c : UInt8) (s : ByteArray) : 0 < (partsV c s).length := by
  unfold partsV; rw [List.length_map]; exact List.length_pos_iff.2 (qSplitOn_ne _ _)
theorem vsplit_any (s : ByteArray) (hs : s.size ≤ 1000000000) (c : UInt8) (W : World) : Calls Tryz.prog 73 #[.string s, .int .u8 (c.toNat : Int)] W (SpEnd (partsV c s) W) := by
  refine (spec_verSplit.calls (s.size + 2) s c.toNat _ W (split_f s hs c _ (by omega))).mono ?_
  rintro e w' ⟨v, rfl, hr, hb⟩
  obtain ⟨g, cap, cells, rest, rfl, h1, h2, h3⟩ := strs_block hr (partsV_pos c s)
  exact ⟨g, cap, cells, rest, rfl, h1, h2, h3, hb⟩
theorem row_slice {w : World} {base n size : Nat} {e : TypeId} {v : Value} {xs : List Value} (h : w.ownsRow base e size v n xs) : ∃ A m c, v = .slice A m c := by
  obtain ⟨_, h⟩ := h
  rcases h with ⟨rfl, _⟩ | ⟨g, cap, _, rfl, _⟩
  · exact ⟨_, _, _, rfl⟩
  · exact ⟨_, _, _, rfl⟩
theorem vidents_any (s : ByteArray) (hs : s.size ≤ 100000000) (W : World) : Calls Tryz.prog 72 #[.string s] W (IdEnd (qIdentsB s.data.toList) (partsV 46 s) W) := by
  obtain ⟨k, hk⟩ := idents_f s hs
  cases hq : qIdentsB s.data.toList with
  | true =>
    rw [hq, if_pos rfl] at hk
    refine (spec_verIdents.calls k s _ _ W hk).mono ?_
    rintro e w' ⟨v, rfl, hr, hb⟩
    obtain ⟨g, cap, cells, rest, rfl, h1, h2, h3⟩ := strs_block hr (partsV_pos 46 s)
    exact ⟨g, cap, cells, rest, rfl, h1, h2, h3, hb⟩
  | false =>
    rw [hq, if_neg (by decide)] at hk
    refine (spec_verIdents.calls k s _ _ W hk).mono ?_
    rintro e w' ⟨v, rfl, hr, hb⟩
    obtain ⟨_, inner, ho, _⟩ := hr
    obtain ⟨A, m, c, rfl⟩ := row_slice ho
    exact ⟨⟨A, m, c, rfl⟩, hb⟩
theorem vnumber_any (p : List UInt8) (hp : p.length ≤ 140737488351232) : ∃ n : Int, (∀ u, qNumB p = some u → n = (u : Int)) ∧ ∀ W, Calls Tryz.prog 74 #[.string (mkB p)] W fun e w' => e = .returned (.tuple #[.int .u64 n, .bool (qNumB p).isSome]) ∧ Drawn0 W w' := by
  obtain ⟨n, k, h1, h2⟩ := number_f (mkB p) (by rw [mkB_size]; exact hp)
  exact ⟨n, h2, fun W => spec_verNumber.calls k (mkB p) n _ W h1⟩
def RsEnd (q : Option (List Nat × List UInt8 × List UInt8)) (w : World) (e : Ending) (w' : World) : Prop := match q with
  | none => RdNo w e w'
  | some (ns, pre, mt) => RdYes (ns.getD 0 0 : Nat) (ns.getD 1 0 : Nat) (ns.getD 2 0 : Nat) ns.length (mkB mt) ((preParts pre).map mkB) w e w'
theorem read_nums (s x1 x2 mt pre : ByteArray) (hs : s.size ≤ 100000) (has1 ok1 has2 ok2 : Bool) (hg1 : (has1 && !ok1) = false) (hg2 : (has2 && !ok2) = false) (pp : List ByteArray) (hpp : has2 = false → pp = []) (hx : x2.size ≤ 100000)
    (HC1 : ∀ W, Calls Tryz.prog 71 #[.string (mkB (bare0 s.data.toList)), .int .u8 43] W fun e w' => e = .returned (.tuple #[.string x1, .string mt, .bool has1]) ∧ Drawn0 W w')
    (HI1 : ∀ W, Calls Tryz.prog 72 #[.string mt] W (IdW ok1 W))
    (HC2 : ∀ W, Calls Tryz.prog 71 #[.string x1, .int .u8 45] W fun e w' => e = .returned (.tuple #[.string x2, .string pre, .bool has2]) ∧ Drawn0 W w')
    (HI2 : ∀ W, Calls Tryz.prog 72 #[.string pre] W (IdEnd ok2 pp W)) (w : World) :
    Calls Tryz.prog 34 #[.string s] w (match (if 3 < (qSplitOn 46 x2.data.toList).length then none else qNumsB (qSplitOn 46 x2.data.toList)) with
      | none => RdNo w
      | some ns => RdYes (ns.getD 0 0 : Nat) (ns.getD 1 0 : Nat) (ns.getD 2 0 : Nat) ns.length mt pp w) := by
  have hs1 : ∀ r : ByteArray, r.data.toList = bare0 s.data.toList → r = mkB (bare0 s.data.toList) := fun r h => mkB_of h
  have HS := fun W => vsplit_any x2 (by omega) 46 W
  have hlen : ∀ y ∈ qSplitOn 46 x2.data.toList, y.length ≤ 140737488351232 := fun y hy => by
    have h1 := parts_size 46 x2.data.toList y hy
    rw [list_size] at h1; omega
  unfold partsV at HS
  have hne := qSplitOn_ne 46 x2.data.toList
  generalize qSplitOn 46 x2.data.toList = Q at HS hlen hne ⊢
  rcases Q with _ | ⟨p, _ | ⟨q, _ | ⟨r, _ | ⟨t, u⟩⟩⟩⟩
  · exact absurd rfl hne
  · skip
    obtain ⟨n0, h0, HN0⟩ := vnumber_any p (hlen p (by simp))
    have H := rs_n1 s _ x1 mt hs1 x2 pre pp (mkB p) has1 ok1 has2 ok2 hg1 hg2 hpp HC1 HI1 HC2 HI2 HS n0 _ HN0 w
    rw [if_neg (by simp)]
    simp only [qNumsB]
    cases e0 : qNumB p with
    | none =>
      simp only [e0, Option.isSome_none, Option.isSome_some, Bool.true_and, Bool.false_and, Bool.and_true, Bool.and_false] at H
      exact H
    | some u0 =>
      obtain rfl := h0 u0 e0
      simp only [e0, Option.isSome_some, Bool.and_true] at H
      exact H
  · skip
    obtain ⟨n0, h0, HN0⟩ := vnumber_any p (hlen p (by simp))
    obtain ⟨n1, h1, HN1⟩ := vnumber_any q (hlen q (by simp))
    have H := rs_n2 s _ x1 mt hs1 x2 pre pp (mkB p) (mkB q) has1 ok1 has2 ok2 hg1 hg2 hpp HC1 HI1 HC2 HI2 HS n0 _ HN0 n1 _ HN1 w
    rw [if_neg (by simp)]
    simp only [qNumsB]
    cases e0 : qNumB p with
    | none =>
      simp only [e0, Option.isSome_none, Option.isSome_some, Bool.true_and, Bool.false_and, Bool.and_true, Bool.and_false] at H
      exact H
    | some u0 =>
      obtain rfl := h0 u0 e0
      cases e1 : qNumB q with
      | none =>
        simp only [e0, e1, Option.isSome_none, Option.isSome_some, Bool.true_and, Bool.false_and, Bool.and_true, Bool.and_false] at H
        exact H
      | some u1 =>
        obtain rfl := h1 u1 e1
        simp only [e0, e1, Option.isSome_some, Bool.and_true] at H
        exact H
  · skip
    obtain ⟨n0, h0, HN0⟩ := vnumber_any p (hlen p (by simp))
    obtain ⟨n1, h1, HN1⟩ := vnumber_any q (hlen q (by simp))
    obtain ⟨n2, h2, HN2⟩ := vnumber_any r (hlen r (by simp))
    have H := rs_n3 s _ x1 mt hs1 x2 pre pp (mkB p) (mkB q) (mkB r) has1 ok1 has2 ok2 hg1 hg2 hpp HC1 HI1 HC2 HI2 HS n0 _ HN0 n1 _ HN1 n2 _ HN2 w
    rw [if_neg (by simp)]
    simp only [qNumsB]
    cases e0 : qNumB p with
    | none =>
      simp only [e0, Option.isSome_none, Option.isSome_some, Bool.true_and, Bool.false_and, Bool.and_true, Bool.and_false] at H
      exact H
    | some u0 =>
      obtain rfl := h0 u0 e0
      cases e1 : qNumB q with
      | none =>
        simp only [e0, e1, Option.isSome_none, Option.isSome_some, Bool.true_and, Bool.false_and, Bool.and_true, Bool.and_false] at H
        exact H
      | some u1 =>
        obtain rfl := h1 u1 e1
        cases e2 : qNumB r with
        | none =>
          simp only [e0, e1, e2, Option.isSome_none, Option.isSome_some, Bool.true_and, Bool.false_and, Bool.and_true, Bool.and_false] at H
          exact H
        | some u2 =>
          obtain rfl := h2 u2 e2
          simp only [e0, e1, e2, Option.isSome_some, Bool.and_true] at H
          exact H
  · rw [if_pos (by simp)]
    exact rs_n4 s _ x1 mt hs1 x2 pre pp (mkB p) (mkB q) (mkB r) (mkB t) (u.map mkB) has1 ok1 has2 ok2 hg1 hg2 hpp HC1 HI1 HC2 HI2 HS w
theorem bare0_len (l : List UInt8) : (bare0 l).length ≤ l.length := by
  cases l with
  | nil => exact Nat.le_refl _
  | cons c r =>
    simp only [bare0]
    split
    · simp
    · exact Nat.le_refl _
theorem read_sem (s : ByteArray) (hs : s.size ≤ 100000) (w : World) : Calls Tryz.prog 34 #[.string s] w (RsEnd (qSemB0 s.data.toList) w) := by
  have hs1 : ∀ r : ByteArray, r.data.toList = bare0 s.data.toList → r = mkB (bare0 s.data.toList) := fun r h => mkB_of h
  have hb := bare0_len s.data.toList
  rw [list_size] at hb
  unfold qSemB0
  simp only
  rcases e1 : qCutAt 43 (bare0 s.data.toList) with ⟨a1, om⟩
  have l1 := qCutAt_len 43 (bare0 s.data.toList)
  rw [e1] at l1
  -- what is behind +
  have key : ∀ (x1 mt : ByteArray) (has1 ok1 : Bool) (hg1 : (has1 && !ok1) = false) (hx1 : x1.data.toList = a1),
      (∀ W, Calls Tryz.prog 71 #[.string (mkB (bare0 s.data.toList)), .int .u8 43] W fun e w' => e = .returned (.tuple #[.string x1, .string mt, .bool has1]) ∧ Drawn0 W w') →
      (∀ W, Calls Tryz.prog 72 #[.string mt] W (IdW ok1 W)) →
      Calls Tryz.prog 34 #[.string s] w (RsEnd (match qOptB (qCutAt 45 a1).2 with
        | none => none
        | some pre => if 3 < (qSplitOn 46 (qCutAt 45 a1).1).length then none else match qNumsB (qSplitOn 46 (qCutAt 45 a1).1) with
          | none => none
          | some ns => some (ns, pre, mt.data.toList)) w) := by
    intro x1 mt has1 ok1 hg1 hx1 HC1 HI1
    have hl1 : x1.size ≤ 100000 := by have := list_size x1; rw [hx1] at this; have := l1.1; simp only at this; omega
    rcases e2 : qCutAt 45 a1 with ⟨a2, op⟩
    have l2 := qCutAt_len 45 a1
    rw [e2] at l2
    simp only at l2
    have hr : ∀ (ns : Option (List Nat)) (pp : List ByteArray) (pre : List UInt8), pp = (preParts pre).map mkB → (match ns with
        | none => RdNo w
        | some ns => RdYes (ns.getD 0 0 : Nat) (ns.getD 1 0 : Nat) (ns.getD 2 0 : Nat) ns.length mt pp w) = RsEnd (match ns with | none => none | some ns => some (ns, pre, mt.data.toList)) w := by
      intro ns pp pre hp
      subst hp
      cases ns with
      | none => rfl
      | some ns => show _ = RdYes _ _ _ _ (mkB mt.data.toList) _ w; rw [mkB_back]
    cases op with
    | none =>
      obtain ⟨h1, _⟩ := qCutAt_none e2
      subst h1
      have hq : qCutAt 45 x1.data.toList = (a2, none) := by rw [hx1]; exact e2
      have H := read_nums s x1 x1 mt (mkB []) hs has1 ok1 false false hg1 rfl [] (fun _ => rfl) hl1 HC1 HI1 (fun W => vcut_none x1 (by omega) 45 hq W) (fun W => (vidents_any (mkB []) (by rw [mkB_size]; simp) W).mono fun e w' h => by
        have : qIdentsB (mkB []).data.toList = false := by decide
        rw [this] at h; exact h) w
      rw [hx1, hr _ [] [] rfl] at H
      simp only [qOptB]
      refine H.mono fun e w' h => ?_
      split
      · rename_i h3; rw [if_pos h3] at h; exact h
      · rename_i h3; rw [if_neg h3] at h; exact h
    | some b =>
      have hq : qCutAt 45 x1.data.toList = (a2, some b) := by rw [hx1]; exact e2
      have hb2 := l2.2 b rfl
      have hbl : b.length ≤ 100000 := by have := list_size x1; rw [hx1] at this; omega
      have hal : a2.length ≤ 100000 := by have := list_size x1; rw [hx1] at this; have := l2.1; omega
      cases hi : qIdentsB b with
      | false =>
        simp only [qOptB, hi]
        exact rs_pre s _ x1 mt hs1 (mkB a2) (mkB b) (partsV 46 (mkB b)) has1 ok1 hg1 HC1 HI1 (fun W => vcut_some x1 (by omega) 45 hq W) (fun W => (vidents_any (mkB b) (by rw [mkB_size]; omega) W).mono fun e w' h => by
          rw [mkB_list, hi] at h; exact h) w
      | true =>
        have H := read_nums s x1 (mkB a2) mt (mkB b) hs has1 ok1 true true hg1 rfl (partsV 46 (mkB b)) (fun h => by cases h) (by rw [mkB_size]; exact hal) HC1 HI1 (fun W => vcut_some x1 (by omega) 45 hq W) (fun W => (vidents_any (mkB b) (by rw [mkB_size]; omega) W).mono fun e w' h => by
          rw [mkB_list, hi] at h; exact h) w
        have hne : b ≠ [] := by rintro rfl; exact absurd hi (by decide)
        rw [mkB_list, hr _ (partsV 46 (mkB b)) b (by unfold partsV preParts; rw [mkB_list, if_neg hne])] at H
        simp only [qOptB, hi, if_true]
        refine H.mono fun e w' h => ?_
        split
        · rename_i h3; rw [if_pos h3] at h; exact h
        · rename_i h3; rw [if_neg h3] at h; exact h
  cases om with
  | none =>
    obtain ⟨h1, _⟩ := qCutAt_none e1
    have H := key (mkB (bare0 s.data.toList)) (mkB []) false false rfl (by rw [mkB_list]; exact h1.symm) (fun W => vcut_none (mkB (bare0 s.data.toList)) (by rw [mkB_size]; omega) 43 e1 W) (fun W => (vidents_any (mkB []) (by rw [mkB_size]; simp) W).mono fun e w' h => by
      have : qIdentsB (mkB []).data.toList = false := by decide
      rw [this] at h; exact h.weak)
    exact H
  | some m =>
    have hml := l1.2 m rfl
    cases hi : qIdentsB m with
    | false =>
      simp only [qOptB, hi]
      exact rs_meta s _ (mkB a1) (mkB m) hs1 (fun W => vcut_some (mkB (bare0 s.data.toList)) (by rw [mkB_size]; omega) 43 e1 W) (fun W => (vidents_any (mkB m) (by rw [mkB_size]; omega) W).mono fun e w' h => by
        rw [mkB_list, hi] at h; exact h.weak) w
    | true =>
      have H := key (mkB a1) (mkB m) true true rfl rfl (fun W => vcut_some (mkB (bare0 s.data.toList)) (by rw [mkB_size]; omega) 43 e1 W) (fun W => (vidents_any (mkB m) (by rw [mkB_size]; omega) W).mono fun e w' h => by
        rw [mkB_list, hi] at h; exact h.weak)
      simp only [qOptB, hi, if_true]
      exact H
end Go.Proofs.YtgoeiflddikihaaGreatDoor.Ver
end
section
namespace Go.Proofs.YtgoeiflddikihaaGreatDoor.Ver
open Go.RowKit Go.Proofs.YtgoeiflddikihaaGreatDoorW.PrintWords Go.Sort Go.Proofs.YtgoeiflddikihaaGreatDoor.Srt Go.Proofs.YtgoeiflddikihaaGreatDoor.Ord
theorem bare_sem (l : Vers) (h : l.rank = 0) : l.bare = .un (.sem l.sem) := by
  rcases l with s | (⟨n, d⟩ | s | v) | ⟨(⟨n, d⟩ | s | v), x⟩ <;> first | rfl | (simp [Vers.rank, Unp.rank] at h)
theorem vless_any (l r : Vers) (hl : l.sem.pre.size ≤ 140737488351232) (hr : r.sem.pre.size ≤ 140737488351232) (down : Bool) (w : World) :
    Calls Tryz.prog 204 #[l.val, r.val, .bool down] w fun e w' => e = .returned (.bool (lessV down l r)) ∧ Below w.heap.size w w' := by
  by_cases h : l.rank = r.rank
  · by_cases h0 : l.rank = 0
    · exact vless_sem l r l.sem r.sem (bare_sem l h0) (bare_sem r (h.symm.trans h0)) hl hr down w
    · by_cases h1 : l.rank = 1
      · exact vless_branch l r down h1 (h.symm.trans h1) w
      · exact vless_name l r down h (by omega) w
  · exact vless_rank l r down h w
def Vers.fine (v : Vers) : Prop := v.sem.pre.size ≤ 140737488351232 ∧ ∀ s, v.bare = .un (.sem s) → s.orig ≠ ⟨#[]⟩
def VS : Type := { v : Vers // v.fine }
instance : Inhabited VS := ⟨⟨.rev ⟨#[]⟩, by decide, by intro s h; cases h⟩⟩
theorem readV_text {s : ByteArray} {v : SV} {k : Nat} (h : readV s = some (v, k)) : s ≠ ⟨#[]⟩ := by
  rintro rfl
  have : readV ⟨#[]⟩ = none := by rfl
  rw [this] at h; cases h
theorem newV_fine {t : ByteArray} (ht : t.size ≤ 2147483647) {v : SV} (h : newV t = .sem v) : v.pre.size ≤ 140737488351232 ∧ v.orig ≠ ⟨#[]⟩ := by
  unfold newV at h
  split at h
  · cases h
  · rename_i x k hq
    injection h with h
    subst h
    obtain ⟨h1, h2⟩ := readV_ok' ht hq
    exact ⟨Nat.le_trans h1.p (by omega), by rw [h2]; exact readV_text hq⟩
theorem unpV_fine {k : Int} {t : ByteArray} (ht : t.size ≤ 2147483647) {v : SV} (h : unpV k t = some (.sem v)) : v.pre.size ≤ 140737488351232 ∧ v.orig ≠ ⟨#[]⟩ := by
  unfold unpV at h
  split at h
  · cases h
  · split at h
    · cases h
    · split at h
      · injection h with h; exact newV_fine ht h
      · cases h
theorem verV_fine (k : Int) {t : ByteArray} (r : ByteArray) (ht : t.size ≤ 2147483647) : (verV k t r).fine := by
  unfold verV
  split
  · exact ⟨by show (ByteArray.size ⟨#[]⟩) ≤ _; decide, by intro s h; cases h⟩
  · rename_i u hu
    have hz : (zV.pre.size ≤ 140737488351232) := by decide
    split
    · rcases u with ⟨n, d⟩ | n | v
      · exact ⟨hz, by intro s h; cases h⟩
      · exact ⟨hz, by intro s h; cases h⟩
      · have := unpV_fine ht hu
        exact ⟨this.1, by intro s h; cases h; exact this.2⟩
    · rcases u with ⟨n, d⟩ | n | v
      · exact ⟨hz, by intro s h; cases h⟩
      · exact ⟨hz, by intro s h; cases h⟩
      · have := unpV_fine ht hu
        exact ⟨this.1, by intro s h; cases h; exact this.2⟩
def encV (a : VS) : Value := a.1.val
def ltV (down : Bool) (a b : VS) : Bool := lessV down a.1 b.1
theorem swo_ltV (down : Bool) : SWO (ltV down) := ⟨fun x => (swo_vers down).irrefl x.1, fun x y z => (swo_vers down).trans x.1 y.1 z.1, fun x y z => (swo_vers down).ntrans x.1 y.1 z.1⟩
set_option maxHeartbeats 2000000 in
theorem less_up (w : World) (blk off n cap : Nat) : LessC 221 (.slice (some ⟨blk, off, none⟩) n cap) encV (ltV false) w blk off n := by
  intro W d hW hd i j hi hj
  have hv := vless_any d[i]!.1 d[j]!.1 d[i]!.2.1 d[j]!.2.1 false
  change ∀ W, Calls _ _ _ _ fun e w' => e = .returned (.bool (ltV false d[i]! d[j]!)) ∧ _ at hv
  have h1 := (hW.holds i (by omega)).1
  have h2 := (hW.holds j (by omega)).1
  unfold encV at h1 h2
  generalize ltV false d[i]! d[j]! = r at *
  generalize d[i]!.1.val = x at *
  generalize d[j]!.1.val = y at *
  have HV := Lib.hid hv
  have b1 : (i : Int) < (n : Int) := by omega
  have b2 : (j : Int) < (n : Int) := by omega
  have HB := Aside0.mk (Below.refl W.heap.size W)
  clear hv hd hW
  go_enter Tryz.func221, Tryz.ntmps221
  go_wp2_with fail
  go_quiet (fail)
  go_wp2_with (go_at_call 204; ((with_reducible refine (HV.out _).mono ?_); rintro e w5 ⟨rfl, hb⟩; have HB5 := Aside0.mk (below_trans (by repeat (first | exact HB.out | apply below_alloc | apply pw_below_drewN)) hb); clear hb))
  go_ret
  exact ⟨rfl, HB5.out⟩
set_option maxHeartbeats 4000000 in
theorem swap_up (w : World) (blk off n cap : Nat) : SwapC 222 (.slice (some ⟨blk, off, none⟩) n cap) encV w blk off n := by
  intro W d hW hd i j hi hj
  have HS := Lib.hid (fun q => (hW.swap (i := i) (j := j) (by omega) (by omega)).drewN q)
  obtain ⟨h1, f1⟩ := hW.holds i (by omega)
  obtain ⟨h2, f2⟩ := hW.holds j (by omega)
  obtain ⟨tx, vx, hx⟩ : ∃ t v, encV d[i]! = .iface t v := ⟨_, _, rfl⟩
  obtain ⟨ty, vy, hy⟩ : ∃ t v, encV d[j]! = .iface t v := ⟨_, _, rfl⟩
  rw [hx, hy] at HS
  rw [hx] at h1
  rw [hy] at h2
  clear hx hy
  have b1 : (i : Int) < (n : Int) := by omega
  have b2 : (j : Int) < (n : Int) := by omega
  obtain ⟨v', hy'⟩ := cell?_setCell_some (w := W) (p := ⟨blk, off + i, none⟩) (x := .iface ty vy) (q := ⟨blk, off + j, none⟩) (v := .iface ty vy) (by go_simp)
  clear hd hW
  go_enter Tryz.func222, Tryz.ntmps222
  go_wp2_with fail
  go_region
  all_goals
    go_end0
    exact ⟨rfl, HS.out 1⟩
set_option maxHeartbeats 2000000 in
theorem less_pu (w : World) (blk off n cap : Nat) : LessC 215 (.slice (some ⟨blk, off, none⟩) n cap) encV (ltV false) w blk off n := by
  intro W d hW hd i j hi hj
  have hv := vless_any d[i]!.1 d[j]!.1 d[i]!.2.1 d[j]!.2.1 false
  change ∀ W, Calls _ _ _ _ fun e w' => e = .returned (.bool (ltV false d[i]! d[j]!)) ∧ _ at hv
  have h1 := (hW.holds i (by omega)).1
  have h2 := (hW.holds j (by omega)).1
  unfold encV at h1 h2
  generalize ltV false d[i]! d[j]! = r at *
  generalize d[i]!.1.val = x at *
  generalize d[j]!.1.val = y at *
  have HV := Lib.hid hv
  have b1 : (i : Int) < (n : Int) := by omega
  have b2 : (j : Int) < (n : Int) := by omega
  have HB := Aside0.mk (Below.refl W.heap.size W)
  clear hv hd hW
  go_enter Tryz.func215, Tryz.ntmps215
  go_wp2_with fail
  go_quiet (fail)
  go_wp2_with (go_at_call 204; ((with_reducible refine (HV.out _).mono ?_); rintro e w5 ⟨rfl, hb⟩; have HB5 := Aside0.mk (below_trans (by repeat (first | exact HB.out | apply below_alloc | apply pw_below_drewN)) hb); clear hb))
  go_ret
  exact ⟨rfl, HB5.out⟩
set_option maxHeartbeats 4000000 in
theorem swap_pu (w : World) (blk off n cap : Nat) : SwapC 216 (.slice (some ⟨blk, off, none⟩) n cap) encV w blk off n := by
  intro W d hW hd i j hi hj
  have HS := Lib.hid (fun q => (hW.swap (i := i) (j := j) (by omega) (by omega)).drewN q)
  obtain ⟨h1, f1⟩ := hW.holds i (by omega)
  obtain ⟨h2, f2⟩ := hW.holds j (by omega)
  obtain ⟨tx, vx, hx⟩ : ∃ t v, encV d[i]! = .iface t v := ⟨_, _, rfl⟩
  obtain ⟨ty, vy, hy⟩ : ∃ t v, encV d[j]! = .iface t v := ⟨_, _, rfl⟩
  rw [hx, hy] at HS
  rw [hx] at h1
  rw [hy] at h2
  clear hx hy
  have b1 : (i : Int) < (n : Int) := by omega
  have b2 : (j : Int) < (n : Int) := by omega
  obtain ⟨v', hy'⟩ := cell?_setCell_some (w := W) (p := ⟨blk, off + i, none⟩) (x := .iface ty vy) (q := ⟨blk, off + j, none⟩) (v := .iface ty vy) (by go_simp)
  clear hd hW
  go_enter Tryz.func216, Tryz.ntmps216
  go_wp2_with fail
  go_region
  all_goals
    go_end0
    exact ⟨rfl, HS.out 1⟩
set_option maxHeartbeats 2000000 in
theorem less_pd (w : World) (blk off n cap : Nat) : LessC 202 (.slice (some ⟨blk, off, none⟩) n cap) encV (ltV true) w blk off n := by
  intro W d hW hd i j hi hj
  have hv := vless_any d[i]!.1 d[j]!.1 d[i]!.2.1 d[j]!.2.1 true
  change ∀ W, Calls _ _ _ _ fun e w' => e = .returned (.bool (ltV true d[i]! d[j]!)) ∧ _ at hv
  have h1 := (hW.holds i (by omega)).1
  have h2 := (hW.holds j (by omega)).1
  unfold encV at h1 h2
  generalize ltV true d[i]! d[j]! = r at *
  generalize d[i]!.1.val = x at *
  generalize d[j]!.1.val = y at *
  have HV := Lib.hid hv
  have b1 : (i : Int) < (n : Int) := by omega
  have b2 : (j : Int) < (n : Int) := by omega
  have HB := Aside0.mk (Below.refl W.heap.size W)
  clear hv hd hW
  go_enter Tryz.func202, Tryz.ntmps202
  go_wp2_with fail
  go_quiet (fail)
  go_wp2_with (go_at_call 204; ((with_reducible refine (HV.out _).mono ?_); rintro e w5 ⟨rfl, hb⟩; have HB5 := Aside0.mk (below_trans (by repeat (first | exact HB.out | apply below_alloc | apply pw_below_drewN)) hb); clear hb))
  go_ret
  exact ⟨rfl, HB5.out⟩
set_option maxHeartbeats 4000000 in
theorem swap_pd (w : World) (blk off n cap : Nat) : SwapC 203 (.slice (some ⟨blk, off, none⟩) n cap) encV w blk off n := by
  intro W d hW hd i j hi hj
  have HS := Lib.hid (fun q => (hW.swap (i := i) (j := j) (by omega) (by omega)).drewN q)
  obtain ⟨h1, f1⟩ := hW.holds i (by omega)
  obtain ⟨h2, f2⟩ := hW.holds j (by omega)
  obtain ⟨tx, vx, hx⟩ : ∃ t v, encV d[i]! = .iface t v := ⟨_, _, rfl⟩
  obtain ⟨ty, vy, hy⟩ : ∃ t v, encV d[j]! = .iface t v := ⟨_, _, rfl⟩
  rw [hx, hy] at HS
  rw [hx] at h1
  rw [hy] at h2
  clear hx hy
  have b1 : (i : Int) < (n : Int) := by omega
  have b2 : (j : Int) < (n : Int) := by omega
  obtain ⟨v', hy'⟩ := cell?_setCell_some (w := W) (p := ⟨blk, off + i, none⟩) (x := .iface ty vy) (q := ⟨blk, off + j, none⟩) (v := .iface ty vy) (by go_simp)
  clear hd hW
  go_enter Tryz.func203, Tryz.ntmps203
  go_wp2_with fail
  go_region
  all_goals
    go_end0
    exact ⟨rfl, HS.out 1⟩
theorem meth_up (a : Option Addr) (n cap : Nat) : Meth 179 (.slice a n cap) 220 221 222 :=
  ⟨fun _ => by kernel_rfl, fun _ => by kernel_rfl, fun _ => by kernel_rfl, fun _ _ => by kernel_rfl, fun _ _ => by kernel_rfl, fun _ _ => by kernel_rfl⟩
theorem lenN_up (a : Option Addr) (n cap : Nat) (w : World) : Calls Tryz.prog 220 #[.slice a n cap] w fun e w' => e = .returned (.int .i64 n) ∧ Drawn0 w w' := by
  go_enter Tryz.func220, Tryz.ntmps220
  go_wp2
  go_ret
  exact ⟨rfl, by repeat (first | exact Drawn0.refl _ | apply Drawn0.step)⟩
theorem sorts0_up (a : Option Addr) (n cap : Nat) (hn : n ≤ 1) (w : World) : Calls Tryz.prog 80 #[.slice a n cap] w fun e w' => e = .returned (.tuple #[]) ∧ Drawn0 w w' := by
  have HS := Lib.hid (fun W => sort_tiny (meth_up a n cap) n hn (lenN_up a n cap) W)
  clear hn
  go_enter Tryz.func80, Tryz.ntmps80
  go_wp2_with (go_at_call 102; ((with_reducible refine (HS.out _).mono ?_); rintro e w5 ⟨rfl, ⟨q, rfl⟩⟩))
  go_end0
  exact ⟨rfl, by repeat (first | exact Drawn0.refl _ | apply Drawn0.step)⟩
theorem sorts_up (blk off n cap : Nat) (h2 : 2 ≤ n) (hn : n ≤ 12) (d : Array VS) (hd : d.size = n) (w : World) (hH : Holds encV w blk off d) (hb : blk < w.heap.size) :
    Calls Tryz.prog 80 #[.slice (some ⟨blk, off, none⟩) n cap] w fun e w' => e = .returned (.tuple #[]) ∧ SI encV w blk off (insertionSort (ltV false) d 0 n) w' := by
  have HS := Lib.hid (sort_short (meth_up _ n cap) encV (ltV false) w blk off n (less_up w blk off n cap) (swap_up w blk off n cap) h2 hn (fun W => lenN_up _ n cap W) d hd hH hb)
  clear hn h2 hd hH hb
  go_enter Tryz.func80, Tryz.ntmps80
  go_wp2_with (go_at_call 102; ((with_reducible refine HS.out.mono ?_); rintro e w5 ⟨rfl, hs5⟩; have HS5 := Aside0.mk hs5; clear hs5))
  go_end0
  exact ⟨rfl, HS5.out⟩
theorem sortAll_up (blk off n cap : Nat) (h1 : 1 ≤ n) (hn : n ≤ 12) (d : Array VS) (hd : d.size = n) (w : World) (hH : Holds encV w blk off d) (hb : blk < w.heap.size) :
    Calls Tryz.prog 80 #[.slice (some ⟨blk, off, none⟩) n cap] w fun e w' => e = .returned (.tuple #[]) ∧ ∃ d', PermIn 0 n d d' ∧ SortedIn (ltV false) 0 n d' ∧ SI encV w blk off d' w' := by
  by_cases h2 : 2 ≤ n
  · have h := insertionSort_holds (swo_ltV false) d 0 n (Nat.zero_le _) (by omega)
    exact (sorts_up blk off n cap h2 hn d hd w hH hb).mono fun _ _ ⟨he, hs⟩ => ⟨he, _, h.1, h.2, hs⟩
  · refine (sorts0_up _ n cap (by omega) w).mono fun _ _ ⟨he, hd0⟩ => ⟨he, d, permIn_refl d 0 n, fun i j _ h3 h4 => by omega, ?_⟩
    obtain ⟨q, rfl⟩ := hd0.out
    exact (SI.mk (World.grownBy.refl w (some blk)) hH hb).drewN q
theorem meth_pu (a : Option Addr) (n cap : Nat) : Meth 177 (.slice a n cap) 214 215 216 :=
  ⟨fun _ => by kernel_rfl, fun _ => by kernel_rfl, fun _ => by kernel_rfl, fun _ _ => by kernel_rfl, fun _ _ => by kernel_rfl, fun _ _ => by kernel_rfl⟩
theorem lenN_pu (a : Option Addr) (n cap : Nat) (w : World) : Calls Tryz.prog 214 #[.slice a n cap] w fun e w' => e = .returned (.int .i64 n) ∧ Drawn0 w w' := by
  go_enter Tryz.func214, Tryz.ntmps214
  go_wp2
  go_ret
  exact ⟨rfl, by repeat (first | exact Drawn0.refl _ | apply Drawn0.step)⟩
theorem sorts0_pu (a : Option Addr) (n cap : Nat) (hn : n ≤ 1) (w : World) : Calls Tryz.prog 77 #[.slice a n cap] w fun e w' => e = .returned (.tuple #[]) ∧ Drawn0 w w' := by
  have HS := Lib.hid (fun W => sort_tiny (meth_pu a n cap) n hn (lenN_pu a n cap) W)
  clear hn
  go_enter Tryz.func77, Tryz.ntmps77
  go_wp2_with (go_at_call 102; ((with_reducible refine (HS.out _).mono ?_); rintro e w5 ⟨rfl, ⟨q, rfl⟩⟩))
  go_end0
  exact ⟨rfl, by repeat (first | exact Drawn0.refl _ | apply Drawn0.step)⟩
theorem meth_pd (a : Option Addr) (n cap : Nat) : Meth 176 (.slice a n cap) 201 202 203 :=
  ⟨fun _ => by kernel_rfl, fun _ => by kernel_rfl, fun _ => by kernel_rfl, fun _ _ => by kernel_rfl, fun _ _ => by kernel_rfl, fun _ _ => by kernel_rfl⟩
theorem lenN_pd (a : Option Addr) (n cap : Nat) (w : World) : Calls Tryz.prog 201 #[.slice a n cap] w fun e w' => e = .returned (.int .i64 n) ∧ Drawn0 w w' := by
  go_enter Tryz.func201, Tryz.ntmps201
  go_wp2
  go_ret
  exact ⟨rfl, by repeat (first | exact Drawn0.refl _ | apply Drawn0.step)⟩
theorem sorts0_pd (a : Option Addr) (n cap : Nat) (hn : n ≤ 1) (w : World) : Calls Tryz.prog 76 #[.slice a n cap] w fun e w' => e = .returned (.tuple #[]) ∧ Drawn0 w w' := by
  have HS := Lib.hid (fun W => sort_tiny (meth_pd a n cap) n hn (lenN_pd a n cap) W)
  clear hn
  go_enter Tryz.func76, Tryz.ntmps76
  go_wp2_with (go_at_call 102; ((with_reducible refine (HS.out _).mono ?_); rintro e w5 ⟨rfl, ⟨q, rfl⟩⟩))
  go_end0
  exact ⟨rfl, by repeat (first | exact Drawn0.refl _ | apply Drawn0.step)⟩
end Go.Proofs.YtgoeiflddikihaaGreatDoor.Ver
end
