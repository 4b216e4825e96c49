/- Merged by program out of: SemJ, SemL. -/
import Derived.Test.YtgoeiflddikihaaGreatDoorCsoM20
import Derived.Test.YtgoeiflddikihaaGreatDoorCsoM3
import Derived.Test.YtgoeiflddikihaaGreatDoorCsoM13
import Derived.Deep.Cut
import Derived.Deep.CutRange
section
namespace Go.Proofs.YtgoeiflddikihaaGreatDoor.Ver
set_option linter.unusedSimpArgs false
set_option linter.unusedVariables false
open Go.RowKit Go.Proofs.YtgoeiflddikihaaGreatDoor.PFnVersion Go.Proofs.YtgoeiflddikihaaGreatDoorW.PrintWords Go.Proofs.YtgoeiflddikihaaGreatDoor.Mem Go.Proofs.YtgoeiflddikihaaGreatDoor.Dig
theorem mkB_list (l : List UInt8) : (mkB l).data.toList = l := rfl
theorem mkB_size (l : List UInt8) : (mkB l).size = l.length := by show l.toArray.size = _; rw [List.size_toArray]
theorem list_size (s : ByteArray) : s.data.toList.length = s.size := by rw [Array.length_toList]; rfl
theorem mkB_back (s : ByteArray) : mkB s.data.toList = s := (mkB_of rfl).symm
theorem qCutAt_len (c : UInt8) : ∀ l : List UInt8, (qCutAt c l).1.length ≤ l.length ∧ ∀ b, (qCutAt c l).2 = some b → b.length ≤ l.length
  | [] => ⟨by simp [qCutAt], fun b h => by simp [qCutAt] at h⟩
  | x :: r => by
    have ih := qCutAt_len c r
    unfold qCutAt
    split
    · exact ⟨by simp, fun b h => by simp at h; subst h; simp⟩
    · exact ⟨by simp; exact ih.1, fun b h => by have := ih.2 b h; simp; omega⟩
theorem vcut_none (s : ByteArray) (hs : s.size ≤ 140737488351232) (c : UInt8) {a : List UInt8} (h : qCutAt c s.data.toList = (a, none)) (W : World) :
    Calls Tryz.prog 71 #[.string s, .int .u8 (c.toNat : Int)] W fun e w' => e = .returned (.tuple #[.string s, .string (mkB []), .bool false]) ∧ Drawn0 W w' := by
  refine spec_verCut.calls (s.size + 1) s c.toNat s (mkB []) false W ?_
  have := cut_tells s hs c s.size 0 (Nat.zero_le _) (by omega) (s.size + 1) (by omega)
  rw [List.take_zero, List.drop_zero, h] at this
  exact this
theorem vcut_some (s : ByteArray) (hs : s.size ≤ 140737488351232) (c : UInt8) {a b : List UInt8} (h : qCutAt c s.data.toList = (a, some b)) (W : World) :
    Calls Tryz.prog 71 #[.string s, .int .u8 (c.toNat : Int)] W fun e w' => e = .returned (.tuple #[.string (mkB a), .string (mkB b), .bool true]) ∧ Drawn0 W w' := by
  refine spec_verCut.calls (s.size + 1) s c.toNat (mkB a) (mkB b) true W ?_
  have := cut_tells s hs c s.size 0 (Nat.zero_le _) (by omega) (s.size + 1) (by omega)
  rw [List.take_zero, List.drop_zero, h] at this
  exact this
theorem partsV_pos (c : UInt8) (s : ByteArray) : 0 < (partsV c s).length := by
  unfold partsV; rw [List.length_map]; exact List.length_pos_iff.2 (qSplitOn_ne _ _)
theorem vsplit_any (s : ByteArray) (hs : s.size ≤ 3000000000) (c : UInt8) (W : World) : Calls Tryz.prog 73 #[.string s, .int .u8 (c.toNat : Int)] W (SpEnd (partsV c s) W) := by
  refine (spec_verSplit.calls (s.size + 2) s c.toNat _ W (split_f s hs c _ (by omega))).mono ?_
  rintro e w' ⟨v, rfl, hr, hb⟩
  obtain ⟨g, cap, cells, rest, rfl, h1, h2, h3⟩ := strs_block hr (partsV_pos c s)
  exact ⟨g, cap, cells, rest, rfl, h1, h2, h3, hb⟩
theorem row_slice {w : World} {base n size : Nat} {e : TypeId} {v : Value} {xs : List Value} (h : w.ownsRow base e size v n xs) : ∃ A m c, v = .slice A m c := by
  obtain ⟨_, h⟩ := h
  rcases h with ⟨rfl, _⟩ | ⟨g, cap, _, rfl, _⟩
  · exact ⟨_, _, _, rfl⟩
  · exact ⟨_, _, _, rfl⟩
theorem vidents_any (s : ByteArray) (hs : s.size ≤ 2500000000) (W : World) : Calls Tryz.prog 72 #[.string s] W (IdEnd (qIdentsB s.data.toList) (partsV 46 s) W) := by
  obtain ⟨k, hk⟩ := idents_f s hs
  cases hq : qIdentsB s.data.toList with
  | true =>
    rw [hq, if_pos rfl] at hk
    refine (spec_verIdents.calls k s _ _ W hk).mono ?_
    rintro e w' ⟨v, rfl, hr, hb⟩
    obtain ⟨g, cap, cells, rest, rfl, h1, h2, h3⟩ := strs_block hr (partsV_pos 46 s)
    exact ⟨g, cap, cells, rest, rfl, h1, h2, h3, hb⟩
  | false =>
    rw [hq, if_neg (by decide)] at hk
    refine (spec_verIdents.calls k s _ _ W hk).mono ?_
    rintro e w' ⟨v, rfl, hr, hb⟩
    obtain ⟨_, inner, ho, _⟩ := hr
    obtain ⟨A, m, c, rfl⟩ := row_slice ho
    exact ⟨⟨A, m, c, rfl⟩, hb⟩
theorem vnumber_any (p : List UInt8) (hp : p.length ≤ 140737488351232) : ∃ n : Int, (∀ u, qNumB p = some u → n = (u : Int)) ∧ ∀ W, Calls Tryz.prog 74 #[.string (mkB p)] W fun e w' => e = .returned (.tuple #[.int .u64 n, .bool (qNumB p).isSome]) ∧ Drawn0 W w' := by
  obtain ⟨n, k, h1, h2⟩ := number_f (mkB p) (by rw [mkB_size]; exact hp)
  exact ⟨n, h2, fun W => spec_verNumber.calls k (mkB p) n _ W h1⟩
def RsEnd (q : Option (List Nat × List UInt8 × List UInt8)) (w : World) (e : Ending) (w' : World) : Prop := match q with
  | none => RdNo w e w'
  | some (ns, pre, mt) => RdYes (ns.getD 0 0 : Nat) (ns.getD 1 0 : Nat) (ns.getD 2 0 : Nat) ns.length (mkB mt) ((preParts pre).map mkB) w e w'
theorem read_nums (s x1 x2 mt pre : ByteArray) (hs : s.size ≤ 2200000000) (has1 ok1 has2 ok2 : Bool) (hg1 : (has1 && !ok1) = false) (hg2 : (has2 && !ok2) = false) (pp : List ByteArray) (hpp : has2 = false → pp = []) (hx : x2.size ≤ 2200000000)
    (HC1 : ∀ W, Calls Tryz.prog 71 #[.string (mkB (bare0 s.data.toList)), .int .u8 43] W fun e w' => e = .returned (.tuple #[.string x1, .string mt, .bool has1]) ∧ Drawn0 W w')
    (HI1 : ∀ W, Calls Tryz.prog 72 #[.string mt] W (IdW ok1 W))
    (HC2 : ∀ W, Calls Tryz.prog 71 #[.string x1, .int .u8 45] W fun e w' => e = .returned (.tuple #[.string x2, .string pre, .bool has2]) ∧ Drawn0 W w')
    (HI2 : ∀ W, Calls Tryz.prog 72 #[.string pre] W (IdEnd ok2 pp W)) (w : World) :
    Calls Tryz.prog 34 #[.string s] w (match (if 3 < (qSplitOn 46 x2.data.toList).length then none else qNumsB (qSplitOn 46 x2.data.toList)) with
      | none => RdNo w
      | some ns => RdYes (ns.getD 0 0 : Nat) (ns.getD 1 0 : Nat) (ns.getD 2 0 : Nat) ns.length mt pp w) := by
  have hs1 : ∀ r : ByteArray, r.data.toList = bare0 s.data.toList → r = mkB (bare0 s.data.toList) := fun r h => mkB_of h
  have HS := fun W => vsplit_any x2 (by omega) 46 W
  have hlen : ∀ y ∈ qSplitOn 46 x2.data.toList, y.length ≤ 140737488351232 := fun y hy => by
    have h1 := parts_size 46 x2.data.toList y hy
    rw [list_size] at h1; omega
  unfold partsV at HS
  have hne := qSplitOn_ne 46 x2.data.toList
  generalize qSplitOn 46 x2.data.toList = Q at HS hlen hne ⊢
  rcases Q with _ | ⟨p, _ | ⟨q, _ | ⟨r, _ | ⟨t, u⟩⟩⟩⟩
  · exact absurd rfl hne
  · skip
    obtain ⟨n0, h0, HN0⟩ := vnumber_any p (hlen p (by simp))
    have H := rs_n1 s _ x1 mt hs1 x2 pre pp (mkB p) has1 ok1 has2 ok2 hg1 hg2 hpp HC1 HI1 HC2 HI2 HS n0 _ HN0 w
    rw [if_neg (by simp)]
    simp only [qNumsB]
    cases e0 : qNumB p with
    | none =>
      simp only [e0, Option.isSome_none, Option.isSome_some, Bool.true_and, Bool.false_and, Bool.and_true, Bool.and_false] at H
      exact H
    | some u0 =>
      obtain rfl := h0 u0 e0
      simp only [e0, Option.isSome_some, Bool.and_true] at H
      exact H
  · skip
    obtain ⟨n0, h0, HN0⟩ := vnumber_any p (hlen p (by simp))
    obtain ⟨n1, h1, HN1⟩ := vnumber_any q (hlen q (by simp))
    have H := rs_n2 s _ x1 mt hs1 x2 pre pp (mkB p) (mkB q) has1 ok1 has2 ok2 hg1 hg2 hpp HC1 HI1 HC2 HI2 HS n0 _ HN0 n1 _ HN1 w
    rw [if_neg (by simp)]
    simp only [qNumsB]
    cases e0 : qNumB p with
    | none =>
      simp only [e0, Option.isSome_none, Option.isSome_some, Bool.true_and, Bool.false_and, Bool.and_true, Bool.and_false] at H
      exact H
    | some u0 =>
      obtain rfl := h0 u0 e0
      cases e1 : qNumB q with
      | none =>
        simp only [e0, e1, Option.isSome_none, Option.isSome_some, Bool.true_and, Bool.false_and, Bool.and_true, Bool.and_false] at H
        exact H
      | some u1 =>
        obtain rfl := h1 u1 e1
        simp only [e0, e1, Option.isSome_some, Bool.and_true] at H
        exact H
  · skip
    obtain ⟨n0, h0, HN0⟩ := vnumber_any p (hlen p (by simp))
    obtain ⟨n1, h1, HN1⟩ := vnumber_any q (hlen q (by simp))
    obtain ⟨n2, h2, HN2⟩ := vnumber_any r (hlen r (by simp))
    have H := rs_n3 s _ x1 mt hs1 x2 pre pp (mkB p) (mkB q) (mkB r) has1 ok1 has2 ok2 hg1 hg2 hpp HC1 HI1 HC2 HI2 HS n0 _ HN0 n1 _ HN1 n2 _ HN2 w
    rw [if_neg (by simp)]
    simp only [qNumsB]
    cases e0 : qNumB p with
    | none =>
      simp only [e0, Option.isSome_none, Option.isSome_some, Bool.true_and, Bool.false_and, Bool.and_true, Bool.and_false] at H
      exact H
    | some u0 =>
      obtain rfl := h0 u0 e0
      cases e1 : qNumB q with
      | none =>
        simp only [e0, e1, Option.isSome_none, Option.isSome_some, Bool.true_and, Bool.false_and, Bool.and_true, Bool.and_false] at H
        exact H
      | some u1 =>
        obtain rfl := h1 u1 e1
        cases e2 : qNumB r with
        | none =>
          simp only [e0, e1, e2, Option.isSome_none, Option.isSome_some, Bool.true_and, Bool.false_and, Bool.and_true, Bool.and_false] at H
          exact H
        | some u2 =>
          obtain rfl := h2 u2 e2
          simp only [e0, e1, e2, Option.isSome_some, Bool.and_true] at H
          exact H
  · rw [if_pos (by simp)]
    exact rs_n4 s _ x1 mt hs1 x2 pre pp (mkB p) (mkB q) (mkB r) (mkB t) (u.map mkB) has1 ok1 has2 ok2 hg1 hg2 hpp HC1 HI1 HC2 HI2 HS w
theorem bare0_len (l : List UInt8) : (bare0 l).length ≤ l.length := by
  cases l with
  | nil => exact Nat.le_refl _
  | cons c r =>
    simp only [bare0]
    split
    · simp
    · exact Nat.le_refl _
theorem read_sem (s : ByteArray) (hs : s.size ≤ 2200000000) (w : World) : Calls Tryz.prog 34 #[.string s] w (RsEnd (qSemB0 s.data.toList) w) := by
  have hs1 : ∀ r : ByteArray, r.data.toList = bare0 s.data.toList → r = mkB (bare0 s.data.toList) := fun r h => mkB_of h
  have hb := bare0_len s.data.toList
  rw [list_size] at hb
  unfold qSemB0
  simp only
  rcases e1 : qCutAt 43 (bare0 s.data.toList) with ⟨a1, om⟩
  have l1 := qCutAt_len 43 (bare0 s.data.toList)
  rw [e1] at l1
  -- what is behind +
  have key : ∀ (x1 mt : ByteArray) (has1 ok1 : Bool) (hg1 : (has1 && !ok1) = false) (hx1 : x1.data.toList = a1),
      (∀ W, Calls Tryz.prog 71 #[.string (mkB (bare0 s.data.toList)), .int .u8 43] W fun e w' => e = .returned (.tuple #[.string x1, .string mt, .bool has1]) ∧ Drawn0 W w') →
      (∀ W, Calls Tryz.prog 72 #[.string mt] W (IdW ok1 W)) →
      Calls Tryz.prog 34 #[.string s] w (RsEnd (match qOptB (qCutAt 45 a1).2 with
        | none => none
        | some pre => if 3 < (qSplitOn 46 (qCutAt 45 a1).1).length then none else match qNumsB (qSplitOn 46 (qCutAt 45 a1).1) with
          | none => none
          | some ns => some (ns, pre, mt.data.toList)) w) := by
    intro x1 mt has1 ok1 hg1 hx1 HC1 HI1
    have hl1 : x1.size ≤ 2200000000 := by have := list_size x1; rw [hx1] at this; have := l1.1; simp only at this; omega
    rcases e2 : qCutAt 45 a1 with ⟨a2, op⟩
    have l2 := qCutAt_len 45 a1
    rw [e2] at l2
    simp only at l2
    have hr : ∀ (ns : Option (List Nat)) (pp : List ByteArray) (pre : List UInt8), pp = (preParts pre).map mkB → (match ns with
        | none => RdNo w
        | some ns => RdYes (ns.getD 0 0 : Nat) (ns.getD 1 0 : Nat) (ns.getD 2 0 : Nat) ns.length mt pp w) = RsEnd (match ns with | none => none | some ns => some (ns, pre, mt.data.toList)) w := by
      intro ns pp pre hp
      subst hp
      cases ns with
      | none => rfl
      | some ns => show _ = RdYes _ _ _ _ (mkB mt.data.toList) _ w; rw [mkB_back]
    cases op with
    | none =>
      obtain ⟨h1, _⟩ := qCutAt_none e2
      subst h1
      have hq : qCutAt 45 x1.data.toList = (a2, none) := by rw [hx1]; exact e2
      have H := read_nums s x1 x1 mt (mkB []) hs has1 ok1 false false hg1 rfl [] (fun _ => rfl) hl1 HC1 HI1 (fun W => vcut_none x1 (by omega) 45 hq W) (fun W => (vidents_any (mkB []) (by rw [mkB_size]; simp) W).mono fun e w' h => by
        have : qIdentsB (mkB []).data.toList = false := by decide
        rw [this] at h; exact h) w
      rw [hx1, hr _ [] [] rfl] at H
      simp only [qOptB]
      refine H.mono fun e w' h => ?_
      split
      · rename_i h3; rw [if_pos h3] at h; exact h
      · rename_i h3; rw [if_neg h3] at h; exact h
    | some b =>
      have hq : qCutAt 45 x1.data.toList = (a2, some b) := by rw [hx1]; exact e2
      have hb2 := l2.2 b rfl
      have hbl : b.length ≤ 2200000000 := by have := list_size x1; rw [hx1] at this; omega
      have hal : a2.length ≤ 2200000000 := by have := list_size x1; rw [hx1] at this; have := l2.1; omega
      cases hi : qIdentsB b with
      | false =>
        simp only [qOptB, hi]
        exact rs_pre s _ x1 mt hs1 (mkB a2) (mkB b) (partsV 46 (mkB b)) has1 ok1 hg1 HC1 HI1 (fun W => vcut_some x1 (by omega) 45 hq W) (fun W => (vidents_any (mkB b) (by rw [mkB_size]; omega) W).mono fun e w' h => by
          rw [mkB_list, hi] at h; exact h) w
      | true =>
        have H := read_nums s x1 (mkB a2) mt (mkB b) hs has1 ok1 true true hg1 rfl (partsV 46 (mkB b)) (fun h => by cases h) (by rw [mkB_size]; exact hal) HC1 HI1 (fun W => vcut_some x1 (by omega) 45 hq W) (fun W => (vidents_any (mkB b) (by rw [mkB_size]; omega) W).mono fun e w' h => by
          rw [mkB_list, hi] at h; exact h) w
        have hne : b ≠ [] := by rintro rfl; exact absurd hi (by decide)
        rw [mkB_list, hr _ (partsV 46 (mkB b)) b (by unfold partsV preParts; rw [mkB_list, if_neg hne])] at H
        simp only [qOptB, hi, if_true]
        refine H.mono fun e w' h => ?_
        split
        · rename_i h3; rw [if_pos h3] at h; exact h
        · rename_i h3; rw [if_neg h3] at h; exact h
  cases om with
  | none =>
    obtain ⟨h1, _⟩ := qCutAt_none e1
    have H := key (mkB (bare0 s.data.toList)) (mkB []) false false rfl (by rw [mkB_list]; exact h1.symm) (fun W => vcut_none (mkB (bare0 s.data.toList)) (by rw [mkB_size]; omega) 43 e1 W) (fun W => (vidents_any (mkB []) (by rw [mkB_size]; simp) W).mono fun e w' h => by
      have : qIdentsB (mkB []).data.toList = false := by decide
      rw [this] at h; exact h.weak)
    exact H
  | some m =>
    have hml := l1.2 m rfl
    cases hi : qIdentsB m with
    | false =>
      simp only [qOptB, hi]
      exact rs_meta s _ (mkB a1) (mkB m) hs1 (fun W => vcut_some (mkB (bare0 s.data.toList)) (by rw [mkB_size]; omega) 43 e1 W) (fun W => (vidents_any (mkB m) (by rw [mkB_size]; omega) W).mono fun e w' h => by
        rw [mkB_list, hi] at h; exact h.weak) w
    | true =>
      have H := key (mkB a1) (mkB m) true true rfl rfl (fun W => vcut_some (mkB (bare0 s.data.toList)) (by rw [mkB_size]; omega) 43 e1 W) (fun W => (vidents_any (mkB m) (by rw [mkB_size]; omega) W).mono fun e w' h => by
        rw [mkB_list, hi] at h; exact h.weak)
      simp only [qOptB, hi, if_true]
      exact H
end Go.Proofs.YtgoeiflddikihaaGreatDoor.Ver
end
section
namespace Go.Proofs.YtgoeiflddikihaaGreatDoor.Ver
set_option linter.unusedSimpArgs false
set_option linter.unusedVariables false
open Go.RowKit Go.Proofs.YtgoeiflddikihaaGreatDoor.Dig Go.Proofs.YtgoeiflddikihaaGreatDoorW.PrintWords Go.Proofs.YtgoeiflddikihaaGreatDoor.Mem
theorem ver3 (t : ByteArray) : verV 3 t ⟨#[]⟩ = .un (newV t) := by
  unfold verV unpV
  rw [if_neg (by decide), if_neg (by decide), if_pos rfl]
  simp
end Go.Proofs.YtgoeiflddikihaaGreatDoor.Ver
end
