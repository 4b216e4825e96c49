/- Merged by program out of: RgI, SemJ, RgJ. -/
import Derived.Test.YtgoeiflddikihaaGreatDoorCsgM18
import Derived.Test.YtgoeiflddikihaaGreatDoorCsgM20
import Derived.Test.YtgoeiflddikihaaGreatDoorCsgM23
import Derived.Test.YtgoeiflddikihaaGreatDoorCsgM24
import Derived.Test.YtgoeiflddikihaaGreatDoorCsgM3
import Derived.Test.YtgoeiflddikihaaGreatDoorCsgM13
section
namespace Go.Proofs.YtgoeiflddikihaaGreatDoor.Ver
set_option linter.unusedSimpArgs false
set_option linter.unusedVariables false
open Go.RowKit Go.Proofs.YtgoeiflddikihaaGreatDoorW.PrintWords Go.Proofs.YtgoeiflddikihaaGreatDoor.Mem Go.Proofs.YtgoeiflddikihaaGreatDoor.Ord
def keepE (acc : List PD) (b : PD) : List PD := if emptyD b then acc else acc ++ [b]
def meetP (p : PD) : List PD → List PD → List PD
  | acc, [] => acc
  | acc, q :: m => meetP p (keepE acc (bothD p q)) m
def meetL (m : List PD) : List PD → List PD → List PD
  | acc, [] => acc
  | acc, p :: l => meetL m (meetP p acc m) l
def isectD (l : List PD) (c : CnD) : CnD := match c with
  | .ver u => isectV u (.rng l)
  | .rng m => .rng (meetL m [] l)
theorem keepE_len (acc : List PD) (b : PD) : (keepE acc b).length ≤ acc.length + 1 := by unfold keepE; split <;> simp
theorem meetP_len (p : PD) : ∀ (m acc : List PD), (meetP p acc m).length ≤ acc.length + m.length
  | [], acc => Nat.le_refl _
  | q :: m, acc => by
    have h1 := meetP_len p m (keepE acc (bothD p q))
    have h2 := keepE_len acc (bothD p q)
    rw [meetP, List.length_cons]; omega
theorem keepE_ok {acc : List PD} {b : PD} (h : RngOk acc) (hb : PDok b) : RngOk (keepE acc b) := by
  unfold keepE; split
  · exact h
  · intro x hx
    rcases List.mem_append.1 hx with hx | hx
    · exact h x hx
    · rw [List.mem_singleton.1 hx]; exact hb
theorem meetP_ok {p : PD} (hp : PDok p) : ∀ {m acc : List PD}, RngOk acc → RngOk m → RngOk (meetP p acc m)
  | [], acc, h, _ => h
  | q :: m, acc, h, hm => by
    rw [meetP]
    exact meetP_ok hp (keepE_ok h (bothD_ok hp (hm q List.mem_cons_self))) (fun x hx => hm x (List.mem_cons_of_mem _ hx))
theorem meetL_ok {m : List PD} (hm : RngOk m) : ∀ {l acc : List PD}, RngOk acc → RngOk l → RngOk (meetL m acc l)
  | [], acc, h, _ => h
  | p :: l, acc, h, hl => by
    rw [meetL]
    exact meetL_ok hm (meetP_ok (hl p List.mem_cons_self) h hm) (fun x hx => hl x (List.mem_cons_of_mem _ hx))
inductive PRepB : List Value → List PD → List Blk → Prop
  | nil : PRepB [] [] []
  | snoc {xs : List Value} {l : List PD} {Z : List Blk} {p : PD} {bv : Value} {X : List Blk} (h : PRepB xs l Z) (k : SlB 197 6 p.but.length (flatV p.but) bv X) : PRepB (xs ++ pcl p bv) (l ++ [p]) (Z ++ X)
theorem PRepB.rep {xs : List Value} {l : List PD} {Z L : List Blk} {w0 w : World} (h : PRepB xs l Z) (H : Blks w0 w L) (hs : ∀ x ∈ Z, x ∈ L) : PRep w w0.heap.size xs l := by
  induction h with
  | nil => exact PRep.nil
  | snoc h k ih => exact (ih (fun x hx => hs x (List.mem_append_left _ hx))).snoc (k.owns H (fun x hx => hs x (List.mem_append_right _ hx)))
theorem PRepB.len {xs : List Value} {l : List PD} {Z : List Blk} (h : PRepB xs l Z) : xs.length = l.length * 17 := by
  induction h with
  | nil => rfl
  | snoc _ _ ih => rw [List.length_append, List.length_append, ih, pcl_len, List.length_singleton]; omega
theorem perm_in {B Z X Y : List Blk} : (B ++ (Z ++ X) ++ Y).Perm (B ++ (Z ++ Y ++ X)) := by
  rw [List.append_assoc, List.append_assoc, List.append_assoc]
  exact (List.Perm.append_left _ (List.Perm.append_left _ List.perm_append_comm))
end Go.Proofs.YtgoeiflddikihaaGreatDoor.Ver
end
section
namespace Go.Proofs.YtgoeiflddikihaaGreatDoor.Ver
set_option linter.unusedSimpArgs false
set_option linter.unusedVariables false
open Go.RowKit Go.Proofs.YtgoeiflddikihaaGreatDoor.PFnVersion Go.Proofs.YtgoeiflddikihaaGreatDoorW.PrintWords Go.Proofs.YtgoeiflddikihaaGreatDoor.Mem Go.Proofs.YtgoeiflddikihaaGreatDoor.Dig
theorem mkB_list (l : List UInt8) : (mkB l).data.toList = l := rfl
theorem mkB_size (l : List UInt8) : (mkB l).size = l.length := by show l.toArray.size = _; rw [List.size_toArray]
theorem list_size (s : ByteArray) : s.data.toList.length = s.size := by rw [Array.length_toList]; rfl
theorem mkB_back (s : ByteArray) : mkB s.data.toList = s := (mkB_of rfl).symm
theorem qCutAt_len (c : UInt8) : ∀ l : List UInt8, (qCutAt c l).1.length ≤ l.length ∧ ∀ b, (qCutAt c l).2 = some b → b.length ≤ l.length
  | [] => ⟨by simp [qCutAt], fun b h => by simp [qCutAt] at h⟩
  | x :: r => by
    have ih := qCutAt_len c r
    unfold qCutAt
    split
    · exact ⟨by simp, fun b h => by simp at h; subst h; simp⟩
    · exact ⟨by simp; exact ih.1, fun b h => by have := ih.2 b h; simp; omega⟩
theorem vcut_none (s : ByteArray) (hs : s.size ≤ 140737488351232) (c : UInt8) {a : List UInt8} (h : qCutAt c s.data.toList = (a, none)) (W : World) :
    Calls Tryz.prog 71 #[.string s, .int .u8 (c.toNat : Int)] W fun e w' => e = .returned (.tuple #[.string s, .string (mkB []), .bool false]) ∧ Drawn0 W w' := by
  refine spec_verCut.calls (s.size + 1) s c.toNat s (mkB []) false W ?_
  have := cut_tells s hs c s.size 0 (Nat.zero_le _) (by omega) (s.size + 1) (by omega)
  rw [List.take_zero, List.drop_zero, h] at this
  exact this
theorem vcut_some (s : ByteArray) (hs : s.size ≤ 140737488351232) (c : UInt8) {a b : List UInt8} (h : qCutAt c s.data.toList = (a, some b)) (W : World) :
    Calls Tryz.prog 71 #[.string s, .int .u8 (c.toNat : Int)] W fun e w' => e = .returned (.tuple #[.string (mkB a), .string (mkB b), .bool true]) ∧ Drawn0 W w' := by
  refine spec_verCut.calls (s.size + 1) s c.toNat (mkB a) (mkB b) true W ?_
  have := cut_tells s hs c s.size 0 (Nat.zero_le _) (by omega) (s.size + 1) (by omega)
  rw [List.take_zero, List.drop_zero, h] at this
  exact this
theorem partsV_pos (c : UInt8) (s : ByteArray) : 0 < (partsV c s).length := by
  unfold partsV; rw [List.length_map]; exact List.length_pos_iff.2 (qSplitOn_ne _ _)
theorem vsplit_any (s : ByteArray) (hs : s.size ≤ 3000000000) (c : UInt8) (W : World) : Calls Tryz.prog 73 #[.string s, .int .u8 (c.toNat : Int)] W (SpEnd (partsV c s) W) := by
  refine (spec_verSplit.calls (s.size + 2) s c.toNat _ W (split_f s hs c _ (by omega))).mono ?_
  rintro e w' ⟨v, rfl, hr, hb⟩
  obtain ⟨g, cap, cells, rest, rfl, h1, h2, h3⟩ := strs_block hr (partsV_pos c s)
  exact ⟨g, cap, cells, rest, rfl, h1, h2, h3, hb⟩
theorem row_slice {w : World} {base n size : Nat} {e : TypeId} {v : Value} {xs : List Value} (h : w.ownsRow base e size v n xs) : ∃ A m c, v = .slice A m c := by
  obtain ⟨_, h⟩ := h
  rcases h with ⟨rfl, _⟩ | ⟨g, cap, _, rfl, _⟩
  · exact ⟨_, _, _, rfl⟩
  · exact ⟨_, _, _, rfl⟩
theorem vidents_any (s : ByteArray) (hs : s.size ≤ 2500000000) (W : World) : Calls Tryz.prog 72 #[.string s] W (IdEnd (qIdentsB s.data.toList) (partsV 46 s) W) := by
  obtain ⟨k, hk⟩ := idents_f s hs
  cases hq : qIdentsB s.data.toList with
  | true =>
    rw [hq, if_pos rfl] at hk
    refine (spec_verIdents.calls k s _ _ W hk).mono ?_
    rintro e w' ⟨v, rfl, hr, hb⟩
    obtain ⟨g, cap, cells, rest, rfl, h1, h2, h3⟩ := strs_block hr (partsV_pos 46 s)
    exact ⟨g, cap, cells, rest, rfl, h1, h2, h3, hb⟩
  | false =>
    rw [hq, if_neg (by decide)] at hk
    refine (spec_verIdents.calls k s _ _ W hk).mono ?_
    rintro e w' ⟨v, rfl, hr, hb⟩
    obtain ⟨_, inner, ho, _⟩ := hr
    obtain ⟨A, m, c, rfl⟩ := row_slice ho
    exact ⟨⟨A, m, c, rfl⟩, hb⟩
theorem vnumber_any (p : List UInt8) (hp : p.length ≤ 140737488351232) : ∃ n : Int, (∀ u, qNumB p = some u → n = (u : Int)) ∧ ∀ W, Calls Tryz.prog 74 #[.string (mkB p)] W fun e w' => e = .returned (.tuple #[.int .u64 n, .bool (qNumB p).isSome]) ∧ Drawn0 W w' := by
  obtain ⟨n, k, h1, h2⟩ := number_f (mkB p) (by rw [mkB_size]; exact hp)
  exact ⟨n, h2, fun W => spec_verNumber.calls k (mkB p) n _ W h1⟩
def RsEnd (q : Option (List Nat × List UInt8 × List UInt8)) (w : World) (e : Ending) (w' : World) : Prop := match q with
  | none => RdNo w e w'
  | some (ns, pre, mt) => RdYes (ns.getD 0 0 : Nat) (ns.getD 1 0 : Nat) (ns.getD 2 0 : Nat) ns.length (mkB mt) ((preParts pre).map mkB) w e w'
theorem read_nums (s x1 x2 mt pre : ByteArray) (hs : s.size ≤ 2200000000) (has1 ok1 has2 ok2 : Bool) (hg1 : (has1 && !ok1) = false) (hg2 : (has2 && !ok2) = false) (pp : List ByteArray) (hpp : has2 = false → pp = []) (hx : x2.size ≤ 2200000000)
    (HC1 : ∀ W, Calls Tryz.prog 71 #[.string (mkB (bare0 s.data.toList)), .int .u8 43] W fun e w' => e = .returned (.tuple #[.string x1, .string mt, .bool has1]) ∧ Drawn0 W w')
    (HI1 : ∀ W, Calls Tryz.prog 72 #[.string mt] W (IdW ok1 W))
    (HC2 : ∀ W, Calls Tryz.prog 71 #[.string x1, .int .u8 45] W fun e w' => e = .returned (.tuple #[.string x2, .string pre, .bool has2]) ∧ Drawn0 W w')
    (HI2 : ∀ W, Calls Tryz.prog 72 #[.string pre] W (IdEnd ok2 pp W)) (w : World) :
    Calls Tryz.prog 34 #[.string s] w (match (if 3 < (qSplitOn 46 x2.data.toList).length then none else qNumsB (qSplitOn 46 x2.data.toList)) with
      | none => RdNo w
      | some ns => RdYes (ns.getD 0 0 : Nat) (ns.getD 1 0 : Nat) (ns.getD 2 0 : Nat) ns.length mt pp w) := by
  have hs1 : ∀ r : ByteArray, r.data.toList = bare0 s.data.toList → r = mkB (bare0 s.data.toList) := fun r h => mkB_of h
  have HS := fun W => vsplit_any x2 (by omega) 46 W
  have hlen : ∀ y ∈ qSplitOn 46 x2.data.toList, y.length ≤ 140737488351232 := fun y hy => by
    have h1 := parts_size 46 x2.data.toList y hy
    rw [list_size] at h1; omega
  unfold partsV at HS
  have hne := qSplitOn_ne 46 x2.data.toList
  generalize qSplitOn 46 x2.data.toList = Q at HS hlen hne ⊢
  rcases Q with _ | ⟨p, _ | ⟨q, _ | ⟨r, _ | ⟨t, u⟩⟩⟩⟩
  · exact absurd rfl hne
  · skip
    obtain ⟨n0, h0, HN0⟩ := vnumber_any p (hlen p (by simp))
    have H := rs_n1 s _ x1 mt hs1 x2 pre pp (mkB p) has1 ok1 has2 ok2 hg1 hg2 hpp HC1 HI1 HC2 HI2 HS n0 _ HN0 w
    rw [if_neg (by simp)]
    simp only [qNumsB]
    cases e0 : qNumB p with
    | none =>
      simp only [e0, Option.isSome_none, Option.isSome_some, Bool.true_and, Bool.false_and, Bool.and_true, Bool.and_false] at H
      exact H
    | some u0 =>
      obtain rfl := h0 u0 e0
      simp only [e0, Option.isSome_some, Bool.and_true] at H
      exact H
  · skip
    obtain ⟨n0, h0, HN0⟩ := vnumber_any p (hlen p (by simp))
    obtain ⟨n1, h1, HN1⟩ := vnumber_any q (hlen q (by simp))
    have H := rs_n2 s _ x1 mt hs1 x2 pre pp (mkB p) (mkB q) has1 ok1 has2 ok2 hg1 hg2 hpp HC1 HI1 HC2 HI2 HS n0 _ HN0 n1 _ HN1 w
    rw [if_neg (by simp)]
    simp only [qNumsB]
    cases e0 : qNumB p with
    | none =>
      simp only [e0, Option.isSome_none, Option.isSome_some, Bool.true_and, Bool.false_and, Bool.and_true, Bool.and_false] at H
      exact H
    | some u0 =>
      obtain rfl := h0 u0 e0
      cases e1 : qNumB q with
      | none =>
        simp only [e0, e1, Option.isSome_none, Option.isSome_some, Bool.true_and, Bool.false_and, Bool.and_true, Bool.and_false] at H
        exact H
      | some u1 =>
        obtain rfl := h1 u1 e1
        simp only [e0, e1, Option.isSome_some, Bool.and_true] at H
        exact H
  · skip
    obtain ⟨n0, h0, HN0⟩ := vnumber_any p (hlen p (by simp))
    obtain ⟨n1, h1, HN1⟩ := vnumber_any q (hlen q (by simp))
    obtain ⟨n2, h2, HN2⟩ := vnumber_any r (hlen r (by simp))
    have H := rs_n3 s _ x1 mt hs1 x2 pre pp (mkB p) (mkB q) (mkB r) has1 ok1 has2 ok2 hg1 hg2 hpp HC1 HI1 HC2 HI2 HS n0 _ HN0 n1 _ HN1 n2 _ HN2 w
    rw [if_neg (by simp)]
    simp only [qNumsB]
    cases e0 : qNumB p with
    | none =>
      simp only [e0, Option.isSome_none, Option.isSome_some, Bool.true_and, Bool.false_and, Bool.and_true, Bool.and_false] at H
      exact H
    | some u0 =>
      obtain rfl := h0 u0 e0
      cases e1 : qNumB q with
      | none =>
        simp only [e0, e1, Option.isSome_none, Option.isSome_some, Bool.true_and, Bool.false_and, Bool.and_true, Bool.and_false] at H
        exact H
      | some u1 =>
        obtain rfl := h1 u1 e1
        cases e2 : qNumB r with
        | none =>
          simp only [e0, e1, e2, Option.isSome_none, Option.isSome_some, Bool.true_and, Bool.false_and, Bool.and_true, Bool.and_false] at H
          exact H
        | some u2 =>
          obtain rfl := h2 u2 e2
          simp only [e0, e1, e2, Option.isSome_some, Bool.and_true] at H
          exact H
  · rw [if_pos (by simp)]
    exact rs_n4 s _ x1 mt hs1 x2 pre pp (mkB p) (mkB q) (mkB r) (mkB t) (u.map mkB) has1 ok1 has2 ok2 hg1 hg2 hpp HC1 HI1 HC2 HI2 HS w
theorem bare0_len (l : List UInt8) : (bare0 l).length ≤ l.length := by
  cases l with
  | nil => exact Nat.le_refl _
  | cons c r =>
    simp only [bare0]
    split
    · simp
    · exact Nat.le_refl _
theorem read_sem (s : ByteArray) (hs : s.size ≤ 2200000000) (w : World) : Calls Tryz.prog 34 #[.string s] w (RsEnd (qSemB0 s.data.toList) w) := by
  have hs1 : ∀ r : ByteArray, r.data.toList = bare0 s.data.toList → r = mkB (bare0 s.data.toList) := fun r h => mkB_of h
  have hb := bare0_len s.data.toList
  rw [list_size] at hb
  unfold qSemB0
  simp only
  rcases e1 : qCutAt 43 (bare0 s.data.toList) with ⟨a1, om⟩
  have l1 := qCutAt_len 43 (bare0 s.data.toList)
  rw [e1] at l1
  -- what is behind +
  have key : ∀ (x1 mt : ByteArray) (has1 ok1 : Bool) (hg1 : (has1 && !ok1) = false) (hx1 : x1.data.toList = a1),
      (∀ W, Calls Tryz.prog 71 #[.string (mkB (bare0 s.data.toList)), .int .u8 43] W fun e w' => e = .returned (.tuple #[.string x1, .string mt, .bool has1]) ∧ Drawn0 W w') →
      (∀ W, Calls Tryz.prog 72 #[.string mt] W (IdW ok1 W)) →
      Calls Tryz.prog 34 #[.string s] w (RsEnd (match qOptB (qCutAt 45 a1).2 with
        | none => none
        | some pre => if 3 < (qSplitOn 46 (qCutAt 45 a1).1).length then none else match qNumsB (qSplitOn 46 (qCutAt 45 a1).1) with
          | none => none
          | some ns => some (ns, pre, mt.data.toList)) w) := by
    intro x1 mt has1 ok1 hg1 hx1 HC1 HI1
    have hl1 : x1.size ≤ 2200000000 := by have := list_size x1; rw [hx1] at this; have := l1.1; simp only at this; omega
    rcases e2 : qCutAt 45 a1 with ⟨a2, op⟩
    have l2 := qCutAt_len 45 a1
    rw [e2] at l2
    simp only at l2
    have hr : ∀ (ns : Option (List Nat)) (pp : List ByteArray) (pre : List UInt8), pp = (preParts pre).map mkB → (match ns with
        | none => RdNo w
        | some ns => RdYes (ns.getD 0 0 : Nat) (ns.getD 1 0 : Nat) (ns.getD 2 0 : Nat) ns.length mt pp w) = RsEnd (match ns with | none => none | some ns => some (ns, pre, mt.data.toList)) w := by
      intro ns pp pre hp
      subst hp
      cases ns with
      | none => rfl
      | some ns => show _ = RdYes _ _ _ _ (mkB mt.data.toList) _ w; rw [mkB_back]
    cases op with
    | none =>
      obtain ⟨h1, _⟩ := qCutAt_none e2
      subst h1
      have hq : qCutAt 45 x1.data.toList = (a2, none) := by rw [hx1]; exact e2
      have H := read_nums s x1 x1 mt (mkB []) hs has1 ok1 false false hg1 rfl [] (fun _ => rfl) hl1 HC1 HI1 (fun W => vcut_none x1 (by omega) 45 hq W) (fun W => (vidents_any (mkB []) (by rw [mkB_size]; simp) W).mono fun e w' h => by
        have : qIdentsB (mkB []).data.toList = false := by decide
        rw [this] at h; exact h) w
      rw [hx1, hr _ [] [] rfl] at H
      simp only [qOptB]
      refine H.mono fun e w' h => ?_
      split
      · rename_i h3; rw [if_pos h3] at h; exact h
      · rename_i h3; rw [if_neg h3] at h; exact h
    | some b =>
      have hq : qCutAt 45 x1.data.toList = (a2, some b) := by rw [hx1]; exact e2
      have hb2 := l2.2 b rfl
      have hbl : b.length ≤ 2200000000 := by have := list_size x1; rw [hx1] at this; omega
      have hal : a2.length ≤ 2200000000 := by have := list_size x1; rw [hx1] at this; have := l2.1; omega
      cases hi : qIdentsB b with
      | false =>
        simp only [qOptB, hi]
        exact rs_pre s _ x1 mt hs1 (mkB a2) (mkB b) (partsV 46 (mkB b)) has1 ok1 hg1 HC1 HI1 (fun W => vcut_some x1 (by omega) 45 hq W) (fun W => (vidents_any (mkB b) (by rw [mkB_size]; omega) W).mono fun e w' h => by
          rw [mkB_list, hi] at h; exact h) w
      | true =>
        have H := read_nums s x1 (mkB a2) mt (mkB b) hs has1 ok1 true true hg1 rfl (partsV 46 (mkB b)) (fun h => by cases h) (by rw [mkB_size]; exact hal) HC1 HI1 (fun W => vcut_some x1 (by omega) 45 hq W) (fun W => (vidents_any (mkB b) (by rw [mkB_size]; omega) W).mono fun e w' h => by
          rw [mkB_list, hi] at h; exact h) w
        have hne : b ≠ [] := by rintro rfl; exact absurd hi (by decide)
        rw [mkB_list, hr _ (partsV 46 (mkB b)) b (by unfold partsV preParts; rw [mkB_list, if_neg hne])] at H
        simp only [qOptB, hi, if_true]
        refine H.mono fun e w' h => ?_
        split
        · rename_i h3; rw [if_pos h3] at h; exact h
        · rename_i h3; rw [if_neg h3] at h; exact h
  cases om with
  | none =>
    obtain ⟨h1, _⟩ := qCutAt_none e1
    have H := key (mkB (bare0 s.data.toList)) (mkB []) false false rfl (by rw [mkB_list]; exact h1.symm) (fun W => vcut_none (mkB (bare0 s.data.toList)) (by rw [mkB_size]; omega) 43 e1 W) (fun W => (vidents_any (mkB []) (by rw [mkB_size]; simp) W).mono fun e w' h => by
      have : qIdentsB (mkB []).data.toList = false := by decide
      rw [this] at h; exact h.weak)
    exact H
  | some m =>
    have hml := l1.2 m rfl
    cases hi : qIdentsB m with
    | false =>
      simp only [qOptB, hi]
      exact rs_meta s _ (mkB a1) (mkB m) hs1 (fun W => vcut_some (mkB (bare0 s.data.toList)) (by rw [mkB_size]; omega) 43 e1 W) (fun W => (vidents_any (mkB m) (by rw [mkB_size]; omega) W).mono fun e w' h => by
        rw [mkB_list, hi] at h; exact h.weak) w
    | true =>
      have H := key (mkB a1) (mkB m) true true rfl rfl (fun W => vcut_some (mkB (bare0 s.data.toList)) (by rw [mkB_size]; omega) 43 e1 W) (fun W => (vidents_any (mkB m) (by rw [mkB_size]; omega) W).mono fun e w' h => by
        rw [mkB_list, hi] at h; exact h.weak)
      simp only [qOptB, hi, if_true]
      exact H
end Go.Proofs.YtgoeiflddikihaaGreatDoor.Ver
end
section
namespace Go.Proofs.YtgoeiflddikihaaGreatDoor.Ver
set_option linter.unusedSimpArgs false
set_option linter.unusedVariables false
open Go.RowKit Go.Proofs.YtgoeiflddikihaaGreatDoorW.PrintWords Go.Proofs.YtgoeiflddikihaaGreatDoor.Mem Go.Proofs.YtgoeiflddikihaaGreatDoor.Ord
theorem sub_mid {Z X Y : List Blk} : (Z ++ X).Sublist (Z ++ Y ++ X) := by rw [List.append_assoc]; exact List.Sublist.append (List.Sublist.refl _) (List.sublist_append_right _ _)
theorem CnAt.rngI {w : World} {base : Nat} {rv : Value} {l : List PD} (h : RngAt w base rv l) : CnAt w base (.rng l) (.iface 238 (.agg #[rv])) := ⟨_, rfl, h⟩
def RngB (l : List PD) : Prop := ∀ p ∈ l, p.but.length ≤ 500000
set_option maxRecDepth 20000 in
set_option maxHeartbeats 8000000 in
theorem ri_ver (l : List PD) (hl : RngOk l) (rv : Value) (u : SV) (hu : SVok u) (w : World) (hr : RngAt w 0 rv l) : Calls Tryz.prog 295 #[.agg #[rv], .iface 197 (.agg u.cells)] w (CnEnd (isectV u (.rng l)) w) := by
  have HV := Lib.hid (fun W (h : CnAt W 0 (.rng l) (.iface 238 (.agg #[rv]))) => vi_any u hu (.rng l) hl _ W h)
  have HR := Lib.hid hr
  obtain ⟨A1, c1, rfl⟩ := hr.val
  have f1 := c_sv_sv
  have HM := Aside0.mk (Blks.start w)
  clear hl hu hr
  dsimp only [SV.cells] at HV ⊢
  go_enter Tryz.func295, Tryz.ntmps295
  go_wp2_with (first | ((with_reducible refine id_box ?_); (refine n_bx (x := .tmp 0) ?_; clear HM; intro b2 wq HM)) | (go_at_call 231; ((with_reducible refine (HV.out _ (CnAt.rngI (RngAt.below HR.out n_bel))).mono ?_); rintro e wc ⟨⟨xv, rfl, hxa⟩, hb⟩; have HXA := Aside0.mk (CnAt.mono hxa (Blks.bel n_own).size); clear hxa; replace HM := n_call hb; clear hb)) | ((with_reducible refine id_alloc ?_); (refine n_al ?_; clear HM; intro b5 wq HM)) | ((with_reducible refine id_store ?_); (refine n_st ?_; clear HM; intro wq HM)) | ((with_reducible refine id_load ?_); refine n_ld ?_))
  go_ret
  exact ⟨⟨_, rfl, HXA.out⟩, HM.out.bel⟩
set_option maxRecDepth 20000 in
set_option maxHeartbeats 16000000 in
theorem ri_rng (l m : List PD) (hl : RngOk l) (hm : RngOk m) (bl : RngB l) (bm : RngB m) (hlen : l.length * m.length ≤ 700000000000) (rv qv : Value) (w : World) (hr : RngAt w 0 rv l) (hq : RngAt w 0 qv m) :
    Calls Tryz.prog 295 #[.agg #[rv], .iface 238 (.agg #[qv])] w (CnEnd (.rng (meetL m [] l)) w) := by
  obtain ⟨A1, c1, rfl⟩ := hr.val
  obtain ⟨A2, c2, rfl⟩ := hq.val
  obtain ⟨xs1, hrow1, hrep1⟩ := hr
  obtain ⟨xs2, hrow2, hrep2⟩ := hq
  have hmx1 := (row_val hrow1).choose_spec.choose_spec.2
  have hmx2 := (row_val hrow2).choose_spec.choose_spec.2
  obtain ⟨N, hN⟩ : ∃ n, l.length = n := ⟨_, rfl⟩
  obtain ⟨M, hM⟩ : ∃ n, m.length = n := ⟨_, rfl⟩
  rw [hN] at hrow1 hmx1 hlen ⊢
  rw [hM] at hrow2 hmx2 hlen ⊢
  have HN := Lib.hid hN
  have HMM := Lib.hid hM
  have HX1 := Lib.hid hmx1
  have HX2 := Lib.hid hmx2
  have HR1 := Lib.hid hrow1
  have HR2 := Lib.hid hrow2
  have HP1 := Lib.hid hrep1
  have HP2 := Lib.hid hrep2
  have HL := Lib.hid hl
  have HMo := Lib.hid hm
  have HBL := Lib.hid bl
  have HBM := Lib.hid bm
  have HLEN := Lib.hid hlen
  have f1 := c_range_sv
  have f2 := c_range_range
  have HM := Aside0.mk (Blks.start w)
  clear hl hm bl bm hlen hrow1 hrow2 hrep1 hrep2 hmx1 hmx2 hN hM
  go_enter Tryz.func295, Tryz.ntmps295
  go_upto_region 7 with (first | ((with_reducible refine id_box ?_); (refine n_bx (x := .tmp 0) ?_; clear HM; intro b2 wq HM)) | ((with_reducible refine id_alloc ?_); (refine n_al ?_; clear HM; intro b6 wq HM)) | ((with_reducible refine id_store ?_); (refine n_st ?_; clear HM; intro wq HM)) | ((with_reducible refine id_load ?_); refine n_ld1 ?_))
  go_wp2_with (first | ((with_reducible refine id_alloc ?_); (refine n_al ?_; clear HM; intro b7 wq HM)) | ((with_reducible refine id_load ?_); refine n_ld1 ?_))
  go_loopw [27] (fun v27 wr => ∃ (k : Nat) (out : List PD) (xs : List Value) (vo : Value) (X Z : List Blk), v27 = .int .i64 (k : Int) ∧ k ≤ N ∧ Hid (meetL m out (l.drop k) = meetL m [] l) ∧ Hid (out.length ≤ k * M) ∧ Hid (PRepB xs out Z) ∧ Hid (SlB 242 17 out.length xs vo X) ∧ Aside0 (Blks w wr ((b7, [vo], 238) :: (b6, [.slice A2 M c2], 238) :: (b2, [.slice A1 N c1], 238) :: (Z ++ X)))) (fun v _ => N - (intOf v).toNat)
  case atStart => exact ⟨0, [], [], .slice none 0 0, [], [], rfl, Nat.zero_le _, Lib.hid rfl, Lib.hid (Nat.zero_le _), Lib.hid PRepB.nil, Lib.hid (SlB.nil _ _), ⟨n_own⟩⟩
  case round =>
    obtain ⟨k, out, xs, vo, X, Z, rfl, hk, HK, HLO, HPR, HSL, HM1⟩ := hrel
    clear HM
    have HM := HM1
    clear HM1
    obtain ⟨Ao, co, rfl, _⟩ := HSL.out.val
    by_cases hlt : k < N
    · have hb' : k < l.length := by have := HN.out; omega
      obtain ⟨g, cc, hg, hat⟩ := row_at (row_keep HR1.out HM.out.bel) hlt
      obtain ⟨bp, hpc, hbp⟩ := HP1.out.get k hb'
      rw [hpc] at hat
      obtain ⟨rfl, _, rfl⟩ := Value.slice.inj hg
      have HE := Lib.hid hat
      have HPO := Lib.hid (HL.out _ (List.getElem_mem hb'))
      have HPB := Lib.hid (HBL.out _ (List.getElem_mem hb'))
      have HBP := Lib.hid hbp
      have hkk := HK.out
      rw [List.drop_eq_getElem_cons hb', meetL] at hkk
      obtain ⟨Ab, cb, rfl, _⟩ := row_val hbp
      clear hat hg hpc hbp
      generalize l[k] = p at HE HPO HPB HBP hkk
      have HKK := Lib.hid hkk
      clear hkk
      dsimp only [pcl] at HE
      go_upto_region 11 with (first | ((with_reducible refine id_index ?_); refine m_index (x := .tmp 25) hlt rfl rfl ?_) | ((with_reducible refine id_load ?_); refine m_loadr (x := .tmp 29) HE.out rfl rfl ?_) | ((with_reducible refine id_alloc ?_); (refine n_al ?_; clear HM; intro b9 wq HM)) | ((with_reducible refine id_store ?_); (refine n_st ?_; clear HM; intro wq HM)))
      go_wp2_with (first | ((with_reducible refine id_load ?_); refine n_ld1 ?_))
      go_loopw [34] (fun v34 wr => ∃ (j : Nat) (ou : List PD) (xs : List Value) (vo : Value) (X Z : List Blk), v34 = .int .i64 (j : Int) ∧ j ≤ M ∧ Hid (meetP p ou (m.drop j) = meetP p out m) ∧ Hid (ou.length ≤ k * M + j) ∧ Hid (PRepB xs ou Z) ∧ Hid (SlB 242 17 ou.length xs vo X) ∧ Aside0 (Blks w wr ((b9, pcl p (.slice Ab p.but.length cb), 242) :: (b7, [vo], 238) :: (b6, [.slice A2 M c2], 238) :: (b2, [.slice (some ⟨g, 0, none⟩) N c1], 238) :: (Z ++ X)))) (fun v _ => M - (intOf v).toNat)
      case atStart => exact ⟨0, out, xs, .slice Ao out.length co, X, Z, rfl, Nat.zero_le _, Lib.hid rfl, HLO, HPR, HSL, ⟨n_own⟩⟩
      case round =>
        clear HM HPR HSL HLO HE HK
        obtain ⟨j, ou, xs, vo, X, Z, rfl, hj, HK, HLO, HPR, HSL, HM⟩ := hrel
        obtain ⟨Ao, co, rfl, _⟩ := HSL.out.val
        by_cases hlj : j < M
        · have hb' : j < m.length := by have := HMM.out; omega
          obtain ⟨g2, cc, hg, hat⟩ := row_at (row_keep HR2.out HM.out.bel) hlj
          obtain ⟨bq, hpc, hbq⟩ := HP2.out.get j hb'
          rw [hpc] at hat
          obtain ⟨rfl, _, rfl⟩ := Value.slice.inj hg
          have HE := Lib.hid hat
          have hqo := HMo.out _ (List.getElem_mem hb')
          have hqb := HBM.out _ (List.getElem_mem hb')
          have hkk := HK.out
          rw [List.drop_eq_getElem_cons hb', meetP] at hkk
          obtain ⟨Aq, cq, rfl, _⟩ := row_val hbq
          clear hat hg hpc
          generalize m[j] = q at HE hqo hqb hbq hkk
          have HBQ := Lib.hid hbq
          have HKK := Lib.hid hkk
          have HBO := Lib.hid (fun W (h1 : VsAt W 0 (.slice Ab p.but.length cb) p.but) (h2 : VsAt W 0 (.slice Aq q.but.length cq) q.but) => both_any p q HPO.out hqo _ _ W h1 h2 (by have := HPB.out; omega))
          have HEM := Lib.hid (fun W bv (h : VsAt W 0 bv (bothD p q).but) => empty_any (bothD p q) (bothD_ok HPO.out hqo) bv W h)
          clear hkk hqo hqb hbq
          dsimp only [pcl] at HE HBO HEM
          go_upto_region 14 with (first | ((with_reducible refine id_index ?_); refine m_index (x := .tmp 32) hlj rfl rfl ?_) | ((with_reducible refine id_load ?_); refine m_loadr (x := .tmp 36) HE.out rfl rfl ?_) | ((with_reducible refine id_alloc ?_); (refine n_al ?_; clear HM; intro b11 wq HM)) | ((with_reducible refine id_store ?_); (refine n_st ?_; clear HM; intro wq HM)))
          go_upto_region 15 with (first | ((with_reducible refine id_load ?_); refine n_ld ?_) | (go_at_call 298; ((with_reducible refine (HBO.out _ (row_keep HBP.out n_bel) (row_keep HBQ.out n_bel)).mono ?_); rintro e wc ⟨⟨bv, rfl, hva⟩, hb⟩; obtain ⟨XI, hxi, hbl⟩ := SlB.of n_own hb hva; obtain ⟨Av, cv, rfl, _⟩ := hxi.val; clear HM hb; have HM := Aside0.mk (hbl.perm (perm_in (B := [_, _, _, _, _]) (Z := Z) (X := X) (Y := XI))); simp only [List.cons_append, List.nil_append] at HM; have HXI := Lib.hid hxi; clear hbl hxi hva)) | ((with_reducible refine id_alloc ?_); (refine n_al ?_; clear HM; intro b12 wq HM)) | ((with_reducible refine id_store ?_); (refine n_st ?_; clear HM; intro wq HM)))
          have hbd : ou.length + 1 ≤ 700000000000 := by
            have h1 := HLO.out
            have h2 := HLEN.out
            have h3 : (k + 1) * M ≤ N * M := Nat.mul_le_mul_right _ hlt
            rw [Nat.succ_mul] at h3
            omega
          have HBD := Lib.hid hbd
          clear hbd
          have hke : keepE ou (bothD p q) = if emptyD (bothD p q) then ou else ou ++ [bothD p q] := rfl
          have hkk := HKK.out
          rw [hke] at hkk
          have HKE := Lib.hid hkk
          clear hke hkk HKK HE
          generalize emptyD (bothD p q) = eb at HEM HKE
          cases eb with
          | true =>
            go_wp2_with (first | ((with_reducible refine id_load ?_); refine n_ld ?_) | (go_at_call 299; ((with_reducible refine (HEM.out _ _ ((HXI.out.owns n_own (fun x hx => by simp [hx])).mono (Nat.zero_le _))).mono ?_); rintro e wc ⟨rfl, hb⟩; replace HM := n_call hb; clear hb)))
            refine ⟨⟨j + 1, ou, xs, _, X, Z, ?_, by omega, Lib.hid HKE.out, Lib.hid (by have := HLO.out; omega), HPR, HSL, ⟨Blks.less n_own (List.Sublist.cons _ (List.Sublist.cons _ (List.Sublist.cons_cons _ (List.Sublist.cons_cons _ (List.Sublist.cons_cons _ (List.Sublist.cons_cons _ sub_mid))))))⟩⟩, ?_⟩
            · rw [wrap_step hlj HX2.out]
            · rw [wrap_step hlj HX2.out]; exact meas_step hlj
          | false =>
            go_wp2_with (first | ((with_reducible refine id_load ?_); refine n_ld1 ?_) | ((with_reducible refine id_load ?_); refine n_ld ?_) | (go_at_call 299; ((with_reducible refine (HEM.out _ _ ((HXI.out.owns n_own (fun x hx => by simp [hx])).mono (Nat.zero_le _))).mono ?_); rintro e wc ⟨rfl, hb⟩; replace HM := n_call hb; clear hb)) | ((with_reducible refine id_slice ?_); (refine n_sl Tryz.underlying236 (by rw [Array.toList_map]; exact slice_one infoPc rfl (by decide) _ rfl) ?_; clear HM; intro bs wq HM)) | (at_builtin; (refine m_append (Y := _ :: _ :: _ :: _ :: _ :: _ :: _ :: (Z ++ XI)) (X := X) n_own rfl HSL.out Tryz.underlying236 infoPc (by decide) rfl rfl rfl (Src.ofSlice _ Tryz.underlying236 _ _ _ (pcl (bothD p q) (.slice Av (bothD p q).but.length cv)) rfl (Blks.addr (rest := []) HM.out n_mem) (pcl_one _ rfl)) (by have := HBD.out; omega) (by have := HBD.out; unfold maxLen; omega) ?_; intro v2 X2 w2 HN hk2; obtain ⟨A2', c2', rfl, _⟩ := hk2.out.val; clear HM; have HM := HN; clear HN; simp only [List.cons_append] at HM; have HA2 := hk2; clear hk2)) | ((with_reducible refine id_store ?_); (refine n_st1 ?_; clear HM; intro wq HM)))
            refine ⟨⟨j + 1, ou ++ [bothD p q], xs ++ pcl (bothD p q) (.slice Av (bothD p q).but.length cv), _, X2, Z ++ XI, ?_, by omega, Lib.hid HKE.out, Lib.hid (by have := HLO.out; rw [List.length_append, List.length_singleton]; omega), Lib.hid (PRepB.snoc HPR.out HXI.out), Lib.hid (by rw [List.length_append, List.length_singleton]; exact HA2.out), ⟨Blks.less n_own (List.Sublist.cons _ (List.Sublist.cons _ (List.Sublist.cons _ (List.Sublist.refl _))))⟩⟩, ?_⟩
            · rw [wrap_step hlj HX2.out]
            · rw [wrap_step hlj HX2.out]; exact meas_step hlj
        · have : j = M := by omega
          subst this
          have hk0 := HK.out
          rw [List.drop_of_length_le (by have := HMM.out; omega), meetP] at hk0
          subst hk0
          go_wp2_with fail
          refine ⟨⟨k + 1, _, xs, _, X, Z, ?_, by omega, HKK, Lib.hid (by have := HLO.out; rw [Nat.succ_mul]; exact this), HPR, HSL, ⟨Blks.drop n_own⟩⟩, ?_⟩
          · rw [wrap_step hlt HX1.out]
          · rw [wrap_step hlt HX1.out]; exact meas_step hlt
    · have : k = N := by omega
      subst this
      have hk0 := HK.out
      rw [List.drop_of_length_le (by have := HN.out; omega), meetL] at hk0
      subst hk0
      go_wp2_with (first | ((with_reducible refine id_load ?_); refine n_ld ?_))
      go_ret
      exact ⟨⟨_, rfl, ⟨_, rfl, ⟨xs, HSL.out.owns HM.out (fun x hx => by simp [hx]), HPR.out.rep HM.out (fun x hx => by simp [hx])⟩⟩⟩, HM.out.bel⟩
end Go.Proofs.YtgoeiflddikihaaGreatDoor.Ver
end
