/- Merged by program out of: SpecA, ConG. -/
import Derived.Test.YtgoeiflddikihaaGreatDoorCsgM10
import Derived.Test.YtgoeiflddikihaaGreatDoorCsgM8
import Derived.Test.YtgoeiflddikihaaGreatDoorCsgM3
section
namespace Go.Proofs.YtgoeiflddikihaaGreatDoor.Ver
set_option linter.unusedSimpArgs false
open Go.RowKit Go.Proofs.YtgoeiflddikihaaGreatDoor.PFnVersion Go.Proofs.YtgoeiflddikihaaGreatDoorW.PrintWords Go.Proofs.YtgoeiflddikihaaGreatDoor.Ord
theorem isDig_same : Ver.isDig = Ord.isDig := rfl
theorem vdigits_any (s : ByteArray) (hn : s.size ≤ 140737488351232) (w : World) : Calls Tryz.prog 100 #[.string s] w fun e w' => e = .returned (.bool (idNum s.data.toList)) ∧ Drawn0 w w' := by
  refine spec_verDigits.calls (s.size + 1) s _ w ?_
  have hd := digits_tells s hn s.size 0 (Nat.zero_le _) (by omega) (s.size + 1) (by omega)
  refine Eq.trans hd ?_
  congr 1
  unfold idNum
  rw [List.drop_zero]
  cases h : s.data.toList with
  | nil => have : s.data.toList.length = 0 := by rw [h]; rfl
           rw [Array.length_toList] at this; have h2 : s.data.size = s.size := rfl
           rw [decide_eq_false (by omega)]; rfl
  | cons c r => simp [isDig_same]
theorem amount_tells (d : Nat) : ∀ s : ByteArray, s.size ≤ d → s.size ≤ 140737488351232 → ∀ k, d < k → spec_verAmount.l0 k s = some (mkB (bareZ s.data.toList)) := by
  induction d with
  | zero =>
    intro s hs _ k hk
    obtain ⟨k, rfl⟩ : ∃ j, k = j + 1 := ⟨k - 1, by omega⟩
    rw [spec_verAmount.l0, if_neg (by omega)]
    have h : s.data.toList = [] := by
      cases h : s.data.toList with
      | nil => rfl
      | cons _ _ => have : s.data.toList.length = s.size := by rw [Array.length_toList]; rfl
                    rw [h] at this; simp at this; omega
    rw [h]; congr 1; exact mkB_of h
  | succ d ih =>
    intro s hs hn k hk
    obtain ⟨k, rfl⟩ : ∃ j, k = j + 1 := ⟨k - 1, by omega⟩
    have hl : s.data.toList.length = s.size := by rw [Array.length_toList]; rfl
    rw [spec_verAmount.l0]
    cases h : s.data.toList with
    | nil => rw [h] at hl; simp at hl; rw [if_neg (by omega)]; congr 1; rw [bareZ]; exact mkB_of h; intro _ _ _ hx; cases hx
    | cons c r =>
      cases r with
      | nil => rw [h] at hl; simp at hl; rw [if_neg (by omega)]; congr 1; rw [bareZ]; exact mkB_of h; intro _ _ _ hx; cases hx
      | cons e r =>
        rw [h] at hl; simp at hl
        have h0 : 0 < s.size := by omega
        have hb : bt s 0 = (c.toNat : Int) := by
          have h1 := bt_nat s 0 h0
          have h2 : s[0] = c := by
            have : s.data.toList[0]? = some c := by rw [h]; rfl
            have h3 : s.data.toList[0]? = some s[0] := by rw [List.getElem?_eq_getElem (by rw [Array.length_toList]; exact h0)]; rfl
            rw [h3] at this; exact Option.some.inj this
          rw [← h2]; exact h1
        rw [if_pos (by omega), if_pos (by omega)]
        by_cases hc : c = 48
        · subst hc
          rw [hb, if_pos (show (((48 : UInt8).toNat : Int)) = 48 from rfl), if_pos (by omega), bareZ, if_pos rfl]
          have hx : s.extract 1 s.size = mkB (e :: r) := mkB_of (by
            rw [drop_data, h]; rfl)
          have := ih (s.extract 1 s.size) (by rw [hx]; show (e :: r).toArray.size ≤ d; simp; omega) (by rw [hx]; show (e :: r).toArray.size ≤ _; simp; omega) k (by omega)
          rw [hx] at this
          rw [hx]
          exact this
        · rw [hb, if_neg (fun hh => hc (UInt8.toNat_inj.1 (by have : (48 : UInt8).toNat = 48 := rfl; omega))), bareZ, if_neg hc]
          congr 1; exact mkB_of h
theorem vamount_any (s : ByteArray) (hn : s.size ≤ 140737488351232) (w : World) : Calls Tryz.prog 125 #[.string s] w fun e w' => e = .returned (.string (mkB (bareZ s.data.toList))) ∧ Drawn0 w w' :=
  spec_verAmount.calls (s.size + 1) s _ w (amount_tells s.size s (Nat.le_refl _) hn (s.size + 1) (by omega))
theorem vsign_any (b : Bool) (w : World) : Calls Tryz.prog 105 #[.bool b] w fun e w' => e = .returned (.int .i64 (if b = true then -1 else 1)) ∧ Drawn0 w w' :=
  spec_verSign.calls b _ w (by unfold spec_verSign.f; cases b <;> rfl)
set_option maxHeartbeats 2000000 in
theorem vident_any (a b : ByteArray) (ha : a.size ≤ 140737488351232) (hb : b.size ≤ 140737488351232) (w : World) :
    Calls Tryz.prog 106 #[.string a, .string b] w fun e w' => e = .returned (.int .i64 (idC a.data.toList b.data.toList)) ∧ Drawn0 w w' := by
  have HD := Lib.hid (fun (s : ByteArray) (h : s.size ≤ 140737488351232) W => vdigits_any s h W)
  have HA := Lib.hid (fun (s : ByteArray) (h : s.size ≤ 140737488351232) W => vamount_any s h W)
  have HS := Lib.hid (fun b W => vsign_any b W)
  have key : ∀ x y : ByteArray, bytesC x.data.toList y.data.toList = if x.toList = y.toList then 0 else if Op.bytesLess x.toList y.toList = true then -1 else 1 := by
    intro x y
    rw [bytesC_form, ByteArray.toList_eq, ByteArray.toList_eq]
    by_cases h1 : Op.bytesLess x.data.toList y.data.toList = true
    · rw [if_pos h1, if_neg, if_pos h1]
      intro e
      have := (bytesC_less x.data.toList y.data.toList).2 h1
      rw [e, cmp_bytes.refl] at this; omega
    · rw [if_neg h1]; split <;> simp [h1, *]
  cases h1 : idNum a.data.toList <;> cases h2 : idNum b.data.toList
  · rw [idC_aa h1 h2, key]
    have H1 := Lib.hid h1
    have H2 := Lib.hid h2
    have HA0 := Lib.hid ha
    have HB0 := Lib.hid hb
    clear h1 h2 ha hb key
    by_cases he : a.toList = b.toList
    · have e1 : (a.toList == b.toList) = true := beq_iff_eq.2 he
      rw [if_pos he]
      clear he
      go_enter Tryz.func106, Tryz.ntmps106
      go_wp2_with (first | (go_at_call 100; ((with_reducible first | refine (HD.out a HA0.out _).mono ?_ | refine (HD.out b HB0.out _).mono ?_); rintro e w' ⟨rfl, ⟨nq, rfl⟩⟩; (first | rw [H1.out] | rw [H2.out]))) | (go_at_call 105; ((with_reducible refine (HS.out _ _).mono ?_); rintro e w' ⟨rfl, ⟨nq, rfl⟩⟩; simp only [if_true, if_false, Bool.false_eq_true, reduceCtorEq, ite_true, ite_false])))
      go_ret
      exact ⟨rfl, by repeat (first | exact Drawn0.refl _ | apply Drawn0.step)⟩
    · have e1 : (a.toList == b.toList) = false := beq_eq_false_iff_ne.2 he
      rw [if_neg he]
      clear he
      cases e2 : Op.bytesLess a.toList b.toList
      · rw [if_neg (by decide)]
        go_enter Tryz.func106, Tryz.ntmps106
        go_wp2_with (first | (go_at_call 100; ((with_reducible first | refine (HD.out a HA0.out _).mono ?_ | refine (HD.out b HB0.out _).mono ?_); rintro e w' ⟨rfl, ⟨nq, rfl⟩⟩; (first | rw [H1.out] | rw [H2.out]))) | (go_at_call 105; ((with_reducible refine (HS.out _ _).mono ?_); rintro e w' ⟨rfl, ⟨nq, rfl⟩⟩; simp only [if_true, if_false, Bool.false_eq_true, reduceCtorEq, ite_true, ite_false])))
        go_ret
        exact ⟨rfl, by repeat (first | exact Drawn0.refl _ | apply Drawn0.step)⟩
      · rw [if_pos rfl]
        go_enter Tryz.func106, Tryz.ntmps106
        go_wp2_with (first | (go_at_call 100; ((with_reducible first | refine (HD.out a HA0.out _).mono ?_ | refine (HD.out b HB0.out _).mono ?_); rintro e w' ⟨rfl, ⟨nq, rfl⟩⟩; (first | rw [H1.out] | rw [H2.out]))) | (go_at_call 105; ((with_reducible refine (HS.out _ _).mono ?_); rintro e w' ⟨rfl, ⟨nq, rfl⟩⟩; simp only [if_true, if_false, Bool.false_eq_true, reduceCtorEq, ite_true, ite_false])))
        go_ret
        exact ⟨rfl, by repeat (first | exact Drawn0.refl _ | apply Drawn0.step)⟩
  · rw [idC_an h1 h2]
    have H1 := Lib.hid h1
    have H2 := Lib.hid h2
    have HA0 := Lib.hid ha
    have HB0 := Lib.hid hb
    clear h1 h2 ha hb key
    go_enter Tryz.func106, Tryz.ntmps106
    go_wp2_with (first | (go_at_call 100; ((with_reducible first | refine (HD.out a HA0.out _).mono ?_ | refine (HD.out b HB0.out _).mono ?_); rintro e w' ⟨rfl, ⟨nq, rfl⟩⟩; (first | rw [H1.out] | rw [H2.out]))) | (go_at_call 105; ((with_reducible refine (HS.out _ _).mono ?_); rintro e w' ⟨rfl, ⟨nq, rfl⟩⟩; simp only [if_true, if_false, Bool.false_eq_true, reduceCtorEq, ite_true, ite_false])))
    go_ret
    exact ⟨rfl, by repeat (first | exact Drawn0.refl _ | apply Drawn0.step)⟩
  · rw [idC_na h1 h2]
    have H1 := Lib.hid h1
    have H2 := Lib.hid h2
    have HA0 := Lib.hid ha
    have HB0 := Lib.hid hb
    clear h1 h2 ha hb key
    go_enter Tryz.func106, Tryz.ntmps106
    go_wp2_with (first | (go_at_call 100; ((with_reducible first | refine (HD.out a HA0.out _).mono ?_ | refine (HD.out b HB0.out _).mono ?_); rintro e w' ⟨rfl, ⟨nq, rfl⟩⟩; (first | rw [H1.out] | rw [H2.out]))) | (go_at_call 105; ((with_reducible refine (HS.out _ _).mono ?_); rintro e w' ⟨rfl, ⟨nq, rfl⟩⟩; simp only [if_true, if_false, Bool.false_eq_true, reduceCtorEq, ite_true, ite_false])))
    go_ret
    exact ⟨rfl, by repeat (first | exact Drawn0.refl _ | apply Drawn0.step)⟩
  · rw [idC_nn h1 h2]
    have H1 := Lib.hid h1
    have H2 := Lib.hid h2
    have HA0 := Lib.hid ha
    have HB0 := Lib.hid hb
    have hA := fun W => HA.out a ha W
    have hB := fun W => HA.out b hb W
    have k := key (mkB (bareZ a.data.toList)) (mkB (bareZ b.data.toList))
    have s1 : (bareZ a.data.toList).length = (mkB (bareZ a.data.toList)).size := by show _ = (bareZ a.data.toList).toArray.size; rw [List.size_toArray]
    have s2 : (bareZ b.data.toList).length = (mkB (bareZ b.data.toList)).size := by show _ = (bareZ b.data.toList).toArray.size; rw [List.size_toArray]
    rw [show (mkB (bareZ a.data.toList)).data.toList = bareZ a.data.toList from rfl, show (mkB (bareZ b.data.toList)).data.toList = bareZ b.data.toList from rfl] at k
    rw [k, s1, s2]
    clear k s1 s2 h1 h2 ha hb key HA
    generalize mkB (bareZ a.data.toList) = A at *
    generalize mkB (bareZ b.data.toList) = B at *
    have HAa := Lib.hid hA
    have HAb := Lib.hid hB
    clear hA hB
    by_cases hs : A.size = B.size
    · have d1 : ((A.size : Int) == B.size) = true := beq_iff_eq.2 (by rw [hs])
      have d2 : ((A.size : Int) != B.size) = false := bne_eq_false_iff_eq.2 (by rw [hs])
      have d3 : (A.size == B.size) = true := beq_iff_eq.2 hs
      have d4 : (A.size != B.size) = false := bne_eq_false_iff_eq.2 hs
      rw [if_pos hs]
      clear hs
      by_cases he : A.toList = B.toList
      · have e1 : (A.toList == B.toList) = true := beq_iff_eq.2 he
        rw [if_pos he]
        clear he
        go_enter Tryz.func106, Tryz.ntmps106
        go_wp2_with (first | (go_at_call 100; ((with_reducible first | refine (HD.out a HA0.out _).mono ?_ | refine (HD.out b HB0.out _).mono ?_); rintro e w' ⟨rfl, ⟨nq, rfl⟩⟩; (first | rw [H1.out] | rw [H2.out]))) | (go_at_call 105; ((with_reducible refine (HS.out _ _).mono ?_); rintro e w' ⟨rfl, ⟨nq, rfl⟩⟩; simp only [if_true, if_false, Bool.false_eq_true, reduceCtorEq, ite_true, ite_false])) | (go_at_call 125; ((with_reducible first | refine (HAa.out _).mono ?_ | refine (HAb.out _).mono ?_); rintro e w' ⟨rfl, ⟨nq, rfl⟩⟩)))
        go_ret
        exact ⟨rfl, by repeat (first | exact Drawn0.refl _ | apply Drawn0.step)⟩
      · have e1 : (A.toList == B.toList) = false := beq_eq_false_iff_ne.2 he
        rw [if_neg he]
        clear he
        cases e2 : Op.bytesLess A.toList B.toList
        · rw [if_neg (by decide)]
          go_enter Tryz.func106, Tryz.ntmps106
          go_wp2_with (first | (go_at_call 100; ((with_reducible first | refine (HD.out a HA0.out _).mono ?_ | refine (HD.out b HB0.out _).mono ?_); rintro e w' ⟨rfl, ⟨nq, rfl⟩⟩; (first | rw [H1.out] | rw [H2.out]))) | (go_at_call 105; ((with_reducible refine (HS.out _ _).mono ?_); rintro e w' ⟨rfl, ⟨nq, rfl⟩⟩; simp only [if_true, if_false, Bool.false_eq_true, reduceCtorEq, ite_true, ite_false])) | (go_at_call 125; ((with_reducible first | refine (HAa.out _).mono ?_ | refine (HAb.out _).mono ?_); rintro e w' ⟨rfl, ⟨nq, rfl⟩⟩)))
          go_ret
          exact ⟨rfl, by repeat (first | exact Drawn0.refl _ | apply Drawn0.step)⟩
        · rw [if_pos rfl]
          go_enter Tryz.func106, Tryz.ntmps106
          go_wp2_with (first | (go_at_call 100; ((with_reducible first | refine (HD.out a HA0.out _).mono ?_ | refine (HD.out b HB0.out _).mono ?_); rintro e w' ⟨rfl, ⟨nq, rfl⟩⟩; (first | rw [H1.out] | rw [H2.out]))) | (go_at_call 105; ((with_reducible refine (HS.out _ _).mono ?_); rintro e w' ⟨rfl, ⟨nq, rfl⟩⟩; simp only [if_true, if_false, Bool.false_eq_true, reduceCtorEq, ite_true, ite_false])) | (go_at_call 125; ((with_reducible first | refine (HAa.out _).mono ?_ | refine (HAb.out _).mono ?_); rintro e w' ⟨rfl, ⟨nq, rfl⟩⟩)))
          go_ret
          exact ⟨rfl, by repeat (first | exact Drawn0.refl _ | apply Drawn0.step)⟩
    · have d1 : ((A.size : Int) == B.size) = false := beq_eq_false_iff_ne.2 (by omega)
      have d2 : ((A.size : Int) != B.size) = true := bne_iff_ne.2 (by omega)
      have d3 : (A.size == B.size) = false := beq_eq_false_iff_ne.2 hs
      have d4 : (A.size != B.size) = true := bne_iff_ne.2 hs
      rw [if_neg hs]
      clear hs
      by_cases hl : A.size < B.size
      · have d5 : decide ((A.size : Int) < B.size) = true := decide_eq_true (by omega)
        have d6 : decide (A.size < B.size) = true := decide_eq_true hl
        rw [if_pos hl]
        clear hl
        go_enter Tryz.func106, Tryz.ntmps106
        go_wp2_with (first | (go_at_call 100; ((with_reducible first | refine (HD.out a HA0.out _).mono ?_ | refine (HD.out b HB0.out _).mono ?_); rintro e w' ⟨rfl, ⟨nq, rfl⟩⟩; (first | rw [H1.out] | rw [H2.out]))) | (go_at_call 105; ((with_reducible refine (HS.out _ _).mono ?_); rintro e w' ⟨rfl, ⟨nq, rfl⟩⟩; simp only [if_true, if_false, Bool.false_eq_true, reduceCtorEq, ite_true, ite_false])) | (go_at_call 125; ((with_reducible first | refine (HAa.out _).mono ?_ | refine (HAb.out _).mono ?_); rintro e w' ⟨rfl, ⟨nq, rfl⟩⟩)))
        go_ret
        exact ⟨rfl, by repeat (first | exact Drawn0.refl _ | apply Drawn0.step)⟩
      · have d5 : decide ((A.size : Int) < B.size) = false := decide_eq_false (by omega)
        have d6 : decide (A.size < B.size) = false := decide_eq_false hl
        rw [if_neg hl]
        clear hl
        go_enter Tryz.func106, Tryz.ntmps106
        go_wp2_with (first | (go_at_call 100; ((with_reducible first | refine (HD.out a HA0.out _).mono ?_ | refine (HD.out b HB0.out _).mono ?_); rintro e w' ⟨rfl, ⟨nq, rfl⟩⟩; (first | rw [H1.out] | rw [H2.out]))) | (go_at_call 105; ((with_reducible refine (HS.out _ _).mono ?_); rintro e w' ⟨rfl, ⟨nq, rfl⟩⟩; simp only [if_true, if_false, Bool.false_eq_true, reduceCtorEq, ite_true, ite_false])) | (go_at_call 125; ((with_reducible first | refine (HAa.out _).mono ?_ | refine (HAb.out _).mono ?_); rintro e w' ⟨rfl, ⟨nq, rfl⟩⟩)))
        go_ret
        exact ⟨rfl, by repeat (first | exact Drawn0.refl _ | apply Drawn0.step)⟩
end Go.Proofs.YtgoeiflddikihaaGreatDoor.Ver
end
section
namespace Go.Proofs.YtgoeiflddikihaaGreatDoor.Ver
set_option linter.unusedSimpArgs false
set_option linter.unusedVariables false
open Go.RowKit Go.Proofs.YtgoeiflddikihaaGreatDoor.PFnIntersectAny Go.Proofs.YtgoeiflddikihaaGreatDoorW.PrintWords Go.Proofs.YtgoeiflddikihaaGreatDoor.Mem
abbrev Bs := List UInt8
def mkT (l : Bs) : ByteArray := ⟨l.toArray⟩
theorem mkT_list (l : Bs) : (mkT l).data.toList = l := rfl
theorem mkT_of (s : ByteArray) : mkT s.data.toList = s := by apply ByteArray.ext; simp [mkT]
theorem mkT_size (l : Bs) : (mkT l).size = l.length := by show l.toArray.size = _; simp
theorem mkT_tolist (l : Bs) : (mkT l).toList = l := by rw [ByteArray.toList_eq]; rfl
theorem mkT_bt (l : Bs) (i : Nat) (h : i < l.length) : bt (mkT l) (i : Int) = ((l[i].toNat : Nat) : Int) := by
  unfold bt
  rw [Int.toNat_natCast, dif_pos (by rw [mkT_size]; exact h)]
  rfl
theorem mkT_extract (l : Bs) (i j : Nat) : (mkT l).extract i j = mkT ((l.take j).drop i) := by
  apply ByteArray.ext
  apply Array.ext'
  simp [mkT, List.drop_take]
def ltrimL : Bs → Bs
  | [] => []
  | c :: l => if c = 32 then ltrimL l else c :: l
def rtrimL (l : Bs) : Bs := (ltrimL l.reverse).reverse
def trimL (l : Bs) : Bs := rtrimL (ltrimL l)
def trimD (s : ByteArray) : ByteArray := mkT (trimL s.data.toList)
theorem ltrimL_len : ∀ l : Bs, (ltrimL l).length ≤ l.length
  | [] => Nat.le_refl _
  | c :: l => by
    rw [ltrimL]
    split
    · exact Nat.le_succ_of_le (ltrimL_len l)
    · exact Nat.le_refl _
theorem rtrimL_len (l : Bs) : (rtrimL l).length ≤ l.length := by
  unfold rtrimL
  rw [List.length_reverse]
  exact Nat.le_trans (ltrimL_len _) (by rw [List.length_reverse]; exact Nat.le_refl _)
theorem trimL_len (l : Bs) : (trimL l).length ≤ l.length := Nat.le_trans (rtrimL_len _) (ltrimL_len _)
theorem trimD_size (s : ByteArray) : (trimD s).size ≤ s.size := by
  unfold trimD; rw [mkT_size]
  exact Nat.le_trans (trimL_len _) (by rw [Array.length_toList]; exact Nat.le_refl _)
theorem u8_32 (c : UInt8) : (((c.toNat : Nat) : Int) = 32) ↔ c = 32 := by
  constructor
  · intro h
    apply UInt8.toNat_inj.1
    show c.toNat = 32
    omega
  · rintro rfl; rfl
theorem rtrim_run (r : Bs) : ∀ n, r.length + 1 < n → r.length ≤ 1000000000000 → semver_trim.l1 n (mkT r.reverse) = some (mkT (ltrimL r).reverse) := by
  induction r with
  | nil =>
    intro n hn _
    obtain ⟨n, rfl⟩ : ∃ i, n = i + 1 := ⟨n - 1, by simp at hn; omega⟩
    rw [semver_trim.l1, if_pos (by rw [mkT_tolist]; rfl)]
    rfl
  | cons c r ih =>
    intro n hn hb
    rw [List.length_cons] at hn hb
    obtain ⟨n, rfl⟩ : ∃ i, n = i + 1 := ⟨n - 1, by omega⟩
    have hs : (mkT (c :: r).reverse).size = r.length + 1 := by rw [mkT_size, List.length_reverse, List.length_cons]
    have w1 : wrap64 (((mkT (c :: r).reverse).size : Int) - 1) = ((r.length : Nat) : Int) := by rw [hs, wrap_in (by omega) (by omega)]; omega
    have hne : (mkT (c :: r).reverse).toList ≠ ([] : Bs) := by rw [mkT_tolist]; simp
    have hbt : bt (mkT (c :: r).reverse) ((r.length : Nat) : Int) = ((c.toNat : Nat) : Int) := by
      rw [mkT_bt _ _ (by simp)]
      congr 2
      simp
    have hex : (mkT (c :: r).reverse).extract 0 r.length = mkT r.reverse := by
      rw [mkT_extract]
      congr 1
      simp
    rw [semver_trim.l1, if_neg hne, w1, if_pos (by omega), hs, if_pos (by omega), hbt, Int.toNat_natCast, hex]
    rw [ltrimL]
    by_cases hc : c = 32
    · rw [if_pos ((u8_32 c).2 hc), if_pos (by omega), if_pos hc]
      exact ih n (by omega) (by omega)
    · rw [if_neg (fun h => hc ((u8_32 c).1 h)), if_neg hc]
theorem ltrim_run (l : Bs) : ∀ n, 2 * l.length + 3 < n → l.length ≤ 1000000000000 → semver_trim.l0 n (mkT l) = some (mkT (trimL l)) := by
  have tail : ∀ (l : Bs) n, l.length + 2 < n → l.length ≤ 1000000000000 → semver_trim.j1 n (mkT l) = some (mkT (rtrimL l)) := by
    intro l n hn hb
    obtain ⟨n, rfl⟩ : ∃ i, n = i + 1 := ⟨n - 1, by omega⟩
    rw [semver_trim.j1]
    have := rtrim_run l.reverse n (by rw [List.length_reverse]; omega) (by rw [List.length_reverse]; omega)
    rw [List.reverse_reverse] at this
    exact this
  induction l with
  | nil =>
    intro n hn hb
    obtain ⟨n, rfl⟩ : ∃ i, n = i + 1 := ⟨n - 1, by omega⟩
    rw [semver_trim.l0, if_pos (by rw [mkT_tolist])]
    exact tail [] n (by simp at hn ⊢; omega) hb
  | cons c l ih =>
    intro n hn hb
    rw [List.length_cons] at hn hb
    obtain ⟨n, rfl⟩ : ∃ i, n = i + 1 := ⟨n - 1, by omega⟩
    have hs : (mkT (c :: l)).size = l.length + 1 := by rw [mkT_size, List.length_cons]
    have hne : (mkT (c :: l)).toList ≠ ([] : Bs) := by rw [mkT_tolist]; simp
    have hbt : bt (mkT (c :: l)) 0 = ((c.toNat : Nat) : Int) := mkT_bt (c :: l) 0 (by simp)
    have hex : (mkT (c :: l)).extract 1 (mkT (c :: l)).size = mkT l := by
      rw [mkT_extract, hs]
      congr 1
      simp
    rw [semver_trim.l0, if_neg hne, if_pos (by omega), hbt, hex, hs]
    unfold trimL
    rw [ltrimL]
    by_cases hc : c = 32
    · rw [if_pos ((u8_32 c).2 hc), if_pos (by omega), if_pos hc]
      exact ih n (by omega) (by omega)
    · rw [if_neg (fun h => hc ((u8_32 c).1 h)), if_neg hc]
      exact tail (c :: l) n (by rw [List.length_cons]; omega) (by rw [List.length_cons]; omega)
theorem trimD_calls (s : ByteArray) (hs : s.size ≤ 1000000000000) (W : World) : Calls Tryz.prog 142 #[.string s] W fun e w' => e = .returned (.string (trimD s)) ∧ Drawn0 W w' := by
  refine semver_trim.calls (2 * s.data.toList.length + 4) s (trimD s) W ?_
  have := ltrim_run s.data.toList (2 * s.data.toList.length + 4) (by omega) (by rw [Array.length_toList]; exact hs)
  rw [mkT_of] at this
  exact this
def splitL (sep : Bs) : Nat → Bs → Bs → List Bs
  | 0, cur, l => [cur ++ l]
  | n + 1, cur, l => match l with
    | [] => [cur]
    | c :: r => if (c :: r).take sep.length = sep then cur :: splitL sep n [] ((c :: r).drop sep.length) else splitL sep n (cur ++ [c]) r
def splitD (sep s : ByteArray) : List ByteArray := (splitL sep.data.toList s.size [] s.data.toList).map mkT
theorem wrap_back {n : Nat} (h : 1 ≤ n) (h2 : n ≤ 2000000000000) : wrap64 (wrap64 ((n : Int) - 1) + 1) = (n : Int) := by
  have e : wrap64 ((n : Int) - 1) = (n : Int) - 1 := wrap_in (by omega) (by omega)
  rw [e, wrap_in (by omega) (by omega)]; omega
theorem split_run (sep : Bs) (l : Bs) (hl : l.length ≤ 1000000000000) (h1 : 1 ≤ sep.length) (h2 : sep.length ≤ 1000) : ∀ (d n m last j : Nat) (out : List ByteArray), l.length - j = d → d < n → d ≤ m → last ≤ j → j ≤ l.length → out.length ≤ j →
    semver_split.l0 n (mkT l) (mkT sep) out (last : Int) (j : Int) = some (out ++ (splitL sep m ((l.take j).drop last) (l.drop j)).map mkT) := by
  intro d
  induction d using Nat.strongRecOn with
  | _ d ih =>
  intro n m last j out hd hn hm hlj hj hout
  obtain ⟨n, rfl⟩ : ∃ i, n = i + 1 := ⟨n - 1, by omega⟩
  have w1 : wrap64 ((j : Int) + ((mkT sep).size : Int)) = ((j + sep.length : Nat) : Int) := by rw [mkT_size, wrap_in (by omega) (by omega)]; omega
  have w2 : wrap64 ((j : Int) + 1) = ((j + 1 : Nat) : Int) := by clear w1; rw [wrap_in (by omega) (by omega)]; omega
  have w3 : wrap64 (wrap64 (((j + sep.length : Nat) : Int) - 1) + 1) = ((j + sep.length : Nat) : Int) := by
    clear w1 w2
    have a1 : 1 ≤ j + sep.length := by omega
    have a2 : j + sep.length ≤ 2000000000000 := by omega
    generalize j + sep.length = k at a1 a2 ⊢
    exact wrap_back a1 a2
  rw [semver_split.l0, w1, w2, w3, mkT_size]
  clear w1 w2 w3
  by_cases hc : j + sep.length ≤ l.length
  · rw [if_pos (by omega), if_pos (by omega), if_pos (by omega), Int.toNat_natCast, Int.toNat_natCast, Int.toNat_natCast, mkT_extract, mkT_extract, mkT_tolist, mkT_tolist]
    obtain ⟨m, rfl⟩ : ∃ i, m = i + 1 := ⟨m - 1, by omega⟩
    obtain ⟨c, r, hcr⟩ : ∃ c r, l.drop j = c :: r := by
      cases h : l.drop j with
      | nil => have := congrArg List.length h; rw [List.length_drop] at this; simp at this; omega
      | cons c r => exact ⟨c, r, rfl⟩
    have hr : l.drop (j + 1) = r := by rw [← List.drop_drop, hcr]; rfl
    have hdt : (l.take (j + sep.length)).drop j = (c :: r).take sep.length := by rw [← hcr, List.drop_take]; congr 1; omega
    rw [hdt, hcr]
    show _ = some (out ++ (if (c :: r).take sep.length = sep then (l.take j).drop last :: splitL sep m [] ((c :: r).drop sep.length) else splitL sep m ((l.take j).drop last ++ [c]) r).map mkT)
    by_cases he : (c :: r).take sep.length = sep
    · rw [if_pos he, if_pos he, if_pos (by omega), if_pos (by omega), if_pos (by omega), if_pos (by omega)]
      rw [ih (l.length - (j + sep.length)) (by omega) n m (j + sep.length) (j + sep.length) _ rfl (by omega) (by omega) (Nat.le_refl _) hc (by rw [List.length_append, List.length_singleton]; omega)]
      have h0 : (l.take (j + sep.length)).drop (j + sep.length) = [] := List.drop_eq_nil_of_le (by rw [List.length_take]; omega)
      rw [h0, ← hcr, List.drop_drop, List.map_cons, List.append_assoc]
      rfl
    · rw [if_neg he, if_neg he]
      rw [ih (l.length - (j + 1)) (by omega) n m last (j + 1) out rfl (by omega) (by omega) (by omega) (by omega) (by omega)]
      have hjc : l[j]'(by omega) = c := by
        have := congrArg (fun x => x[0]?) hcr
        simp at this
        rw [List.getElem?_eq_getElem (by omega)] at this
        exact Option.some.inj this
      have e1 : (l.take (j + 1)).drop last = (l.take j).drop last ++ [c] := by
        rw [List.take_succ_eq_append_getElem (by omega), List.drop_append_of_le_length (by rw [List.length_take]; omega), hjc]
      rw [hr, e1]
  · rw [if_neg (by omega), if_pos (by omega), if_pos (by omega), if_pos (by omega), Int.toNat_natCast, mkT_extract]
    have rest : ∀ (m : Nat) (cur r : Bs), r.length < sep.length → r.length ≤ m → splitL sep m cur r = [cur ++ r] := by
      intro m
      induction m with
      | zero => intro cur r _ _; rfl
      | succ m ihm =>
        intro cur r h1 h2
        cases r with
        | nil => rw [splitL, List.append_nil]
        | cons c r =>
          rw [splitL, if_neg]
          · rw [ihm _ _ (by rw [List.length_cons] at h1; omega) (by rw [List.length_cons] at h2; omega), List.append_assoc]; rfl
          · intro e
            have := congrArg List.length e
            rw [List.length_take] at this
            omega
    rw [rest m _ _ (by rw [List.length_drop]; omega) (by rw [List.length_drop]; omega)]
    have e1 : (l.take l.length).drop last = (l.take j).drop last ++ l.drop j := by
      rw [List.take_length]
      have : l.drop last = (l.take j ++ l.drop j).drop last := by rw [List.take_append_drop]
      rw [this, List.drop_append_of_le_length (by rw [List.length_take]; omega)]
    rw [e1]; rfl
theorem split_f' (s sep : ByteArray) (hs : s.size ≤ 1000000000000) (h1 : 1 ≤ sep.size) (h2 : sep.size ≤ 1000) : semver_split.f (s.size + 1) s sep = some (splitD sep s) := by
  have hl : s.data.toList.length = s.size := Array.length_toList
  have hl2 : sep.data.toList.length = sep.size := Array.length_toList
  have := split_run sep.data.toList s.data.toList (by omega) (by omega) (by omega) s.size (s.size + 1) s.size 0 0 [] (by omega) (by omega) (Nat.le_refl _) (Nat.le_refl _) (by omega) (Nat.le_refl _)
  rw [mkT_of, mkT_of] at this
  exact this
abbrev StrR (w : World) (base : Nat) (v : Value) (l : List ByteArray) : Prop := w.ownsRow base 9 1 v l.length (l.map Value.string)
theorem splitD_calls (s sep : ByteArray) (hs : s.size ≤ 1000000000000) (h1 : 1 ≤ sep.size) (h2 : sep.size ≤ 1000) (W : World) :
    Calls Tryz.prog 140 #[.string s, .string sep] W fun e w' => (∃ v, e = .returned v ∧ StrR w' W.heap.size v (splitD sep s)) ∧ Below W.heap.size W w' := by
  refine (semver_split.calls _ s sep _ W (split_f' s sep hs h1 h2)).mono ?_
  rintro e w' ⟨v, rfl, hr, hb⟩
  obtain ⟨_, inner, ho, hr⟩ := hr
  rw [reps_strings hr] at ho
  exact ⟨⟨v, rfl, ho⟩, hb⟩
end Go.Proofs.YtgoeiflddikihaaGreatDoor.Ver
end
