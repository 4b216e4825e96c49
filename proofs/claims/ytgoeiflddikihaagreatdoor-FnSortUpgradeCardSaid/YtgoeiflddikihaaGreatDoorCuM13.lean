/- Merged by program out of: VPl, SpecA, SemOrd, SpecC, SpecD, Piece. -/
import Derived.Test.YtgoeiflddikihaaGreatDoorCuM3
import Derived.Test.YtgoeiflddikihaaGreatDoorCuM4
import Derived.Test.YtgoeiflddikihaaGreatDoorCuM5
import Derived.Test.YtgoeiflddikihaaGreatDoorCuM12
import Derived.BigQuiet
import Derived.Lib.QuietBelow
import Derived.Deep.Cut
import Derived.Deep.CutRange
import Derived.Deep.RegionWith
import Derived.Test.YtgoeiflddikihaaGreatDoorCuM6
import Derived.Test.YtgoeiflddikihaaGreatDoorCuM8
import Derived.RegionTactic
import Derived.BigRegion
import Derived.WalkLawsBesides
section
namespace Go.Proofs.YtgoeiflddikihaaGreatDoor.PFnVersion
open Go.RowKit Go.Proofs.YtgoeiflddikihaaGreatDoorW.PrintWords Go.Proofs.YtgoeiflddikihaaGreatDoorW.PrintLast Go.Proofs.YtgoeiflddikihaaGreatDoorW.PrintMore
attribute [local go_sem] max2_int min2_int max_two min_two max_three min_three max_four min_four   -- for this text's walks alone
set_option linter.unusedVariables false
set_option linter.unusedSimpArgs false
def spec_verSign.f (a0 : Bool) : Option (Int) := if a0 = true then (some (-1)) else (some 1)
set_option maxHeartbeats 8000000 in
set_option maxRecDepth 100000 in
theorem spec_verSign.calls (a0 : Bool) (r : Int) (w : World) (h : spec_verSign.f a0 = some r) :
    Calls Tryz.prog 105 #[.bool a0] w fun e w' => e = .returned (.int .i64 r) ∧ Drawn0 w w' := by
  have H : (if a0 = true then (some (-1)) else (some 1)) = some r := h
  clear h
  by_cases c2 : a0 = true
  · subst c2
    have H1 : (some (-1)) = some r := by rw [if_pos rfl] at H; exact H
    clear H
    have H := H1
    clear H1
    obtain rfl := Option.some.inj H
    go_enter Tryz.func105, Tryz.ntmps105
    go_wp2
    go_ret
    exact ⟨by first | rfl | (simp; done) | (simp [*]; done), by repeat (first | exact Drawn0.refl _ | apply Drawn0.step)⟩
  · replace c2 := Bool.eq_false_iff.mpr c2
    subst c2
    have H1 : (some 1) = some r := by rw [if_neg (show ¬ (false = true) by decide)] at H; exact H
    clear H
    have H := H1
    clear H1
    obtain rfl := Option.some.inj H
    go_enter Tryz.func105, Tryz.ntmps105
    go_wp2
    go_ret
    exact ⟨by first | rfl | (simp; done) | (simp [*]; done), by repeat (first | exact Drawn0.refl _ | apply Drawn0.step)⟩
def spec_verAmount.l0 : Nat → ByteArray → Option (ByteArray)
  | 0, _ => none
  | k + 1, x0 => if (x0.size : Int) > 1 then (if 0 < (x0.size : Int) then (if (bt x0 0) = 48 then (if 1 ≤ (x0.size : Int) then (spec_verAmount.l0 k (x0.extract 1 x0.size)) else (none)) else (some x0)) else (none)) else (some x0)
def spec_verAmount.f (k : Nat) (a0 : ByteArray) : Option (ByteArray) := spec_verAmount.l0 k a0
theorem spec_verAmount.mono_l : ∀ k, (∀ y0, LeO (spec_verAmount.l0 k y0) (spec_verAmount.l0 (k + 1) y0))
  | 0 => fun _ r h => by simp [spec_verAmount.l0] at h
  | k + 1 => by
    have ih0 := spec_verAmount.mono_l k
    · intro y0
      unfold spec_verAmount.l0
      repeat' first
      | (with_reducible exact ih0 _)
      | (with_reducible exact LeO.refl _)
      | (with_reducible exact LeO.none _)
      | (with_reducible refine LeO.ite ?_ ?_)
      | (with_reducible refine LeO.bind ?_ (fun _ => ?_))
      | exact ih0 _
      | exact LeO.none _
      | refine LeO.ite ?_ ?_
      | refine LeO.bind ?_ (fun _ => ?_)
theorem spec_verAmount.mono : ∀ a0 k, LeO (spec_verAmount.f k a0) (spec_verAmount.f (k + 1) a0) := by
  intro a0 k
  have ih0 := spec_verAmount.mono_l k
  unfold spec_verAmount.f
  repeat' first
      | (with_reducible exact ih0 _)
      | (with_reducible exact LeO.refl _)
      | (with_reducible exact LeO.none _)
      | (with_reducible refine LeO.ite ?_ ?_)
      | (with_reducible refine LeO.bind ?_ (fun _ => ?_))
      | exact ih0 _
      | exact LeO.none _
      | refine LeO.ite ?_ ?_
      | refine LeO.bind ?_ (fun _ => ?_)
set_option maxHeartbeats 8000000 in
set_option maxRecDepth 100000 in
theorem spec_verAmount.calls (k : Nat) (a0 : ByteArray) (r : ByteArray) (w : World) (h : spec_verAmount.f k a0 = some r) :
    Calls Tryz.prog 125 #[.string a0] w fun e w' => e = .returned (.string r) ∧ Drawn0 w w' := by
  have H : (spec_verAmount.l0 k a0) = some r := h
  clear h
  have H' := Aside0.mk H
  clear H
  go_enter Tryz.func125, Tryz.ntmps125
  go_wp2
  go_loopg [0] k (fun kq v0 w' => ∃ (x0_1 : ByteArray), v0 = .string x0_1 ∧ Aside0 (spec_verAmount.l0 kq x0_1 = some r) ∧ Aside0 (kq ≤ k) ∧ Drawn0 w w')
  case atStart => exact ⟨(a0), (by first | rfl | (simp; done) | (simp [*]; done)), H', ⟨Nat.le_refl _⟩, by repeat (first | exact Drawn0.refl _ | apply Drawn0.step)⟩
  case round =>
    clear H'
    try clear c1
    obtain ⟨x0_1, rfl, HA, HK1, ⟨m1, rfl⟩⟩ := hrel
    cases gk with
    | zero => exact absurd HA.out (by simp [spec_verAmount.l0])
    | succ k1 =>
      have H := HA.out
      clear HA
      simp only [spec_verAmount.l0] at H
      by_cases c2 : (x0_1.size : Int) > 1
      · rw [if_pos c2] at H
        have c2b0 : decide (1 < (x0_1.size : Int)) = true := decide_eq_true c2
        have c2b1 : decide (1 < x0_1.size) = true := decide_eq_true (by omega)
        clear c2
        by_cases c3 : 0 < (x0_1.size : Int)
        · rw [if_pos c3] at H
          have c3b0 : decide (0 < (x0_1.size : Int)) = true := decide_eq_true c3
          have c3b1 : decide (0 < x0_1.size) = true := decide_eq_true (by omega)
          clear c3
          by_cases c5 : (bt x0_1 0) = 48
          · rw [if_pos c5] at H
            have c5b0 : ((bt x0_1 0) == 48) = true := beq_iff_eq.mpr c5
            have c5b1 : ((bt x0_1 0) != 48) = false := bne_eq_false_iff_eq.mpr c5
            clear c5
            by_cases c6 : 1 ≤ (x0_1.size : Int)
            · rw [if_pos c6] at H
              have c6b0 := eq_true c6
              have c6b1 : decide (1 ≤ (x0_1.size : Int)) = true := decide_eq_true c6
              clear c6
              have H' := Aside0.mk H
              clear H
              have p4 : 0 ≤ (0 : Int) := (by omega)
              have q4 : 0 < x0_1.size := (by have : (0 : Int) < (x0_1.size : Int) := of_decide_eq_true (by first | (with_reducible assumption) | assumption); omega)
              have hx4 : ∀ h : 0 < x0_1.size, ((x0_1[0]'h).toNat : Int) = bt x0_1 0 := bt_at x0_1 0
              clear p4
              have qi4 : (0 < (x0_1.size : Int)) = True := eq_true (of_decide_eq_true (by first | (with_reducible assumption) | assumption))
              replace q4 := eq_true q4
              go_wp2
              go_roundg k1
              case measure => have := HK1.out; omega
              case rel => exact ⟨(x0_1.extract 1 x0_1.size), (by first | rfl | (simp; done) | (simp [*]; done)), H', ⟨by have := HK1.out; omega⟩, by repeat (first | exact Drawn0.refl _ | apply Drawn0.step)⟩
            · rw [if_neg c6] at H
              exact absurd H (by simp)
          · rw [if_neg c5] at H
            have c5b0 : ((bt x0_1 0) == 48) = false := beq_eq_false_iff_ne.mpr c5
            have c5b1 : ((bt x0_1 0) != 48) = true := bne_iff_ne.mpr c5
            obtain rfl := Option.some.inj H
            have p4 : 0 ≤ (0 : Int) := (by omega)
            have q4 : 0 < x0_1.size := (by have : (0 : Int) < (x0_1.size : Int) := of_decide_eq_true (by first | (with_reducible assumption) | assumption); omega)
            have hx4 : ∀ h : 0 < x0_1.size, ((x0_1[0]'h).toNat : Int) = bt x0_1 0 := bt_at x0_1 0
            clear p4
            have qi4 : (0 < (x0_1.size : Int)) = True := eq_true (of_decide_eq_true (by first | (with_reducible assumption) | assumption))
            replace q4 := eq_true q4
            go_wp2
            go_ret
            exact ⟨by first | rfl | (simp; done) | (simp [*]; done), by repeat (first | exact Drawn0.refl _ | apply Drawn0.step)⟩
        · rw [if_neg c3] at H
          exact absurd H (by simp)
      · rw [if_neg c2] at H
        have c2b0 : decide (1 < (x0_1.size : Int)) = false := decide_eq_false c2
        have c2b1 : decide (1 < x0_1.size) = false := decide_eq_false (by omega)
        clear c2
        obtain rfl := Option.some.inj H
        go_wp2
        go_ret
        exact ⟨by first | rfl | (simp; done) | (simp [*]; done), by repeat (first | exact Drawn0.refl _ | apply Drawn0.step)⟩
end Go.Proofs.YtgoeiflddikihaaGreatDoor.PFnVersion
end
section
namespace Go.Proofs.YtgoeiflddikihaaGreatDoor.Ver
set_option linter.unusedSimpArgs false
open Go.RowKit Go.Proofs.YtgoeiflddikihaaGreatDoor.PFnVersion Go.Proofs.YtgoeiflddikihaaGreatDoorW.PrintWords Go.Proofs.YtgoeiflddikihaaGreatDoor.Ord
theorem isDig_same : Ver.isDig = Ord.isDig := rfl
theorem vdigits_any (s : ByteArray) (hn : s.size ≤ 140737488351232) (w : World) : Calls Tryz.prog 100 #[.string s] w fun e w' => e = .returned (.bool (idNum s.data.toList)) ∧ Drawn0 w w' := by
  refine spec_verDigits.calls (s.size + 1) s _ w ?_
  have hd := digits_tells s hn s.size 0 (Nat.zero_le _) (by omega) (s.size + 1) (by omega)
  refine Eq.trans hd ?_
  congr 1
  unfold idNum
  rw [List.drop_zero]
  cases h : s.data.toList with
  | nil => have : s.data.toList.length = 0 := by rw [h]; rfl
           rw [Array.length_toList] at this; have h2 : s.data.size = s.size := rfl
           rw [decide_eq_false (by omega)]; rfl
  | cons c r => simp [isDig_same]
theorem amount_tells (d : Nat) : ∀ s : ByteArray, s.size ≤ d → s.size ≤ 140737488351232 → ∀ k, d < k → spec_verAmount.l0 k s = some (mkB (bareZ s.data.toList)) := by
  induction d with
  | zero =>
    intro s hs _ k hk
    obtain ⟨k, rfl⟩ : ∃ j, k = j + 1 := ⟨k - 1, by omega⟩
    rw [spec_verAmount.l0, if_neg (by omega)]
    have h : s.data.toList = [] := by
      cases h : s.data.toList with
      | nil => rfl
      | cons _ _ => have : s.data.toList.length = s.size := by rw [Array.length_toList]; rfl
                    rw [h] at this; simp at this; omega
    rw [h]; congr 1; exact mkB_of h
  | succ d ih =>
    intro s hs hn k hk
    obtain ⟨k, rfl⟩ : ∃ j, k = j + 1 := ⟨k - 1, by omega⟩
    have hl : s.data.toList.length = s.size := by rw [Array.length_toList]; rfl
    rw [spec_verAmount.l0]
    cases h : s.data.toList with
    | nil => rw [h] at hl; simp at hl; rw [if_neg (by omega)]; congr 1; rw [bareZ]; exact mkB_of h; intro _ _ _ hx; cases hx
    | cons c r =>
      cases r with
      | nil => rw [h] at hl; simp at hl; rw [if_neg (by omega)]; congr 1; rw [bareZ]; exact mkB_of h; intro _ _ _ hx; cases hx
      | cons e r =>
        rw [h] at hl; simp at hl
        have h0 : 0 < s.size := by omega
        have hb : bt s 0 = (c.toNat : Int) := by
          have h1 := bt_nat s 0 h0
          have h2 : s[0] = c := by
            have : s.data.toList[0]? = some c := by rw [h]; rfl
            have h3 : s.data.toList[0]? = some s[0] := by rw [List.getElem?_eq_getElem (by rw [Array.length_toList]; exact h0)]; rfl
            rw [h3] at this; exact Option.some.inj this
          rw [← h2]; exact h1
        rw [if_pos (by omega), if_pos (by omega)]
        by_cases hc : c = 48
        · subst hc
          rw [hb, if_pos (show (((48 : UInt8).toNat : Int)) = 48 from rfl), if_pos (by omega), bareZ, if_pos rfl]
          have hx : s.extract 1 s.size = mkB (e :: r) := mkB_of (by
            rw [drop_data, h]; rfl)
          have := ih (s.extract 1 s.size) (by rw [hx]; show (e :: r).toArray.size ≤ d; simp; omega) (by rw [hx]; show (e :: r).toArray.size ≤ _; simp; omega) k (by omega)
          rw [hx] at this
          rw [hx]
          exact this
        · rw [hb, if_neg (fun hh => hc (UInt8.toNat_inj.1 (by have : (48 : UInt8).toNat = 48 := rfl; omega))), bareZ, if_neg hc]
          congr 1; exact mkB_of h
theorem vamount_any (s : ByteArray) (hn : s.size ≤ 140737488351232) (w : World) : Calls Tryz.prog 125 #[.string s] w fun e w' => e = .returned (.string (mkB (bareZ s.data.toList))) ∧ Drawn0 w w' :=
  spec_verAmount.calls (s.size + 1) s _ w (amount_tells s.size s (Nat.le_refl _) hn (s.size + 1) (by omega))
theorem vsign_any (b : Bool) (w : World) : Calls Tryz.prog 105 #[.bool b] w fun e w' => e = .returned (.int .i64 (if b = true then -1 else 1)) ∧ Drawn0 w w' :=
  spec_verSign.calls b _ w (by unfold spec_verSign.f; cases b <;> rfl)
set_option maxHeartbeats 2000000 in
theorem vident_any (a b : ByteArray) (ha : a.size ≤ 140737488351232) (hb : b.size ≤ 140737488351232) (w : World) :
    Calls Tryz.prog 106 #[.string a, .string b] w fun e w' => e = .returned (.int .i64 (idC a.data.toList b.data.toList)) ∧ Drawn0 w w' := by
  have HD := Lib.hid (fun (s : ByteArray) (h : s.size ≤ 140737488351232) W => vdigits_any s h W)
  have HA := Lib.hid (fun (s : ByteArray) (h : s.size ≤ 140737488351232) W => vamount_any s h W)
  have HS := Lib.hid (fun b W => vsign_any b W)
  have key : ∀ x y : ByteArray, bytesC x.data.toList y.data.toList = if x.toList = y.toList then 0 else if Op.bytesLess x.toList y.toList = true then -1 else 1 := by
    intro x y
    rw [bytesC_form, ByteArray.toList_eq, ByteArray.toList_eq]
    by_cases h1 : Op.bytesLess x.data.toList y.data.toList = true
    · rw [if_pos h1, if_neg, if_pos h1]
      intro e
      have := (bytesC_less x.data.toList y.data.toList).2 h1
      rw [e, cmp_bytes.refl] at this; omega
    · rw [if_neg h1]; split <;> simp [h1, *]
  cases h1 : idNum a.data.toList <;> cases h2 : idNum b.data.toList
  · rw [idC_aa h1 h2, key]
    have H1 := Lib.hid h1
    have H2 := Lib.hid h2
    have HA0 := Lib.hid ha
    have HB0 := Lib.hid hb
    clear h1 h2 ha hb key
    by_cases he : a.toList = b.toList
    · have e1 : (a.toList == b.toList) = true := beq_iff_eq.2 he
      rw [if_pos he]
      clear he
      go_enter Tryz.func106, Tryz.ntmps106
      go_wp2_with (first | (go_at_call 100; ((with_reducible first | refine (HD.out a HA0.out _).mono ?_ | refine (HD.out b HB0.out _).mono ?_); rintro e w' ⟨rfl, ⟨nq, rfl⟩⟩; (first | rw [H1.out] | rw [H2.out]))) | (go_at_call 105; ((with_reducible refine (HS.out _ _).mono ?_); rintro e w' ⟨rfl, ⟨nq, rfl⟩⟩; simp only [if_true, if_false, Bool.false_eq_true, reduceCtorEq, ite_true, ite_false])))
      go_ret
      exact ⟨rfl, by repeat (first | exact Drawn0.refl _ | apply Drawn0.step)⟩
    · have e1 : (a.toList == b.toList) = false := beq_eq_false_iff_ne.2 he
      rw [if_neg he]
      clear he
      cases e2 : Op.bytesLess a.toList b.toList
      · rw [if_neg (by decide)]
        go_enter Tryz.func106, Tryz.ntmps106
        go_wp2_with (first | (go_at_call 100; ((with_reducible first | refine (HD.out a HA0.out _).mono ?_ | refine (HD.out b HB0.out _).mono ?_); rintro e w' ⟨rfl, ⟨nq, rfl⟩⟩; (first | rw [H1.out] | rw [H2.out]))) | (go_at_call 105; ((with_reducible refine (HS.out _ _).mono ?_); rintro e w' ⟨rfl, ⟨nq, rfl⟩⟩; simp only [if_true, if_false, Bool.false_eq_true, reduceCtorEq, ite_true, ite_false])))
        go_ret
        exact ⟨rfl, by repeat (first | exact Drawn0.refl _ | apply Drawn0.step)⟩
      · rw [if_pos rfl]
        go_enter Tryz.func106, Tryz.ntmps106
        go_wp2_with (first | (go_at_call 100; ((with_reducible first | refine (HD.out a HA0.out _).mono ?_ | refine (HD.out b HB0.out _).mono ?_); rintro e w' ⟨rfl, ⟨nq, rfl⟩⟩; (first | rw [H1.out] | rw [H2.out]))) | (go_at_call 105; ((with_reducible refine (HS.out _ _).mono ?_); rintro e w' ⟨rfl, ⟨nq, rfl⟩⟩; simp only [if_true, if_false, Bool.false_eq_true, reduceCtorEq, ite_true, ite_false])))
        go_ret
        exact ⟨rfl, by repeat (first | exact Drawn0.refl _ | apply Drawn0.step)⟩
  · rw [idC_an h1 h2]
    have H1 := Lib.hid h1
    have H2 := Lib.hid h2
    have HA0 := Lib.hid ha
    have HB0 := Lib.hid hb
    clear h1 h2 ha hb key
    go_enter Tryz.func106, Tryz.ntmps106
    go_wp2_with (first | (go_at_call 100; ((with_reducible first | refine (HD.out a HA0.out _).mono ?_ | refine (HD.out b HB0.out _).mono ?_); rintro e w' ⟨rfl, ⟨nq, rfl⟩⟩; (first | rw [H1.out] | rw [H2.out]))) | (go_at_call 105; ((with_reducible refine (HS.out _ _).mono ?_); rintro e w' ⟨rfl, ⟨nq, rfl⟩⟩; simp only [if_true, if_false, Bool.false_eq_true, reduceCtorEq, ite_true, ite_false])))
    go_ret
    exact ⟨rfl, by repeat (first | exact Drawn0.refl _ | apply Drawn0.step)⟩
  · rw [idC_na h1 h2]
    have H1 := Lib.hid h1
    have H2 := Lib.hid h2
    have HA0 := Lib.hid ha
    have HB0 := Lib.hid hb
    clear h1 h2 ha hb key
    go_enter Tryz.func106, Tryz.ntmps106
    go_wp2_with (first | (go_at_call 100; ((with_reducible first | refine (HD.out a HA0.out _).mono ?_ | refine (HD.out b HB0.out _).mono ?_); rintro e w' ⟨rfl, ⟨nq, rfl⟩⟩; (first | rw [H1.out] | rw [H2.out]))) | (go_at_call 105; ((with_reducible refine (HS.out _ _).mono ?_); rintro e w' ⟨rfl, ⟨nq, rfl⟩⟩; simp only [if_true, if_false, Bool.false_eq_true, reduceCtorEq, ite_true, ite_false])))
    go_ret
    exact ⟨rfl, by repeat (first | exact Drawn0.refl _ | apply Drawn0.step)⟩
  · rw [idC_nn h1 h2]
    have H1 := Lib.hid h1
    have H2 := Lib.hid h2
    have HA0 := Lib.hid ha
    have HB0 := Lib.hid hb
    have hA := fun W => HA.out a ha W
    have hB := fun W => HA.out b hb W
    have k := key (mkB (bareZ a.data.toList)) (mkB (bareZ b.data.toList))
    have s1 : (bareZ a.data.toList).length = (mkB (bareZ a.data.toList)).size := by show _ = (bareZ a.data.toList).toArray.size; rw [List.size_toArray]
    have s2 : (bareZ b.data.toList).length = (mkB (bareZ b.data.toList)).size := by show _ = (bareZ b.data.toList).toArray.size; rw [List.size_toArray]
    rw [show (mkB (bareZ a.data.toList)).data.toList = bareZ a.data.toList from rfl, show (mkB (bareZ b.data.toList)).data.toList = bareZ b.data.toList from rfl] at k
    rw [k, s1, s2]
    clear k s1 s2 h1 h2 ha hb key HA
    generalize mkB (bareZ a.data.toList) = A at *
    generalize mkB (bareZ b.data.toList) = B at *
    have HAa := Lib.hid hA
    have HAb := Lib.hid hB
    clear hA hB
    by_cases hs : A.size = B.size
    · have d1 : ((A.size : Int) == B.size) = true := beq_iff_eq.2 (by rw [hs])
      have d2 : ((A.size : Int) != B.size) = false := bne_eq_false_iff_eq.2 (by rw [hs])
      have d3 : (A.size == B.size) = true := beq_iff_eq.2 hs
      have d4 : (A.size != B.size) = false := bne_eq_false_iff_eq.2 hs
      rw [if_pos hs]
      clear hs
      by_cases he : A.toList = B.toList
      · have e1 : (A.toList == B.toList) = true := beq_iff_eq.2 he
        rw [if_pos he]
        clear he
        go_enter Tryz.func106, Tryz.ntmps106
        go_wp2_with (first | (go_at_call 100; ((with_reducible first | refine (HD.out a HA0.out _).mono ?_ | refine (HD.out b HB0.out _).mono ?_); rintro e w' ⟨rfl, ⟨nq, rfl⟩⟩; (first | rw [H1.out] | rw [H2.out]))) | (go_at_call 105; ((with_reducible refine (HS.out _ _).mono ?_); rintro e w' ⟨rfl, ⟨nq, rfl⟩⟩; simp only [if_true, if_false, Bool.false_eq_true, reduceCtorEq, ite_true, ite_false])) | (go_at_call 125; ((with_reducible first | refine (HAa.out _).mono ?_ | refine (HAb.out _).mono ?_); rintro e w' ⟨rfl, ⟨nq, rfl⟩⟩)))
        go_ret
        exact ⟨rfl, by repeat (first | exact Drawn0.refl _ | apply Drawn0.step)⟩
      · have e1 : (A.toList == B.toList) = false := beq_eq_false_iff_ne.2 he
        rw [if_neg he]
        clear he
        cases e2 : Op.bytesLess A.toList B.toList
        · rw [if_neg (by decide)]
          go_enter Tryz.func106, Tryz.ntmps106
          go_wp2_with (first | (go_at_call 100; ((with_reducible first | refine (HD.out a HA0.out _).mono ?_ | refine (HD.out b HB0.out _).mono ?_); rintro e w' ⟨rfl, ⟨nq, rfl⟩⟩; (first | rw [H1.out] | rw [H2.out]))) | (go_at_call 105; ((with_reducible refine (HS.out _ _).mono ?_); rintro e w' ⟨rfl, ⟨nq, rfl⟩⟩; simp only [if_true, if_false, Bool.false_eq_true, reduceCtorEq, ite_true, ite_false])) | (go_at_call 125; ((with_reducible first | refine (HAa.out _).mono ?_ | refine (HAb.out _).mono ?_); rintro e w' ⟨rfl, ⟨nq, rfl⟩⟩)))
          go_ret
          exact ⟨rfl, by repeat (first | exact Drawn0.refl _ | apply Drawn0.step)⟩
        · rw [if_pos rfl]
          go_enter Tryz.func106, Tryz.ntmps106
          go_wp2_with (first | (go_at_call 100; ((with_reducible first | refine (HD.out a HA0.out _).mono ?_ | refine (HD.out b HB0.out _).mono ?_); rintro e w' ⟨rfl, ⟨nq, rfl⟩⟩; (first | rw [H1.out] | rw [H2.out]))) | (go_at_call 105; ((with_reducible refine (HS.out _ _).mono ?_); rintro e w' ⟨rfl, ⟨nq, rfl⟩⟩; simp only [if_true, if_false, Bool.false_eq_true, reduceCtorEq, ite_true, ite_false])) | (go_at_call 125; ((with_reducible first | refine (HAa.out _).mono ?_ | refine (HAb.out _).mono ?_); rintro e w' ⟨rfl, ⟨nq, rfl⟩⟩)))
          go_ret
          exact ⟨rfl, by repeat (first | exact Drawn0.refl _ | apply Drawn0.step)⟩
    · have d1 : ((A.size : Int) == B.size) = false := beq_eq_false_iff_ne.2 (by omega)
      have d2 : ((A.size : Int) != B.size) = true := bne_iff_ne.2 (by omega)
      have d3 : (A.size == B.size) = false := beq_eq_false_iff_ne.2 hs
      have d4 : (A.size != B.size) = true := bne_iff_ne.2 hs
      rw [if_neg hs]
      clear hs
      by_cases hl : A.size < B.size
      · have d5 : decide ((A.size : Int) < B.size) = true := decide_eq_true (by omega)
        have d6 : decide (A.size < B.size) = true := decide_eq_true hl
        rw [if_pos hl]
        clear hl
        go_enter Tryz.func106, Tryz.ntmps106
        go_wp2_with (first | (go_at_call 100; ((with_reducible first | refine (HD.out a HA0.out _).mono ?_ | refine (HD.out b HB0.out _).mono ?_); rintro e w' ⟨rfl, ⟨nq, rfl⟩⟩; (first | rw [H1.out] | rw [H2.out]))) | (go_at_call 105; ((with_reducible refine (HS.out _ _).mono ?_); rintro e w' ⟨rfl, ⟨nq, rfl⟩⟩; simp only [if_true, if_false, Bool.false_eq_true, reduceCtorEq, ite_true, ite_false])) | (go_at_call 125; ((with_reducible first | refine (HAa.out _).mono ?_ | refine (HAb.out _).mono ?_); rintro e w' ⟨rfl, ⟨nq, rfl⟩⟩)))
        go_ret
        exact ⟨rfl, by repeat (first | exact Drawn0.refl _ | apply Drawn0.step)⟩
      · have d5 : decide ((A.size : Int) < B.size) = false := decide_eq_false (by omega)
        have d6 : decide (A.size < B.size) = false := decide_eq_false hl
        rw [if_neg hl]
        clear hl
        go_enter Tryz.func106, Tryz.ntmps106
        go_wp2_with (first | (go_at_call 100; ((with_reducible first | refine (HD.out a HA0.out _).mono ?_ | refine (HD.out b HB0.out _).mono ?_); rintro e w' ⟨rfl, ⟨nq, rfl⟩⟩; (first | rw [H1.out] | rw [H2.out]))) | (go_at_call 105; ((with_reducible refine (HS.out _ _).mono ?_); rintro e w' ⟨rfl, ⟨nq, rfl⟩⟩; simp only [if_true, if_false, Bool.false_eq_true, reduceCtorEq, ite_true, ite_false])) | (go_at_call 125; ((with_reducible first | refine (HAa.out _).mono ?_ | refine (HAb.out _).mono ?_); rintro e w' ⟨rfl, ⟨nq, rfl⟩⟩)))
        go_ret
        exact ⟨rfl, by repeat (first | exact Drawn0.refl _ | apply Drawn0.step)⟩
end Go.Proofs.YtgoeiflddikihaaGreatDoor.Ver
end
section
namespace Go.Proofs.YtgoeiflddikihaaGreatDoor.Ver
set_option linter.unusedSimpArgs false
set_option linter.unusedVariables false
open Go.Sort Go.RowKit Go.Proofs.YtgoeiflddikihaaGreatDoor.Dig Go.Proofs.YtgoeiflddikihaaGreatDoorW.PrintWords Go.Proofs.YtgoeiflddikihaaGreatDoor.Mem Go.Proofs.YtgoeiflddikihaaGreatDoor.Ord
theorem preS_l {q : List (List UInt8)} (h : q ≠ []) : preS [] q = 1 := by
 unfold preS; rw [if_pos (Or.inl rfl), if_neg, if_neg (by simp)]
 intro e; exact h (List.length_eq_zero_iff.1 e.symm)
theorem preS_r {p : List (List UInt8)} (h : p ≠ []) : preS p [] = -1 := by
 have := List.length_pos_iff.2 h
 unfold preS; rw [if_pos (Or.inr rfl), if_neg (by simp; omega), if_pos this]
theorem preS_b {p q : List (List UInt8)} (h : p ≠ []) (k : q ≠ []) : preS p q = listC idC p q := by
 unfold preS; rw [if_neg (by simp [h, k])]
theorem drop_at_map {k : Nat} (l : List ByteArray) (h : k < l.length) : (l.map (·.data.toList)).drop k = l[k].data.toList :: (l.map (·.data.toList)).drop (k + 1) := by
 rw [List.drop_eq_getElem_cons (by simpa using h)]; simp
theorem drop_end_map {k : Nat} (l : List ByteArray) (h : l.length ≤ k) : (l.map (·.data.toList)).drop k = [] := List.drop_eq_nil_of_le (by simpa using h)
theorem lc_both (p q : List ByteArray) (k : Nat) (h1 : k < p.length) (h2 : k < q.length) : listC idC ((p.map (·.data.toList)).drop k) ((q.map (·.data.toList)).drop k) =
  if idC p[k].data.toList q[k].data.toList = 0 then listC idC ((p.map (·.data.toList)).drop (k + 1)) ((q.map (·.data.toList)).drop (k + 1)) else idC p[k].data.toList q[k].data.toList := by
 rw [drop_at_map p h1, drop_at_map q h2, listC]
theorem lc_right (p q : List ByteArray) (k : Nat) (h1 : k < p.length) (h2 : q.length ≤ k) : listC idC ((p.map (·.data.toList)).drop k) ((q.map (·.data.toList)).drop k) = 1 := by
 rw [drop_at_map p h1, drop_end_map q h2, listC]
theorem lc_left (p q : List ByteArray) (k : Nat) (h1 : p.length ≤ k) (h2 : k < q.length) : listC idC ((p.map (·.data.toList)).drop k) ((q.map (·.data.toList)).drop k) = -1 := by
 rw [drop_end_map p h1, drop_at_map q h2, listC]
theorem lc_none (p q : List ByteArray) (k : Nat) (h1 : p.length ≤ k) (h2 : q.length ≤ k) : listC idC ((p.map (·.data.toList)).drop k) ((q.map (·.data.toList)).drop k) = 0 := by
 rw [drop_end_map p h1, drop_end_map q h2, listC]
def ordI (x0 y0 x1 y1 x2 y2 P : Int) : Int := if x0 < y0 then -1 else if y0 < x0 then 1 else if x1 < y1 then -1 else if y1 < x1 then 1 else if x2 < y2 then -1 else if y2 < x2 then 1 else P
theorem ordI_cmp (a b : SV) : cmpV a b = ordI a.major b.major a.minor b.minor a.patch b.patch (preC a.pre.data.toList b.pre.data.toList) := by
 unfold cmpV thenC onC ordI intC
 repeat' split
 all_goals first | rfl | omega
theorem drawn0_below {W w' : World} (h : Drawn0 W w') : Below W.heap.size W w' := h.below
set_option maxRecDepth 20000 in
set_option maxHeartbeats 8000000 in
theorem ord_main (x0 x1 x2 y0 y1 y2 ca cb : Int) (ma mb : ByteArray) (PA PB : Value) (pa pb : List ByteArray) (w : World) (base : Nat) (hA : StrsAt 9 w base PA pa) (hB : StrsAt 9 w base PB pb)
  (hs : ∀ p ∈ pa ++ pb, p.size ≤ 140737488351232) (hla : pa.length ≤ 1000000000) (hlb : pb.length ≤ 1000000000) : Calls Tryz.prog 82 #[.agg #[.int .u64 x0, .int .u64 x1, .int .u64 x2, .int .i64 ca, PA, .string ma], .agg #[.int .u64 y0, .int .u64 y1, .int .u64 y2, .int .i64 cb, PB, .string mb]] w fun e w' =>
   e = .returned (.int .i64 (ordI x0 y0 x1 y1 x2 y2 (preS (pa.map (·.data.toList)) (pb.map (·.data.toList))))) ∧ Below w.heap.size w w' := by
 have HS := Lib.hid (fun b W => vsign_any b W)
 have HM := Aside0.mk (Blks.start w)
 have HSZ := Lib.hid hs
 obtain ⟨A, capA, rfl⟩ := hA.val
 obtain ⟨B, capB, rfl⟩ := hB.val
 obtain ⟨r, hr⟩ : ∃ r, r = ordI x0 y0 x1 y1 x2 y2 (preS (pa.map (·.data.toList)) (pb.map (·.data.toList))) := ⟨_, rfl⟩
 rw [← hr]
 have HR := Lib.hid hr
 clear hr
 have HPA := Lib.hid hA
 have HPB := Lib.hid hB
 have HLA := Lib.hid hla
 have HLB := Lib.hid hlb
 clear hla hlb
 clear hA hB hs
 rcases Int.lt_trichotomy x0 y0 with h0 | h0 | h0
 ·skip
  have q1 : (x0 != y0) = true := bne_iff_ne.2 (by omega)
  have q2 : decide (x0 < y0) = true := decide_eq_true h0
  have H0 := Lib.hid h0
  clear h0
  go_enter Tryz.func82, Tryz.ntmps82
  go_wp2_with (first | (refine m_box (x := .tmp 0) (by repeat (first | exact HM.out | apply Blks.drewN | apply Blks.drew | apply Blks.other)) (h := ?_); intro ba _ HN; clear HM; have HM := HN; clear HN) | (refine m_box (x := .tmp 1) (by repeat (first | exact HM.out | apply Blks.drewN | apply Blks.drew | apply Blks.other)) (h := ?_); intro bb _ HN; clear HM; have HM := HN; clear HN))
  refine wp_loop_rounds 4 ?_
  rw [rounds_succ]
  go_upto_region 4 with (fail)
  have fx := fun d os => cell_regrown (Blks.cell HM.out (b := ba) (o := 0) (by repeat (first | exact List.Mem.head _ | apply List.Mem.tail)) (by repeat (first | exact Rd.nil | apply Rd.here | apply Rd.skip))) d os
  have fy := fun d os => cell_regrown (Blks.cell HM.out (b := bb) (o := 0) (by repeat (first | exact List.Mem.head _ | apply List.Mem.tail)) (by repeat (first | exact Rd.nil | apply Rd.here | apply Rd.skip))) d os
  refine wp_region_quiet_below (by kernel_rfl) (by kernel_rfl) ?_
  repeat (go_big_quiet_step (fail))
  refine wpQuiet_nil ?_
  intro _ hw'
  obtain ⟨⟨dq, osq⟩, hw''⟩ := hw'
  subst hw''
  have HN := Aside0.mk (Blks.call HM.out (below_regrown _ dq osq)); clear HM; have HM := HN; clear HN
  clear fx fy
  go_upto_region 5 with (fail)
  generalize grow (redrawn _ dq) osq = wz at *
  have HSG := Lib.hid (fun d os => Calls.regrown_of (((HS.out true (grow (redrawn wz d) os)).mono fun e w' h => ⟨h.1, drawn0_below h.2⟩)))
  have fx := fun d os => cell_regrown (Blks.cell HM.out (b := ba) (o := 0) (by repeat (first | exact List.Mem.head _ | apply List.Mem.tail)) (by repeat (first | exact Rd.nil | apply Rd.here | apply Rd.skip))) d os
  have fy := fun d os => cell_regrown (Blks.cell HM.out (b := bb) (o := 0) (by repeat (first | exact List.Mem.head _ | apply List.Mem.tail)) (by repeat (first | exact Rd.nil | apply Rd.here | apply Rd.skip))) d os
  refine wp_region_quiet_below (by kernel_rfl) (by kernel_rfl) ?_
  repeat (go_big_quiet_step (exact HSG.out _ _))
  refine wpQuiet_nil ?_
  intro _ hw'
  obtain ⟨⟨dq, osq⟩, hw''⟩ := hw'
  subst hw''
  have HN := Aside0.mk (Blks.call HM.out (below_regrown _ dq osq)); clear HM; have HM := HN; clear HN
  clear fx fy
  go_wp2_with fail
  (try simp only [Exit.inBlock, Exit.then])
  have hr := HR.out
  rw [ordI, if_pos H0.out] at hr
  subst hr
  go_ret
  exact ⟨rfl, HM.out.bel⟩
 ·skip
  subst h0
  have q1 : (x0 != x0) = false := bne_self_eq_false _
  go_enter Tryz.func82, Tryz.ntmps82
  go_wp2_with (first | (refine m_box (x := .tmp 0) (by repeat (first | exact HM.out | apply Blks.drewN | apply Blks.drew | apply Blks.other)) (h := ?_); intro ba _ HN; clear HM; have HM := HN; clear HN) | (refine m_box (x := .tmp 1) (by repeat (first | exact HM.out | apply Blks.drewN | apply Blks.drew | apply Blks.other)) (h := ?_); intro bb _ HN; clear HM; have HM := HN; clear HN))
  refine wp_loop_rounds 4 ?_
  rw [rounds_succ]
  go_upto_region 4 with (fail)
  have fx := fun d os => cell_regrown (Blks.cell HM.out (b := ba) (o := 0) (by repeat (first | exact List.Mem.head _ | apply List.Mem.tail)) (by repeat (first | exact Rd.nil | apply Rd.here | apply Rd.skip))) d os
  have fy := fun d os => cell_regrown (Blks.cell HM.out (b := bb) (o := 0) (by repeat (first | exact List.Mem.head _ | apply List.Mem.tail)) (by repeat (first | exact Rd.nil | apply Rd.here | apply Rd.skip))) d os
  refine wp_region_quiet_below (by kernel_rfl) (by kernel_rfl) ?_
  repeat (go_big_quiet_step (fail))
  refine wpQuiet_nil ?_
  intro _ hw'
  obtain ⟨⟨dq, osq⟩, hw''⟩ := hw'
  subst hw''
  have HN := Aside0.mk (Blks.call HM.out (below_regrown _ dq osq)); clear HM; have HM := HN; clear HN
  clear fx fy
  generalize grow (redrawn _ dq) osq = wz0 at *
  go_wp2_with fail
  clear q1
  rcases Int.lt_trichotomy x1 y1 with h1 | h1 | h1
  ·skip
   have q1 : (x1 != y1) = true := bne_iff_ne.2 (by omega)
   have q2 : decide (x1 < y1) = true := decide_eq_true h1
   have H1 := Lib.hid h1
   clear h1
   rw [rounds_succ]
   go_upto_region 4 with (fail)
   have fx := fun d os => cell_regrown (Blks.cell HM.out (b := ba) (o := 1) (by repeat (first | exact List.Mem.head _ | apply List.Mem.tail)) (by repeat (first | exact Rd.nil | apply Rd.here | apply Rd.skip))) d os
   have fy := fun d os => cell_regrown (Blks.cell HM.out (b := bb) (o := 1) (by repeat (first | exact List.Mem.head _ | apply List.Mem.tail)) (by repeat (first | exact Rd.nil | apply Rd.here | apply Rd.skip))) d os
   refine wp_region_quiet_below (by kernel_rfl) (by kernel_rfl) ?_
   repeat (go_big_quiet_step (fail))
   refine wpQuiet_nil ?_
   intro _ hw'
   obtain ⟨⟨dq, osq⟩, hw''⟩ := hw'
   subst hw''
   have HN := Aside0.mk (Blks.call HM.out (below_regrown _ dq osq)); clear HM; have HM := HN; clear HN
   clear fx fy
   go_upto_region 5 with (fail)
   generalize grow (redrawn _ dq) osq = wz at *
   have HSG := Lib.hid (fun d os => Calls.regrown_of (((HS.out true (grow (redrawn wz d) os)).mono fun e w' h => ⟨h.1, drawn0_below h.2⟩)))
   have fx := fun d os => cell_regrown (Blks.cell HM.out (b := ba) (o := 1) (by repeat (first | exact List.Mem.head _ | apply List.Mem.tail)) (by repeat (first | exact Rd.nil | apply Rd.here | apply Rd.skip))) d os
   have fy := fun d os => cell_regrown (Blks.cell HM.out (b := bb) (o := 1) (by repeat (first | exact List.Mem.head _ | apply List.Mem.tail)) (by repeat (first | exact Rd.nil | apply Rd.here | apply Rd.skip))) d os
   refine wp_region_quiet_below (by kernel_rfl) (by kernel_rfl) ?_
   repeat (go_big_quiet_step (exact HSG.out _ _))
   refine wpQuiet_nil ?_
   intro _ hw'
   obtain ⟨⟨dq, osq⟩, hw''⟩ := hw'
   subst hw''
   have HN := Aside0.mk (Blks.call HM.out (below_regrown _ dq osq)); clear HM; have HM := HN; clear HN
   clear fx fy
   go_wp2_with fail
   (try simp only [Exit.inBlock, Exit.then])
   have hr := HR.out
   rw [ordI, if_neg (Int.lt_irrefl _), if_neg (Int.lt_irrefl _), if_pos H1.out] at hr
   subst hr
   go_ret
   exact ⟨rfl, HM.out.bel⟩
  ·skip
   subst h1
   have q1 : (x1 != x1) = false := bne_self_eq_false _
   rw [rounds_succ]
   go_upto_region 4 with (fail)
   have fx := fun d os => cell_regrown (Blks.cell HM.out (b := ba) (o := 1) (by repeat (first | exact List.Mem.head _ | apply List.Mem.tail)) (by repeat (first | exact Rd.nil | apply Rd.here | apply Rd.skip))) d os
   have fy := fun d os => cell_regrown (Blks.cell HM.out (b := bb) (o := 1) (by repeat (first | exact List.Mem.head _ | apply List.Mem.tail)) (by repeat (first | exact Rd.nil | apply Rd.here | apply Rd.skip))) d os
   refine wp_region_quiet_below (by kernel_rfl) (by kernel_rfl) ?_
   repeat (go_big_quiet_step (fail))
   refine wpQuiet_nil ?_
   intro _ hw'
   obtain ⟨⟨dq, osq⟩, hw''⟩ := hw'
   subst hw''
   have HN := Aside0.mk (Blks.call HM.out (below_regrown _ dq osq)); clear HM; have HM := HN; clear HN
   clear fx fy
   generalize grow (redrawn _ dq) osq = wz1 at *
   go_wp2_with fail
   clear q1
   rcases Int.lt_trichotomy x2 y2 with h2 | h2 | h2
   ·skip
    have q1 : (x2 != y2) = true := bne_iff_ne.2 (by omega)
    have q2 : decide (x2 < y2) = true := decide_eq_true h2
    have H2 := Lib.hid h2
    clear h2
    rw [rounds_succ]
    go_upto_region 4 with (fail)
    have fx := fun d os => cell_regrown (Blks.cell HM.out (b := ba) (o := 2) (by repeat (first | exact List.Mem.head _ | apply List.Mem.tail)) (by repeat (first | exact Rd.nil | apply Rd.here | apply Rd.skip))) d os
    have fy := fun d os => cell_regrown (Blks.cell HM.out (b := bb) (o := 2) (by repeat (first | exact List.Mem.head _ | apply List.Mem.tail)) (by repeat (first | exact Rd.nil | apply Rd.here | apply Rd.skip))) d os
    refine wp_region_quiet_below (by kernel_rfl) (by kernel_rfl) ?_
    repeat (go_big_quiet_step (fail))
    refine wpQuiet_nil ?_
    intro _ hw'
    obtain ⟨⟨dq, osq⟩, hw''⟩ := hw'
    subst hw''
    have HN := Aside0.mk (Blks.call HM.out (below_regrown _ dq osq)); clear HM; have HM := HN; clear HN
    clear fx fy
    go_upto_region 5 with (fail)
    generalize grow (redrawn _ dq) osq = wz at *
    have HSG := Lib.hid (fun d os => Calls.regrown_of (((HS.out true (grow (redrawn wz d) os)).mono fun e w' h => ⟨h.1, drawn0_below h.2⟩)))
    have fx := fun d os => cell_regrown (Blks.cell HM.out (b := ba) (o := 2) (by repeat (first | exact List.Mem.head _ | apply List.Mem.tail)) (by repeat (first | exact Rd.nil | apply Rd.here | apply Rd.skip))) d os
    have fy := fun d os => cell_regrown (Blks.cell HM.out (b := bb) (o := 2) (by repeat (first | exact List.Mem.head _ | apply List.Mem.tail)) (by repeat (first | exact Rd.nil | apply Rd.here | apply Rd.skip))) d os
    refine wp_region_quiet_below (by kernel_rfl) (by kernel_rfl) ?_
    repeat (go_big_quiet_step (exact HSG.out _ _))
    refine wpQuiet_nil ?_
    intro _ hw'
    obtain ⟨⟨dq, osq⟩, hw''⟩ := hw'
    subst hw''
    have HN := Aside0.mk (Blks.call HM.out (below_regrown _ dq osq)); clear HM; have HM := HN; clear HN
    clear fx fy
    go_wp2_with fail
    (try simp only [Exit.inBlock, Exit.then])
    have hr := HR.out
    rw [ordI, if_neg (Int.lt_irrefl _), if_neg (Int.lt_irrefl _), if_neg (Int.lt_irrefl _), if_neg (Int.lt_irrefl _), if_pos H2.out] at hr
    subst hr
    go_ret
    exact ⟨rfl, HM.out.bel⟩
   ·skip
    subst h2
    have q1 : (x2 != x2) = false := bne_self_eq_false _
    rw [rounds_succ]
    go_upto_region 4 with (fail)
    have fx := fun d os => cell_regrown (Blks.cell HM.out (b := ba) (o := 2) (by repeat (first | exact List.Mem.head _ | apply List.Mem.tail)) (by repeat (first | exact Rd.nil | apply Rd.here | apply Rd.skip))) d os
    have fy := fun d os => cell_regrown (Blks.cell HM.out (b := bb) (o := 2) (by repeat (first | exact List.Mem.head _ | apply List.Mem.tail)) (by repeat (first | exact Rd.nil | apply Rd.here | apply Rd.skip))) d os
    refine wp_region_quiet_below (by kernel_rfl) (by kernel_rfl) ?_
    repeat (go_big_quiet_step (fail))
    refine wpQuiet_nil ?_
    intro _ hw'
    obtain ⟨⟨dq, osq⟩, hw''⟩ := hw'
    subst hw''
    have HN := Aside0.mk (Blks.call HM.out (below_regrown _ dq osq)); clear HM; have HM := HN; clear HN
    clear fx fy
    generalize grow (redrawn _ dq) osq = wz2 at *
    go_wp2_with fail
    clear q1
    rw [rounds_succ]
    go_upto_region 7 with (fail)
    have hr := HR.out
    rw [ordI, if_neg (Int.lt_irrefl _), if_neg (Int.lt_irrefl _), if_neg (Int.lt_irrefl _), if_neg (Int.lt_irrefl _), if_neg (Int.lt_irrefl _), if_neg (Int.lt_irrefl _)] at hr
    clear HR
    have kA := Blks.cell HM.out (b := ba) (o := 4) (by repeat (first | exact List.Mem.head _ | apply List.Mem.tail)) (by repeat (first | exact Rd.nil | apply Rd.here | apply Rd.skip))
    have kB := Blks.cell HM.out (b := bb) (o := 4) (by repeat (first | exact List.Mem.head _ | apply List.Mem.tail)) (by repeat (first | exact Rd.nil | apply Rd.here | apply Rd.skip))
    by_cases hna : pa.length = 0
    ·obtain rfl := List.length_eq_zero_iff.1 hna
     by_cases hnb : pb.length = 0
     ·obtain rfl := List.length_eq_zero_iff.1 hnb
      have hr2 : r = 0 := hr
      subst hr2
      simp only [List.length_nil] at kA kB
      clear hr
      go_wp2_with fail
      go_ret
      exact ⟨rfl, HM.out.bel⟩
     ·have hpb : pb ≠ [] := fun e => hnb (by rw [e]; rfl)
      have hr2 : r = 1 := by
       rw [hr, List.map_nil]; exact preS_l (by simpa using hpb)
      subst hr2
      simp only [List.length_nil] at kA
      clear hr hpb
      generalize pb.length = nb at *
      have e1 : ((nb : Int) == 0) = false := beq_eq_false_iff_ne.2 (by omega)
      have e2 : ((0 : Int) == (nb : Int)) = false := beq_eq_false_iff_ne.2 (by omega)
      have e3 : (0 == nb) = false := beq_eq_false_iff_ne.2 (by omega)
      go_wp2_with (first | (go_at_call 105; ((with_reducible refine (HS.out _ _).mono ?_); rintro e w' ⟨rfl, ⟨nq, rfl⟩⟩; simp only [if_true, if_false, Bool.false_eq_true, reduceCtorEq, ite_true, ite_false]; have HN := Aside0.mk (Blks.drewN (by repeat (first | exact HM.out | apply Blks.drewN | apply Blks.drew | apply Blks.other)) nq); clear HM; have HM := HN; clear HN)))
      go_ret
      exact ⟨rfl, HM.out.bel⟩
    by_cases hnb : pb.length = 0
    ·obtain rfl := List.length_eq_zero_iff.1 hnb
     have hpa : pa ≠ [] := fun e => hna (by rw [e]; rfl)
     have hr2 : r = -1 := by
      rw [hr, List.map_nil]; exact preS_r (by simpa using hpa)
     subst hr2
     simp only [List.length_nil] at kB
     clear hr hpa
     generalize pa.length = na at *
     have e1 : ((na : Int) == 0) = false := beq_eq_false_iff_ne.2 (by omega)
     have e4 : (na == 0) = false := beq_eq_false_iff_ne.2 (by omega)
     have e5 : decide ((0 : Int) < (na : Int)) = true := decide_eq_true (by omega)
     have e6 : decide (0 < na) = true := decide_eq_true (by omega)
     go_wp2_with (first | (go_at_call 105; ((with_reducible refine (HS.out _ _).mono ?_); rintro e w' ⟨rfl, ⟨nq, rfl⟩⟩; simp only [if_true, if_false, Bool.false_eq_true, reduceCtorEq, ite_true, ite_false]; have HN := Aside0.mk (Blks.drewN (by repeat (first | exact HM.out | apply Blks.drewN | apply Blks.drew | apply Blks.other)) nq); clear HM; have HM := HN; clear HN)))
     go_ret
     exact ⟨rfl, HM.out.bel⟩
    have hpa : pa ≠ [] := fun e => hna (by rw [e]; rfl)
    have hpb : pb ≠ [] := fun e => hnb (by rw [e]; rfl)
    rw [preS_b (by simpa using hpa) (by simpa using hpb)] at hr
    obtain ⟨gA, cA, eA, _, hgA, hcA⟩ := HPA.out.get hpa
    obtain ⟨gB, cB, eB, _, hgB, hcB⟩ := HPB.out.get hpb
    obtain ⟨rfl, _, rfl⟩ : A = some ⟨gA, 0, none⟩ ∧ True ∧ capA = cA := by injection eA with h1 h2 h3; exact ⟨h1, trivial, h3⟩
    obtain ⟨rfl, _, rfl⟩ : B = some ⟨gB, 0, none⟩ ∧ True ∧ capB = cB := by injection eB with h1 h2 h3; exact ⟨h1, trivial, h3⟩
    have HCA := Lib.hid (fun W (hb : Below w.heap.size w W) j (hj : j < pa.length) => (show W.cell? ⟨gA, j, none⟩ = some (.string pa[j]) from (hb.cell (p := ⟨gA, j, none⟩) hgA).trans (hcA j hj)))
    have HCB := Lib.hid (fun W (hb : Below w.heap.size w W) j (hj : j < pb.length) => (show W.cell? ⟨gB, j, none⟩ = some (.string pb[j]) from (hb.cell (p := ⟨gB, j, none⟩) hgB).trans (hcB j hj)))
    have HRR := Lib.hid hr
    have HPA0 := Lib.hid hpa
    have HPB0 := Lib.hid hpb
    clear eA eB hcA hcB hr hpa hpb hgA hgB HPA HPB
    obtain ⟨na, hna2⟩ : ∃ n, pa.length = n := ⟨_, rfl⟩
    obtain ⟨nb, hnb2⟩ : ∃ n, pb.length = n := ⟨_, rfl⟩
    rw [hna2] at kA hna
    rw [hnb2] at kB hnb
    have hla : na ≤ 1000000000 := by have := HLA.out; omega
    have hlb : nb ≤ 1000000000 := by have := HLB.out; omega
    clear HLA HLB
    have HNA := Lib.hid hna2
    have HNB := Lib.hid hnb2
    have HM1 := Aside0.mk (show Blks w wz2 [(bb, [.int .u64 x0, .int .u64 x1, .int .u64 x2, .int .i64 cb, .slice (some ⟨gB, 0, none⟩) nb capB, .string mb], 50), (ba, [.int .u64 x0, .int .u64 x1, .int .u64 x2, .int .i64 ca, .slice (some ⟨gA, 0, none⟩) na capA, .string ma], 50)] by rw [← HNA.out, ← HNB.out]; exact HM.out)
    clear HM hna2 hnb2
    have HM := HM1
    clear HM1
    have e1 : ((na : Int) == 0) = false := beq_eq_false_iff_ne.2 (by omega)
    have e4 : (na == 0) = false := beq_eq_false_iff_ne.2 (by omega)
    have e2 : ((nb : Int) == 0) = false := beq_eq_false_iff_ne.2 (by omega)
    have e3 : (nb == 0) = false := beq_eq_false_iff_ne.2 (by omega)
    go_wp2_with fail
    clear e1 e2 e3 e4 kA kB
    go_loopw [6] (fun v6 wr => ∃ k : Nat, v6 = .int .i64 k ∧ k ≤ na ∧ k ≤ nb ∧ Aside0 (r = listC idC ((pa.map (·.data.toList)).drop k) ((pb.map (·.data.toList)).drop k)) ∧ Aside0 (Blks w wr [(bb, [.int .u64 x0, .int .u64 x1, .int .u64 x2, .int .i64 cb, .slice (some ⟨gB, 0, none⟩) nb capB, .string mb], 50), (ba, [.int .u64 x0, .int .u64 x1, .int .u64 x2, .int .i64 ca, .slice (some ⟨gA, 0, none⟩) na capA, .string ma], 50)])) (fun v6 _ => na - (intOf v6).toNat)
    case atStart => exact ⟨0, rfl, Nat.zero_le _, Nat.zero_le _, ⟨HRR.out⟩, HM⟩
    case round =>
     clear HM HRR
     obtain ⟨k, rfl, hk1, hk2, HRR, HM⟩ := hrel
     have kA := Blks.cell HM.out (b := ba) (o := 4) (by repeat (first | exact List.Mem.head _ | apply List.Mem.tail)) (by repeat (first | exact Rd.nil | apply Rd.here | apply Rd.skip))
     have kB := Blks.cell HM.out (b := bb) (o := 4) (by repeat (first | exact List.Mem.head _ | apply List.Mem.tail)) (by repeat (first | exact Rd.nil | apply Rd.here | apply Rd.skip))
     by_cases h1 : k < na
     ·have d1 : decide ((k : Int) < (na : Int)) = true := decide_eq_true (by omega)
      have d2 : decide (k < na) = true := decide_eq_true h1
      by_cases h2 : k < nb
      ·have d3 : decide ((k : Int) < (nb : Int)) = true := decide_eq_true (by omega)
       have d4 : decide (k < nb) = true := decide_eq_true h2
       have l1 : k < pa.length := by rw [HNA.out]; exact h1
       have l2 : k < pb.length := by rw [HNB.out]; exact h2
       have cA0 := HCA.out _ HM.out.bel k l1
       have cB0 := HCB.out _ HM.out.bel k l2
       have HID := Lib.hid (fun d os => Calls.regrown_of (((vident_any pa[k] pb[k] (HSZ.out _ (List.mem_append_left _ (List.getElem_mem l1))) (HSZ.out _ (List.mem_append_right _ (List.getElem_mem l2))) (grow (redrawn wr d) os)).mono fun e w' h => ⟨h.1, drawn0_below h.2⟩)))
       have HST := Lib.hid (HRR.out.trans (lc_both pa pb k l1 l2))
       clear HRR
       generalize idC pa[k].data.toList pb[k].data.toList = c at *
       generalize pa[k] = sa at *
       generalize pb[k] = sb at *
       clear l1 l2
       go_upto_region 14 with (fail)
       have fA := fun d os => cell_regrown (kA) d os
       have fB := fun d os => cell_regrown (kB) d os
       have gA0 := fun d os => cell_regrown (cA0) d os
       have gB0 := fun d os => cell_regrown (cB0) d os
       refine wp_region_quiet_below (by kernel_rfl) (by kernel_rfl) ?_
       repeat (go_big_quiet_step (exact HID.out _ _))
       refine wpQuiet_nil ?_
       intro _ hw'
       obtain ⟨⟨dq, osq⟩, hw''⟩ := hw'
       subst hw''
       have HN := Aside0.mk (Blks.call HM.out (below_regrown _ dq osq)); clear HM; have HM := HN; clear HN
       clear fA fB gA0 gB0
       clear HID d1 d2 d3 d4
       generalize grow (redrawn _ dq) osq = wz at *
       by_cases hc : c = 0
       ·have q1 : (c != 0) = false := bne_eq_false_iff_eq.2 hc
        have HS2 := Lib.hid (HST.out.trans (if_pos hc))
        clear hc HST
        go_wp2_with fail
        go_roundw
        case rel => exact ⟨k + 1, by go_num, by omega, by omega, ⟨HS2.out⟩, HM⟩
        case measure => simp [intOf]; omega
       ·have q1 : (c != 0) = true := bne_iff_ne.2 hc
        have hr := HST.out.trans (if_neg hc)
        subst hr
        clear hc HST
        go_wp2_with fail
        go_ret
        exact ⟨rfl, HM.out.bel⟩
      ·have d3 : decide ((k : Int) < (nb : Int)) = false := decide_eq_false (by omega)
       have d4 : decide (k < nb) = false := decide_eq_false h2
       obtain rfl : k = nb := by omega
       have hr : r = 1 := HRR.out.trans (lc_right pa pb k (by rw [HNA.out]; exact h1) (by rw [HNB.out]; omega))
       subst hr
       have e1 : ((na : Int) == (k : Int)) = false := beq_eq_false_iff_ne.2 (by omega)
       have e2 : (na == k) = false := beq_eq_false_iff_ne.2 (by omega)
       have e3 : decide ((na : Int) < (k : Int)) = false := decide_eq_false (by omega)
       have e4 : decide (na < k) = false := decide_eq_false (by omega)
       clear HRR HNA HNB h1 h2 hna hnb hk1 hk2 HCA HCB HSZ
       go_wp2_with (first | (go_at_call 105; ((with_reducible refine (HS.out _ _).mono ?_); rintro e w' ⟨rfl, ⟨nq, rfl⟩⟩; simp only [if_true, if_false, Bool.false_eq_true, reduceCtorEq, ite_true, ite_false]; have HN := Aside0.mk (Blks.drewN (by repeat (first | exact HM.out | apply Blks.drewN | apply Blks.drew | apply Blks.other)) nq); clear HM; have HM := HN; clear HN)))
       go_ret
       exact ⟨rfl, HM.out.bel⟩
     ·have d1 : decide ((k : Int) < (na : Int)) = false := decide_eq_false (by omega)
      have d2 : decide (k < na) = false := decide_eq_false h1
      obtain rfl : k = na := by omega
      by_cases h2 : k = nb
      ·have hr : r = 0 := HRR.out.trans (lc_none pa pb k (by rw [HNA.out]; omega) (by rw [HNB.out]; omega))
       subst hr
       subst h2
       clear HRR HNA HNB h1 hna hnb hk1 hk2 HCA HCB HSZ
       go_wp2_with (first | (go_at_call 105; ((with_reducible refine (HS.out _ _).mono ?_); rintro e w' ⟨rfl, ⟨nq, rfl⟩⟩; simp only [if_true, if_false, Bool.false_eq_true, reduceCtorEq, ite_true, ite_false]; have HN := Aside0.mk (Blks.drewN (by repeat (first | exact HM.out | apply Blks.drewN | apply Blks.drew | apply Blks.other)) nq); clear HM; have HM := HN; clear HN)))
       go_ret
       exact ⟨rfl, HM.out.bel⟩
      ·have hr : r = -1 := HRR.out.trans (lc_left pa pb k (by rw [HNA.out]; omega) (by rw [HNB.out]; omega))
       subst hr
       have e1 : ((k : Int) == (nb : Int)) = false := beq_eq_false_iff_ne.2 (by omega)
       have e2 : (k == nb) = false := beq_eq_false_iff_ne.2 (by omega)
       have e3 : decide ((k : Int) < (nb : Int)) = true := decide_eq_true (by omega)
       have e4 : decide (k < nb) = true := decide_eq_true (by omega)
       clear HRR HNA HNB h1 h2 hna hnb hk1 hk2 HCA HCB HSZ
       go_wp2_with (first | (go_at_call 105; ((with_reducible refine (HS.out _ _).mono ?_); rintro e w' ⟨rfl, ⟨nq, rfl⟩⟩; simp only [if_true, if_false, Bool.false_eq_true, reduceCtorEq, ite_true, ite_false]; have HN := Aside0.mk (Blks.drewN (by repeat (first | exact HM.out | apply Blks.drewN | apply Blks.drew | apply Blks.other)) nq); clear HM; have HM := HN; clear HN)))
       go_ret
       exact ⟨rfl, HM.out.bel⟩
   ·skip
    have q1 : (x2 != y2) = true := bne_iff_ne.2 (by omega)
    have q2 : decide (x2 < y2) = false := decide_eq_false (by omega)
    have H2 := Lib.hid h2
    clear h2
    rw [rounds_succ]
    go_upto_region 4 with (fail)
    have fx := fun d os => cell_regrown (Blks.cell HM.out (b := ba) (o := 2) (by repeat (first | exact List.Mem.head _ | apply List.Mem.tail)) (by repeat (first | exact Rd.nil | apply Rd.here | apply Rd.skip))) d os
    have fy := fun d os => cell_regrown (Blks.cell HM.out (b := bb) (o := 2) (by repeat (first | exact List.Mem.head _ | apply List.Mem.tail)) (by repeat (first | exact Rd.nil | apply Rd.here | apply Rd.skip))) d os
    refine wp_region_quiet_below (by kernel_rfl) (by kernel_rfl) ?_
    repeat (go_big_quiet_step (fail))
    refine wpQuiet_nil ?_
    intro _ hw'
    obtain ⟨⟨dq, osq⟩, hw''⟩ := hw'
    subst hw''
    have HN := Aside0.mk (Blks.call HM.out (below_regrown _ dq osq)); clear HM; have HM := HN; clear HN
    clear fx fy
    go_upto_region 5 with (fail)
    generalize grow (redrawn _ dq) osq = wz at *
    have HSG := Lib.hid (fun d os => Calls.regrown_of (((HS.out false (grow (redrawn wz d) os)).mono fun e w' h => ⟨h.1, drawn0_below h.2⟩)))
    have fx := fun d os => cell_regrown (Blks.cell HM.out (b := ba) (o := 2) (by repeat (first | exact List.Mem.head _ | apply List.Mem.tail)) (by repeat (first | exact Rd.nil | apply Rd.here | apply Rd.skip))) d os
    have fy := fun d os => cell_regrown (Blks.cell HM.out (b := bb) (o := 2) (by repeat (first | exact List.Mem.head _ | apply List.Mem.tail)) (by repeat (first | exact Rd.nil | apply Rd.here | apply Rd.skip))) d os
    refine wp_region_quiet_below (by kernel_rfl) (by kernel_rfl) ?_
    repeat (go_big_quiet_step (exact HSG.out _ _))
    refine wpQuiet_nil ?_
    intro _ hw'
    obtain ⟨⟨dq, osq⟩, hw''⟩ := hw'
    subst hw''
    have HN := Aside0.mk (Blks.call HM.out (below_regrown _ dq osq)); clear HM; have HM := HN; clear HN
    clear fx fy
    go_wp2_with fail
    (try simp only [Exit.inBlock, Exit.then])
    have hr := HR.out
    rw [ordI, if_neg (Int.lt_irrefl _), if_neg (Int.lt_irrefl _), if_neg (Int.lt_irrefl _), if_neg (Int.lt_irrefl _), if_neg (by have := H2.out; omega), if_pos H2.out] at hr
    subst hr
    go_ret
    exact ⟨rfl, HM.out.bel⟩
  ·skip
   have q1 : (x1 != y1) = true := bne_iff_ne.2 (by omega)
   have q2 : decide (x1 < y1) = false := decide_eq_false (by omega)
   have H1 := Lib.hid h1
   clear h1
   rw [rounds_succ]
   go_upto_region 4 with (fail)
   have fx := fun d os => cell_regrown (Blks.cell HM.out (b := ba) (o := 1) (by repeat (first | exact List.Mem.head _ | apply List.Mem.tail)) (by repeat (first | exact Rd.nil | apply Rd.here | apply Rd.skip))) d os
   have fy := fun d os => cell_regrown (Blks.cell HM.out (b := bb) (o := 1) (by repeat (first | exact List.Mem.head _ | apply List.Mem.tail)) (by repeat (first | exact Rd.nil | apply Rd.here | apply Rd.skip))) d os
   refine wp_region_quiet_below (by kernel_rfl) (by kernel_rfl) ?_
   repeat (go_big_quiet_step (fail))
   refine wpQuiet_nil ?_
   intro _ hw'
   obtain ⟨⟨dq, osq⟩, hw''⟩ := hw'
   subst hw''
   have HN := Aside0.mk (Blks.call HM.out (below_regrown _ dq osq)); clear HM; have HM := HN; clear HN
   clear fx fy
   go_upto_region 5 with (fail)
   generalize grow (redrawn _ dq) osq = wz at *
   have HSG := Lib.hid (fun d os => Calls.regrown_of (((HS.out false (grow (redrawn wz d) os)).mono fun e w' h => ⟨h.1, drawn0_below h.2⟩)))
   have fx := fun d os => cell_regrown (Blks.cell HM.out (b := ba) (o := 1) (by repeat (first | exact List.Mem.head _ | apply List.Mem.tail)) (by repeat (first | exact Rd.nil | apply Rd.here | apply Rd.skip))) d os
   have fy := fun d os => cell_regrown (Blks.cell HM.out (b := bb) (o := 1) (by repeat (first | exact List.Mem.head _ | apply List.Mem.tail)) (by repeat (first | exact Rd.nil | apply Rd.here | apply Rd.skip))) d os
   refine wp_region_quiet_below (by kernel_rfl) (by kernel_rfl) ?_
   repeat (go_big_quiet_step (exact HSG.out _ _))
   refine wpQuiet_nil ?_
   intro _ hw'
   obtain ⟨⟨dq, osq⟩, hw''⟩ := hw'
   subst hw''
   have HN := Aside0.mk (Blks.call HM.out (below_regrown _ dq osq)); clear HM; have HM := HN; clear HN
   clear fx fy
   go_wp2_with fail
   (try simp only [Exit.inBlock, Exit.then])
   have hr := HR.out
   rw [ordI, if_neg (Int.lt_irrefl _), if_neg (Int.lt_irrefl _), if_neg (by have := H1.out; omega), if_pos H1.out] at hr
   subst hr
   go_ret
   exact ⟨rfl, HM.out.bel⟩
 ·skip
  have q1 : (x0 != y0) = true := bne_iff_ne.2 (by omega)
  have q2 : decide (x0 < y0) = false := decide_eq_false (by omega)
  have H0 := Lib.hid h0
  clear h0
  go_enter Tryz.func82, Tryz.ntmps82
  go_wp2_with (first | (refine m_box (x := .tmp 0) (by repeat (first | exact HM.out | apply Blks.drewN | apply Blks.drew | apply Blks.other)) (h := ?_); intro ba _ HN; clear HM; have HM := HN; clear HN) | (refine m_box (x := .tmp 1) (by repeat (first | exact HM.out | apply Blks.drewN | apply Blks.drew | apply Blks.other)) (h := ?_); intro bb _ HN; clear HM; have HM := HN; clear HN))
  refine wp_loop_rounds 4 ?_
  rw [rounds_succ]
  go_upto_region 4 with (fail)
  have fx := fun d os => cell_regrown (Blks.cell HM.out (b := ba) (o := 0) (by repeat (first | exact List.Mem.head _ | apply List.Mem.tail)) (by repeat (first | exact Rd.nil | apply Rd.here | apply Rd.skip))) d os
  have fy := fun d os => cell_regrown (Blks.cell HM.out (b := bb) (o := 0) (by repeat (first | exact List.Mem.head _ | apply List.Mem.tail)) (by repeat (first | exact Rd.nil | apply Rd.here | apply Rd.skip))) d os
  refine wp_region_quiet_below (by kernel_rfl) (by kernel_rfl) ?_
  repeat (go_big_quiet_step (fail))
  refine wpQuiet_nil ?_
  intro _ hw'
  obtain ⟨⟨dq, osq⟩, hw''⟩ := hw'
  subst hw''
  have HN := Aside0.mk (Blks.call HM.out (below_regrown _ dq osq)); clear HM; have HM := HN; clear HN
  clear fx fy
  go_upto_region 5 with (fail)
  generalize grow (redrawn _ dq) osq = wz at *
  have HSG := Lib.hid (fun d os => Calls.regrown_of (((HS.out false (grow (redrawn wz d) os)).mono fun e w' h => ⟨h.1, drawn0_below h.2⟩)))
  have fx := fun d os => cell_regrown (Blks.cell HM.out (b := ba) (o := 0) (by repeat (first | exact List.Mem.head _ | apply List.Mem.tail)) (by repeat (first | exact Rd.nil | apply Rd.here | apply Rd.skip))) d os
  have fy := fun d os => cell_regrown (Blks.cell HM.out (b := bb) (o := 0) (by repeat (first | exact List.Mem.head _ | apply List.Mem.tail)) (by repeat (first | exact Rd.nil | apply Rd.here | apply Rd.skip))) d os
  refine wp_region_quiet_below (by kernel_rfl) (by kernel_rfl) ?_
  repeat (go_big_quiet_step (exact HSG.out _ _))
  refine wpQuiet_nil ?_
  intro _ hw'
  obtain ⟨⟨dq, osq⟩, hw''⟩ := hw'
  subst hw''
  have HN := Aside0.mk (Blks.call HM.out (below_regrown _ dq osq)); clear HM; have HM := HN; clear HN
  clear fx fy
  go_wp2_with fail
  (try simp only [Exit.inBlock, Exit.then])
  have hr := HR.out
  rw [ordI, if_neg (by have := H0.out; omega), if_pos H0.out] at hr
  subst hr
  go_ret
  exact ⟨rfl, HM.out.bel⟩
theorem sem_order (a b : SV) (ca cb : Nat) (va vb : Value) (w : World) (base : Nat) (ha : SemAt w base va a ca) (hb : SemAt w base vb b cb)
  (ia : a.pre.data.toList = [] ∨ qIdentsB a.pre.data.toList = true) (ib : b.pre.data.toList = [] ∨ qIdentsB b.pre.data.toList = true) (sa : a.pre.size ≤ 100000000) (sb : b.pre.size ≤ 100000000) :
  Calls Tryz.prog 82 #[va, vb] w fun e w' => e = .returned (.int .i64 (cmpV a b)) ∧ Below w.heap.size w w' := by
 obtain ⟨PA, rfl, hA⟩ := ha
 obtain ⟨PB, rfl, hB⟩ := hb
 have sz : ∀ (l : List UInt8), l.length ≤ 100000000 → ∀ p ∈ (preParts l).map mkB, p.size ≤ 140737488351232 := by
  intro l hl p hp
  obtain ⟨y, hy, rfl⟩ := List.mem_map.1 hp
  unfold preParts at hy
  split at hy
  ·cases hy
  ·have := parts_size 46 l y hy
   have : (mkB y).size = y.length := by show y.toArray.size = _; rw [List.size_toArray]
   omega
 have ln : ∀ (l : List UInt8), l.length ≤ 100000000 → ((preParts l).map mkB).length ≤ 1000000000 := by
  intro l hl
  have := parts_len 46 l
  rw [List.length_map]
  unfold preParts
  split
  ·simp
  ·omega
 have la : ∀ s : ByteArray, s.data.toList.length = s.size := fun s => by rw [Array.length_toList]; rfl
 have mm : ∀ l : List (List UInt8), (l.map mkB).map (·.data.toList) = l := fun l => by
  rw [List.map_map]; exact (List.map_congr_left (fun x _ => rfl)).trans (List.map_id l)
 refine (ord_main _ _ _ _ _ _ _ _ _ _ _ _ _ _ w base hA hB ?_ ?_ ?_).mono ?_
 ·intro p hp
  rcases List.mem_append.1 hp with h | h
  ·exact sz _ (by rw [la]; exact sa) p h
  ·exact sz _ (by rw [la]; exact sb) p h
 ·exact ln _ (by rw [la]; exact sa)
 ·exact ln _ (by rw [la]; exact sb)
 ·rintro e w' ⟨rfl, hb⟩
  refine ⟨?_, hb⟩
  rw [ordI_cmp, mm, mm, preS_eq ia ib]
end Go.Proofs.YtgoeiflddikihaaGreatDoor.Ver
end
section
namespace Go.Proofs.YtgoeiflddikihaaGreatDoor.Ver
set_option linter.unusedSimpArgs false
set_option linter.unusedVariables false
open Go.Sort Go.RowKit Go.Proofs.YtgoeiflddikihaaGreatDoor.Dig Go.Proofs.YtgoeiflddikihaaGreatDoorW.PrintWords Go.Proofs.YtgoeiflddikihaaGreatDoor.Mem Go.Proofs.YtgoeiflddikihaaGreatDoor.Ord
theorem bytesC_texts (x y : ByteArray) : bytesC x.data.toList y.data.toList = if x.toList = y.toList then 0 else if Op.bytesLess x.toList y.toList = true then -1 else 1 := by
  rw [bytesC_form, ByteArray.toList_eq, ByteArray.toList_eq]
  by_cases h1 : Op.bytesLess x.data.toList y.data.toList = true
  · rw [if_pos h1, if_neg, if_pos h1]
    intro e
    have := (bytesC_less x.data.toList y.data.toList).2 h1
    rw [e, cmp_bytes.refl] at this; omega
  · rw [if_neg h1]; split <;> simp [h1, *]
set_option maxRecDepth 20000 in
set_option maxHeartbeats 8000000 in
theorem vo_rank (k1 k2 : Int) (t1 r1 t2 r2 : ByteArray) (down : Bool) (hk1 : 0 ≤ k1 ∧ k1 ≤ 3) (hk2 : 0 ≤ k2 ∧ k2 ≤ 3) (ht1 : t1.size ≤ 100000) (ht2 : t2.size ≤ 100000) (w : World) (x y : Int) (hx : rankS k1 t1 = x) (hy : rankS k2 t2 = y) (hne : x ≠ y) :
    Calls Tryz.prog 84 #[.agg #[.int .i64 k1, .string t1, .string r1], .agg #[.int .i64 k2, .string t2, .string r2], .bool down] w fun e w' => e = .returned (.int .i64 (if x < y then -1 else 1)) ∧ Below w.heap.size w w' := by
  have HS := Lib.hid (fun b W => vsign_any b W)
  have HM := Aside0.mk (Blks.start w)
  have HR1 := Lib.hid (fun W => rank_any k1 t1 r1 hk1 ht1 W)
  have HR2 := Lib.hid (fun W => rank_any k2 t2 r2 hk2 ht2 W)
  rw [hx] at HR1
  rw [hy] at HR2
  clear hk1 hk2 ht1 ht2 hx hy
  have e1 : (x != y) = true := bne_iff_ne.2 hne
  by_cases hl : x < y
  · have e2 : decide (x < y) = true := decide_eq_true hl
    rw [if_pos hl]
    clear hne hl
    go_enter Tryz.func84, Tryz.ntmps84
    go_upto_region 1 with (first | (refine m_box (x := .tmp 0) (by repeat (first | exact HM.out | apply Blks.drewN | apply Blks.drew | apply Blks.other)) (h := ?_); intro ba wq HN; clear HM; have HM := HN; clear HN) | (refine m_box (x := .tmp 1) (by repeat (first | exact HM.out | apply Blks.drewN | apply Blks.drew | apply Blks.other)) (h := ?_); intro bb wq HN; clear HM; have HM := HN; clear HN))
    have HQ1 := Lib.hid (fun d os => Calls.regrown_of (HR1.out (grow (redrawn wq d) os)))
    have HQ2 := Lib.hid (fun d os => Calls.regrown_of (HR2.out (grow (redrawn wq d) os)))
    have f0 := fun d os => cell_regrown (Blks.cell HM.out (b := ba) (o := 0) (by repeat (first | exact List.Mem.head _ | apply List.Mem.tail)) (by repeat (first | exact Rd.nil | apply Rd.here | apply Rd.skip))) d os
    have f1 := fun d os => cell_regrown (Blks.cell HM.out (b := ba) (o := 1) (by repeat (first | exact List.Mem.head _ | apply List.Mem.tail)) (by repeat (first | exact Rd.nil | apply Rd.here | apply Rd.skip))) d os
    have f2 := fun d os => cell_regrown (Blks.cell HM.out (b := ba) (o := 2) (by repeat (first | exact List.Mem.head _ | apply List.Mem.tail)) (by repeat (first | exact Rd.nil | apply Rd.here | apply Rd.skip))) d os
    have g0 := fun d os => cell_regrown (Blks.cell HM.out (b := bb) (o := 0) (by repeat (first | exact List.Mem.head _ | apply List.Mem.tail)) (by repeat (first | exact Rd.nil | apply Rd.here | apply Rd.skip))) d os
    have g1 := fun d os => cell_regrown (Blks.cell HM.out (b := bb) (o := 1) (by repeat (first | exact List.Mem.head _ | apply List.Mem.tail)) (by repeat (first | exact Rd.nil | apply Rd.here | apply Rd.skip))) d os
    have g2 := fun d os => cell_regrown (Blks.cell HM.out (b := bb) (o := 2) (by repeat (first | exact List.Mem.head _ | apply List.Mem.tail)) (by repeat (first | exact Rd.nil | apply Rd.here | apply Rd.skip))) d os
    refine wp_region_quiet_below (by kernel_rfl) (by kernel_rfl) ?_
    repeat (go_big_quiet_step (first | (with_reducible exact HQ1.out _ _) | (with_reducible exact HQ2.out _ _)))
    refine wpQuiet_nil ?_
    intro _ hw'
    obtain ⟨⟨dq, osq⟩, hw''⟩ := hw'
    subst hw''
    have HN := Aside0.mk (Blks.call HM.out (below_regrown _ dq osq)); clear HM; have HM := HN; clear HN
    clear f0 f1 f2 g0 g1 g2
    generalize grow (redrawn _ dq) osq = wz at *
    clear HQ1 HQ2
    go_wp2_with (first | (go_at_call 105; ((with_reducible refine (HS.out _ _).mono ?_); rintro e w' ⟨rfl, ⟨nq, rfl⟩⟩; simp only [if_true, if_false, Bool.false_eq_true, reduceCtorEq, ite_true, ite_false]; have HN := Aside0.mk (Blks.drewN (by repeat (first | exact HM.out | apply Blks.drewN | apply Blks.drew | apply Blks.other)) nq); clear HM; have HM := HN; clear HN)))
    go_ret
    exact ⟨rfl, HM.out.bel⟩
  · have e2 : decide (x < y) = false := decide_eq_false hl
    rw [if_neg hl]
    clear hne hl
    go_enter Tryz.func84, Tryz.ntmps84
    go_upto_region 1 with (first | (refine m_box (x := .tmp 0) (by repeat (first | exact HM.out | apply Blks.drewN | apply Blks.drew | apply Blks.other)) (h := ?_); intro ba wq HN; clear HM; have HM := HN; clear HN) | (refine m_box (x := .tmp 1) (by repeat (first | exact HM.out | apply Blks.drewN | apply Blks.drew | apply Blks.other)) (h := ?_); intro bb wq HN; clear HM; have HM := HN; clear HN))
    have HQ1 := Lib.hid (fun d os => Calls.regrown_of (HR1.out (grow (redrawn wq d) os)))
    have HQ2 := Lib.hid (fun d os => Calls.regrown_of (HR2.out (grow (redrawn wq d) os)))
    have f0 := fun d os => cell_regrown (Blks.cell HM.out (b := ba) (o := 0) (by repeat (first | exact List.Mem.head _ | apply List.Mem.tail)) (by repeat (first | exact Rd.nil | apply Rd.here | apply Rd.skip))) d os
    have f1 := fun d os => cell_regrown (Blks.cell HM.out (b := ba) (o := 1) (by repeat (first | exact List.Mem.head _ | apply List.Mem.tail)) (by repeat (first | exact Rd.nil | apply Rd.here | apply Rd.skip))) d os
    have f2 := fun d os => cell_regrown (Blks.cell HM.out (b := ba) (o := 2) (by repeat (first | exact List.Mem.head _ | apply List.Mem.tail)) (by repeat (first | exact Rd.nil | apply Rd.here | apply Rd.skip))) d os
    have g0 := fun d os => cell_regrown (Blks.cell HM.out (b := bb) (o := 0) (by repeat (first | exact List.Mem.head _ | apply List.Mem.tail)) (by repeat (first | exact Rd.nil | apply Rd.here | apply Rd.skip))) d os
    have g1 := fun d os => cell_regrown (Blks.cell HM.out (b := bb) (o := 1) (by repeat (first | exact List.Mem.head _ | apply List.Mem.tail)) (by repeat (first | exact Rd.nil | apply Rd.here | apply Rd.skip))) d os
    have g2 := fun d os => cell_regrown (Blks.cell HM.out (b := bb) (o := 2) (by repeat (first | exact List.Mem.head _ | apply List.Mem.tail)) (by repeat (first | exact Rd.nil | apply Rd.here | apply Rd.skip))) d os
    refine wp_region_quiet_below (by kernel_rfl) (by kernel_rfl) ?_
    repeat (go_big_quiet_step (first | (with_reducible exact HQ1.out _ _) | (with_reducible exact HQ2.out _ _)))
    refine wpQuiet_nil ?_
    intro _ hw'
    obtain ⟨⟨dq, osq⟩, hw''⟩ := hw'
    subst hw''
    have HN := Aside0.mk (Blks.call HM.out (below_regrown _ dq osq)); clear HM; have HM := HN; clear HN
    clear f0 f1 f2 g0 g1 g2
    generalize grow (redrawn _ dq) osq = wz at *
    clear HQ1 HQ2
    go_wp2_with (first | (go_at_call 105; ((with_reducible refine (HS.out _ _).mono ?_); rintro e w' ⟨rfl, ⟨nq, rfl⟩⟩; simp only [if_true, if_false, Bool.false_eq_true, reduceCtorEq, ite_true, ite_false]; have HN := Aside0.mk (Blks.drewN (by repeat (first | exact HM.out | apply Blks.drewN | apply Blks.drew | apply Blks.other)) nq); clear HM; have HM := HN; clear HN)))
    go_ret
    exact ⟨rfl, HM.out.bel⟩
set_option maxRecDepth 20000 in
set_option maxHeartbeats 8000000 in
theorem vo_textr (k1 k2 : Int) (t1 r1 t2 r2 : ByteArray) (down : Bool) (hk1 : 0 ≤ k1 ∧ k1 ≤ 3) (hk2 : 0 ≤ k2 ∧ k2 ≤ 3) (ht1 : t1.size ≤ 100000) (ht2 : t2.size ≤ 100000) (w : World) (x : Int) (hx : rankS k1 t1 = x) (hy : rankS k2 t2 = x) (hz : typS k1 t1 = 0) :
    Calls Tryz.prog 84 #[.agg #[.int .i64 k1, .string t1, .string r1], .agg #[.int .i64 k2, .string t2, .string r2], .bool down] w fun e w' => e = .returned (.int .i64 (bytesC t1.data.toList t2.data.toList)) ∧ Below w.heap.size w w' := by
  rw [bytesC_texts]
  have HS := Lib.hid (fun b W => vsign_any b W)
  have HM := Aside0.mk (Blks.start w)
  have HR1 := Lib.hid (fun W => rank_any k1 t1 r1 hk1 ht1 W)
  have HR2 := Lib.hid (fun W => rank_any k2 t2 r2 hk2 ht2 W)
  rw [hx] at HR1
  rw [hy] at HR2
  have hty := fun W => type_any k1 t1 r1 hk1 ht1 W
  simp only [hz] at hty
  have HTY := Lib.hid hty
  clear hk1 hk2 ht1 ht2 hx hy hz hty
  by_cases he : t1.toList = t2.toList
  · have c1 : (t1.toList == t2.toList) = true := beq_iff_eq.2 he
    rw [if_pos he]
    clear he
    go_enter Tryz.func84, Tryz.ntmps84
    go_upto_region 1 with (first | (refine m_box (x := .tmp 0) (by repeat (first | exact HM.out | apply Blks.drewN | apply Blks.drew | apply Blks.other)) (h := ?_); intro ba wq HN; clear HM; have HM := HN; clear HN) | (refine m_box (x := .tmp 1) (by repeat (first | exact HM.out | apply Blks.drewN | apply Blks.drew | apply Blks.other)) (h := ?_); intro bb wq HN; clear HM; have HM := HN; clear HN))
    have HQ1 := Lib.hid (fun d os => Calls.regrown_of (HR1.out (grow (redrawn wq d) os)))
    have HQ2 := Lib.hid (fun d os => Calls.regrown_of (HR2.out (grow (redrawn wq d) os)))
    have f0 := fun d os => cell_regrown (Blks.cell HM.out (b := ba) (o := 0) (by repeat (first | exact List.Mem.head _ | apply List.Mem.tail)) (by repeat (first | exact Rd.nil | apply Rd.here | apply Rd.skip))) d os
    have f1 := fun d os => cell_regrown (Blks.cell HM.out (b := ba) (o := 1) (by repeat (first | exact List.Mem.head _ | apply List.Mem.tail)) (by repeat (first | exact Rd.nil | apply Rd.here | apply Rd.skip))) d os
    have f2 := fun d os => cell_regrown (Blks.cell HM.out (b := ba) (o := 2) (by repeat (first | exact List.Mem.head _ | apply List.Mem.tail)) (by repeat (first | exact Rd.nil | apply Rd.here | apply Rd.skip))) d os
    have g0 := fun d os => cell_regrown (Blks.cell HM.out (b := bb) (o := 0) (by repeat (first | exact List.Mem.head _ | apply List.Mem.tail)) (by repeat (first | exact Rd.nil | apply Rd.here | apply Rd.skip))) d os
    have g1 := fun d os => cell_regrown (Blks.cell HM.out (b := bb) (o := 1) (by repeat (first | exact List.Mem.head _ | apply List.Mem.tail)) (by repeat (first | exact Rd.nil | apply Rd.here | apply Rd.skip))) d os
    have g2 := fun d os => cell_regrown (Blks.cell HM.out (b := bb) (o := 2) (by repeat (first | exact List.Mem.head _ | apply List.Mem.tail)) (by repeat (first | exact Rd.nil | apply Rd.here | apply Rd.skip))) d os
    refine wp_region_quiet_below (by kernel_rfl) (by kernel_rfl) ?_
    repeat (go_big_quiet_step (first | (with_reducible exact HQ1.out _ _) | (with_reducible exact HQ2.out _ _)))
    refine wpQuiet_nil ?_
    intro _ hw'
    obtain ⟨⟨dq, osq⟩, hw''⟩ := hw'
    subst hw''
    have HN := Aside0.mk (Blks.call HM.out (below_regrown _ dq osq)); clear HM; have HM := HN; clear HN
    clear f0 f1 f2 g0 g1 g2
    generalize grow (redrawn _ dq) osq = wz at *
    clear HQ1 HQ2
    go_wp2_with (first | (refine m_load (by repeat (first | exact HM.out | apply Blks.drewN | apply Blks.drew | apply Blks.other)) (h := ?_)) | (refine m_load1 (by repeat (first | exact HM.out | apply Blks.drewN | apply Blks.drew | apply Blks.other)) (h := ?_)) | (go_at_call 44; ((with_reducible refine (HTY.out _).mono ?_); rintro e w2 ⟨rfl, hb⟩; have HN := Aside0.mk (Blks.call (by repeat (first | exact HM.out | apply Blks.drewN | apply Blks.drew | apply Blks.other)) hb); clear HM hb; have HM := HN; clear HN)) | (go_at_call 105; ((with_reducible refine (HS.out _ _).mono ?_); rintro e w' ⟨rfl, ⟨nq, rfl⟩⟩; simp only [if_true, if_false, Bool.false_eq_true, reduceCtorEq, ite_true, ite_false]; have HN := Aside0.mk (Blks.drewN (by repeat (first | exact HM.out | apply Blks.drewN | apply Blks.drew | apply Blks.other)) nq); clear HM; have HM := HN; clear HN)))
    go_ret
    exact ⟨rfl, HM.out.bel⟩
  · have c1 : (t1.toList == t2.toList) = false := beq_eq_false_iff_ne.2 he
    rw [if_neg he]
    clear he
    cases c2 : Op.bytesLess t1.toList t2.toList
    · rw [if_neg (by decide)]
      go_enter Tryz.func84, Tryz.ntmps84
      go_upto_region 1 with (first | (refine m_box (x := .tmp 0) (by repeat (first | exact HM.out | apply Blks.drewN | apply Blks.drew | apply Blks.other)) (h := ?_); intro ba wq HN; clear HM; have HM := HN; clear HN) | (refine m_box (x := .tmp 1) (by repeat (first | exact HM.out | apply Blks.drewN | apply Blks.drew | apply Blks.other)) (h := ?_); intro bb wq HN; clear HM; have HM := HN; clear HN))
      have HQ1 := Lib.hid (fun d os => Calls.regrown_of (HR1.out (grow (redrawn wq d) os)))
      have HQ2 := Lib.hid (fun d os => Calls.regrown_of (HR2.out (grow (redrawn wq d) os)))
      have f0 := fun d os => cell_regrown (Blks.cell HM.out (b := ba) (o := 0) (by repeat (first | exact List.Mem.head _ | apply List.Mem.tail)) (by repeat (first | exact Rd.nil | apply Rd.here | apply Rd.skip))) d os
      have f1 := fun d os => cell_regrown (Blks.cell HM.out (b := ba) (o := 1) (by repeat (first | exact List.Mem.head _ | apply List.Mem.tail)) (by repeat (first | exact Rd.nil | apply Rd.here | apply Rd.skip))) d os
      have f2 := fun d os => cell_regrown (Blks.cell HM.out (b := ba) (o := 2) (by repeat (first | exact List.Mem.head _ | apply List.Mem.tail)) (by repeat (first | exact Rd.nil | apply Rd.here | apply Rd.skip))) d os
      have g0 := fun d os => cell_regrown (Blks.cell HM.out (b := bb) (o := 0) (by repeat (first | exact List.Mem.head _ | apply List.Mem.tail)) (by repeat (first | exact Rd.nil | apply Rd.here | apply Rd.skip))) d os
      have g1 := fun d os => cell_regrown (Blks.cell HM.out (b := bb) (o := 1) (by repeat (first | exact List.Mem.head _ | apply List.Mem.tail)) (by repeat (first | exact Rd.nil | apply Rd.here | apply Rd.skip))) d os
      have g2 := fun d os => cell_regrown (Blks.cell HM.out (b := bb) (o := 2) (by repeat (first | exact List.Mem.head _ | apply List.Mem.tail)) (by repeat (first | exact Rd.nil | apply Rd.here | apply Rd.skip))) d os
      refine wp_region_quiet_below (by kernel_rfl) (by kernel_rfl) ?_
      repeat (go_big_quiet_step (first | (with_reducible exact HQ1.out _ _) | (with_reducible exact HQ2.out _ _)))
      refine wpQuiet_nil ?_
      intro _ hw'
      obtain ⟨⟨dq, osq⟩, hw''⟩ := hw'
      subst hw''
      have HN := Aside0.mk (Blks.call HM.out (below_regrown _ dq osq)); clear HM; have HM := HN; clear HN
      clear f0 f1 f2 g0 g1 g2
      generalize grow (redrawn _ dq) osq = wz at *
      clear HQ1 HQ2
      go_wp2_with (first | (refine m_load (by repeat (first | exact HM.out | apply Blks.drewN | apply Blks.drew | apply Blks.other)) (h := ?_)) | (refine m_load1 (by repeat (first | exact HM.out | apply Blks.drewN | apply Blks.drew | apply Blks.other)) (h := ?_)) | (go_at_call 44; ((with_reducible refine (HTY.out _).mono ?_); rintro e w2 ⟨rfl, hb⟩; have HN := Aside0.mk (Blks.call (by repeat (first | exact HM.out | apply Blks.drewN | apply Blks.drew | apply Blks.other)) hb); clear HM hb; have HM := HN; clear HN)) | (go_at_call 105; ((with_reducible refine (HS.out _ _).mono ?_); rintro e w' ⟨rfl, ⟨nq, rfl⟩⟩; simp only [if_true, if_false, Bool.false_eq_true, reduceCtorEq, ite_true, ite_false]; have HN := Aside0.mk (Blks.drewN (by repeat (first | exact HM.out | apply Blks.drewN | apply Blks.drew | apply Blks.other)) nq); clear HM; have HM := HN; clear HN)))
      go_ret
      exact ⟨rfl, HM.out.bel⟩
    · rw [if_pos rfl]
      go_enter Tryz.func84, Tryz.ntmps84
      go_upto_region 1 with (first | (refine m_box (x := .tmp 0) (by repeat (first | exact HM.out | apply Blks.drewN | apply Blks.drew | apply Blks.other)) (h := ?_); intro ba wq HN; clear HM; have HM := HN; clear HN) | (refine m_box (x := .tmp 1) (by repeat (first | exact HM.out | apply Blks.drewN | apply Blks.drew | apply Blks.other)) (h := ?_); intro bb wq HN; clear HM; have HM := HN; clear HN))
      have HQ1 := Lib.hid (fun d os => Calls.regrown_of (HR1.out (grow (redrawn wq d) os)))
      have HQ2 := Lib.hid (fun d os => Calls.regrown_of (HR2.out (grow (redrawn wq d) os)))
      have f0 := fun d os => cell_regrown (Blks.cell HM.out (b := ba) (o := 0) (by repeat (first | exact List.Mem.head _ | apply List.Mem.tail)) (by repeat (first | exact Rd.nil | apply Rd.here | apply Rd.skip))) d os
      have f1 := fun d os => cell_regrown (Blks.cell HM.out (b := ba) (o := 1) (by repeat (first | exact List.Mem.head _ | apply List.Mem.tail)) (by repeat (first | exact Rd.nil | apply Rd.here | apply Rd.skip))) d os
      have f2 := fun d os => cell_regrown (Blks.cell HM.out (b := ba) (o := 2) (by repeat (first | exact List.Mem.head _ | apply List.Mem.tail)) (by repeat (first | exact Rd.nil | apply Rd.here | apply Rd.skip))) d os
      have g0 := fun d os => cell_regrown (Blks.cell HM.out (b := bb) (o := 0) (by repeat (first | exact List.Mem.head _ | apply List.Mem.tail)) (by repeat (first | exact Rd.nil | apply Rd.here | apply Rd.skip))) d os
      have g1 := fun d os => cell_regrown (Blks.cell HM.out (b := bb) (o := 1) (by repeat (first | exact List.Mem.head _ | apply List.Mem.tail)) (by repeat (first | exact Rd.nil | apply Rd.here | apply Rd.skip))) d os
      have g2 := fun d os => cell_regrown (Blks.cell HM.out (b := bb) (o := 2) (by repeat (first | exact List.Mem.head _ | apply List.Mem.tail)) (by repeat (first | exact Rd.nil | apply Rd.here | apply Rd.skip))) d os
      refine wp_region_quiet_below (by kernel_rfl) (by kernel_rfl) ?_
      repeat (go_big_quiet_step (first | (with_reducible exact HQ1.out _ _) | (with_reducible exact HQ2.out _ _)))
      refine wpQuiet_nil ?_
      intro _ hw'
      obtain ⟨⟨dq, osq⟩, hw''⟩ := hw'
      subst hw''
      have HN := Aside0.mk (Blks.call HM.out (below_regrown _ dq osq)); clear HM; have HM := HN; clear HN
      clear f0 f1 f2 g0 g1 g2
      generalize grow (redrawn _ dq) osq = wz at *
      clear HQ1 HQ2
      go_wp2_with (first | (refine m_load (by repeat (first | exact HM.out | apply Blks.drewN | apply Blks.drew | apply Blks.other)) (h := ?_)) | (refine m_load1 (by repeat (first | exact HM.out | apply Blks.drewN | apply Blks.drew | apply Blks.other)) (h := ?_)) | (go_at_call 44; ((with_reducible refine (HTY.out _).mono ?_); rintro e w2 ⟨rfl, hb⟩; have HN := Aside0.mk (Blks.call (by repeat (first | exact HM.out | apply Blks.drewN | apply Blks.drew | apply Blks.other)) hb); clear HM hb; have HM := HN; clear HN)) | (go_at_call 105; ((with_reducible refine (HS.out _ _).mono ?_); rintro e w' ⟨rfl, ⟨nq, rfl⟩⟩; simp only [if_true, if_false, Bool.false_eq_true, reduceCtorEq, ite_true, ite_false]; have HN := Aside0.mk (Blks.drewN (by repeat (first | exact HM.out | apply Blks.drewN | apply Blks.drew | apply Blks.other)) nq); clear HM; have HM := HN; clear HN)))
      go_ret
      exact ⟨rfl, HM.out.bel⟩
set_option maxRecDepth 20000 in
set_option maxHeartbeats 8000000 in
theorem vo_textp (k1 k2 : Int) (t1 r1 t2 r2 : ByteArray) (down : Bool) (hk1 : 0 ≤ k1 ∧ k1 ≤ 3) (hk2 : 0 ≤ k2 ∧ k2 ≤ 3) (ht1 : t1.size ≤ 100000) (ht2 : t2.size ≤ 100000) (w : World) (x : Int) (hx : rankS k1 t1 = x) (hy : rankS k2 t2 = x) (hz : typS k1 t1 = 1) :
    Calls Tryz.prog 84 #[.agg #[.int .i64 k1, .string t1, .string r1], .agg #[.int .i64 k2, .string t2, .string r2], .bool down] w fun e w' => e = .returned (.int .i64 (bytesC t1.data.toList t2.data.toList)) ∧ Below w.heap.size w w' := by
  rw [bytesC_texts]
  have HS := Lib.hid (fun b W => vsign_any b W)
  have HM := Aside0.mk (Blks.start w)
  have HR1 := Lib.hid (fun W => rank_any k1 t1 r1 hk1 ht1 W)
  have HR2 := Lib.hid (fun W => rank_any k2 t2 r2 hk2 ht2 W)
  rw [hx] at HR1
  rw [hy] at HR2
  have hty := fun W => type_any k1 t1 r1 hk1 ht1 W
  simp only [hz] at hty
  have HTY := Lib.hid hty
  clear hk1 hk2 ht1 ht2 hx hy hz hty
  by_cases he : t1.toList = t2.toList
  · have c1 : (t1.toList == t2.toList) = true := beq_iff_eq.2 he
    rw [if_pos he]
    clear he
    go_enter Tryz.func84, Tryz.ntmps84
    go_upto_region 1 with (first | (refine m_box (x := .tmp 0) (by repeat (first | exact HM.out | apply Blks.drewN | apply Blks.drew | apply Blks.other)) (h := ?_); intro ba wq HN; clear HM; have HM := HN; clear HN) | (refine m_box (x := .tmp 1) (by repeat (first | exact HM.out | apply Blks.drewN | apply Blks.drew | apply Blks.other)) (h := ?_); intro bb wq HN; clear HM; have HM := HN; clear HN))
    have HQ1 := Lib.hid (fun d os => Calls.regrown_of (HR1.out (grow (redrawn wq d) os)))
    have HQ2 := Lib.hid (fun d os => Calls.regrown_of (HR2.out (grow (redrawn wq d) os)))
    have f0 := fun d os => cell_regrown (Blks.cell HM.out (b := ba) (o := 0) (by repeat (first | exact List.Mem.head _ | apply List.Mem.tail)) (by repeat (first | exact Rd.nil | apply Rd.here | apply Rd.skip))) d os
    have f1 := fun d os => cell_regrown (Blks.cell HM.out (b := ba) (o := 1) (by repeat (first | exact List.Mem.head _ | apply List.Mem.tail)) (by repeat (first | exact Rd.nil | apply Rd.here | apply Rd.skip))) d os
    have f2 := fun d os => cell_regrown (Blks.cell HM.out (b := ba) (o := 2) (by repeat (first | exact List.Mem.head _ | apply List.Mem.tail)) (by repeat (first | exact Rd.nil | apply Rd.here | apply Rd.skip))) d os
    have g0 := fun d os => cell_regrown (Blks.cell HM.out (b := bb) (o := 0) (by repeat (first | exact List.Mem.head _ | apply List.Mem.tail)) (by repeat (first | exact Rd.nil | apply Rd.here | apply Rd.skip))) d os
    have g1 := fun d os => cell_regrown (Blks.cell HM.out (b := bb) (o := 1) (by repeat (first | exact List.Mem.head _ | apply List.Mem.tail)) (by repeat (first | exact Rd.nil | apply Rd.here | apply Rd.skip))) d os
    have g2 := fun d os => cell_regrown (Blks.cell HM.out (b := bb) (o := 2) (by repeat (first | exact List.Mem.head _ | apply List.Mem.tail)) (by repeat (first | exact Rd.nil | apply Rd.here | apply Rd.skip))) d os
    refine wp_region_quiet_below (by kernel_rfl) (by kernel_rfl) ?_
    repeat (go_big_quiet_step (first | (with_reducible exact HQ1.out _ _) | (with_reducible exact HQ2.out _ _)))
    refine wpQuiet_nil ?_
    intro _ hw'
    obtain ⟨⟨dq, osq⟩, hw''⟩ := hw'
    subst hw''
    have HN := Aside0.mk (Blks.call HM.out (below_regrown _ dq osq)); clear HM; have HM := HN; clear HN
    clear f0 f1 f2 g0 g1 g2
    generalize grow (redrawn _ dq) osq = wz at *
    clear HQ1 HQ2
    go_wp2_with (first | (refine m_load (by repeat (first | exact HM.out | apply Blks.drewN | apply Blks.drew | apply Blks.other)) (h := ?_)) | (refine m_load1 (by repeat (first | exact HM.out | apply Blks.drewN | apply Blks.drew | apply Blks.other)) (h := ?_)) | (go_at_call 44; ((with_reducible refine (HTY.out _).mono ?_); rintro e w2 ⟨rfl, hb⟩; have HN := Aside0.mk (Blks.call (by repeat (first | exact HM.out | apply Blks.drewN | apply Blks.drew | apply Blks.other)) hb); clear HM hb; have HM := HN; clear HN)) | (go_at_call 105; ((with_reducible refine (HS.out _ _).mono ?_); rintro e w' ⟨rfl, ⟨nq, rfl⟩⟩; simp only [if_true, if_false, Bool.false_eq_true, reduceCtorEq, ite_true, ite_false]; have HN := Aside0.mk (Blks.drewN (by repeat (first | exact HM.out | apply Blks.drewN | apply Blks.drew | apply Blks.other)) nq); clear HM; have HM := HN; clear HN)))
    go_ret
    exact ⟨rfl, HM.out.bel⟩
  · have c1 : (t1.toList == t2.toList) = false := beq_eq_false_iff_ne.2 he
    rw [if_neg he]
    clear he
    cases c2 : Op.bytesLess t1.toList t2.toList
    · rw [if_neg (by decide)]
      go_enter Tryz.func84, Tryz.ntmps84
      go_upto_region 1 with (first | (refine m_box (x := .tmp 0) (by repeat (first | exact HM.out | apply Blks.drewN | apply Blks.drew | apply Blks.other)) (h := ?_); intro ba wq HN; clear HM; have HM := HN; clear HN) | (refine m_box (x := .tmp 1) (by repeat (first | exact HM.out | apply Blks.drewN | apply Blks.drew | apply Blks.other)) (h := ?_); intro bb wq HN; clear HM; have HM := HN; clear HN))
      have HQ1 := Lib.hid (fun d os => Calls.regrown_of (HR1.out (grow (redrawn wq d) os)))
      have HQ2 := Lib.hid (fun d os => Calls.regrown_of (HR2.out (grow (redrawn wq d) os)))
      have f0 := fun d os => cell_regrown (Blks.cell HM.out (b := ba) (o := 0) (by repeat (first | exact List.Mem.head _ | apply List.Mem.tail)) (by repeat (first | exact Rd.nil | apply Rd.here | apply Rd.skip))) d os
      have f1 := fun d os => cell_regrown (Blks.cell HM.out (b := ba) (o := 1) (by repeat (first | exact List.Mem.head _ | apply List.Mem.tail)) (by repeat (first | exact Rd.nil | apply Rd.here | apply Rd.skip))) d os
      have f2 := fun d os => cell_regrown (Blks.cell HM.out (b := ba) (o := 2) (by repeat (first | exact List.Mem.head _ | apply List.Mem.tail)) (by repeat (first | exact Rd.nil | apply Rd.here | apply Rd.skip))) d os
      have g0 := fun d os => cell_regrown (Blks.cell HM.out (b := bb) (o := 0) (by repeat (first | exact List.Mem.head _ | apply List.Mem.tail)) (by repeat (first | exact Rd.nil | apply Rd.here | apply Rd.skip))) d os
      have g1 := fun d os => cell_regrown (Blks.cell HM.out (b := bb) (o := 1) (by repeat (first | exact List.Mem.head _ | apply List.Mem.tail)) (by repeat (first | exact Rd.nil | apply Rd.here | apply Rd.skip))) d os
      have g2 := fun d os => cell_regrown (Blks.cell HM.out (b := bb) (o := 2) (by repeat (first | exact List.Mem.head _ | apply List.Mem.tail)) (by repeat (first | exact Rd.nil | apply Rd.here | apply Rd.skip))) d os
      refine wp_region_quiet_below (by kernel_rfl) (by kernel_rfl) ?_
      repeat (go_big_quiet_step (first | (with_reducible exact HQ1.out _ _) | (with_reducible exact HQ2.out _ _)))
      refine wpQuiet_nil ?_
      intro _ hw'
      obtain ⟨⟨dq, osq⟩, hw''⟩ := hw'
      subst hw''
      have HN := Aside0.mk (Blks.call HM.out (below_regrown _ dq osq)); clear HM; have HM := HN; clear HN
      clear f0 f1 f2 g0 g1 g2
      generalize grow (redrawn _ dq) osq = wz at *
      clear HQ1 HQ2
      go_wp2_with (first | (refine m_load (by repeat (first | exact HM.out | apply Blks.drewN | apply Blks.drew | apply Blks.other)) (h := ?_)) | (refine m_load1 (by repeat (first | exact HM.out | apply Blks.drewN | apply Blks.drew | apply Blks.other)) (h := ?_)) | (go_at_call 44; ((with_reducible refine (HTY.out _).mono ?_); rintro e w2 ⟨rfl, hb⟩; have HN := Aside0.mk (Blks.call (by repeat (first | exact HM.out | apply Blks.drewN | apply Blks.drew | apply Blks.other)) hb); clear HM hb; have HM := HN; clear HN)) | (go_at_call 105; ((with_reducible refine (HS.out _ _).mono ?_); rintro e w' ⟨rfl, ⟨nq, rfl⟩⟩; simp only [if_true, if_false, Bool.false_eq_true, reduceCtorEq, ite_true, ite_false]; have HN := Aside0.mk (Blks.drewN (by repeat (first | exact HM.out | apply Blks.drewN | apply Blks.drew | apply Blks.other)) nq); clear HM; have HM := HN; clear HN)))
      go_ret
      exact ⟨rfl, HM.out.bel⟩
    · rw [if_pos rfl]
      go_enter Tryz.func84, Tryz.ntmps84
      go_upto_region 1 with (first | (refine m_box (x := .tmp 0) (by repeat (first | exact HM.out | apply Blks.drewN | apply Blks.drew | apply Blks.other)) (h := ?_); intro ba wq HN; clear HM; have HM := HN; clear HN) | (refine m_box (x := .tmp 1) (by repeat (first | exact HM.out | apply Blks.drewN | apply Blks.drew | apply Blks.other)) (h := ?_); intro bb wq HN; clear HM; have HM := HN; clear HN))
      have HQ1 := Lib.hid (fun d os => Calls.regrown_of (HR1.out (grow (redrawn wq d) os)))
      have HQ2 := Lib.hid (fun d os => Calls.regrown_of (HR2.out (grow (redrawn wq d) os)))
      have f0 := fun d os => cell_regrown (Blks.cell HM.out (b := ba) (o := 0) (by repeat (first | exact List.Mem.head _ | apply List.Mem.tail)) (by repeat (first | exact Rd.nil | apply Rd.here | apply Rd.skip))) d os
      have f1 := fun d os => cell_regrown (Blks.cell HM.out (b := ba) (o := 1) (by repeat (first | exact List.Mem.head _ | apply List.Mem.tail)) (by repeat (first | exact Rd.nil | apply Rd.here | apply Rd.skip))) d os
      have f2 := fun d os => cell_regrown (Blks.cell HM.out (b := ba) (o := 2) (by repeat (first | exact List.Mem.head _ | apply List.Mem.tail)) (by repeat (first | exact Rd.nil | apply Rd.here | apply Rd.skip))) d os
      have g0 := fun d os => cell_regrown (Blks.cell HM.out (b := bb) (o := 0) (by repeat (first | exact List.Mem.head _ | apply List.Mem.tail)) (by repeat (first | exact Rd.nil | apply Rd.here | apply Rd.skip))) d os
      have g1 := fun d os => cell_regrown (Blks.cell HM.out (b := bb) (o := 1) (by repeat (first | exact List.Mem.head _ | apply List.Mem.tail)) (by repeat (first | exact Rd.nil | apply Rd.here | apply Rd.skip))) d os
      have g2 := fun d os => cell_regrown (Blks.cell HM.out (b := bb) (o := 2) (by repeat (first | exact List.Mem.head _ | apply List.Mem.tail)) (by repeat (first | exact Rd.nil | apply Rd.here | apply Rd.skip))) d os
      refine wp_region_quiet_below (by kernel_rfl) (by kernel_rfl) ?_
      repeat (go_big_quiet_step (first | (with_reducible exact HQ1.out _ _) | (with_reducible exact HQ2.out _ _)))
      refine wpQuiet_nil ?_
      intro _ hw'
      obtain ⟨⟨dq, osq⟩, hw''⟩ := hw'
      subst hw''
      have HN := Aside0.mk (Blks.call HM.out (below_regrown _ dq osq)); clear HM; have HM := HN; clear HN
      clear f0 f1 f2 g0 g1 g2
      generalize grow (redrawn _ dq) osq = wz at *
      clear HQ1 HQ2
      go_wp2_with (first | (refine m_load (by repeat (first | exact HM.out | apply Blks.drewN | apply Blks.drew | apply Blks.other)) (h := ?_)) | (refine m_load1 (by repeat (first | exact HM.out | apply Blks.drewN | apply Blks.drew | apply Blks.other)) (h := ?_)) | (go_at_call 44; ((with_reducible refine (HTY.out _).mono ?_); rintro e w2 ⟨rfl, hb⟩; have HN := Aside0.mk (Blks.call (by repeat (first | exact HM.out | apply Blks.drewN | apply Blks.drew | apply Blks.other)) hb); clear HM hb; have HM := HN; clear HN)) | (go_at_call 105; ((with_reducible refine (HS.out _ _).mono ?_); rintro e w' ⟨rfl, ⟨nq, rfl⟩⟩; simp only [if_true, if_false, Bool.false_eq_true, reduceCtorEq, ite_true, ite_false]; have HN := Aside0.mk (Blks.drewN (by repeat (first | exact HM.out | apply Blks.drewN | apply Blks.drew | apply Blks.other)) nq); clear HM; have HM := HN; clear HN)))
      go_ret
      exact ⟨rfl, HM.out.bel⟩
set_option maxRecDepth 20000 in
set_option maxHeartbeats 8000000 in
theorem vo_textb (k1 k2 : Int) (t1 r1 t2 r2 : ByteArray) (down : Bool) (hk1 : 0 ≤ k1 ∧ k1 ≤ 3) (hk2 : 0 ≤ k2 ∧ k2 ≤ 3) (ht1 : t1.size ≤ 100000) (ht2 : t2.size ≤ 100000) (w : World) (x : Int) (hx : rankS k1 t1 = x) (hy : rankS k2 t2 = x) (hz : typS k1 t1 = 3) (b : Bool) (hb1 : (k1 == 2) = b) (hb2 : (k2 == 2) = b) :
    Calls Tryz.prog 84 #[.agg #[.int .i64 k1, .string t1, .string r1], .agg #[.int .i64 k2, .string t2, .string r2], .bool down] w fun e w' => e = .returned (.int .i64 (bytesC t1.data.toList t2.data.toList)) ∧ Below w.heap.size w w' := by
  rw [bytesC_texts]
  have HS := Lib.hid (fun b W => vsign_any b W)
  have HM := Aside0.mk (Blks.start w)
  have HR1 := Lib.hid (fun W => rank_any k1 t1 r1 hk1 ht1 W)
  have HR2 := Lib.hid (fun W => rank_any k2 t2 r2 hk2 ht2 W)
  rw [hx] at HR1
  rw [hy] at HR2
  have hty := fun W => type_any k1 t1 r1 hk1 ht1 W
  simp only [hz] at hty
  have HTY := Lib.hid hty
  clear hk1 hk2 ht1 ht2 hx hy hz hty
  cases b
  · skip
    by_cases he : t1.toList = t2.toList
    · have c1 : (t1.toList == t2.toList) = true := beq_iff_eq.2 he
      rw [if_pos he]
      clear he
      go_enter Tryz.func84, Tryz.ntmps84
      go_upto_region 1 with (first | (refine m_box (x := .tmp 0) (by repeat (first | exact HM.out | apply Blks.drewN | apply Blks.drew | apply Blks.other)) (h := ?_); intro ba wq HN; clear HM; have HM := HN; clear HN) | (refine m_box (x := .tmp 1) (by repeat (first | exact HM.out | apply Blks.drewN | apply Blks.drew | apply Blks.other)) (h := ?_); intro bb wq HN; clear HM; have HM := HN; clear HN))
      have HQ1 := Lib.hid (fun d os => Calls.regrown_of (HR1.out (grow (redrawn wq d) os)))
      have HQ2 := Lib.hid (fun d os => Calls.regrown_of (HR2.out (grow (redrawn wq d) os)))
      have f0 := fun d os => cell_regrown (Blks.cell HM.out (b := ba) (o := 0) (by repeat (first | exact List.Mem.head _ | apply List.Mem.tail)) (by repeat (first | exact Rd.nil | apply Rd.here | apply Rd.skip))) d os
      have f1 := fun d os => cell_regrown (Blks.cell HM.out (b := ba) (o := 1) (by repeat (first | exact List.Mem.head _ | apply List.Mem.tail)) (by repeat (first | exact Rd.nil | apply Rd.here | apply Rd.skip))) d os
      have f2 := fun d os => cell_regrown (Blks.cell HM.out (b := ba) (o := 2) (by repeat (first | exact List.Mem.head _ | apply List.Mem.tail)) (by repeat (first | exact Rd.nil | apply Rd.here | apply Rd.skip))) d os
      have g0 := fun d os => cell_regrown (Blks.cell HM.out (b := bb) (o := 0) (by repeat (first | exact List.Mem.head _ | apply List.Mem.tail)) (by repeat (first | exact Rd.nil | apply Rd.here | apply Rd.skip))) d os
      have g1 := fun d os => cell_regrown (Blks.cell HM.out (b := bb) (o := 1) (by repeat (first | exact List.Mem.head _ | apply List.Mem.tail)) (by repeat (first | exact Rd.nil | apply Rd.here | apply Rd.skip))) d os
      have g2 := fun d os => cell_regrown (Blks.cell HM.out (b := bb) (o := 2) (by repeat (first | exact List.Mem.head _ | apply List.Mem.tail)) (by repeat (first | exact Rd.nil | apply Rd.here | apply Rd.skip))) d os
      refine wp_region_quiet_below (by kernel_rfl) (by kernel_rfl) ?_
      repeat (go_big_quiet_step (first | (with_reducible exact HQ1.out _ _) | (with_reducible exact HQ2.out _ _)))
      refine wpQuiet_nil ?_
      intro _ hw'
      obtain ⟨⟨dq, osq⟩, hw''⟩ := hw'
      subst hw''
      have HN := Aside0.mk (Blks.call HM.out (below_regrown _ dq osq)); clear HM; have HM := HN; clear HN
      clear f0 f1 f2 g0 g1 g2
      generalize grow (redrawn _ dq) osq = wz at *
      clear HQ1 HQ2
      go_wp2_with (first | (refine m_load (by repeat (first | exact HM.out | apply Blks.drewN | apply Blks.drew | apply Blks.other)) (h := ?_)) | (refine m_load1 (by repeat (first | exact HM.out | apply Blks.drewN | apply Blks.drew | apply Blks.other)) (h := ?_)) | (go_at_call 44; ((with_reducible refine (HTY.out _).mono ?_); rintro e w2 ⟨rfl, hb⟩; have HN := Aside0.mk (Blks.call (by repeat (first | exact HM.out | apply Blks.drewN | apply Blks.drew | apply Blks.other)) hb); clear HM hb; have HM := HN; clear HN)) | (go_at_call 105; ((with_reducible refine (HS.out _ _).mono ?_); rintro e w' ⟨rfl, ⟨nq, rfl⟩⟩; simp only [if_true, if_false, Bool.false_eq_true, reduceCtorEq, ite_true, ite_false]; have HN := Aside0.mk (Blks.drewN (by repeat (first | exact HM.out | apply Blks.drewN | apply Blks.drew | apply Blks.other)) nq); clear HM; have HM := HN; clear HN)))
      go_ret
      exact ⟨rfl, HM.out.bel⟩
    · have c1 : (t1.toList == t2.toList) = false := beq_eq_false_iff_ne.2 he
      rw [if_neg he]
      clear he
      cases c2 : Op.bytesLess t1.toList t2.toList
      · rw [if_neg (by decide)]
        go_enter Tryz.func84, Tryz.ntmps84
        go_upto_region 1 with (first | (refine m_box (x := .tmp 0) (by repeat (first | exact HM.out | apply Blks.drewN | apply Blks.drew | apply Blks.other)) (h := ?_); intro ba wq HN; clear HM; have HM := HN; clear HN) | (refine m_box (x := .tmp 1) (by repeat (first | exact HM.out | apply Blks.drewN | apply Blks.drew | apply Blks.other)) (h := ?_); intro bb wq HN; clear HM; have HM := HN; clear HN))
        have HQ1 := Lib.hid (fun d os => Calls.regrown_of (HR1.out (grow (redrawn wq d) os)))
        have HQ2 := Lib.hid (fun d os => Calls.regrown_of (HR2.out (grow (redrawn wq d) os)))
        have f0 := fun d os => cell_regrown (Blks.cell HM.out (b := ba) (o := 0) (by repeat (first | exact List.Mem.head _ | apply List.Mem.tail)) (by repeat (first | exact Rd.nil | apply Rd.here | apply Rd.skip))) d os
        have f1 := fun d os => cell_regrown (Blks.cell HM.out (b := ba) (o := 1) (by repeat (first | exact List.Mem.head _ | apply List.Mem.tail)) (by repeat (first | exact Rd.nil | apply Rd.here | apply Rd.skip))) d os
        have f2 := fun d os => cell_regrown (Blks.cell HM.out (b := ba) (o := 2) (by repeat (first | exact List.Mem.head _ | apply List.Mem.tail)) (by repeat (first | exact Rd.nil | apply Rd.here | apply Rd.skip))) d os
        have g0 := fun d os => cell_regrown (Blks.cell HM.out (b := bb) (o := 0) (by repeat (first | exact List.Mem.head _ | apply List.Mem.tail)) (by repeat (first | exact Rd.nil | apply Rd.here | apply Rd.skip))) d os
        have g1 := fun d os => cell_regrown (Blks.cell HM.out (b := bb) (o := 1) (by repeat (first | exact List.Mem.head _ | apply List.Mem.tail)) (by repeat (first | exact Rd.nil | apply Rd.here | apply Rd.skip))) d os
        have g2 := fun d os => cell_regrown (Blks.cell HM.out (b := bb) (o := 2) (by repeat (first | exact List.Mem.head _ | apply List.Mem.tail)) (by repeat (first | exact Rd.nil | apply Rd.here | apply Rd.skip))) d os
        refine wp_region_quiet_below (by kernel_rfl) (by kernel_rfl) ?_
        repeat (go_big_quiet_step (first | (with_reducible exact HQ1.out _ _) | (with_reducible exact HQ2.out _ _)))
        refine wpQuiet_nil ?_
        intro _ hw'
        obtain ⟨⟨dq, osq⟩, hw''⟩ := hw'
        subst hw''
        have HN := Aside0.mk (Blks.call HM.out (below_regrown _ dq osq)); clear HM; have HM := HN; clear HN
        clear f0 f1 f2 g0 g1 g2
        generalize grow (redrawn _ dq) osq = wz at *
        clear HQ1 HQ2
        go_wp2_with (first | (refine m_load (by repeat (first | exact HM.out | apply Blks.drewN | apply Blks.drew | apply Blks.other)) (h := ?_)) | (refine m_load1 (by repeat (first | exact HM.out | apply Blks.drewN | apply Blks.drew | apply Blks.other)) (h := ?_)) | (go_at_call 44; ((with_reducible refine (HTY.out _).mono ?_); rintro e w2 ⟨rfl, hb⟩; have HN := Aside0.mk (Blks.call (by repeat (first | exact HM.out | apply Blks.drewN | apply Blks.drew | apply Blks.other)) hb); clear HM hb; have HM := HN; clear HN)) | (go_at_call 105; ((with_reducible refine (HS.out _ _).mono ?_); rintro e w' ⟨rfl, ⟨nq, rfl⟩⟩; simp only [if_true, if_false, Bool.false_eq_true, reduceCtorEq, ite_true, ite_false]; have HN := Aside0.mk (Blks.drewN (by repeat (first | exact HM.out | apply Blks.drewN | apply Blks.drew | apply Blks.other)) nq); clear HM; have HM := HN; clear HN)))
        go_ret
        exact ⟨rfl, HM.out.bel⟩
      · rw [if_pos rfl]
        go_enter Tryz.func84, Tryz.ntmps84
        go_upto_region 1 with (first | (refine m_box (x := .tmp 0) (by repeat (first | exact HM.out | apply Blks.drewN | apply Blks.drew | apply Blks.other)) (h := ?_); intro ba wq HN; clear HM; have HM := HN; clear HN) | (refine m_box (x := .tmp 1) (by repeat (first | exact HM.out | apply Blks.drewN | apply Blks.drew | apply Blks.other)) (h := ?_); intro bb wq HN; clear HM; have HM := HN; clear HN))
        have HQ1 := Lib.hid (fun d os => Calls.regrown_of (HR1.out (grow (redrawn wq d) os)))
        have HQ2 := Lib.hid (fun d os => Calls.regrown_of (HR2.out (grow (redrawn wq d) os)))
        have f0 := fun d os => cell_regrown (Blks.cell HM.out (b := ba) (o := 0) (by repeat (first | exact List.Mem.head _ | apply List.Mem.tail)) (by repeat (first | exact Rd.nil | apply Rd.here | apply Rd.skip))) d os
        have f1 := fun d os => cell_regrown (Blks.cell HM.out (b := ba) (o := 1) (by repeat (first | exact List.Mem.head _ | apply List.Mem.tail)) (by repeat (first | exact Rd.nil | apply Rd.here | apply Rd.skip))) d os
        have f2 := fun d os => cell_regrown (Blks.cell HM.out (b := ba) (o := 2) (by repeat (first | exact List.Mem.head _ | apply List.Mem.tail)) (by repeat (first | exact Rd.nil | apply Rd.here | apply Rd.skip))) d os
        have g0 := fun d os => cell_regrown (Blks.cell HM.out (b := bb) (o := 0) (by repeat (first | exact List.Mem.head _ | apply List.Mem.tail)) (by repeat (first | exact Rd.nil | apply Rd.here | apply Rd.skip))) d os
        have g1 := fun d os => cell_regrown (Blks.cell HM.out (b := bb) (o := 1) (by repeat (first | exact List.Mem.head _ | apply List.Mem.tail)) (by repeat (first | exact Rd.nil | apply Rd.here | apply Rd.skip))) d os
        have g2 := fun d os => cell_regrown (Blks.cell HM.out (b := bb) (o := 2) (by repeat (first | exact List.Mem.head _ | apply List.Mem.tail)) (by repeat (first | exact Rd.nil | apply Rd.here | apply Rd.skip))) d os
        refine wp_region_quiet_below (by kernel_rfl) (by kernel_rfl) ?_
        repeat (go_big_quiet_step (first | (with_reducible exact HQ1.out _ _) | (with_reducible exact HQ2.out _ _)))
        refine wpQuiet_nil ?_
        intro _ hw'
        obtain ⟨⟨dq, osq⟩, hw''⟩ := hw'
        subst hw''
        have HN := Aside0.mk (Blks.call HM.out (below_regrown _ dq osq)); clear HM; have HM := HN; clear HN
        clear f0 f1 f2 g0 g1 g2
        generalize grow (redrawn _ dq) osq = wz at *
        clear HQ1 HQ2
        go_wp2_with (first | (refine m_load (by repeat (first | exact HM.out | apply Blks.drewN | apply Blks.drew | apply Blks.other)) (h := ?_)) | (refine m_load1 (by repeat (first | exact HM.out | apply Blks.drewN | apply Blks.drew | apply Blks.other)) (h := ?_)) | (go_at_call 44; ((with_reducible refine (HTY.out _).mono ?_); rintro e w2 ⟨rfl, hb⟩; have HN := Aside0.mk (Blks.call (by repeat (first | exact HM.out | apply Blks.drewN | apply Blks.drew | apply Blks.other)) hb); clear HM hb; have HM := HN; clear HN)) | (go_at_call 105; ((with_reducible refine (HS.out _ _).mono ?_); rintro e w' ⟨rfl, ⟨nq, rfl⟩⟩; simp only [if_true, if_false, Bool.false_eq_true, reduceCtorEq, ite_true, ite_false]; have HN := Aside0.mk (Blks.drewN (by repeat (first | exact HM.out | apply Blks.drewN | apply Blks.drew | apply Blks.other)) nq); clear HM; have HM := HN; clear HN)))
        go_ret
        exact ⟨rfl, HM.out.bel⟩
  · skip
    by_cases he : t1.toList = t2.toList
    · have c1 : (t1.toList == t2.toList) = true := beq_iff_eq.2 he
      rw [if_pos he]
      clear he
      go_enter Tryz.func84, Tryz.ntmps84
      go_upto_region 1 with (first | (refine m_box (x := .tmp 0) (by repeat (first | exact HM.out | apply Blks.drewN | apply Blks.drew | apply Blks.other)) (h := ?_); intro ba wq HN; clear HM; have HM := HN; clear HN) | (refine m_box (x := .tmp 1) (by repeat (first | exact HM.out | apply Blks.drewN | apply Blks.drew | apply Blks.other)) (h := ?_); intro bb wq HN; clear HM; have HM := HN; clear HN))
      have HQ1 := Lib.hid (fun d os => Calls.regrown_of (HR1.out (grow (redrawn wq d) os)))
      have HQ2 := Lib.hid (fun d os => Calls.regrown_of (HR2.out (grow (redrawn wq d) os)))
      have f0 := fun d os => cell_regrown (Blks.cell HM.out (b := ba) (o := 0) (by repeat (first | exact List.Mem.head _ | apply List.Mem.tail)) (by repeat (first | exact Rd.nil | apply Rd.here | apply Rd.skip))) d os
      have f1 := fun d os => cell_regrown (Blks.cell HM.out (b := ba) (o := 1) (by repeat (first | exact List.Mem.head _ | apply List.Mem.tail)) (by repeat (first | exact Rd.nil | apply Rd.here | apply Rd.skip))) d os
      have f2 := fun d os => cell_regrown (Blks.cell HM.out (b := ba) (o := 2) (by repeat (first | exact List.Mem.head _ | apply List.Mem.tail)) (by repeat (first | exact Rd.nil | apply Rd.here | apply Rd.skip))) d os
      have g0 := fun d os => cell_regrown (Blks.cell HM.out (b := bb) (o := 0) (by repeat (first | exact List.Mem.head _ | apply List.Mem.tail)) (by repeat (first | exact Rd.nil | apply Rd.here | apply Rd.skip))) d os
      have g1 := fun d os => cell_regrown (Blks.cell HM.out (b := bb) (o := 1) (by repeat (first | exact List.Mem.head _ | apply List.Mem.tail)) (by repeat (first | exact Rd.nil | apply Rd.here | apply Rd.skip))) d os
      have g2 := fun d os => cell_regrown (Blks.cell HM.out (b := bb) (o := 2) (by repeat (first | exact List.Mem.head _ | apply List.Mem.tail)) (by repeat (first | exact Rd.nil | apply Rd.here | apply Rd.skip))) d os
      refine wp_region_quiet_below (by kernel_rfl) (by kernel_rfl) ?_
      repeat (go_big_quiet_step (first | (with_reducible exact HQ1.out _ _) | (with_reducible exact HQ2.out _ _)))
      refine wpQuiet_nil ?_
      intro _ hw'
      obtain ⟨⟨dq, osq⟩, hw''⟩ := hw'
      subst hw''
      have HN := Aside0.mk (Blks.call HM.out (below_regrown _ dq osq)); clear HM; have HM := HN; clear HN
      clear f0 f1 f2 g0 g1 g2
      generalize grow (redrawn _ dq) osq = wz at *
      clear HQ1 HQ2
      go_wp2_with (first | (refine m_load (by repeat (first | exact HM.out | apply Blks.drewN | apply Blks.drew | apply Blks.other)) (h := ?_)) | (refine m_load1 (by repeat (first | exact HM.out | apply Blks.drewN | apply Blks.drew | apply Blks.other)) (h := ?_)) | (go_at_call 44; ((with_reducible refine (HTY.out _).mono ?_); rintro e w2 ⟨rfl, hb⟩; have HN := Aside0.mk (Blks.call (by repeat (first | exact HM.out | apply Blks.drewN | apply Blks.drew | apply Blks.other)) hb); clear HM hb; have HM := HN; clear HN)) | (go_at_call 105; ((with_reducible refine (HS.out _ _).mono ?_); rintro e w' ⟨rfl, ⟨nq, rfl⟩⟩; simp only [if_true, if_false, Bool.false_eq_true, reduceCtorEq, ite_true, ite_false]; have HN := Aside0.mk (Blks.drewN (by repeat (first | exact HM.out | apply Blks.drewN | apply Blks.drew | apply Blks.other)) nq); clear HM; have HM := HN; clear HN)))
      go_ret
      exact ⟨rfl, HM.out.bel⟩
    · have c1 : (t1.toList == t2.toList) = false := beq_eq_false_iff_ne.2 he
      rw [if_neg he]
      clear he
      cases c2 : Op.bytesLess t1.toList t2.toList
      · rw [if_neg (by decide)]
        go_enter Tryz.func84, Tryz.ntmps84
        go_upto_region 1 with (first | (refine m_box (x := .tmp 0) (by repeat (first | exact HM.out | apply Blks.drewN | apply Blks.drew | apply Blks.other)) (h := ?_); intro ba wq HN; clear HM; have HM := HN; clear HN) | (refine m_box (x := .tmp 1) (by repeat (first | exact HM.out | apply Blks.drewN | apply Blks.drew | apply Blks.other)) (h := ?_); intro bb wq HN; clear HM; have HM := HN; clear HN))
        have HQ1 := Lib.hid (fun d os => Calls.regrown_of (HR1.out (grow (redrawn wq d) os)))
        have HQ2 := Lib.hid (fun d os => Calls.regrown_of (HR2.out (grow (redrawn wq d) os)))
        have f0 := fun d os => cell_regrown (Blks.cell HM.out (b := ba) (o := 0) (by repeat (first | exact List.Mem.head _ | apply List.Mem.tail)) (by repeat (first | exact Rd.nil | apply Rd.here | apply Rd.skip))) d os
        have f1 := fun d os => cell_regrown (Blks.cell HM.out (b := ba) (o := 1) (by repeat (first | exact List.Mem.head _ | apply List.Mem.tail)) (by repeat (first | exact Rd.nil | apply Rd.here | apply Rd.skip))) d os
        have f2 := fun d os => cell_regrown (Blks.cell HM.out (b := ba) (o := 2) (by repeat (first | exact List.Mem.head _ | apply List.Mem.tail)) (by repeat (first | exact Rd.nil | apply Rd.here | apply Rd.skip))) d os
        have g0 := fun d os => cell_regrown (Blks.cell HM.out (b := bb) (o := 0) (by repeat (first | exact List.Mem.head _ | apply List.Mem.tail)) (by repeat (first | exact Rd.nil | apply Rd.here | apply Rd.skip))) d os
        have g1 := fun d os => cell_regrown (Blks.cell HM.out (b := bb) (o := 1) (by repeat (first | exact List.Mem.head _ | apply List.Mem.tail)) (by repeat (first | exact Rd.nil | apply Rd.here | apply Rd.skip))) d os
        have g2 := fun d os => cell_regrown (Blks.cell HM.out (b := bb) (o := 2) (by repeat (first | exact List.Mem.head _ | apply List.Mem.tail)) (by repeat (first | exact Rd.nil | apply Rd.here | apply Rd.skip))) d os
        refine wp_region_quiet_below (by kernel_rfl) (by kernel_rfl) ?_
        repeat (go_big_quiet_step (first | (with_reducible exact HQ1.out _ _) | (with_reducible exact HQ2.out _ _)))
        refine wpQuiet_nil ?_
        intro _ hw'
        obtain ⟨⟨dq, osq⟩, hw''⟩ := hw'
        subst hw''
        have HN := Aside0.mk (Blks.call HM.out (below_regrown _ dq osq)); clear HM; have HM := HN; clear HN
        clear f0 f1 f2 g0 g1 g2
        generalize grow (redrawn _ dq) osq = wz at *
        clear HQ1 HQ2
        go_wp2_with (first | (refine m_load (by repeat (first | exact HM.out | apply Blks.drewN | apply Blks.drew | apply Blks.other)) (h := ?_)) | (refine m_load1 (by repeat (first | exact HM.out | apply Blks.drewN | apply Blks.drew | apply Blks.other)) (h := ?_)) | (go_at_call 44; ((with_reducible refine (HTY.out _).mono ?_); rintro e w2 ⟨rfl, hb⟩; have HN := Aside0.mk (Blks.call (by repeat (first | exact HM.out | apply Blks.drewN | apply Blks.drew | apply Blks.other)) hb); clear HM hb; have HM := HN; clear HN)) | (go_at_call 105; ((with_reducible refine (HS.out _ _).mono ?_); rintro e w' ⟨rfl, ⟨nq, rfl⟩⟩; simp only [if_true, if_false, Bool.false_eq_true, reduceCtorEq, ite_true, ite_false]; have HN := Aside0.mk (Blks.drewN (by repeat (first | exact HM.out | apply Blks.drewN | apply Blks.drew | apply Blks.other)) nq); clear HM; have HM := HN; clear HN)))
        go_ret
        exact ⟨rfl, HM.out.bel⟩
      · rw [if_pos rfl]
        go_enter Tryz.func84, Tryz.ntmps84
        go_upto_region 1 with (first | (refine m_box (x := .tmp 0) (by repeat (first | exact HM.out | apply Blks.drewN | apply Blks.drew | apply Blks.other)) (h := ?_); intro ba wq HN; clear HM; have HM := HN; clear HN) | (refine m_box (x := .tmp 1) (by repeat (first | exact HM.out | apply Blks.drewN | apply Blks.drew | apply Blks.other)) (h := ?_); intro bb wq HN; clear HM; have HM := HN; clear HN))
        have HQ1 := Lib.hid (fun d os => Calls.regrown_of (HR1.out (grow (redrawn wq d) os)))
        have HQ2 := Lib.hid (fun d os => Calls.regrown_of (HR2.out (grow (redrawn wq d) os)))
        have f0 := fun d os => cell_regrown (Blks.cell HM.out (b := ba) (o := 0) (by repeat (first | exact List.Mem.head _ | apply List.Mem.tail)) (by repeat (first | exact Rd.nil | apply Rd.here | apply Rd.skip))) d os
        have f1 := fun d os => cell_regrown (Blks.cell HM.out (b := ba) (o := 1) (by repeat (first | exact List.Mem.head _ | apply List.Mem.tail)) (by repeat (first | exact Rd.nil | apply Rd.here | apply Rd.skip))) d os
        have f2 := fun d os => cell_regrown (Blks.cell HM.out (b := ba) (o := 2) (by repeat (first | exact List.Mem.head _ | apply List.Mem.tail)) (by repeat (first | exact Rd.nil | apply Rd.here | apply Rd.skip))) d os
        have g0 := fun d os => cell_regrown (Blks.cell HM.out (b := bb) (o := 0) (by repeat (first | exact List.Mem.head _ | apply List.Mem.tail)) (by repeat (first | exact Rd.nil | apply Rd.here | apply Rd.skip))) d os
        have g1 := fun d os => cell_regrown (Blks.cell HM.out (b := bb) (o := 1) (by repeat (first | exact List.Mem.head _ | apply List.Mem.tail)) (by repeat (first | exact Rd.nil | apply Rd.here | apply Rd.skip))) d os
        have g2 := fun d os => cell_regrown (Blks.cell HM.out (b := bb) (o := 2) (by repeat (first | exact List.Mem.head _ | apply List.Mem.tail)) (by repeat (first | exact Rd.nil | apply Rd.here | apply Rd.skip))) d os
        refine wp_region_quiet_below (by kernel_rfl) (by kernel_rfl) ?_
        repeat (go_big_quiet_step (first | (with_reducible exact HQ1.out _ _) | (with_reducible exact HQ2.out _ _)))
        refine wpQuiet_nil ?_
        intro _ hw'
        obtain ⟨⟨dq, osq⟩, hw''⟩ := hw'
        subst hw''
        have HN := Aside0.mk (Blks.call HM.out (below_regrown _ dq osq)); clear HM; have HM := HN; clear HN
        clear f0 f1 f2 g0 g1 g2
        generalize grow (redrawn _ dq) osq = wz at *
        clear HQ1 HQ2
        go_wp2_with (first | (refine m_load (by repeat (first | exact HM.out | apply Blks.drewN | apply Blks.drew | apply Blks.other)) (h := ?_)) | (refine m_load1 (by repeat (first | exact HM.out | apply Blks.drewN | apply Blks.drew | apply Blks.other)) (h := ?_)) | (go_at_call 44; ((with_reducible refine (HTY.out _).mono ?_); rintro e w2 ⟨rfl, hb⟩; have HN := Aside0.mk (Blks.call (by repeat (first | exact HM.out | apply Blks.drewN | apply Blks.drew | apply Blks.other)) hb); clear HM hb; have HM := HN; clear HN)) | (go_at_call 105; ((with_reducible refine (HS.out _ _).mono ?_); rintro e w' ⟨rfl, ⟨nq, rfl⟩⟩; simp only [if_true, if_false, Bool.false_eq_true, reduceCtorEq, ite_true, ite_false]; have HN := Aside0.mk (Blks.drewN (by repeat (first | exact HM.out | apply Blks.drewN | apply Blks.drew | apply Blks.other)) nq); clear HM; have HM := HN; clear HN)))
        go_ret
        exact ⟨rfl, HM.out.bel⟩
set_option maxRecDepth 20000 in
set_option maxHeartbeats 8000000 in
theorem vo_branch (k1 k2 : Int) (t1 r1 t2 r2 : ByteArray) (down : Bool) (hk1 : 0 ≤ k1 ∧ k1 ≤ 3) (hk2 : 0 ≤ k2 ∧ k2 ≤ 3) (ht1 : t1.size ≤ 100000) (ht2 : t2.size ≤ 100000) (w : World) (x : Int) (hx : rankS k1 t1 = x) (hy : rankS k2 t2 = x) (hz : typS k1 t1 = 3) (b : Bool) (hb1 : (k1 == 2) = b) (hb2 : (k2 == 2) = !b) :
    Calls Tryz.prog 84 #[.agg #[.int .i64 k1, .string t1, .string r1], .agg #[.int .i64 k2, .string t2, .string r2], .bool down] w fun e w' => e = .returned (.int .i64 (if b = true then -1 else 1)) ∧ Below w.heap.size w w' := by
  have HS := Lib.hid (fun b W => vsign_any b W)
  have HM := Aside0.mk (Blks.start w)
  have HR1 := Lib.hid (fun W => rank_any k1 t1 r1 hk1 ht1 W)
  have HR2 := Lib.hid (fun W => rank_any k2 t2 r2 hk2 ht2 W)
  rw [hx] at HR1
  rw [hy] at HR2
  have hty := fun W => type_any k1 t1 r1 hk1 ht1 W
  simp only [hz] at hty
  have HTY := Lib.hid hty
  clear hk1 hk2 ht1 ht2 hx hy hz hty
  cases b
  · rw [if_neg (by decide)]
    simp only [Bool.not_false] at hb2
    go_enter Tryz.func84, Tryz.ntmps84
    go_upto_region 1 with (first | (refine m_box (x := .tmp 0) (by repeat (first | exact HM.out | apply Blks.drewN | apply Blks.drew | apply Blks.other)) (h := ?_); intro ba wq HN; clear HM; have HM := HN; clear HN) | (refine m_box (x := .tmp 1) (by repeat (first | exact HM.out | apply Blks.drewN | apply Blks.drew | apply Blks.other)) (h := ?_); intro bb wq HN; clear HM; have HM := HN; clear HN))
    have HQ1 := Lib.hid (fun d os => Calls.regrown_of (HR1.out (grow (redrawn wq d) os)))
    have HQ2 := Lib.hid (fun d os => Calls.regrown_of (HR2.out (grow (redrawn wq d) os)))
    have f0 := fun d os => cell_regrown (Blks.cell HM.out (b := ba) (o := 0) (by repeat (first | exact List.Mem.head _ | apply List.Mem.tail)) (by repeat (first | exact Rd.nil | apply Rd.here | apply Rd.skip))) d os
    have f1 := fun d os => cell_regrown (Blks.cell HM.out (b := ba) (o := 1) (by repeat (first | exact List.Mem.head _ | apply List.Mem.tail)) (by repeat (first | exact Rd.nil | apply Rd.here | apply Rd.skip))) d os
    have f2 := fun d os => cell_regrown (Blks.cell HM.out (b := ba) (o := 2) (by repeat (first | exact List.Mem.head _ | apply List.Mem.tail)) (by repeat (first | exact Rd.nil | apply Rd.here | apply Rd.skip))) d os
    have g0 := fun d os => cell_regrown (Blks.cell HM.out (b := bb) (o := 0) (by repeat (first | exact List.Mem.head _ | apply List.Mem.tail)) (by repeat (first | exact Rd.nil | apply Rd.here | apply Rd.skip))) d os
    have g1 := fun d os => cell_regrown (Blks.cell HM.out (b := bb) (o := 1) (by repeat (first | exact List.Mem.head _ | apply List.Mem.tail)) (by repeat (first | exact Rd.nil | apply Rd.here | apply Rd.skip))) d os
    have g2 := fun d os => cell_regrown (Blks.cell HM.out (b := bb) (o := 2) (by repeat (first | exact List.Mem.head _ | apply List.Mem.tail)) (by repeat (first | exact Rd.nil | apply Rd.here | apply Rd.skip))) d os
    refine wp_region_quiet_below (by kernel_rfl) (by kernel_rfl) ?_
    repeat (go_big_quiet_step (first | (with_reducible exact HQ1.out _ _) | (with_reducible exact HQ2.out _ _)))
    refine wpQuiet_nil ?_
    intro _ hw'
    obtain ⟨⟨dq, osq⟩, hw''⟩ := hw'
    subst hw''
    have HN := Aside0.mk (Blks.call HM.out (below_regrown _ dq osq)); clear HM; have HM := HN; clear HN
    clear f0 f1 f2 g0 g1 g2
    generalize grow (redrawn _ dq) osq = wz at *
    clear HQ1 HQ2
    go_wp2_with (first | (refine m_load (by repeat (first | exact HM.out | apply Blks.drewN | apply Blks.drew | apply Blks.other)) (h := ?_)) | (refine m_load1 (by repeat (first | exact HM.out | apply Blks.drewN | apply Blks.drew | apply Blks.other)) (h := ?_)) | (go_at_call 44; ((with_reducible refine (HTY.out _).mono ?_); rintro e w2 ⟨rfl, hb⟩; have HN := Aside0.mk (Blks.call (by repeat (first | exact HM.out | apply Blks.drewN | apply Blks.drew | apply Blks.other)) hb); clear HM hb; have HM := HN; clear HN)) | (go_at_call 105; ((with_reducible refine (HS.out _ _).mono ?_); rintro e w' ⟨rfl, ⟨nq, rfl⟩⟩; simp only [if_true, if_false, Bool.false_eq_true, reduceCtorEq, ite_true, ite_false]; have HN := Aside0.mk (Blks.drewN (by repeat (first | exact HM.out | apply Blks.drewN | apply Blks.drew | apply Blks.other)) nq); clear HM; have HM := HN; clear HN)))
    go_ret
    exact ⟨rfl, HM.out.bel⟩
  · rw [if_pos rfl]
    simp only [Bool.not_true] at hb2
    go_enter Tryz.func84, Tryz.ntmps84
    go_upto_region 1 with (first | (refine m_box (x := .tmp 0) (by repeat (first | exact HM.out | apply Blks.drewN | apply Blks.drew | apply Blks.other)) (h := ?_); intro ba wq HN; clear HM; have HM := HN; clear HN) | (refine m_box (x := .tmp 1) (by repeat (first | exact HM.out | apply Blks.drewN | apply Blks.drew | apply Blks.other)) (h := ?_); intro bb wq HN; clear HM; have HM := HN; clear HN))
    have HQ1 := Lib.hid (fun d os => Calls.regrown_of (HR1.out (grow (redrawn wq d) os)))
    have HQ2 := Lib.hid (fun d os => Calls.regrown_of (HR2.out (grow (redrawn wq d) os)))
    have f0 := fun d os => cell_regrown (Blks.cell HM.out (b := ba) (o := 0) (by repeat (first | exact List.Mem.head _ | apply List.Mem.tail)) (by repeat (first | exact Rd.nil | apply Rd.here | apply Rd.skip))) d os
    have f1 := fun d os => cell_regrown (Blks.cell HM.out (b := ba) (o := 1) (by repeat (first | exact List.Mem.head _ | apply List.Mem.tail)) (by repeat (first | exact Rd.nil | apply Rd.here | apply Rd.skip))) d os
    have f2 := fun d os => cell_regrown (Blks.cell HM.out (b := ba) (o := 2) (by repeat (first | exact List.Mem.head _ | apply List.Mem.tail)) (by repeat (first | exact Rd.nil | apply Rd.here | apply Rd.skip))) d os
    have g0 := fun d os => cell_regrown (Blks.cell HM.out (b := bb) (o := 0) (by repeat (first | exact List.Mem.head _ | apply List.Mem.tail)) (by repeat (first | exact Rd.nil | apply Rd.here | apply Rd.skip))) d os
    have g1 := fun d os => cell_regrown (Blks.cell HM.out (b := bb) (o := 1) (by repeat (first | exact List.Mem.head _ | apply List.Mem.tail)) (by repeat (first | exact Rd.nil | apply Rd.here | apply Rd.skip))) d os
    have g2 := fun d os => cell_regrown (Blks.cell HM.out (b := bb) (o := 2) (by repeat (first | exact List.Mem.head _ | apply List.Mem.tail)) (by repeat (first | exact Rd.nil | apply Rd.here | apply Rd.skip))) d os
    refine wp_region_quiet_below (by kernel_rfl) (by kernel_rfl) ?_
    repeat (go_big_quiet_step (first | (with_reducible exact HQ1.out _ _) | (with_reducible exact HQ2.out _ _)))
    refine wpQuiet_nil ?_
    intro _ hw'
    obtain ⟨⟨dq, osq⟩, hw''⟩ := hw'
    subst hw''
    have HN := Aside0.mk (Blks.call HM.out (below_regrown _ dq osq)); clear HM; have HM := HN; clear HN
    clear f0 f1 f2 g0 g1 g2
    generalize grow (redrawn _ dq) osq = wz at *
    clear HQ1 HQ2
    go_wp2_with (first | (refine m_load (by repeat (first | exact HM.out | apply Blks.drewN | apply Blks.drew | apply Blks.other)) (h := ?_)) | (refine m_load1 (by repeat (first | exact HM.out | apply Blks.drewN | apply Blks.drew | apply Blks.other)) (h := ?_)) | (go_at_call 44; ((with_reducible refine (HTY.out _).mono ?_); rintro e w2 ⟨rfl, hb⟩; have HN := Aside0.mk (Blks.call (by repeat (first | exact HM.out | apply Blks.drewN | apply Blks.drew | apply Blks.other)) hb); clear HM hb; have HM := HN; clear HN)) | (go_at_call 105; ((with_reducible refine (HS.out _ _).mono ?_); rintro e w' ⟨rfl, ⟨nq, rfl⟩⟩; simp only [if_true, if_false, Bool.false_eq_true, reduceCtorEq, ite_true, ite_false]; have HN := Aside0.mk (Blks.drewN (by repeat (first | exact HM.out | apply Blks.drewN | apply Blks.drew | apply Blks.other)) nq); clear HM; have HM := HN; clear HN)))
    go_ret
    exact ⟨rfl, HM.out.bel⟩
end Go.Proofs.YtgoeiflddikihaaGreatDoor.Ver
end
section
namespace Go.Proofs.YtgoeiflddikihaaGreatDoor.Ver
set_option linter.unusedSimpArgs false
set_option linter.unusedVariables false
open Go.Sort Go.RowKit Go.Proofs.YtgoeiflddikihaaGreatDoor.Dig Go.Proofs.YtgoeiflddikihaaGreatDoorW.PrintWords Go.Proofs.YtgoeiflddikihaaGreatDoor.Mem Go.Proofs.YtgoeiflddikihaaGreatDoor.Ord
theorem PreOk.val {pp : List ByteArray} {P : Value} {X : List Blk} (h : PreOk pp P X) : ∃ A c, P = .slice A pp.length c := by
 rcases h with ⟨rfl, rfl, _⟩ | ⟨g, cap, rest, rfl, _⟩ <;> exact ⟨_, _, rfl⟩
theorem PreOk.strsIn {pp : List ByteArray} {P : Value} {X L : List Blk} {w0 w : World} (h : PreOk pp P X) (H : Blks w0 w L) (hs : ∀ x ∈ X, x ∈ L) : StrsAt 9 w w0.heap.size P pp := by
 rcases h with ⟨rfl, rfl, rfl⟩ | ⟨g, cap, rest, rfl, rfl⟩
 ·exact Or.inl ⟨rfl, rfl⟩
 ·exact Blks.strs H (hs _ (List.mem_singleton.2 rfl))
theorem sem_ok {l : List UInt8} {ns : List Nat} {pre mt : List UInt8} (h : qSemB0 l = some (ns, pre, mt)) : (pre = [] ∨ qIdentsB pre = true) ∧ pre.length ≤ l.length := by
 unfold qSemB0 at h
 simp only at h
 split at h
 ·cases h
 ·split at h
  ·cases h
  ·rename_i mt' hm pre' hp
   split at h
   ·cases h
   ·split at h
    ·cases h
    ·simp only [Option.some.injEq, Prod.mk.injEq] at h
     obtain ⟨_, rfl, _⟩ := h
     have h1 := qCutAt_len 43 (bare0 l)
     have h2 := qCutAt_len 45 (qCutAt 43 (bare0 l)).1
     have h3 := bare0_len l
     unfold qOptB at hp
     split at hp
     ·simp only [Option.some.injEq] at hp; subst hp; simp
     ·rename_i p hq
      split at hp
      ·simp only [Option.some.injEq] at hp
       subst hp
       exact ⟨Or.inr (by assumption), by have := h2.2 p hq; omega⟩
      ·cases hp
theorem sv_ok (t : ByteArray) : ((svOf t).pre.data.toList = [] ∨ qIdentsB (svOf t).pre.data.toList = true) ∧ (svOf t).pre.size ≤ t.size := by
 unfold svOf
 cases hq : qSemB0 t.data.toList with
 | none => exact ⟨Or.inl rfl, Nat.zero_le _⟩
 | some q =>
  obtain ⟨ns, pre, mt⟩ := q
  have := sem_ok hq
  exact ⟨this.1, by rw [mkB_size, ← list_size]; exact this.2⟩
set_option maxRecDepth 20000 in
set_option maxHeartbeats 8000000 in
theorem vo_sem (k1 k2 : Int) (t1 r1 t2 r2 : ByteArray) (down : Bool) (hk1 : 0 ≤ k1 ∧ k1 ≤ 3) (hk2 : 0 ≤ k2 ∧ k2 ≤ 3) (ht1 : t1.size ≤ 100000) (ht2 : t2.size ≤ 100000) (w : World) (x : Int) (hx : rankS k1 t1 = x) (hy : rankS k2 t2 = x) (hz : typS k1 t1 = 2) (h1 : (qSemB0 t1.data.toList).isSome = true) (h2 : (qSemB0 t2.data.toList).isSome = true) (v1 v2 : SV) (c1 c2 : Nat) (hv1 : svOf t1 = v1) (hv2 : svOf t2 = v2) (hc1 : cntOf t1 = c1) (hc2 : cntOf t2 = c2) (r : Int) (hr : r = if (((preParts v1.pre.data.toList).map mkB).length = 0 ↔ ((preParts v2.pre.data.toList).map mkB).length = 0) then (if down = true then cmpV v1 v2 else -cmpV v1 v2) else if ((preParts v1.pre.data.toList).map mkB).length = 0 then -1 else 1) :
  Calls Tryz.prog 84 #[.agg #[.int .i64 k1, .string t1, .string r1], .agg #[.int .i64 k2, .string t2, .string r2], .bool down] w fun e w' => e = .returned (.int .i64 (r)) ∧ Below w.heap.size w w' := by
 have HS := Lib.hid (fun b W => vsign_any b W)
 have HM := Aside0.mk (Blks.start w)
 have HR1 := Lib.hid (fun W => rank_any k1 t1 r1 hk1 ht1 W)
 have HR2 := Lib.hid (fun W => rank_any k2 t2 r2 hk2 ht2 W)
 have hV1 := fun W => versem_any k1 t1 r1 ht1 h1 W
 have hV2 := fun W => versem_any k2 t2 r2 ht2 h2 W
 rw [hv1, hc1] at hV1
 rw [hv2, hc2] at hV2
 have o1 := sv_ok t1
 have o2 := sv_ok t2
 rw [hv1] at o1
 rw [hv2] at o2
 have hso : ∀ (W : World) (A1 A2 : Option Addr) (q1 q2 : Nat), StrsAt 9 W w.heap.size (.slice A1 ((preParts v1.pre.data.toList).map mkB).length q1) ((preParts v1.pre.data.toList).map mkB) → StrsAt 9 W w.heap.size (.slice A2 ((preParts v2.pre.data.toList).map mkB).length q2) ((preParts v2.pre.data.toList).map mkB) → Calls Tryz.prog 82 #[.agg #[.int .u64 v1.major, .int .u64 v1.minor, .int .u64 v1.patch, .int .i64 c1, .slice A1 ((preParts v1.pre.data.toList).map mkB).length q1, .string v1.mt], .agg #[.int .u64 v2.major, .int .u64 v2.minor, .int .u64 v2.patch, .int .i64 c2, .slice A2 ((preParts v2.pre.data.toList).map mkB).length q2, .string v2.mt]] W fun e w' => e = .returned (.int .i64 (cmpV v1 v2)) ∧ RowKit.Below W.heap.size W w' :=
  fun W A1 A2 q1 q2 h1 h2 => sem_order v1 v2 c1 c2 _ _ W w.heap.size ⟨_, rfl, h1⟩ ⟨_, rfl, h2⟩ o1.1 o2.1 (by omega) (by omega)
 clear o1 o2
 have HV1 := Lib.hid hV1
 have HV2 := Lib.hid hV2
 clear hV1 hV2 hv1 hv2 hc1 hc2 h1 h2
 rw [hx] at HR1
 rw [hy] at HR2
 have hty := fun W => type_any k1 t1 r1 hk1 ht1 W
 simp only [hz] at hty
 have HTY := Lib.hid hty
 clear hk1 hk2 ht1 ht2 hx hy hz hty
 obtain ⟨pp1, hp1⟩ : ∃ p, p = (preParts v1.pre.data.toList).map mkB := ⟨_, rfl⟩
 obtain ⟨pp2, hp2⟩ : ∃ p, p = (preParts v2.pre.data.toList).map mkB := ⟨_, rfl⟩
 unfold SemAt at HV1 HV2
 rw [← hp1] at HV1 hso hr
 rw [← hp2] at HV2 hso hr
 clear hp1 hp2
 have HSO0 := Lib.hid hso
 have HR := Lib.hid hr
 clear hso hr
 have hcv := cmpV_val v1 v2
 have hb1 : -1 ≤ cmpV v1 v2 := by omega
 have hb2 : cmpV v1 v2 ≤ 1 := by omega
 clear hcv
 generalize cmpV v1 v2 = cv at *
 go_enter Tryz.func84, Tryz.ntmps84
 go_upto_region 1 with (first | (refine m_box (x := .tmp 0) (by repeat (first | exact HM.out | apply Blks.drewN | apply Blks.drew | apply Blks.other)) (h := ?_); intro ba wq HN; clear HM; have HM := HN; clear HN) | (refine m_box (x := .tmp 1) (by repeat (first | exact HM.out | apply Blks.drewN | apply Blks.drew | apply Blks.other)) (h := ?_); intro bb wq HN; clear HM; have HM := HN; clear HN))
 have HQ1 := Lib.hid (fun d os => Calls.regrown_of (HR1.out (grow (redrawn wq d) os)))
 have HQ2 := Lib.hid (fun d os => Calls.regrown_of (HR2.out (grow (redrawn wq d) os)))
 have f0 := fun d os => cell_regrown (Blks.cell HM.out (b := ba) (o := 0) (by repeat (first | exact List.Mem.head _ | apply List.Mem.tail)) (by repeat (first | exact Rd.nil | apply Rd.here | apply Rd.skip))) d os
 have f1 := fun d os => cell_regrown (Blks.cell HM.out (b := ba) (o := 1) (by repeat (first | exact List.Mem.head _ | apply List.Mem.tail)) (by repeat (first | exact Rd.nil | apply Rd.here | apply Rd.skip))) d os
 have f2 := fun d os => cell_regrown (Blks.cell HM.out (b := ba) (o := 2) (by repeat (first | exact List.Mem.head _ | apply List.Mem.tail)) (by repeat (first | exact Rd.nil | apply Rd.here | apply Rd.skip))) d os
 have g0 := fun d os => cell_regrown (Blks.cell HM.out (b := bb) (o := 0) (by repeat (first | exact List.Mem.head _ | apply List.Mem.tail)) (by repeat (first | exact Rd.nil | apply Rd.here | apply Rd.skip))) d os
 have g1 := fun d os => cell_regrown (Blks.cell HM.out (b := bb) (o := 1) (by repeat (first | exact List.Mem.head _ | apply List.Mem.tail)) (by repeat (first | exact Rd.nil | apply Rd.here | apply Rd.skip))) d os
 have g2 := fun d os => cell_regrown (Blks.cell HM.out (b := bb) (o := 2) (by repeat (first | exact List.Mem.head _ | apply List.Mem.tail)) (by repeat (first | exact Rd.nil | apply Rd.here | apply Rd.skip))) d os
 refine wp_region_quiet_below (by kernel_rfl) (by kernel_rfl) ?_
 repeat (go_big_quiet_step (first | (with_reducible exact HQ1.out _ _) | (with_reducible exact HQ2.out _ _)))
 refine wpQuiet_nil ?_
 intro _ hw'
 obtain ⟨⟨dq, osq⟩, hw''⟩ := hw'
 subst hw''
 have HN := Aside0.mk (Blks.call HM.out (below_regrown _ dq osq)); clear HM; have HM := HN; clear HN
 clear f0 f1 f2 g0 g1 g2
 generalize grow (redrawn _ dq) osq = wz at *
 clear HQ1 HQ2
 go_upto_region 6 with (first | (refine m_load (by repeat (first | exact HM.out | apply Blks.drewN | apply Blks.drew | apply Blks.other)) (h := ?_)) | (go_at_call 44; ((with_reducible refine (HTY.out _).mono ?_); rintro e w2 ⟨rfl, hb⟩; have HN := Aside0.mk (Blks.call (by repeat (first | exact HM.out | apply Blks.drewN | apply Blks.drew | apply Blks.other)) hb); clear HM hb; have HM := HN; clear HN)))
 go_cut [9, 10] from 9 to 30 (fun v9 v10 wx => ∃ b9 b10 P1 P2 X1 X2, v9 = .pointer (some ⟨b9, 0, none⟩) ∧ v10 = .pointer (some ⟨b10, 0, none⟩) ∧ PreOk pp1 P1 X1 ∧ PreOk pp2 P2 X2 ∧ Aside0 (Blks w wx ((b9, [.int .u64 v1.major, .int .u64 v1.minor, .int .u64 v1.patch, .int .i64 c1, P1, .string v1.mt], 50) :: (b10, [.int .u64 v2.major, .int .u64 v2.minor, .int .u64 v2.patch, .int .i64 c2, P2, .string v2.mt], 50) :: (bb, [.int .i64 k2, .string t2, .string r2], 30) :: (ba, [.int .i64 k1, .string t1, .string r1], 30) :: (X1 ++ X2))))
 case first =>
  refine wp_region_held_drew (S := fun w' => Blks w w' [(bb, [.int .i64 k2, .string t2, .string r2], 30), (ba, [.int .i64 k1, .string t1, .string r1], 30)]) (by kernel_rfl) (by repeat (first | exact HM.out | apply Blks.drewN | apply Blks.drew | apply Blks.other)) (fun hS => ?_)
  have HN := Aside0.mk hS
  clear hS HM
  have HM := HN
  clear HN
  refine wpAnyH_take (i := 0) (v := .agg #[.int .i64 k1, .string t1, .string r1]) rfl (by kernel_rfl) (by kernel_rfl) (by kernel_rfl) (fun _ _ _ h => h) (d_load (w0 := w) (by rfl) (by rfl) (fun w h => h) (by repeat (first | exact List.Mem.head _ | apply List.Mem.tail)) (by repeat (first | exact Rd.nil | apply Rd.here | apply Rd.skip))) HM.out ?_
  (try simp only [Act.put, List.setIfInBounds_toArray, List.set_cons_zero, List.set_cons_succ])
  refine wpAnyH_take (i := 2) (v := .agg #[.int .i64 k2, .string t2, .string r2]) rfl (by kernel_rfl) (by kernel_rfl) (by kernel_rfl) (fun _ _ _ h => h) (d_load (w0 := w) (by rfl) (by rfl) (fun w h => h) (by repeat (first | exact List.Mem.head _ | apply List.Mem.tail)) (by repeat (first | exact Rd.nil | apply Rd.here | apply Rd.skip))) HM.out ?_
  (try simp only [Act.put, List.setIfInBounds_toArray, List.set_cons_zero, List.set_cons_succ])
  refine wpAnyH_ready (rs := [1, 4, 5]) (by kernel_rfl) (by simp) ?_
  refine AllReadyH.cons rfl (fun K hK => ?_) ?_
  ·skip
   go_simp
   go_wp2_with (go_at_call 68; ((with_reducible refine (HV1.out _).mono ?_); rintro e w2 ⟨⟨v, rfl, P1, rfl, hP⟩, hb⟩; have HO1 := Lib.hid (show P1.oneCell' = true by obtain ⟨_, _, rfl⟩ := hP.val; rfl); obtain ⟨X1, HX1, HN⟩ := Blks.strsAdd (by repeat (first | exact HM.out | apply Blks.drewN | apply Blks.drew | apply Blks.other)) hb hP; simp only [List.cons_append, List.nil_append] at HN; clear HM hb hP; have HM := Aside0.mk HN; clear HN))
   refine hK.out _ _ (HM.out.less (by repeat (first | exact List.nil_sublist _ | apply List.Sublist.cons_cons | apply List.Sublist.cons))) (fun _ => ?_)
   clear hK K
   (try simp only [Act.put, List.setIfInBounds_toArray, List.set_cons_zero, List.set_cons_succ])
   refine wpAnyH_ready (rs := [3, 4, 5]) (by kernel_rfl) (by simp) ?_
   refine AllReadyH.cons rfl (fun K hK => ?_) ?_
   ·skip
    go_simp
    go_wp2_with (go_at_call 68; ((with_reducible refine (HV2.out _).mono ?_); rintro e w2 ⟨⟨v, rfl, P2, rfl, hP⟩, hb⟩; have HO2 := Lib.hid (show P2.oneCell' = true by obtain ⟨_, _, rfl⟩ := hP.val; rfl); obtain ⟨X2, HX2, HN⟩ := Blks.strsAdd (by repeat (first | exact HM.out | apply Blks.drewN | apply Blks.drew | apply Blks.other)) hb hP; simp only [List.cons_append, List.nil_append] at HN; clear HM hb hP; have HM := Aside0.mk HN; clear HN))
    refine hK.out _ _ (HM.out.less (by repeat (first | exact List.nil_sublist _ | apply List.Sublist.cons_cons | apply List.Sublist.cons))) (fun _ => ?_)
    clear hK K
    (try simp only [Act.put, List.setIfInBounds_toArray, List.set_cons_zero, List.set_cons_succ])
    refine wpAnyH_ready (rs := [4, 5]) (by kernel_rfl) (by simp) ?_
    refine AllReadyH.cons (o := ⟨some 9, .alloc 50, _, _, _, none⟩) rfl (fun K hK => ?_) ?_
    ·skip
     refine d_alloc (by repeat (first | exact HM.out | apply Blks.drewN | apply Blks.drew | apply Blks.other)) ?_
     intro b9 wq HN
     clear HM; have HM := HN; clear HN
     refine hK.out _ _ (HM.out.less (by repeat (first | exact List.nil_sublist _ | apply List.Sublist.cons_cons | apply List.Sublist.cons))) (fun _ => ?_)
     clear hK K
     (try simp only [Act.put, List.setIfInBounds_toArray, List.set_cons_zero, List.set_cons_succ])
     refine wpAnyH_ready (rs := [5]) (by kernel_rfl) (by simp) ?_
     refine AllReadyH.cons (o := ⟨some 10, .alloc 50, _, _, _, none⟩) rfl (fun K hK => ?_) ?_
     ·skip
      refine d_alloc (by repeat (first | exact HM.out | apply Blks.drewN | apply Blks.drew | apply Blks.other)) ?_
      intro b10 wq HN
      clear HM; have HM := HN; clear HN
      refine hK.out _ _ (HM.out.less (by repeat (first | exact List.nil_sublist _ | apply List.Sublist.cons_cons | apply List.Sublist.cons))) (fun _ => ?_)
      clear hK K
      (try simp only [Act.put, List.setIfInBounds_toArray, List.set_cons_zero, List.set_cons_succ])
      refine wpAnyH_ready (rs := [6]) (by kernel_rfl) (by simp) ?_
      refine AllReadyH.cons (o := ⟨none, .store 50 (.tmp 9) (.tmp 28), _, _, _, none⟩) rfl (fun K hK => ?_) ?_
      ·skip
       refine d_store (by repeat (first | exact HM.out | apply Blks.drewN | apply Blks.drew | apply Blks.other)) (by rfl) (by rfl) (by rfl) (semOne HO1.out) (by repeat (first | exact List.Mem.head _ | apply List.Mem.tail)) (by repeat (first | exact Wr.nil | apply Wr.here | apply Wr.skip)) (by repeat (first | exact Up.here | apply Up.skip)) ?_
       intro wq HN
       clear HM; have HM := HN; clear HN
       refine hK.out _ _ (HM.out.less (by repeat (first | exact List.nil_sublist _ | apply List.Sublist.cons_cons | apply List.Sublist.cons))) (fun _ => ?_)
       clear hK K
       (try simp only [Act.put, List.setIfInBounds_toArray, List.set_cons_zero, List.set_cons_succ])
       refine wpAnyH_ready (rs := [7]) (by kernel_rfl) (by simp) ?_
       refine AllReadyH.cons (o := ⟨none, .store 50 (.tmp 10) (.tmp 30), _, _, _, none⟩) rfl (fun K hK => ?_) ?_
       ·skip
        refine d_store (by repeat (first | exact HM.out | apply Blks.drewN | apply Blks.drew | apply Blks.other)) (by rfl) (by rfl) (by rfl) (semOne HO2.out) (by repeat (first | exact List.Mem.head _ | apply List.Mem.tail)) (by repeat (first | exact Wr.nil | apply Wr.here | apply Wr.skip)) (by repeat (first | exact Up.here | apply Up.skip)) ?_
        intro wq HN
        clear HM; have HM := HN; clear HN
        refine hK.out _ _ (HM.out.less (by repeat (first | exact List.nil_sublist _ | apply List.Sublist.cons_cons | apply List.Sublist.cons))) (fun _ => ?_)
        clear hK K
        (try simp only [Act.put, List.setIfInBounds_toArray, List.set_cons_zero, List.set_cons_succ])
        refine wpAnyH_done (by kernel_rfl) ?_ _
        go_wp2_with fail
        go_meet
        case rel => exact ⟨b9, b10, P1, P2, X1, X2, rfl, rfl, HX1, HX2, ⟨HM.out.perm (List.Perm.swap _ _ _)⟩⟩
       exact AllReadyH.nil
      exact AllReadyH.nil
     exact AllReadyH.nil
    refine AllReadyH.cons (o := ⟨some 10, .alloc 50, _, _, _, none⟩) rfl (fun K hK => ?_) ?_
    ·skip
     refine d_alloc (by repeat (first | exact HM.out | apply Blks.drewN | apply Blks.drew | apply Blks.other)) ?_
     intro b10 wq HN
     clear HM; have HM := HN; clear HN
     refine hK.out _ _ (HM.out.less (by repeat (first | exact List.nil_sublist _ | apply List.Sublist.cons_cons | apply List.Sublist.cons))) (fun _ => ?_)
     clear hK K
     (try simp only [Act.put, List.setIfInBounds_toArray, List.set_cons_zero, List.set_cons_succ])
     refine wpAnyH_ready (rs := [4]) (by kernel_rfl) (by simp) ?_
     refine AllReadyH.cons (o := ⟨some 9, .alloc 50, _, _, _, none⟩) rfl (fun K hK => ?_) ?_
     ·skip
      refine d_alloc (by repeat (first | exact HM.out | apply Blks.drewN | apply Blks.drew | apply Blks.other)) ?_
      intro b9 wq HN
      clear HM; have HM := HN; clear HN
      refine hK.out _ _ (HM.out.less (by repeat (first | exact List.nil_sublist _ | apply List.Sublist.cons_cons | apply List.Sublist.cons))) (fun _ => ?_)
      clear hK K
      (try simp only [Act.put, List.setIfInBounds_toArray, List.set_cons_zero, List.set_cons_succ])
      refine wpAnyH_ready (rs := [6]) (by kernel_rfl) (by simp) ?_
      refine AllReadyH.cons (o := ⟨none, .store 50 (.tmp 9) (.tmp 28), _, _, _, none⟩) rfl (fun K hK => ?_) ?_
      ·skip
       refine d_store (by repeat (first | exact HM.out | apply Blks.drewN | apply Blks.drew | apply Blks.other)) (by rfl) (by rfl) (by rfl) (semOne HO1.out) (by repeat (first | exact List.Mem.head _ | apply List.Mem.tail)) (by repeat (first | exact Wr.nil | apply Wr.here | apply Wr.skip)) (by repeat (first | exact Up.here | apply Up.skip)) ?_
       intro wq HN
       clear HM; have HM := HN; clear HN
       refine hK.out _ _ (HM.out.less (by repeat (first | exact List.nil_sublist _ | apply List.Sublist.cons_cons | apply List.Sublist.cons))) (fun _ => ?_)
       clear hK K
       (try simp only [Act.put, List.setIfInBounds_toArray, List.set_cons_zero, List.set_cons_succ])
       refine wpAnyH_ready (rs := [7]) (by kernel_rfl) (by simp) ?_
       refine AllReadyH.cons (o := ⟨none, .store 50 (.tmp 10) (.tmp 30), _, _, _, none⟩) rfl (fun K hK => ?_) ?_
       ·skip
        refine d_store (by repeat (first | exact HM.out | apply Blks.drewN | apply Blks.drew | apply Blks.other)) (by rfl) (by rfl) (by rfl) (semOne HO2.out) (by repeat (first | exact List.Mem.head _ | apply List.Mem.tail)) (by repeat (first | exact Wr.nil | apply Wr.here | apply Wr.skip)) (by repeat (first | exact Up.here | apply Up.skip)) ?_
        intro wq HN
        clear HM; have HM := HN; clear HN
        refine hK.out _ _ (HM.out.less (by repeat (first | exact List.nil_sublist _ | apply List.Sublist.cons_cons | apply List.Sublist.cons))) (fun _ => ?_)
        clear hK K
        (try simp only [Act.put, List.setIfInBounds_toArray, List.set_cons_zero, List.set_cons_succ])
        refine wpAnyH_done (by kernel_rfl) ?_ _
        go_wp2_with fail
        go_meet
        case rel => exact ⟨b9, b10, P1, P2, X1, X2, rfl, rfl, HX1, HX2, ⟨HM.out⟩⟩
       exact AllReadyH.nil
      exact AllReadyH.nil
     exact AllReadyH.nil
    exact AllReadyH.nil
   refine AllReadyH.cons (o := ⟨some 9, .alloc 50, _, _, _, none⟩) rfl (fun K hK => ?_) ?_
   ·skip
    refine d_alloc (by repeat (first | exact HM.out | apply Blks.drewN | apply Blks.drew | apply Blks.other)) ?_
    intro b9 wq HN
    clear HM; have HM := HN; clear HN
    refine hK.out _ _ (HM.out.less (by repeat (first | exact List.nil_sublist _ | apply List.Sublist.cons_cons | apply List.Sublist.cons))) (fun _ => ?_)
    clear hK K
    (try simp only [Act.put, List.setIfInBounds_toArray, List.set_cons_zero, List.set_cons_succ])
    refine wpAnyH_ready (rs := [3, 5]) (by kernel_rfl) (by simp) ?_
    refine AllReadyH.cons rfl (fun K hK => ?_) ?_
    ·skip
     go_simp
     go_wp2_with (go_at_call 68; ((with_reducible refine (HV2.out _).mono ?_); rintro e w2 ⟨⟨v, rfl, P2, rfl, hP⟩, hb⟩; have HO2 := Lib.hid (show P2.oneCell' = true by obtain ⟨_, _, rfl⟩ := hP.val; rfl); obtain ⟨X2, HX2, HN⟩ := Blks.strsAdd (by repeat (first | exact HM.out | apply Blks.drewN | apply Blks.drew | apply Blks.other)) hb hP; simp only [List.cons_append, List.nil_append] at HN; clear HM hb hP; have HM := Aside0.mk HN; clear HN))
     refine hK.out _ _ (HM.out.less (by repeat (first | exact List.nil_sublist _ | apply List.Sublist.cons_cons | apply List.Sublist.cons))) (fun _ => ?_)
     clear hK K
     (try simp only [Act.put, List.setIfInBounds_toArray, List.set_cons_zero, List.set_cons_succ])
     refine wpAnyH_ready (rs := [5]) (by kernel_rfl) (by simp) ?_
     refine AllReadyH.cons (o := ⟨some 10, .alloc 50, _, _, _, none⟩) rfl (fun K hK => ?_) ?_
     ·skip
      refine d_alloc (by repeat (first | exact HM.out | apply Blks.drewN | apply Blks.drew | apply Blks.other)) ?_
      intro b10 wq HN
      clear HM; have HM := HN; clear HN
      refine hK.out _ _ (HM.out.less (by repeat (first | exact List.nil_sublist _ | apply List.Sublist.cons_cons | apply List.Sublist.cons))) (fun _ => ?_)
      clear hK K
      (try simp only [Act.put, List.setIfInBounds_toArray, List.set_cons_zero, List.set_cons_succ])
      refine wpAnyH_ready (rs := [6]) (by kernel_rfl) (by simp) ?_
      refine AllReadyH.cons (o := ⟨none, .store 50 (.tmp 9) (.tmp 28), _, _, _, none⟩) rfl (fun K hK => ?_) ?_
      ·skip
       refine d_store (by repeat (first | exact HM.out | apply Blks.drewN | apply Blks.drew | apply Blks.other)) (by rfl) (by rfl) (by rfl) (semOne HO1.out) (by repeat (first | exact List.Mem.head _ | apply List.Mem.tail)) (by repeat (first | exact Wr.nil | apply Wr.here | apply Wr.skip)) (by repeat (first | exact Up.here | apply Up.skip)) ?_
       intro wq HN
       clear HM; have HM := HN; clear HN
       refine hK.out _ _ (HM.out.less (by repeat (first | exact List.nil_sublist _ | apply List.Sublist.cons_cons | apply List.Sublist.cons))) (fun _ => ?_)
       clear hK K
       (try simp only [Act.put, List.setIfInBounds_toArray, List.set_cons_zero, List.set_cons_succ])
       refine wpAnyH_ready (rs := [7]) (by kernel_rfl) (by simp) ?_
       refine AllReadyH.cons (o := ⟨none, .store 50 (.tmp 10) (.tmp 30), _, _, _, none⟩) rfl (fun K hK => ?_) ?_
       ·skip
        refine d_store (by repeat (first | exact HM.out | apply Blks.drewN | apply Blks.drew | apply Blks.other)) (by rfl) (by rfl) (by rfl) (semOne HO2.out) (by repeat (first | exact List.Mem.head _ | apply List.Mem.tail)) (by repeat (first | exact Wr.nil | apply Wr.here | apply Wr.skip)) (by repeat (first | exact Up.here | apply Up.skip)) ?_
        intro wq HN
        clear HM; have HM := HN; clear HN
        refine hK.out _ _ (HM.out.less (by repeat (first | exact List.nil_sublist _ | apply List.Sublist.cons_cons | apply List.Sublist.cons))) (fun _ => ?_)
        clear hK K
        (try simp only [Act.put, List.setIfInBounds_toArray, List.set_cons_zero, List.set_cons_succ])
        refine wpAnyH_done (by kernel_rfl) ?_ _
        go_wp2_with fail
        go_meet
        case rel => exact ⟨b9, b10, P1, P2, X1, X2, rfl, rfl, HX1, HX2, ⟨HM.out.perm (List.Perm.swap _ _ _)⟩⟩
       exact AllReadyH.nil
      exact AllReadyH.nil
     exact AllReadyH.nil
    refine AllReadyH.cons (o := ⟨some 10, .alloc 50, _, _, _, none⟩) rfl (fun K hK => ?_) ?_
    ·skip
     refine d_alloc (by repeat (first | exact HM.out | apply Blks.drewN | apply Blks.drew | apply Blks.other)) ?_
     intro b10 wq HN
     clear HM; have HM := HN; clear HN
     refine hK.out _ _ (HM.out.less (by repeat (first | exact List.nil_sublist _ | apply List.Sublist.cons_cons | apply List.Sublist.cons))) (fun _ => ?_)
     clear hK K
     (try simp only [Act.put, List.setIfInBounds_toArray, List.set_cons_zero, List.set_cons_succ])
     refine wpAnyH_ready (rs := [3]) (by kernel_rfl) (by simp) ?_
     refine AllReadyH.cons rfl (fun K hK => ?_) ?_
     ·skip
      go_simp
      go_wp2_with (go_at_call 68; ((with_reducible refine (HV2.out _).mono ?_); rintro e w2 ⟨⟨v, rfl, P2, rfl, hP⟩, hb⟩; have HO2 := Lib.hid (show P2.oneCell' = true by obtain ⟨_, _, rfl⟩ := hP.val; rfl); obtain ⟨X2, HX2, HN⟩ := Blks.strsAdd (by repeat (first | exact HM.out | apply Blks.drewN | apply Blks.drew | apply Blks.other)) hb hP; simp only [List.cons_append, List.nil_append] at HN; clear HM hb hP; have HM := Aside0.mk HN; clear HN))
      refine hK.out _ _ (HM.out.less (by repeat (first | exact List.nil_sublist _ | apply List.Sublist.cons_cons | apply List.Sublist.cons))) (fun _ => ?_)
      clear hK K
      (try simp only [Act.put, List.setIfInBounds_toArray, List.set_cons_zero, List.set_cons_succ])
      refine wpAnyH_ready (rs := [6]) (by kernel_rfl) (by simp) ?_
      refine AllReadyH.cons (o := ⟨none, .store 50 (.tmp 9) (.tmp 28), _, _, _, none⟩) rfl (fun K hK => ?_) ?_
      ·skip
       refine d_store (by repeat (first | exact HM.out | apply Blks.drewN | apply Blks.drew | apply Blks.other)) (by rfl) (by rfl) (by rfl) (semOne HO1.out) (by repeat (first | exact List.Mem.head _ | apply List.Mem.tail)) (by repeat (first | exact Wr.nil | apply Wr.here | apply Wr.skip)) (by repeat (first | exact Up.here | apply Up.skip)) ?_
       intro wq HN
       clear HM; have HM := HN; clear HN
       refine hK.out _ _ (HM.out.less (by repeat (first | exact List.nil_sublist _ | apply List.Sublist.cons_cons | apply List.Sublist.cons))) (fun _ => ?_)
       clear hK K
       (try simp only [Act.put, List.setIfInBounds_toArray, List.set_cons_zero, List.set_cons_succ])
       refine wpAnyH_ready (rs := [7]) (by kernel_rfl) (by simp) ?_
       refine AllReadyH.cons (o := ⟨none, .store 50 (.tmp 10) (.tmp 30), _, _, _, none⟩) rfl (fun K hK => ?_) ?_
       ·skip
        refine d_store (by repeat (first | exact HM.out | apply Blks.drewN | apply Blks.drew | apply Blks.other)) (by rfl) (by rfl) (by rfl) (semOne HO2.out) (by repeat (first | exact List.Mem.head _ | apply List.Mem.tail)) (by repeat (first | exact Wr.nil | apply Wr.here | apply Wr.skip)) (by repeat (first | exact Up.here | apply Up.skip)) ?_
        intro wq HN
        clear HM; have HM := HN; clear HN
        refine hK.out _ _ (HM.out.less (by repeat (first | exact List.nil_sublist _ | apply List.Sublist.cons_cons | apply List.Sublist.cons))) (fun _ => ?_)
        clear hK K
        (try simp only [Act.put, List.setIfInBounds_toArray, List.set_cons_zero, List.set_cons_succ])
        refine wpAnyH_done (by kernel_rfl) ?_ _
        go_wp2_with fail
        go_meet
        case rel => exact ⟨b9, b10, P1, P2, X1, X2, rfl, rfl, HX1, HX2, ⟨HM.out.perm (List.Perm.swap _ _ _)⟩⟩
       exact AllReadyH.nil
      exact AllReadyH.nil
     exact AllReadyH.nil
    exact AllReadyH.nil
   refine AllReadyH.cons (o := ⟨some 10, .alloc 50, _, _, _, none⟩) rfl (fun K hK => ?_) ?_
   ·skip
    refine d_alloc (by repeat (first | exact HM.out | apply Blks.drewN | apply Blks.drew | apply Blks.other)) ?_
    intro b10 wq HN
    clear HM; have HM := HN; clear HN
    refine hK.out _ _ (HM.out.less (by repeat (first | exact List.nil_sublist _ | apply List.Sublist.cons_cons | apply List.Sublist.cons))) (fun _ => ?_)
    clear hK K
    (try simp only [Act.put, List.setIfInBounds_toArray, List.set_cons_zero, List.set_cons_succ])
    refine wpAnyH_ready (rs := [3, 4]) (by kernel_rfl) (by simp) ?_
    refine AllReadyH.cons rfl (fun K hK => ?_) ?_
    ·skip
     go_simp
     go_wp2_with (go_at_call 68; ((with_reducible refine (HV2.out _).mono ?_); rintro e w2 ⟨⟨v, rfl, P2, rfl, hP⟩, hb⟩; have HO2 := Lib.hid (show P2.oneCell' = true by obtain ⟨_, _, rfl⟩ := hP.val; rfl); obtain ⟨X2, HX2, HN⟩ := Blks.strsAdd (by repeat (first | exact HM.out | apply Blks.drewN | apply Blks.drew | apply Blks.other)) hb hP; simp only [List.cons_append, List.nil_append] at HN; clear HM hb hP; have HM := Aside0.mk HN; clear HN))
     refine hK.out _ _ (HM.out.less (by repeat (first | exact List.nil_sublist _ | apply List.Sublist.cons_cons | apply List.Sublist.cons))) (fun _ => ?_)
     clear hK K
     (try simp only [Act.put, List.setIfInBounds_toArray, List.set_cons_zero, List.set_cons_succ])
     refine wpAnyH_ready (rs := [4]) (by kernel_rfl) (by simp) ?_
     refine AllReadyH.cons (o := ⟨some 9, .alloc 50, _, _, _, none⟩) rfl (fun K hK => ?_) ?_
     ·skip
      refine d_alloc (by repeat (first | exact HM.out | apply Blks.drewN | apply Blks.drew | apply Blks.other)) ?_
      intro b9 wq HN
      clear HM; have HM := HN; clear HN
      refine hK.out _ _ (HM.out.less (by repeat (first | exact List.nil_sublist _ | apply List.Sublist.cons_cons | apply List.Sublist.cons))) (fun _ => ?_)
      clear hK K
      (try simp only [Act.put, List.setIfInBounds_toArray, List.set_cons_zero, List.set_cons_succ])
      refine wpAnyH_ready (rs := [6]) (by kernel_rfl) (by simp) ?_
      refine AllReadyH.cons (o := ⟨none, .store 50 (.tmp 9) (.tmp 28), _, _, _, none⟩) rfl (fun K hK => ?_) ?_
      ·skip
       refine d_store (by repeat (first | exact HM.out | apply Blks.drewN | apply Blks.drew | apply Blks.other)) (by rfl) (by rfl) (by rfl) (semOne HO1.out) (by repeat (first | exact List.Mem.head _ | apply List.Mem.tail)) (by repeat (first | exact Wr.nil | apply Wr.here | apply Wr.skip)) (by repeat (first | exact Up.here | apply Up.skip)) ?_
       intro wq HN
       clear HM; have HM := HN; clear HN
       refine hK.out _ _ (HM.out.less (by repeat (first | exact List.nil_sublist _ | apply List.Sublist.cons_cons | apply List.Sublist.cons))) (fun _ => ?_)
       clear hK K
       (try simp only [Act.put, List.setIfInBounds_toArray, List.set_cons_zero, List.set_cons_succ])
       refine wpAnyH_ready (rs := [7]) (by kernel_rfl) (by simp) ?_
       refine AllReadyH.cons (o := ⟨none, .store 50 (.tmp 10) (.tmp 30), _, _, _, none⟩) rfl (fun K hK => ?_) ?_
       ·skip
        refine d_store (by repeat (first | exact HM.out | apply Blks.drewN | apply Blks.drew | apply Blks.other)) (by rfl) (by rfl) (by rfl) (semOne HO2.out) (by repeat (first | exact List.Mem.head _ | apply List.Mem.tail)) (by repeat (first | exact Wr.nil | apply Wr.here | apply Wr.skip)) (by repeat (first | exact Up.here | apply Up.skip)) ?_
        intro wq HN
        clear HM; have HM := HN; clear HN
        refine hK.out _ _ (HM.out.less (by repeat (first | exact List.nil_sublist _ | apply List.Sublist.cons_cons | apply List.Sublist.cons))) (fun _ => ?_)
        clear hK K
        (try simp only [Act.put, List.setIfInBounds_toArray, List.set_cons_zero, List.set_cons_succ])
        refine wpAnyH_done (by kernel_rfl) ?_ _
        go_wp2_with fail
        go_meet
        case rel => exact ⟨b9, b10, P1, P2, X1, X2, rfl, rfl, HX1, HX2, ⟨HM.out⟩⟩
       exact AllReadyH.nil
      exact AllReadyH.nil
     exact AllReadyH.nil
    refine AllReadyH.cons (o := ⟨some 9, .alloc 50, _, _, _, none⟩) rfl (fun K hK => ?_) ?_
    ·skip
     refine d_alloc (by repeat (first | exact HM.out | apply Blks.drewN | apply Blks.drew | apply Blks.other)) ?_
     intro b9 wq HN
     clear HM; have HM := HN; clear HN
     refine hK.out _ _ (HM.out.less (by repeat (first | exact List.nil_sublist _ | apply List.Sublist.cons_cons | apply List.Sublist.cons))) (fun _ => ?_)
     clear hK K
     (try simp only [Act.put, List.setIfInBounds_toArray, List.set_cons_zero, List.set_cons_succ])
     refine wpAnyH_ready (rs := [3]) (by kernel_rfl) (by simp) ?_
     refine AllReadyH.cons rfl (fun K hK => ?_) ?_
     ·skip
      go_simp
      go_wp2_with (go_at_call 68; ((with_reducible refine (HV2.out _).mono ?_); rintro e w2 ⟨⟨v, rfl, P2, rfl, hP⟩, hb⟩; have HO2 := Lib.hid (show P2.oneCell' = true by obtain ⟨_, _, rfl⟩ := hP.val; rfl); obtain ⟨X2, HX2, HN⟩ := Blks.strsAdd (by repeat (first | exact HM.out | apply Blks.drewN | apply Blks.drew | apply Blks.other)) hb hP; simp only [List.cons_append, List.nil_append] at HN; clear HM hb hP; have HM := Aside0.mk HN; clear HN))
      refine hK.out _ _ (HM.out.less (by repeat (first | exact List.nil_sublist _ | apply List.Sublist.cons_cons | apply List.Sublist.cons))) (fun _ => ?_)
      clear hK K
      (try simp only [Act.put, List.setIfInBounds_toArray, List.set_cons_zero, List.set_cons_succ])
      refine wpAnyH_ready (rs := [6]) (by kernel_rfl) (by simp) ?_
      refine AllReadyH.cons (o := ⟨none, .store 50 (.tmp 9) (.tmp 28), _, _, _, none⟩) rfl (fun K hK => ?_) ?_
      ·skip
       refine d_store (by repeat (first | exact HM.out | apply Blks.drewN | apply Blks.drew | apply Blks.other)) (by rfl) (by rfl) (by rfl) (semOne HO1.out) (by repeat (first | exact List.Mem.head _ | apply List.Mem.tail)) (by repeat (first | exact Wr.nil | apply Wr.here | apply Wr.skip)) (by repeat (first | exact Up.here | apply Up.skip)) ?_
       intro wq HN
       clear HM; have HM := HN; clear HN
       refine hK.out _ _ (HM.out.less (by repeat (first | exact List.nil_sublist _ | apply List.Sublist.cons_cons | apply List.Sublist.cons))) (fun _ => ?_)
       clear hK K
       (try simp only [Act.put, List.setIfInBounds_toArray, List.set_cons_zero, List.set_cons_succ])
       refine wpAnyH_ready (rs := [7]) (by kernel_rfl) (by simp) ?_
       refine AllReadyH.cons (o := ⟨none, .store 50 (.tmp 10) (.tmp 30), _, _, _, none⟩) rfl (fun K hK => ?_) ?_
       ·skip
        refine d_store (by repeat (first | exact HM.out | apply Blks.drewN | apply Blks.drew | apply Blks.other)) (by rfl) (by rfl) (by rfl) (semOne HO2.out) (by repeat (first | exact List.Mem.head _ | apply List.Mem.tail)) (by repeat (first | exact Wr.nil | apply Wr.here | apply Wr.skip)) (by repeat (first | exact Up.here | apply Up.skip)) ?_
        intro wq HN
        clear HM; have HM := HN; clear HN
        refine hK.out _ _ (HM.out.less (by repeat (first | exact List.nil_sublist _ | apply List.Sublist.cons_cons | apply List.Sublist.cons))) (fun _ => ?_)
        clear hK K
        (try simp only [Act.put, List.setIfInBounds_toArray, List.set_cons_zero, List.set_cons_succ])
        refine wpAnyH_done (by kernel_rfl) ?_ _
        go_wp2_with fail
        go_meet
        case rel => exact ⟨b9, b10, P1, P2, X1, X2, rfl, rfl, HX1, HX2, ⟨HM.out⟩⟩
       exact AllReadyH.nil
      exact AllReadyH.nil
     exact AllReadyH.nil
    exact AllReadyH.nil
   exact AllReadyH.nil
  refine AllReadyH.cons (o := ⟨some 9, .alloc 50, _, _, _, none⟩) rfl (fun K hK => ?_) ?_
  ·skip
   refine d_alloc (by repeat (first | exact HM.out | apply Blks.drewN | apply Blks.drew | apply Blks.other)) ?_
   intro b9 wq HN
   clear HM; have HM := HN; clear HN
   refine hK.out _ _ (HM.out.less (by repeat (first | exact List.nil_sublist _ | apply List.Sublist.cons_cons | apply List.Sublist.cons))) (fun _ => ?_)
   clear hK K
   (try simp only [Act.put, List.setIfInBounds_toArray, List.set_cons_zero, List.set_cons_succ])
   refine wpAnyH_ready (rs := [1, 5]) (by kernel_rfl) (by simp) ?_
   refine AllReadyH.cons rfl (fun K hK => ?_) ?_
   ·skip
    go_simp
    go_wp2_with (go_at_call 68; ((with_reducible refine (HV1.out _).mono ?_); rintro e w2 ⟨⟨v, rfl, P1, rfl, hP⟩, hb⟩; have HO1 := Lib.hid (show P1.oneCell' = true by obtain ⟨_, _, rfl⟩ := hP.val; rfl); obtain ⟨X1, HX1, HN⟩ := Blks.strsAdd (by repeat (first | exact HM.out | apply Blks.drewN | apply Blks.drew | apply Blks.other)) hb hP; simp only [List.cons_append, List.nil_append] at HN; clear HM hb hP; have HM := Aside0.mk HN; clear HN))
    refine hK.out _ _ (HM.out.less (by repeat (first | exact List.nil_sublist _ | apply List.Sublist.cons_cons | apply List.Sublist.cons))) (fun _ => ?_)
    clear hK K
    (try simp only [Act.put, List.setIfInBounds_toArray, List.set_cons_zero, List.set_cons_succ])
    refine wpAnyH_ready (rs := [3, 5]) (by kernel_rfl) (by simp) ?_
    refine AllReadyH.cons rfl (fun K hK => ?_) ?_
    ·skip
     go_simp
     go_wp2_with (go_at_call 68; ((with_reducible refine (HV2.out _).mono ?_); rintro e w2 ⟨⟨v, rfl, P2, rfl, hP⟩, hb⟩; have HO2 := Lib.hid (show P2.oneCell' = true by obtain ⟨_, _, rfl⟩ := hP.val; rfl); obtain ⟨X2, HX2, HN⟩ := Blks.strsAdd (by repeat (first | exact HM.out | apply Blks.drewN | apply Blks.drew | apply Blks.other)) hb hP; simp only [List.cons_append, List.nil_append] at HN; clear HM hb hP; have HM := Aside0.mk HN; clear HN))
     refine hK.out _ _ (HM.out.less (by repeat (first | exact List.nil_sublist _ | apply List.Sublist.cons_cons | apply List.Sublist.cons))) (fun _ => ?_)
     clear hK K
     (try simp only [Act.put, List.setIfInBounds_toArray, List.set_cons_zero, List.set_cons_succ])
     refine wpAnyH_ready (rs := [5]) (by kernel_rfl) (by simp) ?_
     refine AllReadyH.cons (o := ⟨some 10, .alloc 50, _, _, _, none⟩) rfl (fun K hK => ?_) ?_
     ·skip
      refine d_alloc (by repeat (first | exact HM.out | apply Blks.drewN | apply Blks.drew | apply Blks.other)) ?_
      intro b10 wq HN
      clear HM; have HM := HN; clear HN
      refine hK.out _ _ (HM.out.less (by repeat (first | exact List.nil_sublist _ | apply List.Sublist.cons_cons | apply List.Sublist.cons))) (fun _ => ?_)
      clear hK K
      (try simp only [Act.put, List.setIfInBounds_toArray, List.set_cons_zero, List.set_cons_succ])
      refine wpAnyH_ready (rs := [6]) (by kernel_rfl) (by simp) ?_
      refine AllReadyH.cons (o := ⟨none, .store 50 (.tmp 9) (.tmp 28), _, _, _, none⟩) rfl (fun K hK => ?_) ?_
      ·skip
       refine d_store (by repeat (first | exact HM.out | apply Blks.drewN | apply Blks.drew | apply Blks.other)) (by rfl) (by rfl) (by rfl) (semOne HO1.out) (by repeat (first | exact List.Mem.head _ | apply List.Mem.tail)) (by repeat (first | exact Wr.nil | apply Wr.here | apply Wr.skip)) (by repeat (first | exact Up.here | apply Up.skip)) ?_
       intro wq HN
       clear HM; have HM := HN; clear HN
       refine hK.out _ _ (HM.out.less (by repeat (first | exact List.nil_sublist _ | apply List.Sublist.cons_cons | apply List.Sublist.cons))) (fun _ => ?_)
       clear hK K
       (try simp only [Act.put, List.setIfInBounds_toArray, List.set_cons_zero, List.set_cons_succ])
       refine wpAnyH_ready (rs := [7]) (by kernel_rfl) (by simp) ?_
       refine AllReadyH.cons (o := ⟨none, .store 50 (.tmp 10) (.tmp 30), _, _, _, none⟩) rfl (fun K hK => ?_) ?_
       ·skip
        refine d_store (by repeat (first | exact HM.out | apply Blks.drewN | apply Blks.drew | apply Blks.other)) (by rfl) (by rfl) (by rfl) (semOne HO2.out) (by repeat (first | exact List.Mem.head _ | apply List.Mem.tail)) (by repeat (first | exact Wr.nil | apply Wr.here | apply Wr.skip)) (by repeat (first | exact Up.here | apply Up.skip)) ?_
        intro wq HN
        clear HM; have HM := HN; clear HN
        refine hK.out _ _ (HM.out.less (by repeat (first | exact List.nil_sublist _ | apply List.Sublist.cons_cons | apply List.Sublist.cons))) (fun _ => ?_)
        clear hK K
        (try simp only [Act.put, List.setIfInBounds_toArray, List.set_cons_zero, List.set_cons_succ])
        refine wpAnyH_done (by kernel_rfl) ?_ _
        go_wp2_with fail
        go_meet
        case rel => exact ⟨b9, b10, P1, P2, X1, X2, rfl, rfl, HX1, HX2, ⟨HM.out.perm (List.Perm.swap _ _ _)⟩⟩
       exact AllReadyH.nil
      exact AllReadyH.nil
     exact AllReadyH.nil
    refine AllReadyH.cons (o := ⟨some 10, .alloc 50, _, _, _, none⟩) rfl (fun K hK => ?_) ?_
    ·skip
     refine d_alloc (by repeat (first | exact HM.out | apply Blks.drewN | apply Blks.drew | apply Blks.other)) ?_
     intro b10 wq HN
     clear HM; have HM := HN; clear HN
     refine hK.out _ _ (HM.out.less (by repeat (first | exact List.nil_sublist _ | apply List.Sublist.cons_cons | apply List.Sublist.cons))) (fun _ => ?_)
     clear hK K
     (try simp only [Act.put, List.setIfInBounds_toArray, List.set_cons_zero, List.set_cons_succ])
     refine wpAnyH_ready (rs := [3]) (by kernel_rfl) (by simp) ?_
     refine AllReadyH.cons rfl (fun K hK => ?_) ?_
     ·skip
      go_simp
      go_wp2_with (go_at_call 68; ((with_reducible refine (HV2.out _).mono ?_); rintro e w2 ⟨⟨v, rfl, P2, rfl, hP⟩, hb⟩; have HO2 := Lib.hid (show P2.oneCell' = true by obtain ⟨_, _, rfl⟩ := hP.val; rfl); obtain ⟨X2, HX2, HN⟩ := Blks.strsAdd (by repeat (first | exact HM.out | apply Blks.drewN | apply Blks.drew | apply Blks.other)) hb hP; simp only [List.cons_append, List.nil_append] at HN; clear HM hb hP; have HM := Aside0.mk HN; clear HN))
      refine hK.out _ _ (HM.out.less (by repeat (first | exact List.nil_sublist _ | apply List.Sublist.cons_cons | apply List.Sublist.cons))) (fun _ => ?_)
      clear hK K
      (try simp only [Act.put, List.setIfInBounds_toArray, List.set_cons_zero, List.set_cons_succ])
      refine wpAnyH_ready (rs := [6]) (by kernel_rfl) (by simp) ?_
      refine AllReadyH.cons (o := ⟨none, .store 50 (.tmp 9) (.tmp 28), _, _, _, none⟩) rfl (fun K hK => ?_) ?_
      ·skip
       refine d_store (by repeat (first | exact HM.out | apply Blks.drewN | apply Blks.drew | apply Blks.other)) (by rfl) (by rfl) (by rfl) (semOne HO1.out) (by repeat (first | exact List.Mem.head _ | apply List.Mem.tail)) (by repeat (first | exact Wr.nil | apply Wr.here | apply Wr.skip)) (by repeat (first | exact Up.here | apply Up.skip)) ?_
       intro wq HN
       clear HM; have HM := HN; clear HN
       refine hK.out _ _ (HM.out.less (by repeat (first | exact List.nil_sublist _ | apply List.Sublist.cons_cons | apply List.Sublist.cons))) (fun _ => ?_)
       clear hK K
       (try simp only [Act.put, List.setIfInBounds_toArray, List.set_cons_zero, List.set_cons_succ])
       refine wpAnyH_ready (rs := [7]) (by kernel_rfl) (by simp) ?_
       refine AllReadyH.cons (o := ⟨none, .store 50 (.tmp 10) (.tmp 30), _, _, _, none⟩) rfl (fun K hK => ?_) ?_
       ·skip
        refine d_store (by repeat (first | exact HM.out | apply Blks.drewN | apply Blks.drew | apply Blks.other)) (by rfl) (by rfl) (by rfl) (semOne HO2.out) (by repeat (first | exact List.Mem.head _ | apply List.Mem.tail)) (by repeat (first | exact Wr.nil | apply Wr.here | apply Wr.skip)) (by repeat (first | exact Up.here | apply Up.skip)) ?_
        intro wq HN
        clear HM; have HM := HN; clear HN
        refine hK.out _ _ (HM.out.less (by repeat (first | exact List.nil_sublist _ | apply List.Sublist.cons_cons | apply List.Sublist.cons))) (fun _ => ?_)
        clear hK K
        (try simp only [Act.put, List.setIfInBounds_toArray, List.set_cons_zero, List.set_cons_succ])
        refine wpAnyH_done (by kernel_rfl) ?_ _
        go_wp2_with fail
        go_meet
        case rel => exact ⟨b9, b10, P1, P2, X1, X2, rfl, rfl, HX1, HX2, ⟨HM.out.perm (List.Perm.swap _ _ _)⟩⟩
       exact AllReadyH.nil
      exact AllReadyH.nil
     exact AllReadyH.nil
    exact AllReadyH.nil
   refine AllReadyH.cons (o := ⟨some 10, .alloc 50, _, _, _, none⟩) rfl (fun K hK => ?_) ?_
   ·skip
    refine d_alloc (by repeat (first | exact HM.out | apply Blks.drewN | apply Blks.drew | apply Blks.other)) ?_
    intro b10 wq HN
    clear HM; have HM := HN; clear HN
    refine hK.out _ _ (HM.out.less (by repeat (first | exact List.nil_sublist _ | apply List.Sublist.cons_cons | apply List.Sublist.cons))) (fun _ => ?_)
    clear hK K
    (try simp only [Act.put, List.setIfInBounds_toArray, List.set_cons_zero, List.set_cons_succ])
    refine wpAnyH_ready (rs := [1]) (by kernel_rfl) (by simp) ?_
    refine AllReadyH.cons rfl (fun K hK => ?_) ?_
    ·skip
     go_simp
     go_wp2_with (go_at_call 68; ((with_reducible refine (HV1.out _).mono ?_); rintro e w2 ⟨⟨v, rfl, P1, rfl, hP⟩, hb⟩; have HO1 := Lib.hid (show P1.oneCell' = true by obtain ⟨_, _, rfl⟩ := hP.val; rfl); obtain ⟨X1, HX1, HN⟩ := Blks.strsAdd (by repeat (first | exact HM.out | apply Blks.drewN | apply Blks.drew | apply Blks.other)) hb hP; simp only [List.cons_append, List.nil_append] at HN; clear HM hb hP; have HM := Aside0.mk HN; clear HN))
     refine hK.out _ _ (HM.out.less (by repeat (first | exact List.nil_sublist _ | apply List.Sublist.cons_cons | apply List.Sublist.cons))) (fun _ => ?_)
     clear hK K
     (try simp only [Act.put, List.setIfInBounds_toArray, List.set_cons_zero, List.set_cons_succ])
     refine wpAnyH_ready (rs := [3]) (by kernel_rfl) (by simp) ?_
     refine AllReadyH.cons rfl (fun K hK => ?_) ?_
     ·skip
      go_simp
      go_wp2_with (go_at_call 68; ((with_reducible refine (HV2.out _).mono ?_); rintro e w2 ⟨⟨v, rfl, P2, rfl, hP⟩, hb⟩; have HO2 := Lib.hid (show P2.oneCell' = true by obtain ⟨_, _, rfl⟩ := hP.val; rfl); obtain ⟨X2, HX2, HN⟩ := Blks.strsAdd (by repeat (first | exact HM.out | apply Blks.drewN | apply Blks.drew | apply Blks.other)) hb hP; simp only [List.cons_append, List.nil_append] at HN; clear HM hb hP; have HM := Aside0.mk HN; clear HN))
      refine hK.out _ _ (HM.out.less (by repeat (first | exact List.nil_sublist _ | apply List.Sublist.cons_cons | apply List.Sublist.cons))) (fun _ => ?_)
      clear hK K
      (try simp only [Act.put, List.setIfInBounds_toArray, List.set_cons_zero, List.set_cons_succ])
      refine wpAnyH_ready (rs := [6]) (by kernel_rfl) (by simp) ?_
      refine AllReadyH.cons (o := ⟨none, .store 50 (.tmp 9) (.tmp 28), _, _, _, none⟩) rfl (fun K hK => ?_) ?_
      ·skip
       refine d_store (by repeat (first | exact HM.out | apply Blks.drewN | apply Blks.drew | apply Blks.other)) (by rfl) (by rfl) (by rfl) (semOne HO1.out) (by repeat (first | exact List.Mem.head _ | apply List.Mem.tail)) (by repeat (first | exact Wr.nil | apply Wr.here | apply Wr.skip)) (by repeat (first | exact Up.here | apply Up.skip)) ?_
       intro wq HN
       clear HM; have HM := HN; clear HN
       refine hK.out _ _ (HM.out.less (by repeat (first | exact List.nil_sublist _ | apply List.Sublist.cons_cons | apply List.Sublist.cons))) (fun _ => ?_)
       clear hK K
       (try simp only [Act.put, List.setIfInBounds_toArray, List.set_cons_zero, List.set_cons_succ])
       refine wpAnyH_ready (rs := [7]) (by kernel_rfl) (by simp) ?_
       refine AllReadyH.cons (o := ⟨none, .store 50 (.tmp 10) (.tmp 30), _, _, _, none⟩) rfl (fun K hK => ?_) ?_
       ·skip
        refine d_store (by repeat (first | exact HM.out | apply Blks.drewN | apply Blks.drew | apply Blks.other)) (by rfl) (by rfl) (by rfl) (semOne HO2.out) (by repeat (first | exact List.Mem.head _ | apply List.Mem.tail)) (by repeat (first | exact Wr.nil | apply Wr.here | apply Wr.skip)) (by repeat (first | exact Up.here | apply Up.skip)) ?_
        intro wq HN
        clear HM; have HM := HN; clear HN
        refine hK.out _ _ (HM.out.less (by repeat (first | exact List.nil_sublist _ | apply List.Sublist.cons_cons | apply List.Sublist.cons))) (fun _ => ?_)
        clear hK K
        (try simp only [Act.put, List.setIfInBounds_toArray, List.set_cons_zero, List.set_cons_succ])
        refine wpAnyH_done (by kernel_rfl) ?_ _
        go_wp2_with fail
        go_meet
        case rel => exact ⟨b9, b10, P1, P2, X1, X2, rfl, rfl, HX1, HX2, ⟨HM.out.perm (List.Perm.swap _ _ _)⟩⟩
       exact AllReadyH.nil
      exact AllReadyH.nil
     exact AllReadyH.nil
    exact AllReadyH.nil
   exact AllReadyH.nil
  refine AllReadyH.cons (o := ⟨some 10, .alloc 50, _, _, _, none⟩) rfl (fun K hK => ?_) ?_
  ·skip
   refine d_alloc (by repeat (first | exact HM.out | apply Blks.drewN | apply Blks.drew | apply Blks.other)) ?_
   intro b10 wq HN
   clear HM; have HM := HN; clear HN
   refine hK.out _ _ (HM.out.less (by repeat (first | exact List.nil_sublist _ | apply List.Sublist.cons_cons | apply List.Sublist.cons))) (fun _ => ?_)
   clear hK K
   (try simp only [Act.put, List.setIfInBounds_toArray, List.set_cons_zero, List.set_cons_succ])
   refine wpAnyH_ready (rs := [1, 4]) (by kernel_rfl) (by simp) ?_
   refine AllReadyH.cons rfl (fun K hK => ?_) ?_
   ·skip
    go_simp
    go_wp2_with (go_at_call 68; ((with_reducible refine (HV1.out _).mono ?_); rintro e w2 ⟨⟨v, rfl, P1, rfl, hP⟩, hb⟩; have HO1 := Lib.hid (show P1.oneCell' = true by obtain ⟨_, _, rfl⟩ := hP.val; rfl); obtain ⟨X1, HX1, HN⟩ := Blks.strsAdd (by repeat (first | exact HM.out | apply Blks.drewN | apply Blks.drew | apply Blks.other)) hb hP; simp only [List.cons_append, List.nil_append] at HN; clear HM hb hP; have HM := Aside0.mk HN; clear HN))
    refine hK.out _ _ (HM.out.less (by repeat (first | exact List.nil_sublist _ | apply List.Sublist.cons_cons | apply List.Sublist.cons))) (fun _ => ?_)
    clear hK K
    (try simp only [Act.put, List.setIfInBounds_toArray, List.set_cons_zero, List.set_cons_succ])
    refine wpAnyH_ready (rs := [3, 4]) (by kernel_rfl) (by simp) ?_
    refine AllReadyH.cons rfl (fun K hK => ?_) ?_
    ·skip
     go_simp
     go_wp2_with (go_at_call 68; ((with_reducible refine (HV2.out _).mono ?_); rintro e w2 ⟨⟨v, rfl, P2, rfl, hP⟩, hb⟩; have HO2 := Lib.hid (show P2.oneCell' = true by obtain ⟨_, _, rfl⟩ := hP.val; rfl); obtain ⟨X2, HX2, HN⟩ := Blks.strsAdd (by repeat (first | exact HM.out | apply Blks.drewN | apply Blks.drew | apply Blks.other)) hb hP; simp only [List.cons_append, List.nil_append] at HN; clear HM hb hP; have HM := Aside0.mk HN; clear HN))
     refine hK.out _ _ (HM.out.less (by repeat (first | exact List.nil_sublist _ | apply List.Sublist.cons_cons | apply List.Sublist.cons))) (fun _ => ?_)
     clear hK K
     (try simp only [Act.put, List.setIfInBounds_toArray, List.set_cons_zero, List.set_cons_succ])
     refine wpAnyH_ready (rs := [4]) (by kernel_rfl) (by simp) ?_
     refine AllReadyH.cons (o := ⟨some 9, .alloc 50, _, _, _, none⟩) rfl (fun K hK => ?_) ?_
     ·skip
      refine d_alloc (by repeat (first | exact HM.out | apply Blks.drewN | apply Blks.drew | apply Blks.other)) ?_
      intro b9 wq HN
      clear HM; have HM := HN; clear HN
      refine hK.out _ _ (HM.out.less (by repeat (first | exact List.nil_sublist _ | apply List.Sublist.cons_cons | apply List.Sublist.cons))) (fun _ => ?_)
      clear hK K
      (try simp only [Act.put, List.setIfInBounds_toArray, List.set_cons_zero, List.set_cons_succ])
      refine wpAnyH_ready (rs := [6]) (by kernel_rfl) (by simp) ?_
      refine AllReadyH.cons (o := ⟨none, .store 50 (.tmp 9) (.tmp 28), _, _, _, none⟩) rfl (fun K hK => ?_) ?_
      ·skip
       refine d_store (by repeat (first | exact HM.out | apply Blks.drewN | apply Blks.drew | apply Blks.other)) (by rfl) (by rfl) (by rfl) (semOne HO1.out) (by repeat (first | exact List.Mem.head _ | apply List.Mem.tail)) (by repeat (first | exact Wr.nil | apply Wr.here | apply Wr.skip)) (by repeat (first | exact Up.here | apply Up.skip)) ?_
       intro wq HN
       clear HM; have HM := HN; clear HN
       refine hK.out _ _ (HM.out.less (by repeat (first | exact List.nil_sublist _ | apply List.Sublist.cons_cons | apply List.Sublist.cons))) (fun _ => ?_)
       clear hK K
       (try simp only [Act.put, List.setIfInBounds_toArray, List.set_cons_zero, List.set_cons_succ])
       refine wpAnyH_ready (rs := [7]) (by kernel_rfl) (by simp) ?_
       refine AllReadyH.cons (o := ⟨none, .store 50 (.tmp 10) (.tmp 30), _, _, _, none⟩) rfl (fun K hK => ?_) ?_
       ·skip
        refine d_store (by repeat (first | exact HM.out | apply Blks.drewN | apply Blks.drew | apply Blks.other)) (by rfl) (by rfl) (by rfl) (semOne HO2.out) (by repeat (first | exact List.Mem.head _ | apply List.Mem.tail)) (by repeat (first | exact Wr.nil | apply Wr.here | apply Wr.skip)) (by repeat (first | exact Up.here | apply Up.skip)) ?_
        intro wq HN
        clear HM; have HM := HN; clear HN
        refine hK.out _ _ (HM.out.less (by repeat (first | exact List.nil_sublist _ | apply List.Sublist.cons_cons | apply List.Sublist.cons))) (fun _ => ?_)
        clear hK K
        (try simp only [Act.put, List.setIfInBounds_toArray, List.set_cons_zero, List.set_cons_succ])
        refine wpAnyH_done (by kernel_rfl) ?_ _
        go_wp2_with fail
        go_meet
        case rel => exact ⟨b9, b10, P1, P2, X1, X2, rfl, rfl, HX1, HX2, ⟨HM.out⟩⟩
       exact AllReadyH.nil
      exact AllReadyH.nil
     exact AllReadyH.nil
    refine AllReadyH.cons (o := ⟨some 9, .alloc 50, _, _, _, none⟩) rfl (fun K hK => ?_) ?_
    ·skip
     refine d_alloc (by repeat (first | exact HM.out | apply Blks.drewN | apply Blks.drew | apply Blks.other)) ?_
     intro b9 wq HN
     clear HM; have HM := HN; clear HN
     refine hK.out _ _ (HM.out.less (by repeat (first | exact List.nil_sublist _ | apply List.Sublist.cons_cons | apply List.Sublist.cons))) (fun _ => ?_)
     clear hK K
     (try simp only [Act.put, List.setIfInBounds_toArray, List.set_cons_zero, List.set_cons_succ])
     refine wpAnyH_ready (rs := [3]) (by kernel_rfl) (by simp) ?_
     refine AllReadyH.cons rfl (fun K hK => ?_) ?_
     ·skip
      go_simp
      go_wp2_with (go_at_call 68; ((with_reducible refine (HV2.out _).mono ?_); rintro e w2 ⟨⟨v, rfl, P2, rfl, hP⟩, hb⟩; have HO2 := Lib.hid (show P2.oneCell' = true by obtain ⟨_, _, rfl⟩ := hP.val; rfl); obtain ⟨X2, HX2, HN⟩ := Blks.strsAdd (by repeat (first | exact HM.out | apply Blks.drewN | apply Blks.drew | apply Blks.other)) hb hP; simp only [List.cons_append, List.nil_append] at HN; clear HM hb hP; have HM := Aside0.mk HN; clear HN))
      refine hK.out _ _ (HM.out.less (by repeat (first | exact List.nil_sublist _ | apply List.Sublist.cons_cons | apply List.Sublist.cons))) (fun _ => ?_)
      clear hK K
      (try simp only [Act.put, List.setIfInBounds_toArray, List.set_cons_zero, List.set_cons_succ])
      refine wpAnyH_ready (rs := [6]) (by kernel_rfl) (by simp) ?_
      refine AllReadyH.cons (o := ⟨none, .store 50 (.tmp 9) (.tmp 28), _, _, _, none⟩) rfl (fun K hK => ?_) ?_
      ·skip
       refine d_store (by repeat (first | exact HM.out | apply Blks.drewN | apply Blks.drew | apply Blks.other)) (by rfl) (by rfl) (by rfl) (semOne HO1.out) (by repeat (first | exact List.Mem.head _ | apply List.Mem.tail)) (by repeat (first | exact Wr.nil | apply Wr.here | apply Wr.skip)) (by repeat (first | exact Up.here | apply Up.skip)) ?_
       intro wq HN
       clear HM; have HM := HN; clear HN
       refine hK.out _ _ (HM.out.less (by repeat (first | exact List.nil_sublist _ | apply List.Sublist.cons_cons | apply List.Sublist.cons))) (fun _ => ?_)
       clear hK K
       (try simp only [Act.put, List.setIfInBounds_toArray, List.set_cons_zero, List.set_cons_succ])
       refine wpAnyH_ready (rs := [7]) (by kernel_rfl) (by simp) ?_
       refine AllReadyH.cons (o := ⟨none, .store 50 (.tmp 10) (.tmp 30), _, _, _, none⟩) rfl (fun K hK => ?_) ?_
       ·skip
        refine d_store (by repeat (first | exact HM.out | apply Blks.drewN | apply Blks.drew | apply Blks.other)) (by rfl) (by rfl) (by rfl) (semOne HO2.out) (by repeat (first | exact List.Mem.head _ | apply List.Mem.tail)) (by repeat (first | exact Wr.nil | apply Wr.here | apply Wr.skip)) (by repeat (first | exact Up.here | apply Up.skip)) ?_
        intro wq HN
        clear HM; have HM := HN; clear HN
        refine hK.out _ _ (HM.out.less (by repeat (first | exact List.nil_sublist _ | apply List.Sublist.cons_cons | apply List.Sublist.cons))) (fun _ => ?_)
        clear hK K
        (try simp only [Act.put, List.setIfInBounds_toArray, List.set_cons_zero, List.set_cons_succ])
        refine wpAnyH_done (by kernel_rfl) ?_ _
        go_wp2_with fail
        go_meet
        case rel => exact ⟨b9, b10, P1, P2, X1, X2, rfl, rfl, HX1, HX2, ⟨HM.out⟩⟩
       exact AllReadyH.nil
      exact AllReadyH.nil
     exact AllReadyH.nil
    exact AllReadyH.nil
   refine AllReadyH.cons (o := ⟨some 9, .alloc 50, _, _, _, none⟩) rfl (fun K hK => ?_) ?_
   ·skip
    refine d_alloc (by repeat (first | exact HM.out | apply Blks.drewN | apply Blks.drew | apply Blks.other)) ?_
    intro b9 wq HN
    clear HM; have HM := HN; clear HN
    refine hK.out _ _ (HM.out.less (by repeat (first | exact List.nil_sublist _ | apply List.Sublist.cons_cons | apply List.Sublist.cons))) (fun _ => ?_)
    clear hK K
    (try simp only [Act.put, List.setIfInBounds_toArray, List.set_cons_zero, List.set_cons_succ])
    refine wpAnyH_ready (rs := [1]) (by kernel_rfl) (by simp) ?_
    refine AllReadyH.cons rfl (fun K hK => ?_) ?_
    ·skip
     go_simp
     go_wp2_with (go_at_call 68; ((with_reducible refine (HV1.out _).mono ?_); rintro e w2 ⟨⟨v, rfl, P1, rfl, hP⟩, hb⟩; have HO1 := Lib.hid (show P1.oneCell' = true by obtain ⟨_, _, rfl⟩ := hP.val; rfl); obtain ⟨X1, HX1, HN⟩ := Blks.strsAdd (by repeat (first | exact HM.out | apply Blks.drewN | apply Blks.drew | apply Blks.other)) hb hP; simp only [List.cons_append, List.nil_append] at HN; clear HM hb hP; have HM := Aside0.mk HN; clear HN))
     refine hK.out _ _ (HM.out.less (by repeat (first | exact List.nil_sublist _ | apply List.Sublist.cons_cons | apply List.Sublist.cons))) (fun _ => ?_)
     clear hK K
     (try simp only [Act.put, List.setIfInBounds_toArray, List.set_cons_zero, List.set_cons_succ])
     refine wpAnyH_ready (rs := [3]) (by kernel_rfl) (by simp) ?_
     refine AllReadyH.cons rfl (fun K hK => ?_) ?_
     ·skip
      go_simp
      go_wp2_with (go_at_call 68; ((with_reducible refine (HV2.out _).mono ?_); rintro e w2 ⟨⟨v, rfl, P2, rfl, hP⟩, hb⟩; have HO2 := Lib.hid (show P2.oneCell' = true by obtain ⟨_, _, rfl⟩ := hP.val; rfl); obtain ⟨X2, HX2, HN⟩ := Blks.strsAdd (by repeat (first | exact HM.out | apply Blks.drewN | apply Blks.drew | apply Blks.other)) hb hP; simp only [List.cons_append, List.nil_append] at HN; clear HM hb hP; have HM := Aside0.mk HN; clear HN))
      refine hK.out _ _ (HM.out.less (by repeat (first | exact List.nil_sublist _ | apply List.Sublist.cons_cons | apply List.Sublist.cons))) (fun _ => ?_)
      clear hK K
      (try simp only [Act.put, List.setIfInBounds_toArray, List.set_cons_zero, List.set_cons_succ])
      refine wpAnyH_ready (rs := [6]) (by kernel_rfl) (by simp) ?_
      refine AllReadyH.cons (o := ⟨none, .store 50 (.tmp 9) (.tmp 28), _, _, _, none⟩) rfl (fun K hK => ?_) ?_
      ·skip
       refine d_store (by repeat (first | exact HM.out | apply Blks.drewN | apply Blks.drew | apply Blks.other)) (by rfl) (by rfl) (by rfl) (semOne HO1.out) (by repeat (first | exact List.Mem.head _ | apply List.Mem.tail)) (by repeat (first | exact Wr.nil | apply Wr.here | apply Wr.skip)) (by repeat (first | exact Up.here | apply Up.skip)) ?_
       intro wq HN
       clear HM; have HM := HN; clear HN
       refine hK.out _ _ (HM.out.less (by repeat (first | exact List.nil_sublist _ | apply List.Sublist.cons_cons | apply List.Sublist.cons))) (fun _ => ?_)
       clear hK K
       (try simp only [Act.put, List.setIfInBounds_toArray, List.set_cons_zero, List.set_cons_succ])
       refine wpAnyH_ready (rs := [7]) (by kernel_rfl) (by simp) ?_
       refine AllReadyH.cons (o := ⟨none, .store 50 (.tmp 10) (.tmp 30), _, _, _, none⟩) rfl (fun K hK => ?_) ?_
       ·skip
        refine d_store (by repeat (first | exact HM.out | apply Blks.drewN | apply Blks.drew | apply Blks.other)) (by rfl) (by rfl) (by rfl) (semOne HO2.out) (by repeat (first | exact List.Mem.head _ | apply List.Mem.tail)) (by repeat (first | exact Wr.nil | apply Wr.here | apply Wr.skip)) (by repeat (first | exact Up.here | apply Up.skip)) ?_
        intro wq HN
        clear HM; have HM := HN; clear HN
        refine hK.out _ _ (HM.out.less (by repeat (first | exact List.nil_sublist _ | apply List.Sublist.cons_cons | apply List.Sublist.cons))) (fun _ => ?_)
        clear hK K
        (try simp only [Act.put, List.setIfInBounds_toArray, List.set_cons_zero, List.set_cons_succ])
        refine wpAnyH_done (by kernel_rfl) ?_ _
        go_wp2_with fail
        go_meet
        case rel => exact ⟨b9, b10, P1, P2, X1, X2, rfl, rfl, HX1, HX2, ⟨HM.out⟩⟩
       exact AllReadyH.nil
      exact AllReadyH.nil
     exact AllReadyH.nil
    exact AllReadyH.nil
   exact AllReadyH.nil
  exact AllReadyH.nil
 case rest =>
  clear HM
  obtain ⟨b9, b10, P1, P2, X1, X2, rfl, rfl, HX1, HX2, HM⟩ := hcut
  obtain ⟨A1, q1, rfl⟩ := HX1.val
  obtain ⟨A2, q2, rfl⟩ := HX2.val
  have HSO := Lib.hid (fun W (h1 : StrsAt 9 W w.heap.size (.slice A1 pp1.length q1) pp1) (h2 : StrsAt 9 W w.heap.size (.slice A2 pp2.length q2) pp2) => HSO0.out W A1 A2 q1 q2 h1 h2)
  have HX3 := Lib.hid HX1
  have HX4 := Lib.hid HX2
  clear HX1 HX2 HSO0
  have k9 := Blks.cell HM.out (b := b9) (o := 4) (by repeat (first | exact List.Mem.head _ | apply List.Mem.tail)) (by repeat (first | exact Rd.nil | apply Rd.here | apply Rd.skip))
  have k10 := Blks.cell HM.out (b := b10) (o := 4) (by repeat (first | exact List.Mem.head _ | apply List.Mem.tail)) (by repeat (first | exact Rd.nil | apply Rd.here | apply Rd.skip))
  have hr := HR.out
  clear HR
  by_cases hn1 : pp1.length = 0
  ·skip
   by_cases hn2 : pp2.length = 0
   ·have f1a : decide ((0 : Int) < (pp1.length : Int)) = false := decide_eq_false (by omega)
    have f1b : decide (0 < pp1.length) = false := decide_eq_false (by omega)
    have f1c : ((pp1.length : Int) == 0) = true := beq_iff_eq.2 (by omega)
    have f1d : (pp1.length == 0) = true := beq_iff_eq.2 (by omega)
    have f2a : decide ((0 : Int) < (pp2.length : Int)) = false := decide_eq_false (by omega)
    have f2b : decide (0 < pp2.length) = false := decide_eq_false (by omega)
    have f2c : ((pp2.length : Int) == 0) = true := beq_iff_eq.2 (by omega)
    have f2d : (pp2.length == 0) = true := beq_iff_eq.2 (by omega)
    have hr2 : r = if down = true then cv else -cv := by rw [hr, if_pos (by omega)]
    clear hr hn1 hn2
    cases down
    ·have hr3 : r = -cv := hr2
     subst hr3
     clear hr2
     go_wp2_with (first | (go_at_call 82; ((with_reducible refine (HSO.out _ (HX3.out.strsIn (by repeat (first | exact HM.out | apply Blks.drewN | apply Blks.drew | apply Blks.other)) (fun x hx => by simp [hx])) (HX4.out.strsIn (by repeat (first | exact HM.out | apply Blks.drewN | apply Blks.drew | apply Blks.other)) (fun x hx => by simp [hx]))).mono ?_); rintro e w2 ⟨rfl, hb⟩; have HN := Aside0.mk (Blks.call (by repeat (first | exact HM.out | apply Blks.drewN | apply Blks.drew | apply Blks.other)) hb); clear HM hb; have HM := HN; clear HN)) | (refine m_load (by repeat (first | exact HM.out | apply Blks.drewN | apply Blks.drew | apply Blks.other)) (h := ?_)) | (go_at_call 105; ((with_reducible refine (HS.out _ _).mono ?_); rintro e w' ⟨rfl, ⟨nq, rfl⟩⟩; simp only [if_true, if_false, Bool.false_eq_true, reduceCtorEq, ite_true, ite_false]; have HN := Aside0.mk (Blks.drewN (by repeat (first | exact HM.out | apply Blks.drewN | apply Blks.drew | apply Blks.other)) nq); clear HM; have HM := HN; clear HN)))
     go_ret
     exact ⟨rfl, HM.out.bel⟩
    ·have hr3 : r = cv := hr2
     subst hr3
     clear hr2
     go_wp2_with (first | (go_at_call 82; ((with_reducible refine (HSO.out _ (HX3.out.strsIn (by repeat (first | exact HM.out | apply Blks.drewN | apply Blks.drew | apply Blks.other)) (fun x hx => by simp [hx])) (HX4.out.strsIn (by repeat (first | exact HM.out | apply Blks.drewN | apply Blks.drew | apply Blks.other)) (fun x hx => by simp [hx]))).mono ?_); rintro e w2 ⟨rfl, hb⟩; have HN := Aside0.mk (Blks.call (by repeat (first | exact HM.out | apply Blks.drewN | apply Blks.drew | apply Blks.other)) hb); clear HM hb; have HM := HN; clear HN)) | (refine m_load (by repeat (first | exact HM.out | apply Blks.drewN | apply Blks.drew | apply Blks.other)) (h := ?_)) | (go_at_call 105; ((with_reducible refine (HS.out _ _).mono ?_); rintro e w' ⟨rfl, ⟨nq, rfl⟩⟩; simp only [if_true, if_false, Bool.false_eq_true, reduceCtorEq, ite_true, ite_false]; have HN := Aside0.mk (Blks.drewN (by repeat (first | exact HM.out | apply Blks.drewN | apply Blks.drew | apply Blks.other)) nq); clear HM; have HM := HN; clear HN)))
     go_ret
     exact ⟨rfl, HM.out.bel⟩
   ·have f1a : decide ((0 : Int) < (pp1.length : Int)) = false := decide_eq_false (by omega)
    have f1b : decide (0 < pp1.length) = false := decide_eq_false (by omega)
    have f1c : ((pp1.length : Int) == 0) = true := beq_iff_eq.2 (by omega)
    have f1d : (pp1.length == 0) = true := beq_iff_eq.2 (by omega)
    have f2a : decide ((0 : Int) < (pp2.length : Int)) = true := decide_eq_true (by omega)
    have f2b : decide (0 < pp2.length) = true := decide_eq_true (by omega)
    have f2c : ((pp2.length : Int) == 0) = false := beq_eq_false_iff_ne.2 (by omega)
    have f2d : (pp2.length == 0) = false := beq_eq_false_iff_ne.2 (by omega)
    have hr2 : r = -1 := by rw [hr, if_neg (by omega), if_pos hn1]
    subst hr2
    clear hr hn1 hn2
    go_wp2_with (first | (go_at_call 82; ((with_reducible refine (HSO.out _ (HX3.out.strsIn (by repeat (first | exact HM.out | apply Blks.drewN | apply Blks.drew | apply Blks.other)) (fun x hx => by simp [hx])) (HX4.out.strsIn (by repeat (first | exact HM.out | apply Blks.drewN | apply Blks.drew | apply Blks.other)) (fun x hx => by simp [hx]))).mono ?_); rintro e w2 ⟨rfl, hb⟩; have HN := Aside0.mk (Blks.call (by repeat (first | exact HM.out | apply Blks.drewN | apply Blks.drew | apply Blks.other)) hb); clear HM hb; have HM := HN; clear HN)) | (refine m_load (by repeat (first | exact HM.out | apply Blks.drewN | apply Blks.drew | apply Blks.other)) (h := ?_)) | (go_at_call 105; ((with_reducible refine (HS.out _ _).mono ?_); rintro e w' ⟨rfl, ⟨nq, rfl⟩⟩; simp only [if_true, if_false, Bool.false_eq_true, reduceCtorEq, ite_true, ite_false]; have HN := Aside0.mk (Blks.drewN (by repeat (first | exact HM.out | apply Blks.drewN | apply Blks.drew | apply Blks.other)) nq); clear HM; have HM := HN; clear HN)))
    go_ret
    exact ⟨rfl, HM.out.bel⟩
  ·skip
   by_cases hn2 : pp2.length = 0
   ·have f1a : decide ((0 : Int) < (pp1.length : Int)) = true := decide_eq_true (by omega)
    have f1b : decide (0 < pp1.length) = true := decide_eq_true (by omega)
    have f1c : ((pp1.length : Int) == 0) = false := beq_eq_false_iff_ne.2 (by omega)
    have f1d : (pp1.length == 0) = false := beq_eq_false_iff_ne.2 (by omega)
    have f2a : decide ((0 : Int) < (pp2.length : Int)) = false := decide_eq_false (by omega)
    have f2b : decide (0 < pp2.length) = false := decide_eq_false (by omega)
    have f2c : ((pp2.length : Int) == 0) = true := beq_iff_eq.2 (by omega)
    have f2d : (pp2.length == 0) = true := beq_iff_eq.2 (by omega)
    have hr2 : r = 1 := by rw [hr, if_neg (by omega), if_neg hn1]
    subst hr2
    clear hr hn1 hn2
    go_wp2_with (first | (go_at_call 82; ((with_reducible refine (HSO.out _ (HX3.out.strsIn (by repeat (first | exact HM.out | apply Blks.drewN | apply Blks.drew | apply Blks.other)) (fun x hx => by simp [hx])) (HX4.out.strsIn (by repeat (first | exact HM.out | apply Blks.drewN | apply Blks.drew | apply Blks.other)) (fun x hx => by simp [hx]))).mono ?_); rintro e w2 ⟨rfl, hb⟩; have HN := Aside0.mk (Blks.call (by repeat (first | exact HM.out | apply Blks.drewN | apply Blks.drew | apply Blks.other)) hb); clear HM hb; have HM := HN; clear HN)) | (refine m_load (by repeat (first | exact HM.out | apply Blks.drewN | apply Blks.drew | apply Blks.other)) (h := ?_)) | (go_at_call 105; ((with_reducible refine (HS.out _ _).mono ?_); rintro e w' ⟨rfl, ⟨nq, rfl⟩⟩; simp only [if_true, if_false, Bool.false_eq_true, reduceCtorEq, ite_true, ite_false]; have HN := Aside0.mk (Blks.drewN (by repeat (first | exact HM.out | apply Blks.drewN | apply Blks.drew | apply Blks.other)) nq); clear HM; have HM := HN; clear HN)))
    go_ret
    exact ⟨rfl, HM.out.bel⟩
   ·have f1a : decide ((0 : Int) < (pp1.length : Int)) = true := decide_eq_true (by omega)
    have f1b : decide (0 < pp1.length) = true := decide_eq_true (by omega)
    have f1c : ((pp1.length : Int) == 0) = false := beq_eq_false_iff_ne.2 (by omega)
    have f1d : (pp1.length == 0) = false := beq_eq_false_iff_ne.2 (by omega)
    have f2a : decide ((0 : Int) < (pp2.length : Int)) = true := decide_eq_true (by omega)
    have f2b : decide (0 < pp2.length) = true := decide_eq_true (by omega)
    have f2c : ((pp2.length : Int) == 0) = false := beq_eq_false_iff_ne.2 (by omega)
    have f2d : (pp2.length == 0) = false := beq_eq_false_iff_ne.2 (by omega)
    have hr2 : r = if down = true then cv else -cv := by rw [hr, if_pos (by omega)]
    clear hr hn1 hn2
    cases down
    ·have hr3 : r = -cv := hr2
     subst hr3
     clear hr2
     go_wp2_with (first | (go_at_call 82; ((with_reducible refine (HSO.out _ (HX3.out.strsIn (by repeat (first | exact HM.out | apply Blks.drewN | apply Blks.drew | apply Blks.other)) (fun x hx => by simp [hx])) (HX4.out.strsIn (by repeat (first | exact HM.out | apply Blks.drewN | apply Blks.drew | apply Blks.other)) (fun x hx => by simp [hx]))).mono ?_); rintro e w2 ⟨rfl, hb⟩; have HN := Aside0.mk (Blks.call (by repeat (first | exact HM.out | apply Blks.drewN | apply Blks.drew | apply Blks.other)) hb); clear HM hb; have HM := HN; clear HN)) | (refine m_load (by repeat (first | exact HM.out | apply Blks.drewN | apply Blks.drew | apply Blks.other)) (h := ?_)) | (go_at_call 105; ((with_reducible refine (HS.out _ _).mono ?_); rintro e w' ⟨rfl, ⟨nq, rfl⟩⟩; simp only [if_true, if_false, Bool.false_eq_true, reduceCtorEq, ite_true, ite_false]; have HN := Aside0.mk (Blks.drewN (by repeat (first | exact HM.out | apply Blks.drewN | apply Blks.drew | apply Blks.other)) nq); clear HM; have HM := HN; clear HN)))
     go_ret
     exact ⟨rfl, HM.out.bel⟩
    ·have hr3 : r = cv := hr2
     subst hr3
     clear hr2
     go_wp2_with (first | (go_at_call 82; ((with_reducible refine (HSO.out _ (HX3.out.strsIn (by repeat (first | exact HM.out | apply Blks.drewN | apply Blks.drew | apply Blks.other)) (fun x hx => by simp [hx])) (HX4.out.strsIn (by repeat (first | exact HM.out | apply Blks.drewN | apply Blks.drew | apply Blks.other)) (fun x hx => by simp [hx]))).mono ?_); rintro e w2 ⟨rfl, hb⟩; have HN := Aside0.mk (Blks.call (by repeat (first | exact HM.out | apply Blks.drewN | apply Blks.drew | apply Blks.other)) hb); clear HM hb; have HM := HN; clear HN)) | (refine m_load (by repeat (first | exact HM.out | apply Blks.drewN | apply Blks.drew | apply Blks.other)) (h := ?_)) | (go_at_call 105; ((with_reducible refine (HS.out _ _).mono ?_); rintro e w' ⟨rfl, ⟨nq, rfl⟩⟩; simp only [if_true, if_false, Bool.false_eq_true, reduceCtorEq, ite_true, ite_false]; have HN := Aside0.mk (Blks.drewN (by repeat (first | exact HM.out | apply Blks.drewN | apply Blks.drew | apply Blks.other)) nq); clear HM; have HM := HN; clear HN)))
     go_ret
     exact ⟨rfl, HM.out.bel⟩
end Go.Proofs.YtgoeiflddikihaaGreatDoor.Ver
end
section
namespace Go.Proofs.YtgoeiflddikihaaGreatDoor.Ver
set_option linter.unusedSimpArgs false
open Go.RowKit Go.Proofs.YtgoeiflddikihaaGreatDoorW.PrintWords Go.Proofs.YtgoeiflddikihaaGreatDoor.Ord
theorem at_second (w : World) (a b : Obj) : ((w.alloc a).alloc b).heap[w.heap.size + 1]? = some b := by
  have := alloc_at (w.alloc a) b
  rw [alloc_size] at this
  exact this
def pcs (lo hi : SV) (a b c d : Bool) : Array Value := #[.int .u64 lo.major, .int .u64 lo.minor, .int .u64 lo.patch, .string lo.pre, .string lo.mt, .string lo.orig, .int .u64 hi.major, .int .u64 hi.minor, .int .u64 hi.patch, .string hi.pre, .string hi.mt, .string hi.orig, .bool a, .bool b, .bool c, .bool d, .slice none 0 0]
abbrev bP (la lb lc : Int) (lp lm lo : ByteArray) (ha hb hc : Int) (hp hm ho : ByteArray) (a b c d : Bool) : Obj := .cells #[.int .u64 la, .int .u64 lb, .int .u64 lc, .string lp, .string lm, .string lo, .int .u64 ha, .int .u64 hb, .int .u64 hc, .string hp, .string hm, .string ho, .bool a, .bool b, .bool c, .bool d, .slice none 0 0] 242 (0, 0)
set_option maxRecDepth 20000 in
set_option maxHeartbeats 2000000 in
theorem has_in (lo hi v : SV) (hl : lo.pre.size ≤ 140737488351232) (hh : hi.pre.size ≤ 140737488351232) (hv : v.pre.size ≤ 140737488351232) (c1 : cmpV v lo = 1) (c2 : cmpV v hi = -1) (d : Bool) (w : World) :
    Calls Tryz.prog 300 #[.agg (pcs lo hi true true true d), .agg v.cells] w fun e w' => e = .returned (.bool true) ∧ Below w.heap.size w w' := by
  have HC1 := Lib.hid (fun W => cmp_any v lo hv hl W)
  have HC2 := Lib.hid (fun W => cmp_any v hi hv hh W)
  rw [c1] at HC1
  rw [c2] at HC2
  clear c1 c2
  have HB := Aside0.mk (Below.refl w.heap.size w)
  obtain ⟨la, lb, lc, lp, lm, lo'⟩ := lo
  obtain ⟨ha, hb', hc, hp, hm, ho⟩ := hi
  obtain ⟨va, vb, vc, vp, vm, vo⟩ := v
  dsimp only [SV.cells, pcs] at HC1 HC2 hl hh hv ⊢
  have KP := Aside0.mk (blk_alloc (alloc_at w (bP la lb lc lp lm lo' ha hb' hc hp hm ho true true true d)) (bSV va vb vc vp vm vo))
  have KV := Aside0.mk (at_second w (bP la lb lc lp lm lo' ha hb' hc hp hm ho true true true d) (bSV va vb vc vp vm vo))
  go_enter Tryz.func300, Tryz.ntmps300
  go_wp2_with (first
    | (go_at_call 209; ((with_reducible refine (HC1.out _).mono ?_); rintro e w1 ⟨rfl, hb1⟩; refine Hid.out ?_)))
  have KP1 := Aside0.mk (blk_below KP.out hb1)
  have KV1 := Aside0.mk (blk_below KV.out hb1)
  have HB4 := Aside0.mk (below_trans (by repeat (first | exact HB.out | apply below_alloc | apply pw_below_drewN)) hb1)
  clear hb1
  have p0 := blk_cell KP1.out 0
  have p1 := blk_cell KP1.out 1
  have p2 := blk_cell KP1.out 2
  have p3 := blk_cell KP1.out 3
  have p4 := blk_cell KP1.out 4
  have p5 := blk_cell KP1.out 5
  have p6 := blk_cell KP1.out 6
  have p7 := blk_cell KP1.out 7
  have p8 := blk_cell KP1.out 8
  have p9 := blk_cell KP1.out 9
  have p10 := blk_cell KP1.out 10
  have p11 := blk_cell KP1.out 11
  have p12 := blk_cell KP1.out 12
  have p13 := blk_cell KP1.out 13
  have p14 := blk_cell KP1.out 14
  have p15 := blk_cell KP1.out 15
  have p16 := blk_cell KP1.out 16
  have q0 := blk_cell KV1.out 0
  have q1 := blk_cell KV1.out 1
  have q2 := blk_cell KV1.out 2
  have q3 := blk_cell KV1.out 3
  have q4 := blk_cell KV1.out 4
  have q5 := blk_cell KV1.out 5
  refine Lib.hid ?_
  go_wp2_with (first
    | (go_at_call 209; ((with_reducible refine (HC2.out _).mono ?_); rintro e w2 ⟨rfl, hb2⟩; refine Hid.out ?_)))
  clear p0 p1 p2 p3 p4 p5 p6 p7 p8 p9 p10 p11 p12 p13 p14 p15 p16
  clear q0 q1 q2 q3 q4 q5
  have KP2 := Aside0.mk (blk_below KP1.out hb2)
  have HB5 := Aside0.mk (below_trans HB4.out hb2)
  clear hb2
  have p0 := blk_cell KP2.out 0
  have p1 := blk_cell KP2.out 1
  have p2 := blk_cell KP2.out 2
  have p3 := blk_cell KP2.out 3
  have p4 := blk_cell KP2.out 4
  have p5 := blk_cell KP2.out 5
  have p6 := blk_cell KP2.out 6
  have p7 := blk_cell KP2.out 7
  have p8 := blk_cell KP2.out 8
  have p9 := blk_cell KP2.out 9
  have p10 := blk_cell KP2.out 10
  have p11 := blk_cell KP2.out 11
  have p12 := blk_cell KP2.out 12
  have p13 := blk_cell KP2.out 13
  have p14 := blk_cell KP2.out 14
  have p15 := blk_cell KP2.out 15
  have p16 := blk_cell KP2.out 16
  refine Lib.hid ?_
  go_wp2_with fail
  refine wp_loop_rounds 1 ?_
  rw [rounds_succ]
  go_wp2_with fail
  go_ret
  exact ⟨rfl, by repeat (first | exact HB5.out | apply below_alloc | apply pw_below_drewN)⟩
set_option maxRecDepth 20000 in
set_option maxHeartbeats 2000000 in
theorem empty_in (lo hi : SV) (hl : lo.pre.size ≤ 140737488351232) (hh : hi.pre.size ≤ 140737488351232) (c1 : cmpV lo hi = -1) (c d : Bool) (w : World) :
    Calls Tryz.prog 299 #[.agg (pcs lo hi true true c d)] w fun e w' => e = .returned (.bool false) ∧ Below w.heap.size w w' := by
  have HC1 := Lib.hid (fun W => cmp_any lo hi hl hh W)
  rw [c1] at HC1
  clear c1
  have HB := Aside0.mk (Below.refl w.heap.size w)
  obtain ⟨la, lb, lc, lp, lm, lo'⟩ := lo
  obtain ⟨ha, hb', hc, hp, hm, ho⟩ := hi
  dsimp only [SV.cells, pcs] at HC1 hl hh ⊢
  go_enter Tryz.func299, Tryz.ntmps299
  go_wp2_with (first
    | (go_at_call 209; ((with_reducible refine (HC1.out _).mono ?_); rintro e w1 ⟨rfl, hb1⟩; have HB5 := Aside0.mk (below_trans (by repeat (first | exact HB.out | apply below_alloc | apply pw_below_drewN)) hb1); clear hb1)))
  go_ret
  exact ⟨rfl, by repeat (first | exact HB5.out | apply below_alloc | apply pw_below_drewN)⟩
end Go.Proofs.YtgoeiflddikihaaGreatDoor.Ver
end
