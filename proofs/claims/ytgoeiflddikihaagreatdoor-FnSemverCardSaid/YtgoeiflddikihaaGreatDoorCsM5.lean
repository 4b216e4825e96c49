/- Merged by program out of: VPj, SemE, Mem, Mem2, Mem3, ReadSem. -/
import Derived.Test.YtgoeiflddikihaaGreatDoorCsM4
import Derived.Test.YtgoeiflddikihaaGreatDoorCsM3
import Derived.WalkKit
import Derived.Deep.MidRow
import Derived.Great.Walk
import Derived.Below
import Derived.Lib.Hide
import Derived.Test.YtgoeiflddikihaaGreatDoorCsM0
import Derived.Deep.Cut
import Derived.Deep.CutRange
section
namespace Go.Proofs.YtgoeiflddikihaaGreatDoor.PFnVersion
open Go.RowKit Go.Proofs.YtgoeiflddikihaaGreatDoorW.PrintWords Go.Proofs.YtgoeiflddikihaaGreatDoorW.PrintLast Go.Proofs.YtgoeiflddikihaaGreatDoorW.PrintMore
attribute [local go_sem] max2_int min2_int max_two min_two max_three min_three max_four min_four   -- for this text's walks alone
set_option linter.unusedVariables false
set_option linter.unusedSimpArgs false
def spec_verNumber.l0 : Nat → ByteArray → Int → Int → Option (Int × Bool)
  | 0, _, _, _ => none
  | k + 1, x0, x4, x5 => if x5 < (x0.size : Int) then (if 0 ≤ x5 then (if x4 > ((18446744073709551615 - (((bt x0 x5) - 48) % 256)) / 10) then (some (0, false)) else (spec_verNumber.l0 k x0 (IntKind.u64.wrap ((IntKind.u64.wrap (10 * x4)) + (((bt x0 x5) - 48) % 256))) (wrap64 (x5 + 1)))) else (none)) else (some (x4, true))
def spec_verNumber.f (k : Nat) (a0 : ByteArray) : Option (Int × Bool) := (spec_verDigits.f k a0).bind fun t169 => (if t169 = true then (spec_verNumber.l0 k a0 0 0) else (some (0, false)))
theorem spec_verNumber.mono_l : ∀ k, (∀ y0 y1 y2, LeO (spec_verNumber.l0 k y0 y1 y2) (spec_verNumber.l0 (k + 1) y0 y1 y2))
  | 0 => fun _ _ _ r h => by simp [spec_verNumber.l0] at h
  | k + 1 => by
    have ih0 := spec_verNumber.mono_l k
    · intro y0 y1 y2
      unfold spec_verNumber.l0
      repeat' first
      | (with_reducible exact ih0 _ _ _)
      | (with_reducible exact spec_verDigits.mono _ _)
      | (with_reducible exact LeO.refl _)
      | (with_reducible exact LeO.none _)
      | (with_reducible refine LeO.ite ?_ ?_)
      | (with_reducible refine LeO.bind ?_ (fun _ => ?_))
      | exact ih0 _ _ _
      | exact spec_verDigits.mono _ _
      | exact LeO.none _
      | refine LeO.ite ?_ ?_
      | refine LeO.bind ?_ (fun _ => ?_)
theorem spec_verNumber.mono : ∀ a0 k, LeO (spec_verNumber.f k a0) (spec_verNumber.f (k + 1) a0) := by
  intro a0 k
  have ih0 := spec_verNumber.mono_l k
  unfold spec_verNumber.f
  repeat' first
      | (with_reducible exact ih0 _ _ _)
      | (with_reducible exact spec_verDigits.mono _ _)
      | (with_reducible exact LeO.refl _)
      | (with_reducible exact LeO.none _)
      | (with_reducible refine LeO.ite ?_ ?_)
      | (with_reducible refine LeO.bind ?_ (fun _ => ?_))
      | exact ih0 _ _ _
      | exact spec_verDigits.mono _ _
      | exact LeO.none _
      | refine LeO.ite ?_ ?_
      | refine LeO.bind ?_ (fun _ => ?_)
set_option maxHeartbeats 8000000 in
set_option maxRecDepth 100000 in
theorem spec_verNumber.calls (k : Nat) (a0 : ByteArray) (r1 : Int) (r2 : Bool) (w : World) (h : spec_verNumber.f k a0 = some (r1, r2)) :
    Calls Tryz.prog 74 #[.string a0] w fun e w' => e = .returned (.tuple #[.int .u64 r1, .bool r2]) ∧ Drawn0 w w' := by
  have H : ((spec_verDigits.f k a0).bind fun t169 => (if t169 = true then (spec_verNumber.l0 k a0 0 0) else (some (0, false)))) = some (r1, r2) := h
  clear h
  replace H := Option.bind_eq_some_iff.mp H
  obtain ⟨t169, A20, H⟩ := H
  replace H : (if t169 = true then (spec_verNumber.l0 k a0 0 0) else (some (0, false))) = some (r1, r2) := H
  have A2 := Aside0.mk A20
  clear A20
  by_cases c3 : t169 = true
  · subst c3
    have H1 : (spec_verNumber.l0 k a0 0 0) = some (r1, r2) := by rw [if_pos rfl] at H; exact H
    clear H
    have H := H1
    clear H1
    have H' := Aside0.mk H
    clear H
    go_enter Tryz.func74, Tryz.ntmps74
    go_wp2_with (first | ((with_reducible refine gate_callee (f := 100) rfl ?_); refine goesL_ (some 8) rfl rfl Tryz.func100 (by kernel_rfl) rfl #[.string a0] rfl (by (try simp only [List.map_toArray, List.map_cons, List.map_nil]); first | done | rfl | (simp only [List.length_drop, List.length_take]; rfl)) ?_; (with_reducible refine (spec_verDigits.calls k a0 true _ A2.out).mono ?_); rintro e w' ⟨rfl, ⟨nd, rfl⟩⟩; refine ⟨_, rfl, ?_⟩))
    go_loopg [4, 5] k (fun kq v4 v5 w' => ∃ (x4_1 : Int) (x5_1 : Int), v4 = .int .u64 x4_1 ∧ v5 = .int .i64 x5_1 ∧ Aside0 (spec_verNumber.l0 kq a0 x4_1 x5_1 = some (r1, r2)) ∧ Aside0 (kq ≤ k) ∧ Drawn0 w w')
    case atStart => exact ⟨(0), (0), (by first | rfl | (simp; done) | (simp [*]; done)), (by first | rfl | (simp; done) | (simp [*]; done)), H', ⟨Nat.le_refl _⟩, by repeat (first | exact Drawn0.refl _ | apply Drawn0.step)⟩
    case round =>
      clear H'
      try clear c1
      try clear p2
      try clear c3
      obtain ⟨x4_1, x5_1, rfl, rfl, HA, HK1, ⟨m1, rfl⟩⟩ := hrel
      cases gk with
      | zero => exact absurd HA.out (by simp [spec_verNumber.l0])
      | succ k1 =>
        have H := HA.out
        clear HA
        simp only [spec_verNumber.l0] at H
        by_cases c4 : x5_1 < (a0.size : Int)
        · rw [if_pos c4] at H
          have c4b0 : decide (x5_1 < (a0.size : Int)) = true := decide_eq_true c4
          clear c4
          by_cases c5 : 0 ≤ x5_1
          · rw [if_pos c5] at H
            have c5b0 : decide (0 ≤ x5_1) = true := decide_eq_true c5
            clear c5
            by_cases c7 : x4_1 > ((18446744073709551615 - (((bt a0 x5_1) - 48) % 256)) / 10)
            · rw [if_pos c7] at H
              have c7b0 : decide (((18446744073709551615 - (((bt a0 x5_1) - 48) % 256)) / 10) < x4_1) = true := decide_eq_true c7
              clear c7
              simp only [Option.some.injEq, Prod.mk.injEq] at H
              obtain ⟨rfl, rfl⟩ := H
              have p6 : 0 ≤ (x5_1 : Int) := of_decide_eq_true (by first | (with_reducible assumption) | assumption)
              have q6 : x5_1 < (a0.size : Int) := of_decide_eq_true (by first | (with_reducible assumption) | assumption)
              have hx6 := bt_at a0 x5_1
              replace p6 := eq_true p6
              replace q6 := eq_true q6
              go_wp2
              go_ret2
              exact ⟨by first | rfl | (simp; done) | (simp [*]; done), by repeat (first | exact Drawn0.refl _ | apply Drawn0.step)⟩
            · rw [if_neg c7] at H
              have c7b0 : decide (((18446744073709551615 - (((bt a0 x5_1) - 48) % 256)) / 10) < x4_1) = false := decide_eq_false c7
              clear c7
              have H' := Aside0.mk H
              clear H
              have p6 : 0 ≤ (x5_1 : Int) := of_decide_eq_true (by first | (with_reducible assumption) | assumption)
              have q6 : x5_1 < (a0.size : Int) := of_decide_eq_true (by first | (with_reducible assumption) | assumption)
              have hx6 := bt_at a0 x5_1
              replace p6 := eq_true p6
              replace q6 := eq_true q6
              go_wp2
              go_roundg k1
              case measure => have := HK1.out; omega
              case rel => exact ⟨(IntKind.u64.wrap ((IntKind.u64.wrap (10 * x4_1)) + (((bt a0 x5_1) - 48) % 256))), (wrap64 (x5_1 + 1)), (by first | rfl | (simp; done) | (simp [*]; done)), (by first | rfl | (simp; done) | (simp [*]; done)), H', ⟨by have := HK1.out; omega⟩, by repeat (first | exact Drawn0.refl _ | apply Drawn0.step)⟩
          · rw [if_neg c5] at H
            exact absurd H (by simp)
        · rw [if_neg c4] at H
          have c4b0 : decide (x5_1 < (a0.size : Int)) = false := decide_eq_false c4
          clear c4
          simp only [Option.some.injEq, Prod.mk.injEq] at H
          obtain ⟨rfl, rfl⟩ := H
          go_wp2
          go_ret2
          exact ⟨by first | rfl | (simp; done) | (simp [*]; done), by repeat (first | exact Drawn0.refl _ | apply Drawn0.step)⟩
  · replace c3 := Bool.eq_false_iff.mpr c3
    subst c3
    have H1 : (some (0, false)) = some (r1, r2) := by rw [if_neg (show ¬ (false = true) by decide)] at H; exact H
    clear H
    have H := H1
    clear H1
    simp only [Option.some.injEq, Prod.mk.injEq] at H
    obtain ⟨rfl, rfl⟩ := H
    go_enter Tryz.func74, Tryz.ntmps74
    go_wp2_with (first | ((with_reducible refine gate_callee (f := 100) rfl ?_); refine goesL_ (some 8) rfl rfl Tryz.func100 (by kernel_rfl) rfl #[.string a0] rfl (by (try simp only [List.map_toArray, List.map_cons, List.map_nil]); first | done | rfl | (simp only [List.length_drop, List.length_take]; rfl)) ?_; (with_reducible refine (spec_verDigits.calls k a0 false _ A2.out).mono ?_); rintro e w' ⟨rfl, ⟨nd, rfl⟩⟩; refine ⟨_, rfl, ?_⟩))
    go_ret2
    exact ⟨by first | rfl | (simp; done) | (simp [*]; done), by repeat (first | exact Drawn0.refl _ | apply Drawn0.step)⟩
end Go.Proofs.YtgoeiflddikihaaGreatDoor.PFnVersion
end
section
namespace Go.Proofs.YtgoeiflddikihaaGreatDoor.Ver
open Go.RowKit Go.Proofs.YtgoeiflddikihaaGreatDoor.PFnVersion Go.Proofs.YtgoeiflddikihaaGreatDoorW.PrintWords
abbrev mkB (l : List UInt8) : ByteArray := ⟨l.toArray⟩
theorem mkB_of {s : ByteArray} {l : List UInt8} (h : s.data.toList = l) : s = mkB l := by
  apply ByteArray.ext; show s.data = l.toArray; rw [← h, Array.toArray_toList]
theorem bt_same (s : ByteArray) (i : Nat) (h : i < s.size) (c : UInt8) : (bt s (i : Int) = (c.toNat : Int)) ↔ s[i] = c := by
  rw [bt_nat s i h]
  constructor
  · intro e; exact UInt8.toNat_inj.1 (by omega)
  · rintro e; rw [e]
theorem plain_tells (s : ByteArray) (hn : s.size ≤ 140737488351232) (d : Nat) : ∀ i, i ≤ s.size → s.size - i = d → ∃ b k0, (∀ k, k0 ≤ k → spec_VerPlain.l0 k s 60 (i : Int) = some b) ∧ (b = true → 0 < s.size ∧ s.size ≤ 60) := by
  have last : ∀ i : Nat, s.size ≤ i ∨ 60 < i → ∃ b k0, (∀ k, k0 ≤ k → spec_VerPlain.l0 k s 60 (i : Int) = some b) ∧ (b = true → 0 < s.size ∧ s.size ≤ 60) := by
    intro i hi
    refine ⟨if 0 < s.size then decide (s.size ≤ 60) else false, 2, fun k hk => ?_, fun hb => ?_⟩
    · obtain ⟨k, rfl⟩ : ∃ j, k = j + 2 := ⟨k - 2, by omega⟩
      have e : spec_VerPlain.j1 (k + 1) s 60 (i : Int) false = some (if 0 < s.size then decide (s.size ≤ 60) else false) := by
        rw [spec_VerPlain.j1, if_neg (by decide)]
        by_cases h : 0 < s.size
        · rw [if_pos (by omega), if_pos h]; congr 1; simp only [decide_eq_decide]; omega
        · rw [if_neg (by omega), if_neg h]
      rw [spec_VerPlain.l0]
      by_cases h : (i : Int) < (s.size : Int)
      · rw [if_pos h, decide_eq_false (by omega)]; exact e
      · rw [if_neg h]; exact e
    · split at hb
      · exact ⟨by assumption, of_decide_eq_true hb⟩
      · cases hb
  induction d with
  | zero => intro i hi hd; exact last i (Or.inl (by omega))
  | succ d ih =>
    intro i hi hd
    by_cases h60 : 60 < i
    · exact last i (Or.inr h60)
    · obtain ⟨b, k0, h1, h2⟩ := ih (i + 1) (by omega) (by omega)
      have w1 : wrap64 ((i : Int) + 1) = ((i + 1 : Nat) : Int) := by rw [wrap_in (by omega) (by omega)]; omega
      by_cases hc : bt s (i : Int) < 33 ∨ bt s (i : Int) > 126
      · refine ⟨false, 2, fun k hk => ?_, fun hb => by cases hb⟩
        obtain ⟨k, rfl⟩ : ∃ j, k = j + 2 := ⟨k - 2, by omega⟩
        rw [spec_VerPlain.l0, if_pos (by omega), decide_eq_true (by omega), spec_VerPlain.j1, if_pos rfl, if_pos (by omega), if_pos (by omega)]
        by_cases hx : bt s (i : Int) < 33
        · rw [if_pos hx]
        · rw [if_neg hx, if_pos (by omega)]
      · refine ⟨b, k0 + 2, fun k hk => ?_, h2⟩
        obtain ⟨k, rfl⟩ : ∃ j, k = j + 2 := ⟨k - 2, by omega⟩
        rw [spec_VerPlain.l0, if_pos (by omega), decide_eq_true (by omega), spec_VerPlain.j1, if_pos rfl, if_pos (by omega), if_pos (by omega), if_neg (by omega), if_neg (by omega), w1]
        exact h1 k (by omega)
theorem plain60 (s : ByteArray) (hn : s.size ≤ 140737488351232) : ∃ b, (b = true → 0 < s.size ∧ s.size ≤ 60) ∧ ∀ w, Calls Tryz.prog 33 #[.string s, .int .i64 60] w fun e w' => e = .returned (.bool b) ∧ Below w.heap.size w w' := by
  obtain ⟨b, k0, h1, h2⟩ := plain_tells s hn s.size 0 (by omega) (by omega)
  exact ⟨b, h2, fun w => (spec_VerPlain.calls k0 s 60 b w (h1 k0 (Nat.le_refl _))).mono fun e w' ⟨h, hd⟩ => ⟨h, by first | exact hd | exact hd.below _ | exact Drawn0.below hd⟩⟩
def cutV (s : ByteArray) (pre : List UInt8) (q : List UInt8 × Option (List UInt8)) : ByteArray × ByteArray × Bool := match q.2 with
  | none => (s, ⟨#[]⟩, false)
  | some b => (mkB (pre ++ q.1), mkB b, true)
theorem cut_tells (s : ByteArray) (hn : s.size ≤ 140737488351232) (c : UInt8) (d : Nat) : ∀ i, i ≤ s.size → s.size - i = d → ∀ k, d < k →
    spec_verCut.l0 k s (c.toNat : Int) (i : Int) = some (cutV s (s.data.toList.take i) (qCutAt c (s.data.toList.drop i))) := by
  induction d with
  | zero =>
    intro i hi hd k hk
    obtain ⟨k, rfl⟩ : ∃ j, k = j + 1 := ⟨k - 1, by omega⟩
    rw [spec_verCut.l0, if_neg (by omega), List.drop_eq_nil_of_le (by rw [Array.length_toList]; show s.size ≤ i; omega)]
    rfl
  | succ d ih =>
    intro i hi hd k hk
    obtain ⟨k, rfl⟩ : ∃ j, k = j + 1 := ⟨k - 1, by omega⟩
    have hlt : i < s.size := by omega
    have w1 : wrap64 ((i : Int) + 1) = ((i + 1 : Nat) : Int) := by rw [wrap_in (by omega) (by omega)]; omega
    rw [drop_at s i hlt, spec_verCut.l0, if_pos (by omega), if_pos (by omega), w1]
    by_cases hc : s[i] = c
    · rw [if_pos ((bt_same s i hlt c).2 hc), if_pos (by omega), if_pos (by omega), if_pos (by omega), qCutAt, if_pos hc]
      have e1 : s.extract 0 ((i : Int)).toNat = mkB (s.data.toList.take i ++ []) := mkB_of (by rw [Int.toNat_natCast, take_data, List.append_nil])
      have e2 : s.extract (((i + 1 : Nat) : Int)).toNat s.size = mkB (s.data.toList.drop (i + 1)) := mkB_of (by rw [Int.toNat_natCast, drop_data])
      rw [e1, e2]; rfl
    · rw [if_neg (fun h => hc ((bt_same s i hlt c).1 h)), ih (i + 1) (by omega) (by omega) k (by omega), qCutAt, if_neg hc]
      have e : s.data.toList.take (i + 1) = s.data.toList.take i ++ [s[i]] := by
        rw [List.take_succ_eq_append_getElem (by rw [Array.length_toList]; exact hlt)]; rfl
      unfold cutV
      rw [e]
      cases (qCutAt c (s.data.toList.drop (i + 1))).2 <;> simp
def splitV (pre : List UInt8) (q : List (List UInt8)) : List ByteArray := match q with
  | h :: t => mkB (pre ++ h) :: t.map mkB
  | [] => []
theorem split_tells (s : ByteArray) (hn : s.size ≤ 1000000000) (c : UInt8) (d : Nat) : ∀ (i f : Nat) (acc : List ByteArray), f ≤ i → i ≤ s.size → s.size - i = d → acc.length + d < 8000000000000 → ∀ k, d + 1 < k →
    spec_verSplit.l0 k s (c.toNat : Int) acc (f : Int) (i : Int) = some (acc ++ splitV ((s.data.toList.take i).drop f) (qSplitOn c (s.data.toList.drop i))) := by
  have ex : ∀ f i : Nat, s.extract ((f : Int)).toNat ((i : Int)).toNat = mkB ((s.data.toList.take i).drop f) := fun f i => mkB_of (by
    rw [Int.toNat_natCast, Int.toNat_natCast, ByteArray.data_extract, Array.toList_extract]
    simp only [List.extract_eq_take_drop]
    rw [List.drop_take])
  induction d with
  | zero =>
    intro i f acc hf hi hd ha k hk
    obtain ⟨k, rfl⟩ : ∃ j, k = j + 2 := ⟨k - 2, by omega⟩
    have w1 : wrap64 ((i : Int) + 1) = ((i + 1 : Nat) : Int) := by rw [wrap_in (by omega) (by omega)]; omega
    have hnil : s.data.toList.drop i = [] := List.drop_eq_nil_of_le (by rw [Array.length_toList]; show s.size ≤ i; omega)
    rw [spec_verSplit.l0, if_pos (by omega), if_pos (by omega), if_pos (by omega), if_pos (by omega), if_pos (by omega), w1, spec_verSplit.l0, if_neg (by omega), hnil, ex]
    simp [qSplitOn, splitV]
  | succ d ih =>
    intro i f acc hf hi hd ha k hk
    obtain ⟨k, rfl⟩ : ∃ j, k = j + 1 := ⟨k - 1, by omega⟩
    have hlt : i < s.size := by omega
    have w1 : wrap64 ((i : Int) + 1) = ((i + 1 : Nat) : Int) := by rw [wrap_in (by omega) (by omega)]; omega
    rw [drop_at s i hlt, spec_verSplit.l0, if_pos (by omega), if_neg (by omega), if_pos (by omega), if_pos (by omega), w1]
    by_cases hc : s[i] = c
    · rw [if_pos ((bt_same s i hlt c).2 hc), if_pos (by omega), if_pos (by omega), if_pos (by omega), ih (i + 1) (i + 1) _ (by omega) (by omega) (by omega) (by rw [List.length_append, List.length_singleton]; omega) k (by omega), qSplitOn, if_pos hc, ex]
      have e : (s.data.toList.take (i + 1)).drop (i + 1) = [] := List.drop_eq_nil_of_le (by rw [List.length_take]; omega)
      rw [e, List.append_assoc]
      cases hq : qSplitOn c (s.data.toList.drop (i + 1)) with
      | nil => exact absurd hq (qSplitOn_ne _ _)
      | cons h t => simp [splitV]
    · rw [if_neg (fun h => hc ((bt_same s i hlt c).1 h)), ih (i + 1) f acc (by omega) (by omega) (by omega) (by omega) k (by omega)]
      obtain ⟨p, q, h1, h2⟩ := qSplitOn_cons (r := s.data.toList.drop (i + 1)) hc
      rw [h1, h2]
      have e : (s.data.toList.take (i + 1)).drop f = (s.data.toList.take i).drop f ++ [s[i]] := by
        rw [List.take_succ_eq_append_getElem (by rw [Array.length_toList]; exact hlt), List.drop_append_of_le_length (by rw [List.length_take, Array.length_toList]; show f ≤ min i s.size; omega)]; rfl
      rw [e]; simp [splitV]
def partsV (c : UInt8) (s : ByteArray) : List ByteArray := (qSplitOn c s.data.toList).map mkB
theorem split_f (s : ByteArray) (hn : s.size ≤ 1000000000) (c : UInt8) (k : Nat) (hk : s.size + 1 < k) : spec_verSplit.f k s (c.toNat : Int) = some (partsV c s) := by
  have := split_tells s hn c s.size 0 0 [] (Nat.le_refl _) (Nat.zero_le _) (by omega) (by rw [List.length_nil]; omega) k hk
  rw [spec_verSplit.f]
  refine this.trans ?_
  unfold partsV
  cases hq : qSplitOn c s.data.toList with
  | nil => exact absurd hq (qSplitOn_ne _ _)
  | cons h t => simp [splitV, hq]
theorem or_tab : ∀ n : Fin 256, (Go.bits .or .u8 ((n.val : Nat) : Int) 32 < 97 ∨ 122 < Go.bits .or .u8 ((n.val : Nat) : Int) 32) ↔ ¬ ((97 ≤ n.val ∧ n.val ≤ 122) ∨ (65 ≤ n.val ∧ n.val ≤ 90)) := by decide +kernel
theorem or_id (c : UInt8) : (Go.bits .or .u8 ((c.toNat : Nat) : Int) 32 < 97 ∨ 122 < Go.bits .or .u8 ((c.toNat : Nat) : Int) 32) ↔ ¬ ((97 ≤ c.toNat ∧ c.toNat ≤ 122) ∨ (65 ≤ c.toNat ∧ c.toNat ≤ 90)) :=
  or_tab ⟨c.toNat, c.toNat_lt⟩
theorem tree_id {α : Type} (c : UInt8) (S B : α) : (if (c.toNat : Int) < 48 then (if (c.toNat : Int) = 45 then S else B) else (if (c.toNat : Int) > 57 then (if (c.toNat : Int) = 45 then S else B) else S)) = if isDig c = true ∨ c.toNat = 45 then S else B := by
  have hd : isDig c = true ↔ 48 ≤ c.toNat ∧ c.toNat ≤ 57 := by simp only [isDig, Bool.and_eq_true, decide_eq_true_eq]
  by_cases h1 : (c.toNat : Int) < 48
  · rw [if_pos h1]
    by_cases h2 : (c.toNat : Int) = 45
    · rw [if_pos h2, if_pos (Or.inr (by omega))]
    · rw [if_neg h2, if_neg (by rw [hd]; omega)]
  · rw [if_neg h1]
    by_cases h2 : (c.toNat : Int) > 57
    · rw [if_pos h2, if_neg (by omega), if_neg (by rw [hd]; omega)]
    · rw [if_neg h2, if_pos (by rw [hd]; omega)]
theorem tree_or {α : Type} (o : Int) (T S : α) : (if o < 97 then T else if o > 122 then T else S) = if o < 97 ∨ 122 < o then T else S := by
  by_cases h1 : o < 97
  · rw [if_pos h1, if_pos (Or.inl h1)]
  · by_cases h2 : o > 122
    · rw [if_neg h1, if_pos h2, if_pos (Or.inr h2)]
    · rw [if_neg h1, if_neg h2, if_neg (by omega)]
set_option maxHeartbeats 4000000 in
theorem idents_tells (L : List ByteArray) (hL : ∀ x ∈ L, x.size ≤ 140737488351232) (hl : L.length ≤ 1000000000) (d : Nat) : ∀ j : Nat, j ≤ L.length → L.length - j = d → ∃ k0, ∀ k, k0 ≤ k →
    spec_verIdents.l0 k L L (L.length : Int) (j : Int) = some (if (L.drop j).all (fun x => !x.data.toList.isEmpty && x.data.toList.all isId) then (L, true) else ([], false)) := by
  induction d with
  | zero =>
    intro j hj hd
    refine ⟨1, fun k hk => ?_⟩
    obtain ⟨k, rfl⟩ : ∃ i, k = i + 1 := ⟨k - 1, by omega⟩
    rw [spec_verIdents.l0, if_neg (by omega), List.drop_eq_nil_of_le (by omega)]
    rfl
  | succ d ih =>
    intro j hj hd
    have hlt : j < L.length := by omega
    obtain ⟨k0, ih⟩ := ih (j + 1) (by omega) (by omega)
    generalize hx : L[j] = x
    have hxs : x.size ≤ 140737488351232 := hL x (by rw [← hx]; exact List.getElem_mem hlt)
    have hrd : rdOf ByteArray.empty L (j : Int) = x := by
      rw [← hx]; simp [rdOf, hlt]
    have hdrop : L.drop j = x :: L.drop (j + 1) := by rw [List.drop_eq_getElem_cons hlt, hx]
    -- the bytes of the piece
    have inner : ∀ e i : Nat, i ≤ x.size → x.size - i = e → ∃ k1, ∀ k, k1 ≤ k →
        spec_verIdents.l1 k L x (i : Int) L (L.length : Int) (j : Int) = some (if (x.data.toList.drop i).all isId && !x.data.toList.isEmpty && (L.drop (j + 1)).all (fun x => !x.data.toList.isEmpty && x.data.toList.all isId) then (L, true) else ([], false)) := by
      intro e
      induction e with
      | zero =>
        intro i hi he
        refine ⟨k0 + 1, fun k hk => ?_⟩
        obtain ⟨k, rfl⟩ : ∃ i, k = i + 1 := ⟨k - 1, by omega⟩
        rw [spec_verIdents.l1, if_neg (by omega), List.drop_eq_nil_of_le (by rw [Array.length_toList]; show x.size ≤ i; omega)]
        by_cases hn : x.data.toList = []
        · have : x.toList = [] := by rw [ByteArray.toList_eq]; exact hn
          rw [if_pos this, hn]; simp
        · have : ¬ x.toList = [] := by rw [ByteArray.toList_eq]; exact hn
          have w1 : wrap64 ((j : Int) + 1) = ((j + 1 : Nat) : Int) := by rw [wrap_in (by omega) (by omega)]; omega
          rw [if_neg this, w1, ih k (by omega)]
          have : x.data.toList.isEmpty = false := by cases h : x.data.toList with | nil => exact absurd h hn | cons _ _ => rfl
          rw [this]; simp
      | succ e ihe =>
        intro i hi he
        have hlti : i < x.size := by omega
        obtain ⟨k1, ihe⟩ := ihe (i + 1) (by omega) (by omega)
        refine ⟨k1 + 1, fun k hk => ?_⟩
        obtain ⟨k, rfl⟩ : ∃ i, k = i + 1 := ⟨k - 1, by omega⟩
        have w2 : wrap64 ((i : Int) + 1) = ((i + 1 : Nat) : Int) := by rw [wrap_in (by omega) (by omega)]; omega
        have e1 := ihe k (by omega)
        have g1 : (i : Int) < (x.size : Int) := Int.ofNat_lt.2 hlti
        have g2 : (0 : Int) ≤ (i : Int) := Int.natCast_nonneg i
        rw [drop_at x i hlti, spec_verIdents.l1, if_pos g1, if_pos g2, bt_nat x i hlti, w2, List.all_cons]
        generalize spec_verIdents.l1 k L x ((i + 1 : Nat) : Int) L (L.length : Int) (j : Int) = S at e1 ⊢
        generalize x[i] = c
        have ho := or_id c
        generalize Go.bits .or .u8 ((c.toNat : Nat) : Int) 32 = o at *
        rw [tree_id, tree_or]
        have hid : (isId c = true) ↔ ((isDig c = true ∨ c.toNat = 45) ∨ ((97 ≤ c.toNat ∧ c.toNat ≤ 122) ∨ (65 ≤ c.toNat ∧ c.toNat ≤ 90))) := by
          simp only [isId, Bool.or_eq_true, Bool.and_eq_true, decide_eq_true_eq, beq_iff_eq]
          cases isDig c <;> simp <;> omega
        by_cases h1 : isId c = true
        · rw [h1, Bool.true_and, e1]
          by_cases h2 : o < 97 ∨ 122 < o
          · rw [if_pos h2, if_pos ((hid.1 h1).resolve_right (ho.1 h2))]
          · rw [if_neg h2]
        · have hf : isId c = false := by simpa using h1
          rw [hf, Bool.false_and, Bool.false_and, Bool.false_and, if_pos (ho.2 fun h => h1 (hid.2 (Or.inr h))), if_neg (fun h => h1 (hid.2 (Or.inl h)))]
          rfl
    obtain ⟨k1, inn⟩ := inner x.size 0 (Nat.zero_le _) (by omega)
    refine ⟨k1 + 1, fun k hk => ?_⟩
    obtain ⟨k, rfl⟩ : ∃ i, k = i + 1 := ⟨k - 1, by omega⟩
    rw [spec_verIdents.l0, if_pos (by omega), if_pos (by omega), if_pos (by omega), hrd, hdrop, List.all_cons]
    refine (inn k (by omega)).trans ?_
    rw [List.drop_zero, Bool.and_comm (!_) _]
theorem parts_len (c : UInt8) : ∀ l : List UInt8, (qSplitOn c l).length ≤ l.length + 1
  | [] => Nat.le_refl _
  | x :: r => by
    have := parts_len c r
    by_cases h : x = c
    · rw [qSplitOn, if_pos h]; simp; omega
    · obtain ⟨p, q, h1, h2⟩ := qSplitOn_cons (r := r) h
      rw [h2]; rw [h1] at this; simp at this ⊢; omega
theorem parts_size (c : UInt8) : ∀ l : List UInt8, ∀ x ∈ qSplitOn c l, x.length ≤ l.length
  | [], x, hx => by simp [qSplitOn] at hx; simp [hx]
  | y :: r, x, hx => by
    have ih := parts_size c r
    by_cases h : y = c
    · rw [qSplitOn, if_pos h] at hx
      rcases List.mem_cons.1 hx with rfl | hx
      · simp
      · have := ih x hx; simp; omega
    · obtain ⟨p, q, h1, h2⟩ := qSplitOn_cons (r := r) h
      rw [h2] at hx; rw [h1] at ih
      rcases List.mem_cons.1 hx with rfl | hx
      · have := ih p (List.mem_cons_self ..); simp; omega
      · have := ih x (List.mem_cons_of_mem _ hx); simp; omega
theorem idents_f (s : ByteArray) (hn : s.size ≤ 100000000) : ∃ k, spec_verIdents.f k s = some (if qIdentsB s.data.toList then (partsV 46 s, true) else ([], false)) := by
  have hlen : (partsV 46 s).length ≤ s.size + 1 := by
    unfold partsV; rw [List.length_map]
    have := parts_len 46 s.data.toList
    rw [Array.length_toList] at this; exact this
  have hmem : ∀ x ∈ partsV 46 s, x.size ≤ 140737488351232 := by
    intro x hx
    obtain ⟨y, hy, rfl⟩ := List.mem_map.1 hx
    have := parts_size 46 s.data.toList y hy
    rw [Array.length_toList] at this
    have h2 : s.data.size = s.size := rfl
    have h3 : (mkB y).size = y.length := by show y.toArray.size = _; rw [List.size_toArray]
    have h4 : s.data.toList.length = s.size := by rw [Array.length_toList]; rfl
    have h5 := parts_size 46 s.data.toList y hy
    clear h2 this
    rw [h3]; omega
  obtain ⟨k0, h⟩ := idents_tells (partsV 46 s) hmem (by omega) (partsV 46 s).length 0 (Nat.zero_le _) (by omega)
  refine ⟨k0 + s.size + 2, ?_⟩
  have h46 : ((46 : UInt8).toNat : Int) = 46 := rfl
  have hs := split_f s (by omega) 46 (k0 + s.size + 2) (by omega)
  rw [h46] at hs
  rw [spec_verIdents.f, hs]
  show spec_verIdents.l0 _ _ _ _ _ = _
  refine (h _ (by omega)).trans ?_
  rw [List.drop_zero]
  have e : (partsV 46 s).all (fun x => !x.data.toList.isEmpty && x.data.toList.all isId) = qIdentsB s.data.toList := by
    unfold partsV qIdentsB
    rw [List.all_map]; rfl
  rw [e]
theorem digits_tells (s : ByteArray) (hn : s.size ≤ 140737488351232) (d : Nat) : ∀ i, i ≤ s.size → s.size - i = d → ∀ k, d < k →
    spec_verDigits.l0 k s (i : Int) = some ((s.data.toList.drop i).all isDig && (!s.data.toList.isEmpty || decide (i < s.size))) := by
  induction d with
  | zero =>
    intro i hi hd k hk
    obtain ⟨k, rfl⟩ : ∃ j, k = j + 1 := ⟨k - 1, by omega⟩
    rw [spec_verDigits.l0, if_neg (by omega), List.drop_eq_nil_of_le (by rw [Array.length_toList]; show s.size ≤ i; omega), decide_eq_false (by omega), ByteArray.toList_eq]
    cases s.data.toList <;> rfl
  | succ d ih =>
    intro i hi hd k hk
    obtain ⟨k, rfl⟩ : ∃ j, k = j + 1 := ⟨k - 1, by omega⟩
    have hlt : i < s.size := by omega
    have w1 : wrap64 ((i : Int) + 1) = ((i + 1 : Nat) : Int) := by rw [wrap_in (by omega) (by omega)]; omega
    have hne : s.data.toList.isEmpty = false := by
      cases h : s.data.toList with
      | nil => exfalso; have : s.data.toList.length = 0 := by rw [h]; rfl
               rw [Array.length_toList] at this; have h2 : s.data.size = s.size := rfl; omega
      | cons _ _ => rfl
    rw [drop_at s i hlt, spec_verDigits.l0, if_pos (by omega), if_pos (by omega), bt_nat s i hlt, w1, ih (i + 1) (by omega) (by omega) k (by omega), List.all_cons, hne]
    generalize s[i] = c
    by_cases a : (c.toNat : Int) < 48
    · rw [if_pos a, show isDig c = false from by unfold isDig; rw [decide_eq_false (by omega)]; rfl]; rfl
    · by_cases b : (c.toNat : Int) > 57
      · rw [if_neg a, if_pos b, show isDig c = false from by unfold isDig; rw [decide_eq_false (p := c.toNat ≤ 57) (by omega)]; simp]; rfl
      · rw [if_neg a, if_neg b, show isDig c = true from by unfold isDig; rw [decide_eq_true (by omega), decide_eq_true (by omega)]; rfl]; simp
theorem num_tells (s : ByteArray) (hn : s.size ≤ 140737488351232) (d : Nat) : ∀ i acc : Nat, i ≤ s.size → s.size - i = d → (s.data.toList.drop i).all isDig = true → acc ≤ 18446744073709551615 → ∀ k, d < k →
    spec_verNumber.l0 k s (acc : Int) (i : Int) = some (match Lib.parseUintM 18446744073709551615 acc (s.data.toList.drop i) with | .ok u => ((u : Int), true) | _ => (0, false)) := by
  induction d with
  | zero =>
    intro i acc hi hd _ _ k hk
    obtain ⟨k, rfl⟩ : ∃ j, k = j + 1 := ⟨k - 1, by omega⟩
    rw [spec_verNumber.l0, if_neg (by omega), List.drop_eq_nil_of_le (by rw [Array.length_toList]; show s.size ≤ i; omega)]
    rfl
  | succ d ih =>
    intro i acc hi hd hall hacc k hk
    obtain ⟨k, rfl⟩ : ∃ j, k = j + 1 := ⟨k - 1, by omega⟩
    have hlt : i < s.size := by omega
    have w1 : wrap64 ((i : Int) + 1) = ((i + 1 : Nat) : Int) := by rw [wrap_in (by omega) (by omega)]; omega
    rw [drop_at s i hlt, List.all_cons, Bool.and_eq_true] at hall
    obtain ⟨hd1, hall⟩ := hall
    rw [drop_at s i hlt, spec_verNumber.l0, if_pos (by omega), if_pos (by omega), bt_nat s i hlt, w1, Lib.parseUintM]
    generalize s[i] = c at *
    simp only [isDig, Bool.and_eq_true, decide_eq_true_eq] at hd1
    rw [if_pos hd1]
    have hm : ((c.toNat : Int) - 48) % 256 = ((c.toNat - 48 : Nat) : Int) := by omega
    rw [hm]
    by_cases h1 : 1844674407370955162 ≤ acc
    · rw [if_pos h1, if_pos (by omega)]
    · rw [if_neg h1]
      by_cases h2 : 18446744073709551615 < acc * 10 + (c.toNat - 48)
      · rw [if_pos h2, if_pos (by omega)]
      · rw [if_neg h2, if_neg (by omega)]
        have e : IntKind.u64.wrap (IntKind.u64.wrap (10 * (acc : Int)) + ((c.toNat - 48 : Nat) : Int)) = ((acc * 10 + (c.toNat - 48) : Nat) : Int) := by
          have u : ∀ z : Int, 0 ≤ z → z ≤ 18446744073709551615 → IntKind.u64.wrap z = z := fun z h0 h1 => by
            show z % 18446744073709551616 = z; omega
          rw [u (10 * (acc : Int)) (by omega) (by omega), u _ (by omega) (by omega)]; omega
        rw [e]
        exact ih (i + 1) _ (by omega) (by omega) hall (by omega) k (by omega)
theorem number_f (s : ByteArray) (hn : s.size ≤ 140737488351232) : ∃ n k, spec_verNumber.f k s = some (n, (qNumB s.data.toList).isSome) ∧ ∀ u, qNumB s.data.toList = some u → n = (u : Int) := by
  have hd := digits_tells s hn s.size 0 (Nat.zero_le _) (by omega) (s.size + 1) (by omega)
  have hb : ((s.data.toList.drop 0).all isDig && (!s.data.toList.isEmpty || decide (0 < s.size))) = (s.data.toList.all isDig && !s.data.toList.isEmpty) := by
    rw [List.drop_zero]
    cases h : s.data.toList with
    | nil => have : s.data.toList.length = 0 := by rw [h]; rfl
             rw [Array.length_toList] at this; have h2 : s.data.size = s.size := rfl
             rw [decide_eq_false (by omega)]; rfl
    | cons _ _ => simp
  rw [hb] at hd
  by_cases hok : (s.data.toList.all isDig && !s.data.toList.isEmpty) = true
  · have hnum := num_tells s hn s.size 0 0 (Nat.zero_le _) (by omega) (by rw [List.drop_zero]; exact (Bool.and_eq_true _ _ ▸ hok).1) (by omega) (s.size + 1) (by omega)
    have hne : s.data.toList ≠ [] := by intro h; rw [h] at hok; simp at hok
    have hq : Lib.parseUintB 64 s.data.toList = Lib.parseUintM 18446744073709551615 0 s.data.toList := by rw [Lib.parseUintB, if_neg hne]
    rw [List.drop_zero, ← hq] at hnum
    unfold qNumB
    have open0 : spec_verNumber.f (s.size + 1) s = spec_verNumber.l0 (s.size + 1) s 0 0 := by
      rw [spec_verNumber.f, spec_verDigits.f]
      show ((spec_verDigits.l0 (s.size + 1) s ((0 : Nat) : Int)).bind _) = _
      rw [hd, hok]; rfl
    have hnum' : spec_verNumber.f (s.size + 1) s = _ := open0.trans hnum
    cases hp : Lib.parseUintB 64 s.data.toList <;> rw [hp] at hnum' <;>
      first
        | exact ⟨_, s.size + 1, hnum', fun v hv => by cases hv; rfl⟩
        | exact ⟨0, s.size + 1, hnum', fun v hv => by cases hv⟩
  · have hok' : (s.data.toList.all isDig && !s.data.toList.isEmpty) = false := by simpa using hok
    have hq : qNumB s.data.toList = none := by
      cases h : qNumB s.data.toList with
      | none => rfl
      | some u =>
        obtain ⟨_, h1, h2⟩ := qNumB_some h
        exfalso; apply hok
        rw [h2]
        cases h3 : s.data.toList with
        | nil => exact absurd h3 h1
        | cons _ _ => rfl
    exact ⟨0, s.size + 1, by
      rw [spec_verNumber.f, spec_verDigits.f]
      show ((spec_verDigits.l0 (s.size + 1) s ((0 : Nat) : Int)).bind _) = _
      rw [hd, hok', hq]; rfl, fun u hu => by rw [hq] at hu; cases hu⟩
end Go.Proofs.YtgoeiflddikihaaGreatDoor.Ver
end
section
namespace Go.Proofs.YtgoeiflddikihaaGreatDoor.Mem
open Go.RowKit
abbrev Blk := Nat × List Value × TypeId
structure Blks (w0 w : World) (L : List Blk) : Prop where
  bel : Below w0.heap.size w0 w
  has : ∀ x ∈ L, w.heap[x.1]? = some (.cells x.2.1.toArray x.2.2 (0, 0))
  new : ∀ x ∈ L, w0.heap.size ≤ x.1
  nd : (L.map (·.1)).Nodup
theorem hsz (w : World) (o : Obj) : (w.alloc o).heap.size = w.heap.size + 1 := by
  show (w.heap.push o).size = _
  simp
theorem hnew (w : World) (o : Obj) : (w.alloc o).heap[w.heap.size]? = some o := by
  show (w.heap.push o)[w.heap.size]? = _
  simp
theorem hlt {w : World} {g : Nat} {o : Obj} (h : w.heap[g]? = some o) : g < w.heap.size := (Array.getElem?_eq_some_iff.1 h).1
theorem Blks.start (w : World) : Blks w w [] := ⟨Below.refl _ _, by simp, by simp, by simp⟩
theorem Blks.call {w0 w w1 : World} {L : List Blk} (h : Blks w0 w L) (hb : Below w.heap.size w w1) : Blks w0 w1 L :=
  ⟨h.bel.trans (hb.mono h.bel.size), fun x hx => (hb.block x.1 (hlt (h.has x hx))).trans (h.has x hx), h.new, h.nd⟩
theorem Blks.drewN {w0 w : World} {L : List Blk} (h : Blks w0 w L) (n : Nat) : Blks w0 (w.drewN n) L := h.call ⟨rfl, rfl, rfl, Nat.le_refl _, fun _ _ => rfl⟩
theorem Blks.drew {w0 w : World} {L : List Blk} (h : Blks w0 w L) : Blks w0 w.drew L := h.call ⟨rfl, rfl, rfl, Nat.le_refl _, fun _ _ => rfl⟩
theorem Blks.alloc {w0 w : World} {L : List Blk} (h : Blks w0 w L) (cs : Array Value) (t : TypeId) : Blks w0 (w.alloc (.cells cs t)) ((w.heap.size, cs.toList, t) :: L) := by
  refine ⟨h.bel.alloc h.bel.size _, ?_, ?_, ?_⟩
  · intro x hx
    rcases List.mem_cons.1 hx with rfl | hx
    · exact hnew w _
    · exact (Below.heap_alloc w _ x.1 (hlt (h.has x hx))).trans (h.has x hx)
  · intro x hx
    rcases List.mem_cons.1 hx with rfl | hx
    · exact h.bel.size
    · exact h.new x hx
  · rw [List.map_cons, List.nodup_cons]
    refine ⟨?_, h.nd⟩
    intro hm
    obtain ⟨x, hx, e⟩ := List.mem_map.1 hm
    have := hlt (h.has x hx)
    simp only at e
    omega
theorem Blks.other {w0 w : World} {L : List Blk} (h : Blks w0 w L) (o : Obj) : Blks w0 (w.alloc o) L :=
  h.call ⟨rfl, rfl, rfl, by rw [hsz]; omega, fun k hk => Below.heap_alloc w o k hk⟩
theorem Blks.drop {w0 w : World} {L : List Blk} {x : Blk} (h : Blks w0 w (x :: L)) : Blks w0 w L :=
  ⟨h.bel, fun y hy => h.has y (List.mem_cons_of_mem _ hy), fun y hy => h.new y (List.mem_cons_of_mem _ hy), (List.nodup_cons.1 h.nd).2⟩
inductive Rd : List Value → Nat → Nat → List Value → Prop
  | nil {cs : List Value} : Rd cs 0 0 []
  | here {c : Value} {cs vs : List Value} {n : Nat} (h : Rd cs 0 n vs) : Rd (c :: cs) 0 (n + 1) (c :: vs)
  | skip {c : Value} {cs vs : List Value} {o n : Nat} (h : Rd cs o n vs) : Rd (c :: cs) (o + 1) n vs
theorem Rd.len {cs : List Value} {o n : Nat} {vs : List Value} (h : Rd cs o n vs) : vs.length = n := by
  induction h with
  | nil => rfl
  | here _ ih => simp [ih]
  | skip _ ih => exact ih
theorem Rd.at_ {cs : List Value} {o n : Nat} {vs : List Value} (h : Rd cs o n vs) : ∀ j v, vs[j]? = some v → cs[o + j]? = some v := by
  induction h with
  | nil => intro j v hv; simp at hv
  | here _ ih =>
    intro j v hv
    cases j with
    | zero => simpa using hv
    | succ j => simpa using ih j v (by simpa using hv)
  | skip _ ih =>
    intro j v hv
    rw [show ∀ o j : Nat, o + 1 + j = (o + j) + 1 from fun o j => by omega]
    simpa using ih j v hv
inductive Wr : List Value → Nat → List Value → List Value → Prop
  | nil {cs : List Value} : Wr cs 0 [] cs
  | here {c v : Value} {cs vs cs' : List Value} (h : Wr cs 0 vs cs') : Wr (c :: cs) 0 (v :: vs) (v :: cs')
  | skip {c : Value} {cs vs cs' : List Value} {o : Nat} (h : Wr cs o vs cs') : Wr (c :: cs) (o + 1) vs (c :: cs')
theorem Wr.len {cs : List Value} {o : Nat} {vs cs' : List Value} (h : Wr cs o vs cs') : cs'.length = cs.length ∧ o + vs.length ≤ cs.length := by
  induction h with
  | nil => simp
  | here _ ih => simp; omega
  | skip _ ih => simp; omega
theorem Wr.eq {cs : List Value} {o : Nat} {vs cs' : List Value} (h : Wr cs o vs cs') : cs' = cs.take o ++ vs ++ cs.drop (o + vs.length) := by
  induction h with
  | nil => simp
  | here _ ih => simp at ih ⊢; rw [ih]
  | skip _ ih => simp at ih ⊢; rw [ih]; simp [Nat.add_right_comm]
inductive Up : List Blk → Nat → List Value → TypeId → List Value → List Blk → Prop
  | here {b : Nat} {cs cs' : List Value} {t : TypeId} {L : List Blk} : Up ((b, cs, t) :: L) b cs t cs' ((b, cs', t) :: L)
  | skip {x : Blk} {b : Nat} {cs cs' : List Value} {t : TypeId} {L L' : List Blk} (h : Up L b cs t cs' L') : Up (x :: L) b cs t cs' (x :: L')
theorem Up.mem {L L' : List Blk} {b : Nat} {cs cs' : List Value} {t : TypeId} (h : Up L b cs t cs' L') : (b, cs, t) ∈ L := by
  induction h with
  | here => simp
  | skip _ ih => exact List.mem_cons_of_mem _ ih
theorem Up.keys {L L' : List Blk} {b : Nat} {cs cs' : List Value} {t : TypeId} (h : Up L b cs t cs' L') : L'.map (·.1) = L.map (·.1) := by
  induction h with
  | here => rfl
  | skip _ ih => simp [ih]
theorem Up.back {L L' : List Blk} {b : Nat} {cs cs' : List Value} {t : TypeId} (h : Up L b cs t cs' L') (hn : (L.map (·.1)).Nodup) : ∀ x ∈ L', x = (b, cs', t) ∨ x ∈ L ∧ x.1 ≠ b := by
  induction h with
  | here =>
    rename_i b cs cs' t L
    intro x hx
    rw [List.map_cons, List.nodup_cons] at hn
    rcases List.mem_cons.1 hx with rfl | hx
    · exact Or.inl rfl
    · refine Or.inr ⟨List.mem_cons_of_mem _ hx, fun e => hn.1 ?_⟩
      exact List.mem_map.2 ⟨x, hx, e⟩
  | skip hu ih =>
    rename_i y b cs cs' t L L'
    intro x hx
    rw [List.map_cons, List.nodup_cons] at hn
    rcases List.mem_cons.1 hx with rfl | hx
    · refine Or.inr ⟨by simp, fun e => hn.1 ?_⟩
      rw [e]; exact List.mem_map.2 ⟨_, hu.mem, rfl⟩
    · rcases ih hn.2 x hx with h | ⟨h1, h2⟩
      · exact Or.inl h
      · exact Or.inr ⟨List.mem_cons_of_mem _ h1, h2⟩
theorem heap_setCells_other (b : Nat) : ∀ (vs : List Value) (o : Nat) (w : World) (k : Nat), k ≠ b → (w.setCells b o vs).heap[k]? = w.heap[k]?
  | [], _, _, _, _ => rfl
  | v :: r, o, w, k, h => by
    rw [World.setCells, heap_setCells_other b r (o + 1) _ k h]
    exact Below.heap_setCell w ⟨b, o, none⟩ v k h
theorem heap_setCells_same (b : Nat) (t : TypeId) : ∀ (vs : List Value) (o : Nat) (w : World) (cs : Array Value), o + vs.length ≤ cs.size → w.heap[b]? = some (.cells cs t (0, 0)) →
    (w.setCells b o vs).heap[b]? = some (.cells (cs.toList.take o ++ vs ++ cs.toList.drop (o + vs.length)).toArray t (0, 0))
  | [], o, w, cs, h, hb => by rw [World.setCells]; simpa using hb
  | v :: r, o, w, cs, h, hb => by
    simp only [List.length_cons] at h
    have h1 : (w.setCell ⟨b, o, none⟩ v).heap[b]? = some (.cells (cs.setIfInBounds o v) t (0, 0)) := by simp [World.setCell, Array.getElem?_modify, hb]
    rw [World.setCells, heap_setCells_same b t r (o + 1) _ (cs.setIfInBounds o v) (by simp; omega) h1]
    congr 2
    apply Array.ext'
    have hk : o < cs.toList.length := by simp; omega
    simp only [Array.toList_setIfInBounds, List.length_cons]
    rw [List.drop_set_of_lt (by omega), List.take_set, List.take_succ_eq_append_getElem hk, List.set_append_right _ _ (by simp; omega)]
    have e : o - (List.take o cs.toList).length = 0 := by rw [List.length_take]; omega
    rw [e]
    simp [Nat.add_assoc, Nat.add_comm 1]
theorem size_setCells (b : Nat) : ∀ (vs : List Value) (o : Nat) (w : World), (w.setCells b o vs).heap.size = w.heap.size ∧ (w.setCells b o vs).os = w.os ∧ (w.setCells b o vs).tape = w.tape ∧ (w.setCells b o vs).output = w.output
  | [], _, _ => ⟨rfl, rfl, rfl, rfl⟩
  | v :: r, o, w => by
    rw [World.setCells]
    obtain ⟨h1, h2, h3, h4⟩ := size_setCells b r (o + 1) (w.setCell ⟨b, o, none⟩ v)
    exact ⟨by rw [h1]; simp [World.setCell], h2, h3, h4⟩
theorem Blks.set {w0 w : World} {L L' : List Blk} (h : Blks w0 w L) {b o : Nat} {cs vs cs' : List Value} {t : TypeId} (hw : Wr cs o vs cs') (hu : Up L b cs t cs' L') : Blks w0 (w.setCells b o vs) L' := by
  have hb := h.has _ hu.mem
  have hn := h.new _ hu.mem
  obtain ⟨s1, s2, s3, s4⟩ := size_setCells b vs o w
  refine ⟨⟨s2.trans h.bel.os, s3.trans h.bel.tape, s4.trans h.bel.output, by rw [s1]; exact h.bel.size, fun k hk => ?_⟩, ?_, ?_, by rw [hu.keys]; exact h.nd⟩
  · rw [heap_setCells_other b vs o w k (by simp only at hn; omega)]
    exact h.bel.block k hk
  · intro x hx
    rcases hu.back h.nd x hx with rfl | ⟨h1, h2⟩
    · have := heap_setCells_same b t vs o w cs.toArray (by simpa using hw.len.2) hb
      simp only at this ⊢
      rw [this, hw.eq]
    · rw [heap_setCells_other b vs o w x.1 h2]
      exact h.has x h1
  · intro x hx
    have hk : x.1 ∈ L'.map (·.1) := List.mem_map.2 ⟨x, hx, rfl⟩
    rw [hu.keys] at hk
    obtain ⟨y, hy, e⟩ := List.mem_map.1 hk
    rw [← e]; exact h.new y hy
theorem Blks.range {w0 w : World} {L : List Blk} (h : Blks w0 w L) {b o n : Nat} {cs vs : List Value} {t : TypeId} (hm : (b, cs, t) ∈ L) (hr : Rd cs o n vs) : w.rangeAt b o vs := by
  intro j v hv
  have hb := h.has _ hm
  have := cell_of_row w b (o + j) cs.toArray t (0, 0) hb
  rw [this]
  simpa using hr.at_ j v hv
theorem Blks.there {w0 w : World} {L : List Blk} (h : Blks w0 w L) {b o n : Nat} {cs : List Value} {t : TypeId} (hm : (b, cs, t) ∈ L) (hn : o + n ≤ cs.length) : w.there b o n := by
  intro j hj
  have hb := h.has _ hm
  have hc := cell_of_row w b (o + j) cs.toArray t (0, 0) hb
  refine ⟨?_, by simp [World.frozen?, hb]⟩
  rw [hc]
  simp; omega
theorem Blks.cell {w0 w : World} {L : List Blk} (h : Blks w0 w L) {b o : Nat} {cs : List Value} {v : Value} {t : TypeId} (hm : (b, cs, t) ∈ L) (hr : Rd cs o 1 [v]) : w.cell? ⟨b, o, none⟩ = some v := h.range hm hr 0 v rfl
section ops
variable {P : Program} {ops : Array Oper} {rest : List Oper} {o : Oper} {a : Act} {w0 w : World} {Q : Exit → Act → World → Prop} {L L' : List Blk}
structure RowT (P : Program) (ty : TypeId) (n : Nat) : Prop where
  row : ∃ d, P.underlying ty = some d ∧ d.isRow = true
  size : (P.info? ty).map (·.size) = some n
structure OneT (P : Program) (ty : TypeId) : Prop where
  row : ∃ d, P.underlying ty = some d ∧ d.isRow = false
  size : (P.info? ty).map (·.size) = some 1
theorem bk_load (hg : o.guard = none) {ty : TypeId} {x : Operand} (ho : o.op = .load ty x) {b off : Nat} (hx : a.eval x = .pointer (some ⟨b, off, none⟩)) (H : Blks w0 w L) {cs : List Value} {t : TypeId} (hm : (b, cs, t) ∈ L)
    {n : Nat} (ht : RowT P ty n) {vs : List Value} (hr : Rd cs off n vs) (h : wpList P ops Q rest (a.put o.dst (.agg vs.toArray)) w) : wpList P ops Q (o :: rest) a w := by
  obtain ⟨d, hu, hd⟩ := ht.row
  exact wpList_load_mid hg ty x ho b off hx vs d (H.range hm hr) hu hd (by rw [ht.size, hr.len]) h
theorem bk_load1 (hg : o.guard = none) {ty : TypeId} {x : Operand} (ho : o.op = .load ty x) {b off : Nat} (hx : a.eval x = .pointer (some ⟨b, off, none⟩)) (H : Blks w0 w L) {cs : List Value} {t : TypeId} (hm : (b, cs, t) ∈ L)
    (ht : OneT P ty) {v : Value} (hr : Rd cs off 1 [v]) (h : wpList P ops Q rest (a.put o.dst v) w) : wpList P ops Q (o :: rest) a w := by
  obtain ⟨d, hu, hd⟩ := ht.row
  have hc : w.cell? ⟨b, off, none⟩ = some v := (H.range hm hr) 0 v rfl
  refine wpList_plain hg fun K hK => ?_
  unfold Oper.wp execOp
  have hrun : (loadVar ty ⟨b, off, none⟩).run P w = .ok v w := by
    have hs := ht.size
    cases hq : P.info? ty with
    | none => simp [hq] at hs
    | some i =>
      have hs : i.size = 1 := by simpa [hq] using hs
      cases d <;> first
        | (simp [TypeDesc.isRow] at hd; done)
        | (simp [loadVar, isAgg, sizeOf, typeInfo, hq, hs, run_underlying hu, hc, loadCells, go_sem]; done)
  simp only [ho, hx, Instr.loadAt, Instr.sureAddr, Sem.run_bind, Sem.run_pure, Result.andThen_ok, hrun]
  exact hK _ _ h
theorem bk_store (hg : o.guard = none) {ty : TypeId} {x y : Operand} (ho : o.op = .store ty x y) (hd : o.dst = none) {b off : Nat} (hx : a.eval x = .pointer (some ⟨b, off, none⟩)) {vs : Array Value} (hy : a.eval y = .agg vs) (H : Blks w0 w L)
    {n : Nat} (ht : RowT P ty n) (hn : vs.size = n) (h1 : vs.all (·.oneCell') = true) {cs cs' : List Value} {t : TypeId} (_hm : (b, cs, t) ∈ L) (hw : Wr cs off vs.toList cs') (hu : Up L b cs t cs' L')
    (h : ∀ w', Blks w0 w' L' → wpList P ops Q rest a w') : wpList P ops Q (o :: rest) a w := by
  have hle := hw.len.2
  rw [Array.length_toList] at hle
  refine wpList_store_mid hg ty x y ho b off vs hx hy (H.there hu.mem hle) (by rw [ht.size, hn]) h1 ?_
  rw [hd]
  exact h _ (H.set hw hu)
theorem bk_store1 (hg : o.guard = none) {ty : TypeId} {x y : Operand} (ho : o.op = .store ty x y) (hd : o.dst = none) {b off : Nat} (hx : a.eval x = .pointer (some ⟨b, off, none⟩)) {v : Value} (hy : a.eval y = v) (H : Blks w0 w L)
    (ht : OneT P ty) (h1 : v.oneCell' = true) {cs cs' : List Value} {t : TypeId} (_hm : (b, cs, t) ∈ L) (hw : Wr cs off [v] cs') (hu : Up L b cs t cs' L')
    (h : ∀ w', Blks w0 w' L' → wpList P ops Q rest a w') : wpList P ops Q (o :: rest) a w := by
  have hle := hw.len.2
  have hth := H.there (n := 1) hu.mem hle
  obtain ⟨h0, h2⟩ := hth 0 (by omega)
  refine wpList_plain hg fun K hK => ?_
  unfold Oper.wp execOp
  obtain ⟨old, hold⟩ := Option.isSome_iff_exists.1 h0
  rw [Nat.add_zero] at hold h2
  have hrun : (storeVar ty ⟨b, off, none⟩ v).run P w = .ok () (w.setCells b off [v]) := by
    have hs := ht.size
    have hcv : v.cells = #[v] := by cases v <;> first | rfl | cases h1
    have hst := run_storeCells_cells (P := P) b off [v] 0 w (fun j hj => by
      have : j = 0 := by simpa using hj
      subst this
      simpa using h0) (fun j hj => by
      have : j = 0 := by simpa using hj
      subst this
      simpa using h2) (fun u hu => by simp at hu; subst hu; exact h1)
    cases hq : P.info? ty with
    | none => simp [hq] at hs
    | some i =>
      have hs : i.size = 1 := by simpa [hq] using hs
      simp only [Nat.add_zero] at hst
      simp [storeVar, sizeOf, typeInfo, hq, hcv, hs, hst]
  simp only [ho, hx, hy, Instr.storeAt, Instr.sureAddr, Sem.run_bind, Sem.run_pure, Result.andThen_ok, hrun]
  rw [Oper.upon_skip, hd]
  exact hK _ _ (h _ (H.set hw hu))
theorem bk_alloc (hg : o.guard = none) {ty : TypeId} (ho : o.op = .alloc ty) (H : Blks w0 w L) {zs : Array Value} (hz : (P.info? ty).bind (fun i => i.zero.map (·.cells)) = some zs)
    (h : ∀ (b : Nat) (w' : World), Blks w0 w' ((b, zs.toList, ty) :: L) → wpList P ops Q rest (a.put o.dst (.pointer (some ⟨b, 0, none⟩))) w') : wpList P ops Q (o :: rest) a w := by
  refine wpList_plain hg fun K hK => ?_
  unfold Oper.wp execOp
  cases hq : P.info? ty with
  | none => simp [hq] at hz
  | some i =>
    simp only [hq, Option.bind_some] at hz
    cases hv : i.zero with
    | none => simp [hv] at hz
    | some z =>
      simp only [hv, Option.map_some, Option.some.injEq] at hz
      have hrun : (Instr.alloc ty true (.tuple #[])).run P w = .ok (.pointer (some ⟨w.heap.size, 0, none⟩)) (w.alloc (.cells zs ty)) := by
        simp [Instr.alloc, zeroValue, typeInfo, hq, hv, newVar, newRow, hz]
      simp only [ho, Sem.run_bind, hrun, Result.andThen_ok, Sem.run_pure]
      exact hK _ _ (h _ _ (H.alloc zs ty))
theorem bk_box (hg : o.guard = none) {ty : TypeId} {x : Operand} (ho : o.op = .box ty x) (H : Blks w0 w L) {cs : Array Value} (hx : a.eval x = .agg cs)
    (h : ∀ (b : Nat) (w' : World), Blks w0 w' ((b, cs.toList, ty) :: L) → wpList P ops Q rest (a.put o.dst (.pointer (some ⟨b, 0, none⟩))) w') : wpList P ops Q (o :: rest) a w :=
  Great.wpList_boxTo hg ty x ho o.dst rfl w.heap.size rfl cs (by rw [hx]; rfl) (h _ _ (H.alloc cs ty))
theorem bk_slice (hg : o.guard = none) {t e : TypeId} {len : Nat} {parts : Array (Nat × Operand)} (ho : o.op = .buildSlice t len parts) (H : Blks w0 w L) (hu : P.underlying t = some (.slice e)) {cells : Array Value}
    (hf : P.builtSlice e len (parts.map fun (i, x) => (i, a.eval x)).toList = some cells)
    (h : ∀ (b : Nat) (w' : World), Blks w0 w' ((b, cells.toList, e) :: L) → wpList P ops Q rest (a.put o.dst (.slice (some ⟨b, 0, none⟩) len len)) w') : wpList P ops Q (o :: rest) a w :=
  Great.wpList_buildSliceTo hg t e len parts ho w.heap.size rfl o.dst rfl hu cells hf (h _ _ (H.alloc cells e))
theorem bk_build (hg : o.guard = none) {t : TypeId} {parts : Array (Nat × Operand)} (ho : o.op = .build t parts) {cells : Array Value} (hf : P.built t (parts.map fun (i, x) => (i, a.eval x)).toList = some cells)
    (h : wpList P ops Q rest (a.put o.dst (.agg cells)) w) : wpList P ops Q (o :: rest) a w := wpList_buildTo hg t parts ho o.dst rfl cells hf h
theorem Blks.row (h : Blks w0 w L) {b n size : Nat} {cs : List Value} {e : TypeId} (hm : (b, cs, e) ∈ L) (hl : cs.length = n * size) (hn : n ≤ maxLen) : w.ownsRow w0.heap.size e size (.slice (some ⟨b, 0, none⟩) n n) n cs :=
  ⟨hl, Or.inr ⟨b, n, cs.toArray, rfl, h.new _ hm, h.has _ hm, Nat.le_refl _, hn, by simpa using hl, by simp [List.take_of_length_le (Nat.le_of_eq hl)]⟩⟩
end ops
end Go.Proofs.YtgoeiflddikihaaGreatDoor.Mem
end
section
namespace Go.Proofs.YtgoeiflddikihaaGreatDoor.Mem
open Go.RowKit Go.Proofs.YtgoeiflddikihaaGreatDoorW.PrintWords
theorem Blks.add {w0 w w1 : World} {L : List Blk} (h : Blks w0 w L) (hb : Below w.heap.size w w1) {g : Nat} (hg : w.heap.size ≤ g) {cs : Array Value} {t : TypeId} (hc : w1.heap[g]? = some (.cells cs t (0, 0))) {l : List Value} (hl : cs.toList = l) : Blks w0 w1 ((g, l, t) :: L) := by
  have h1 := h.call hb
  subst hl
  refine ⟨h1.bel, ?_, ?_, ?_⟩
  · intro x hx
    rcases List.mem_cons.1 hx with rfl | hx
    · exact hc
    · exact h1.has x hx
  · intro x hx
    rcases List.mem_cons.1 hx with rfl | hx
    · exact Nat.le_trans h.bel.size hg
    · exact h1.new x hx
  · rw [List.map_cons, List.nodup_cons]
    refine ⟨?_, h1.nd⟩
    intro hm
    obtain ⟨x, hx, e⟩ := List.mem_map.1 hm
    have := hlt (h.has x hx)
    simp only at e
    omega
structure RowF (n cap size : Nat) (xs rest : List Value) : Prop where
  len : xs.length = n * size
  le : n ≤ cap
  most : cap ≤ maxLen
  all : (xs ++ rest).length = cap * size
theorem row_block {w : World} {base n size : Nat} {e : TypeId} {v : Value} {xs : List Value} (h : w.ownsRow base e size v n xs) (hp : 0 < n) :
    ∃ g cap cells rest, v = .slice (some ⟨g, 0, none⟩) n cap ∧ base ≤ g ∧ w.heap[g]? = some (.cells cells e (0, 0)) ∧ cells.toList = xs ++ rest ∧ RowF n cap size xs rest := by
  obtain ⟨hl, h⟩ := h
  rcases h with ⟨_, rfl⟩ | ⟨g, cap, cur, rfl, hb, hc, h1, h2, h3, ht⟩
  · omega
  · have e1 : cur.toList = xs ++ cur.toList.drop (n * size) := by rw [← ht, List.take_append_drop]
    exact ⟨g, cap, cur, cur.toList.drop (n * size), rfl, hb, hc, e1, hl, h1, h2, by rw [← e1, Array.length_toList, h3]⟩
theorem Blks.rowOf {w0 w : World} {L : List Blk} (h : Blks w0 w L) {g n cap size : Nat} {xs rest : List Value} {e : TypeId} (hm : (g, xs ++ rest, e) ∈ L) (hf : RowF n cap size xs rest) : w.ownsRow w0.heap.size e size (.slice (some ⟨g, 0, none⟩) n cap) n xs :=
  ⟨hf.len, Or.inr ⟨g, cap, (xs ++ rest).toArray, rfl, h.new _ hm, h.has _ hm, hf.le, hf.most, by simpa using hf.all, by simp [← hf.len]⟩⟩
theorem Blks.addr {w0 w : World} {L : List Blk} (h : Blks w0 w L) {g : Nat} {xs rest : List Value} {e : TypeId} (hm : (g, xs ++ rest, e) ∈ L) : ∀ (j : Nat) (u : Value), xs[j]? = some u → w.cell? ((⟨g, 0, none⟩ : Addr).add j) = some u := by
  intro j u hu
  rw [Addr.add_mid]
  have := cell_of_row w g (0 + j) (xs ++ rest).toArray e (0, 0) (h.has _ hm)
  rw [this]
  have hj : j < xs.length := (List.getElem?_eq_some_iff.1 hu).1
  simp only [Nat.zero_add, List.getElem?_toArray]
  rw [List.getElem?_append_left hj, hu]
theorem reps_strings {w : World} {base : Nat} {ok : Nat → Prop} {xs : List ByteArray} {inner : List Value} (h : Reps (Kd.string.M w base ok) 1 xs inner) : inner = xs.map Value.string := by
  obtain ⟨h1, h2⟩ := h
  refine List.ext_getElem (by simp [h1]) fun j hj hj' => ?_
  have hx : j < xs.length := by simpa using hj'
  have := h2 j xs[j] (List.getElem?_eq_getElem hx)
  have e : List.take 1 (List.drop (j * 1) inner) = [Value.string xs[j]] := this
  rw [Nat.mul_one, List.drop_eq_getElem_cons hj, List.take_succ_cons] at e
  injection e with e _
  simp [e]
theorem strs_block {w : World} {base : Nat} {ok : Nat → Prop} {e : TypeId} {v : Value} {xs : List ByteArray} (h : Kd.R Kd.string e w base ok v xs) (hp : 0 < xs.length) :
    ∃ g cap cells rest, v = .slice (some ⟨g, 0, none⟩) xs.length cap ∧ base ≤ g ∧ w.heap[g]? = some (.cells cells e (0, 0)) ∧ cells.toList = xs.map Value.string ++ rest := by
  obtain ⟨_, inner, ho, hr⟩ := h
  obtain ⟨g, cap, cells, rest, h1, h2, h3, h4, _⟩ := row_block ho hp
  rw [reps_strings hr] at h4
  exact ⟨g, cap, cells, rest, h1, h2, h3, h4⟩
end Go.Proofs.YtgoeiflddikihaaGreatDoor.Mem
end
section
namespace Go.Proofs.YtgoeiflddikihaaGreatDoor.Mem
open Go.RowKit Go.Proofs.YtgoeiflddikihaaGreatDoorW.PrintWords
class RowC (P : Program) (ty : TypeId) (n : outParam Nat) : Prop where out : RowT P ty n
class OneC (P : Program) (ty : TypeId) : Prop where out : OneT P ty
class ZeroC (P : Program) (ty : TypeId) (zs : outParam (Array Value)) : Prop where out : (P.info? ty).bind (fun i => i.zero.map (·.cells)) = some zs
class Plain (v : Value) : Prop where out : v.oneCell' = true
instance (b : Bool) : Plain (.bool b) := ⟨rfl⟩
instance (k : IntKind) (n : Int) : Plain (.int k n) := ⟨rfl⟩
instance (s : ByteArray) : Plain (.string s) := ⟨rfl⟩
instance (x : Option Addr) (n m : Nat) : Plain (.slice x n m) := ⟨rfl⟩
instance (t : TypeId) (v : Value) : Plain (.iface t v) := ⟨rfl⟩
instance : Plain .nilIface := ⟨rfl⟩
instance (x : Option Addr) : Plain (.pointer x) := ⟨rfl⟩
section ops
variable {P : Program} {ops : Array Oper} {rest : List Oper} {a : Act} {w0 w : World} {Q : Exit → Act → World → Prop} {L L' : List Blk}
variable {d : Option Tmp} {tt : TypeId} {pos : String} {af : Array Edge}
theorem m_load {ty : TypeId} {x : Operand} {b off n : Nat} {cs vs : List Value} {t : TypeId} (H : Blks w0 w L)
    (hx : a.eval x = .pointer (some ⟨b, off, none⟩) := by rfl) (hm : (b, cs, t) ∈ L := by repeat (first | exact List.Mem.head _ | apply List.Mem.tail))
    [ht : RowC P ty n] (hr : Rd cs off n vs := by repeat (first | exact Rd.nil | apply Rd.here | apply Rd.skip)) (h : wpList P ops Q rest (a.put d (.agg vs.toArray)) w) :
    wpList P ops Q (⟨d, .load ty x, tt, pos, af, none⟩ :: rest) a w := bk_load (o := ⟨d, .load ty x, tt, pos, af, none⟩) rfl rfl hx H hm ht.out hr h
theorem m_load1 {ty : TypeId} {x : Operand} {b off : Nat} {cs : List Value} {v : Value} {t : TypeId} (H : Blks w0 w L)
    (hx : a.eval x = .pointer (some ⟨b, off, none⟩) := by rfl) (hm : (b, cs, t) ∈ L := by repeat (first | exact List.Mem.head _ | apply List.Mem.tail))
    [ht : OneC P ty] (hr : Rd cs off 1 [v] := by repeat (first | exact Rd.nil | apply Rd.here | apply Rd.skip)) (h : wpList P ops Q rest (a.put d v) w) :
    wpList P ops Q (⟨d, .load ty x, tt, pos, af, none⟩ :: rest) a w := bk_load1 (o := ⟨d, .load ty x, tt, pos, af, none⟩) rfl rfl hx H hm ht.out hr h
theorem m_store {ty : TypeId} {x y : Operand} {b off n : Nat} {vs : Array Value} {cs cs' : List Value} {t : TypeId} (H : Blks w0 w L)
    (hx : a.eval x = .pointer (some ⟨b, off, none⟩) := by rfl) (hy : a.eval y = .agg vs := by rfl) [ht : RowC P ty n] (hn : vs.size = n := by rfl) (h1 : vs.all (·.oneCell') = true := by simp [Value.oneCell'])
    (hm : (b, cs, t) ∈ L := by repeat (first | exact List.Mem.head _ | apply List.Mem.tail)) (hw : Wr cs off vs.toList cs' := by repeat (first | exact Wr.nil | apply Wr.here | apply Wr.skip))
    (hu : Up L b cs t cs' L' := by repeat (first | exact Up.here | apply Up.skip)) (h : ∀ w', Aside0 (Blks w0 w' L') → wpList P ops Q rest a w') :
    wpList P ops Q (⟨none, .store ty x y, tt, pos, af, none⟩ :: rest) a w :=
  bk_store (o := ⟨none, .store ty x y, tt, pos, af, none⟩) rfl rfl rfl hx hy H ht.out hn h1 hm hw hu fun w' h' => h w' ⟨h'⟩
theorem m_store1 {ty : TypeId} {x y : Operand} {b off : Nat} {v : Value} {cs cs' : List Value} {t : TypeId} (H : Blks w0 w L)
    (hx : a.eval x = .pointer (some ⟨b, off, none⟩) := by rfl) (hy : a.eval y = v) [ht : OneC P ty] [h1 : Plain v]
    (hm : (b, cs, t) ∈ L := by repeat (first | exact List.Mem.head _ | apply List.Mem.tail)) (hw : Wr cs off [v] cs' := by repeat (first | exact Wr.nil | apply Wr.here | apply Wr.skip))
    (hu : Up L b cs t cs' L' := by repeat (first | exact Up.here | apply Up.skip)) (h : ∀ w', Aside0 (Blks w0 w' L') → wpList P ops Q rest a w') :
    wpList P ops Q (⟨none, .store ty x y, tt, pos, af, none⟩ :: rest) a w :=
  bk_store1 (o := ⟨none, .store ty x y, tt, pos, af, none⟩) rfl rfl rfl hx hy H ht.out h1.out hm hw hu fun w' h' => h w' ⟨h'⟩
theorem m_alloc {ty : TypeId} {zs : Array Value} (H : Blks w0 w L) [hz : ZeroC P ty zs]
    (h : ∀ (b : Nat) (w' : World), Aside0 (Blks w0 w' ((b, zs.toList, ty) :: L)) → wpList P ops Q rest (a.put d (.pointer (some ⟨b, 0, none⟩))) w') :
    wpList P ops Q (⟨d, .alloc ty, tt, pos, af, none⟩ :: rest) a w := bk_alloc (o := ⟨d, .alloc ty, tt, pos, af, none⟩) rfl rfl H hz.out fun b w' h' => h b w' ⟨h'⟩
theorem m_build {t : TypeId} {parts : Array (Nat × Operand)} {cells : Array Value} (hf : P.built t (parts.map fun (i, x) => (i, a.eval x)).toList = some cells)
    (h : wpList P ops Q rest (a.put d (.agg cells)) w) : wpList P ops Q (⟨d, .build t parts, tt, pos, af, none⟩ :: rest) a w := bk_build (o := ⟨d, .build t parts, tt, pos, af, none⟩) rfl rfl hf h
end ops
def StrsAt (e : TypeId) (w : World) (base : Nat) (v : Value) (pp : List ByteArray) : Prop :=
  (v = .slice none 0 0 ∧ pp = []) ∨ ∃ g cap cells rest, v = .slice (some ⟨g, 0, none⟩) pp.length cap ∧ base ≤ g ∧ w.heap[g]? = some (.cells cells e (0, 0)) ∧ cells.toList = pp.map Value.string ++ rest
theorem StrsAt.below {e : TypeId} {w w' : World} {base : Nat} {v : Value} {pp : List ByteArray} (h : StrsAt e w base v pp) (hb : Below w.heap.size w w') : StrsAt e w' base v pp := by
  rcases h with h | ⟨g, cap, cells, rest, h1, h2, h3, h4⟩
  · exact Or.inl h
  · exact Or.inr ⟨g, cap, cells, rest, h1, h2, (hb.block g (hlt h3)).trans h3, h4⟩
theorem StrsAt.mono {e : TypeId} {w : World} {base base' : Nat} {v : Value} {pp : List ByteArray} (h : StrsAt e w base v pp) (hb : base' ≤ base) : StrsAt e w base' v pp := by
  rcases h with h | ⟨g, cap, cells, rest, h1, h2, h3, h4⟩
  · exact Or.inl h
  · exact Or.inr ⟨g, cap, cells, rest, h1, Nat.le_trans hb h2, h3, h4⟩
theorem StrsAt.val {e : TypeId} {w : World} {base : Nat} {v : Value} {pp : List ByteArray} (h : StrsAt e w base v pp) : ∃ A c, v = .slice A pp.length c := by
  rcases h with ⟨h, rfl⟩ | ⟨g, cap, _, _, h, _⟩
  · exact ⟨_, _, h⟩
  · exact ⟨_, _, h⟩
theorem Blks.strs {w0 w : World} {L : List Blk} (h : Blks w0 w L) {g cap : Nat} {pp : List ByteArray} {rest : List Value} {e : TypeId} (hm : (g, pp.map Value.string ++ rest, e) ∈ L) : StrsAt e w w0.heap.size (.slice (some ⟨g, 0, none⟩) pp.length cap) pp :=
  Or.inr ⟨g, cap, _, rest, rfl, h.new _ hm, h.has _ hm, rfl⟩
theorem Blks.perm {w0 w : World} {L L' : List Blk} (h : Blks w0 w L) (hp : L.Perm L') : Blks w0 w L' :=
  ⟨h.bel, fun x hx => h.has x (hp.symm.subset hx), fun x hx => h.new x (hp.symm.subset hx), (hp.map _).nodup_iff.1 h.nd⟩
theorem Blks.turn3 {w0 w : World} {x y z : Blk} {L : List Blk} (h : Blks w0 w (x :: y :: z :: L)) : Blks w0 w (y :: z :: x :: L) :=
  h.perm ((List.Perm.swap y x (z :: L)).trans ((List.Perm.swap z x L).cons y))
end Go.Proofs.YtgoeiflddikihaaGreatDoor.Mem
end
section
namespace Go.Proofs.YtgoeiflddikihaaGreatDoor.Ver
set_option linter.unusedSimpArgs false
set_option linter.unusedVariables false
open Go.RowKit Go.Proofs.YtgoeiflddikihaaGreatDoor.Dig Go.Proofs.YtgoeiflddikihaaGreatDoorW.PrintWords Go.Proofs.YtgoeiflddikihaaGreatDoor.Mem
abbrev zSem : Array Value := #[.int .u64 0, .int .u64 0, .int .u64 0, .int .i64 0, .slice none 0 0, .string ⟨#[]⟩]
instance : RowC Tryz.prog 50 6 := ⟨⟨_, Tryz.underlying50, rfl⟩, by kernel_rfl⟩
instance : OneC Tryz.prog 3 := ⟨⟨_, Tryz.underlying3, rfl⟩, by kernel_rfl⟩
instance : OneC Tryz.prog 46 := ⟨⟨_, Tryz.underlying46, rfl⟩, by kernel_rfl⟩
instance : OneC Tryz.prog 9 := ⟨⟨_, Tryz.underlying9, rfl⟩, by kernel_rfl⟩
instance : OneC Tryz.prog 48 := ⟨⟨_, Tryz.underlying48, rfl⟩, by kernel_rfl⟩
instance : ZeroC Tryz.prog 50 zSem := ⟨by kernel_rfl⟩
def SemAt (w : World) (base : Nat) (v : Value) (sv : SV) (cnt : Nat) : Prop :=
  ∃ P, v = .agg #[.int .u64 sv.major, .int .u64 sv.minor, .int .u64 sv.patch, .int .i64 cnt, P, .string sv.mt] ∧ StrsAt 9 w base P ((preParts sv.pre.data.toList).map mkB)
theorem SemAt.below {w w' : World} {base : Nat} {v : Value} {sv : SV} {cnt : Nat} (h : SemAt w base v sv cnt) (hb : Below w.heap.size w w') : SemAt w' base v sv cnt := by
  obtain ⟨P, h1, h2⟩ := h; exact ⟨P, h1, h2.below hb⟩
theorem SemAt.mono {w : World} {base base' : Nat} {v : Value} {sv : SV} {cnt : Nat} (h : SemAt w base v sv cnt) (hb : base' ≤ base) : SemAt w base' v sv cnt := by
  obtain ⟨P, h1, h2⟩ := h; exact ⟨P, h1, h2.mono hb⟩
theorem semOne {a b c d : Int} {P : Value} {m : ByteArray} (h : P.oneCell' = true) : (#[.int .u64 a, .int .u64 b, .int .u64 c, .int .i64 d, P, .string m] : Array Value).all (·.oneCell') = true := by
  simp only [List.all_toArray, List.all_cons, List.all_nil, h, Bool.and_true]; rfl
def RdNo (w : World) (e : Ending) (w' : World) : Prop := e = .returned (.tuple #[.agg zSem, .bool false]) ∧ Below w.heap.size w w'
def RdYes (n0 n1 n2 cnt : Int) (mt : ByteArray) (pp : List ByteArray) (w : World) (e : Ending) (w' : World) : Prop :=
  (∃ P, e = .returned (.tuple #[.agg #[.int .u64 n0, .int .u64 n1, .int .u64 n2, .int .i64 cnt, P, .string mt], .bool true]) ∧ StrsAt 9 w' w.heap.size P pp) ∧ Below w.heap.size w w'
def RdEnd (b : Bool) (n0 n1 n2 cnt : Int) (mt : ByteArray) (pp : List ByteArray) (w : World) (e : Ending) (w' : World) : Prop := match b with
  | false => RdNo w e w'
  | true => RdYes n0 n1 n2 cnt mt pp w e w'
def IdEnd (b : Bool) (pp : List ByteArray) (w : World) (e : Ending) (w' : World) : Prop := match b with
  | false => (∃ A n c, e = .returned (.tuple #[.slice A n c, .bool false])) ∧ Below w.heap.size w w'
  | true => ∃ g cap cells rest, e = .returned (.tuple #[.slice (some ⟨g, 0, none⟩) pp.length cap, .bool true]) ∧ w.heap.size ≤ g ∧ w'.heap[g]? = some (.cells cells 9 (0, 0)) ∧ cells.toList = pp.map Value.string ++ rest ∧ Below w.heap.size w w'
def IdW (b : Bool) (w : World) (e : Ending) (w' : World) : Prop := (∃ A n c, e = .returned (.tuple #[.slice A n c, .bool b])) ∧ Below w.heap.size w w'
theorem IdEnd.weak {b : Bool} {pp : List ByteArray} {w w' : World} {e : Ending} (h : IdEnd b pp w e w') : IdW b w e w' := by
  cases b
  · exact h
  · obtain ⟨g, cap, _, _, h1, _, _, _, h5⟩ := h; exact ⟨⟨_, _, _, h1⟩, h5⟩
def SpEnd (ps : List ByteArray) (w : World) (e : Ending) (w' : World) : Prop :=
  ∃ g cap cells rest, e = .returned (.slice (some ⟨g, 0, none⟩) ps.length cap) ∧ w.heap.size ≤ g ∧ w'.heap[g]? = some (.cells cells 9 (0, 0)) ∧ cells.toList = ps.map Value.string ++ rest ∧ Below w.heap.size w w'
def PreOk (pp : List ByteArray) (P : Value) (X : List Blk) : Prop := (P = .slice none 0 0 ∧ pp = [] ∧ X = []) ∨ ∃ g cap rest, P = .slice (some ⟨g, 0, none⟩) pp.length cap ∧ X = [(g, pp.map Value.string ++ rest, 9)]
theorem PreOk.one {pp : List ByteArray} {P : Value} {X : List Blk} (h : PreOk pp P X) : P.oneCell' = true := by
  rcases h with ⟨rfl, _, _⟩ | ⟨g, cap, rest, rfl, _⟩ <;> rfl
theorem PreOk.strs {pp : List ByteArray} {P : Value} {X Y : List Blk} {w0 w : World} (h : PreOk pp P X) (H : Blks w0 w (Y ++ X)) : StrsAt 9 w w0.heap.size P pp := by
  rcases h with ⟨rfl, rfl, rfl⟩ | ⟨g, cap, rest, rfl, rfl⟩
  · exact Or.inl ⟨rfl, rfl⟩
  · exact Blks.strs H (List.mem_append_right _ (List.mem_singleton.2 rfl))
set_option maxRecDepth 20000 in
set_option maxHeartbeats 8000000 in
theorem rs_meta (s s1 x1 mt : ByteArray) (hs1 : ∀ r : ByteArray, r.data.toList = bare0 s.data.toList → r = s1)
    (HC1' : ∀ W, Calls Tryz.prog 71 #[.string s1, .int .u8 43] W fun e w' => e = .returned (.tuple #[.string x1, .string mt, .bool true]) ∧ Drawn0 W w')
    (HI1' : ∀ W, Calls Tryz.prog 72 #[.string mt] W (IdW false W)) (w : World) :
    Calls Tryz.prog 34 #[.string s] w (RdNo w) := by
  have HC1 := Lib.hid HC1'
  clear HC1'
  have HI1 := Lib.hid HI1'
  clear HI1'
  have HM := Aside0.mk (Blks.start w)
  go_enter Tryz.func34, Tryz.ntmps34
  go_upto_region 1 with ((refine m_alloc (by repeat (first | exact HM.out | apply Blks.drewN | apply Blks.drew | apply Blks.other)) (h := ?_); intro br _ HN; clear HM; have HM := HN; clear HN))
  go_upto_region 2 with ((refine m_alloc (by repeat (first | exact HM.out | apply Blks.drewN | apply Blks.drew | apply Blks.other)) (h := ?_); intro bo _ HN; clear HM; have HM := HN; clear HN))
  go_simp
  go_cut [23] from 17 to 23 (fun v23 wx => v23 = .bool (begins s.data.toList 118) ∧ Aside0 (Blks w wx [(bo, zSem.toList, 50), (br, zSem.toList, 50)]))
  case first =>
    rcases Nat.eq_zero_or_pos s.size with h0 | h0
    · have hem := isEmpty_true h0
      have hbg := begins_nil (c := 118) h0
      go_wp2_with fail
      go_meet
      case rel => exact ⟨by rw [hbg], ⟨(by repeat (first | exact HM.out | apply Blks.drewN | apply Blks.drew | apply Blks.other))⟩⟩
    · have hem := isEmpty_false h0
      have hbg := begins_at (c := 118) h0
      rw [← cast_beq] at hbg
      have HBG := Lib.hid hbg
      clear hbg
      go_wp2_with fail
      go_meet
      case rel => exact ⟨by rw [HBG.out]; rfl, ⟨(by repeat (first | exact HM.out | apply Blks.drewN | apply Blks.drew | apply Blks.other))⟩⟩
  case rest =>
    clear HM
    obtain ⟨rfl, HM⟩ := hcut
    go_upto_if 23 with fail
    go_cut [0] from 23 to 25 (fun v0 wx => v0 = .string s1 ∧ Aside0 (Blks w wx [(bo, zSem.toList, 50), (br, zSem.toList, 50)]))
    case first =>
      cases hq : begins s.data.toList 118 with
      | false =>
        obtain rfl := hs1 s (bare0_of_not hq)
        go_wp2_with fail
        go_meet
        case rel => exact ⟨rfl, ⟨(by repeat (first | exact HM.out | apply Blks.drewN | apply Blks.drew | apply Blks.other))⟩⟩
      | true =>
        have h0 := begins_pos hq
        obtain rfl := hs1 _ (bare0_v h0 (begins_one hq h0))
        go_wp2_with fail
        go_meet
        case rel => exact ⟨rfl, ⟨(by repeat (first | exact HM.out | apply Blks.drewN | apply Blks.drew | apply Blks.other))⟩⟩
    case rest =>
    clear HM
    obtain ⟨rfl, HM⟩ := hcut
    go_wp2_with (first | (go_at_call 71; ((with_reducible refine (HC1.out _).mono ?_); rintro e wc ⟨rfl, ⟨nq, rfl⟩⟩; have HN := Aside0.mk (Blks.drewN (by repeat (first | exact HM.out | apply Blks.drewN | apply Blks.drew | apply Blks.other)) nq); clear HM; have HM := HN; clear HN)) | (go_at_call 72; ((with_reducible refine (HI1.out _).mono ?_); rintro e wi ⟨⟨A, n, c, rfl⟩, hb⟩; have HN := Aside0.mk (Blks.call (by repeat (first | exact HM.out | apply Blks.drewN | apply Blks.drew | apply Blks.other)) hb); clear HM hb; have HM := HN; clear HN)) | (refine m_build (by kernel_rfl) (h := ?_)) | (refine m_store (by repeat (first | exact HM.out | apply Blks.drewN | apply Blks.drew | apply Blks.other)) (h := ?_); intro _ HN; clear HM; have HM := HN; clear HN))
    have k0 := Blks.cell HM.out (b := br) (o := 0) (by repeat (first | exact List.Mem.head _ | apply List.Mem.tail)) (by repeat (first | exact Rd.nil | apply Rd.here | apply Rd.skip)); have k1 := Blks.cell HM.out (b := br) (o := 1) (by repeat (first | exact List.Mem.head _ | apply List.Mem.tail)) (by repeat (first | exact Rd.nil | apply Rd.here | apply Rd.skip)); have k2 := Blks.cell HM.out (b := br) (o := 2) (by repeat (first | exact List.Mem.head _ | apply List.Mem.tail)) (by repeat (first | exact Rd.nil | apply Rd.here | apply Rd.skip)); have k3 := Blks.cell HM.out (b := br) (o := 3) (by repeat (first | exact List.Mem.head _ | apply List.Mem.tail)) (by repeat (first | exact Rd.nil | apply Rd.here | apply Rd.skip)); have k4 := Blks.cell HM.out (b := br) (o := 4) (by repeat (first | exact List.Mem.head _ | apply List.Mem.tail)) (by repeat (first | exact Rd.nil | apply Rd.here | apply Rd.skip)); have k5 := Blks.cell HM.out (b := br) (o := 5) (by repeat (first | exact List.Mem.head _ | apply List.Mem.tail)) (by repeat (first | exact Rd.nil | apply Rd.here | apply Rd.skip)); refine bodyPost_ret (v := .tuple #[.agg zSem, .bool false]) (by simp [results, Tryz.results34, go_sem, *]) rfl ⟨rfl, HM.out.bel⟩
set_option maxRecDepth 20000 in
set_option maxHeartbeats 8000000 in
theorem rs_pre (s s1 x1 mt : ByteArray) (hs1 : ∀ r : ByteArray, r.data.toList = bare0 s.data.toList → r = s1) (x2 pre : ByteArray) (pp : List ByteArray) (has1 ok1 : Bool) (hg1 : (has1 && !ok1) = false)
    (HC1' : ∀ W, Calls Tryz.prog 71 #[.string s1, .int .u8 43] W fun e w' => e = .returned (.tuple #[.string x1, .string mt, .bool has1]) ∧ Drawn0 W w')
    (HI1' : ∀ W, Calls Tryz.prog 72 #[.string mt] W (IdW ok1 W))
    (HC2' : ∀ W, Calls Tryz.prog 71 #[.string x1, .int .u8 45] W fun e w' => e = .returned (.tuple #[.string x2, .string pre, .bool true]) ∧ Drawn0 W w')
    (HI2' : ∀ W, Calls Tryz.prog 72 #[.string pre] W (IdEnd false pp W)) (w : World) :
    Calls Tryz.prog 34 #[.string s] w (RdNo w) := by
  have HC1 := Lib.hid HC1'
  clear HC1'
  have HI1 := Lib.hid HI1'
  clear HI1'
  have HC2 := Lib.hid HC2'
  clear HC2'
  have HI2 := Lib.hid HI2'
  clear HI2'
  have HM := Aside0.mk (Blks.start w)
  go_enter Tryz.func34, Tryz.ntmps34
  go_upto_region 1 with ((refine m_alloc (by repeat (first | exact HM.out | apply Blks.drewN | apply Blks.drew | apply Blks.other)) (h := ?_); intro br _ HN; clear HM; have HM := HN; clear HN))
  go_upto_region 2 with ((refine m_alloc (by repeat (first | exact HM.out | apply Blks.drewN | apply Blks.drew | apply Blks.other)) (h := ?_); intro bo _ HN; clear HM; have HM := HN; clear HN))
  go_simp
  go_cut [23] from 17 to 23 (fun v23 wx => v23 = .bool (begins s.data.toList 118) ∧ Aside0 (Blks w wx [(bo, zSem.toList, 50), (br, zSem.toList, 50)]))
  case first =>
    rcases Nat.eq_zero_or_pos s.size with h0 | h0
    · have hem := isEmpty_true h0
      have hbg := begins_nil (c := 118) h0
      go_wp2_with fail
      go_meet
      case rel => exact ⟨by rw [hbg], ⟨(by repeat (first | exact HM.out | apply Blks.drewN | apply Blks.drew | apply Blks.other))⟩⟩
    · have hem := isEmpty_false h0
      have hbg := begins_at (c := 118) h0
      rw [← cast_beq] at hbg
      have HBG := Lib.hid hbg
      clear hbg
      go_wp2_with fail
      go_meet
      case rel => exact ⟨by rw [HBG.out]; rfl, ⟨(by repeat (first | exact HM.out | apply Blks.drewN | apply Blks.drew | apply Blks.other))⟩⟩
  case rest =>
    clear HM
    obtain ⟨rfl, HM⟩ := hcut
    go_upto_if 23 with fail
    go_cut [0] from 23 to 25 (fun v0 wx => v0 = .string s1 ∧ Aside0 (Blks w wx [(bo, zSem.toList, 50), (br, zSem.toList, 50)]))
    case first =>
      cases hq : begins s.data.toList 118 with
      | false =>
        obtain rfl := hs1 s (bare0_of_not hq)
        go_wp2_with fail
        go_meet
        case rel => exact ⟨rfl, ⟨(by repeat (first | exact HM.out | apply Blks.drewN | apply Blks.drew | apply Blks.other))⟩⟩
      | true =>
        have h0 := begins_pos hq
        obtain rfl := hs1 _ (bare0_v h0 (begins_one hq h0))
        go_wp2_with fail
        go_meet
        case rel => exact ⟨rfl, ⟨(by repeat (first | exact HM.out | apply Blks.drewN | apply Blks.drew | apply Blks.other))⟩⟩
    case rest =>
    clear HM
    obtain ⟨rfl, HM⟩ := hcut
    go_upto_region 6 with (first | (go_at_call 71; ((with_reducible refine (HC1.out _).mono ?_); rintro e wc ⟨rfl, ⟨nq, rfl⟩⟩; have HN := Aside0.mk (Blks.drewN (by repeat (first | exact HM.out | apply Blks.drewN | apply Blks.drew | apply Blks.other)) nq); clear HM; have HM := HN; clear HN)) | (go_at_call 72; ((with_reducible refine (HI1.out _).mono ?_); rintro e wi ⟨⟨A, n, c, rfl⟩, hb⟩; have HN := Aside0.mk (Blks.call (by repeat (first | exact HM.out | apply Blks.drewN | apply Blks.drew | apply Blks.other)) hb); clear HM hb; have HM := HN; clear HN)))
    go_cut [41] from 6 to 41 (fun v41 wx => v41 = .bool false ∧ Aside0 (Blks w wx [(bo, zSem.toList, 50), (br, zSem.toList, 50)]))
    case first =>
      cases has1
      · go_wp2_with fail
        go_meet
        case rel => exact ⟨rfl, ⟨(by repeat (first | exact HM.out | apply Blks.drewN | apply Blks.drew | apply Blks.other))⟩⟩
      · cases ok1
        · exact absurd hg1 (by decide)
        · go_wp2_with fail
          go_meet
          case rel => exact ⟨rfl, ⟨(by repeat (first | exact HM.out | apply Blks.drewN | apply Blks.drew | apply Blks.other))⟩⟩
    case rest =>
    clear HM
    obtain ⟨rfl, HM⟩ := hcut
    go_wp2_with (first | (go_at_call 71; ((with_reducible refine (HC2.out _).mono ?_); rintro e wc ⟨rfl, ⟨nq, rfl⟩⟩; have HN := Aside0.mk (Blks.drewN (by repeat (first | exact HM.out | apply Blks.drewN | apply Blks.drew | apply Blks.other)) nq); clear HM; have HM := HN; clear HN)) | (go_at_call 72; ((with_reducible refine (HI2.out _).mono ?_); rintro e wi ⟨⟨A, n, c, rfl⟩, hb⟩; have HN := Aside0.mk (Blks.call (by repeat (first | exact HM.out | apply Blks.drewN | apply Blks.drew | apply Blks.other)) hb); clear HM hb; have HM := HN; clear HN)) | (refine m_store1 (by repeat (first | exact HM.out | apply Blks.drewN | apply Blks.drew | apply Blks.other)) (hy := (by first | exact (rfl : _ = Value.bool _) | exact (rfl : _ = Value.int _ _) | exact (rfl : _ = Value.string _) | exact (rfl : _ = Value.slice _ _ _) | exact (rfl : _ = Value.iface _ _) | exact (rfl : _ = Value.nilIface) | exact (rfl : _ = Value.pointer _))) (h := ?_); intro _ HN; clear HM; have HM := HN; clear HN) | (refine m_build (by kernel_rfl) (h := ?_)) | (refine m_store (by repeat (first | exact HM.out | apply Blks.drewN | apply Blks.drew | apply Blks.other)) (h := ?_); intro _ HN; clear HM; have HM := HN; clear HN))
    have k0 := Blks.cell HM.out (b := br) (o := 0) (by repeat (first | exact List.Mem.head _ | apply List.Mem.tail)) (by repeat (first | exact Rd.nil | apply Rd.here | apply Rd.skip)); have k1 := Blks.cell HM.out (b := br) (o := 1) (by repeat (first | exact List.Mem.head _ | apply List.Mem.tail)) (by repeat (first | exact Rd.nil | apply Rd.here | apply Rd.skip)); have k2 := Blks.cell HM.out (b := br) (o := 2) (by repeat (first | exact List.Mem.head _ | apply List.Mem.tail)) (by repeat (first | exact Rd.nil | apply Rd.here | apply Rd.skip)); have k3 := Blks.cell HM.out (b := br) (o := 3) (by repeat (first | exact List.Mem.head _ | apply List.Mem.tail)) (by repeat (first | exact Rd.nil | apply Rd.here | apply Rd.skip)); have k4 := Blks.cell HM.out (b := br) (o := 4) (by repeat (first | exact List.Mem.head _ | apply List.Mem.tail)) (by repeat (first | exact Rd.nil | apply Rd.here | apply Rd.skip)); have k5 := Blks.cell HM.out (b := br) (o := 5) (by repeat (first | exact List.Mem.head _ | apply List.Mem.tail)) (by repeat (first | exact Rd.nil | apply Rd.here | apply Rd.skip)); refine bodyPost_ret (v := .tuple #[.agg zSem, .bool false]) (by simp [results, Tryz.results34, go_sem, *]) rfl ⟨rfl, HM.out.bel⟩
set_option maxRecDepth 20000 in
set_option maxHeartbeats 8000000 in
theorem rs_n4 (s s1 x1 mt : ByteArray) (hs1 : ∀ r : ByteArray, r.data.toList = bare0 s.data.toList → r = s1) (x2 pre : ByteArray) (pp : List ByteArray) (p q r t : ByteArray) (u : List ByteArray) (has1 ok1 has2 ok2 : Bool) (hg1 : (has1 && !ok1) = false) (hg2 : (has2 && !ok2) = false) (hpp : has2 = false → pp = [])
    (HC1' : ∀ W, Calls Tryz.prog 71 #[.string s1, .int .u8 43] W fun e w' => e = .returned (.tuple #[.string x1, .string mt, .bool has1]) ∧ Drawn0 W w')
    (HI1' : ∀ W, Calls Tryz.prog 72 #[.string mt] W (IdW ok1 W))
    (HC2' : ∀ W, Calls Tryz.prog 71 #[.string x1, .int .u8 45] W fun e w' => e = .returned (.tuple #[.string x2, .string pre, .bool has2]) ∧ Drawn0 W w')
    (HI2' : ∀ W, Calls Tryz.prog 72 #[.string pre] W (IdEnd ok2 pp W))
    (HS' : ∀ W, Calls Tryz.prog 73 #[.string x2, .int .u8 46] W (SpEnd (p :: q :: r :: t :: u) W)) (w : World) :
    Calls Tryz.prog 34 #[.string s] w (RdNo w) := by
  have HPP := Lib.hid hpp
  clear hpp
  have HC1 := Lib.hid HC1'
  clear HC1'
  have HI1 := Lib.hid HI1'
  clear HI1'
  have HC2 := Lib.hid HC2'
  clear HC2'
  have HI2 := Lib.hid HI2'
  clear HI2'
  have HS := Lib.hid HS'
  clear HS'
  have hgt : ¬ (u.length + 1 + 1 + 1 + 1 ≤ 3) := by omega
  have hgt2 : (3 : Int) < ((u.length + 1 + 1 + 1 + 1 : Nat) : Int) := by omega
  have hgt3 : (3 : Int) < (u.length : Int) + 1 + 1 + 1 + 1 := by omega
  have hgt4 : 3 < u.length + 1 + 1 + 1 + 1 := by omega
  have HM := Aside0.mk (Blks.start w)
  go_enter Tryz.func34, Tryz.ntmps34
  go_upto_region 1 with ((refine m_alloc (by repeat (first | exact HM.out | apply Blks.drewN | apply Blks.drew | apply Blks.other)) (h := ?_); intro br _ HN; clear HM; have HM := HN; clear HN))
  go_upto_region 2 with ((refine m_alloc (by repeat (first | exact HM.out | apply Blks.drewN | apply Blks.drew | apply Blks.other)) (h := ?_); intro bo _ HN; clear HM; have HM := HN; clear HN))
  go_simp
  go_cut [23] from 17 to 23 (fun v23 wx => v23 = .bool (begins s.data.toList 118) ∧ Aside0 (Blks w wx [(bo, zSem.toList, 50), (br, zSem.toList, 50)]))
  case first =>
    rcases Nat.eq_zero_or_pos s.size with h0 | h0
    · have hem := isEmpty_true h0
      have hbg := begins_nil (c := 118) h0
      go_wp2_with fail
      go_meet
      case rel => exact ⟨by rw [hbg], ⟨(by repeat (first | exact HM.out | apply Blks.drewN | apply Blks.drew | apply Blks.other))⟩⟩
    · have hem := isEmpty_false h0
      have hbg := begins_at (c := 118) h0
      rw [← cast_beq] at hbg
      have HBG := Lib.hid hbg
      clear hbg
      go_wp2_with fail
      go_meet
      case rel => exact ⟨by rw [HBG.out]; rfl, ⟨(by repeat (first | exact HM.out | apply Blks.drewN | apply Blks.drew | apply Blks.other))⟩⟩
  case rest =>
    clear HM
    obtain ⟨rfl, HM⟩ := hcut
    go_upto_if 23 with fail
    go_cut [0] from 23 to 25 (fun v0 wx => v0 = .string s1 ∧ Aside0 (Blks w wx [(bo, zSem.toList, 50), (br, zSem.toList, 50)]))
    case first =>
      cases hq : begins s.data.toList 118 with
      | false =>
        obtain rfl := hs1 s (bare0_of_not hq)
        go_wp2_with fail
        go_meet
        case rel => exact ⟨rfl, ⟨(by repeat (first | exact HM.out | apply Blks.drewN | apply Blks.drew | apply Blks.other))⟩⟩
      | true =>
        have h0 := begins_pos hq
        obtain rfl := hs1 _ (bare0_v h0 (begins_one hq h0))
        go_wp2_with fail
        go_meet
        case rel => exact ⟨rfl, ⟨(by repeat (first | exact HM.out | apply Blks.drewN | apply Blks.drew | apply Blks.other))⟩⟩
    case rest =>
    clear HM
    obtain ⟨rfl, HM⟩ := hcut
    go_upto_region 6 with (first | (go_at_call 71; ((with_reducible refine (HC1.out _).mono ?_); rintro e wc ⟨rfl, ⟨nq, rfl⟩⟩; have HN := Aside0.mk (Blks.drewN (by repeat (first | exact HM.out | apply Blks.drewN | apply Blks.drew | apply Blks.other)) nq); clear HM; have HM := HN; clear HN)) | (go_at_call 72; ((with_reducible refine (HI1.out _).mono ?_); rintro e wi ⟨⟨A, n, c, rfl⟩, hb⟩; have HN := Aside0.mk (Blks.call (by repeat (first | exact HM.out | apply Blks.drewN | apply Blks.drew | apply Blks.other)) hb); clear HM hb; have HM := HN; clear HN)))
    go_cut [41] from 6 to 41 (fun v41 wx => v41 = .bool false ∧ Aside0 (Blks w wx [(bo, zSem.toList, 50), (br, zSem.toList, 50)]))
    case first =>
      cases has1
      · go_wp2_with fail
        go_meet
        case rel => exact ⟨rfl, ⟨(by repeat (first | exact HM.out | apply Blks.drewN | apply Blks.drew | apply Blks.other))⟩⟩
      · cases ok1
        · exact absurd hg1 (by decide)
        · go_wp2_with fail
          go_meet
          case rel => exact ⟨rfl, ⟨(by repeat (first | exact HM.out | apply Blks.drewN | apply Blks.drew | apply Blks.other))⟩⟩
    case rest =>
    clear HM
    obtain ⟨rfl, HM⟩ := hcut
    go_upto_if 51 with (first | (refine m_store1 (by repeat (first | exact HM.out | apply Blks.drewN | apply Blks.drew | apply Blks.other)) (hy := (by first | exact (rfl : _ = Value.bool _) | exact (rfl : _ = Value.int _ _) | exact (rfl : _ = Value.string _) | exact (rfl : _ = Value.slice _ _ _) | exact (rfl : _ = Value.iface _ _) | exact (rfl : _ = Value.nilIface) | exact (rfl : _ = Value.pointer _))) (h := ?_); intro _ HN; clear HM; have HM := HN; clear HN) | (go_at_call 71; ((with_reducible refine (HC2.out _).mono ?_); rintro e wc ⟨rfl, ⟨nq, rfl⟩⟩; have HN := Aside0.mk (Blks.drewN (by repeat (first | exact HM.out | apply Blks.drewN | apply Blks.drew | apply Blks.other)) nq); clear HM; have HM := HN; clear HN)))
    go_cut [9] from 6 to 61 (fun v9 wx => v9 = .string pre ∧ ∃ P X, PreOk pp P X ∧ Aside0 (Blks w wx ((bo, [.int .u64 0, .int .u64 0, .int .u64 0, .int .i64 0, P, .string mt], 50) :: (br, zSem.toList, 50) :: X)))
    case first =>
      cases has2
      · go_wp2_with fail
        go_meet
        case rel => exact ⟨rfl, _, _, Or.inl ⟨rfl, HPP.out (by trivial), rfl⟩, ⟨(by repeat (first | exact HM.out | apply Blks.drewN | apply Blks.drew | apply Blks.other))⟩⟩
      · cases ok2
        · exact absurd hg2 (by decide)
        · go_wp2_with (first | (refine m_store1 (by repeat (first | exact HM.out | apply Blks.drewN | apply Blks.drew | apply Blks.other)) (hy := (by first | exact (rfl : _ = Value.bool _) | exact (rfl : _ = Value.int _ _) | exact (rfl : _ = Value.string _) | exact (rfl : _ = Value.slice _ _ _) | exact (rfl : _ = Value.iface _ _) | exact (rfl : _ = Value.nilIface) | exact (rfl : _ = Value.pointer _))) (h := ?_); intro _ HN; clear HM; have HM := HN; clear HN) | (go_at_call 72; ((with_reducible refine (HI2.out _).mono ?_); rintro e wi ⟨gp, capp, cellsp, restp, rfl, hg, hc, hl, hb⟩; have HN := Aside0.mk (Blks.add (by repeat (first | exact HM.out | apply Blks.drewN | apply Blks.drew | apply Blks.other)) hb hg hc hl); clear HM hb hg hc hl; have HM := HN; clear HN)))
          go_meet
          case rel => exact ⟨rfl, _, _, Or.inr ⟨_, _, _, rfl, rfl⟩, ⟨(Blks.turn3 (by repeat (first | exact HM.out | apply Blks.drewN | apply Blks.drew | apply Blks.other)))⟩⟩
    case rest =>
    clear HM
    obtain ⟨rfl, P, X, HP, HM⟩ := hcut
    go_wp2_with (first | (go_at_call 73; ((with_reducible refine (HS.out _).mono ?_); rintro e ws ⟨gs, caps, cellss, rests, rfl, hg, hc, hl, hb⟩; simp only [List.map, List.cons_append, List.nil_append] at hl; have HN := Aside0.mk (Blks.add (by repeat (first | exact HM.out | apply Blks.drewN | apply Blks.drew | apply Blks.other)) hb hg hc hl); clear HM hb hg hc hl; have HM := HN; clear HN)) | (refine m_build (by kernel_rfl) (h := ?_)) | (refine m_store (by repeat (first | exact HM.out | apply Blks.drewN | apply Blks.drew | apply Blks.other)) (h := ?_); intro _ HN; clear HM; have HM := HN; clear HN))
    have k0 := Blks.cell HM.out (b := br) (o := 0) (by repeat (first | exact List.Mem.head _ | apply List.Mem.tail)) (by repeat (first | exact Rd.nil | apply Rd.here | apply Rd.skip)); have k1 := Blks.cell HM.out (b := br) (o := 1) (by repeat (first | exact List.Mem.head _ | apply List.Mem.tail)) (by repeat (first | exact Rd.nil | apply Rd.here | apply Rd.skip)); have k2 := Blks.cell HM.out (b := br) (o := 2) (by repeat (first | exact List.Mem.head _ | apply List.Mem.tail)) (by repeat (first | exact Rd.nil | apply Rd.here | apply Rd.skip)); have k3 := Blks.cell HM.out (b := br) (o := 3) (by repeat (first | exact List.Mem.head _ | apply List.Mem.tail)) (by repeat (first | exact Rd.nil | apply Rd.here | apply Rd.skip)); have k4 := Blks.cell HM.out (b := br) (o := 4) (by repeat (first | exact List.Mem.head _ | apply List.Mem.tail)) (by repeat (first | exact Rd.nil | apply Rd.here | apply Rd.skip)); have k5 := Blks.cell HM.out (b := br) (o := 5) (by repeat (first | exact List.Mem.head _ | apply List.Mem.tail)) (by repeat (first | exact Rd.nil | apply Rd.here | apply Rd.skip)); refine bodyPost_ret (v := .tuple #[.agg zSem, .bool false]) (by simp [results, Tryz.results34, go_sem, *]) rfl ⟨rfl, HM.out.bel⟩
set_option maxRecDepth 20000 in
set_option maxHeartbeats 8000000 in
theorem rs_n1 (s s1 x1 mt : ByteArray) (hs1 : ∀ r : ByteArray, r.data.toList = bare0 s.data.toList → r = s1) (x2 pre : ByteArray) (pp : List ByteArray) (p : ByteArray) (has1 ok1 has2 ok2 : Bool) (hg1 : (has1 && !ok1) = false) (hg2 : (has2 && !ok2) = false) (hpp : has2 = false → pp = [])
    (HC1' : ∀ W, Calls Tryz.prog 71 #[.string s1, .int .u8 43] W fun e w' => e = .returned (.tuple #[.string x1, .string mt, .bool has1]) ∧ Drawn0 W w')
    (HI1' : ∀ W, Calls Tryz.prog 72 #[.string mt] W (IdW ok1 W))
    (HC2' : ∀ W, Calls Tryz.prog 71 #[.string x1, .int .u8 45] W fun e w' => e = .returned (.tuple #[.string x2, .string pre, .bool has2]) ∧ Drawn0 W w')
    (HI2' : ∀ W, Calls Tryz.prog 72 #[.string pre] W (IdEnd ok2 pp W))
    (HS' : ∀ W, Calls Tryz.prog 73 #[.string x2, .int .u8 46] W (SpEnd [p] W)) (n0 : Int) (b0 : Bool) (HN0' : ∀ W, Calls Tryz.prog 74 #[.string p] W fun e w' => e = .returned (.tuple #[.int .u64 n0, .bool b0]) ∧ Drawn0 W w') (w : World) :
    Calls Tryz.prog 34 #[.string s] w (RdEnd (b0) n0 0 0 1 mt pp w) := by
  have HPP := Lib.hid hpp
  clear hpp
  have HC1 := Lib.hid HC1'
  clear HC1'
  have HI1 := Lib.hid HI1'
  clear HI1'
  have HC2 := Lib.hid HC2'
  clear HC2'
  have HI2 := Lib.hid HI2'
  clear HI2'
  have HS := Lib.hid HS'
  clear HS'
  have HN0 := Lib.hid HN0'
  clear HN0'
  have HM := Aside0.mk (Blks.start w)
  go_enter Tryz.func34, Tryz.ntmps34
  go_upto_region 1 with ((refine m_alloc (by repeat (first | exact HM.out | apply Blks.drewN | apply Blks.drew | apply Blks.other)) (h := ?_); intro br _ HN; clear HM; have HM := HN; clear HN))
  go_upto_region 2 with ((refine m_alloc (by repeat (first | exact HM.out | apply Blks.drewN | apply Blks.drew | apply Blks.other)) (h := ?_); intro bo _ HN; clear HM; have HM := HN; clear HN))
  go_simp
  go_cut [23] from 17 to 23 (fun v23 wx => v23 = .bool (begins s.data.toList 118) ∧ Aside0 (Blks w wx [(bo, zSem.toList, 50), (br, zSem.toList, 50)]))
  case first =>
    rcases Nat.eq_zero_or_pos s.size with h0 | h0
    · have hem := isEmpty_true h0
      have hbg := begins_nil (c := 118) h0
      go_wp2_with fail
      go_meet
      case rel => exact ⟨by rw [hbg], ⟨(by repeat (first | exact HM.out | apply Blks.drewN | apply Blks.drew | apply Blks.other))⟩⟩
    · have hem := isEmpty_false h0
      have hbg := begins_at (c := 118) h0
      rw [← cast_beq] at hbg
      have HBG := Lib.hid hbg
      clear hbg
      go_wp2_with fail
      go_meet
      case rel => exact ⟨by rw [HBG.out]; rfl, ⟨(by repeat (first | exact HM.out | apply Blks.drewN | apply Blks.drew | apply Blks.other))⟩⟩
  case rest =>
    clear HM
    obtain ⟨rfl, HM⟩ := hcut
    go_upto_if 23 with fail
    go_cut [0] from 23 to 25 (fun v0 wx => v0 = .string s1 ∧ Aside0 (Blks w wx [(bo, zSem.toList, 50), (br, zSem.toList, 50)]))
    case first =>
      cases hq : begins s.data.toList 118 with
      | false =>
        obtain rfl := hs1 s (bare0_of_not hq)
        go_wp2_with fail
        go_meet
        case rel => exact ⟨rfl, ⟨(by repeat (first | exact HM.out | apply Blks.drewN | apply Blks.drew | apply Blks.other))⟩⟩
      | true =>
        have h0 := begins_pos hq
        obtain rfl := hs1 _ (bare0_v h0 (begins_one hq h0))
        go_wp2_with fail
        go_meet
        case rel => exact ⟨rfl, ⟨(by repeat (first | exact HM.out | apply Blks.drewN | apply Blks.drew | apply Blks.other))⟩⟩
    case rest =>
    clear HM
    obtain ⟨rfl, HM⟩ := hcut
    go_upto_region 6 with (first | (go_at_call 71; ((with_reducible refine (HC1.out _).mono ?_); rintro e wc ⟨rfl, ⟨nq, rfl⟩⟩; have HN := Aside0.mk (Blks.drewN (by repeat (first | exact HM.out | apply Blks.drewN | apply Blks.drew | apply Blks.other)) nq); clear HM; have HM := HN; clear HN)) | (go_at_call 72; ((with_reducible refine (HI1.out _).mono ?_); rintro e wi ⟨⟨A, n, c, rfl⟩, hb⟩; have HN := Aside0.mk (Blks.call (by repeat (first | exact HM.out | apply Blks.drewN | apply Blks.drew | apply Blks.other)) hb); clear HM hb; have HM := HN; clear HN)))
    go_cut [41] from 6 to 41 (fun v41 wx => v41 = .bool false ∧ Aside0 (Blks w wx [(bo, zSem.toList, 50), (br, zSem.toList, 50)]))
    case first =>
      cases has1
      · go_wp2_with fail
        go_meet
        case rel => exact ⟨rfl, ⟨(by repeat (first | exact HM.out | apply Blks.drewN | apply Blks.drew | apply Blks.other))⟩⟩
      · cases ok1
        · exact absurd hg1 (by decide)
        · go_wp2_with fail
          go_meet
          case rel => exact ⟨rfl, ⟨(by repeat (first | exact HM.out | apply Blks.drewN | apply Blks.drew | apply Blks.other))⟩⟩
    case rest =>
    clear HM
    obtain ⟨rfl, HM⟩ := hcut
    go_upto_if 51 with (first | (refine m_store1 (by repeat (first | exact HM.out | apply Blks.drewN | apply Blks.drew | apply Blks.other)) (hy := (by first | exact (rfl : _ = Value.bool _) | exact (rfl : _ = Value.int _ _) | exact (rfl : _ = Value.string _) | exact (rfl : _ = Value.slice _ _ _) | exact (rfl : _ = Value.iface _ _) | exact (rfl : _ = Value.nilIface) | exact (rfl : _ = Value.pointer _))) (h := ?_); intro _ HN; clear HM; have HM := HN; clear HN) | (go_at_call 71; ((with_reducible refine (HC2.out _).mono ?_); rintro e wc ⟨rfl, ⟨nq, rfl⟩⟩; have HN := Aside0.mk (Blks.drewN (by repeat (first | exact HM.out | apply Blks.drewN | apply Blks.drew | apply Blks.other)) nq); clear HM; have HM := HN; clear HN)))
    go_cut [9] from 6 to 61 (fun v9 wx => v9 = .string pre ∧ ∃ P X, PreOk pp P X ∧ Aside0 (Blks w wx ((bo, [.int .u64 0, .int .u64 0, .int .u64 0, .int .i64 0, P, .string mt], 50) :: (br, zSem.toList, 50) :: X)))
    case first =>
      cases has2
      · go_wp2_with fail
        go_meet
        case rel => exact ⟨rfl, _, _, Or.inl ⟨rfl, HPP.out (by trivial), rfl⟩, ⟨(by repeat (first | exact HM.out | apply Blks.drewN | apply Blks.drew | apply Blks.other))⟩⟩
      · cases ok2
        · exact absurd hg2 (by decide)
        · go_wp2_with (first | (refine m_store1 (by repeat (first | exact HM.out | apply Blks.drewN | apply Blks.drew | apply Blks.other)) (hy := (by first | exact (rfl : _ = Value.bool _) | exact (rfl : _ = Value.int _ _) | exact (rfl : _ = Value.string _) | exact (rfl : _ = Value.slice _ _ _) | exact (rfl : _ = Value.iface _ _) | exact (rfl : _ = Value.nilIface) | exact (rfl : _ = Value.pointer _))) (h := ?_); intro _ HN; clear HM; have HM := HN; clear HN) | (go_at_call 72; ((with_reducible refine (HI2.out _).mono ?_); rintro e wi ⟨gp, capp, cellsp, restp, rfl, hg, hc, hl, hb⟩; have HN := Aside0.mk (Blks.add (by repeat (first | exact HM.out | apply Blks.drewN | apply Blks.drew | apply Blks.other)) hb hg hc hl); clear HM hb hg hc hl; have HM := HN; clear HN)))
          go_meet
          case rel => exact ⟨rfl, _, _, Or.inr ⟨_, _, _, rfl, rfl⟩, ⟨(Blks.turn3 (by repeat (first | exact HM.out | apply Blks.drewN | apply Blks.drew | apply Blks.other)))⟩⟩
    case rest =>
    clear HM
    obtain ⟨rfl, P, X, HP, HM⟩ := hcut
    go_wp2_with (go_at_call 73; ((with_reducible refine (HS.out _).mono ?_); rintro e ws ⟨gs, caps, cellss, rests, rfl, hg, hc, hl, hb⟩; simp only [List.map, List.cons_append, List.nil_append] at hl; have HN := Aside0.mk (Blks.add (by repeat (first | exact HM.out | apply Blks.drewN | apply Blks.drew | apply Blks.other)) hb hg hc hl); clear HM hb hg hc hl; have HM := HN; clear HN))
    refine wp_loop_rounds 2 ?_
    rw [rounds_succ]
    go_upto_if 81 with (first | (refine m_load1 (by repeat (first | exact HM.out | apply Blks.drewN | apply Blks.drew | apply Blks.other)) (h := ?_)) | (go_at_call 74; ((with_reducible refine (HN0.out _).mono ?_); rintro e wn ⟨rfl, ⟨nq, rfl⟩⟩; have HN := Aside0.mk (Blks.drewN (by repeat (first | exact HM.out | apply Blks.drewN | apply Blks.drew | apply Blks.other)) nq); clear HM; have HM := HN; clear HN)))
    cases b0
    · go_wp2_with (first | (refine m_build (by kernel_rfl) (h := ?_)) | (refine m_store (by repeat (first | exact HM.out | apply Blks.drewN | apply Blks.drew | apply Blks.other)) (h := ?_); intro _ HN; clear HM; have HM := HN; clear HN))
      (try simp only [Exit.inBlock, Exit.then])
      have k0 := Blks.cell HM.out (b := br) (o := 0) (by repeat (first | exact List.Mem.head _ | apply List.Mem.tail)) (by repeat (first | exact Rd.nil | apply Rd.here | apply Rd.skip)); have k1 := Blks.cell HM.out (b := br) (o := 1) (by repeat (first | exact List.Mem.head _ | apply List.Mem.tail)) (by repeat (first | exact Rd.nil | apply Rd.here | apply Rd.skip)); have k2 := Blks.cell HM.out (b := br) (o := 2) (by repeat (first | exact List.Mem.head _ | apply List.Mem.tail)) (by repeat (first | exact Rd.nil | apply Rd.here | apply Rd.skip)); have k3 := Blks.cell HM.out (b := br) (o := 3) (by repeat (first | exact List.Mem.head _ | apply List.Mem.tail)) (by repeat (first | exact Rd.nil | apply Rd.here | apply Rd.skip)); have k4 := Blks.cell HM.out (b := br) (o := 4) (by repeat (first | exact List.Mem.head _ | apply List.Mem.tail)) (by repeat (first | exact Rd.nil | apply Rd.here | apply Rd.skip)); have k5 := Blks.cell HM.out (b := br) (o := 5) (by repeat (first | exact List.Mem.head _ | apply List.Mem.tail)) (by repeat (first | exact Rd.nil | apply Rd.here | apply Rd.skip)); refine bodyPost_ret (v := .tuple #[.agg zSem, .bool false]) (by simp [results, Tryz.results34, go_sem, *]) rfl ⟨rfl, HM.out.bel⟩
    go_wp2_with (refine m_store1 (by repeat (first | exact HM.out | apply Blks.drewN | apply Blks.drew | apply Blks.other)) (hy := (by first | exact (rfl : _ = Value.bool _) | exact (rfl : _ = Value.int _ _) | exact (rfl : _ = Value.string _) | exact (rfl : _ = Value.slice _ _ _) | exact (rfl : _ = Value.iface _ _) | exact (rfl : _ = Value.nilIface) | exact (rfl : _ = Value.pointer _))) (h := ?_); intro _ HN; clear HM; have HM := HN; clear HN)
    rw [rounds_succ]
    have HO := Lib.hid HP.one
    go_wp2_with (first | (refine m_store1 (by repeat (first | exact HM.out | apply Blks.drewN | apply Blks.drew | apply Blks.other)) (hy := (by first | exact (rfl : _ = Value.bool _) | exact (rfl : _ = Value.int _ _) | exact (rfl : _ = Value.string _) | exact (rfl : _ = Value.slice _ _ _) | exact (rfl : _ = Value.iface _ _) | exact (rfl : _ = Value.nilIface) | exact (rfl : _ = Value.pointer _))) (h := ?_); intro _ HN; clear HM; have HM := HN; clear HN) | (refine m_load (by repeat (first | exact HM.out | apply Blks.drewN | apply Blks.drew | apply Blks.other)) (h := ?_)) | (refine m_store (by repeat (first | exact HM.out | apply Blks.drewN | apply Blks.drew | apply Blks.other)) (h1 := semOne HO.out) (h := ?_); intro _ HN; clear HM; have HM := HN; clear HN))
    have k0 := Blks.cell HM.out (b := br) (o := 0) (by repeat (first | exact List.Mem.head _ | apply List.Mem.tail)) (by repeat (first | exact Rd.nil | apply Rd.here | apply Rd.skip)); have k1 := Blks.cell HM.out (b := br) (o := 1) (by repeat (first | exact List.Mem.head _ | apply List.Mem.tail)) (by repeat (first | exact Rd.nil | apply Rd.here | apply Rd.skip)); have k2 := Blks.cell HM.out (b := br) (o := 2) (by repeat (first | exact List.Mem.head _ | apply List.Mem.tail)) (by repeat (first | exact Rd.nil | apply Rd.here | apply Rd.skip)); have k3 := Blks.cell HM.out (b := br) (o := 3) (by repeat (first | exact List.Mem.head _ | apply List.Mem.tail)) (by repeat (first | exact Rd.nil | apply Rd.here | apply Rd.skip)); have k4 := Blks.cell HM.out (b := br) (o := 4) (by repeat (first | exact List.Mem.head _ | apply List.Mem.tail)) (by repeat (first | exact Rd.nil | apply Rd.here | apply Rd.skip)); have k5 := Blks.cell HM.out (b := br) (o := 5) (by repeat (first | exact List.Mem.head _ | apply List.Mem.tail)) (by repeat (first | exact Rd.nil | apply Rd.here | apply Rd.skip)); refine bodyPost_ret (v := .tuple #[.agg #[.int .u64 n0, .int .u64 0, .int .u64 0, .int .i64 1, P, .string mt], .bool true]) (by simp [results, Tryz.results34, go_sem, *]) rfl ⟨⟨P, rfl, HP.strs (Y := [_, _, _]) HM.out⟩, HM.out.bel⟩
set_option maxRecDepth 20000 in
set_option maxHeartbeats 8000000 in
theorem rs_n2 (s s1 x1 mt : ByteArray) (hs1 : ∀ r : ByteArray, r.data.toList = bare0 s.data.toList → r = s1) (x2 pre : ByteArray) (pp : List ByteArray) (p q : ByteArray) (has1 ok1 has2 ok2 : Bool) (hg1 : (has1 && !ok1) = false) (hg2 : (has2 && !ok2) = false) (hpp : has2 = false → pp = [])
    (HC1' : ∀ W, Calls Tryz.prog 71 #[.string s1, .int .u8 43] W fun e w' => e = .returned (.tuple #[.string x1, .string mt, .bool has1]) ∧ Drawn0 W w')
    (HI1' : ∀ W, Calls Tryz.prog 72 #[.string mt] W (IdW ok1 W))
    (HC2' : ∀ W, Calls Tryz.prog 71 #[.string x1, .int .u8 45] W fun e w' => e = .returned (.tuple #[.string x2, .string pre, .bool has2]) ∧ Drawn0 W w')
    (HI2' : ∀ W, Calls Tryz.prog 72 #[.string pre] W (IdEnd ok2 pp W))
    (HS' : ∀ W, Calls Tryz.prog 73 #[.string x2, .int .u8 46] W (SpEnd [p, q] W)) (n0 : Int) (b0 : Bool) (HN0' : ∀ W, Calls Tryz.prog 74 #[.string p] W fun e w' => e = .returned (.tuple #[.int .u64 n0, .bool b0]) ∧ Drawn0 W w') (n1 : Int) (b1 : Bool) (HN1' : ∀ W, Calls Tryz.prog 74 #[.string q] W fun e w' => e = .returned (.tuple #[.int .u64 n1, .bool b1]) ∧ Drawn0 W w') (w : World) :
    Calls Tryz.prog 34 #[.string s] w (RdEnd (b0 && b1) n0 n1 0 2 mt pp w) := by
  have HPP := Lib.hid hpp
  clear hpp
  have HC1 := Lib.hid HC1'
  clear HC1'
  have HI1 := Lib.hid HI1'
  clear HI1'
  have HC2 := Lib.hid HC2'
  clear HC2'
  have HI2 := Lib.hid HI2'
  clear HI2'
  have HS := Lib.hid HS'
  clear HS'
  have HN0 := Lib.hid HN0'
  clear HN0'
  have HN1 := Lib.hid HN1'
  clear HN1'
  have HM := Aside0.mk (Blks.start w)
  go_enter Tryz.func34, Tryz.ntmps34
  go_upto_region 1 with ((refine m_alloc (by repeat (first | exact HM.out | apply Blks.drewN | apply Blks.drew | apply Blks.other)) (h := ?_); intro br _ HN; clear HM; have HM := HN; clear HN))
  go_upto_region 2 with ((refine m_alloc (by repeat (first | exact HM.out | apply Blks.drewN | apply Blks.drew | apply Blks.other)) (h := ?_); intro bo _ HN; clear HM; have HM := HN; clear HN))
  go_simp
  go_cut [23] from 17 to 23 (fun v23 wx => v23 = .bool (begins s.data.toList 118) ∧ Aside0 (Blks w wx [(bo, zSem.toList, 50), (br, zSem.toList, 50)]))
  case first =>
    rcases Nat.eq_zero_or_pos s.size with h0 | h0
    · have hem := isEmpty_true h0
      have hbg := begins_nil (c := 118) h0
      go_wp2_with fail
      go_meet
      case rel => exact ⟨by rw [hbg], ⟨(by repeat (first | exact HM.out | apply Blks.drewN | apply Blks.drew | apply Blks.other))⟩⟩
    · have hem := isEmpty_false h0
      have hbg := begins_at (c := 118) h0
      rw [← cast_beq] at hbg
      have HBG := Lib.hid hbg
      clear hbg
      go_wp2_with fail
      go_meet
      case rel => exact ⟨by rw [HBG.out]; rfl, ⟨(by repeat (first | exact HM.out | apply Blks.drewN | apply Blks.drew | apply Blks.other))⟩⟩
  case rest =>
    clear HM
    obtain ⟨rfl, HM⟩ := hcut
    go_upto_if 23 with fail
    go_cut [0] from 23 to 25 (fun v0 wx => v0 = .string s1 ∧ Aside0 (Blks w wx [(bo, zSem.toList, 50), (br, zSem.toList, 50)]))
    case first =>
      cases hq : begins s.data.toList 118 with
      | false =>
        obtain rfl := hs1 s (bare0_of_not hq)
        go_wp2_with fail
        go_meet
        case rel => exact ⟨rfl, ⟨(by repeat (first | exact HM.out | apply Blks.drewN | apply Blks.drew | apply Blks.other))⟩⟩
      | true =>
        have h0 := begins_pos hq
        obtain rfl := hs1 _ (bare0_v h0 (begins_one hq h0))
        go_wp2_with fail
        go_meet
        case rel => exact ⟨rfl, ⟨(by repeat (first | exact HM.out | apply Blks.drewN | apply Blks.drew | apply Blks.other))⟩⟩
    case rest =>
    clear HM
    obtain ⟨rfl, HM⟩ := hcut
    go_upto_region 6 with (first | (go_at_call 71; ((with_reducible refine (HC1.out _).mono ?_); rintro e wc ⟨rfl, ⟨nq, rfl⟩⟩; have HN := Aside0.mk (Blks.drewN (by repeat (first | exact HM.out | apply Blks.drewN | apply Blks.drew | apply Blks.other)) nq); clear HM; have HM := HN; clear HN)) | (go_at_call 72; ((with_reducible refine (HI1.out _).mono ?_); rintro e wi ⟨⟨A, n, c, rfl⟩, hb⟩; have HN := Aside0.mk (Blks.call (by repeat (first | exact HM.out | apply Blks.drewN | apply Blks.drew | apply Blks.other)) hb); clear HM hb; have HM := HN; clear HN)))
    go_cut [41] from 6 to 41 (fun v41 wx => v41 = .bool false ∧ Aside0 (Blks w wx [(bo, zSem.toList, 50), (br, zSem.toList, 50)]))
    case first =>
      cases has1
      · go_wp2_with fail
        go_meet
        case rel => exact ⟨rfl, ⟨(by repeat (first | exact HM.out | apply Blks.drewN | apply Blks.drew | apply Blks.other))⟩⟩
      · cases ok1
        · exact absurd hg1 (by decide)
        · go_wp2_with fail
          go_meet
          case rel => exact ⟨rfl, ⟨(by repeat (first | exact HM.out | apply Blks.drewN | apply Blks.drew | apply Blks.other))⟩⟩
    case rest =>
    clear HM
    obtain ⟨rfl, HM⟩ := hcut
    go_upto_if 51 with (first | (refine m_store1 (by repeat (first | exact HM.out | apply Blks.drewN | apply Blks.drew | apply Blks.other)) (hy := (by first | exact (rfl : _ = Value.bool _) | exact (rfl : _ = Value.int _ _) | exact (rfl : _ = Value.string _) | exact (rfl : _ = Value.slice _ _ _) | exact (rfl : _ = Value.iface _ _) | exact (rfl : _ = Value.nilIface) | exact (rfl : _ = Value.pointer _))) (h := ?_); intro _ HN; clear HM; have HM := HN; clear HN) | (go_at_call 71; ((with_reducible refine (HC2.out _).mono ?_); rintro e wc ⟨rfl, ⟨nq, rfl⟩⟩; have HN := Aside0.mk (Blks.drewN (by repeat (first | exact HM.out | apply Blks.drewN | apply Blks.drew | apply Blks.other)) nq); clear HM; have HM := HN; clear HN)))
    go_cut [9] from 6 to 61 (fun v9 wx => v9 = .string pre ∧ ∃ P X, PreOk pp P X ∧ Aside0 (Blks w wx ((bo, [.int .u64 0, .int .u64 0, .int .u64 0, .int .i64 0, P, .string mt], 50) :: (br, zSem.toList, 50) :: X)))
    case first =>
      cases has2
      · go_wp2_with fail
        go_meet
        case rel => exact ⟨rfl, _, _, Or.inl ⟨rfl, HPP.out (by trivial), rfl⟩, ⟨(by repeat (first | exact HM.out | apply Blks.drewN | apply Blks.drew | apply Blks.other))⟩⟩
      · cases ok2
        · exact absurd hg2 (by decide)
        · go_wp2_with (first | (refine m_store1 (by repeat (first | exact HM.out | apply Blks.drewN | apply Blks.drew | apply Blks.other)) (hy := (by first | exact (rfl : _ = Value.bool _) | exact (rfl : _ = Value.int _ _) | exact (rfl : _ = Value.string _) | exact (rfl : _ = Value.slice _ _ _) | exact (rfl : _ = Value.iface _ _) | exact (rfl : _ = Value.nilIface) | exact (rfl : _ = Value.pointer _))) (h := ?_); intro _ HN; clear HM; have HM := HN; clear HN) | (go_at_call 72; ((with_reducible refine (HI2.out _).mono ?_); rintro e wi ⟨gp, capp, cellsp, restp, rfl, hg, hc, hl, hb⟩; have HN := Aside0.mk (Blks.add (by repeat (first | exact HM.out | apply Blks.drewN | apply Blks.drew | apply Blks.other)) hb hg hc hl); clear HM hb hg hc hl; have HM := HN; clear HN)))
          go_meet
          case rel => exact ⟨rfl, _, _, Or.inr ⟨_, _, _, rfl, rfl⟩, ⟨(Blks.turn3 (by repeat (first | exact HM.out | apply Blks.drewN | apply Blks.drew | apply Blks.other)))⟩⟩
    case rest =>
    clear HM
    obtain ⟨rfl, P, X, HP, HM⟩ := hcut
    go_wp2_with (go_at_call 73; ((with_reducible refine (HS.out _).mono ?_); rintro e ws ⟨gs, caps, cellss, rests, rfl, hg, hc, hl, hb⟩; simp only [List.map, List.cons_append, List.nil_append] at hl; have HN := Aside0.mk (Blks.add (by repeat (first | exact HM.out | apply Blks.drewN | apply Blks.drew | apply Blks.other)) hb hg hc hl); clear HM hb hg hc hl; have HM := HN; clear HN))
    refine wp_loop_rounds 3 ?_
    rw [rounds_succ]
    go_upto_if 81 with (first | (refine m_load1 (by repeat (first | exact HM.out | apply Blks.drewN | apply Blks.drew | apply Blks.other)) (h := ?_)) | (go_at_call 74; ((with_reducible refine (HN0.out _).mono ?_); rintro e wn ⟨rfl, ⟨nq, rfl⟩⟩; have HN := Aside0.mk (Blks.drewN (by repeat (first | exact HM.out | apply Blks.drewN | apply Blks.drew | apply Blks.other)) nq); clear HM; have HM := HN; clear HN)))
    cases b0
    · go_wp2_with (first | (refine m_build (by kernel_rfl) (h := ?_)) | (refine m_store (by repeat (first | exact HM.out | apply Blks.drewN | apply Blks.drew | apply Blks.other)) (h := ?_); intro _ HN; clear HM; have HM := HN; clear HN))
      (try simp only [Exit.inBlock, Exit.then])
      have k0 := Blks.cell HM.out (b := br) (o := 0) (by repeat (first | exact List.Mem.head _ | apply List.Mem.tail)) (by repeat (first | exact Rd.nil | apply Rd.here | apply Rd.skip)); have k1 := Blks.cell HM.out (b := br) (o := 1) (by repeat (first | exact List.Mem.head _ | apply List.Mem.tail)) (by repeat (first | exact Rd.nil | apply Rd.here | apply Rd.skip)); have k2 := Blks.cell HM.out (b := br) (o := 2) (by repeat (first | exact List.Mem.head _ | apply List.Mem.tail)) (by repeat (first | exact Rd.nil | apply Rd.here | apply Rd.skip)); have k3 := Blks.cell HM.out (b := br) (o := 3) (by repeat (first | exact List.Mem.head _ | apply List.Mem.tail)) (by repeat (first | exact Rd.nil | apply Rd.here | apply Rd.skip)); have k4 := Blks.cell HM.out (b := br) (o := 4) (by repeat (first | exact List.Mem.head _ | apply List.Mem.tail)) (by repeat (first | exact Rd.nil | apply Rd.here | apply Rd.skip)); have k5 := Blks.cell HM.out (b := br) (o := 5) (by repeat (first | exact List.Mem.head _ | apply List.Mem.tail)) (by repeat (first | exact Rd.nil | apply Rd.here | apply Rd.skip)); refine bodyPost_ret (v := .tuple #[.agg zSem, .bool false]) (by simp [results, Tryz.results34, go_sem, *]) rfl ⟨rfl, HM.out.bel⟩
    go_wp2_with (refine m_store1 (by repeat (first | exact HM.out | apply Blks.drewN | apply Blks.drew | apply Blks.other)) (hy := (by first | exact (rfl : _ = Value.bool _) | exact (rfl : _ = Value.int _ _) | exact (rfl : _ = Value.string _) | exact (rfl : _ = Value.slice _ _ _) | exact (rfl : _ = Value.iface _ _) | exact (rfl : _ = Value.nilIface) | exact (rfl : _ = Value.pointer _))) (h := ?_); intro _ HN; clear HM; have HM := HN; clear HN)
    rw [rounds_succ]
    go_upto_if 81 with (first | (refine m_load1 (by repeat (first | exact HM.out | apply Blks.drewN | apply Blks.drew | apply Blks.other)) (h := ?_)) | (go_at_call 74; ((with_reducible refine (HN1.out _).mono ?_); rintro e wn ⟨rfl, ⟨nq, rfl⟩⟩; have HN := Aside0.mk (Blks.drewN (by repeat (first | exact HM.out | apply Blks.drewN | apply Blks.drew | apply Blks.other)) nq); clear HM; have HM := HN; clear HN)))
    cases b1
    · go_wp2_with (first | (refine m_build (by kernel_rfl) (h := ?_)) | (refine m_store (by repeat (first | exact HM.out | apply Blks.drewN | apply Blks.drew | apply Blks.other)) (h := ?_); intro _ HN; clear HM; have HM := HN; clear HN))
      (try simp only [Exit.inBlock, Exit.then])
      have k0 := Blks.cell HM.out (b := br) (o := 0) (by repeat (first | exact List.Mem.head _ | apply List.Mem.tail)) (by repeat (first | exact Rd.nil | apply Rd.here | apply Rd.skip)); have k1 := Blks.cell HM.out (b := br) (o := 1) (by repeat (first | exact List.Mem.head _ | apply List.Mem.tail)) (by repeat (first | exact Rd.nil | apply Rd.here | apply Rd.skip)); have k2 := Blks.cell HM.out (b := br) (o := 2) (by repeat (first | exact List.Mem.head _ | apply List.Mem.tail)) (by repeat (first | exact Rd.nil | apply Rd.here | apply Rd.skip)); have k3 := Blks.cell HM.out (b := br) (o := 3) (by repeat (first | exact List.Mem.head _ | apply List.Mem.tail)) (by repeat (first | exact Rd.nil | apply Rd.here | apply Rd.skip)); have k4 := Blks.cell HM.out (b := br) (o := 4) (by repeat (first | exact List.Mem.head _ | apply List.Mem.tail)) (by repeat (first | exact Rd.nil | apply Rd.here | apply Rd.skip)); have k5 := Blks.cell HM.out (b := br) (o := 5) (by repeat (first | exact List.Mem.head _ | apply List.Mem.tail)) (by repeat (first | exact Rd.nil | apply Rd.here | apply Rd.skip)); refine bodyPost_ret (v := .tuple #[.agg zSem, .bool false]) (by simp [results, Tryz.results34, go_sem, *]) rfl ⟨rfl, HM.out.bel⟩
    go_wp2_with (refine m_store1 (by repeat (first | exact HM.out | apply Blks.drewN | apply Blks.drew | apply Blks.other)) (hy := (by first | exact (rfl : _ = Value.bool _) | exact (rfl : _ = Value.int _ _) | exact (rfl : _ = Value.string _) | exact (rfl : _ = Value.slice _ _ _) | exact (rfl : _ = Value.iface _ _) | exact (rfl : _ = Value.nilIface) | exact (rfl : _ = Value.pointer _))) (h := ?_); intro _ HN; clear HM; have HM := HN; clear HN)
    rw [rounds_succ]
    have HO := Lib.hid HP.one
    go_wp2_with (first | (refine m_store1 (by repeat (first | exact HM.out | apply Blks.drewN | apply Blks.drew | apply Blks.other)) (hy := (by first | exact (rfl : _ = Value.bool _) | exact (rfl : _ = Value.int _ _) | exact (rfl : _ = Value.string _) | exact (rfl : _ = Value.slice _ _ _) | exact (rfl : _ = Value.iface _ _) | exact (rfl : _ = Value.nilIface) | exact (rfl : _ = Value.pointer _))) (h := ?_); intro _ HN; clear HM; have HM := HN; clear HN) | (refine m_load (by repeat (first | exact HM.out | apply Blks.drewN | apply Blks.drew | apply Blks.other)) (h := ?_)) | (refine m_store (by repeat (first | exact HM.out | apply Blks.drewN | apply Blks.drew | apply Blks.other)) (h1 := semOne HO.out) (h := ?_); intro _ HN; clear HM; have HM := HN; clear HN))
    have k0 := Blks.cell HM.out (b := br) (o := 0) (by repeat (first | exact List.Mem.head _ | apply List.Mem.tail)) (by repeat (first | exact Rd.nil | apply Rd.here | apply Rd.skip)); have k1 := Blks.cell HM.out (b := br) (o := 1) (by repeat (first | exact List.Mem.head _ | apply List.Mem.tail)) (by repeat (first | exact Rd.nil | apply Rd.here | apply Rd.skip)); have k2 := Blks.cell HM.out (b := br) (o := 2) (by repeat (first | exact List.Mem.head _ | apply List.Mem.tail)) (by repeat (first | exact Rd.nil | apply Rd.here | apply Rd.skip)); have k3 := Blks.cell HM.out (b := br) (o := 3) (by repeat (first | exact List.Mem.head _ | apply List.Mem.tail)) (by repeat (first | exact Rd.nil | apply Rd.here | apply Rd.skip)); have k4 := Blks.cell HM.out (b := br) (o := 4) (by repeat (first | exact List.Mem.head _ | apply List.Mem.tail)) (by repeat (first | exact Rd.nil | apply Rd.here | apply Rd.skip)); have k5 := Blks.cell HM.out (b := br) (o := 5) (by repeat (first | exact List.Mem.head _ | apply List.Mem.tail)) (by repeat (first | exact Rd.nil | apply Rd.here | apply Rd.skip)); refine bodyPost_ret (v := .tuple #[.agg #[.int .u64 n0, .int .u64 n1, .int .u64 0, .int .i64 2, P, .string mt], .bool true]) (by simp [results, Tryz.results34, go_sem, *]) rfl ⟨⟨P, rfl, HP.strs (Y := [_, _, _]) HM.out⟩, HM.out.bel⟩
set_option maxRecDepth 20000 in
set_option maxHeartbeats 8000000 in
theorem rs_n3 (s s1 x1 mt : ByteArray) (hs1 : ∀ r : ByteArray, r.data.toList = bare0 s.data.toList → r = s1) (x2 pre : ByteArray) (pp : List ByteArray) (p q r : ByteArray) (has1 ok1 has2 ok2 : Bool) (hg1 : (has1 && !ok1) = false) (hg2 : (has2 && !ok2) = false) (hpp : has2 = false → pp = [])
    (HC1' : ∀ W, Calls Tryz.prog 71 #[.string s1, .int .u8 43] W fun e w' => e = .returned (.tuple #[.string x1, .string mt, .bool has1]) ∧ Drawn0 W w')
    (HI1' : ∀ W, Calls Tryz.prog 72 #[.string mt] W (IdW ok1 W))
    (HC2' : ∀ W, Calls Tryz.prog 71 #[.string x1, .int .u8 45] W fun e w' => e = .returned (.tuple #[.string x2, .string pre, .bool has2]) ∧ Drawn0 W w')
    (HI2' : ∀ W, Calls Tryz.prog 72 #[.string pre] W (IdEnd ok2 pp W))
    (HS' : ∀ W, Calls Tryz.prog 73 #[.string x2, .int .u8 46] W (SpEnd [p, q, r] W)) (n0 : Int) (b0 : Bool) (HN0' : ∀ W, Calls Tryz.prog 74 #[.string p] W fun e w' => e = .returned (.tuple #[.int .u64 n0, .bool b0]) ∧ Drawn0 W w') (n1 : Int) (b1 : Bool) (HN1' : ∀ W, Calls Tryz.prog 74 #[.string q] W fun e w' => e = .returned (.tuple #[.int .u64 n1, .bool b1]) ∧ Drawn0 W w') (n2 : Int) (b2 : Bool) (HN2' : ∀ W, Calls Tryz.prog 74 #[.string r] W fun e w' => e = .returned (.tuple #[.int .u64 n2, .bool b2]) ∧ Drawn0 W w') (w : World) :
    Calls Tryz.prog 34 #[.string s] w (RdEnd (b0 && b1 && b2) n0 n1 n2 3 mt pp w) := by
  have HPP := Lib.hid hpp
  clear hpp
  have HC1 := Lib.hid HC1'
  clear HC1'
  have HI1 := Lib.hid HI1'
  clear HI1'
  have HC2 := Lib.hid HC2'
  clear HC2'
  have HI2 := Lib.hid HI2'
  clear HI2'
  have HS := Lib.hid HS'
  clear HS'
  have HN0 := Lib.hid HN0'
  clear HN0'
  have HN1 := Lib.hid HN1'
  clear HN1'
  have HN2 := Lib.hid HN2'
  clear HN2'
  have HM := Aside0.mk (Blks.start w)
  go_enter Tryz.func34, Tryz.ntmps34
  go_upto_region 1 with ((refine m_alloc (by repeat (first | exact HM.out | apply Blks.drewN | apply Blks.drew | apply Blks.other)) (h := ?_); intro br _ HN; clear HM; have HM := HN; clear HN))
  go_upto_region 2 with ((refine m_alloc (by repeat (first | exact HM.out | apply Blks.drewN | apply Blks.drew | apply Blks.other)) (h := ?_); intro bo _ HN; clear HM; have HM := HN; clear HN))
  go_simp
  go_cut [23] from 17 to 23 (fun v23 wx => v23 = .bool (begins s.data.toList 118) ∧ Aside0 (Blks w wx [(bo, zSem.toList, 50), (br, zSem.toList, 50)]))
  case first =>
    rcases Nat.eq_zero_or_pos s.size with h0 | h0
    · have hem := isEmpty_true h0
      have hbg := begins_nil (c := 118) h0
      go_wp2_with fail
      go_meet
      case rel => exact ⟨by rw [hbg], ⟨(by repeat (first | exact HM.out | apply Blks.drewN | apply Blks.drew | apply Blks.other))⟩⟩
    · have hem := isEmpty_false h0
      have hbg := begins_at (c := 118) h0
      rw [← cast_beq] at hbg
      have HBG := Lib.hid hbg
      clear hbg
      go_wp2_with fail
      go_meet
      case rel => exact ⟨by rw [HBG.out]; rfl, ⟨(by repeat (first | exact HM.out | apply Blks.drewN | apply Blks.drew | apply Blks.other))⟩⟩
  case rest =>
    clear HM
    obtain ⟨rfl, HM⟩ := hcut
    go_upto_if 23 with fail
    go_cut [0] from 23 to 25 (fun v0 wx => v0 = .string s1 ∧ Aside0 (Blks w wx [(bo, zSem.toList, 50), (br, zSem.toList, 50)]))
    case first =>
      cases hq : begins s.data.toList 118 with
      | false =>
        obtain rfl := hs1 s (bare0_of_not hq)
        go_wp2_with fail
        go_meet
        case rel => exact ⟨rfl, ⟨(by repeat (first | exact HM.out | apply Blks.drewN | apply Blks.drew | apply Blks.other))⟩⟩
      | true =>
        have h0 := begins_pos hq
        obtain rfl := hs1 _ (bare0_v h0 (begins_one hq h0))
        go_wp2_with fail
        go_meet
        case rel => exact ⟨rfl, ⟨(by repeat (first | exact HM.out | apply Blks.drewN | apply Blks.drew | apply Blks.other))⟩⟩
    case rest =>
    clear HM
    obtain ⟨rfl, HM⟩ := hcut
    go_upto_region 6 with (first | (go_at_call 71; ((with_reducible refine (HC1.out _).mono ?_); rintro e wc ⟨rfl, ⟨nq, rfl⟩⟩; have HN := Aside0.mk (Blks.drewN (by repeat (first | exact HM.out | apply Blks.drewN | apply Blks.drew | apply Blks.other)) nq); clear HM; have HM := HN; clear HN)) | (go_at_call 72; ((with_reducible refine (HI1.out _).mono ?_); rintro e wi ⟨⟨A, n, c, rfl⟩, hb⟩; have HN := Aside0.mk (Blks.call (by repeat (first | exact HM.out | apply Blks.drewN | apply Blks.drew | apply Blks.other)) hb); clear HM hb; have HM := HN; clear HN)))
    go_cut [41] from 6 to 41 (fun v41 wx => v41 = .bool false ∧ Aside0 (Blks w wx [(bo, zSem.toList, 50), (br, zSem.toList, 50)]))
    case first =>
      cases has1
      · go_wp2_with fail
        go_meet
        case rel => exact ⟨rfl, ⟨(by repeat (first | exact HM.out | apply Blks.drewN | apply Blks.drew | apply Blks.other))⟩⟩
      · cases ok1
        · exact absurd hg1 (by decide)
        · go_wp2_with fail
          go_meet
          case rel => exact ⟨rfl, ⟨(by repeat (first | exact HM.out | apply Blks.drewN | apply Blks.drew | apply Blks.other))⟩⟩
    case rest =>
    clear HM
    obtain ⟨rfl, HM⟩ := hcut
    go_upto_if 51 with (first | (refine m_store1 (by repeat (first | exact HM.out | apply Blks.drewN | apply Blks.drew | apply Blks.other)) (hy := (by first | exact (rfl : _ = Value.bool _) | exact (rfl : _ = Value.int _ _) | exact (rfl : _ = Value.string _) | exact (rfl : _ = Value.slice _ _ _) | exact (rfl : _ = Value.iface _ _) | exact (rfl : _ = Value.nilIface) | exact (rfl : _ = Value.pointer _))) (h := ?_); intro _ HN; clear HM; have HM := HN; clear HN) | (go_at_call 71; ((with_reducible refine (HC2.out _).mono ?_); rintro e wc ⟨rfl, ⟨nq, rfl⟩⟩; have HN := Aside0.mk (Blks.drewN (by repeat (first | exact HM.out | apply Blks.drewN | apply Blks.drew | apply Blks.other)) nq); clear HM; have HM := HN; clear HN)))
    go_cut [9] from 6 to 61 (fun v9 wx => v9 = .string pre ∧ ∃ P X, PreOk pp P X ∧ Aside0 (Blks w wx ((bo, [.int .u64 0, .int .u64 0, .int .u64 0, .int .i64 0, P, .string mt], 50) :: (br, zSem.toList, 50) :: X)))
    case first =>
      cases has2
      · go_wp2_with fail
        go_meet
        case rel => exact ⟨rfl, _, _, Or.inl ⟨rfl, HPP.out (by trivial), rfl⟩, ⟨(by repeat (first | exact HM.out | apply Blks.drewN | apply Blks.drew | apply Blks.other))⟩⟩
      · cases ok2
        · exact absurd hg2 (by decide)
        · go_wp2_with (first | (refine m_store1 (by repeat (first | exact HM.out | apply Blks.drewN | apply Blks.drew | apply Blks.other)) (hy := (by first | exact (rfl : _ = Value.bool _) | exact (rfl : _ = Value.int _ _) | exact (rfl : _ = Value.string _) | exact (rfl : _ = Value.slice _ _ _) | exact (rfl : _ = Value.iface _ _) | exact (rfl : _ = Value.nilIface) | exact (rfl : _ = Value.pointer _))) (h := ?_); intro _ HN; clear HM; have HM := HN; clear HN) | (go_at_call 72; ((with_reducible refine (HI2.out _).mono ?_); rintro e wi ⟨gp, capp, cellsp, restp, rfl, hg, hc, hl, hb⟩; have HN := Aside0.mk (Blks.add (by repeat (first | exact HM.out | apply Blks.drewN | apply Blks.drew | apply Blks.other)) hb hg hc hl); clear HM hb hg hc hl; have HM := HN; clear HN)))
          go_meet
          case rel => exact ⟨rfl, _, _, Or.inr ⟨_, _, _, rfl, rfl⟩, ⟨(Blks.turn3 (by repeat (first | exact HM.out | apply Blks.drewN | apply Blks.drew | apply Blks.other)))⟩⟩
    case rest =>
    clear HM
    obtain ⟨rfl, P, X, HP, HM⟩ := hcut
    go_wp2_with (go_at_call 73; ((with_reducible refine (HS.out _).mono ?_); rintro e ws ⟨gs, caps, cellss, rests, rfl, hg, hc, hl, hb⟩; simp only [List.map, List.cons_append, List.nil_append] at hl; have HN := Aside0.mk (Blks.add (by repeat (first | exact HM.out | apply Blks.drewN | apply Blks.drew | apply Blks.other)) hb hg hc hl); clear HM hb hg hc hl; have HM := HN; clear HN))
    refine wp_loop_rounds 4 ?_
    rw [rounds_succ]
    go_upto_if 81 with (first | (refine m_load1 (by repeat (first | exact HM.out | apply Blks.drewN | apply Blks.drew | apply Blks.other)) (h := ?_)) | (go_at_call 74; ((with_reducible refine (HN0.out _).mono ?_); rintro e wn ⟨rfl, ⟨nq, rfl⟩⟩; have HN := Aside0.mk (Blks.drewN (by repeat (first | exact HM.out | apply Blks.drewN | apply Blks.drew | apply Blks.other)) nq); clear HM; have HM := HN; clear HN)))
    cases b0
    · go_wp2_with (first | (refine m_build (by kernel_rfl) (h := ?_)) | (refine m_store (by repeat (first | exact HM.out | apply Blks.drewN | apply Blks.drew | apply Blks.other)) (h := ?_); intro _ HN; clear HM; have HM := HN; clear HN))
      (try simp only [Exit.inBlock, Exit.then])
      have k0 := Blks.cell HM.out (b := br) (o := 0) (by repeat (first | exact List.Mem.head _ | apply List.Mem.tail)) (by repeat (first | exact Rd.nil | apply Rd.here | apply Rd.skip)); have k1 := Blks.cell HM.out (b := br) (o := 1) (by repeat (first | exact List.Mem.head _ | apply List.Mem.tail)) (by repeat (first | exact Rd.nil | apply Rd.here | apply Rd.skip)); have k2 := Blks.cell HM.out (b := br) (o := 2) (by repeat (first | exact List.Mem.head _ | apply List.Mem.tail)) (by repeat (first | exact Rd.nil | apply Rd.here | apply Rd.skip)); have k3 := Blks.cell HM.out (b := br) (o := 3) (by repeat (first | exact List.Mem.head _ | apply List.Mem.tail)) (by repeat (first | exact Rd.nil | apply Rd.here | apply Rd.skip)); have k4 := Blks.cell HM.out (b := br) (o := 4) (by repeat (first | exact List.Mem.head _ | apply List.Mem.tail)) (by repeat (first | exact Rd.nil | apply Rd.here | apply Rd.skip)); have k5 := Blks.cell HM.out (b := br) (o := 5) (by repeat (first | exact List.Mem.head _ | apply List.Mem.tail)) (by repeat (first | exact Rd.nil | apply Rd.here | apply Rd.skip)); refine bodyPost_ret (v := .tuple #[.agg zSem, .bool false]) (by simp [results, Tryz.results34, go_sem, *]) rfl ⟨rfl, HM.out.bel⟩
    go_wp2_with (refine m_store1 (by repeat (first | exact HM.out | apply Blks.drewN | apply Blks.drew | apply Blks.other)) (hy := (by first | exact (rfl : _ = Value.bool _) | exact (rfl : _ = Value.int _ _) | exact (rfl : _ = Value.string _) | exact (rfl : _ = Value.slice _ _ _) | exact (rfl : _ = Value.iface _ _) | exact (rfl : _ = Value.nilIface) | exact (rfl : _ = Value.pointer _))) (h := ?_); intro _ HN; clear HM; have HM := HN; clear HN)
    rw [rounds_succ]
    go_upto_if 81 with (first | (refine m_load1 (by repeat (first | exact HM.out | apply Blks.drewN | apply Blks.drew | apply Blks.other)) (h := ?_)) | (go_at_call 74; ((with_reducible refine (HN1.out _).mono ?_); rintro e wn ⟨rfl, ⟨nq, rfl⟩⟩; have HN := Aside0.mk (Blks.drewN (by repeat (first | exact HM.out | apply Blks.drewN | apply Blks.drew | apply Blks.other)) nq); clear HM; have HM := HN; clear HN)))
    cases b1
    · go_wp2_with (first | (refine m_build (by kernel_rfl) (h := ?_)) | (refine m_store (by repeat (first | exact HM.out | apply Blks.drewN | apply Blks.drew | apply Blks.other)) (h := ?_); intro _ HN; clear HM; have HM := HN; clear HN))
      (try simp only [Exit.inBlock, Exit.then])
      have k0 := Blks.cell HM.out (b := br) (o := 0) (by repeat (first | exact List.Mem.head _ | apply List.Mem.tail)) (by repeat (first | exact Rd.nil | apply Rd.here | apply Rd.skip)); have k1 := Blks.cell HM.out (b := br) (o := 1) (by repeat (first | exact List.Mem.head _ | apply List.Mem.tail)) (by repeat (first | exact Rd.nil | apply Rd.here | apply Rd.skip)); have k2 := Blks.cell HM.out (b := br) (o := 2) (by repeat (first | exact List.Mem.head _ | apply List.Mem.tail)) (by repeat (first | exact Rd.nil | apply Rd.here | apply Rd.skip)); have k3 := Blks.cell HM.out (b := br) (o := 3) (by repeat (first | exact List.Mem.head _ | apply List.Mem.tail)) (by repeat (first | exact Rd.nil | apply Rd.here | apply Rd.skip)); have k4 := Blks.cell HM.out (b := br) (o := 4) (by repeat (first | exact List.Mem.head _ | apply List.Mem.tail)) (by repeat (first | exact Rd.nil | apply Rd.here | apply Rd.skip)); have k5 := Blks.cell HM.out (b := br) (o := 5) (by repeat (first | exact List.Mem.head _ | apply List.Mem.tail)) (by repeat (first | exact Rd.nil | apply Rd.here | apply Rd.skip)); refine bodyPost_ret (v := .tuple #[.agg zSem, .bool false]) (by simp [results, Tryz.results34, go_sem, *]) rfl ⟨rfl, HM.out.bel⟩
    go_wp2_with (refine m_store1 (by repeat (first | exact HM.out | apply Blks.drewN | apply Blks.drew | apply Blks.other)) (hy := (by first | exact (rfl : _ = Value.bool _) | exact (rfl : _ = Value.int _ _) | exact (rfl : _ = Value.string _) | exact (rfl : _ = Value.slice _ _ _) | exact (rfl : _ = Value.iface _ _) | exact (rfl : _ = Value.nilIface) | exact (rfl : _ = Value.pointer _))) (h := ?_); intro _ HN; clear HM; have HM := HN; clear HN)
    rw [rounds_succ]
    go_upto_if 81 with (first | (refine m_load1 (by repeat (first | exact HM.out | apply Blks.drewN | apply Blks.drew | apply Blks.other)) (h := ?_)) | (go_at_call 74; ((with_reducible refine (HN2.out _).mono ?_); rintro e wn ⟨rfl, ⟨nq, rfl⟩⟩; have HN := Aside0.mk (Blks.drewN (by repeat (first | exact HM.out | apply Blks.drewN | apply Blks.drew | apply Blks.other)) nq); clear HM; have HM := HN; clear HN)))
    cases b2
    · go_wp2_with (first | (refine m_build (by kernel_rfl) (h := ?_)) | (refine m_store (by repeat (first | exact HM.out | apply Blks.drewN | apply Blks.drew | apply Blks.other)) (h := ?_); intro _ HN; clear HM; have HM := HN; clear HN))
      (try simp only [Exit.inBlock, Exit.then])
      have k0 := Blks.cell HM.out (b := br) (o := 0) (by repeat (first | exact List.Mem.head _ | apply List.Mem.tail)) (by repeat (first | exact Rd.nil | apply Rd.here | apply Rd.skip)); have k1 := Blks.cell HM.out (b := br) (o := 1) (by repeat (first | exact List.Mem.head _ | apply List.Mem.tail)) (by repeat (first | exact Rd.nil | apply Rd.here | apply Rd.skip)); have k2 := Blks.cell HM.out (b := br) (o := 2) (by repeat (first | exact List.Mem.head _ | apply List.Mem.tail)) (by repeat (first | exact Rd.nil | apply Rd.here | apply Rd.skip)); have k3 := Blks.cell HM.out (b := br) (o := 3) (by repeat (first | exact List.Mem.head _ | apply List.Mem.tail)) (by repeat (first | exact Rd.nil | apply Rd.here | apply Rd.skip)); have k4 := Blks.cell HM.out (b := br) (o := 4) (by repeat (first | exact List.Mem.head _ | apply List.Mem.tail)) (by repeat (first | exact Rd.nil | apply Rd.here | apply Rd.skip)); have k5 := Blks.cell HM.out (b := br) (o := 5) (by repeat (first | exact List.Mem.head _ | apply List.Mem.tail)) (by repeat (first | exact Rd.nil | apply Rd.here | apply Rd.skip)); refine bodyPost_ret (v := .tuple #[.agg zSem, .bool false]) (by simp [results, Tryz.results34, go_sem, *]) rfl ⟨rfl, HM.out.bel⟩
    go_wp2_with (refine m_store1 (by repeat (first | exact HM.out | apply Blks.drewN | apply Blks.drew | apply Blks.other)) (hy := (by first | exact (rfl : _ = Value.bool _) | exact (rfl : _ = Value.int _ _) | exact (rfl : _ = Value.string _) | exact (rfl : _ = Value.slice _ _ _) | exact (rfl : _ = Value.iface _ _) | exact (rfl : _ = Value.nilIface) | exact (rfl : _ = Value.pointer _))) (h := ?_); intro _ HN; clear HM; have HM := HN; clear HN)
    rw [rounds_succ]
    have HO := Lib.hid HP.one
    go_wp2_with (first | (refine m_store1 (by repeat (first | exact HM.out | apply Blks.drewN | apply Blks.drew | apply Blks.other)) (hy := (by first | exact (rfl : _ = Value.bool _) | exact (rfl : _ = Value.int _ _) | exact (rfl : _ = Value.string _) | exact (rfl : _ = Value.slice _ _ _) | exact (rfl : _ = Value.iface _ _) | exact (rfl : _ = Value.nilIface) | exact (rfl : _ = Value.pointer _))) (h := ?_); intro _ HN; clear HM; have HM := HN; clear HN) | (refine m_load (by repeat (first | exact HM.out | apply Blks.drewN | apply Blks.drew | apply Blks.other)) (h := ?_)) | (refine m_store (by repeat (first | exact HM.out | apply Blks.drewN | apply Blks.drew | apply Blks.other)) (h1 := semOne HO.out) (h := ?_); intro _ HN; clear HM; have HM := HN; clear HN))
    have k0 := Blks.cell HM.out (b := br) (o := 0) (by repeat (first | exact List.Mem.head _ | apply List.Mem.tail)) (by repeat (first | exact Rd.nil | apply Rd.here | apply Rd.skip)); have k1 := Blks.cell HM.out (b := br) (o := 1) (by repeat (first | exact List.Mem.head _ | apply List.Mem.tail)) (by repeat (first | exact Rd.nil | apply Rd.here | apply Rd.skip)); have k2 := Blks.cell HM.out (b := br) (o := 2) (by repeat (first | exact List.Mem.head _ | apply List.Mem.tail)) (by repeat (first | exact Rd.nil | apply Rd.here | apply Rd.skip)); have k3 := Blks.cell HM.out (b := br) (o := 3) (by repeat (first | exact List.Mem.head _ | apply List.Mem.tail)) (by repeat (first | exact Rd.nil | apply Rd.here | apply Rd.skip)); have k4 := Blks.cell HM.out (b := br) (o := 4) (by repeat (first | exact List.Mem.head _ | apply List.Mem.tail)) (by repeat (first | exact Rd.nil | apply Rd.here | apply Rd.skip)); have k5 := Blks.cell HM.out (b := br) (o := 5) (by repeat (first | exact List.Mem.head _ | apply List.Mem.tail)) (by repeat (first | exact Rd.nil | apply Rd.here | apply Rd.skip)); refine bodyPost_ret (v := .tuple #[.agg #[.int .u64 n0, .int .u64 n1, .int .u64 n2, .int .i64 3, P, .string mt], .bool true]) (by simp [results, Tryz.results34, go_sem, *]) rfl ⟨⟨P, rfl, HP.strs (Y := [_, _, _]) HM.out⟩, HM.out.bel⟩
end Go.Proofs.YtgoeiflddikihaaGreatDoor.Ver
end
