/- Merged by program out of: VPb, AwakeB, Both, VPc, AwakeC, Scm. -/
import Derived.Test.YtgoeiflddikihaaGreatDoorCsM2
import Derived.Test.YtgoeiflddikihaaGreatDoorCsM8
import Derived.Test.YtgoeiflddikihaaGreatDoorCsM5
import Derived.Test.YtgoeiflddikihaaGreatDoorCsM4
import Derived.Test.YtgoeiflddikihaaGreatDoorCsM6
section
namespace Go.Proofs.YtgoeiflddikihaaGreatDoor.PFnIntersectAny
open Go.RowKit Go.Proofs.YtgoeiflddikihaaGreatDoorW.PrintWords Go.Proofs.YtgoeiflddikihaaGreatDoorW.PrintLast Go.Proofs.YtgoeiflddikihaaGreatDoorW.PrintMore
attribute [local go_sem] max2_int min2_int max_two min_two max_three min_three max_four min_four   -- for this text's walks alone
set_option linter.unusedVariables false
set_option linter.unusedSimpArgs false
mutual
def semver_trim.j1 : Nat → ByteArray → Option (ByteArray)
  | 0, _ => none
  | k + 1, x0 => semver_trim.l1 k x0
def semver_trim.l1 : Nat → ByteArray → Option (ByteArray)
  | 0, _ => none
  | k + 1, x0 => if x0.toList = ([] : List UInt8) then (some x0) else (if 0 ≤ (wrap64 ((x0.size : Int) - 1)) then (if (wrap64 ((x0.size : Int) - 1)) < (x0.size : Int) then (if (bt x0 (wrap64 ((x0.size : Int) - 1))) = 32 then (if (wrap64 ((x0.size : Int) - 1)) ≤ (x0.size : Int) then (semver_trim.l1 k (x0.extract 0 ((wrap64 ((x0.size : Int) - 1)) : Int).toNat)) else (none)) else (some x0)) else (none)) else (none))
def semver_trim.l0 : Nat → ByteArray → Option (ByteArray)
  | 0, _ => none
  | k + 1, x0 => if x0.toList = ([] : List UInt8) then (semver_trim.j1 k x0) else (if 0 < (x0.size : Int) then (if (bt x0 0) = 32 then (if 1 ≤ (x0.size : Int) then (semver_trim.l0 k (x0.extract 1 x0.size)) else (none)) else (semver_trim.j1 k x0)) else (none))
end
def semver_trim.f (k : Nat) (a0 : ByteArray) : Option (ByteArray) := semver_trim.l0 k a0
theorem semver_trim.mono_l : ∀ k, (∀ y0, LeO (semver_trim.j1 k y0) (semver_trim.j1 (k + 1) y0)) ∧ (∀ y0, LeO (semver_trim.l1 k y0) (semver_trim.l1 (k + 1) y0)) ∧ (∀ y0, LeO (semver_trim.l0 k y0) (semver_trim.l0 (k + 1) y0))
  | 0 => ⟨fun _ r h => by simp [semver_trim.j1] at h, fun _ r h => by simp [semver_trim.l1] at h, fun _ r h => by simp [semver_trim.l0] at h⟩
  | k + 1 => by
    obtain ⟨ih0, ih1, ih2⟩ := semver_trim.mono_l k
    refine ⟨?_, ?_, ?_⟩
    · intro y0
      unfold semver_trim.j1
      repeat' first
      | (with_reducible exact ih0 _)
      | (with_reducible exact ih1 _)
      | (with_reducible exact ih2 _)
      | (with_reducible exact LeO.refl _)
      | (with_reducible exact LeO.none _)
      | (with_reducible refine LeO.ite ?_ ?_)
      | (with_reducible refine LeO.bind ?_ (fun _ => ?_))
      | exact ih0 _
      | exact ih1 _
      | exact ih2 _
      | exact LeO.none _
      | refine LeO.ite ?_ ?_
      | refine LeO.bind ?_ (fun _ => ?_)
    · intro y0
      unfold semver_trim.l1
      repeat' first
      | (with_reducible exact ih0 _)
      | (with_reducible exact ih1 _)
      | (with_reducible exact ih2 _)
      | (with_reducible exact LeO.refl _)
      | (with_reducible exact LeO.none _)
      | (with_reducible refine LeO.ite ?_ ?_)
      | (with_reducible refine LeO.bind ?_ (fun _ => ?_))
      | exact ih0 _
      | exact ih1 _
      | exact ih2 _
      | exact LeO.none _
      | refine LeO.ite ?_ ?_
      | refine LeO.bind ?_ (fun _ => ?_)
    · intro y0
      unfold semver_trim.l0
      repeat' first
      | (with_reducible exact ih0 _)
      | (with_reducible exact ih1 _)
      | (with_reducible exact ih2 _)
      | (with_reducible exact LeO.refl _)
      | (with_reducible exact LeO.none _)
      | (with_reducible refine LeO.ite ?_ ?_)
      | (with_reducible refine LeO.bind ?_ (fun _ => ?_))
      | exact ih0 _
      | exact ih1 _
      | exact ih2 _
      | exact LeO.none _
      | refine LeO.ite ?_ ?_
      | refine LeO.bind ?_ (fun _ => ?_)
theorem semver_trim.mono : ∀ a0 k, LeO (semver_trim.f k a0) (semver_trim.f (k + 1) a0) := by
  intro a0 k
  obtain ⟨ih0, ih1, ih2⟩ := semver_trim.mono_l k
  unfold semver_trim.f
  repeat' first
      | (with_reducible exact ih0 _)
      | (with_reducible exact ih1 _)
      | (with_reducible exact ih2 _)
      | (with_reducible exact LeO.refl _)
      | (with_reducible exact LeO.none _)
      | (with_reducible refine LeO.ite ?_ ?_)
      | (with_reducible refine LeO.bind ?_ (fun _ => ?_))
      | exact ih0 _
      | exact ih1 _
      | exact ih2 _
      | exact LeO.none _
      | refine LeO.ite ?_ ?_
      | refine LeO.bind ?_ (fun _ => ?_)
set_option maxHeartbeats 8000000 in
set_option maxRecDepth 100000 in
theorem semver_trim.calls (k : Nat) (a0 : ByteArray) (r : ByteArray) (w : World) (h : semver_trim.f k a0 = some r) :
    Calls Tryz.prog 142 #[.string a0] w fun e w' => e = .returned (.string r) ∧ Drawn0 w w' := by
  have H : (semver_trim.l0 k a0) = some r := h
  clear h
  have HC2 := Aside0.mk H
  clear H
  go_enter Tryz.func142, Tryz.ntmps142
  go_upto_block 0 with (fail)
  go_cut [0] (fun v0 wc => ∃ (kq : Nat) (x0_1 : ByteArray), v0 = .string x0_1 ∧ Aside0 (semver_trim.j1 kq x0_1 = some r) ∧ Aside0 (kq ≤ k) ∧ Drawn0 w wc)
  case first =>
    have H := HC2.out
    clear HC2
    have H' := Aside0.mk H
    clear H
    go_wp2
    go_loopg [0] k (fun kq v0 w' => ∃ (x0_1 : ByteArray), v0 = .string x0_1 ∧ Aside0 (semver_trim.l0 kq x0_1 = some r) ∧ Aside0 (kq ≤ k) ∧ Drawn0 w w')
    case atStart => exact ⟨(a0), (by first | rfl | (simp; done) | (simp [*]; done)), H', ⟨Nat.le_refl _⟩, by repeat (first | exact Drawn0.refl _ | apply Drawn0.step)⟩
    case round =>
      clear H'
      try clear c1
      try clear p2
      obtain ⟨x0_1, rfl, HA, HK1, ⟨m1, rfl⟩⟩ := hrel
      cases gk with
      | zero => exact absurd HA.out (by simp [semver_trim.l0])
      | succ k1 =>
        have H := HA.out
        clear HA
        simp only [semver_trim.l0] at H
        by_cases c3 : x0_1.toList = ([] : List UInt8)
        · rw [if_pos c3] at H
          have c3b0 : (x0_1.toList == ([] : List UInt8)) = true := beq_iff_eq.mpr c3
          have c3b1 : (x0_1.toList != ([] : List UInt8)) = false := bne_eq_false_iff_eq.mpr c3
          clear c3
          (first | rw [c3b0] | (simp only [i64_w, i32_w]; rw [c3b0]) | skip)
          have H' := Aside0.mk H
          clear H
          go_wp2
          go_meet
          case rel => exact ⟨_, (x0_1), (by first | rfl | (simp; done) | (simp [*]; done)), H', ⟨by have := HK1.out; first | omega | exact Nat.le_refl _⟩, by repeat (first | exact Drawn0.refl _ | apply Drawn0.step)⟩
        · rw [if_neg c3] at H
          have c3b0 : (x0_1.toList == ([] : List UInt8)) = false := beq_eq_false_iff_ne.mpr c3
          have c3b1 : (x0_1.toList != ([] : List UInt8)) = true := bne_iff_ne.mpr c3
          (first | rw [c3b0] | (simp only [i64_w, i32_w]; rw [c3b0]) | skip)
          by_cases c4 : 0 < (x0_1.size : Int)
          · rw [if_pos c4] at H
            have c4b0 : decide (0 < (x0_1.size : Int)) = true := decide_eq_true c4
            have c4b1 : decide (0 < x0_1.size) = true := decide_eq_true (by omega)
            clear c4
            by_cases c6 : (bt x0_1 0) = 32
            · rw [if_pos c6] at H
              have c6b0 : ((bt x0_1 0) == 32) = true := beq_iff_eq.mpr c6
              have c6b1 : ((bt x0_1 0) != 32) = false := bne_eq_false_iff_eq.mpr c6
              clear c6
              by_cases c7 : 1 ≤ (x0_1.size : Int)
              · rw [if_pos c7] at H
                have c7b0 := eq_true c7
                have c7b1 : decide (1 ≤ (x0_1.size : Int)) = true := decide_eq_true c7
                clear c7
                have H' := Aside0.mk H
                clear H
                have p5 : 0 ≤ (0 : Int) := (by omega)
                have q5 : 0 < x0_1.size := (by have : (0 : Int) < (x0_1.size : Int) := of_decide_eq_true (by first | (with_reducible assumption) | assumption); omega)
                have hx5 : ∀ h : 0 < x0_1.size, ((x0_1[0]'h).toNat : Int) = bt x0_1 0 := bt_at x0_1 0
                clear p5
                have qi5 : (0 < (x0_1.size : Int)) = True := eq_true (of_decide_eq_true (by first | (with_reducible assumption) | assumption))
                replace q5 := eq_true q5
                go_wp2
                go_roundg k1
                case measure => have := HK1.out; omega
                case rel => exact ⟨(x0_1.extract 1 x0_1.size), (by first | rfl | (simp; done) | (simp [*]; done)), H', ⟨by have := HK1.out; omega⟩, by repeat (first | exact Drawn0.refl _ | apply Drawn0.step)⟩
              · rw [if_neg c7] at H
                exact absurd H (by simp)
            · rw [if_neg c6] at H
              have c6b0 : ((bt x0_1 0) == 32) = false := beq_eq_false_iff_ne.mpr c6
              have c6b1 : ((bt x0_1 0) != 32) = true := bne_iff_ne.mpr c6
              have H' := Aside0.mk H
              clear H
              have p5 : 0 ≤ (0 : Int) := (by omega)
              have q5 : 0 < x0_1.size := (by have : (0 : Int) < (x0_1.size : Int) := of_decide_eq_true (by first | (with_reducible assumption) | assumption); omega)
              have hx5 : ∀ h : 0 < x0_1.size, ((x0_1[0]'h).toNat : Int) = bt x0_1 0 := bt_at x0_1 0
              clear p5
              have qi5 : (0 < (x0_1.size : Int)) = True := eq_true (of_decide_eq_true (by first | (with_reducible assumption) | assumption))
              replace q5 := eq_true q5
              go_wp2
              go_meet
              case rel => exact ⟨_, (x0_1), (by first | rfl | (simp; done) | (simp [*]; done)), H', ⟨by have := HK1.out; first | omega | exact Nat.le_refl _⟩, by repeat (first | exact Drawn0.refl _ | apply Drawn0.step)⟩
          · rw [if_neg c4] at H
            exact absurd H (by simp)
  case rest =>
    clear HC2
    try clear c1
    try clear p2
    try clear c3
    try clear c3b0
    try clear c3b1
    try clear c4
    try clear c4b0
    try clear c4b1
    try clear p5
    try clear q5
    try clear hx5
    try clear qi5
    try clear c6
    try clear c6b0
    try clear c6b1
    try clear c7
    try clear c7b0
    try clear c7b1
    try clear p2
    try clear p5
    try clear q5
    obtain ⟨kq, x0_1, rfl, HA, HJ1, ⟨mc1, rfl⟩⟩ := hcut
    cases kq with
    | zero => exact absurd HA.out (by simp [semver_trim.j1])
    | succ kj1 =>
      have H := HA.out
      clear HA
      simp only [semver_trim.j1] at H
      have H' := Aside0.mk H
      clear H
      go_wp2
      go_loopg [0] kj1 (fun kq v0 w' => ∃ (x0_2 : ByteArray), v0 = .string x0_2 ∧ Aside0 (semver_trim.l1 kq x0_2 = some r) ∧ Aside0 (kq ≤ kj1) ∧ Drawn0 w w')
      case atStart => exact ⟨(x0_1), (by first | rfl | (simp; done) | (simp [*]; done)), H', ⟨Nat.le_refl _⟩, by repeat (first | exact Drawn0.refl _ | apply Drawn0.step)⟩
      case round =>
        clear H'
        try clear c1
        try clear p2
        try clear c3
        try clear c3b0
        try clear c3b1
        try clear c4
        try clear c4b0
        try clear c4b1
        try clear p5
        try clear q5
        try clear hx5
        try clear qi5
        try clear c6
        try clear c6b0
        try clear c6b1
        try clear c7
        try clear c7b0
        try clear c7b1
        try clear p2
        try clear p5
        try clear q5
        obtain ⟨x0_2, rfl, HA, HK2, ⟨m2, rfl⟩⟩ := hrel
        cases gk with
        | zero => exact absurd HA.out (by simp [semver_trim.l1])
        | succ k2 =>
          have H := HA.out
          clear HA
          simp only [semver_trim.l1] at H
          by_cases c8 : x0_2.toList = ([] : List UInt8)
          · rw [if_pos c8] at H
            have c8b0 : (x0_2.toList == ([] : List UInt8)) = true := beq_iff_eq.mpr c8
            have c8b1 : (x0_2.toList != ([] : List UInt8)) = false := bne_eq_false_iff_eq.mpr c8
            clear c8
            obtain rfl := Option.some.inj H
            go_wp2
            go_ret
            exact ⟨by first | rfl | (simp; done) | (simp [*]; done), by repeat (first | exact Drawn0.refl _ | apply Drawn0.step)⟩
          · rw [if_neg c8] at H
            have c8b0 : (x0_2.toList == ([] : List UInt8)) = false := beq_eq_false_iff_ne.mpr c8
            have c8b1 : (x0_2.toList != ([] : List UInt8)) = true := bne_iff_ne.mpr c8
            obtain ⟨ji9, hji9⟩ : ∃ j_ : Int, (wrap64 ((x0_2.size : Int) - 1)) = j_ := ⟨_, rfl⟩
            replace H : (if 0 ≤ (ji9) then (if (ji9) < (x0_2.size : Int) then (if (bt x0_2 (ji9)) = 32 then (if (ji9) ≤ (x0_2.size : Int) then (semver_trim.l1 k2 (x0_2.extract 0 ((ji9) : Int).toNat)) else (none)) else (some x0_2)) else (none)) else (none)) = some r := by first | (rw [hji9] at H; exact H) | (simp only [hji9] at H ⊢; exact H)
            have hji9w : (IntKind.i64.wrap ((x0_2.size : Int) - 1)) = ji9 := (i64_w _).trans hji9
            by_cases c10 : 0 ≤ (ji9)
            · rw [if_pos c10] at H
              have c10b0 : decide (0 ≤ (ji9)) = true := decide_eq_true c10
              clear c10
              by_cases c11 : (ji9) < (x0_2.size : Int)
              · rw [if_pos c11] at H
                have c11b0 : decide ((ji9) < (x0_2.size : Int)) = true := decide_eq_true c11
                clear c11
                by_cases c13 : (bt x0_2 (ji9)) = 32
                · rw [if_pos c13] at H
                  have c13b0 : ((bt x0_2 (ji9)) == 32) = true := beq_iff_eq.mpr c13
                  have c13b1 : ((bt x0_2 (ji9)) != 32) = false := bne_eq_false_iff_eq.mpr c13
                  clear c13
                  have c14b0 := eq_true (of_decide_eq_true (by first | (with_reducible assumption) | assumption) : 0 ≤ (ji9))
                  by_cases c15 : (ji9) ≤ (x0_2.size : Int)
                  · rw [if_pos c15] at H
                    have c15b0 := eq_true c15
                    have c15b1 : decide ((ji9) ≤ (x0_2.size : Int)) = true := decide_eq_true c15
                    clear c15
                    have H' := Aside0.mk H
                    clear H
                    have p12 : 0 ≤ ((ji9) : Int) := of_decide_eq_true (by first | (with_reducible assumption) | assumption)
                    have q12 : (ji9) < (x0_2.size : Int) := of_decide_eq_true (by first | (with_reducible assumption) | assumption)
                    have hx12 := bt_at x0_2 (ji9)
                    replace p12 := eq_true p12
                    replace q12 := eq_true q12
                    go_wp2
                    go_roundg k2
                    case measure => have := HJ1.out; have := HK2.out; omega
                    case rel => exact ⟨(x0_2.extract 0 ((ji9) : Int).toNat), (by first | rfl | (simp; done) | (simp only [← hji9] <;> (first | rfl | simp)) | (simp [*]; done)), H', ⟨by have := HJ1.out; have := HK2.out; omega⟩, by repeat (first | exact Drawn0.refl _ | apply Drawn0.step)⟩
                  · rw [if_neg c15] at H
                    exact absurd H (by simp)
                · rw [if_neg c13] at H
                  have c13b0 : ((bt x0_2 (ji9)) == 32) = false := beq_eq_false_iff_ne.mpr c13
                  have c13b1 : ((bt x0_2 (ji9)) != 32) = true := bne_iff_ne.mpr c13
                  obtain rfl := Option.some.inj H
                  have p12 : 0 ≤ ((ji9) : Int) := of_decide_eq_true (by first | (with_reducible assumption) | assumption)
                  have q12 : (ji9) < (x0_2.size : Int) := of_decide_eq_true (by first | (with_reducible assumption) | assumption)
                  have hx12 := bt_at x0_2 (ji9)
                  replace p12 := eq_true p12
                  replace q12 := eq_true q12
                  go_wp2
                  go_ret
                  exact ⟨by first | rfl | (simp; done) | (simp only [← hji9] <;> (first | rfl | simp)) | (simp [*]; done), by repeat (first | exact Drawn0.refl _ | apply Drawn0.step)⟩
              · rw [if_neg c11] at H
                exact absurd H (by simp)
            · rw [if_neg c10] at H
              exact absurd H (by simp)
def semver_plainNumbers.l0 : Nat → ByteArray → Int → Option (Bool)
  | 0, _, _ => none
  | k + 1, x0, x3 => if x3 < (x0.size : Int) then (if 0 ≤ x3 then (if (bt x0 x3) < 48 then (if (bt x0 x3) = 46 then (semver_plainNumbers.l0 k x0 (wrap64 (x3 + 1))) else (if (bt x0 x3) = 120 then (semver_plainNumbers.l0 k x0 (wrap64 (x3 + 1))) else (if (bt x0 x3) = 88 then (semver_plainNumbers.l0 k x0 (wrap64 (x3 + 1))) else (if (bt x0 x3) = 42 then (semver_plainNumbers.l0 k x0 (wrap64 (x3 + 1))) else (if (bt x0 x3) = 118 then (semver_plainNumbers.l0 k x0 (wrap64 (x3 + 1))) else (some false)))))) else (if (bt x0 x3) > 57 then (if (bt x0 x3) = 46 then (semver_plainNumbers.l0 k x0 (wrap64 (x3 + 1))) else (if (bt x0 x3) = 120 then (semver_plainNumbers.l0 k x0 (wrap64 (x3 + 1))) else (if (bt x0 x3) = 88 then (semver_plainNumbers.l0 k x0 (wrap64 (x3 + 1))) else (if (bt x0 x3) = 42 then (semver_plainNumbers.l0 k x0 (wrap64 (x3 + 1))) else (if (bt x0 x3) = 118 then (semver_plainNumbers.l0 k x0 (wrap64 (x3 + 1))) else (some false)))))) else (semver_plainNumbers.l0 k x0 (wrap64 (x3 + 1))))) else (none)) else (some true)
def semver_plainNumbers.f (k : Nat) (a0 : ByteArray) : Option (Bool) := semver_plainNumbers.l0 k a0 0
theorem semver_plainNumbers.mono_l : ∀ k, (∀ y0 y1, LeO (semver_plainNumbers.l0 k y0 y1) (semver_plainNumbers.l0 (k + 1) y0 y1))
  | 0 => fun _ _ r h => by simp [semver_plainNumbers.l0] at h
  | k + 1 => by
    have ih0 := semver_plainNumbers.mono_l k
    · intro y0 y1
      unfold semver_plainNumbers.l0
      repeat' first
      | (with_reducible exact ih0 _ _)
      | (with_reducible exact LeO.refl _)
      | (with_reducible exact LeO.none _)
      | (with_reducible refine LeO.ite ?_ ?_)
      | (with_reducible refine LeO.bind ?_ (fun _ => ?_))
      | exact ih0 _ _
      | exact LeO.none _
      | refine LeO.ite ?_ ?_
      | refine LeO.bind ?_ (fun _ => ?_)
theorem semver_plainNumbers.mono : ∀ a0 k, LeO (semver_plainNumbers.f k a0) (semver_plainNumbers.f (k + 1) a0) := by
  intro a0 k
  have ih0 := semver_plainNumbers.mono_l k
  unfold semver_plainNumbers.f
  repeat' first
      | (with_reducible exact ih0 _ _)
      | (with_reducible exact LeO.refl _)
      | (with_reducible exact LeO.none _)
      | (with_reducible refine LeO.ite ?_ ?_)
      | (with_reducible refine LeO.bind ?_ (fun _ => ?_))
      | exact ih0 _ _
      | exact LeO.none _
      | refine LeO.ite ?_ ?_
      | refine LeO.bind ?_ (fun _ => ?_)
set_option maxHeartbeats 8000000 in
set_option maxRecDepth 100000 in
theorem semver_plainNumbers.calls (k : Nat) (a0 : ByteArray) (r : Bool) (w : World) (h : semver_plainNumbers.f k a0 = some r) :
    Calls Tryz.prog 155 #[.string a0] w fun e w' => e = .returned (.bool r) ∧ Drawn0 w w' := by
  have H : (semver_plainNumbers.l0 k a0 0) = some r := h
  clear h
  have H' := Aside0.mk H
  clear H
  go_enter Tryz.func155, Tryz.ntmps155
  go_wp2
  go_loopg [3] k (fun kq v3 w' => ∃ (x3_1 : Int), v3 = .int .i64 x3_1 ∧ Aside0 (semver_plainNumbers.l0 kq a0 x3_1 = some r) ∧ Aside0 (kq ≤ k) ∧ Drawn0 w w')
  case atStart => exact ⟨(0), (by first | rfl | (simp; done) | (simp [*]; done)), H', ⟨Nat.le_refl _⟩, by repeat (first | exact Drawn0.refl _ | apply Drawn0.step)⟩
  case round =>
    clear H'
    try clear c1
    obtain ⟨x3_1, rfl, HA, HK1, ⟨m1, rfl⟩⟩ := hrel
    cases gk with
    | zero => exact absurd HA.out (by simp [semver_plainNumbers.l0])
    | succ k1 =>
      have H := HA.out
      clear HA
      simp only [semver_plainNumbers.l0] at H
      by_cases c2 : x3_1 < (a0.size : Int)
      · rw [if_pos c2] at H
        have c2b0 : decide (x3_1 < (a0.size : Int)) = true := decide_eq_true c2
        clear c2
        by_cases c3 : 0 ≤ x3_1
        · rw [if_pos c3] at H
          have c3b0 : decide (0 ≤ x3_1) = true := decide_eq_true c3
          clear c3
          by_cases c5 : (bt a0 x3_1) < 48
          · rw [if_pos c5] at H
            have c5b0 : decide ((bt a0 x3_1) < 48) = true := decide_eq_true c5
            clear c5
            by_cases c7 : (bt a0 x3_1) = 46
            · rw [if_pos c7] at H
              have c7b0 : ((bt a0 x3_1) == 46) = true := beq_iff_eq.mpr c7
              have c7b1 : ((bt a0 x3_1) != 46) = false := bne_eq_false_iff_eq.mpr c7
              clear c7
              have H' := Aside0.mk H
              clear H
              have p4 : 0 ≤ (x3_1 : Int) := of_decide_eq_true (by first | (with_reducible assumption) | assumption)
              have q4 : x3_1 < (a0.size : Int) := of_decide_eq_true (by first | (with_reducible assumption) | assumption)
              have hx4 := bt_at a0 x3_1
              replace p4 := eq_true p4
              replace q4 := eq_true q4
              have p6 : 0 ≤ (x3_1 : Int) := of_decide_eq_true (by first | (with_reducible assumption) | assumption)
              have q6 : x3_1 < (a0.size : Int) := of_decide_eq_true (by first | (with_reducible assumption) | assumption)
              have hx6 := bt_at a0 x3_1
              replace p6 := eq_true p6
              replace q6 := eq_true q6
              go_wp2
              go_roundg k1
              case measure => have := HK1.out; omega
              case rel => exact ⟨(wrap64 (x3_1 + 1)), (by first | rfl | (simp; done) | (simp [*]; done)), H', ⟨by have := HK1.out; omega⟩, by repeat (first | exact Drawn0.refl _ | apply Drawn0.step)⟩
            · rw [if_neg c7] at H
              have c7b0 : ((bt a0 x3_1) == 46) = false := beq_eq_false_iff_ne.mpr c7
              have c7b1 : ((bt a0 x3_1) != 46) = true := bne_iff_ne.mpr c7
              by_cases c9 : (bt a0 x3_1) = 120
              · rw [if_pos c9] at H
                have c9b0 : ((bt a0 x3_1) == 120) = true := beq_iff_eq.mpr c9
                have c9b1 : ((bt a0 x3_1) != 120) = false := bne_eq_false_iff_eq.mpr c9
                clear c9
                have H' := Aside0.mk H
                clear H
                have p4 : 0 ≤ (x3_1 : Int) := of_decide_eq_true (by first | (with_reducible assumption) | assumption)
                have q4 : x3_1 < (a0.size : Int) := of_decide_eq_true (by first | (with_reducible assumption) | assumption)
                have hx4 := bt_at a0 x3_1
                replace p4 := eq_true p4
                replace q4 := eq_true q4
                have p6 : 0 ≤ (x3_1 : Int) := of_decide_eq_true (by first | (with_reducible assumption) | assumption)
                have q6 : x3_1 < (a0.size : Int) := of_decide_eq_true (by first | (with_reducible assumption) | assumption)
                have hx6 := bt_at a0 x3_1
                replace p6 := eq_true p6
                replace q6 := eq_true q6
                have p8 : 0 ≤ (x3_1 : Int) := of_decide_eq_true (by first | (with_reducible assumption) | assumption)
                have q8 : x3_1 < (a0.size : Int) := of_decide_eq_true (by first | (with_reducible assumption) | assumption)
                have hx8 := bt_at a0 x3_1
                replace p8 := eq_true p8
                replace q8 := eq_true q8
                go_wp2
                go_roundg k1
                case measure => have := HK1.out; omega
                case rel => exact ⟨(wrap64 (x3_1 + 1)), (by first | rfl | (simp; done) | (simp [*]; done)), H', ⟨by have := HK1.out; omega⟩, by repeat (first | exact Drawn0.refl _ | apply Drawn0.step)⟩
              · rw [if_neg c9] at H
                have c9b0 : ((bt a0 x3_1) == 120) = false := beq_eq_false_iff_ne.mpr c9
                have c9b1 : ((bt a0 x3_1) != 120) = true := bne_iff_ne.mpr c9
                by_cases c11 : (bt a0 x3_1) = 88
                · rw [if_pos c11] at H
                  have c11b0 : ((bt a0 x3_1) == 88) = true := beq_iff_eq.mpr c11
                  have c11b1 : ((bt a0 x3_1) != 88) = false := bne_eq_false_iff_eq.mpr c11
                  clear c11
                  have H' := Aside0.mk H
                  clear H
                  have p4 : 0 ≤ (x3_1 : Int) := of_decide_eq_true (by first | (with_reducible assumption) | assumption)
                  have q4 : x3_1 < (a0.size : Int) := of_decide_eq_true (by first | (with_reducible assumption) | assumption)
                  have hx4 := bt_at a0 x3_1
                  replace p4 := eq_true p4
                  replace q4 := eq_true q4
                  have p6 : 0 ≤ (x3_1 : Int) := of_decide_eq_true (by first | (with_reducible assumption) | assumption)
                  have q6 : x3_1 < (a0.size : Int) := of_decide_eq_true (by first | (with_reducible assumption) | assumption)
                  have hx6 := bt_at a0 x3_1
                  replace p6 := eq_true p6
                  replace q6 := eq_true q6
                  have p8 : 0 ≤ (x3_1 : Int) := of_decide_eq_true (by first | (with_reducible assumption) | assumption)
                  have q8 : x3_1 < (a0.size : Int) := of_decide_eq_true (by first | (with_reducible assumption) | assumption)
                  have hx8 := bt_at a0 x3_1
                  replace p8 := eq_true p8
                  replace q8 := eq_true q8
                  have p10 : 0 ≤ (x3_1 : Int) := of_decide_eq_true (by first | (with_reducible assumption) | assumption)
                  have q10 : x3_1 < (a0.size : Int) := of_decide_eq_true (by first | (with_reducible assumption) | assumption)
                  have hx10 := bt_at a0 x3_1
                  replace p10 := eq_true p10
                  replace q10 := eq_true q10
                  go_wp2
                  go_roundg k1
                  case measure => have := HK1.out; omega
                  case rel => exact ⟨(wrap64 (x3_1 + 1)), (by first | rfl | (simp; done) | (simp [*]; done)), H', ⟨by have := HK1.out; omega⟩, by repeat (first | exact Drawn0.refl _ | apply Drawn0.step)⟩
                · rw [if_neg c11] at H
                  have c11b0 : ((bt a0 x3_1) == 88) = false := beq_eq_false_iff_ne.mpr c11
                  have c11b1 : ((bt a0 x3_1) != 88) = true := bne_iff_ne.mpr c11
                  by_cases c13 : (bt a0 x3_1) = 42
                  · rw [if_pos c13] at H
                    have c13b0 : ((bt a0 x3_1) == 42) = true := beq_iff_eq.mpr c13
                    have c13b1 : ((bt a0 x3_1) != 42) = false := bne_eq_false_iff_eq.mpr c13
                    clear c13
                    have H' := Aside0.mk H
                    clear H
                    have p4 : 0 ≤ (x3_1 : Int) := of_decide_eq_true (by first | (with_reducible assumption) | assumption)
                    have q4 : x3_1 < (a0.size : Int) := of_decide_eq_true (by first | (with_reducible assumption) | assumption)
                    have hx4 := bt_at a0 x3_1
                    replace p4 := eq_true p4
                    replace q4 := eq_true q4
                    have p6 : 0 ≤ (x3_1 : Int) := of_decide_eq_true (by first | (with_reducible assumption) | assumption)
                    have q6 : x3_1 < (a0.size : Int) := of_decide_eq_true (by first | (with_reducible assumption) | assumption)
                    have hx6 := bt_at a0 x3_1
                    replace p6 := eq_true p6
                    replace q6 := eq_true q6
                    have p8 : 0 ≤ (x3_1 : Int) := of_decide_eq_true (by first | (with_reducible assumption) | assumption)
                    have q8 : x3_1 < (a0.size : Int) := of_decide_eq_true (by first | (with_reducible assumption) | assumption)
                    have hx8 := bt_at a0 x3_1
                    replace p8 := eq_true p8
                    replace q8 := eq_true q8
                    have p10 : 0 ≤ (x3_1 : Int) := of_decide_eq_true (by first | (with_reducible assumption) | assumption)
                    have q10 : x3_1 < (a0.size : Int) := of_decide_eq_true (by first | (with_reducible assumption) | assumption)
                    have hx10 := bt_at a0 x3_1
                    replace p10 := eq_true p10
                    replace q10 := eq_true q10
                    have p12 : 0 ≤ (x3_1 : Int) := of_decide_eq_true (by first | (with_reducible assumption) | assumption)
                    have q12 : x3_1 < (a0.size : Int) := of_decide_eq_true (by first | (with_reducible assumption) | assumption)
                    have hx12 := bt_at a0 x3_1
                    replace p12 := eq_true p12
                    replace q12 := eq_true q12
                    go_wp2
                    go_roundg k1
                    case measure => have := HK1.out; omega
                    case rel => exact ⟨(wrap64 (x3_1 + 1)), (by first | rfl | (simp; done) | (simp [*]; done)), H', ⟨by have := HK1.out; omega⟩, by repeat (first | exact Drawn0.refl _ | apply Drawn0.step)⟩
                  · rw [if_neg c13] at H
                    have c13b0 : ((bt a0 x3_1) == 42) = false := beq_eq_false_iff_ne.mpr c13
                    have c13b1 : ((bt a0 x3_1) != 42) = true := bne_iff_ne.mpr c13
                    by_cases c15 : (bt a0 x3_1) = 118
                    · rw [if_pos c15] at H
                      have c15b0 : ((bt a0 x3_1) == 118) = true := beq_iff_eq.mpr c15
                      have c15b1 : ((bt a0 x3_1) != 118) = false := bne_eq_false_iff_eq.mpr c15
                      clear c15
                      have H' := Aside0.mk H
                      clear H
                      have p4 : 0 ≤ (x3_1 : Int) := of_decide_eq_true (by first | (with_reducible assumption) | assumption)
                      have q4 : x3_1 < (a0.size : Int) := of_decide_eq_true (by first | (with_reducible assumption) | assumption)
                      have hx4 := bt_at a0 x3_1
                      replace p4 := eq_true p4
                      replace q4 := eq_true q4
                      have p6 : 0 ≤ (x3_1 : Int) := of_decide_eq_true (by first | (with_reducible assumption) | assumption)
                      have q6 : x3_1 < (a0.size : Int) := of_decide_eq_true (by first | (with_reducible assumption) | assumption)
                      have hx6 := bt_at a0 x3_1
                      replace p6 := eq_true p6
                      replace q6 := eq_true q6
                      have p8 : 0 ≤ (x3_1 : Int) := of_decide_eq_true (by first | (with_reducible assumption) | assumption)
                      have q8 : x3_1 < (a0.size : Int) := of_decide_eq_true (by first | (with_reducible assumption) | assumption)
                      have hx8 := bt_at a0 x3_1
                      replace p8 := eq_true p8
                      replace q8 := eq_true q8
                      have p10 : 0 ≤ (x3_1 : Int) := of_decide_eq_true (by first | (with_reducible assumption) | assumption)
                      have q10 : x3_1 < (a0.size : Int) := of_decide_eq_true (by first | (with_reducible assumption) | assumption)
                      have hx10 := bt_at a0 x3_1
                      replace p10 := eq_true p10
                      replace q10 := eq_true q10
                      have p12 : 0 ≤ (x3_1 : Int) := of_decide_eq_true (by first | (with_reducible assumption) | assumption)
                      have q12 : x3_1 < (a0.size : Int) := of_decide_eq_true (by first | (with_reducible assumption) | assumption)
                      have hx12 := bt_at a0 x3_1
                      replace p12 := eq_true p12
                      replace q12 := eq_true q12
                      have p14 : 0 ≤ (x3_1 : Int) := of_decide_eq_true (by first | (with_reducible assumption) | assumption)
                      have q14 : x3_1 < (a0.size : Int) := of_decide_eq_true (by first | (with_reducible assumption) | assumption)
                      have hx14 := bt_at a0 x3_1
                      replace p14 := eq_true p14
                      replace q14 := eq_true q14
                      go_wp2
                      go_roundg k1
                      case measure => have := HK1.out; omega
                      case rel => exact ⟨(wrap64 (x3_1 + 1)), (by first | rfl | (simp; done) | (simp [*]; done)), H', ⟨by have := HK1.out; omega⟩, by repeat (first | exact Drawn0.refl _ | apply Drawn0.step)⟩
                    · rw [if_neg c15] at H
                      have c15b0 : ((bt a0 x3_1) == 118) = false := beq_eq_false_iff_ne.mpr c15
                      have c15b1 : ((bt a0 x3_1) != 118) = true := bne_iff_ne.mpr c15
                      obtain rfl := Option.some.inj H
                      have p4 : 0 ≤ (x3_1 : Int) := of_decide_eq_true (by first | (with_reducible assumption) | assumption)
                      have q4 : x3_1 < (a0.size : Int) := of_decide_eq_true (by first | (with_reducible assumption) | assumption)
                      have hx4 := bt_at a0 x3_1
                      replace p4 := eq_true p4
                      replace q4 := eq_true q4
                      have p6 : 0 ≤ (x3_1 : Int) := of_decide_eq_true (by first | (with_reducible assumption) | assumption)
                      have q6 : x3_1 < (a0.size : Int) := of_decide_eq_true (by first | (with_reducible assumption) | assumption)
                      have hx6 := bt_at a0 x3_1
                      replace p6 := eq_true p6
                      replace q6 := eq_true q6
                      have p8 : 0 ≤ (x3_1 : Int) := of_decide_eq_true (by first | (with_reducible assumption) | assumption)
                      have q8 : x3_1 < (a0.size : Int) := of_decide_eq_true (by first | (with_reducible assumption) | assumption)
                      have hx8 := bt_at a0 x3_1
                      replace p8 := eq_true p8
                      replace q8 := eq_true q8
                      have p10 : 0 ≤ (x3_1 : Int) := of_decide_eq_true (by first | (with_reducible assumption) | assumption)
                      have q10 : x3_1 < (a0.size : Int) := of_decide_eq_true (by first | (with_reducible assumption) | assumption)
                      have hx10 := bt_at a0 x3_1
                      replace p10 := eq_true p10
                      replace q10 := eq_true q10
                      have p12 : 0 ≤ (x3_1 : Int) := of_decide_eq_true (by first | (with_reducible assumption) | assumption)
                      have q12 : x3_1 < (a0.size : Int) := of_decide_eq_true (by first | (with_reducible assumption) | assumption)
                      have hx12 := bt_at a0 x3_1
                      replace p12 := eq_true p12
                      replace q12 := eq_true q12
                      have p14 : 0 ≤ (x3_1 : Int) := of_decide_eq_true (by first | (with_reducible assumption) | assumption)
                      have q14 : x3_1 < (a0.size : Int) := of_decide_eq_true (by first | (with_reducible assumption) | assumption)
                      have hx14 := bt_at a0 x3_1
                      replace p14 := eq_true p14
                      replace q14 := eq_true q14
                      go_wp2
                      go_ret
                      exact ⟨by first | rfl | (simp; done) | (simp [*]; done), by repeat (first | exact Drawn0.refl _ | apply Drawn0.step)⟩
          · rw [if_neg c5] at H
            have c5b0 : decide ((bt a0 x3_1) < 48) = false := decide_eq_false c5
            clear c5
            by_cases c17 : (bt a0 x3_1) > 57
            · rw [if_pos c17] at H
              have c17b0 : decide (57 < (bt a0 x3_1)) = true := decide_eq_true c17
              clear c17
              by_cases c19 : (bt a0 x3_1) = 46
              · rw [if_pos c19] at H
                have c19b0 : ((bt a0 x3_1) == 46) = true := beq_iff_eq.mpr c19
                have c19b1 : ((bt a0 x3_1) != 46) = false := bne_eq_false_iff_eq.mpr c19
                clear c19
                have H' := Aside0.mk H
                clear H
                have p4 : 0 ≤ (x3_1 : Int) := of_decide_eq_true (by first | (with_reducible assumption) | assumption)
                have q4 : x3_1 < (a0.size : Int) := of_decide_eq_true (by first | (with_reducible assumption) | assumption)
                have hx4 := bt_at a0 x3_1
                replace p4 := eq_true p4
                replace q4 := eq_true q4
                have p16 : 0 ≤ (x3_1 : Int) := of_decide_eq_true (by first | (with_reducible assumption) | assumption)
                have q16 : x3_1 < (a0.size : Int) := of_decide_eq_true (by first | (with_reducible assumption) | assumption)
                have hx16 := bt_at a0 x3_1
                replace p16 := eq_true p16
                replace q16 := eq_true q16
                have p18 : 0 ≤ (x3_1 : Int) := of_decide_eq_true (by first | (with_reducible assumption) | assumption)
                have q18 : x3_1 < (a0.size : Int) := of_decide_eq_true (by first | (with_reducible assumption) | assumption)
                have hx18 := bt_at a0 x3_1
                replace p18 := eq_true p18
                replace q18 := eq_true q18
                go_wp2
                go_roundg k1
                case measure => have := HK1.out; omega
                case rel => exact ⟨(wrap64 (x3_1 + 1)), (by first | rfl | (simp; done) | (simp [*]; done)), H', ⟨by have := HK1.out; omega⟩, by repeat (first | exact Drawn0.refl _ | apply Drawn0.step)⟩
              · rw [if_neg c19] at H
                have c19b0 : ((bt a0 x3_1) == 46) = false := beq_eq_false_iff_ne.mpr c19
                have c19b1 : ((bt a0 x3_1) != 46) = true := bne_iff_ne.mpr c19
                by_cases c21 : (bt a0 x3_1) = 120
                · rw [if_pos c21] at H
                  have c21b0 : ((bt a0 x3_1) == 120) = true := beq_iff_eq.mpr c21
                  have c21b1 : ((bt a0 x3_1) != 120) = false := bne_eq_false_iff_eq.mpr c21
                  clear c21
                  have H' := Aside0.mk H
                  clear H
                  have p4 : 0 ≤ (x3_1 : Int) := of_decide_eq_true (by first | (with_reducible assumption) | assumption)
                  have q4 : x3_1 < (a0.size : Int) := of_decide_eq_true (by first | (with_reducible assumption) | assumption)
                  have hx4 := bt_at a0 x3_1
                  replace p4 := eq_true p4
                  replace q4 := eq_true q4
                  have p16 : 0 ≤ (x3_1 : Int) := of_decide_eq_true (by first | (with_reducible assumption) | assumption)
                  have q16 : x3_1 < (a0.size : Int) := of_decide_eq_true (by first | (with_reducible assumption) | assumption)
                  have hx16 := bt_at a0 x3_1
                  replace p16 := eq_true p16
                  replace q16 := eq_true q16
                  have p18 : 0 ≤ (x3_1 : Int) := of_decide_eq_true (by first | (with_reducible assumption) | assumption)
                  have q18 : x3_1 < (a0.size : Int) := of_decide_eq_true (by first | (with_reducible assumption) | assumption)
                  have hx18 := bt_at a0 x3_1
                  replace p18 := eq_true p18
                  replace q18 := eq_true q18
                  have p20 : 0 ≤ (x3_1 : Int) := of_decide_eq_true (by first | (with_reducible assumption) | assumption)
                  have q20 : x3_1 < (a0.size : Int) := of_decide_eq_true (by first | (with_reducible assumption) | assumption)
                  have hx20 := bt_at a0 x3_1
                  replace p20 := eq_true p20
                  replace q20 := eq_true q20
                  go_wp2
                  go_roundg k1
                  case measure => have := HK1.out; omega
                  case rel => exact ⟨(wrap64 (x3_1 + 1)), (by first | rfl | (simp; done) | (simp [*]; done)), H', ⟨by have := HK1.out; omega⟩, by repeat (first | exact Drawn0.refl _ | apply Drawn0.step)⟩
                · rw [if_neg c21] at H
                  have c21b0 : ((bt a0 x3_1) == 120) = false := beq_eq_false_iff_ne.mpr c21
                  have c21b1 : ((bt a0 x3_1) != 120) = true := bne_iff_ne.mpr c21
                  by_cases c23 : (bt a0 x3_1) = 88
                  · rw [if_pos c23] at H
                    have c23b0 : ((bt a0 x3_1) == 88) = true := beq_iff_eq.mpr c23
                    have c23b1 : ((bt a0 x3_1) != 88) = false := bne_eq_false_iff_eq.mpr c23
                    clear c23
                    have H' := Aside0.mk H
                    clear H
                    have p4 : 0 ≤ (x3_1 : Int) := of_decide_eq_true (by first | (with_reducible assumption) | assumption)
                    have q4 : x3_1 < (a0.size : Int) := of_decide_eq_true (by first | (with_reducible assumption) | assumption)
                    have hx4 := bt_at a0 x3_1
                    replace p4 := eq_true p4
                    replace q4 := eq_true q4
                    have p16 : 0 ≤ (x3_1 : Int) := of_decide_eq_true (by first | (with_reducible assumption) | assumption)
                    have q16 : x3_1 < (a0.size : Int) := of_decide_eq_true (by first | (with_reducible assumption) | assumption)
                    have hx16 := bt_at a0 x3_1
                    replace p16 := eq_true p16
                    replace q16 := eq_true q16
                    have p18 : 0 ≤ (x3_1 : Int) := of_decide_eq_true (by first | (with_reducible assumption) | assumption)
                    have q18 : x3_1 < (a0.size : Int) := of_decide_eq_true (by first | (with_reducible assumption) | assumption)
                    have hx18 := bt_at a0 x3_1
                    replace p18 := eq_true p18
                    replace q18 := eq_true q18
                    have p20 : 0 ≤ (x3_1 : Int) := of_decide_eq_true (by first | (with_reducible assumption) | assumption)
                    have q20 : x3_1 < (a0.size : Int) := of_decide_eq_true (by first | (with_reducible assumption) | assumption)
                    have hx20 := bt_at a0 x3_1
                    replace p20 := eq_true p20
                    replace q20 := eq_true q20
                    have p22 : 0 ≤ (x3_1 : Int) := of_decide_eq_true (by first | (with_reducible assumption) | assumption)
                    have q22 : x3_1 < (a0.size : Int) := of_decide_eq_true (by first | (with_reducible assumption) | assumption)
                    have hx22 := bt_at a0 x3_1
                    replace p22 := eq_true p22
                    replace q22 := eq_true q22
                    go_wp2
                    go_roundg k1
                    case measure => have := HK1.out; omega
                    case rel => exact ⟨(wrap64 (x3_1 + 1)), (by first | rfl | (simp; done) | (simp [*]; done)), H', ⟨by have := HK1.out; omega⟩, by repeat (first | exact Drawn0.refl _ | apply Drawn0.step)⟩
                  · rw [if_neg c23] at H
                    have c23b0 : ((bt a0 x3_1) == 88) = false := beq_eq_false_iff_ne.mpr c23
                    have c23b1 : ((bt a0 x3_1) != 88) = true := bne_iff_ne.mpr c23
                    by_cases c25 : (bt a0 x3_1) = 42
                    · rw [if_pos c25] at H
                      have c25b0 : ((bt a0 x3_1) == 42) = true := beq_iff_eq.mpr c25
                      have c25b1 : ((bt a0 x3_1) != 42) = false := bne_eq_false_iff_eq.mpr c25
                      clear c25
                      have H' := Aside0.mk H
                      clear H
                      have p4 : 0 ≤ (x3_1 : Int) := of_decide_eq_true (by first | (with_reducible assumption) | assumption)
                      have q4 : x3_1 < (a0.size : Int) := of_decide_eq_true (by first | (with_reducible assumption) | assumption)
                      have hx4 := bt_at a0 x3_1
                      replace p4 := eq_true p4
                      replace q4 := eq_true q4
                      have p16 : 0 ≤ (x3_1 : Int) := of_decide_eq_true (by first | (with_reducible assumption) | assumption)
                      have q16 : x3_1 < (a0.size : Int) := of_decide_eq_true (by first | (with_reducible assumption) | assumption)
                      have hx16 := bt_at a0 x3_1
                      replace p16 := eq_true p16
                      replace q16 := eq_true q16
                      have p18 : 0 ≤ (x3_1 : Int) := of_decide_eq_true (by first | (with_reducible assumption) | assumption)
                      have q18 : x3_1 < (a0.size : Int) := of_decide_eq_true (by first | (with_reducible assumption) | assumption)
                      have hx18 := bt_at a0 x3_1
                      replace p18 := eq_true p18
                      replace q18 := eq_true q18
                      have p20 : 0 ≤ (x3_1 : Int) := of_decide_eq_true (by first | (with_reducible assumption) | assumption)
                      have q20 : x3_1 < (a0.size : Int) := of_decide_eq_true (by first | (with_reducible assumption) | assumption)
                      have hx20 := bt_at a0 x3_1
                      replace p20 := eq_true p20
                      replace q20 := eq_true q20
                      have p22 : 0 ≤ (x3_1 : Int) := of_decide_eq_true (by first | (with_reducible assumption) | assumption)
                      have q22 : x3_1 < (a0.size : Int) := of_decide_eq_true (by first | (with_reducible assumption) | assumption)
                      have hx22 := bt_at a0 x3_1
                      replace p22 := eq_true p22
                      replace q22 := eq_true q22
                      have p24 : 0 ≤ (x3_1 : Int) := of_decide_eq_true (by first | (with_reducible assumption) | assumption)
                      have q24 : x3_1 < (a0.size : Int) := of_decide_eq_true (by first | (with_reducible assumption) | assumption)
                      have hx24 := bt_at a0 x3_1
                      replace p24 := eq_true p24
                      replace q24 := eq_true q24
                      go_wp2
                      go_roundg k1
                      case measure => have := HK1.out; omega
                      case rel => exact ⟨(wrap64 (x3_1 + 1)), (by first | rfl | (simp; done) | (simp [*]; done)), H', ⟨by have := HK1.out; omega⟩, by repeat (first | exact Drawn0.refl _ | apply Drawn0.step)⟩
                    · rw [if_neg c25] at H
                      have c25b0 : ((bt a0 x3_1) == 42) = false := beq_eq_false_iff_ne.mpr c25
                      have c25b1 : ((bt a0 x3_1) != 42) = true := bne_iff_ne.mpr c25
                      by_cases c27 : (bt a0 x3_1) = 118
                      · rw [if_pos c27] at H
                        have c27b0 : ((bt a0 x3_1) == 118) = true := beq_iff_eq.mpr c27
                        have c27b1 : ((bt a0 x3_1) != 118) = false := bne_eq_false_iff_eq.mpr c27
                        clear c27
                        have H' := Aside0.mk H
                        clear H
                        have p4 : 0 ≤ (x3_1 : Int) := of_decide_eq_true (by first | (with_reducible assumption) | assumption)
                        have q4 : x3_1 < (a0.size : Int) := of_decide_eq_true (by first | (with_reducible assumption) | assumption)
                        have hx4 := bt_at a0 x3_1
                        replace p4 := eq_true p4
                        replace q4 := eq_true q4
                        have p16 : 0 ≤ (x3_1 : Int) := of_decide_eq_true (by first | (with_reducible assumption) | assumption)
                        have q16 : x3_1 < (a0.size : Int) := of_decide_eq_true (by first | (with_reducible assumption) | assumption)
                        have hx16 := bt_at a0 x3_1
                        replace p16 := eq_true p16
                        replace q16 := eq_true q16
                        have p18 : 0 ≤ (x3_1 : Int) := of_decide_eq_true (by first | (with_reducible assumption) | assumption)
                        have q18 : x3_1 < (a0.size : Int) := of_decide_eq_true (by first | (with_reducible assumption) | assumption)
                        have hx18 := bt_at a0 x3_1
                        replace p18 := eq_true p18
                        replace q18 := eq_true q18
                        have p20 : 0 ≤ (x3_1 : Int) := of_decide_eq_true (by first | (with_reducible assumption) | assumption)
                        have q20 : x3_1 < (a0.size : Int) := of_decide_eq_true (by first | (with_reducible assumption) | assumption)
                        have hx20 := bt_at a0 x3_1
                        replace p20 := eq_true p20
                        replace q20 := eq_true q20
                        have p22 : 0 ≤ (x3_1 : Int) := of_decide_eq_true (by first | (with_reducible assumption) | assumption)
                        have q22 : x3_1 < (a0.size : Int) := of_decide_eq_true (by first | (with_reducible assumption) | assumption)
                        have hx22 := bt_at a0 x3_1
                        replace p22 := eq_true p22
                        replace q22 := eq_true q22
                        have p24 : 0 ≤ (x3_1 : Int) := of_decide_eq_true (by first | (with_reducible assumption) | assumption)
                        have q24 : x3_1 < (a0.size : Int) := of_decide_eq_true (by first | (with_reducible assumption) | assumption)
                        have hx24 := bt_at a0 x3_1
                        replace p24 := eq_true p24
                        replace q24 := eq_true q24
                        have p26 : 0 ≤ (x3_1 : Int) := of_decide_eq_true (by first | (with_reducible assumption) | assumption)
                        have q26 : x3_1 < (a0.size : Int) := of_decide_eq_true (by first | (with_reducible assumption) | assumption)
                        have hx26 := bt_at a0 x3_1
                        replace p26 := eq_true p26
                        replace q26 := eq_true q26
                        go_wp2
                        go_roundg k1
                        case measure => have := HK1.out; omega
                        case rel => exact ⟨(wrap64 (x3_1 + 1)), (by first | rfl | (simp; done) | (simp [*]; done)), H', ⟨by have := HK1.out; omega⟩, by repeat (first | exact Drawn0.refl _ | apply Drawn0.step)⟩
                      · rw [if_neg c27] at H
                        have c27b0 : ((bt a0 x3_1) == 118) = false := beq_eq_false_iff_ne.mpr c27
                        have c27b1 : ((bt a0 x3_1) != 118) = true := bne_iff_ne.mpr c27
                        obtain rfl := Option.some.inj H
                        have p4 : 0 ≤ (x3_1 : Int) := of_decide_eq_true (by first | (with_reducible assumption) | assumption)
                        have q4 : x3_1 < (a0.size : Int) := of_decide_eq_true (by first | (with_reducible assumption) | assumption)
                        have hx4 := bt_at a0 x3_1
                        replace p4 := eq_true p4
                        replace q4 := eq_true q4
                        have p16 : 0 ≤ (x3_1 : Int) := of_decide_eq_true (by first | (with_reducible assumption) | assumption)
                        have q16 : x3_1 < (a0.size : Int) := of_decide_eq_true (by first | (with_reducible assumption) | assumption)
                        have hx16 := bt_at a0 x3_1
                        replace p16 := eq_true p16
                        replace q16 := eq_true q16
                        have p18 : 0 ≤ (x3_1 : Int) := of_decide_eq_true (by first | (with_reducible assumption) | assumption)
                        have q18 : x3_1 < (a0.size : Int) := of_decide_eq_true (by first | (with_reducible assumption) | assumption)
                        have hx18 := bt_at a0 x3_1
                        replace p18 := eq_true p18
                        replace q18 := eq_true q18
                        have p20 : 0 ≤ (x3_1 : Int) := of_decide_eq_true (by first | (with_reducible assumption) | assumption)
                        have q20 : x3_1 < (a0.size : Int) := of_decide_eq_true (by first | (with_reducible assumption) | assumption)
                        have hx20 := bt_at a0 x3_1
                        replace p20 := eq_true p20
                        replace q20 := eq_true q20
                        have p22 : 0 ≤ (x3_1 : Int) := of_decide_eq_true (by first | (with_reducible assumption) | assumption)
                        have q22 : x3_1 < (a0.size : Int) := of_decide_eq_true (by first | (with_reducible assumption) | assumption)
                        have hx22 := bt_at a0 x3_1
                        replace p22 := eq_true p22
                        replace q22 := eq_true q22
                        have p24 : 0 ≤ (x3_1 : Int) := of_decide_eq_true (by first | (with_reducible assumption) | assumption)
                        have q24 : x3_1 < (a0.size : Int) := of_decide_eq_true (by first | (with_reducible assumption) | assumption)
                        have hx24 := bt_at a0 x3_1
                        replace p24 := eq_true p24
                        replace q24 := eq_true q24
                        have p26 : 0 ≤ (x3_1 : Int) := of_decide_eq_true (by first | (with_reducible assumption) | assumption)
                        have q26 : x3_1 < (a0.size : Int) := of_decide_eq_true (by first | (with_reducible assumption) | assumption)
                        have hx26 := bt_at a0 x3_1
                        replace p26 := eq_true p26
                        replace q26 := eq_true q26
                        go_wp2
                        go_ret
                        exact ⟨by first | rfl | (simp; done) | (simp [*]; done), by repeat (first | exact Drawn0.refl _ | apply Drawn0.step)⟩
            · rw [if_neg c17] at H
              have c17b0 : decide (57 < (bt a0 x3_1)) = false := decide_eq_false c17
              clear c17
              have H' := Aside0.mk H
              clear H
              have p4 : 0 ≤ (x3_1 : Int) := of_decide_eq_true (by first | (with_reducible assumption) | assumption)
              have q4 : x3_1 < (a0.size : Int) := of_decide_eq_true (by first | (with_reducible assumption) | assumption)
              have hx4 := bt_at a0 x3_1
              replace p4 := eq_true p4
              replace q4 := eq_true q4
              have p16 : 0 ≤ (x3_1 : Int) := of_decide_eq_true (by first | (with_reducible assumption) | assumption)
              have q16 : x3_1 < (a0.size : Int) := of_decide_eq_true (by first | (with_reducible assumption) | assumption)
              have hx16 := bt_at a0 x3_1
              replace p16 := eq_true p16
              replace q16 := eq_true q16
              go_wp2
              go_roundg k1
              case measure => have := HK1.out; omega
              case rel => exact ⟨(wrap64 (x3_1 + 1)), (by first | rfl | (simp; done) | (simp [*]; done)), H', ⟨by have := HK1.out; omega⟩, by repeat (first | exact Drawn0.refl _ | apply Drawn0.step)⟩
        · rw [if_neg c3] at H
          exact absurd H (by simp)
      · rw [if_neg c2] at H
        have c2b0 : decide (x3_1 < (a0.size : Int)) = false := decide_eq_false c2
        clear c2
        obtain rfl := Option.some.inj H
        go_wp2
        go_ret
        exact ⟨by first | rfl | (simp; done) | (simp [*]; done), by repeat (first | exact Drawn0.refl _ | apply Drawn0.step)⟩
end Go.Proofs.YtgoeiflddikihaaGreatDoor.PFnIntersectAny
end
section
namespace Go.Proofs.YtgoeiflddikihaaGreatDoor.Ver
set_option linter.unusedSimpArgs false
open Go.RowKit Go.Proofs.YtgoeiflddikihaaGreatDoor.Dig Go.Proofs.YtgoeiflddikihaaGreatDoorW.PrintWords Go.Proofs.YtgoeiflddikihaaGreatDoor.Mem
theorem rowV : RowT Tryz.prog 197 6 := ⟨⟨_, Tryz.underlying197, rfl⟩, by kernel_rfl⟩
theorem rowP : RowT Tryz.prog 242 17 := ⟨⟨_, Tryz.underlying242, rfl⟩, by kernel_rfl⟩
theorem oneB : OneT Tryz.prog 4 := ⟨⟨_, Tryz.underlying4, rfl⟩, by kernel_rfl⟩
theorem oneU : OneT Tryz.prog 46 := ⟨⟨_, Tryz.underlying46, rfl⟩, by kernel_rfl⟩
theorem zeroV : (Tryz.prog.info? 197).bind (fun i => i.zero.map (·.cells)) = some zSV := by kernel_rfl
theorem zeroP : (Tryz.prog.info? 242).bind (fun i => i.zero.map (·.cells)) = some zP := by kernel_rfl
theorem bs_one (cs : Array Value) (h : cs.size = 17) : Tryz.prog.builtSlice 242 1 [(0, .agg cs)] = some cs := by
  obtain ⟨iv, hvi, hvz0, hvz1, _⟩ := info_parts infoP
  unfold Program.builtSlice
  simp only [hvi, hvz0, hvz1]
  rw [if_neg (by decide)]
  exact fill_one cs _ h (by rw [Array.size_map, Array.size_range])
abbrev tc120 : ByteArray := ⟨#[94, 49, 46, 50, 46, 48]⟩
theorem trim120 (w : World) : Calls Tryz.prog 142 #[.string t120] w fun e w' => e = .returned (.string t120) ∧ Drawn0 w w' :=
  PFnIntersectAny.semver_trim.calls 10 t120 t120 w (by kernel_rfl)
set_option maxRecDepth 20000 in
set_option maxHeartbeats 4000000 in
theorem read1_120 (w : World) (hv : Vars w) : Calls Tryz.prog 141 #[.string tc120, .bool false] w fun e w' => ∃ r, e = .returned (.tuple #[.iface 238 (.agg #[r]), .nilIface]) ∧ w'.ownsRow w.heap.size 242 17 r 1 (pcs v120 ⟨2, 0, 0, ⟨#[]⟩, ⟨#[]⟩, ⟨#[]⟩⟩ true true true false).toList ∧ Below w.heap.size w w' := by
  have HP := Lib.hid (fun W hb => partial120 W (Vars.below (w := w) hv hb))
  have HM := Aside0.mk (Blks.start w)
  have HA3 := Lib.hid (fun W => after_3 v120 (by decide) (by decide) W)
  have HA1 := Lib.hid (fun W => after_1 v120 (by decide) (by decide) W)
  dsimp only [v120, SV.cells] at HP HA3 HA1
  rw [show (0 : Int) + 1 = 1 from rfl] at HA3
  rw [show (1 : Int) + 1 = 2 from rfl] at HA1
  have hx1 : tc120.extract 1 6 = t120 := by kernel_rfl
  have hx2 : (⟨#[]⟩ : ByteArray) ++ tc120.extract 0 1 = ⟨#[94]⟩ := by kernel_rfl
  clear hv
  go_enter Tryz.func141, Tryz.ntmps141
  go_wp2_with fail
  refine wp_loop_rounds 2 ?_
  rw [rounds_succ]
  go_wp2_with fail
  rw [rounds_succ]
  go_wp2_with (first
    | (go_at_call 142; ((with_reducible refine (trim120 _).mono ?_); rintro e w4 ⟨rfl, ⟨n4, rfl⟩⟩))
    | (go_at_call 150; ((with_reducible refine (HP.out _ (Blks.bel (by repeat (first | exact HM.out | apply Blks.drewN | apply Blks.drew | apply Blks.other)))).mono ?_); rintro e w5 ⟨rfl, hb⟩; have HN := Aside0.mk (Blks.call (by repeat (first | exact HM.out | apply Blks.drewN | apply Blks.drew | apply Blks.other)) hb); clear HM hb; have HM := HN; clear HN))
    | (go_at_call 151; ((with_reducible refine (HA3.out _).mono ?_); rintro e w6 ⟨rfl, hb⟩; have HN := Aside0.mk (Blks.call (by repeat (first | exact HM.out | apply Blks.drewN | apply Blks.drew | apply Blks.other)) hb); clear HM hb; have HM := HN; clear HN))
    | (go_at_call 151; ((with_reducible refine (HA1.out _).mono ?_); rintro e w7 ⟨rfl, hb⟩; have HN := Aside0.mk (Blks.call (by repeat (first | exact HM.out | apply Blks.drewN | apply Blks.drew | apply Blks.other)) hb); clear HM hb; have HM := HN; clear HN))
    | (refine bk_load (by rfl) (by rfl) (by rfl) (by repeat (first | exact HM.out | apply Blks.drewN | apply Blks.drew | apply Blks.other)) (by repeat (first | exact List.Mem.head _ | apply List.Mem.tail)) (by first | exact rowV | exact rowP) (by repeat (first | exact Rd.nil | apply Rd.here | apply Rd.skip)) ?_)
    | (refine bk_load1 (by rfl) (by rfl) (by rfl) (by repeat (first | exact HM.out | apply Blks.drewN | apply Blks.drew | apply Blks.other)) (by repeat (first | exact List.Mem.head _ | apply List.Mem.tail)) (by first | exact oneU | exact oneB) (by repeat (first | exact Rd.nil | apply Rd.here | apply Rd.skip)) ?_)
    | (refine bk_store (by rfl) (by rfl) (by rfl) (by rfl) (by rfl) (by repeat (first | exact HM.out | apply Blks.drewN | apply Blks.drew | apply Blks.other)) (by first | exact rowV | exact rowP) (by rfl) (by simp [Value.oneCell']) (by repeat (first | exact List.Mem.head _ | apply List.Mem.tail)) (by repeat (first | exact Wr.nil | apply Wr.here | apply Wr.skip)) (by repeat (first | exact Up.here | apply Up.skip)) ?_; intro _ HN; clear HM; have HM := Aside0.mk HN; clear HN)
    | (refine bk_store1 (by rfl) (by rfl) (by rfl) (by rfl) (by first | exact (rfl : _ = Value.bool _) | exact (rfl : _ = Value.int _ _) | exact (rfl : _ = Value.string _) | exact (rfl : _ = Value.slice _ _ _) | exact (rfl : _ = Value.iface _ _) | exact (rfl : _ = Value.nilIface) | exact (rfl : _ = Value.pointer _)) (by repeat (first | exact HM.out | apply Blks.drewN | apply Blks.drew | apply Blks.other)) (by first | exact oneB) (by rfl) (by repeat (first | exact List.Mem.head _ | apply List.Mem.tail)) (by repeat (first | exact Wr.nil | apply Wr.here | apply Wr.skip)) (by repeat (first | exact Up.here | apply Up.skip)) ?_; intro _ HN; clear HM; have HM := Aside0.mk HN; clear HN)
    | (refine bk_alloc (by rfl) (by rfl) (by repeat (first | exact HM.out | apply Blks.drewN | apply Blks.drew | apply Blks.other)) (by first | exact zeroV | exact zeroP) ?_; intro _ _ HN; clear HM; have HM := Aside0.mk HN; clear HN)
    | (refine bk_slice (by rfl) (by rfl) (by repeat (first | exact HM.out | apply Blks.drewN | apply Blks.drew | apply Blks.other)) Tryz.underlying236 (by rw [Array.toList_map]; exact bs_one _ rfl) ?_; intro _ _ HN; clear HM; have HM := Aside0.mk HN; clear HN))
  go_ret2
  exact ⟨_, rfl, Blks.row HM.out (List.Mem.head _) rfl (by unfold maxLen; omega), HM.out.bel⟩
end Go.Proofs.YtgoeiflddikihaaGreatDoor.Ver
end
section
namespace Go.Proofs.YtgoeiflddikihaaGreatDoor.Ver
set_option linter.unusedSimpArgs false
open Go.RowKit Go.Proofs.YtgoeiflddikihaaGreatDoorW.PrintWords Go.Proofs.YtgoeiflddikihaaGreatDoor.Ord
theorem at_third (w : World) (a b c : Obj) : (((w.alloc a).alloc b).alloc c).heap[w.heap.size + 1 + 1]? = some c := by
  have := alloc_at ((w.alloc a).alloc b) c
  rw [alloc_size, alloc_size] at this
  exact this
set_option maxRecDepth 20000 in
set_option maxHeartbeats 16000000 in
theorem both_zero (lo hi : SV) (c d : Bool) (w : World) :
    Calls Tryz.prog 298 #[.agg zP, .agg (pcs lo hi true true c d)] w fun e w' => e = .returned (.agg (pcs lo hi true true c d)) ∧ Below w.heap.size w w' := by
  have HB := Aside0.mk (Below.refl w.heap.size w)
  obtain ⟨la, lb, lc, lp, lm, lo'⟩ := lo
  obtain ⟨ha, hb', hc, hp, hm, ho⟩ := hi
  dsimp only [SV.cells, pcs]
  have HNE := Lib.hid (show w.heap.size ≠ w.heap.size + 1 + 1 from by omega)
  have ha1 : ∀ W, Sem.run Tryz.prog (Builtin.append_ #[240, 240] 240 #[.slice none 0 0, .slice none 0 0]) W = .ok (.slice none 0 0) W := fun _ => by kernel_rfl
  go_enter Tryz.func298, Tryz.ntmps298
  go_wp2_with fail
  go_region
  go_wp2_with fail
  go_region
  go_upto_region 17 with (fail)
  go_cut [7] (fun v7 wx => v7 = .slice none 0 0 ∧ Aside0 (wx.heap[w.heap.size]? = some (bP la lb lc lp lm lo' ha hb' hc hp hm ho true true c d)) ∧ Aside0 (wx.heap[w.heap.size + 1 + 1]? = some (.cells zP 242 (0, 0))) ∧ Aside0 (Below w.heap.size w wx))
  case first =>
    go_region
    go_wp2_with fail
    go_meet
    case rel => exact ⟨rfl, ⟨by repeat (first | exact alloc_at w _ | apply blk_drew | apply blk_alloc)⟩, ⟨by repeat (first | exact at_third w _ _ _ | apply blk_drew)⟩, ⟨by repeat (first | exact HB.out | apply below_alloc | apply pw_below_drewN | apply below_drew)⟩⟩
  case rest =>
    obtain ⟨rfl, KP, KR, HB5⟩ := hcut
    have u1 := blk_cell KP.out 16
    have u2 := blk_frozen KP.out 16
    have KP2 := Aside0.mk (blk_put (cs' := #[.int .u64 la, .int .u64 lb, .int .u64 lc, .string lp, .string lm, .string lo', .int .u64 ha, .int .u64 hb', .int .u64 hc, .string hp, .string hm, .string ho, .bool true, .bool true, .bool c, .bool d, .slice none 0 0]) KP.out 16 (.slice none 0 0) rfl)
    have KR2 := Aside0.mk (blk_far KR.out (p := ⟨w.heap.size, 16, none⟩) HNE.out.symm (.slice none 0 0))
    have KF := Aside0.mk (setRow_heap _ _ _ #[.int .u64 la, .int .u64 lb, .int .u64 lc, .string lp, .string lm, .string lo', .int .u64 ha, .int .u64 hb', .int .u64 hc, .string hp, .string hm, .string ho, .bool true, .bool true, .bool c, .bool d, .slice none 0 0] _ _ KR2.out)
    have BF := Aside0.mk (below_setRow (below_set (j := 16) (v := .slice none 0 0) HB5.out (g := w.heap.size) (Nat.le_refl _)) (g := w.heap.size + 1 + 1) (by omega) #[.int .u64 la, .int .u64 lb, .int .u64 lc, .string lp, .string lm, .string lo', .int .u64 ha, .int .u64 hb', .int .u64 hc, .string hp, .string hm, .string ho, .bool true, .bool true, .bool c, .bool d, .slice none 0 0])
    have HI := Lib.hid (show (Tryz.prog.info? 242).map (·.size) = some (#[.int .u64 la, .int .u64 lb, .int .u64 lc, .string lp, .string lm, .string lo', .int .u64 ha, .int .u64 hb', .int .u64 hc, .string hp, .string hm, .string ho, .bool true, .bool true, .bool c, .bool d, .slice none 0 0] : Array Value).size from sizeP)
    go_wp2_with fail
    refine wp_loop_rounds 1 ?_
    rw [rounds_succ]
    go_wp2_with (first
      | (refine wpList_load_row (by rfl) 242 (.tmp 2) (by rfl) w.heap.size (by rfl) 242 #[.int .u64 la, .int .u64 lb, .int .u64 lc, .string lp, .string lm, .string lo', .int .u64 ha, .int .u64 hb', .int .u64 hc, .string hp, .string hm, .string ho, .bool true, .bool true, .bool c, .bool d, .slice none 0 0] (0, 0) _ KP2.out Tryz.underlying242 rfl HI.out ?_)
      | (refine wpList_store_row (by rfl) 242 (.tmp 4) (.tmp 87) (by rfl) (w.heap.size + 1 + 1) #[.int .u64 la, .int .u64 lb, .int .u64 lc, .string lp, .string lm, .string lo', .int .u64 ha, .int .u64 hb', .int .u64 hc, .string hp, .string hm, .string ho, .bool true, .bool true, .bool c, .bool d, .slice none 0 0] (by rfl) (by rfl) 242 zP KR2.out HI.out rfl (by simp [Value.oneCell']) ?_))
    refine bodyPost_ret (results_single rfl (.cell _ 242 #[.int .u64 la, .int .u64 lb, .int .u64 lc, .string lp, .string lm, .string lo', .int .u64 ha, .int .u64 hb', .int .u64 hc, .string hp, .string hm, .string ho, .bool true, .bool true, .bool c, .bool d, .slice none 0 0] (0, 0) _ rfl KF.out Tryz.underlying242 rfl HI.out .nil)) rfl ⟨rfl, BF.out⟩
end Go.Proofs.YtgoeiflddikihaaGreatDoor.Ver
end
section
namespace Go.Proofs.YtgoeiflddikihaaGreatDoor.PFnIntersectAny
open Go.RowKit Go.Proofs.YtgoeiflddikihaaGreatDoorW.PrintWords Go.Proofs.YtgoeiflddikihaaGreatDoorW.PrintLast Go.Proofs.YtgoeiflddikihaaGreatDoorW.PrintMore
attribute [local go_sem] max2_int min2_int max_two min_two max_three min_three max_four min_four   -- for this text's walks alone
set_option linter.unusedVariables false
set_option linter.unusedSimpArgs false
def semver_split.l0 : Nat → ByteArray → ByteArray → List ByteArray → Int → Int → Option (List ByteArray)
  | 0, _, _, _, _, _ => none
  | k + 1, x0, x1, x5, x6, x7 => if (wrap64 (x7 + (x1.size : Int))) ≤ (x0.size : Int) then (if 0 ≤ x7 then (if x7 ≤ (wrap64 (x7 + (x1.size : Int))) then (if (x0.extract (x7 : Int).toNat ((wrap64 (x7 + (x1.size : Int))) : Int).toNat).toList = x1.toList then (if 0 ≤ x6 then (if x6 ≤ x7 then (if x7 ≤ (x0.size : Int) then (if x5.length < 8796093022208 then (semver_split.l0 k x0 x1 (x5 ++ [x0.extract (x6 : Int).toNat (x7 : Int).toNat]) (wrap64 (x7 + (x1.size : Int))) (wrap64 ((wrap64 ((wrap64 (x7 + (x1.size : Int))) - 1)) + 1))) else (none)) else (none)) else (none)) else (none)) else (semver_split.l0 k x0 x1 x5 x6 (wrap64 (x7 + 1)))) else (none)) else (none)) else (if 0 ≤ x6 then (if x6 ≤ (x0.size : Int) then (if x5.length < 8796093022208 then (some (x5 ++ [x0.extract (x6 : Int).toNat x0.size])) else (none)) else (none)) else (none))
def semver_split.f (k : Nat) (a0 : ByteArray) (a1 : ByteArray) : Option (List ByteArray) := semver_split.l0 k a0 a1 ([] : List ByteArray) 0 0
theorem semver_split.mono_l : ∀ k, (∀ y0 y1 y2 y3 y4, LeO (semver_split.l0 k y0 y1 y2 y3 y4) (semver_split.l0 (k + 1) y0 y1 y2 y3 y4))
  | 0 => fun _ _ _ _ _ r h => by simp [semver_split.l0] at h
  | k + 1 => by
    have ih0 := semver_split.mono_l k
    · intro y0 y1 y2 y3 y4
      unfold semver_split.l0
      repeat' first
      | (with_reducible exact ih0 _ _ _ _ _)
      | (with_reducible exact LeO.refl _)
      | (with_reducible exact LeO.none _)
      | (with_reducible refine LeO.ite ?_ ?_)
      | (with_reducible refine LeO.bind ?_ (fun _ => ?_))
      | exact ih0 _ _ _ _ _
      | exact LeO.none _
      | refine LeO.ite ?_ ?_
      | refine LeO.bind ?_ (fun _ => ?_)
theorem semver_split.mono : ∀ a0 a1 k, LeO (semver_split.f k a0 a1) (semver_split.f (k + 1) a0 a1) := by
  intro a0 a1 k
  have ih0 := semver_split.mono_l k
  unfold semver_split.f
  repeat' first
      | (with_reducible exact ih0 _ _ _ _ _)
      | (with_reducible exact LeO.refl _)
      | (with_reducible exact LeO.none _)
      | (with_reducible refine LeO.ite ?_ ?_)
      | (with_reducible refine LeO.bind ?_ (fun _ => ?_))
      | exact ih0 _ _ _ _ _
      | exact LeO.none _
      | refine LeO.ite ?_ ?_
      | refine LeO.bind ?_ (fun _ => ?_)
set_option maxHeartbeats 8000000 in
set_option maxRecDepth 100000 in
theorem semver_split.calls (k : Nat) (a0 : ByteArray) (a1 : ByteArray) (r : List ByteArray) (w : World) (h : semver_split.f k a0 a1 = some r) :
    Calls Tryz.prog 140 #[.string a0, .string a1] w fun e w' => ∃ v0_ : Value, e = .returned (v0_) ∧ Kd.R Kd.string 9 w' w.heap.size (fun _ => True) v0_ r ∧ Below w.heap.size w w' := by
  have HB := Aside0.mk (Below.refl w.heap.size w)
  have H : (semver_split.l0 k a0 a1 ([] : List ByteArray) 0 0) = some r := h
  clear h
  have H' := Aside0.mk H
  clear H
  go_enter Tryz.func140, Tryz.ntmps140
  go_wp2
  go_loopg [5, 6, 7] k (fun kq v5 v6 v7 w' => ∃ (x5_1 : List ByteArray) (x6_1 : Int) (x7_1 : Int), v6 = .int .i64 x6_1 ∧ v7 = .int .i64 x7_1 ∧ Aside0 (semver_split.l0 kq a0 a1 x5_1 x6_1 x7_1 = some r) ∧ Aside0 (kq ≤ k) ∧ Aside0 (Kd.R Kd.string 9 w' w.heap.size (fun _ => True) v5 x5_1) ∧ Aside0 (Below w.heap.size w w'))
  case atStart => exact ⟨(([] : List ByteArray)), (0), (0), (by first | rfl | (simp; done) | (simp [*]; done)), (by first | rfl | (simp; done) | (simp [*]; done)), H', ⟨Nat.le_refl _⟩, ⟨by first | exact Kd.R_nil _ _ _ _ _ | exact Kd.N_nil _ _ _ _ _ | exact Kd.V_nil _ _ _ _ _ | exact Kd.Q_nil _ _ _ _ _ | exact Kd.S_nil _ _ _ _ _⟩, ⟨by repeat (first | (with_reducible first | exact HB.out | apply below_alloc | apply pw_below_drewN | apply below_drew1) | exact HB.out)⟩⟩
  case round =>
    clear H'
    try clear c1
    try clear p2
    obtain ⟨x5_1, x6_1, x7_1, rfl, rfl, HA, HK1, HO_5, HB⟩ := hrel
    cases gk with
    | zero => exact absurd HA.out (by simp [semver_split.l0])
    | succ k1 =>
      have H := HA.out
      clear HA
      simp only [semver_split.l0] at H
      by_cases c3 : (wrap64 (x7_1 + (a1.size : Int))) ≤ (a0.size : Int)
      · rw [if_pos c3] at H
        have c3b0 : decide ((wrap64 (x7_1 + (a1.size : Int))) ≤ (a0.size : Int)) = true := decide_eq_true c3
        clear c3
        by_cases c4 : 0 ≤ x7_1
        · rw [if_pos c4] at H
          have c4b0 := eq_true c4
          have c4b1 : decide (0 ≤ x7_1) = true := decide_eq_true c4
          clear c4
          by_cases c5 : x7_1 ≤ (wrap64 (x7_1 + (a1.size : Int)))
          · rw [if_pos c5] at H
            have c5b0 := eq_true c5
            have c5b1 : decide (x7_1 ≤ (wrap64 (x7_1 + (a1.size : Int)))) = true := decide_eq_true c5
            have c6b0 := eq_true (of_decide_eq_true (by first | (with_reducible assumption) | assumption) : (wrap64 (x7_1 + (a1.size : Int))) ≤ (a0.size : Int))
            by_cases c7 : (a0.extract (x7_1 : Int).toNat ((wrap64 (x7_1 + (a1.size : Int))) : Int).toNat).toList = a1.toList
            · rw [if_pos c7] at H
              have c7b0 : ((a0.extract (x7_1 : Int).toNat ((wrap64 (x7_1 + (a1.size : Int))) : Int).toNat).toList == a1.toList) = true := beq_iff_eq.mpr c7
              have c7b1 : ((a0.extract (x7_1 : Int).toNat ((wrap64 (x7_1 + (a1.size : Int))) : Int).toNat).toList != a1.toList) = false := bne_eq_false_iff_eq.mpr c7
              clear c7
              by_cases c8 : 0 ≤ x6_1
              · rw [if_pos c8] at H
                have c8b0 := eq_true c8
                have c8b1 : decide (0 ≤ x6_1) = true := decide_eq_true c8
                clear c8
                by_cases c9 : x6_1 ≤ x7_1
                · rw [if_pos c9] at H
                  have c9b0 := eq_true c9
                  have c9b1 : decide (x6_1 ≤ x7_1) = true := decide_eq_true c9
                  clear c9
                  by_cases c10 : x7_1 ≤ (a0.size : Int)
                  · rw [if_pos c10] at H
                    have c10b0 := eq_true c10
                    have c10b1 : decide (x7_1 ≤ (a0.size : Int)) = true := decide_eq_true c10
                    clear c10
                    by_cases c11 : x5_1.length < 8796093022208
                    · rw [if_pos c11] at H
                      have LMc11 := Aside0.mk c11
                      clear c11
                      obtain ⟨y137, hy137⟩ : ∃ y_ : List ByteArray, y_ = (x5_1 ++ [a0.extract (x6_1 : Int).toNat (x7_1 : Int).toNat]) := ⟨_, rfl⟩
                      replace H : (semver_split.l0 k1 a0 a1 y137 (wrap64 (x7_1 + (a1.size : Int))) (wrap64 ((wrap64 ((wrap64 (x7_1 + (a1.size : Int))) - 1)) + 1))) = some r := by first | (rw [hy137]; with_reducible exact H) | (have H2_ := (Option.bind_some _ _).symm.trans H; rw [hy137]; with_reducible exact H2_) | (have H2_ := (Option.bind_some _ _).symm.trans H; with_reducible exact H2_) | with_reducible exact H | (rw [hy137]; exact H) | exact H
                      have Ny137 := Aside0.mk hy137
                      clear hy137
                      have H' := Aside0.mk H
                      clear H
                      go_wp2_with (first | ((with_reducible refine gate_builtin (b := .append) (xs := #[.tmp 26, .tmp 31]) rfl ?_); at_builtin; refine Kd.R_append Kd.string (w0 := w) w.heap.size rfl (.tmp 26) (.tmp 31) 48 9 (.string ⟨#[]⟩) 16 rfl Tryz.underlying48 info9 rfl (by decide) (by omega) u5 x5_1 (a0.extract (x6_1 : Int).toNat (x7_1 : Int).toNat) [.string (a0.extract (x6_1 : Int).toNat (x7_1 : Int).toNat)] (fun _ => True) (fun _ => False) rfl rfl ?aP (fun _ hk => hk.elim) ?aF ?aO ?aB ?aS ?aL ?_; (case aP => exact rfl); (case aB => exact (by repeat (first | (with_reducible first | exact HB.out | apply below_alloc | apply pw_below_drewN | apply below_drew1) | exact HB.out))); (case aF => exact (fun _ _ => trivial)); (case aO => exact (by (with_reducible repeat (first | apply Kd.R_alloc | apply Kd.R_drewN | apply Kd.R_drew)); exact HO_5.out)); (case aS => exact (below_size (by repeat (first | (with_reducible first | exact HB.out | apply below_alloc | apply pw_below_drewN | apply below_drew1) | exact HB.out)))); (case aL => have := LMc11.out; omega); intro v138 w12 ho hb hg hat; rw [← Ny137.out] at ho; have n0_ := Aside0.mk (hb); have n1_ := Aside0.mk (ho); clear HB; clear HO_5; have HB := n0_; have HO139 := n1_; clear n0_ n1_; clear ho hb hg hat))
                      go_roundg k1
                      case measure => have := HK1.out; omega
                      case rel => exact ⟨(y137), (wrap64 (x7_1 + (a1.size : Int))), (wrap64 ((wrap64 ((wrap64 (x7_1 + (a1.size : Int))) - 1)) + 1)), (by first | rfl | (simp; done) | (simp [*]; done)), (by first | rfl | (simp; done) | (simp [*]; done)), H', ⟨by have := HK1.out; omega⟩, ⟨by (with_reducible repeat (first | apply Kd.R_alloc | apply Kd.R_drewN | apply Kd.R_drew)); exact HO139.out⟩, ⟨by repeat (first | (with_reducible first | exact HB.out | apply below_alloc | apply pw_below_drewN | apply below_drew1) | exact HB.out)⟩⟩
                    · rw [if_neg c11] at H
                      exact absurd H (by simp)
                  · rw [if_neg c10] at H
                    exact absurd H (by simp)
                · rw [if_neg c9] at H
                  exact absurd H (by simp)
              · rw [if_neg c8] at H
                exact absurd H (by simp)
            · rw [if_neg c7] at H
              have c7b0 : ((a0.extract (x7_1 : Int).toNat ((wrap64 (x7_1 + (a1.size : Int))) : Int).toNat).toList == a1.toList) = false := beq_eq_false_iff_ne.mpr c7
              have c7b1 : ((a0.extract (x7_1 : Int).toNat ((wrap64 (x7_1 + (a1.size : Int))) : Int).toNat).toList != a1.toList) = true := bne_iff_ne.mpr c7
              have H' := Aside0.mk H
              clear H
              go_wp2
              go_roundg k1
              case measure => have := HK1.out; omega
              case rel => exact ⟨(x5_1), (x6_1), (wrap64 (x7_1 + 1)), (by first | rfl | (simp; done) | (simp [*]; done)), (by first | rfl | (simp; done) | (simp [*]; done)), H', ⟨by have := HK1.out; omega⟩, ⟨by (with_reducible repeat (first | apply Kd.R_alloc | apply Kd.R_drewN | apply Kd.R_drew)); exact HO_5.out⟩, ⟨by repeat (first | (with_reducible first | exact HB.out | apply below_alloc | apply pw_below_drewN | apply below_drew1) | exact HB.out)⟩⟩
          · rw [if_neg c5] at H
            exact absurd H (by simp)
        · rw [if_neg c4] at H
          exact absurd H (by simp)
      · rw [if_neg c3] at H
        have c3b0 : decide ((wrap64 (x7_1 + (a1.size : Int))) ≤ (a0.size : Int)) = false := decide_eq_false c3
        clear c3
        by_cases c13 : 0 ≤ x6_1
        · rw [if_pos c13] at H
          have c13b0 := eq_true c13
          have c13b1 : decide (0 ≤ x6_1) = true := decide_eq_true c13
          clear c13
          by_cases c14 : x6_1 ≤ (a0.size : Int)
          · rw [if_pos c14] at H
            have c14b0 := eq_true c14
            have c14b1 : decide (x6_1 ≤ (a0.size : Int)) = true := decide_eq_true c14
            clear c14
            by_cases c15 : x5_1.length < 8796093022208
            · rw [if_pos c15] at H
              have LMc15 := Aside0.mk c15
              clear c15
              obtain ⟨y140, hy140⟩ : ∃ y_ : List ByteArray, y_ = (x5_1 ++ [a0.extract (x6_1 : Int).toNat a0.size]) := ⟨_, rfl⟩
              replace H : (some y140) = some r := by first | (rw [hy140]; with_reducible exact H) | (have H2_ := (Option.bind_some _ _).symm.trans H; rw [hy140]; with_reducible exact H2_) | (have H2_ := (Option.bind_some _ _).symm.trans H; with_reducible exact H2_) | with_reducible exact H | (rw [hy140]; exact H) | exact H
              have Ny140 := Aside0.mk hy140
              clear hy140
              obtain rfl := Option.some.inj H
              go_wp2_with (first | ((with_reducible refine gate_builtin (b := .append) (xs := #[.tmp 39, .tmp 43]) rfl ?_); at_builtin; refine Kd.R_append Kd.string (w0 := w) w.heap.size rfl (.tmp 39) (.tmp 43) 48 9 (.string ⟨#[]⟩) 16 rfl Tryz.underlying48 info9 rfl (by decide) (by omega) u5 x5_1 (a0.extract (x6_1 : Int).toNat a0.size) [.string (a0.extract (x6_1 : Int).toNat a0.size)] (fun _ => True) (fun _ => False) rfl rfl ?aP (fun _ hk => hk.elim) ?aF ?aO ?aB ?aS ?aL ?_; (case aP => exact rfl); (case aB => exact (by repeat (first | (with_reducible first | exact HB.out | apply below_alloc | apply pw_below_drewN | apply below_drew1) | exact HB.out))); (case aF => exact (fun _ _ => trivial)); (case aO => exact (by (with_reducible repeat (first | apply Kd.R_alloc | apply Kd.R_drewN | apply Kd.R_drew)); exact HO_5.out)); (case aS => exact (below_size (by repeat (first | (with_reducible first | exact HB.out | apply below_alloc | apply pw_below_drewN | apply below_drew1) | exact HB.out)))); (case aL => have := LMc15.out; omega); intro v141 w16 ho hb hg hat; rw [← Ny140.out] at ho; have n0_ := Aside0.mk (hb); have n1_ := Aside0.mk (ho); clear HB; clear HO_5; have HB := n0_; have HO142 := n1_; clear n0_ n1_; clear ho hb hg hat))
              go_ret
              exact ⟨_, by first | rfl | (simp [errW_none, errW_some] <;> rfl) | (simp [*, errW_none, errW_some] <;> rfl), by (with_reducible repeat (first | apply Kd.R_alloc | apply Kd.R_drewN | apply Kd.R_drew)); exact HO142.out, by repeat (first | (with_reducible first | exact HB.out | apply below_alloc | apply pw_below_drewN | apply below_drew1) | exact HB.out)⟩
            · rw [if_neg c15] at H
              exact absurd H (by simp)
          · rw [if_neg c14] at H
            exact absurd H (by simp)
        · rw [if_neg c13] at H
          exact absurd H (by simp)
end Go.Proofs.YtgoeiflddikihaaGreatDoor.PFnIntersectAny
end
section
namespace Go.Proofs.YtgoeiflddikihaaGreatDoor.Ver
set_option linter.unusedSimpArgs false
open Go.RowKit Go.Proofs.YtgoeiflddikihaaGreatDoor.Dig Go.Proofs.YtgoeiflddikihaaGreatDoorW.PrintWords Go.Proofs.YtgoeiflddikihaaGreatDoor.Mem
theorem rowR : RowT Tryz.prog 238 1 := ⟨⟨_, Tryz.underlying238, rfl⟩, by kernel_rfl⟩
theorem oneS : OneT Tryz.prog 9 := ⟨⟨_, Tryz.underlying9, rfl⟩, by kernel_rfl⟩
theorem oneSl : OneT Tryz.prog 236 := ⟨⟨_, Tryz.underlying236, rfl⟩, by kernel_rfl⟩
theorem zeroR : (Tryz.prog.info? 238).bind (fun i => i.zero.map (·.cells)) = some #[.slice none 0 0] := by kernel_rfl
abbrev bars : ByteArray := ⟨#[124, 124]⟩
abbrev comma : ByteArray := ⟨#[44]⟩
abbrev v2 : SV := ⟨2, 0, 0, ⟨#[]⟩, ⟨#[]⟩, ⟨#[]⟩⟩
def P120 : List Value := (pcs v120 v2 true true true false).toList
def SplitEnd (s : ByteArray) (w : World) (e : Ending) (w' : World) : Prop :=
  ∃ g cap cells rest, e = .returned (.slice (some ⟨g, 0, none⟩) 1 cap) ∧ w.heap.size ≤ g ∧ w'.heap[g]? = some (.cells cells 9 (0, 0)) ∧ cells.toList = .string s :: rest ∧ Below w.heap.size w w'
theorem split1 {s t : ByteArray} (h : PFnIntersectAny.semver_split.f 20 s t = some [s]) (w : World) : Calls Tryz.prog 140 #[.string s, .string t] w (SplitEnd s w) := by
  refine (PFnIntersectAny.semver_split.calls 20 s t [s] w h).mono ?_
  rintro e w' ⟨v, rfl, hr, hb⟩
  obtain ⟨g, cap, cells, rest, rfl, hg, hc, hl⟩ := strs_block hr (Nat.zero_lt_one)
  exact ⟨g, cap, cells, rest, rfl, hg, hc, hl, hb⟩
theorem trimc (w : World) : Calls Tryz.prog 142 #[.string tc120] w fun e w' => e = .returned (.string tc120) ∧ Drawn0 w w' :=
  PFnIntersectAny.semver_trim.calls 10 tc120 tc120 w (by kernel_rfl)
def RangeEnd (w : World) (e : Ending) (w' : World) : Prop :=
  ∃ g cap cells rest, e = .returned (.tuple #[.iface 238 (.agg #[.slice (some ⟨g, 0, none⟩) 1 cap]), .nilIface]) ∧ w.heap.size ≤ g ∧ w'.heap[g]? = some (.cells cells 242 (0, 0)) ∧ cells.toList = P120 ++ rest ∧ RowF 1 cap 17 P120 rest ∧ Below w.heap.size w w'
theorem read1_120' (w : World) (hv : Vars w) : Calls Tryz.prog 141 #[.string tc120, .bool false] w (RangeEnd w) := by
  refine (read1_120 w hv).mono ?_
  rintro e w' ⟨r, rfl, ho, hb⟩
  obtain ⟨g, cap, cells, rest, rfl, hg, hc, hl, hf⟩ := row_block ho (by omega)
  exact ⟨g, cap, cells, rest, rfl, hg, hc, hl, hf, hb⟩
def RangeEnd1 (w : World) (e : Ending) (w' : World) : Prop :=
  ∃ g cap cells rest, e = .returned (.iface 238 (.agg #[.slice (some ⟨g, 0, none⟩) 1 cap])) ∧ w.heap.size ≤ g ∧ w'.heap[g]? = some (.cells cells 242 (0, 0)) ∧ cells.toList = P120 ++ rest ∧ RowF 1 cap 17 P120 rest ∧ Below w.heap.size w w'
theorem isect120 (base : Nat) (r1 r2 : Value) (w : World) (ho1 : w.ownsRow base 242 17 r1 1 zP.toList) (ho2 : w.ownsRow base 242 17 r2 1 P120) :
    Calls Tryz.prog 295 #[.agg #[r1], .iface 238 (.agg #[r2])] w (RangeEnd1 w) := by
  have hp := pcell_pcs v120 v2 true true true false
  refine (isect_one zP (pcs v120 v2 true true true false) (pcs v120 v2 true true true false) pcell_z hp hp base r1 r2 w ho1 ho2 (both_zero v120 v2 true false) (empty_in v120 v2 (by decide) (by decide) (by kernel_rfl) true false)).mono ?_
  rintro e w' ⟨r, rfl, ho, hb⟩
  obtain ⟨g, cap, cells, rest, rfl, hg, hc, hl, hf⟩ := row_block ho (by omega)
  exact ⟨g, cap, cells, rest, rfl, hg, hc, hl, hf, hb⟩
set_option maxRecDepth 20000 in
set_option maxHeartbeats 4000000 in
theorem con120 (w : World) (hv : Vars w) : Calls Tryz.prog 127 #[.string tc120, .bool false] w (RangeEnd w) := by
  have HP := Lib.hid (fun W hb => read1_120' W (Vars.below (w := w) hv hb))
  have HM := Aside0.mk (Blks.start w)
  have HS1 := Lib.hid (split1 (s := tc120) (t := bars) (by kernel_rfl))
  have HS2 := Lib.hid (split1 (s := tc120) (t := comma) (by kernel_rfl))
  have f1 := c_range_sv
  have f2 := c_range_range
  have f3 := m_range_Intersect
  obtain ⟨iv, hvi, hvz0, hvz1, hvz2⟩ := info_parts infoP
  clear hv
  go_enter Tryz.func127, Tryz.ntmps127
  go_wp2_with (first
    | (go_at_call 140; ((with_reducible refine (HS1.out _).mono ?_); rintro e w1 ⟨g1, cap1, cells1, rest1, rfl, hg, hc, hl, hb⟩; have HN := Aside0.mk (Blks.add (by repeat (first | exact HM.out | apply Blks.drewN | apply Blks.drew | apply Blks.other)) hb hg hc hl); clear HM hb hg hc hl; have HM := HN; clear HN))
    | (refine bk_load1 (by rfl) (by rfl) (by rfl) (by repeat (first | exact HM.out | apply Blks.drewN | apply Blks.drew | apply Blks.other)) (by repeat (first | exact List.Mem.head _ | apply List.Mem.tail)) (by first | exact oneS | exact oneSl | exact oneB) (by repeat (first | exact Rd.nil | apply Rd.here | apply Rd.skip)) ?_) | (refine bk_load (by rfl) (by rfl) (by rfl) (by repeat (first | exact HM.out | apply Blks.drewN | apply Blks.drew | apply Blks.other)) (by repeat (first | exact List.Mem.head _ | apply List.Mem.tail)) (by first | exact rowV | exact rowP | exact rowR) (by repeat (first | exact Rd.nil | apply Rd.here | apply Rd.skip)) ?_) | (refine bk_alloc (by rfl) (by rfl) (by repeat (first | exact HM.out | apply Blks.drewN | apply Blks.drew | apply Blks.other)) (by first | exact zeroR | exact zeroV | exact zeroP) ?_; intro _ _ HN; clear HM; have HM := Aside0.mk HN; clear HN) | (refine bk_store1 (by rfl) (by rfl) (by rfl) (by rfl) (by first | exact (rfl : _ = Value.bool _) | exact (rfl : _ = Value.int _ _) | exact (rfl : _ = Value.string _) | exact (rfl : _ = Value.slice _ _ _) | exact (rfl : _ = Value.iface _ _) | exact (rfl : _ = Value.nilIface) | exact (rfl : _ = Value.pointer _)) (by repeat (first | exact HM.out | apply Blks.drewN | apply Blks.drew | apply Blks.other)) (by first | exact oneSl | exact oneB) (by rfl) (by repeat (first | exact List.Mem.head _ | apply List.Mem.tail)) (by repeat (first | exact Wr.nil | apply Wr.here | apply Wr.skip)) (by repeat (first | exact Up.here | apply Up.skip)) ?_; intro _ HN; clear HM; have HM := Aside0.mk HN; clear HN) | (refine bk_store (by rfl) (by rfl) (by rfl) (by rfl) (by rfl) (by repeat (first | exact HM.out | apply Blks.drewN | apply Blks.drew | apply Blks.other)) (by first | exact rowR | exact rowV | exact rowP) (by rfl) (by simp [Value.oneCell']) (by repeat (first | exact List.Mem.head _ | apply List.Mem.tail)) (by repeat (first | exact Wr.nil | apply Wr.here | apply Wr.skip)) (by repeat (first | exact Up.here | apply Up.skip)) ?_; intro _ HN; clear HM; have HM := Aside0.mk HN; clear HN) | (refine bk_slice (by rfl) (by rfl) (by repeat (first | exact HM.out | apply Blks.drewN | apply Blks.drew | apply Blks.other)) Tryz.underlying236 (by rw [Array.toList_map]; exact bs_one _ rfl) ?_; intro _ _ HN; clear HM; have HM := Aside0.mk HN; clear HN))
  refine wp_loop_rounds 2 ?_
  rw [rounds_succ]
  go_wp2_with (first
    | (go_at_call 140; ((with_reducible refine (HS2.out _).mono ?_); rintro e w2 ⟨g2, cap2, cells2, rest2, rfl, hg, hc, hl, hb⟩; have HN := Aside0.mk (Blks.add (by repeat (first | exact HM.out | apply Blks.drewN | apply Blks.drew | apply Blks.other)) hb hg hc hl); clear HM hb hg hc hl; have HM := HN; clear HN))
    | (refine bk_load1 (by rfl) (by rfl) (by rfl) (by repeat (first | exact HM.out | apply Blks.drewN | apply Blks.drew | apply Blks.other)) (by repeat (first | exact List.Mem.head _ | apply List.Mem.tail)) (by first | exact oneS | exact oneSl | exact oneB) (by repeat (first | exact Rd.nil | apply Rd.here | apply Rd.skip)) ?_) | (refine bk_load (by rfl) (by rfl) (by rfl) (by repeat (first | exact HM.out | apply Blks.drewN | apply Blks.drew | apply Blks.other)) (by repeat (first | exact List.Mem.head _ | apply List.Mem.tail)) (by first | exact rowV | exact rowP | exact rowR) (by repeat (first | exact Rd.nil | apply Rd.here | apply Rd.skip)) ?_) | (refine bk_alloc (by rfl) (by rfl) (by repeat (first | exact HM.out | apply Blks.drewN | apply Blks.drew | apply Blks.other)) (by first | exact zeroR | exact zeroV | exact zeroP) ?_; intro _ _ HN; clear HM; have HM := Aside0.mk HN; clear HN) | (refine bk_store1 (by rfl) (by rfl) (by rfl) (by rfl) (by first | exact (rfl : _ = Value.bool _) | exact (rfl : _ = Value.int _ _) | exact (rfl : _ = Value.string _) | exact (rfl : _ = Value.slice _ _ _) | exact (rfl : _ = Value.iface _ _) | exact (rfl : _ = Value.nilIface) | exact (rfl : _ = Value.pointer _)) (by repeat (first | exact HM.out | apply Blks.drewN | apply Blks.drew | apply Blks.other)) (by first | exact oneSl | exact oneB) (by rfl) (by repeat (first | exact List.Mem.head _ | apply List.Mem.tail)) (by repeat (first | exact Wr.nil | apply Wr.here | apply Wr.skip)) (by repeat (first | exact Up.here | apply Up.skip)) ?_; intro _ HN; clear HM; have HM := Aside0.mk HN; clear HN) | (refine bk_store (by rfl) (by rfl) (by rfl) (by rfl) (by rfl) (by repeat (first | exact HM.out | apply Blks.drewN | apply Blks.drew | apply Blks.other)) (by first | exact rowR | exact rowV | exact rowP) (by rfl) (by simp [Value.oneCell']) (by repeat (first | exact List.Mem.head _ | apply List.Mem.tail)) (by repeat (first | exact Wr.nil | apply Wr.here | apply Wr.skip)) (by repeat (first | exact Up.here | apply Up.skip)) ?_; intro _ HN; clear HM; have HM := Aside0.mk HN; clear HN) | (refine bk_slice (by rfl) (by rfl) (by repeat (first | exact HM.out | apply Blks.drewN | apply Blks.drew | apply Blks.other)) Tryz.underlying236 (by rw [Array.toList_map]; exact bs_one _ rfl) ?_; intro _ _ HN; clear HM; have HM := Aside0.mk HN; clear HN))
  refine wp_loop_rounds 2 ?_
  rw [rounds_succ]
  go_wp2_with (first
    | (go_at_call 142; ((with_reducible refine (trimc _).mono ?_); rintro e w4 ⟨rfl, ⟨n4, rfl⟩⟩))
    | (go_at_call 141; ((with_reducible refine (HP.out _ (Blks.bel (by repeat (first | exact HM.out | apply Blks.drewN | apply Blks.drew | apply Blks.other)))).mono ?_); rintro e w5 ⟨g5, cap5, cells5, rest5, rfl, hg, hc, hl, hf, hb⟩; have HN := Aside0.mk (Blks.add (by repeat (first | exact HM.out | apply Blks.drewN | apply Blks.drew | apply Blks.other)) hb hg hc hl); clear HM hb hg hc hl; have HM := HN; clear HN; have HF5 := Lib.hid hf; clear hf))
    | (go_at_call 295; (refine (isect120 w.heap.size _ _ _ (Blks.row (by repeat (first | exact HM.out | apply Blks.drewN | apply Blks.drew | apply Blks.other)) (by repeat (first | exact List.Mem.head _ | apply List.Mem.tail)) rfl (by unfold maxLen; omega)) (Blks.rowOf (by repeat (first | exact HM.out | apply Blks.drewN | apply Blks.drew | apply Blks.other)) (by repeat (first | exact List.Mem.head _ | apply List.Mem.tail)) HF5.out)).mono ?_); rintro e w6 ⟨g6, cap6, cells6, rest6, rfl, hg, hc, hl, hf, hb⟩; have HN := Aside0.mk (Blks.add (by repeat (first | exact HM.out | apply Blks.drewN | apply Blks.drew | apply Blks.other)) hb hg hc hl); clear HM hb hg hc hl; have HM := HN; clear HN; have HF6 := Lib.hid hf; clear hf)
    | (refine bk_load1 (by rfl) (by rfl) (by rfl) (by repeat (first | exact HM.out | apply Blks.drewN | apply Blks.drew | apply Blks.other)) (by repeat (first | exact List.Mem.head _ | apply List.Mem.tail)) (by first | exact oneS | exact oneSl | exact oneB) (by repeat (first | exact Rd.nil | apply Rd.here | apply Rd.skip)) ?_) | (refine bk_load (by rfl) (by rfl) (by rfl) (by repeat (first | exact HM.out | apply Blks.drewN | apply Blks.drew | apply Blks.other)) (by repeat (first | exact List.Mem.head _ | apply List.Mem.tail)) (by first | exact rowV | exact rowP | exact rowR) (by repeat (first | exact Rd.nil | apply Rd.here | apply Rd.skip)) ?_) | (refine bk_alloc (by rfl) (by rfl) (by repeat (first | exact HM.out | apply Blks.drewN | apply Blks.drew | apply Blks.other)) (by first | exact zeroR | exact zeroV | exact zeroP) ?_; intro _ _ HN; clear HM; have HM := Aside0.mk HN; clear HN) | (refine bk_store1 (by rfl) (by rfl) (by rfl) (by rfl) (by first | exact (rfl : _ = Value.bool _) | exact (rfl : _ = Value.int _ _) | exact (rfl : _ = Value.string _) | exact (rfl : _ = Value.slice _ _ _) | exact (rfl : _ = Value.iface _ _) | exact (rfl : _ = Value.nilIface) | exact (rfl : _ = Value.pointer _)) (by repeat (first | exact HM.out | apply Blks.drewN | apply Blks.drew | apply Blks.other)) (by first | exact oneSl | exact oneB) (by rfl) (by repeat (first | exact List.Mem.head _ | apply List.Mem.tail)) (by repeat (first | exact Wr.nil | apply Wr.here | apply Wr.skip)) (by repeat (first | exact Up.here | apply Up.skip)) ?_; intro _ HN; clear HM; have HM := Aside0.mk HN; clear HN) | (refine bk_store (by rfl) (by rfl) (by rfl) (by rfl) (by rfl) (by repeat (first | exact HM.out | apply Blks.drewN | apply Blks.drew | apply Blks.other)) (by first | exact rowR | exact rowV | exact rowP) (by rfl) (by simp [Value.oneCell']) (by repeat (first | exact List.Mem.head _ | apply List.Mem.tail)) (by repeat (first | exact Wr.nil | apply Wr.here | apply Wr.skip)) (by repeat (first | exact Up.here | apply Up.skip)) ?_; intro _ HN; clear HM; have HM := Aside0.mk HN; clear HN) | (refine bk_slice (by rfl) (by rfl) (by repeat (first | exact HM.out | apply Blks.drewN | apply Blks.drew | apply Blks.other)) Tryz.underlying236 (by rw [Array.toList_map]; exact bs_one _ rfl) ?_; intro _ _ HN; clear HM; have HM := Aside0.mk HN; clear HN))
  rw [rounds_succ]
  go_wp2_with (first
    | (at_builtin; (refine wpList_append_own _ (by rfl) _ _ 236 (by rfl) w.heap.size 242 iv (.agg zP) 17 176 Tryz.underlying236 hvi hvz0 hvz1 hvz2 rfl (by decide) _ 0 _ (by rfl) (World.ownsRow_nil _ _ _ _) ⟨g6, 0, none⟩ 1 cap6 P120 (by rfl) ?c0 ?c1 ?c2 ?c3 ?c4 ?c5 ?_))
    | (refine bk_load1 (by rfl) (by rfl) (by rfl) (by repeat (first | exact HM.out | apply Blks.drewN | apply Blks.drew | apply Blks.other)) (by repeat (first | exact List.Mem.head _ | apply List.Mem.tail)) (by first | exact oneS | exact oneSl | exact oneB) (by repeat (first | exact Rd.nil | apply Rd.here | apply Rd.skip)) ?_) | (refine bk_load (by rfl) (by rfl) (by rfl) (by repeat (first | exact HM.out | apply Blks.drewN | apply Blks.drew | apply Blks.other)) (by repeat (first | exact List.Mem.head _ | apply List.Mem.tail)) (by first | exact rowV | exact rowP | exact rowR) (by repeat (first | exact Rd.nil | apply Rd.here | apply Rd.skip)) ?_) | (refine bk_alloc (by rfl) (by rfl) (by repeat (first | exact HM.out | apply Blks.drewN | apply Blks.drew | apply Blks.other)) (by first | exact zeroR | exact zeroV | exact zeroP) ?_; intro _ _ HN; clear HM; have HM := Aside0.mk HN; clear HN) | (refine bk_store1 (by rfl) (by rfl) (by rfl) (by rfl) (by first | exact (rfl : _ = Value.bool _) | exact (rfl : _ = Value.int _ _) | exact (rfl : _ = Value.string _) | exact (rfl : _ = Value.slice _ _ _) | exact (rfl : _ = Value.iface _ _) | exact (rfl : _ = Value.nilIface) | exact (rfl : _ = Value.pointer _)) (by repeat (first | exact HM.out | apply Blks.drewN | apply Blks.drew | apply Blks.other)) (by first | exact oneSl | exact oneB) (by rfl) (by repeat (first | exact List.Mem.head _ | apply List.Mem.tail)) (by repeat (first | exact Wr.nil | apply Wr.here | apply Wr.skip)) (by repeat (first | exact Up.here | apply Up.skip)) ?_; intro _ HN; clear HM; have HM := Aside0.mk HN; clear HN) | (refine bk_store (by rfl) (by rfl) (by rfl) (by rfl) (by rfl) (by repeat (first | exact HM.out | apply Blks.drewN | apply Blks.drew | apply Blks.other)) (by first | exact rowR | exact rowV | exact rowP) (by rfl) (by simp [Value.oneCell']) (by repeat (first | exact List.Mem.head _ | apply List.Mem.tail)) (by repeat (first | exact Wr.nil | apply Wr.here | apply Wr.skip)) (by repeat (first | exact Up.here | apply Up.skip)) ?_; intro _ HN; clear HM; have HM := Aside0.mk HN; clear HN) | (refine bk_slice (by rfl) (by rfl) (by repeat (first | exact HM.out | apply Blks.drewN | apply Blks.drew | apply Blks.other)) Tryz.underlying236 (by rw [Array.toList_map]; exact bs_one _ rfl) ?_; intro _ _ HN; clear HM; have HM := Aside0.mk HN; clear HN))
  case c0 => rfl
  case c1 => exact Blks.addr HM.out (by repeat (first | exact List.Mem.head _ | apply List.Mem.tail))
  case c2 => exact fun u hu => (Array.all_eq_true_iff_forall_mem.1 (pcell_pcs v120 v2 true true true false).one) u (by simpa [P120] using hu)
  case c3 => unfold maxLen; omega
  case c4 => omega
  case c5 => exact HM.out.bel.size
  intro v9 w9 ho9 hg9 _
  obtain ⟨g9, cap9, rfl, _, _⟩ := ho9.form (by omega)
  have HN := Aside0.mk (Blks.call HM.out (pw_below_grown (Below.refl _ _) _ (Nat.le_refl _) hg9 (fun kk hk => by simp [Value.ownBlock] at hk)))
  clear HM ho9 hg9
  have HM := HN
  clear HN
  go_wp2_with (first | (refine bk_load1 (by rfl) (by rfl) (by rfl) (by repeat (first | exact HM.out | apply Blks.drewN | apply Blks.drew | apply Blks.other)) (by repeat (first | exact List.Mem.head _ | apply List.Mem.tail)) (by first | exact oneS | exact oneSl | exact oneB) (by repeat (first | exact Rd.nil | apply Rd.here | apply Rd.skip)) ?_) | (refine bk_load (by rfl) (by rfl) (by rfl) (by repeat (first | exact HM.out | apply Blks.drewN | apply Blks.drew | apply Blks.other)) (by repeat (first | exact List.Mem.head _ | apply List.Mem.tail)) (by first | exact rowV | exact rowP | exact rowR) (by repeat (first | exact Rd.nil | apply Rd.here | apply Rd.skip)) ?_) | (refine bk_alloc (by rfl) (by rfl) (by repeat (first | exact HM.out | apply Blks.drewN | apply Blks.drew | apply Blks.other)) (by first | exact zeroR | exact zeroV | exact zeroP) ?_; intro _ _ HN; clear HM; have HM := Aside0.mk HN; clear HN) | (refine bk_store1 (by rfl) (by rfl) (by rfl) (by rfl) (by first | exact (rfl : _ = Value.bool _) | exact (rfl : _ = Value.int _ _) | exact (rfl : _ = Value.string _) | exact (rfl : _ = Value.slice _ _ _) | exact (rfl : _ = Value.iface _ _) | exact (rfl : _ = Value.nilIface) | exact (rfl : _ = Value.pointer _)) (by repeat (first | exact HM.out | apply Blks.drewN | apply Blks.drew | apply Blks.other)) (by first | exact oneSl | exact oneB) (by rfl) (by repeat (first | exact List.Mem.head _ | apply List.Mem.tail)) (by repeat (first | exact Wr.nil | apply Wr.here | apply Wr.skip)) (by repeat (first | exact Up.here | apply Up.skip)) ?_; intro _ HN; clear HM; have HM := Aside0.mk HN; clear HN) | (refine bk_store (by rfl) (by rfl) (by rfl) (by rfl) (by rfl) (by repeat (first | exact HM.out | apply Blks.drewN | apply Blks.drew | apply Blks.other)) (by first | exact rowR | exact rowV | exact rowP) (by rfl) (by simp [Value.oneCell']) (by repeat (first | exact List.Mem.head _ | apply List.Mem.tail)) (by repeat (first | exact Wr.nil | apply Wr.here | apply Wr.skip)) (by repeat (first | exact Up.here | apply Up.skip)) ?_; intro _ HN; clear HM; have HM := Aside0.mk HN; clear HN) | (refine bk_slice (by rfl) (by rfl) (by repeat (first | exact HM.out | apply Blks.drewN | apply Blks.drew | apply Blks.other)) Tryz.underlying236 (by rw [Array.toList_map]; exact bs_one _ rfl) ?_; intro _ _ HN; clear HM; have HM := Aside0.mk HN; clear HN))
  rw [rounds_succ]
  go_wp2_with (first | (refine bk_load1 (by rfl) (by rfl) (by rfl) (by repeat (first | exact HM.out | apply Blks.drewN | apply Blks.drew | apply Blks.other)) (by repeat (first | exact List.Mem.head _ | apply List.Mem.tail)) (by first | exact oneS | exact oneSl | exact oneB) (by repeat (first | exact Rd.nil | apply Rd.here | apply Rd.skip)) ?_) | (refine bk_load (by rfl) (by rfl) (by rfl) (by repeat (first | exact HM.out | apply Blks.drewN | apply Blks.drew | apply Blks.other)) (by repeat (first | exact List.Mem.head _ | apply List.Mem.tail)) (by first | exact rowV | exact rowP | exact rowR) (by repeat (first | exact Rd.nil | apply Rd.here | apply Rd.skip)) ?_) | (refine bk_alloc (by rfl) (by rfl) (by repeat (first | exact HM.out | apply Blks.drewN | apply Blks.drew | apply Blks.other)) (by first | exact zeroR | exact zeroV | exact zeroP) ?_; intro _ _ HN; clear HM; have HM := Aside0.mk HN; clear HN) | (refine bk_store1 (by rfl) (by rfl) (by rfl) (by rfl) (by first | exact (rfl : _ = Value.bool _) | exact (rfl : _ = Value.int _ _) | exact (rfl : _ = Value.string _) | exact (rfl : _ = Value.slice _ _ _) | exact (rfl : _ = Value.iface _ _) | exact (rfl : _ = Value.nilIface) | exact (rfl : _ = Value.pointer _)) (by repeat (first | exact HM.out | apply Blks.drewN | apply Blks.drew | apply Blks.other)) (by first | exact oneSl | exact oneB) (by rfl) (by repeat (first | exact List.Mem.head _ | apply List.Mem.tail)) (by repeat (first | exact Wr.nil | apply Wr.here | apply Wr.skip)) (by repeat (first | exact Up.here | apply Up.skip)) ?_; intro _ HN; clear HM; have HM := Aside0.mk HN; clear HN) | (refine bk_store (by rfl) (by rfl) (by rfl) (by rfl) (by rfl) (by repeat (first | exact HM.out | apply Blks.drewN | apply Blks.drew | apply Blks.other)) (by first | exact rowR | exact rowV | exact rowP) (by rfl) (by simp [Value.oneCell']) (by repeat (first | exact List.Mem.head _ | apply List.Mem.tail)) (by repeat (first | exact Wr.nil | apply Wr.here | apply Wr.skip)) (by repeat (first | exact Up.here | apply Up.skip)) ?_; intro _ HN; clear HM; have HM := Aside0.mk HN; clear HN) | (refine bk_slice (by rfl) (by rfl) (by repeat (first | exact HM.out | apply Blks.drewN | apply Blks.drew | apply Blks.other)) Tryz.underlying236 (by rw [Array.toList_map]; exact bs_one _ rfl) ?_; intro _ _ HN; clear HM; have HM := Aside0.mk HN; clear HN))
  go_ret2
  exact ⟨g6, cap6, _, rest6, rfl, HM.out.new (g6, P120 ++ rest6, 242) (by repeat (first | exact List.Mem.head _ | apply List.Mem.tail)), HM.out.has (g6, P120 ++ rest6, 242) (by repeat (first | exact List.Mem.head _ | apply List.Mem.tail)), rfl, HF6.out, HM.out.bel⟩
end Go.Proofs.YtgoeiflddikihaaGreatDoor.Ver
end
section
namespace Go.Proofs.YtgoeiflddikihaaGreatDoor.Ver
open Go.RowKit Go.Proofs.YtgoeiflddikihaaGreatDoorW.PrintWords
theorem scm (rv : Value) (v : SV) (w : World)
    (hm : ∀ W, Below w.heap.size w W → Calls Tryz.prog 296 #[.agg #[rv], .agg v.cells] W fun e w' => e = .returned .nilIface ∧ Below W.heap.size W w') :
    Calls Tryz.prog 251 #[.agg #[.iface 238 (.agg #[rv])], Vers.val (.un (.sem v))] w fun e w' => e = .returned (.bool true) ∧ Below w.heap.size w w' := by
  have HM := Lib.hid hm
  have HB := Aside0.mk (Below.refl w.heap.size w)
  have f1 := c_sem_sem
  have f2 := m_range_Matches
  obtain ⟨va, vb, vc, vp, vm, vo⟩ := v
  dsimp only [Vers.val, Vers.tid, Vers.inner, Unp.val, Unp.tid, Unp.inner, SV.cells] at HM ⊢
  clear hm
  go_enter Tryz.func251, Tryz.ntmps251
  go_wp2_with (first
    | (go_at_call 296; ((with_reducible refine (HM.out _ (by repeat (first | exact HB.out | apply below_alloc | apply pw_below_drewN))).mono ?_); rintro e w1 ⟨rfl, hb1⟩; have HB5 := Aside0.mk (below_trans (by repeat (first | exact HB.out | apply below_alloc | apply pw_below_drewN)) hb1); clear hb1)))
  go_ret
  exact ⟨rfl, HB5.out⟩
end Go.Proofs.YtgoeiflddikihaaGreatDoor.Ver
end
