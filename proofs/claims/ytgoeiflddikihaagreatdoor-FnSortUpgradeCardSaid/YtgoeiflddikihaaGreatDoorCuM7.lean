/- Merged by program out of: Pcomparex0, VPd, Pfirstx0, VPe, VOrd, VCmp. -/
import Derived.Test.YtgoeiflddikihaaGreatDoorProg
import Derived.Below
import Derived.Deep.Draws
import Derived.Deep.AppendLies
import Derived.Maps.AppendAt
import Derived.OwnWalk
import Derived.Laws.BytesArg
import Derived.Laws.MakeOwn
import Derived.Laws.OwnMore
import Derived.Deep.OwnRows
import Derived.Tactics
import Derived.Lib.ConvBytes
import Derived.Laws.Slices
import Derived.WalkKit
import Derived.KernelRfl
import Derived.RowKit3
import Derived.Deep.LoopGhost
import Derived.Deep.QuietTactic
import Derived.BigQuiet
import Derived.WideLaws
import Derived.Deep.DeepCutAuto
import Derived.Deep.CutBlock
import Derived.Deep.RegionHeld3
import Derived.Laws.Rows
import Derived.Lib.AppendStr
import Derived.ArgAppend
import Derived.Laws.IdiomCopy
import Derived.OrdersHeld
import Derived.Laws.BitsLemmas
import Derived.RowKit
import Derived.Test.YtgoeiflddikihaaGreatDoorCuM0
import Derived.Test.YtgoeiflddikihaaGreatDoorCuM1
import Derived.Test.YtgoeiflddikihaaGreatDoorCuM4
import Derived.Sort.Statements
section
namespace Go.Proofs.YtgoeiflddikihaaGreatDoor.Pcompare
open Go.RowKit Go.Proofs.YtgoeiflddikihaaGreatDoorW.PrintWords Go.Proofs.YtgoeiflddikihaaGreatDoorW.PrintLast Go.Proofs.YtgoeiflddikihaaGreatDoorW.PrintMore
attribute [local go_sem] max2_int min2_int max_two min_two max_three min_three max_four min_four   -- for this text's walks alone
set_option linter.unusedVariables false
set_option linter.unusedSimpArgs false
def errW : Option Int → Value
  | none => .nilIface
  | some c => .iface 0 (.int .i64 c)
theorem errW_none : errW none = .nilIface := rfl
theorem errW_some (c : Int) : errW (some c) = .iface 0 (.int .i64 c) := rfl
end Go.Proofs.YtgoeiflddikihaaGreatDoor.Pcompare
end
section
namespace Go.Proofs.YtgoeiflddikihaaGreatDoor.Pcompare
open Go.RowKit Go.Proofs.YtgoeiflddikihaaGreatDoorW.PrintWords Go.Proofs.YtgoeiflddikihaaGreatDoorW.PrintLast Go.Proofs.YtgoeiflddikihaaGreatDoorW.PrintMore
attribute [local go_sem] max2_int min2_int max_two min_two max_three min_three max_four min_four   -- for this text's walks alone
set_option linter.unusedVariables false
set_option linter.unusedSimpArgs false
def semver_number.l0 : Nat → ByteArray → Int → Option (Bool)
  | 0, _, _ => none
  | k + 1, x0, x3 => if x3 < (x0.size : Int) then (if 0 ≤ x3 then (if (bt x0 x3) < 48 then (some false) else (if (bt x0 x3) > 57 then (some false) else (semver_number.l0 k x0 (wrap64 (x3 + 1))))) else (none)) else (some (x0.toList != ([] : List UInt8)))
def semver_number.f (k : Nat) (a0 : ByteArray) : Option (Bool) := semver_number.l0 k a0 0
theorem semver_number.mono_l : ∀ k, (∀ y0 y1, LeO (semver_number.l0 k y0 y1) (semver_number.l0 (k + 1) y0 y1))
  | 0 => fun _ _ r h => by simp [semver_number.l0] at h
  | k + 1 => by
    have ih0 := semver_number.mono_l k
    · intro y0 y1
      unfold semver_number.l0
      repeat' first
      | (with_reducible exact ih0 _ _)
      | (with_reducible exact LeO.refl _)
      | (with_reducible exact LeO.none _)
      | (with_reducible refine LeO.ite ?_ ?_)
      | (with_reducible refine LeO.bind ?_ (fun _ => ?_))
      | exact ih0 _ _
      | exact LeO.none _
      | refine LeO.ite ?_ ?_
      | refine LeO.bind ?_ (fun _ => ?_)
theorem semver_number.mono : ∀ a0 k, LeO (semver_number.f k a0) (semver_number.f (k + 1) a0) := by
  intro a0 k
  have ih0 := semver_number.mono_l k
  unfold semver_number.f
  repeat' first
      | (with_reducible exact ih0 _ _)
      | (with_reducible exact LeO.refl _)
      | (with_reducible exact LeO.none _)
      | (with_reducible refine LeO.ite ?_ ?_)
      | (with_reducible refine LeO.bind ?_ (fun _ => ?_))
      | exact ih0 _ _
      | exact LeO.none _
      | refine LeO.ite ?_ ?_
      | refine LeO.bind ?_ (fun _ => ?_)
set_option maxHeartbeats 8000000 in
set_option maxRecDepth 100000 in
theorem semver_number.calls (k : Nat) (a0 : ByteArray) (r : Bool) (w : World) (h : semver_number.f k a0 = some r) :
    Calls Tryz.prog 212 #[.string a0] w fun e w' => e = .returned (.bool r) ∧ Drawn0 w w' := by
  have H : (semver_number.l0 k a0 0) = some r := h
  clear h
  have H' := Aside0.mk H
  clear H
  go_enter Tryz.func212, Tryz.ntmps212
  go_wp2
  go_loopg [3] k (fun kq v3 w' => ∃ (x3_1 : Int), v3 = .int .i64 x3_1 ∧ Aside0 (semver_number.l0 kq a0 x3_1 = some r) ∧ Aside0 (kq ≤ k) ∧ Drawn0 w w')
  case atStart => exact ⟨(0), (by first | rfl | (simp; done) | (simp [*]; done)), H', ⟨Nat.le_refl _⟩, by repeat (first | exact Drawn0.refl _ | apply Drawn0.step)⟩
  case round =>
    clear H'
    obtain ⟨x3_1, rfl, HA, HK1, ⟨m1, rfl⟩⟩ := hrel
    cases gk with
    | zero => exact absurd HA.out (by simp [semver_number.l0])
    | succ k1 =>
      have H := HA.out
      clear HA
      simp only [semver_number.l0] at H
      by_cases c2 : x3_1 < (a0.size : Int)
      · rw [if_pos c2] at H
        have c2b0 : decide (x3_1 < (a0.size : Int)) = true := decide_eq_true c2
        clear c2
        by_cases c3 : 0 ≤ x3_1
        · rw [if_pos c3] at H
          have c3b0 : decide (0 ≤ x3_1) = true := decide_eq_true c3
          clear c3
          by_cases c5 : (bt a0 x3_1) < 48
          · rw [if_pos c5] at H
            have c5b0 : decide ((bt a0 x3_1) < 48) = true := decide_eq_true c5
            clear c5
            obtain rfl := Option.some.inj H
            have p4 : 0 ≤ (x3_1 : Int) := of_decide_eq_true (by first | (with_reducible assumption) | assumption)
            have q4 : x3_1 < (a0.size : Int) := of_decide_eq_true (by first | (with_reducible assumption) | assumption)
            have hx4 := bt_at a0 x3_1
            replace p4 := eq_true p4
            replace q4 := eq_true q4
            go_wp2
            go_ret
            exact ⟨by first | rfl | (simp; done) | (simp [*]; done), by repeat (first | exact Drawn0.refl _ | apply Drawn0.step)⟩
          · rw [if_neg c5] at H
            have c5b0 : decide ((bt a0 x3_1) < 48) = false := decide_eq_false c5
            clear c5
            by_cases c7 : (bt a0 x3_1) > 57
            · rw [if_pos c7] at H
              have c7b0 : decide (57 < (bt a0 x3_1)) = true := decide_eq_true c7
              clear c7
              obtain rfl := Option.some.inj H
              have p4 : 0 ≤ (x3_1 : Int) := of_decide_eq_true (by first | (with_reducible assumption) | assumption)
              have q4 : x3_1 < (a0.size : Int) := of_decide_eq_true (by first | (with_reducible assumption) | assumption)
              have hx4 := bt_at a0 x3_1
              replace p4 := eq_true p4
              replace q4 := eq_true q4
              have p6 : 0 ≤ (x3_1 : Int) := of_decide_eq_true (by first | (with_reducible assumption) | assumption)
              have q6 : x3_1 < (a0.size : Int) := of_decide_eq_true (by first | (with_reducible assumption) | assumption)
              have hx6 := bt_at a0 x3_1
              replace p6 := eq_true p6
              replace q6 := eq_true q6
              go_wp2
              go_ret
              exact ⟨by first | rfl | (simp; done) | (simp [*]; done), by repeat (first | exact Drawn0.refl _ | apply Drawn0.step)⟩
            · rw [if_neg c7] at H
              have c7b0 : decide (57 < (bt a0 x3_1)) = false := decide_eq_false c7
              clear c7
              have H' := Aside0.mk H
              clear H
              have p4 : 0 ≤ (x3_1 : Int) := of_decide_eq_true (by first | (with_reducible assumption) | assumption)
              have q4 : x3_1 < (a0.size : Int) := of_decide_eq_true (by first | (with_reducible assumption) | assumption)
              have hx4 := bt_at a0 x3_1
              replace p4 := eq_true p4
              replace q4 := eq_true q4
              have p6 : 0 ≤ (x3_1 : Int) := of_decide_eq_true (by first | (with_reducible assumption) | assumption)
              have q6 : x3_1 < (a0.size : Int) := of_decide_eq_true (by first | (with_reducible assumption) | assumption)
              have hx6 := bt_at a0 x3_1
              replace p6 := eq_true p6
              replace q6 := eq_true q6
              go_wp2
              go_roundg k1
              case measure => have := HK1.out; omega
              case rel => exact ⟨(wrap64 (x3_1 + 1)), (by first | rfl | (simp; done) | (simp [*]; done)), H', ⟨by have := HK1.out; omega⟩, by repeat (first | exact Drawn0.refl _ | apply Drawn0.step)⟩
        · rw [if_neg c3] at H
          exact absurd H (by simp)
      · rw [if_neg c2] at H
        have c2b0 : decide (x3_1 < (a0.size : Int)) = false := decide_eq_false c2
        clear c2
        obtain rfl := Option.some.inj H
        go_wp2
        go_ret
        refine ⟨?_, by repeat (first | exact Drawn0.refl _ | apply Drawn0.step)⟩
        show Ending.returned (Value.bool (!a0.toList.isEmpty)) = _
        cases a0.toList <;> rfl
def semver_bare.l0 : Nat → ByteArray → Option (ByteArray)
  | 0, _ => none
  | k + 1, x0 => if (x0.size : Int) > 1 then (if 0 < (x0.size : Int) then (if (bt x0 0) = 48 then (if 1 ≤ (x0.size : Int) then (semver_bare.l0 k (x0.extract 1 x0.size)) else (none)) else (some x0)) else (none)) else (some x0)
def semver_bare.f (k : Nat) (a0 : ByteArray) : Option (ByteArray) := semver_bare.l0 k a0
theorem semver_bare.mono_l : ∀ k, (∀ y0, LeO (semver_bare.l0 k y0) (semver_bare.l0 (k + 1) y0))
  | 0 => fun _ r h => by simp [semver_bare.l0] at h
  | k + 1 => by
    have ih0 := semver_bare.mono_l k
    · intro y0
      unfold semver_bare.l0
      repeat' first
      | (with_reducible exact ih0 _)
      | (with_reducible exact LeO.refl _)
      | (with_reducible exact LeO.none _)
      | (with_reducible refine LeO.ite ?_ ?_)
      | (with_reducible refine LeO.bind ?_ (fun _ => ?_))
      | exact ih0 _
      | exact LeO.none _
      | refine LeO.ite ?_ ?_
      | refine LeO.bind ?_ (fun _ => ?_)
theorem semver_bare.mono : ∀ a0 k, LeO (semver_bare.f k a0) (semver_bare.f (k + 1) a0) := by
  intro a0 k
  have ih0 := semver_bare.mono_l k
  unfold semver_bare.f
  repeat' first
      | (with_reducible exact ih0 _)
      | (with_reducible exact LeO.refl _)
      | (with_reducible exact LeO.none _)
      | (with_reducible refine LeO.ite ?_ ?_)
      | (with_reducible refine LeO.bind ?_ (fun _ => ?_))
      | exact ih0 _
      | exact LeO.none _
      | refine LeO.ite ?_ ?_
      | refine LeO.bind ?_ (fun _ => ?_)
set_option maxHeartbeats 8000000 in
set_option maxRecDepth 100000 in
theorem semver_bare.calls (k : Nat) (a0 : ByteArray) (r : ByteArray) (w : World) (h : semver_bare.f k a0 = some r) :
    Calls Tryz.prog 213 #[.string a0] w fun e w' => e = .returned (.string r) ∧ Drawn0 w w' := by
  have H : (semver_bare.l0 k a0) = some r := h
  clear h
  have H' := Aside0.mk H
  clear H
  go_enter Tryz.func213, Tryz.ntmps213
  go_wp2
  go_loopg [0] k (fun kq v0 w' => ∃ (x0_1 : ByteArray), v0 = .string x0_1 ∧ Aside0 (semver_bare.l0 kq x0_1 = some r) ∧ Aside0 (kq ≤ k) ∧ Drawn0 w w')
  case atStart => exact ⟨(a0), (by first | rfl | (simp; done) | (simp [*]; done)), H', ⟨Nat.le_refl _⟩, by repeat (first | exact Drawn0.refl _ | apply Drawn0.step)⟩
  case round =>
    clear H'
    obtain ⟨x0_1, rfl, HA, HK1, ⟨m1, rfl⟩⟩ := hrel
    cases gk with
    | zero => exact absurd HA.out (by simp [semver_bare.l0])
    | succ k1 =>
      have H := HA.out
      clear HA
      simp only [semver_bare.l0] at H
      by_cases c2 : (x0_1.size : Int) > 1
      · rw [if_pos c2] at H
        have c2b0 : decide (1 < (x0_1.size : Int)) = true := decide_eq_true c2
        have c2b1 : decide (1 < x0_1.size) = true := decide_eq_true (by omega)
        clear c2
        by_cases c3 : 0 < (x0_1.size : Int)
        · rw [if_pos c3] at H
          have c3b0 : decide (0 < (x0_1.size : Int)) = true := decide_eq_true c3
          have c3b1 : decide (0 < x0_1.size) = true := decide_eq_true (by omega)
          clear c3
          by_cases c5 : (bt x0_1 0) = 48
          · rw [if_pos c5] at H
            have c5b0 : ((bt x0_1 0) == 48) = true := beq_iff_eq.mpr c5
            have c5b1 : ((bt x0_1 0) != 48) = false := bne_eq_false_iff_eq.mpr c5
            clear c5
            by_cases c6 : 1 ≤ (x0_1.size : Int)
            · rw [if_pos c6] at H
              have c6b0 := eq_true c6
              have c6b1 : decide (1 ≤ (x0_1.size : Int)) = true := decide_eq_true c6
              clear c6
              have H' := Aside0.mk H
              clear H
              have p4 : 0 ≤ (0 : Int) := (by omega)
              have q4 : 0 < x0_1.size := (by have : (0 : Int) < (x0_1.size : Int) := of_decide_eq_true (by first | (with_reducible assumption) | assumption); omega)
              have hx4 : ∀ h : 0 < x0_1.size, ((x0_1[0]'h).toNat : Int) = bt x0_1 0 := bt_at x0_1 0
              clear p4
              have qi4 : (0 < (x0_1.size : Int)) = True := eq_true (of_decide_eq_true (by first | (with_reducible assumption) | assumption))
              replace q4 := eq_true q4
              go_wp2
              go_roundg k1
              case measure => have := HK1.out; omega
              case rel => exact ⟨(x0_1.extract 1 x0_1.size), (by first | rfl | (simp; done) | (simp [*]; done)), H', ⟨by have := HK1.out; omega⟩, by repeat (first | exact Drawn0.refl _ | apply Drawn0.step)⟩
            · rw [if_neg c6] at H
              exact absurd H (by simp)
          · rw [if_neg c5] at H
            have c5b0 : ((bt x0_1 0) == 48) = false := beq_eq_false_iff_ne.mpr c5
            have c5b1 : ((bt x0_1 0) != 48) = true := bne_iff_ne.mpr c5
            obtain rfl := Option.some.inj H
            have p4 : 0 ≤ (0 : Int) := (by omega)
            have q4 : 0 < x0_1.size := (by have : (0 : Int) < (x0_1.size : Int) := of_decide_eq_true (by first | (with_reducible assumption) | assumption); omega)
            have hx4 : ∀ h : 0 < x0_1.size, ((x0_1[0]'h).toNat : Int) = bt x0_1 0 := bt_at x0_1 0
            clear p4
            have qi4 : (0 < (x0_1.size : Int)) = True := eq_true (of_decide_eq_true (by first | (with_reducible assumption) | assumption))
            replace q4 := eq_true q4
            go_wp2
            go_ret
            exact ⟨by first | rfl | (simp; done) | (simp [*]; done), by repeat (first | exact Drawn0.refl _ | apply Drawn0.step)⟩
        · rw [if_neg c3] at H
          exact absurd H (by simp)
      · rw [if_neg c2] at H
        have c2b0 : decide (1 < (x0_1.size : Int)) = false := decide_eq_false c2
        have c2b1 : decide (1 < x0_1.size) = false := decide_eq_false (by omega)
        clear c2
        obtain rfl := Option.some.inj H
        go_wp2
        go_ret
        exact ⟨by first | rfl | (simp; done) | (simp [*]; done), by repeat (first | exact Drawn0.refl _ | apply Drawn0.step)⟩
end Go.Proofs.YtgoeiflddikihaaGreatDoor.Pcompare
end
section
namespace Go.Proofs.YtgoeiflddikihaaGreatDoor.Pfirst
open Go.RowKit Go.Proofs.YtgoeiflddikihaaGreatDoorW.PrintWords Go.Proofs.YtgoeiflddikihaaGreatDoorW.PrintLast Go.Proofs.YtgoeiflddikihaaGreatDoorW.PrintMore
attribute [local go_sem] max2_int min2_int max_two min_two max_three min_three max_four min_four   -- for this text's walks alone
set_option linter.unusedVariables false
set_option linter.unusedSimpArgs false
def errW : Option Int → Value
  | none => .nilIface
  | some c => .iface 0 (.int .i64 c)
theorem errW_none : errW none = .nilIface := rfl
theorem errW_some (c : Int) : errW (some c) = .iface 0 (.int .i64 c) := rfl
end Go.Proofs.YtgoeiflddikihaaGreatDoor.Pfirst
end
section
namespace Go.Proofs.YtgoeiflddikihaaGreatDoor.Pfirst
open Go.RowKit Go.Proofs.YtgoeiflddikihaaGreatDoorW.PrintWords Go.Proofs.YtgoeiflddikihaaGreatDoorW.PrintLast Go.Proofs.YtgoeiflddikihaaGreatDoorW.PrintMore
attribute [local go_sem] max2_int min2_int max_two min_two max_three min_three max_four min_four   -- for this text's walks alone
set_option linter.unusedVariables false
set_option linter.unusedSimpArgs false
def semver_first.l0 : Nat → ByteArray → Int → Option (ByteArray × ByteArray)
  | 0, _, _ => none
  | k + 1, x0, x4 => if x4 < (x0.size : Int) then (if 0 ≤ x4 then (if (bt x0 x4) = 46 then (if x4 ≤ (x0.size : Int) then (if 0 ≤ (wrap64 (x4 + 1)) then (if (wrap64 (x4 + 1)) ≤ (x0.size : Int) then (some (x0.extract 0 (x4 : Int).toNat, x0.extract ((wrap64 (x4 + 1)) : Int).toNat x0.size)) else (none)) else (none)) else (none)) else (semver_first.l0 k x0 (wrap64 (x4 + 1)))) else (none)) else (some (x0, (⟨#[]⟩ : ByteArray)))
def semver_first.f (k : Nat) (a0 : ByteArray) : Option (ByteArray × ByteArray) := semver_first.l0 k a0 0
theorem semver_first.mono_l : ∀ k, (∀ y0 y1, LeO (semver_first.l0 k y0 y1) (semver_first.l0 (k + 1) y0 y1))
  | 0 => fun _ _ r h => by simp [semver_first.l0] at h
  | k + 1 => by
    have ih0 := semver_first.mono_l k
    · intro y0 y1
      unfold semver_first.l0
      repeat' first
      | (with_reducible exact ih0 _ _)
      | (with_reducible exact LeO.refl _)
      | (with_reducible exact LeO.none _)
      | (with_reducible refine LeO.ite ?_ ?_)
      | (with_reducible refine LeO.bind ?_ (fun _ => ?_))
      | exact ih0 _ _
      | exact LeO.none _
      | refine LeO.ite ?_ ?_
      | refine LeO.bind ?_ (fun _ => ?_)
theorem semver_first.mono : ∀ a0 k, LeO (semver_first.f k a0) (semver_first.f (k + 1) a0) := by
  intro a0 k
  have ih0 := semver_first.mono_l k
  unfold semver_first.f
  repeat' first
      | (with_reducible exact ih0 _ _)
      | (with_reducible exact LeO.refl _)
      | (with_reducible exact LeO.none _)
      | (with_reducible refine LeO.ite ?_ ?_)
      | (with_reducible refine LeO.bind ?_ (fun _ => ?_))
      | exact ih0 _ _
      | exact LeO.none _
      | refine LeO.ite ?_ ?_
      | refine LeO.bind ?_ (fun _ => ?_)
set_option maxHeartbeats 8000000 in
set_option maxRecDepth 100000 in
theorem semver_first.calls (k : Nat) (a0 : ByteArray) (r1 : ByteArray) (r2 : ByteArray) (w : World) (h : semver_first.f k a0 = some (r1, r2)) :
    Calls Tryz.prog 210 #[.string a0] w fun e w' => e = .returned (.tuple #[.string r1, .string r2]) ∧ Drawn0 w w' := by
  have H : (semver_first.l0 k a0 0) = some (r1, r2) := h
  clear h
  have H' := Aside0.mk H
  clear H
  go_enter Tryz.func210, Tryz.ntmps210
  go_wp2
  repeat (go_quiet (fail); try go_wp2)
  go_loopg [4] k (fun kq v4 w' => ∃ (x4_1 : Int), v4 = .int .i64 x4_1 ∧ Aside0 (semver_first.l0 kq a0 x4_1 = some (r1, r2)) ∧ Aside0 (kq ≤ k) ∧ Drawn0 w w')
  case atStart => exact ⟨(0), (by first | rfl | (simp; done) | (simp [*]; done)), H', ⟨Nat.le_refl _⟩, by repeat (first | exact Drawn0.refl _ | apply Drawn0.step)⟩
  case round =>
    clear H'
    obtain ⟨x4_1, rfl, HA, HK1, ⟨m1, rfl⟩⟩ := hrel
    cases gk with
    | zero => exact absurd HA.out (by simp [semver_first.l0])
    | succ k1 =>
      have H := HA.out
      clear HA
      simp only [semver_first.l0] at H
      by_cases c2 : x4_1 < (a0.size : Int)
      · rw [if_pos c2] at H
        have c2b0 : decide (x4_1 < (a0.size : Int)) = true := decide_eq_true c2
        clear c2
        by_cases c3 : 0 ≤ x4_1
        · rw [if_pos c3] at H
          have c3b0 : decide (0 ≤ x4_1) = true := decide_eq_true c3
          clear c3
          by_cases c5 : (bt a0 x4_1) = 46
          · rw [if_pos c5] at H
            have c5b0 : ((bt a0 x4_1) == 46) = true := beq_iff_eq.mpr c5
            have c5b1 : ((bt a0 x4_1) != 46) = false := bne_eq_false_iff_eq.mpr c5
            clear c5
            have c6b0 := eq_true (of_decide_eq_true (by first | (with_reducible assumption) | assumption) : 0 ≤ x4_1)
            by_cases c7 : x4_1 ≤ (a0.size : Int)
            · rw [if_pos c7] at H
              have c7b0 := eq_true c7
              have c7b1 : decide (x4_1 ≤ (a0.size : Int)) = true := decide_eq_true c7
              clear c7
              obtain ⟨ji8, hji8⟩ : ∃ j_ : Int, (wrap64 (x4_1 + 1)) = j_ := ⟨_, rfl⟩
              replace H : (if 0 ≤ (ji8) then (if (ji8) ≤ (a0.size : Int) then (some (a0.extract 0 (x4_1 : Int).toNat, a0.extract ((ji8) : Int).toNat a0.size)) else (none)) else (none)) = some (r1, r2) := by first | (rw [hji8] at H; exact H) | (simp only [hji8] at H ⊢; exact H)
              have hji8w : (IntKind.i64.wrap (x4_1 + 1)) = ji8 := (i64_w _).trans hji8
              by_cases c9 : 0 ≤ (ji8)
              · rw [if_pos c9] at H
                have c9b0 := eq_true c9
                have c9b1 : decide (0 ≤ (ji8)) = true := decide_eq_true c9
                clear c9
                by_cases c10 : (ji8) ≤ (a0.size : Int)
                · rw [if_pos c10] at H
                  have c10b0 := eq_true c10
                  have c10b1 : decide ((ji8) ≤ (a0.size : Int)) = true := decide_eq_true c10
                  clear c10
                  simp only [Option.some.injEq, Prod.mk.injEq] at H
                  obtain ⟨rfl, rfl⟩ := H
                  have p4 : 0 ≤ (x4_1 : Int) := of_decide_eq_true (by first | (with_reducible assumption) | assumption)
                  have q4 : x4_1 < (a0.size : Int) := of_decide_eq_true (by first | (with_reducible assumption) | assumption)
                  have hx4 := bt_at a0 x4_1
                  replace p4 := eq_true p4
                  replace q4 := eq_true q4
                  go_wp2
                  repeat (go_quiet (fail); try go_wp2)
                  go_ret2
                  exact ⟨by first | rfl | (simp; done) | (simp only [← hji8] <;> (first | rfl | simp)) | (simp [*]; done), by repeat (first | exact Drawn0.refl _ | apply Drawn0.step)⟩
                · rw [if_neg c10] at H
                  exact absurd H (by simp)
              · rw [if_neg c9] at H
                exact absurd H (by simp)
            · rw [if_neg c7] at H
              exact absurd H (by simp)
          · rw [if_neg c5] at H
            have c5b0 : ((bt a0 x4_1) == 46) = false := beq_eq_false_iff_ne.mpr c5
            have c5b1 : ((bt a0 x4_1) != 46) = true := bne_iff_ne.mpr c5
            have H' := Aside0.mk H
            clear H
            have p4 : 0 ≤ (x4_1 : Int) := of_decide_eq_true (by first | (with_reducible assumption) | assumption)
            have q4 : x4_1 < (a0.size : Int) := of_decide_eq_true (by first | (with_reducible assumption) | assumption)
            have hx4 := bt_at a0 x4_1
            replace p4 := eq_true p4
            replace q4 := eq_true q4
            go_wp2
            repeat (go_quiet (fail); try go_wp2)
            go_roundg k1
            case measure => have := HK1.out; omega
            case rel => exact ⟨(wrap64 (x4_1 + 1)), (by first | rfl | (simp; done) | (simp [*]; done)), H', ⟨by have := HK1.out; omega⟩, by repeat (first | exact Drawn0.refl _ | apply Drawn0.step)⟩
        · rw [if_neg c3] at H
          exact absurd H (by simp)
      · rw [if_neg c2] at H
        have c2b0 : decide (x4_1 < (a0.size : Int)) = false := decide_eq_false c2
        clear c2
        simp only [Option.some.injEq, Prod.mk.injEq] at H
        obtain ⟨rfl, rfl⟩ := H
        go_wp2
        repeat (go_quiet (fail); try go_wp2)
        go_ret2
        exact ⟨by first | rfl | (simp; done) | (simp [*]; done), by repeat (first | exact Drawn0.refl _ | apply Drawn0.step)⟩
end Go.Proofs.YtgoeiflddikihaaGreatDoor.Pfirst
end
section
namespace Go.Proofs.YtgoeiflddikihaaGreatDoor.Ord
structure Cmp {α : Type} (c : α → α → Int) : Prop where
  anti : ∀ a b, c b a = - c a b
  trans : ∀ a b d, c a b ≤ 0 → c b d ≤ 0 → c a d ≤ 0
namespace Cmp
variable {α β : Type} {c : α → α → Int}
theorem refl (h : Cmp c) (a : α) : c a a = 0 := by have := h.anti a a; omega
theorem eq_trans (h : Cmp c) {a b d : α} (h1 : c a b = 0) (h2 : c b d = 0) : c a d = 0 := by
  have a1 := h.trans a b d (by omega) (by omega)
  have a2 := h.trans d b a (by have := h.anti b d; omega) (by have := h.anti a b; omega)
  have := h.anti a d
  omega
theorem lt_le (h : Cmp c) {a b d : α} (h1 : c a b < 0) (h2 : c b d ≤ 0) : c a d < 0 := by
  have a1 := h.trans a b d (by omega) h2
  rcases Int.lt_or_eq_of_le a1 with h3 | h3
  · exact h3
  · have a2 := h.trans b d a h2 (by have := h.anti a d; omega)
    have := h.anti a b
    omega
theorem le_lt (h : Cmp c) {a b d : α} (h1 : c a b ≤ 0) (h2 : c b d < 0) : c a d < 0 := by
  have a1 := h.trans a b d h1 (by omega)
  rcases Int.lt_or_eq_of_le a1 with h3 | h3
  · exact h3
  · have a2 := h.trans d a b (by have := h.anti a d; omega) h1
    have := h.anti b d
    omega
end Cmp
def thenC {α : Type} (c d : α → α → Int) (a b : α) : Int := if c a b = 0 then d a b else c a b
theorem cmp_then {α : Type} {c d : α → α → Int} (h : Cmp c) (k : Cmp d) : Cmp (thenC c d) := by
  refine ⟨fun a b => ?_, fun a b e h1 h2 => ?_⟩
  · unfold thenC
    have h1 := h.anti a b
    have h2 := k.anti a b
    by_cases hc : c a b = 0
    · rw [if_pos hc, if_pos (by omega)]; exact h2
    · rw [if_neg hc, if_neg (by omega)]; exact h1
  · unfold thenC at h1 h2 ⊢
    by_cases hc : c a b = 0
    · rw [if_pos hc] at h1
      by_cases hd : c b e = 0
      · rw [if_pos hd] at h2
        rw [if_pos (h.eq_trans hc hd)]
        exact k.trans a b e h1 h2
      · rw [if_neg hd] at h2
        have := h.le_lt (a := a) (b := b) (d := e) (by omega) (by omega)
        rw [if_neg (by omega)]; omega
    · rw [if_neg hc] at h1
      have h3 : c b e ≤ 0 := by
        by_cases hd : c b e = 0
        · omega
        · rw [if_neg hd] at h2; exact h2
      have := h.lt_le (a := a) (b := b) (d := e) (by omega) h3
      rw [if_neg (by omega)]; omega
def onC {α β : Type} (f : α → β) (c : β → β → Int) (a b : α) : Int := c (f a) (f b)
theorem cmp_on {α β : Type} {c : β → β → Int} (f : α → β) (h : Cmp c) : Cmp (onC f c) := ⟨fun _ _ => h.anti _ _, fun _ _ _ => h.trans _ _ _⟩
def natC (a b : Nat) : Int := if a < b then -1 else if b < a then 1 else 0
theorem cmp_nat : Cmp natC := by
  refine ⟨fun a b => ?_, fun a b d h1 h2 => ?_⟩
  · unfold natC; split <;> split <;> first | rfl | omega
  · unfold natC at *; repeat' split
    all_goals (first | omega | (repeat' split at h1) <;> (repeat' split at h2) <;> omega)
def intC (a b : Int) : Int := if a < b then -1 else if b < a then 1 else 0
theorem cmp_int : Cmp intC := by
  refine ⟨fun a b => ?_, fun a b d h1 h2 => ?_⟩
  · unfold intC; split <;> split <;> first | rfl | omega
  · unfold intC at *; repeat' split
    all_goals (first | omega | (repeat' split at h1) <;> (repeat' split at h2) <;> omega)
def listC {α : Type} (c : α → α → Int) : List α → List α → Int
  | [], [] => 0
  | [], _ :: _ => -1
  | _ :: _, [] => 1
  | a :: x, b :: y => if c a b = 0 then listC c x y else c a b
theorem listC_anti {α : Type} {c : α → α → Int} (h : Cmp c) : ∀ a b, listC c b a = - listC c a b
  | [], [] => rfl
  | [], _ :: _ => rfl
  | _ :: _, [] => rfl
  | a :: x, b :: y => by
    unfold listC
    have h1 := h.anti a b
    have h2 := listC_anti h x y
    by_cases hc : c a b = 0
    · rw [if_pos hc, if_pos (by omega)]; exact h2
    · rw [if_neg hc, if_neg (by omega)]; exact h1
theorem listC_trans {α : Type} {c : α → α → Int} (h : Cmp c) : ∀ a b d, listC c a b ≤ 0 → listC c b d ≤ 0 → listC c a d ≤ 0
  | [], _, [], _, _ => by simp [listC]
  | [], _, _ :: _, _, _ => by simp [listC]
  | _ :: _, [], _, h1, _ => by simp [listC] at h1
  | _ :: _, _ :: _, [], _, h2 => by simp [listC] at h2
  | a :: x, b :: y, e :: z, h1, h2 => by
    unfold listC at h1 h2 ⊢
    by_cases hc : c a b = 0
    · rw [if_pos hc] at h1
      by_cases hd : c b e = 0
      · rw [if_pos hd] at h2
        rw [if_pos (h.eq_trans hc hd)]
        exact listC_trans h x y z h1 h2
      · rw [if_neg hd] at h2
        have := h.le_lt (a := a) (b := b) (d := e) (by omega) (by omega)
        rw [if_neg (by omega)]; omega
    · rw [if_neg hc] at h1
      have h3 : c b e ≤ 0 := by
        by_cases hd : c b e = 0
        · omega
        · rw [if_neg hd] at h2; exact h2
      have := h.lt_le (a := a) (b := b) (d := e) (by omega) h3
      rw [if_neg (by omega)]; omega
theorem cmp_list {α : Type} {c : α → α → Int} (h : Cmp c) : Cmp (listC c) := ⟨listC_anti h, listC_trans h⟩
theorem listC_eq {α : Type} {c : α → α → Int} (he : ∀ a b, c a b = 0 → a = b) : ∀ a b, listC c a b = 0 → a = b
  | [], [], _ => rfl
  | [], _ :: _, h => by simp [listC] at h
  | _ :: _, [], h => by simp [listC] at h
  | a :: x, b :: y, h => by
    unfold listC at h
    by_cases hc : c a b = 0
    · rw [if_pos hc] at h
      rw [he a b hc, listC_eq he x y h]
    · rw [if_neg hc] at h; exact absurd h hc
def byteC (a b : UInt8) : Int := natC a.toNat b.toNat
theorem cmp_byte : Cmp byteC := cmp_on UInt8.toNat cmp_nat
theorem natC_eq {a b : Nat} (h : natC a b = 0) : a = b := by
  unfold natC at h; split at h
  · cases h
  · split at h
    · cases h
    · omega
theorem byteC_eq (a b : UInt8) (h : byteC a b = 0) : a = b := UInt8.toNat_inj.1 (natC_eq h)
def bytesC : List UInt8 → List UInt8 → Int := listC byteC
theorem cmp_bytes : Cmp bytesC := cmp_list cmp_byte
theorem bytesC_eq {a b : List UInt8} (h : bytesC a b = 0) : a = b := listC_eq byteC_eq a b h
theorem bytesC_less : ∀ a b, (bytesC a b < 0 ↔ Op.bytesLess a b = true)
  | [], [] => by simp [bytesC, listC, Op.bytesLess]
  | [], _ :: _ => by simp [bytesC, listC, Op.bytesLess]
  | _ :: _, [] => by simp [bytesC, listC, Op.bytesLess]
  | a :: x, b :: y => by
    have ih := bytesC_less x y
    unfold bytesC at ih ⊢
    unfold listC Op.bytesLess
    by_cases hc : byteC a b = 0
    · rw [if_pos hc]
      have := byteC_eq a b hc
      subst this
      simp only [Bool.or_eq_true, decide_eq_true_eq, Bool.and_eq_true, beq_self_eq_true, true_and]
      rw [ih]
      constructor
      · exact Or.inr
      · rintro (h | h)
        · exact absurd h (by rw [UInt8.lt_iff_toNat_lt]; omega)
        · exact h
    · rw [if_neg hc]
      have hne : (a == b) = false := beq_eq_false_iff_ne.2 (fun e => hc (by rw [e]; exact cmp_byte.refl b))
      rw [hne]
      simp only [Bool.false_and, Bool.or_false, decide_eq_true_eq]
      rw [UInt8.lt_iff_toNat_lt]
      unfold byteC natC
      unfold byteC natC at hc
      by_cases h1 : a.toNat < b.toNat
      · rw [if_pos h1]; simp [h1]
      · rw [if_neg h1]
        by_cases h2 : b.toNat < a.toNat
        · rw [if_pos h2]; simp [h1]
        · rw [if_neg h1, if_neg h2] at hc; exact absurd rfl hc
theorem natC_val (a b : Nat) : natC a b = -1 ∨ natC a b = 0 ∨ natC a b = 1 := by
  unfold natC; split
  · exact Or.inl rfl
  · split
    · exact Or.inr (Or.inr rfl)
    · exact Or.inr (Or.inl rfl)
theorem listC_val {α : Type} {c : α → α → Int} (hc : ∀ a b, c a b = -1 ∨ c a b = 0 ∨ c a b = 1) : ∀ a b, listC c a b = -1 ∨ listC c a b = 0 ∨ listC c a b = 1
  | [], [] => by simp [listC]
  | [], _ :: _ => by simp [listC]
  | _ :: _, [] => by simp [listC]
  | a :: x, b :: y => by
    unfold listC; split
    · exact listC_val hc x y
    · exact hc a b
theorem bytesC_val (a b : List UInt8) : bytesC a b = -1 ∨ bytesC a b = 0 ∨ bytesC a b = 1 := listC_val (fun _ _ => natC_val _ _) a b
theorem bytesC_form (a b : List UInt8) : bytesC a b = if Op.bytesLess a b then -1 else if a = b then 0 else 1 := by
  have h1 := bytesC_less a b
  by_cases hl : Op.bytesLess a b = true
  · rw [if_pos hl]
    rcases bytesC_val a b with h | h | h
    · exact h
    · have := h1.2 hl; omega
    · have := h1.2 hl; omega
  · rw [if_neg hl]
    by_cases he : a = b
    · rw [if_pos he, he]; exact cmp_bytes.refl b
    · rw [if_neg he]
      rcases bytesC_val a b with h | h | h
      · exact absurd (h1.1 (by omega)) hl
      · exact absurd (bytesC_eq h) he
      · exact h
def isDig (c : UInt8) : Bool := decide (48 ≤ c.toNat) && decide (c.toNat ≤ 57)
def idNum (l : List UInt8) : Bool := !l.isEmpty && l.all isDig
def bareZ : List UInt8 → List UInt8
  | c :: d :: r => if c = 48 then bareZ (d :: r) else c :: d :: r
  | l => l
def idKey (l : List UInt8) : Nat × Nat × List UInt8 := if idNum l then (0, (bareZ l).length, bareZ l) else (1, 0, l)
def keyC : Nat × Nat × List UInt8 → Nat × Nat × List UInt8 → Int := thenC (onC (·.1) natC) (thenC (onC (·.2.1) natC) (onC (·.2.2) bytesC))
def idC : List UInt8 → List UInt8 → Int := onC idKey keyC
theorem cmp_id : Cmp idC := cmp_on _ (cmp_then (cmp_on _ cmp_nat) (cmp_then (cmp_on _ cmp_nat) (cmp_on _ cmp_bytes)))
theorem idC_nn {a b : List UInt8} (ha : idNum a = true) (hb : idNum b = true) : idC a b = if (bareZ a).length = (bareZ b).length then bytesC (bareZ a) (bareZ b) else if (bareZ a).length < (bareZ b).length then -1 else 1 := by
  simp only [idC, onC, keyC, thenC, idKey, ha, hb, if_true]
  have e : natC 0 0 = 0 := rfl
  rw [if_pos e]
  by_cases h : (bareZ a).length = (bareZ b).length
  · rw [if_pos h, h, if_pos (cmp_nat.refl _)]
  · rw [if_neg h, if_neg (fun e => h (natC_eq e))]
    unfold natC
    split
    · rfl
    · rw [if_pos (by omega)]
theorem idC_na {a b : List UInt8} (ha : idNum a = true) (hb : idNum b = false) : idC a b = -1 := by
  simp only [idC, onC, keyC, thenC, idKey, ha, hb, if_true]; rfl
theorem idC_an {a b : List UInt8} (ha : idNum a = false) (hb : idNum b = true) : idC a b = 1 := by
  simp only [idC, onC, keyC, thenC, idKey, ha, hb, if_true]; rfl
theorem idC_aa {a b : List UInt8} (ha : idNum a = false) (hb : idNum b = false) : idC a b = bytesC a b := by
  simp only [idC, onC, keyC, thenC, idKey, ha, hb]; rfl
def firstI (l : List UInt8) : List UInt8 := l.takeWhile (· != 46)
def restI (l : List UInt8) : List UInt8 := (l.dropWhile (· != 46)).drop 1
theorem restI_lt {l : List UInt8} (h : l ≠ []) : (restI l).length < l.length := by
  unfold restI
  have h1 := (List.dropWhile_sublist (l := l) (· != 46)).length_le
  have h2 : 0 < l.length := List.length_pos_iff.2 h
  rw [List.length_drop]
  rcases Nat.eq_zero_or_pos (l.dropWhile (· != 46)).length with h0 | h0 <;> omega
def parts (l : List UInt8) : List (List UInt8) := if _h : l = [] then [] else firstI l :: parts (restI l)
termination_by l.length
decreasing_by exact restI_lt _h
theorem parts_nil : parts [] = [] := by unfold parts; rfl
theorem parts_cons {l : List UInt8} (h : l ≠ []) : parts l = firstI l :: parts (restI l) := by rw [parts]; rw [dif_neg h]
def noneC (l : List UInt8) : Nat := if l = [] then 1 else 0
def preC : List UInt8 → List UInt8 → Int := thenC (onC noneC natC) (onC parts (listC idC))
theorem cmp_pre : Cmp preC := cmp_then (cmp_on _ cmp_nat) (cmp_on _ (cmp_list cmp_id))
theorem preC_same (a : List UInt8) : preC a a = 0 := cmp_pre.refl a
theorem preC_left {b : List UInt8} (h : b ≠ []) : preC [] b = 1 := by
  unfold preC thenC onC noneC; rw [if_neg h, if_pos rfl]; rfl
theorem preC_right {a : List UInt8} (h : a ≠ []) : preC a [] = -1 := by
  unfold preC thenC onC noneC; rw [if_neg h, if_pos rfl]; rfl
theorem preC_both {a b : List UInt8} (ha : a ≠ []) (hb : b ≠ []) : preC a b = listC idC (parts a) (parts b) := by
  unfold preC thenC onC noneC; rw [if_neg ha, if_neg hb]; rfl
theorem partsC_step {a b : List UInt8} (ha : a ≠ []) (hb : b ≠ []) (h : idC (firstI a) (firstI b) = 0) : listC idC (parts a) (parts b) = listC idC (parts (restI a)) (parts (restI b)) := by
  rw [parts_cons ha, parts_cons hb, listC, if_pos h]
theorem partsC_stop {a b : List UInt8} (ha : a ≠ []) (hb : b ≠ []) (h : idC (firstI a) (firstI b) ≠ 0) : listC idC (parts a) (parts b) = idC (firstI a) (firstI b) := by
  rw [parts_cons ha, parts_cons hb, listC, if_neg h]
theorem partsC_none : listC idC (parts []) (parts []) = 0 := by rw [parts_nil]; rfl
theorem partsC_less {b : List UInt8} (hb : b ≠ []) : listC idC (parts []) (parts b) = -1 := by rw [parts_nil, parts_cons hb]; rfl
theorem partsC_more {a : List UInt8} (ha : a ≠ []) : listC idC (parts a) (parts []) = 1 := by rw [parts_nil, parts_cons ha]; rfl
theorem idC_val (a b : List UInt8) : idC a b = -1 ∨ idC a b = 0 ∨ idC a b = 1 := by
  unfold idC onC keyC thenC onC
  split
  · split
    · exact bytesC_val _ _
    · exact natC_val _ _
  · exact natC_val _ _
theorem preC_val (a b : List UInt8) : preC a b = -1 ∨ preC a b = 0 ∨ preC a b = 1 := by
  unfold preC thenC onC
  split
  · exact listC_val idC_val _ _
  · exact natC_val _ _
end Go.Proofs.YtgoeiflddikihaaGreatDoor.Ord
end
section
namespace Go.Proofs.YtgoeiflddikihaaGreatDoor.Ver
open Go.Proofs.YtgoeiflddikihaaGreatDoor.Ord Go.Sort
def cmpV : SV → SV → Int := thenC (onC SV.major intC) (thenC (onC SV.minor intC) (thenC (onC SV.patch intC) (onC (fun v => v.pre.data.toList) preC)))
theorem cmp_v : Cmp cmpV := cmp_then (cmp_on _ cmp_int) (cmp_then (cmp_on _ cmp_int) (cmp_then (cmp_on _ cmp_int) (cmp_on _ cmp_pre)))
theorem intC_val (a b : Int) : intC a b = -1 ∨ intC a b = 0 ∨ intC a b = 1 := by
  unfold intC; split
  · exact Or.inl rfl
  · split
    · exact Or.inr (Or.inr rfl)
    · exact Or.inr (Or.inl rfl)
theorem thenC_val {α : Type} {c d : α → α → Int} {a b : α} (h : c a b = -1 ∨ c a b = 0 ∨ c a b = 1) (k : d a b = -1 ∨ d a b = 0 ∨ d a b = 1) : thenC c d a b = -1 ∨ thenC c d a b = 0 ∨ thenC c d a b = 1 := by
  unfold thenC; split
  · exact k
  · exact h
theorem cmpV_val (a b : SV) : cmpV a b = -1 ∨ cmpV a b = 0 ∨ cmpV a b = 1 := thenC_val (intC_val _ _) (thenC_val (intC_val _ _) (thenC_val (intC_val _ _) (preC_val _ _)))
theorem intC_lt {a b : Int} (h : a < b) : intC a b = -1 := by unfold intC; rw [if_pos h]
theorem intC_gt {a b : Int} (h : b < a) : intC a b = 1 := by unfold intC; rw [if_neg (by omega), if_pos h]
theorem thenC_ne {α : Type} {c d : α → α → Int} {a b : α} {x : Int} (h : c a b = x) (hx : x ≠ 0) : thenC c d a b = x := by unfold thenC; rw [h, if_neg hx]
theorem thenC_go {α : Type} {c d : α → α → Int} {a b : α} {x : Int} (h : c a b = 0) (k : d a b = x) : thenC c d a b = x := by unfold thenC; rw [if_pos h]; exact k
def Unp.rank : Unp → Nat
  | .sem _ => 0
  | .branch _ _ => 1
  | .plain _ => 2
def Vers.rank : Vers → Nat
  | .rev _ => 3
  | .un u => u.rank
  | .pair u _ => u.rank
def Vers.bare : Vers → Vers
  | .pair u _ => .un u
  | v => v
def boolN (b : Bool) : Nat := if b then 0 else 1
def Vers.dflt : Vers → Nat
  | .un (.branch _ d) => boolN d
  | .pair (.branch _ d) _ => boolN d
  | _ => 0
def Vers.isPre : Vers → Nat
  | .un (.sem v) => boolN v.pre.data.toList.isEmpty
  | .pair (.sem v) _ => boolN v.pre.data.toList.isEmpty
  | _ => 0
def zV : SV := ⟨0, 0, 0, ⟨#[]⟩, ⟨#[]⟩, ⟨#[]⟩⟩
def Vers.sem : Vers → SV
  | .un (.sem v) => v
  | .pair (.sem v) _ => v
  | _ => zV
def Vers.name : Vers → List UInt8
  | .rev s => s.data.toList
  | .un (.branch n _) => n.data.toList
  | .pair (.branch n _) _ => n.data.toList
  | .un (.plain n) => n.data.toList
  | .pair (.plain n) _ => n.data.toList
  | _ => []
def flipC {α : Type} (down : Bool) (c : α → α → Int) (a b : α) : Int := if down then c a b else c b a
theorem cmp_flip {α : Type} {c : α → α → Int} (down : Bool) (h : Cmp c) : Cmp (flipC down c) := by
  cases down
  · exact ⟨fun a b => h.anti b a, fun a b d h1 h2 => h.trans d b a h2 h1⟩
  · exact h
def versC (down : Bool) : Vers → Vers → Int := thenC (onC Vers.rank natC) (thenC (onC Vers.dflt natC) (thenC (onC Vers.isPre natC) (thenC (onC Vers.name bytesC) (onC Vers.sem (flipC down cmpV)))))
theorem cmp_vers (down : Bool) : Cmp (versC down) := cmp_then (cmp_on _ cmp_nat) (cmp_then (cmp_on _ cmp_nat) (cmp_then (cmp_on _ cmp_nat) (cmp_then (cmp_on _ cmp_bytes) (cmp_on _ (cmp_flip down cmp_v)))))
def lessV (down : Bool) (a b : Vers) : Bool := decide (versC down a b < 0)
theorem swo_vers (down : Bool) : SWO (lessV down) := by
  have h := cmp_vers down
  refine ⟨fun x => ?_, fun x y z h1 h2 => ?_, fun x y z h1 h2 => ?_⟩
  · unfold lessV; rw [h.refl x]; rfl
  · unfold lessV at *
    rw [decide_eq_true_eq] at *
    exact h.lt_le h1 (by omega)
  · unfold lessV at *
    rw [decide_eq_false_iff_not] at *
    have a1 := h.anti x y
    have a2 := h.anti y z
    have a3 := h.anti x z
    have := h.trans z y x (by omega) (by omega)
    omega
theorem less_rank {down : Bool} {a b : Vers} (h : a.rank ≠ b.rank) : lessV down a b = decide (a.rank < b.rank) := by
  have h2 : onC Vers.rank natC a b ≠ 0 := fun e => h (natC_eq e)
  unfold lessV versC thenC
  rw [if_neg h2]
  unfold onC natC
  by_cases hl : a.rank < b.rank
  · simp [hl]
  · rw [if_neg hl, if_pos (by omega)]; simp [hl]
theorem less_bare {down : Bool} {a b : Vers} : lessV down a.bare b.bare = lessV down a b := by
  rcases a with _ | u | ⟨u, _⟩ <;> rcases b with _ | x | ⟨x, _⟩ <;> (try cases u) <;> (try cases x) <;> rfl
theorem less_branch {down : Bool} {n m : ByteArray} {d e : Bool} : lessV down (.un (.branch n d)) (.un (.branch m e)) = if d = e then Op.bytesLess n.data.toList m.data.toList else d := by
  have hb := bytesC_less n.data.toList m.data.toList
  unfold lessV versC thenC onC
  have e1 : natC (Vers.rank (.un (.branch n d))) (Vers.rank (.un (.branch m e))) = 0 := rfl
  rw [if_pos e1]
  have e2 : natC (Vers.isPre (.un (.branch n d))) (Vers.isPre (.un (.branch m e))) = 0 := rfl
  have e3 : flipC down cmpV (Vers.sem (.un (.branch n d))) (Vers.sem (.un (.branch m e))) = 0 := (cmp_flip down cmp_v).refl zV
  rw [if_pos e2, e3]
  show decide ((if natC (boolN d) (boolN e) = 0 then (if bytesC n.data.toList m.data.toList = 0 then 0 else bytesC n.data.toList m.data.toList) else natC (boolN d) (boolN e)) < 0) = _
  have e4 : (if bytesC n.data.toList m.data.toList = 0 then 0 else bytesC n.data.toList m.data.toList) = bytesC n.data.toList m.data.toList := by split <;> omega
  rw [e4, Bool.eq_iff_iff, decide_eq_true_eq]
  cases d <;> cases e
  · exact hb
  · simp [boolN, natC]
  · simp [boolN, natC]
  · exact hb
theorem less_name {down : Bool} {a b : Vers} (h1 : a.rank = b.rank) (h2 : a.dflt = b.dflt) (h3 : a.isPre = b.isPre) (h4 : a.sem = zV) (h5 : b.sem = zV) : lessV down a b = Op.bytesLess a.name b.name := by
  have hb := bytesC_less a.name b.name
  unfold lessV versC thenC onC
  rw [h1, h2, h3, h4, h5]
  rw [if_pos (cmp_nat.refl _), if_pos (cmp_nat.refl _), if_pos (cmp_nat.refl _), (cmp_flip down cmp_v).refl zV]
  have e4 : (if bytesC a.name b.name = 0 then 0 else bytesC a.name b.name) = bytesC a.name b.name := by split <;> omega
  rw [e4, Bool.eq_iff_iff, decide_eq_true_eq]
  exact hb
theorem less_rev {down : Bool} {s t : ByteArray} : lessV down (.rev s) (.rev t) = Op.bytesLess s.data.toList t.data.toList := less_name rfl rfl rfl rfl rfl
theorem less_plain {down : Bool} {s t : ByteArray} : lessV down (.un (.plain s)) (.un (.plain t)) = Op.bytesLess s.data.toList t.data.toList := less_name rfl rfl rfl rfl rfl
theorem less_sem {down : Bool} {v w : SV} : lessV down (.un (.sem v)) (.un (.sem w)) = if v.pre.data.toList.isEmpty = w.pre.data.toList.isEmpty then (if down then decide (cmpV v w < 0) else decide (cmpV v w > 0)) else v.pre.data.toList.isEmpty := by
  have ha := cmp_v.anti v w
  unfold lessV versC thenC onC
  have e1 : natC (Vers.rank (.un (.sem v))) (Vers.rank (.un (.sem w))) = 0 := rfl
  have e2 : natC (Vers.dflt (.un (.sem v))) (Vers.dflt (.un (.sem w))) = 0 := rfl
  have e3 : bytesC (Vers.name (.un (.sem v))) (Vers.name (.un (.sem w))) = 0 := rfl
  rw [if_pos e1, if_pos e2, if_pos e3]
  show decide ((if natC (boolN v.pre.data.toList.isEmpty) (boolN w.pre.data.toList.isEmpty) = 0 then flipC down cmpV v w else natC (boolN v.pre.data.toList.isEmpty) (boolN w.pre.data.toList.isEmpty)) < 0) = _
  generalize v.pre.data.toList.isEmpty = x
  generalize w.pre.data.toList.isEmpty = y
  cases x <;> cases y
  · simp only [boolN, natC, flipC]
    cases down
    · simp; omega
    · simp
  · simp [boolN, natC]
  · simp [boolN, natC]
  · simp only [boolN, natC, flipC]
    cases down
    · simp; omega
    · simp
end Go.Proofs.YtgoeiflddikihaaGreatDoor.Ver
end
