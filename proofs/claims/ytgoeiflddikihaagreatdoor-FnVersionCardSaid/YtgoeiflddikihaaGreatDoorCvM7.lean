/- Merged by program out of: Pfirstx0, VBase, VPa, VPh. -/
import Derived.Test.YtgoeiflddikihaaGreatDoorProg
import Derived.Below
import Derived.Deep.Draws
import Derived.Deep.AppendLies
import Derived.Maps.AppendAt
import Derived.OwnWalk
import Derived.Laws.BytesArg
import Derived.Laws.MakeOwn
import Derived.Laws.OwnMore
import Derived.Deep.OwnRows
import Derived.Tactics
import Derived.Lib.ConvBytes
import Derived.Laws.Slices
import Derived.WalkKit
import Derived.KernelRfl
import Derived.RowKit3
import Derived.Deep.LoopGhost
import Derived.Deep.QuietTactic
import Derived.BigQuiet
import Derived.WideLaws
import Derived.Deep.DeepCutAuto
import Derived.Deep.CutBlock
import Derived.Deep.RegionHeld3
import Derived.Laws.Rows
import Derived.Lib.AppendStr
import Derived.ArgAppend
import Derived.Laws.IdiomCopy
import Derived.OrdersHeld
import Derived.Laws.BitsLemmas
import Derived.RowKit
import Derived.Test.YtgoeiflddikihaaGreatDoorCvM0
import Derived.Test.YtgoeiflddikihaaGreatDoorCvM1
import Derived.Test.YtgoeiflddikihaaGreatDoorCvM2
import Derived.Test.YtgoeiflddikihaaGreatDoorCvM6
import Derived.Stop.Asserts
import Derived.Lib.Hide
import Derived.WalkSpells
section
namespace Go.Proofs.YtgoeiflddikihaaGreatDoor.Pfirst
open Go.RowKit Go.Proofs.YtgoeiflddikihaaGreatDoorW.PrintWords Go.Proofs.YtgoeiflddikihaaGreatDoorW.PrintLast Go.Proofs.YtgoeiflddikihaaGreatDoorW.PrintMore
attribute [local go_sem] max2_int min2_int max_two min_two max_three min_three max_four min_four   -- for this text's walks alone
set_option linter.unusedVariables false
set_option linter.unusedSimpArgs false
def errW : Option Int → Value
  | none => .nilIface
  | some c => .iface 0 (.int .i64 c)
theorem errW_none : errW none = .nilIface := rfl
theorem errW_some (c : Int) : errW (some c) = .iface 0 (.int .i64 c) := rfl
end Go.Proofs.YtgoeiflddikihaaGreatDoor.Pfirst
end
section
namespace Go.Proofs.YtgoeiflddikihaaGreatDoor.Ver
open Go.RowKit Go.Proofs.YtgoeiflddikihaaGreatDoorW.PrintWords
structure SV where
  major : Int
  minor : Int
  patch : Int
  pre : ByteArray
  mt : ByteArray
  orig : ByteArray
def SV.cells (v : SV) : Array Value := #[.int .u64 v.major, .int .u64 v.minor, .int .u64 v.patch, .string v.pre, .string v.mt, .string v.orig]
inductive Unp where
  | branch (name : ByteArray) (dflt : Bool)
  | plain (s : ByteArray)
  | sem (v : SV)
inductive Vers where
  | rev (s : ByteArray)
  | un (u : Unp)
  | pair (u : Unp) (r : ByteArray)
def Unp.tid : Unp → TypeId
  | .branch _ _ => 215
  | .plain _ => 224
  | .sem _ => 200
def Unp.inner : Unp → Value
  | .branch n d => .agg #[.string n, .bool d]
  | .plain s => .string s
  | .sem v => .agg v.cells
def Unp.val (u : Unp) : Value := .iface u.tid u.inner
def Vers.tid : Vers → TypeId
  | .rev _ => 135
  | .un u => u.tid
  | .pair _ _ => 212
def Vers.inner : Vers → Value
  | .rev s => .string s
  | .un u => u.inner
  | .pair u r => .agg #[u.val, .string r]
def Vers.val (v : Vers) : Value := .iface v.tid v.inner
theorem m_rev_String (v : Value) (w : World) : (method 417 135 v "String").run Tryz.prog w = .ok (101, v) w := by kernel_rfl
theorem m_rev_ImpliedCaretString (v : Value) (w : World) : (method 417 135 v "ImpliedCaretString").run Tryz.prog w = .ok (194, v) w := by kernel_rfl
theorem m_rev_Type (v : Value) (w : World) : (method 417 135 v "Type").run Tryz.prog w = .ok (198, v) w := by kernel_rfl
theorem m_sem_ImpliedCaretString (v : Value) (w : World) : (method 417 200 v "ImpliedCaretString").run Tryz.prog w = .ok (237, v) w := by kernel_rfl
theorem m_sem_Pair (v : Value) (w : World) : (method 417 200 v "Pair").run Tryz.prog w = .ok (241, v) w := by kernel_rfl
theorem m_sem_String (v : Value) (w : World) : (method 417 200 v "String").run Tryz.prog w = .ok (242, v) w := by kernel_rfl
theorem m_sem_Type (v : Value) (w : World) : (method 417 200 v "Type").run Tryz.prog w = .ok (243, v) w := by kernel_rfl
theorem m_sc_Matches (v : Value) (w : World) : (method 417 202 v "Matches").run Tryz.prog w = .ok (251, v) w := by kernel_rfl
theorem m_pair_ImpliedCaretString (v : Value) (w : World) : (method 417 212 v "ImpliedCaretString").run Tryz.prog w = .ok (263, v) w := by kernel_rfl
theorem m_pair_Revision (v : Value) (w : World) : (method 417 212 v "Revision").run Tryz.prog w = .ok (267, v) w := by kernel_rfl
theorem m_pair_String (v : Value) (w : World) : (method 417 212 v "String").run Tryz.prog w = .ok (268, v) w := by kernel_rfl
theorem m_pair_Type (v : Value) (w : World) : (method 417 212 v "Type").run Tryz.prog w = .ok (269, v) w := by kernel_rfl
theorem m_pair_Unpair (v : Value) (w : World) : (method 417 212 v "Unpair").run Tryz.prog w = .ok (270, v) w := by kernel_rfl
theorem m_branch_ImpliedCaretString (v : Value) (w : World) : (method 417 215 v "ImpliedCaretString").run Tryz.prog w = .ok (274, v) w := by kernel_rfl
theorem m_branch_Pair (v : Value) (w : World) : (method 417 215 v "Pair").run Tryz.prog w = .ok (278, v) w := by kernel_rfl
theorem m_branch_String (v : Value) (w : World) : (method 417 215 v "String").run Tryz.prog w = .ok (279, v) w := by kernel_rfl
theorem m_branch_Type (v : Value) (w : World) : (method 417 215 v "Type").run Tryz.prog w = .ok (280, v) w := by kernel_rfl
theorem m_plain_ImpliedCaretString (v : Value) (w : World) : (method 417 224 v "ImpliedCaretString").run Tryz.prog w = .ok (284, v) w := by kernel_rfl
theorem m_plain_Pair (v : Value) (w : World) : (method 417 224 v "Pair").run Tryz.prog w = .ok (288, v) w := by kernel_rfl
theorem m_plain_String (v : Value) (w : World) : (method 417 224 v "String").run Tryz.prog w = .ok (289, v) w := by kernel_rfl
theorem m_plain_Type (v : Value) (w : World) : (method 417 224 v "Type").run Tryz.prog w = .ok (290, v) w := by kernel_rfl
theorem m_range_Intersect (v : Value) (w : World) : (method 417 238 v "Intersect").run Tryz.prog w = .ok (295, v) w := by kernel_rfl
theorem m_range_Matches (v : Value) (w : World) : (method 417 238 v "Matches").run Tryz.prog w = .ok (296, v) w := by kernel_rfl
end Go.Proofs.YtgoeiflddikihaaGreatDoor.Ver
end
section
namespace Go.Proofs.YtgoeiflddikihaaGreatDoor.PFnIntersectAny
open Go.RowKit Go.Proofs.YtgoeiflddikihaaGreatDoorW.PrintWords Go.Proofs.YtgoeiflddikihaaGreatDoorW.PrintLast Go.Proofs.YtgoeiflddikihaaGreatDoorW.PrintMore
attribute [local go_sem] max2_int min2_int max_two min_two max_three min_three max_four min_four   -- for this text's walks alone
set_option linter.unusedVariables false
set_option linter.unusedSimpArgs false
mutual
def semver_identifiers.l0 : Nat → ByteArray → Int → Int → Int → Option (Int)
 | 0, _, _, _, _ => none
 | k + 1, x0, x3, x4, x5 => if x5 < (x0.size : Int) then (if 0 ≤ x5 then (if 48 ≤ (bt x0 x5) then (if (bt x0 x5) ≤ 57 then (semver_identifiers.j1 k x0 x3 x4 x5 (bt x0 x5) true) else (if 97 ≤ (bt x0 x5) then (if (bt x0 x5) ≤ 122 then (semver_identifiers.j1 k x0 x3 x4 x5 (bt x0 x5) true) else (if 65 ≤ (bt x0 x5) then (if (bt x0 x5) ≤ 90 then (semver_identifiers.j1 k x0 x3 x4 x5 (bt x0 x5) true) else (semver_identifiers.j1 k x0 x3 x4 x5 (bt x0 x5) ((bt x0 x5) == 45))) else (semver_identifiers.j1 k x0 x3 x4 x5 (bt x0 x5) ((bt x0 x5) == 45)))) else (if 65 ≤ (bt x0 x5) then (if (bt x0 x5) ≤ 90 then (semver_identifiers.j1 k x0 x3 x4 x5 (bt x0 x5) true) else (semver_identifiers.j1 k x0 x3 x4 x5 (bt x0 x5) ((bt x0 x5) == 45))) else (semver_identifiers.j1 k x0 x3 x4 x5 (bt x0 x5) ((bt x0 x5) == 45))))) else (if 97 ≤ (bt x0 x5) then (if (bt x0 x5) ≤ 122 then (semver_identifiers.j1 k x0 x3 x4 x5 (bt x0 x5) true) else (if 65 ≤ (bt x0 x5) then (if (bt x0 x5) ≤ 90 then (semver_identifiers.j1 k x0 x3 x4 x5 (bt x0 x5) true) else (semver_identifiers.j1 k x0 x3 x4 x5 (bt x0 x5) ((bt x0 x5) == 45))) else (semver_identifiers.j1 k x0 x3 x4 x5 (bt x0 x5) ((bt x0 x5) == 45)))) else (if 65 ≤ (bt x0 x5) then (if (bt x0 x5) ≤ 90 then (semver_identifiers.j1 k x0 x3 x4 x5 (bt x0 x5) true) else (semver_identifiers.j1 k x0 x3 x4 x5 (bt x0 x5) ((bt x0 x5) == 45))) else (semver_identifiers.j1 k x0 x3 x4 x5 (bt x0 x5) ((bt x0 x5) == 45))))) else (none)) else (some x3)
def semver_identifiers.j1 : Nat → ByteArray → Int → Int → Int → Int → Bool → Option (Int)
 | 0, _, _, _, _, _, _ => none
 | k + 1, x0, x3, x4, x5, x6, x17 => if x17 = true then (semver_identifiers.l0 k x0 (wrap64 (x5 + 1)) (wrap64 (x4 + 1)) (wrap64 (x5 + 1))) else (if x6 = 46 then (if x4 > 0 then (semver_identifiers.l0 k x0 x3 0 (wrap64 (x5 + 1))) else (some x3)) else (some x3))
end
def semver_identifiers.f (k : Nat) (a0 : ByteArray) : Option (Int) := semver_identifiers.l0 k a0 0 0 0
theorem semver_identifiers.mono_l : ∀ k, (∀ y0 y1 y2 y3, LeO (semver_identifiers.l0 k y0 y1 y2 y3) (semver_identifiers.l0 (k + 1) y0 y1 y2 y3)) ∧ (∀ y0 y1 y2 y3 y4 y5, LeO (semver_identifiers.j1 k y0 y1 y2 y3 y4 y5) (semver_identifiers.j1 (k + 1) y0 y1 y2 y3 y4 y5))
 | 0 => ⟨fun _ _ _ _ r h => by simp [semver_identifiers.l0] at h, fun _ _ _ _ _ _ r h => by simp [semver_identifiers.j1] at h⟩
 | k + 1 => by
  obtain ⟨ih0, ih1⟩ := semver_identifiers.mono_l k
  refine ⟨?_, ?_⟩
  ·intro y0 y1 y2 y3
   unfold semver_identifiers.l0
   repeat' first
   | (with_reducible exact ih0 _ _ _ _)
   | (with_reducible exact ih1 _ _ _ _ _ _)
   | (with_reducible exact LeO.refl _)
   | (with_reducible exact LeO.none _)
   | (with_reducible refine LeO.ite ?_ ?_)
   | (with_reducible refine LeO.bind ?_ (fun _ => ?_))
   | exact ih0 _ _ _ _
   | exact ih1 _ _ _ _ _ _
   | exact LeO.none _
   | refine LeO.ite ?_ ?_
   | refine LeO.bind ?_ (fun _ => ?_)
  ·intro y0 y1 y2 y3 y4 y5
   unfold semver_identifiers.j1
   repeat' first
   | (with_reducible exact ih0 _ _ _ _)
   | (with_reducible exact ih1 _ _ _ _ _ _)
   | (with_reducible exact LeO.refl _)
   | (with_reducible exact LeO.none _)
   | (with_reducible refine LeO.ite ?_ ?_)
   | (with_reducible refine LeO.bind ?_ (fun _ => ?_))
   | exact ih0 _ _ _ _
   | exact ih1 _ _ _ _ _ _
   | exact LeO.none _
   | refine LeO.ite ?_ ?_
   | refine LeO.bind ?_ (fun _ => ?_)
theorem semver_identifiers.mono : ∀ a0 k, LeO (semver_identifiers.f k a0) (semver_identifiers.f (k + 1) a0) := by
 intro a0 k
 obtain ⟨ih0, ih1⟩ := semver_identifiers.mono_l k
 unfold semver_identifiers.f
 repeat' first
   | (with_reducible exact ih0 _ _ _ _)
   | (with_reducible exact ih1 _ _ _ _ _ _)
   | (with_reducible exact LeO.refl _)
   | (with_reducible exact LeO.none _)
   | (with_reducible refine LeO.ite ?_ ?_)
   | (with_reducible refine LeO.bind ?_ (fun _ => ?_))
   | exact ih0 _ _ _ _
   | exact ih1 _ _ _ _ _ _
   | exact LeO.none _
   | refine LeO.ite ?_ ?_
   | refine LeO.bind ?_ (fun _ => ?_)
set_option maxHeartbeats 8000000 in
set_option maxRecDepth 100000 in
theorem semver_identifiers.calls (k : Nat) (a0 : ByteArray) (r : Int) (w : World) (h : semver_identifiers.f k a0 = some r) :
  Calls Tryz.prog 153 #[.string a0] w fun e w' => e = .returned (.int .i64 r) ∧ Drawn0 w w' := by
 have H : (semver_identifiers.l0 k a0 0 0 0) = some r := h
 clear h
 have H' := Aside0.mk H
 clear H
 go_enter Tryz.func153, Tryz.ntmps153
 go_wp2
 go_loopg [3, 4, 5] k (fun kq v3 v4 v5 w' => ∃ (x3_1 : Int) (x4_1 : Int) (x5_1 : Int), v3 = .int .i64 x3_1 ∧ v4 = .int .i64 x4_1 ∧ v5 = .int .i64 x5_1 ∧ Aside0 (semver_identifiers.l0 kq a0 x3_1 x4_1 x5_1 = some r) ∧ Aside0 (kq ≤ k) ∧ Drawn0 w w')
 case atStart => exact ⟨(0), (0), (0), (by first | rfl | (simp; done) | (simp [*]; done)), (by first | rfl | (simp; done) | (simp [*]; done)), (by first | rfl | (simp; done) | (simp [*]; done)), H', ⟨Nat.le_refl _⟩, by repeat (first | exact Drawn0.refl _ | apply Drawn0.step)⟩
 case round =>
  clear H'
  try clear c1
  obtain ⟨x3_1, x4_1, x5_1, rfl, rfl, rfl, HA, HK1, ⟨m1, rfl⟩⟩ := hrel
  cases gk with
  | zero => exact absurd HA.out (by simp [semver_identifiers.l0])
  | succ k1 =>
   have H := HA.out
   clear HA
   simp only [semver_identifiers.l0] at H
   by_cases c2 : x5_1 < (a0.size : Int)
   ·rw [if_pos c2] at H
    have c2b0 : decide (x5_1 < (a0.size : Int)) = true := decide_eq_true c2
    clear c2
    by_cases c3 : 0 ≤ x5_1
    ·rw [if_pos c3] at H
     have c3b0 : decide (0 ≤ x5_1) = true := decide_eq_true c3
     clear c3
     have HC5 := Aside0.mk H
     clear H
     have p4 : 0 ≤ (x5_1 : Int) := of_decide_eq_true (by first | (with_reducible assumption) | assumption)
     have q4 : x5_1 < (a0.size : Int) := of_decide_eq_true (by first | (with_reducible assumption) | assumption)
     have hx4 := bt_at a0 x5_1
     replace p4 := eq_true p4
     replace q4 := eq_true q4
     go_upto_region 7 with (fail)
     go_cut [17] (fun v17 wc => ∃ (kq : Nat) (x17_4 : Bool), v17 = .bool x17_4 ∧ Aside0 (semver_identifiers.j1 kq a0 x3_1 x4_1 x5_1 (bt a0 x5_1) x17_4 = some r) ∧ Aside0 (kq ≤ k1) ∧ Drawn0 w wc)
     case first =>
      have H := HC5.out
      clear HC5
      by_cases c6 : 48 ≤ (bt a0 x5_1)
      ·rw [if_pos c6] at H
       have c6b0 : decide (48 ≤ (bt a0 x5_1)) = true := decide_eq_true c6
       clear c6
       (first | rw [c6b0] | (simp only [i64_w, i32_w]; rw [c6b0]) | skip)
       by_cases c7 : (bt a0 x5_1) ≤ 57
       ·rw [if_pos c7] at H
        have c7b0 : decide ((bt a0 x5_1) ≤ 57) = true := decide_eq_true c7
        clear c7
        have H' := Aside0.mk H
        clear H
        go_wp2
        go_meet
        case rel => exact ⟨_, (true), (by first | rfl | (simp; done) | (simp [*]; done)), H', ⟨by have := HK1.out; first | omega | exact Nat.le_refl _⟩, by repeat (first | exact Drawn0.refl _ | apply Drawn0.step)⟩
       ·rw [if_neg c7] at H
        have c7b0 : decide ((bt a0 x5_1) ≤ 57) = false := decide_eq_false c7
        clear c7
        by_cases c8 : 97 ≤ (bt a0 x5_1)
        ·rw [if_pos c8] at H
         have c8b0 : decide (97 ≤ (bt a0 x5_1)) = true := decide_eq_true c8
         clear c8
         by_cases c9 : (bt a0 x5_1) ≤ 122
         ·rw [if_pos c9] at H
          have c9b0 : decide ((bt a0 x5_1) ≤ 122) = true := decide_eq_true c9
          clear c9
          have H' := Aside0.mk H
          clear H
          go_wp2
          go_meet
          case rel => exact ⟨_, (true), (by first | rfl | (simp; done) | (simp [*]; done)), H', ⟨by have := HK1.out; first | omega | exact Nat.le_refl _⟩, by repeat (first | exact Drawn0.refl _ | apply Drawn0.step)⟩
         ·rw [if_neg c9] at H
          have c9b0 : decide ((bt a0 x5_1) ≤ 122) = false := decide_eq_false c9
          clear c9
          by_cases c10 : 65 ≤ (bt a0 x5_1)
          ·rw [if_pos c10] at H
           have c10b0 : decide (65 ≤ (bt a0 x5_1)) = true := decide_eq_true c10
           clear c10
           by_cases c11 : (bt a0 x5_1) ≤ 90
           ·rw [if_pos c11] at H
            have c11b0 : decide ((bt a0 x5_1) ≤ 90) = true := decide_eq_true c11
            clear c11
            have H' := Aside0.mk H
            clear H
            go_wp2
            go_meet
            case rel => exact ⟨_, (true), (by first | rfl | (simp; done) | (simp [*]; done)), H', ⟨by have := HK1.out; first | omega | exact Nat.le_refl _⟩, by repeat (first | exact Drawn0.refl _ | apply Drawn0.step)⟩
           ·rw [if_neg c11] at H
            have c11b0 : decide ((bt a0 x5_1) ≤ 90) = false := decide_eq_false c11
            clear c11
            have H' := Aside0.mk H
            clear H
            go_wp2
            go_meet
            case rel => exact ⟨_, (((bt a0 x5_1) == 45)), (by first | rfl | (simp; done) | (simp [*]; done)), H', ⟨by have := HK1.out; first | omega | exact Nat.le_refl _⟩, by repeat (first | exact Drawn0.refl _ | apply Drawn0.step)⟩
          ·rw [if_neg c10] at H
           have c10b0 : decide (65 ≤ (bt a0 x5_1)) = false := decide_eq_false c10
           clear c10
           have H' := Aside0.mk H
           clear H
           go_wp2
           go_meet
           case rel => exact ⟨_, (((bt a0 x5_1) == 45)), (by first | rfl | (simp; done) | (simp [*]; done)), H', ⟨by have := HK1.out; first | omega | exact Nat.le_refl _⟩, by repeat (first | exact Drawn0.refl _ | apply Drawn0.step)⟩
        ·rw [if_neg c8] at H
         have c8b0 : decide (97 ≤ (bt a0 x5_1)) = false := decide_eq_false c8
         clear c8
         by_cases c12 : 65 ≤ (bt a0 x5_1)
         ·rw [if_pos c12] at H
          have c12b0 : decide (65 ≤ (bt a0 x5_1)) = true := decide_eq_true c12
          clear c12
          by_cases c13 : (bt a0 x5_1) ≤ 90
          ·rw [if_pos c13] at H
           have c13b0 : decide ((bt a0 x5_1) ≤ 90) = true := decide_eq_true c13
           clear c13
           have H' := Aside0.mk H
           clear H
           go_wp2
           go_meet
           case rel => exact ⟨_, (true), (by first | rfl | (simp; done) | (simp [*]; done)), H', ⟨by have := HK1.out; first | omega | exact Nat.le_refl _⟩, by repeat (first | exact Drawn0.refl _ | apply Drawn0.step)⟩
          ·rw [if_neg c13] at H
           have c13b0 : decide ((bt a0 x5_1) ≤ 90) = false := decide_eq_false c13
           clear c13
           have H' := Aside0.mk H
           clear H
           go_wp2
           go_meet
           case rel => exact ⟨_, (((bt a0 x5_1) == 45)), (by first | rfl | (simp; done) | (simp [*]; done)), H', ⟨by have := HK1.out; first | omega | exact Nat.le_refl _⟩, by repeat (first | exact Drawn0.refl _ | apply Drawn0.step)⟩
         ·rw [if_neg c12] at H
          have c12b0 : decide (65 ≤ (bt a0 x5_1)) = false := decide_eq_false c12
          clear c12
          have H' := Aside0.mk H
          clear H
          go_wp2
          go_meet
          case rel => exact ⟨_, (((bt a0 x5_1) == 45)), (by first | rfl | (simp; done) | (simp [*]; done)), H', ⟨by have := HK1.out; first | omega | exact Nat.le_refl _⟩, by repeat (first | exact Drawn0.refl _ | apply Drawn0.step)⟩
      ·rw [if_neg c6] at H
       have c6b0 : decide (48 ≤ (bt a0 x5_1)) = false := decide_eq_false c6
       clear c6
       (first | rw [c6b0] | (simp only [i64_w, i32_w]; rw [c6b0]) | skip)
       by_cases c14 : 97 ≤ (bt a0 x5_1)
       ·rw [if_pos c14] at H
        have c14b0 : decide (97 ≤ (bt a0 x5_1)) = true := decide_eq_true c14
        clear c14
        by_cases c15 : (bt a0 x5_1) ≤ 122
        ·rw [if_pos c15] at H
         have c15b0 : decide ((bt a0 x5_1) ≤ 122) = true := decide_eq_true c15
         clear c15
         have H' := Aside0.mk H
         clear H
         go_wp2
         go_meet
         case rel => exact ⟨_, (true), (by first | rfl | (simp; done) | (simp [*]; done)), H', ⟨by have := HK1.out; first | omega | exact Nat.le_refl _⟩, by repeat (first | exact Drawn0.refl _ | apply Drawn0.step)⟩
        ·rw [if_neg c15] at H
         have c15b0 : decide ((bt a0 x5_1) ≤ 122) = false := decide_eq_false c15
         clear c15
         by_cases c16 : 65 ≤ (bt a0 x5_1)
         ·rw [if_pos c16] at H
          have c16b0 : decide (65 ≤ (bt a0 x5_1)) = true := decide_eq_true c16
          clear c16
          by_cases c17 : (bt a0 x5_1) ≤ 90
          ·rw [if_pos c17] at H
           have c17b0 : decide ((bt a0 x5_1) ≤ 90) = true := decide_eq_true c17
           clear c17
           have H' := Aside0.mk H
           clear H
           go_wp2
           go_meet
           case rel => exact ⟨_, (true), (by first | rfl | (simp; done) | (simp [*]; done)), H', ⟨by have := HK1.out; first | omega | exact Nat.le_refl _⟩, by repeat (first | exact Drawn0.refl _ | apply Drawn0.step)⟩
          ·rw [if_neg c17] at H
           have c17b0 : decide ((bt a0 x5_1) ≤ 90) = false := decide_eq_false c17
           clear c17
           have H' := Aside0.mk H
           clear H
           go_wp2
           go_meet
           case rel => exact ⟨_, (((bt a0 x5_1) == 45)), (by first | rfl | (simp; done) | (simp [*]; done)), H', ⟨by have := HK1.out; first | omega | exact Nat.le_refl _⟩, by repeat (first | exact Drawn0.refl _ | apply Drawn0.step)⟩
         ·rw [if_neg c16] at H
          have c16b0 : decide (65 ≤ (bt a0 x5_1)) = false := decide_eq_false c16
          clear c16
          have H' := Aside0.mk H
          clear H
          go_wp2
          go_meet
          case rel => exact ⟨_, (((bt a0 x5_1) == 45)), (by first | rfl | (simp; done) | (simp [*]; done)), H', ⟨by have := HK1.out; first | omega | exact Nat.le_refl _⟩, by repeat (first | exact Drawn0.refl _ | apply Drawn0.step)⟩
       ·rw [if_neg c14] at H
        have c14b0 : decide (97 ≤ (bt a0 x5_1)) = false := decide_eq_false c14
        clear c14
        by_cases c18 : 65 ≤ (bt a0 x5_1)
        ·rw [if_pos c18] at H
         have c18b0 : decide (65 ≤ (bt a0 x5_1)) = true := decide_eq_true c18
         clear c18
         by_cases c19 : (bt a0 x5_1) ≤ 90
         ·rw [if_pos c19] at H
          have c19b0 : decide ((bt a0 x5_1) ≤ 90) = true := decide_eq_true c19
          clear c19
          have H' := Aside0.mk H
          clear H
          go_wp2
          go_meet
          case rel => exact ⟨_, (true), (by first | rfl | (simp; done) | (simp [*]; done)), H', ⟨by have := HK1.out; first | omega | exact Nat.le_refl _⟩, by repeat (first | exact Drawn0.refl _ | apply Drawn0.step)⟩
         ·rw [if_neg c19] at H
          have c19b0 : decide ((bt a0 x5_1) ≤ 90) = false := decide_eq_false c19
          clear c19
          have H' := Aside0.mk H
          clear H
          go_wp2
          go_meet
          case rel => exact ⟨_, (((bt a0 x5_1) == 45)), (by first | rfl | (simp; done) | (simp [*]; done)), H', ⟨by have := HK1.out; first | omega | exact Nat.le_refl _⟩, by repeat (first | exact Drawn0.refl _ | apply Drawn0.step)⟩
        ·rw [if_neg c18] at H
         have c18b0 : decide (65 ≤ (bt a0 x5_1)) = false := decide_eq_false c18
         clear c18
         have H' := Aside0.mk H
         clear H
         go_wp2
         go_meet
         case rel => exact ⟨_, (((bt a0 x5_1) == 45)), (by first | rfl | (simp; done) | (simp [*]; done)), H', ⟨by have := HK1.out; first | omega | exact Nat.le_refl _⟩, by repeat (first | exact Drawn0.refl _ | apply Drawn0.step)⟩
     case rest =>
      clear HC5
      try clear c1
      try clear c2
      try clear c2b0
      try clear p2
      try clear c3
      try clear c3b0
      try clear p4
      try clear q4
      try clear hx4
      try clear c6
      try clear c6b0
      try clear c7
      try clear c7b0
      try clear c8
      try clear c8b0
      try clear c9
      try clear c9b0
      try clear c10
      try clear c10b0
      try clear c11
      try clear c11b0
      try clear c12
      try clear c12b0
      try clear c13
      try clear c13b0
      try clear c14
      try clear c14b0
      try clear c15
      try clear c15b0
      try clear c16
      try clear c16b0
      try clear c17
      try clear c17b0
      try clear c18
      try clear c18b0
      try clear c19
      try clear c19b0
      try clear p4
      try clear q4
      obtain ⟨kq, x17_4, rfl, HA, HJ4, ⟨mc4, rfl⟩⟩ := hcut
      cases kq with
      | zero => exact absurd HA.out (by simp [semver_identifiers.j1])
      | succ kj4 =>
       have H := HA.out
       clear HA
       simp only [semver_identifiers.j1] at H
       by_cases c20 : x17_4 = true
       ·subst c20
        have H1 : (semver_identifiers.l0 kj4 a0 (wrap64 (x5_1 + 1)) (wrap64 (x4_1 + 1)) (wrap64 (x5_1 + 1))) = some r := by rw [if_pos rfl] at H; exact H
        clear H
        have H := H1
        clear H1
        have H' := Aside0.mk H
        clear H
        go_wp2
        go_roundg kj4
        case measure => have := HK1.out; have := HJ4.out; omega
        case rel => exact ⟨(wrap64 (x5_1 + 1)), (wrap64 (x4_1 + 1)), (wrap64 (x5_1 + 1)), (by first | rfl | (simp; done) | (simp [*]; done)), (by first | rfl | (simp; done) | (simp [*]; done)), (by first | rfl | (simp; done) | (simp [*]; done)), H', ⟨by have := HK1.out; have := HJ4.out; omega⟩, by repeat (first | exact Drawn0.refl _ | apply Drawn0.step)⟩
       ·replace c20 := Bool.eq_false_iff.mpr c20
        subst c20
        have H1 : (if (bt a0 x5_1) = 46 then (if x4_1 > 0 then (semver_identifiers.l0 kj4 a0 x3_1 0 (wrap64 (x5_1 + 1))) else (some x3_1)) else (some x3_1)) = some r := by rw [if_neg (show ¬ (false = true) by decide)] at H; exact H
        clear H
        have H := H1
        clear H1
        by_cases c21 : (bt a0 x5_1) = 46
        ·rw [if_pos c21] at H
         have c21b0 : ((bt a0 x5_1) == 46) = true := beq_iff_eq.mpr c21
         have c21b1 : ((bt a0 x5_1) != 46) = false := bne_eq_false_iff_eq.mpr c21
         clear c21
         by_cases c22 : x4_1 > 0
         ·rw [if_pos c22] at H
          have c22b0 : decide (0 < x4_1) = true := decide_eq_true c22
          clear c22
          have H' := Aside0.mk H
          clear H
          go_wp2
          go_roundg kj4
          case measure => have := HK1.out; have := HJ4.out; omega
          case rel => exact ⟨(x3_1), (0), (wrap64 (x5_1 + 1)), (by first | rfl | (simp; done) | (simp [*]; done)), (by first | rfl | (simp; done) | (simp [*]; done)), (by first | rfl | (simp; done) | (simp [*]; done)), H', ⟨by have := HK1.out; have := HJ4.out; omega⟩, by repeat (first | exact Drawn0.refl _ | apply Drawn0.step)⟩
         ·rw [if_neg c22] at H
          have c22b0 : decide (0 < x4_1) = false := decide_eq_false c22
          clear c22
          obtain rfl := Option.some.inj H
          go_wp2
          go_ret
          exact ⟨by first | rfl | (simp; done) | (simp [*]; done), by repeat (first | exact Drawn0.refl _ | apply Drawn0.step)⟩
        ·rw [if_neg c21] at H
         have c21b0 : ((bt a0 x5_1) == 46) = false := beq_eq_false_iff_ne.mpr c21
         have c21b1 : ((bt a0 x5_1) != 46) = true := bne_iff_ne.mpr c21
         obtain rfl := Option.some.inj H
         go_wp2
         go_ret
         exact ⟨by first | rfl | (simp; done) | (simp [*]; done), by repeat (first | exact Drawn0.refl _ | apply Drawn0.step)⟩
    ·rw [if_neg c3] at H
     exact absurd H (by simp)
   ·rw [if_neg c2] at H
    have c2b0 : decide (x5_1 < (a0.size : Int)) = false := decide_eq_false c2
    clear c2
    obtain rfl := Option.some.inj H
    go_wp2
    go_ret
    exact ⟨by first | rfl | (simp; done) | (simp [*]; done), by repeat (first | exact Drawn0.refl _ | apply Drawn0.step)⟩
end Go.Proofs.YtgoeiflddikihaaGreatDoor.PFnIntersectAny
end
section
namespace Go.Proofs.YtgoeiflddikihaaGreatDoor.PFnVersion
open Go.RowKit Go.Proofs.YtgoeiflddikihaaGreatDoorW.PrintWords Go.Proofs.YtgoeiflddikihaaGreatDoorW.PrintLast Go.Proofs.YtgoeiflddikihaaGreatDoorW.PrintMore
attribute [local go_sem] max2_int min2_int max_two min_two max_three min_three max_four min_four   -- for this text's walks alone
set_option linter.unusedVariables false
set_option linter.unusedSimpArgs false
mutual
def spec_VerPlain.l0 : Nat → ByteArray → Int → Int → Option (Bool)
 | 0, _, _, _ => none
 | k + 1, x0, x1, x5 => if x5 < (x0.size : Int) then (spec_VerPlain.j1 k x0 x1 x5 (decide (x5 ≤ x1))) else (spec_VerPlain.j1 k x0 x1 x5 false)
def spec_VerPlain.j1 : Nat → ByteArray → Int → Int → Bool → Option (Bool)
 | 0, _, _, _, _ => none
 | k + 1, x0, x1, x5, x14 => if x14 = true then (if 0 ≤ x5 then (if x5 < (x0.size : Int) then (if (bt x0 x5) < 33 then (some false) else (if (bt x0 x5) > 126 then (some false) else (spec_VerPlain.l0 k x0 x1 (wrap64 (x5 + 1))))) else (none)) else (none)) else (if (x0.size : Int) > 0 then (some (decide ((x0.size : Int) ≤ x1))) else (some false))
end
def spec_VerPlain.f (k : Nat) (a0 : ByteArray) (a1 : Int) : Option (Bool) := spec_VerPlain.l0 k a0 a1 0
theorem spec_VerPlain.mono_l : ∀ k, (∀ y0 y1 y2, LeO (spec_VerPlain.l0 k y0 y1 y2) (spec_VerPlain.l0 (k + 1) y0 y1 y2)) ∧ (∀ y0 y1 y2 y3, LeO (spec_VerPlain.j1 k y0 y1 y2 y3) (spec_VerPlain.j1 (k + 1) y0 y1 y2 y3))
 | 0 => ⟨fun _ _ _ r h => by simp [spec_VerPlain.l0] at h, fun _ _ _ _ r h => by simp [spec_VerPlain.j1] at h⟩
 | k + 1 => by
  obtain ⟨ih0, ih1⟩ := spec_VerPlain.mono_l k
  refine ⟨?_, ?_⟩
  ·intro y0 y1 y2
   unfold spec_VerPlain.l0
   repeat' first
   | (with_reducible exact ih0 _ _ _)
   | (with_reducible exact ih1 _ _ _ _)
   | (with_reducible exact LeO.refl _)
   | (with_reducible exact LeO.none _)
   | (with_reducible refine LeO.ite ?_ ?_)
   | (with_reducible refine LeO.bind ?_ (fun _ => ?_))
   | exact ih0 _ _ _
   | exact ih1 _ _ _ _
   | exact LeO.none _
   | refine LeO.ite ?_ ?_
   | refine LeO.bind ?_ (fun _ => ?_)
  ·intro y0 y1 y2 y3
   unfold spec_VerPlain.j1
   repeat' first
   | (with_reducible exact ih0 _ _ _)
   | (with_reducible exact ih1 _ _ _ _)
   | (with_reducible exact LeO.refl _)
   | (with_reducible exact LeO.none _)
   | (with_reducible refine LeO.ite ?_ ?_)
   | (with_reducible refine LeO.bind ?_ (fun _ => ?_))
   | exact ih0 _ _ _
   | exact ih1 _ _ _ _
   | exact LeO.none _
   | refine LeO.ite ?_ ?_
   | refine LeO.bind ?_ (fun _ => ?_)
theorem spec_VerPlain.mono : ∀ a0 a1 k, LeO (spec_VerPlain.f k a0 a1) (spec_VerPlain.f (k + 1) a0 a1) := by
 intro a0 a1 k
 obtain ⟨ih0, ih1⟩ := spec_VerPlain.mono_l k
 unfold spec_VerPlain.f
 repeat' first
   | (with_reducible exact ih0 _ _ _)
   | (with_reducible exact ih1 _ _ _ _)
   | (with_reducible exact LeO.refl _)
   | (with_reducible exact LeO.none _)
   | (with_reducible refine LeO.ite ?_ ?_)
   | (with_reducible refine LeO.bind ?_ (fun _ => ?_))
   | exact ih0 _ _ _
   | exact ih1 _ _ _ _
   | exact LeO.none _
   | refine LeO.ite ?_ ?_
   | refine LeO.bind ?_ (fun _ => ?_)
set_option maxHeartbeats 8000000 in
set_option maxRecDepth 100000 in
theorem spec_VerPlain.calls (k : Nat) (a0 : ByteArray) (a1 : Int) (r : Bool) (w : World) (h : spec_VerPlain.f k a0 a1 = some r) :
  Calls Tryz.prog 33 #[.string a0, .int .i64 a1] w fun e w' => e = .returned (.bool r) ∧ Drawn0 w w' := by
 have H : (spec_VerPlain.l0 k a0 a1 0) = some r := h
 clear h
 have H' := Aside0.mk H
 clear H
 go_enter Tryz.func33, Tryz.ntmps33
 go_wp2
 go_loopg [5] k (fun kq v5 w' => ∃ (x5_1 : Int), v5 = .int .i64 x5_1 ∧ Aside0 (spec_VerPlain.l0 kq a0 a1 x5_1 = some r) ∧ Aside0 (kq ≤ k) ∧ Drawn0 w w')
 case atStart => exact ⟨(0), (by first | rfl | (simp; done) | (simp [*]; done)), H', ⟨Nat.le_refl _⟩, by repeat (first | exact Drawn0.refl _ | apply Drawn0.step)⟩
 case round =>
  clear H'
  try clear p2
  obtain ⟨x5_1, rfl, HA, HK1, ⟨m1, rfl⟩⟩ := hrel
  cases gk with
  | zero => exact absurd HA.out (by simp [spec_VerPlain.l0])
  | succ k1 =>
   have H := HA.out
   clear HA
   simp only [spec_VerPlain.l0] at H
   have HC3 := Aside0.mk H
   clear H
   go_upto_region 2 with (fail)
   go_cut [14] (fun v14 wc => ∃ (kq : Nat) (x14_2 : Bool), v14 = .bool x14_2 ∧ Aside0 (spec_VerPlain.j1 kq a0 a1 x5_1 x14_2 = some r) ∧ Aside0 (kq ≤ k1) ∧ Drawn0 w wc)
   case first =>
    have H := HC3.out
    clear HC3
    by_cases c4 : x5_1 < (a0.size : Int)
    ·rw [if_pos c4] at H
     have c4b0 : decide (x5_1 < (a0.size : Int)) = true := decide_eq_true c4
     clear c4
     (first | rw [c4b0] | (simp only [i64_w, i32_w]; rw [c4b0]) | skip)
     have H' := Aside0.mk H
     clear H
     go_wp2
     go_meet
     case rel => exact ⟨_, (decide (x5_1 ≤ a1)), (by first | rfl | (simp; done) | (simp [*]; done)), H', ⟨by have := HK1.out; first | omega | exact Nat.le_refl _⟩, by repeat (first | exact Drawn0.refl _ | apply Drawn0.step)⟩
    ·rw [if_neg c4] at H
     have c4b0 : decide (x5_1 < (a0.size : Int)) = false := decide_eq_false c4
     clear c4
     (first | rw [c4b0] | (simp only [i64_w, i32_w]; rw [c4b0]) | skip)
     have H' := Aside0.mk H
     clear H
     go_wp2
     go_meet
     case rel => exact ⟨_, (false), (by first | rfl | (simp; done) | (simp [*]; done)), H', ⟨by have := HK1.out; first | omega | exact Nat.le_refl _⟩, by repeat (first | exact Drawn0.refl _ | apply Drawn0.step)⟩
   case rest =>
    clear HC3
    try clear p2
    try clear c3
    try clear c4
    try clear c4b0
    try clear p2
    obtain ⟨kq, x14_2, rfl, HA, HJ2, ⟨mc2, rfl⟩⟩ := hcut
    cases kq with
    | zero => exact absurd HA.out (by simp [spec_VerPlain.j1])
    | succ kj2 =>
     have H := HA.out
     clear HA
     simp only [spec_VerPlain.j1] at H
     by_cases c5 : x14_2 = true
     ·subst c5
      have H1 : (if 0 ≤ x5_1 then (if x5_1 < (a0.size : Int) then (if (bt a0 x5_1) < 33 then (some false) else (if (bt a0 x5_1) > 126 then (some false) else (spec_VerPlain.l0 kj2 a0 a1 (wrap64 (x5_1 + 1))))) else (none)) else (none)) = some r := by rw [if_pos rfl] at H; exact H
      clear H
      have H := H1
      clear H1
      by_cases c6 : 0 ≤ x5_1
      ·rw [if_pos c6] at H
       have c6b0 : decide (0 ≤ x5_1) = true := decide_eq_true c6
       clear c6
       by_cases c7 : x5_1 < (a0.size : Int)
       ·rw [if_pos c7] at H
        have c7b0 : decide (x5_1 < (a0.size : Int)) = true := decide_eq_true c7
        clear c7
        by_cases c9 : (bt a0 x5_1) < 33
        ·rw [if_pos c9] at H
         have c9b0 : decide ((bt a0 x5_1) < 33) = true := decide_eq_true c9
         clear c9
         obtain rfl := Option.some.inj H
         have p8 : 0 ≤ (x5_1 : Int) := of_decide_eq_true (by first | (with_reducible assumption) | assumption)
         have q8 : x5_1 < (a0.size : Int) := of_decide_eq_true (by first | (with_reducible assumption) | assumption)
         have hx8 := bt_at a0 x5_1
         replace p8 := eq_true p8
         replace q8 := eq_true q8
         go_wp2
         go_ret
         exact ⟨by first | rfl | (simp; done) | (simp [*]; done), by repeat (first | exact Drawn0.refl _ | apply Drawn0.step)⟩
        ·rw [if_neg c9] at H
         have c9b0 : decide ((bt a0 x5_1) < 33) = false := decide_eq_false c9
         clear c9
         by_cases c11 : (bt a0 x5_1) > 126
         ·rw [if_pos c11] at H
          have c11b0 : decide (126 < (bt a0 x5_1)) = true := decide_eq_true c11
          clear c11
          obtain rfl := Option.some.inj H
          have p8 : 0 ≤ (x5_1 : Int) := of_decide_eq_true (by first | (with_reducible assumption) | assumption)
          have q8 : x5_1 < (a0.size : Int) := of_decide_eq_true (by first | (with_reducible assumption) | assumption)
          have hx8 := bt_at a0 x5_1
          replace p8 := eq_true p8
          replace q8 := eq_true q8
          have p10 : 0 ≤ (x5_1 : Int) := of_decide_eq_true (by first | (with_reducible assumption) | assumption)
          have q10 : x5_1 < (a0.size : Int) := of_decide_eq_true (by first | (with_reducible assumption) | assumption)
          have hx10 := bt_at a0 x5_1
          replace p10 := eq_true p10
          replace q10 := eq_true q10
          go_wp2
          go_ret
          exact ⟨by first | rfl | (simp; done) | (simp [*]; done), by repeat (first | exact Drawn0.refl _ | apply Drawn0.step)⟩
         ·rw [if_neg c11] at H
          have c11b0 : decide (126 < (bt a0 x5_1)) = false := decide_eq_false c11
          clear c11
          have H' := Aside0.mk H
          clear H
          have p8 : 0 ≤ (x5_1 : Int) := of_decide_eq_true (by first | (with_reducible assumption) | assumption)
          have q8 : x5_1 < (a0.size : Int) := of_decide_eq_true (by first | (with_reducible assumption) | assumption)
          have hx8 := bt_at a0 x5_1
          replace p8 := eq_true p8
          replace q8 := eq_true q8
          have p10 : 0 ≤ (x5_1 : Int) := of_decide_eq_true (by first | (with_reducible assumption) | assumption)
          have q10 : x5_1 < (a0.size : Int) := of_decide_eq_true (by first | (with_reducible assumption) | assumption)
          have hx10 := bt_at a0 x5_1
          replace p10 := eq_true p10
          replace q10 := eq_true q10
          go_wp2
          go_roundg kj2
          case measure => have := HK1.out; have := HJ2.out; omega
          case rel => exact ⟨(wrap64 (x5_1 + 1)), (by first | rfl | (simp; done) | (simp [*]; done)), H', ⟨by have := HK1.out; have := HJ2.out; omega⟩, by repeat (first | exact Drawn0.refl _ | apply Drawn0.step)⟩
       ·rw [if_neg c7] at H
        exact absurd H (by simp)
      ·rw [if_neg c6] at H
       exact absurd H (by simp)
     ·replace c5 := Bool.eq_false_iff.mpr c5
      subst c5
      have H1 : (if (a0.size : Int) > 0 then (some (decide ((a0.size : Int) ≤ a1))) else (some false)) = some r := by rw [if_neg (show ¬ (false = true) by decide)] at H; exact H
      clear H
      have H := H1
      clear H1
      by_cases c12 : (a0.size : Int) > 0
      ·rw [if_pos c12] at H
       have c12b0 : decide (0 < (a0.size : Int)) = true := decide_eq_true c12
       have c12b1 : decide (0 < a0.size) = true := decide_eq_true (by omega)
       clear c12
       obtain rfl := Option.some.inj H
       go_wp2
       go_ret
       exact ⟨by first | rfl | (simp; done) | (simp [*]; done), by repeat (first | exact Drawn0.refl _ | apply Drawn0.step)⟩
      ·rw [if_neg c12] at H
       have c12b0 : decide (0 < (a0.size : Int)) = false := decide_eq_false c12
       have c12b1 : decide (0 < a0.size) = false := decide_eq_false (by omega)
       clear c12
       obtain rfl := Option.some.inj H
       go_wp2
       go_ret
       exact ⟨by first | rfl | (simp; done) | (simp [*]; done), by repeat (first | exact Drawn0.refl _ | apply Drawn0.step)⟩
def spec_verCut.l0 : Nat → ByteArray → Int → Int → Option (ByteArray × ByteArray × Bool)
 | 0, _, _, _ => none
 | k + 1, x0, x1, x7 => if x7 < (x0.size : Int) then (if 0 ≤ x7 then (if (bt x0 x7) = x1 then (if x7 ≤ (x0.size : Int) then (if 0 ≤ (wrap64 (x7 + 1)) then (if (wrap64 (x7 + 1)) ≤ (x0.size : Int) then (some (x0.extract 0 (x7 : Int).toNat, x0.extract ((wrap64 (x7 + 1)) : Int).toNat x0.size, true)) else (none)) else (none)) else (none)) else (spec_verCut.l0 k x0 x1 (wrap64 (x7 + 1)))) else (none)) else (some (x0, (⟨#[]⟩ : ByteArray), false))
def spec_verCut.f (k : Nat) (a0 : ByteArray) (a1 : Int) : Option (ByteArray × ByteArray × Bool) := spec_verCut.l0 k a0 a1 0
theorem spec_verCut.mono_l : ∀ k, (∀ y0 y1 y2, LeO (spec_verCut.l0 k y0 y1 y2) (spec_verCut.l0 (k + 1) y0 y1 y2))
 | 0 => fun _ _ _ r h => by simp [spec_verCut.l0] at h
 | k + 1 => by
  have ih0 := spec_verCut.mono_l k
  ·intro y0 y1 y2
   unfold spec_verCut.l0
   repeat' first
   | (with_reducible exact ih0 _ _ _)
   | (with_reducible exact LeO.refl _)
   | (with_reducible exact LeO.none _)
   | (with_reducible refine LeO.ite ?_ ?_)
   | (with_reducible refine LeO.bind ?_ (fun _ => ?_))
   | exact ih0 _ _ _
   | exact LeO.none _
   | refine LeO.ite ?_ ?_
   | refine LeO.bind ?_ (fun _ => ?_)
theorem spec_verCut.mono : ∀ a0 a1 k, LeO (spec_verCut.f k a0 a1) (spec_verCut.f (k + 1) a0 a1) := by
 intro a0 a1 k
 have ih0 := spec_verCut.mono_l k
 unfold spec_verCut.f
 repeat' first
   | (with_reducible exact ih0 _ _ _)
   | (with_reducible exact LeO.refl _)
   | (with_reducible exact LeO.none _)
   | (with_reducible refine LeO.ite ?_ ?_)
   | (with_reducible refine LeO.bind ?_ (fun _ => ?_))
   | exact ih0 _ _ _
   | exact LeO.none _
   | refine LeO.ite ?_ ?_
   | refine LeO.bind ?_ (fun _ => ?_)
set_option maxHeartbeats 8000000 in
set_option maxRecDepth 100000 in
theorem spec_verCut.calls (k : Nat) (a0 : ByteArray) (a1 : Int) (r1 : ByteArray) (r2 : ByteArray) (r3 : Bool) (w : World) (h : spec_verCut.f k a0 a1 = some (r1, r2, r3)) :
  Calls Tryz.prog 71 #[.string a0, .int .u8 a1] w fun e w' => e = .returned (.tuple #[.string r1, .string r2, .bool r3]) ∧ Drawn0 w w' := by
 have H : (spec_verCut.l0 k a0 a1 0) = some (r1, r2, r3) := h
 clear h
 have H' := Aside0.mk H
 clear H
 go_enter Tryz.func71, Tryz.ntmps71
 go_wp2
 repeat (go_quiet (fail); try go_wp2)
 go_loopg [7] k (fun kq v7 w' => ∃ (x7_1 : Int), v7 = .int .i64 x7_1 ∧ Aside0 (spec_verCut.l0 kq a0 a1 x7_1 = some (r1, r2, r3)) ∧ Aside0 (kq ≤ k) ∧ Drawn0 w w')
 case atStart => exact ⟨(0), (by first | rfl | (simp; done) | (simp [*]; done)), H', ⟨Nat.le_refl _⟩, by repeat (first | exact Drawn0.refl _ | apply Drawn0.step)⟩
 case round =>
  clear H'
  try clear p2
  obtain ⟨x7_1, rfl, HA, HK1, ⟨m1, rfl⟩⟩ := hrel
  cases gk with
  | zero => exact absurd HA.out (by simp [spec_verCut.l0])
  | succ k1 =>
   have H := HA.out
   clear HA
   simp only [spec_verCut.l0] at H
   by_cases c3 : x7_1 < (a0.size : Int)
   ·rw [if_pos c3] at H
    have c3b0 : decide (x7_1 < (a0.size : Int)) = true := decide_eq_true c3
    clear c3
    by_cases c4 : 0 ≤ x7_1
    ·rw [if_pos c4] at H
     have c4b0 : decide (0 ≤ x7_1) = true := decide_eq_true c4
     clear c4
     by_cases c6 : (bt a0 x7_1) = a1
     ·rw [if_pos c6] at H
      have c6b0 : ((bt a0 x7_1) == a1) = true := beq_iff_eq.mpr c6
      have c6b1 : ((bt a0 x7_1) != a1) = false := bne_eq_false_iff_eq.mpr c6
      clear c6
      have c7b0 := eq_true (of_decide_eq_true (by first | (with_reducible assumption) | assumption) : 0 ≤ x7_1)
      by_cases c8 : x7_1 ≤ (a0.size : Int)
      ·rw [if_pos c8] at H
       have c8b0 := eq_true c8
       have c8b1 : decide (x7_1 ≤ (a0.size : Int)) = true := decide_eq_true c8
       clear c8
       obtain ⟨ji9, hji9⟩ : ∃ j_ : Int, (wrap64 (x7_1 + 1)) = j_ := ⟨_, rfl⟩
       replace H : (if 0 ≤ (ji9) then (if (ji9) ≤ (a0.size : Int) then (some (a0.extract 0 (x7_1 : Int).toNat, a0.extract ((ji9) : Int).toNat a0.size, true)) else (none)) else (none)) = some (r1, r2, r3) := by first | (rw [hji9] at H; exact H) | (simp only [hji9] at H ⊢; exact H)
       have hji9w : (IntKind.i64.wrap (x7_1 + 1)) = ji9 := (i64_w _).trans hji9
       by_cases c10 : 0 ≤ (ji9)
       ·rw [if_pos c10] at H
        have c10b0 := eq_true c10
        have c10b1 : decide (0 ≤ (ji9)) = true := decide_eq_true c10
        clear c10
        by_cases c11 : (ji9) ≤ (a0.size : Int)
        ·rw [if_pos c11] at H
         have c11b0 := eq_true c11
         have c11b1 : decide ((ji9) ≤ (a0.size : Int)) = true := decide_eq_true c11
         clear c11
         simp only [Option.some.injEq, Prod.mk.injEq] at H
         obtain ⟨rfl, rfl, rfl⟩ := H
         have p5 : 0 ≤ (x7_1 : Int) := of_decide_eq_true (by first | (with_reducible assumption) | assumption)
         have q5 : x7_1 < (a0.size : Int) := of_decide_eq_true (by first | (with_reducible assumption) | assumption)
         have hx5 := bt_at a0 x7_1
         replace p5 := eq_true p5
         replace q5 := eq_true q5
         go_wp2
         repeat (go_quiet (fail); try go_wp2)
         go_ret3
         exact ⟨by first | rfl | (simp; done) | (simp only [← hji9] <;> (first | rfl | simp)) | (simp [*]; done), by repeat (first | exact Drawn0.refl _ | apply Drawn0.step)⟩
        ·rw [if_neg c11] at H
         exact absurd H (by simp)
       ·rw [if_neg c10] at H
        exact absurd H (by simp)
      ·rw [if_neg c8] at H
       exact absurd H (by simp)
     ·rw [if_neg c6] at H
      have c6b0 : ((bt a0 x7_1) == a1) = false := beq_eq_false_iff_ne.mpr c6
      have c6b1 : ((bt a0 x7_1) != a1) = true := bne_iff_ne.mpr c6
      have H' := Aside0.mk H
      clear H
      have p5 : 0 ≤ (x7_1 : Int) := of_decide_eq_true (by first | (with_reducible assumption) | assumption)
      have q5 : x7_1 < (a0.size : Int) := of_decide_eq_true (by first | (with_reducible assumption) | assumption)
      have hx5 := bt_at a0 x7_1
      replace p5 := eq_true p5
      replace q5 := eq_true q5
      go_wp2
      repeat (go_quiet (fail); try go_wp2)
      go_roundg k1
      case measure => have := HK1.out; omega
      case rel => exact ⟨(wrap64 (x7_1 + 1)), (by first | rfl | (simp; done) | (simp [*]; done)), H', ⟨by have := HK1.out; omega⟩, by repeat (first | exact Drawn0.refl _ | apply Drawn0.step)⟩
    ·rw [if_neg c4] at H
     exact absurd H (by simp)
   ·rw [if_neg c3] at H
    have c3b0 : decide (x7_1 < (a0.size : Int)) = false := decide_eq_false c3
    clear c3
    simp only [Option.some.injEq, Prod.mk.injEq] at H
    obtain ⟨rfl, rfl, rfl⟩ := H
    go_wp2
    repeat (go_quiet (fail); try go_wp2)
    go_ret3
    exact ⟨by first | rfl | (simp; done) | (simp [*]; done), by repeat (first | exact Drawn0.refl _ | apply Drawn0.step)⟩
end Go.Proofs.YtgoeiflddikihaaGreatDoor.PFnVersion
end
