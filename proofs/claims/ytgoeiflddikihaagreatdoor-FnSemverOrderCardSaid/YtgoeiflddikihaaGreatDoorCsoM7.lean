/- Merged by program out of: VBase, VPa, VPd, VPe, VPj, VIdent, VCmp. -/
import Derived.Test.YtgoeiflddikihaaGreatDoorCsoM3
import Derived.Stop.Asserts
import Derived.Lib.Hide
import Derived.WalkKit
import Derived.WalkSpells
import Derived.Test.YtgoeiflddikihaaGreatDoorCsoM6
import Derived.Test.YtgoeiflddikihaaGreatDoorCsoM2
import Derived.Sort.Statements
section
namespace Go.Proofs.YtgoeiflddikihaaGreatDoor.Ver
open Go.RowKit Go.Proofs.YtgoeiflddikihaaGreatDoorW.PrintWords
structure SV where
  major : Int
  minor : Int
  patch : Int
  pre : ByteArray
  mt : ByteArray
  orig : ByteArray
def SV.cells (v : SV) : Array Value := #[.int .u64 v.major, .int .u64 v.minor, .int .u64 v.patch, .string v.pre, .string v.mt, .string v.orig]
inductive Unp where
  | branch (name : ByteArray) (dflt : Bool)
  | plain (s : ByteArray)
  | sem (v : SV)
inductive Vers where
  | rev (s : ByteArray)
  | un (u : Unp)
  | pair (u : Unp) (r : ByteArray)
def Unp.tid : Unp → TypeId
  | .branch _ _ => 215
  | .plain _ => 224
  | .sem _ => 200
def Unp.inner : Unp → Value
  | .branch n d => .agg #[.string n, .bool d]
  | .plain s => .string s
  | .sem v => .agg v.cells
def Unp.val (u : Unp) : Value := .iface u.tid u.inner
def Vers.tid : Vers → TypeId
  | .rev _ => 135
  | .un u => u.tid
  | .pair _ _ => 212
def Vers.inner : Vers → Value
  | .rev s => .string s
  | .un u => u.inner
  | .pair u r => .agg #[u.val, .string r]
def Vers.val (v : Vers) : Value := .iface v.tid v.inner
theorem m_rev_String (v : Value) (w : World) : (method 417 135 v "String").run Tryz.prog w = .ok (101, v) w := by kernel_rfl
theorem m_rev_Type (v : Value) (w : World) : (method 417 135 v "Type").run Tryz.prog w = .ok (198, v) w := by kernel_rfl
theorem m_sv_Intersect (v : Value) (w : World) : (method 417 197 v "Intersect").run Tryz.prog w = .ok (231, v) w := by kernel_rfl
theorem m_sv_Matches (v : Value) (w : World) : (method 417 197 v "Matches").run Tryz.prog w = .ok (232, v) w := by kernel_rfl
theorem m_sem_ImpliedCaretString (v : Value) (w : World) : (method 417 200 v "ImpliedCaretString").run Tryz.prog w = .ok (237, v) w := by kernel_rfl
theorem m_sem_Matches (v : Value) (w : World) : (method 417 200 v "Matches").run Tryz.prog w = .ok (239, v) w := by kernel_rfl
theorem m_sem_Pair (v : Value) (w : World) : (method 417 200 v "Pair").run Tryz.prog w = .ok (241, v) w := by kernel_rfl
theorem m_sem_String (v : Value) (w : World) : (method 417 200 v "String").run Tryz.prog w = .ok (242, v) w := by kernel_rfl
theorem m_sem_Type (v : Value) (w : World) : (method 417 200 v "Type").run Tryz.prog w = .ok (243, v) w := by kernel_rfl
theorem m_sc_Matches (v : Value) (w : World) : (method 417 202 v "Matches").run Tryz.prog w = .ok (251, v) w := by kernel_rfl
theorem m_pair_ImpliedCaretString (v : Value) (w : World) : (method 417 212 v "ImpliedCaretString").run Tryz.prog w = .ok (263, v) w := by kernel_rfl
theorem m_pair_Revision (v : Value) (w : World) : (method 417 212 v "Revision").run Tryz.prog w = .ok (267, v) w := by kernel_rfl
theorem m_pair_String (v : Value) (w : World) : (method 417 212 v "String").run Tryz.prog w = .ok (268, v) w := by kernel_rfl
theorem m_pair_Type (v : Value) (w : World) : (method 417 212 v "Type").run Tryz.prog w = .ok (269, v) w := by kernel_rfl
theorem m_pair_Unpair (v : Value) (w : World) : (method 417 212 v "Unpair").run Tryz.prog w = .ok (270, v) w := by kernel_rfl
theorem m_branch_Pair (v : Value) (w : World) : (method 417 215 v "Pair").run Tryz.prog w = .ok (278, v) w := by kernel_rfl
theorem m_branch_String (v : Value) (w : World) : (method 417 215 v "String").run Tryz.prog w = .ok (279, v) w := by kernel_rfl
theorem m_branch_Type (v : Value) (w : World) : (method 417 215 v "Type").run Tryz.prog w = .ok (280, v) w := by kernel_rfl
theorem m_plain_Pair (v : Value) (w : World) : (method 417 224 v "Pair").run Tryz.prog w = .ok (288, v) w := by kernel_rfl
theorem m_plain_String (v : Value) (w : World) : (method 417 224 v "String").run Tryz.prog w = .ok (289, v) w := by kernel_rfl
theorem m_plain_Type (v : Value) (w : World) : (method 417 224 v "Type").run Tryz.prog w = .ok (290, v) w := by kernel_rfl
theorem m_range_Intersect (v : Value) (w : World) : (method 417 238 v "Intersect").run Tryz.prog w = .ok (295, v) w := by kernel_rfl
theorem m_range_Matches (v : Value) (w : World) : (method 417 238 v "Matches").run Tryz.prog w = .ok (296, v) w := by kernel_rfl
end Go.Proofs.YtgoeiflddikihaaGreatDoor.Ver
end
section
namespace Go.Proofs.YtgoeiflddikihaaGreatDoor.PFnIntersectAny
open Go.RowKit Go.Proofs.YtgoeiflddikihaaGreatDoorW.PrintWords Go.Proofs.YtgoeiflddikihaaGreatDoorW.PrintLast Go.Proofs.YtgoeiflddikihaaGreatDoorW.PrintMore
attribute [local go_sem] max2_int min2_int max_two min_two max_three min_three max_four min_four   -- for this text's walks alone
set_option linter.unusedVariables false
set_option linter.unusedSimpArgs false
mutual
def semver_identifiers.l0 : Nat → ByteArray → Int → Int → Int → Option (Int)
 | 0, _, _, _, _ => none
 | k + 1, x0, x3, x4, x5 => if x5 < (x0.size : Int) then (if 0 ≤ x5 then (if 48 ≤ (bt x0 x5) then (if (bt x0 x5) ≤ 57 then (semver_identifiers.j1 k x0 x3 x4 x5 (bt x0 x5) true) else (if 97 ≤ (bt x0 x5) then (if (bt x0 x5) ≤ 122 then (semver_identifiers.j1 k x0 x3 x4 x5 (bt x0 x5) true) else (if 65 ≤ (bt x0 x5) then (if (bt x0 x5) ≤ 90 then (semver_identifiers.j1 k x0 x3 x4 x5 (bt x0 x5) true) else (semver_identifiers.j1 k x0 x3 x4 x5 (bt x0 x5) ((bt x0 x5) == 45))) else (semver_identifiers.j1 k x0 x3 x4 x5 (bt x0 x5) ((bt x0 x5) == 45)))) else (if 65 ≤ (bt x0 x5) then (if (bt x0 x5) ≤ 90 then (semver_identifiers.j1 k x0 x3 x4 x5 (bt x0 x5) true) else (semver_identifiers.j1 k x0 x3 x4 x5 (bt x0 x5) ((bt x0 x5) == 45))) else (semver_identifiers.j1 k x0 x3 x4 x5 (bt x0 x5) ((bt x0 x5) == 45))))) else (if 97 ≤ (bt x0 x5) then (if (bt x0 x5) ≤ 122 then (semver_identifiers.j1 k x0 x3 x4 x5 (bt x0 x5) true) else (if 65 ≤ (bt x0 x5) then (if (bt x0 x5) ≤ 90 then (semver_identifiers.j1 k x0 x3 x4 x5 (bt x0 x5) true) else (semver_identifiers.j1 k x0 x3 x4 x5 (bt x0 x5) ((bt x0 x5) == 45))) else (semver_identifiers.j1 k x0 x3 x4 x5 (bt x0 x5) ((bt x0 x5) == 45)))) else (if 65 ≤ (bt x0 x5) then (if (bt x0 x5) ≤ 90 then (semver_identifiers.j1 k x0 x3 x4 x5 (bt x0 x5) true) else (semver_identifiers.j1 k x0 x3 x4 x5 (bt x0 x5) ((bt x0 x5) == 45))) else (semver_identifiers.j1 k x0 x3 x4 x5 (bt x0 x5) ((bt x0 x5) == 45))))) else (none)) else (some x3)
def semver_identifiers.j1 : Nat → ByteArray → Int → Int → Int → Int → Bool → Option (Int)
 | 0, _, _, _, _, _, _ => none
 | k + 1, x0, x3, x4, x5, x6, x17 => if x17 = true then (semver_identifiers.l0 k x0 (wrap64 (x5 + 1)) (wrap64 (x4 + 1)) (wrap64 (x5 + 1))) else (if x6 = 46 then (if x4 > 0 then (semver_identifiers.l0 k x0 x3 0 (wrap64 (x5 + 1))) else (some x3)) else (some x3))
end
def semver_identifiers.f (k : Nat) (a0 : ByteArray) : Option (Int) := semver_identifiers.l0 k a0 0 0 0
theorem semver_identifiers.mono_l : ∀ k, (∀ y0 y1 y2 y3, LeO (semver_identifiers.l0 k y0 y1 y2 y3) (semver_identifiers.l0 (k + 1) y0 y1 y2 y3)) ∧ (∀ y0 y1 y2 y3 y4 y5, LeO (semver_identifiers.j1 k y0 y1 y2 y3 y4 y5) (semver_identifiers.j1 (k + 1) y0 y1 y2 y3 y4 y5))
 | 0 => ⟨fun _ _ _ _ r h => by simp [semver_identifiers.l0] at h, fun _ _ _ _ _ _ r h => by simp [semver_identifiers.j1] at h⟩
 | k + 1 => by
  obtain ⟨ih0, ih1⟩ := semver_identifiers.mono_l k
  refine ⟨?_, ?_⟩
  ·intro y0 y1 y2 y3
   unfold semver_identifiers.l0
   repeat' first
   | (with_reducible exact ih0 _ _ _ _)
   | (with_reducible exact ih1 _ _ _ _ _ _)
   | (with_reducible exact LeO.refl _)
   | (with_reducible exact LeO.none _)
   | (with_reducible refine LeO.ite ?_ ?_)
   | (with_reducible refine LeO.bind ?_ (fun _ => ?_))
   | exact ih0 _ _ _ _
   | exact ih1 _ _ _ _ _ _
   | exact LeO.none _
   | refine LeO.ite ?_ ?_
   | refine LeO.bind ?_ (fun _ => ?_)
  ·intro y0 y1 y2 y3 y4 y5
   unfold semver_identifiers.j1
   repeat' first
   | (with_reducible exact ih0 _ _ _ _)
   | (with_reducible exact ih1 _ _ _ _ _ _)
   | (with_reducible exact LeO.refl _)
   | (with_reducible exact LeO.none _)
   | (with_reducible refine LeO.ite ?_ ?_)
   | (with_reducible refine LeO.bind ?_ (fun _ => ?_))
   | exact ih0 _ _ _ _
   | exact ih1 _ _ _ _ _ _
   | exact LeO.none _
   | refine LeO.ite ?_ ?_
   | refine LeO.bind ?_ (fun _ => ?_)
theorem semver_identifiers.mono : ∀ a0 k, LeO (semver_identifiers.f k a0) (semver_identifiers.f (k + 1) a0) := by
 intro a0 k
 obtain ⟨ih0, ih1⟩ := semver_identifiers.mono_l k
 unfold semver_identifiers.f
 repeat' first
   | (with_reducible exact ih0 _ _ _ _)
   | (with_reducible exact ih1 _ _ _ _ _ _)
   | (with_reducible exact LeO.refl _)
   | (with_reducible exact LeO.none _)
   | (with_reducible refine LeO.ite ?_ ?_)
   | (with_reducible refine LeO.bind ?_ (fun _ => ?_))
   | exact ih0 _ _ _ _
   | exact ih1 _ _ _ _ _ _
   | exact LeO.none _
   | refine LeO.ite ?_ ?_
   | refine LeO.bind ?_ (fun _ => ?_)
set_option maxHeartbeats 8000000 in
set_option maxRecDepth 100000 in
theorem semver_identifiers.calls (k : Nat) (a0 : ByteArray) (r : Int) (w : World) (h : semver_identifiers.f k a0 = some r) :
  Calls Tryz.prog 153 #[.string a0] w fun e w' => e = .returned (.int .i64 r) ∧ Drawn0 w w' := by
 have H : (semver_identifiers.l0 k a0 0 0 0) = some r := h
 clear h
 have H' := Aside0.mk H
 clear H
 go_enter Tryz.func153, Tryz.ntmps153
 go_wp2
 go_loopg [3, 4, 5] k (fun kq v3 v4 v5 w' => ∃ (x3_1 : Int) (x4_1 : Int) (x5_1 : Int), v3 = .int .i64 x3_1 ∧ v4 = .int .i64 x4_1 ∧ v5 = .int .i64 x5_1 ∧ Aside0 (semver_identifiers.l0 kq a0 x3_1 x4_1 x5_1 = some r) ∧ Aside0 (kq ≤ k) ∧ Drawn0 w w')
 case atStart => exact ⟨(0), (0), (0), (by first | rfl | (simp; done) | (simp [*]; done)), (by first | rfl | (simp; done) | (simp [*]; done)), (by first | rfl | (simp; done) | (simp [*]; done)), H', ⟨Nat.le_refl _⟩, by repeat (first | exact Drawn0.refl _ | apply Drawn0.step)⟩
 case round =>
  clear H'
  try clear c1
  obtain ⟨x3_1, x4_1, x5_1, rfl, rfl, rfl, HA, HK1, ⟨m1, rfl⟩⟩ := hrel
  cases gk with
  | zero => exact absurd HA.out (by simp [semver_identifiers.l0])
  | succ k1 =>
   have H := HA.out
   clear HA
   simp only [semver_identifiers.l0] at H
   by_cases c2 : x5_1 < (a0.size : Int)
   ·rw [if_pos c2] at H
    have c2b0 : decide (x5_1 < (a0.size : Int)) = true := decide_eq_true c2
    clear c2
    by_cases c3 : 0 ≤ x5_1
    ·rw [if_pos c3] at H
     have c3b0 : decide (0 ≤ x5_1) = true := decide_eq_true c3
     clear c3
     have HC5 := Aside0.mk H
     clear H
     have p4 : 0 ≤ (x5_1 : Int) := of_decide_eq_true (by first | (with_reducible assumption) | assumption)
     have q4 : x5_1 < (a0.size : Int) := of_decide_eq_true (by first | (with_reducible assumption) | assumption)
     have hx4 := bt_at a0 x5_1
     replace p4 := eq_true p4
     replace q4 := eq_true q4
     go_upto_region 7 with (fail)
     go_cut [17] (fun v17 wc => ∃ (kq : Nat) (x17_4 : Bool), v17 = .bool x17_4 ∧ Aside0 (semver_identifiers.j1 kq a0 x3_1 x4_1 x5_1 (bt a0 x5_1) x17_4 = some r) ∧ Aside0 (kq ≤ k1) ∧ Drawn0 w wc)
     case first =>
      have H := HC5.out
      clear HC5
      by_cases c6 : 48 ≤ (bt a0 x5_1)
      ·rw [if_pos c6] at H
       have c6b0 : decide (48 ≤ (bt a0 x5_1)) = true := decide_eq_true c6
       clear c6
       (first | rw [c6b0] | (simp only [i64_w, i32_w]; rw [c6b0]) | skip)
       by_cases c7 : (bt a0 x5_1) ≤ 57
       ·rw [if_pos c7] at H
        have c7b0 : decide ((bt a0 x5_1) ≤ 57) = true := decide_eq_true c7
        clear c7
        have H' := Aside0.mk H
        clear H
        go_wp2
        go_meet
        case rel => exact ⟨_, (true), (by first | rfl | (simp; done) | (simp [*]; done)), H', ⟨by have := HK1.out; first | omega | exact Nat.le_refl _⟩, by repeat (first | exact Drawn0.refl _ | apply Drawn0.step)⟩
       ·rw [if_neg c7] at H
        have c7b0 : decide ((bt a0 x5_1) ≤ 57) = false := decide_eq_false c7
        clear c7
        by_cases c8 : 97 ≤ (bt a0 x5_1)
        ·rw [if_pos c8] at H
         have c8b0 : decide (97 ≤ (bt a0 x5_1)) = true := decide_eq_true c8
         clear c8
         by_cases c9 : (bt a0 x5_1) ≤ 122
         ·rw [if_pos c9] at H
          have c9b0 : decide ((bt a0 x5_1) ≤ 122) = true := decide_eq_true c9
          clear c9
          have H' := Aside0.mk H
          clear H
          go_wp2
          go_meet
          case rel => exact ⟨_, (true), (by first | rfl | (simp; done) | (simp [*]; done)), H', ⟨by have := HK1.out; first | omega | exact Nat.le_refl _⟩, by repeat (first | exact Drawn0.refl _ | apply Drawn0.step)⟩
         ·rw [if_neg c9] at H
          have c9b0 : decide ((bt a0 x5_1) ≤ 122) = false := decide_eq_false c9
          clear c9
          by_cases c10 : 65 ≤ (bt a0 x5_1)
          ·rw [if_pos c10] at H
           have c10b0 : decide (65 ≤ (bt a0 x5_1)) = true := decide_eq_true c10
           clear c10
           by_cases c11 : (bt a0 x5_1) ≤ 90
           ·rw [if_pos c11] at H
            have c11b0 : decide ((bt a0 x5_1) ≤ 90) = true := decide_eq_true c11
            clear c11
            have H' := Aside0.mk H
            clear H
            go_wp2
            go_meet
            case rel => exact ⟨_, (true), (by first | rfl | (simp; done) | (simp [*]; done)), H', ⟨by have := HK1.out; first | omega | exact Nat.le_refl _⟩, by repeat (first | exact Drawn0.refl _ | apply Drawn0.step)⟩
           ·rw [if_neg c11] at H
            have c11b0 : decide ((bt a0 x5_1) ≤ 90) = false := decide_eq_false c11
            clear c11
            have H' := Aside0.mk H
            clear H
            go_wp2
            go_meet
            case rel => exact ⟨_, (((bt a0 x5_1) == 45)), (by first | rfl | (simp; done) | (simp [*]; done)), H', ⟨by have := HK1.out; first | omega | exact Nat.le_refl _⟩, by repeat (first | exact Drawn0.refl _ | apply Drawn0.step)⟩
          ·rw [if_neg c10] at H
           have c10b0 : decide (65 ≤ (bt a0 x5_1)) = false := decide_eq_false c10
           clear c10
           have H' := Aside0.mk H
           clear H
           go_wp2
           go_meet
           case rel => exact ⟨_, (((bt a0 x5_1) == 45)), (by first | rfl | (simp; done) | (simp [*]; done)), H', ⟨by have := HK1.out; first | omega | exact Nat.le_refl _⟩, by repeat (first | exact Drawn0.refl _ | apply Drawn0.step)⟩
        ·rw [if_neg c8] at H
         have c8b0 : decide (97 ≤ (bt a0 x5_1)) = false := decide_eq_false c8
         clear c8
         by_cases c12 : 65 ≤ (bt a0 x5_1)
         ·rw [if_pos c12] at H
          have c12b0 : decide (65 ≤ (bt a0 x5_1)) = true := decide_eq_true c12
          clear c12
          by_cases c13 : (bt a0 x5_1) ≤ 90
          ·rw [if_pos c13] at H
           have c13b0 : decide ((bt a0 x5_1) ≤ 90) = true := decide_eq_true c13
           clear c13
           have H' := Aside0.mk H
           clear H
           go_wp2
           go_meet
           case rel => exact ⟨_, (true), (by first | rfl | (simp; done) | (simp [*]; done)), H', ⟨by have := HK1.out; first | omega | exact Nat.le_refl _⟩, by repeat (first | exact Drawn0.refl _ | apply Drawn0.step)⟩
          ·rw [if_neg c13] at H
           have c13b0 : decide ((bt a0 x5_1) ≤ 90) = false := decide_eq_false c13
           clear c13
           have H' := Aside0.mk H
           clear H
           go_wp2
           go_meet
           case rel => exact ⟨_, (((bt a0 x5_1) == 45)), (by first | rfl | (simp; done) | (simp [*]; done)), H', ⟨by have := HK1.out; first | omega | exact Nat.le_refl _⟩, by repeat (first | exact Drawn0.refl _ | apply Drawn0.step)⟩
         ·rw [if_neg c12] at H
          have c12b0 : decide (65 ≤ (bt a0 x5_1)) = false := decide_eq_false c12
          clear c12
          have H' := Aside0.mk H
          clear H
          go_wp2
          go_meet
          case rel => exact ⟨_, (((bt a0 x5_1) == 45)), (by first | rfl | (simp; done) | (simp [*]; done)), H', ⟨by have := HK1.out; first | omega | exact Nat.le_refl _⟩, by repeat (first | exact Drawn0.refl _ | apply Drawn0.step)⟩
      ·rw [if_neg c6] at H
       have c6b0 : decide (48 ≤ (bt a0 x5_1)) = false := decide_eq_false c6
       clear c6
       (first | rw [c6b0] | (simp only [i64_w, i32_w]; rw [c6b0]) | skip)
       by_cases c14 : 97 ≤ (bt a0 x5_1)
       ·rw [if_pos c14] at H
        have c14b0 : decide (97 ≤ (bt a0 x5_1)) = true := decide_eq_true c14
        clear c14
        by_cases c15 : (bt a0 x5_1) ≤ 122
        ·rw [if_pos c15] at H
         have c15b0 : decide ((bt a0 x5_1) ≤ 122) = true := decide_eq_true c15
         clear c15
         have H' := Aside0.mk H
         clear H
         go_wp2
         go_meet
         case rel => exact ⟨_, (true), (by first | rfl | (simp; done) | (simp [*]; done)), H', ⟨by have := HK1.out; first | omega | exact Nat.le_refl _⟩, by repeat (first | exact Drawn0.refl _ | apply Drawn0.step)⟩
        ·rw [if_neg c15] at H
         have c15b0 : decide ((bt a0 x5_1) ≤ 122) = false := decide_eq_false c15
         clear c15
         by_cases c16 : 65 ≤ (bt a0 x5_1)
         ·rw [if_pos c16] at H
          have c16b0 : decide (65 ≤ (bt a0 x5_1)) = true := decide_eq_true c16
          clear c16
          by_cases c17 : (bt a0 x5_1) ≤ 90
          ·rw [if_pos c17] at H
           have c17b0 : decide ((bt a0 x5_1) ≤ 90) = true := decide_eq_true c17
           clear c17
           have H' := Aside0.mk H
           clear H
           go_wp2
           go_meet
           case rel => exact ⟨_, (true), (by first | rfl | (simp; done) | (simp [*]; done)), H', ⟨by have := HK1.out; first | omega | exact Nat.le_refl _⟩, by repeat (first | exact Drawn0.refl _ | apply Drawn0.step)⟩
          ·rw [if_neg c17] at H
           have c17b0 : decide ((bt a0 x5_1) ≤ 90) = false := decide_eq_false c17
           clear c17
           have H' := Aside0.mk H
           clear H
           go_wp2
           go_meet
           case rel => exact ⟨_, (((bt a0 x5_1) == 45)), (by first | rfl | (simp; done) | (simp [*]; done)), H', ⟨by have := HK1.out; first | omega | exact Nat.le_refl _⟩, by repeat (first | exact Drawn0.refl _ | apply Drawn0.step)⟩
         ·rw [if_neg c16] at H
          have c16b0 : decide (65 ≤ (bt a0 x5_1)) = false := decide_eq_false c16
          clear c16
          have H' := Aside0.mk H
          clear H
          go_wp2
          go_meet
          case rel => exact ⟨_, (((bt a0 x5_1) == 45)), (by first | rfl | (simp; done) | (simp [*]; done)), H', ⟨by have := HK1.out; first | omega | exact Nat.le_refl _⟩, by repeat (first | exact Drawn0.refl _ | apply Drawn0.step)⟩
       ·rw [if_neg c14] at H
        have c14b0 : decide (97 ≤ (bt a0 x5_1)) = false := decide_eq_false c14
        clear c14
        by_cases c18 : 65 ≤ (bt a0 x5_1)
        ·rw [if_pos c18] at H
         have c18b0 : decide (65 ≤ (bt a0 x5_1)) = true := decide_eq_true c18
         clear c18
         by_cases c19 : (bt a0 x5_1) ≤ 90
         ·rw [if_pos c19] at H
          have c19b0 : decide ((bt a0 x5_1) ≤ 90) = true := decide_eq_true c19
          clear c19
          have H' := Aside0.mk H
          clear H
          go_wp2
          go_meet
          case rel => exact ⟨_, (true), (by first | rfl | (simp; done) | (simp [*]; done)), H', ⟨by have := HK1.out; first | omega | exact Nat.le_refl _⟩, by repeat (first | exact Drawn0.refl _ | apply Drawn0.step)⟩
         ·rw [if_neg c19] at H
          have c19b0 : decide ((bt a0 x5_1) ≤ 90) = false := decide_eq_false c19
          clear c19
          have H' := Aside0.mk H
          clear H
          go_wp2
          go_meet
          case rel => exact ⟨_, (((bt a0 x5_1) == 45)), (by first | rfl | (simp; done) | (simp [*]; done)), H', ⟨by have := HK1.out; first | omega | exact Nat.le_refl _⟩, by repeat (first | exact Drawn0.refl _ | apply Drawn0.step)⟩
        ·rw [if_neg c18] at H
         have c18b0 : decide (65 ≤ (bt a0 x5_1)) = false := decide_eq_false c18
         clear c18
         have H' := Aside0.mk H
         clear H
         go_wp2
         go_meet
         case rel => exact ⟨_, (((bt a0 x5_1) == 45)), (by first | rfl | (simp; done) | (simp [*]; done)), H', ⟨by have := HK1.out; first | omega | exact Nat.le_refl _⟩, by repeat (first | exact Drawn0.refl _ | apply Drawn0.step)⟩
     case rest =>
      clear HC5
      try clear c1
      try clear c2
      try clear c2b0
      try clear p2
      try clear c3
      try clear c3b0
      try clear p4
      try clear q4
      try clear hx4
      try clear c6
      try clear c6b0
      try clear c7
      try clear c7b0
      try clear c8
      try clear c8b0
      try clear c9
      try clear c9b0
      try clear c10
      try clear c10b0
      try clear c11
      try clear c11b0
      try clear c12
      try clear c12b0
      try clear c13
      try clear c13b0
      try clear c14
      try clear c14b0
      try clear c15
      try clear c15b0
      try clear c16
      try clear c16b0
      try clear c17
      try clear c17b0
      try clear c18
      try clear c18b0
      try clear c19
      try clear c19b0
      try clear p4
      try clear q4
      obtain ⟨kq, x17_4, rfl, HA, HJ4, ⟨mc4, rfl⟩⟩ := hcut
      cases kq with
      | zero => exact absurd HA.out (by simp [semver_identifiers.j1])
      | succ kj4 =>
       have H := HA.out
       clear HA
       simp only [semver_identifiers.j1] at H
       by_cases c20 : x17_4 = true
       ·subst c20
        have H1 : (semver_identifiers.l0 kj4 a0 (wrap64 (x5_1 + 1)) (wrap64 (x4_1 + 1)) (wrap64 (x5_1 + 1))) = some r := by rw [if_pos rfl] at H; exact H
        clear H
        have H := H1
        clear H1
        have H' := Aside0.mk H
        clear H
        go_wp2
        go_roundg kj4
        case measure => have := HK1.out; have := HJ4.out; omega
        case rel => exact ⟨(wrap64 (x5_1 + 1)), (wrap64 (x4_1 + 1)), (wrap64 (x5_1 + 1)), (by first | rfl | (simp; done) | (simp [*]; done)), (by first | rfl | (simp; done) | (simp [*]; done)), (by first | rfl | (simp; done) | (simp [*]; done)), H', ⟨by have := HK1.out; have := HJ4.out; omega⟩, by repeat (first | exact Drawn0.refl _ | apply Drawn0.step)⟩
       ·replace c20 := Bool.eq_false_iff.mpr c20
        subst c20
        have H1 : (if (bt a0 x5_1) = 46 then (if x4_1 > 0 then (semver_identifiers.l0 kj4 a0 x3_1 0 (wrap64 (x5_1 + 1))) else (some x3_1)) else (some x3_1)) = some r := by rw [if_neg (show ¬ (false = true) by decide)] at H; exact H
        clear H
        have H := H1
        clear H1
        by_cases c21 : (bt a0 x5_1) = 46
        ·rw [if_pos c21] at H
         have c21b0 : ((bt a0 x5_1) == 46) = true := beq_iff_eq.mpr c21
         have c21b1 : ((bt a0 x5_1) != 46) = false := bne_eq_false_iff_eq.mpr c21
         clear c21
         by_cases c22 : x4_1 > 0
         ·rw [if_pos c22] at H
          have c22b0 : decide (0 < x4_1) = true := decide_eq_true c22
          clear c22
          have H' := Aside0.mk H
          clear H
          go_wp2
          go_roundg kj4
          case measure => have := HK1.out; have := HJ4.out; omega
          case rel => exact ⟨(x3_1), (0), (wrap64 (x5_1 + 1)), (by first | rfl | (simp; done) | (simp [*]; done)), (by first | rfl | (simp; done) | (simp [*]; done)), (by first | rfl | (simp; done) | (simp [*]; done)), H', ⟨by have := HK1.out; have := HJ4.out; omega⟩, by repeat (first | exact Drawn0.refl _ | apply Drawn0.step)⟩
         ·rw [if_neg c22] at H
          have c22b0 : decide (0 < x4_1) = false := decide_eq_false c22
          clear c22
          obtain rfl := Option.some.inj H
          go_wp2
          go_ret
          exact ⟨by first | rfl | (simp; done) | (simp [*]; done), by repeat (first | exact Drawn0.refl _ | apply Drawn0.step)⟩
        ·rw [if_neg c21] at H
         have c21b0 : ((bt a0 x5_1) == 46) = false := beq_eq_false_iff_ne.mpr c21
         have c21b1 : ((bt a0 x5_1) != 46) = true := bne_iff_ne.mpr c21
         obtain rfl := Option.some.inj H
         go_wp2
         go_ret
         exact ⟨by first | rfl | (simp; done) | (simp [*]; done), by repeat (first | exact Drawn0.refl _ | apply Drawn0.step)⟩
    ·rw [if_neg c3] at H
     exact absurd H (by simp)
   ·rw [if_neg c2] at H
    have c2b0 : decide (x5_1 < (a0.size : Int)) = false := decide_eq_false c2
    clear c2
    obtain rfl := Option.some.inj H
    go_wp2
    go_ret
    exact ⟨by first | rfl | (simp; done) | (simp [*]; done), by repeat (first | exact Drawn0.refl _ | apply Drawn0.step)⟩
end Go.Proofs.YtgoeiflddikihaaGreatDoor.PFnIntersectAny
end
section
namespace Go.Proofs.YtgoeiflddikihaaGreatDoor.Pcompare
open Go.RowKit Go.Proofs.YtgoeiflddikihaaGreatDoorW.PrintWords Go.Proofs.YtgoeiflddikihaaGreatDoorW.PrintLast Go.Proofs.YtgoeiflddikihaaGreatDoorW.PrintMore
attribute [local go_sem] max2_int min2_int max_two min_two max_three min_three max_four min_four   -- for this text's walks alone
set_option linter.unusedVariables false
set_option linter.unusedSimpArgs false
def semver_number.l0 : Nat → ByteArray → Int → Option (Bool)
  | 0, _, _ => none
  | k + 1, x0, x3 => if x3 < (x0.size : Int) then (if 0 ≤ x3 then (if (bt x0 x3) < 48 then (some false) else (if (bt x0 x3) > 57 then (some false) else (semver_number.l0 k x0 (wrap64 (x3 + 1))))) else (none)) else (some (x0.toList != ([] : List UInt8)))
def semver_number.f (k : Nat) (a0 : ByteArray) : Option (Bool) := semver_number.l0 k a0 0
theorem semver_number.mono_l : ∀ k, (∀ y0 y1, LeO (semver_number.l0 k y0 y1) (semver_number.l0 (k + 1) y0 y1))
  | 0 => fun _ _ r h => by simp [semver_number.l0] at h
  | k + 1 => by
    have ih0 := semver_number.mono_l k
    · intro y0 y1
      unfold semver_number.l0
      repeat' first
      | (with_reducible exact ih0 _ _)
      | (with_reducible exact LeO.refl _)
      | (with_reducible exact LeO.none _)
      | (with_reducible refine LeO.ite ?_ ?_)
      | (with_reducible refine LeO.bind ?_ (fun _ => ?_))
      | exact ih0 _ _
      | exact LeO.none _
      | refine LeO.ite ?_ ?_
      | refine LeO.bind ?_ (fun _ => ?_)
theorem semver_number.mono : ∀ a0 k, LeO (semver_number.f k a0) (semver_number.f (k + 1) a0) := by
  intro a0 k
  have ih0 := semver_number.mono_l k
  unfold semver_number.f
  repeat' first
      | (with_reducible exact ih0 _ _)
      | (with_reducible exact LeO.refl _)
      | (with_reducible exact LeO.none _)
      | (with_reducible refine LeO.ite ?_ ?_)
      | (with_reducible refine LeO.bind ?_ (fun _ => ?_))
      | exact ih0 _ _
      | exact LeO.none _
      | refine LeO.ite ?_ ?_
      | refine LeO.bind ?_ (fun _ => ?_)
set_option maxHeartbeats 8000000 in
set_option maxRecDepth 100000 in
theorem semver_number.calls (k : Nat) (a0 : ByteArray) (r : Bool) (w : World) (h : semver_number.f k a0 = some r) :
    Calls Tryz.prog 212 #[.string a0] w fun e w' => e = .returned (.bool r) ∧ Drawn0 w w' := by
  have H : (semver_number.l0 k a0 0) = some r := h
  clear h
  have H' := Aside0.mk H
  clear H
  go_enter Tryz.func212, Tryz.ntmps212
  go_wp2
  go_loopg [3] k (fun kq v3 w' => ∃ (x3_1 : Int), v3 = .int .i64 x3_1 ∧ Aside0 (semver_number.l0 kq a0 x3_1 = some r) ∧ Aside0 (kq ≤ k) ∧ Drawn0 w w')
  case atStart => exact ⟨(0), (by first | rfl | (simp; done) | (simp [*]; done)), H', ⟨Nat.le_refl _⟩, by repeat (first | exact Drawn0.refl _ | apply Drawn0.step)⟩
  case round =>
    clear H'
    obtain ⟨x3_1, rfl, HA, HK1, ⟨m1, rfl⟩⟩ := hrel
    cases gk with
    | zero => exact absurd HA.out (by simp [semver_number.l0])
    | succ k1 =>
      have H := HA.out
      clear HA
      simp only [semver_number.l0] at H
      by_cases c2 : x3_1 < (a0.size : Int)
      · rw [if_pos c2] at H
        have c2b0 : decide (x3_1 < (a0.size : Int)) = true := decide_eq_true c2
        clear c2
        by_cases c3 : 0 ≤ x3_1
        · rw [if_pos c3] at H
          have c3b0 : decide (0 ≤ x3_1) = true := decide_eq_true c3
          clear c3
          by_cases c5 : (bt a0 x3_1) < 48
          · rw [if_pos c5] at H
            have c5b0 : decide ((bt a0 x3_1) < 48) = true := decide_eq_true c5
            clear c5
            obtain rfl := Option.some.inj H
            have p4 : 0 ≤ (x3_1 : Int) := of_decide_eq_true (by first | (with_reducible assumption) | assumption)
            have q4 : x3_1 < (a0.size : Int) := of_decide_eq_true (by first | (with_reducible assumption) | assumption)
            have hx4 := bt_at a0 x3_1
            replace p4 := eq_true p4
            replace q4 := eq_true q4
            go_wp2
            go_ret
            exact ⟨by first | rfl | (simp; done) | (simp [*]; done), by repeat (first | exact Drawn0.refl _ | apply Drawn0.step)⟩
          · rw [if_neg c5] at H
            have c5b0 : decide ((bt a0 x3_1) < 48) = false := decide_eq_false c5
            clear c5
            by_cases c7 : (bt a0 x3_1) > 57
            · rw [if_pos c7] at H
              have c7b0 : decide (57 < (bt a0 x3_1)) = true := decide_eq_true c7
              clear c7
              obtain rfl := Option.some.inj H
              have p4 : 0 ≤ (x3_1 : Int) := of_decide_eq_true (by first | (with_reducible assumption) | assumption)
              have q4 : x3_1 < (a0.size : Int) := of_decide_eq_true (by first | (with_reducible assumption) | assumption)
              have hx4 := bt_at a0 x3_1
              replace p4 := eq_true p4
              replace q4 := eq_true q4
              have p6 : 0 ≤ (x3_1 : Int) := of_decide_eq_true (by first | (with_reducible assumption) | assumption)
              have q6 : x3_1 < (a0.size : Int) := of_decide_eq_true (by first | (with_reducible assumption) | assumption)
              have hx6 := bt_at a0 x3_1
              replace p6 := eq_true p6
              replace q6 := eq_true q6
              go_wp2
              go_ret
              exact ⟨by first | rfl | (simp; done) | (simp [*]; done), by repeat (first | exact Drawn0.refl _ | apply Drawn0.step)⟩
            · rw [if_neg c7] at H
              have c7b0 : decide (57 < (bt a0 x3_1)) = false := decide_eq_false c7
              clear c7
              have H' := Aside0.mk H
              clear H
              have p4 : 0 ≤ (x3_1 : Int) := of_decide_eq_true (by first | (with_reducible assumption) | assumption)
              have q4 : x3_1 < (a0.size : Int) := of_decide_eq_true (by first | (with_reducible assumption) | assumption)
              have hx4 := bt_at a0 x3_1
              replace p4 := eq_true p4
              replace q4 := eq_true q4
              have p6 : 0 ≤ (x3_1 : Int) := of_decide_eq_true (by first | (with_reducible assumption) | assumption)
              have q6 : x3_1 < (a0.size : Int) := of_decide_eq_true (by first | (with_reducible assumption) | assumption)
              have hx6 := bt_at a0 x3_1
              replace p6 := eq_true p6
              replace q6 := eq_true q6
              go_wp2
              go_roundg k1
              case measure => have := HK1.out; omega
              case rel => exact ⟨(wrap64 (x3_1 + 1)), (by first | rfl | (simp; done) | (simp [*]; done)), H', ⟨by have := HK1.out; omega⟩, by repeat (first | exact Drawn0.refl _ | apply Drawn0.step)⟩
        · rw [if_neg c3] at H
          exact absurd H (by simp)
      · rw [if_neg c2] at H
        have c2b0 : decide (x3_1 < (a0.size : Int)) = false := decide_eq_false c2
        clear c2
        obtain rfl := Option.some.inj H
        go_wp2
        go_ret
        refine ⟨?_, by repeat (first | exact Drawn0.refl _ | apply Drawn0.step)⟩
        show Ending.returned (Value.bool (!a0.toList.isEmpty)) = _
        cases a0.toList <;> rfl
def semver_bare.l0 : Nat → ByteArray → Option (ByteArray)
  | 0, _ => none
  | k + 1, x0 => if (x0.size : Int) > 1 then (if 0 < (x0.size : Int) then (if (bt x0 0) = 48 then (if 1 ≤ (x0.size : Int) then (semver_bare.l0 k (x0.extract 1 x0.size)) else (none)) else (some x0)) else (none)) else (some x0)
def semver_bare.f (k : Nat) (a0 : ByteArray) : Option (ByteArray) := semver_bare.l0 k a0
theorem semver_bare.mono_l : ∀ k, (∀ y0, LeO (semver_bare.l0 k y0) (semver_bare.l0 (k + 1) y0))
  | 0 => fun _ r h => by simp [semver_bare.l0] at h
  | k + 1 => by
    have ih0 := semver_bare.mono_l k
    · intro y0
      unfold semver_bare.l0
      repeat' first
      | (with_reducible exact ih0 _)
      | (with_reducible exact LeO.refl _)
      | (with_reducible exact LeO.none _)
      | (with_reducible refine LeO.ite ?_ ?_)
      | (with_reducible refine LeO.bind ?_ (fun _ => ?_))
      | exact ih0 _
      | exact LeO.none _
      | refine LeO.ite ?_ ?_
      | refine LeO.bind ?_ (fun _ => ?_)
theorem semver_bare.mono : ∀ a0 k, LeO (semver_bare.f k a0) (semver_bare.f (k + 1) a0) := by
  intro a0 k
  have ih0 := semver_bare.mono_l k
  unfold semver_bare.f
  repeat' first
      | (with_reducible exact ih0 _)
      | (with_reducible exact LeO.refl _)
      | (with_reducible exact LeO.none _)
      | (with_reducible refine LeO.ite ?_ ?_)
      | (with_reducible refine LeO.bind ?_ (fun _ => ?_))
      | exact ih0 _
      | exact LeO.none _
      | refine LeO.ite ?_ ?_
      | refine LeO.bind ?_ (fun _ => ?_)
set_option maxHeartbeats 8000000 in
set_option maxRecDepth 100000 in
theorem semver_bare.calls (k : Nat) (a0 : ByteArray) (r : ByteArray) (w : World) (h : semver_bare.f k a0 = some r) :
    Calls Tryz.prog 213 #[.string a0] w fun e w' => e = .returned (.string r) ∧ Drawn0 w w' := by
  have H : (semver_bare.l0 k a0) = some r := h
  clear h
  have H' := Aside0.mk H
  clear H
  go_enter Tryz.func213, Tryz.ntmps213
  go_wp2
  go_loopg [0] k (fun kq v0 w' => ∃ (x0_1 : ByteArray), v0 = .string x0_1 ∧ Aside0 (semver_bare.l0 kq x0_1 = some r) ∧ Aside0 (kq ≤ k) ∧ Drawn0 w w')
  case atStart => exact ⟨(a0), (by first | rfl | (simp; done) | (simp [*]; done)), H', ⟨Nat.le_refl _⟩, by repeat (first | exact Drawn0.refl _ | apply Drawn0.step)⟩
  case round =>
    clear H'
    obtain ⟨x0_1, rfl, HA, HK1, ⟨m1, rfl⟩⟩ := hrel
    cases gk with
    | zero => exact absurd HA.out (by simp [semver_bare.l0])
    | succ k1 =>
      have H := HA.out
      clear HA
      simp only [semver_bare.l0] at H
      by_cases c2 : (x0_1.size : Int) > 1
      · rw [if_pos c2] at H
        have c2b0 : decide (1 < (x0_1.size : Int)) = true := decide_eq_true c2
        have c2b1 : decide (1 < x0_1.size) = true := decide_eq_true (by omega)
        clear c2
        by_cases c3 : 0 < (x0_1.size : Int)
        · rw [if_pos c3] at H
          have c3b0 : decide (0 < (x0_1.size : Int)) = true := decide_eq_true c3
          have c3b1 : decide (0 < x0_1.size) = true := decide_eq_true (by omega)
          clear c3
          by_cases c5 : (bt x0_1 0) = 48
          · rw [if_pos c5] at H
            have c5b0 : ((bt x0_1 0) == 48) = true := beq_iff_eq.mpr c5
            have c5b1 : ((bt x0_1 0) != 48) = false := bne_eq_false_iff_eq.mpr c5
            clear c5
            by_cases c6 : 1 ≤ (x0_1.size : Int)
            · rw [if_pos c6] at H
              have c6b0 := eq_true c6
              have c6b1 : decide (1 ≤ (x0_1.size : Int)) = true := decide_eq_true c6
              clear c6
              have H' := Aside0.mk H
              clear H
              have p4 : 0 ≤ (0 : Int) := (by omega)
              have q4 : 0 < x0_1.size := (by have : (0 : Int) < (x0_1.size : Int) := of_decide_eq_true (by first | (with_reducible assumption) | assumption); omega)
              have hx4 : ∀ h : 0 < x0_1.size, ((x0_1[0]'h).toNat : Int) = bt x0_1 0 := bt_at x0_1 0
              clear p4
              have qi4 : (0 < (x0_1.size : Int)) = True := eq_true (of_decide_eq_true (by first | (with_reducible assumption) | assumption))
              replace q4 := eq_true q4
              go_wp2
              go_roundg k1
              case measure => have := HK1.out; omega
              case rel => exact ⟨(x0_1.extract 1 x0_1.size), (by first | rfl | (simp; done) | (simp [*]; done)), H', ⟨by have := HK1.out; omega⟩, by repeat (first | exact Drawn0.refl _ | apply Drawn0.step)⟩
            · rw [if_neg c6] at H
              exact absurd H (by simp)
          · rw [if_neg c5] at H
            have c5b0 : ((bt x0_1 0) == 48) = false := beq_eq_false_iff_ne.mpr c5
            have c5b1 : ((bt x0_1 0) != 48) = true := bne_iff_ne.mpr c5
            obtain rfl := Option.some.inj H
            have p4 : 0 ≤ (0 : Int) := (by omega)
            have q4 : 0 < x0_1.size := (by have : (0 : Int) < (x0_1.size : Int) := of_decide_eq_true (by first | (with_reducible assumption) | assumption); omega)
            have hx4 : ∀ h : 0 < x0_1.size, ((x0_1[0]'h).toNat : Int) = bt x0_1 0 := bt_at x0_1 0
            clear p4
            have qi4 : (0 < (x0_1.size : Int)) = True := eq_true (of_decide_eq_true (by first | (with_reducible assumption) | assumption))
            replace q4 := eq_true q4
            go_wp2
            go_ret
            exact ⟨by first | rfl | (simp; done) | (simp [*]; done), by repeat (first | exact Drawn0.refl _ | apply Drawn0.step)⟩
        · rw [if_neg c3] at H
          exact absurd H (by simp)
      · rw [if_neg c2] at H
        have c2b0 : decide (1 < (x0_1.size : Int)) = false := decide_eq_false c2
        have c2b1 : decide (1 < x0_1.size) = false := decide_eq_false (by omega)
        clear c2
        obtain rfl := Option.some.inj H
        go_wp2
        go_ret
        exact ⟨by first | rfl | (simp; done) | (simp [*]; done), by repeat (first | exact Drawn0.refl _ | apply Drawn0.step)⟩
end Go.Proofs.YtgoeiflddikihaaGreatDoor.Pcompare
end
section
namespace Go.Proofs.YtgoeiflddikihaaGreatDoor.Pfirst
open Go.RowKit Go.Proofs.YtgoeiflddikihaaGreatDoorW.PrintWords Go.Proofs.YtgoeiflddikihaaGreatDoorW.PrintLast Go.Proofs.YtgoeiflddikihaaGreatDoorW.PrintMore
attribute [local go_sem] max2_int min2_int max_two min_two max_three min_three max_four min_four   -- for this text's walks alone
set_option linter.unusedVariables false
set_option linter.unusedSimpArgs false
def semver_first.l0 : Nat → ByteArray → Int → Option (ByteArray × ByteArray)
  | 0, _, _ => none
  | k + 1, x0, x4 => if x4 < (x0.size : Int) then (if 0 ≤ x4 then (if (bt x0 x4) = 46 then (if x4 ≤ (x0.size : Int) then (if 0 ≤ (wrap64 (x4 + 1)) then (if (wrap64 (x4 + 1)) ≤ (x0.size : Int) then (some (x0.extract 0 (x4 : Int).toNat, x0.extract ((wrap64 (x4 + 1)) : Int).toNat x0.size)) else (none)) else (none)) else (none)) else (semver_first.l0 k x0 (wrap64 (x4 + 1)))) else (none)) else (some (x0, (⟨#[]⟩ : ByteArray)))
def semver_first.f (k : Nat) (a0 : ByteArray) : Option (ByteArray × ByteArray) := semver_first.l0 k a0 0
theorem semver_first.mono_l : ∀ k, (∀ y0 y1, LeO (semver_first.l0 k y0 y1) (semver_first.l0 (k + 1) y0 y1))
  | 0 => fun _ _ r h => by simp [semver_first.l0] at h
  | k + 1 => by
    have ih0 := semver_first.mono_l k
    · intro y0 y1
      unfold semver_first.l0
      repeat' first
      | (with_reducible exact ih0 _ _)
      | (with_reducible exact LeO.refl _)
      | (with_reducible exact LeO.none _)
      | (with_reducible refine LeO.ite ?_ ?_)
      | (with_reducible refine LeO.bind ?_ (fun _ => ?_))
      | exact ih0 _ _
      | exact LeO.none _
      | refine LeO.ite ?_ ?_
      | refine LeO.bind ?_ (fun _ => ?_)
theorem semver_first.mono : ∀ a0 k, LeO (semver_first.f k a0) (semver_first.f (k + 1) a0) := by
  intro a0 k
  have ih0 := semver_first.mono_l k
  unfold semver_first.f
  repeat' first
      | (with_reducible exact ih0 _ _)
      | (with_reducible exact LeO.refl _)
      | (with_reducible exact LeO.none _)
      | (with_reducible refine LeO.ite ?_ ?_)
      | (with_reducible refine LeO.bind ?_ (fun _ => ?_))
      | exact ih0 _ _
      | exact LeO.none _
      | refine LeO.ite ?_ ?_
      | refine LeO.bind ?_ (fun _ => ?_)
set_option maxHeartbeats 8000000 in
set_option maxRecDepth 100000 in
theorem semver_first.calls (k : Nat) (a0 : ByteArray) (r1 : ByteArray) (r2 : ByteArray) (w : World) (h : semver_first.f k a0 = some (r1, r2)) :
    Calls Tryz.prog 210 #[.string a0] w fun e w' => e = .returned (.tuple #[.string r1, .string r2]) ∧ Drawn0 w w' := by
  have H : (semver_first.l0 k a0 0) = some (r1, r2) := h
  clear h
  have H' := Aside0.mk H
  clear H
  go_enter Tryz.func210, Tryz.ntmps210
  go_wp2
  repeat (go_quiet (fail); try go_wp2)
  go_loopg [4] k (fun kq v4 w' => ∃ (x4_1 : Int), v4 = .int .i64 x4_1 ∧ Aside0 (semver_first.l0 kq a0 x4_1 = some (r1, r2)) ∧ Aside0 (kq ≤ k) ∧ Drawn0 w w')
  case atStart => exact ⟨(0), (by first | rfl | (simp; done) | (simp [*]; done)), H', ⟨Nat.le_refl _⟩, by repeat (first | exact Drawn0.refl _ | apply Drawn0.step)⟩
  case round =>
    clear H'
    obtain ⟨x4_1, rfl, HA, HK1, ⟨m1, rfl⟩⟩ := hrel
    cases gk with
    | zero => exact absurd HA.out (by simp [semver_first.l0])
    | succ k1 =>
      have H := HA.out
      clear HA
      simp only [semver_first.l0] at H
      by_cases c2 : x4_1 < (a0.size : Int)
      · rw [if_pos c2] at H
        have c2b0 : decide (x4_1 < (a0.size : Int)) = true := decide_eq_true c2
        clear c2
        by_cases c3 : 0 ≤ x4_1
        · rw [if_pos c3] at H
          have c3b0 : decide (0 ≤ x4_1) = true := decide_eq_true c3
          clear c3
          by_cases c5 : (bt a0 x4_1) = 46
          · rw [if_pos c5] at H
            have c5b0 : ((bt a0 x4_1) == 46) = true := beq_iff_eq.mpr c5
            have c5b1 : ((bt a0 x4_1) != 46) = false := bne_eq_false_iff_eq.mpr c5
            clear c5
            have c6b0 := eq_true (of_decide_eq_true (by first | (with_reducible assumption) | assumption) : 0 ≤ x4_1)
            by_cases c7 : x4_1 ≤ (a0.size : Int)
            · rw [if_pos c7] at H
              have c7b0 := eq_true c7
              have c7b1 : decide (x4_1 ≤ (a0.size : Int)) = true := decide_eq_true c7
              clear c7
              obtain ⟨ji8, hji8⟩ : ∃ j_ : Int, (wrap64 (x4_1 + 1)) = j_ := ⟨_, rfl⟩
              replace H : (if 0 ≤ (ji8) then (if (ji8) ≤ (a0.size : Int) then (some (a0.extract 0 (x4_1 : Int).toNat, a0.extract ((ji8) : Int).toNat a0.size)) else (none)) else (none)) = some (r1, r2) := by first | (rw [hji8] at H; exact H) | (simp only [hji8] at H ⊢; exact H)
              have hji8w : (IntKind.i64.wrap (x4_1 + 1)) = ji8 := (i64_w _).trans hji8
              by_cases c9 : 0 ≤ (ji8)
              · rw [if_pos c9] at H
                have c9b0 := eq_true c9
                have c9b1 : decide (0 ≤ (ji8)) = true := decide_eq_true c9
                clear c9
                by_cases c10 : (ji8) ≤ (a0.size : Int)
                · rw [if_pos c10] at H
                  have c10b0 := eq_true c10
                  have c10b1 : decide ((ji8) ≤ (a0.size : Int)) = true := decide_eq_true c10
                  clear c10
                  simp only [Option.some.injEq, Prod.mk.injEq] at H
                  obtain ⟨rfl, rfl⟩ := H
                  have p4 : 0 ≤ (x4_1 : Int) := of_decide_eq_true (by first | (with_reducible assumption) | assumption)
                  have q4 : x4_1 < (a0.size : Int) := of_decide_eq_true (by first | (with_reducible assumption) | assumption)
                  have hx4 := bt_at a0 x4_1
                  replace p4 := eq_true p4
                  replace q4 := eq_true q4
                  go_wp2
                  repeat (go_quiet (fail); try go_wp2)
                  go_ret2
                  exact ⟨by first | rfl | (simp; done) | (simp only [← hji8] <;> (first | rfl | simp)) | (simp [*]; done), by repeat (first | exact Drawn0.refl _ | apply Drawn0.step)⟩
                · rw [if_neg c10] at H
                  exact absurd H (by simp)
              · rw [if_neg c9] at H
                exact absurd H (by simp)
            · rw [if_neg c7] at H
              exact absurd H (by simp)
          · rw [if_neg c5] at H
            have c5b0 : ((bt a0 x4_1) == 46) = false := beq_eq_false_iff_ne.mpr c5
            have c5b1 : ((bt a0 x4_1) != 46) = true := bne_iff_ne.mpr c5
            have H' := Aside0.mk H
            clear H
            have p4 : 0 ≤ (x4_1 : Int) := of_decide_eq_true (by first | (with_reducible assumption) | assumption)
            have q4 : x4_1 < (a0.size : Int) := of_decide_eq_true (by first | (with_reducible assumption) | assumption)
            have hx4 := bt_at a0 x4_1
            replace p4 := eq_true p4
            replace q4 := eq_true q4
            go_wp2
            repeat (go_quiet (fail); try go_wp2)
            go_roundg k1
            case measure => have := HK1.out; omega
            case rel => exact ⟨(wrap64 (x4_1 + 1)), (by first | rfl | (simp; done) | (simp [*]; done)), H', ⟨by have := HK1.out; omega⟩, by repeat (first | exact Drawn0.refl _ | apply Drawn0.step)⟩
        · rw [if_neg c3] at H
          exact absurd H (by simp)
      · rw [if_neg c2] at H
        have c2b0 : decide (x4_1 < (a0.size : Int)) = false := decide_eq_false c2
        clear c2
        simp only [Option.some.injEq, Prod.mk.injEq] at H
        obtain ⟨rfl, rfl⟩ := H
        go_wp2
        repeat (go_quiet (fail); try go_wp2)
        go_ret2
        exact ⟨by first | rfl | (simp; done) | (simp [*]; done), by repeat (first | exact Drawn0.refl _ | apply Drawn0.step)⟩
end Go.Proofs.YtgoeiflddikihaaGreatDoor.Pfirst
end
section
namespace Go.Proofs.YtgoeiflddikihaaGreatDoor.PFnVersion
open Go.RowKit Go.Proofs.YtgoeiflddikihaaGreatDoorW.PrintWords Go.Proofs.YtgoeiflddikihaaGreatDoorW.PrintLast Go.Proofs.YtgoeiflddikihaaGreatDoorW.PrintMore
attribute [local go_sem] max2_int min2_int max_two min_two max_three min_three max_four min_four   -- for this text's walks alone
set_option linter.unusedVariables false
set_option linter.unusedSimpArgs false
def spec_verNumber.l0 : Nat → ByteArray → Int → Int → Option (Int × Bool)
  | 0, _, _, _ => none
  | k + 1, x0, x4, x5 => if x5 < (x0.size : Int) then (if 0 ≤ x5 then (if x4 > ((18446744073709551615 - (((bt x0 x5) - 48) % 256)) / 10) then (some (0, false)) else (spec_verNumber.l0 k x0 (IntKind.u64.wrap ((IntKind.u64.wrap (10 * x4)) + (((bt x0 x5) - 48) % 256))) (wrap64 (x5 + 1)))) else (none)) else (some (x4, true))
def spec_verNumber.f (k : Nat) (a0 : ByteArray) : Option (Int × Bool) := (spec_verDigits.f k a0).bind fun t169 => (if t169 = true then (spec_verNumber.l0 k a0 0 0) else (some (0, false)))
theorem spec_verNumber.mono_l : ∀ k, (∀ y0 y1 y2, LeO (spec_verNumber.l0 k y0 y1 y2) (spec_verNumber.l0 (k + 1) y0 y1 y2))
  | 0 => fun _ _ _ r h => by simp [spec_verNumber.l0] at h
  | k + 1 => by
    have ih0 := spec_verNumber.mono_l k
    · intro y0 y1 y2
      unfold spec_verNumber.l0
      repeat' first
      | (with_reducible exact ih0 _ _ _)
      | (with_reducible exact spec_verDigits.mono _ _)
      | (with_reducible exact LeO.refl _)
      | (with_reducible exact LeO.none _)
      | (with_reducible refine LeO.ite ?_ ?_)
      | (with_reducible refine LeO.bind ?_ (fun _ => ?_))
      | exact ih0 _ _ _
      | exact spec_verDigits.mono _ _
      | exact LeO.none _
      | refine LeO.ite ?_ ?_
      | refine LeO.bind ?_ (fun _ => ?_)
theorem spec_verNumber.mono : ∀ a0 k, LeO (spec_verNumber.f k a0) (spec_verNumber.f (k + 1) a0) := by
  intro a0 k
  have ih0 := spec_verNumber.mono_l k
  unfold spec_verNumber.f
  repeat' first
      | (with_reducible exact ih0 _ _ _)
      | (with_reducible exact spec_verDigits.mono _ _)
      | (with_reducible exact LeO.refl _)
      | (with_reducible exact LeO.none _)
      | (with_reducible refine LeO.ite ?_ ?_)
      | (with_reducible refine LeO.bind ?_ (fun _ => ?_))
      | exact ih0 _ _ _
      | exact spec_verDigits.mono _ _
      | exact LeO.none _
      | refine LeO.ite ?_ ?_
      | refine LeO.bind ?_ (fun _ => ?_)
set_option maxHeartbeats 8000000 in
set_option maxRecDepth 100000 in
theorem spec_verNumber.calls (k : Nat) (a0 : ByteArray) (r1 : Int) (r2 : Bool) (w : World) (h : spec_verNumber.f k a0 = some (r1, r2)) :
    Calls Tryz.prog 74 #[.string a0] w fun e w' => e = .returned (.tuple #[.int .u64 r1, .bool r2]) ∧ Drawn0 w w' := by
  have H : ((spec_verDigits.f k a0).bind fun t169 => (if t169 = true then (spec_verNumber.l0 k a0 0 0) else (some (0, false)))) = some (r1, r2) := h
  clear h
  replace H := Option.bind_eq_some_iff.mp H
  obtain ⟨t169, A20, H⟩ := H
  replace H : (if t169 = true then (spec_verNumber.l0 k a0 0 0) else (some (0, false))) = some (r1, r2) := H
  have A2 := Aside0.mk A20
  clear A20
  by_cases c3 : t169 = true
  · subst c3
    have H1 : (spec_verNumber.l0 k a0 0 0) = some (r1, r2) := by rw [if_pos rfl] at H; exact H
    clear H
    have H := H1
    clear H1
    have H' := Aside0.mk H
    clear H
    go_enter Tryz.func74, Tryz.ntmps74
    go_wp2_with (first | ((with_reducible refine gate_callee (f := 100) rfl ?_); refine goesL_ (some 8) rfl rfl Tryz.func100 (by kernel_rfl) rfl #[.string a0] rfl (by (try simp only [List.map_toArray, List.map_cons, List.map_nil]); first | done | rfl | (simp only [List.length_drop, List.length_take]; rfl)) ?_; (with_reducible refine (spec_verDigits.calls k a0 true _ A2.out).mono ?_); rintro e w' ⟨rfl, ⟨nd, rfl⟩⟩; refine ⟨_, rfl, ?_⟩))
    go_loopg [4, 5] k (fun kq v4 v5 w' => ∃ (x4_1 : Int) (x5_1 : Int), v4 = .int .u64 x4_1 ∧ v5 = .int .i64 x5_1 ∧ Aside0 (spec_verNumber.l0 kq a0 x4_1 x5_1 = some (r1, r2)) ∧ Aside0 (kq ≤ k) ∧ Drawn0 w w')
    case atStart => exact ⟨(0), (0), (by first | rfl | (simp; done) | (simp [*]; done)), (by first | rfl | (simp; done) | (simp [*]; done)), H', ⟨Nat.le_refl _⟩, by repeat (first | exact Drawn0.refl _ | apply Drawn0.step)⟩
    case round =>
      clear H'
      try clear c1
      try clear p2
      try clear c3
      obtain ⟨x4_1, x5_1, rfl, rfl, HA, HK1, ⟨m1, rfl⟩⟩ := hrel
      cases gk with
      | zero => exact absurd HA.out (by simp [spec_verNumber.l0])
      | succ k1 =>
        have H := HA.out
        clear HA
        simp only [spec_verNumber.l0] at H
        by_cases c4 : x5_1 < (a0.size : Int)
        · rw [if_pos c4] at H
          have c4b0 : decide (x5_1 < (a0.size : Int)) = true := decide_eq_true c4
          clear c4
          by_cases c5 : 0 ≤ x5_1
          · rw [if_pos c5] at H
            have c5b0 : decide (0 ≤ x5_1) = true := decide_eq_true c5
            clear c5
            by_cases c7 : x4_1 > ((18446744073709551615 - (((bt a0 x5_1) - 48) % 256)) / 10)
            · rw [if_pos c7] at H
              have c7b0 : decide (((18446744073709551615 - (((bt a0 x5_1) - 48) % 256)) / 10) < x4_1) = true := decide_eq_true c7
              clear c7
              simp only [Option.some.injEq, Prod.mk.injEq] at H
              obtain ⟨rfl, rfl⟩ := H
              have p6 : 0 ≤ (x5_1 : Int) := of_decide_eq_true (by first | (with_reducible assumption) | assumption)
              have q6 : x5_1 < (a0.size : Int) := of_decide_eq_true (by first | (with_reducible assumption) | assumption)
              have hx6 := bt_at a0 x5_1
              replace p6 := eq_true p6
              replace q6 := eq_true q6
              go_wp2
              go_ret2
              exact ⟨by first | rfl | (simp; done) | (simp [*]; done), by repeat (first | exact Drawn0.refl _ | apply Drawn0.step)⟩
            · rw [if_neg c7] at H
              have c7b0 : decide (((18446744073709551615 - (((bt a0 x5_1) - 48) % 256)) / 10) < x4_1) = false := decide_eq_false c7
              clear c7
              have H' := Aside0.mk H
              clear H
              have p6 : 0 ≤ (x5_1 : Int) := of_decide_eq_true (by first | (with_reducible assumption) | assumption)
              have q6 : x5_1 < (a0.size : Int) := of_decide_eq_true (by first | (with_reducible assumption) | assumption)
              have hx6 := bt_at a0 x5_1
              replace p6 := eq_true p6
              replace q6 := eq_true q6
              go_wp2
              go_roundg k1
              case measure => have := HK1.out; omega
              case rel => exact ⟨(IntKind.u64.wrap ((IntKind.u64.wrap (10 * x4_1)) + (((bt a0 x5_1) - 48) % 256))), (wrap64 (x5_1 + 1)), (by first | rfl | (simp; done) | (simp [*]; done)), (by first | rfl | (simp; done) | (simp [*]; done)), H', ⟨by have := HK1.out; omega⟩, by repeat (first | exact Drawn0.refl _ | apply Drawn0.step)⟩
          · rw [if_neg c5] at H
            exact absurd H (by simp)
        · rw [if_neg c4] at H
          have c4b0 : decide (x5_1 < (a0.size : Int)) = false := decide_eq_false c4
          clear c4
          simp only [Option.some.injEq, Prod.mk.injEq] at H
          obtain ⟨rfl, rfl⟩ := H
          go_wp2
          go_ret2
          exact ⟨by first | rfl | (simp; done) | (simp [*]; done), by repeat (first | exact Drawn0.refl _ | apply Drawn0.step)⟩
  · replace c3 := Bool.eq_false_iff.mpr c3
    subst c3
    have H1 : (some (0, false)) = some (r1, r2) := by rw [if_neg (show ¬ (false = true) by decide)] at H; exact H
    clear H
    have H := H1
    clear H1
    simp only [Option.some.injEq, Prod.mk.injEq] at H
    obtain ⟨rfl, rfl⟩ := H
    go_enter Tryz.func74, Tryz.ntmps74
    go_wp2_with (first | ((with_reducible refine gate_callee (f := 100) rfl ?_); refine goesL_ (some 8) rfl rfl Tryz.func100 (by kernel_rfl) rfl #[.string a0] rfl (by (try simp only [List.map_toArray, List.map_cons, List.map_nil]); first | done | rfl | (simp only [List.length_drop, List.length_take]; rfl)) ?_; (with_reducible refine (spec_verDigits.calls k a0 false _ A2.out).mono ?_); rintro e w' ⟨rfl, ⟨nd, rfl⟩⟩; refine ⟨_, rfl, ?_⟩))
    go_ret2
    exact ⟨by first | rfl | (simp; done) | (simp [*]; done), by repeat (first | exact Drawn0.refl _ | apply Drawn0.step)⟩
end Go.Proofs.YtgoeiflddikihaaGreatDoor.PFnVersion
end
section
namespace Go.Proofs.YtgoeiflddikihaaGreatDoor.Ver
open Go.RowKit Go.Proofs.YtgoeiflddikihaaGreatDoor.PFnIntersectAny Go.Proofs.YtgoeiflddikihaaGreatDoorW.PrintWords
def isDig (c : UInt8) : Bool := decide (48 ≤ c.toNat) && decide (c.toNat ≤ 57)
def digN : List UInt8 → Nat
  | [] => 0
  | c :: r => if isDig c then digN r + 1 else 0
def isId (c : UInt8) : Bool := isDig c || (decide (97 ≤ c.toNat) && decide (c.toNat ≤ 122)) || (decide (65 ≤ c.toNat) && decide (c.toNat ≤ 90)) || c.toNat == 45
def identGo : List UInt8 → Nat → Nat → Nat → Nat
  | [], _, n, _ => n
  | c :: r, i, n, p => if isId c then identGo r (i + 1) (i + 1) (p + 1) else if c.toNat = 46 ∧ 0 < p then identGo r (i + 1) n 0 else n
def identN (l : List UInt8) : Nat := identGo l 0 0 0
theorem identGo_le : ∀ (l : List UInt8) (i n p : Nat), n ≤ i → identGo l i n p ≤ i + l.length
  | [], i, n, p, h => by simp [identGo]; omega
  | c :: r, i, n, p, h => by
    simp only [identGo, List.length_cons]
    split
    · have := identGo_le r (i + 1) (i + 1) (p + 1) (by omega); omega
    · split
      · have := identGo_le r (i + 1) n 0 (by omega); omega
      · omega
theorem identN_le (l : List UInt8) : identN l ≤ l.length := by
  have := identGo_le l 0 0 0 (by omega)
  unfold identN; omega
theorem wrap_in {i : Int} (h0 : -9223372036854775808 ≤ i) (h : i ≤ 9223372036854775807) : wrap64 i = i := by
  unfold wrap64
  omega
theorem bt_nat (s : ByteArray) (i : Nat) (h : i < s.size) : bt s (i : Int) = ((s[i]).toNat : Int) := by
  have := bt_at s (i : Int) (by simpa using h)
  rw [← this]; simp
theorem drop_at (s : ByteArray) (i : Nat) (h : i < s.size) : s.data.toList.drop i = s[i] :: s.data.toList.drop (i + 1) := by
  have hl : i < s.data.toList.length := by rw [Array.length_toList]; exact h
  rw [List.drop_eq_getElem_cons hl]
  rfl
theorem ident_tells (s : ByteArray) (hn : s.size ≤ 140737488351232) (d : Nat) : ∀ (k i n p : Nat), i ≤ s.size → n ≤ i → p ≤ i → s.size - i = d → 2 * d < k →
    semver_identifiers.l0 k s (n : Int) (p : Int) (i : Int) = some ((identGo (s.data.toList.drop i) i n p : Nat) : Int) := by
  induction d with
  | zero =>
    intro k i n p hi hni hpi hd hk
    cases k with
    | zero => omega
    | succ k =>
      rw [semver_identifiers.l0, if_neg (by omega), List.drop_eq_nil_of_le (by rw [Array.length_toList]; show s.size ≤ i; omega)]
      rfl
  | succ d ih =>
    intro k i n p hi hni hpi hd hk
    have hlt : i < s.size := by omega
    cases k with
    | zero => omega
    | succ k =>
      cases k with
      | zero => omega
      | succ k =>
        have w1 : wrap64 ((i : Int) + 1) = ((i + 1 : Nat) : Int) := by rw [wrap_in (by omega) (by omega)]; omega
        have w2 : wrap64 ((p : Int) + 1) = ((p + 1 : Nat) : Int) := by rw [wrap_in (by omega) (by omega)]; omega
        rw [drop_at s i hlt, identGo]
        rw [semver_identifiers.l0, if_pos (by omega), if_pos (by omega), bt_nat s i hlt]
        have e1 := ih k (i + 1) (i + 1) (p + 1) (by omega) (by omega) (by omega) (by omega) (by omega)
        have e2 := ih k (i + 1) n 0 (by omega) (by omega) (by omega) (by omega) (by omega)
        simp only [semver_identifiers.j1, w1, w2]
        generalize s[i] = c at *
        by_cases hid : isId c = true
        · rw [if_pos hid]
          simp only [isId, isDig, Bool.or_eq_true, Bool.and_eq_true, decide_eq_true_eq, beq_iff_eq] at hid
          rw [e1]
          by_cases a1 : (48 : Int) ≤ (c.toNat : Int) <;> by_cases a2 : (c.toNat : Int) ≤ 57 <;> by_cases a3 : (97 : Int) ≤ (c.toNat : Int) <;> by_cases a4 : (c.toNat : Int) ≤ 122 <;> by_cases a5 : (65 : Int) ≤ (c.toNat : Int) <;> by_cases a6 : (c.toNat : Int) ≤ 90 <;>
            simp only [a1, a2, a3, a4, a5, a6, if_true, if_false] <;> (have hc : (c.toNat : Int) = 45 := by omega) <;> simp [hc]
        · rw [if_neg hid]
          simp only [isId, isDig, Bool.or_eq_true, Bool.and_eq_true, decide_eq_true_eq, beq_iff_eq] at hid
          have hb : ((c.toNat : Int) == 45) = false := by rw [beq_eq_false_iff_ne]; omega
          have hz : (((0 : Nat) : Int)) = 0 := rfl
          by_cases a1 : (48 : Int) ≤ (c.toNat : Int) <;> by_cases a2 : (c.toNat : Int) ≤ 57 <;> by_cases a3 : (97 : Int) ≤ (c.toNat : Int) <;> by_cases a4 : (c.toNat : Int) ≤ 122 <;> by_cases a5 : (65 : Int) ≤ (c.toNat : Int) <;> by_cases a6 : (c.toNat : Int) ≤ 90 <;>
            first | (exfalso; omega) | skip
          all_goals
            simp only [a1, a2, a3, a4, a5, a6, if_true, if_false, hb]
            by_cases h46 : c.toNat = 46
            · by_cases hp : 0 < p
              · rw [if_neg (by decide), if_pos (by omega), if_pos (by omega), if_pos ⟨h46, hp⟩, ← e2]; rfl
              · rw [if_neg (by decide), if_pos (by omega), if_neg (by omega), if_neg (by omega)]
            · rw [if_neg (by decide), if_neg (by omega), if_neg (by omega)]
theorem ident_any (s : ByteArray) (hn : s.size ≤ 140737488351232) (w : World) :
    Calls Tryz.prog 153 #[.string s] w fun e w' => e = .returned (.int .i64 ((identN s.data.toList : Nat) : Int)) ∧ ∃ n, w' = w.drewN n :=
  (semver_identifiers.calls (2 * s.size + 1) s _ w (ident_tells s hn s.size (2 * s.size + 1) 0 0 0 (by omega) (by omega) (by omega) (by omega) (by omega))).mono fun _ _ ⟨h, hd⟩ => ⟨h, hd.out⟩
end Go.Proofs.YtgoeiflddikihaaGreatDoor.Ver
end
section
namespace Go.Proofs.YtgoeiflddikihaaGreatDoor.Ver
open Go.Proofs.YtgoeiflddikihaaGreatDoor.Ord Go.Sort
def cmpV : SV → SV → Int := thenC (onC SV.major intC) (thenC (onC SV.minor intC) (thenC (onC SV.patch intC) (onC (fun v => v.pre.data.toList) preC)))
theorem cmp_v : Cmp cmpV := cmp_then (cmp_on _ cmp_int) (cmp_then (cmp_on _ cmp_int) (cmp_then (cmp_on _ cmp_int) (cmp_on _ cmp_pre)))
theorem intC_val (a b : Int) : intC a b = -1 ∨ intC a b = 0 ∨ intC a b = 1 := by
  unfold intC; split
  · exact Or.inl rfl
  · split
    · exact Or.inr (Or.inr rfl)
    · exact Or.inr (Or.inl rfl)
theorem thenC_val {α : Type} {c d : α → α → Int} {a b : α} (h : c a b = -1 ∨ c a b = 0 ∨ c a b = 1) (k : d a b = -1 ∨ d a b = 0 ∨ d a b = 1) : thenC c d a b = -1 ∨ thenC c d a b = 0 ∨ thenC c d a b = 1 := by
  unfold thenC; split
  · exact k
  · exact h
theorem cmpV_val (a b : SV) : cmpV a b = -1 ∨ cmpV a b = 0 ∨ cmpV a b = 1 := thenC_val (intC_val _ _) (thenC_val (intC_val _ _) (thenC_val (intC_val _ _) (preC_val _ _)))
theorem intC_lt {a b : Int} (h : a < b) : intC a b = -1 := by unfold intC; rw [if_pos h]
theorem intC_gt {a b : Int} (h : b < a) : intC a b = 1 := by unfold intC; rw [if_neg (by omega), if_pos h]
theorem thenC_ne {α : Type} {c d : α → α → Int} {a b : α} {x : Int} (h : c a b = x) (hx : x ≠ 0) : thenC c d a b = x := by unfold thenC; rw [h, if_neg hx]
theorem thenC_go {α : Type} {c d : α → α → Int} {a b : α} {x : Int} (h : c a b = 0) (k : d a b = x) : thenC c d a b = x := by unfold thenC; rw [if_pos h]; exact k
def Unp.rank : Unp → Nat
  | .sem _ => 0
  | .branch _ _ => 1
  | .plain _ => 2
def Vers.rank : Vers → Nat
  | .rev _ => 3
  | .un u => u.rank
  | .pair u _ => u.rank
def Vers.bare : Vers → Vers
  | .pair u _ => .un u
  | v => v
def boolN (b : Bool) : Nat := if b then 0 else 1
def Vers.dflt : Vers → Nat
  | .un (.branch _ d) => boolN d
  | .pair (.branch _ d) _ => boolN d
  | _ => 0
def Vers.isPre : Vers → Nat
  | .un (.sem v) => boolN v.pre.data.toList.isEmpty
  | .pair (.sem v) _ => boolN v.pre.data.toList.isEmpty
  | _ => 0
def zV : SV := ⟨0, 0, 0, ⟨#[]⟩, ⟨#[]⟩, ⟨#[]⟩⟩
def Vers.sem : Vers → SV
  | .un (.sem v) => v
  | .pair (.sem v) _ => v
  | _ => zV
def Vers.name : Vers → List UInt8
  | .rev s => s.data.toList
  | .un (.branch n _) => n.data.toList
  | .pair (.branch n _) _ => n.data.toList
  | .un (.plain n) => n.data.toList
  | .pair (.plain n) _ => n.data.toList
  | _ => []
def flipC {α : Type} (down : Bool) (c : α → α → Int) (a b : α) : Int := if down then c a b else c b a
theorem cmp_flip {α : Type} {c : α → α → Int} (down : Bool) (h : Cmp c) : Cmp (flipC down c) := by
  cases down
  · exact ⟨fun a b => h.anti b a, fun a b d h1 h2 => h.trans d b a h2 h1⟩
  · exact h
def versC (down : Bool) : Vers → Vers → Int := thenC (onC Vers.rank natC) (thenC (onC Vers.dflt natC) (thenC (onC Vers.isPre natC) (thenC (onC Vers.name bytesC) (onC Vers.sem (flipC down cmpV)))))
theorem cmp_vers (down : Bool) : Cmp (versC down) := cmp_then (cmp_on _ cmp_nat) (cmp_then (cmp_on _ cmp_nat) (cmp_then (cmp_on _ cmp_nat) (cmp_then (cmp_on _ cmp_bytes) (cmp_on _ (cmp_flip down cmp_v)))))
def lessV (down : Bool) (a b : Vers) : Bool := decide (versC down a b < 0)
theorem swo_vers (down : Bool) : SWO (lessV down) := by
  have h := cmp_vers down
  refine ⟨fun x => ?_, fun x y z h1 h2 => ?_, fun x y z h1 h2 => ?_⟩
  · unfold lessV; rw [h.refl x]; rfl
  · unfold lessV at *
    rw [decide_eq_true_eq] at *
    exact h.lt_le h1 (by omega)
  · unfold lessV at *
    rw [decide_eq_false_iff_not] at *
    have a1 := h.anti x y
    have a2 := h.anti y z
    have a3 := h.anti x z
    have := h.trans z y x (by omega) (by omega)
    omega
theorem less_rank {down : Bool} {a b : Vers} (h : a.rank ≠ b.rank) : lessV down a b = decide (a.rank < b.rank) := by
  have h2 : onC Vers.rank natC a b ≠ 0 := fun e => h (natC_eq e)
  unfold lessV versC thenC
  rw [if_neg h2]
  unfold onC natC
  by_cases hl : a.rank < b.rank
  · simp [hl]
  · rw [if_neg hl, if_pos (by omega)]; simp [hl]
theorem less_bare {down : Bool} {a b : Vers} : lessV down a.bare b.bare = lessV down a b := by
  rcases a with _ | u | ⟨u, _⟩ <;> rcases b with _ | x | ⟨x, _⟩ <;> (try cases u) <;> (try cases x) <;> rfl
theorem less_branch {down : Bool} {n m : ByteArray} {d e : Bool} : lessV down (.un (.branch n d)) (.un (.branch m e)) = if d = e then Op.bytesLess n.data.toList m.data.toList else d := by
  have hb := bytesC_less n.data.toList m.data.toList
  unfold lessV versC thenC onC
  have e1 : natC (Vers.rank (.un (.branch n d))) (Vers.rank (.un (.branch m e))) = 0 := rfl
  rw [if_pos e1]
  have e2 : natC (Vers.isPre (.un (.branch n d))) (Vers.isPre (.un (.branch m e))) = 0 := rfl
  have e3 : flipC down cmpV (Vers.sem (.un (.branch n d))) (Vers.sem (.un (.branch m e))) = 0 := (cmp_flip down cmp_v).refl zV
  rw [if_pos e2, e3]
  show decide ((if natC (boolN d) (boolN e) = 0 then (if bytesC n.data.toList m.data.toList = 0 then 0 else bytesC n.data.toList m.data.toList) else natC (boolN d) (boolN e)) < 0) = _
  have e4 : (if bytesC n.data.toList m.data.toList = 0 then 0 else bytesC n.data.toList m.data.toList) = bytesC n.data.toList m.data.toList := by split <;> omega
  rw [e4, Bool.eq_iff_iff, decide_eq_true_eq]
  cases d <;> cases e
  · exact hb
  · simp [boolN, natC]
  · simp [boolN, natC]
  · exact hb
theorem less_name {down : Bool} {a b : Vers} (h1 : a.rank = b.rank) (h2 : a.dflt = b.dflt) (h3 : a.isPre = b.isPre) (h4 : a.sem = zV) (h5 : b.sem = zV) : lessV down a b = Op.bytesLess a.name b.name := by
  have hb := bytesC_less a.name b.name
  unfold lessV versC thenC onC
  rw [h1, h2, h3, h4, h5]
  rw [if_pos (cmp_nat.refl _), if_pos (cmp_nat.refl _), if_pos (cmp_nat.refl _), (cmp_flip down cmp_v).refl zV]
  have e4 : (if bytesC a.name b.name = 0 then 0 else bytesC a.name b.name) = bytesC a.name b.name := by split <;> omega
  rw [e4, Bool.eq_iff_iff, decide_eq_true_eq]
  exact hb
theorem less_rev {down : Bool} {s t : ByteArray} : lessV down (.rev s) (.rev t) = Op.bytesLess s.data.toList t.data.toList := less_name rfl rfl rfl rfl rfl
theorem less_plain {down : Bool} {s t : ByteArray} : lessV down (.un (.plain s)) (.un (.plain t)) = Op.bytesLess s.data.toList t.data.toList := less_name rfl rfl rfl rfl rfl
theorem less_sem {down : Bool} {v w : SV} : lessV down (.un (.sem v)) (.un (.sem w)) = if v.pre.data.toList.isEmpty = w.pre.data.toList.isEmpty then (if down then decide (cmpV v w < 0) else decide (cmpV v w > 0)) else v.pre.data.toList.isEmpty := by
  have ha := cmp_v.anti v w
  unfold lessV versC thenC onC
  have e1 : natC (Vers.rank (.un (.sem v))) (Vers.rank (.un (.sem w))) = 0 := rfl
  have e2 : natC (Vers.dflt (.un (.sem v))) (Vers.dflt (.un (.sem w))) = 0 := rfl
  have e3 : bytesC (Vers.name (.un (.sem v))) (Vers.name (.un (.sem w))) = 0 := rfl
  rw [if_pos e1, if_pos e2, if_pos e3]
  show decide ((if natC (boolN v.pre.data.toList.isEmpty) (boolN w.pre.data.toList.isEmpty) = 0 then flipC down cmpV v w else natC (boolN v.pre.data.toList.isEmpty) (boolN w.pre.data.toList.isEmpty)) < 0) = _
  generalize v.pre.data.toList.isEmpty = x
  generalize w.pre.data.toList.isEmpty = y
  cases x <;> cases y
  · simp only [boolN, natC, flipC]
    cases down
    · simp; omega
    · simp
  · simp [boolN, natC]
  · simp [boolN, natC]
  · simp only [boolN, natC, flipC]
    cases down
    · simp; omega
    · simp
end Go.Proofs.YtgoeiflddikihaaGreatDoor.Ver
end
