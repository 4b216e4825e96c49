/- Merged by program out of: VBase, VPa, VIdent, Shelf, VRead, SemP. -/
import Derived.Test.YtgoeiflddikihaaGreatDoorCsM2
import Derived.Stop.Asserts
import Derived.Lib.Hide
import Derived.WalkKit
import Derived.WalkSpells
import Derived.Shelf.Strconv.Itoa0
import Derived.Shelf.Strconv.Itoa1
import Derived.Shelf.LaysM
import Derived.Shelf.Strconv.Itoa2
import Derived.Shelf.Strconv.Itoa3
import Derived.Shelf.Strconv.Clone
import Derived.Shelf.Strconv.SyntaxError
import Derived.Shelf.LaysC
import Derived.Shelf.Strconv.ToError
import Derived.Shelf.Strconv.Lower
import Derived.Shelf.Strconv.ParseUint10
import Derived.Shelf.Strconv.ParseUint10Empty
import Derived.Shelf.Strconv.ParseUint10Any
import Derived.Shelf.Strconv.RangeError
import Derived.Shelf.Strconv.ToErrorRange
import Derived.Ground.MpProg
import Derived.Shelf.Pu.ParseUintPublic10
import Derived.Shelf.Pu.ErrVarParseUint
import Derived.Test.YtgoeiflddikihaaGreatDoorProg
import Derived.Lib.ParseIntB
import Derived.Deep.CutBlock
import Derived.Deep.CutRange
import Derived.Deep.DeepCutAuto
section
namespace Go.Proofs.YtgoeiflddikihaaGreatDoor.Ver
open Go.RowKit Go.Proofs.YtgoeiflddikihaaGreatDoorW.PrintWords
structure SV where
  major : Int
  minor : Int
  patch : Int
  pre : ByteArray
  mt : ByteArray
  orig : ByteArray
def SV.cells (v : SV) : Array Value := #[.int .u64 v.major, .int .u64 v.minor, .int .u64 v.patch, .string v.pre, .string v.mt, .string v.orig]
inductive Unp where
  | branch (name : ByteArray) (dflt : Bool)
  | plain (s : ByteArray)
  | sem (v : SV)
inductive Vers where
  | rev (s : ByteArray)
  | un (u : Unp)
  | pair (u : Unp) (r : ByteArray)
def Unp.tid : Unp → TypeId
  | .branch _ _ => 215
  | .plain _ => 224
  | .sem _ => 200
def Unp.inner : Unp → Value
  | .branch n d => .agg #[.string n, .bool d]
  | .plain s => .string s
  | .sem v => .agg v.cells
def Unp.val (u : Unp) : Value := .iface u.tid u.inner
def Vers.tid : Vers → TypeId
  | .rev _ => 135
  | .un u => u.tid
  | .pair _ _ => 212
def Vers.inner : Vers → Value
  | .rev s => .string s
  | .un u => u.inner
  | .pair u r => .agg #[u.val, .string r]
def Vers.val (v : Vers) : Value := .iface v.tid v.inner
theorem m_rev_String (v : Value) (w : World) : (method 417 135 v "String").run Tryz.prog w = .ok (101, v) w := by kernel_rfl
theorem m_rev_Type (v : Value) (w : World) : (method 417 135 v "Type").run Tryz.prog w = .ok (198, v) w := by kernel_rfl
theorem m_sem_ImpliedCaretString (v : Value) (w : World) : (method 417 200 v "ImpliedCaretString").run Tryz.prog w = .ok (237, v) w := by kernel_rfl
theorem m_sem_Pair (v : Value) (w : World) : (method 417 200 v "Pair").run Tryz.prog w = .ok (241, v) w := by kernel_rfl
theorem m_sem_String (v : Value) (w : World) : (method 417 200 v "String").run Tryz.prog w = .ok (242, v) w := by kernel_rfl
theorem m_sem_Type (v : Value) (w : World) : (method 417 200 v "Type").run Tryz.prog w = .ok (243, v) w := by kernel_rfl
theorem m_sc_Matches (v : Value) (w : World) : (method 417 202 v "Matches").run Tryz.prog w = .ok (251, v) w := by kernel_rfl
theorem m_pair_ImpliedCaretString (v : Value) (w : World) : (method 417 212 v "ImpliedCaretString").run Tryz.prog w = .ok (263, v) w := by kernel_rfl
theorem m_pair_Revision (v : Value) (w : World) : (method 417 212 v "Revision").run Tryz.prog w = .ok (267, v) w := by kernel_rfl
theorem m_pair_String (v : Value) (w : World) : (method 417 212 v "String").run Tryz.prog w = .ok (268, v) w := by kernel_rfl
theorem m_pair_Type (v : Value) (w : World) : (method 417 212 v "Type").run Tryz.prog w = .ok (269, v) w := by kernel_rfl
theorem m_pair_Unpair (v : Value) (w : World) : (method 417 212 v "Unpair").run Tryz.prog w = .ok (270, v) w := by kernel_rfl
theorem m_branch_Pair (v : Value) (w : World) : (method 417 215 v "Pair").run Tryz.prog w = .ok (278, v) w := by kernel_rfl
theorem m_branch_String (v : Value) (w : World) : (method 417 215 v "String").run Tryz.prog w = .ok (279, v) w := by kernel_rfl
theorem m_branch_Type (v : Value) (w : World) : (method 417 215 v "Type").run Tryz.prog w = .ok (280, v) w := by kernel_rfl
theorem m_plain_ImpliedCaretString (v : Value) (w : World) : (method 417 224 v "ImpliedCaretString").run Tryz.prog w = .ok (284, v) w := by kernel_rfl
theorem m_plain_Pair (v : Value) (w : World) : (method 417 224 v "Pair").run Tryz.prog w = .ok (288, v) w := by kernel_rfl
theorem m_plain_String (v : Value) (w : World) : (method 417 224 v "String").run Tryz.prog w = .ok (289, v) w := by kernel_rfl
theorem m_plain_Type (v : Value) (w : World) : (method 417 224 v "Type").run Tryz.prog w = .ok (290, v) w := by kernel_rfl
theorem m_range_Intersect (v : Value) (w : World) : (method 417 238 v "Intersect").run Tryz.prog w = .ok (295, v) w := by kernel_rfl
theorem m_range_Matches (v : Value) (w : World) : (method 417 238 v "Matches").run Tryz.prog w = .ok (296, v) w := by kernel_rfl
end Go.Proofs.YtgoeiflddikihaaGreatDoor.Ver
end
section
namespace Go.Proofs.YtgoeiflddikihaaGreatDoor.PFnIntersectAny
open Go.RowKit Go.Proofs.YtgoeiflddikihaaGreatDoorW.PrintWords Go.Proofs.YtgoeiflddikihaaGreatDoorW.PrintLast Go.Proofs.YtgoeiflddikihaaGreatDoorW.PrintMore
attribute [local go_sem] max2_int min2_int max_two min_two max_three min_three max_four min_four   -- for this text's walks alone
set_option linter.unusedVariables false
set_option linter.unusedSimpArgs false
mutual
def semver_identifiers.l0 : Nat → ByteArray → Int → Int → Int → Option (Int)
  | 0, _, _, _, _ => none
  | k + 1, x0, x3, x4, x5 => if x5 < (x0.size : Int) then (if 0 ≤ x5 then (if 48 ≤ (bt x0 x5) then (if (bt x0 x5) ≤ 57 then (semver_identifiers.j1 k x0 x3 x4 x5 (bt x0 x5) true) else (if 97 ≤ (bt x0 x5) then (if (bt x0 x5) ≤ 122 then (semver_identifiers.j1 k x0 x3 x4 x5 (bt x0 x5) true) else (if 65 ≤ (bt x0 x5) then (if (bt x0 x5) ≤ 90 then (semver_identifiers.j1 k x0 x3 x4 x5 (bt x0 x5) true) else (semver_identifiers.j1 k x0 x3 x4 x5 (bt x0 x5) ((bt x0 x5) == 45))) else (semver_identifiers.j1 k x0 x3 x4 x5 (bt x0 x5) ((bt x0 x5) == 45)))) else (if 65 ≤ (bt x0 x5) then (if (bt x0 x5) ≤ 90 then (semver_identifiers.j1 k x0 x3 x4 x5 (bt x0 x5) true) else (semver_identifiers.j1 k x0 x3 x4 x5 (bt x0 x5) ((bt x0 x5) == 45))) else (semver_identifiers.j1 k x0 x3 x4 x5 (bt x0 x5) ((bt x0 x5) == 45))))) else (if 97 ≤ (bt x0 x5) then (if (bt x0 x5) ≤ 122 then (semver_identifiers.j1 k x0 x3 x4 x5 (bt x0 x5) true) else (if 65 ≤ (bt x0 x5) then (if (bt x0 x5) ≤ 90 then (semver_identifiers.j1 k x0 x3 x4 x5 (bt x0 x5) true) else (semver_identifiers.j1 k x0 x3 x4 x5 (bt x0 x5) ((bt x0 x5) == 45))) else (semver_identifiers.j1 k x0 x3 x4 x5 (bt x0 x5) ((bt x0 x5) == 45)))) else (if 65 ≤ (bt x0 x5) then (if (bt x0 x5) ≤ 90 then (semver_identifiers.j1 k x0 x3 x4 x5 (bt x0 x5) true) else (semver_identifiers.j1 k x0 x3 x4 x5 (bt x0 x5) ((bt x0 x5) == 45))) else (semver_identifiers.j1 k x0 x3 x4 x5 (bt x0 x5) ((bt x0 x5) == 45))))) else (none)) else (some x3)
def semver_identifiers.j1 : Nat → ByteArray → Int → Int → Int → Int → Bool → Option (Int)
  | 0, _, _, _, _, _, _ => none
  | k + 1, x0, x3, x4, x5, x6, x17 => if x17 = true then (semver_identifiers.l0 k x0 (wrap64 (x5 + 1)) (wrap64 (x4 + 1)) (wrap64 (x5 + 1))) else (if x6 = 46 then (if x4 > 0 then (semver_identifiers.l0 k x0 x3 0 (wrap64 (x5 + 1))) else (some x3)) else (some x3))
end
def semver_identifiers.f (k : Nat) (a0 : ByteArray) : Option (Int) := semver_identifiers.l0 k a0 0 0 0
theorem semver_identifiers.mono_l : ∀ k, (∀ y0 y1 y2 y3, LeO (semver_identifiers.l0 k y0 y1 y2 y3) (semver_identifiers.l0 (k + 1) y0 y1 y2 y3)) ∧ (∀ y0 y1 y2 y3 y4 y5, LeO (semver_identifiers.j1 k y0 y1 y2 y3 y4 y5) (semver_identifiers.j1 (k + 1) y0 y1 y2 y3 y4 y5))
  | 0 => ⟨fun _ _ _ _ r h => by simp [semver_identifiers.l0] at h, fun _ _ _ _ _ _ r h => by simp [semver_identifiers.j1] at h⟩
  | k + 1 => by
    obtain ⟨ih0, ih1⟩ := semver_identifiers.mono_l k
    refine ⟨?_, ?_⟩
    · intro y0 y1 y2 y3
      unfold semver_identifiers.l0
      repeat' first
      | (with_reducible exact ih0 _ _ _ _)
      | (with_reducible exact ih1 _ _ _ _ _ _)
      | (with_reducible exact LeO.refl _)
      | (with_reducible exact LeO.none _)
      | (with_reducible refine LeO.ite ?_ ?_)
      | (with_reducible refine LeO.bind ?_ (fun _ => ?_))
      | exact ih0 _ _ _ _
      | exact ih1 _ _ _ _ _ _
      | exact LeO.none _
      | refine LeO.ite ?_ ?_
      | refine LeO.bind ?_ (fun _ => ?_)
    · intro y0 y1 y2 y3 y4 y5
      unfold semver_identifiers.j1
      repeat' first
      | (with_reducible exact ih0 _ _ _ _)
      | (with_reducible exact ih1 _ _ _ _ _ _)
      | (with_reducible exact LeO.refl _)
      | (with_reducible exact LeO.none _)
      | (with_reducible refine LeO.ite ?_ ?_)
      | (with_reducible refine LeO.bind ?_ (fun _ => ?_))
      | exact ih0 _ _ _ _
      | exact ih1 _ _ _ _ _ _
      | exact LeO.none _
      | refine LeO.ite ?_ ?_
      | refine LeO.bind ?_ (fun _ => ?_)
theorem semver_identifiers.mono : ∀ a0 k, LeO (semver_identifiers.f k a0) (semver_identifiers.f (k + 1) a0) := by
  intro a0 k
  obtain ⟨ih0, ih1⟩ := semver_identifiers.mono_l k
  unfold semver_identifiers.f
  repeat' first
      | (with_reducible exact ih0 _ _ _ _)
      | (with_reducible exact ih1 _ _ _ _ _ _)
      | (with_reducible exact LeO.refl _)
      | (with_reducible exact LeO.none _)
      | (with_reducible refine LeO.ite ?_ ?_)
      | (with_reducible refine LeO.bind ?_ (fun _ => ?_))
      | exact ih0 _ _ _ _
      | exact ih1 _ _ _ _ _ _
      | exact LeO.none _
      | refine LeO.ite ?_ ?_
      | refine LeO.bind ?_ (fun _ => ?_)
set_option maxHeartbeats 8000000 in
set_option maxRecDepth 100000 in
theorem semver_identifiers.calls (k : Nat) (a0 : ByteArray) (r : Int) (w : World) (h : semver_identifiers.f k a0 = some r) :
    Calls Tryz.prog 153 #[.string a0] w fun e w' => e = .returned (.int .i64 r) ∧ Drawn0 w w' := by
  have H : (semver_identifiers.l0 k a0 0 0 0) = some r := h
  clear h
  have H' := Aside0.mk H
  clear H
  go_enter Tryz.func153, Tryz.ntmps153
  go_wp2
  go_loopg [3, 4, 5] k (fun kq v3 v4 v5 w' => ∃ (x3_1 : Int) (x4_1 : Int) (x5_1 : Int), v3 = .int .i64 x3_1 ∧ v4 = .int .i64 x4_1 ∧ v5 = .int .i64 x5_1 ∧ Aside0 (semver_identifiers.l0 kq a0 x3_1 x4_1 x5_1 = some r) ∧ Aside0 (kq ≤ k) ∧ Drawn0 w w')
  case atStart => exact ⟨(0), (0), (0), (by first | rfl | (simp; done) | (simp [*]; done)), (by first | rfl | (simp; done) | (simp [*]; done)), (by first | rfl | (simp; done) | (simp [*]; done)), H', ⟨Nat.le_refl _⟩, by repeat (first | exact Drawn0.refl _ | apply Drawn0.step)⟩
  case round =>
    clear H'
    try clear c1
    obtain ⟨x3_1, x4_1, x5_1, rfl, rfl, rfl, HA, HK1, ⟨m1, rfl⟩⟩ := hrel
    cases gk with
    | zero => exact absurd HA.out (by simp [semver_identifiers.l0])
    | succ k1 =>
      have H := HA.out
      clear HA
      simp only [semver_identifiers.l0] at H
      by_cases c2 : x5_1 < (a0.size : Int)
      · rw [if_pos c2] at H
        have c2b0 : decide (x5_1 < (a0.size : Int)) = true := decide_eq_true c2
        clear c2
        by_cases c3 : 0 ≤ x5_1
        · rw [if_pos c3] at H
          have c3b0 : decide (0 ≤ x5_1) = true := decide_eq_true c3
          clear c3
          have HC5 := Aside0.mk H
          clear H
          have p4 : 0 ≤ (x5_1 : Int) := of_decide_eq_true (by first | (with_reducible assumption) | assumption)
          have q4 : x5_1 < (a0.size : Int) := of_decide_eq_true (by first | (with_reducible assumption) | assumption)
          have hx4 := bt_at a0 x5_1
          replace p4 := eq_true p4
          replace q4 := eq_true q4
          go_upto_region 7 with (fail)
          go_cut [17] (fun v17 wc => ∃ (kq : Nat) (x17_4 : Bool), v17 = .bool x17_4 ∧ Aside0 (semver_identifiers.j1 kq a0 x3_1 x4_1 x5_1 (bt a0 x5_1) x17_4 = some r) ∧ Aside0 (kq ≤ k1) ∧ Drawn0 w wc)
          case first =>
            have H := HC5.out
            clear HC5
            by_cases c6 : 48 ≤ (bt a0 x5_1)
            · rw [if_pos c6] at H
              have c6b0 : decide (48 ≤ (bt a0 x5_1)) = true := decide_eq_true c6
              clear c6
              (first | rw [c6b0] | (simp only [i64_w, i32_w]; rw [c6b0]) | skip)
              by_cases c7 : (bt a0 x5_1) ≤ 57
              · rw [if_pos c7] at H
                have c7b0 : decide ((bt a0 x5_1) ≤ 57) = true := decide_eq_true c7
                clear c7
                have H' := Aside0.mk H
                clear H
                go_wp2
                go_meet
                case rel => exact ⟨_, (true), (by first | rfl | (simp; done) | (simp [*]; done)), H', ⟨by have := HK1.out; first | omega | exact Nat.le_refl _⟩, by repeat (first | exact Drawn0.refl _ | apply Drawn0.step)⟩
              · rw [if_neg c7] at H
                have c7b0 : decide ((bt a0 x5_1) ≤ 57) = false := decide_eq_false c7
                clear c7
                by_cases c8 : 97 ≤ (bt a0 x5_1)
                · rw [if_pos c8] at H
                  have c8b0 : decide (97 ≤ (bt a0 x5_1)) = true := decide_eq_true c8
                  clear c8
                  by_cases c9 : (bt a0 x5_1) ≤ 122
                  · rw [if_pos c9] at H
                    have c9b0 : decide ((bt a0 x5_1) ≤ 122) = true := decide_eq_true c9
                    clear c9
                    have H' := Aside0.mk H
                    clear H
                    go_wp2
                    go_meet
                    case rel => exact ⟨_, (true), (by first | rfl | (simp; done) | (simp [*]; done)), H', ⟨by have := HK1.out; first | omega | exact Nat.le_refl _⟩, by repeat (first | exact Drawn0.refl _ | apply Drawn0.step)⟩
                  · rw [if_neg c9] at H
                    have c9b0 : decide ((bt a0 x5_1) ≤ 122) = false := decide_eq_false c9
                    clear c9
                    by_cases c10 : 65 ≤ (bt a0 x5_1)
                    · rw [if_pos c10] at H
                      have c10b0 : decide (65 ≤ (bt a0 x5_1)) = true := decide_eq_true c10
                      clear c10
                      by_cases c11 : (bt a0 x5_1) ≤ 90
                      · rw [if_pos c11] at H
                        have c11b0 : decide ((bt a0 x5_1) ≤ 90) = true := decide_eq_true c11
                        clear c11
                        have H' := Aside0.mk H
                        clear H
                        go_wp2
                        go_meet
                        case rel => exact ⟨_, (true), (by first | rfl | (simp; done) | (simp [*]; done)), H', ⟨by have := HK1.out; first | omega | exact Nat.le_refl _⟩, by repeat (first | exact Drawn0.refl _ | apply Drawn0.step)⟩
                      · rw [if_neg c11] at H
                        have c11b0 : decide ((bt a0 x5_1) ≤ 90) = false := decide_eq_false c11
                        clear c11
                        have H' := Aside0.mk H
                        clear H
                        go_wp2
                        go_meet
                        case rel => exact ⟨_, (((bt a0 x5_1) == 45)), (by first | rfl | (simp; done) | (simp [*]; done)), H', ⟨by have := HK1.out; first | omega | exact Nat.le_refl _⟩, by repeat (first | exact Drawn0.refl _ | apply Drawn0.step)⟩
                    · rw [if_neg c10] at H
                      have c10b0 : decide (65 ≤ (bt a0 x5_1)) = false := decide_eq_false c10
                      clear c10
                      have H' := Aside0.mk H
                      clear H
                      go_wp2
                      go_meet
                      case rel => exact ⟨_, (((bt a0 x5_1) == 45)), (by first | rfl | (simp; done) | (simp [*]; done)), H', ⟨by have := HK1.out; first | omega | exact Nat.le_refl _⟩, by repeat (first | exact Drawn0.refl _ | apply Drawn0.step)⟩
                · rw [if_neg c8] at H
                  have c8b0 : decide (97 ≤ (bt a0 x5_1)) = false := decide_eq_false c8
                  clear c8
                  by_cases c12 : 65 ≤ (bt a0 x5_1)
                  · rw [if_pos c12] at H
                    have c12b0 : decide (65 ≤ (bt a0 x5_1)) = true := decide_eq_true c12
                    clear c12
                    by_cases c13 : (bt a0 x5_1) ≤ 90
                    · rw [if_pos c13] at H
                      have c13b0 : decide ((bt a0 x5_1) ≤ 90) = true := decide_eq_true c13
                      clear c13
                      have H' := Aside0.mk H
                      clear H
                      go_wp2
                      go_meet
                      case rel => exact ⟨_, (true), (by first | rfl | (simp; done) | (simp [*]; done)), H', ⟨by have := HK1.out; first | omega | exact Nat.le_refl _⟩, by repeat (first | exact Drawn0.refl _ | apply Drawn0.step)⟩
                    · rw [if_neg c13] at H
                      have c13b0 : decide ((bt a0 x5_1) ≤ 90) = false := decide_eq_false c13
                      clear c13
                      have H' := Aside0.mk H
                      clear H
                      go_wp2
                      go_meet
                      case rel => exact ⟨_, (((bt a0 x5_1) == 45)), (by first | rfl | (simp; done) | (simp [*]; done)), H', ⟨by have := HK1.out; first | omega | exact Nat.le_refl _⟩, by repeat (first | exact Drawn0.refl _ | apply Drawn0.step)⟩
                  · rw [if_neg c12] at H
                    have c12b0 : decide (65 ≤ (bt a0 x5_1)) = false := decide_eq_false c12
                    clear c12
                    have H' := Aside0.mk H
                    clear H
                    go_wp2
                    go_meet
                    case rel => exact ⟨_, (((bt a0 x5_1) == 45)), (by first | rfl | (simp; done) | (simp [*]; done)), H', ⟨by have := HK1.out; first | omega | exact Nat.le_refl _⟩, by repeat (first | exact Drawn0.refl _ | apply Drawn0.step)⟩
            · rw [if_neg c6] at H
              have c6b0 : decide (48 ≤ (bt a0 x5_1)) = false := decide_eq_false c6
              clear c6
              (first | rw [c6b0] | (simp only [i64_w, i32_w]; rw [c6b0]) | skip)
              by_cases c14 : 97 ≤ (bt a0 x5_1)
              · rw [if_pos c14] at H
                have c14b0 : decide (97 ≤ (bt a0 x5_1)) = true := decide_eq_true c14
                clear c14
                by_cases c15 : (bt a0 x5_1) ≤ 122
                · rw [if_pos c15] at H
                  have c15b0 : decide ((bt a0 x5_1) ≤ 122) = true := decide_eq_true c15
                  clear c15
                  have H' := Aside0.mk H
                  clear H
                  go_wp2
                  go_meet
                  case rel => exact ⟨_, (true), (by first | rfl | (simp; done) | (simp [*]; done)), H', ⟨by have := HK1.out; first | omega | exact Nat.le_refl _⟩, by repeat (first | exact Drawn0.refl _ | apply Drawn0.step)⟩
                · rw [if_neg c15] at H
                  have c15b0 : decide ((bt a0 x5_1) ≤ 122) = false := decide_eq_false c15
                  clear c15
                  by_cases c16 : 65 ≤ (bt a0 x5_1)
                  · rw [if_pos c16] at H
                    have c16b0 : decide (65 ≤ (bt a0 x5_1)) = true := decide_eq_true c16
                    clear c16
                    by_cases c17 : (bt a0 x5_1) ≤ 90
                    · rw [if_pos c17] at H
                      have c17b0 : decide ((bt a0 x5_1) ≤ 90) = true := decide_eq_true c17
                      clear c17
                      have H' := Aside0.mk H
                      clear H
                      go_wp2
                      go_meet
                      case rel => exact ⟨_, (true), (by first | rfl | (simp; done) | (simp [*]; done)), H', ⟨by have := HK1.out; first | omega | exact Nat.le_refl _⟩, by repeat (first | exact Drawn0.refl _ | apply Drawn0.step)⟩
                    · rw [if_neg c17] at H
                      have c17b0 : decide ((bt a0 x5_1) ≤ 90) = false := decide_eq_false c17
                      clear c17
                      have H' := Aside0.mk H
                      clear H
                      go_wp2
                      go_meet
                      case rel => exact ⟨_, (((bt a0 x5_1) == 45)), (by first | rfl | (simp; done) | (simp [*]; done)), H', ⟨by have := HK1.out; first | omega | exact Nat.le_refl _⟩, by repeat (first | exact Drawn0.refl _ | apply Drawn0.step)⟩
                  · rw [if_neg c16] at H
                    have c16b0 : decide (65 ≤ (bt a0 x5_1)) = false := decide_eq_false c16
                    clear c16
                    have H' := Aside0.mk H
                    clear H
                    go_wp2
                    go_meet
                    case rel => exact ⟨_, (((bt a0 x5_1) == 45)), (by first | rfl | (simp; done) | (simp [*]; done)), H', ⟨by have := HK1.out; first | omega | exact Nat.le_refl _⟩, by repeat (first | exact Drawn0.refl _ | apply Drawn0.step)⟩
              · rw [if_neg c14] at H
                have c14b0 : decide (97 ≤ (bt a0 x5_1)) = false := decide_eq_false c14
                clear c14
                by_cases c18 : 65 ≤ (bt a0 x5_1)
                · rw [if_pos c18] at H
                  have c18b0 : decide (65 ≤ (bt a0 x5_1)) = true := decide_eq_true c18
                  clear c18
                  by_cases c19 : (bt a0 x5_1) ≤ 90
                  · rw [if_pos c19] at H
                    have c19b0 : decide ((bt a0 x5_1) ≤ 90) = true := decide_eq_true c19
                    clear c19
                    have H' := Aside0.mk H
                    clear H
                    go_wp2
                    go_meet
                    case rel => exact ⟨_, (true), (by first | rfl | (simp; done) | (simp [*]; done)), H', ⟨by have := HK1.out; first | omega | exact Nat.le_refl _⟩, by repeat (first | exact Drawn0.refl _ | apply Drawn0.step)⟩
                  · rw [if_neg c19] at H
                    have c19b0 : decide ((bt a0 x5_1) ≤ 90) = false := decide_eq_false c19
                    clear c19
                    have H' := Aside0.mk H
                    clear H
                    go_wp2
                    go_meet
                    case rel => exact ⟨_, (((bt a0 x5_1) == 45)), (by first | rfl | (simp; done) | (simp [*]; done)), H', ⟨by have := HK1.out; first | omega | exact Nat.le_refl _⟩, by repeat (first | exact Drawn0.refl _ | apply Drawn0.step)⟩
                · rw [if_neg c18] at H
                  have c18b0 : decide (65 ≤ (bt a0 x5_1)) = false := decide_eq_false c18
                  clear c18
                  have H' := Aside0.mk H
                  clear H
                  go_wp2
                  go_meet
                  case rel => exact ⟨_, (((bt a0 x5_1) == 45)), (by first | rfl | (simp; done) | (simp [*]; done)), H', ⟨by have := HK1.out; first | omega | exact Nat.le_refl _⟩, by repeat (first | exact Drawn0.refl _ | apply Drawn0.step)⟩
          case rest =>
            clear HC5
            try clear c1
            try clear c2
            try clear c2b0
            try clear p2
            try clear c3
            try clear c3b0
            try clear p4
            try clear q4
            try clear hx4
            try clear c6
            try clear c6b0
            try clear c7
            try clear c7b0
            try clear c8
            try clear c8b0
            try clear c9
            try clear c9b0
            try clear c10
            try clear c10b0
            try clear c11
            try clear c11b0
            try clear c12
            try clear c12b0
            try clear c13
            try clear c13b0
            try clear c14
            try clear c14b0
            try clear c15
            try clear c15b0
            try clear c16
            try clear c16b0
            try clear c17
            try clear c17b0
            try clear c18
            try clear c18b0
            try clear c19
            try clear c19b0
            try clear p4
            try clear q4
            obtain ⟨kq, x17_4, rfl, HA, HJ4, ⟨mc4, rfl⟩⟩ := hcut
            cases kq with
            | zero => exact absurd HA.out (by simp [semver_identifiers.j1])
            | succ kj4 =>
              have H := HA.out
              clear HA
              simp only [semver_identifiers.j1] at H
              by_cases c20 : x17_4 = true
              · subst c20
                have H1 : (semver_identifiers.l0 kj4 a0 (wrap64 (x5_1 + 1)) (wrap64 (x4_1 + 1)) (wrap64 (x5_1 + 1))) = some r := by rw [if_pos rfl] at H; exact H
                clear H
                have H := H1
                clear H1
                have H' := Aside0.mk H
                clear H
                go_wp2
                go_roundg kj4
                case measure => have := HK1.out; have := HJ4.out; omega
                case rel => exact ⟨(wrap64 (x5_1 + 1)), (wrap64 (x4_1 + 1)), (wrap64 (x5_1 + 1)), (by first | rfl | (simp; done) | (simp [*]; done)), (by first | rfl | (simp; done) | (simp [*]; done)), (by first | rfl | (simp; done) | (simp [*]; done)), H', ⟨by have := HK1.out; have := HJ4.out; omega⟩, by repeat (first | exact Drawn0.refl _ | apply Drawn0.step)⟩
              · replace c20 := Bool.eq_false_iff.mpr c20
                subst c20
                have H1 : (if (bt a0 x5_1) = 46 then (if x4_1 > 0 then (semver_identifiers.l0 kj4 a0 x3_1 0 (wrap64 (x5_1 + 1))) else (some x3_1)) else (some x3_1)) = some r := by rw [if_neg (show ¬ (false = true) by decide)] at H; exact H
                clear H
                have H := H1
                clear H1
                by_cases c21 : (bt a0 x5_1) = 46
                · rw [if_pos c21] at H
                  have c21b0 : ((bt a0 x5_1) == 46) = true := beq_iff_eq.mpr c21
                  have c21b1 : ((bt a0 x5_1) != 46) = false := bne_eq_false_iff_eq.mpr c21
                  clear c21
                  by_cases c22 : x4_1 > 0
                  · rw [if_pos c22] at H
                    have c22b0 : decide (0 < x4_1) = true := decide_eq_true c22
                    clear c22
                    have H' := Aside0.mk H
                    clear H
                    go_wp2
                    go_roundg kj4
                    case measure => have := HK1.out; have := HJ4.out; omega
                    case rel => exact ⟨(x3_1), (0), (wrap64 (x5_1 + 1)), (by first | rfl | (simp; done) | (simp [*]; done)), (by first | rfl | (simp; done) | (simp [*]; done)), (by first | rfl | (simp; done) | (simp [*]; done)), H', ⟨by have := HK1.out; have := HJ4.out; omega⟩, by repeat (first | exact Drawn0.refl _ | apply Drawn0.step)⟩
                  · rw [if_neg c22] at H
                    have c22b0 : decide (0 < x4_1) = false := decide_eq_false c22
                    clear c22
                    obtain rfl := Option.some.inj H
                    go_wp2
                    go_ret
                    exact ⟨by first | rfl | (simp; done) | (simp [*]; done), by repeat (first | exact Drawn0.refl _ | apply Drawn0.step)⟩
                · rw [if_neg c21] at H
                  have c21b0 : ((bt a0 x5_1) == 46) = false := beq_eq_false_iff_ne.mpr c21
                  have c21b1 : ((bt a0 x5_1) != 46) = true := bne_iff_ne.mpr c21
                  obtain rfl := Option.some.inj H
                  go_wp2
                  go_ret
                  exact ⟨by first | rfl | (simp; done) | (simp [*]; done), by repeat (first | exact Drawn0.refl _ | apply Drawn0.step)⟩
        · rw [if_neg c3] at H
          exact absurd H (by simp)
      · rw [if_neg c2] at H
        have c2b0 : decide (x5_1 < (a0.size : Int)) = false := decide_eq_false c2
        clear c2
        obtain rfl := Option.some.inj H
        go_wp2
        go_ret
        exact ⟨by first | rfl | (simp; done) | (simp [*]; done), by repeat (first | exact Drawn0.refl _ | apply Drawn0.step)⟩
end Go.Proofs.YtgoeiflddikihaaGreatDoor.PFnIntersectAny
end
section
namespace Go.Proofs.YtgoeiflddikihaaGreatDoor.Ver
open Go.RowKit Go.Proofs.YtgoeiflddikihaaGreatDoor.PFnIntersectAny Go.Proofs.YtgoeiflddikihaaGreatDoorW.PrintWords
def isDig (c : UInt8) : Bool := decide (48 ≤ c.toNat) && decide (c.toNat ≤ 57)
def digN : List UInt8 → Nat
  | [] => 0
  | c :: r => if isDig c then digN r + 1 else 0
def isId (c : UInt8) : Bool := isDig c || (decide (97 ≤ c.toNat) && decide (c.toNat ≤ 122)) || (decide (65 ≤ c.toNat) && decide (c.toNat ≤ 90)) || c.toNat == 45
def identGo : List UInt8 → Nat → Nat → Nat → Nat
  | [], _, n, _ => n
  | c :: r, i, n, p => if isId c then identGo r (i + 1) (i + 1) (p + 1) else if c.toNat = 46 ∧ 0 < p then identGo r (i + 1) n 0 else n
def identN (l : List UInt8) : Nat := identGo l 0 0 0
theorem identGo_le : ∀ (l : List UInt8) (i n p : Nat), n ≤ i → identGo l i n p ≤ i + l.length
  | [], i, n, p, h => by simp [identGo]; omega
  | c :: r, i, n, p, h => by
    simp only [identGo, List.length_cons]
    split
    · have := identGo_le r (i + 1) (i + 1) (p + 1) (by omega); omega
    · split
      · have := identGo_le r (i + 1) n 0 (by omega); omega
      · omega
theorem identN_le (l : List UInt8) : identN l ≤ l.length := by
  have := identGo_le l 0 0 0 (by omega)
  unfold identN; omega
theorem wrap_in {i : Int} (h0 : -9223372036854775808 ≤ i) (h : i ≤ 9223372036854775807) : wrap64 i = i := by
  unfold wrap64
  omega
theorem bt_nat (s : ByteArray) (i : Nat) (h : i < s.size) : bt s (i : Int) = ((s[i]).toNat : Int) := by
  have := bt_at s (i : Int) (by simpa using h)
  rw [← this]; simp
theorem drop_at (s : ByteArray) (i : Nat) (h : i < s.size) : s.data.toList.drop i = s[i] :: s.data.toList.drop (i + 1) := by
  have hl : i < s.data.toList.length := by rw [Array.length_toList]; exact h
  rw [List.drop_eq_getElem_cons hl]
  rfl
theorem ident_tells (s : ByteArray) (hn : s.size ≤ 140737488351232) (d : Nat) : ∀ (k i n p : Nat), i ≤ s.size → n ≤ i → p ≤ i → s.size - i = d → 2 * d < k →
    semver_identifiers.l0 k s (n : Int) (p : Int) (i : Int) = some ((identGo (s.data.toList.drop i) i n p : Nat) : Int) := by
  induction d with
  | zero =>
    intro k i n p hi hni hpi hd hk
    cases k with
    | zero => omega
    | succ k =>
      rw [semver_identifiers.l0, if_neg (by omega), List.drop_eq_nil_of_le (by rw [Array.length_toList]; show s.size ≤ i; omega)]
      rfl
  | succ d ih =>
    intro k i n p hi hni hpi hd hk
    have hlt : i < s.size := by omega
    cases k with
    | zero => omega
    | succ k =>
      cases k with
      | zero => omega
      | succ k =>
        have w1 : wrap64 ((i : Int) + 1) = ((i + 1 : Nat) : Int) := by rw [wrap_in (by omega) (by omega)]; omega
        have w2 : wrap64 ((p : Int) + 1) = ((p + 1 : Nat) : Int) := by rw [wrap_in (by omega) (by omega)]; omega
        rw [drop_at s i hlt, identGo]
        rw [semver_identifiers.l0, if_pos (by omega), if_pos (by omega), bt_nat s i hlt]
        have e1 := ih k (i + 1) (i + 1) (p + 1) (by omega) (by omega) (by omega) (by omega) (by omega)
        have e2 := ih k (i + 1) n 0 (by omega) (by omega) (by omega) (by omega) (by omega)
        simp only [semver_identifiers.j1, w1, w2]
        generalize s[i] = c at *
        by_cases hid : isId c = true
        · rw [if_pos hid]
          simp only [isId, isDig, Bool.or_eq_true, Bool.and_eq_true, decide_eq_true_eq, beq_iff_eq] at hid
          rw [e1]
          by_cases a1 : (48 : Int) ≤ (c.toNat : Int) <;> by_cases a2 : (c.toNat : Int) ≤ 57 <;> by_cases a3 : (97 : Int) ≤ (c.toNat : Int) <;> by_cases a4 : (c.toNat : Int) ≤ 122 <;> by_cases a5 : (65 : Int) ≤ (c.toNat : Int) <;> by_cases a6 : (c.toNat : Int) ≤ 90 <;>
            simp only [a1, a2, a3, a4, a5, a6, if_true, if_false] <;> (have hc : (c.toNat : Int) = 45 := by omega) <;> simp [hc]
        · rw [if_neg hid]
          simp only [isId, isDig, Bool.or_eq_true, Bool.and_eq_true, decide_eq_true_eq, beq_iff_eq] at hid
          have hb : ((c.toNat : Int) == 45) = false := by rw [beq_eq_false_iff_ne]; omega
          have hz : (((0 : Nat) : Int)) = 0 := rfl
          by_cases a1 : (48 : Int) ≤ (c.toNat : Int) <;> by_cases a2 : (c.toNat : Int) ≤ 57 <;> by_cases a3 : (97 : Int) ≤ (c.toNat : Int) <;> by_cases a4 : (c.toNat : Int) ≤ 122 <;> by_cases a5 : (65 : Int) ≤ (c.toNat : Int) <;> by_cases a6 : (c.toNat : Int) ≤ 90 <;>
            first | (exfalso; omega) | skip
          all_goals
            simp only [a1, a2, a3, a4, a5, a6, if_true, if_false, hb]
            by_cases h46 : c.toNat = 46
            · by_cases hp : 0 < p
              · rw [if_neg (by decide), if_pos (by omega), if_pos (by omega), if_pos ⟨h46, hp⟩, ← e2]; rfl
              · rw [if_neg (by decide), if_pos (by omega), if_neg (by omega), if_neg (by omega)]
            · rw [if_neg (by decide), if_neg (by omega), if_neg (by omega)]
theorem ident_any (s : ByteArray) (hn : s.size ≤ 140737488351232) (w : World) :
    Calls Tryz.prog 153 #[.string s] w fun e w' => e = .returned (.int .i64 ((identN s.data.toList : Nat) : Int)) ∧ ∃ n, w' = w.drewN n :=
  (semver_identifiers.calls (2 * s.size + 1) s _ w (ident_tells s hn s.size (2 * s.size + 1) 0 0 0 (by omega) (by omega) (by omega) (by omega) (by omega))).mono fun _ _ ⟨h, hd⟩ => ⟨h, hd.out⟩
end Go.Proofs.YtgoeiflddikihaaGreatDoor.Ver
end
section
namespace Go.Proofs
open Go.Shelf
def Tryz.lays129_ren : Go.Shelf.Ren := ⟨fun | 129 => 131 | n => n, fun | 53 => 46 | 3 => 3 | 4 => 4 | 46 => 209 | 5 => 5 | 9 => 9 | n => n, fun | n => n⟩
theorem Tryz.lays129 : Go.Proofs.Lays.n129 Tryz.prog Tryz.lays129_ren := {
  mixed := by kernel_rfl
  f129 := Tryz.func131.trans (congrArg some (by kernel_rfl))
  t3 := Tryz.underlying3
  a3 := Tryz.isAgg3
  z3 := Tryz.sizeOf3
  v3 := Tryz.zeroValue3
  t4 := Tryz.underlying4
  a4 := Tryz.isAgg4
  z4 := Tryz.sizeOf4
  v4 := Tryz.zeroValue4
  t5 := Tryz.underlying5
  a5 := Tryz.isAgg5
  z5 := Tryz.sizeOf5
  v5 := Tryz.zeroValue5
  t9 := Tryz.underlying9
  a9 := Tryz.isAgg9
  z9 := Tryz.sizeOf9
  v9 := Tryz.zeroValue9
  t46 := Tryz.underlying209
  a46 := Tryz.isAgg209
  z46 := Tryz.sizeOf209
  v46 := Tryz.zeroValue209
  t53 := Tryz.underlying46
  a53 := Tryz.isAgg46
  z53 := Tryz.sizeOf46
  v53 := Tryz.zeroValue46 }
theorem Tryz.bits_Len64 (x : Int) (w : World) (h0 : 0 ≤ x) (h1 : x ≤ 18446744073709551615) :
    Calls Tryz.prog 131 #[.int .u64 x] w fun e w' => e = .returned (.int .i64 (Lib.bitLen x.toNat)) ∧ w' = w := Any.bits_Len64 Tryz.lays129 x w h0 h1
def Tryz.lays283_ren : Go.Shelf.Ren := ⟨fun | 283 => 168 | n => n, fun | 3 => 3 | 9 => 9 | 4 => 4 | n => n, fun | n => n⟩
theorem Tryz.lays283 : Go.Proofs.Lays.n283 Tryz.prog Tryz.lays283_ren := {
  mixed := by kernel_rfl
  f283 := Tryz.func168.trans (congrArg some (by kernel_rfl))
  t3 := Tryz.underlying3
  a3 := Tryz.isAgg3
  z3 := Tryz.sizeOf3
  v3 := Tryz.zeroValue3
  t4 := Tryz.underlying4
  a4 := Tryz.isAgg4
  z4 := Tryz.sizeOf4
  v4 := Tryz.zeroValue4
  t9 := Tryz.underlying9
  a9 := Tryz.isAgg9
  z9 := Tryz.sizeOf9
  v9 := Tryz.zeroValue9 }
open Go.Lib in
theorem Tryz.internal_strconv_small (i : Nat) (h : i < 100) (w : World) :
    Calls Tryz.prog 168 #[.int .i64 i] w fun e w' => e = .returned (.string ⟨(Lib.decDigits i).toArray⟩) ∧ w' = w := Any.internal_strconv_small Tryz.lays283 i h w
def Tryz.laysM284_ren : Go.Shelf.Ren := ⟨fun | 284 => 169 | 129 => 131 | 317 => 172 | 318 => 173 | n => n, fun | 53 => 46 | 3 => 3 | 212 => 282 | 0 => 0 | 4 => 4 | 46 => 209 | 5 => 5 | 9 => 9 | n => n, fun | 17 => 2 | n => n⟩
theorem Tryz.laysM284 : Go.Proofs.LaysM.n284 Tryz.prog Tryz.laysM284_ren := {
  mixed := by kernel_rfl
  f129 := Tryz.func131.trans (congrArg some (by kernel_rfl))
  f284 := Tryz.func169.trans (congrArg some (by kernel_rfl))
  f317 := Tryz.func172.trans (congrArg some (by kernel_rfl))
  f318 := Tryz.func173.trans (congrArg some (by kernel_rfl))
  t0 := Tryz.underlying0
  a0 := Tryz.isAgg0
  z0 := Tryz.sizeOf0
  v0 := Tryz.zeroValue0
  t3 := Tryz.underlying3
  a3 := Tryz.isAgg3
  z3 := Tryz.sizeOf3
  v3 := Tryz.zeroValue3
  t4 := Tryz.underlying4
  a4 := Tryz.isAgg4
  z4 := Tryz.sizeOf4
  v4 := Tryz.zeroValue4
  t5 := Tryz.underlying5
  a5 := Tryz.isAgg5
  z5 := Tryz.sizeOf5
  v5 := Tryz.zeroValue5
  t9 := Tryz.underlying9
  a9 := Tryz.isAgg9
  z9 := Tryz.sizeOf9
  v9 := Tryz.zeroValue9
  t46 := Tryz.underlying209
  a46 := Tryz.isAgg209
  z46 := Tryz.sizeOf209
  v46 := Tryz.zeroValue209
  t53 := Tryz.underlying46
  a53 := Tryz.isAgg46
  z53 := Tryz.sizeOf46
  v53 := Tryz.zeroValue46
  t212 := Tryz.underlying282
  a212 := Tryz.isAgg282
  z212 := Tryz.sizeOf282
  v212 := Tryz.zeroValue282
  g17 := by kernel_rfl
  i0 := by kernel_rfl
  i3 := by kernel_rfl
  i4 := by kernel_rfl
  i5 := by kernel_rfl
  i9 := by kernel_rfl
  i46 := by kernel_rfl
  i53 := by kernel_rfl
  i212 := by kernel_rfl
  m17 := by kernel_rfl }
open Go.Lib in
theorem Tryz.internal_strconv_numDigits (u : Nat) (h1 : 1 ≤ u) (h2 : u < 18446744073709551616) (w : World) (htab : Lib.TabIs Tryz.prog w "internal/strconv.uint64pow10" .u64 Lib.pow10Tab) :
    Calls Tryz.prog 169 #[.int .u64 u] w fun e w' => e = .returned (.int .i64 (Lib.nDigits u)) ∧ w' = w := Any.internal_strconv_numDigits Tryz.laysM284 u h1 h2 w htab
def Tryz.lays285_ren : Go.Shelf.Ren := ⟨fun | 285 => 170 | n => n, fun | 37 => 80 | 53 => 46 | 3 => 3 | 4 => 4 | 51 => 60 | 9 => 9 | 5 => 5 | 0 => 0 | n => n, fun | n => n⟩
theorem Tryz.lays285 : Go.Proofs.Lays.n285 Tryz.prog Tryz.lays285_ren := {
  mixed := by kernel_rfl
  f285 := Tryz.func170.trans (congrArg some (by kernel_rfl))
  t0 := Tryz.underlying0
  a0 := Tryz.isAgg0
  z0 := Tryz.sizeOf0
  v0 := Tryz.zeroValue0
  t3 := Tryz.underlying3
  a3 := Tryz.isAgg3
  z3 := Tryz.sizeOf3
  v3 := Tryz.zeroValue3
  t4 := Tryz.underlying4
  a4 := Tryz.isAgg4
  z4 := Tryz.sizeOf4
  v4 := Tryz.zeroValue4
  t5 := Tryz.underlying5
  a5 := Tryz.isAgg5
  z5 := Tryz.sizeOf5
  v5 := Tryz.zeroValue5
  t9 := Tryz.underlying9
  a9 := Tryz.isAgg9
  z9 := Tryz.sizeOf9
  v9 := Tryz.zeroValue9
  t37 := Tryz.underlying80
  a37 := Tryz.isAgg80
  z37 := Tryz.sizeOf80
  v37 := Tryz.zeroValue80
  t51 := Tryz.underlying60
  a51 := Tryz.isAgg60
  z51 := Tryz.sizeOf60
  v51 := Tryz.zeroValue60
  t53 := Tryz.underlying46
  a53 := Tryz.isAgg46
  z53 := Tryz.sizeOf46
  v53 := Tryz.zeroValue46 }
open Go.RowKit Go.Sort Go.Lib in
theorem Tryz.internal_strconv_formatBase10 (blk off cap : Nat) (u : Nat) (d : Array UInt8) (w : World) (hH : Holds (fun (b : UInt8) => Value.int .u8 (b.toNat : Int)) w blk off d) (hu : u < 10 ^ d.size) (hu64 : u < 18446744073709551616) (hsz : d.size < 4611686018427387904) :
    Calls Tryz.prog 170 #[.slice (some ⟨blk, off, none⟩) d.size cap, .int .u64 u] w fun e w' =>
      e = .returned (.tuple #[]) ∧ ∃ (n v' : Nat) (dk : Array UInt8), w' = (putRow (fun (b : UInt8) => Value.int .u8 (b.toNat : Int)) w blk off dk).drewN n ∧ FmtInv d.size u 0 v' dk := Any.internal_strconv_formatBase10 Tryz.lays285 blk off cap u d w hH hu hu64 hsz
def Tryz.laysPu14_ren : Go.Shelf.Ren := ⟨fun | 14 => 152 | 16 => 156 | 17 => 157 | 19 => 158 | 20 => 159 | 21 => 160 | 22 => 161 | 23 => 162 | 24 => 163 | 25 => 164 | 27 => 165 | 26 => 144 | 28 => 166 | 29 => 167 | 30 => 168 | 31 => 169 | 32 => 170 | 33 => 171 | 35 => 131 | 34 => 172 | 36 => 173 | 37 => 174 | 38 => 175 | 39 => 176 | 40 => 177 | n => n, fun | 9 => 9 | 3 => 3 | 22 => 46 | 24 => 166 | 25 => 257 | 4 => 4 | 34 => 267 | 5 => 5 | 36 => 209 | 37 => 80 | 0 => 0 | 39 => 269 | 21 => 21 | 44 => 273 | 47 => 275 | 50 => 262 | 48 => 260 | 2 => 2 | 52 => 277 | 55 => 279 | 59 => 282 | 60 => 60 | 20 => 20 | 61 => 283 | 65 => 285 | 66 => 286 | 67 => 129 | n => n, fun | 0 => 0 | 1 => 1 | 2 => 2 | 3 => 3 | 4 => 4 | n => n⟩
theorem Tryz.laysPu14 : Go.Proofs.LaysPu.n14 Tryz.prog Tryz.laysPu14_ren := {
  mixed := by kernel_rfl
  f14 := Tryz.func152.trans (congrArg some (by kernel_rfl))
  f16 := Tryz.func156.trans (congrArg some (by kernel_rfl))
  f17 := Tryz.func157.trans (congrArg some (by kernel_rfl))
  f19 := Tryz.func158.trans (congrArg some (by kernel_rfl))
  f20 := Tryz.func159.trans (congrArg some (by kernel_rfl))
  f21 := Tryz.func160.trans (congrArg some (by kernel_rfl))
  f22 := Tryz.func161.trans (congrArg some (by kernel_rfl))
  f23 := Tryz.func162.trans (congrArg some (by kernel_rfl))
  f24 := Tryz.func163.trans (congrArg some (by kernel_rfl))
  f25 := Tryz.func164.trans (congrArg some (by kernel_rfl))
  f26 := Tryz.func144.trans (congrArg some (by kernel_rfl))
  f27 := Tryz.func165.trans (congrArg some (by kernel_rfl))
  f28 := Tryz.func166.trans (congrArg some (by kernel_rfl))
  f29 := Tryz.func167.trans (congrArg some (by kernel_rfl))
  f30 := Tryz.func168.trans (congrArg some (by kernel_rfl))
  f31 := Tryz.func169.trans (congrArg some (by kernel_rfl))
  f32 := Tryz.func170.trans (congrArg some (by kernel_rfl))
  f33 := Tryz.func171.trans (congrArg some (by kernel_rfl))
  f34 := Tryz.func172.trans (congrArg some (by kernel_rfl))
  f35 := Tryz.func131.trans (congrArg some (by kernel_rfl))
  f36 := Tryz.func173.trans (congrArg some (by kernel_rfl))
  f37 := Tryz.func174.trans (congrArg some (by kernel_rfl))
  f38 := Tryz.func175.trans (congrArg some (by kernel_rfl))
  f39 := Tryz.func176.trans (congrArg some (by kernel_rfl))
  f40 := Tryz.func177.trans (congrArg some (by kernel_rfl))
  t0 := Tryz.underlying0
  a0 := Tryz.isAgg0
  z0 := Tryz.sizeOf0
  v0 := Tryz.zeroValue0
  i0 := by kernel_rfl
  t2 := Tryz.underlying2
  a2 := Tryz.isAgg2
  z2 := Tryz.sizeOf2
  v2 := Tryz.zeroValue2
  i2 := by kernel_rfl
  t3 := Tryz.underlying3
  a3 := Tryz.isAgg3
  z3 := Tryz.sizeOf3
  v3 := Tryz.zeroValue3
  i3 := by kernel_rfl
  t4 := Tryz.underlying4
  a4 := Tryz.isAgg4
  z4 := Tryz.sizeOf4
  v4 := Tryz.zeroValue4
  i4 := by kernel_rfl
  t5 := Tryz.underlying5
  a5 := Tryz.isAgg5
  z5 := Tryz.sizeOf5
  v5 := Tryz.zeroValue5
  i5 := by kernel_rfl
  t9 := Tryz.underlying9
  a9 := Tryz.isAgg9
  z9 := Tryz.sizeOf9
  v9 := Tryz.zeroValue9
  i9 := by kernel_rfl
  t20 := Tryz.underlying20
  a20 := Tryz.isAgg20
  z20 := Tryz.sizeOf20
  v20 := Tryz.zeroValue20
  i20 := by kernel_rfl
  t21 := Tryz.underlying21
  a21 := Tryz.isAgg21
  z21 := Tryz.sizeOf21
  v21 := Tryz.zeroValue21
  i21 := by kernel_rfl
  t22 := Tryz.underlying46
  a22 := Tryz.isAgg46
  z22 := Tryz.sizeOf46
  v22 := Tryz.zeroValue46
  i22 := by kernel_rfl
  t24 := Tryz.underlying166
  a24 := Tryz.isAgg166
  z24 := Tryz.sizeOf166
  v24 := Tryz.zeroValue166
  i24 := by kernel_rfl
  t25 := Tryz.underlying257
  a25 := Tryz.isAgg257
  z25 := Tryz.sizeOf257
  v25 := Tryz.zeroValue257
  i25 := by kernel_rfl
  t34 := Tryz.underlying267
  a34 := Tryz.isAgg267
  z34 := Tryz.sizeOf267
  v34 := Tryz.zeroValue267
  i34 := by kernel_rfl
  c34 := by kernel_rfl
  t36 := Tryz.underlying209
  a36 := Tryz.isAgg209
  z36 := Tryz.sizeOf209
  v36 := Tryz.zeroValue209
  i36 := by kernel_rfl
  t37 := Tryz.underlying80
  a37 := Tryz.isAgg80
  z37 := Tryz.sizeOf80
  v37 := Tryz.zeroValue80
  i37 := by kernel_rfl
  t39 := Tryz.underlying269
  a39 := Tryz.isAgg269
  z39 := Tryz.sizeOf269
  v39 := Tryz.zeroValue269
  i39 := by kernel_rfl
  t44 := Tryz.underlying273
  a44 := Tryz.isAgg273
  z44 := Tryz.sizeOf273
  v44 := Tryz.zeroValue273
  i44 := by kernel_rfl
  t47 := Tryz.underlying275
  a47 := Tryz.isAgg275
  z47 := Tryz.sizeOf275
  v47 := Tryz.zeroValue275
  i47 := by kernel_rfl
  t48 := Tryz.underlying260
  a48 := Tryz.isAgg260
  z48 := Tryz.sizeOf260
  v48 := Tryz.zeroValue260
  i48 := by kernel_rfl
  t50 := Tryz.underlying262
  a50 := Tryz.isAgg262
  z50 := Tryz.sizeOf262
  v50 := Tryz.zeroValue262
  i50 := by kernel_rfl
  t52 := Tryz.underlying277
  a52 := Tryz.isAgg277
  z52 := Tryz.sizeOf277
  v52 := Tryz.zeroValue277
  i52 := by kernel_rfl
  t55 := Tryz.underlying279
  a55 := Tryz.isAgg279
  z55 := Tryz.sizeOf279
  v55 := Tryz.zeroValue279
  i55 := by kernel_rfl
  t59 := Tryz.underlying282
  a59 := Tryz.isAgg282
  z59 := Tryz.sizeOf282
  v59 := Tryz.zeroValue282
  i59 := by kernel_rfl
  t60 := Tryz.underlying60
  a60 := Tryz.isAgg60
  z60 := Tryz.sizeOf60
  v60 := Tryz.zeroValue60
  i60 := by kernel_rfl
  t61 := Tryz.underlying283
  a61 := Tryz.isAgg283
  z61 := Tryz.sizeOf283
  t65 := Tryz.underlying285
  a65 := Tryz.isAgg285
  z65 := Tryz.sizeOf285
  v65 := Tryz.zeroValue285
  i65 := by kernel_rfl
  t66 := Tryz.underlying286
  a66 := Tryz.isAgg286
  z66 := Tryz.sizeOf286
  v66 := Tryz.zeroValue286
  i66 := by kernel_rfl
  t67 := Tryz.underlying129
  a67 := Tryz.isAgg129
  z67 := Tryz.sizeOf129
  v67 := Tryz.zeroValue129
  i67 := by kernel_rfl
  g0 := by kernel_rfl
  m0 := by kernel_rfl
  g1 := by kernel_rfl
  m1 := by kernel_rfl
  g2 := by kernel_rfl
  m2 := by kernel_rfl
  g3 := by kernel_rfl
  m3 := by kernel_rfl
  g4 := by kernel_rfl
  m4 := by kernel_rfl }
open Go.RowKit in
theorem Tryz.strconv_ParseUint_10_at64_ok (s : ByteArray) (hmax : s.size ≤ 9223372036854775806) (u : Nat) (h : Lib.parseUintB 64 s.data.toList = .ok u) (w : World) :
    Calls Tryz.prog 152 #[.string s, .int .i64 10, .int .i64 64] w fun e w' => e = .returned (.tuple #[.int .u64 u, .nilIface]) ∧ (w' = w ∨ w' = Lib.bytesWorld w 5 s) := Any.strconv_ParseUint_10_at64_ok Tryz.laysPu14 s hmax u h w
open Go.RowKit in
theorem Tryz.strconv_ParseUint_10_at64_syntax_var (s : ByteArray) (hlim : s.size ≤ 281474976710656) (h : Lib.parseUintB 64 s.data.toList = Lib.NumEnd.syntax) (tp : TypeId) (p : Value) (w : World) (hvar : w.var? Tryz.prog "strconv.ErrSyntax" = some #[.iface tp p]) :
    Calls Tryz.prog 152 #[.string s, .int .i64 10, .int .i64 64] w fun e w' => ∃ N, e = .returned (.tuple #[.int .u64 0, .iface 269 (.pointer (some ⟨N, 0, none⟩))]) ∧ w.heap.size ≤ N ∧ w'.heap[N]? = some (.cells #[.string ⟨#[80, 97, 114, 115, 101, 85, 105, 110, 116]⟩, .string s, .iface tp p] 273 (0, 0)) ∧ Below w.heap.size w w' := Any.strconv_ParseUint_10_at64_syntax_var Tryz.laysPu14 s hlim h tp p w hvar
open Go.RowKit in
theorem Tryz.strconv_ParseUint_10_at64_range_var (s : ByteArray) (hlim : s.size ≤ 281474976710656) (h : Lib.parseUintB 64 s.data.toList = .range) (tp : TypeId) (p : Value) (w : World) (hvar : w.var? Tryz.prog "strconv.ErrRange" = some #[.iface tp p]) :
    Calls Tryz.prog 152 #[.string s, .int .i64 10, .int .i64 64] w fun e w' => ∃ N, e = .returned (.tuple #[.int .u64 18446744073709551615, .iface 269 (.pointer (some ⟨N, 0, none⟩))]) ∧ w.heap.size ≤ N ∧ w'.heap[N]? = some (.cells #[.string ⟨#[80, 97, 114, 115, 101, 85, 105, 110, 116]⟩, .string s, .iface tp p] 273 (0, 0)) ∧ Below w.heap.size w w' := Any.strconv_ParseUint_10_at64_range_var Tryz.laysPu14 s hlim h tp p w hvar
end Go.Proofs
end
section
namespace Go.Proofs.YtgoeiflddikihaaGreatDoor.Ver
open Go.RowKit Go.Proofs.YtgoeiflddikihaaGreatDoor.Dig Go.Proofs.YtgoeiflddikihaaGreatDoorW.PrintWords
theorem new_any (s : ByteArray) (w : World) :
    Calls Tryz.prog 144 #[.string s] w fun e w' => e = .returned (.iface 260 (.pointer (some ⟨w.heap.size, 0, none⟩))) ∧ w' = w.alloc (.cells #[.string s] 262) := by
  go_enter Tryz.func144, Tryz.ntmps144
  go_wp2
  go_ret
  exact ⟨rfl, rfl⟩
def numOf (l : List UInt8) : Option (Nat × List UInt8) :=
  if digN l = 0 then none else match Lib.parseUintB 64 (l.take (digN l)) with
    | .ok u => some (u, l.drop (digN l))
    | _ => none
def goOn : List UInt8 → Bool
  | c :: _ => c == 46
  | [] => false
def nums : Nat → List Nat → List UInt8 → Option (List Nat × List UInt8)
  | 0, _, _ => none
  | m + 1, acc, l => match numOf l with
    | none => none
    | some (a, r) => if goOn r && decide (0 < m) then nums m (acc ++ [a]) (r.drop 1) else some (acc ++ [a], r)
def part (c : UInt8) : List UInt8 → Option (List UInt8 × List UInt8)
  | x :: r => if x = c then (if identN r = 0 then none else some (r.take (identN r), r.drop (identN r))) else some ([], x :: r)
  | [] => some ([], [])
def bare0 : List UInt8 → List UInt8
  | c :: r => if c = 118 then r else c :: r
  | [] => []
def readV (s : ByteArray) : Option (SV × Nat) :=
  match nums 3 [] (bare0 s.data.toList) with
  | none => none
  | some (ns, r) => match part 45 r with
    | none => none
    | some (pre, r1) => match part 43 r1 with
      | none => none
      | some (mt, r2) => if r2 = [] then some (⟨ns.getD 0 0, ns.getD 1 0, ns.getD 2 0, ⟨pre.toArray⟩, ⟨mt.toArray⟩, s⟩, ns.length) else none
abbrev zSV : Array Value := #[.int .u64 0, .int .u64 0, .int .u64 0, .string ⟨#[]⟩, .string ⟨#[]⟩, .string ⟨#[]⟩]
abbrev bSV (a b c : Int) (pre mt s : ByteArray) : Obj := .cells #[.int .u64 a, .int .u64 b, .int .u64 c, .string pre, .string mt, .string s] 197 (0, 0)
structure Own (w wx : World) (a b c : Int) (pre mt s : ByteArray) : Prop where
  bel : Below w.heap.size w wx
  res : wx.heap[w.heap.size]? = some (.cells zSV 197 (0, 0))
  ver : wx.heap[w.heap.size + 1 + 1]? = some (bSV a b c pre mt s)
theorem alloc_at (w : World) (o : Obj) : (w.alloc o).heap[w.heap.size]? = some o := by
  show (w.heap.push o)[w.heap.size]? = _
  simp
theorem alloc_size (w : World) (o : Obj) : (w.alloc o).heap.size = w.heap.size + 1 := by
  show (w.heap.push o).size = _
  simp
theorem own_start (w : World) (err : Obj) (s : ByteArray) : Own w (((w.alloc (.cells zSV 197)).alloc err).alloc (.cells #[.int .u64 0, .int .u64 0, .int .u64 0, .string ⟨#[]⟩, .string ⟨#[]⟩, .string s] 197)) 0 0 0 ⟨#[]⟩ ⟨#[]⟩ s := by
  have e1 := alloc_size w (.cells zSV 197)
  have e2 := alloc_size (w.alloc (.cells zSV 197)) err
  refine ⟨below_alloc (below_alloc (below_alloc (Below.refl _ _) _) _) _, ?_, ?_⟩
  · rw [Below.heap_alloc _ _ _ (by omega), Below.heap_alloc _ _ _ (by omega)]; exact alloc_at w _
  · rw [← e1, ← e2]; exact alloc_at _ _
theorem bare0_size (s : ByteArray) : (bare0 s.data.toList).length ≤ s.size := by
  have : s.data.toList.length = s.size := Array.length_toList
  cases h : s.data.toList with
  | nil => simp [bare0]
  | cons c r => rw [h] at this; simp only [bare0]; split <;> (simp at this ⊢; omega)
theorem bare0_v {s : ByteArray} (h : 0 < s.size) (hc : (s[0]).toNat = 118) : (s.extract 1 s.size).data.toList = bare0 s.data.toList := by
  have e := drop_at s 0 h
  rw [List.drop_zero] at e
  rw [e, bare0, if_pos (UInt8.toNat_inj.1 (by rw [hc]; rfl)), ByteArray.data_extract, Array.toList_extract]
  simp only [List.extract_eq_take_drop]
  rw [List.take_of_length_le (by rw [List.length_drop, Array.length_toList]; exact Nat.le_refl _)]
theorem bare0_not {s : ByteArray} (h : 0 < s.size) (hc : (s[0]).toNat ≠ 118) : s.data.toList = bare0 s.data.toList := by
  have e := drop_at s 0 h
  rw [List.drop_zero] at e
  rw [e, bare0, if_neg (fun e => hc (by rw [e]; rfl))]
theorem bare0_nil {s : ByteArray} (h : s.size = 0) : s.data.toList = bare0 s.data.toList := by
  have : s.data.toList = [] := List.length_eq_zero_iff.1 (by rw [Array.length_toList]; exact h)
  rw [this]; rfl
def begins (l : List UInt8) (c : Nat) : Bool := match l with
  | x :: _ => x.toNat == c
  | [] => false
theorem begins_nil {s : ByteArray} {c : Nat} (h : s.size = 0) : begins s.data.toList c = false := by
  have : s.data.toList = [] := List.length_eq_zero_iff.1 (by rw [Array.length_toList]; exact h)
  rw [this]; rfl
theorem begins_at {s : ByteArray} {c : Nat} (h : 0 < s.size) : begins s.data.toList c = ((s[0]).toNat == c) := by
  have e := drop_at s 0 h
  rw [List.drop_zero] at e
  rw [e]; rfl
theorem isEmpty_true {s : ByteArray} (h : s.size = 0) : s.toList.isEmpty = true := by
  have : s.data.toList = [] := List.length_eq_zero_iff.1 (by rw [Array.length_toList]; exact h)
  rw [ByteArray.toList_eq, this]; rfl
theorem isEmpty_false {s : ByteArray} (h : 0 < s.size) : s.toList.isEmpty = false := by
  have e := drop_at s 0 h
  rw [List.drop_zero] at e
  rw [ByteArray.toList_eq, e]; rfl
theorem begins_pos {s : ByteArray} {c : Nat} (h : begins s.data.toList c = true) : 0 < s.size := by
  rcases Nat.eq_zero_or_pos s.size with h0 | h0
  · rw [begins_nil h0] at h; cases h
  · exact h0
theorem begins_one {s : ByteArray} {c : Nat} (h : begins s.data.toList c = true) (h0 : 0 < s.size) : (s[0]).toNat = c := by
  rw [begins_at h0] at h
  exact beq_iff_eq.1 h
theorem bare0_of_not {s : ByteArray} (h : begins s.data.toList 118 = false) : s.data.toList = bare0 s.data.toList := by
  rcases Nat.eq_zero_or_pos s.size with h0 | h0
  · exact bare0_nil h0
  · rw [begins_at h0] at h
    exact bare0_not h0 (beq_eq_false_iff_ne.1 h)
theorem cast_beq (a b : Nat) : ((a : Int) == (b : Int)) = (a == b) := by
  by_cases h : a = b
  · simp [h]
  · rw [beq_eq_false_iff_ne.2 h, beq_eq_false_iff_ne]; omega
def ReadEnd (s : ByteArray) (w : World) (e : Ending) (w' : World) : Prop :=
  Below w.heap.size w w' ∧ match readV s with
    | none => ∃ a, e = .returned (.tuple #[.agg zSV, .int .i64 0, .iface 260 (.pointer (some a))])
    | some (v, k) => e = .returned (.tuple #[.agg v.cells, .int .i64 (k : Int), .nilIface])
theorem readEnd_bad {s : ByteArray} {w w' : World} {a : Addr} (h : readV s = none) (hb : Below w.heap.size w w') : ReadEnd s w (.returned (.tuple #[.agg zSV, .int .i64 0, .iface 260 (.pointer (some a))])) w' := by
  refine ⟨hb, ?_⟩
  rw [h]; exact ⟨a, rfl⟩
theorem readV_none {s : ByteArray} (h : nums 3 [] (bare0 s.data.toList) = none) : readV s = none := by unfold readV; rw [h]
theorem digN_le : ∀ l : List UInt8, digN l ≤ l.length
  | [] => Nat.le_refl _
  | c :: r => by simp only [digN]; split <;> simp [digN_le r]
theorem digN_step {s : ByteArray} {i : Nat} (h : i < s.size) : digN (s.data.toList.drop i) = if 48 ≤ (s[i]).toNat ∧ (s[i]).toNat ≤ 57 then digN (s.data.toList.drop (i + 1)) + 1 else 0 := by
  rw [drop_at s i h, digN]
  simp only [isDig, Bool.and_eq_true, decide_eq_true_eq]
theorem digN_end {s : ByteArray} {i : Nat} (h : ¬ i < s.size) : digN (s.data.toList.drop i) = 0 := by
  rw [List.drop_eq_nil_of_le (by rw [Array.length_toList]; exact Nat.not_lt.1 h)]
  rfl
theorem take_data (s : ByteArray) (n : Nat) : (s.extract 0 n).data.toList = s.data.toList.take n := by
  rw [ByteArray.data_extract, Array.toList_extract]
  simp only [List.extract_eq_take_drop]
  simp
theorem drop_data (s : ByteArray) (n : Nat) : (s.extract n s.size).data.toList = s.data.toList.drop n := by
  rw [ByteArray.data_extract, Array.toList_extract]
  simp only [List.extract_eq_take_drop]
  rw [List.take_of_length_le (by rw [List.length_drop, Array.length_toList]; exact Nat.le_refl _)]
theorem uint_any (s : ByteArray) (hs : s.size ≤ 2147483647) (w : World) (hv : Vars w) : Calls Tryz.prog 152 #[.string s, .int .i64 10, .int .i64 64] w fun e w' => ∃ (n : Int) (err : Value), e = .returned (.tuple #[.int .u64 n, err]) ∧ Below w.heap.size w w' ∧
    ((∃ u : Nat, n = u ∧ Lib.parseUintB 64 s.data.toList = .ok u ∧ err = .nilIface) ∨ ((∀ u, Lib.parseUintB 64 s.data.toList ≠ .ok u) ∧ ∃ t a, err = .iface t (.pointer (some a)))) := by
  obtain ⟨⟨t1, p1, h1⟩, ⟨t2, p2, h2⟩, h3⟩ := hv
  rcases h : Lib.parseUintB 64 s.data.toList with v | _ | _
  · refine (Tryz.strconv_ParseUint_10_at64_ok s (by omega) v h w).mono ?_
    rintro e w' ⟨rfl, hw⟩
    refine ⟨v, .nilIface, rfl, ?_, .inl ⟨v, rfl, rfl, rfl⟩⟩
    rcases hw with rfl | rfl
    · exact Below.refl _ _
    · exact Lib.bytesWorld_below _ _ _
  · refine (Tryz.strconv_ParseUint_10_at64_syntax_var s (by omega) h t1 p1 w h1).mono ?_
    rintro e w' ⟨N, rfl, _, _, hb⟩
    exact ⟨_, _, rfl, hb, .inr ⟨(fun u e => by cases e), _, _, rfl⟩⟩
  · refine (Tryz.strconv_ParseUint_10_at64_range_var s (by omega) h t2 p2 w h2).mono ?_
    rintro e w' ⟨N, rfl, _, _, hb⟩
    exact ⟨_, _, rfl, hb, .inr ⟨(fun u e => by cases e), _, _, rfl⟩⟩
theorem Own.below {w wx wy : World} {a b c : Int} {pre mt s : ByteArray} (h : Own w wx a b c pre mt s) (hb : Below wx.heap.size wx wy) : Own w wy a b c pre mt s :=
  ⟨below_step h.bel hb, blk_below h.res hb, blk_below h.ver hb⟩
theorem Own.drewN {w wx : World} {a b c : Int} {pre mt s : ByteArray} (h : Own w wx a b c pre mt s) (n : Nat) : Own w (wx.drewN n) a b c pre mt s := h.below (pw_below_drewN (Below.refl _ _) n)
theorem back_bytes (b : ByteArray) : (⟨b.data.toList.toArray⟩ : ByteArray) = b := by apply ByteArray.ext; simp
theorem own_ne (w : World) : w.heap.size ≠ w.heap.size + 1 + 1 := by omega
theorem Own.put0 {w wx : World} {a b c : Int} {pre mt s : ByteArray} (h : Own w wx a b c pre mt s) (u : Int) : Own w (wx.setCell ⟨w.heap.size + 1 + 1, 0, none⟩ (.int .u64 u)) u b c pre mt s :=
  ⟨h.bel.setCell (by simp; omega) _, blk_far h.res (own_ne w) _, blk_put h.ver 0 _ rfl⟩
theorem Own.put1 {w wx : World} {a b c : Int} {pre mt s : ByteArray} (h : Own w wx a b c pre mt s) (u : Int) : Own w (wx.setCell ⟨w.heap.size + 1 + 1, 1, none⟩ (.int .u64 u)) a u c pre mt s :=
  ⟨h.bel.setCell (by simp; omega) _, blk_far h.res (own_ne w) _, blk_put h.ver 1 _ rfl⟩
theorem Own.put2 {w wx : World} {a b c : Int} {pre mt s : ByteArray} (h : Own w wx a b c pre mt s) (u : Int) : Own w (wx.setCell ⟨w.heap.size + 1 + 1, 2, none⟩ (.int .u64 u)) a b u pre mt s :=
  ⟨h.bel.setCell (by simp; omega) _, blk_far h.res (own_ne w) _, blk_put h.ver 2 _ rfl⟩
theorem Own.put3 {w wx : World} {a b c : Int} {pre mt s : ByteArray} (h : Own w wx a b c pre mt s) (u : ByteArray) : Own w (wx.setCell ⟨w.heap.size + 1 + 1, 3, none⟩ (.string u)) a b c u mt s :=
  ⟨h.bel.setCell (by simp; omega) _, blk_far h.res (own_ne w) _, blk_put h.ver 3 _ rfl⟩
theorem Own.put4 {w wx : World} {a b c : Int} {pre mt s : ByteArray} (h : Own w wx a b c pre mt s) (u : ByteArray) : Own w (wx.setCell ⟨w.heap.size + 1 + 1, 4, none⟩ (.string u)) a b c pre u s :=
  ⟨h.bel.setCell (by simp; omega) _, blk_far h.res (own_ne w) _, blk_put h.ver 4 _ rfl⟩
theorem cut_from (s : ByteArray) (n : Nat) (h : n ≤ s.size) (W : World) : (Instr.slice 9 (.string s) (some (.int .i64 (n : Int))) none none).run Tryz.prog W = .ok (.string (s.extract n s.size)) W := by
  rw [run_slice_string_from_if W 9 s .i64 (n : Int) Tryz.underlying9]
  rw [if_pos (by omega)]
  simp
theorem three_of {acc : List Nat} (h : acc.length ≤ 2) : acc = [] ∨ (∃ a, acc = [a]) ∨ ∃ a b, acc = [a, b] := by
  match acc, h with
  | [], _ => exact .inl rfl
  | [a], _ => exact .inr (.inl ⟨a, rfl⟩)
  | [a, b], _ => exact .inr (.inr ⟨a, b, rfl⟩)
theorem cut_mid (s : ByteArray) (i j : Nat) (h : i ≤ j) (h2 : j ≤ s.size) (W : World) : (Instr.slice 9 (.string s) (some (.int .i64 (i : Int))) (some (.int .i64 (j : Int))) none).run Tryz.prog W = .ok (.string (s.extract i j)) W := by
  rw [run_slice_string W 9 s .i64 .i64 _ _ Tryz.underlying9 (by omega) (by omega) (by omega)]
  simp
theorem ident_size (s : ByteArray) : identN s.data.toList ≤ s.size := by
  have h := identN_le s.data.toList
  have e : s.data.toList.length = s.size := Array.length_toList
  omega
theorem part_not {s : ByteArray} {c : UInt8} (h : begins s.data.toList c.toNat = false) : part c s.data.toList = some ([], s.data.toList) := by
  cases e : s.data.toList with
  | nil => rfl
  | cons x r =>
    rw [e] at h
    rw [part, if_neg (fun hx => by rw [hx] at h; simp [begins] at h)]
theorem begins_list {s : ByteArray} {c : UInt8} (h : begins s.data.toList c.toNat = true) : s.data.toList = c :: s.data.toList.drop 1 := by
  have h0 := begins_pos h
  have e := drop_at s 0 h0
  rw [List.drop_zero] at e
  conv => lhs; rw [e]
  rw [UInt8.toNat_inj.1 (begins_one h h0)]
theorem part_bad {s : ByteArray} {c : UInt8} (h : begins s.data.toList c.toNat = true) (hn : identN (s.extract 1 s.size).data.toList = 0) : part c s.data.toList = none := by
  rw [drop_data] at hn
  rw [begins_list h, part, if_pos rfl, if_pos hn]
theorem part_is {s : ByteArray} {c : UInt8} (h : begins s.data.toList c.toNat = true) (hn : identN (s.extract 1 s.size).data.toList ≠ 0) :
    part c s.data.toList = some ((s.extract 1 (1 + identN (s.extract 1 s.size).data.toList)).data.toList, (s.extract (1 + identN (s.extract 1 s.size).data.toList) s.size).data.toList) := by
  rw [drop_data] at hn
  rw [drop_data, drop_data]
  have e1 : ∀ n, (s.extract 1 (1 + n)).data.toList = (s.data.toList.drop 1).take n := by
    intro n
    rw [ByteArray.data_extract, Array.toList_extract]
    simp only [List.extract_eq_take_drop]
    rw [show 1 + n - 1 = n by omega]
  rw [e1, ← List.drop_drop]
  have e := begins_list h
  generalize s.data.toList.drop 1 = q at *
  rw [e, part, if_pos rfl, if_neg hn]
theorem readV_pre {s : ByteArray} {ns : List Nat} {r : List UInt8} (h : nums 3 [] (bare0 s.data.toList) = some (ns, r)) (h2 : part 45 r = none) : readV s = none := by unfold readV; rw [h]; simp only; rw [h2]
theorem readV_mt {s : ByteArray} {ns : List Nat} {r pre r1 : List UInt8} (h : nums 3 [] (bare0 s.data.toList) = some (ns, r)) (h2 : part 45 r = some (pre, r1)) (h3 : part 43 r1 = none) : readV s = none := by unfold readV; rw [h]; simp only; rw [h2]; simp only; rw [h3]
theorem readV_rest {s : ByteArray} {ns : List Nat} {r pre r1 mt r2 : List UInt8} (h : nums 3 [] (bare0 s.data.toList) = some (ns, r)) (h2 : part 45 r = some (pre, r1)) (h3 : part 43 r1 = some (mt, r2)) (h4 : r2 ≠ []) : readV s = none := by
  unfold readV; rw [h]; simp only; rw [h2]; simp only; rw [h3]; simp only; rw [if_neg h4]
theorem readV_ok {s : ByteArray} {ns : List Nat} {r pre r1 mt r2 : List UInt8} (h : nums 3 [] (bare0 s.data.toList) = some (ns, r)) (h2 : part 45 r = some (pre, r1)) (h3 : part 43 r1 = some (mt, r2)) (h4 : r2 = []) :
    readV s = some (⟨(ns.getD 0 0 : Nat), (ns.getD 1 0 : Nat), (ns.getD 2 0 : Nat), ⟨pre.toArray⟩, ⟨mt.toArray⟩, s⟩, ns.length) := by
  unfold readV; rw [h]; simp only; rw [h2]; simp only; rw [h3]; simp only; rw [if_pos h4]
theorem list_nil {s : ByteArray} (h : s.size = 0) : s.data.toList = [] := List.length_eq_zero_iff.1 (by rw [Array.length_toList]; exact h)
theorem list_some {s : ByteArray} (h : 0 < s.size) : s.data.toList ≠ [] := fun e => by
  have h1 : s.data.toList.length = s.size := Array.length_toList
  rw [e, List.length_nil] at h1
  omega
theorem readEnd_good {s : ByteArray} {w w' : World} {v : SV} {k : Nat} (h : readV s = some (v, k)) (hb : Below w.heap.size w w') : ReadEnd s w (.returned (.tuple #[.agg v.cells, .int .i64 (k : Int), .nilIface])) w' := by
  refine ⟨hb, ?_⟩
  rw [h]
theorem numOf_zero {l : List UInt8} (h : digN l = 0) : numOf l = none := by unfold numOf; rw [if_pos h]
theorem numOf_bad {l : List UInt8} (h : ∀ u, Lib.parseUintB 64 (l.take (digN l)) ≠ .ok u) : numOf l = none := by
  unfold numOf
  split
  · rfl
  · split
    · rename_i u hu; exact absurd hu (h u)
    · rfl
theorem numOf_ok {l : List UInt8} {u : Nat} (h0 : digN l ≠ 0) (h : Lib.parseUintB 64 (l.take (digN l)) = .ok u) : numOf l = some (u, l.drop (digN l)) := by
  unfold numOf
  rw [if_neg h0, h]
theorem nums_none {m : Nat} {acc : List Nat} {l : List UInt8} (h : numOf l = none) : nums (m + 1) acc l = none := by rw [nums, h]
theorem nums_stop {m : Nat} {acc : List Nat} {l r : List UInt8} {u : Nat} (h : numOf l = some (u, r)) (hs : goOn r = false ∨ m = 0) : nums (m + 1) acc l = some (acc ++ [u], r) := by
  rw [nums, h]
  rcases hs with hs | hs
  · simp [hs]
  · simp [hs]
theorem nums_on {m : Nat} {acc : List Nat} {l r : List UInt8} {u : Nat} (h : numOf l = some (u, r)) (hs : goOn r = true) (hm : 0 < m) : nums (m + 1) acc l = nums m (acc ++ [u]) (r.drop 1) := by
  rw [nums, h]
  simp [hs, hm]
theorem goOn_begins (l : List UInt8) : goOn l = begins l 46 := by
  cases l with
  | nil => rfl
  | cons c r =>
    simp only [goOn, begins]
    by_cases h : c = 46
    · subst h; rfl
    · rw [beq_eq_false_iff_ne.2 h, beq_eq_false_iff_ne.2 (fun e => h (UInt8.toNat_inj.1 (by rw [e]; rfl)))]
set_option maxRecDepth 20000 in
set_option maxHeartbeats 4000000 in
theorem read_any (s : ByteArray) (hs : s.size ≤ 2147483647) (w : World) (hv : Vars w) : Calls Tryz.prog 143 #[.string s] w (ReadEnd s w) := by
  go_enter Tryz.func143, Tryz.ntmps143
  go_upto_region 3 with (go_at_call 144; ((with_reducible refine (new_any _ _).mono ?_); rintro e w1 ⟨rfl, rfl⟩))
  go_cut [26] from 20 to 26 (fun v26 wx => v26 = .bool (begins s.data.toList 118) ∧ Aside0 (Own w wx 0 0 0 ⟨#[]⟩ ⟨#[]⟩ s))
  case first =>
    rcases Nat.eq_zero_or_pos s.size with h0 | h0
    · have hem := isEmpty_true h0
      have hbg := begins_nil (c := 118) h0
      go_wp2_with fail
      go_meet
      case rel => exact ⟨by rw [hbg], ⟨own_start w _ s⟩⟩
    · have hem := isEmpty_false h0
      have hbg := begins_at (c := 118) h0
      rw [← cast_beq] at hbg
      have HBG := Lib.hid hbg
      clear hbg
      go_wp2_with fail
      go_meet
      case rel => exact ⟨by rw [HBG.out]; rfl, ⟨own_start w _ s⟩⟩
  case rest =>
    obtain ⟨rfl, HO⟩ := hcut
    go_upto_if 26 with fail
    go_cut [7] from 26 to 28 (fun v7 wx => ∃ r : ByteArray, v7 = .string r ∧ r.size ≤ 2147483647 ∧ r.data.toList = bare0 s.data.toList ∧ Aside0 (Own w wx 0 0 0 ⟨#[]⟩ ⟨#[]⟩ s))
    case first =>
      cases hq : begins s.data.toList 118 with
      | false =>
        go_wp2_with fail
        go_meet
        case rel => exact ⟨s, rfl, hs, bare0_of_not hq, HO⟩
      | true =>
        have h0 := begins_pos hq
        go_wp2_with fail
        go_meet
        case rel => exact ⟨_, rfl, by simp only [ByteArray.size_extract]; omega, bare0_v h0 (begins_one hq h0), HO⟩
    case rest =>
      obtain ⟨r, rfl, hr, hrl, HO⟩ := hcut
      have HRL := Lib.hid hrl
      have HNE := Lib.hid (show wc.heap.size ≠ w.heap.size + 1 + 1 from Nat.ne_of_gt (blk_lt HO.out.ver))
      have HV := Lib.hid hv
      clear hrl hv
      go_upto_block 0 with fail
      go_cut [7, 8, 10, 11, 12, 13] from 34 to 92 (fun v7 v8 _ _ _ _ wx => ∃ (r1 : ByteArray) (ns : List Nat), v7 = .string r1 ∧ v8 = .int .i64 (ns.length : Int) ∧ r1.size ≤ 2147483647 ∧ Aside0 (nums 3 [] r.data.toList = some (ns, r1.data.toList)) ∧ Aside0 (Own w wx (ns.getD 0 0 : Nat) (ns.getD 1 0 : Nat) (ns.getD 2 0 : Nat) ⟨#[]⟩ ⟨#[]⟩ s))
      case first =>
        go_wp2_with fail
        go_loopw [7, 8, 34] (fun v7 v8 v34 wr => ∃ (r1 : ByteArray) (acc : List Nat), v7 = .string r1 ∧ v8 = .int .i64 (acc.length : Int) ∧ v34 = .int .i64 (acc.length : Int) ∧ acc.length ≤ 2 ∧ r1.size ≤ 2147483647 ∧ Aside0 (nums (3 - acc.length) acc r1.data.toList = nums 3 [] r.data.toList) ∧ Aside0 (Own w wr (acc.getD 0 0 : Nat) (acc.getD 1 0 : Nat) (acc.getD 2 0 : Nat) ⟨#[]⟩ ⟨#[]⟩ s) ∧ Aside0 (wr.heap[wc.heap.size]? = some (.cells #[.pointer (some ⟨w.heap.size + 1 + 1, 0, none⟩), .pointer (some ⟨w.heap.size + 1 + 1, 1, none⟩), .pointer (some ⟨w.heap.size + 1 + 1, 2, none⟩)] 255 (0, 0)))) (fun _ _ v34 _ => 3 - (intOf v34).toNat)
        case atStart => exact ⟨r, [], rfl, rfl, rfl, by simp, hr, ⟨rfl⟩, ⟨HO.out.below (below_alloc (Below.refl _ _) _)⟩, ⟨alloc_at _ _⟩⟩
        case round =>
          clear HO
          obtain ⟨r1, acc, rfl, hv8, hv34, hk, hr1, HN, HO, HP⟩ := hrel
          have hacc : acc = [] ∨ (∃ a, acc = [a]) ∨ ∃ a b, acc = [a, b] := three_of hk
          clear hk
          rcases hacc with rfl | ⟨a, rfl⟩ | ⟨a, b, rfl⟩ <;> simp only [List.length_nil, List.length_cons] at hv8 hv34
          all_goals
            subst hv8 hv34
          · -- number 0
            have hp := blk_cell HP.out 0
            go_upto_block 2 with fail
            go_cut [11] from 38 to 55 (fun v11 wx => v11 = .int .i64 ((digN r1.data.toList : Nat) : Int) ∧ Aside0 (Own w wx ([].getD 0 0 : Nat) ([].getD 1 0 : Nat) ([].getD 2 0 : Nat) ⟨#[]⟩ ⟨#[]⟩ s) ∧ Aside0 (wx.heap[wc.heap.size]? = some (.cells #[.pointer (some ⟨w.heap.size + 1 + 1, 0, none⟩), .pointer (some ⟨w.heap.size + 1 + 1, 1, none⟩), .pointer (some ⟨w.heap.size + 1 + 1, 2, none⟩)] 255 (0, 0))))
            case first =>
              clear hp
              go_wp2_with fail
              go_loopw [11] (fun v11 wr2 => ∃ i : Nat, v11 = .int .i64 (i : Int) ∧ i ≤ r1.size ∧ Aside0 (digN r1.data.toList = i + digN (r1.data.toList.drop i)) ∧ Aside0 (Own w wr2 ([].getD 0 0 : Nat) ([].getD 1 0 : Nat) ([].getD 2 0 : Nat) ⟨#[]⟩ ⟨#[]⟩ s) ∧ Aside0 (wr2.heap[wc.heap.size]? = some (.cells #[.pointer (some ⟨w.heap.size + 1 + 1, 0, none⟩), .pointer (some ⟨w.heap.size + 1 + 1, 1, none⟩), .pointer (some ⟨w.heap.size + 1 + 1, 2, none⟩)] 255 (0, 0)))) (fun v11 _ => r1.size - (intOf v11).toNat)
              case atStart => exact ⟨0, rfl, by omega, ⟨by simp⟩, HO, HP⟩
              case round =>
                obtain ⟨i, rfl, hi, HD, HO, HP⟩ := hrel
                by_cases hlt : i < r1.size
                · have HS := Lib.hid (digN_step hlt)
                  by_cases q1 : 48 ≤ (r1[i]).toNat
                  · by_cases q2 : (r1[i]).toNat ≤ 57
                    · have q3 : decide ((48 : Int) ≤ ((r1[i]).toNat : Int)) = true := decide_eq_true (by omega)
                      have q4 : decide (((r1[i]).toNat : Int) ≤ 57) = true := decide_eq_true (by omega)
                      have HD2 := Aside0.mk (show digN r1.data.toList = (i + 1) + digN (r1.data.toList.drop (i + 1)) by rw [HD.out, HS.out, if_pos ⟨q1, q2⟩]; omega)
                      clear q1 q2
                      go_wp2_with fail
                      go_roundw
                      case rel => exact ⟨i + 1, by simp, by omega, HD2, HO, HP⟩
                      case measure => simp [intOf]; omega
                    · have q3 : decide ((48 : Int) ≤ ((r1[i]).toNat : Int)) = true := decide_eq_true (by omega)
                      have q4 : decide (((r1[i]).toNat : Int) ≤ 57) = false := decide_eq_false (by omega)
                      have HE := Aside0.mk (show digN r1.data.toList = i by rw [HD.out, HS.out, if_neg (fun h => q2 h.2)]; omega)
                      clear q1 q2
                      go_wp2_with fail
                      go_meet
                      case rel => exact ⟨by rw [HE.out], HO, HP⟩
                  · have q3 : decide ((48 : Int) ≤ ((r1[i]).toNat : Int)) = false := decide_eq_false (by omega)
                    have HE := Aside0.mk (show digN r1.data.toList = i by rw [HD.out, HS.out, if_neg (fun h => q1 h.1)]; omega)
                    clear q1
                    go_wp2_with fail
                    go_meet
                    case rel => exact ⟨by rw [HE.out], HO, HP⟩
                · have HE := Aside0.mk (show digN r1.data.toList = i by rw [HD.out, digN_end hlt]; omega)
                  go_wp2_with fail
                  go_meet
                  case rel => exact ⟨by rw [HE.out], HO, HP⟩
            case rest =>
              clear hp HO HP
              obtain ⟨rfl, HO, HP⟩ := hcut
              have hnl := digN_le r1.data.toList
              have hnl2 : digN r1.data.toList ≤ r1.size := by
                have e : r1.data.toList.length = r1.size := Array.length_toList
                omega
              clear hnl
              by_cases hn0 : digN r1.data.toList = 0
              · have HBAD := Lib.hid (readV_none (s := s) (by rw [← HRL.out, ← HN.out]; exact nums_none (m := 2) (numOf_zero hn0)))
                have q0 : (((digN r1.data.toList : Nat) : Int) == 0) = true := by rw [hn0]; rfl
                clear hn0
                generalize digN r1.data.toList = n at *
                have r0 := blk_cell (HO.out).res 0
                have t0 := blk_frozen (HO.out).res 0
                have r1 := blk_cell (HO.out).res 1
                have t1 := blk_frozen (HO.out).res 1
                have r2 := blk_cell (HO.out).res 2
                have t2 := blk_frozen (HO.out).res 2
                have r3 := blk_cell (HO.out).res 3
                have t3 := blk_frozen (HO.out).res 3
                have r4 := blk_cell (HO.out).res 4
                have t4 := blk_frozen (HO.out).res 4
                have r5 := blk_cell (HO.out).res 5
                have t5 := blk_frozen (HO.out).res 5
                go_wp2_with fail
                refine bodyPost_ret (v := .tuple #[.agg zSV, .int .i64 0, .iface 260 (.pointer (some ⟨w.heap.size + 1, 0, none⟩))]) (by simp [results, Tryz.results143, go_sem, *]) rfl (readEnd_bad HBAD.out ?_)
                exact ((((((HO.out.bel).setCell (Nat.le_refl _) _).setCell (Nat.le_refl _) _).setCell (Nat.le_refl _) _).setCell (Nat.le_refl _) _).setCell (Nat.le_refl _) _).setCell (Nat.le_refl _) _
              · have q0 : (((digN r1.data.toList : Nat) : Int) == 0) = false := by rw [beq_eq_false_iff_ne]; omega
                have HU := Lib.hid (fun (u : Nat) (h : Lib.parseUintB 64 (r1.extract 0 (digN r1.data.toList)).data.toList = .ok u) => numOf_ok (l := r1.data.toList) hn0 (by rw [take_data] at h; exact h))
                have HW := Lib.hid (fun (h : ∀ u : Nat, Lib.parseUintB 64 (r1.extract 0 (digN r1.data.toList)).data.toList ≠ .ok u) => numOf_bad (l := r1.data.toList) (by rw [take_data] at h; exact h))
                have HDD := Lib.hid (drop_data r1 (digN r1.data.toList))
                have hcut := cut_from r1 (digN r1.data.toList) hnl2
                have CU := Lib.hid (uint_any (r1.extract 0 (digN r1.data.toList)) (by simp only [ByteArray.size_extract]; omega) wc (HV.out.below HO.out.bel))
                clear hn0
                have hms : (r1.extract (digN r1.data.toList) r1.size).size ≤ 2147483647 := by simp only [ByteArray.size_extract]; omega
                generalize digN r1.data.toList = n at *
                go_wp2_with (first | (go_at_call 152; ((with_reducible refine CU.out.mono ?_); rintro e w5 ⟨nn, err, rfl, hb, hor⟩; refine Hid.out ?_)))
                have HO5 := Aside0.mk (HO.out.below hb)
                have HP5 := Aside0.mk (blk_below HP.out hb)
                have HOR := Lib.hid hor
                clear hb hor CU
                rcases HOR.out with ⟨u, rfl, hu, rfl⟩ | ⟨hno, tt, ad, rfl⟩
                · have HNU := Lib.hid (HU.out u hu)
                  clear hu HOR HU HW
                  have x0 := blk_cell HO5.out.ver 0
                  have y0 := blk_frozen HO5.out.ver 0
                  have HO6 := Aside0.mk (HO5.out.put0 (u : Int))
                  have HP6 := Aside0.mk (blk_far HP5.out (p := ⟨w.heap.size + 1 + 1, 0, none⟩) HNE.out (.int .u64 (u : Int)))
                  generalize r1.extract n r1.size = m at *
                  have HMS := Lib.hid hms
                  clear hnl2
                  rcases Nat.eq_zero_or_pos m.size with hm0 | hm0
                  · have hem := isEmpty_true hm0
                    have HR := Aside0.mk (show nums 3 [] r.data.toList = some ([u], m.data.toList) by rw [← HN.out]; exact nums_stop (m := 2) (by rw [HNU.out, ← HDD.out]) (.inl (by rw [goOn_begins, begins_nil hm0])))
                    clear HP5 HP6
                    refine Lib.hid ?_
                    go_wp2_with fail
                    go_meet
                    case rel => exact ⟨m, [u], rfl, by simp, HMS.out, HR, HO6⟩
                  · have hem := isEmpty_false hm0
                    have hbg := begins_at (c := 46) hm0
                    by_cases hq : (m[0]).toNat = 46
                    · have qn : (((m[0]).toNat : Int) != 46) = false := by rw [bne_eq_false_iff_eq]; omega
                      have HR := Aside0.mk (show nums 2 [u] (m.extract 1 m.size).data.toList = nums 3 [] r.data.toList by rw [← HN.out, drop_data]; exact (nums_on (acc := []) (m := 2) (by rw [HNU.out, ← HDD.out]) (by rw [goOn_begins, hbg, hq]; rfl) (by omega)).symm)
                      clear HP5 hq hbg
                      refine Lib.hid ?_
                      go_wp2_with fail
                      go_roundw
                      case rel => exact ⟨_, [u], rfl, by simp, by simp, by simp, by simp only [ByteArray.size_extract]; omega, HR, HO6, HP6⟩
                      case measure => simp [intOf]
                    · have qn : (((m[0]).toNat : Int) != 46) = true := by rw [bne_iff_ne]; omega
                      have HR := Aside0.mk (show nums 3 [] r.data.toList = some ([u], m.data.toList) by rw [← HN.out]; exact nums_stop (m := 2) (by rw [HNU.out, ← HDD.out]) (.inl (by rw [goOn_begins, hbg]; exact beq_eq_false_iff_ne.2 hq)))
                      clear HP5 HP6 hq hbg
                      refine Lib.hid ?_
                      go_wp2_with fail
                      go_meet
                      case rel => exact ⟨m, [u], rfl, by simp, HMS.out, HR, HO6⟩
                · have HBAD := Lib.hid (readV_none (s := s) (by rw [← HRL.out, ← HN.out]; exact nums_none (m := 2) (HW.out hno)))
                  clear hno HOR HU HW
                  have r0 := blk_cell (HO5.out).res 0
                  have t0 := blk_frozen (HO5.out).res 0
                  have r1 := blk_cell (HO5.out).res 1
                  have t1 := blk_frozen (HO5.out).res 1
                  have r2 := blk_cell (HO5.out).res 2
                  have t2 := blk_frozen (HO5.out).res 2
                  have r3 := blk_cell (HO5.out).res 3
                  have t3 := blk_frozen (HO5.out).res 3
                  have r4 := blk_cell (HO5.out).res 4
                  have t4 := blk_frozen (HO5.out).res 4
                  have r5 := blk_cell (HO5.out).res 5
                  have t5 := blk_frozen (HO5.out).res 5
                  refine Lib.hid ?_
                  go_wp2_with fail
                  refine bodyPost_ret (v := .tuple #[.agg zSV, .int .i64 0, .iface 260 (.pointer (some ⟨w.heap.size + 1, 0, none⟩))]) (by simp [results, Tryz.results143, go_sem, *]) rfl (readEnd_bad HBAD.out ?_)
                  exact ((((((HO5.out.bel).setCell (Nat.le_refl _) _).setCell (Nat.le_refl _) _).setCell (Nat.le_refl _) _).setCell (Nat.le_refl _) _).setCell (Nat.le_refl _) _).setCell (Nat.le_refl _) _
          · -- number 1
            have hp := blk_cell HP.out 1
            go_upto_block 2 with fail
            go_cut [11] from 38 to 55 (fun v11 wx => v11 = .int .i64 ((digN r1.data.toList : Nat) : Int) ∧ Aside0 (Own w wx ([a].getD 0 0 : Nat) ([a].getD 1 0 : Nat) ([a].getD 2 0 : Nat) ⟨#[]⟩ ⟨#[]⟩ s) ∧ Aside0 (wx.heap[wc.heap.size]? = some (.cells #[.pointer (some ⟨w.heap.size + 1 + 1, 0, none⟩), .pointer (some ⟨w.heap.size + 1 + 1, 1, none⟩), .pointer (some ⟨w.heap.size + 1 + 1, 2, none⟩)] 255 (0, 0))))
            case first =>
              clear hp
              go_wp2_with fail
              go_loopw [11] (fun v11 wr2 => ∃ i : Nat, v11 = .int .i64 (i : Int) ∧ i ≤ r1.size ∧ Aside0 (digN r1.data.toList = i + digN (r1.data.toList.drop i)) ∧ Aside0 (Own w wr2 ([a].getD 0 0 : Nat) ([a].getD 1 0 : Nat) ([a].getD 2 0 : Nat) ⟨#[]⟩ ⟨#[]⟩ s) ∧ Aside0 (wr2.heap[wc.heap.size]? = some (.cells #[.pointer (some ⟨w.heap.size + 1 + 1, 0, none⟩), .pointer (some ⟨w.heap.size + 1 + 1, 1, none⟩), .pointer (some ⟨w.heap.size + 1 + 1, 2, none⟩)] 255 (0, 0)))) (fun v11 _ => r1.size - (intOf v11).toNat)
              case atStart => exact ⟨0, rfl, by omega, ⟨by simp⟩, HO, HP⟩
              case round =>
                obtain ⟨i, rfl, hi, HD, HO, HP⟩ := hrel
                by_cases hlt : i < r1.size
                · have HS := Lib.hid (digN_step hlt)
                  by_cases q1 : 48 ≤ (r1[i]).toNat
                  · by_cases q2 : (r1[i]).toNat ≤ 57
                    · have q3 : decide ((48 : Int) ≤ ((r1[i]).toNat : Int)) = true := decide_eq_true (by omega)
                      have q4 : decide (((r1[i]).toNat : Int) ≤ 57) = true := decide_eq_true (by omega)
                      have HD2 := Aside0.mk (show digN r1.data.toList = (i + 1) + digN (r1.data.toList.drop (i + 1)) by rw [HD.out, HS.out, if_pos ⟨q1, q2⟩]; omega)
                      clear q1 q2
                      go_wp2_with fail
                      go_roundw
                      case rel => exact ⟨i + 1, by simp, by omega, HD2, HO, HP⟩
                      case measure => simp [intOf]; omega
                    · have q3 : decide ((48 : Int) ≤ ((r1[i]).toNat : Int)) = true := decide_eq_true (by omega)
                      have q4 : decide (((r1[i]).toNat : Int) ≤ 57) = false := decide_eq_false (by omega)
                      have HE := Aside0.mk (show digN r1.data.toList = i by rw [HD.out, HS.out, if_neg (fun h => q2 h.2)]; omega)
                      clear q1 q2
                      go_wp2_with fail
                      go_meet
                      case rel => exact ⟨by rw [HE.out], HO, HP⟩
                  · have q3 : decide ((48 : Int) ≤ ((r1[i]).toNat : Int)) = false := decide_eq_false (by omega)
                    have HE := Aside0.mk (show digN r1.data.toList = i by rw [HD.out, HS.out, if_neg (fun h => q1 h.1)]; omega)
                    clear q1
                    go_wp2_with fail
                    go_meet
                    case rel => exact ⟨by rw [HE.out], HO, HP⟩
                · have HE := Aside0.mk (show digN r1.data.toList = i by rw [HD.out, digN_end hlt]; omega)
                  go_wp2_with fail
                  go_meet
                  case rel => exact ⟨by rw [HE.out], HO, HP⟩
            case rest =>
              clear hp HO HP
              obtain ⟨rfl, HO, HP⟩ := hcut
              have hnl := digN_le r1.data.toList
              have hnl2 : digN r1.data.toList ≤ r1.size := by
                have e : r1.data.toList.length = r1.size := Array.length_toList
                omega
              clear hnl
              by_cases hn0 : digN r1.data.toList = 0
              · have HBAD := Lib.hid (readV_none (s := s) (by rw [← HRL.out, ← HN.out]; exact nums_none (m := 1) (numOf_zero hn0)))
                have q0 : (((digN r1.data.toList : Nat) : Int) == 0) = true := by rw [hn0]; rfl
                clear hn0
                generalize digN r1.data.toList = n at *
                have r0 := blk_cell (HO.out).res 0
                have t0 := blk_frozen (HO.out).res 0
                have r1 := blk_cell (HO.out).res 1
                have t1 := blk_frozen (HO.out).res 1
                have r2 := blk_cell (HO.out).res 2
                have t2 := blk_frozen (HO.out).res 2
                have r3 := blk_cell (HO.out).res 3
                have t3 := blk_frozen (HO.out).res 3
                have r4 := blk_cell (HO.out).res 4
                have t4 := blk_frozen (HO.out).res 4
                have r5 := blk_cell (HO.out).res 5
                have t5 := blk_frozen (HO.out).res 5
                go_wp2_with fail
                refine bodyPost_ret (v := .tuple #[.agg zSV, .int .i64 0, .iface 260 (.pointer (some ⟨w.heap.size + 1, 0, none⟩))]) (by simp [results, Tryz.results143, go_sem, *]) rfl (readEnd_bad HBAD.out ?_)
                exact ((((((HO.out.bel).setCell (Nat.le_refl _) _).setCell (Nat.le_refl _) _).setCell (Nat.le_refl _) _).setCell (Nat.le_refl _) _).setCell (Nat.le_refl _) _).setCell (Nat.le_refl _) _
              · have q0 : (((digN r1.data.toList : Nat) : Int) == 0) = false := by rw [beq_eq_false_iff_ne]; omega
                have HU := Lib.hid (fun (u : Nat) (h : Lib.parseUintB 64 (r1.extract 0 (digN r1.data.toList)).data.toList = .ok u) => numOf_ok (l := r1.data.toList) hn0 (by rw [take_data] at h; exact h))
                have HW := Lib.hid (fun (h : ∀ u : Nat, Lib.parseUintB 64 (r1.extract 0 (digN r1.data.toList)).data.toList ≠ .ok u) => numOf_bad (l := r1.data.toList) (by rw [take_data] at h; exact h))
                have HDD := Lib.hid (drop_data r1 (digN r1.data.toList))
                have hcut := cut_from r1 (digN r1.data.toList) hnl2
                have CU := Lib.hid (uint_any (r1.extract 0 (digN r1.data.toList)) (by simp only [ByteArray.size_extract]; omega) wc (HV.out.below HO.out.bel))
                clear hn0
                have hms : (r1.extract (digN r1.data.toList) r1.size).size ≤ 2147483647 := by simp only [ByteArray.size_extract]; omega
                generalize digN r1.data.toList = n at *
                go_wp2_with (first | (go_at_call 152; ((with_reducible refine CU.out.mono ?_); rintro e w5 ⟨nn, err, rfl, hb, hor⟩; refine Hid.out ?_)))
                have HO5 := Aside0.mk (HO.out.below hb)
                have HP5 := Aside0.mk (blk_below HP.out hb)
                have HOR := Lib.hid hor
                clear hb hor CU
                rcases HOR.out with ⟨u, rfl, hu, rfl⟩ | ⟨hno, tt, ad, rfl⟩
                · have HNU := Lib.hid (HU.out u hu)
                  clear hu HOR HU HW
                  have x0 := blk_cell HO5.out.ver 1
                  have y0 := blk_frozen HO5.out.ver 1
                  have HO6 := Aside0.mk (HO5.out.put1 (u : Int))
                  have HP6 := Aside0.mk (blk_far HP5.out (p := ⟨w.heap.size + 1 + 1, 1, none⟩) HNE.out (.int .u64 (u : Int)))
                  generalize r1.extract n r1.size = m at *
                  have HMS := Lib.hid hms
                  clear hnl2
                  rcases Nat.eq_zero_or_pos m.size with hm0 | hm0
                  · have hem := isEmpty_true hm0
                    have HR := Aside0.mk (show nums 3 [] r.data.toList = some ([a, u], m.data.toList) by rw [← HN.out]; exact nums_stop (m := 1) (by rw [HNU.out, ← HDD.out]) (.inl (by rw [goOn_begins, begins_nil hm0])))
                    clear HP5 HP6
                    refine Lib.hid ?_
                    go_wp2_with fail
                    go_meet
                    case rel => exact ⟨m, [a, u], rfl, by simp, HMS.out, HR, HO6⟩
                  · have hem := isEmpty_false hm0
                    have hbg := begins_at (c := 46) hm0
                    by_cases hq : (m[0]).toNat = 46
                    · have qn : (((m[0]).toNat : Int) != 46) = false := by rw [bne_eq_false_iff_eq]; omega
                      have HR := Aside0.mk (show nums 1 [a, u] (m.extract 1 m.size).data.toList = nums 3 [] r.data.toList by rw [← HN.out, drop_data]; exact (nums_on (acc := [a]) (m := 1) (by rw [HNU.out, ← HDD.out]) (by rw [goOn_begins, hbg, hq]; rfl) (by omega)).symm)
                      clear HP5 hq hbg
                      refine Lib.hid ?_
                      go_wp2_with fail
                      go_roundw
                      case rel => exact ⟨_, [a, u], rfl, by simp, by simp, by simp, by simp only [ByteArray.size_extract]; omega, HR, HO6, HP6⟩
                      case measure => simp [intOf]
                    · have qn : (((m[0]).toNat : Int) != 46) = true := by rw [bne_iff_ne]; omega
                      have HR := Aside0.mk (show nums 3 [] r.data.toList = some ([a, u], m.data.toList) by rw [← HN.out]; exact nums_stop (m := 1) (by rw [HNU.out, ← HDD.out]) (.inl (by rw [goOn_begins, hbg]; exact beq_eq_false_iff_ne.2 hq)))
                      clear HP5 HP6 hq hbg
                      refine Lib.hid ?_
                      go_wp2_with fail
                      go_meet
                      case rel => exact ⟨m, [a, u], rfl, by simp, HMS.out, HR, HO6⟩
                · have HBAD := Lib.hid (readV_none (s := s) (by rw [← HRL.out, ← HN.out]; exact nums_none (m := 1) (HW.out hno)))
                  clear hno HOR HU HW
                  have r0 := blk_cell (HO5.out).res 0
                  have t0 := blk_frozen (HO5.out).res 0
                  have r1 := blk_cell (HO5.out).res 1
                  have t1 := blk_frozen (HO5.out).res 1
                  have r2 := blk_cell (HO5.out).res 2
                  have t2 := blk_frozen (HO5.out).res 2
                  have r3 := blk_cell (HO5.out).res 3
                  have t3 := blk_frozen (HO5.out).res 3
                  have r4 := blk_cell (HO5.out).res 4
                  have t4 := blk_frozen (HO5.out).res 4
                  have r5 := blk_cell (HO5.out).res 5
                  have t5 := blk_frozen (HO5.out).res 5
                  refine Lib.hid ?_
                  go_wp2_with fail
                  refine bodyPost_ret (v := .tuple #[.agg zSV, .int .i64 0, .iface 260 (.pointer (some ⟨w.heap.size + 1, 0, none⟩))]) (by simp [results, Tryz.results143, go_sem, *]) rfl (readEnd_bad HBAD.out ?_)
                  exact ((((((HO5.out.bel).setCell (Nat.le_refl _) _).setCell (Nat.le_refl _) _).setCell (Nat.le_refl _) _).setCell (Nat.le_refl _) _).setCell (Nat.le_refl _) _).setCell (Nat.le_refl _) _
          · -- number 2
            have hp := blk_cell HP.out 2
            go_upto_block 2 with fail
            go_cut [11] from 38 to 55 (fun v11 wx => v11 = .int .i64 ((digN r1.data.toList : Nat) : Int) ∧ Aside0 (Own w wx ([a, b].getD 0 0 : Nat) ([a, b].getD 1 0 : Nat) ([a, b].getD 2 0 : Nat) ⟨#[]⟩ ⟨#[]⟩ s) ∧ Aside0 (wx.heap[wc.heap.size]? = some (.cells #[.pointer (some ⟨w.heap.size + 1 + 1, 0, none⟩), .pointer (some ⟨w.heap.size + 1 + 1, 1, none⟩), .pointer (some ⟨w.heap.size + 1 + 1, 2, none⟩)] 255 (0, 0))))
            case first =>
              clear hp
              go_wp2_with fail
              go_loopw [11] (fun v11 wr2 => ∃ i : Nat, v11 = .int .i64 (i : Int) ∧ i ≤ r1.size ∧ Aside0 (digN r1.data.toList = i + digN (r1.data.toList.drop i)) ∧ Aside0 (Own w wr2 ([a, b].getD 0 0 : Nat) ([a, b].getD 1 0 : Nat) ([a, b].getD 2 0 : Nat) ⟨#[]⟩ ⟨#[]⟩ s) ∧ Aside0 (wr2.heap[wc.heap.size]? = some (.cells #[.pointer (some ⟨w.heap.size + 1 + 1, 0, none⟩), .pointer (some ⟨w.heap.size + 1 + 1, 1, none⟩), .pointer (some ⟨w.heap.size + 1 + 1, 2, none⟩)] 255 (0, 0)))) (fun v11 _ => r1.size - (intOf v11).toNat)
              case atStart => exact ⟨0, rfl, by omega, ⟨by simp⟩, HO, HP⟩
              case round =>
                obtain ⟨i, rfl, hi, HD, HO, HP⟩ := hrel
                by_cases hlt : i < r1.size
                · have HS := Lib.hid (digN_step hlt)
                  by_cases q1 : 48 ≤ (r1[i]).toNat
                  · by_cases q2 : (r1[i]).toNat ≤ 57
                    · have q3 : decide ((48 : Int) ≤ ((r1[i]).toNat : Int)) = true := decide_eq_true (by omega)
                      have q4 : decide (((r1[i]).toNat : Int) ≤ 57) = true := decide_eq_true (by omega)
                      have HD2 := Aside0.mk (show digN r1.data.toList = (i + 1) + digN (r1.data.toList.drop (i + 1)) by rw [HD.out, HS.out, if_pos ⟨q1, q2⟩]; omega)
                      clear q1 q2
                      go_wp2_with fail
                      go_roundw
                      case rel => exact ⟨i + 1, by simp, by omega, HD2, HO, HP⟩
                      case measure => simp [intOf]; omega
                    · have q3 : decide ((48 : Int) ≤ ((r1[i]).toNat : Int)) = true := decide_eq_true (by omega)
                      have q4 : decide (((r1[i]).toNat : Int) ≤ 57) = false := decide_eq_false (by omega)
                      have HE := Aside0.mk (show digN r1.data.toList = i by rw [HD.out, HS.out, if_neg (fun h => q2 h.2)]; omega)
                      clear q1 q2
                      go_wp2_with fail
                      go_meet
                      case rel => exact ⟨by rw [HE.out], HO, HP⟩
                  · have q3 : decide ((48 : Int) ≤ ((r1[i]).toNat : Int)) = false := decide_eq_false (by omega)
                    have HE := Aside0.mk (show digN r1.data.toList = i by rw [HD.out, HS.out, if_neg (fun h => q1 h.1)]; omega)
                    clear q1
                    go_wp2_with fail
                    go_meet
                    case rel => exact ⟨by rw [HE.out], HO, HP⟩
                · have HE := Aside0.mk (show digN r1.data.toList = i by rw [HD.out, digN_end hlt]; omega)
                  go_wp2_with fail
                  go_meet
                  case rel => exact ⟨by rw [HE.out], HO, HP⟩
            case rest =>
              clear hp HO HP
              obtain ⟨rfl, HO, HP⟩ := hcut
              have hnl := digN_le r1.data.toList
              have hnl2 : digN r1.data.toList ≤ r1.size := by
                have e : r1.data.toList.length = r1.size := Array.length_toList
                omega
              clear hnl
              by_cases hn0 : digN r1.data.toList = 0
              · have HBAD := Lib.hid (readV_none (s := s) (by rw [← HRL.out, ← HN.out]; exact nums_none (m := 0) (numOf_zero hn0)))
                have q0 : (((digN r1.data.toList : Nat) : Int) == 0) = true := by rw [hn0]; rfl
                clear hn0
                generalize digN r1.data.toList = n at *
                have r0 := blk_cell (HO.out).res 0
                have t0 := blk_frozen (HO.out).res 0
                have r1 := blk_cell (HO.out).res 1
                have t1 := blk_frozen (HO.out).res 1
                have r2 := blk_cell (HO.out).res 2
                have t2 := blk_frozen (HO.out).res 2
                have r3 := blk_cell (HO.out).res 3
                have t3 := blk_frozen (HO.out).res 3
                have r4 := blk_cell (HO.out).res 4
                have t4 := blk_frozen (HO.out).res 4
                have r5 := blk_cell (HO.out).res 5
                have t5 := blk_frozen (HO.out).res 5
                go_wp2_with fail
                refine bodyPost_ret (v := .tuple #[.agg zSV, .int .i64 0, .iface 260 (.pointer (some ⟨w.heap.size + 1, 0, none⟩))]) (by simp [results, Tryz.results143, go_sem, *]) rfl (readEnd_bad HBAD.out ?_)
                exact ((((((HO.out.bel).setCell (Nat.le_refl _) _).setCell (Nat.le_refl _) _).setCell (Nat.le_refl _) _).setCell (Nat.le_refl _) _).setCell (Nat.le_refl _) _).setCell (Nat.le_refl _) _
              · have q0 : (((digN r1.data.toList : Nat) : Int) == 0) = false := by rw [beq_eq_false_iff_ne]; omega
                have HU := Lib.hid (fun (u : Nat) (h : Lib.parseUintB 64 (r1.extract 0 (digN r1.data.toList)).data.toList = .ok u) => numOf_ok (l := r1.data.toList) hn0 (by rw [take_data] at h; exact h))
                have HW := Lib.hid (fun (h : ∀ u : Nat, Lib.parseUintB 64 (r1.extract 0 (digN r1.data.toList)).data.toList ≠ .ok u) => numOf_bad (l := r1.data.toList) (by rw [take_data] at h; exact h))
                have HDD := Lib.hid (drop_data r1 (digN r1.data.toList))
                have hcut := cut_from r1 (digN r1.data.toList) hnl2
                have CU := Lib.hid (uint_any (r1.extract 0 (digN r1.data.toList)) (by simp only [ByteArray.size_extract]; omega) wc (HV.out.below HO.out.bel))
                clear hn0
                have hms : (r1.extract (digN r1.data.toList) r1.size).size ≤ 2147483647 := by simp only [ByteArray.size_extract]; omega
                generalize digN r1.data.toList = n at *
                go_wp2_with (first | (go_at_call 152; ((with_reducible refine CU.out.mono ?_); rintro e w5 ⟨nn, err, rfl, hb, hor⟩; refine Hid.out ?_)))
                have HO5 := Aside0.mk (HO.out.below hb)
                have HP5 := Aside0.mk (blk_below HP.out hb)
                have HOR := Lib.hid hor
                clear hb hor CU
                rcases HOR.out with ⟨u, rfl, hu, rfl⟩ | ⟨hno, tt, ad, rfl⟩
                · have HNU := Lib.hid (HU.out u hu)
                  clear hu HOR HU HW
                  have x0 := blk_cell HO5.out.ver 2
                  have y0 := blk_frozen HO5.out.ver 2
                  have HO6 := Aside0.mk (HO5.out.put2 (u : Int))
                  have HP6 := Aside0.mk (blk_far HP5.out (p := ⟨w.heap.size + 1 + 1, 2, none⟩) HNE.out (.int .u64 (u : Int)))
                  generalize r1.extract n r1.size = m at *
                  have HMS := Lib.hid hms
                  clear hnl2
                  rcases Nat.eq_zero_or_pos m.size with hm0 | hm0
                  · have hem := isEmpty_true hm0
                    have HR := Aside0.mk (show nums 3 [] r.data.toList = some ([a, b, u], m.data.toList) by rw [← HN.out]; exact nums_stop (m := 0) (by rw [HNU.out, ← HDD.out]) (.inl (by rw [goOn_begins, begins_nil hm0])))
                    clear HP5 HP6
                    refine Lib.hid ?_
                    go_wp2_with fail
                    go_meet
                    case rel => exact ⟨m, [a, b, u], rfl, by simp, HMS.out, HR, HO6⟩
                  · have hem := isEmpty_false hm0
                    have hbg := begins_at (c := 46) hm0
                    by_cases hq : (m[0]).toNat = 46
                    · have qn : (((m[0]).toNat : Int) != 46) = false := by rw [bne_eq_false_iff_eq]; omega
                      have HR := Aside0.mk (show nums 3 [] r.data.toList = some ([a, b, u], m.data.toList) by rw [← HN.out]; exact nums_stop (m := 0) (by rw [HNU.out, ← HDD.out]) (.inr rfl))
                      clear HP5 HP6 hq hbg
                      refine Lib.hid ?_
                      go_wp2_with fail
                      go_meet
                      case rel => exact ⟨m, [a, b, u], rfl, by simp, HMS.out, HR, HO6⟩
                    · have qn : (((m[0]).toNat : Int) != 46) = true := by rw [bne_iff_ne]; omega
                      have HR := Aside0.mk (show nums 3 [] r.data.toList = some ([a, b, u], m.data.toList) by rw [← HN.out]; exact nums_stop (m := 0) (by rw [HNU.out, ← HDD.out]) (.inl (by rw [goOn_begins, hbg]; exact beq_eq_false_iff_ne.2 hq)))
                      clear HP5 HP6 hq hbg
                      refine Lib.hid ?_
                      go_wp2_with fail
                      go_meet
                      case rel => exact ⟨m, [a, b, u], rfl, by simp, HMS.out, HR, HO6⟩
                · have HBAD := Lib.hid (readV_none (s := s) (by rw [← HRL.out, ← HN.out]; exact nums_none (m := 0) (HW.out hno)))
                  clear hno HOR HU HW
                  have r0 := blk_cell (HO5.out).res 0
                  have t0 := blk_frozen (HO5.out).res 0
                  have r1 := blk_cell (HO5.out).res 1
                  have t1 := blk_frozen (HO5.out).res 1
                  have r2 := blk_cell (HO5.out).res 2
                  have t2 := blk_frozen (HO5.out).res 2
                  have r3 := blk_cell (HO5.out).res 3
                  have t3 := blk_frozen (HO5.out).res 3
                  have r4 := blk_cell (HO5.out).res 4
                  have t4 := blk_frozen (HO5.out).res 4
                  have r5 := blk_cell (HO5.out).res 5
                  have t5 := blk_frozen (HO5.out).res 5
                  refine Lib.hid ?_
                  go_wp2_with fail
                  refine bodyPost_ret (v := .tuple #[.agg zSV, .int .i64 0, .iface 260 (.pointer (some ⟨w.heap.size + 1, 0, none⟩))]) (by simp [results, Tryz.results143, go_sem, *]) rfl (readEnd_bad HBAD.out ?_)
                  exact ((((((HO5.out.bel).setCell (Nat.le_refl _) _).setCell (Nat.le_refl _) _).setCell (Nat.le_refl _) _).setCell (Nat.le_refl _) _).setCell (Nat.le_refl _) _).setCell (Nat.le_refl _) _
      case rest =>
        clear HO
        obtain ⟨r1, ns, rfl, rfl, hr1, HR, HO⟩ := hcut
        go_upto_region 23 with fail
        go_cut [99] from 93 to 99 (fun v wx => v = .bool (begins r1.data.toList 45) ∧ Aside0 (Own w wx (ns.getD 0 0 : Nat) (ns.getD 1 0 : Nat) (ns.getD 2 0 : Nat) ⟨#[]⟩ ⟨#[]⟩ s))
        case first =>
          rcases Nat.eq_zero_or_pos r1.size with h0 | h0
          · have hem := isEmpty_true h0
            have hbg := begins_nil (c := 45) h0
            go_wp2_with fail
            go_meet
            case rel => exact ⟨by rw [hbg], HO⟩
          · have hem := isEmpty_false h0
            have hbg := begins_at (c := 45) h0
            rw [← cast_beq] at hbg
            have HBG := Lib.hid hbg
            clear hbg
            go_wp2_with fail
            go_meet
            case rel => exact ⟨by rw [HBG.out]; rfl, HO⟩
        case rest =>
          clear HO
          obtain ⟨rfl, HO⟩ := hcut
          go_upto_if 99 with fail
          go_cut [7, 14] from 99 to 114 (fun v7 _ wx => ∃ (r2 : ByteArray) (pre : List UInt8), v7 = .string r2 ∧ r2.size ≤ 2147483647 ∧ Aside0 (part 45 r1.data.toList = some (pre, r2.data.toList)) ∧ Aside0 (Own w wx (ns.getD 0 0 : Nat) (ns.getD 1 0 : Nat) (ns.getD 2 0 : Nat) ⟨pre.toArray⟩ ⟨#[]⟩ s))
          case first =>
            cases hq : begins r1.data.toList 45 with
            | false =>
              have HPN := Aside0.mk (part_not (c := 45) hq)
              go_wp2_with fail
              go_meet
              case rel => exact ⟨r1, [], rfl, hr1, HPN, HO⟩
            | true =>
              have h0 := begins_pos hq
              have hc0 := cut_from r1 1 (by omega)
              have hxs : (r1.extract 1 r1.size).size = r1.size - 1 := by simp only [ByteArray.size_extract]; omega
              have HI := Lib.hid (ident_any (r1.extract 1 r1.size) (by omega))
              have hnl := ident_size (r1.extract 1 r1.size)
              have HPP := Lib.hid (part_is (s := r1) (c := 45) hq)
              have HP0 := Lib.hid (part_bad (s := r1) (c := 45) hq)
              generalize identN (r1.extract 1 r1.size).data.toList = n at *
              by_cases hn0 : n = 0
              · have HNN := Lib.hid (HP0.out hn0)
                have HBAD := Lib.hid (show readV s = none from readV_pre (by rw [← HRL.out]; exact HR.out) HNN.out)
                have q0 : ((n : Int) == 0) = true := by rw [hn0]; rfl
                clear hn0 hq
                have r0 := blk_cell (HO.out).res 0
                have t0 := blk_frozen (HO.out).res 0
                have r1 := blk_cell (HO.out).res 1
                have t1 := blk_frozen (HO.out).res 1
                have r2 := blk_cell (HO.out).res 2
                have t2 := blk_frozen (HO.out).res 2
                have r3 := blk_cell (HO.out).res 3
                have t3 := blk_frozen (HO.out).res 3
                have r4 := blk_cell (HO.out).res 4
                have t4 := blk_frozen (HO.out).res 4
                have r5 := blk_cell (HO.out).res 5
                have t5 := blk_frozen (HO.out).res 5
                go_wp2_with (first | (go_at_call 153; ((with_reducible refine (HI.out _).mono ?_); rintro e w5 ⟨rfl, nd, rfl⟩)))
                refine bodyPost_ret (v := .tuple #[.agg zSV, .int .i64 0, .iface 260 (.pointer (some ⟨w.heap.size + 1, 0, none⟩))]) (by simp [results, Tryz.results143, go_sem, *]) rfl (readEnd_bad HBAD.out ?_)
                exact ((((((pw_below_drewN HO.out.bel nd).setCell (Nat.le_refl _) _).setCell (Nat.le_refl _) _).setCell (Nat.le_refl _) _).setCell (Nat.le_refl _) _).setCell (Nat.le_refl _) _).setCell (Nat.le_refl _) _
              · have HPN := Aside0.mk (HPP.out hn0)
                have q0 : ((n : Int) == 0) = false := by rw [beq_eq_false_iff_ne]; omega
                have hs1 := cut_mid r1 1 (1 + n) (by omega) (by omega)
                have hs2 := cut_from r1 (1 + n) (by omega)
                rw [show ((1 + n : Nat) : Int) = 1 + (n : Int) by omega] at hs1 hs2
                rw [show ((1 : Nat) : Int) = 1 from rfl] at hs1 hc0
                have hp2 : (r1.extract (1 + n) r1.size).size ≤ 2147483647 := by simp only [ByteArray.size_extract]; omega
                have x0 := blk_cell HO.out.ver 3
                have y0 := blk_frozen HO.out.ver 3
                clear hn0 hq HPP HP0
                generalize r1.extract 1 (1 + n) = p1 at *
                generalize r1.extract (1 + n) r1.size = p2 at *
                have HO2 := Aside0.mk (HO.out.put3 p1)
                have HSZ := Lib.hid hp2
                clear hp2
                go_wp2_with (first | (go_at_call 153; ((with_reducible refine (HI.out _).mono ?_); rintro e w5 ⟨rfl, nd, rfl⟩)))
                go_region
                all_goals
                  go_wp2_with fail
                  go_meet
                  case rel => exact ⟨p2, p1.data.toList, rfl, HSZ.out, HPN, ⟨by rw [back_bytes]; exact (HO.out.drewN (nd + 1)).put3 p1⟩⟩
          case rest =>
            clear HO
            obtain ⟨r2, pre, rfl, hr2, HP1, HO⟩ := hcut
            go_upto_region 28 with fail
            go_cut [122] from 116 to 122 (fun v wx => v = .bool (begins r2.data.toList 43) ∧ Aside0 (Own w wx (ns.getD 0 0 : Nat) (ns.getD 1 0 : Nat) (ns.getD 2 0 : Nat) ⟨pre.toArray⟩ ⟨#[]⟩ s))
            case first =>
              rcases Nat.eq_zero_or_pos r2.size with h0 | h0
              · have hem := isEmpty_true h0
                have hbg := begins_nil (c := 43) h0
                go_wp2_with fail
                go_meet
                case rel => exact ⟨by rw [hbg], HO⟩
              · have hem := isEmpty_false h0
                have hbg := begins_at (c := 43) h0
                rw [← cast_beq] at hbg
                have HBG := Lib.hid hbg
                clear hbg
                go_wp2_with fail
                go_meet
                case rel => exact ⟨by rw [HBG.out]; rfl, HO⟩
            case rest =>
              clear HO
              obtain ⟨rfl, HO⟩ := hcut
              go_upto_if 122 with fail
              go_cut [7, 15] from 122 to 137 (fun v7 _ wx => ∃ (r3 : ByteArray) (mt : List UInt8), v7 = .string r3 ∧ r3.size ≤ 2147483647 ∧ Aside0 (part 43 r2.data.toList = some (mt, r3.data.toList)) ∧ Aside0 (Own w wx (ns.getD 0 0 : Nat) (ns.getD 1 0 : Nat) (ns.getD 2 0 : Nat) ⟨pre.toArray⟩ ⟨mt.toArray⟩ s))
              case first =>
                cases hq : begins r2.data.toList 43 with
                | false =>
                  have HPN := Aside0.mk (part_not (c := 43) hq)
                  go_wp2_with fail
                  go_meet
                  case rel => exact ⟨r2, [], rfl, hr2, HPN, HO⟩
                | true =>
                  have h0 := begins_pos hq
                  have hc0 := cut_from r2 1 (by omega)
                  have hxs : (r2.extract 1 r2.size).size = r2.size - 1 := by simp only [ByteArray.size_extract]; omega
                  have HI := Lib.hid (ident_any (r2.extract 1 r2.size) (by omega))
                  have hnl := ident_size (r2.extract 1 r2.size)
                  have HPP := Lib.hid (part_is (s := r2) (c := 43) hq)
                  have HP0 := Lib.hid (part_bad (s := r2) (c := 43) hq)
                  generalize identN (r2.extract 1 r2.size).data.toList = n at *
                  by_cases hn0 : n = 0
                  · have HNN := Lib.hid (HP0.out hn0)
                    have HBAD := Lib.hid (show readV s = none from readV_mt (by rw [← HRL.out]; exact HR.out) HP1.out HNN.out)
                    have q0 : ((n : Int) == 0) = true := by rw [hn0]; rfl
                    clear hn0 hq
                    have r0 := blk_cell (HO.out).res 0
                    have t0 := blk_frozen (HO.out).res 0
                    have r1 := blk_cell (HO.out).res 1
                    have t1 := blk_frozen (HO.out).res 1
                    have r2 := blk_cell (HO.out).res 2
                    have t2 := blk_frozen (HO.out).res 2
                    have r3 := blk_cell (HO.out).res 3
                    have t3 := blk_frozen (HO.out).res 3
                    have r4 := blk_cell (HO.out).res 4
                    have t4 := blk_frozen (HO.out).res 4
                    have r5 := blk_cell (HO.out).res 5
                    have t5 := blk_frozen (HO.out).res 5
                    go_wp2_with (first | (go_at_call 153; ((with_reducible refine (HI.out _).mono ?_); rintro e w5 ⟨rfl, nd, rfl⟩)))
                    refine bodyPost_ret (v := .tuple #[.agg zSV, .int .i64 0, .iface 260 (.pointer (some ⟨w.heap.size + 1, 0, none⟩))]) (by simp [results, Tryz.results143, go_sem, *]) rfl (readEnd_bad HBAD.out ?_)
                    exact ((((((pw_below_drewN HO.out.bel nd).setCell (Nat.le_refl _) _).setCell (Nat.le_refl _) _).setCell (Nat.le_refl _) _).setCell (Nat.le_refl _) _).setCell (Nat.le_refl _) _).setCell (Nat.le_refl _) _
                  · have HPN := Aside0.mk (HPP.out hn0)
                    have q0 : ((n : Int) == 0) = false := by rw [beq_eq_false_iff_ne]; omega
                    have hs1 := cut_mid r2 1 (1 + n) (by omega) (by omega)
                    have hs2 := cut_from r2 (1 + n) (by omega)
                    rw [show ((1 + n : Nat) : Int) = 1 + (n : Int) by omega] at hs1 hs2
                    rw [show ((1 : Nat) : Int) = 1 from rfl] at hs1 hc0
                    have hp2 : (r2.extract (1 + n) r2.size).size ≤ 2147483647 := by simp only [ByteArray.size_extract]; omega
                    have x0 := blk_cell HO.out.ver 4
                    have y0 := blk_frozen HO.out.ver 4
                    clear hn0 hq HPP HP0
                    generalize r2.extract 1 (1 + n) = p1 at *
                    generalize r2.extract (1 + n) r2.size = p2 at *
                    have HO2 := Aside0.mk (HO.out.put4 p1)
                    have HSZ := Lib.hid hp2
                    clear hp2
                    go_wp2_with (first | (go_at_call 153; ((with_reducible refine (HI.out _).mono ?_); rintro e w5 ⟨rfl, nd, rfl⟩)))
                    go_region
                    all_goals
                      go_wp2_with fail
                      go_meet
                      case rel => exact ⟨p2, p1.data.toList, rfl, HSZ.out, HPN, ⟨by rw [back_bytes]; exact (HO.out.drewN (nd + 1)).put4 p1⟩⟩
              case rest =>
                clear HO
                obtain ⟨r3, mt, rfl, hr3, HP2, HO⟩ := hcut
                rcases Nat.eq_zero_or_pos r3.size with h0 | h0
                · have hem := isEmpty_true h0
                  have HG := Lib.hid (readV_ok (s := s) (by rw [← HRL.out]; exact HR.out) HP1.out HP2.out (list_nil h0))
                  have r0 := blk_cell (HO.out).res 0
                  have t0 := blk_frozen (HO.out).res 0
                  have r1 := blk_cell (HO.out).res 1
                  have t1 := blk_frozen (HO.out).res 1
                  have r2 := blk_cell (HO.out).res 2
                  have t2 := blk_frozen (HO.out).res 2
                  have r3 := blk_cell (HO.out).res 3
                  have t3 := blk_frozen (HO.out).res 3
                  have r4 := blk_cell (HO.out).res 4
                  have t4 := blk_frozen (HO.out).res 4
                  have r5 := blk_cell (HO.out).res 5
                  have t5 := blk_frozen (HO.out).res 5
                  have z0 := blk_cell HO.out.ver 0
                  have z1 := blk_cell HO.out.ver 1
                  have z2 := blk_cell HO.out.ver 2
                  have z3 := blk_cell HO.out.ver 3
                  have z4 := blk_cell HO.out.ver 4
                  have z5 := blk_cell HO.out.ver 5
                  clear h0
                  generalize ns.getD 0 0 = n0 at *
                  generalize ns.getD 1 0 = n1 at *
                  generalize ns.getD 2 0 = n2 at *
                  generalize (⟨pre.toArray⟩ : ByteArray) = pp at *
                  generalize (⟨mt.toArray⟩ : ByteArray) = mm at *
                  go_wp2_with fail
                  refine bodyPost_ret (v := .tuple #[.agg #[.int .u64 (n0 : Int), .int .u64 (n1 : Int), .int .u64 (n2 : Int), .string pp, .string mm, .string s], .int .i64 (ns.length : Int), .nilIface]) (by simp [results, Tryz.results143, go_sem, *]) rfl (readEnd_good HG.out ?_)
                  exact ((((((HO.out.bel).setCell (Nat.le_refl _) _).setCell (Nat.le_refl _) _).setCell (Nat.le_refl _) _).setCell (Nat.le_refl _) _).setCell (Nat.le_refl _) _).setCell (Nat.le_refl _) _
                · have hem := isEmpty_false h0
                  have HBAD := Lib.hid (readV_rest (s := s) (by rw [← HRL.out]; exact HR.out) HP1.out HP2.out (list_some h0))
                  have r0 := blk_cell (HO.out).res 0
                  have t0 := blk_frozen (HO.out).res 0
                  have r1 := blk_cell (HO.out).res 1
                  have t1 := blk_frozen (HO.out).res 1
                  have r2 := blk_cell (HO.out).res 2
                  have t2 := blk_frozen (HO.out).res 2
                  have r3 := blk_cell (HO.out).res 3
                  have t3 := blk_frozen (HO.out).res 3
                  have r4 := blk_cell (HO.out).res 4
                  have t4 := blk_frozen (HO.out).res 4
                  have r5 := blk_cell (HO.out).res 5
                  have t5 := blk_frozen (HO.out).res 5
                  clear h0
                  go_wp2_with fail
                  refine bodyPost_ret (v := .tuple #[.agg zSV, .int .i64 0, .iface 260 (.pointer (some ⟨w.heap.size + 1, 0, none⟩))]) (by simp [results, Tryz.results143, go_sem, *]) rfl (readEnd_bad HBAD.out ?_)
                  exact ((((((HO.out.bel).setCell (Nat.le_refl _) _).setCell (Nat.le_refl _) _).setCell (Nat.le_refl _) _).setCell (Nat.le_refl _) _).setCell (Nat.le_refl _) _).setCell (Nat.le_refl _) _
end Go.Proofs.YtgoeiflddikihaaGreatDoor.Ver
end
section
namespace Go.Proofs.YtgoeiflddikihaaGreatDoor.Ver
open Go.RowKit Go.Proofs.YtgoeiflddikihaaGreatDoor.Dig Go.Proofs.YtgoeiflddikihaaGreatDoorW.PrintWords
def qSplitOn (c : UInt8) : List UInt8 → List (List UInt8)
  | [] => [[]]
  | x :: r => if x = c then [] :: qSplitOn c r else match qSplitOn c r with
    | h :: t => (x :: h) :: t
    | [] => [[x]]
def qCutAt (c : UInt8) : List UInt8 → List UInt8 × Option (List UInt8)
  | [] => ([], none)
  | x :: r => if x = c then ([], some r) else ((x :: (qCutAt c r).1), (qCutAt c r).2)
def qIdentsB (l : List UInt8) : Bool := (qSplitOn 46 l).all fun x => !x.isEmpty && x.all isId
def qNumB (l : List UInt8) : Option Nat := match Lib.parseUintB 64 l with
  | .ok u => some u
  | _ => none
def qNumsB : List (List UInt8) → Option (List Nat)
  | [] => some []
  | x :: r => match qNumB x, qNumsB r with
    | some a, some b => some (a :: b)
    | _, _ => none
def qOptB : Option (List UInt8) → Option (List UInt8)
  | none => some []
  | some p => if qIdentsB p then some p else none
def qSemB0 (l : List UInt8) : Option (List Nat × List UInt8 × List UInt8) :=
  let a := qCutAt 43 (bare0 l)
  match qOptB a.2 with
  | none => none
  | some mt =>
    let b := qCutAt 45 a.1
    match qOptB b.2 with
    | none => none
    | some pre =>
      let ps := qSplitOn 46 b.1
      if 3 < ps.length then none else match qNumsB ps with
        | none => none
        | some ns => some (ns, pre, mt)
theorem qSplitOn_ne (c : UInt8) : ∀ l, qSplitOn c l ≠ []
  | [] => by simp [qSplitOn]
  | x :: r => by
    unfold qSplitOn
    split
    · simp
    · split <;> simp
theorem qSplitOn_cons {c x : UInt8} {r : List UInt8} (h : x ≠ c) : ∃ p q, qSplitOn c r = p :: q ∧ qSplitOn c (x :: r) = (x :: p) :: q := by
  cases e : qSplitOn c r with
  | nil => exact absurd e (qSplitOn_ne c r)
  | cons p q => exact ⟨p, q, rfl, by rw [qSplitOn, if_neg h, e]⟩
def qIdAll : List UInt8 → Bool → Bool
  | [], p => p
  | c :: r, p => if isId c then qIdAll r true else if c = 46 ∧ p then qIdAll r false else false
theorem qDot_not_id : isId 46 = false := by decide
theorem qIdAll_split : ∀ (l : List UInt8) (p : Bool), qIdAll l p = (match qSplitOn 46 l with
    | h :: t => (p || !h.isEmpty) && h.all isId && t.all (fun x => !x.isEmpty && x.all isId)
    | [] => false)
  | [], p => by simp [qIdAll, qSplitOn]
  | c :: r, p => by
    by_cases hc : c = 46
    · subst hc
      rw [qIdAll, qDot_not_id, qSplitOn, if_pos rfl]
      have ih := qIdAll_split r false
      cases p with
      | false => simp
      | true =>
        simp only [and_self, if_true]
        rw [ih]
        cases e : qSplitOn 46 r with
        | nil => exact absurd e (qSplitOn_ne _ _)
        | cons h t => simp [Bool.and_assoc]
    · obtain ⟨h, t, e1, e2⟩ := qSplitOn_cons (r := r) hc
      rw [qIdAll, e2]
      have ih := qIdAll_split r true
      rw [e1] at ih
      by_cases hi : isId c = true
      · rw [if_pos hi, ih]; simp [hi]
      · rw [if_neg hi, if_neg (fun x => hc x.1)]; simp [hi]
theorem qIdentsB_idAll (l : List UInt8) : qIdentsB l = qIdAll l false := by
  rw [qIdAll_split, qIdentsB]
  cases e : qSplitOn 46 l with
  | nil => exact absurd e (qSplitOn_ne _ _)
  | cons h t => simp
theorem qNat46 (c : UInt8) : (c.toNat = 46) ↔ c = 46 := by
  constructor
  · intro h; exact UInt8.toNat_inj.1 (by rw [h]; rfl)
  · rintro rfl; rfl
def qStops : List UInt8 → Bool
  | [] => true
  | c :: _ => !isId c && c != 46
theorem qIdentGo_app (t : List UInt8) (ht : qStops t = true) : ∀ (l : List UInt8) (i n p : Nat), identGo (l ++ t) i n p = identGo l i n p
  | [], i, n, p => by
    cases t with
    | nil => rfl
    | cons c r =>
      simp [qStops] at ht
      simp only [List.nil_append, identGo, ht.1, qNat46, ht.2]; simp
  | c :: l, i, n, p => by
    rw [List.cons_append, identGo, identGo, qIdentGo_app t ht l, qIdentGo_app t ht l]
theorem qIdentGo_bound : ∀ (l : List UInt8) (i n p : Nat), n ≤ i → identGo l i n p ≤ i + l.length
  | [], i, n, p, h => by simp [identGo]; omega
  | c :: r, i, n, p, h => by
    simp only [identGo, List.length_cons]
    split
    · have := qIdentGo_bound r (i + 1) (i + 1) (p + 1) (by omega); omega
    · split
      · have := qIdentGo_bound r (i + 1) n 0 (by omega); omega
      · omega
theorem qIdentGo_all : ∀ (l : List UInt8) (i n p : Nat), n ≤ i → (0 < p ↔ n = i ∧ 0 < i) → (l ≠ [] ∨ 0 < i) → ((identGo l i n p = i + l.length) ↔ qIdAll l (decide (0 < p)) = true)
  | [], i, n, p, h, hp, h0 => by
    simp only [identGo, qIdAll, List.length_nil, Nat.add_zero, decide_eq_true_eq]
    rcases h0 with h0 | h0
    · exact absurd rfl h0
    · constructor
      · intro e; exact hp.2 ⟨e, h0⟩
      · intro e; exact (hp.1 e).1
  | c :: r, i, n, p, h, hp, h0 => by
    simp only [identGo, qIdAll, List.length_cons]
    by_cases hi : isId c = true
    · rw [if_pos hi, if_pos hi]
      have ih := qIdentGo_all r (i + 1) (i + 1) (p + 1) (Nat.le_refl _) (by omega) (Or.inr (by omega))
      rw [show decide (0 < p + 1) = true from by simp] at ih
      rw [← ih]; omega
    · rw [if_neg hi, if_neg hi]
      simp only [qNat46, decide_eq_true_eq]
      by_cases hd : c = 46 ∧ 0 < p
      · rw [if_pos hd, if_pos hd]
        have ih := qIdentGo_all r (i + 1) n 0 (by omega) (by omega) (Or.inr (by omega))
        rw [show decide (0 < 0) = false from rfl] at ih
        rw [← ih]; omega
      · rw [if_neg hd, if_neg hd]
        simp; omega
theorem qIdentN_all (l : List UInt8) : (l ≠ [] ∧ identN l = l.length) ↔ qIdentsB l = true := by
  rw [qIdentsB_idAll]
  cases l with
  | nil => simp [qIdAll]
  | cons c r =>
    have := qIdentGo_all (c :: r) 0 0 0 (Nat.le_refl _) (by omega) (Or.inl (by simp))
    rw [Nat.zero_add] at this
    simp only [ne_eq, reduceCtorEq, not_false_eq_true, true_and]
    exact this
theorem qPart_some {c : UInt8} {p t : List UInt8} (ht : qStops t = true) (h : qIdentsB p = true) : part c (c :: (p ++ t)) = some (p, t) := by
  obtain ⟨hne, hn⟩ := (qIdentN_all p).2 h
  have e : identN (p ++ t) = p.length := by rw [← hn]; exact qIdentGo_app t ht p 0 0 0
  have hl : p.length ≠ 0 := fun x => hne (List.length_eq_zero_iff.1 x)
  rw [part, if_pos rfl, e, if_neg hl, List.take_left, List.drop_left]
theorem qPart_bad {c : UInt8} {p t : List UInt8} (ht : qStops t = true) (h : qIdentsB p = false) :
    part c (c :: (p ++ t)) = none ∨ ∃ q x r, part c (c :: (p ++ t)) = some (q, x :: r ++ t) ∧ x :: r <:+ p := by
  have e : identN (p ++ t) = identN p := qIdentGo_app t ht p 0 0 0
  rw [part, if_pos rfl, e]
  by_cases h0 : identN p = 0
  · left; rw [if_pos h0]
  · right
    rw [if_neg h0]
    have hle : identN p ≤ p.length := by have := qIdentGo_bound p 0 0 0 (Nat.le_refl _); unfold identN; omega
    have hlt : identN p < p.length := by
      rcases Nat.lt_or_eq_of_le hle with h1 | h1
      · exact h1
      · exfalso
        have : qIdentsB p = true := (qIdentN_all p).1 ⟨fun x => by subst x; simp [identN, identGo] at h0, h1⟩
        rw [h] at this; cases this
    rw [List.drop_append_of_le_length hle]
    cases e2 : p.drop (identN p) with
    | nil => rw [List.drop_eq_nil_iff] at e2; omega
    | cons x r => exact ⟨_, x, r, rfl, by rw [← e2]; exact List.drop_suffix _ _⟩
theorem qCutAt_none : ∀ {c : UInt8} {l a : List UInt8}, qCutAt c l = (a, none) → a = l ∧ c ∉ l
  | c, [], a, h => by simp [qCutAt] at h; simp [h]
  | c, x :: r, a, h => by
    rw [qCutAt] at h
    split at h
    · simp at h
    · rename_i hx
      simp only [Prod.mk.injEq] at h
      have ih := qCutAt_none (c := c) (l := r) (a := (qCutAt c r).1) (by rw [← h.2])
      rw [← h.1, ih.1]
      exact ⟨rfl, by simp [ih.2, Ne.symm hx]⟩
theorem qCutAt_some : ∀ {c : UInt8} {l a b : List UInt8}, qCutAt c l = (a, some b) → l = a ++ c :: b ∧ c ∉ a
  | c, [], a, b, h => by simp [qCutAt] at h
  | c, x :: r, a, b, h => by
    rw [qCutAt] at h
    split at h
    · rename_i hx
      simp only [Prod.mk.injEq, Option.some.injEq] at h
      rw [← h.1, ← h.2, hx]; simp
    · rename_i hx
      simp only [Prod.mk.injEq] at h
      have ih := qCutAt_some (c := c) (l := r) (a := (qCutAt c r).1) (b := b) (by rw [← h.2])
      rw [← h.1]
      exact ⟨by rw [List.cons_append, ← ih.1], by simp [ih.2, Ne.symm hx]⟩
def qNoDig : List UInt8 → Bool
  | [] => true
  | c :: _ => !isDig c && c != 46
theorem qDigN_len : ∀ l : List UInt8, digN l ≤ l.length
  | [] => Nat.le_refl _
  | c :: r => by
    simp only [digN, List.length_cons]
    have := qDigN_len r
    split <;> omega
theorem qDigN_all : ∀ l : List UInt8, digN l = l.length ↔ l.all isDig = true
  | [] => by simp [digN]
  | c :: r => by
    have ih := qDigN_all r
    simp only [digN, List.length_cons, List.all_cons, Bool.and_eq_true]
    by_cases h : isDig c = true
    · rw [if_pos h]; simp [h, ← ih]
    · rw [if_neg h]; simp [h]
theorem parseM_dig : ∀ {M acc : Nat} {l : List UInt8} {u : Nat}, Lib.parseUintM M acc l = .ok u → l.all isDig = true
  | _, _, [], _, _ => rfl
  | M, acc, c :: r, u, h => by
    rw [Lib.parseUintM] at h
    split at h
    · rename_i hc
      split at h
      · cases h
      · split at h
        · cases h
        · rw [List.all_cons, parseM_dig h]; simp [isDig, hc.1, hc.2]
    · cases h
theorem qNumB_some {l : List UInt8} {u : Nat} (h : qNumB l = some u) : Lib.parseUintB 64 l = .ok u ∧ l ≠ [] ∧ l.all isDig = true := by
  unfold qNumB at h
  split at h
  · rename_i x hx
    simp at h; subst h
    refine ⟨hx, ?_⟩
    unfold Lib.parseUintB at hx
    split at hx
    · cases hx
    · rename_i hne; exact ⟨hne, parseM_dig hx⟩
  · cases h
theorem qNumOf_app {x t : List UInt8} (ht : t = [] ∨ ∃ c r, t = c :: r ∧ isDig c = false) :
    (∀ u, qNumB x = some u → numOf (x ++ t) = some (u, t)) ∧ (qNumB x = none → (∀ c r, x = c :: r → True) → numOf (x ++ t) = none ∨ ∃ a y r, numOf (x ++ t) = some (a, y :: r ++ t) ∧ isDig y = false ∧ y :: r <:+ x) := by
  have hd : digN (x ++ t) = digN x := by
    have : ∀ l, digN (l ++ t) = digN l := by
      intro l
      induction l with
      | nil =>
        rcases ht with rfl | ⟨c, r, rfl, hc⟩
        · rfl
        · simp [digN, hc]
      | cons c l ih => rw [List.cons_append, digN, digN, ih]
    exact this x
  refine ⟨?_, ?_⟩
  · intro u hu
    obtain ⟨h1, h2, h3⟩ := qNumB_some hu
    have e := (qDigN_all x).2 h3
    have hl : x.length ≠ 0 := fun y => h2 (List.length_eq_zero_iff.1 y)
    rw [numOf, hd, e, if_neg hl, List.take_left, h1, List.drop_left]
  · intro hn _
    unfold numOf
    rw [hd]
    by_cases h0 : digN x = 0
    · left; rw [if_pos h0]
    · rw [if_neg h0]
      have hle := qDigN_len x
      rw [List.take_append_of_le_length hle, List.drop_append_of_le_length hle]
      by_cases he : digN x = x.length
      · left
        rw [he, List.take_length]
        unfold qNumB at hn
        split at hn
        · cases hn
        · rename_i hx
          cases hq : Lib.parseUintB 64 x <;> first | rfl | exact absurd hq (hx _)
      · cases e2 : x.drop (digN x) with
        | nil => rw [List.drop_eq_nil_iff] at e2; omega
        | cons y r =>
          have hy : isDig y = false := by
            have : ∀ (l : List UInt8), l.drop (digN l) = y :: r → isDig y = false := by
              intro l
              induction l with
              | nil => simp
              | cons c l ih =>
                intro h
                rw [digN] at h
                split at h
                · exact ih (by simpa using h)
                · rename_i hc
                  simp at h
                  rw [← h.1]; simpa using hc
            exact this x e2
          split
          · right; exact ⟨_, y, r, rfl, hy, by rw [← e2]; exact List.drop_suffix _ _⟩
          · left; rfl
theorem qSplitOn_first (c : UInt8) (l : List UInt8) : ∃ x, c ∉ x ∧ ((l = x ∧ qSplitOn c l = [x]) ∨ ∃ r, l = x ++ c :: r ∧ qSplitOn c l = x :: qSplitOn c r) := by
  induction l with
  | nil => exact ⟨[], by simp, Or.inl ⟨rfl, rfl⟩⟩
  | cons y l ih =>
    by_cases hy : y = c
    · subst hy
      exact ⟨[], by simp, Or.inr ⟨l, rfl, by rw [qSplitOn, if_pos rfl]⟩⟩
    · obtain ⟨x, hx, h⟩ := ih
      refine ⟨y :: x, by simp [hx, Ne.symm hy], ?_⟩
      rcases h with ⟨rfl, h⟩ | ⟨r, rfl, h⟩
      · left; exact ⟨rfl, by rw [qSplitOn, if_neg hy, h]⟩
      · right; exact ⟨r, rfl, by rw [qSplitOn, if_neg hy, h]⟩
theorem qNoDig_alt {t : List UInt8} (h : qNoDig t = true) : t = [] ∨ ∃ c r, t = c :: r ∧ isDig c = false := by
  cases t with
  | nil => exact Or.inl rfl
  | cons c r => simp [qNoDig] at h; exact Or.inr ⟨c, r, rfl, h.1⟩
theorem qNums_app (t : List UInt8) (ht : qNoDig t = true) : ∀ (m : Nat) (acc : List Nat) (l : List UInt8),
    (∀ ns, (qSplitOn 46 l).length ≤ m → qNumsB (qSplitOn 46 l) = some ns → nums m acc (l ++ t) = some (acc ++ ns, t)) ∧
    ((m < (qSplitOn 46 l).length ∨ qNumsB (qSplitOn 46 l) = none) → nums m acc (l ++ t) = none ∨ ∃ ns y r, nums m acc (l ++ t) = some (ns, y :: r ++ t) ∧ y :: r <:+ l)
  | 0, acc, l => by
    refine ⟨fun ns h _ => ?_, fun _ => Or.inl rfl⟩
    have := qSplitOn_ne 46 l
    cases e : qSplitOn 46 l with
    | nil => exact absurd e this
    | cons a b => rw [e] at h; simp at h
  | m + 1, acc, l => by
    obtain ⟨x, hx, h⟩ := qSplitOn_first 46 l
    rcases h with ⟨rfl, h⟩ | ⟨r, rfl, h⟩
    · -- one number
      obtain ⟨h1, h2⟩ := qNumOf_app (x := l) (qNoDig_alt ht)
      have hg : goOn t = false := by
        cases t with
        | nil => rfl
        | cons c r => simp [qNoDig] at ht; simp [goOn, ht.2]
      rw [h]
      refine ⟨?_, ?_⟩
      · intro ns _ hns
        simp only [qNumsB] at hns
        cases hn : qNumB l with
        | none => rw [hn] at hns; simp at hns
        | some u =>
          rw [hn] at hns
          simp at hns
          subst hns
          rw [nums, h1 u hn]
          simp [hg]
      · intro hbad
        have hn : qNumB l = none := by
          rcases hbad with hb | hb
          · simp at hb
          · simp only [qNumsB] at hb
            cases hn : qNumB l with
            | none => rfl
            | some u => rw [hn] at hb; simp at hb
        rcases h2 hn (fun _ _ _ => trivial) with e | ⟨a, y, r, e, hy, hm⟩
        · left; rw [nums, e]
        · have hy46 : y ≠ 46 := by
            intro e46
            subst e46
            skip
            exact hx (hm.subset (by simp))
          right
          refine ⟨acc ++ [a], y, r, ?_, hm⟩
          rw [nums, e]
          simp [goOn, hy46]
    · -- a number, a dot, more
      have hdot : (46 : UInt8) :: (r ++ t) = [] ∨ ∃ c r', (46 : UInt8) :: (r ++ t) = c :: r' ∧ isDig c = false := Or.inr ⟨46, r ++ t, rfl, by decide⟩
      obtain ⟨h1, h2⟩ := qNumOf_app (x := x) hdot
      have eapp : x ++ 46 :: r ++ t = x ++ 46 :: (r ++ t) := by simp
      rw [h, eapp]
      have ih := qNums_app t ht m
      refine ⟨?_, ?_⟩
      · intro ns hlen hns
        simp only [qNumsB] at hns
        cases hn : qNumB x with
        | none => rw [hn] at hns; simp at hns
        | some u =>
          rw [hn] at hns
          cases hr : qNumsB (qSplitOn 46 r) with
          | none => rw [hr] at hns; simp at hns
          | some b =>
            rw [hr] at hns
            simp at hns
            subst hns
            have hlen' : (qSplitOn 46 r).length ≤ m := by simpa using hlen
            have hm0 : 0 < m := by
              cases e : qSplitOn 46 r with
              | nil => exact absurd e (qSplitOn_ne _ _)
              | cons a b => rw [e] at hlen'; simp at hlen'; omega
            rw [nums, h1 u hn]
            simp only [goOn, beq_self_eq_true, Bool.true_and, decide_eq_true_eq, if_pos hm0, List.drop_one, List.tail_cons]
            rw [(ih (acc ++ [u]) r).1 b hlen' hr]
            simp
      · intro hbad
        cases hn : qNumB x with
        | none =>
          rcases h2 hn (fun _ _ _ => trivial) with e | ⟨a, y, q, e, hy, hm⟩
          · left; rw [nums, e]
          · have hy46 : y ≠ 46 := by
              intro e46
              subst e46
              skip
              exact hx (hm.subset (by simp))
            right
            refine ⟨acc ++ [a], y, q ++ 46 :: r, ?_, ?_⟩
            · rw [nums, e]
              simp [goOn, hy46]
            · skip
              obtain ⟨z, hz⟩ := hm
              exact ⟨z, by rw [← hz]; simp⟩
        | some u =>
          rw [nums, h1 u hn]
          by_cases hm0 : 0 < m
          · simp only [goOn, beq_self_eq_true, Bool.true_and, decide_eq_true_eq, if_pos hm0, List.drop_one, List.tail_cons]
            have hb' : m < (qSplitOn 46 r).length ∨ qNumsB (qSplitOn 46 r) = none := by
              rcases hbad with hb | hb
              · left; simpa using hb
              · right
                simp only [qNumsB, hn] at hb
                cases hr : qNumsB (qSplitOn 46 r) with
                | none => rfl
                | some b => rw [hr] at hb; simp at hb
            rcases (ih (acc ++ [u]) r).2 hb' with e | ⟨ns, y, q, e, hm⟩
            · left; exact e
            · right
              refine ⟨ns, y, q, e, ?_⟩
              skip
              exact hm.trans ⟨x ++ [46], by simp⟩
          · right
            have hm00 : m = 0 := by omega
            subst hm00
            refine ⟨acc ++ [u], 46, r, ?_, ?_⟩
            · simp [goOn]
            · exact ⟨x, rfl⟩
def qReadB (s : ByteArray) : Option (SV × Nat) := (qSemB0 s.data.toList).map fun (ns, pre, mt) => (⟨ns.getD 0 0, ns.getD 1 0, ns.getD 2 0, ⟨pre.toArray⟩, ⟨mt.toArray⟩, s⟩, ns.length)
theorem qPart_other {c x : UInt8} {r : List UInt8} (h : x ≠ c) : part c (x :: r) = some ([], x :: r) := by rw [part, if_neg h]
theorem readV_eq (s : ByteArray) : readV s = qReadB s := by
  unfold readV qReadB qSemB0
  generalize bare0 s.data.toList = l
  rcases ha : qCutAt 43 l with ⟨l1, om⟩
  rcases hb : qCutAt 45 l1 with ⟨l2, op⟩
  simp only [hb]
  -- what is behind the numbers
  have key : ∃ tm tp, (om = none ∧ tm = [] ∨ ∃ m, om = some m ∧ tm = 43 :: m) ∧ (op = none ∧ tp = [] ∨ ∃ p, op = some p ∧ tp = 45 :: p) ∧ l = l2 ++ (tp ++ tm) ∧ (43 : UInt8) ∉ l2 ++ tp ∧ (45 : UInt8) ∉ l2 := by
    have h1 : ∃ tm, (om = none ∧ tm = [] ∨ ∃ m, om = some m ∧ tm = 43 :: m) ∧ l = l1 ++ tm ∧ (43 : UInt8) ∉ l1 := by
      cases om with
      | none => obtain ⟨h1, h2⟩ := qCutAt_none ha; subst h1; exact ⟨[], Or.inl ⟨rfl, rfl⟩, by simp, h2⟩
      | some m => obtain ⟨h1, h2⟩ := qCutAt_some ha; exact ⟨43 :: m, Or.inr ⟨m, rfl, rfl⟩, h1, h2⟩
    obtain ⟨tm, hm1, hm2, hm3⟩ := h1
    have h2 : ∃ tp, (op = none ∧ tp = [] ∨ ∃ p, op = some p ∧ tp = 45 :: p) ∧ l1 = l2 ++ tp ∧ (45 : UInt8) ∉ l2 := by
      cases op with
      | none => obtain ⟨h1, h2⟩ := qCutAt_none hb; subst h1; exact ⟨[], Or.inl ⟨rfl, rfl⟩, by simp, h2⟩
      | some p => obtain ⟨h1, h2⟩ := qCutAt_some hb; exact ⟨45 :: p, Or.inr ⟨p, rfl, rfl⟩, h1, h2⟩
    obtain ⟨tp, hp1, hp2, hp3⟩ := h2
    exact ⟨tm, tp, hm1, hp1, by rw [hm2, hp2]; simp, by rw [← hp2]; exact hm3, hp3⟩
  obtain ⟨tm, tp, htm, htp, rfl, h43, h45⟩ := key
  clear ha hb
  have nd : qNoDig (tp ++ tm) = true := by
    rcases htp with ⟨_, rfl⟩ | ⟨p, _, rfl⟩
    · rcases htm with ⟨_, rfl⟩ | ⟨m, _, rfl⟩
      · rfl
      · simp [qNoDig]; decide
    · simp [qNoDig]; decide
  have stm : qStops tm = true := by
    rcases htm with ⟨_, rfl⟩ | ⟨m, _, rfl⟩
    · rfl
    · simp [qStops]; decide
  have h43l : (43 : UInt8) ∉ l2 := fun h => h43 (List.mem_append_left _ h)
  have h43p : (43 : UInt8) ∉ tp := fun h => h43 (List.mem_append_right _ h)
  have bad : ∀ (x : UInt8) (r : List UInt8), x ≠ 45 → x ≠ 43 → (match part 45 (x :: r) with
    | none => none
    | some (pre, r1) => match part 43 r1 with
      | none => none
      | some (mt, r2) => if r2 = [] then some ((⟨([] : List Nat).getD 0 0, 0, 0, ⟨pre.toArray⟩, ⟨mt.toArray⟩, s⟩ : SV), 0) else none) = none := by
    intro x r h1 h2
    rw [qPart_other h1]; simp only; rw [qPart_other h2]; simp
  -- behind the dash
  have tailm : ∀ (ns : List Nat) (pre : List UInt8), (match part 43 tm with
      | none => none
      | some (mt, r2) => if r2 = [] then some ((⟨ns.getD 0 0, ns.getD 1 0, ns.getD 2 0, ⟨pre.toArray⟩, ⟨mt.toArray⟩, s⟩ : SV), ns.length) else none)
      = (qOptB om).map fun mt => (⟨ns.getD 0 0, ns.getD 1 0, ns.getD 2 0, ⟨pre.toArray⟩, ⟨mt.toArray⟩, s⟩, ns.length) := by
    intro ns pre
    rcases htm with ⟨rfl, rfl⟩ | ⟨m, rfl, rfl⟩
    · simp [part, qOptB]
    · by_cases hi : qIdentsB m = true
      · have := qPart_some (c := 43) (p := m) (t := []) rfl hi
        rw [List.append_nil] at this
        rw [this]; simp [qOptB, hi]
      · have := qPart_bad (c := 43) (p := m) (t := []) rfl (by simpa using hi)
        rw [List.append_nil] at this
        rcases this with e | ⟨q, x, r, e, _⟩
        · rw [e]; simp [qOptB, hi]
        · rw [e]; simp [qOptB, hi]
  have tailp : ∀ (ns : List Nat), (match part 45 (tp ++ tm) with
      | none => none
      | some (pre, r1) => match part 43 r1 with
        | none => none
        | some (mt, r2) => if r2 = [] then some ((⟨ns.getD 0 0, ns.getD 1 0, ns.getD 2 0, ⟨pre.toArray⟩, ⟨mt.toArray⟩, s⟩ : SV), ns.length) else none)
      = match qOptB om with
        | none => none
        | some mt => (qOptB op).map fun pre => (⟨ns.getD 0 0, ns.getD 1 0, ns.getD 2 0, ⟨pre.toArray⟩, ⟨mt.toArray⟩, s⟩, ns.length) := by
    intro ns
    rcases htp with ⟨rfl, rfl⟩ | ⟨p, rfl, rfl⟩
    · have e : part 45 ([] ++ tm) = some ([], tm) := by
        rw [List.nil_append]
        rcases htm with ⟨_, rfl⟩ | ⟨m, _, rfl⟩
        · rfl
        · exact qPart_other (by decide)
      rw [e]
      simp only
      rw [tailm ns []]
      cases qOptB om <;> simp [qOptB]
    · by_cases hi : qIdentsB p = true
      · rw [List.cons_append, qPart_some stm hi]
        simp only
        rw [tailm ns p]
        cases qOptB om <;> simp [qOptB, hi]
      · have ho : qOptB (some p) = none := by simp [qOptB, hi]
        rw [ho]
        have e0 : (match qOptB om with | none => none | some mt => (none : Option (List UInt8)).map fun pre => ((⟨ns.getD 0 0, ns.getD 1 0, ns.getD 2 0, ⟨pre.toArray⟩, ⟨mt.toArray⟩, s⟩ : SV), ns.length)) = none := by
          cases qOptB om <;> rfl
        rw [e0, List.cons_append]
        rcases qPart_bad stm (by simpa using hi : qIdentsB p = false) with e | ⟨q, x, r, e, hm⟩
        · rw [e]
        · rw [e]
          have hx : x ≠ 43 := by
            rintro rfl
            skip
            exact h43p (List.mem_cons_of_mem _ (hm.subset (by simp)))
          simp only [List.cons_append]
          rw [qPart_other hx]; simp
  obtain ⟨n1, n2⟩ := qNums_app (tp ++ tm) nd 3 [] l2
  by_cases hgood : (qSplitOn 46 l2).length ≤ 3 ∧ ∃ ns, qNumsB (qSplitOn 46 l2) = some ns
  · obtain ⟨hlen, ns, hns⟩ := hgood
    rw [n1 ns hlen hns]
    simp only [List.nil_append]
    refine (tailp ns).trans ?_
    cases qOptB om with
    | none => rfl
    | some mt =>
      cases qOptB op with
      | none => rfl
      | some pre => simp only [if_neg (show ¬ 3 < (qSplitOn 46 l2).length by omega), hns]; rfl
  · have hb' : 3 < (qSplitOn 46 l2).length ∨ qNumsB (qSplitOn 46 l2) = none := by
      by_cases h3 : (qSplitOn 46 l2).length ≤ 3
      · right
        cases e : qNumsB (qSplitOn 46 l2) with
        | none => rfl
        | some ns => exact absurd ⟨h3, ns, e⟩ hgood
      · left; omega
    have hr : (match qOptB om with
      | none => none
      | some mt => match qOptB op with
        | none => none
        | some pre => if 3 < (qSplitOn 46 l2).length then none else match qNumsB (qSplitOn 46 l2) with
          | none => none
          | some ns => some (ns, pre, mt)) = (none : Option (List Nat × List UInt8 × List UInt8)) := by
      cases qOptB om with
      | none => rfl
      | some mt => cases qOptB op with
        | none => rfl
        | some pre =>
          simp only
          split
          · rfl
          · rcases hb' with h | h
            · omega
            · rw [h]
    rw [hr]
    rcases n2 hb' with e | ⟨ns, y, r, e, hm⟩
    · rw [e]; rfl
    · rw [e]
      skip
      have hy1 : y ≠ 45 := by rintro rfl; exact h45 (hm.subset (by simp))
      have hy2 : y ≠ 43 := by rintro rfl; exact h43l (hm.subset (by simp))
      simp only [List.cons_append]
      rw [qPart_other hy1]; simp only
      rw [qPart_other hy2]; simp
end Go.Proofs.YtgoeiflddikihaaGreatDoor.Ver
end
