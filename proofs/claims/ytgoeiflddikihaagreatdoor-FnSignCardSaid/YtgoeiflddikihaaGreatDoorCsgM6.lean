/- Merged by program out of: Pcomparex0, Pfirstx0, VPe, VPr, VPc, VPd, VPh. -/
import Derived.Test.YtgoeiflddikihaaGreatDoorProg
import Derived.Below
import Derived.Deep.Draws
import Derived.Deep.AppendLies
import Derived.Maps.AppendAt
import Derived.OwnWalk
import Derived.Laws.BytesArg
import Derived.Laws.MakeOwn
import Derived.Laws.OwnMore
import Derived.Deep.OwnRows
import Derived.Tactics
import Derived.Lib.ConvBytes
import Derived.Laws.Slices
import Derived.WalkKit
import Derived.KernelRfl
import Derived.RowKit3
import Derived.Deep.LoopGhost
import Derived.Deep.QuietTactic
import Derived.BigQuiet
import Derived.WideLaws
import Derived.Deep.DeepCutAuto
import Derived.Deep.CutBlock
import Derived.Deep.RegionHeld3
import Derived.Laws.Rows
import Derived.Lib.AppendStr
import Derived.ArgAppend
import Derived.Laws.IdiomCopy
import Derived.OrdersHeld
import Derived.Laws.BitsLemmas
import Derived.RowKit
import Derived.Test.YtgoeiflddikihaaGreatDoorCsgM0
import Derived.Test.YtgoeiflddikihaaGreatDoorCsgM1
import Derived.Test.YtgoeiflddikihaaGreatDoorCsgM3
section
namespace Go.Proofs.YtgoeiflddikihaaGreatDoor.Pcompare
open Go.RowKit Go.Proofs.YtgoeiflddikihaaGreatDoorW.PrintWords Go.Proofs.YtgoeiflddikihaaGreatDoorW.PrintLast Go.Proofs.YtgoeiflddikihaaGreatDoorW.PrintMore
attribute [local go_sem] max2_int min2_int max_two min_two max_three min_three max_four min_four   -- for this text's walks alone
set_option linter.unusedVariables false
set_option linter.unusedSimpArgs false
def errW : Option Int → Value
  | none => .nilIface
  | some c => .iface 0 (.int .i64 c)
theorem errW_none : errW none = .nilIface := rfl
theorem errW_some (c : Int) : errW (some c) = .iface 0 (.int .i64 c) := rfl
end Go.Proofs.YtgoeiflddikihaaGreatDoor.Pcompare
end
section
namespace Go.Proofs.YtgoeiflddikihaaGreatDoor.Pfirst
open Go.RowKit Go.Proofs.YtgoeiflddikihaaGreatDoorW.PrintWords Go.Proofs.YtgoeiflddikihaaGreatDoorW.PrintLast Go.Proofs.YtgoeiflddikihaaGreatDoorW.PrintMore
attribute [local go_sem] max2_int min2_int max_two min_two max_three min_three max_four min_four   -- for this text's walks alone
set_option linter.unusedVariables false
set_option linter.unusedSimpArgs false
def errW : Option Int → Value
  | none => .nilIface
  | some c => .iface 0 (.int .i64 c)
theorem errW_none : errW none = .nilIface := rfl
theorem errW_some (c : Int) : errW (some c) = .iface 0 (.int .i64 c) := rfl
end Go.Proofs.YtgoeiflddikihaaGreatDoor.Pfirst
end
section
namespace Go.Proofs.YtgoeiflddikihaaGreatDoor.Pfirst
open Go.RowKit Go.Proofs.YtgoeiflddikihaaGreatDoorW.PrintWords Go.Proofs.YtgoeiflddikihaaGreatDoorW.PrintLast Go.Proofs.YtgoeiflddikihaaGreatDoorW.PrintMore
attribute [local go_sem] max2_int min2_int max_two min_two max_three min_three max_four min_four   -- for this text's walks alone
set_option linter.unusedVariables false
set_option linter.unusedSimpArgs false
def semver_first.l0 : Nat → ByteArray → Int → Option (ByteArray × ByteArray)
  | 0, _, _ => none
  | k + 1, x0, x4 => if x4 < (x0.size : Int) then (if 0 ≤ x4 then (if (bt x0 x4) = 46 then (if x4 ≤ (x0.size : Int) then (if 0 ≤ (wrap64 (x4 + 1)) then (if (wrap64 (x4 + 1)) ≤ (x0.size : Int) then (some (x0.extract 0 (x4 : Int).toNat, x0.extract ((wrap64 (x4 + 1)) : Int).toNat x0.size)) else (none)) else (none)) else (none)) else (semver_first.l0 k x0 (wrap64 (x4 + 1)))) else (none)) else (some (x0, (⟨#[]⟩ : ByteArray)))
def semver_first.f (k : Nat) (a0 : ByteArray) : Option (ByteArray × ByteArray) := semver_first.l0 k a0 0
theorem semver_first.mono_l : ∀ k, (∀ y0 y1, LeO (semver_first.l0 k y0 y1) (semver_first.l0 (k + 1) y0 y1))
  | 0 => fun _ _ r h => by simp [semver_first.l0] at h
  | k + 1 => by
    have ih0 := semver_first.mono_l k
    · intro y0 y1
      unfold semver_first.l0
      repeat' first
      | (with_reducible exact ih0 _ _)
      | (with_reducible exact LeO.refl _)
      | (with_reducible exact LeO.none _)
      | (with_reducible refine LeO.ite ?_ ?_)
      | (with_reducible refine LeO.bind ?_ (fun _ => ?_))
      | exact ih0 _ _
      | exact LeO.none _
      | refine LeO.ite ?_ ?_
      | refine LeO.bind ?_ (fun _ => ?_)
theorem semver_first.mono : ∀ a0 k, LeO (semver_first.f k a0) (semver_first.f (k + 1) a0) := by
  intro a0 k
  have ih0 := semver_first.mono_l k
  unfold semver_first.f
  repeat' first
      | (with_reducible exact ih0 _ _)
      | (with_reducible exact LeO.refl _)
      | (with_reducible exact LeO.none _)
      | (with_reducible refine LeO.ite ?_ ?_)
      | (with_reducible refine LeO.bind ?_ (fun _ => ?_))
      | exact ih0 _ _
      | exact LeO.none _
      | refine LeO.ite ?_ ?_
      | refine LeO.bind ?_ (fun _ => ?_)
set_option maxHeartbeats 8000000 in
set_option maxRecDepth 100000 in
theorem semver_first.calls (k : Nat) (a0 : ByteArray) (r1 : ByteArray) (r2 : ByteArray) (w : World) (h : semver_first.f k a0 = some (r1, r2)) :
    Calls Tryz.prog 210 #[.string a0] w fun e w' => e = .returned (.tuple #[.string r1, .string r2]) ∧ Drawn0 w w' := by
  have H : (semver_first.l0 k a0 0) = some (r1, r2) := h
  clear h
  have H' := Aside0.mk H
  clear H
  go_enter Tryz.func210, Tryz.ntmps210
  go_wp2
  repeat (go_quiet (fail); try go_wp2)
  go_loopg [4] k (fun kq v4 w' => ∃ (x4_1 : Int), v4 = .int .i64 x4_1 ∧ Aside0 (semver_first.l0 kq a0 x4_1 = some (r1, r2)) ∧ Aside0 (kq ≤ k) ∧ Drawn0 w w')
  case atStart => exact ⟨(0), (by first | rfl | (simp; done) | (simp [*]; done)), H', ⟨Nat.le_refl _⟩, by repeat (first | exact Drawn0.refl _ | apply Drawn0.step)⟩
  case round =>
    clear H'
    obtain ⟨x4_1, rfl, HA, HK1, ⟨m1, rfl⟩⟩ := hrel
    cases gk with
    | zero => exact absurd HA.out (by simp [semver_first.l0])
    | succ k1 =>
      have H := HA.out
      clear HA
      simp only [semver_first.l0] at H
      by_cases c2 : x4_1 < (a0.size : Int)
      · rw [if_pos c2] at H
        have c2b0 : decide (x4_1 < (a0.size : Int)) = true := decide_eq_true c2
        clear c2
        by_cases c3 : 0 ≤ x4_1
        · rw [if_pos c3] at H
          have c3b0 : decide (0 ≤ x4_1) = true := decide_eq_true c3
          clear c3
          by_cases c5 : (bt a0 x4_1) = 46
          · rw [if_pos c5] at H
            have c5b0 : ((bt a0 x4_1) == 46) = true := beq_iff_eq.mpr c5
            have c5b1 : ((bt a0 x4_1) != 46) = false := bne_eq_false_iff_eq.mpr c5
            clear c5
            have c6b0 := eq_true (of_decide_eq_true (by first | (with_reducible assumption) | assumption) : 0 ≤ x4_1)
            by_cases c7 : x4_1 ≤ (a0.size : Int)
            · rw [if_pos c7] at H
              have c7b0 := eq_true c7
              have c7b1 : decide (x4_1 ≤ (a0.size : Int)) = true := decide_eq_true c7
              clear c7
              obtain ⟨ji8, hji8⟩ : ∃ j_ : Int, (wrap64 (x4_1 + 1)) = j_ := ⟨_, rfl⟩
              replace H : (if 0 ≤ (ji8) then (if (ji8) ≤ (a0.size : Int) then (some (a0.extract 0 (x4_1 : Int).toNat, a0.extract ((ji8) : Int).toNat a0.size)) else (none)) else (none)) = some (r1, r2) := by first | (rw [hji8] at H; exact H) | (simp only [hji8] at H ⊢; exact H)
              have hji8w : (IntKind.i64.wrap (x4_1 + 1)) = ji8 := (i64_w _).trans hji8
              by_cases c9 : 0 ≤ (ji8)
              · rw [if_pos c9] at H
                have c9b0 := eq_true c9
                have c9b1 : decide (0 ≤ (ji8)) = true := decide_eq_true c9
                clear c9
                by_cases c10 : (ji8) ≤ (a0.size : Int)
                · rw [if_pos c10] at H
                  have c10b0 := eq_true c10
                  have c10b1 : decide ((ji8) ≤ (a0.size : Int)) = true := decide_eq_true c10
                  clear c10
                  simp only [Option.some.injEq, Prod.mk.injEq] at H
                  obtain ⟨rfl, rfl⟩ := H
                  have p4 : 0 ≤ (x4_1 : Int) := of_decide_eq_true (by first | (with_reducible assumption) | assumption)
                  have q4 : x4_1 < (a0.size : Int) := of_decide_eq_true (by first | (with_reducible assumption) | assumption)
                  have hx4 := bt_at a0 x4_1
                  replace p4 := eq_true p4
                  replace q4 := eq_true q4
                  go_wp2
                  repeat (go_quiet (fail); try go_wp2)
                  go_ret2
                  exact ⟨by first | rfl | (simp; done) | (simp only [← hji8] <;> (first | rfl | simp)) | (simp [*]; done), by repeat (first | exact Drawn0.refl _ | apply Drawn0.step)⟩
                · rw [if_neg c10] at H
                  exact absurd H (by simp)
              · rw [if_neg c9] at H
                exact absurd H (by simp)
            · rw [if_neg c7] at H
              exact absurd H (by simp)
          · rw [if_neg c5] at H
            have c5b0 : ((bt a0 x4_1) == 46) = false := beq_eq_false_iff_ne.mpr c5
            have c5b1 : ((bt a0 x4_1) != 46) = true := bne_iff_ne.mpr c5
            have H' := Aside0.mk H
            clear H
            have p4 : 0 ≤ (x4_1 : Int) := of_decide_eq_true (by first | (with_reducible assumption) | assumption)
            have q4 : x4_1 < (a0.size : Int) := of_decide_eq_true (by first | (with_reducible assumption) | assumption)
            have hx4 := bt_at a0 x4_1
            replace p4 := eq_true p4
            replace q4 := eq_true q4
            go_wp2
            repeat (go_quiet (fail); try go_wp2)
            go_roundg k1
            case measure => have := HK1.out; omega
            case rel => exact ⟨(wrap64 (x4_1 + 1)), (by first | rfl | (simp; done) | (simp [*]; done)), H', ⟨by have := HK1.out; omega⟩, by repeat (first | exact Drawn0.refl _ | apply Drawn0.step)⟩
        · rw [if_neg c3] at H
          exact absurd H (by simp)
      · rw [if_neg c2] at H
        have c2b0 : decide (x4_1 < (a0.size : Int)) = false := decide_eq_false c2
        clear c2
        simp only [Option.some.injEq, Prod.mk.injEq] at H
        obtain ⟨rfl, rfl⟩ := H
        go_wp2
        repeat (go_quiet (fail); try go_wp2)
        go_ret2
        exact ⟨by first | rfl | (simp; done) | (simp [*]; done), by repeat (first | exact Drawn0.refl _ | apply Drawn0.step)⟩
end Go.Proofs.YtgoeiflddikihaaGreatDoor.Pfirst
end
section
namespace Go.Proofs.YtgoeiflddikihaaGreatDoor.PFnVersion
open Go.RowKit Go.Proofs.YtgoeiflddikihaaGreatDoorW.PrintWords Go.Proofs.YtgoeiflddikihaaGreatDoorW.PrintLast Go.Proofs.YtgoeiflddikihaaGreatDoorW.PrintMore
attribute [local go_sem] max2_int min2_int max_two min_two max_three min_three max_four min_four   -- for this text's walks alone
set_option linter.unusedVariables false
set_option linter.unusedSimpArgs false
def spec_verText.l0 : Nat → Int → ByteArray → Option (ByteArray)
  | 0, _, _ => none
  | k + 1, x0, x3 => if x0 ≥ 10 then ((some (([(IntKind.u64.wrap (48 + (Int.tmod x0 10))) % 256] : List Int) : List Int)).bind fun y171 => (if (strOfNums y171).size + x3.size ≤ 9223372036854775807 then (spec_verText.l0 k (IntKind.u64.wrap (Int.tdiv x0 10)) ((strOfNums y171) ++ x3)) else (none))) else ((some (([(IntKind.u64.wrap (48 + x0)) % 256] : List Int) : List Int)).bind fun y174 => (if (strOfNums y174).size + x3.size ≤ 9223372036854775807 then (some ((strOfNums y174) ++ x3)) else (none)))
def spec_verText.f (k : Nat) (a0 : Int) : Option (ByteArray) := spec_verText.l0 k a0 (⟨#[]⟩ : ByteArray)
theorem spec_verText.mono_l : ∀ k, (∀ y0 y1, LeO (spec_verText.l0 k y0 y1) (spec_verText.l0 (k + 1) y0 y1))
  | 0 => fun _ _ r h => by simp [spec_verText.l0] at h
  | k + 1 => by
    have ih0 := spec_verText.mono_l k
    · intro y0 y1
      unfold spec_verText.l0
      repeat' first
      | (with_reducible exact ih0 _ _)
      | (with_reducible exact LeO.refl _)
      | (with_reducible exact LeO.none _)
      | (with_reducible refine LeO.ite ?_ ?_)
      | (with_reducible refine LeO.bind ?_ (fun _ => ?_))
      | exact ih0 _ _
      | exact LeO.none _
      | refine LeO.ite ?_ ?_
      | refine LeO.bind ?_ (fun _ => ?_)
theorem spec_verText.mono : ∀ a0 k, LeO (spec_verText.f k a0) (spec_verText.f (k + 1) a0) := by
  intro a0 k
  have ih0 := spec_verText.mono_l k
  unfold spec_verText.f
  repeat' first
      | (with_reducible exact ih0 _ _)
      | (with_reducible exact LeO.refl _)
      | (with_reducible exact LeO.none _)
      | (with_reducible refine LeO.ite ?_ ?_)
      | (with_reducible refine LeO.bind ?_ (fun _ => ?_))
      | exact ih0 _ _
      | exact LeO.none _
      | refine LeO.ite ?_ ?_
      | refine LeO.bind ?_ (fun _ => ?_)
set_option maxHeartbeats 8000000 in
set_option maxRecDepth 100000 in
theorem spec_verText.calls (k : Nat) (a0 : Int) (r : ByteArray) (w : World) (h : spec_verText.f k a0 = some r) :
    Calls Tryz.prog 104 #[.int .u64 a0] w fun e w' => e = .returned (.string r) ∧ Below w.heap.size w w' := by
  have HB := Aside0.mk (Below.refl w.heap.size w)
  have H : (spec_verText.l0 k a0 (⟨#[]⟩ : ByteArray)) = some r := h
  clear h
  have H' := Aside0.mk H
  clear H
  go_enter Tryz.func104, Tryz.ntmps104
  go_wp2
  go_loopg [0, 3] k (fun kq v0 v3 w' => ∃ (x0_1 : Int) (x3_1 : ByteArray), v0 = .int .u64 x0_1 ∧ v3 = .string x3_1 ∧ Aside0 (spec_verText.l0 kq x0_1 x3_1 = some r) ∧ Aside0 (kq ≤ k) ∧ Aside0 (Below w.heap.size w w'))
  case atStart => exact ⟨(a0), ((⟨#[]⟩ : ByteArray)), (by first | rfl | (simp; done) | (simp [*]; done)), (by first | rfl | (simp; done) | (simp [*]; done)), H', ⟨Nat.le_refl _⟩, ⟨by repeat (first | (with_reducible first | exact HB.out | apply below_alloc | apply pw_below_drewN | apply below_drew1) | exact HB.out)⟩⟩
  case round =>
    clear H'
    try clear c1
    obtain ⟨x0_1, x3_1, rfl, rfl, HA, HK1, HB⟩ := hrel
    cases gk with
    | zero => exact absurd HA.out (by simp [spec_verText.l0])
    | succ k1 =>
      have H := HA.out
      clear HA
      simp only [spec_verText.l0] at H
      by_cases c2 : x0_1 ≥ 10
      · rw [if_pos c2] at H
        have c2b0 : decide (10 ≤ x0_1) = true := decide_eq_true c2
        clear c2
        obtain ⟨y171, hy171⟩ : ∃ y_ : List Int, y_ = (([(IntKind.u64.wrap (48 + (Int.tmod x0_1 10))) % 256] : List Int)) := ⟨_, rfl⟩
        replace H : (if (strOfNums y171).size + x3_1.size ≤ 9223372036854775807 then (spec_verText.l0 k1 (IntKind.u64.wrap (Int.tdiv x0_1 10)) ((strOfNums y171) ++ x3_1)) else (none)) = some r := by first | (rw [hy171]; with_reducible exact H) | (have H2_ := (Option.bind_some _ _).symm.trans H; rw [hy171]; with_reducible exact H2_) | (have H2_ := (Option.bind_some _ _).symm.trans H; with_reducible exact H2_) | with_reducible exact H | (rw [hy171]; exact H) | exact H
        have Ny171 := Aside0.mk hy171
        clear hy171
        by_cases c3 : (strOfNums y171).size + x3_1.size ≤ 9223372036854775807
        · rw [if_pos c3] at H
          have c3b0 := eq_true c3
          have c3b1 : decide ((strOfNums y171).size + x3_1.size ≤ 9223372036854775807) = true := decide_eq_true c3
          try have c3b2 : (9223372036854775807 < (strOfNums y171).size + x3_1.size) = False := eq_false (Nat.not_lt.2 c3)
          have H' := Aside0.mk H
          clear H
          go_wp2_with (first | ((with_reducible refine gate_dst (N := 10) rfl ?_); refine Kd.R_lit (Kd.int .u8) _ 5 ?hg (N := 10) ?hd (xs := ([(IntKind.u64.wrap (48 + (Int.tmod x0_1 10))) % 256] : List Int)) (inner := [.int .u8 ((IntKind.u64.wrap (48 + (Int.tmod x0_1 10))) % 256)]) (ok := fun _ => True) (okp := fun _ => True) ?hr ?hp (fun _ hk => hk) trivial (Below.refl _ _) (Nat.le_refl _) (by simp) ?_; (case hd => rfl); (case hg => rfl); (case hr => first | (go_simp; done) | (go_simp; rfl)); (case hp => exact (Reps.one (show Kd.M (Kd.int .u8) _ _ _ ((IntKind.u64.wrap (48 + (Int.tmod x0_1 10))) % 256) [.int .u8 ((IntKind.u64.wrap (48 + (Int.tmod x0_1 10))) % 256)] from rfl) (Reps.none _ _))); intro v172 w4 ho5 hb hg_ hnew_; clear hg_ hnew_; (first | rw [← Ny171.out] at ho5 | (simp only [Int.reduceToNat] at ho5; rw [← Ny171.out] at ho5)); have n0_ := Aside0.mk (Kd.R_lower ho5 (below_size (by repeat (first | (with_reducible first | exact HB.out | apply below_alloc | apply pw_below_drewN | apply below_drew1) | exact HB.out)))); have n1_ := Aside0.mk (below_step (by repeat (first | (with_reducible first | exact HB.out | apply below_alloc | apply pw_below_drewN | apply below_drew1) | exact HB.out)) hb); clear HB; have HO173 := n0_; have HB := n1_; clear n0_ n1_; clear hb ho5; have hcv6 := own_string (P := Tryz.prog) Tryz.underlying80 Tryz.underlying5 Tryz.underlying9 (Kd.own_of_R HO173.out)))
          go_roundg k1
          case measure => have := HK1.out; omega
          case rel => exact ⟨(IntKind.u64.wrap (Int.tdiv x0_1 10)), ((strOfNums y171) ++ x3_1), (by first | rfl | (simp; done) | (simp [*]; done)), (by first | rfl | (simp; done) | (simp [*]; done)), H', ⟨by have := HK1.out; omega⟩, ⟨by repeat (first | (with_reducible first | exact HB.out | apply below_alloc | apply pw_below_drewN | apply below_drew1) | exact HB.out)⟩⟩
        · rw [if_neg c3] at H
          exact absurd H (by simp)
      · rw [if_neg c2] at H
        have c2b0 : decide (10 ≤ x0_1) = false := decide_eq_false c2
        clear c2
        obtain ⟨y174, hy174⟩ : ∃ y_ : List Int, y_ = (([(IntKind.u64.wrap (48 + x0_1)) % 256] : List Int)) := ⟨_, rfl⟩
        replace H : (if (strOfNums y174).size + x3_1.size ≤ 9223372036854775807 then (some ((strOfNums y174) ++ x3_1)) else (none)) = some r := by first | (rw [hy174]; with_reducible exact H) | (have H2_ := (Option.bind_some _ _).symm.trans H; rw [hy174]; with_reducible exact H2_) | (have H2_ := (Option.bind_some _ _).symm.trans H; with_reducible exact H2_) | with_reducible exact H | (rw [hy174]; exact H) | exact H
        have Ny174 := Aside0.mk hy174
        clear hy174
        by_cases c7 : (strOfNums y174).size + x3_1.size ≤ 9223372036854775807
        · rw [if_pos c7] at H
          have c7b0 := eq_true c7
          have c7b1 : decide ((strOfNums y174).size + x3_1.size ≤ 9223372036854775807) = true := decide_eq_true c7
          try have c7b2 : (9223372036854775807 < (strOfNums y174).size + x3_1.size) = False := eq_false (Nat.not_lt.2 c7)
          obtain rfl := Option.some.inj H
          go_wp2_with (first | ((with_reducible refine gate_dst (N := 19) rfl ?_); refine Kd.R_lit (Kd.int .u8) _ 5 ?hg (N := 19) ?hd (xs := ([(IntKind.u64.wrap (48 + x0_1)) % 256] : List Int)) (inner := [.int .u8 ((IntKind.u64.wrap (48 + x0_1)) % 256)]) (ok := fun _ => True) (okp := fun _ => True) ?hr ?hp (fun _ hk => hk) trivial (Below.refl _ _) (Nat.le_refl _) (by simp) ?_; (case hd => rfl); (case hg => rfl); (case hr => first | (go_simp; done) | (go_simp; rfl)); (case hp => exact (Reps.one (show Kd.M (Kd.int .u8) _ _ _ ((IntKind.u64.wrap (48 + x0_1)) % 256) [.int .u8 ((IntKind.u64.wrap (48 + x0_1)) % 256)] from rfl) (Reps.none _ _))); intro v175 w8 ho9 hb hg_ hnew_; clear hg_ hnew_; (first | rw [← Ny174.out] at ho9 | (simp only [Int.reduceToNat] at ho9; rw [← Ny174.out] at ho9)); have n0_ := Aside0.mk (Kd.R_lower ho9 (below_size (by repeat (first | (with_reducible first | exact HB.out | apply below_alloc | apply pw_below_drewN | apply below_drew1) | exact HB.out)))); have n1_ := Aside0.mk (below_step (by repeat (first | (with_reducible first | exact HB.out | apply below_alloc | apply pw_below_drewN | apply below_drew1) | exact HB.out)) hb); clear HB; have HO176 := n0_; have HB := n1_; clear n0_ n1_; clear hb ho9; have hcv10 := own_string (P := Tryz.prog) Tryz.underlying80 Tryz.underlying5 Tryz.underlying9 (Kd.own_of_R HO176.out)))
          go_ret
          exact ⟨by first | rfl | (simp [errW_none, errW_some] <;> rfl) | (simp [*, errW_none, errW_some] <;> rfl), by repeat (first | (with_reducible first | exact HB.out | apply below_alloc | apply pw_below_drewN | apply below_drew1) | exact HB.out)⟩
        · rw [if_neg c7] at H
          exact absurd H (by simp)
end Go.Proofs.YtgoeiflddikihaaGreatDoor.PFnVersion
end
section
namespace Go.Proofs.YtgoeiflddikihaaGreatDoor.PFnIntersectAny
open Go.RowKit Go.Proofs.YtgoeiflddikihaaGreatDoorW.PrintWords Go.Proofs.YtgoeiflddikihaaGreatDoorW.PrintLast Go.Proofs.YtgoeiflddikihaaGreatDoorW.PrintMore
attribute [local go_sem] max2_int min2_int max_two min_two max_three min_three max_four min_four   -- for this text's walks alone
set_option linter.unusedVariables false
set_option linter.unusedSimpArgs false
def semver_split.l0 : Nat → ByteArray → ByteArray → List ByteArray → Int → Int → Option (List ByteArray)
 | 0, _, _, _, _, _ => none
 | k + 1, x0, x1, x5, x6, x7 => if (wrap64 (x7 + (x1.size : Int))) ≤ (x0.size : Int) then (if 0 ≤ x7 then (if x7 ≤ (wrap64 (x7 + (x1.size : Int))) then (if (x0.extract (x7 : Int).toNat ((wrap64 (x7 + (x1.size : Int))) : Int).toNat).toList = x1.toList then (if 0 ≤ x6 then (if x6 ≤ x7 then (if x7 ≤ (x0.size : Int) then (if x5.length < 8796093022208 then (semver_split.l0 k x0 x1 (x5 ++ [x0.extract (x6 : Int).toNat (x7 : Int).toNat]) (wrap64 (x7 + (x1.size : Int))) (wrap64 ((wrap64 ((wrap64 (x7 + (x1.size : Int))) - 1)) + 1))) else (none)) else (none)) else (none)) else (none)) else (semver_split.l0 k x0 x1 x5 x6 (wrap64 (x7 + 1)))) else (none)) else (none)) else (if 0 ≤ x6 then (if x6 ≤ (x0.size : Int) then (if x5.length < 8796093022208 then (some (x5 ++ [x0.extract (x6 : Int).toNat x0.size])) else (none)) else (none)) else (none))
def semver_split.f (k : Nat) (a0 : ByteArray) (a1 : ByteArray) : Option (List ByteArray) := semver_split.l0 k a0 a1 ([] : List ByteArray) 0 0
theorem semver_split.mono_l : ∀ k, (∀ y0 y1 y2 y3 y4, LeO (semver_split.l0 k y0 y1 y2 y3 y4) (semver_split.l0 (k + 1) y0 y1 y2 y3 y4))
 | 0 => fun _ _ _ _ _ r h => by simp [semver_split.l0] at h
 | k + 1 => by
  have ih0 := semver_split.mono_l k
  ·intro y0 y1 y2 y3 y4
   unfold semver_split.l0
   repeat' first
   | (with_reducible exact ih0 _ _ _ _ _)
   | (with_reducible exact LeO.refl _)
   | (with_reducible exact LeO.none _)
   | (with_reducible refine LeO.ite ?_ ?_)
   | (with_reducible refine LeO.bind ?_ (fun _ => ?_))
   | exact ih0 _ _ _ _ _
   | exact LeO.none _
   | refine LeO.ite ?_ ?_
   | refine LeO.bind ?_ (fun _ => ?_)
theorem semver_split.mono : ∀ a0 a1 k, LeO (semver_split.f k a0 a1) (semver_split.f (k + 1) a0 a1) := by
 intro a0 a1 k
 have ih0 := semver_split.mono_l k
 unfold semver_split.f
 repeat' first
   | (with_reducible exact ih0 _ _ _ _ _)
   | (with_reducible exact LeO.refl _)
   | (with_reducible exact LeO.none _)
   | (with_reducible refine LeO.ite ?_ ?_)
   | (with_reducible refine LeO.bind ?_ (fun _ => ?_))
   | exact ih0 _ _ _ _ _
   | exact LeO.none _
   | refine LeO.ite ?_ ?_
   | refine LeO.bind ?_ (fun _ => ?_)
set_option maxHeartbeats 8000000 in
set_option maxRecDepth 100000 in
theorem semver_split.calls (k : Nat) (a0 : ByteArray) (a1 : ByteArray) (r : List ByteArray) (w : World) (h : semver_split.f k a0 a1 = some r) :
  Calls Tryz.prog 140 #[.string a0, .string a1] w fun e w' => ∃ v0_ : Value, e = .returned (v0_) ∧ Kd.R Kd.string 9 w' w.heap.size (fun _ => True) v0_ r ∧ Below w.heap.size w w' := by
 have HB := Aside0.mk (Below.refl w.heap.size w)
 have H : (semver_split.l0 k a0 a1 ([] : List ByteArray) 0 0) = some r := h
 clear h
 have H' := Aside0.mk H
 clear H
 go_enter Tryz.func140, Tryz.ntmps140
 go_wp2
 go_loopg [5, 6, 7] k (fun kq v5 v6 v7 w' => ∃ (x5_1 : List ByteArray) (x6_1 : Int) (x7_1 : Int), v6 = .int .i64 x6_1 ∧ v7 = .int .i64 x7_1 ∧ Aside0 (semver_split.l0 kq a0 a1 x5_1 x6_1 x7_1 = some r) ∧ Aside0 (kq ≤ k) ∧ Aside0 (Kd.R Kd.string 9 w' w.heap.size (fun _ => True) v5 x5_1) ∧ Aside0 (Below w.heap.size w w'))
 case atStart => exact ⟨(([] : List ByteArray)), (0), (0), (by first | rfl | (simp; done) | (simp [*]; done)), (by first | rfl | (simp; done) | (simp [*]; done)), H', ⟨Nat.le_refl _⟩, ⟨by first | exact Kd.R_nil _ _ _ _ _ | exact Kd.N_nil _ _ _ _ _ | exact Kd.V_nil _ _ _ _ _ | exact Kd.Q_nil _ _ _ _ _ | exact Kd.S_nil _ _ _ _ _⟩, ⟨by repeat (first | (with_reducible first | exact HB.out | apply below_alloc | apply pw_below_drewN | apply below_drew1) | exact HB.out)⟩⟩
 case round =>
  clear H'
  try clear c1
  try clear p2
  obtain ⟨x5_1, x6_1, x7_1, rfl, rfl, HA, HK1, HO_5, HB⟩ := hrel
  cases gk with
  | zero => exact absurd HA.out (by simp [semver_split.l0])
  | succ k1 =>
   have H := HA.out
   clear HA
   simp only [semver_split.l0] at H
   by_cases c3 : (wrap64 (x7_1 + (a1.size : Int))) ≤ (a0.size : Int)
   ·rw [if_pos c3] at H
    have c3b0 : decide ((wrap64 (x7_1 + (a1.size : Int))) ≤ (a0.size : Int)) = true := decide_eq_true c3
    clear c3
    by_cases c4 : 0 ≤ x7_1
    ·rw [if_pos c4] at H
     have c4b0 := eq_true c4
     have c4b1 : decide (0 ≤ x7_1) = true := decide_eq_true c4
     clear c4
     by_cases c5 : x7_1 ≤ (wrap64 (x7_1 + (a1.size : Int)))
     ·rw [if_pos c5] at H
      have c5b0 := eq_true c5
      have c5b1 : decide (x7_1 ≤ (wrap64 (x7_1 + (a1.size : Int)))) = true := decide_eq_true c5
      have c6b0 := eq_true (of_decide_eq_true (by first | (with_reducible assumption) | assumption) : (wrap64 (x7_1 + (a1.size : Int))) ≤ (a0.size : Int))
      by_cases c7 : (a0.extract (x7_1 : Int).toNat ((wrap64 (x7_1 + (a1.size : Int))) : Int).toNat).toList = a1.toList
      ·rw [if_pos c7] at H
       have c7b0 : ((a0.extract (x7_1 : Int).toNat ((wrap64 (x7_1 + (a1.size : Int))) : Int).toNat).toList == a1.toList) = true := beq_iff_eq.mpr c7
       have c7b1 : ((a0.extract (x7_1 : Int).toNat ((wrap64 (x7_1 + (a1.size : Int))) : Int).toNat).toList != a1.toList) = false := bne_eq_false_iff_eq.mpr c7
       clear c7
       by_cases c8 : 0 ≤ x6_1
       ·rw [if_pos c8] at H
        have c8b0 := eq_true c8
        have c8b1 : decide (0 ≤ x6_1) = true := decide_eq_true c8
        clear c8
        by_cases c9 : x6_1 ≤ x7_1
        ·rw [if_pos c9] at H
         have c9b0 := eq_true c9
         have c9b1 : decide (x6_1 ≤ x7_1) = true := decide_eq_true c9
         clear c9
         by_cases c10 : x7_1 ≤ (a0.size : Int)
         ·rw [if_pos c10] at H
          have c10b0 := eq_true c10
          have c10b1 : decide (x7_1 ≤ (a0.size : Int)) = true := decide_eq_true c10
          clear c10
          by_cases c11 : x5_1.length < 8796093022208
          ·rw [if_pos c11] at H
           have LMc11 := Aside0.mk c11
           clear c11
           obtain ⟨y137, hy137⟩ : ∃ y_ : List ByteArray, y_ = (x5_1 ++ [a0.extract (x6_1 : Int).toNat (x7_1 : Int).toNat]) := ⟨_, rfl⟩
           replace H : (semver_split.l0 k1 a0 a1 y137 (wrap64 (x7_1 + (a1.size : Int))) (wrap64 ((wrap64 ((wrap64 (x7_1 + (a1.size : Int))) - 1)) + 1))) = some r := by first | (rw [hy137]; with_reducible exact H) | (have H2_ := (Option.bind_some _ _).symm.trans H; rw [hy137]; with_reducible exact H2_) | (have H2_ := (Option.bind_some _ _).symm.trans H; with_reducible exact H2_) | with_reducible exact H | (rw [hy137]; exact H) | exact H
           have Ny137 := Aside0.mk hy137
           clear hy137
           have H' := Aside0.mk H
           clear H
           go_wp2_with (first | ((with_reducible refine gate_builtin (b := .append) (xs := #[.tmp 26, .tmp 31]) rfl ?_); at_builtin; refine Kd.R_append Kd.string (w0 := w) w.heap.size rfl (.tmp 26) (.tmp 31) 48 9 (.string ⟨#[]⟩) 16 rfl Tryz.underlying48 info9 rfl (by decide) (by omega) u5 x5_1 (a0.extract (x6_1 : Int).toNat (x7_1 : Int).toNat) [.string (a0.extract (x6_1 : Int).toNat (x7_1 : Int).toNat)] (fun _ => True) (fun _ => False) rfl rfl ?aP (fun _ hk => hk.elim) ?aF ?aO ?aB ?aS ?aL ?_; (case aP => exact rfl); (case aB => exact (by repeat (first | (with_reducible first | exact HB.out | apply below_alloc | apply pw_below_drewN | apply below_drew1) | exact HB.out))); (case aF => exact (fun _ _ => trivial)); (case aO => exact (by (with_reducible repeat (first | apply Kd.R_alloc | apply Kd.R_drewN | apply Kd.R_drew)); exact HO_5.out)); (case aS => exact (below_size (by repeat (first | (with_reducible first | exact HB.out | apply below_alloc | apply pw_below_drewN | apply below_drew1) | exact HB.out)))); (case aL => have := LMc11.out; omega); intro v138 w12 ho hb hg hat; rw [← Ny137.out] at ho; have n0_ := Aside0.mk (hb); have n1_ := Aside0.mk (ho); clear HB; clear HO_5; have HB := n0_; have HO139 := n1_; clear n0_ n1_; clear ho hb hg hat))
           go_roundg k1
           case measure => have := HK1.out; omega
           case rel => exact ⟨(y137), (wrap64 (x7_1 + (a1.size : Int))), (wrap64 ((wrap64 ((wrap64 (x7_1 + (a1.size : Int))) - 1)) + 1)), (by first | rfl | (simp; done) | (simp [*]; done)), (by first | rfl | (simp; done) | (simp [*]; done)), H', ⟨by have := HK1.out; omega⟩, ⟨by (with_reducible repeat (first | apply Kd.R_alloc | apply Kd.R_drewN | apply Kd.R_drew)); exact HO139.out⟩, ⟨by repeat (first | (with_reducible first | exact HB.out | apply below_alloc | apply pw_below_drewN | apply below_drew1) | exact HB.out)⟩⟩
          ·rw [if_neg c11] at H
           exact absurd H (by simp)
         ·rw [if_neg c10] at H
          exact absurd H (by simp)
        ·rw [if_neg c9] at H
         exact absurd H (by simp)
       ·rw [if_neg c8] at H
        exact absurd H (by simp)
      ·rw [if_neg c7] at H
       have c7b0 : ((a0.extract (x7_1 : Int).toNat ((wrap64 (x7_1 + (a1.size : Int))) : Int).toNat).toList == a1.toList) = false := beq_eq_false_iff_ne.mpr c7
       have c7b1 : ((a0.extract (x7_1 : Int).toNat ((wrap64 (x7_1 + (a1.size : Int))) : Int).toNat).toList != a1.toList) = true := bne_iff_ne.mpr c7
       have H' := Aside0.mk H
       clear H
       go_wp2
       go_roundg k1
       case measure => have := HK1.out; omega
       case rel => exact ⟨(x5_1), (x6_1), (wrap64 (x7_1 + 1)), (by first | rfl | (simp; done) | (simp [*]; done)), (by first | rfl | (simp; done) | (simp [*]; done)), H', ⟨by have := HK1.out; omega⟩, ⟨by (with_reducible repeat (first | apply Kd.R_alloc | apply Kd.R_drewN | apply Kd.R_drew)); exact HO_5.out⟩, ⟨by repeat (first | (with_reducible first | exact HB.out | apply below_alloc | apply pw_below_drewN | apply below_drew1) | exact HB.out)⟩⟩
     ·rw [if_neg c5] at H
      exact absurd H (by simp)
    ·rw [if_neg c4] at H
     exact absurd H (by simp)
   ·rw [if_neg c3] at H
    have c3b0 : decide ((wrap64 (x7_1 + (a1.size : Int))) ≤ (a0.size : Int)) = false := decide_eq_false c3
    clear c3
    by_cases c13 : 0 ≤ x6_1
    ·rw [if_pos c13] at H
     have c13b0 := eq_true c13
     have c13b1 : decide (0 ≤ x6_1) = true := decide_eq_true c13
     clear c13
     by_cases c14 : x6_1 ≤ (a0.size : Int)
     ·rw [if_pos c14] at H
      have c14b0 := eq_true c14
      have c14b1 : decide (x6_1 ≤ (a0.size : Int)) = true := decide_eq_true c14
      clear c14
      by_cases c15 : x5_1.length < 8796093022208
      ·rw [if_pos c15] at H
       have LMc15 := Aside0.mk c15
       clear c15
       obtain ⟨y140, hy140⟩ : ∃ y_ : List ByteArray, y_ = (x5_1 ++ [a0.extract (x6_1 : Int).toNat a0.size]) := ⟨_, rfl⟩
       replace H : (some y140) = some r := by first | (rw [hy140]; with_reducible exact H) | (have H2_ := (Option.bind_some _ _).symm.trans H; rw [hy140]; with_reducible exact H2_) | (have H2_ := (Option.bind_some _ _).symm.trans H; with_reducible exact H2_) | with_reducible exact H | (rw [hy140]; exact H) | exact H
       have Ny140 := Aside0.mk hy140
       clear hy140
       obtain rfl := Option.some.inj H
       go_wp2_with (first | ((with_reducible refine gate_builtin (b := .append) (xs := #[.tmp 39, .tmp 43]) rfl ?_); at_builtin; refine Kd.R_append Kd.string (w0 := w) w.heap.size rfl (.tmp 39) (.tmp 43) 48 9 (.string ⟨#[]⟩) 16 rfl Tryz.underlying48 info9 rfl (by decide) (by omega) u5 x5_1 (a0.extract (x6_1 : Int).toNat a0.size) [.string (a0.extract (x6_1 : Int).toNat a0.size)] (fun _ => True) (fun _ => False) rfl rfl ?aP (fun _ hk => hk.elim) ?aF ?aO ?aB ?aS ?aL ?_; (case aP => exact rfl); (case aB => exact (by repeat (first | (with_reducible first | exact HB.out | apply below_alloc | apply pw_below_drewN | apply below_drew1) | exact HB.out))); (case aF => exact (fun _ _ => trivial)); (case aO => exact (by (with_reducible repeat (first | apply Kd.R_alloc | apply Kd.R_drewN | apply Kd.R_drew)); exact HO_5.out)); (case aS => exact (below_size (by repeat (first | (with_reducible first | exact HB.out | apply below_alloc | apply pw_below_drewN | apply below_drew1) | exact HB.out)))); (case aL => have := LMc15.out; omega); intro v141 w16 ho hb hg hat; rw [← Ny140.out] at ho; have n0_ := Aside0.mk (hb); have n1_ := Aside0.mk (ho); clear HB; clear HO_5; have HB := n0_; have HO142 := n1_; clear n0_ n1_; clear ho hb hg hat))
       go_ret
       exact ⟨_, by first | rfl | (simp [errW_none, errW_some] <;> rfl) | (simp [*, errW_none, errW_some] <;> rfl), by (with_reducible repeat (first | apply Kd.R_alloc | apply Kd.R_drewN | apply Kd.R_drew)); exact HO142.out, by repeat (first | (with_reducible first | exact HB.out | apply below_alloc | apply pw_below_drewN | apply below_drew1) | exact HB.out)⟩
      ·rw [if_neg c15] at H
       exact absurd H (by simp)
     ·rw [if_neg c14] at H
      exact absurd H (by simp)
    ·rw [if_neg c13] at H
     exact absurd H (by simp)
end Go.Proofs.YtgoeiflddikihaaGreatDoor.PFnIntersectAny
end
section
namespace Go.Proofs.YtgoeiflddikihaaGreatDoor.Pcompare
open Go.RowKit Go.Proofs.YtgoeiflddikihaaGreatDoorW.PrintWords Go.Proofs.YtgoeiflddikihaaGreatDoorW.PrintLast Go.Proofs.YtgoeiflddikihaaGreatDoorW.PrintMore
attribute [local go_sem] max2_int min2_int max_two min_two max_three min_three max_four min_four   -- for this text's walks alone
set_option linter.unusedVariables false
set_option linter.unusedSimpArgs false
def semver_number.l0 : Nat → ByteArray → Int → Option (Bool)
  | 0, _, _ => none
  | k + 1, x0, x3 => if x3 < (x0.size : Int) then (if 0 ≤ x3 then (if (bt x0 x3) < 48 then (some false) else (if (bt x0 x3) > 57 then (some false) else (semver_number.l0 k x0 (wrap64 (x3 + 1))))) else (none)) else (some (x0.toList != ([] : List UInt8)))
def semver_number.f (k : Nat) (a0 : ByteArray) : Option (Bool) := semver_number.l0 k a0 0
theorem semver_number.mono_l : ∀ k, (∀ y0 y1, LeO (semver_number.l0 k y0 y1) (semver_number.l0 (k + 1) y0 y1))
  | 0 => fun _ _ r h => by simp [semver_number.l0] at h
  | k + 1 => by
    have ih0 := semver_number.mono_l k
    · intro y0 y1
      unfold semver_number.l0
      repeat' first
      | (with_reducible exact ih0 _ _)
      | (with_reducible exact LeO.refl _)
      | (with_reducible exact LeO.none _)
      | (with_reducible refine LeO.ite ?_ ?_)
      | (with_reducible refine LeO.bind ?_ (fun _ => ?_))
      | exact ih0 _ _
      | exact LeO.none _
      | refine LeO.ite ?_ ?_
      | refine LeO.bind ?_ (fun _ => ?_)
theorem semver_number.mono : ∀ a0 k, LeO (semver_number.f k a0) (semver_number.f (k + 1) a0) := by
  intro a0 k
  have ih0 := semver_number.mono_l k
  unfold semver_number.f
  repeat' first
      | (with_reducible exact ih0 _ _)
      | (with_reducible exact LeO.refl _)
      | (with_reducible exact LeO.none _)
      | (with_reducible refine LeO.ite ?_ ?_)
      | (with_reducible refine LeO.bind ?_ (fun _ => ?_))
      | exact ih0 _ _
      | exact LeO.none _
      | refine LeO.ite ?_ ?_
      | refine LeO.bind ?_ (fun _ => ?_)
set_option maxHeartbeats 8000000 in
set_option maxRecDepth 100000 in
theorem semver_number.calls (k : Nat) (a0 : ByteArray) (r : Bool) (w : World) (h : semver_number.f k a0 = some r) :
    Calls Tryz.prog 212 #[.string a0] w fun e w' => e = .returned (.bool r) ∧ Drawn0 w w' := by
  have H : (semver_number.l0 k a0 0) = some r := h
  clear h
  have H' := Aside0.mk H
  clear H
  go_enter Tryz.func212, Tryz.ntmps212
  go_wp2
  go_loopg [3] k (fun kq v3 w' => ∃ (x3_1 : Int), v3 = .int .i64 x3_1 ∧ Aside0 (semver_number.l0 kq a0 x3_1 = some r) ∧ Aside0 (kq ≤ k) ∧ Drawn0 w w')
  case atStart => exact ⟨(0), (by first | rfl | (simp; done) | (simp [*]; done)), H', ⟨Nat.le_refl _⟩, by repeat (first | exact Drawn0.refl _ | apply Drawn0.step)⟩
  case round =>
    clear H'
    obtain ⟨x3_1, rfl, HA, HK1, ⟨m1, rfl⟩⟩ := hrel
    cases gk with
    | zero => exact absurd HA.out (by simp [semver_number.l0])
    | succ k1 =>
      have H := HA.out
      clear HA
      simp only [semver_number.l0] at H
      by_cases c2 : x3_1 < (a0.size : Int)
      · rw [if_pos c2] at H
        have c2b0 : decide (x3_1 < (a0.size : Int)) = true := decide_eq_true c2
        clear c2
        by_cases c3 : 0 ≤ x3_1
        · rw [if_pos c3] at H
          have c3b0 : decide (0 ≤ x3_1) = true := decide_eq_true c3
          clear c3
          by_cases c5 : (bt a0 x3_1) < 48
          · rw [if_pos c5] at H
            have c5b0 : decide ((bt a0 x3_1) < 48) = true := decide_eq_true c5
            clear c5
            obtain rfl := Option.some.inj H
            have p4 : 0 ≤ (x3_1 : Int) := of_decide_eq_true (by first | (with_reducible assumption) | assumption)
            have q4 : x3_1 < (a0.size : Int) := of_decide_eq_true (by first | (with_reducible assumption) | assumption)
            have hx4 := bt_at a0 x3_1
            replace p4 := eq_true p4
            replace q4 := eq_true q4
            go_wp2
            go_ret
            exact ⟨by first | rfl | (simp; done) | (simp [*]; done), by repeat (first | exact Drawn0.refl _ | apply Drawn0.step)⟩
          · rw [if_neg c5] at H
            have c5b0 : decide ((bt a0 x3_1) < 48) = false := decide_eq_false c5
            clear c5
            by_cases c7 : (bt a0 x3_1) > 57
            · rw [if_pos c7] at H
              have c7b0 : decide (57 < (bt a0 x3_1)) = true := decide_eq_true c7
              clear c7
              obtain rfl := Option.some.inj H
              have p4 : 0 ≤ (x3_1 : Int) := of_decide_eq_true (by first | (with_reducible assumption) | assumption)
              have q4 : x3_1 < (a0.size : Int) := of_decide_eq_true (by first | (with_reducible assumption) | assumption)
              have hx4 := bt_at a0 x3_1
              replace p4 := eq_true p4
              replace q4 := eq_true q4
              have p6 : 0 ≤ (x3_1 : Int) := of_decide_eq_true (by first | (with_reducible assumption) | assumption)
              have q6 : x3_1 < (a0.size : Int) := of_decide_eq_true (by first | (with_reducible assumption) | assumption)
              have hx6 := bt_at a0 x3_1
              replace p6 := eq_true p6
              replace q6 := eq_true q6
              go_wp2
              go_ret
              exact ⟨by first | rfl | (simp; done) | (simp [*]; done), by repeat (first | exact Drawn0.refl _ | apply Drawn0.step)⟩
            · rw [if_neg c7] at H
              have c7b0 : decide (57 < (bt a0 x3_1)) = false := decide_eq_false c7
              clear c7
              have H' := Aside0.mk H
              clear H
              have p4 : 0 ≤ (x3_1 : Int) := of_decide_eq_true (by first | (with_reducible assumption) | assumption)
              have q4 : x3_1 < (a0.size : Int) := of_decide_eq_true (by first | (with_reducible assumption) | assumption)
              have hx4 := bt_at a0 x3_1
              replace p4 := eq_true p4
              replace q4 := eq_true q4
              have p6 : 0 ≤ (x3_1 : Int) := of_decide_eq_true (by first | (with_reducible assumption) | assumption)
              have q6 : x3_1 < (a0.size : Int) := of_decide_eq_true (by first | (with_reducible assumption) | assumption)
              have hx6 := bt_at a0 x3_1
              replace p6 := eq_true p6
              replace q6 := eq_true q6
              go_wp2
              go_roundg k1
              case measure => have := HK1.out; omega
              case rel => exact ⟨(wrap64 (x3_1 + 1)), (by first | rfl | (simp; done) | (simp [*]; done)), H', ⟨by have := HK1.out; omega⟩, by repeat (first | exact Drawn0.refl _ | apply Drawn0.step)⟩
        · rw [if_neg c3] at H
          exact absurd H (by simp)
      · rw [if_neg c2] at H
        have c2b0 : decide (x3_1 < (a0.size : Int)) = false := decide_eq_false c2
        clear c2
        obtain rfl := Option.some.inj H
        go_wp2
        go_ret
        refine ⟨?_, by repeat (first | exact Drawn0.refl _ | apply Drawn0.step)⟩
        show Ending.returned (Value.bool (!a0.toList.isEmpty)) = _
        cases a0.toList <;> rfl
def semver_bare.l0 : Nat → ByteArray → Option (ByteArray)
  | 0, _ => none
  | k + 1, x0 => if (x0.size : Int) > 1 then (if 0 < (x0.size : Int) then (if (bt x0 0) = 48 then (if 1 ≤ (x0.size : Int) then (semver_bare.l0 k (x0.extract 1 x0.size)) else (none)) else (some x0)) else (none)) else (some x0)
def semver_bare.f (k : Nat) (a0 : ByteArray) : Option (ByteArray) := semver_bare.l0 k a0
theorem semver_bare.mono_l : ∀ k, (∀ y0, LeO (semver_bare.l0 k y0) (semver_bare.l0 (k + 1) y0))
  | 0 => fun _ r h => by simp [semver_bare.l0] at h
  | k + 1 => by
    have ih0 := semver_bare.mono_l k
    · intro y0
      unfold semver_bare.l0
      repeat' first
      | (with_reducible exact ih0 _)
      | (with_reducible exact LeO.refl _)
      | (with_reducible exact LeO.none _)
      | (with_reducible refine LeO.ite ?_ ?_)
      | (with_reducible refine LeO.bind ?_ (fun _ => ?_))
      | exact ih0 _
      | exact LeO.none _
      | refine LeO.ite ?_ ?_
      | refine LeO.bind ?_ (fun _ => ?_)
theorem semver_bare.mono : ∀ a0 k, LeO (semver_bare.f k a0) (semver_bare.f (k + 1) a0) := by
  intro a0 k
  have ih0 := semver_bare.mono_l k
  unfold semver_bare.f
  repeat' first
      | (with_reducible exact ih0 _)
      | (with_reducible exact LeO.refl _)
      | (with_reducible exact LeO.none _)
      | (with_reducible refine LeO.ite ?_ ?_)
      | (with_reducible refine LeO.bind ?_ (fun _ => ?_))
      | exact ih0 _
      | exact LeO.none _
      | refine LeO.ite ?_ ?_
      | refine LeO.bind ?_ (fun _ => ?_)
set_option maxHeartbeats 8000000 in
set_option maxRecDepth 100000 in
theorem semver_bare.calls (k : Nat) (a0 : ByteArray) (r : ByteArray) (w : World) (h : semver_bare.f k a0 = some r) :
    Calls Tryz.prog 213 #[.string a0] w fun e w' => e = .returned (.string r) ∧ Drawn0 w w' := by
  have H : (semver_bare.l0 k a0) = some r := h
  clear h
  have H' := Aside0.mk H
  clear H
  go_enter Tryz.func213, Tryz.ntmps213
  go_wp2
  go_loopg [0] k (fun kq v0 w' => ∃ (x0_1 : ByteArray), v0 = .string x0_1 ∧ Aside0 (semver_bare.l0 kq x0_1 = some r) ∧ Aside0 (kq ≤ k) ∧ Drawn0 w w')
  case atStart => exact ⟨(a0), (by first | rfl | (simp; done) | (simp [*]; done)), H', ⟨Nat.le_refl _⟩, by repeat (first | exact Drawn0.refl _ | apply Drawn0.step)⟩
  case round =>
    clear H'
    obtain ⟨x0_1, rfl, HA, HK1, ⟨m1, rfl⟩⟩ := hrel
    cases gk with
    | zero => exact absurd HA.out (by simp [semver_bare.l0])
    | succ k1 =>
      have H := HA.out
      clear HA
      simp only [semver_bare.l0] at H
      by_cases c2 : (x0_1.size : Int) > 1
      · rw [if_pos c2] at H
        have c2b0 : decide (1 < (x0_1.size : Int)) = true := decide_eq_true c2
        have c2b1 : decide (1 < x0_1.size) = true := decide_eq_true (by omega)
        clear c2
        by_cases c3 : 0 < (x0_1.size : Int)
        · rw [if_pos c3] at H
          have c3b0 : decide (0 < (x0_1.size : Int)) = true := decide_eq_true c3
          have c3b1 : decide (0 < x0_1.size) = true := decide_eq_true (by omega)
          clear c3
          by_cases c5 : (bt x0_1 0) = 48
          · rw [if_pos c5] at H
            have c5b0 : ((bt x0_1 0) == 48) = true := beq_iff_eq.mpr c5
            have c5b1 : ((bt x0_1 0) != 48) = false := bne_eq_false_iff_eq.mpr c5
            clear c5
            by_cases c6 : 1 ≤ (x0_1.size : Int)
            · rw [if_pos c6] at H
              have c6b0 := eq_true c6
              have c6b1 : decide (1 ≤ (x0_1.size : Int)) = true := decide_eq_true c6
              clear c6
              have H' := Aside0.mk H
              clear H
              have p4 : 0 ≤ (0 : Int) := (by omega)
              have q4 : 0 < x0_1.size := (by have : (0 : Int) < (x0_1.size : Int) := of_decide_eq_true (by first | (with_reducible assumption) | assumption); omega)
              have hx4 : ∀ h : 0 < x0_1.size, ((x0_1[0]'h).toNat : Int) = bt x0_1 0 := bt_at x0_1 0
              clear p4
              have qi4 : (0 < (x0_1.size : Int)) = True := eq_true (of_decide_eq_true (by first | (with_reducible assumption) | assumption))
              replace q4 := eq_true q4
              go_wp2
              go_roundg k1
              case measure => have := HK1.out; omega
              case rel => exact ⟨(x0_1.extract 1 x0_1.size), (by first | rfl | (simp; done) | (simp [*]; done)), H', ⟨by have := HK1.out; omega⟩, by repeat (first | exact Drawn0.refl _ | apply Drawn0.step)⟩
            · rw [if_neg c6] at H
              exact absurd H (by simp)
          · rw [if_neg c5] at H
            have c5b0 : ((bt x0_1 0) == 48) = false := beq_eq_false_iff_ne.mpr c5
            have c5b1 : ((bt x0_1 0) != 48) = true := bne_iff_ne.mpr c5
            obtain rfl := Option.some.inj H
            have p4 : 0 ≤ (0 : Int) := (by omega)
            have q4 : 0 < x0_1.size := (by have : (0 : Int) < (x0_1.size : Int) := of_decide_eq_true (by first | (with_reducible assumption) | assumption); omega)
            have hx4 : ∀ h : 0 < x0_1.size, ((x0_1[0]'h).toNat : Int) = bt x0_1 0 := bt_at x0_1 0
            clear p4
            have qi4 : (0 < (x0_1.size : Int)) = True := eq_true (of_decide_eq_true (by first | (with_reducible assumption) | assumption))
            replace q4 := eq_true q4
            go_wp2
            go_ret
            exact ⟨by first | rfl | (simp; done) | (simp [*]; done), by repeat (first | exact Drawn0.refl _ | apply Drawn0.step)⟩
        · rw [if_neg c3] at H
          exact absurd H (by simp)
      · rw [if_neg c2] at H
        have c2b0 : decide (1 < (x0_1.size : Int)) = false := decide_eq_false c2
        have c2b1 : decide (1 < x0_1.size) = false := decide_eq_false (by omega)
        clear c2
        obtain rfl := Option.some.inj H
        go_wp2
        go_ret
        exact ⟨by first | rfl | (simp; done) | (simp [*]; done), by repeat (first | exact Drawn0.refl _ | apply Drawn0.step)⟩
end Go.Proofs.YtgoeiflddikihaaGreatDoor.Pcompare
end
section
namespace Go.Proofs.YtgoeiflddikihaaGreatDoor.PFnVersion
open Go.RowKit Go.Proofs.YtgoeiflddikihaaGreatDoorW.PrintWords Go.Proofs.YtgoeiflddikihaaGreatDoorW.PrintLast Go.Proofs.YtgoeiflddikihaaGreatDoorW.PrintMore
attribute [local go_sem] max2_int min2_int max_two min_two max_three min_three max_four min_four   -- for this text's walks alone
set_option linter.unusedVariables false
set_option linter.unusedSimpArgs false
def spec_verCut.l0 : Nat → ByteArray → Int → Int → Option (ByteArray × ByteArray × Bool)
 | 0, _, _, _ => none
 | k + 1, x0, x1, x7 => if x7 < (x0.size : Int) then (if 0 ≤ x7 then (if (bt x0 x7) = x1 then (if x7 ≤ (x0.size : Int) then (if 0 ≤ (wrap64 (x7 + 1)) then (if (wrap64 (x7 + 1)) ≤ (x0.size : Int) then (some (x0.extract 0 (x7 : Int).toNat, x0.extract ((wrap64 (x7 + 1)) : Int).toNat x0.size, true)) else (none)) else (none)) else (none)) else (spec_verCut.l0 k x0 x1 (wrap64 (x7 + 1)))) else (none)) else (some (x0, (⟨#[]⟩ : ByteArray), false))
def spec_verCut.f (k : Nat) (a0 : ByteArray) (a1 : Int) : Option (ByteArray × ByteArray × Bool) := spec_verCut.l0 k a0 a1 0
theorem spec_verCut.mono_l : ∀ k, (∀ y0 y1 y2, LeO (spec_verCut.l0 k y0 y1 y2) (spec_verCut.l0 (k + 1) y0 y1 y2))
 | 0 => fun _ _ _ r h => by simp [spec_verCut.l0] at h
 | k + 1 => by
  have ih0 := spec_verCut.mono_l k
  ·intro y0 y1 y2
   unfold spec_verCut.l0
   repeat' first
   | (with_reducible exact ih0 _ _ _)
   | (with_reducible exact LeO.refl _)
   | (with_reducible exact LeO.none _)
   | (with_reducible refine LeO.ite ?_ ?_)
   | (with_reducible refine LeO.bind ?_ (fun _ => ?_))
   | exact ih0 _ _ _
   | exact LeO.none _
   | refine LeO.ite ?_ ?_
   | refine LeO.bind ?_ (fun _ => ?_)
theorem spec_verCut.mono : ∀ a0 a1 k, LeO (spec_verCut.f k a0 a1) (spec_verCut.f (k + 1) a0 a1) := by
 intro a0 a1 k
 have ih0 := spec_verCut.mono_l k
 unfold spec_verCut.f
 repeat' first
   | (with_reducible exact ih0 _ _ _)
   | (with_reducible exact LeO.refl _)
   | (with_reducible exact LeO.none _)
   | (with_reducible refine LeO.ite ?_ ?_)
   | (with_reducible refine LeO.bind ?_ (fun _ => ?_))
   | exact ih0 _ _ _
   | exact LeO.none _
   | refine LeO.ite ?_ ?_
   | refine LeO.bind ?_ (fun _ => ?_)
set_option maxHeartbeats 8000000 in
set_option maxRecDepth 100000 in
theorem spec_verCut.calls (k : Nat) (a0 : ByteArray) (a1 : Int) (r1 : ByteArray) (r2 : ByteArray) (r3 : Bool) (w : World) (h : spec_verCut.f k a0 a1 = some (r1, r2, r3)) :
  Calls Tryz.prog 71 #[.string a0, .int .u8 a1] w fun e w' => e = .returned (.tuple #[.string r1, .string r2, .bool r3]) ∧ Drawn0 w w' := by
 have H : (spec_verCut.l0 k a0 a1 0) = some (r1, r2, r3) := h
 clear h
 have H' := Aside0.mk H
 clear H
 go_enter Tryz.func71, Tryz.ntmps71
 go_wp2
 repeat (go_quiet (fail); try go_wp2)
 go_loopg [7] k (fun kq v7 w' => ∃ (x7_1 : Int), v7 = .int .i64 x7_1 ∧ Aside0 (spec_verCut.l0 kq a0 a1 x7_1 = some (r1, r2, r3)) ∧ Aside0 (kq ≤ k) ∧ Drawn0 w w')
 case atStart => exact ⟨(0), (by first | rfl | (simp; done) | (simp [*]; done)), H', ⟨Nat.le_refl _⟩, by repeat (first | exact Drawn0.refl _ | apply Drawn0.step)⟩
 case round =>
  clear H'
  try clear p2
  obtain ⟨x7_1, rfl, HA, HK1, ⟨m1, rfl⟩⟩ := hrel
  cases gk with
  | zero => exact absurd HA.out (by simp [spec_verCut.l0])
  | succ k1 =>
   have H := HA.out
   clear HA
   simp only [spec_verCut.l0] at H
   by_cases c3 : x7_1 < (a0.size : Int)
   ·rw [if_pos c3] at H
    have c3b0 : decide (x7_1 < (a0.size : Int)) = true := decide_eq_true c3
    clear c3
    by_cases c4 : 0 ≤ x7_1
    ·rw [if_pos c4] at H
     have c4b0 : decide (0 ≤ x7_1) = true := decide_eq_true c4
     clear c4
     by_cases c6 : (bt a0 x7_1) = a1
     ·rw [if_pos c6] at H
      have c6b0 : ((bt a0 x7_1) == a1) = true := beq_iff_eq.mpr c6
      have c6b1 : ((bt a0 x7_1) != a1) = false := bne_eq_false_iff_eq.mpr c6
      clear c6
      have c7b0 := eq_true (of_decide_eq_true (by first | (with_reducible assumption) | assumption) : 0 ≤ x7_1)
      by_cases c8 : x7_1 ≤ (a0.size : Int)
      ·rw [if_pos c8] at H
       have c8b0 := eq_true c8
       have c8b1 : decide (x7_1 ≤ (a0.size : Int)) = true := decide_eq_true c8
       clear c8
       obtain ⟨ji9, hji9⟩ : ∃ j_ : Int, (wrap64 (x7_1 + 1)) = j_ := ⟨_, rfl⟩
       replace H : (if 0 ≤ (ji9) then (if (ji9) ≤ (a0.size : Int) then (some (a0.extract 0 (x7_1 : Int).toNat, a0.extract ((ji9) : Int).toNat a0.size, true)) else (none)) else (none)) = some (r1, r2, r3) := by first | (rw [hji9] at H; exact H) | (simp only [hji9] at H ⊢; exact H)
       have hji9w : (IntKind.i64.wrap (x7_1 + 1)) = ji9 := (i64_w _).trans hji9
       by_cases c10 : 0 ≤ (ji9)
       ·rw [if_pos c10] at H
        have c10b0 := eq_true c10
        have c10b1 : decide (0 ≤ (ji9)) = true := decide_eq_true c10
        clear c10
        by_cases c11 : (ji9) ≤ (a0.size : Int)
        ·rw [if_pos c11] at H
         have c11b0 := eq_true c11
         have c11b1 : decide ((ji9) ≤ (a0.size : Int)) = true := decide_eq_true c11
         clear c11
         simp only [Option.some.injEq, Prod.mk.injEq] at H
         obtain ⟨rfl, rfl, rfl⟩ := H
         have p5 : 0 ≤ (x7_1 : Int) := of_decide_eq_true (by first | (with_reducible assumption) | assumption)
         have q5 : x7_1 < (a0.size : Int) := of_decide_eq_true (by first | (with_reducible assumption) | assumption)
         have hx5 := bt_at a0 x7_1
         replace p5 := eq_true p5
         replace q5 := eq_true q5
         go_wp2
         repeat (go_quiet (fail); try go_wp2)
         go_ret3
         exact ⟨by first | rfl | (simp; done) | (simp only [← hji9] <;> (first | rfl | simp)) | (simp [*]; done), by repeat (first | exact Drawn0.refl _ | apply Drawn0.step)⟩
        ·rw [if_neg c11] at H
         exact absurd H (by simp)
       ·rw [if_neg c10] at H
        exact absurd H (by simp)
      ·rw [if_neg c8] at H
       exact absurd H (by simp)
     ·rw [if_neg c6] at H
      have c6b0 : ((bt a0 x7_1) == a1) = false := beq_eq_false_iff_ne.mpr c6
      have c6b1 : ((bt a0 x7_1) != a1) = true := bne_iff_ne.mpr c6
      have H' := Aside0.mk H
      clear H
      have p5 : 0 ≤ (x7_1 : Int) := of_decide_eq_true (by first | (with_reducible assumption) | assumption)
      have q5 : x7_1 < (a0.size : Int) := of_decide_eq_true (by first | (with_reducible assumption) | assumption)
      have hx5 := bt_at a0 x7_1
      replace p5 := eq_true p5
      replace q5 := eq_true q5
      go_wp2
      repeat (go_quiet (fail); try go_wp2)
      go_roundg k1
      case measure => have := HK1.out; omega
      case rel => exact ⟨(wrap64 (x7_1 + 1)), (by first | rfl | (simp; done) | (simp [*]; done)), H', ⟨by have := HK1.out; omega⟩, by repeat (first | exact Drawn0.refl _ | apply Drawn0.step)⟩
    ·rw [if_neg c4] at H
     exact absurd H (by simp)
   ·rw [if_neg c3] at H
    have c3b0 : decide (x7_1 < (a0.size : Int)) = false := decide_eq_false c3
    clear c3
    simp only [Option.some.injEq, Prod.mk.injEq] at H
    obtain ⟨rfl, rfl, rfl⟩ := H
    go_wp2
    repeat (go_quiet (fail); try go_wp2)
    go_ret3
    exact ⟨by first | rfl | (simp; done) | (simp [*]; done), by repeat (first | exact Drawn0.refl _ | apply Drawn0.step)⟩
end Go.Proofs.YtgoeiflddikihaaGreatDoor.PFnVersion
end
