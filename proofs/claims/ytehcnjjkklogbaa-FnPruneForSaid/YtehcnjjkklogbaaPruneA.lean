/- What the print wrote of two functions of the reference (DepPruneOf, DepPrunes): their plain Lean functions and that the calls come to them. -/
import Derived.Test.YtehcnjjkklogbaaPFnPrunex0
namespace Go.Proofs.Ytehcnjjkklogbaa.PFnPrune
open Go.RowKit Go.Proofs.YtehcnjjkklogbaaW.PrintWords Go.Proofs.YtehcnjjkklogbaaW.PrintLast Go.Proofs.YtehcnjjkklogbaaW.PrintMore
attribute [local go_sem] max2_int min2_int max_two min_two max_three min_three max_four min_four   -- for this text's walks alone
set_option linter.unusedVariables false
set_option linter.unusedSimpArgs false

/-! ### spec_DepPruneOf: function 10 -/
def spec_DepPruneOf.l0 : Nat → ByteArray → Int → Int → Int → Option (Int × Bool)
  | 0, _, _, _, _ => none
  | k + 1, x0, x4, x7, x8 => if x8 < x7 then (if 0 ≤ x8 then (if x8 < (x0.size : Int) then (if (bt x0 x8) = 86 then (spec_DepPruneOf.l0 k x0 (Go.bits .or .u8 x4 1) x7 (wrap64 (x8 + 1))) else (if (bt x0 x8) = 85 then (spec_DepPruneOf.l0 k x0 (Go.bits .or .u8 x4 2) x7 (wrap64 (x8 + 1))) else (if (bt x0 x8) = 78 then (spec_DepPruneOf.l0 k x0 (Go.bits .or .u8 x4 4) x7 (wrap64 (x8 + 1))) else (if (bt x0 x8) = 84 then (spec_DepPruneOf.l0 k x0 (Go.bits .or .u8 x4 8) x7 (wrap64 (x8 + 1))) else (some (0, false)))))) else (none)) else (none)) else (some (x4, true))
def spec_DepPruneOf.f (k : Nat) (a0 : ByteArray) : Option (Int × Bool) := spec_DepPruneOf.l0 k a0 0 (a0.size : Int) 0
theorem spec_DepPruneOf.mono_l : ∀ k, (∀ y0 y1 y2 y3, LeO (spec_DepPruneOf.l0 k y0 y1 y2 y3) (spec_DepPruneOf.l0 (k + 1) y0 y1 y2 y3))
  | 0 => fun _ _ _ _ r h => by simp [spec_DepPruneOf.l0] at h
  | k + 1 => by
    have ih0 := spec_DepPruneOf.mono_l k
    · intro y0 y1 y2 y3
      unfold spec_DepPruneOf.l0
      repeat' first
      | (with_reducible exact ih0 _ _ _ _)
      | (with_reducible exact LeO.refl _)
      | (with_reducible exact LeO.none _)
      | (with_reducible refine LeO.ite ?_ ?_)
      | (with_reducible refine LeO.bind ?_ (fun _ => ?_))
      | exact ih0 _ _ _ _
      | exact LeO.none _
      | refine LeO.ite ?_ ?_
      | refine LeO.bind ?_ (fun _ => ?_)
theorem spec_DepPruneOf.mono : ∀ a0 k, LeO (spec_DepPruneOf.f k a0) (spec_DepPruneOf.f (k + 1) a0) := by
  intro a0 k
  have ih0 := spec_DepPruneOf.mono_l k
  unfold spec_DepPruneOf.f
  repeat' first
      | (with_reducible exact ih0 _ _ _ _)
      | (with_reducible exact LeO.refl _)
      | (with_reducible exact LeO.none _)
      | (with_reducible refine LeO.ite ?_ ?_)
      | (with_reducible refine LeO.bind ?_ (fun _ => ?_))
      | exact ih0 _ _ _ _
      | exact LeO.none _
      | refine LeO.ite ?_ ?_
      | refine LeO.bind ?_ (fun _ => ?_)
set_option maxHeartbeats 8000000 in
set_option maxRecDepth 100000 in
theorem spec_DepPruneOf.calls (k : Nat) (a0 : ByteArray) (r1 : Int) (r2 : Bool) (w : World) (h : spec_DepPruneOf.f k a0 = some (r1, r2)) :
    Calls Try.prog 10 #[.string a0] w fun e w' => e = .returned (.tuple #[.int .u8 r1, .bool r2]) ∧ Drawn0 w w' := by
  have H : (spec_DepPruneOf.l0 k a0 0 (a0.size : Int) 0) = some (r1, r2) := h
  clear h
  have H' := Aside0.mk H
  clear H
  go_enter Try.func10, Try.ntmps10
  go_wp2
  go_loopg [4, 8] k (fun kq v4 v8 w' => ∃ (x4_1 : Int) (x8_1 : Int), v4 = .int .u8 x4_1 ∧ v8 = .int .i64 x8_1 ∧ Aside0 (spec_DepPruneOf.l0 kq a0 x4_1 (a0.size : Int) x8_1 = some (r1, r2)) ∧ Aside0 (kq ≤ k) ∧ Drawn0 w w')
  case atStart => exact ⟨(0), (0), (by first | rfl | (simp; done) | (simp [*]; done)), (by first | rfl | (simp; done) | (simp [*]; done)), H', ⟨Nat.le_refl _⟩, by repeat (first | exact Drawn0.refl _ | apply Drawn0.step)⟩
  case round =>
    clear H'
    try clear c1
    obtain ⟨x4_1, x8_1, rfl, rfl, HA, HK1, ⟨m1, rfl⟩⟩ := hrel
    cases gk with
    | zero => exact absurd HA.out (by simp [spec_DepPruneOf.l0])
    | succ k1 =>
      have H := HA.out
      clear HA
      simp only [spec_DepPruneOf.l0] at H
      by_cases c2 : x8_1 < (a0.size : Int)
      · rw [if_pos c2] at H
        have c2b0 : decide (x8_1 < (a0.size : Int)) = true := decide_eq_true c2
        clear c2
        by_cases c3 : 0 ≤ x8_1
        · rw [if_pos c3] at H
          have c3b0 : decide (0 ≤ x8_1) = true := decide_eq_true c3
          clear c3
          by_cases c4 : x8_1 < (a0.size : Int)
          · rw [if_pos c4] at H
            have c4b0 : decide (x8_1 < (a0.size : Int)) = true := decide_eq_true c4
            clear c4
            by_cases c6 : (bt a0 x8_1) = 86
            · rw [if_pos c6] at H
              have c6b0 : ((bt a0 x8_1) == 86) = true := beq_iff_eq.mpr c6
              have c6b1 : ((bt a0 x8_1) != 86) = false := bne_eq_false_iff_eq.mpr c6
              clear c6
              have H' := Aside0.mk H
              clear H
              have p5 : 0 ≤ (x8_1 : Int) := of_decide_eq_true (by first | (with_reducible assumption) | assumption)
              have q5 : x8_1 < (a0.size : Int) := of_decide_eq_true (by first | (with_reducible assumption) | assumption)
              have hx5 := bt_at a0 x8_1
              replace p5 := eq_true p5
              replace q5 := eq_true q5
              go_wp2
              go_roundg k1
              case measure => have := HK1.out; omega
              case rel => exact ⟨(Go.bits .or .u8 x4_1 1), (wrap64 (x8_1 + 1)), (by first | rfl | (simp; done) | (simp [*]; done)), (by first | rfl | (simp; done) | (simp [*]; done)), H', ⟨by have := HK1.out; omega⟩, by repeat (first | exact Drawn0.refl _ | apply Drawn0.step)⟩
            · rw [if_neg c6] at H
              have c6b0 : ((bt a0 x8_1) == 86) = false := beq_eq_false_iff_ne.mpr c6
              have c6b1 : ((bt a0 x8_1) != 86) = true := bne_iff_ne.mpr c6
              by_cases c7 : (bt a0 x8_1) = 85
              · rw [if_pos c7] at H
                have c7b0 : ((bt a0 x8_1) == 85) = true := beq_iff_eq.mpr c7
                have c7b1 : ((bt a0 x8_1) != 85) = false := bne_eq_false_iff_eq.mpr c7
                clear c7
                have H' := Aside0.mk H
                clear H
                have p5 : 0 ≤ (x8_1 : Int) := of_decide_eq_true (by first | (with_reducible assumption) | assumption)
                have q5 : x8_1 < (a0.size : Int) := of_decide_eq_true (by first | (with_reducible assumption) | assumption)
                have hx5 := bt_at a0 x8_1
                replace p5 := eq_true p5
                replace q5 := eq_true q5
                go_wp2
                go_roundg k1
                case measure => have := HK1.out; omega
                case rel => exact ⟨(Go.bits .or .u8 x4_1 2), (wrap64 (x8_1 + 1)), (by first | rfl | (simp; done) | (simp [*]; done)), (by first | rfl | (simp; done) | (simp [*]; done)), H', ⟨by have := HK1.out; omega⟩, by repeat (first | exact Drawn0.refl _ | apply Drawn0.step)⟩
              · rw [if_neg c7] at H
                have c7b0 : ((bt a0 x8_1) == 85) = false := beq_eq_false_iff_ne.mpr c7
                have c7b1 : ((bt a0 x8_1) != 85) = true := bne_iff_ne.mpr c7
                by_cases c8 : (bt a0 x8_1) = 78
                · rw [if_pos c8] at H
                  have c8b0 : ((bt a0 x8_1) == 78) = true := beq_iff_eq.mpr c8
                  have c8b1 : ((bt a0 x8_1) != 78) = false := bne_eq_false_iff_eq.mpr c8
                  clear c8
                  have H' := Aside0.mk H
                  clear H
                  have p5 : 0 ≤ (x8_1 : Int) := of_decide_eq_true (by first | (with_reducible assumption) | assumption)
                  have q5 : x8_1 < (a0.size : Int) := of_decide_eq_true (by first | (with_reducible assumption) | assumption)
                  have hx5 := bt_at a0 x8_1
                  replace p5 := eq_true p5
                  replace q5 := eq_true q5
                  go_wp2
                  go_roundg k1
                  case measure => have := HK1.out; omega
                  case rel => exact ⟨(Go.bits .or .u8 x4_1 4), (wrap64 (x8_1 + 1)), (by first | rfl | (simp; done) | (simp [*]; done)), (by first | rfl | (simp; done) | (simp [*]; done)), H', ⟨by have := HK1.out; omega⟩, by repeat (first | exact Drawn0.refl _ | apply Drawn0.step)⟩
                · rw [if_neg c8] at H
                  have c8b0 : ((bt a0 x8_1) == 78) = false := beq_eq_false_iff_ne.mpr c8
                  have c8b1 : ((bt a0 x8_1) != 78) = true := bne_iff_ne.mpr c8
                  by_cases c9 : (bt a0 x8_1) = 84
                  · rw [if_pos c9] at H
                    have c9b0 : ((bt a0 x8_1) == 84) = true := beq_iff_eq.mpr c9
                    have c9b1 : ((bt a0 x8_1) != 84) = false := bne_eq_false_iff_eq.mpr c9
                    clear c9
                    have H' := Aside0.mk H
                    clear H
                    have p5 : 0 ≤ (x8_1 : Int) := of_decide_eq_true (by first | (with_reducible assumption) | assumption)
                    have q5 : x8_1 < (a0.size : Int) := of_decide_eq_true (by first | (with_reducible assumption) | assumption)
                    have hx5 := bt_at a0 x8_1
                    replace p5 := eq_true p5
                    replace q5 := eq_true q5
                    go_wp2
                    go_roundg k1
                    case measure => have := HK1.out; omega
                    case rel => exact ⟨(Go.bits .or .u8 x4_1 8), (wrap64 (x8_1 + 1)), (by first | rfl | (simp; done) | (simp [*]; done)), (by first | rfl | (simp; done) | (simp [*]; done)), H', ⟨by have := HK1.out; omega⟩, by repeat (first | exact Drawn0.refl _ | apply Drawn0.step)⟩
                  · rw [if_neg c9] at H
                    have c9b0 : ((bt a0 x8_1) == 84) = false := beq_eq_false_iff_ne.mpr c9
                    have c9b1 : ((bt a0 x8_1) != 84) = true := bne_iff_ne.mpr c9
                    simp only [Option.some.injEq, Prod.mk.injEq] at H
                    obtain ⟨rfl, rfl⟩ := H
                    have p5 : 0 ≤ (x8_1 : Int) := of_decide_eq_true (by first | (with_reducible assumption) | assumption)
                    have q5 : x8_1 < (a0.size : Int) := of_decide_eq_true (by first | (with_reducible assumption) | assumption)
                    have hx5 := bt_at a0 x8_1
                    replace p5 := eq_true p5
                    replace q5 := eq_true q5
                    go_wp2
                    go_ret2
                    exact ⟨by first | rfl | (simp; done) | (simp [*]; done), by repeat (first | exact Drawn0.refl _ | apply Drawn0.step)⟩
          · rw [if_neg c4] at H
            exact absurd H (by simp)
        · rw [if_neg c3] at H
          exact absurd H (by simp)
      · rw [if_neg c2] at H
        have c2b0 : decide (x8_1 < (a0.size : Int)) = false := decide_eq_false c2
        clear c2
        simp only [Option.some.injEq, Prod.mk.injEq] at H
        obtain ⟨rfl, rfl⟩ := H
        go_wp2
        go_ret2
        exact ⟨by first | rfl | (simp; done) | (simp [*]; done), by repeat (first | exact Drawn0.refl _ | apply Drawn0.step)⟩

/-! ### spec_DepPrunes: function 11 -/
def spec_DepPrunes.l0 : Nat → Int → ByteArray → List (S41) → Int → Int → Option (ByteArray)
  | 0, _, _, _, _, _ => none
  | k + 1, x0, x3, x10, x11, x12 => if x12 < x11 then (if 0 ≤ x12 then (if x12 < (x10.length : Int) then (if (Go.bits .and .u8 x0 ((rd_T41 x10 x12).f0)) = 0 then (spec_DepPrunes.l0 k x0 x3 x10 x11 (wrap64 (x12 + 1))) else (if x3.size + ((rd_T41 x10 x12).f1).size ≤ 9223372036854775807 then (spec_DepPrunes.l0 k x0 (x3 ++ ((rd_T41 x10 x12).f1)) x10 x11 (wrap64 (x12 + 1))) else (none))) else (none)) else (none)) else (some x3)
def spec_DepPrunes.f (k : Nat) (a0 : Int) : Option (ByteArray) := (some (([(⟨4, (⟨#[78]⟩ : ByteArray)⟩ : S41), (⟨2, (⟨#[85]⟩ : ByteArray)⟩ : S41), (⟨8, (⟨#[84]⟩ : ByteArray)⟩ : S41), (⟨1, (⟨#[86]⟩ : ByteArray)⟩ : S41)] : List (S41)) : List (S41))).bind fun y103 => (spec_DepPrunes.l0 k a0 (⟨#[]⟩ : ByteArray) y103 (y103.length : Int) 0)
theorem spec_DepPrunes.mono_l : ∀ k, (∀ y0 y1 y2 y3 y4, LeO (spec_DepPrunes.l0 k y0 y1 y2 y3 y4) (spec_DepPrunes.l0 (k + 1) y0 y1 y2 y3 y4))
  | 0 => fun _ _ _ _ _ r h => by simp [spec_DepPrunes.l0] at h
  | k + 1 => by
    have ih0 := spec_DepPrunes.mono_l k
    · intro y0 y1 y2 y3 y4
      unfold spec_DepPrunes.l0
      repeat' first
      | (with_reducible exact ih0 _ _ _ _ _)
      | (with_reducible exact LeO.refl _)
      | (with_reducible exact LeO.none _)
      | (with_reducible refine LeO.ite ?_ ?_)
      | (with_reducible refine LeO.bind ?_ (fun _ => ?_))
      | exact ih0 _ _ _ _ _
      | exact LeO.none _
      | refine LeO.ite ?_ ?_
      | refine LeO.bind ?_ (fun _ => ?_)
theorem spec_DepPrunes.mono : ∀ a0 k, LeO (spec_DepPrunes.f k a0) (spec_DepPrunes.f (k + 1) a0) := by
  intro a0 k
  have ih0 := spec_DepPrunes.mono_l k
  unfold spec_DepPrunes.f
  repeat' first
      | (with_reducible exact ih0 _ _ _ _ _)
      | (with_reducible exact LeO.refl _)
      | (with_reducible exact LeO.none _)
      | (with_reducible refine LeO.ite ?_ ?_)
      | (with_reducible refine LeO.bind ?_ (fun _ => ?_))
      | exact ih0 _ _ _ _ _
      | exact LeO.none _
      | refine LeO.ite ?_ ?_
      | refine LeO.bind ?_ (fun _ => ?_)
set_option maxHeartbeats 8000000 in
set_option maxRecDepth 100000 in
theorem spec_DepPrunes.calls (k : Nat) (a0 : Int) (r : ByteArray) (w : World) (h : spec_DepPrunes.f k a0 = some r) :
    Calls Try.prog 11 #[.int .u8 a0] w fun e w' => e = .returned (.string r) ∧ Below w.heap.size w w' := by
  have hu41 := Try.underlying41
  have HB := Aside0.mk (Below.refl w.heap.size w)
  have H : ((some (([(⟨4, (⟨#[78]⟩ : ByteArray)⟩ : S41), (⟨2, (⟨#[85]⟩ : ByteArray)⟩ : S41), (⟨8, (⟨#[84]⟩ : ByteArray)⟩ : S41), (⟨1, (⟨#[86]⟩ : ByteArray)⟩ : S41)] : List (S41)) : List (S41))).bind fun y103 => (spec_DepPrunes.l0 k a0 (⟨#[]⟩ : ByteArray) y103 (y103.length : Int) 0)) = some r := h
  clear h
  obtain ⟨y103, hy103⟩ : ∃ y_ : List (S41), y_ = (([(⟨4, (⟨#[78]⟩ : ByteArray)⟩ : S41), (⟨2, (⟨#[85]⟩ : ByteArray)⟩ : S41), (⟨8, (⟨#[84]⟩ : ByteArray)⟩ : S41), (⟨1, (⟨#[86]⟩ : ByteArray)⟩ : S41)] : List (S41))) := ⟨_, rfl⟩
  replace H : (spec_DepPrunes.l0 k a0 (⟨#[]⟩ : ByteArray) y103 (y103.length : Int) 0) = some r := by first | (rw [hy103]; with_reducible exact H) | (have H2_ := (Option.bind_some _ _).symm.trans H; rw [hy103]; with_reducible exact H2_) | (have H2_ := (Option.bind_some _ _).symm.trans H; with_reducible exact H2_) | with_reducible exact H | (rw [hy103]; exact H) | exact H
  have Ny103 := Aside0.mk hy103
  clear hy103
  have H' := Aside0.mk H
  clear H
  go_enter Try.func11, Try.ntmps11
  go_wp2_with (first | ((with_reducible refine gate_dst (N := 10) rfl ?_); refine Kd.R_lit k41 _ 41 ?hg (N := 10) ?hd (xs := ([(⟨4, (⟨#[78]⟩ : ByteArray)⟩ : S41), (⟨2, (⟨#[85]⟩ : ByteArray)⟩ : S41), (⟨8, (⟨#[84]⟩ : ByteArray)⟩ : S41), (⟨1, (⟨#[86]⟩ : ByteArray)⟩ : S41)] : List (S41))) (inner := [.int .u8 4, .string (⟨#[78]⟩ : ByteArray), .int .u8 2, .string (⟨#[85]⟩ : ByteArray), .int .u8 8, .string (⟨#[84]⟩ : ByteArray), .int .u8 1, .string (⟨#[86]⟩ : ByteArray)]) (ok := fun _ => True) (okp := fun _ => True) ?hr ?hp (fun _ hk => hk) trivial (Below.refl _ _) (Nat.le_refl _) (by simp) ?_; (case hd => rfl); (case hg => rfl); (case hr => first | (go_simp; done) | (go_simp; rfl)); (case hp => exact (Reps.c2 (show Kd.M k41 _ _ _ (⟨4, (⟨#[78]⟩ : ByteArray)⟩ : S41) [.int .u8 4, .string (⟨#[78]⟩ : ByteArray)] from (k41_mkM _ _ _ (⟨4, (⟨#[78]⟩ : ByteArray)⟩ : S41) )) (Reps.c2 (show Kd.M k41 _ _ _ (⟨2, (⟨#[85]⟩ : ByteArray)⟩ : S41) [.int .u8 2, .string (⟨#[85]⟩ : ByteArray)] from (k41_mkM _ _ _ (⟨2, (⟨#[85]⟩ : ByteArray)⟩ : S41) )) (Reps.c2 (show Kd.M k41 _ _ _ (⟨8, (⟨#[84]⟩ : ByteArray)⟩ : S41) [.int .u8 8, .string (⟨#[84]⟩ : ByteArray)] from (k41_mkM _ _ _ (⟨8, (⟨#[84]⟩ : ByteArray)⟩ : S41) )) (Reps.c2 (show Kd.M k41 _ _ _ (⟨1, (⟨#[86]⟩ : ByteArray)⟩ : S41) [.int .u8 1, .string (⟨#[86]⟩ : ByteArray)] from (k41_mkM _ _ _ (⟨1, (⟨#[86]⟩ : ByteArray)⟩ : S41) )) (Reps.none _ _)))))); intro v104 w2 ho3 hb hg_ hnew_; clear hg_ hnew_; (first | rw [← Ny103.out] at ho3 | (simp only [Int.reduceToNat] at ho3; rw [← Ny103.out] at ho3)); have n0_ := Aside0.mk (Kd.R_lower ho3 (below_size (by repeat (first | (with_reducible first | exact HB.out | apply below_alloc | apply pw_below_drewN | apply below_drew1) | exact HB.out)))); have n1_ := Aside0.mk (below_step (by repeat (first | (with_reducible first | exact HB.out | apply below_alloc | apply pw_below_drewN | apply below_drew1) | exact HB.out)) hb); clear HB; have HO105 := n0_; have HB := n1_; clear n0_ n1_; clear hb ho3; obtain ⟨Ao4, co4, eo4⟩ := Kd.R_slice HO105.out; subst eo4))
  go_loopg [3, 12] k (fun kq v3 v12 w' => ∃ (x3_1 : ByteArray) (x12_1 : Int), v3 = .string x3_1 ∧ v12 = .int .i64 x12_1 ∧ Aside0 (spec_DepPrunes.l0 kq a0 x3_1 y103 (y103.length : Int) x12_1 = some r) ∧ Aside0 (kq ≤ k) ∧ Aside0 (Kd.R k41 41 w' w.heap.size (fun _ => True) (.slice Ao4 y103.length co4) y103) ∧ Aside0 (Below w.heap.size w w'))
  case atStart => exact ⟨((⟨#[]⟩ : ByteArray)), (0), (by first | rfl | (simp; done) | (simp [*]; done)), (by first | rfl | (simp; done) | (simp [*]; done)), H', ⟨Nat.le_refl _⟩, ⟨by (with_reducible repeat (first | apply Kd.R_alloc | apply Kd.R_drewN | apply Kd.R_drew)); exact HO105.out⟩, ⟨by repeat (first | (with_reducible first | exact HB.out | apply below_alloc | apply pw_below_drewN | apply below_drew1) | exact HB.out)⟩⟩
  case round =>
    clear H'
    try clear c1
    try clear c2
    try clear p2
    obtain ⟨x3_1, x12_1, rfl, rfl, HA, HK1, HO_10, HB⟩ := hrel
    cases gk with
    | zero => exact absurd HA.out (by simp [spec_DepPrunes.l0])
    | succ k1 =>
      have H := HA.out
      clear HA
      simp only [spec_DepPrunes.l0] at H
      by_cases c5 : x12_1 < (y103.length : Int)
      · rw [if_pos c5] at H
        have c5b0 : decide (x12_1 < (y103.length : Int)) = true := decide_eq_true c5
        clear c5
        by_cases c6 : 0 ≤ x12_1
        · rw [if_pos c6] at H
          have c6b0 : decide (0 ≤ x12_1) = true := decide_eq_true c6
          clear c6
          by_cases c7 : x12_1 < (y103.length : Int)
          · rw [if_pos c7] at H
            have c7b0 : decide (x12_1 < (y103.length : Int)) = true := decide_eq_true c7
            clear c7
            by_cases c8 : (Go.bits .and .u8 a0 ((rd_T41 y103 x12_1).f0)) = 0
            · rw [if_pos c8] at H
              have c8b0 : ((Go.bits .and .u8 a0 ((rd_T41 y103 x12_1).f0)) == 0) = true := beq_iff_eq.mpr c8
              have c8b1 : ((Go.bits .and .u8 a0 ((rd_T41 y103 x12_1).f0)) != 0) = false := bne_eq_false_iff_eq.mpr c8
              clear c8
              have H' := Aside0.mk H
              clear H
              have p106 : 0 ≤ (x12_1 : Int) := of_decide_eq_true (by first | (with_reducible assumption) | assumption)
              have q106 : x12_1 < (y103.length : Int) := of_decide_eq_true (by first | (with_reducible assumption) | assumption)
              obtain ⟨ad106, e106, hx106_0, hx106_1⟩ := at_T41 (Kd.R_reads' HO_10.out).2.2 x12_1 p106 q106
              cases e106
              replace p106 := eq_true p106
              replace q106 := eq_true q106
              go_wp2_with (first | ((with_reducible refine gate_dst (N := 5) rfl ?_); refine box_event ?hg (N := 5) ?hd (cs := #[.int .u8 0, .string (⟨#[]⟩ : ByteArray)]) (t := 41) ?hr ?_; (case hd => rfl); (case hg => rfl); (case hr => first | (go_simp; done) | (go_simp; rfl)); intro gb107 hg w9 hbox hb; have n0_ := Aside0.mk (Kd.R_below (Kd.R_elderB (by (with_reducible repeat (first | apply Kd.R_alloc | apply Kd.R_drewN | apply Kd.R_drew)); exact HO_10.out) gb107 (Nat.le_of_eq hg.symm)) hb); have n1_ := Aside0.mk (below_step (by repeat (first | (with_reducible first | exact HB.out | apply below_alloc | apply pw_below_drewN | apply below_drew1) | exact HB.out)) hb); have n2_ := Aside0.mk (hbox); have n3_ := Aside0.mk ((by rw [hg]; exact (below_size (by repeat (first | (with_reducible first | exact HB.out | apply below_alloc | apply pw_below_drewN | apply below_drew1) | exact HB.out))) : w.heap.size ≤ gb107)); have n4_ := Aside0.mk ((by rw [hg]; exact (below_size (by repeat (first | (with_reducible first | exact HB.out | apply below_alloc | apply pw_below_drewN | apply below_drew1) | exact HB.out))) : w.heap.size ≤ gb107)); clear HO_10; clear HB; have HO_10 := n0_; have HB := n1_; have BK107 := n2_; have GW107 := n3_; have GE107 := n4_; clear n0_ n1_ n2_ n3_ n4_; clear hb hbox hg; have hcz10_0 : w9.cell? ⟨gb107, 0, none⟩ = some (.int .u8 0) := (blk_cell BK107.out 0).trans rfl; have hcz10_1 : w9.cell? ⟨gb107, 1, none⟩ = some (.string (⟨#[]⟩ : ByteArray)) := (blk_cell BK107.out 1).trans rfl; have hfz10_0 := blk_frozen BK107.out 0; have hfz10_1 := blk_frozen BK107.out 1))
              go_roundg k1
              case measure => have := HK1.out; omega
              case rel => exact ⟨(x3_1), (wrap64 (x12_1 + 1)), (by first | rfl | (simp; done) | (simp [*]; done)), (by first | rfl | (simp; done) | (simp [*]; done)), H', ⟨by have := HK1.out; omega⟩, ⟨by (with_reducible repeat (first | apply Kd.R_alloc | apply Kd.R_drewN | apply Kd.R_drew)); exact Kd.R_mono (Kd.R_far (p := ⟨gb107, 1, none⟩) (Kd.R_far (p := ⟨gb107, 0, none⟩) (Kd.R_mono HO_10.out (fun k_ hk => (⟨hk, hk.2⟩ : _ ∧ k_ ≠ gb107))) (fun _ hk => hk.2) (.int .u8 ((rd_T41 y103 x12_1).f0))) (fun _ hk => hk.2) (.string ((rd_T41 y103 x12_1).f1))) (fun _ hk => trivial)⟩, ⟨by repeat (first | (with_reducible first | exact HB.out | apply below_alloc | apply pw_below_drewN | apply below_drew1 | refine below_set ?_ GE107.out) | exact HB.out)⟩⟩
            · rw [if_neg c8] at H
              have c8b0 : ((Go.bits .and .u8 a0 ((rd_T41 y103 x12_1).f0)) == 0) = false := beq_eq_false_iff_ne.mpr c8
              have c8b1 : ((Go.bits .and .u8 a0 ((rd_T41 y103 x12_1).f0)) != 0) = true := bne_iff_ne.mpr c8
              by_cases c11 : x3_1.size + ((rd_T41 y103 x12_1).f1).size ≤ 9223372036854775807
              · rw [if_pos c11] at H
                have c11b0 := eq_true c11
                have c11b1 : decide (x3_1.size + ((rd_T41 y103 x12_1).f1).size ≤ 9223372036854775807) = true := decide_eq_true c11
                try have c11b2 : (9223372036854775807 < x3_1.size + ((rd_T41 y103 x12_1).f1).size) = False := eq_false (Nat.not_lt.2 c11)
                have H' := Aside0.mk H
                clear H
                have p106 : 0 ≤ (x12_1 : Int) := of_decide_eq_true (by first | (with_reducible assumption) | assumption)
                have q106 : x12_1 < (y103.length : Int) := of_decide_eq_true (by first | (with_reducible assumption) | assumption)
                obtain ⟨ad106, e106, hx106_0, hx106_1⟩ := at_T41 (Kd.R_reads' HO_10.out).2.2 x12_1 p106 q106
                cases e106
                replace p106 := eq_true p106
                replace q106 := eq_true q106
                go_wp2_with (first | ((with_reducible refine gate_dst (N := 5) rfl ?_); refine box_event ?hg (N := 5) ?hd (cs := #[.int .u8 0, .string (⟨#[]⟩ : ByteArray)]) (t := 41) ?hr ?_; (case hd => rfl); (case hg => rfl); (case hr => first | (go_simp; done) | (go_simp; rfl)); intro gb107 hg w12 hbox hb; have n0_ := Aside0.mk (Kd.R_below (Kd.R_elderB (by (with_reducible repeat (first | apply Kd.R_alloc | apply Kd.R_drewN | apply Kd.R_drew)); exact HO_10.out) gb107 (Nat.le_of_eq hg.symm)) hb); have n1_ := Aside0.mk (below_step (by repeat (first | (with_reducible first | exact HB.out | apply below_alloc | apply pw_below_drewN | apply below_drew1) | exact HB.out)) hb); have n2_ := Aside0.mk (hbox); have n3_ := Aside0.mk ((by rw [hg]; exact (below_size (by repeat (first | (with_reducible first | exact HB.out | apply below_alloc | apply pw_below_drewN | apply below_drew1) | exact HB.out))) : w.heap.size ≤ gb107)); have n4_ := Aside0.mk ((by rw [hg]; exact (below_size (by repeat (first | (with_reducible first | exact HB.out | apply below_alloc | apply pw_below_drewN | apply below_drew1) | exact HB.out))) : w.heap.size ≤ gb107)); clear HO_10; clear HB; have HO_10 := n0_; have HB := n1_; have BK107 := n2_; have GW107 := n3_; have GE107 := n4_; clear n0_ n1_ n2_ n3_ n4_; clear hb hbox hg; have hcz13_0 : w12.cell? ⟨gb107, 0, none⟩ = some (.int .u8 0) := (blk_cell BK107.out 0).trans rfl; have hcz13_1 : w12.cell? ⟨gb107, 1, none⟩ = some (.string (⟨#[]⟩ : ByteArray)) := (blk_cell BK107.out 1).trans rfl; have hfz13_0 := blk_frozen BK107.out 0; have hfz13_1 := blk_frozen BK107.out 1))
                go_roundg k1
                case measure => have := HK1.out; omega
                case rel => exact ⟨(x3_1 ++ ((rd_T41 y103 x12_1).f1)), (wrap64 (x12_1 + 1)), (by first | rfl | (simp; done) | (simp [*]; done)), (by first | rfl | (simp; done) | (simp [*]; done)), H', ⟨by have := HK1.out; omega⟩, ⟨by (with_reducible repeat (first | apply Kd.R_alloc | apply Kd.R_drewN | apply Kd.R_drew)); exact Kd.R_mono (Kd.R_far (p := ⟨gb107, 1, none⟩) (Kd.R_far (p := ⟨gb107, 0, none⟩) (Kd.R_mono HO_10.out (fun k_ hk => (⟨hk, hk.2⟩ : _ ∧ k_ ≠ gb107))) (fun _ hk => hk.2) (.int .u8 ((rd_T41 y103 x12_1).f0))) (fun _ hk => hk.2) (.string ((rd_T41 y103 x12_1).f1))) (fun _ hk => trivial)⟩, ⟨by repeat (first | (with_reducible first | exact HB.out | apply below_alloc | apply pw_below_drewN | apply below_drew1 | refine below_set ?_ GE107.out) | exact HB.out)⟩⟩
              · rw [if_neg c11] at H
                exact absurd H (by simp)
          · rw [if_neg c7] at H
            exact absurd H (by simp)
        · rw [if_neg c6] at H
          exact absurd H (by simp)
      · rw [if_neg c5] at H
        have c5b0 : decide (x12_1 < (y103.length : Int)) = false := decide_eq_false c5
        clear c5
        obtain rfl := Option.some.inj H
        go_wp2
        go_ret
        exact ⟨by first | rfl | (simp [errW_none, errW_some] <;> rfl) | (simp [*, errW_none, errW_some] <;> rfl), by repeat (first | (with_reducible first | exact HB.out | apply below_alloc | apply pw_below_drewN | apply below_drew1) | exact HB.out)⟩

-- NOT PRINTED: function 4 (laws_FnPrune)

end Go.Proofs.Ytehcnjjkklogbaa.PFnPrune
