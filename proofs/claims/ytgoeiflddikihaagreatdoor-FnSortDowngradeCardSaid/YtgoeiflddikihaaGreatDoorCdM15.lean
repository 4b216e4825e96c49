/- Merged by program out of: Both, VPc, AwakeC, Scm, AwakeD, AwakeS. -/
import Derived.Test.YtgoeiflddikihaaGreatDoorCdM14
import Derived.Test.YtgoeiflddikihaaGreatDoorCdM4
import Derived.Test.YtgoeiflddikihaaGreatDoorCdM6
import Derived.Test.YtgoeiflddikihaaGreatDoorCdM9
import Derived.Test.YtgoeiflddikihaaGreatDoorCdM7
import Derived.Test.YtgoeiflddikihaaGreatDoorCdM8
import Derived.Lib.QuietBelow
import Derived.BigQuiet
import Derived.Sort.Statements
section
namespace Go.Proofs.YtgoeiflddikihaaGreatDoor.Ver
set_option linter.unusedSimpArgs false
open Go.RowKit Go.Proofs.YtgoeiflddikihaaGreatDoorW.PrintWords Go.Proofs.YtgoeiflddikihaaGreatDoor.Ord
theorem at_third (w : World) (a b c : Obj) : (((w.alloc a).alloc b).alloc c).heap[w.heap.size + 1 + 1]? = some c := by
  have := alloc_at ((w.alloc a).alloc b) c
  rw [alloc_size, alloc_size] at this
  exact this
set_option maxRecDepth 20000 in
set_option maxHeartbeats 16000000 in
theorem both_zero (lo hi : SV) (c d : Bool) (w : World) :
    Calls Tryz.prog 298 #[.agg zP, .agg (pcs lo hi true true c d)] w fun e w' => e = .returned (.agg (pcs lo hi true true c d)) ∧ Below w.heap.size w w' := by
  have HB := Aside0.mk (Below.refl w.heap.size w)
  obtain ⟨la, lb, lc, lp, lm, lo'⟩ := lo
  obtain ⟨ha, hb', hc, hp, hm, ho⟩ := hi
  dsimp only [SV.cells, pcs]
  have HNE := Lib.hid (show w.heap.size ≠ w.heap.size + 1 + 1 from by omega)
  have ha1 : ∀ W, Sem.run Tryz.prog (Builtin.append_ #[240, 240] 240 #[.slice none 0 0, .slice none 0 0]) W = .ok (.slice none 0 0) W := fun _ => by kernel_rfl
  go_enter Tryz.func298, Tryz.ntmps298
  go_wp2_with fail
  go_region
  go_wp2_with fail
  go_region
  go_upto_region 17 with (fail)
  go_cut [7] (fun v7 wx => v7 = .slice none 0 0 ∧ Aside0 (wx.heap[w.heap.size]? = some (bP la lb lc lp lm lo' ha hb' hc hp hm ho true true c d)) ∧ Aside0 (wx.heap[w.heap.size + 1 + 1]? = some (.cells zP 242 (0, 0))) ∧ Aside0 (Below w.heap.size w wx))
  case first =>
    go_region
    go_wp2_with fail
    go_meet
    case rel => exact ⟨rfl, ⟨by repeat (first | exact alloc_at w _ | apply blk_drew | apply blk_alloc)⟩, ⟨by repeat (first | exact at_third w _ _ _ | apply blk_drew)⟩, ⟨by repeat (first | exact HB.out | apply below_alloc | apply pw_below_drewN | apply below_drew)⟩⟩
  case rest =>
    obtain ⟨rfl, KP, KR, HB5⟩ := hcut
    have u1 := blk_cell KP.out 16
    have u2 := blk_frozen KP.out 16
    have KP2 := Aside0.mk (blk_put (cs' := #[.int .u64 la, .int .u64 lb, .int .u64 lc, .string lp, .string lm, .string lo', .int .u64 ha, .int .u64 hb', .int .u64 hc, .string hp, .string hm, .string ho, .bool true, .bool true, .bool c, .bool d, .slice none 0 0]) KP.out 16 (.slice none 0 0) rfl)
    have KR2 := Aside0.mk (blk_far KR.out (p := ⟨w.heap.size, 16, none⟩) HNE.out.symm (.slice none 0 0))
    have KF := Aside0.mk (setRow_heap _ _ _ #[.int .u64 la, .int .u64 lb, .int .u64 lc, .string lp, .string lm, .string lo', .int .u64 ha, .int .u64 hb', .int .u64 hc, .string hp, .string hm, .string ho, .bool true, .bool true, .bool c, .bool d, .slice none 0 0] _ _ KR2.out)
    have BF := Aside0.mk (below_setRow (below_set (j := 16) (v := .slice none 0 0) HB5.out (g := w.heap.size) (Nat.le_refl _)) (g := w.heap.size + 1 + 1) (by omega) #[.int .u64 la, .int .u64 lb, .int .u64 lc, .string lp, .string lm, .string lo', .int .u64 ha, .int .u64 hb', .int .u64 hc, .string hp, .string hm, .string ho, .bool true, .bool true, .bool c, .bool d, .slice none 0 0])
    have HI := Lib.hid (show (Tryz.prog.info? 242).map (·.size) = some (#[.int .u64 la, .int .u64 lb, .int .u64 lc, .string lp, .string lm, .string lo', .int .u64 ha, .int .u64 hb', .int .u64 hc, .string hp, .string hm, .string ho, .bool true, .bool true, .bool c, .bool d, .slice none 0 0] : Array Value).size from sizeP)
    go_wp2_with fail
    refine wp_loop_rounds 1 ?_
    rw [rounds_succ]
    go_wp2_with (first
      | (refine wpList_load_row (by rfl) 242 (.tmp 2) (by rfl) w.heap.size (by rfl) 242 #[.int .u64 la, .int .u64 lb, .int .u64 lc, .string lp, .string lm, .string lo', .int .u64 ha, .int .u64 hb', .int .u64 hc, .string hp, .string hm, .string ho, .bool true, .bool true, .bool c, .bool d, .slice none 0 0] (0, 0) _ KP2.out Tryz.underlying242 rfl HI.out ?_)
      | (refine wpList_store_row (by rfl) 242 (.tmp 4) (.tmp 87) (by rfl) (w.heap.size + 1 + 1) #[.int .u64 la, .int .u64 lb, .int .u64 lc, .string lp, .string lm, .string lo', .int .u64 ha, .int .u64 hb', .int .u64 hc, .string hp, .string hm, .string ho, .bool true, .bool true, .bool c, .bool d, .slice none 0 0] (by rfl) (by rfl) 242 zP KR2.out HI.out rfl (by simp [Value.oneCell']) ?_))
    refine bodyPost_ret (results_single rfl (.cell _ 242 #[.int .u64 la, .int .u64 lb, .int .u64 lc, .string lp, .string lm, .string lo', .int .u64 ha, .int .u64 hb', .int .u64 hc, .string hp, .string hm, .string ho, .bool true, .bool true, .bool c, .bool d, .slice none 0 0] (0, 0) _ rfl KF.out Tryz.underlying242 rfl HI.out .nil)) rfl ⟨rfl, BF.out⟩
end Go.Proofs.YtgoeiflddikihaaGreatDoor.Ver
end
section
namespace Go.Proofs.YtgoeiflddikihaaGreatDoor.PFnIntersectAny
open Go.RowKit Go.Proofs.YtgoeiflddikihaaGreatDoorW.PrintWords Go.Proofs.YtgoeiflddikihaaGreatDoorW.PrintLast Go.Proofs.YtgoeiflddikihaaGreatDoorW.PrintMore
attribute [local go_sem] max2_int min2_int max_two min_two max_three min_three max_four min_four   -- for this text's walks alone
set_option linter.unusedVariables false
set_option linter.unusedSimpArgs false
def semver_split.l0 : Nat → ByteArray → ByteArray → List ByteArray → Int → Int → Option (List ByteArray)
 | 0, _, _, _, _, _ => none
 | k + 1, x0, x1, x5, x6, x7 => if (wrap64 (x7 + (x1.size : Int))) ≤ (x0.size : Int) then (if 0 ≤ x7 then (if x7 ≤ (wrap64 (x7 + (x1.size : Int))) then (if (x0.extract (x7 : Int).toNat ((wrap64 (x7 + (x1.size : Int))) : Int).toNat).toList = x1.toList then (if 0 ≤ x6 then (if x6 ≤ x7 then (if x7 ≤ (x0.size : Int) then (if x5.length < 8796093022208 then (semver_split.l0 k x0 x1 (x5 ++ [x0.extract (x6 : Int).toNat (x7 : Int).toNat]) (wrap64 (x7 + (x1.size : Int))) (wrap64 ((wrap64 ((wrap64 (x7 + (x1.size : Int))) - 1)) + 1))) else (none)) else (none)) else (none)) else (none)) else (semver_split.l0 k x0 x1 x5 x6 (wrap64 (x7 + 1)))) else (none)) else (none)) else (if 0 ≤ x6 then (if x6 ≤ (x0.size : Int) then (if x5.length < 8796093022208 then (some (x5 ++ [x0.extract (x6 : Int).toNat x0.size])) else (none)) else (none)) else (none))
def semver_split.f (k : Nat) (a0 : ByteArray) (a1 : ByteArray) : Option (List ByteArray) := semver_split.l0 k a0 a1 ([] : List ByteArray) 0 0
theorem semver_split.mono_l : ∀ k, (∀ y0 y1 y2 y3 y4, LeO (semver_split.l0 k y0 y1 y2 y3 y4) (semver_split.l0 (k + 1) y0 y1 y2 y3 y4))
 | 0 => fun _ _ _ _ _ r h => by simp [semver_split.l0] at h
 | k + 1 => by
  have ih0 := semver_split.mono_l k
  ·intro y0 y1 y2 y3 y4
   unfold semver_split.l0
   repeat' first
   | (with_reducible exact ih0 _ _ _ _ _)
   | (with_reducible exact LeO.refl _)
   | (with_reducible exact LeO.none _)
   | (with_reducible refine LeO.ite ?_ ?_)
   | (with_reducible refine LeO.bind ?_ (fun _ => ?_))
   | exact ih0 _ _ _ _ _
   | exact LeO.none _
   | refine LeO.ite ?_ ?_
   | refine LeO.bind ?_ (fun _ => ?_)
theorem semver_split.mono : ∀ a0 a1 k, LeO (semver_split.f k a0 a1) (semver_split.f (k + 1) a0 a1) := by
 intro a0 a1 k
 have ih0 := semver_split.mono_l k
 unfold semver_split.f
 repeat' first
   | (with_reducible exact ih0 _ _ _ _ _)
   | (with_reducible exact LeO.refl _)
   | (with_reducible exact LeO.none _)
   | (with_reducible refine LeO.ite ?_ ?_)
   | (with_reducible refine LeO.bind ?_ (fun _ => ?_))
   | exact ih0 _ _ _ _ _
   | exact LeO.none _
   | refine LeO.ite ?_ ?_
   | refine LeO.bind ?_ (fun _ => ?_)
set_option maxHeartbeats 8000000 in
set_option maxRecDepth 100000 in
theorem semver_split.calls (k : Nat) (a0 : ByteArray) (a1 : ByteArray) (r : List ByteArray) (w : World) (h : semver_split.f k a0 a1 = some r) :
  Calls Tryz.prog 140 #[.string a0, .string a1] w fun e w' => ∃ v0_ : Value, e = .returned (v0_) ∧ Kd.R Kd.string 9 w' w.heap.size (fun _ => True) v0_ r ∧ Below w.heap.size w w' := by
 have HB := Aside0.mk (Below.refl w.heap.size w)
 have H : (semver_split.l0 k a0 a1 ([] : List ByteArray) 0 0) = some r := h
 clear h
 have H' := Aside0.mk H
 clear H
 go_enter Tryz.func140, Tryz.ntmps140
 go_wp2
 go_loopg [5, 6, 7] k (fun kq v5 v6 v7 w' => ∃ (x5_1 : List ByteArray) (x6_1 : Int) (x7_1 : Int), v6 = .int .i64 x6_1 ∧ v7 = .int .i64 x7_1 ∧ Aside0 (semver_split.l0 kq a0 a1 x5_1 x6_1 x7_1 = some r) ∧ Aside0 (kq ≤ k) ∧ Aside0 (Kd.R Kd.string 9 w' w.heap.size (fun _ => True) v5 x5_1) ∧ Aside0 (Below w.heap.size w w'))
 case atStart => exact ⟨(([] : List ByteArray)), (0), (0), (by first | rfl | (simp; done) | (simp [*]; done)), (by first | rfl | (simp; done) | (simp [*]; done)), H', ⟨Nat.le_refl _⟩, ⟨by first | exact Kd.R_nil _ _ _ _ _ | exact Kd.N_nil _ _ _ _ _ | exact Kd.V_nil _ _ _ _ _ | exact Kd.Q_nil _ _ _ _ _ | exact Kd.S_nil _ _ _ _ _⟩, ⟨by repeat (first | (with_reducible first | exact HB.out | apply below_alloc | apply pw_below_drewN | apply below_drew1) | exact HB.out)⟩⟩
 case round =>
  clear H'
  try clear c1
  try clear p2
  obtain ⟨x5_1, x6_1, x7_1, rfl, rfl, HA, HK1, HO_5, HB⟩ := hrel
  cases gk with
  | zero => exact absurd HA.out (by simp [semver_split.l0])
  | succ k1 =>
   have H := HA.out
   clear HA
   simp only [semver_split.l0] at H
   by_cases c3 : (wrap64 (x7_1 + (a1.size : Int))) ≤ (a0.size : Int)
   ·rw [if_pos c3] at H
    have c3b0 : decide ((wrap64 (x7_1 + (a1.size : Int))) ≤ (a0.size : Int)) = true := decide_eq_true c3
    clear c3
    by_cases c4 : 0 ≤ x7_1
    ·rw [if_pos c4] at H
     have c4b0 := eq_true c4
     have c4b1 : decide (0 ≤ x7_1) = true := decide_eq_true c4
     clear c4
     by_cases c5 : x7_1 ≤ (wrap64 (x7_1 + (a1.size : Int)))
     ·rw [if_pos c5] at H
      have c5b0 := eq_true c5
      have c5b1 : decide (x7_1 ≤ (wrap64 (x7_1 + (a1.size : Int)))) = true := decide_eq_true c5
      have c6b0 := eq_true (of_decide_eq_true (by first | (with_reducible assumption) | assumption) : (wrap64 (x7_1 + (a1.size : Int))) ≤ (a0.size : Int))
      by_cases c7 : (a0.extract (x7_1 : Int).toNat ((wrap64 (x7_1 + (a1.size : Int))) : Int).toNat).toList = a1.toList
      ·rw [if_pos c7] at H
       have c7b0 : ((a0.extract (x7_1 : Int).toNat ((wrap64 (x7_1 + (a1.size : Int))) : Int).toNat).toList == a1.toList) = true := beq_iff_eq.mpr c7
       have c7b1 : ((a0.extract (x7_1 : Int).toNat ((wrap64 (x7_1 + (a1.size : Int))) : Int).toNat).toList != a1.toList) = false := bne_eq_false_iff_eq.mpr c7
       clear c7
       by_cases c8 : 0 ≤ x6_1
       ·rw [if_pos c8] at H
        have c8b0 := eq_true c8
        have c8b1 : decide (0 ≤ x6_1) = true := decide_eq_true c8
        clear c8
        by_cases c9 : x6_1 ≤ x7_1
        ·rw [if_pos c9] at H
         have c9b0 := eq_true c9
         have c9b1 : decide (x6_1 ≤ x7_1) = true := decide_eq_true c9
         clear c9
         by_cases c10 : x7_1 ≤ (a0.size : Int)
         ·rw [if_pos c10] at H
          have c10b0 := eq_true c10
          have c10b1 : decide (x7_1 ≤ (a0.size : Int)) = true := decide_eq_true c10
          clear c10
          by_cases c11 : x5_1.length < 8796093022208
          ·rw [if_pos c11] at H
           have LMc11 := Aside0.mk c11
           clear c11
           obtain ⟨y137, hy137⟩ : ∃ y_ : List ByteArray, y_ = (x5_1 ++ [a0.extract (x6_1 : Int).toNat (x7_1 : Int).toNat]) := ⟨_, rfl⟩
           replace H : (semver_split.l0 k1 a0 a1 y137 (wrap64 (x7_1 + (a1.size : Int))) (wrap64 ((wrap64 ((wrap64 (x7_1 + (a1.size : Int))) - 1)) + 1))) = some r := by first | (rw [hy137]; with_reducible exact H) | (have H2_ := (Option.bind_some _ _).symm.trans H; rw [hy137]; with_reducible exact H2_) | (have H2_ := (Option.bind_some _ _).symm.trans H; with_reducible exact H2_) | with_reducible exact H | (rw [hy137]; exact H) | exact H
           have Ny137 := Aside0.mk hy137
           clear hy137
           have H' := Aside0.mk H
           clear H
           go_wp2_with (first | ((with_reducible refine gate_builtin (b := .append) (xs := #[.tmp 26, .tmp 31]) rfl ?_); at_builtin; refine Kd.R_append Kd.string (w0 := w) w.heap.size rfl (.tmp 26) (.tmp 31) 48 9 (.string ⟨#[]⟩) 16 rfl Tryz.underlying48 info9 rfl (by decide) (by omega) u5 x5_1 (a0.extract (x6_1 : Int).toNat (x7_1 : Int).toNat) [.string (a0.extract (x6_1 : Int).toNat (x7_1 : Int).toNat)] (fun _ => True) (fun _ => False) rfl rfl ?aP (fun _ hk => hk.elim) ?aF ?aO ?aB ?aS ?aL ?_; (case aP => exact rfl); (case aB => exact (by repeat (first | (with_reducible first | exact HB.out | apply below_alloc | apply pw_below_drewN | apply below_drew1) | exact HB.out))); (case aF => exact (fun _ _ => trivial)); (case aO => exact (by (with_reducible repeat (first | apply Kd.R_alloc | apply Kd.R_drewN | apply Kd.R_drew)); exact HO_5.out)); (case aS => exact (below_size (by repeat (first | (with_reducible first | exact HB.out | apply below_alloc | apply pw_below_drewN | apply below_drew1) | exact HB.out)))); (case aL => have := LMc11.out; omega); intro v138 w12 ho hb hg hat; rw [← Ny137.out] at ho; have n0_ := Aside0.mk (hb); have n1_ := Aside0.mk (ho); clear HB; clear HO_5; have HB := n0_; have HO139 := n1_; clear n0_ n1_; clear ho hb hg hat))
           go_roundg k1
           case measure => have := HK1.out; omega
           case rel => exact ⟨(y137), (wrap64 (x7_1 + (a1.size : Int))), (wrap64 ((wrap64 ((wrap64 (x7_1 + (a1.size : Int))) - 1)) + 1)), (by first | rfl | (simp; done) | (simp [*]; done)), (by first | rfl | (simp; done) | (simp [*]; done)), H', ⟨by have := HK1.out; omega⟩, ⟨by (with_reducible repeat (first | apply Kd.R_alloc | apply Kd.R_drewN | apply Kd.R_drew)); exact HO139.out⟩, ⟨by repeat (first | (with_reducible first | exact HB.out | apply below_alloc | apply pw_below_drewN | apply below_drew1) | exact HB.out)⟩⟩
          ·rw [if_neg c11] at H
           exact absurd H (by simp)
         ·rw [if_neg c10] at H
          exact absurd H (by simp)
        ·rw [if_neg c9] at H
         exact absurd H (by simp)
       ·rw [if_neg c8] at H
        exact absurd H (by simp)
      ·rw [if_neg c7] at H
       have c7b0 : ((a0.extract (x7_1 : Int).toNat ((wrap64 (x7_1 + (a1.size : Int))) : Int).toNat).toList == a1.toList) = false := beq_eq_false_iff_ne.mpr c7
       have c7b1 : ((a0.extract (x7_1 : Int).toNat ((wrap64 (x7_1 + (a1.size : Int))) : Int).toNat).toList != a1.toList) = true := bne_iff_ne.mpr c7
       have H' := Aside0.mk H
       clear H
       go_wp2
       go_roundg k1
       case measure => have := HK1.out; omega
       case rel => exact ⟨(x5_1), (x6_1), (wrap64 (x7_1 + 1)), (by first | rfl | (simp; done) | (simp [*]; done)), (by first | rfl | (simp; done) | (simp [*]; done)), H', ⟨by have := HK1.out; omega⟩, ⟨by (with_reducible repeat (first | apply Kd.R_alloc | apply Kd.R_drewN | apply Kd.R_drew)); exact HO_5.out⟩, ⟨by repeat (first | (with_reducible first | exact HB.out | apply below_alloc | apply pw_below_drewN | apply below_drew1) | exact HB.out)⟩⟩
     ·rw [if_neg c5] at H
      exact absurd H (by simp)
    ·rw [if_neg c4] at H
     exact absurd H (by simp)
   ·rw [if_neg c3] at H
    have c3b0 : decide ((wrap64 (x7_1 + (a1.size : Int))) ≤ (a0.size : Int)) = false := decide_eq_false c3
    clear c3
    by_cases c13 : 0 ≤ x6_1
    ·rw [if_pos c13] at H
     have c13b0 := eq_true c13
     have c13b1 : decide (0 ≤ x6_1) = true := decide_eq_true c13
     clear c13
     by_cases c14 : x6_1 ≤ (a0.size : Int)
     ·rw [if_pos c14] at H
      have c14b0 := eq_true c14
      have c14b1 : decide (x6_1 ≤ (a0.size : Int)) = true := decide_eq_true c14
      clear c14
      by_cases c15 : x5_1.length < 8796093022208
      ·rw [if_pos c15] at H
       have LMc15 := Aside0.mk c15
       clear c15
       obtain ⟨y140, hy140⟩ : ∃ y_ : List ByteArray, y_ = (x5_1 ++ [a0.extract (x6_1 : Int).toNat a0.size]) := ⟨_, rfl⟩
       replace H : (some y140) = some r := by first | (rw [hy140]; with_reducible exact H) | (have H2_ := (Option.bind_some _ _).symm.trans H; rw [hy140]; with_reducible exact H2_) | (have H2_ := (Option.bind_some _ _).symm.trans H; with_reducible exact H2_) | with_reducible exact H | (rw [hy140]; exact H) | exact H
       have Ny140 := Aside0.mk hy140
       clear hy140
       obtain rfl := Option.some.inj H
       go_wp2_with (first | ((with_reducible refine gate_builtin (b := .append) (xs := #[.tmp 39, .tmp 43]) rfl ?_); at_builtin; refine Kd.R_append Kd.string (w0 := w) w.heap.size rfl (.tmp 39) (.tmp 43) 48 9 (.string ⟨#[]⟩) 16 rfl Tryz.underlying48 info9 rfl (by decide) (by omega) u5 x5_1 (a0.extract (x6_1 : Int).toNat a0.size) [.string (a0.extract (x6_1 : Int).toNat a0.size)] (fun _ => True) (fun _ => False) rfl rfl ?aP (fun _ hk => hk.elim) ?aF ?aO ?aB ?aS ?aL ?_; (case aP => exact rfl); (case aB => exact (by repeat (first | (with_reducible first | exact HB.out | apply below_alloc | apply pw_below_drewN | apply below_drew1) | exact HB.out))); (case aF => exact (fun _ _ => trivial)); (case aO => exact (by (with_reducible repeat (first | apply Kd.R_alloc | apply Kd.R_drewN | apply Kd.R_drew)); exact HO_5.out)); (case aS => exact (below_size (by repeat (first | (with_reducible first | exact HB.out | apply below_alloc | apply pw_below_drewN | apply below_drew1) | exact HB.out)))); (case aL => have := LMc15.out; omega); intro v141 w16 ho hb hg hat; rw [← Ny140.out] at ho; have n0_ := Aside0.mk (hb); have n1_ := Aside0.mk (ho); clear HB; clear HO_5; have HB := n0_; have HO142 := n1_; clear n0_ n1_; clear ho hb hg hat))
       go_ret
       exact ⟨_, by first | rfl | (simp [errW_none, errW_some] <;> rfl) | (simp [*, errW_none, errW_some] <;> rfl), by (with_reducible repeat (first | apply Kd.R_alloc | apply Kd.R_drewN | apply Kd.R_drew)); exact HO142.out, by repeat (first | (with_reducible first | exact HB.out | apply below_alloc | apply pw_below_drewN | apply below_drew1) | exact HB.out)⟩
      ·rw [if_neg c15] at H
       exact absurd H (by simp)
     ·rw [if_neg c14] at H
      exact absurd H (by simp)
    ·rw [if_neg c13] at H
     exact absurd H (by simp)
end Go.Proofs.YtgoeiflddikihaaGreatDoor.PFnIntersectAny
end
section
namespace Go.Proofs.YtgoeiflddikihaaGreatDoor.Ver
set_option linter.unusedSimpArgs false
open Go.RowKit Go.Proofs.YtgoeiflddikihaaGreatDoor.Dig Go.Proofs.YtgoeiflddikihaaGreatDoorW.PrintWords Go.Proofs.YtgoeiflddikihaaGreatDoor.Mem
theorem rowR : RowT Tryz.prog 238 1 := ⟨⟨_, Tryz.underlying238, rfl⟩, by kernel_rfl⟩
theorem oneS : OneT Tryz.prog 9 := ⟨⟨_, Tryz.underlying9, rfl⟩, by kernel_rfl⟩
theorem oneSl : OneT Tryz.prog 236 := ⟨⟨_, Tryz.underlying236, rfl⟩, by kernel_rfl⟩
theorem zeroR : (Tryz.prog.info? 238).bind (fun i => i.zero.map (·.cells)) = some #[.slice none 0 0] := by kernel_rfl
abbrev bars : ByteArray := ⟨#[124, 124]⟩
abbrev comma : ByteArray := ⟨#[44]⟩
abbrev v2 : SV := ⟨2, 0, 0, ⟨#[]⟩, ⟨#[]⟩, ⟨#[]⟩⟩
def P120 : List Value := (pcs v120 v2 true true true false).toList
def SplitEnd (s : ByteArray) (w : World) (e : Ending) (w' : World) : Prop :=
  ∃ g cap cells rest, e = .returned (.slice (some ⟨g, 0, none⟩) 1 cap) ∧ w.heap.size ≤ g ∧ w'.heap[g]? = some (.cells cells 9 (0, 0)) ∧ cells.toList = .string s :: rest ∧ Below w.heap.size w w'
theorem split1 {s t : ByteArray} (h : PFnIntersectAny.semver_split.f 20 s t = some [s]) (w : World) : Calls Tryz.prog 140 #[.string s, .string t] w (SplitEnd s w) := by
  refine (PFnIntersectAny.semver_split.calls 20 s t [s] w h).mono ?_
  rintro e w' ⟨v, rfl, hr, hb⟩
  obtain ⟨g, cap, cells, rest, rfl, hg, hc, hl⟩ := strs_block hr (Nat.zero_lt_one)
  exact ⟨g, cap, cells, rest, rfl, hg, hc, hl, hb⟩
theorem trimc (w : World) : Calls Tryz.prog 142 #[.string tc120] w fun e w' => e = .returned (.string tc120) ∧ Drawn0 w w' :=
  PFnIntersectAny.semver_trim.calls 10 tc120 tc120 w (by kernel_rfl)
def RangeEnd (w : World) (e : Ending) (w' : World) : Prop :=
  ∃ g cap cells rest, e = .returned (.tuple #[.iface 238 (.agg #[.slice (some ⟨g, 0, none⟩) 1 cap]), .nilIface]) ∧ w.heap.size ≤ g ∧ w'.heap[g]? = some (.cells cells 242 (0, 0)) ∧ cells.toList = P120 ++ rest ∧ RowF 1 cap 17 P120 rest ∧ Below w.heap.size w w'
theorem read1_120' (w : World) (hv : Vars w) : Calls Tryz.prog 141 #[.string tc120, .bool false] w (RangeEnd w) := by
  refine (read1_120 w hv).mono ?_
  rintro e w' ⟨r, rfl, ho, hb⟩
  obtain ⟨g, cap, cells, rest, rfl, hg, hc, hl, hf⟩ := row_block ho (by omega)
  exact ⟨g, cap, cells, rest, rfl, hg, hc, hl, hf, hb⟩
def RangeEnd1 (w : World) (e : Ending) (w' : World) : Prop :=
  ∃ g cap cells rest, e = .returned (.iface 238 (.agg #[.slice (some ⟨g, 0, none⟩) 1 cap])) ∧ w.heap.size ≤ g ∧ w'.heap[g]? = some (.cells cells 242 (0, 0)) ∧ cells.toList = P120 ++ rest ∧ RowF 1 cap 17 P120 rest ∧ Below w.heap.size w w'
theorem isect120 (base : Nat) (r1 r2 : Value) (w : World) (ho1 : w.ownsRow base 242 17 r1 1 zP.toList) (ho2 : w.ownsRow base 242 17 r2 1 P120) :
    Calls Tryz.prog 295 #[.agg #[r1], .iface 238 (.agg #[r2])] w (RangeEnd1 w) := by
  have hp := pcell_pcs v120 v2 true true true false
  refine (isect_one zP (pcs v120 v2 true true true false) (pcs v120 v2 true true true false) pcell_z hp hp base r1 r2 w ho1 ho2 (both_zero v120 v2 true false) (empty_in v120 v2 (by decide) (by decide) (by kernel_rfl) true false)).mono ?_
  rintro e w' ⟨r, rfl, ho, hb⟩
  obtain ⟨g, cap, cells, rest, rfl, hg, hc, hl, hf⟩ := row_block ho (by omega)
  exact ⟨g, cap, cells, rest, rfl, hg, hc, hl, hf, hb⟩
set_option maxRecDepth 20000 in
set_option maxHeartbeats 4000000 in
theorem con120 (w : World) (hv : Vars w) : Calls Tryz.prog 127 #[.string tc120, .bool false] w (RangeEnd w) := by
  have HP := Lib.hid (fun W hb => read1_120' W (Vars.below (w := w) hv hb))
  have HM := Aside0.mk (Blks.start w)
  have HS1 := Lib.hid (split1 (s := tc120) (t := bars) (by kernel_rfl))
  have HS2 := Lib.hid (split1 (s := tc120) (t := comma) (by kernel_rfl))
  have f1 := c_range_sv
  have f2 := c_range_range
  have f3 := m_range_Intersect
  obtain ⟨iv, hvi, hvz0, hvz1, hvz2⟩ := info_parts infoP
  clear hv
  go_enter Tryz.func127, Tryz.ntmps127
  go_wp2_with (first
    | (go_at_call 140; ((with_reducible refine (HS1.out _).mono ?_); rintro e w1 ⟨g1, cap1, cells1, rest1, rfl, hg, hc, hl, hb⟩; have HN := Aside0.mk (Blks.add (by repeat (first | exact HM.out | apply Blks.drewN | apply Blks.drew | apply Blks.other)) hb hg hc hl); clear HM hb hg hc hl; have HM := HN; clear HN))
    | (refine bk_load1 (by rfl) (by rfl) (by rfl) (by repeat (first | exact HM.out | apply Blks.drewN | apply Blks.drew | apply Blks.other)) (by repeat (first | exact List.Mem.head _ | apply List.Mem.tail)) (by first | exact oneS | exact oneSl | exact oneB) (by repeat (first | exact Rd.nil | apply Rd.here | apply Rd.skip)) ?_) | (refine bk_load (by rfl) (by rfl) (by rfl) (by repeat (first | exact HM.out | apply Blks.drewN | apply Blks.drew | apply Blks.other)) (by repeat (first | exact List.Mem.head _ | apply List.Mem.tail)) (by first | exact rowV | exact rowP | exact rowR) (by repeat (first | exact Rd.nil | apply Rd.here | apply Rd.skip)) ?_) | (refine bk_alloc (by rfl) (by rfl) (by repeat (first | exact HM.out | apply Blks.drewN | apply Blks.drew | apply Blks.other)) (by first | exact zeroR | exact zeroV | exact zeroP) ?_; intro _ _ HN; clear HM; have HM := Aside0.mk HN; clear HN) | (refine bk_store1 (by rfl) (by rfl) (by rfl) (by rfl) (by first | exact (rfl : _ = Value.bool _) | exact (rfl : _ = Value.int _ _) | exact (rfl : _ = Value.string _) | exact (rfl : _ = Value.slice _ _ _) | exact (rfl : _ = Value.iface _ _) | exact (rfl : _ = Value.nilIface) | exact (rfl : _ = Value.pointer _)) (by repeat (first | exact HM.out | apply Blks.drewN | apply Blks.drew | apply Blks.other)) (by first | exact oneSl | exact oneB) (by rfl) (by repeat (first | exact List.Mem.head _ | apply List.Mem.tail)) (by repeat (first | exact Wr.nil | apply Wr.here | apply Wr.skip)) (by repeat (first | exact Up.here | apply Up.skip)) ?_; intro _ HN; clear HM; have HM := Aside0.mk HN; clear HN) | (refine bk_store (by rfl) (by rfl) (by rfl) (by rfl) (by rfl) (by repeat (first | exact HM.out | apply Blks.drewN | apply Blks.drew | apply Blks.other)) (by first | exact rowR | exact rowV | exact rowP) (by rfl) (by simp [Value.oneCell']) (by repeat (first | exact List.Mem.head _ | apply List.Mem.tail)) (by repeat (first | exact Wr.nil | apply Wr.here | apply Wr.skip)) (by repeat (first | exact Up.here | apply Up.skip)) ?_; intro _ HN; clear HM; have HM := Aside0.mk HN; clear HN) | (refine bk_slice (by rfl) (by rfl) (by repeat (first | exact HM.out | apply Blks.drewN | apply Blks.drew | apply Blks.other)) Tryz.underlying236 (by rw [Array.toList_map]; exact bs_one _ rfl) ?_; intro _ _ HN; clear HM; have HM := Aside0.mk HN; clear HN))
  refine wp_loop_rounds 2 ?_
  rw [rounds_succ]
  go_wp2_with (first
    | (go_at_call 140; ((with_reducible refine (HS2.out _).mono ?_); rintro e w2 ⟨g2, cap2, cells2, rest2, rfl, hg, hc, hl, hb⟩; have HN := Aside0.mk (Blks.add (by repeat (first | exact HM.out | apply Blks.drewN | apply Blks.drew | apply Blks.other)) hb hg hc hl); clear HM hb hg hc hl; have HM := HN; clear HN))
    | (refine bk_load1 (by rfl) (by rfl) (by rfl) (by repeat (first | exact HM.out | apply Blks.drewN | apply Blks.drew | apply Blks.other)) (by repeat (first | exact List.Mem.head _ | apply List.Mem.tail)) (by first | exact oneS | exact oneSl | exact oneB) (by repeat (first | exact Rd.nil | apply Rd.here | apply Rd.skip)) ?_) | (refine bk_load (by rfl) (by rfl) (by rfl) (by repeat (first | exact HM.out | apply Blks.drewN | apply Blks.drew | apply Blks.other)) (by repeat (first | exact List.Mem.head _ | apply List.Mem.tail)) (by first | exact rowV | exact rowP | exact rowR) (by repeat (first | exact Rd.nil | apply Rd.here | apply Rd.skip)) ?_) | (refine bk_alloc (by rfl) (by rfl) (by repeat (first | exact HM.out | apply Blks.drewN | apply Blks.drew | apply Blks.other)) (by first | exact zeroR | exact zeroV | exact zeroP) ?_; intro _ _ HN; clear HM; have HM := Aside0.mk HN; clear HN) | (refine bk_store1 (by rfl) (by rfl) (by rfl) (by rfl) (by first | exact (rfl : _ = Value.bool _) | exact (rfl : _ = Value.int _ _) | exact (rfl : _ = Value.string _) | exact (rfl : _ = Value.slice _ _ _) | exact (rfl : _ = Value.iface _ _) | exact (rfl : _ = Value.nilIface) | exact (rfl : _ = Value.pointer _)) (by repeat (first | exact HM.out | apply Blks.drewN | apply Blks.drew | apply Blks.other)) (by first | exact oneSl | exact oneB) (by rfl) (by repeat (first | exact List.Mem.head _ | apply List.Mem.tail)) (by repeat (first | exact Wr.nil | apply Wr.here | apply Wr.skip)) (by repeat (first | exact Up.here | apply Up.skip)) ?_; intro _ HN; clear HM; have HM := Aside0.mk HN; clear HN) | (refine bk_store (by rfl) (by rfl) (by rfl) (by rfl) (by rfl) (by repeat (first | exact HM.out | apply Blks.drewN | apply Blks.drew | apply Blks.other)) (by first | exact rowR | exact rowV | exact rowP) (by rfl) (by simp [Value.oneCell']) (by repeat (first | exact List.Mem.head _ | apply List.Mem.tail)) (by repeat (first | exact Wr.nil | apply Wr.here | apply Wr.skip)) (by repeat (first | exact Up.here | apply Up.skip)) ?_; intro _ HN; clear HM; have HM := Aside0.mk HN; clear HN) | (refine bk_slice (by rfl) (by rfl) (by repeat (first | exact HM.out | apply Blks.drewN | apply Blks.drew | apply Blks.other)) Tryz.underlying236 (by rw [Array.toList_map]; exact bs_one _ rfl) ?_; intro _ _ HN; clear HM; have HM := Aside0.mk HN; clear HN))
  refine wp_loop_rounds 2 ?_
  rw [rounds_succ]
  go_wp2_with (first
    | (go_at_call 142; ((with_reducible refine (trimc _).mono ?_); rintro e w4 ⟨rfl, ⟨n4, rfl⟩⟩))
    | (go_at_call 141; ((with_reducible refine (HP.out _ (Blks.bel (by repeat (first | exact HM.out | apply Blks.drewN | apply Blks.drew | apply Blks.other)))).mono ?_); rintro e w5 ⟨g5, cap5, cells5, rest5, rfl, hg, hc, hl, hf, hb⟩; have HN := Aside0.mk (Blks.add (by repeat (first | exact HM.out | apply Blks.drewN | apply Blks.drew | apply Blks.other)) hb hg hc hl); clear HM hb hg hc hl; have HM := HN; clear HN; have HF5 := Lib.hid hf; clear hf))
    | (go_at_call 295; (refine (isect120 w.heap.size _ _ _ (Blks.row (by repeat (first | exact HM.out | apply Blks.drewN | apply Blks.drew | apply Blks.other)) (by repeat (first | exact List.Mem.head _ | apply List.Mem.tail)) rfl (by unfold maxLen; omega)) (Blks.rowOf (by repeat (first | exact HM.out | apply Blks.drewN | apply Blks.drew | apply Blks.other)) (by repeat (first | exact List.Mem.head _ | apply List.Mem.tail)) HF5.out)).mono ?_); rintro e w6 ⟨g6, cap6, cells6, rest6, rfl, hg, hc, hl, hf, hb⟩; have HN := Aside0.mk (Blks.add (by repeat (first | exact HM.out | apply Blks.drewN | apply Blks.drew | apply Blks.other)) hb hg hc hl); clear HM hb hg hc hl; have HM := HN; clear HN; have HF6 := Lib.hid hf; clear hf)
    | (refine bk_load1 (by rfl) (by rfl) (by rfl) (by repeat (first | exact HM.out | apply Blks.drewN | apply Blks.drew | apply Blks.other)) (by repeat (first | exact List.Mem.head _ | apply List.Mem.tail)) (by first | exact oneS | exact oneSl | exact oneB) (by repeat (first | exact Rd.nil | apply Rd.here | apply Rd.skip)) ?_) | (refine bk_load (by rfl) (by rfl) (by rfl) (by repeat (first | exact HM.out | apply Blks.drewN | apply Blks.drew | apply Blks.other)) (by repeat (first | exact List.Mem.head _ | apply List.Mem.tail)) (by first | exact rowV | exact rowP | exact rowR) (by repeat (first | exact Rd.nil | apply Rd.here | apply Rd.skip)) ?_) | (refine bk_alloc (by rfl) (by rfl) (by repeat (first | exact HM.out | apply Blks.drewN | apply Blks.drew | apply Blks.other)) (by first | exact zeroR | exact zeroV | exact zeroP) ?_; intro _ _ HN; clear HM; have HM := Aside0.mk HN; clear HN) | (refine bk_store1 (by rfl) (by rfl) (by rfl) (by rfl) (by first | exact (rfl : _ = Value.bool _) | exact (rfl : _ = Value.int _ _) | exact (rfl : _ = Value.string _) | exact (rfl : _ = Value.slice _ _ _) | exact (rfl : _ = Value.iface _ _) | exact (rfl : _ = Value.nilIface) | exact (rfl : _ = Value.pointer _)) (by repeat (first | exact HM.out | apply Blks.drewN | apply Blks.drew | apply Blks.other)) (by first | exact oneSl | exact oneB) (by rfl) (by repeat (first | exact List.Mem.head _ | apply List.Mem.tail)) (by repeat (first | exact Wr.nil | apply Wr.here | apply Wr.skip)) (by repeat (first | exact Up.here | apply Up.skip)) ?_; intro _ HN; clear HM; have HM := Aside0.mk HN; clear HN) | (refine bk_store (by rfl) (by rfl) (by rfl) (by rfl) (by rfl) (by repeat (first | exact HM.out | apply Blks.drewN | apply Blks.drew | apply Blks.other)) (by first | exact rowR | exact rowV | exact rowP) (by rfl) (by simp [Value.oneCell']) (by repeat (first | exact List.Mem.head _ | apply List.Mem.tail)) (by repeat (first | exact Wr.nil | apply Wr.here | apply Wr.skip)) (by repeat (first | exact Up.here | apply Up.skip)) ?_; intro _ HN; clear HM; have HM := Aside0.mk HN; clear HN) | (refine bk_slice (by rfl) (by rfl) (by repeat (first | exact HM.out | apply Blks.drewN | apply Blks.drew | apply Blks.other)) Tryz.underlying236 (by rw [Array.toList_map]; exact bs_one _ rfl) ?_; intro _ _ HN; clear HM; have HM := Aside0.mk HN; clear HN))
  rw [rounds_succ]
  go_wp2_with (first
    | (at_builtin; (refine wpList_append_own _ (by rfl) _ _ 236 (by rfl) w.heap.size 242 iv (.agg zP) 17 176 Tryz.underlying236 hvi hvz0 hvz1 hvz2 rfl (by decide) _ 0 _ (by rfl) (World.ownsRow_nil _ _ _ _) ⟨g6, 0, none⟩ 1 cap6 P120 (by rfl) ?c0 ?c1 ?c2 ?c3 ?c4 ?c5 ?_))
    | (refine bk_load1 (by rfl) (by rfl) (by rfl) (by repeat (first | exact HM.out | apply Blks.drewN | apply Blks.drew | apply Blks.other)) (by repeat (first | exact List.Mem.head _ | apply List.Mem.tail)) (by first | exact oneS | exact oneSl | exact oneB) (by repeat (first | exact Rd.nil | apply Rd.here | apply Rd.skip)) ?_) | (refine bk_load (by rfl) (by rfl) (by rfl) (by repeat (first | exact HM.out | apply Blks.drewN | apply Blks.drew | apply Blks.other)) (by repeat (first | exact List.Mem.head _ | apply List.Mem.tail)) (by first | exact rowV | exact rowP | exact rowR) (by repeat (first | exact Rd.nil | apply Rd.here | apply Rd.skip)) ?_) | (refine bk_alloc (by rfl) (by rfl) (by repeat (first | exact HM.out | apply Blks.drewN | apply Blks.drew | apply Blks.other)) (by first | exact zeroR | exact zeroV | exact zeroP) ?_; intro _ _ HN; clear HM; have HM := Aside0.mk HN; clear HN) | (refine bk_store1 (by rfl) (by rfl) (by rfl) (by rfl) (by first | exact (rfl : _ = Value.bool _) | exact (rfl : _ = Value.int _ _) | exact (rfl : _ = Value.string _) | exact (rfl : _ = Value.slice _ _ _) | exact (rfl : _ = Value.iface _ _) | exact (rfl : _ = Value.nilIface) | exact (rfl : _ = Value.pointer _)) (by repeat (first | exact HM.out | apply Blks.drewN | apply Blks.drew | apply Blks.other)) (by first | exact oneSl | exact oneB) (by rfl) (by repeat (first | exact List.Mem.head _ | apply List.Mem.tail)) (by repeat (first | exact Wr.nil | apply Wr.here | apply Wr.skip)) (by repeat (first | exact Up.here | apply Up.skip)) ?_; intro _ HN; clear HM; have HM := Aside0.mk HN; clear HN) | (refine bk_store (by rfl) (by rfl) (by rfl) (by rfl) (by rfl) (by repeat (first | exact HM.out | apply Blks.drewN | apply Blks.drew | apply Blks.other)) (by first | exact rowR | exact rowV | exact rowP) (by rfl) (by simp [Value.oneCell']) (by repeat (first | exact List.Mem.head _ | apply List.Mem.tail)) (by repeat (first | exact Wr.nil | apply Wr.here | apply Wr.skip)) (by repeat (first | exact Up.here | apply Up.skip)) ?_; intro _ HN; clear HM; have HM := Aside0.mk HN; clear HN) | (refine bk_slice (by rfl) (by rfl) (by repeat (first | exact HM.out | apply Blks.drewN | apply Blks.drew | apply Blks.other)) Tryz.underlying236 (by rw [Array.toList_map]; exact bs_one _ rfl) ?_; intro _ _ HN; clear HM; have HM := Aside0.mk HN; clear HN))
  case c0 => rfl
  case c1 => exact Blks.addr HM.out (by repeat (first | exact List.Mem.head _ | apply List.Mem.tail))
  case c2 => exact fun u hu => (Array.all_eq_true_iff_forall_mem.1 (pcell_pcs v120 v2 true true true false).one) u (by simpa [P120] using hu)
  case c3 => unfold maxLen; omega
  case c4 => omega
  case c5 => exact HM.out.bel.size
  intro v9 w9 ho9 hg9 _
  obtain ⟨g9, cap9, rfl, _, _⟩ := ho9.form (by omega)
  have HN := Aside0.mk (Blks.call HM.out (pw_below_grown (Below.refl _ _) _ (Nat.le_refl _) hg9 (fun kk hk => by simp [Value.ownBlock] at hk)))
  clear HM ho9 hg9
  have HM := HN
  clear HN
  go_wp2_with (first | (refine bk_load1 (by rfl) (by rfl) (by rfl) (by repeat (first | exact HM.out | apply Blks.drewN | apply Blks.drew | apply Blks.other)) (by repeat (first | exact List.Mem.head _ | apply List.Mem.tail)) (by first | exact oneS | exact oneSl | exact oneB) (by repeat (first | exact Rd.nil | apply Rd.here | apply Rd.skip)) ?_) | (refine bk_load (by rfl) (by rfl) (by rfl) (by repeat (first | exact HM.out | apply Blks.drewN | apply Blks.drew | apply Blks.other)) (by repeat (first | exact List.Mem.head _ | apply List.Mem.tail)) (by first | exact rowV | exact rowP | exact rowR) (by repeat (first | exact Rd.nil | apply Rd.here | apply Rd.skip)) ?_) | (refine bk_alloc (by rfl) (by rfl) (by repeat (first | exact HM.out | apply Blks.drewN | apply Blks.drew | apply Blks.other)) (by first | exact zeroR | exact zeroV | exact zeroP) ?_; intro _ _ HN; clear HM; have HM := Aside0.mk HN; clear HN) | (refine bk_store1 (by rfl) (by rfl) (by rfl) (by rfl) (by first | exact (rfl : _ = Value.bool _) | exact (rfl : _ = Value.int _ _) | exact (rfl : _ = Value.string _) | exact (rfl : _ = Value.slice _ _ _) | exact (rfl : _ = Value.iface _ _) | exact (rfl : _ = Value.nilIface) | exact (rfl : _ = Value.pointer _)) (by repeat (first | exact HM.out | apply Blks.drewN | apply Blks.drew | apply Blks.other)) (by first | exact oneSl | exact oneB) (by rfl) (by repeat (first | exact List.Mem.head _ | apply List.Mem.tail)) (by repeat (first | exact Wr.nil | apply Wr.here | apply Wr.skip)) (by repeat (first | exact Up.here | apply Up.skip)) ?_; intro _ HN; clear HM; have HM := Aside0.mk HN; clear HN) | (refine bk_store (by rfl) (by rfl) (by rfl) (by rfl) (by rfl) (by repeat (first | exact HM.out | apply Blks.drewN | apply Blks.drew | apply Blks.other)) (by first | exact rowR | exact rowV | exact rowP) (by rfl) (by simp [Value.oneCell']) (by repeat (first | exact List.Mem.head _ | apply List.Mem.tail)) (by repeat (first | exact Wr.nil | apply Wr.here | apply Wr.skip)) (by repeat (first | exact Up.here | apply Up.skip)) ?_; intro _ HN; clear HM; have HM := Aside0.mk HN; clear HN) | (refine bk_slice (by rfl) (by rfl) (by repeat (first | exact HM.out | apply Blks.drewN | apply Blks.drew | apply Blks.other)) Tryz.underlying236 (by rw [Array.toList_map]; exact bs_one _ rfl) ?_; intro _ _ HN; clear HM; have HM := Aside0.mk HN; clear HN))
  rw [rounds_succ]
  go_wp2_with (first | (refine bk_load1 (by rfl) (by rfl) (by rfl) (by repeat (first | exact HM.out | apply Blks.drewN | apply Blks.drew | apply Blks.other)) (by repeat (first | exact List.Mem.head _ | apply List.Mem.tail)) (by first | exact oneS | exact oneSl | exact oneB) (by repeat (first | exact Rd.nil | apply Rd.here | apply Rd.skip)) ?_) | (refine bk_load (by rfl) (by rfl) (by rfl) (by repeat (first | exact HM.out | apply Blks.drewN | apply Blks.drew | apply Blks.other)) (by repeat (first | exact List.Mem.head _ | apply List.Mem.tail)) (by first | exact rowV | exact rowP | exact rowR) (by repeat (first | exact Rd.nil | apply Rd.here | apply Rd.skip)) ?_) | (refine bk_alloc (by rfl) (by rfl) (by repeat (first | exact HM.out | apply Blks.drewN | apply Blks.drew | apply Blks.other)) (by first | exact zeroR | exact zeroV | exact zeroP) ?_; intro _ _ HN; clear HM; have HM := Aside0.mk HN; clear HN) | (refine bk_store1 (by rfl) (by rfl) (by rfl) (by rfl) (by first | exact (rfl : _ = Value.bool _) | exact (rfl : _ = Value.int _ _) | exact (rfl : _ = Value.string _) | exact (rfl : _ = Value.slice _ _ _) | exact (rfl : _ = Value.iface _ _) | exact (rfl : _ = Value.nilIface) | exact (rfl : _ = Value.pointer _)) (by repeat (first | exact HM.out | apply Blks.drewN | apply Blks.drew | apply Blks.other)) (by first | exact oneSl | exact oneB) (by rfl) (by repeat (first | exact List.Mem.head _ | apply List.Mem.tail)) (by repeat (first | exact Wr.nil | apply Wr.here | apply Wr.skip)) (by repeat (first | exact Up.here | apply Up.skip)) ?_; intro _ HN; clear HM; have HM := Aside0.mk HN; clear HN) | (refine bk_store (by rfl) (by rfl) (by rfl) (by rfl) (by rfl) (by repeat (first | exact HM.out | apply Blks.drewN | apply Blks.drew | apply Blks.other)) (by first | exact rowR | exact rowV | exact rowP) (by rfl) (by simp [Value.oneCell']) (by repeat (first | exact List.Mem.head _ | apply List.Mem.tail)) (by repeat (first | exact Wr.nil | apply Wr.here | apply Wr.skip)) (by repeat (first | exact Up.here | apply Up.skip)) ?_; intro _ HN; clear HM; have HM := Aside0.mk HN; clear HN) | (refine bk_slice (by rfl) (by rfl) (by repeat (first | exact HM.out | apply Blks.drewN | apply Blks.drew | apply Blks.other)) Tryz.underlying236 (by rw [Array.toList_map]; exact bs_one _ rfl) ?_; intro _ _ HN; clear HM; have HM := Aside0.mk HN; clear HN))
  go_ret2
  exact ⟨g6, cap6, _, rest6, rfl, HM.out.new (g6, P120 ++ rest6, 242) (by repeat (first | exact List.Mem.head _ | apply List.Mem.tail)), HM.out.has (g6, P120 ++ rest6, 242) (by repeat (first | exact List.Mem.head _ | apply List.Mem.tail)), rfl, HF6.out, HM.out.bel⟩
end Go.Proofs.YtgoeiflddikihaaGreatDoor.Ver
end
section
namespace Go.Proofs.YtgoeiflddikihaaGreatDoor.Ver
open Go.RowKit Go.Proofs.YtgoeiflddikihaaGreatDoorW.PrintWords
theorem scm (rv : Value) (v : SV) (w : World)
    (hm : ∀ W, Below w.heap.size w W → Calls Tryz.prog 296 #[.agg #[rv], .agg v.cells] W fun e w' => e = .returned .nilIface ∧ Below W.heap.size W w') :
    Calls Tryz.prog 251 #[.agg #[.iface 238 (.agg #[rv])], Vers.val (.un (.sem v))] w fun e w' => e = .returned (.bool true) ∧ Below w.heap.size w w' := by
  have HM := Lib.hid hm
  have HB := Aside0.mk (Below.refl w.heap.size w)
  have f1 := c_sem_sem
  have f2 := m_range_Matches
  obtain ⟨va, vb, vc, vp, vm, vo⟩ := v
  dsimp only [Vers.val, Vers.tid, Vers.inner, Unp.val, Unp.tid, Unp.inner, SV.cells] at HM ⊢
  clear hm
  go_enter Tryz.func251, Tryz.ntmps251
  go_wp2_with (first
    | (go_at_call 296; ((with_reducible refine (HM.out _ (by repeat (first | exact HB.out | apply below_alloc | apply pw_below_drewN))).mono ?_); rintro e w1 ⟨rfl, hb1⟩; have HB5 := Aside0.mk (below_trans (by repeat (first | exact HB.out | apply below_alloc | apply pw_below_drewN)) hb1); clear hb1)))
  go_ret
  exact ⟨rfl, HB5.out⟩
end Go.Proofs.YtgoeiflddikihaaGreatDoor.Ver
end
section
namespace Go.Proofs.YtgoeiflddikihaaGreatDoor.Ver
set_option linter.unusedSimpArgs false
open Go.Sort (grow)
open Go.RowKit Go.Proofs.YtgoeiflddikihaaGreatDoor.Dig Go.Proofs.YtgoeiflddikihaaGreatDoorW.PrintWords Go.Proofs.YtgoeiflddikihaaGreatDoor.Mem
theorem rowC : RowT Tryz.prog 29 6 := ⟨⟨_, Tryz.underlying29, rfl⟩, by kernel_rfl⟩
theorem rowIV : RowT Tryz.prog 27 3 := ⟨⟨_, Tryz.underlying27, rfl⟩, by kernel_rfl⟩
theorem oneI : OneT Tryz.prog 2 := ⟨⟨_, Tryz.underlying2, rfl⟩, by kernel_rfl⟩
theorem newc120 (w : World) (hv : Vars w) : Calls Tryz.prog 118 #[.string tc120] w (RangeEnd w) := by
  have HP := Lib.hid (fun W hb => con120 W (Vars.below (w := w) hv hb))
  have HM := Aside0.mk (Blks.start w)
  clear hv
  go_enter Tryz.func118, Tryz.ntmps118
  go_wp2_with (first
    | (go_at_call 127; ((with_reducible refine (HP.out _ (Blks.bel (by repeat (first | exact HM.out | apply Blks.drewN | apply Blks.drew | apply Blks.other)))).mono ?_); rintro e w5 ⟨g5, cap5, cells5, rest5, rfl, hg, hc, hl, hf, hb⟩; have HN := Aside0.mk (Blks.add (by repeat (first | exact HM.out | apply Blks.drewN | apply Blks.drew | apply Blks.other)) hb hg hc hl); clear HM hb hg hc hl; have HM := HN; clear HN; have HF5 := Lib.hid hf; clear hf)))
  go_ret2
  exact ⟨g5, cap5, _, rest5, rfl, HM.out.new (g5, P120 ++ rest5, 242) (by repeat (first | exact List.Mem.head _ | apply List.Mem.tail)), HM.out.has (g5, P120 ++ rest5, 242) (by repeat (first | exact List.Mem.head _ | apply List.Mem.tail)), rfl, HF5.out, HM.out.bel⟩
def ConEnd (v : Value) (w : World) (e : Ending) (w' : World) : Prop :=
  ∃ g cap cells rest, e = .returned (.tuple #[.iface 202 (.agg #[.iface 238 (.agg #[.slice (some ⟨g, 0, none⟩) 1 cap])]), v]) ∧ w.heap.size ≤ g ∧ w'.heap[g]? = some (.cells cells 242 (0, 0)) ∧ cells.toList = P120 ++ rest ∧ RowF 1 cap 17 P120 rest ∧ Below w.heap.size w w'
set_option maxRecDepth 20000 in
set_option maxHeartbeats 1000000 in
theorem nsc120 (w : World) (hv : Vars w) : Calls Tryz.prog 95 #[.string tc120] w (ConEnd .nilIface w) := by
  have HP := Lib.hid (fun W hb => newc120 W (Vars.below (w := w) hv hb))
  have HM := Aside0.mk (Blks.start w)
  have f1 := c_range_sv
  clear hv
  go_enter Tryz.func95, Tryz.ntmps95
  go_wp2_with (first
    | (go_at_call 118; ((with_reducible refine (HP.out _ (Blks.bel (by repeat (first | exact HM.out | apply Blks.drewN | apply Blks.drew | apply Blks.other)))).mono ?_); rintro e w5 ⟨g5, cap5, cells5, rest5, rfl, hg, hc, hl, hf, hb⟩; have HN := Aside0.mk (Blks.add (by repeat (first | exact HM.out | apply Blks.drewN | apply Blks.drew | apply Blks.other)) hb hg hc hl); clear HM hb hg hc hl; have HM := HN; clear HN; have HF5 := Lib.hid hf; clear hf))
    | (refine bk_load1 (by rfl) (by rfl) (by rfl) (by repeat (first | exact HM.out | apply Blks.drewN | apply Blks.drew | apply Blks.other)) (by repeat (first | exact List.Mem.head _ | apply List.Mem.tail)) (by first | exact oneS | exact oneSl | exact oneB | exact oneI) (by repeat (first | exact Rd.nil | apply Rd.here | apply Rd.skip)) ?_) | (refine bk_load (by rfl) (by rfl) (by rfl) (by repeat (first | exact HM.out | apply Blks.drewN | apply Blks.drew | apply Blks.other)) (by repeat (first | exact List.Mem.head _ | apply List.Mem.tail)) (by first | exact rowV | exact rowP | exact rowR | exact rowC | exact rowIV) (by repeat (first | exact Rd.nil | apply Rd.here | apply Rd.skip)) ?_) | (refine bk_alloc (by rfl) (by rfl) (by repeat (first | exact HM.out | apply Blks.drewN | apply Blks.drew | apply Blks.other)) (by first | exact zeroR | exact zeroV | exact zeroP) ?_; intro bq _ HN; clear HM; have HM := Aside0.mk HN; clear HN) | (refine bk_store1 (by rfl) (by rfl) (by rfl) (by rfl) (by first | exact (rfl : _ = Value.bool _) | exact (rfl : _ = Value.int _ _) | exact (rfl : _ = Value.string _) | exact (rfl : _ = Value.slice _ _ _) | exact (rfl : _ = Value.iface _ _) | exact (rfl : _ = Value.nilIface) | exact (rfl : _ = Value.pointer _)) (by repeat (first | exact HM.out | apply Blks.drewN | apply Blks.drew | apply Blks.other)) (by first | exact oneSl | exact oneB) (by rfl) (by repeat (first | exact List.Mem.head _ | apply List.Mem.tail)) (by repeat (first | exact Wr.nil | apply Wr.here | apply Wr.skip)) (by repeat (first | exact Up.here | apply Up.skip)) ?_; intro _ HN; clear HM; have HM := Aside0.mk HN; clear HN) | (refine bk_store (by rfl) (by rfl) (by rfl) (by rfl) (by rfl) (by repeat (first | exact HM.out | apply Blks.drewN | apply Blks.drew | apply Blks.other)) (by first | exact rowR | exact rowV | exact rowP) (by rfl) (by simp [Value.oneCell']) (by repeat (first | exact List.Mem.head _ | apply List.Mem.tail)) (by repeat (first | exact Wr.nil | apply Wr.here | apply Wr.skip)) (by repeat (first | exact Up.here | apply Up.skip)) ?_; intro _ HN; clear HM; have HM := Aside0.mk HN; clear HN))
  go_ret2
  exact ⟨g5, cap5, _, rest5, rfl, HM.out.new (g5, P120 ++ rest5, 242) (by repeat (first | exact List.Mem.head _ | apply List.Mem.tail)), HM.out.has (g5, P120 ++ rest5, 242) (by repeat (first | exact List.Mem.head _ | apply List.Mem.tail)), rfl, HF5.out, HM.out.bel⟩
abbrev C120 : Array Value := #[.int .i64 2, .string tc120, .int .i64 0, .string ⟨#[]⟩, .string ⟨#[]⟩, .slice none 0 0]
set_option maxRecDepth 20000 in
set_option maxHeartbeats 1000000 in
theorem icon120 (w : World) (hv : Vars w) : Calls Tryz.prog 65 #[.agg C120] w (ConEnd (.bool true) w) := by
  have HP := Lib.hid (fun W hb => nsc120 W (Vars.below (w := w) hv hb))
  have HM := Aside0.mk (Blks.start w)
  clear hv
  go_enter Tryz.func65, Tryz.ntmps65
  go_wp2_with (first
    | (go_at_call 95; ((with_reducible refine (HP.out _ (Blks.bel (by repeat (first | exact HM.out | apply Blks.drewN | apply Blks.drew | apply Blks.other)))).mono ?_); rintro e w5 ⟨g5, cap5, cells5, rest5, rfl, hg, hc, hl, hf, hb⟩; have HN := Aside0.mk (Blks.add (by repeat (first | exact HM.out | apply Blks.drewN | apply Blks.drew | apply Blks.other)) hb hg hc hl); clear HM hb hg hc hl; have HM := HN; clear HN; have HF5 := Lib.hid hf; clear hf))
    | (refine bk_load1 (by rfl) (by rfl) (by rfl) (by repeat (first | exact HM.out | apply Blks.drewN | apply Blks.drew | apply Blks.other)) (by repeat (first | exact List.Mem.head _ | apply List.Mem.tail)) (by first | exact oneS | exact oneSl | exact oneB | exact oneI) (by repeat (first | exact Rd.nil | apply Rd.here | apply Rd.skip)) ?_) | (refine bk_load (by rfl) (by rfl) (by rfl) (by repeat (first | exact HM.out | apply Blks.drewN | apply Blks.drew | apply Blks.other)) (by repeat (first | exact List.Mem.head _ | apply List.Mem.tail)) (by first | exact rowV | exact rowP | exact rowR | exact rowC | exact rowIV) (by repeat (first | exact Rd.nil | apply Rd.here | apply Rd.skip)) ?_) | (refine bk_alloc (by rfl) (by rfl) (by repeat (first | exact HM.out | apply Blks.drewN | apply Blks.drew | apply Blks.other)) (by first | exact zeroR | exact zeroV | exact zeroP) ?_; intro bq _ HN; clear HM; have HM := Aside0.mk HN; clear HN) | (refine bk_store1 (by rfl) (by rfl) (by rfl) (by rfl) (by first | exact (rfl : _ = Value.bool _) | exact (rfl : _ = Value.int _ _) | exact (rfl : _ = Value.string _) | exact (rfl : _ = Value.slice _ _ _) | exact (rfl : _ = Value.iface _ _) | exact (rfl : _ = Value.nilIface) | exact (rfl : _ = Value.pointer _)) (by repeat (first | exact HM.out | apply Blks.drewN | apply Blks.drew | apply Blks.other)) (by first | exact oneSl | exact oneB) (by rfl) (by repeat (first | exact List.Mem.head _ | apply List.Mem.tail)) (by repeat (first | exact Wr.nil | apply Wr.here | apply Wr.skip)) (by repeat (first | exact Up.here | apply Up.skip)) ?_; intro _ HN; clear HM; have HM := Aside0.mk HN; clear HN) | (refine bk_store (by rfl) (by rfl) (by rfl) (by rfl) (by rfl) (by repeat (first | exact HM.out | apply Blks.drewN | apply Blks.drew | apply Blks.other)) (by first | exact rowR | exact rowV | exact rowP) (by rfl) (by simp [Value.oneCell']) (by repeat (first | exact List.Mem.head _ | apply List.Mem.tail)) (by repeat (first | exact Wr.nil | apply Wr.here | apply Wr.skip)) (by repeat (first | exact Up.here | apply Up.skip)) ?_; intro _ HN; clear HM; have HM := Aside0.mk HN; clear HN) | (refine bk_box (by rfl) (by rfl) (by repeat (first | exact HM.out | apply Blks.drewN | apply Blks.drew | apply Blks.other)) (by rfl) ?_; intro bq _ HN; clear HM; have HM := Aside0.mk HN; clear HN))
  go_ret2
  exact ⟨g5, cap5, _, rest5, rfl, HM.out.new (g5, P120 ++ rest5, 242) (by repeat (first | exact List.Mem.head _ | apply List.Mem.tail)), HM.out.has (g5, P120 ++ rest5, 242) (by repeat (first | exact List.Mem.head _ | apply List.Mem.tail)), rfl, HF5.out, HM.out.bel⟩
abbrev t190 : ByteArray := ⟨#[49, 46, 57, 46, 48]⟩
def v190 : SV := ⟨1, 9, 0, ⟨#[]⟩, ⟨#[]⟩, t190⟩
theorem ver190 (w : World) (hv : Vars w) : Calls Tryz.prog 66 #[.agg #[.int .i64 3, .string t190, .string ⟨#[]⟩]] w fun e w' => e = .returned (Vers.val (.un (.sem v190))) ∧ Below w.heap.size w w' :=
  ver_any 3 t190 ⟨#[]⟩ (by decide) w hv
theorem mat120 (g cap : Nat) (cells : Array Value) (rest : List Value) (hf : RowF 1 cap 17 P120 rest) (hl : cells.toList = P120 ++ rest) (w : World) (hc : w.heap[g]? = some (.cells cells 242 (0, 0))) :
    Calls Tryz.prog 251 #[.agg #[.iface 238 (.agg #[.slice (some ⟨g, 0, none⟩) 1 cap])], Vers.val (.un (.sem v190))] w fun e w' => e = .returned (.bool true) ∧ Below w.heap.size w w' := by
  refine scm _ v190 w (fun W hW => ?_)
  have hc' : W.heap[g]? = some (.cells cells 242 (0, 0)) := (hW.block g (blk_lt hc)).trans hc
  refine range_in (pcs v120 v2 true true true false) (pcell_pcs _ _ _ _ _ _) v190 0 _ W ⟨hf.len, Or.inr ⟨g, cap, cells, rfl, Nat.zero_le _, hc', hf.le, hf.most, ?_, ?_⟩⟩ (has_in v120 v2 v190 (by decide) (by decide) (by decide) (by kernel_rfl) (by kernel_rfl) false)
  · rw [← Array.length_toList, hl]; exact hf.all
  · rw [hl]; show List.take (1 * 17) (P120 ++ rest) = P120; rw [← hf.len, List.take_left]
theorem n_sc_Matches (v : Value) (w : World) : (nilAhead 417 202 v "Matches").run Tryz.prog w = .ok (some false) w := by kernel_rfl
set_option maxRecDepth 20000 in
set_option maxHeartbeats 2000000 in
theorem matches120 (w : World) (hv : Vars w) : Calls Tryz.prog 27 #[.agg C120, .agg #[.int .i64 3, .string t190, .string ⟨#[]⟩]] w fun e w' => e = .returned (.bool true) ∧ Below w.heap.size w w' := by
  have HP := Lib.hid (fun W hb => icon120 W (Vars.below (w := w) hv hb))
  have HV := Lib.hid (fun W hb => ver190 W (Vars.below (w := w) hv hb))
  have HM := Aside0.mk (Blks.start w)
  have f1 := m_sc_Matches
  have f2 := n_sc_Matches
  clear hv
  go_enter Tryz.func27, Tryz.ntmps27
  go_wp2_with (first
    | (go_at_call 65; ((with_reducible refine (HP.out _ (Blks.bel (by repeat (first | exact HM.out | apply Blks.drewN | apply Blks.drew | apply Blks.other)))).mono ?_); rintro e w5 ⟨g5, cap5, cells5, rest5, rfl, hg, hc, hl, hf, hb⟩; have HC5 := Aside0.mk hc; have HL5 := Lib.hid hl; have HN := Aside0.mk (Blks.add (by repeat (first | exact HM.out | apply Blks.drewN | apply Blks.drew | apply Blks.other)) hb hg hc hl); clear HM hb hg hc hl; have HM := HN; clear HN; have HF5 := Lib.hid hf; clear hf))
    | (refine bk_load1 (by rfl) (by rfl) (by rfl) (by repeat (first | exact HM.out | apply Blks.drewN | apply Blks.drew | apply Blks.other)) (by repeat (first | exact List.Mem.head _ | apply List.Mem.tail)) (by first | exact oneS | exact oneSl | exact oneB | exact oneI) (by repeat (first | exact Rd.nil | apply Rd.here | apply Rd.skip)) ?_) | (refine bk_load (by rfl) (by rfl) (by rfl) (by repeat (first | exact HM.out | apply Blks.drewN | apply Blks.drew | apply Blks.other)) (by repeat (first | exact List.Mem.head _ | apply List.Mem.tail)) (by first | exact rowV | exact rowP | exact rowR | exact rowC | exact rowIV) (by repeat (first | exact Rd.nil | apply Rd.here | apply Rd.skip)) ?_) | (refine bk_alloc (by rfl) (by rfl) (by repeat (first | exact HM.out | apply Blks.drewN | apply Blks.drew | apply Blks.other)) (by first | exact zeroR | exact zeroV | exact zeroP) ?_; intro bq _ HN; clear HM; have HM := Aside0.mk HN; clear HN) | (refine bk_store1 (by rfl) (by rfl) (by rfl) (by rfl) (by first | exact (rfl : _ = Value.bool _) | exact (rfl : _ = Value.int _ _) | exact (rfl : _ = Value.string _) | exact (rfl : _ = Value.slice _ _ _) | exact (rfl : _ = Value.iface _ _) | exact (rfl : _ = Value.nilIface) | exact (rfl : _ = Value.pointer _)) (by repeat (first | exact HM.out | apply Blks.drewN | apply Blks.drew | apply Blks.other)) (by first | exact oneSl | exact oneB) (by rfl) (by repeat (first | exact List.Mem.head _ | apply List.Mem.tail)) (by repeat (first | exact Wr.nil | apply Wr.here | apply Wr.skip)) (by repeat (first | exact Up.here | apply Up.skip)) ?_; intro _ HN; clear HM; have HM := Aside0.mk HN; clear HN) | (refine bk_store (by rfl) (by rfl) (by rfl) (by rfl) (by rfl) (by repeat (first | exact HM.out | apply Blks.drewN | apply Blks.drew | apply Blks.other)) (by first | exact rowR | exact rowV | exact rowP) (by rfl) (by simp [Value.oneCell']) (by repeat (first | exact List.Mem.head _ | apply List.Mem.tail)) (by repeat (first | exact Wr.nil | apply Wr.here | apply Wr.skip)) (by repeat (first | exact Up.here | apply Up.skip)) ?_; intro _ HN; clear HM; have HM := Aside0.mk HN; clear HN) | (refine bk_box (by rfl) (by rfl) (by repeat (first | exact HM.out | apply Blks.drewN | apply Blks.drew | apply Blks.other)) (by rfl) ?_; intro bq _ HN; clear HM; have HM := Aside0.mk HN; clear HN))
  have hr := HM.out.range (b := bq) (o := 0) (n := 3) (by repeat (first | exact List.Mem.head _ | apply List.Mem.tail)) (by repeat (first | exact Rd.nil | apply Rd.here | apply Rd.skip))
  have k0 := fun d os => cell_regrown (show w5.cell? ⟨bq, 0, none⟩ = some (.int .i64 3) from hr 0 _ rfl) d os
  have k1 := fun d os => cell_regrown (show w5.cell? ⟨bq, 1, none⟩ = some (.string t190) from hr 1 _ rfl) d os
  have k2 := fun d os => cell_regrown (show w5.cell? ⟨bq, 2, none⟩ = some (.string ⟨#[]⟩) from hr 2 _ rfl) d os
  clear hr
  have HV5 := Lib.hid (fun d os => Calls.regrown_of (HV.out (grow (redrawn w5 d) os) (below_trans HM.out.bel (below_regrown w5 d os))))
  have HT5 := Lib.hid (fun d os => Calls.regrown_of (mat120 g5 cap5 cells5 rest5 HF5.out HL5.out (grow (redrawn w5 d) os) (((below_regrown w5 d os).block g5 (blk_lt HC5.out)).trans HC5.out)))
  refine wp_region_quiet_below (by kernel_rfl) (by kernel_rfl) ?_
  repeat (quiet_step (first | exact HV5.out _ _ | exact HT5.out _ _))
  refine wpQuiet_nil ?_
  intro _ hw'
  obtain ⟨⟨dq, osq⟩, hw''⟩ := hw'
  subst hw''
  go_wp2_with fail
  go_ret
  exact ⟨rfl, below_trans HM.out.bel (below_regrown w5 _ _)⟩
end Go.Proofs.YtgoeiflddikihaaGreatDoor.Ver
end
section
namespace Go.Proofs.YtgoeiflddikihaaGreatDoor.Awk
open Go.Sort
theorem three {α : Type} [Inhabited α] {lt : α → α → Bool} (h : SWO lt) {c0 c1 c2 : α} (h21 : lt c2 c1 = true) (h20 : lt c2 c0 = true) (h10 : lt c1 c0 = true) {d' : Array α} (hp : PermIn 0 3 #[c0, c1, c2] d') (hs : SortedIn lt 0 3 d') :
    d' = #[c2, c1, c0] := by
  obtain ⟨hsz, _, hpm⟩ := hp
  have hsz3 : d'.size = 3 := hsz
  obtain ⟨l⟩ := d'
  have hl : l.length = 3 := hsz3
  match l, hl with
  | [x, y, z], _ =>
    have hpm' : [x, y, z].Perm [c0, c1, c2] := by simpa using hpm
    have s1 : lt y x = false := by simpa using hs 0 1 (by omega) (by omega) (by omega)
    have s2 : lt z x = false := by simpa using hs 0 2 (by omega) (by omega) (by omega)
    have s3 : lt z y = false := by simpa using hs 1 2 (by omega) (by omega) (by omega)
    have n01 : c0 ≠ c1 := fun e => by rw [e, h.irrefl] at h10; cases h10
    have n02 : c0 ≠ c2 := fun e => by rw [e, h.irrefl] at h20; cases h20
    have n12 : c1 ≠ c2 := fun e => by rw [e, h.irrefl] at h21; cases h21
    have hx : x ∈ [c0, c1, c2] := hpm'.mem_iff.1 (by simp)
    have hy : y ∈ [c0, c1, c2] := hpm'.mem_iff.1 (by simp)
    have hz : z ∈ [c0, c1, c2] := hpm'.mem_iff.1 (by simp)
    have k0 : c0 ∈ [x, y, z] := hpm'.mem_iff.2 (by simp)
    have k1 : c1 ∈ [x, y, z] := hpm'.mem_iff.2 (by simp)
    have k2 : c2 ∈ [x, y, z] := hpm'.mem_iff.2 (by simp)
    simp only [List.mem_cons, List.not_mem_nil, or_false] at hx hy hz
    rcases hx with rfl | rfl | rfl <;> rcases hy with rfl | rfl | rfl <;> rcases hz with rfl | rfl | rfl <;>
      first
        | rfl
        | (exfalso; simp [n01, n02, n12, n01.symm, n02.symm, n12.symm] at k0 k1 k2; done)
        | (exfalso; simp_all; done)
end Go.Proofs.YtgoeiflddikihaaGreatDoor.Awk
end
