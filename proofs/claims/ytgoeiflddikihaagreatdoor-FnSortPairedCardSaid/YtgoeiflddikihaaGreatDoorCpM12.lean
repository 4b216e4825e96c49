/- Merged by program out of: VPm, VPo, Vsl2. -/
import Derived.Test.YtgoeiflddikihaaGreatDoorCpM11
import Derived.Test.YtgoeiflddikihaaGreatDoorCpM6
section
namespace Go.Proofs.YtgoeiflddikihaaGreatDoor.PFnVersion
open Go.RowKit Go.Proofs.YtgoeiflddikihaaGreatDoorW.PrintWords Go.Proofs.YtgoeiflddikihaaGreatDoorW.PrintLast Go.Proofs.YtgoeiflddikihaaGreatDoorW.PrintMore
attribute [local go_sem] max2_int min2_int max_two min_two max_three min_three max_four min_four   -- for this text's walks alone
set_option linter.unusedVariables false
set_option linter.unusedSimpArgs false
def laws_verAll.l0 : Nat → List (S27) → Int → Int → Option (Bool)
 | 0, _, _, _ => none
 | k + 1, x8, x9, x10 => if x10 < x9 then (if 0 ≤ x10 then (if x10 < (x8.length : Int) then ((laws_verOf.f ((rd_T27 x8 x10).f0) ((rd_T27 x8 x10).f1) ((rd_T27 x8 x10).f2)).bind fun bt164 => ((spec_IsV.f k bt164.1 bt164.2.1 bt164.2.2).bind fun t167 => (if t167 = true then (laws_verAll.l0 k x8 x9 (wrap64 (x10 + 1))) else (some false)))) else (none)) else (none)) else (some true)
def laws_verAll.f (k : Nat) (l0 : List (S27)) : Option (Bool) := if (l0.length : Int) > 20 then (some false) else (laws_verAll.l0 k l0 (l0.length : Int) 0)
theorem laws_verAll.mono_l : ∀ k, (∀ y0 y1 y2, LeO (laws_verAll.l0 k y0 y1 y2) (laws_verAll.l0 (k + 1) y0 y1 y2))
 | 0 => fun _ _ _ r h => by simp [laws_verAll.l0] at h
 | k + 1 => by
  have ih0 := laws_verAll.mono_l k
  ·intro y0 y1 y2
   unfold laws_verAll.l0
   repeat' first
   | (with_reducible exact ih0 _ _ _)
   | (with_reducible exact spec_IsV.mono _ _ _ _)
   | (with_reducible exact LeO.refl _)
   | (with_reducible exact LeO.none _)
   | (with_reducible refine LeO.ite ?_ ?_)
   | (with_reducible refine LeO.bind ?_ (fun _ => ?_))
   | exact ih0 _ _ _
   | exact spec_IsV.mono _ _ _ _
   | exact LeO.none _
   | refine LeO.ite ?_ ?_
   | refine LeO.bind ?_ (fun _ => ?_)
theorem laws_verAll.mono : ∀ a0 k, LeO (laws_verAll.f k a0) (laws_verAll.f (k + 1) a0) := by
 intro a0 k
 have ih0 := laws_verAll.mono_l k
 unfold laws_verAll.f
 repeat' first
   | (with_reducible exact ih0 _ _ _)
   | (with_reducible exact spec_IsV.mono _ _ _ _)
   | (with_reducible exact LeO.refl _)
   | (with_reducible exact LeO.none _)
   | (with_reducible refine LeO.ite ?_ ?_)
   | (with_reducible refine LeO.bind ?_ (fun _ => ?_))
   | exact ih0 _ _ _
   | exact spec_IsV.mono _ _ _ _
   | exact LeO.none _
   | refine LeO.ite ?_ ?_
   | refine LeO.bind ?_ (fun _ => ?_)
set_option maxHeartbeats 8000000 in
set_option maxRecDepth 100000 in
theorem laws_verAll.calls (k : Nat) (A0 : Option Addr) (c0 : Nat) (l0 : List (S27)) (r : Bool) (w : World) (hr0 : Kd.C k27 w A0 l0.length l0) (hc0 : l0.length ≤ c0) (h : laws_verAll.f k l0 = some r) :
  Calls Tryz.prog 24 #[.slice A0 l0.length c0] w fun e w' => e = .returned (.bool r) ∧ Below w.heap.size w w' := by
 have hu27 := Tryz.underlying27
 have HR0 := Aside0.mk hr0
 have HC0 := Aside0.mk hc0
 clear hr0 hc0
 have HB := Aside0.mk (Below.refl w.heap.size w)
 have H : (if (l0.length : Int) > 20 then (some false) else (laws_verAll.l0 k l0 (l0.length : Int) 0)) = some r := h
 clear h
 by_cases c2 : (l0.length : Int) > 20
 ·rw [if_pos c2] at H
  have c2b0 : decide (20 < (l0.length : Int)) = true := decide_eq_true c2
  have c2b1 : decide (20 < l0.length) = true := decide_eq_true (by omega)
  clear c2
  obtain rfl := Option.some.inj H
  go_enter Tryz.func24, Tryz.ntmps24
  go_wp2
  go_ret
  exact ⟨by first | rfl | (simp [errW_none, errW_some] <;> rfl) | (simp [*, errW_none, errW_some] <;> rfl), by repeat (first | (with_reducible first | exact HB.out | apply below_alloc | apply pw_below_drewN | apply below_drew1) | exact HB.out)⟩
 ·rw [if_neg c2] at H
  have c2b0 : decide (20 < (l0.length : Int)) = false := decide_eq_false c2
  have c2b1 : decide (20 < l0.length) = false := decide_eq_false (by omega)
  clear c2
  have H' := Aside0.mk H
  clear H
  go_enter Tryz.func24, Tryz.ntmps24
  go_wp2
  go_loopg [10] k (fun kq v10 w' => ∃ (x10_1 : Int), v10 = .int .i64 x10_1 ∧ Aside0 (laws_verAll.l0 kq l0 (l0.length : Int) x10_1 = some r) ∧ Aside0 (kq ≤ k) ∧ Aside0 (Below w.heap.size w w'))
  case atStart => exact ⟨(0), (by first | rfl | (simp; done) | (simp [*]; done)), H', ⟨Nat.le_refl _⟩, ⟨by repeat (first | (with_reducible first | exact HB.out | apply below_alloc | apply pw_below_drewN | apply below_drew1) | exact HB.out)⟩⟩
  case round =>
   clear H'
   try clear c2
   try clear c2b0
   try clear c2b1
   try clear p2
   obtain ⟨x10_1, rfl, HA, HK1, HB⟩ := hrel
   cases gk with
   | zero => exact absurd HA.out (by simp [laws_verAll.l0])
   | succ k1 =>
    have H := HA.out
    clear HA
    simp only [laws_verAll.l0] at H
    by_cases c3 : x10_1 < (l0.length : Int)
    ·rw [if_pos c3] at H
     have c3b0 : decide (x10_1 < (l0.length : Int)) = true := decide_eq_true c3
     clear c3
     by_cases c4 : 0 ≤ x10_1
     ·rw [if_pos c4] at H
      have c4b0 : decide (0 ≤ x10_1) = true := decide_eq_true c4
      clear c4
      by_cases c5 : x10_1 < (l0.length : Int)
      ·rw [if_pos c5] at H
       have c5b0 : decide (x10_1 < (l0.length : Int)) = true := decide_eq_true c5
       clear c5
       replace H := Option.bind_eq_some_iff.mp H
       obtain ⟨⟨t164, t165, t166⟩, A60, H⟩ := H
       replace H : ((spec_IsV.f k1 t164 t165 t166).bind fun t167 => (if t167 = true then (laws_verAll.l0 k1 l0 (l0.length : Int) (wrap64 (x10_1 + 1))) else (some false))) = some r := H
       have A6 := Aside0.mk A60
       clear A60
       replace H := Option.bind_eq_some_iff.mp H
       obtain ⟨t167, A70, H⟩ := H
       replace H : (if t167 = true then (laws_verAll.l0 k1 l0 (l0.length : Int) (wrap64 (x10_1 + 1))) else (some false)) = some r := H
       have A7 := Aside0.mk A70
       clear A70
       by_cases c8 : t167 = true
       ·subst c8
        have H1 : (laws_verAll.l0 k1 l0 (l0.length : Int) (wrap64 (x10_1 + 1))) = some r := by rw [if_pos rfl] at H; exact H
        clear H
        have H := H1
        clear H1
        have H' := Aside0.mk H
        clear H
        have p162 : 0 ≤ (x10_1 : Int) := of_decide_eq_true (by first | (with_reducible assumption) | assumption)
        have q162 : x10_1 < (l0.length : Int) := of_decide_eq_true (by first | (with_reducible assumption) | assumption)
        obtain ⟨ad162, e162, hx162_0, hx162_1, hx162_2⟩ := at_T27 HR0.out x10_1 p162 q162
        cases e162
        replace hx162_0 := (HB.out.cell (World.block_lt_of_cell? w _ hx162_0)).trans hx162_0
        replace hx162_1 := (HB.out.cell (World.block_lt_of_cell? w _ hx162_1)).trans hx162_1
        replace hx162_2 := (HB.out.cell (World.block_lt_of_cell? w _ hx162_2)).trans hx162_2
        replace p162 := eq_true p162
        replace q162 := eq_true q162
        go_wp2_with (first | ((with_reducible refine gate_dst (N := 4) rfl ?_); refine box_event ?hg (N := 4) ?hd (cs := #[.int .i64 0, .string (⟨#[]⟩ : ByteArray), .string (⟨#[]⟩ : ByteArray)]) (t := 27) ?hr ?_; (case hd => rfl); (case hg => rfl); (case hr => first | (go_simp; done) | (go_simp; rfl)); intro gb163 hg w9 hbox hb; have n0_ := Aside0.mk (below_step (by repeat (first | (with_reducible first | exact HB.out | apply below_alloc | apply pw_below_drewN | apply below_drew1) | exact HB.out)) hb); have n1_ := Aside0.mk (hbox); have n2_ := Aside0.mk ((by rw [hg]; exact (below_size (by repeat (first | (with_reducible first | exact HB.out | apply below_alloc | apply pw_below_drewN | apply below_drew1) | exact HB.out))) : w.heap.size ≤ gb163)); have n3_ := Aside0.mk ((by rw [hg]; exact (below_size (by repeat (first | (with_reducible first | exact HB.out | apply below_alloc | apply pw_below_drewN | apply below_drew1) | exact HB.out))) : w.heap.size ≤ gb163)); clear HB; have HB := n0_; have BK163 := n1_; have GW163 := n2_; have GE163 := n3_; clear n0_ n1_ n2_ n3_; clear hb hbox hg; have hcz10_0 : w9.cell? ⟨gb163, 0, none⟩ = some (.int .i64 0) := (blk_cell BK163.out 0).trans rfl; have hcz10_1 : w9.cell? ⟨gb163, 1, none⟩ = some (.string (⟨#[]⟩ : ByteArray)) := (blk_cell BK163.out 1).trans rfl; have hcz10_2 : w9.cell? ⟨gb163, 2, none⟩ = some (.string (⟨#[]⟩ : ByteArray)) := (blk_cell BK163.out 2).trans rfl; have hfz10_0 := blk_frozen BK163.out 0; have hfz10_1 := blk_frozen BK163.out 1; have hfz10_2 := blk_frozen BK163.out 2) | ((with_reducible refine gate_callee (f := 29) rfl ?_); refine goesL_ (some 15) rfl rfl Tryz.func29 (by kernel_rfl) rfl #[.agg #[.int .i64 ((rd_T27 l0 x10_1).f0), .string ((rd_T27 l0 x10_1).f1), .string ((rd_T27 l0 x10_1).f2)]] rfl (by (try simp only [List.map_toArray, List.map_cons, List.map_nil]); first | done | rfl | (simp only [List.length_drop, List.length_take]; rfl)) ?_; (with_reducible refine (laws_verOf.calls ((rd_T27 l0 x10_1).f0) ((rd_T27 l0 x10_1).f1) ((rd_T27 l0 x10_1).f2) t164 t165 t166 _ A6.out).mono ?_); rintro e w11 ⟨rfl, hb⟩; refine ⟨_, rfl, ?_⟩; have n0_ := Aside0.mk (blk_below (g := gb163) (o := .cells #[.int .i64 ((rd_T27 l0 x10_1).f0), .string ((rd_T27 l0 x10_1).f1), .string ((rd_T27 l0 x10_1).f2)] 27 (0, 0)) (by (with_reducible repeat (first | refine blk_drewN ?_ _ | refine blk_drew ?_ | refine blk_alloc ?_ _)); refine blk_put (cs := #[.int .i64 ((rd_T27 l0 x10_1).f0), .string ((rd_T27 l0 x10_1).f1), .string (⟨#[]⟩ : ByteArray)]) ?_ 2 _ rfl; (with_reducible repeat (first | refine blk_drewN ?_ _ | refine blk_drew ?_ | refine blk_alloc ?_ _)); refine blk_put (cs := #[.int .i64 ((rd_T27 l0 x10_1).f0), .string (⟨#[]⟩ : ByteArray), .string (⟨#[]⟩ : ByteArray)]) ?_ 1 _ rfl; (with_reducible repeat (first | refine blk_drewN ?_ _ | refine blk_drew ?_ | refine blk_alloc ?_ _)); refine blk_put (cs := #[.int .i64 0, .string (⟨#[]⟩ : ByteArray), .string (⟨#[]⟩ : ByteArray)]) ?_ 0 _ rfl; (with_reducible repeat (first | refine blk_drewN ?_ _ | refine blk_drew ?_ | refine blk_alloc ?_ _)); exact BK163.out) hb); have n1_ := Aside0.mk (below_step (by repeat (first | (with_reducible first | exact HB.out | apply below_alloc | apply pw_below_drewN | apply below_drew1 | refine below_set ?_ GE163.out) | exact HB.out)) hb); clear BK163; clear HB; have BK163 := n0_; have HB := n1_; clear n0_ n1_; (try clear hb); (try clear hb2); (try clear hk); (try clear hi)) | ((with_reducible refine gate_callee (f := 32) rfl ?_); refine goesL_ (some 16) rfl rfl Tryz.func32 (by kernel_rfl) rfl #[.agg #[.int .i64 t164, .string t165, .string t166]] rfl (by (try simp only [List.map_toArray, List.map_cons, List.map_nil]); first | done | rfl | (simp only [List.length_drop, List.length_take]; rfl)) ?_; (with_reducible refine (spec_IsV.calls k1 t164 t165 t166 true _ A7.out).mono ?_); rintro e w12 ⟨rfl, hb⟩; refine ⟨_, rfl, ?_⟩; have n0_ := Aside0.mk (blk_below (g := gb163) (o := .cells #[.int .i64 ((rd_T27 l0 x10_1).f0), .string ((rd_T27 l0 x10_1).f1), .string ((rd_T27 l0 x10_1).f2)] 27 (0, 0)) (by (with_reducible repeat (first | refine blk_drewN ?_ _ | refine blk_drew ?_ | refine blk_alloc ?_ _)); exact BK163.out) hb); have n1_ := Aside0.mk (below_step (by repeat (first | (with_reducible first | exact HB.out | apply below_alloc | apply pw_below_drewN | apply below_drew1 | refine below_set ?_ GE163.out) | exact HB.out)) hb); clear BK163; clear HB; have BK163 := n0_; have HB := n1_; clear n0_ n1_; (try clear hb); (try clear hb2); (try clear hk); (try clear hi)))
        go_roundg k1
        case measure => have := HK1.out; omega
        case rel => exact ⟨(wrap64 (x10_1 + 1)), (by first | rfl | (simp; done) | (simp [*]; done)), H', ⟨by have := HK1.out; omega⟩, ⟨by repeat (first | (with_reducible first | exact HB.out | apply below_alloc | apply pw_below_drewN | apply below_drew1 | refine below_set ?_ GE163.out) | exact HB.out)⟩⟩
       ·replace c8 := Bool.eq_false_iff.mpr c8
        subst c8
        have H1 : (some false) = some r := by rw [if_neg (show ¬ (false = true) by decide)] at H; exact H
        clear H
        have H := H1
        clear H1
        obtain rfl := Option.some.inj H
        have p162 : 0 ≤ (x10_1 : Int) := of_decide_eq_true (by first | (with_reducible assumption) | assumption)
        have q162 : x10_1 < (l0.length : Int) := of_decide_eq_true (by first | (with_reducible assumption) | assumption)
        obtain ⟨ad162, e162, hx162_0, hx162_1, hx162_2⟩ := at_T27 HR0.out x10_1 p162 q162
        cases e162
        replace hx162_0 := (HB.out.cell (World.block_lt_of_cell? w _ hx162_0)).trans hx162_0
        replace hx162_1 := (HB.out.cell (World.block_lt_of_cell? w _ hx162_1)).trans hx162_1
        replace hx162_2 := (HB.out.cell (World.block_lt_of_cell? w _ hx162_2)).trans hx162_2
        replace p162 := eq_true p162
        replace q162 := eq_true q162
        go_wp2_with (first | ((with_reducible refine gate_dst (N := 4) rfl ?_); refine box_event ?hg (N := 4) ?hd (cs := #[.int .i64 0, .string (⟨#[]⟩ : ByteArray), .string (⟨#[]⟩ : ByteArray)]) (t := 27) ?hr ?_; (case hd => rfl); (case hg => rfl); (case hr => first | (go_simp; done) | (go_simp; rfl)); intro gb163 hg w13 hbox hb; have n0_ := Aside0.mk (below_step (by repeat (first | (with_reducible first | exact HB.out | apply below_alloc | apply pw_below_drewN | apply below_drew1) | exact HB.out)) hb); have n1_ := Aside0.mk (hbox); have n2_ := Aside0.mk ((by rw [hg]; exact (below_size (by repeat (first | (with_reducible first | exact HB.out | apply below_alloc | apply pw_below_drewN | apply below_drew1) | exact HB.out))) : w.heap.size ≤ gb163)); have n3_ := Aside0.mk ((by rw [hg]; exact (below_size (by repeat (first | (with_reducible first | exact HB.out | apply below_alloc | apply pw_below_drewN | apply below_drew1) | exact HB.out))) : w.heap.size ≤ gb163)); clear HB; have HB := n0_; have BK163 := n1_; have GW163 := n2_; have GE163 := n3_; clear n0_ n1_ n2_ n3_; clear hb hbox hg; have hcz14_0 : w13.cell? ⟨gb163, 0, none⟩ = some (.int .i64 0) := (blk_cell BK163.out 0).trans rfl; have hcz14_1 : w13.cell? ⟨gb163, 1, none⟩ = some (.string (⟨#[]⟩ : ByteArray)) := (blk_cell BK163.out 1).trans rfl; have hcz14_2 : w13.cell? ⟨gb163, 2, none⟩ = some (.string (⟨#[]⟩ : ByteArray)) := (blk_cell BK163.out 2).trans rfl; have hfz14_0 := blk_frozen BK163.out 0; have hfz14_1 := blk_frozen BK163.out 1; have hfz14_2 := blk_frozen BK163.out 2) | ((with_reducible refine gate_callee (f := 29) rfl ?_); refine goesL_ (some 15) rfl rfl Tryz.func29 (by kernel_rfl) rfl #[.agg #[.int .i64 ((rd_T27 l0 x10_1).f0), .string ((rd_T27 l0 x10_1).f1), .string ((rd_T27 l0 x10_1).f2)]] rfl (by (try simp only [List.map_toArray, List.map_cons, List.map_nil]); first | done | rfl | (simp only [List.length_drop, List.length_take]; rfl)) ?_; (with_reducible refine (laws_verOf.calls ((rd_T27 l0 x10_1).f0) ((rd_T27 l0 x10_1).f1) ((rd_T27 l0 x10_1).f2) t164 t165 t166 _ A6.out).mono ?_); rintro e w15 ⟨rfl, hb⟩; refine ⟨_, rfl, ?_⟩; have n0_ := Aside0.mk (blk_below (g := gb163) (o := .cells #[.int .i64 ((rd_T27 l0 x10_1).f0), .string ((rd_T27 l0 x10_1).f1), .string ((rd_T27 l0 x10_1).f2)] 27 (0, 0)) (by (with_reducible repeat (first | refine blk_drewN ?_ _ | refine blk_drew ?_ | refine blk_alloc ?_ _)); refine blk_put (cs := #[.int .i64 ((rd_T27 l0 x10_1).f0), .string ((rd_T27 l0 x10_1).f1), .string (⟨#[]⟩ : ByteArray)]) ?_ 2 _ rfl; (with_reducible repeat (first | refine blk_drewN ?_ _ | refine blk_drew ?_ | refine blk_alloc ?_ _)); refine blk_put (cs := #[.int .i64 ((rd_T27 l0 x10_1).f0), .string (⟨#[]⟩ : ByteArray), .string (⟨#[]⟩ : ByteArray)]) ?_ 1 _ rfl; (with_reducible repeat (first | refine blk_drewN ?_ _ | refine blk_drew ?_ | refine blk_alloc ?_ _)); refine blk_put (cs := #[.int .i64 0, .string (⟨#[]⟩ : ByteArray), .string (⟨#[]⟩ : ByteArray)]) ?_ 0 _ rfl; (with_reducible repeat (first | refine blk_drewN ?_ _ | refine blk_drew ?_ | refine blk_alloc ?_ _)); exact BK163.out) hb); have n1_ := Aside0.mk (below_step (by repeat (first | (with_reducible first | exact HB.out | apply below_alloc | apply pw_below_drewN | apply below_drew1 | refine below_set ?_ GE163.out) | exact HB.out)) hb); clear BK163; clear HB; have BK163 := n0_; have HB := n1_; clear n0_ n1_; (try clear hb); (try clear hb2); (try clear hk); (try clear hi)) | ((with_reducible refine gate_callee (f := 32) rfl ?_); refine goesL_ (some 16) rfl rfl Tryz.func32 (by kernel_rfl) rfl #[.agg #[.int .i64 t164, .string t165, .string t166]] rfl (by (try simp only [List.map_toArray, List.map_cons, List.map_nil]); first | done | rfl | (simp only [List.length_drop, List.length_take]; rfl)) ?_; (with_reducible refine (spec_IsV.calls k1 t164 t165 t166 false _ A7.out).mono ?_); rintro e w16 ⟨rfl, hb⟩; refine ⟨_, rfl, ?_⟩; have n0_ := Aside0.mk (blk_below (g := gb163) (o := .cells #[.int .i64 ((rd_T27 l0 x10_1).f0), .string ((rd_T27 l0 x10_1).f1), .string ((rd_T27 l0 x10_1).f2)] 27 (0, 0)) (by (with_reducible repeat (first | refine blk_drewN ?_ _ | refine blk_drew ?_ | refine blk_alloc ?_ _)); exact BK163.out) hb); have n1_ := Aside0.mk (below_step (by repeat (first | (with_reducible first | exact HB.out | apply below_alloc | apply pw_below_drewN | apply below_drew1 | refine below_set ?_ GE163.out) | exact HB.out)) hb); clear BK163; clear HB; have BK163 := n0_; have HB := n1_; clear n0_ n1_; (try clear hb); (try clear hb2); (try clear hk); (try clear hi)))
        go_ret
        exact ⟨by first | rfl | (simp [errW_none, errW_some] <;> rfl) | (simp [*, errW_none, errW_some] <;> rfl), by repeat (first | (with_reducible first | exact HB.out | apply below_alloc | apply pw_below_drewN | apply below_drew1 | refine below_set ?_ GE163.out) | exact HB.out)⟩
      ·rw [if_neg c5] at H
       exact absurd H (by simp)
     ·rw [if_neg c4] at H
      exact absurd H (by simp)
    ·rw [if_neg c3] at H
     have c3b0 : decide (x10_1 < (l0.length : Int)) = false := decide_eq_false c3
     clear c3
     obtain rfl := Option.some.inj H
     go_wp2
     go_ret
     exact ⟨by first | rfl | (simp [errW_none, errW_some] <;> rfl) | (simp [*, errW_none, errW_some] <;> rfl), by repeat (first | (with_reducible first | exact HB.out | apply below_alloc | apply pw_below_drewN | apply below_drew1) | exact HB.out)⟩
def laws_verList.l0 : Nat → List (S30) → List (S27) → Int → Int → Option ((List (S30)) × Bool)
 | 0, _, _, _, _ => none
 | k + 1, x4, x10, x11, x12 => if x12 < x11 then (if 0 ≤ x12 then (if x12 < (x10.length : Int) then ((laws_verOf.f ((rd_T27 x10 x12).f0) ((rd_T27 x10 x12).f1) ((rd_T27 x10 x12).f2)).bind fun bt171 => (if x4.length < 3518437208883 then (laws_verList.l0 k (x4 ++ [(⟨bt171.1, bt171.2.1, bt171.2.2⟩ : S30)]) x10 x11 (wrap64 (x12 + 1))) else (none))) else (none)) else (none)) else (some (x4, true))
def laws_verList.f (k : Nat) (l0 : List (S27)) : Option ((List (S30)) × Bool) := (laws_verAll.f k l0).bind fun t168 => (if t168 = true then (laws_verList.l0 k ([] : List (S30)) l0 (l0.length : Int) 0) else (some (([] : List (S30)), false)))
theorem laws_verList.mono_l : ∀ k, (∀ y0 y1 y2 y3, LeO (laws_verList.l0 k y0 y1 y2 y3) (laws_verList.l0 (k + 1) y0 y1 y2 y3))
 | 0 => fun _ _ _ _ r h => by simp [laws_verList.l0] at h
 | k + 1 => by
  have ih0 := laws_verList.mono_l k
  ·intro y0 y1 y2 y3
   unfold laws_verList.l0
   repeat' first
   | (with_reducible exact ih0 _ _ _ _)
   | (with_reducible exact laws_verAll.mono _ _)
   | (with_reducible exact LeO.refl _)
   | (with_reducible exact LeO.none _)
   | (with_reducible refine LeO.ite ?_ ?_)
   | (with_reducible refine LeO.bind ?_ (fun _ => ?_))
   | exact ih0 _ _ _ _
   | exact laws_verAll.mono _ _
   | exact LeO.none _
   | refine LeO.ite ?_ ?_
   | refine LeO.bind ?_ (fun _ => ?_)
theorem laws_verList.mono : ∀ a0 k, LeO (laws_verList.f k a0) (laws_verList.f (k + 1) a0) := by
 intro a0 k
 have ih0 := laws_verList.mono_l k
 unfold laws_verList.f
 repeat' first
   | (with_reducible exact ih0 _ _ _ _)
   | (with_reducible exact laws_verAll.mono _ _)
   | (with_reducible exact LeO.refl _)
   | (with_reducible exact LeO.none _)
   | (with_reducible refine LeO.ite ?_ ?_)
   | (with_reducible refine LeO.bind ?_ (fun _ => ?_))
   | exact ih0 _ _ _ _
   | exact laws_verAll.mono _ _
   | exact LeO.none _
   | refine LeO.ite ?_ ?_
   | refine LeO.bind ?_ (fun _ => ?_)
set_option maxHeartbeats 8000000 in
set_option maxRecDepth 100000 in
theorem laws_verList.calls (k : Nat) (A0 : Option Addr) (c0 : Nat) (l0 : List (S27)) (r1 : List (S30)) (r2 : Bool) (w : World) (hr0 : Kd.C k27 w A0 l0.length l0) (hc0 : l0.length ≤ c0) (h : laws_verList.f k l0 = some (r1, r2)) :
  Calls Tryz.prog 41 #[.slice A0 l0.length c0] w fun e w' => ∃ v0_ : Value, e = .returned (.tuple #[v0_, .bool r2]) ∧ Kd.R k30 30 w' w.heap.size (fun _ => True) v0_ r1 ∧ Below w.heap.size w w' := by
 have hu27 := Tryz.underlying27
 have HR0 := Aside0.mk hr0
 have HC0 := Aside0.mk hc0
 clear hr0 hc0
 have HB := Aside0.mk (Below.refl w.heap.size w)
 have H : ((laws_verAll.f k l0).bind fun t168 => (if t168 = true then (laws_verList.l0 k ([] : List (S30)) l0 (l0.length : Int) 0) else (some (([] : List (S30)), false)))) = some (r1, r2) := h
 clear h
 replace H := Option.bind_eq_some_iff.mp H
 obtain ⟨t168, A20, H⟩ := H
 replace H : (if t168 = true then (laws_verList.l0 k ([] : List (S30)) l0 (l0.length : Int) 0) else (some (([] : List (S30)), false))) = some (r1, r2) := H
 have A2 := Aside0.mk A20
 clear A20
 by_cases c3 : t168 = true
 ·subst c3
  have H1 : (laws_verList.l0 k ([] : List (S30)) l0 (l0.length : Int) 0) = some (r1, r2) := by rw [if_pos rfl] at H; exact H
  clear H
  have H := H1
  clear H1
  have H' := Aside0.mk H
  clear H
  go_enter Tryz.func41, Tryz.ntmps41
  go_wp2_with (first | ((with_reducible refine gate_callee (f := 24) rfl ?_); refine goesL_ (some 8) rfl rfl Tryz.func24 (by kernel_rfl) rfl #[.slice A0 l0.length c0] rfl (by (try simp only [List.map_toArray, List.map_cons, List.map_nil]); first | done | rfl | (simp only [List.length_drop, List.length_take]; rfl)) ?_; (with_reducible refine (laws_verAll.calls k _ _ l0 true _ ?side1 ?side2 A2.out).mono ?_); (case side1 => repeat (first | exact HR0.out | (with_reducible refine Kd.C_alloc ?_ _) | (with_reducible refine Kd.C_drewN ?_ _) | (with_reducible refine Kd.C_drew ?_))); (case side2 => exact HC0.out); rintro e w4 ⟨rfl, hb⟩; refine ⟨_, rfl, ?_⟩; have n0_ := Aside0.mk (below_step (by repeat (first | (with_reducible first | exact HB.out | apply below_alloc | apply pw_below_drewN | apply below_drew1) | exact HB.out)) hb); clear HB; have HB := n0_; clear n0_; (try clear hb); (try clear hb2); (try clear hk); (try clear hi)))
  go_loopg [4, 12] k (fun kq v4 v12 w' => ∃ (x4_1 : List (S30)) (x12_1 : Int), v12 = .int .i64 x12_1 ∧ Aside0 (laws_verList.l0 kq x4_1 l0 (l0.length : Int) x12_1 = some (r1, r2)) ∧ Aside0 (kq ≤ k) ∧ Aside0 (Kd.R k30 30 w' w.heap.size (fun _ => True) v4 x4_1) ∧ Aside0 (Below w.heap.size w w'))
  case atStart => exact ⟨(([] : List (S30))), (0), (by first | rfl | (simp; done) | (simp [*]; done)), H', ⟨Nat.le_refl _⟩, ⟨by first | exact Kd.R_nil _ _ _ _ _ | exact Kd.N_nil _ _ _ _ _ | exact Kd.V_nil _ _ _ _ _ | exact Kd.Q_nil _ _ _ _ _ | exact Kd.S_nil _ _ _ _ _⟩, ⟨by repeat (first | (with_reducible first | exact HB.out | apply below_alloc | apply pw_below_drewN | apply below_drew1) | exact HB.out)⟩⟩
  case round =>
   clear H'
   try clear c2
   try clear p2
   try clear c3
   try clear c4
   obtain ⟨x4_1, x12_1, rfl, HA, HK1, HO_4, HB⟩ := hrel
   cases gk with
   | zero => exact absurd HA.out (by simp [laws_verList.l0])
   | succ k1 =>
    have H := HA.out
    clear HA
    simp only [laws_verList.l0] at H
    by_cases c5 : x12_1 < (l0.length : Int)
    ·rw [if_pos c5] at H
     have c5b0 : decide (x12_1 < (l0.length : Int)) = true := decide_eq_true c5
     clear c5
     by_cases c6 : 0 ≤ x12_1
     ·rw [if_pos c6] at H
      have c6b0 : decide (0 ≤ x12_1) = true := decide_eq_true c6
      clear c6
      by_cases c7 : x12_1 < (l0.length : Int)
      ·rw [if_pos c7] at H
       have c7b0 : decide (x12_1 < (l0.length : Int)) = true := decide_eq_true c7
       clear c7
       replace H := Option.bind_eq_some_iff.mp H
       obtain ⟨⟨t171, t172, t173⟩, A80, H⟩ := H
       replace H : (if x4_1.length < 3518437208883 then (laws_verList.l0 k1 (x4_1 ++ [(⟨t171, t172, t173⟩ : S30)]) l0 (l0.length : Int) (wrap64 (x12_1 + 1))) else (none)) = some (r1, r2) := H
       have A8 := Aside0.mk A80
       clear A80
       by_cases c9 : x4_1.length < 3518437208883
       ·rw [if_pos c9] at H
        have LMc9 := Aside0.mk c9
        clear c9
        obtain ⟨y174, hy174⟩ : ∃ y_ : List (S30), y_ = (x4_1 ++ [(⟨t171, t172, t173⟩ : S30)]) := ⟨_, rfl⟩
        replace H : (laws_verList.l0 k1 y174 l0 (l0.length : Int) (wrap64 (x12_1 + 1))) = some (r1, r2) := by first | (rw [hy174]; with_reducible exact H) | (have H2_ := (Option.bind_some _ _).symm.trans H; rw [hy174]; with_reducible exact H2_) | (have H2_ := (Option.bind_some _ _).symm.trans H; with_reducible exact H2_) | with_reducible exact H | (rw [hy174]; exact H) | exact H
        have Ny174 := Aside0.mk hy174
        clear hy174
        have H' := Aside0.mk H
        clear H
        have p169 : 0 ≤ (x12_1 : Int) := of_decide_eq_true (by first | (with_reducible assumption) | assumption)
        have q169 : x12_1 < (l0.length : Int) := of_decide_eq_true (by first | (with_reducible assumption) | assumption)
        obtain ⟨ad169, e169, hx169_0, hx169_1, hx169_2⟩ := at_T27 HR0.out x12_1 p169 q169
        cases e169
        replace hx169_0 := (HB.out.cell (World.block_lt_of_cell? w _ hx169_0)).trans hx169_0
        replace hx169_1 := (HB.out.cell (World.block_lt_of_cell? w _ hx169_1)).trans hx169_1
        replace hx169_2 := (HB.out.cell (World.block_lt_of_cell? w _ hx169_2)).trans hx169_2
        replace p169 := eq_true p169
        replace q169 := eq_true q169
        go_wp2_with (first | ((with_reducible refine gate_dst (N := 6) rfl ?_); refine box_event ?hg (N := 6) ?hd (cs := #[.int .i64 0, .string (⟨#[]⟩ : ByteArray), .string (⟨#[]⟩ : ByteArray)]) (t := 27) ?hr ?_; (case hd => rfl); (case hg => rfl); (case hr => first | (go_simp; done) | (go_simp; rfl)); intro gb170 hg w10 hbox hb; have n0_ := Aside0.mk (Kd.R_below (by (with_reducible repeat (first | apply Kd.R_alloc | apply Kd.R_drewN | apply Kd.R_drew)); exact HO_4.out) hb); have n1_ := Aside0.mk (below_step (by repeat (first | (with_reducible first | exact HB.out | apply below_alloc | apply pw_below_drewN | apply below_drew1) | exact HB.out)) hb); have n2_ := Aside0.mk (hbox); have n3_ := Aside0.mk ((by rw [hg]; exact (below_size (by repeat (first | (with_reducible first | exact HB.out | apply below_alloc | apply pw_below_drewN | apply below_drew1) | exact HB.out))) : w.heap.size ≤ gb170)); have n4_ := Aside0.mk ((by rw [hg]; exact (below_size (by repeat (first | (with_reducible first | exact HB.out | apply below_alloc | apply pw_below_drewN | apply below_drew1) | exact HB.out))) : w.heap.size ≤ gb170)); clear HO_4; clear HB; have HO_4 := n0_; have HB := n1_; have BK170 := n2_; have GW170 := n3_; have GE170 := n4_; clear n0_ n1_ n2_ n3_ n4_; clear hb hbox hg; have hcz11_0 : w10.cell? ⟨gb170, 0, none⟩ = some (.int .i64 0) := (blk_cell BK170.out 0).trans rfl; have hcz11_1 : w10.cell? ⟨gb170, 1, none⟩ = some (.string (⟨#[]⟩ : ByteArray)) := (blk_cell BK170.out 1).trans rfl; have hcz11_2 : w10.cell? ⟨gb170, 2, none⟩ = some (.string (⟨#[]⟩ : ByteArray)) := (blk_cell BK170.out 2).trans rfl; have hfz11_0 := blk_frozen BK170.out 0; have hfz11_1 := blk_frozen BK170.out 1; have hfz11_2 := blk_frozen BK170.out 2) | ((with_reducible refine gate_callee (f := 29) rfl ?_); refine goesL_ (some 18) rfl rfl Tryz.func29 (by kernel_rfl) rfl #[.agg #[.int .i64 ((rd_T27 l0 x12_1).f0), .string ((rd_T27 l0 x12_1).f1), .string ((rd_T27 l0 x12_1).f2)]] rfl (by (try simp only [List.map_toArray, List.map_cons, List.map_nil]); first | done | rfl | (simp only [List.length_drop, List.length_take]; rfl)) ?_; (with_reducible refine (laws_verOf.calls ((rd_T27 l0 x12_1).f0) ((rd_T27 l0 x12_1).f1) ((rd_T27 l0 x12_1).f2) t171 t172 t173 _ A8.out).mono ?_); rintro e w12 ⟨rfl, hb⟩; refine ⟨_, rfl, ?_⟩; have n0_ := Aside0.mk (Kd.R_below (by (with_reducible repeat (first | apply Kd.R_alloc | apply Kd.R_drewN | apply Kd.R_drew)); exact (Kd.R_mono (Kd.R_far (p := ⟨gb170, 2, none⟩) (Kd.R_far (p := ⟨gb170, 1, none⟩) (Kd.R_far (p := ⟨gb170, 0, none⟩) (Kd.R_types HO_4.out BK170.out (by decide)) (fun _ hk => hk.2) (.int .i64 ((rd_T27 l0 x12_1).f0))) (fun _ hk => hk.2) (.string ((rd_T27 l0 x12_1).f1))) (fun _ hk => hk.2) (.string ((rd_T27 l0 x12_1).f2))) (fun _ h_ => h_.1))) hb); have n1_ := Aside0.mk (blk_below (g := gb170) (o := .cells #[.int .i64 ((rd_T27 l0 x12_1).f0), .string ((rd_T27 l0 x12_1).f1), .string ((rd_T27 l0 x12_1).f2)] 27 (0, 0)) (by (with_reducible repeat (first | refine blk_drewN ?_ _ | refine blk_drew ?_ | refine blk_alloc ?_ _)); refine blk_put (cs := #[.int .i64 ((rd_T27 l0 x12_1).f0), .string ((rd_T27 l0 x12_1).f1), .string (⟨#[]⟩ : ByteArray)]) ?_ 2 _ rfl; (with_reducible repeat (first | refine blk_drewN ?_ _ | refine blk_drew ?_ | refine blk_alloc ?_ _)); refine blk_put (cs := #[.int .i64 ((rd_T27 l0 x12_1).f0), .string (⟨#[]⟩ : ByteArray), .string (⟨#[]⟩ : ByteArray)]) ?_ 1 _ rfl; (with_reducible repeat (first | refine blk_drewN ?_ _ | refine blk_drew ?_ | refine blk_alloc ?_ _)); refine blk_put (cs := #[.int .i64 0, .string (⟨#[]⟩ : ByteArray), .string (⟨#[]⟩ : ByteArray)]) ?_ 0 _ rfl; (with_reducible repeat (first | refine blk_drewN ?_ _ | refine blk_drew ?_ | refine blk_alloc ?_ _)); exact BK170.out) hb); have n2_ := Aside0.mk (below_step (by repeat (first | (with_reducible first | exact HB.out | apply below_alloc | apply pw_below_drewN | apply below_drew1 | refine below_set ?_ GE170.out) | exact HB.out)) hb); clear HO_4; clear BK170; clear HB; have HO_4 := n0_; have BK170 := n1_; have HB := n2_; clear n0_ n1_ n2_; (try clear hb); (try clear hb2); (try clear hk); (try clear hi)) | ((with_reducible refine gate_builtin (b := .append) (xs := #[.tmp 16, .tmp 19]) rfl ?_); at_builtin; refine Kd.R_append k30 (w0 := w) w.heap.size rfl (.tmp 16) (.tmp 19) 67 30 (.agg #[(.int .i64 0), (.string ⟨#[]⟩), (.string ⟨#[]⟩)]) 40 rfl Tryz.underlying67 info30 rfl (by decide) (by omega) u4 x4_1 (⟨t171, t172, t173⟩ : S30) [.int .i64 t171, .string t172, .string t173] (fun _ => True) (fun _ => False) rfl rfl ?aP (fun _ hk => hk.elim) ?aF ?aO ?aB ?aS ?aL ?_; (case aP => exact k30_mkM _ _ _ (⟨t171, t172, t173⟩ : S30)); (case aB => exact (by repeat (first | (with_reducible first | exact HB.out | apply below_alloc | apply pw_below_drewN | apply below_drew1 | refine below_set ?_ GE170.out) | exact HB.out))); (case aF => exact (fun _ _ => trivial)); (case aO => exact (by (with_reducible repeat (first | apply Kd.R_alloc | apply Kd.R_drewN | apply Kd.R_drew)); exact HO_4.out)); (case aS => exact (below_size (by repeat (first | (with_reducible first | exact HB.out | apply below_alloc | apply pw_below_drewN | apply below_drew1 | refine below_set ?_ GE170.out) | exact HB.out)))); (case aL => have := LMc9.out; omega); intro v175 w13 ho hb hg hat; rw [← Ny174.out] at ho; have n0_ := Aside0.mk (blk_grown (g := gb170) (o := .cells #[.int .i64 ((rd_T27 l0 x12_1).f0), .string ((rd_T27 l0 x12_1).f1), .string ((rd_T27 l0 x12_1).f2)] 27 (0, 0)) (by (with_reducible repeat (first | refine blk_drewN ?_ _ | refine blk_drew ?_ | refine blk_alloc ?_ _)); exact BK170.out) hg (Kd.R_ne HO_4.out BK170.out (by decide))); have n1_ := Aside0.mk (hb); have n2_ := Aside0.mk (ho); clear BK170; clear HB; clear HO_4; have BK170 := n0_; have HB := n1_; have HO176 := n2_; clear n0_ n1_ n2_; clear ho hb hg hat))
        go_roundg k1
        case measure => have := HK1.out; omega
        case rel => exact ⟨(y174), (wrap64 (x12_1 + 1)), (by first | rfl | (simp; done) | (simp [*]; done)), H', ⟨by have := HK1.out; omega⟩, ⟨by (with_reducible repeat (first | apply Kd.R_alloc | apply Kd.R_drewN | apply Kd.R_drew)); exact HO176.out⟩, ⟨by repeat (first | (with_reducible first | exact HB.out | apply below_alloc | apply pw_below_drewN | apply below_drew1 | refine below_set ?_ GE170.out) | exact HB.out)⟩⟩
       ·rw [if_neg c9] at H
        exact absurd H (by simp)
      ·rw [if_neg c7] at H
       exact absurd H (by simp)
     ·rw [if_neg c6] at H
      exact absurd H (by simp)
    ·rw [if_neg c5] at H
     have c5b0 : decide (x12_1 < (l0.length : Int)) = false := decide_eq_false c5
     clear c5
     simp only [Option.some.injEq, Prod.mk.injEq] at H
     obtain ⟨rfl, rfl⟩ := H
     go_wp2
     go_ret2
     exact ⟨_, by first | rfl | (simp [errW_none, errW_some] <;> rfl) | (simp [*, errW_none, errW_some] <;> rfl), by (with_reducible repeat (first | apply Kd.R_alloc | apply Kd.R_drewN | apply Kd.R_drew)); exact HO_4.out, by repeat (first | (with_reducible first | exact HB.out | apply below_alloc | apply pw_below_drewN | apply below_drew1) | exact HB.out)⟩
 ·replace c3 := Bool.eq_false_iff.mpr c3
  subst c3
  have H1 : (some (([] : List (S30)), false)) = some (r1, r2) := by rw [if_neg (show ¬ (false = true) by decide)] at H; exact H
  clear H
  have H := H1
  clear H1
  simp only [Option.some.injEq, Prod.mk.injEq] at H
  obtain ⟨rfl, rfl⟩ := H
  go_enter Tryz.func41, Tryz.ntmps41
  go_wp2_with (first | ((with_reducible refine gate_callee (f := 24) rfl ?_); refine goesL_ (some 8) rfl rfl Tryz.func24 (by kernel_rfl) rfl #[.slice A0 l0.length c0] rfl (by (try simp only [List.map_toArray, List.map_cons, List.map_nil]); first | done | rfl | (simp only [List.length_drop, List.length_take]; rfl)) ?_; (with_reducible refine (laws_verAll.calls k _ _ l0 false _ ?side1 ?side2 A2.out).mono ?_); (case side1 => repeat (first | exact HR0.out | (with_reducible refine Kd.C_alloc ?_ _) | (with_reducible refine Kd.C_drewN ?_ _) | (with_reducible refine Kd.C_drew ?_))); (case side2 => exact HC0.out); rintro e w14 ⟨rfl, hb⟩; refine ⟨_, rfl, ?_⟩; have n0_ := Aside0.mk (below_step (by repeat (first | (with_reducible first | exact HB.out | apply below_alloc | apply pw_below_drewN | apply below_drew1) | exact HB.out)) hb); clear HB; have HB := n0_; clear n0_; (try clear hb); (try clear hb2); (try clear hk); (try clear hi)))
  go_ret2
  exact ⟨_, by first | rfl | (simp [errW_none, errW_some] <;> rfl) | (simp [*, errW_none, errW_some] <;> rfl), by first | exact Kd.R_nil _ _ _ _ _ | exact Kd.N_nil _ _ _ _ _ | exact Kd.V_nil _ _ _ _ _ | exact Kd.Q_nil _ _ _ _ _ | exact Kd.S_nil _ _ _ _ _, by repeat (first | (with_reducible first | exact HB.out | apply below_alloc | apply pw_below_drewN | apply below_drew1) | exact HB.out)⟩
end Go.Proofs.YtgoeiflddikihaaGreatDoor.PFnVersion
end
section
namespace Go.Proofs.YtgoeiflddikihaaGreatDoor.PFnVersion
open Go.RowKit Go.Proofs.YtgoeiflddikihaaGreatDoorW.PrintWords Go.Proofs.YtgoeiflddikihaaGreatDoorW.PrintLast Go.Proofs.YtgoeiflddikihaaGreatDoorW.PrintMore
attribute [local go_sem] max2_int min2_int max_two min_two max_three min_three max_four min_four   -- for this text's walks alone
set_option linter.unusedVariables false
set_option linter.unusedSimpArgs false
attribute [local go_sem high] eqA30
def laws_verSorted.l0 : Nat → List (S27) → List (S30) → Int → Int → Option (Bool)
 | 0, _, _, _, _ => none
 | k + 1, x0, x1, x12, x13 => if x13 < x12 then (if 0 ≤ x13 then (if x13 < (x0.length : Int) then ((laws_verOf.f ((rd_T27 x0 x13).f0) ((rd_T27 x0 x13).f1) ((rd_T27 x0 x13).f2)).bind fun bt206 => (if x13 < (x1.length : Int) then (if (!(bt206.1 == ((rd_T30 x1 x13).f0)) || (!(bt206.2.1.toList == (((rd_T30 x1 x13).f1).toList)) || (!(bt206.2.2.toList == (((rd_T30 x1 x13).f2).toList))))) = true then (some false) else (laws_verSorted.l0 k x0 x1 x12 (wrap64 (x13 + 1)))) else (none))) else (none)) else (none)) else (some true)
def laws_verSorted.f (k : Nat) (l0 : List (S27)) (l1 : List (S30)) : Option (Bool) := if (l0.length : Int) = (l1.length : Int) then (laws_verSorted.l0 k l0 l1 (l0.length : Int) 0) else (some false)
theorem laws_verSorted.mono_l : ∀ k, (∀ y0 y1 y2 y3, LeO (laws_verSorted.l0 k y0 y1 y2 y3) (laws_verSorted.l0 (k + 1) y0 y1 y2 y3))
 | 0 => fun _ _ _ _ r h => by simp [laws_verSorted.l0] at h
 | k + 1 => by
  have ih0 := laws_verSorted.mono_l k
  ·intro y0 y1 y2 y3
   unfold laws_verSorted.l0
   repeat' first
   | (with_reducible exact ih0 _ _ _ _)
   | (with_reducible exact LeO.refl _)
   | (with_reducible exact LeO.none _)
   | (with_reducible refine LeO.ite ?_ ?_)
   | (with_reducible refine LeO.bind ?_ (fun _ => ?_))
   | exact ih0 _ _ _ _
   | exact LeO.none _
   | refine LeO.ite ?_ ?_
   | refine LeO.bind ?_ (fun _ => ?_)
theorem laws_verSorted.mono : ∀ a0 a1 k, LeO (laws_verSorted.f k a0 a1) (laws_verSorted.f (k + 1) a0 a1) := by
 intro a0 a1 k
 have ih0 := laws_verSorted.mono_l k
 unfold laws_verSorted.f
 repeat' first
   | (with_reducible exact ih0 _ _ _ _)
   | (with_reducible exact LeO.refl _)
   | (with_reducible exact LeO.none _)
   | (with_reducible refine LeO.ite ?_ ?_)
   | (with_reducible refine LeO.bind ?_ (fun _ => ?_))
   | exact ih0 _ _ _ _
   | exact LeO.none _
   | refine LeO.ite ?_ ?_
   | refine LeO.bind ?_ (fun _ => ?_)
def laws_verSorted.T6 : Bool × List (List Nat × List Nat) := (true, [([], []), ([], []), ([0, 1], [0, 1]), ([2], [2]), ([3], [3]), ([], []), ([], []), ([5, 6], [5, 6]), ([7], [7]), ([4, 8], [4, 8])])
def laws_verSorted.B6 : List Nat := [0, 0, 3, 7, 15, 0, 0, 96, 224, 511]
theorem laws_verSorted.tab6 : rtab .any (opsOf Tryz.f43 6) = laws_verSorted.T6 := by kernel_rfl
theorem laws_verSorted.bits6 : waitsOk laws_verSorted.T6.2 laws_verSorted.B6 = true := by kernel_rfl
set_option maxHeartbeats 8000000 in
set_option maxRecDepth 100000 in
theorem laws_verSorted.calls (k : Nat) (A0 : Option Addr) (c0 : Nat) (l0 : List (S27)) (A1 : Option Addr) (c1 : Nat) (l1 : List (S30)) (r : Bool) (w : World) (hr0 : Kd.C k27 w A0 l0.length l0) (hc0 : l0.length ≤ c0) (hr1 : Kd.C k30 w A1 l1.length l1) (hc1 : l1.length ≤ c1) (h : laws_verSorted.f k l0 l1 = some r) :
  Calls Tryz.prog 43 #[.slice A0 l0.length c0, .slice A1 l1.length c1] w fun e w' => e = .returned (.bool r) ∧ Below w.heap.size w w' := by
 have hu27 := Tryz.underlying27
 have hu30 := Tryz.underlying30
 have HR0 := Aside0.mk hr0
 have HC0 := Aside0.mk hc0
 clear hr0 hc0
 have HR1 := Aside0.mk hr1
 have HC1 := Aside0.mk hc1
 clear hr1 hc1
 have HB := Aside0.mk (Below.refl w.heap.size w)
 have H : (if (l0.length : Int) = (l1.length : Int) then (laws_verSorted.l0 k l0 l1 (l0.length : Int) 0) else (some false)) = some r := h
 clear h
 by_cases c3 : (l0.length : Int) = (l1.length : Int)
 ·rw [if_pos c3] at H
  have c3b0 : ((l0.length : Int) == (l1.length : Int)) = true := beq_iff_eq.mpr c3
  have c3b1 : ((l0.length : Int) != (l1.length : Int)) = false := bne_eq_false_iff_eq.mpr c3
  have c3b2 : (l0.length == l1.length) = true := by first | simpa using c3 | (simp at c3 ⊢; omega)
  clear c3
  have H' := Aside0.mk H
  clear H
  go_enter Tryz.func43, Tryz.ntmps43
  go_wp2
  go_loopg [13] k (fun kq v13 w' => ∃ (x13_1 : Int), v13 = .int .i64 x13_1 ∧ Aside0 (laws_verSorted.l0 kq l0 l1 (l0.length : Int) x13_1 = some r) ∧ Aside0 (kq ≤ k) ∧ Aside0 (Below w.heap.size w w'))
  case atStart => exact ⟨(0), (by first | rfl | (simp; done) | (simp [*]; done)), H', ⟨Nat.le_refl _⟩, ⟨by repeat (first | (with_reducible first | exact HB.out | apply below_alloc | apply pw_below_drewN | apply below_drew1) | exact HB.out)⟩⟩
  case round =>
   clear H'
   try clear c1
   try clear p2
   try clear c3
   try clear c3b0
   try clear c3b1
   try clear c3b2
   obtain ⟨x13_1, rfl, HA, HK1, HB⟩ := hrel
   cases gk with
   | zero => exact absurd HA.out (by simp [laws_verSorted.l0])
   | succ k1 =>
    have H := HA.out
    clear HA
    simp only [laws_verSorted.l0] at H
    by_cases c4 : x13_1 < (l0.length : Int)
    ·rw [if_pos c4] at H
     have c4b0 : decide (x13_1 < (l0.length : Int)) = true := decide_eq_true c4
     clear c4
     by_cases c5 : 0 ≤ x13_1
     ·rw [if_pos c5] at H
      have c5b0 : decide (0 ≤ x13_1) = true := decide_eq_true c5
      clear c5
      by_cases c6 : x13_1 < (l0.length : Int)
      ·rw [if_pos c6] at H
       have c6b0 : decide (x13_1 < (l0.length : Int)) = true := decide_eq_true c6
       clear c6
       replace H := Option.bind_eq_some_iff.mp H
       obtain ⟨⟨t206, t207, t208⟩, A70, H⟩ := H
       replace H : (if x13_1 < (l1.length : Int) then (if (!(t206 == ((rd_T30 l1 x13_1).f0)) || (!(t207.toList == (((rd_T30 l1 x13_1).f1).toList)) || (!(t208.toList == (((rd_T30 l1 x13_1).f2).toList))))) = true then (some false) else (laws_verSorted.l0 k1 l0 l1 (l0.length : Int) (wrap64 (x13_1 + 1)))) else (none)) = some r := H
       have A7 := Aside0.mk A70
       clear A70
       by_cases c8 : x13_1 < (l1.length : Int)
       ·rw [if_pos c8] at H
        have c8b0 : decide (x13_1 < (l1.length : Int)) = true := decide_eq_true c8
        clear c8
        by_cases c9 : (!(t206 == ((rd_T30 l1 x13_1).f0)) || (!(t207.toList == (((rd_T30 l1 x13_1).f1).toList)) || (!(t208.toList == (((rd_T30 l1 x13_1).f2).toList))))) = true
        ·rw [if_pos c9] at H
         have c9b0 : (!(t206 == ((rd_T30 l1 x13_1).f0)) || (!(t207.toList == (((rd_T30 l1 x13_1).f1).toList)) || (!(t208.toList == (((rd_T30 l1 x13_1).f2).toList))))) = true := c9
         clear c9
         obtain rfl := Option.some.inj H
         try go_wp2
         have n0_ := Aside0.mk (below_drew1 HB.out)
         clear HB
         have HB := n0_
         clear n0_
         have p205 : 0 ≤ (x13_1 : Int) := of_decide_eq_true (by first | (with_reducible assumption) | assumption)
         have q205 : x13_1 < (l0.length : Int) := of_decide_eq_true (by first | (with_reducible assumption) | assumption)
         obtain ⟨ad205, e205, hx205_0, hx205_1, hx205_2⟩ := at_T27 HR0.out x13_1 p205 q205
         have hw205_2 := hx205_2
         have hw205_1 := hx205_1
         have hw205_0 := hx205_0
         cases e205
         replace hx205_0 := (HB.out.cell (World.block_lt_of_cell? w _ hx205_0)).trans hx205_0
         replace hx205_1 := (HB.out.cell (World.block_lt_of_cell? w _ hx205_1)).trans hx205_1
         replace hx205_2 := (HB.out.cell (World.block_lt_of_cell? w _ hx205_2)).trans hx205_2
         replace p205 := eq_true p205
         replace q205 := eq_true q205
         have p209 : 0 ≤ (x13_1 : Int) := of_decide_eq_true (by first | (with_reducible assumption) | assumption)
         have q209 : x13_1 < (l1.length : Int) := of_decide_eq_true (by first | (with_reducible assumption) | assumption)
         obtain ⟨ad209, e209, hx209_0, hx209_1, hx209_2⟩ := at_T30 HR1.out x13_1 p209 q209
         have hw209_2 := hx209_2
         have hw209_1 := hx209_1
         have hw209_0 := hx209_0
         cases e209
         replace hx209_0 := (HB.out.cell (World.block_lt_of_cell? w _ hx209_0)).trans hx209_0
         replace hx209_1 := (HB.out.cell (World.block_lt_of_cell? w _ hx209_1)).trans hx209_1
         replace hx209_2 := (HB.out.cell (World.block_lt_of_cell? w _ hx209_2)).trans hx209_2
         replace p209 := eq_true p209
         replace q209 := eq_true q209
         refine start_ (n := 10) (S := fun w' => w'.cell? (ad205.add ((x13_1).toNat * 3)) = some (.int .i64 ((rd_T27 l0 x13_1).f0)) ∧ w'.cell? ⟨(ad205.add ((x13_1).toNat * 3)).block, (ad205.add ((x13_1).toNat * 3)).off + 1, none⟩ = some (.string ((rd_T27 l0 x13_1).f1)) ∧ w'.cell? ⟨(ad205.add ((x13_1).toNat * 3)).block, (ad205.add ((x13_1).toNat * 3)).off + 2, none⟩ = some (.string ((rd_T27 l0 x13_1).f2)) ∧ w'.cell? (ad209.add ((x13_1).toNat * 3)) = some (.int .i64 ((rd_T30 l1 x13_1).f0)) ∧ w'.cell? ⟨(ad209.add ((x13_1).toNat * 3)).block, (ad209.add ((x13_1).toNat * 3)).off + 1, none⟩ = some (.string ((rd_T30 l1 x13_1).f1)) ∧ w'.cell? ⟨(ad209.add ((x13_1).toNat * 3)).block, (ad209.add ((x13_1).toNat * 3)).off + 2, none⟩ = some (.string ((rd_T30 l1 x13_1).f2))) (ds := []) #[false, false, false, false, false, false, false, false, false, false] (by kernel_rfl) rfl rfl ⟨((HB.out.cell (World.block_lt_of_cell? w _ hw205_0)).trans hw205_0), ((HB.out.cell (World.block_lt_of_cell? w _ hw205_1)).trans hw205_1), ((HB.out.cell (World.block_lt_of_cell? w _ hw205_2)).trans hw205_2), ((HB.out.cell (World.block_lt_of_cell? w _ hw209_0)).trans hw209_0), ((HB.out.cell (World.block_lt_of_cell? w _ hw209_1)).trans hw209_1), ((HB.out.cell (World.block_lt_of_cell? w _ hw209_2)).trans hw209_2)⟩ (fun hHeld => ?_); refine with_tabW laws_verSorted.tab6 laws_verSorted.bits6 (fun HT_ HW_ => ?_)
         generalize wr.drew = w10 at HB hx205_0 hx205_1 hx205_2 hx209_0 hx209_1 hx209_2 hHeld ⊢
         refine pure_ (i := 0) (N := some 16) (v := ?_) (a' := ?_) #[true, false, false, false, false, false, false, false, false, false] rfl rfl (any_of HT_.out (by kernel_rfl)) (fun _ _ _ h => h) (Or.inl ⟨by rfl, ?_⟩) ?_ ?_
         rotate_left
         ·intro w'
          go_simp
          with_reducible rfl
         rotate_left
         ·simp only [Act.put, List.setIfInBounds_toArray, List.set_cons_zero, List.set_cons_succ, i64_w, i32_w]
          rfl
         refine pure_ (i := 1) (N := some 17) (v := ?_) (a' := ?_) #[true, true, false, false, false, false, false, false, false, false] rfl rfl (any_of HT_.out (by kernel_rfl)) (fun _ _ _ h => h) (Or.inl ⟨by rfl, ?_⟩) ?_ ?_
         rotate_left
         ·intro w'
          go_simp
          with_reducible rfl
         rotate_left
         ·simp only [Act.put, List.setIfInBounds_toArray, List.set_cons_zero, List.set_cons_succ, i64_w, i32_w]
          rfl
         refine pure_ (i := 2) (N := some 18) (v := ?_) (a' := ?_) #[true, true, true, false, false, false, false, false, false, false] rfl rfl (any_of HT_.out (by kernel_rfl)) (fun _ _ _ h => h) (Or.inl ⟨by rfl, ?_⟩) ?_ ?_
         rotate_left
         ·intro w'
          go_simp
          with_reducible rfl
         rotate_left
         ·simp only [Act.put, List.setIfInBounds_toArray, List.set_cons_zero, List.set_cons_succ, i64_w, i32_w]
          rfl
         refine pure_ (i := 5) (N := some 21) (v := ?_) (a' := ?_) #[true, true, true, false, false, true, false, false, false, false] rfl rfl (any_of HT_.out (by kernel_rfl)) (fun _ _ _ h => h) (Or.inl ⟨by rfl, ?_⟩) ?_ ?_
         rotate_left
         ·intro w'
          go_simp
          with_reducible rfl
         rotate_left
         ·simp only [Act.put, List.setIfInBounds_toArray, List.set_cons_zero, List.set_cons_succ, i64_w, i32_w]
          rfl
         refine pure_ (i := 6) (N := some 22) (v := ?_) (a' := ?_) #[true, true, true, false, false, true, true, false, false, false] rfl rfl (any_of HT_.out (by kernel_rfl)) (fun _ _ _ h => h) (Or.inl ⟨by rfl, ?_⟩) ?_ ?_
         rotate_left
         ·intro w'
          go_simp
          with_reducible rfl
         rotate_left
         ·simp only [Act.put, List.setIfInBounds_toArray, List.set_cons_zero, List.set_cons_succ, i64_w, i32_w]
          rfl
         refine pure_ (i := 7) (N := some 23) (v := ?_) (a' := ?_) #[true, true, true, false, false, true, true, true, false, false] rfl rfl (any_of HT_.out (by kernel_rfl)) (fun _ _ _ h => h) (Or.inl ⟨by rfl, ?_⟩) ?_ ?_
         rotate_left
         ·intro w'
          go_simp
          with_reducible rfl
         rotate_left
         ·simp only [Act.put, List.setIfInBounds_toArray, List.set_cons_zero, List.set_cons_succ, i64_w, i32_w]
          rfl
         refine take_ (i := 3) (N := some 19) (v := ?_) (a' := ?_) #[true, true, true, true, false, true, true, true, false, false] rfl rfl (take_ofW HT_.out HW_.out (by kernel_rfl)) (fun _ _ _ h => h) (Or.inl ⟨by rfl, ?_⟩) hHeld ?_ ?_
         rotate_left
         ·rintro w' ⟨s0, s1, s2, s3, s4, s5⟩
          go_simp
          with_reducible rfl
         rotate_left
         ·simp only [Act.put, List.setIfInBounds_toArray, List.set_cons_zero, List.set_cons_succ, i64_w, i32_w]
          rfl
         refine take_ (i := 8) (N := some 24) (v := ?_) (a' := ?_) #[true, true, true, true, false, true, true, true, true, false] rfl rfl (take_ofW HT_.out HW_.out (by kernel_rfl)) (fun _ _ _ h => h) (Or.inl ⟨by rfl, ?_⟩) hHeld ?_ ?_
         rotate_left
         ·rintro w' ⟨s0, s1, s2, s3, s4, s5⟩
          go_simp
          with_reducible rfl
         rotate_left
         ·simp only [Act.put, List.setIfInBounds_toArray, List.set_cons_zero, List.set_cons_succ, i64_w, i32_w]
          rfl
         refine one_ (i := 4) (N := some 20) #[true, true, true, true, true, true, true, true, true, false] rfl rfl (one_of HT_.out (by kernel_rfl)) (by decide) (fun K hK => ?_)
         refine goes_ Tryz.func29 (by kernel_rfl) rfl #[.agg #[.int .i64 ((rd_T27 l0 x13_1).f0), .string ((rd_T27 l0 x13_1).f1), .string ((rd_T27 l0 x13_1).f2)]] (by rfl) rfl rfl (by (try simp only [List.map_toArray, List.map_cons, List.map_nil]); first | done | rfl | (simp only [List.length_drop, List.length_take]; rfl)) ?_
         with_reducible refine (laws_verOf.calls ((rd_T27 l0 x13_1).f0) ((rd_T27 l0 x13_1).f1) ((rd_T27 l0 x13_1).f2) t206 t207 t208 _ A7.out).mono ?_
         rintro e w11 ⟨rfl, hb⟩
         refine ⟨_, rfl, ?_⟩
         have n0_ := Aside0.mk (below_step (by repeat (first | (with_reducible first | exact HB.out | apply below_alloc | apply pw_below_drewN | apply below_drew1) | exact HB.out)) hb)
         clear HB
         have HB := n0_
         clear n0_
         (try clear hb)
         (try clear hb2)
         (try clear hk)
         (try clear hi)
         refine hK.out _ _ ⟨((HB.out.cell (World.block_lt_of_cell? w _ hw205_0)).trans hw205_0), ((HB.out.cell (World.block_lt_of_cell? w _ hw205_1)).trans hw205_1), ((HB.out.cell (World.block_lt_of_cell? w _ hw205_2)).trans hw205_2), ((HB.out.cell (World.block_lt_of_cell? w _ hw209_0)).trans hw209_0), ((HB.out.cell (World.block_lt_of_cell? w _ hw209_1)).trans hw209_1), ((HB.out.cell (World.block_lt_of_cell? w _ hw209_2)).trans hw209_2)⟩ (fun hHeld => ?_)
         clear hK K
         refine norm_ (a' := ?_) ?_ ?_
         rotate_left
         ·show Act.put _ (some 20) _ = _
          simp only [Act.put, List.setIfInBounds_toArray, List.set_cons_zero, List.set_cons_succ, i64_w, i32_w]
          rfl
         refine pure_ (i := 9) (N := some 25) (v := ?_) (a' := ?_) #[true, true, true, true, true, true, true, true, true, true] rfl rfl (any_of HT_.out (by kernel_rfl)) (fun _ _ _ h => h) (Or.inl ⟨by rfl, ?_⟩) ?_ ?_
         rotate_left
         ·intro w'
          go_simp
          with_reducible rfl
         rotate_left
         ·simp only [Act.put, List.setIfInBounds_toArray, List.set_cons_zero, List.set_cons_succ, i64_w, i32_w]
          rfl
         refine done_ (done_of HT_.out (by kernel_rfl)) ?_
         try go_wp2
         go_ret
         exact ⟨by first | rfl | (simp [errW_none, errW_some] <;> rfl) | (simp [*, errW_none, errW_some] <;> rfl), by repeat (first | (with_reducible first | exact HB.out | apply below_alloc | apply pw_below_drewN | apply below_drew1) | exact HB.out)⟩
        ·rw [if_neg c9] at H
         have c9b0 : (!(t206 == ((rd_T30 l1 x13_1).f0)) || (!(t207.toList == (((rd_T30 l1 x13_1).f1).toList)) || (!(t208.toList == (((rd_T30 l1 x13_1).f2).toList))))) = false := by simpa using c9
         clear c9
         have H' := Aside0.mk H
         clear H
         try go_wp2
         have n0_ := Aside0.mk (below_drew1 HB.out)
         clear HB
         have HB := n0_
         clear n0_
         have p205 : 0 ≤ (x13_1 : Int) := of_decide_eq_true (by first | (with_reducible assumption) | assumption)
         have q205 : x13_1 < (l0.length : Int) := of_decide_eq_true (by first | (with_reducible assumption) | assumption)
         obtain ⟨ad205, e205, hx205_0, hx205_1, hx205_2⟩ := at_T27 HR0.out x13_1 p205 q205
         have hw205_2 := hx205_2
         have hw205_1 := hx205_1
         have hw205_0 := hx205_0
         cases e205
         replace hx205_0 := (HB.out.cell (World.block_lt_of_cell? w _ hx205_0)).trans hx205_0
         replace hx205_1 := (HB.out.cell (World.block_lt_of_cell? w _ hx205_1)).trans hx205_1
         replace hx205_2 := (HB.out.cell (World.block_lt_of_cell? w _ hx205_2)).trans hx205_2
         replace p205 := eq_true p205
         replace q205 := eq_true q205
         have p209 : 0 ≤ (x13_1 : Int) := of_decide_eq_true (by first | (with_reducible assumption) | assumption)
         have q209 : x13_1 < (l1.length : Int) := of_decide_eq_true (by first | (with_reducible assumption) | assumption)
         obtain ⟨ad209, e209, hx209_0, hx209_1, hx209_2⟩ := at_T30 HR1.out x13_1 p209 q209
         have hw209_2 := hx209_2
         have hw209_1 := hx209_1
         have hw209_0 := hx209_0
         cases e209
         replace hx209_0 := (HB.out.cell (World.block_lt_of_cell? w _ hx209_0)).trans hx209_0
         replace hx209_1 := (HB.out.cell (World.block_lt_of_cell? w _ hx209_1)).trans hx209_1
         replace hx209_2 := (HB.out.cell (World.block_lt_of_cell? w _ hx209_2)).trans hx209_2
         replace p209 := eq_true p209
         replace q209 := eq_true q209
         refine start_ (n := 10) (S := fun w' => w'.cell? (ad205.add ((x13_1).toNat * 3)) = some (.int .i64 ((rd_T27 l0 x13_1).f0)) ∧ w'.cell? ⟨(ad205.add ((x13_1).toNat * 3)).block, (ad205.add ((x13_1).toNat * 3)).off + 1, none⟩ = some (.string ((rd_T27 l0 x13_1).f1)) ∧ w'.cell? ⟨(ad205.add ((x13_1).toNat * 3)).block, (ad205.add ((x13_1).toNat * 3)).off + 2, none⟩ = some (.string ((rd_T27 l0 x13_1).f2)) ∧ w'.cell? (ad209.add ((x13_1).toNat * 3)) = some (.int .i64 ((rd_T30 l1 x13_1).f0)) ∧ w'.cell? ⟨(ad209.add ((x13_1).toNat * 3)).block, (ad209.add ((x13_1).toNat * 3)).off + 1, none⟩ = some (.string ((rd_T30 l1 x13_1).f1)) ∧ w'.cell? ⟨(ad209.add ((x13_1).toNat * 3)).block, (ad209.add ((x13_1).toNat * 3)).off + 2, none⟩ = some (.string ((rd_T30 l1 x13_1).f2))) (ds := []) #[false, false, false, false, false, false, false, false, false, false] (by kernel_rfl) rfl rfl ⟨((HB.out.cell (World.block_lt_of_cell? w _ hw205_0)).trans hw205_0), ((HB.out.cell (World.block_lt_of_cell? w _ hw205_1)).trans hw205_1), ((HB.out.cell (World.block_lt_of_cell? w _ hw205_2)).trans hw205_2), ((HB.out.cell (World.block_lt_of_cell? w _ hw209_0)).trans hw209_0), ((HB.out.cell (World.block_lt_of_cell? w _ hw209_1)).trans hw209_1), ((HB.out.cell (World.block_lt_of_cell? w _ hw209_2)).trans hw209_2)⟩ (fun hHeld => ?_); refine with_tabW laws_verSorted.tab6 laws_verSorted.bits6 (fun HT_ HW_ => ?_)
         generalize wr.drew = w12 at HB hx205_0 hx205_1 hx205_2 hx209_0 hx209_1 hx209_2 hHeld ⊢
         refine pure_ (i := 0) (N := some 16) (v := ?_) (a' := ?_) #[true, false, false, false, false, false, false, false, false, false] rfl rfl (any_of HT_.out (by kernel_rfl)) (fun _ _ _ h => h) (Or.inl ⟨by rfl, ?_⟩) ?_ ?_
         rotate_left
         ·intro w'
          go_simp
          with_reducible rfl
         rotate_left
         ·simp only [Act.put, List.setIfInBounds_toArray, List.set_cons_zero, List.set_cons_succ, i64_w, i32_w]
          rfl
         refine pure_ (i := 1) (N := some 17) (v := ?_) (a' := ?_) #[true, true, false, false, false, false, false, false, false, false] rfl rfl (any_of HT_.out (by kernel_rfl)) (fun _ _ _ h => h) (Or.inl ⟨by rfl, ?_⟩) ?_ ?_
         rotate_left
         ·intro w'
          go_simp
          with_reducible rfl
         rotate_left
         ·simp only [Act.put, List.setIfInBounds_toArray, List.set_cons_zero, List.set_cons_succ, i64_w, i32_w]
          rfl
         refine pure_ (i := 2) (N := some 18) (v := ?_) (a' := ?_) #[true, true, true, false, false, false, false, false, false, false] rfl rfl (any_of HT_.out (by kernel_rfl)) (fun _ _ _ h => h) (Or.inl ⟨by rfl, ?_⟩) ?_ ?_
         rotate_left
         ·intro w'
          go_simp
          with_reducible rfl
         rotate_left
         ·simp only [Act.put, List.setIfInBounds_toArray, List.set_cons_zero, List.set_cons_succ, i64_w, i32_w]
          rfl
         refine pure_ (i := 5) (N := some 21) (v := ?_) (a' := ?_) #[true, true, true, false, false, true, false, false, false, false] rfl rfl (any_of HT_.out (by kernel_rfl)) (fun _ _ _ h => h) (Or.inl ⟨by rfl, ?_⟩) ?_ ?_
         rotate_left
         ·intro w'
          go_simp
          with_reducible rfl
         rotate_left
         ·simp only [Act.put, List.setIfInBounds_toArray, List.set_cons_zero, List.set_cons_succ, i64_w, i32_w]
          rfl
         refine pure_ (i := 6) (N := some 22) (v := ?_) (a' := ?_) #[true, true, true, false, false, true, true, false, false, false] rfl rfl (any_of HT_.out (by kernel_rfl)) (fun _ _ _ h => h) (Or.inl ⟨by rfl, ?_⟩) ?_ ?_
         rotate_left
         ·intro w'
          go_simp
          with_reducible rfl
         rotate_left
         ·simp only [Act.put, List.setIfInBounds_toArray, List.set_cons_zero, List.set_cons_succ, i64_w, i32_w]
          rfl
         refine pure_ (i := 7) (N := some 23) (v := ?_) (a' := ?_) #[true, true, true, false, false, true, true, true, false, false] rfl rfl (any_of HT_.out (by kernel_rfl)) (fun _ _ _ h => h) (Or.inl ⟨by rfl, ?_⟩) ?_ ?_
         rotate_left
         ·intro w'
          go_simp
          with_reducible rfl
         rotate_left
         ·simp only [Act.put, List.setIfInBounds_toArray, List.set_cons_zero, List.set_cons_succ, i64_w, i32_w]
          rfl
         refine take_ (i := 3) (N := some 19) (v := ?_) (a' := ?_) #[true, true, true, true, false, true, true, true, false, false] rfl rfl (take_ofW HT_.out HW_.out (by kernel_rfl)) (fun _ _ _ h => h) (Or.inl ⟨by rfl, ?_⟩) hHeld ?_ ?_
         rotate_left
         ·rintro w' ⟨s0, s1, s2, s3, s4, s5⟩
          go_simp
          with_reducible rfl
         rotate_left
         ·simp only [Act.put, List.setIfInBounds_toArray, List.set_cons_zero, List.set_cons_succ, i64_w, i32_w]
          rfl
         refine take_ (i := 8) (N := some 24) (v := ?_) (a' := ?_) #[true, true, true, true, false, true, true, true, true, false] rfl rfl (take_ofW HT_.out HW_.out (by kernel_rfl)) (fun _ _ _ h => h) (Or.inl ⟨by rfl, ?_⟩) hHeld ?_ ?_
         rotate_left
         ·rintro w' ⟨s0, s1, s2, s3, s4, s5⟩
          go_simp
          with_reducible rfl
         rotate_left
         ·simp only [Act.put, List.setIfInBounds_toArray, List.set_cons_zero, List.set_cons_succ, i64_w, i32_w]
          rfl
         refine one_ (i := 4) (N := some 20) #[true, true, true, true, true, true, true, true, true, false] rfl rfl (one_of HT_.out (by kernel_rfl)) (by decide) (fun K hK => ?_)
         refine goes_ Tryz.func29 (by kernel_rfl) rfl #[.agg #[.int .i64 ((rd_T27 l0 x13_1).f0), .string ((rd_T27 l0 x13_1).f1), .string ((rd_T27 l0 x13_1).f2)]] (by rfl) rfl rfl (by (try simp only [List.map_toArray, List.map_cons, List.map_nil]); first | done | rfl | (simp only [List.length_drop, List.length_take]; rfl)) ?_
         with_reducible refine (laws_verOf.calls ((rd_T27 l0 x13_1).f0) ((rd_T27 l0 x13_1).f1) ((rd_T27 l0 x13_1).f2) t206 t207 t208 _ A7.out).mono ?_
         rintro e w13 ⟨rfl, hb⟩
         refine ⟨_, rfl, ?_⟩
         have n0_ := Aside0.mk (below_step (by repeat (first | (with_reducible first | exact HB.out | apply below_alloc | apply pw_below_drewN | apply below_drew1) | exact HB.out)) hb)
         clear HB
         have HB := n0_
         clear n0_
         (try clear hb)
         (try clear hb2)
         (try clear hk)
         (try clear hi)
         refine hK.out _ _ ⟨((HB.out.cell (World.block_lt_of_cell? w _ hw205_0)).trans hw205_0), ((HB.out.cell (World.block_lt_of_cell? w _ hw205_1)).trans hw205_1), ((HB.out.cell (World.block_lt_of_cell? w _ hw205_2)).trans hw205_2), ((HB.out.cell (World.block_lt_of_cell? w _ hw209_0)).trans hw209_0), ((HB.out.cell (World.block_lt_of_cell? w _ hw209_1)).trans hw209_1), ((HB.out.cell (World.block_lt_of_cell? w _ hw209_2)).trans hw209_2)⟩ (fun hHeld => ?_)
         clear hK K
         refine norm_ (a' := ?_) ?_ ?_
         rotate_left
         ·show Act.put _ (some 20) _ = _
          simp only [Act.put, List.setIfInBounds_toArray, List.set_cons_zero, List.set_cons_succ, i64_w, i32_w]
          rfl
         refine pure_ (i := 9) (N := some 25) (v := ?_) (a' := ?_) #[true, true, true, true, true, true, true, true, true, true] rfl rfl (any_of HT_.out (by kernel_rfl)) (fun _ _ _ h => h) (Or.inl ⟨by rfl, ?_⟩) ?_ ?_
         rotate_left
         ·intro w'
          go_simp
          with_reducible rfl
         rotate_left
         ·simp only [Act.put, List.setIfInBounds_toArray, List.set_cons_zero, List.set_cons_succ, i64_w, i32_w]
          rfl
         refine done_ (done_of HT_.out (by kernel_rfl)) ?_
         try go_wp2
         go_roundg k1
         case measure => have := HK1.out; omega
         case rel => exact ⟨(wrap64 (x13_1 + 1)), (by first | rfl | (simp; done) | (simp [*]; done)), H', ⟨by have := HK1.out; omega⟩, ⟨by repeat (first | (with_reducible first | exact HB.out | apply below_alloc | apply pw_below_drewN | apply below_drew1) | exact HB.out)⟩⟩
       ·rw [if_neg c8] at H
        exact absurd H (by simp)
      ·rw [if_neg c6] at H
       exact absurd H (by simp)
     ·rw [if_neg c5] at H
      exact absurd H (by simp)
    ·rw [if_neg c4] at H
     have c4b0 : decide (x13_1 < (l0.length : Int)) = false := decide_eq_false c4
     clear c4
     obtain rfl := Option.some.inj H
     go_wp2
     go_ret
     exact ⟨by first | rfl | (simp [errW_none, errW_some] <;> rfl) | (simp [*, errW_none, errW_some] <;> rfl), by repeat (first | (with_reducible first | exact HB.out | apply below_alloc | apply pw_below_drewN | apply below_drew1) | exact HB.out)⟩
 ·rw [if_neg c3] at H
  have c3b0 : ((l0.length : Int) == (l1.length : Int)) = false := beq_eq_false_iff_ne.mpr c3
  have c3b1 : ((l0.length : Int) != (l1.length : Int)) = true := bne_iff_ne.mpr c3
  have c3b2 : (l0.length == l1.length) = false := by first | simpa using c3 | (simp at c3 ⊢; omega)
  obtain rfl := Option.some.inj H
  go_enter Tryz.func43, Tryz.ntmps43
  go_wp2
  go_ret
  exact ⟨by first | rfl | (simp [errW_none, errW_some] <;> rfl) | (simp [*, errW_none, errW_some] <;> rfl), by repeat (first | (with_reducible first | exact HB.out | apply below_alloc | apply pw_below_drewN | apply below_drew1) | exact HB.out)⟩
end Go.Proofs.YtgoeiflddikihaaGreatDoor.PFnVersion
end
section
namespace Go.Proofs.YtgoeiflddikihaaGreatDoor.Mem
set_option linter.unusedSimpArgs false
set_option linter.unusedVariables false
open Go.RowKit Go.Proofs.YtgoeiflddikihaaGreatDoorW.PrintWords Go.Proofs.YtgoeiflddikihaaGreatDoor.PFnVersion
theorem Blks.reads {w0 w : World} {L : List Blk} (H : Blks w0 w L) {g : Nat} {cs rest : List Value} {t : TypeId} (hm : (g, cs ++ rest, t) ∈ L) : ∀ j u, cs[j]? = some u → w.cell? ⟨g, j, none⟩ = some u := by
  intro i u hu
  have hb := H.has _ hm
  rw [cell_of_row w g i _ _ (0, 0) hb, ← Array.getElem?_toList]
  have : i < cs.length := (List.getElem?_eq_some_iff.1 hu).1
  rw [List.getElem?_append_left this]; exact hu
theorem add0 (g o j : Nat) : (⟨g, o, none⟩ : Addr).add j = ⟨g, o + j, none⟩ := Addr.add_mid g o j
theorem VOk.src {out : List S30} {X L : List Blk} {w0 w : World} {A : Option Addr} {cap : Nat} (h : VOk out (.slice A out.length cap) X) (H : Blks w0 w L) (hs : ∀ x ∈ X, x ∈ L) (k : Nat) (hk : k ≤ out.length) :
    Src Tryz.prog 3 67 (tailV A out.length cap k) (out.length - k) (flat3 (out.drop k)) w := by
  have hu : Tryz.prog.underlying 67 = some (.slice 30) := Tryz.underlying67
  have hl : (flat3 (out.drop k)).length = (out.length - k) * 3 := by rw [flat3_len, List.length_drop]
  rcases h with ⟨h1, rfl, rfl⟩ | ⟨g, cp, rest, h1, h2, h3, rfl⟩
  · injection h1 with a1 a2 a3
    subst a1 a3
    obtain rfl : k = 0 := by simpa using hk
    exact Src.ofNil w hu 0
  · injection h1 with a1 a2 a3
    subst a1 a3
    have hm := hs _ (List.mem_singleton.2 rfl)
    unfold tailV
    by_cases hc : cap = k
    · rw [if_pos hc]
      have : out.length - k = 0 := by omega
      have hn : out.drop k = [] := List.drop_eq_nil_of_le (by omega)
      rw [hn, this]
      exact Src.ofSlice w hu _ 0 _ [] (by simp) (fun j u h => by simp at h) (fun u h => by cases h)
    · rw [if_neg hc]
      refine Src.ofSlice w hu _ _ _ _ hl (fun j u hj => ?_) (flat3_one _)
      show w.cell? (((⟨g, 0, none⟩ : Addr).add (k * 3)).add j) = some u
      rw [add0, add0]
      rw [← flat3_drop, List.getElem?_drop] at hj
      have := H.reads hm (k * 3 + j) u hj
      simpa using this
theorem run_app_grow (w : World) (ty : TypeId) (base : Option Addr) (n cp : Nat) (olds : List Value) (x : Value) (m : Nat) (news : List Value) (hs : Src Tryz.prog 3 67 x m news w)
    (hold : (Builtin.firstCells 3 n (.slice base n cp)).run Tryz.prog w.drew = .ok olds.toArray w.drew) (hg : cp < n + m) (hb : n + m ≤ 1000000) :
    ∃ g cap w', (Builtin.append_ #[67, 67] ty #[.slice base n cp, x]).run Tryz.prog w = .ok (.slice (some ⟨g, 0, none⟩) (n + m) cap) w' ∧ n + m ≤ cap ∧ cap ≤ maxLen ∧ w.heap.size ≤ g ∧ Below w.heap.size w w' ∧
      ∃ cells rest, w'.heap[g]? = some (.cells cells 30 (0, 0)) ∧ cells.toList = (olds ++ news) ++ rest := by
  obtain ⟨i, hi, hz0, hz1, hz2⟩ := info_parts info30
  have hu : Tryz.prog.underlying 67 = some (.slice 30) := Tryz.underlying67
  have hfit : Builtin.nextslicecap (n + m) cp * i.bytes ≤ 281474976710656 := growslice_fits hg (by rw [hz2]; omega)
  have hs' : Src Tryz.prog i.size 67 x m news w := by rw [hz1]; exact hs
  have hr := run_append_grow_src w 67 67 ty 30 i _ hu hi hz0 base n cp olds (by rw [hz1]; exact hold) x m news hs' hg (by omega) hfit
  refine ⟨_, _, _, hr, grownCap_ge _ _ _ _, grownCap_le_maxLen _ _ _ _ (by unfold maxLen; omega), Nat.le_refl _, ?bel, _, ?rest, heap_alloc_new w.drew _, ?eq⟩
  case eq => exact Array.toList_append
  · exact ⟨rfl, rfl, rfl, by simp, fun k hk => heap_alloc_old w.drew _ hk⟩
section
variable {ops : Array Oper} {a : Act} {w0 w : World} {K : Act → World → Prop} {Q : Exit → Act → World → Prop} {L L' : List Blk} {E : Prop}
variable {d : Option Tmp} {tt : TypeId} {pos : String} {af : Array Edge}
theorem d_append {s x : Operand} {sv xv v' : Value} {w' : World} (hs : a.eval s = sv) (hx : a.eval x = xv) (hrun : (Builtin.append_ #[67, 67] tt #[sv, xv]).run Tryz.prog w = .ok v' w') (h : K (a.put d v') w') :
    if Region.wanted ⟨d, .call { callee := .builtin .append, args := #[s, x], argTypes := #[67, 67] }, tt, pos, af, none⟩ (yielded ops a.tmps) = true then
      Oper.wp Tryz.prog ⟨d, .call { callee := .builtin .append, args := #[s, x], argTypes := #[67, 67] }, tt, pos, af, none⟩ a w K Q else E := by
  rw [if_pos (by simp [Region.wanted])]
  unfold Oper.wp
  simp [execOp, resolve, invoke, builtin, hs, hx, hrun, Result.andThen]
  exact h
theorem d_app1 {s y : Operand} {b1 k : Nat} {x : S30} {out : List S30} {X : List Blk} {A : Option Addr} {cap : Nat} (H : Blks w0 w L) (hb : (b1, c3 x, 30) ∈ L) (ho : VOk out (.slice A out.length cap) X) (hX : ∀ z ∈ X, z ∈ L) (hk : k ≤ out.length) (hl : out.length ≤ 1000)
    (hs : a.eval s = .slice (some ⟨b1, 0, none⟩) 1 1) (hy : a.eval y = tailV A out.length cap k)
    (h : ∀ g cap' rest w' L2, Aside0 (Blks w0 w' L2) → (∀ z ∈ L, z ∈ L2) → (g, flat3 (x :: out.drop k) ++ rest, 30) ∈ L2 → K (a.put d (.slice (some ⟨g, 0, none⟩) (1 + (out.length - k)) cap')) w') :
    if Region.wanted ⟨d, .call { callee := .builtin .append, args := #[s, y], argTypes := #[67, 67] }, tt, pos, af, none⟩ (yielded ops a.tmps) = true then
      Oper.wp Tryz.prog ⟨d, .call { callee := .builtin .append, args := #[s, y], argTypes := #[67, 67] }, tt, pos, af, none⟩ a w K Q else E := by
  have src := ho.src H hX k hk
  have hx3 : flat3 (x :: out.drop k) = c3 x ++ flat3 (out.drop k) := rfl
  by_cases h0 : out.length - k = 0
  · have hn : out.drop k = [] := List.drop_eq_nil_of_le (by omega)
    rw [h0, hn] at src
    obtain ⟨i, hi, hz0, hz1, hz2⟩ := info_parts info30
    have hu : Tryz.prog.underlying 67 = some (.slice 30) := Tryz.underlying67
    have hr := run_append_room_src (P := Tryz.prog) w 67 67 tt 30 i hu hi b1 0 1 1 _ 0 (flat3 []) (by rw [hz1]; exact src) (by omega) (fun j hj => by simp [flat3] at hj) (fun j hj => by simp [flat3] at hj)
    refine d_append hs hy hr ?_
    rw [h0, hn] at h
    exact h b1 1 [] _ L ⟨H⟩ (fun z hz => hz) (by rw [List.append_nil]; exact hb)
  · have hb' : (b1, c3 x ++ [], 30) ∈ L := by rw [List.append_nil]; exact hb
    obtain ⟨g, cap', w', hr, h1, h2, h3, h4, cells, rest, h5, h6⟩ := run_app_grow w tt (some ⟨b1, 0, none⟩) 1 1 (c3 x) _ _ _ src (run_firstCells_some w.drew 3 1 ⟨b1, 0, none⟩ 1 1 (c3 x) rfl (fun j u hj => by
      rw [add0, Nat.zero_add]; exact (H.drew.reads hb' j u hj))) (by omega) (by omega)
    refine d_append hs hy hr ?_
    exact h g cap' rest w' _ ⟨H.add h4 h3 h5 h6⟩ (fun z hz => List.mem_cons_of_mem _ hz) (List.mem_cons_self ..)
theorem d_app2 {s y : Operand} {g1 k m cap1 : Nat} {ys out : List S30} {X : List Blk} {A : Option Addr} {cap : Nat} {rest1 : List Value} (H : Blks w0 w L) (hb : (g1, flat3 ys ++ rest1, 30) ∈ L) (ho : VOk out (.slice A out.length cap) X) (hX : ∀ z ∈ X, z ∈ L) (hk : k ≤ out.length)
    (hm : m = ys.length) (hp : 0 < m) (hl : out.length ≤ 1000) (hl2 : m ≤ 1002)
    (hs : a.eval s = .slice A k k) (hy : a.eval y = .slice (some ⟨g1, 0, none⟩) m cap1)
    (h : ∀ v' w' L2 X', Aside0 (Blks w0 w' L2) → (∀ z ∈ L, z ∈ L2) → (∀ z ∈ X', z ∈ L2) → VOk (out.take k ++ ys) v' X' → K (a.put d v') w') :
    if Region.wanted ⟨d, .call { callee := .builtin .append, args := #[s, y], argTypes := #[67, 67] }, tt, pos, af, none⟩ (yielded ops a.tmps) = true then
      Oper.wp Tryz.prog ⟨d, .call { callee := .builtin .append, args := #[s, y], argTypes := #[67, 67] }, tt, pos, af, none⟩ a w K Q else E := by
  have hu : Tryz.prog.underlying 67 = some (.slice 30) := Tryz.underlying67
  have src : Src Tryz.prog 3 67 (.slice (some ⟨g1, 0, none⟩) m cap1) m (flat3 ys) w := Src.ofSlice w hu _ _ _ _ (by rw [flat3_len, hm]) (fun j u hj => by rw [add0, Nat.zero_add]; exact H.reads hb j u hj) (flat3_one _)
  have hold : (Builtin.firstCells 3 k (.slice A k k)).run Tryz.prog w.drew = .ok (flat3 (out.take k)).toArray w.drew := by
    rcases ho with ⟨h1, rfl, rfl⟩ | ⟨g, cp, rest, h1, h2, h3, rfl⟩
    · obtain rfl := (Value.slice.inj h1).1
      obtain rfl : k = 0 := by simpa using hk
      exact run_firstCells_none w.drew 3 0 0 0
    · obtain rfl := (Value.slice.inj h1).1
      refine run_firstCells_some w.drew 3 k _ k k _ (by rw [flat3_len, List.length_take, Nat.min_eq_left hk]) (fun j u hj => ?_)
      rw [← flat3_take out k hk, List.getElem?_take] at hj
      split at hj
      · rw [add0, Nat.zero_add]; exact H.drew.reads (hX _ (List.mem_singleton.2 rfl)) j u hj
      · cases hj
  obtain ⟨g, cap', w', hr, h1, h2, h3, h4, cells, rest, h5, h6⟩ := run_app_grow w tt A k k (flat3 (out.take k)) _ m (flat3 ys) src hold (by omega) (by omega)
  refine d_append hs hy hr ?_
  have hlen : (out.take k ++ ys).length = k + m := by rw [List.length_append, List.length_take, hm]; omega
  refine h _ w' _ [(g, flat3 (out.take k ++ ys) ++ rest, 30)] ⟨H.add h4 h3 h5 (by rw [h6, ← flat3_app])⟩ (fun z hz => List.mem_cons_of_mem _ hz) (fun z hz => by rw [List.mem_singleton.1 hz]; exact List.mem_cons_self ..) (Or.inr ⟨g, cap', rest, by rw [hlen], by rw [hlen]; exact h1, h2, rfl⟩)
end
theorem Blks.sub {w0 w : World} {L L2 : List Blk} (h : Blks w0 w L2) (hs : ∀ z ∈ L, z ∈ L2) (nd : (L.map (·.1)).Nodup) : Blks w0 w L := ⟨h.bel, fun x hx => h.has x (hs x hx), fun x hx => h.new x (hs x hx), nd⟩
theorem VOk.nodup {out : List S30} {v : Value} {X : List Blk} (h : VOk out v X) : (X.map (·.1)).Nodup := by
  rcases h with ⟨_, _, rfl⟩ | ⟨g, cap, rest, _, _, _, rfl⟩ <;> simp
end Go.Proofs.YtgoeiflddikihaaGreatDoor.Mem
end
