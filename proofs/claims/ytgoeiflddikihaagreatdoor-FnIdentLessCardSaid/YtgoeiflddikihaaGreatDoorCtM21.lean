/- Merged by program out of: VPf, IdL. -/
import Derived.Test.YtgoeiflddikihaaGreatDoorCtM20
import Derived.Lib.QuietBelow
import Derived.BigQuiet
import Derived.Deep.Cut
import Derived.Deep.CutRange
section
namespace Go.Proofs.YtgoeiflddikihaaGreatDoor.PFnIdentLess
open Go.RowKit Go.Proofs.YtgoeiflddikihaaGreatDoorW.PrintWords Go.Proofs.YtgoeiflddikihaaGreatDoorW.PrintLast Go.Proofs.YtgoeiflddikihaaGreatDoorW.PrintMore
attribute [local go_sem] max2_int min2_int max_two min_two max_three min_three max_four min_four   -- for this text's walks alone
set_option linter.unusedVariables false
set_option linter.unusedSimpArgs false

/-! ### laws_zzFits5: function 46 -/
def laws_zzFits5.f (a0_0 : ByteArray) (a0_1 : ByteArray) : Option (Bool) := if (a0_0.size : Int) > 2147483647 then (some false) else (if (a0_1.size : Int) > 2147483647 then (some false) else (some true))
set_option maxHeartbeats 8000000 in
set_option maxRecDepth 100000 in
theorem laws_zzFits5.calls (a0_0 : ByteArray) (a0_1 : ByteArray) (r : Bool) (w : World) (h : laws_zzFits5.f a0_0 a0_1 = some r) :
    Calls Tryz.prog 46 #[.agg #[.string a0_0, .string a0_1]] w fun e w' => e = .returned (.bool r) ∧ Below w.heap.size w w' := by
  have hu76 := Tryz.underlying76
  have HB := Aside0.mk (Below.refl w.heap.size w)
  have H : (if (a0_0.size : Int) > 2147483647 then (some false) else (if (a0_1.size : Int) > 2147483647 then (some false) else (some true))) = some r := h
  clear h
  by_cases c2 : (a0_0.size : Int) > 2147483647
  · rw [if_pos c2] at H
    have c2b0 : decide (2147483647 < (a0_0.size : Int)) = true := decide_eq_true c2
    have c2b1 : decide (2147483647 < a0_0.size) = true := decide_eq_true (by omega)
    clear c2
    obtain rfl := Option.some.inj H
    go_enter Tryz.func46, Tryz.ntmps46
    go_wp2_with (first | ((with_reducible refine gate_dst (N := 1) rfl ?_); refine box_event ?hg (N := 1) ?hd (cs := #[.string a0_0, .string a0_1]) (t := 76) ?hr ?_; (case hd => rfl); (case hg => rfl); (case hr => first | (go_simp; done) | (go_simp; rfl)); intro gb153 hg w3 hbox hb; have n0_ := Aside0.mk (below_step (by repeat (first | (with_reducible first | exact HB.out | apply below_alloc | apply pw_below_drewN | apply below_drew1) | exact HB.out)) hb); have n1_ := Aside0.mk (hbox); have n2_ := Aside0.mk ((by rw [hg]; exact (below_size (by repeat (first | (with_reducible first | exact HB.out | apply below_alloc | apply pw_below_drewN | apply below_drew1) | exact HB.out))) : w.heap.size ≤ gb153)); have n3_ := Aside0.mk ((by rw [hg]; exact (below_size (by repeat (first | (with_reducible first | exact HB.out | apply below_alloc | apply pw_below_drewN | apply below_drew1) | exact HB.out))) : w.heap.size ≤ gb153)); clear HB; have HB := n0_; have BK153 := n1_; have GW153 := n2_; have GE153 := n3_; clear n0_ n1_ n2_ n3_; clear hb hbox hg; have hcz4_0 : w3.cell? ⟨gb153, 0, none⟩ = some (.string a0_0) := (blk_cell BK153.out 0).trans rfl; have hcz4_1 : w3.cell? ⟨gb153, 1, none⟩ = some (.string a0_1) := (blk_cell BK153.out 1).trans rfl; have hfz4_0 := blk_frozen BK153.out 0; have hfz4_1 := blk_frozen BK153.out 1))
    go_ret
    exact ⟨by first | rfl | (simp [errW_none, errW_some] <;> rfl) | (simp [*, errW_none, errW_some] <;> rfl), by repeat (first | (with_reducible first | exact HB.out | apply below_alloc | apply pw_below_drewN | apply below_drew1 | refine below_set ?_ GE153.out) | exact HB.out)⟩
  · rw [if_neg c2] at H
    have c2b0 : decide (2147483647 < (a0_0.size : Int)) = false := decide_eq_false c2
    have c2b1 : decide (2147483647 < a0_0.size) = false := decide_eq_false (by omega)
    clear c2
    by_cases c5 : (a0_1.size : Int) > 2147483647
    · rw [if_pos c5] at H
      have c5b0 : decide (2147483647 < (a0_1.size : Int)) = true := decide_eq_true c5
      have c5b1 : decide (2147483647 < a0_1.size) = true := decide_eq_true (by omega)
      clear c5
      obtain rfl := Option.some.inj H
      go_enter Tryz.func46, Tryz.ntmps46
      go_wp2_with (first | ((with_reducible refine gate_dst (N := 1) rfl ?_); refine box_event ?hg (N := 1) ?hd (cs := #[.string a0_0, .string a0_1]) (t := 76) ?hr ?_; (case hd => rfl); (case hg => rfl); (case hr => first | (go_simp; done) | (go_simp; rfl)); intro gb153 hg w6 hbox hb; have n0_ := Aside0.mk (below_step (by repeat (first | (with_reducible first | exact HB.out | apply below_alloc | apply pw_below_drewN | apply below_drew1) | exact HB.out)) hb); have n1_ := Aside0.mk (hbox); have n2_ := Aside0.mk ((by rw [hg]; exact (below_size (by repeat (first | (with_reducible first | exact HB.out | apply below_alloc | apply pw_below_drewN | apply below_drew1) | exact HB.out))) : w.heap.size ≤ gb153)); have n3_ := Aside0.mk ((by rw [hg]; exact (below_size (by repeat (first | (with_reducible first | exact HB.out | apply below_alloc | apply pw_below_drewN | apply below_drew1) | exact HB.out))) : w.heap.size ≤ gb153)); clear HB; have HB := n0_; have BK153 := n1_; have GW153 := n2_; have GE153 := n3_; clear n0_ n1_ n2_ n3_; clear hb hbox hg; have hcz7_0 : w6.cell? ⟨gb153, 0, none⟩ = some (.string a0_0) := (blk_cell BK153.out 0).trans rfl; have hcz7_1 : w6.cell? ⟨gb153, 1, none⟩ = some (.string a0_1) := (blk_cell BK153.out 1).trans rfl; have hfz7_0 := blk_frozen BK153.out 0; have hfz7_1 := blk_frozen BK153.out 1))
      go_ret
      exact ⟨by first | rfl | (simp [errW_none, errW_some] <;> rfl) | (simp [*, errW_none, errW_some] <;> rfl), by repeat (first | (with_reducible first | exact HB.out | apply below_alloc | apply pw_below_drewN | apply below_drew1 | refine below_set ?_ GE153.out) | exact HB.out)⟩
    · rw [if_neg c5] at H
      have c5b0 : decide (2147483647 < (a0_1.size : Int)) = false := decide_eq_false c5
      have c5b1 : decide (2147483647 < a0_1.size) = false := decide_eq_false (by omega)
      clear c5
      obtain rfl := Option.some.inj H
      go_enter Tryz.func46, Tryz.ntmps46
      go_wp2_with (first | ((with_reducible refine gate_dst (N := 1) rfl ?_); refine box_event ?hg (N := 1) ?hd (cs := #[.string a0_0, .string a0_1]) (t := 76) ?hr ?_; (case hd => rfl); (case hg => rfl); (case hr => first | (go_simp; done) | (go_simp; rfl)); intro gb153 hg w8 hbox hb; have n0_ := Aside0.mk (below_step (by repeat (first | (with_reducible first | exact HB.out | apply below_alloc | apply pw_below_drewN | apply below_drew1) | exact HB.out)) hb); have n1_ := Aside0.mk (hbox); have n2_ := Aside0.mk ((by rw [hg]; exact (below_size (by repeat (first | (with_reducible first | exact HB.out | apply below_alloc | apply pw_below_drewN | apply below_drew1) | exact HB.out))) : w.heap.size ≤ gb153)); have n3_ := Aside0.mk ((by rw [hg]; exact (below_size (by repeat (first | (with_reducible first | exact HB.out | apply below_alloc | apply pw_below_drewN | apply below_drew1) | exact HB.out))) : w.heap.size ≤ gb153)); clear HB; have HB := n0_; have BK153 := n1_; have GW153 := n2_; have GE153 := n3_; clear n0_ n1_ n2_ n3_; clear hb hbox hg; have hcz9_0 : w8.cell? ⟨gb153, 0, none⟩ = some (.string a0_0) := (blk_cell BK153.out 0).trans rfl; have hcz9_1 : w8.cell? ⟨gb153, 1, none⟩ = some (.string a0_1) := (blk_cell BK153.out 1).trans rfl; have hfz9_0 := blk_frozen BK153.out 0; have hfz9_1 := blk_frozen BK153.out 1))
      go_ret
      exact ⟨by first | rfl | (simp [errW_none, errW_some] <;> rfl) | (simp [*, errW_none, errW_some] <;> rfl), by repeat (first | (with_reducible first | exact HB.out | apply below_alloc | apply pw_below_drewN | apply below_drew1 | refine below_set ?_ GE153.out) | exact HB.out)⟩

/-! ### laws_identPlain: function 47 -/
def laws_identPlain.f (a0_0 : ByteArray) (a0_1 : ByteArray) : Option (Bool) := if (a0_0.size : Int) ≤ 60 then (some (decide ((a0_1.size : Int) ≤ 60))) else (some false)
set_option maxHeartbeats 8000000 in
set_option maxRecDepth 100000 in
theorem laws_identPlain.calls (a0_0 : ByteArray) (a0_1 : ByteArray) (r : Bool) (w : World) (h : laws_identPlain.f a0_0 a0_1 = some r) :
    Calls Tryz.prog 47 #[.agg #[.string a0_0, .string a0_1]] w fun e w' => e = .returned (.bool r) ∧ Below w.heap.size w w' := by
  have hu76 := Tryz.underlying76
  have HB := Aside0.mk (Below.refl w.heap.size w)
  have H : (if (a0_0.size : Int) ≤ 60 then (some (decide ((a0_1.size : Int) ≤ 60))) else (some false)) = some r := h
  clear h
  by_cases c2 : (a0_0.size : Int) ≤ 60
  · rw [if_pos c2] at H
    have c2b0 : decide ((a0_0.size : Int) ≤ 60) = true := decide_eq_true c2
    have c2b1 : decide (a0_0.size ≤ 60) = true := decide_eq_true (by omega)
    clear c2
    obtain rfl := Option.some.inj H
    go_enter Tryz.func47, Tryz.ntmps47
    go_wp2_with (first | ((with_reducible refine gate_dst (N := 1) rfl ?_); (try (refine gate_guard (by rfl) ?_; dsimp only)); refine box_event ?hg (N := 1) ?hd (cs := #[.string a0_0, .string a0_1]) (t := 76) ?hr ?_; (case hd => rfl); (case hg => rfl); (case hr => first | (go_simp; done) | (go_simp; rfl)); intro gb154 hg w3 hbox hb; have n0_ := Aside0.mk (below_step (by repeat (first | (with_reducible first | exact HB.out | apply below_alloc | apply pw_below_drewN | apply below_drew1) | exact HB.out)) hb); have n1_ := Aside0.mk (hbox); have n2_ := Aside0.mk ((by rw [hg]; exact (below_size (by repeat (first | (with_reducible first | exact HB.out | apply below_alloc | apply pw_below_drewN | apply below_drew1) | exact HB.out))) : w.heap.size ≤ gb154)); have n3_ := Aside0.mk ((by rw [hg]; exact (below_size (by repeat (first | (with_reducible first | exact HB.out | apply below_alloc | apply pw_below_drewN | apply below_drew1) | exact HB.out))) : w.heap.size ≤ gb154)); clear HB; have HB := n0_; have BK154 := n1_; have GW154 := n2_; have GE154 := n3_; clear n0_ n1_ n2_ n3_; clear hb hbox hg; have hcz4_0 : w3.cell? ⟨gb154, 0, none⟩ = some (.string a0_0) := (blk_cell BK154.out 0).trans rfl; have hcz4_1 : w3.cell? ⟨gb154, 1, none⟩ = some (.string a0_1) := (blk_cell BK154.out 1).trans rfl; have hfz4_0 := blk_frozen BK154.out 0; have hfz4_1 := blk_frozen BK154.out 1))
    go_ret
    exact ⟨by first | rfl | (simp [errW_none, errW_some] <;> rfl) | (simp [*, errW_none, errW_some] <;> rfl), by repeat (first | (with_reducible first | exact HB.out | apply below_alloc | apply pw_below_drewN | apply below_drew1 | refine below_set ?_ GE154.out) | exact HB.out)⟩
  · rw [if_neg c2] at H
    have c2b0 : decide ((a0_0.size : Int) ≤ 60) = false := decide_eq_false c2
    have c2b1 : decide (a0_0.size ≤ 60) = false := decide_eq_false (by omega)
    clear c2
    obtain rfl := Option.some.inj H
    go_enter Tryz.func47, Tryz.ntmps47
    go_wp2_with (first | ((with_reducible refine gate_dst (N := 1) rfl ?_); (try (refine gate_guard (by rfl) ?_; dsimp only)); refine box_event ?hg (N := 1) ?hd (cs := #[.string a0_0, .string a0_1]) (t := 76) ?hr ?_; (case hd => rfl); (case hg => rfl); (case hr => first | (go_simp; done) | (go_simp; rfl)); intro gb154 hg w5 hbox hb; have n0_ := Aside0.mk (below_step (by repeat (first | (with_reducible first | exact HB.out | apply below_alloc | apply pw_below_drewN | apply below_drew1) | exact HB.out)) hb); have n1_ := Aside0.mk (hbox); have n2_ := Aside0.mk ((by rw [hg]; exact (below_size (by repeat (first | (with_reducible first | exact HB.out | apply below_alloc | apply pw_below_drewN | apply below_drew1) | exact HB.out))) : w.heap.size ≤ gb154)); have n3_ := Aside0.mk ((by rw [hg]; exact (below_size (by repeat (first | (with_reducible first | exact HB.out | apply below_alloc | apply pw_below_drewN | apply below_drew1) | exact HB.out))) : w.heap.size ≤ gb154)); clear HB; have HB := n0_; have BK154 := n1_; have GW154 := n2_; have GE154 := n3_; clear n0_ n1_ n2_ n3_; clear hb hbox hg; have hcz6_0 : w5.cell? ⟨gb154, 0, none⟩ = some (.string a0_0) := (blk_cell BK154.out 0).trans rfl; have hcz6_1 : w5.cell? ⟨gb154, 1, none⟩ = some (.string a0_1) := (blk_cell BK154.out 1).trans rfl; have hfz6_0 := blk_frozen BK154.out 0; have hfz6_1 := blk_frozen BK154.out 1))
    go_ret
    exact ⟨by first | rfl | (simp [errW_none, errW_some] <;> rfl) | (simp [*, errW_none, errW_some] <;> rfl), by repeat (first | (with_reducible first | exact HB.out | apply below_alloc | apply pw_below_drewN | apply below_drew1 | refine below_set ?_ GE154.out) | exact HB.out)⟩

/-! ### laws_identSource: function 48 -/
def laws_identSource.f (a0_0 : ByteArray) (a0_1 : ByteArray) : Option (ByteArray) := if a0_1.toList = ([] : List UInt8) then (some a0_0) else (some a0_1)
set_option maxHeartbeats 8000000 in
set_option maxRecDepth 100000 in
theorem laws_identSource.calls (a0_0 : ByteArray) (a0_1 : ByteArray) (r : ByteArray) (w : World) (h : laws_identSource.f a0_0 a0_1 = some r) :
    Calls Tryz.prog 48 #[.agg #[.string a0_0, .string a0_1]] w fun e w' => e = .returned (.string r) ∧ Below w.heap.size w w' := by
  have hu76 := Tryz.underlying76
  have HB := Aside0.mk (Below.refl w.heap.size w)
  have H : (if a0_1.toList = ([] : List UInt8) then (some a0_0) else (some a0_1)) = some r := h
  clear h
  by_cases c2 : a0_1.toList = ([] : List UInt8)
  · rw [if_pos c2] at H
    have c2b0 : (a0_1.toList == ([] : List UInt8)) = true := beq_iff_eq.mpr c2
    have c2b1 : (a0_1.toList != ([] : List UInt8)) = false := bne_eq_false_iff_eq.mpr c2
    clear c2
    obtain rfl := Option.some.inj H
    go_enter Tryz.func48, Tryz.ntmps48
    go_wp2_with (first | ((with_reducible refine gate_dst (N := 1) rfl ?_); refine box_event ?hg (N := 1) ?hd (cs := #[.string a0_0, .string a0_1]) (t := 76) ?hr ?_; (case hd => rfl); (case hg => rfl); (case hr => first | (go_simp; done) | (go_simp; rfl)); intro gb155 hg w3 hbox hb; have n0_ := Aside0.mk (below_step (by repeat (first | (with_reducible first | exact HB.out | apply below_alloc | apply pw_below_drewN | apply below_drew1) | exact HB.out)) hb); have n1_ := Aside0.mk (hbox); have n2_ := Aside0.mk ((by rw [hg]; exact (below_size (by repeat (first | (with_reducible first | exact HB.out | apply below_alloc | apply pw_below_drewN | apply below_drew1) | exact HB.out))) : w.heap.size ≤ gb155)); have n3_ := Aside0.mk ((by rw [hg]; exact (below_size (by repeat (first | (with_reducible first | exact HB.out | apply below_alloc | apply pw_below_drewN | apply below_drew1) | exact HB.out))) : w.heap.size ≤ gb155)); clear HB; have HB := n0_; have BK155 := n1_; have GW155 := n2_; have GE155 := n3_; clear n0_ n1_ n2_ n3_; clear hb hbox hg; have hcz4_0 : w3.cell? ⟨gb155, 0, none⟩ = some (.string a0_0) := (blk_cell BK155.out 0).trans rfl; have hcz4_1 : w3.cell? ⟨gb155, 1, none⟩ = some (.string a0_1) := (blk_cell BK155.out 1).trans rfl; have hfz4_0 := blk_frozen BK155.out 0; have hfz4_1 := blk_frozen BK155.out 1))
    go_ret
    exact ⟨by first | rfl | (simp [errW_none, errW_some] <;> rfl) | (simp [*, errW_none, errW_some] <;> rfl), by repeat (first | (with_reducible first | exact HB.out | apply below_alloc | apply pw_below_drewN | apply below_drew1 | refine below_set ?_ GE155.out) | exact HB.out)⟩
  · rw [if_neg c2] at H
    have c2b0 : (a0_1.toList == ([] : List UInt8)) = false := beq_eq_false_iff_ne.mpr c2
    have c2b1 : (a0_1.toList != ([] : List UInt8)) = true := bne_iff_ne.mpr c2
    obtain rfl := Option.some.inj H
    go_enter Tryz.func48, Tryz.ntmps48
    go_wp2_with (first | ((with_reducible refine gate_dst (N := 1) rfl ?_); refine box_event ?hg (N := 1) ?hd (cs := #[.string a0_0, .string a0_1]) (t := 76) ?hr ?_; (case hd => rfl); (case hg => rfl); (case hr => first | (go_simp; done) | (go_simp; rfl)); intro gb155 hg w5 hbox hb; have n0_ := Aside0.mk (below_step (by repeat (first | (with_reducible first | exact HB.out | apply below_alloc | apply pw_below_drewN | apply below_drew1) | exact HB.out)) hb); have n1_ := Aside0.mk (hbox); have n2_ := Aside0.mk ((by rw [hg]; exact (below_size (by repeat (first | (with_reducible first | exact HB.out | apply below_alloc | apply pw_below_drewN | apply below_drew1) | exact HB.out))) : w.heap.size ≤ gb155)); have n3_ := Aside0.mk ((by rw [hg]; exact (below_size (by repeat (first | (with_reducible first | exact HB.out | apply below_alloc | apply pw_below_drewN | apply below_drew1) | exact HB.out))) : w.heap.size ≤ gb155)); clear HB; have HB := n0_; have BK155 := n1_; have GW155 := n2_; have GE155 := n3_; clear n0_ n1_ n2_ n3_; clear hb hbox hg; have hcz6_0 : w5.cell? ⟨gb155, 0, none⟩ = some (.string a0_0) := (blk_cell BK155.out 0).trans rfl; have hcz6_1 : w5.cell? ⟨gb155, 1, none⟩ = some (.string a0_1) := (blk_cell BK155.out 1).trans rfl; have hfz6_0 := blk_frozen BK155.out 0; have hfz6_1 := blk_frozen BK155.out 1))
    go_ret
    exact ⟨by first | rfl | (simp [errW_none, errW_some] <;> rfl) | (simp [*, errW_none, errW_some] <;> rfl), by repeat (first | (with_reducible first | exact HB.out | apply below_alloc | apply pw_below_drewN | apply below_drew1 | refine below_set ?_ GE155.out) | exact HB.out)⟩

/-! ### impl_ident: function 85 -/
def impl_ident.f (a0_0 : ByteArray) (a0_1 : ByteArray) : Option (ByteArray × ByteArray) := some (a0_0, a0_1)
set_option maxHeartbeats 8000000 in
set_option maxRecDepth 100000 in
theorem impl_ident.calls (a0_0 : ByteArray) (a0_1 : ByteArray) (r1 : ByteArray) (r2 : ByteArray) (w : World) (h : impl_ident.f a0_0 a0_1 = some (r1, r2)) :
    Calls Tryz.prog 85 #[.agg #[.string a0_0, .string a0_1]] w fun e w' => e = .returned (.agg #[.string r1, .string r2]) ∧ Below w.heap.size w w' := by
  have hu76 := Tryz.underlying76
  have hu150 := Tryz.underlying150
  have HB := Aside0.mk (Below.refl w.heap.size w)
  have H : (some (a0_0, a0_1)) = some (r1, r2) := h
  clear h
  simp only [Option.some.injEq, Prod.mk.injEq] at H
  obtain ⟨rfl, rfl⟩ := H
  go_enter Tryz.func85, Tryz.ntmps85
  go_wp2_with (first | ((with_reducible refine gate_dst (N := 1) rfl ?_); refine box_event ?hg (N := 1) ?hd (cs := #[.string a0_0, .string a0_1]) (t := 76) ?hr ?_; (case hd => rfl); (case hg => rfl); (case hr => first | (go_simp; done) | (go_simp; rfl)); intro gb156 hg w2 hbox hb; have n0_ := Aside0.mk (below_step (by repeat (first | (with_reducible first | exact HB.out | apply below_alloc | apply pw_below_drewN | apply below_drew1) | exact HB.out)) hb); have n1_ := Aside0.mk (hbox); have n2_ := Aside0.mk ((by rw [hg]; exact (below_size (by repeat (first | (with_reducible first | exact HB.out | apply below_alloc | apply pw_below_drewN | apply below_drew1) | exact HB.out))) : w.heap.size ≤ gb156)); have n3_ := Aside0.mk ((by rw [hg]; exact (below_size (by repeat (first | (with_reducible first | exact HB.out | apply below_alloc | apply pw_below_drewN | apply below_drew1) | exact HB.out))) : w.heap.size ≤ gb156)); clear HB; have HB := n0_; have BK156 := n1_; have GW156 := n2_; have GE156 := n3_; clear n0_ n1_ n2_ n3_; clear hb hbox hg) | ((with_reducible refine gate_dst (N := 2) rfl ?_); refine box_event ?hg (N := 2) ?hd (cs := #[.string (⟨#[]⟩ : ByteArray), .string (⟨#[]⟩ : ByteArray)]) (t := 150) ?hr ?_; (case hd => rfl); (case hg => rfl); (case hr => first | (go_simp; done) | (go_simp; rfl)); intro gb157 hg w3 hbox hb; have n0_ := Aside0.mk (blk_below (g := gb156) (o := .cells #[.string a0_0, .string a0_1] 76 (0, 0)) (by (with_reducible repeat (first | refine blk_drewN ?_ _ | refine blk_drew ?_ | refine blk_alloc ?_ _)); exact BK156.out) hb); have n1_ := Aside0.mk (below_step (by repeat (first | (with_reducible first | exact HB.out | apply below_alloc | apply pw_below_drewN | apply below_drew1 | refine below_set ?_ GE156.out) | exact HB.out)) hb); have n2_ := Aside0.mk (hbox); have n3_ := Aside0.mk ((by rw [hg]; exact (below_size (by repeat (first | (with_reducible first | exact HB.out | apply below_alloc | apply pw_below_drewN | apply below_drew1 | refine below_set ?_ GE156.out) | exact HB.out))) : w.heap.size ≤ gb157)); have n4_ := Aside0.mk ((by rw [hg]; exact (below_size (by repeat (first | (with_reducible first | exact HB.out | apply below_alloc | apply pw_below_drewN | apply below_drew1 | refine below_set ?_ GE156.out) | exact HB.out))) : w.heap.size ≤ gb157)); have n5_ := Aside0.mk ((by rw [hg]; exact Nat.ne_of_lt (blk_lt (g := gb156) (o := .cells #[.string a0_0, .string a0_1] 76 (0, 0)) (by (with_reducible repeat (first | refine blk_drewN ?_ _ | refine blk_drew ?_ | refine blk_alloc ?_ _)); exact BK156.out)) : gb156 ≠ gb157)); have n6_ := Aside0.mk ((by rw [hg]; exact Nat.ne_of_gt (blk_lt (g := gb156) (o := .cells #[.string a0_0, .string a0_1] 76 (0, 0)) (by (with_reducible repeat (first | refine blk_drewN ?_ _ | refine blk_drew ?_ | refine blk_alloc ?_ _)); exact BK156.out)) : gb157 ≠ gb156)); clear BK156; clear HB; have BK156 := n0_; have HB := n1_; have BK157 := n2_; have GW157 := n3_; have GE157 := n4_; have NB156_157 := n5_; have NB157_156 := n6_; clear n0_ n1_ n2_ n3_ n4_ n5_ n6_; clear hb hbox hg; have hnb4 := NB156_157.out; have hnc4 := NB157_156.out; have hcz5_0 : w3.cell? ⟨gb156, 0, none⟩ = some (.string a0_0) := (blk_cell BK156.out 0).trans rfl; have hcz5_1 : w3.cell? ⟨gb156, 1, none⟩ = some (.string a0_1) := (blk_cell BK156.out 1).trans rfl; have hfz5_0 := blk_frozen BK156.out 0; have hfz5_1 := blk_frozen BK156.out 1; have hcz6_0 : w3.cell? ⟨gb157, 0, none⟩ = some (.string (⟨#[]⟩ : ByteArray)) := (blk_cell BK157.out 0).trans rfl; have hcz6_1 : w3.cell? ⟨gb157, 1, none⟩ = some (.string (⟨#[]⟩ : ByteArray)) := (blk_cell BK157.out 1).trans rfl; have hfz6_0 := blk_frozen BK157.out 0; have hfz6_1 := blk_frozen BK157.out 1))
  refine bodyPost_ret (results_cell_row rfl _ _ gb157 150 #[.string a0_0, .string a0_1] (0, 0) _ rfl (by (with_reducible repeat (first | refine blk_drewN ?_ _ | refine blk_drew ?_ | refine blk_alloc ?_ _)); refine blk_put (cs := #[.string a0_0, .string (⟨#[]⟩ : ByteArray)]) ?_ 1 _ rfl; (with_reducible repeat (first | refine blk_drewN ?_ _ | refine blk_drew ?_ | refine blk_alloc ?_ _)); refine blk_put (cs := #[.string (⟨#[]⟩ : ByteArray), .string (⟨#[]⟩ : ByteArray)]) ?_ 0 _ rfl; (with_reducible repeat (first | refine blk_drewN ?_ _ | refine blk_drew ?_ | refine blk_alloc ?_ _)); exact BK157.out) Tryz.underlying150 rfl (by kernel_rfl)) rfl ?_
  exact ⟨by first | rfl | (simp [errW_none, errW_some] <;> rfl) | (simp [*, errW_none, errW_some] <;> rfl), by repeat (first | (with_reducible first | exact HB.out | apply below_alloc | apply pw_below_drewN | apply below_drew1 | refine below_set ?_ GE156.out | refine below_set ?_ GE157.out) | exact HB.out)⟩

/-! ### gps_ProjectIdentifier_normalizedSource: function 108 -/
def gps_ProjectIdentifier_normalizedSource.f (a0_0 : ByteArray) (a0_1 : ByteArray) : Option (ByteArray) := if a0_1.toList = ([] : List UInt8) then (some a0_0) else (some a0_1)
set_option maxHeartbeats 8000000 in
set_option maxRecDepth 100000 in
theorem gps_ProjectIdentifier_normalizedSource.calls (a0_0 : ByteArray) (a0_1 : ByteArray) (r : ByteArray) (w : World) (h : gps_ProjectIdentifier_normalizedSource.f a0_0 a0_1 = some r) :
    Calls Tryz.prog 108 #[.agg #[.string a0_0, .string a0_1]] w fun e w' => e = .returned (.string r) ∧ Below w.heap.size w w' := by
  have hu150 := Tryz.underlying150
  have HB := Aside0.mk (Below.refl w.heap.size w)
  have H : (if a0_1.toList = ([] : List UInt8) then (some a0_0) else (some a0_1)) = some r := h
  clear h
  by_cases c2 : a0_1.toList = ([] : List UInt8)
  · rw [if_pos c2] at H
    have c2b0 : (a0_1.toList == ([] : List UInt8)) = true := beq_iff_eq.mpr c2
    have c2b1 : (a0_1.toList != ([] : List UInt8)) = false := bne_eq_false_iff_eq.mpr c2
    clear c2
    obtain rfl := Option.some.inj H
    go_enter Tryz.func108, Tryz.ntmps108
    go_wp2_with (first | ((with_reducible refine gate_dst (N := 1) rfl ?_); refine box_event ?hg (N := 1) ?hd (cs := #[.string a0_0, .string a0_1]) (t := 150) ?hr ?_; (case hd => rfl); (case hg => rfl); (case hr => first | (go_simp; done) | (go_simp; rfl)); intro gb158 hg w3 hbox hb; have n0_ := Aside0.mk (below_step (by repeat (first | (with_reducible first | exact HB.out | apply below_alloc | apply pw_below_drewN | apply below_drew1) | exact HB.out)) hb); have n1_ := Aside0.mk (hbox); have n2_ := Aside0.mk ((by rw [hg]; exact (below_size (by repeat (first | (with_reducible first | exact HB.out | apply below_alloc | apply pw_below_drewN | apply below_drew1) | exact HB.out))) : w.heap.size ≤ gb158)); have n3_ := Aside0.mk ((by rw [hg]; exact (below_size (by repeat (first | (with_reducible first | exact HB.out | apply below_alloc | apply pw_below_drewN | apply below_drew1) | exact HB.out))) : w.heap.size ≤ gb158)); clear HB; have HB := n0_; have BK158 := n1_; have GW158 := n2_; have GE158 := n3_; clear n0_ n1_ n2_ n3_; clear hb hbox hg; have hcz4_0 : w3.cell? ⟨gb158, 0, none⟩ = some (.string a0_0) := (blk_cell BK158.out 0).trans rfl; have hcz4_1 : w3.cell? ⟨gb158, 1, none⟩ = some (.string a0_1) := (blk_cell BK158.out 1).trans rfl; have hfz4_0 := blk_frozen BK158.out 0; have hfz4_1 := blk_frozen BK158.out 1))
    go_ret
    exact ⟨by first | rfl | (simp [errW_none, errW_some] <;> rfl) | (simp [*, errW_none, errW_some] <;> rfl), by repeat (first | (with_reducible first | exact HB.out | apply below_alloc | apply pw_below_drewN | apply below_drew1 | refine below_set ?_ GE158.out) | exact HB.out)⟩
  · rw [if_neg c2] at H
    have c2b0 : (a0_1.toList == ([] : List UInt8)) = false := beq_eq_false_iff_ne.mpr c2
    have c2b1 : (a0_1.toList != ([] : List UInt8)) = true := bne_iff_ne.mpr c2
    obtain rfl := Option.some.inj H
    go_enter Tryz.func108, Tryz.ntmps108
    go_wp2_with (first | ((with_reducible refine gate_dst (N := 1) rfl ?_); refine box_event ?hg (N := 1) ?hd (cs := #[.string a0_0, .string a0_1]) (t := 150) ?hr ?_; (case hd => rfl); (case hg => rfl); (case hr => first | (go_simp; done) | (go_simp; rfl)); intro gb158 hg w5 hbox hb; have n0_ := Aside0.mk (below_step (by repeat (first | (with_reducible first | exact HB.out | apply below_alloc | apply pw_below_drewN | apply below_drew1) | exact HB.out)) hb); have n1_ := Aside0.mk (hbox); have n2_ := Aside0.mk ((by rw [hg]; exact (below_size (by repeat (first | (with_reducible first | exact HB.out | apply below_alloc | apply pw_below_drewN | apply below_drew1) | exact HB.out))) : w.heap.size ≤ gb158)); have n3_ := Aside0.mk ((by rw [hg]; exact (below_size (by repeat (first | (with_reducible first | exact HB.out | apply below_alloc | apply pw_below_drewN | apply below_drew1) | exact HB.out))) : w.heap.size ≤ gb158)); clear HB; have HB := n0_; have BK158 := n1_; have GW158 := n2_; have GE158 := n3_; clear n0_ n1_ n2_ n3_; clear hb hbox hg; have hcz6_0 : w5.cell? ⟨gb158, 0, none⟩ = some (.string a0_0) := (blk_cell BK158.out 0).trans rfl; have hcz6_1 : w5.cell? ⟨gb158, 1, none⟩ = some (.string a0_1) := (blk_cell BK158.out 1).trans rfl; have hfz6_0 := blk_frozen BK158.out 0; have hfz6_1 := blk_frozen BK158.out 1))
    go_ret
    exact ⟨by first | rfl | (simp [errW_none, errW_some] <;> rfl) | (simp [*, errW_none, errW_some] <;> rfl), by repeat (first | (with_reducible first | exact HB.out | apply below_alloc | apply pw_below_drewN | apply below_drew1 | refine below_set ?_ GE158.out) | exact HB.out)⟩

/-! ### gps_ProjectIdentifier_Less: function 86 -/
def gps_ProjectIdentifier_Less.f (a0_0 : ByteArray) (a0_1 : ByteArray) (a1_0 : ByteArray) (a1_1 : ByteArray) : Option (Bool) := if (Op.bytesLess a0_0.toList a1_0.toList) = true then (some true) else (if (Op.bytesLess a1_0.toList a0_0.toList) = true then (some false) else ((gps_ProjectIdentifier_normalizedSource.f a0_0 a0_1).bind fun t161 => ((gps_ProjectIdentifier_normalizedSource.f a1_0 a1_1).bind fun t162 => (some (Op.bytesLess t161.toList t162.toList)))))
set_option maxHeartbeats 8000000 in
set_option maxRecDepth 100000 in
theorem gps_ProjectIdentifier_Less.calls (a0_0 : ByteArray) (a0_1 : ByteArray) (a1_0 : ByteArray) (a1_1 : ByteArray) (r : Bool) (w : World) (h : gps_ProjectIdentifier_Less.f a0_0 a0_1 a1_0 a1_1 = some r) :
    Calls Tryz.prog 86 #[.agg #[.string a0_0, .string a0_1], .agg #[.string a1_0, .string a1_1]] w fun e w' => e = .returned (.bool r) ∧ Below w.heap.size w w' := by
  have hu150 := Tryz.underlying150
  have HB := Aside0.mk (Below.refl w.heap.size w)
  have H : (if (Op.bytesLess a0_0.toList a1_0.toList) = true then (some true) else (if (Op.bytesLess a1_0.toList a0_0.toList) = true then (some false) else ((gps_ProjectIdentifier_normalizedSource.f a0_0 a0_1).bind fun t161 => ((gps_ProjectIdentifier_normalizedSource.f a1_0 a1_1).bind fun t162 => (some (Op.bytesLess t161.toList t162.toList)))))) = some r := h
  clear h
  by_cases c3 : (Op.bytesLess a0_0.toList a1_0.toList) = true
  · rw [if_pos c3] at H
    have c3b0 : (Op.bytesLess a0_0.toList a1_0.toList) = true := c3
    clear c3
    obtain rfl := Option.some.inj H
    go_enter Tryz.func86, Tryz.ntmps86
    go_wp2_with (first | ((with_reducible refine gate_dst (N := 2) rfl ?_); refine box_event ?hg (N := 2) ?hd (cs := #[.string a0_0, .string a0_1]) (t := 150) ?hr ?_; (case hd => rfl); (case hg => rfl); (case hr => first | (go_simp; done) | (go_simp; rfl)); intro gb159 hg w4 hbox hb; have n0_ := Aside0.mk (below_step (by repeat (first | (with_reducible first | exact HB.out | apply below_alloc | apply pw_below_drewN | apply below_drew1) | exact HB.out)) hb); have n1_ := Aside0.mk (hbox); have n2_ := Aside0.mk ((by rw [hg]; exact (below_size (by repeat (first | (with_reducible first | exact HB.out | apply below_alloc | apply pw_below_drewN | apply below_drew1) | exact HB.out))) : w.heap.size ≤ gb159)); have n3_ := Aside0.mk ((by rw [hg]; exact (below_size (by repeat (first | (with_reducible first | exact HB.out | apply below_alloc | apply pw_below_drewN | apply below_drew1) | exact HB.out))) : w.heap.size ≤ gb159)); clear HB; have HB := n0_; have BK159 := n1_; have GW159 := n2_; have GE159 := n3_; clear n0_ n1_ n2_ n3_; clear hb hbox hg) | ((with_reducible refine gate_dst (N := 3) rfl ?_); refine box_event ?hg (N := 3) ?hd (cs := #[.string a1_0, .string a1_1]) (t := 150) ?hr ?_; (case hd => rfl); (case hg => rfl); (case hr => first | (go_simp; done) | (go_simp; rfl)); intro gb160 hg w5 hbox hb; have n0_ := Aside0.mk (blk_below (g := gb159) (o := .cells #[.string a0_0, .string a0_1] 150 (0, 0)) (by (with_reducible repeat (first | refine blk_drewN ?_ _ | refine blk_drew ?_ | refine blk_alloc ?_ _)); exact BK159.out) hb); have n1_ := Aside0.mk (below_step (by repeat (first | (with_reducible first | exact HB.out | apply below_alloc | apply pw_below_drewN | apply below_drew1 | refine below_set ?_ GE159.out) | exact HB.out)) hb); have n2_ := Aside0.mk (hbox); have n3_ := Aside0.mk ((by rw [hg]; exact (below_size (by repeat (first | (with_reducible first | exact HB.out | apply below_alloc | apply pw_below_drewN | apply below_drew1 | refine below_set ?_ GE159.out) | exact HB.out))) : w.heap.size ≤ gb160)); have n4_ := Aside0.mk ((by rw [hg]; exact (below_size (by repeat (first | (with_reducible first | exact HB.out | apply below_alloc | apply pw_below_drewN | apply below_drew1 | refine below_set ?_ GE159.out) | exact HB.out))) : w.heap.size ≤ gb160)); have n5_ := Aside0.mk ((by rw [hg]; exact Nat.ne_of_lt (blk_lt (g := gb159) (o := .cells #[.string a0_0, .string a0_1] 150 (0, 0)) (by (with_reducible repeat (first | refine blk_drewN ?_ _ | refine blk_drew ?_ | refine blk_alloc ?_ _)); exact BK159.out)) : gb159 ≠ gb160)); have n6_ := Aside0.mk ((by rw [hg]; exact Nat.ne_of_gt (blk_lt (g := gb159) (o := .cells #[.string a0_0, .string a0_1] 150 (0, 0)) (by (with_reducible repeat (first | refine blk_drewN ?_ _ | refine blk_drew ?_ | refine blk_alloc ?_ _)); exact BK159.out)) : gb160 ≠ gb159)); clear BK159; clear HB; have BK159 := n0_; have HB := n1_; have BK160 := n2_; have GW160 := n3_; have GE160 := n4_; have NB159_160 := n5_; have NB160_159 := n6_; clear n0_ n1_ n2_ n3_ n4_ n5_ n6_; clear hb hbox hg; have hnb6 := NB159_160.out; have hnc6 := NB160_159.out; have hcz7_0 : w5.cell? ⟨gb159, 0, none⟩ = some (.string a0_0) := (blk_cell BK159.out 0).trans rfl; have hcz7_1 : w5.cell? ⟨gb159, 1, none⟩ = some (.string a0_1) := (blk_cell BK159.out 1).trans rfl; have hfz7_0 := blk_frozen BK159.out 0; have hfz7_1 := blk_frozen BK159.out 1; have hcz8_0 : w5.cell? ⟨gb160, 0, none⟩ = some (.string a1_0) := (blk_cell BK160.out 0).trans rfl; have hcz8_1 : w5.cell? ⟨gb160, 1, none⟩ = some (.string a1_1) := (blk_cell BK160.out 1).trans rfl; have hfz8_0 := blk_frozen BK160.out 0; have hfz8_1 := blk_frozen BK160.out 1))
    go_ret
    exact ⟨by first | rfl | (simp [errW_none, errW_some] <;> rfl) | (simp [*, errW_none, errW_some] <;> rfl), by repeat (first | (with_reducible first | exact HB.out | apply below_alloc | apply pw_below_drewN | apply below_drew1 | refine below_set ?_ GE159.out | refine below_set ?_ GE160.out) | exact HB.out)⟩
  · rw [if_neg c3] at H
    have c3b0 : (Op.bytesLess a0_0.toList a1_0.toList) = false := by simpa using c3
    clear c3
    by_cases c9 : (Op.bytesLess a1_0.toList a0_0.toList) = true
    · rw [if_pos c9] at H
      have c9b0 : (Op.bytesLess a1_0.toList a0_0.toList) = true := c9
      clear c9
      obtain rfl := Option.some.inj H
      go_enter Tryz.func86, Tryz.ntmps86
      go_wp2_with (first | ((with_reducible refine gate_dst (N := 2) rfl ?_); refine box_event ?hg (N := 2) ?hd (cs := #[.string a0_0, .string a0_1]) (t := 150) ?hr ?_; (case hd => rfl); (case hg => rfl); (case hr => first | (go_simp; done) | (go_simp; rfl)); intro gb159 hg w10 hbox hb; have n0_ := Aside0.mk (below_step (by repeat (first | (with_reducible first | exact HB.out | apply below_alloc | apply pw_below_drewN | apply below_drew1) | exact HB.out)) hb); have n1_ := Aside0.mk (hbox); have n2_ := Aside0.mk ((by rw [hg]; exact (below_size (by repeat (first | (with_reducible first | exact HB.out | apply below_alloc | apply pw_below_drewN | apply below_drew1) | exact HB.out))) : w.heap.size ≤ gb159)); have n3_ := Aside0.mk ((by rw [hg]; exact (below_size (by repeat (first | (with_reducible first | exact HB.out | apply below_alloc | apply pw_below_drewN | apply below_drew1) | exact HB.out))) : w.heap.size ≤ gb159)); clear HB; have HB := n0_; have BK159 := n1_; have GW159 := n2_; have GE159 := n3_; clear n0_ n1_ n2_ n3_; clear hb hbox hg) | ((with_reducible refine gate_dst (N := 3) rfl ?_); refine box_event ?hg (N := 3) ?hd (cs := #[.string a1_0, .string a1_1]) (t := 150) ?hr ?_; (case hd => rfl); (case hg => rfl); (case hr => first | (go_simp; done) | (go_simp; rfl)); intro gb160 hg w11 hbox hb; have n0_ := Aside0.mk (blk_below (g := gb159) (o := .cells #[.string a0_0, .string a0_1] 150 (0, 0)) (by (with_reducible repeat (first | refine blk_drewN ?_ _ | refine blk_drew ?_ | refine blk_alloc ?_ _)); exact BK159.out) hb); have n1_ := Aside0.mk (below_step (by repeat (first | (with_reducible first | exact HB.out | apply below_alloc | apply pw_below_drewN | apply below_drew1 | refine below_set ?_ GE159.out) | exact HB.out)) hb); have n2_ := Aside0.mk (hbox); have n3_ := Aside0.mk ((by rw [hg]; exact (below_size (by repeat (first | (with_reducible first | exact HB.out | apply below_alloc | apply pw_below_drewN | apply below_drew1 | refine below_set ?_ GE159.out) | exact HB.out))) : w.heap.size ≤ gb160)); have n4_ := Aside0.mk ((by rw [hg]; exact (below_size (by repeat (first | (with_reducible first | exact HB.out | apply below_alloc | apply pw_below_drewN | apply below_drew1 | refine below_set ?_ GE159.out) | exact HB.out))) : w.heap.size ≤ gb160)); have n5_ := Aside0.mk ((by rw [hg]; exact Nat.ne_of_lt (blk_lt (g := gb159) (o := .cells #[.string a0_0, .string a0_1] 150 (0, 0)) (by (with_reducible repeat (first | refine blk_drewN ?_ _ | refine blk_drew ?_ | refine blk_alloc ?_ _)); exact BK159.out)) : gb159 ≠ gb160)); have n6_ := Aside0.mk ((by rw [hg]; exact Nat.ne_of_gt (blk_lt (g := gb159) (o := .cells #[.string a0_0, .string a0_1] 150 (0, 0)) (by (with_reducible repeat (first | refine blk_drewN ?_ _ | refine blk_drew ?_ | refine blk_alloc ?_ _)); exact BK159.out)) : gb160 ≠ gb159)); clear BK159; clear HB; have BK159 := n0_; have HB := n1_; have BK160 := n2_; have GW160 := n3_; have GE160 := n4_; have NB159_160 := n5_; have NB160_159 := n6_; clear n0_ n1_ n2_ n3_ n4_ n5_ n6_; clear hb hbox hg; have hnb12 := NB159_160.out; have hnc12 := NB160_159.out; have hcz13_0 : w11.cell? ⟨gb159, 0, none⟩ = some (.string a0_0) := (blk_cell BK159.out 0).trans rfl; have hcz13_1 : w11.cell? ⟨gb159, 1, none⟩ = some (.string a0_1) := (blk_cell BK159.out 1).trans rfl; have hfz13_0 := blk_frozen BK159.out 0; have hfz13_1 := blk_frozen BK159.out 1; have hcz14_0 : w11.cell? ⟨gb160, 0, none⟩ = some (.string a1_0) := (blk_cell BK160.out 0).trans rfl; have hcz14_1 : w11.cell? ⟨gb160, 1, none⟩ = some (.string a1_1) := (blk_cell BK160.out 1).trans rfl; have hfz14_0 := blk_frozen BK160.out 0; have hfz14_1 := blk_frozen BK160.out 1))
      go_ret
      exact ⟨by first | rfl | (simp [errW_none, errW_some] <;> rfl) | (simp [*, errW_none, errW_some] <;> rfl), by repeat (first | (with_reducible first | exact HB.out | apply below_alloc | apply pw_below_drewN | apply below_drew1 | refine below_set ?_ GE159.out | refine below_set ?_ GE160.out) | exact HB.out)⟩
    · rw [if_neg c9] at H
      have c9b0 : (Op.bytesLess a1_0.toList a0_0.toList) = false := by simpa using c9
      clear c9
      replace H := Option.bind_eq_some_iff.mp H
      obtain ⟨t161, A150, H⟩ := H
      replace H : ((gps_ProjectIdentifier_normalizedSource.f a1_0 a1_1).bind fun t162 => (some (Op.bytesLess t161.toList t162.toList))) = some r := H
      have A15 := Aside0.mk A150
      clear A150
      replace H := Option.bind_eq_some_iff.mp H
      obtain ⟨t162, A160, H⟩ := H
      replace H : (some (Op.bytesLess t161.toList t162.toList)) = some r := H
      have A16 := Aside0.mk A160
      clear A160
      obtain rfl := Option.some.inj H
      go_enter Tryz.func86, Tryz.ntmps86
      try go_wp2_with (first | ((with_reducible refine gate_dst (N := 2) rfl ?_); refine box_event ?hg (N := 2) ?hd (cs := #[.string a0_0, .string a0_1]) (t := 150) ?hr ?_; (case hd => rfl); (case hg => rfl); (case hr => first | (go_simp; done) | (go_simp; rfl)); intro gb159 hg w17 hbox hb; have n0_ := Aside0.mk (below_step (by repeat (first | (with_reducible first | exact HB.out | apply below_alloc | apply pw_below_drewN | apply below_drew1) | exact HB.out)) hb); have n1_ := Aside0.mk (hbox); have n2_ := Aside0.mk ((by rw [hg]; exact (below_size (by repeat (first | (with_reducible first | exact HB.out | apply below_alloc | apply pw_below_drewN | apply below_drew1) | exact HB.out))) : w.heap.size ≤ gb159)); have n3_ := Aside0.mk ((by rw [hg]; exact (below_size (by repeat (first | (with_reducible first | exact HB.out | apply below_alloc | apply pw_below_drewN | apply below_drew1) | exact HB.out))) : w.heap.size ≤ gb159)); clear HB; have HB := n0_; have BK159 := n1_; have GW159 := n2_; have GE159 := n3_; clear n0_ n1_ n2_ n3_; clear hb hbox hg) | ((with_reducible refine gate_dst (N := 3) rfl ?_); refine box_event ?hg (N := 3) ?hd (cs := #[.string a1_0, .string a1_1]) (t := 150) ?hr ?_; (case hd => rfl); (case hg => rfl); (case hr => first | (go_simp; done) | (go_simp; rfl)); intro gb160 hg w18 hbox hb; have n0_ := Aside0.mk (blk_below (g := gb159) (o := .cells #[.string a0_0, .string a0_1] 150 (0, 0)) (by (with_reducible repeat (first | refine blk_drewN ?_ _ | refine blk_drew ?_ | refine blk_alloc ?_ _)); exact BK159.out) hb); have n1_ := Aside0.mk (below_step (by repeat (first | (with_reducible first | exact HB.out | apply below_alloc | apply pw_below_drewN | apply below_drew1 | refine below_set ?_ GE159.out) | exact HB.out)) hb); have n2_ := Aside0.mk (hbox); have n3_ := Aside0.mk ((by rw [hg]; exact (below_size (by repeat (first | (with_reducible first | exact HB.out | apply below_alloc | apply pw_below_drewN | apply below_drew1 | refine below_set ?_ GE159.out) | exact HB.out))) : w.heap.size ≤ gb160)); have n4_ := Aside0.mk ((by rw [hg]; exact (below_size (by repeat (first | (with_reducible first | exact HB.out | apply below_alloc | apply pw_below_drewN | apply below_drew1 | refine below_set ?_ GE159.out) | exact HB.out))) : w.heap.size ≤ gb160)); have n5_ := Aside0.mk ((by rw [hg]; exact Nat.ne_of_lt (blk_lt (g := gb159) (o := .cells #[.string a0_0, .string a0_1] 150 (0, 0)) (by (with_reducible repeat (first | refine blk_drewN ?_ _ | refine blk_drew ?_ | refine blk_alloc ?_ _)); exact BK159.out)) : gb159 ≠ gb160)); have n6_ := Aside0.mk ((by rw [hg]; exact Nat.ne_of_gt (blk_lt (g := gb159) (o := .cells #[.string a0_0, .string a0_1] 150 (0, 0)) (by (with_reducible repeat (first | refine blk_drewN ?_ _ | refine blk_drew ?_ | refine blk_alloc ?_ _)); exact BK159.out)) : gb160 ≠ gb159)); clear BK159; clear HB; have BK159 := n0_; have HB := n1_; have BK160 := n2_; have GW160 := n3_; have GE160 := n4_; have NB159_160 := n5_; have NB160_159 := n6_; clear n0_ n1_ n2_ n3_ n4_ n5_ n6_; clear hb hbox hg; have hnb19 := NB159_160.out; have hnc19 := NB160_159.out; have hcz20_0 : w18.cell? ⟨gb159, 0, none⟩ = some (.string a0_0) := (blk_cell BK159.out 0).trans rfl; have hcz20_1 : w18.cell? ⟨gb159, 1, none⟩ = some (.string a0_1) := (blk_cell BK159.out 1).trans rfl; have hfz20_0 := blk_frozen BK159.out 0; have hfz20_1 := blk_frozen BK159.out 1; have hcz21_0 : w18.cell? ⟨gb160, 0, none⟩ = some (.string a1_0) := (blk_cell BK160.out 0).trans rfl; have hcz21_1 : w18.cell? ⟨gb160, 1, none⟩ = some (.string a1_1) := (blk_cell BK160.out 1).trans rfl; have hfz21_0 := blk_frozen BK160.out 0; have hfz21_1 := blk_frozen BK160.out 1))
      have n0_ := Aside0.mk (blk_drew BK159.out)
      have n1_ := Aside0.mk (blk_drew BK160.out)
      have n2_ := Aside0.mk (below_drew1 HB.out)
      clear BK159
      clear BK160
      clear HB
      have BK159 := n0_
      have BK160 := n1_
      have HB := n2_
      clear n0_ n1_ n2_
      refine start_ (n := 6) (S := fun w' => w'.cell? ⟨gb159, 0, none⟩ = some (.string a0_0) ∧ w'.cell? ⟨gb159, 1, none⟩ = some (.string a0_1) ∧ w'.cell? ⟨gb160, 0, none⟩ = some (.string a1_0) ∧ w'.cell? ⟨gb160, 1, none⟩ = some (.string a1_1)) (ds := []) #[false, false, false, false, false, false] (by kernel_rfl) rfl rfl ⟨(blk_cell BK159.out 0).trans rfl, (blk_cell BK159.out 1).trans rfl, (blk_cell BK160.out 0).trans rfl, (blk_cell BK160.out 1).trans rfl⟩ (fun hHeld => ?_)
      generalize w18.drew = w22 at BK159 BK160 HB hHeld ⊢
      refine take_ (i := 0) (N := some 15) (v := ?_) (a' := ?_) #[true, false, false, false, false, false] rfl rfl (by kernel_rfl) (fun _ _ _ h => h) (Or.inl ⟨by rfl, ?_⟩) hHeld ?_ ?_
      rotate_left
      · rintro w' ⟨s0, s1, s2, s3⟩
        go_simp
        with_reducible rfl
      rotate_left
      · simp only [Act.put, List.setIfInBounds_toArray, List.set_cons_zero, List.set_cons_succ, i64_w, i32_w]
        rfl
      refine take_ (i := 2) (N := some 17) (v := ?_) (a' := ?_) #[true, false, true, false, false, false] rfl rfl (by kernel_rfl) (fun _ _ _ h => h) (Or.inl ⟨by rfl, ?_⟩) hHeld ?_ ?_
      rotate_left
      · rintro w' ⟨s0, s1, s2, s3⟩
        go_simp
        with_reducible rfl
      rotate_left
      · simp only [Act.put, List.setIfInBounds_toArray, List.set_cons_zero, List.set_cons_succ, i64_w, i32_w]
        rfl
      refine one_ (i := 1) (N := some 16) #[true, true, true, false, false, false] rfl rfl (by kernel_rfl) (by decide) (fun K hK => ?_)
      refine goes_ Tryz.func108 (by kernel_rfl) rfl #[.agg #[.string a0_0, .string a0_1]] (by rfl) rfl rfl (by (try simp only [List.map_toArray, List.map_cons, List.map_nil]); first | done | rfl | (simp only [List.length_drop, List.length_take]; rfl)) ?_
      with_reducible refine (gps_ProjectIdentifier_normalizedSource.calls a0_0 a0_1 t161 _ A15.out).mono ?_
      rintro e w23 ⟨rfl, hb⟩
      refine ⟨_, rfl, ?_⟩
      have n0_ := Aside0.mk (blk_below (g := gb159) (o := .cells #[.string a0_0, .string a0_1] 150 (0, 0)) (by (with_reducible repeat (first | refine blk_drewN ?_ _ | refine blk_drew ?_ | refine blk_alloc ?_ _)); exact BK159.out) hb)
      have n1_ := Aside0.mk (blk_below (g := gb160) (o := .cells #[.string a1_0, .string a1_1] 150 (0, 0)) (by (with_reducible repeat (first | refine blk_drewN ?_ _ | refine blk_drew ?_ | refine blk_alloc ?_ _)); exact BK160.out) hb)
      have n2_ := Aside0.mk (below_step (by repeat (first | (with_reducible first | exact HB.out | apply below_alloc | apply pw_below_drewN | apply below_drew1 | refine below_set ?_ GE159.out | refine below_set ?_ GE160.out) | exact HB.out)) hb)
      clear BK159
      clear BK160
      clear HB
      have BK159 := n0_
      have BK160 := n1_
      have HB := n2_
      clear n0_ n1_ n2_
      (try clear hb)
      (try clear hb2)
      (try clear hk)
      (try clear hi)
      refine hK.out _ _ ⟨(blk_cell BK159.out 0).trans rfl, (blk_cell BK159.out 1).trans rfl, (blk_cell BK160.out 0).trans rfl, (blk_cell BK160.out 1).trans rfl⟩ (fun hHeld => ?_)
      clear hK K
      refine norm_ (a' := ?_) ?_ ?_
      rotate_left
      · show Act.put _ (some 16) _ = _
        simp only [Act.put, List.setIfInBounds_toArray, List.set_cons_zero, List.set_cons_succ, i64_w, i32_w]
        rfl
      refine one_ (i := 3) (N := some 18) #[true, true, true, true, false, false] rfl rfl (by kernel_rfl) (by decide) (fun K hK => ?_)
      refine goes_ Tryz.func108 (by kernel_rfl) rfl #[.agg #[.string a1_0, .string a1_1]] (by rfl) rfl rfl (by (try simp only [List.map_toArray, List.map_cons, List.map_nil]); first | done | rfl | (simp only [List.length_drop, List.length_take]; rfl)) ?_
      with_reducible refine (gps_ProjectIdentifier_normalizedSource.calls a1_0 a1_1 t162 _ A16.out).mono ?_
      rintro e w24 ⟨rfl, hb⟩
      refine ⟨_, rfl, ?_⟩
      have n0_ := Aside0.mk (blk_below (g := gb159) (o := .cells #[.string a0_0, .string a0_1] 150 (0, 0)) (by (with_reducible repeat (first | refine blk_drewN ?_ _ | refine blk_drew ?_ | refine blk_alloc ?_ _)); exact BK159.out) hb)
      have n1_ := Aside0.mk (blk_below (g := gb160) (o := .cells #[.string a1_0, .string a1_1] 150 (0, 0)) (by (with_reducible repeat (first | refine blk_drewN ?_ _ | refine blk_drew ?_ | refine blk_alloc ?_ _)); exact BK160.out) hb)
      have n2_ := Aside0.mk (below_step (by repeat (first | (with_reducible first | exact HB.out | apply below_alloc | apply pw_below_drewN | apply below_drew1 | refine below_set ?_ GE159.out | refine below_set ?_ GE160.out) | exact HB.out)) hb)
      clear BK159
      clear BK160
      clear HB
      have BK159 := n0_
      have BK160 := n1_
      have HB := n2_
      clear n0_ n1_ n2_
      (try clear hb)
      (try clear hb2)
      (try clear hk)
      (try clear hi)
      refine hK.out _ _ ⟨(blk_cell BK159.out 0).trans rfl, (blk_cell BK159.out 1).trans rfl, (blk_cell BK160.out 0).trans rfl, (blk_cell BK160.out 1).trans rfl⟩ (fun hHeld => ?_)
      clear hK K
      refine norm_ (a' := ?_) ?_ ?_
      rotate_left
      · show Act.put _ (some 18) _ = _
        simp only [Act.put, List.setIfInBounds_toArray, List.set_cons_zero, List.set_cons_succ, i64_w, i32_w]
        rfl
      refine pure_ (i := 4) (N := some 19) (v := ?_) (a' := ?_) #[true, true, true, true, true, false] rfl rfl (by kernel_rfl) (fun _ _ _ h => h) (Or.inl ⟨by rfl, ?_⟩) ?_ ?_
      rotate_left
      · intro w'
        go_simp
        with_reducible rfl
      rotate_left
      · simp only [Act.put, List.setIfInBounds_toArray, List.set_cons_zero, List.set_cons_succ, i64_w, i32_w]
        rfl
      refine pure_ (i := 5) (N := some 4) (v := ?_) (a' := ?_) #[true, true, true, true, true, true] rfl rfl (by kernel_rfl) (fun _ _ _ h => h) (Or.inl ⟨by rfl, ?_⟩) ?_ ?_
      rotate_left
      · intro w'
        go_simp
        with_reducible rfl
      rotate_left
      · simp only [Act.put, List.setIfInBounds_toArray, List.set_cons_zero, List.set_cons_succ, i64_w, i32_w]
        rfl
      refine done_ (by kernel_rfl) ?_
      try go_wp2
      go_ret
      exact ⟨by first | rfl | (simp [errW_none, errW_some] <;> rfl) | (simp [*, errW_none, errW_some] <;> rfl), by repeat (first | (with_reducible first | exact HB.out | apply below_alloc | apply pw_below_drewN | apply below_drew1 | refine below_set ?_ GE159.out | refine below_set ?_ GE160.out) | exact HB.out)⟩

/-! ### impl_IdentLess: function 49 -/
def impl_IdentLess.f (a0_0 : ByteArray) (a0_1 : ByteArray) (a1_0 : ByteArray) (a1_1 : ByteArray) : Option (Bool) := (impl_ident.f a0_0 a0_1).bind fun bt165 => ((impl_ident.f a1_0 a1_1).bind fun bt167 => ((gps_ProjectIdentifier_Less.f bt165.1 bt165.2 bt167.1 bt167.2).bind fun t169 => (some t169)))
set_option maxHeartbeats 8000000 in
set_option maxRecDepth 100000 in
theorem impl_IdentLess.calls (a0_0 : ByteArray) (a0_1 : ByteArray) (a1_0 : ByteArray) (a1_1 : ByteArray) (r : Bool) (w : World) (h : impl_IdentLess.f a0_0 a0_1 a1_0 a1_1 = some r) :
    Calls Tryz.prog 49 #[.agg #[.string a0_0, .string a0_1], .agg #[.string a1_0, .string a1_1]] w fun e w' => e = .returned (.bool r) ∧ Below w.heap.size w w' := by
  have hu76 := Tryz.underlying76
  have HB := Aside0.mk (Below.refl w.heap.size w)
  have H : ((impl_ident.f a0_0 a0_1).bind fun bt165 => ((impl_ident.f a1_0 a1_1).bind fun bt167 => ((gps_ProjectIdentifier_Less.f bt165.1 bt165.2 bt167.1 bt167.2).bind fun t169 => (some t169)))) = some r := h
  clear h
  replace H := Option.bind_eq_some_iff.mp H
  obtain ⟨⟨t165, t166⟩, A30, H⟩ := H
  replace H : ((impl_ident.f a1_0 a1_1).bind fun bt167 => ((gps_ProjectIdentifier_Less.f t165 t166 bt167.1 bt167.2).bind fun t169 => (some t169))) = some r := H
  have A3 := Aside0.mk A30
  clear A30
  replace H := Option.bind_eq_some_iff.mp H
  obtain ⟨⟨t167, t168⟩, A40, H⟩ := H
  replace H : ((gps_ProjectIdentifier_Less.f t165 t166 t167 t168).bind fun t169 => (some t169)) = some r := H
  have A4 := Aside0.mk A40
  clear A40
  replace H := Option.bind_eq_some_iff.mp H
  obtain ⟨t169, A50, H⟩ := H
  replace H : (some t169) = some r := H
  have A5 := Aside0.mk A50
  clear A50
  obtain rfl := Option.some.inj H
  go_enter Tryz.func49, Tryz.ntmps49
  try go_wp2_with (first | ((with_reducible refine gate_dst (N := 2) rfl ?_); refine box_event ?hg (N := 2) ?hd (cs := #[.string a0_0, .string a0_1]) (t := 76) ?hr ?_; (case hd => rfl); (case hg => rfl); (case hr => first | (go_simp; done) | (go_simp; rfl)); intro gb163 hg w6 hbox hb; have n0_ := Aside0.mk (below_step (by repeat (first | (with_reducible first | exact HB.out | apply below_alloc | apply pw_below_drewN | apply below_drew1) | exact HB.out)) hb); have n1_ := Aside0.mk (hbox); have n2_ := Aside0.mk ((by rw [hg]; exact (below_size (by repeat (first | (with_reducible first | exact HB.out | apply below_alloc | apply pw_below_drewN | apply below_drew1) | exact HB.out))) : w.heap.size ≤ gb163)); have n3_ := Aside0.mk ((by rw [hg]; exact (below_size (by repeat (first | (with_reducible first | exact HB.out | apply below_alloc | apply pw_below_drewN | apply below_drew1) | exact HB.out))) : w.heap.size ≤ gb163)); clear HB; have HB := n0_; have BK163 := n1_; have GW163 := n2_; have GE163 := n3_; clear n0_ n1_ n2_ n3_; clear hb hbox hg) | ((with_reducible refine gate_dst (N := 3) rfl ?_); refine box_event ?hg (N := 3) ?hd (cs := #[.string a1_0, .string a1_1]) (t := 76) ?hr ?_; (case hd => rfl); (case hg => rfl); (case hr => first | (go_simp; done) | (go_simp; rfl)); intro gb164 hg w7 hbox hb; have n0_ := Aside0.mk (blk_below (g := gb163) (o := .cells #[.string a0_0, .string a0_1] 76 (0, 0)) (by (with_reducible repeat (first | refine blk_drewN ?_ _ | refine blk_drew ?_ | refine blk_alloc ?_ _)); exact BK163.out) hb); have n1_ := Aside0.mk (below_step (by repeat (first | (with_reducible first | exact HB.out | apply below_alloc | apply pw_below_drewN | apply below_drew1 | refine below_set ?_ GE163.out) | exact HB.out)) hb); have n2_ := Aside0.mk (hbox); have n3_ := Aside0.mk ((by rw [hg]; exact (below_size (by repeat (first | (with_reducible first | exact HB.out | apply below_alloc | apply pw_below_drewN | apply below_drew1 | refine below_set ?_ GE163.out) | exact HB.out))) : w.heap.size ≤ gb164)); have n4_ := Aside0.mk ((by rw [hg]; exact (below_size (by repeat (first | (with_reducible first | exact HB.out | apply below_alloc | apply pw_below_drewN | apply below_drew1 | refine below_set ?_ GE163.out) | exact HB.out))) : w.heap.size ≤ gb164)); have n5_ := Aside0.mk ((by rw [hg]; exact Nat.ne_of_lt (blk_lt (g := gb163) (o := .cells #[.string a0_0, .string a0_1] 76 (0, 0)) (by (with_reducible repeat (first | refine blk_drewN ?_ _ | refine blk_drew ?_ | refine blk_alloc ?_ _)); exact BK163.out)) : gb163 ≠ gb164)); have n6_ := Aside0.mk ((by rw [hg]; exact Nat.ne_of_gt (blk_lt (g := gb163) (o := .cells #[.string a0_0, .string a0_1] 76 (0, 0)) (by (with_reducible repeat (first | refine blk_drewN ?_ _ | refine blk_drew ?_ | refine blk_alloc ?_ _)); exact BK163.out)) : gb164 ≠ gb163)); clear BK163; clear HB; have BK163 := n0_; have HB := n1_; have BK164 := n2_; have GW164 := n3_; have GE164 := n4_; have NB163_164 := n5_; have NB164_163 := n6_; clear n0_ n1_ n2_ n3_ n4_ n5_ n6_; clear hb hbox hg))
  have n0_ := Aside0.mk (blk_drew BK163.out)
  have n1_ := Aside0.mk (blk_drew BK164.out)
  have n2_ := Aside0.mk (below_drew1 HB.out)
  clear BK163
  clear BK164
  clear HB
  have BK163 := n0_
  have BK164 := n1_
  have HB := n2_
  clear n0_ n1_ n2_
  refine start_ (n := 6) (S := fun w' => w'.cell? ⟨gb163, 0, none⟩ = some (.string a0_0) ∧ w'.cell? ⟨gb163, 1, none⟩ = some (.string a0_1) ∧ w'.cell? ⟨gb164, 0, none⟩ = some (.string a1_0) ∧ w'.cell? ⟨gb164, 1, none⟩ = some (.string a1_1)) (ds := []) #[false, false, false, false, false, false] (by kernel_rfl) rfl rfl ⟨(blk_cell BK163.out 0).trans rfl, (blk_cell BK163.out 1).trans rfl, (blk_cell BK164.out 0).trans rfl, (blk_cell BK164.out 1).trans rfl⟩ (fun hHeld => ?_)
  generalize w7.drew = w8 at BK163 BK164 HB hHeld ⊢
  refine take_ (i := 0) (N := some 5) (v := ?_) (a' := ?_) #[true, false, false, false, false, false] rfl rfl (by kernel_rfl) (fun _ _ _ h => h) (Or.inl ⟨by rfl, ?_⟩) hHeld ?_ ?_
  rotate_left
  · rintro w' ⟨s0, s1, s2, s3⟩
    go_simp
    with_reducible rfl
  rotate_left
  · simp only [Act.put, List.setIfInBounds_toArray, List.set_cons_zero, List.set_cons_succ, i64_w, i32_w]
    rfl
  refine take_ (i := 2) (N := some 7) (v := ?_) (a' := ?_) #[true, false, true, false, false, false] rfl rfl (by kernel_rfl) (fun _ _ _ h => h) (Or.inl ⟨by rfl, ?_⟩) hHeld ?_ ?_
  rotate_left
  · rintro w' ⟨s0, s1, s2, s3⟩
    go_simp
    with_reducible rfl
  rotate_left
  · simp only [Act.put, List.setIfInBounds_toArray, List.set_cons_zero, List.set_cons_succ, i64_w, i32_w]
    rfl
  refine one_ (i := 1) (N := some 6) #[true, true, true, false, false, false] rfl rfl (by kernel_rfl) (by decide) (fun K hK => ?_)
  refine goes_ Tryz.func85 (by kernel_rfl) rfl #[.agg #[.string a0_0, .string a0_1]] (by rfl) rfl rfl (by (try simp only [List.map_toArray, List.map_cons, List.map_nil]); first | done | rfl | (simp only [List.length_drop, List.length_take]; rfl)) ?_
  with_reducible refine (impl_ident.calls a0_0 a0_1 t165 t166 _ A3.out).mono ?_
  rintro e w9 ⟨rfl, hb⟩
  refine ⟨_, rfl, ?_⟩
  have n0_ := Aside0.mk (blk_below (g := gb163) (o := .cells #[.string a0_0, .string a0_1] 76 (0, 0)) (by (with_reducible repeat (first | refine blk_drewN ?_ _ | refine blk_drew ?_ | refine blk_alloc ?_ _)); exact BK163.out) hb)
  have n1_ := Aside0.mk (blk_below (g := gb164) (o := .cells #[.string a1_0, .string a1_1] 76 (0, 0)) (by (with_reducible repeat (first | refine blk_drewN ?_ _ | refine blk_drew ?_ | refine blk_alloc ?_ _)); exact BK164.out) hb)
  have n2_ := Aside0.mk (below_step (by repeat (first | (with_reducible first | exact HB.out | apply below_alloc | apply pw_below_drewN | apply below_drew1 | refine below_set ?_ GE163.out | refine below_set ?_ GE164.out) | exact HB.out)) hb)
  clear BK163
  clear BK164
  clear HB
  have BK163 := n0_
  have BK164 := n1_
  have HB := n2_
  clear n0_ n1_ n2_
  (try clear hb)
  (try clear hb2)
  (try clear hk)
  (try clear hi)
  refine hK.out _ _ ⟨(blk_cell BK163.out 0).trans rfl, (blk_cell BK163.out 1).trans rfl, (blk_cell BK164.out 0).trans rfl, (blk_cell BK164.out 1).trans rfl⟩ (fun hHeld => ?_)
  clear hK K
  refine norm_ (a' := ?_) ?_ ?_
  rotate_left
  · show Act.put _ (some 6) _ = _
    simp only [Act.put, List.setIfInBounds_toArray, List.set_cons_zero, List.set_cons_succ, i64_w, i32_w]
    rfl
  refine one_ (i := 3) (N := some 8) #[true, true, true, true, false, false] rfl rfl (by kernel_rfl) (by decide) (fun K hK => ?_)
  refine goes_ Tryz.func85 (by kernel_rfl) rfl #[.agg #[.string a1_0, .string a1_1]] (by rfl) rfl rfl (by (try simp only [List.map_toArray, List.map_cons, List.map_nil]); first | done | rfl | (simp only [List.length_drop, List.length_take]; rfl)) ?_
  with_reducible refine (impl_ident.calls a1_0 a1_1 t167 t168 _ A4.out).mono ?_
  rintro e w10 ⟨rfl, hb⟩
  refine ⟨_, rfl, ?_⟩
  have n0_ := Aside0.mk (blk_below (g := gb163) (o := .cells #[.string a0_0, .string a0_1] 76 (0, 0)) (by (with_reducible repeat (first | refine blk_drewN ?_ _ | refine blk_drew ?_ | refine blk_alloc ?_ _)); exact BK163.out) hb)
  have n1_ := Aside0.mk (blk_below (g := gb164) (o := .cells #[.string a1_0, .string a1_1] 76 (0, 0)) (by (with_reducible repeat (first | refine blk_drewN ?_ _ | refine blk_drew ?_ | refine blk_alloc ?_ _)); exact BK164.out) hb)
  have n2_ := Aside0.mk (below_step (by repeat (first | (with_reducible first | exact HB.out | apply below_alloc | apply pw_below_drewN | apply below_drew1 | refine below_set ?_ GE163.out | refine below_set ?_ GE164.out) | exact HB.out)) hb)
  clear BK163
  clear BK164
  clear HB
  have BK163 := n0_
  have BK164 := n1_
  have HB := n2_
  clear n0_ n1_ n2_
  (try clear hb)
  (try clear hb2)
  (try clear hk)
  (try clear hi)
  refine hK.out _ _ ⟨(blk_cell BK163.out 0).trans rfl, (blk_cell BK163.out 1).trans rfl, (blk_cell BK164.out 0).trans rfl, (blk_cell BK164.out 1).trans rfl⟩ (fun hHeld => ?_)
  clear hK K
  refine norm_ (a' := ?_) ?_ ?_
  rotate_left
  · show Act.put _ (some 8) _ = _
    simp only [Act.put, List.setIfInBounds_toArray, List.set_cons_zero, List.set_cons_succ, i64_w, i32_w]
    rfl
  refine one_ (i := 4) (N := some 9) #[true, true, true, true, true, false] rfl rfl (by kernel_rfl) (by decide) (fun K hK => ?_)
  refine goes_ Tryz.func86 (by kernel_rfl) rfl #[.agg #[.string t165, .string t166], .agg #[.string t167, .string t168]] (by rfl) rfl rfl (by (try simp only [List.map_toArray, List.map_cons, List.map_nil]); first | done | rfl | (simp only [List.length_drop, List.length_take]; rfl)) ?_
  with_reducible refine (gps_ProjectIdentifier_Less.calls t165 t166 t167 t168 t169 _ A5.out).mono ?_
  rintro e w11 ⟨rfl, hb⟩
  refine ⟨_, rfl, ?_⟩
  have n0_ := Aside0.mk (blk_below (g := gb163) (o := .cells #[.string a0_0, .string a0_1] 76 (0, 0)) (by (with_reducible repeat (first | refine blk_drewN ?_ _ | refine blk_drew ?_ | refine blk_alloc ?_ _)); exact BK163.out) hb)
  have n1_ := Aside0.mk (blk_below (g := gb164) (o := .cells #[.string a1_0, .string a1_1] 76 (0, 0)) (by (with_reducible repeat (first | refine blk_drewN ?_ _ | refine blk_drew ?_ | refine blk_alloc ?_ _)); exact BK164.out) hb)
  have n2_ := Aside0.mk (below_step (by repeat (first | (with_reducible first | exact HB.out | apply below_alloc | apply pw_below_drewN | apply below_drew1 | refine below_set ?_ GE163.out | refine below_set ?_ GE164.out) | exact HB.out)) hb)
  clear BK163
  clear BK164
  clear HB
  have BK163 := n0_
  have BK164 := n1_
  have HB := n2_
  clear n0_ n1_ n2_
  (try clear hb)
  (try clear hb2)
  (try clear hk)
  (try clear hi)
  refine hK.out _ _ ⟨(blk_cell BK163.out 0).trans rfl, (blk_cell BK163.out 1).trans rfl, (blk_cell BK164.out 0).trans rfl, (blk_cell BK164.out 1).trans rfl⟩ (fun hHeld => ?_)
  clear hK K
  refine norm_ (a' := ?_) ?_ ?_
  rotate_left
  · show Act.put _ (some 9) _ = _
    simp only [Act.put, List.setIfInBounds_toArray, List.set_cons_zero, List.set_cons_succ, i64_w, i32_w]
    rfl
  refine pure_ (i := 5) (N := some 4) (v := ?_) (a' := ?_) #[true, true, true, true, true, true] rfl rfl (by kernel_rfl) (fun _ _ _ h => h) (Or.inl ⟨by rfl, ?_⟩) ?_ ?_
  rotate_left
  · intro w'
    go_simp
    with_reducible rfl
  rotate_left
  · simp only [Act.put, List.setIfInBounds_toArray, List.set_cons_zero, List.set_cons_succ, i64_w, i32_w]
    rfl
  refine done_ (by kernel_rfl) ?_
  try go_wp2
  go_ret
  exact ⟨by first | rfl | (simp [errW_none, errW_some] <;> rfl) | (simp [*, errW_none, errW_some] <;> rfl), by repeat (first | (with_reducible first | exact HB.out | apply below_alloc | apply pw_below_drewN | apply below_drew1 | refine below_set ?_ GE163.out | refine below_set ?_ GE164.out) | exact HB.out)⟩

end Go.Proofs.YtgoeiflddikihaaGreatDoor.PFnIdentLess
end
section
namespace Go.Proofs.YtgoeiflddikihaaGreatDoor.Ver
set_option linter.unusedSimpArgs false
set_option linter.unusedVariables false
open Go.Sort (grow)
open Go.Proofs.YtgoeiflddikihaaGreatDoor.Ord
open Go.RowKit Go.Proofs.YtgoeiflddikihaaGreatDoor.Dig Go.Proofs.YtgoeiflddikihaaGreatDoorW.PrintWords Go.Proofs.YtgoeiflddikihaaGreatDoor.Mem

theorem less3 (x y : List UInt8) : (Op.bytesLess x y = true ∧ (x == y) = false ∧ Op.bytesLess y x = false) ∨ (Op.bytesLess x y = false ∧ x = y ∧ Op.bytesLess y x = false) ∨ (Op.bytesLess x y = false ∧ (x == y) = false ∧ Op.bytesLess y x = true) := by
  have ha : bytesC y x = - bytesC x y := cmp_bytes.anti x y
  have h1 := bytesC_less x y
  have h2 := bytesC_less y x
  have hne : x = y → bytesC x y = 0 := by rintro rfl; omega
  have no : ∀ {b : Bool} {p : Prop}, (p ↔ b = true) → ¬ p → b = false := fun {b p} h hn => by cases b <;> simp_all
  by_cases c1 : bytesC x y < 0
  · exact Or.inl ⟨h1.1 c1, beq_eq_false_iff_ne.2 (fun h => by have := hne h; omega), no h2 (by omega)⟩
  · by_cases c2 : bytesC y x < 0
    · exact Or.inr (Or.inr ⟨no h1 c1, beq_eq_false_iff_ne.2 (fun h => by have := hne h; omega), h2.1 c2⟩)
    · exact Or.inr (Or.inl ⟨no h1 c1, bytesC_eq (by omega), no h2 c2⟩)
theorem less_irr (x : List UInt8) : Op.bytesLess x x = false := by
  rcases less3 x x with ⟨_, h, _⟩ | ⟨h, _, _⟩ | ⟨h, _, _⟩
  · simp at h
  · exact h
  · exact h
def srcI (r s : ByteArray) : ByteArray := if s.toList = [] then r else s
theorem src_f (r s : ByteArray) : PFnIdentLess.laws_identSource.f r s = some (srcI r s) := by
  unfold PFnIdentLess.laws_identSource.f srcI; split <;> rfl
theorem norm_f (r s : ByteArray) : PFnIdentLess.gps_ProjectIdentifier_normalizedSource.f r s = some (srcI r s) := by
  unfold PFnIdentLess.gps_ProjectIdentifier_normalizedSource.f srcI; split <;> rfl
/-- Roots ahead of sources. -/
def lessI (r s p q : ByteArray) : Bool := if Op.bytesLess r.toList p.toList = true then true else if Op.bytesLess p.toList r.toList = true then false else Op.bytesLess (srcI r s).toList (srcI p q).toList
theorem less_f (r s p q : ByteArray) : PFnIdentLess.impl_IdentLess.f r s p q = some (lessI r s p q) := by
  unfold PFnIdentLess.impl_IdentLess.f PFnIdentLess.impl_ident.f PFnIdentLess.gps_ProjectIdentifier_Less.f lessI
  simp only [norm_f, Option.bind_some]
  split
  · rfl
  · split <;> rfl
theorem lessI_irr (r s : ByteArray) : lessI r s r s = false := by
  unfold lessI; rw [if_neg (by rw [less_irr]; decide), if_neg (by rw [less_irr]; decide), less_irr]

set_option maxRecDepth 20000 in
set_option maxHeartbeats 4000000 in
theorem il_rest (r s p q : ByteArray) (w : World) (hv : Vars w) (z1 z2 p1 p2 : Bool) (hz : (z1 && z2 && p1 && p2) = false)
    (HZ1' : ∀ W, Calls Tryz.prog 46 #[.agg #[.string r, .string s]] W fun e w' => e = .returned (.bool z1) ∧ Below W.heap.size W w')
    (HZ2' : ∀ W, Calls Tryz.prog 46 #[.agg #[.string p, .string q]] W fun e w' => e = .returned (.bool z2) ∧ Below W.heap.size W w')
    (HP1' : ∀ W, Calls Tryz.prog 47 #[.agg #[.string r, .string s]] W fun e w' => e = .returned (.bool p1) ∧ Below W.heap.size W w')
    (HP2' : ∀ W, Calls Tryz.prog 47 #[.agg #[.string p, .string q]] W fun e w' => e = .returned (.bool p2) ∧ Below W.heap.size W w') :
    Calls Tryz.prog 13 #[.agg #[.string r, .string s], .agg #[.string p, .string q]] w fun e w' => e = .returned (.bool true) ∧ Below w.heap.size w w' := by
  have HA := Lib.hid (fun W hb => awake W (Vars.below (w := w) hv hb))
  have HZ1 := Lib.hid HZ1'
  have HZ2 := Lib.hid HZ2'
  have HP1 := Lib.hid HP1'
  have HP2 := Lib.hid HP2'
  clear HZ1' HZ2' HP1' HP2'
  have HM := Aside0.mk (Blks.start w)
  clear hv
  cases z1
  · clear HZ2 HP1 HP2 HA hz
    go_enter Tryz.func13, Tryz.ntmps13
    go_wp2_with (first
    | (go_at_call 46; (first | (with_reducible refine (HZ1.out _).mono ?_) | (with_reducible refine (HZ2.out _).mono ?_)); rintro e w1 ⟨rfl, hb⟩; have HN := Aside0.mk (Blks.call (by repeat (first | exact HM.out | apply Blks.drewN | apply Blks.drew | apply Blks.other)) hb); clear HM hb; have HM := HN; clear HN; try (have k0 := Blks.cell HM.out (o := 0) (List.Mem.head _) (by repeat (first | exact Rd.nil | apply Rd.here | apply Rd.skip)); have k1 := Blks.cell HM.out (o := 1) (List.Mem.head _) (by repeat (first | exact Rd.nil | apply Rd.here | apply Rd.skip)); have j0 := Blks.cell HM.out (o := 0) (List.Mem.tail _ (List.Mem.head _)) (by repeat (first | exact Rd.nil | apply Rd.here | apply Rd.skip)); have j1 := Blks.cell HM.out (o := 1) (List.Mem.tail _ (List.Mem.head _)) (by repeat (first | exact Rd.nil | apply Rd.here | apply Rd.skip))))
    | (go_at_call 47; (first | (with_reducible refine (HP1.out _).mono ?_) | (with_reducible refine (HP2.out _).mono ?_)); rintro e w2 ⟨rfl, hb⟩; have HN := Aside0.mk (Blks.call (by repeat (first | exact HM.out | apply Blks.drewN | apply Blks.drew | apply Blks.other)) hb); clear HM hb; have HM := HN; clear HN; try (have k0 := Blks.cell HM.out (o := 0) (List.Mem.head _) (by repeat (first | exact Rd.nil | apply Rd.here | apply Rd.skip)); have k1 := Blks.cell HM.out (o := 1) (List.Mem.head _) (by repeat (first | exact Rd.nil | apply Rd.here | apply Rd.skip)); have j0 := Blks.cell HM.out (o := 0) (List.Mem.tail _ (List.Mem.head _)) (by repeat (first | exact Rd.nil | apply Rd.here | apply Rd.skip)); have j1 := Blks.cell HM.out (o := 1) (List.Mem.tail _ (List.Mem.head _)) (by repeat (first | exact Rd.nil | apply Rd.here | apply Rd.skip))))
    | (go_at_call 25; ((with_reducible refine (HA.out _ (Blks.bel (by repeat (first | exact HM.out | apply Blks.drewN | apply Blks.drew | apply Blks.other)))).mono ?_); rintro e w3 ⟨rfl, hb⟩; have HN := Aside0.mk (Blks.call (by repeat (first | exact HM.out | apply Blks.drewN | apply Blks.drew | apply Blks.other)) hb); clear HM hb; have HM := HN; clear HN; try (have k0 := Blks.cell HM.out (o := 0) (List.Mem.head _) (by repeat (first | exact Rd.nil | apply Rd.here | apply Rd.skip)); have k1 := Blks.cell HM.out (o := 1) (List.Mem.head _) (by repeat (first | exact Rd.nil | apply Rd.here | apply Rd.skip)); have j0 := Blks.cell HM.out (o := 0) (List.Mem.tail _ (List.Mem.head _)) (by repeat (first | exact Rd.nil | apply Rd.here | apply Rd.skip)); have j1 := Blks.cell HM.out (o := 1) (List.Mem.tail _ (List.Mem.head _)) (by repeat (first | exact Rd.nil | apply Rd.here | apply Rd.skip)))))
    | (go_at_call 49; (first | (with_reducible refine (HL1.out _).mono ?_) | (with_reducible refine (HL2.out _).mono ?_) | (with_reducible refine (HL3.out _).mono ?_)); rintro e w4 ⟨rfl, hb⟩; have HN := Aside0.mk (Blks.call (by repeat (first | exact HM.out | apply Blks.drewN | apply Blks.drew | apply Blks.other)) hb); clear HM hb; have HM := HN; clear HN; try (have k0 := Blks.cell HM.out (o := 0) (List.Mem.head _) (by repeat (first | exact Rd.nil | apply Rd.here | apply Rd.skip)); have k1 := Blks.cell HM.out (o := 1) (List.Mem.head _) (by repeat (first | exact Rd.nil | apply Rd.here | apply Rd.skip)); have j0 := Blks.cell HM.out (o := 0) (List.Mem.tail _ (List.Mem.head _)) (by repeat (first | exact Rd.nil | apply Rd.here | apply Rd.skip)); have j1 := Blks.cell HM.out (o := 1) (List.Mem.tail _ (List.Mem.head _)) (by repeat (first | exact Rd.nil | apply Rd.here | apply Rd.skip))))
    | ((refine bk_box (by rfl) (by rfl) (by repeat (first | exact HM.out | apply Blks.drewN | apply Blks.drew | apply Blks.other)) (by rfl) ?_; intro bq _ HN; clear HM; have HM := Aside0.mk HN; clear HN); try (have k0 := Blks.cell HM.out (o := 0) (List.Mem.head _) (by repeat (first | exact Rd.nil | apply Rd.here | apply Rd.skip)); have k1 := Blks.cell HM.out (o := 1) (List.Mem.head _) (by repeat (first | exact Rd.nil | apply Rd.here | apply Rd.skip)); have j0 := Blks.cell HM.out (o := 0) (List.Mem.tail _ (List.Mem.head _)) (by repeat (first | exact Rd.nil | apply Rd.here | apply Rd.skip)); have j1 := Blks.cell HM.out (o := 1) (List.Mem.tail _ (List.Mem.head _)) (by repeat (first | exact Rd.nil | apply Rd.here | apply Rd.skip)))))
    go_ret
    exact ⟨rfl, HM.out.bel⟩
  · cases z2
    · clear HP1 HP2 HA hz
      go_enter Tryz.func13, Tryz.ntmps13
      go_wp2_with (first
    | (go_at_call 46; (first | (with_reducible refine (HZ1.out _).mono ?_) | (with_reducible refine (HZ2.out _).mono ?_)); rintro e w1 ⟨rfl, hb⟩; have HN := Aside0.mk (Blks.call (by repeat (first | exact HM.out | apply Blks.drewN | apply Blks.drew | apply Blks.other)) hb); clear HM hb; have HM := HN; clear HN; try (have k0 := Blks.cell HM.out (o := 0) (List.Mem.head _) (by repeat (first | exact Rd.nil | apply Rd.here | apply Rd.skip)); have k1 := Blks.cell HM.out (o := 1) (List.Mem.head _) (by repeat (first | exact Rd.nil | apply Rd.here | apply Rd.skip)); have j0 := Blks.cell HM.out (o := 0) (List.Mem.tail _ (List.Mem.head _)) (by repeat (first | exact Rd.nil | apply Rd.here | apply Rd.skip)); have j1 := Blks.cell HM.out (o := 1) (List.Mem.tail _ (List.Mem.head _)) (by repeat (first | exact Rd.nil | apply Rd.here | apply Rd.skip))))
    | (go_at_call 47; (first | (with_reducible refine (HP1.out _).mono ?_) | (with_reducible refine (HP2.out _).mono ?_)); rintro e w2 ⟨rfl, hb⟩; have HN := Aside0.mk (Blks.call (by repeat (first | exact HM.out | apply Blks.drewN | apply Blks.drew | apply Blks.other)) hb); clear HM hb; have HM := HN; clear HN; try (have k0 := Blks.cell HM.out (o := 0) (List.Mem.head _) (by repeat (first | exact Rd.nil | apply Rd.here | apply Rd.skip)); have k1 := Blks.cell HM.out (o := 1) (List.Mem.head _) (by repeat (first | exact Rd.nil | apply Rd.here | apply Rd.skip)); have j0 := Blks.cell HM.out (o := 0) (List.Mem.tail _ (List.Mem.head _)) (by repeat (first | exact Rd.nil | apply Rd.here | apply Rd.skip)); have j1 := Blks.cell HM.out (o := 1) (List.Mem.tail _ (List.Mem.head _)) (by repeat (first | exact Rd.nil | apply Rd.here | apply Rd.skip))))
    | (go_at_call 25; ((with_reducible refine (HA.out _ (Blks.bel (by repeat (first | exact HM.out | apply Blks.drewN | apply Blks.drew | apply Blks.other)))).mono ?_); rintro e w3 ⟨rfl, hb⟩; have HN := Aside0.mk (Blks.call (by repeat (first | exact HM.out | apply Blks.drewN | apply Blks.drew | apply Blks.other)) hb); clear HM hb; have HM := HN; clear HN; try (have k0 := Blks.cell HM.out (o := 0) (List.Mem.head _) (by repeat (first | exact Rd.nil | apply Rd.here | apply Rd.skip)); have k1 := Blks.cell HM.out (o := 1) (List.Mem.head _) (by repeat (first | exact Rd.nil | apply Rd.here | apply Rd.skip)); have j0 := Blks.cell HM.out (o := 0) (List.Mem.tail _ (List.Mem.head _)) (by repeat (first | exact Rd.nil | apply Rd.here | apply Rd.skip)); have j1 := Blks.cell HM.out (o := 1) (List.Mem.tail _ (List.Mem.head _)) (by repeat (first | exact Rd.nil | apply Rd.here | apply Rd.skip)))))
    | (go_at_call 49; (first | (with_reducible refine (HL1.out _).mono ?_) | (with_reducible refine (HL2.out _).mono ?_) | (with_reducible refine (HL3.out _).mono ?_)); rintro e w4 ⟨rfl, hb⟩; have HN := Aside0.mk (Blks.call (by repeat (first | exact HM.out | apply Blks.drewN | apply Blks.drew | apply Blks.other)) hb); clear HM hb; have HM := HN; clear HN; try (have k0 := Blks.cell HM.out (o := 0) (List.Mem.head _) (by repeat (first | exact Rd.nil | apply Rd.here | apply Rd.skip)); have k1 := Blks.cell HM.out (o := 1) (List.Mem.head _) (by repeat (first | exact Rd.nil | apply Rd.here | apply Rd.skip)); have j0 := Blks.cell HM.out (o := 0) (List.Mem.tail _ (List.Mem.head _)) (by repeat (first | exact Rd.nil | apply Rd.here | apply Rd.skip)); have j1 := Blks.cell HM.out (o := 1) (List.Mem.tail _ (List.Mem.head _)) (by repeat (first | exact Rd.nil | apply Rd.here | apply Rd.skip))))
    | ((refine bk_box (by rfl) (by rfl) (by repeat (first | exact HM.out | apply Blks.drewN | apply Blks.drew | apply Blks.other)) (by rfl) ?_; intro bq _ HN; clear HM; have HM := Aside0.mk HN; clear HN); try (have k0 := Blks.cell HM.out (o := 0) (List.Mem.head _) (by repeat (first | exact Rd.nil | apply Rd.here | apply Rd.skip)); have k1 := Blks.cell HM.out (o := 1) (List.Mem.head _) (by repeat (first | exact Rd.nil | apply Rd.here | apply Rd.skip)); have j0 := Blks.cell HM.out (o := 0) (List.Mem.tail _ (List.Mem.head _)) (by repeat (first | exact Rd.nil | apply Rd.here | apply Rd.skip)); have j1 := Blks.cell HM.out (o := 1) (List.Mem.tail _ (List.Mem.head _)) (by repeat (first | exact Rd.nil | apply Rd.here | apply Rd.skip)))))
      go_ret
      exact ⟨rfl, HM.out.bel⟩
    · cases p1
      · clear hz
        go_enter Tryz.func13, Tryz.ntmps13
        go_wp2_with (first
    | (go_at_call 46; (first | (with_reducible refine (HZ1.out _).mono ?_) | (with_reducible refine (HZ2.out _).mono ?_)); rintro e w1 ⟨rfl, hb⟩; have HN := Aside0.mk (Blks.call (by repeat (first | exact HM.out | apply Blks.drewN | apply Blks.drew | apply Blks.other)) hb); clear HM hb; have HM := HN; clear HN; try (have k0 := Blks.cell HM.out (o := 0) (List.Mem.head _) (by repeat (first | exact Rd.nil | apply Rd.here | apply Rd.skip)); have k1 := Blks.cell HM.out (o := 1) (List.Mem.head _) (by repeat (first | exact Rd.nil | apply Rd.here | apply Rd.skip)); have j0 := Blks.cell HM.out (o := 0) (List.Mem.tail _ (List.Mem.head _)) (by repeat (first | exact Rd.nil | apply Rd.here | apply Rd.skip)); have j1 := Blks.cell HM.out (o := 1) (List.Mem.tail _ (List.Mem.head _)) (by repeat (first | exact Rd.nil | apply Rd.here | apply Rd.skip))))
    | (go_at_call 47; (first | (with_reducible refine (HP1.out _).mono ?_) | (with_reducible refine (HP2.out _).mono ?_)); rintro e w2 ⟨rfl, hb⟩; have HN := Aside0.mk (Blks.call (by repeat (first | exact HM.out | apply Blks.drewN | apply Blks.drew | apply Blks.other)) hb); clear HM hb; have HM := HN; clear HN; try (have k0 := Blks.cell HM.out (o := 0) (List.Mem.head _) (by repeat (first | exact Rd.nil | apply Rd.here | apply Rd.skip)); have k1 := Blks.cell HM.out (o := 1) (List.Mem.head _) (by repeat (first | exact Rd.nil | apply Rd.here | apply Rd.skip)); have j0 := Blks.cell HM.out (o := 0) (List.Mem.tail _ (List.Mem.head _)) (by repeat (first | exact Rd.nil | apply Rd.here | apply Rd.skip)); have j1 := Blks.cell HM.out (o := 1) (List.Mem.tail _ (List.Mem.head _)) (by repeat (first | exact Rd.nil | apply Rd.here | apply Rd.skip))))
    | (go_at_call 25; ((with_reducible refine (HA.out _ (Blks.bel (by repeat (first | exact HM.out | apply Blks.drewN | apply Blks.drew | apply Blks.other)))).mono ?_); rintro e w3 ⟨rfl, hb⟩; have HN := Aside0.mk (Blks.call (by repeat (first | exact HM.out | apply Blks.drewN | apply Blks.drew | apply Blks.other)) hb); clear HM hb; have HM := HN; clear HN; try (have k0 := Blks.cell HM.out (o := 0) (List.Mem.head _) (by repeat (first | exact Rd.nil | apply Rd.here | apply Rd.skip)); have k1 := Blks.cell HM.out (o := 1) (List.Mem.head _) (by repeat (first | exact Rd.nil | apply Rd.here | apply Rd.skip)); have j0 := Blks.cell HM.out (o := 0) (List.Mem.tail _ (List.Mem.head _)) (by repeat (first | exact Rd.nil | apply Rd.here | apply Rd.skip)); have j1 := Blks.cell HM.out (o := 1) (List.Mem.tail _ (List.Mem.head _)) (by repeat (first | exact Rd.nil | apply Rd.here | apply Rd.skip)))))
    | (go_at_call 49; (first | (with_reducible refine (HL1.out _).mono ?_) | (with_reducible refine (HL2.out _).mono ?_) | (with_reducible refine (HL3.out _).mono ?_)); rintro e w4 ⟨rfl, hb⟩; have HN := Aside0.mk (Blks.call (by repeat (first | exact HM.out | apply Blks.drewN | apply Blks.drew | apply Blks.other)) hb); clear HM hb; have HM := HN; clear HN; try (have k0 := Blks.cell HM.out (o := 0) (List.Mem.head _) (by repeat (first | exact Rd.nil | apply Rd.here | apply Rd.skip)); have k1 := Blks.cell HM.out (o := 1) (List.Mem.head _) (by repeat (first | exact Rd.nil | apply Rd.here | apply Rd.skip)); have j0 := Blks.cell HM.out (o := 0) (List.Mem.tail _ (List.Mem.head _)) (by repeat (first | exact Rd.nil | apply Rd.here | apply Rd.skip)); have j1 := Blks.cell HM.out (o := 1) (List.Mem.tail _ (List.Mem.head _)) (by repeat (first | exact Rd.nil | apply Rd.here | apply Rd.skip))))
    | ((refine bk_box (by rfl) (by rfl) (by repeat (first | exact HM.out | apply Blks.drewN | apply Blks.drew | apply Blks.other)) (by rfl) ?_; intro bq _ HN; clear HM; have HM := Aside0.mk HN; clear HN); try (have k0 := Blks.cell HM.out (o := 0) (List.Mem.head _) (by repeat (first | exact Rd.nil | apply Rd.here | apply Rd.skip)); have k1 := Blks.cell HM.out (o := 1) (List.Mem.head _) (by repeat (first | exact Rd.nil | apply Rd.here | apply Rd.skip)); have j0 := Blks.cell HM.out (o := 0) (List.Mem.tail _ (List.Mem.head _)) (by repeat (first | exact Rd.nil | apply Rd.here | apply Rd.skip)); have j1 := Blks.cell HM.out (o := 1) (List.Mem.tail _ (List.Mem.head _)) (by repeat (first | exact Rd.nil | apply Rd.here | apply Rd.skip)))))
        go_ret
        exact ⟨rfl, HM.out.bel⟩
      · cases p2
        · clear hz
          go_enter Tryz.func13, Tryz.ntmps13
          go_wp2_with (first
    | (go_at_call 46; (first | (with_reducible refine (HZ1.out _).mono ?_) | (with_reducible refine (HZ2.out _).mono ?_)); rintro e w1 ⟨rfl, hb⟩; have HN := Aside0.mk (Blks.call (by repeat (first | exact HM.out | apply Blks.drewN | apply Blks.drew | apply Blks.other)) hb); clear HM hb; have HM := HN; clear HN; try (have k0 := Blks.cell HM.out (o := 0) (List.Mem.head _) (by repeat (first | exact Rd.nil | apply Rd.here | apply Rd.skip)); have k1 := Blks.cell HM.out (o := 1) (List.Mem.head _) (by repeat (first | exact Rd.nil | apply Rd.here | apply Rd.skip)); have j0 := Blks.cell HM.out (o := 0) (List.Mem.tail _ (List.Mem.head _)) (by repeat (first | exact Rd.nil | apply Rd.here | apply Rd.skip)); have j1 := Blks.cell HM.out (o := 1) (List.Mem.tail _ (List.Mem.head _)) (by repeat (first | exact Rd.nil | apply Rd.here | apply Rd.skip))))
    | (go_at_call 47; (first | (with_reducible refine (HP1.out _).mono ?_) | (with_reducible refine (HP2.out _).mono ?_)); rintro e w2 ⟨rfl, hb⟩; have HN := Aside0.mk (Blks.call (by repeat (first | exact HM.out | apply Blks.drewN | apply Blks.drew | apply Blks.other)) hb); clear HM hb; have HM := HN; clear HN; try (have k0 := Blks.cell HM.out (o := 0) (List.Mem.head _) (by repeat (first | exact Rd.nil | apply Rd.here | apply Rd.skip)); have k1 := Blks.cell HM.out (o := 1) (List.Mem.head _) (by repeat (first | exact Rd.nil | apply Rd.here | apply Rd.skip)); have j0 := Blks.cell HM.out (o := 0) (List.Mem.tail _ (List.Mem.head _)) (by repeat (first | exact Rd.nil | apply Rd.here | apply Rd.skip)); have j1 := Blks.cell HM.out (o := 1) (List.Mem.tail _ (List.Mem.head _)) (by repeat (first | exact Rd.nil | apply Rd.here | apply Rd.skip))))
    | (go_at_call 25; ((with_reducible refine (HA.out _ (Blks.bel (by repeat (first | exact HM.out | apply Blks.drewN | apply Blks.drew | apply Blks.other)))).mono ?_); rintro e w3 ⟨rfl, hb⟩; have HN := Aside0.mk (Blks.call (by repeat (first | exact HM.out | apply Blks.drewN | apply Blks.drew | apply Blks.other)) hb); clear HM hb; have HM := HN; clear HN; try (have k0 := Blks.cell HM.out (o := 0) (List.Mem.head _) (by repeat (first | exact Rd.nil | apply Rd.here | apply Rd.skip)); have k1 := Blks.cell HM.out (o := 1) (List.Mem.head _) (by repeat (first | exact Rd.nil | apply Rd.here | apply Rd.skip)); have j0 := Blks.cell HM.out (o := 0) (List.Mem.tail _ (List.Mem.head _)) (by repeat (first | exact Rd.nil | apply Rd.here | apply Rd.skip)); have j1 := Blks.cell HM.out (o := 1) (List.Mem.tail _ (List.Mem.head _)) (by repeat (first | exact Rd.nil | apply Rd.here | apply Rd.skip)))))
    | (go_at_call 49; (first | (with_reducible refine (HL1.out _).mono ?_) | (with_reducible refine (HL2.out _).mono ?_) | (with_reducible refine (HL3.out _).mono ?_)); rintro e w4 ⟨rfl, hb⟩; have HN := Aside0.mk (Blks.call (by repeat (first | exact HM.out | apply Blks.drewN | apply Blks.drew | apply Blks.other)) hb); clear HM hb; have HM := HN; clear HN; try (have k0 := Blks.cell HM.out (o := 0) (List.Mem.head _) (by repeat (first | exact Rd.nil | apply Rd.here | apply Rd.skip)); have k1 := Blks.cell HM.out (o := 1) (List.Mem.head _) (by repeat (first | exact Rd.nil | apply Rd.here | apply Rd.skip)); have j0 := Blks.cell HM.out (o := 0) (List.Mem.tail _ (List.Mem.head _)) (by repeat (first | exact Rd.nil | apply Rd.here | apply Rd.skip)); have j1 := Blks.cell HM.out (o := 1) (List.Mem.tail _ (List.Mem.head _)) (by repeat (first | exact Rd.nil | apply Rd.here | apply Rd.skip))))
    | ((refine bk_box (by rfl) (by rfl) (by repeat (first | exact HM.out | apply Blks.drewN | apply Blks.drew | apply Blks.other)) (by rfl) ?_; intro bq _ HN; clear HM; have HM := Aside0.mk HN; clear HN); try (have k0 := Blks.cell HM.out (o := 0) (List.Mem.head _) (by repeat (first | exact Rd.nil | apply Rd.here | apply Rd.skip)); have k1 := Blks.cell HM.out (o := 1) (List.Mem.head _) (by repeat (first | exact Rd.nil | apply Rd.here | apply Rd.skip)); have j0 := Blks.cell HM.out (o := 0) (List.Mem.tail _ (List.Mem.head _)) (by repeat (first | exact Rd.nil | apply Rd.here | apply Rd.skip)); have j1 := Blks.cell HM.out (o := 1) (List.Mem.tail _ (List.Mem.head _)) (by repeat (first | exact Rd.nil | apply Rd.here | apply Rd.skip)))))
          go_ret
          exact ⟨rfl, HM.out.bel⟩
        · exact absurd hz (by decide)

set_option maxRecDepth 20000 in
set_option maxHeartbeats 4000000 in
theorem il_l (r s p q : ByteArray) (w : World) (hv : Vars w) (l2 : Bool) (hl2 : (true && l2) = false)
    (HZ1' : ∀ W, Calls Tryz.prog 46 #[.agg #[.string r, .string s]] W fun e w' => e = .returned (.bool true) ∧ Below W.heap.size W w')
    (HZ2' : ∀ W, Calls Tryz.prog 46 #[.agg #[.string p, .string q]] W fun e w' => e = .returned (.bool true) ∧ Below W.heap.size W w')
    (HP1' : ∀ W, Calls Tryz.prog 47 #[.agg #[.string r, .string s]] W fun e w' => e = .returned (.bool true) ∧ Below W.heap.size W w')
    (HP2' : ∀ W, Calls Tryz.prog 47 #[.agg #[.string p, .string q]] W fun e w' => e = .returned (.bool true) ∧ Below W.heap.size W w')
    (HL1' : ∀ W, Calls Tryz.prog 49 #[.agg #[.string r, .string s], .agg #[.string p, .string q]] W fun e w' => e = .returned (.bool true) ∧ Below W.heap.size W w')
    (HL2' : ∀ W, Calls Tryz.prog 49 #[.agg #[.string p, .string q], .agg #[.string r, .string s]] W fun e w' => e = .returned (.bool l2) ∧ Below W.heap.size W w')
    (HL3' : ∀ W, Calls Tryz.prog 49 #[.agg #[.string r, .string s], .agg #[.string r, .string s]] W fun e w' => e = .returned (.bool false) ∧ Below W.heap.size W w')
    (HS1' : ∀ W, Calls Tryz.prog 48 #[.agg #[.string r, .string s]] W fun e w' => e = .returned (.string (srcI r s)) ∧ Below W.heap.size W w')
    (HS2' : ∀ W, Calls Tryz.prog 48 #[.agg #[.string p, .string q]] W fun e w' => e = .returned (.string (srcI p q)) ∧ Below W.heap.size W w')
    (h1 : Op.bytesLess r.toList p.toList = true) :
    Calls Tryz.prog 13 #[.agg #[.string r, .string s], .agg #[.string p, .string q]] w fun e w' => e = .returned (.bool true) ∧ Below w.heap.size w w' := by
  have HA := Lib.hid (fun W hb => awake W (Vars.below (w := w) hv hb))
  have HZ1 := Lib.hid HZ1'
  have HZ2 := Lib.hid HZ2'
  have HP1 := Lib.hid HP1'
  have HP2 := Lib.hid HP2'
  have HL1 := Lib.hid HL1'
  have HL2 := Lib.hid HL2'
  have HL3 := Lib.hid HL3'
  have HS1 := Lib.hid HS1'
  have HS2 := Lib.hid HS2'
  clear HZ1' HZ2' HP1' HP2' HL1' HL2' HL3' HS1' HS2'
  have HM := Aside0.mk (Blks.start w)
  clear hv
  cases l2
  rotate_left
  · exact absurd hl2 (by decide)
  clear hl2
  go_enter Tryz.func13, Tryz.ntmps13
  go_wp2_with (first
    | (go_at_call 46; (first | (with_reducible refine (HZ1.out _).mono ?_) | (with_reducible refine (HZ2.out _).mono ?_)); rintro e w1 ⟨rfl, hb⟩; have HN := Aside0.mk (Blks.call (by repeat (first | exact HM.out | apply Blks.drewN | apply Blks.drew | apply Blks.other)) hb); clear HM hb; have HM := HN; clear HN; try (have k0 := Blks.cell HM.out (o := 0) (List.Mem.head _) (by repeat (first | exact Rd.nil | apply Rd.here | apply Rd.skip)); have k1 := Blks.cell HM.out (o := 1) (List.Mem.head _) (by repeat (first | exact Rd.nil | apply Rd.here | apply Rd.skip)); have j0 := Blks.cell HM.out (o := 0) (List.Mem.tail _ (List.Mem.head _)) (by repeat (first | exact Rd.nil | apply Rd.here | apply Rd.skip)); have j1 := Blks.cell HM.out (o := 1) (List.Mem.tail _ (List.Mem.head _)) (by repeat (first | exact Rd.nil | apply Rd.here | apply Rd.skip))))
    | (go_at_call 47; (first | (with_reducible refine (HP1.out _).mono ?_) | (with_reducible refine (HP2.out _).mono ?_)); rintro e w2 ⟨rfl, hb⟩; have HN := Aside0.mk (Blks.call (by repeat (first | exact HM.out | apply Blks.drewN | apply Blks.drew | apply Blks.other)) hb); clear HM hb; have HM := HN; clear HN; try (have k0 := Blks.cell HM.out (o := 0) (List.Mem.head _) (by repeat (first | exact Rd.nil | apply Rd.here | apply Rd.skip)); have k1 := Blks.cell HM.out (o := 1) (List.Mem.head _) (by repeat (first | exact Rd.nil | apply Rd.here | apply Rd.skip)); have j0 := Blks.cell HM.out (o := 0) (List.Mem.tail _ (List.Mem.head _)) (by repeat (first | exact Rd.nil | apply Rd.here | apply Rd.skip)); have j1 := Blks.cell HM.out (o := 1) (List.Mem.tail _ (List.Mem.head _)) (by repeat (first | exact Rd.nil | apply Rd.here | apply Rd.skip))))
    | (go_at_call 25; ((with_reducible refine (HA.out _ (Blks.bel (by repeat (first | exact HM.out | apply Blks.drewN | apply Blks.drew | apply Blks.other)))).mono ?_); rintro e w3 ⟨rfl, hb⟩; have HN := Aside0.mk (Blks.call (by repeat (first | exact HM.out | apply Blks.drewN | apply Blks.drew | apply Blks.other)) hb); clear HM hb; have HM := HN; clear HN; try (have k0 := Blks.cell HM.out (o := 0) (List.Mem.head _) (by repeat (first | exact Rd.nil | apply Rd.here | apply Rd.skip)); have k1 := Blks.cell HM.out (o := 1) (List.Mem.head _) (by repeat (first | exact Rd.nil | apply Rd.here | apply Rd.skip)); have j0 := Blks.cell HM.out (o := 0) (List.Mem.tail _ (List.Mem.head _)) (by repeat (first | exact Rd.nil | apply Rd.here | apply Rd.skip)); have j1 := Blks.cell HM.out (o := 1) (List.Mem.tail _ (List.Mem.head _)) (by repeat (first | exact Rd.nil | apply Rd.here | apply Rd.skip)))))
    | (go_at_call 49; (first | (with_reducible refine (HL1.out _).mono ?_) | (with_reducible refine (HL2.out _).mono ?_) | (with_reducible refine (HL3.out _).mono ?_)); rintro e w4 ⟨rfl, hb⟩; have HN := Aside0.mk (Blks.call (by repeat (first | exact HM.out | apply Blks.drewN | apply Blks.drew | apply Blks.other)) hb); clear HM hb; have HM := HN; clear HN; try (have k0 := Blks.cell HM.out (o := 0) (List.Mem.head _) (by repeat (first | exact Rd.nil | apply Rd.here | apply Rd.skip)); have k1 := Blks.cell HM.out (o := 1) (List.Mem.head _) (by repeat (first | exact Rd.nil | apply Rd.here | apply Rd.skip)); have j0 := Blks.cell HM.out (o := 0) (List.Mem.tail _ (List.Mem.head _)) (by repeat (first | exact Rd.nil | apply Rd.here | apply Rd.skip)); have j1 := Blks.cell HM.out (o := 1) (List.Mem.tail _ (List.Mem.head _)) (by repeat (first | exact Rd.nil | apply Rd.here | apply Rd.skip))))
    | ((refine bk_box (by rfl) (by rfl) (by repeat (first | exact HM.out | apply Blks.drewN | apply Blks.drew | apply Blks.other)) (by rfl) ?_; intro bq _ HN; clear HM; have HM := Aside0.mk HN; clear HN); try (have k0 := Blks.cell HM.out (o := 0) (List.Mem.head _) (by repeat (first | exact Rd.nil | apply Rd.here | apply Rd.skip)); have k1 := Blks.cell HM.out (o := 1) (List.Mem.head _) (by repeat (first | exact Rd.nil | apply Rd.here | apply Rd.skip)); have j0 := Blks.cell HM.out (o := 0) (List.Mem.tail _ (List.Mem.head _)) (by repeat (first | exact Rd.nil | apply Rd.here | apply Rd.skip)); have j1 := Blks.cell HM.out (o := 1) (List.Mem.tail _ (List.Mem.head _)) (by repeat (first | exact Rd.nil | apply Rd.here | apply Rd.skip)))))
  have hr := Blks.cell HM.out (o := 0) (List.Mem.head _) (by repeat (first | exact Rd.nil | apply Rd.here | apply Rd.skip))
  have k0 := fun d os => cell_regrown (Blks.cell HM.out (o := 0) (List.Mem.head _) (by repeat (first | exact Rd.nil | apply Rd.here | apply Rd.skip))) d os
  have k1 := fun d os => cell_regrown (Blks.cell HM.out (o := 1) (List.Mem.head _) (by repeat (first | exact Rd.nil | apply Rd.here | apply Rd.skip))) d os
  have j0 := fun d os => cell_regrown (Blks.cell HM.out (o := 0) (List.Mem.tail _ (List.Mem.head _)) (by repeat (first | exact Rd.nil | apply Rd.here | apply Rd.skip))) d os
  have j1 := fun d os => cell_regrown (Blks.cell HM.out (o := 1) (List.Mem.tail _ (List.Mem.head _)) (by repeat (first | exact Rd.nil | apply Rd.here | apply Rd.skip))) d os
  clear hr
  have HSa := Lib.hid (fun d os => Calls.regrown_of (HS1.out (grow (redrawn w2 d) os)))
  have HSb := Lib.hid (fun d os => Calls.regrown_of (HS2.out (grow (redrawn w2 d) os)))
  refine wp_region_quiet_below (by kernel_rfl) (by kernel_rfl) ?_
  repeat (go_big_quiet_step (first | (with_reducible exact HSa.out _ _) | (with_reducible exact HSb.out _ _)))
  refine wpQuiet_nil ?_
  intro _ hw'
  obtain ⟨⟨dq, osq⟩, hw''⟩ := hw'
  subst hw''
  have HN := Aside0.mk (Blks.call HM.out (below_regrown w2 dq osq)); clear HM; have HM := HN; clear HN
  try (have k0 := Blks.cell HM.out (o := 0) (List.Mem.head _) (by repeat (first | exact Rd.nil | apply Rd.here | apply Rd.skip)); have k1 := Blks.cell HM.out (o := 1) (List.Mem.head _) (by repeat (first | exact Rd.nil | apply Rd.here | apply Rd.skip)); have j0 := Blks.cell HM.out (o := 0) (List.Mem.tail _ (List.Mem.head _)) (by repeat (first | exact Rd.nil | apply Rd.here | apply Rd.skip)); have j1 := Blks.cell HM.out (o := 1) (List.Mem.tail _ (List.Mem.head _)) (by repeat (first | exact Rd.nil | apply Rd.here | apply Rd.skip)))
  clear HSa HSb
  go_wp2_with (first
    | (go_at_call 46; (first | (with_reducible refine (HZ1.out _).mono ?_) | (with_reducible refine (HZ2.out _).mono ?_)); rintro e w1 ⟨rfl, hb⟩; have HN := Aside0.mk (Blks.call (by repeat (first | exact HM.out | apply Blks.drewN | apply Blks.drew | apply Blks.other)) hb); clear HM hb; have HM := HN; clear HN; try (have k0 := Blks.cell HM.out (o := 0) (List.Mem.head _) (by repeat (first | exact Rd.nil | apply Rd.here | apply Rd.skip)); have k1 := Blks.cell HM.out (o := 1) (List.Mem.head _) (by repeat (first | exact Rd.nil | apply Rd.here | apply Rd.skip)); have j0 := Blks.cell HM.out (o := 0) (List.Mem.tail _ (List.Mem.head _)) (by repeat (first | exact Rd.nil | apply Rd.here | apply Rd.skip)); have j1 := Blks.cell HM.out (o := 1) (List.Mem.tail _ (List.Mem.head _)) (by repeat (first | exact Rd.nil | apply Rd.here | apply Rd.skip))))
    | (go_at_call 47; (first | (with_reducible refine (HP1.out _).mono ?_) | (with_reducible refine (HP2.out _).mono ?_)); rintro e w2 ⟨rfl, hb⟩; have HN := Aside0.mk (Blks.call (by repeat (first | exact HM.out | apply Blks.drewN | apply Blks.drew | apply Blks.other)) hb); clear HM hb; have HM := HN; clear HN; try (have k0 := Blks.cell HM.out (o := 0) (List.Mem.head _) (by repeat (first | exact Rd.nil | apply Rd.here | apply Rd.skip)); have k1 := Blks.cell HM.out (o := 1) (List.Mem.head _) (by repeat (first | exact Rd.nil | apply Rd.here | apply Rd.skip)); have j0 := Blks.cell HM.out (o := 0) (List.Mem.tail _ (List.Mem.head _)) (by repeat (first | exact Rd.nil | apply Rd.here | apply Rd.skip)); have j1 := Blks.cell HM.out (o := 1) (List.Mem.tail _ (List.Mem.head _)) (by repeat (first | exact Rd.nil | apply Rd.here | apply Rd.skip))))
    | (go_at_call 25; ((with_reducible refine (HA.out _ (Blks.bel (by repeat (first | exact HM.out | apply Blks.drewN | apply Blks.drew | apply Blks.other)))).mono ?_); rintro e w3 ⟨rfl, hb⟩; have HN := Aside0.mk (Blks.call (by repeat (first | exact HM.out | apply Blks.drewN | apply Blks.drew | apply Blks.other)) hb); clear HM hb; have HM := HN; clear HN; try (have k0 := Blks.cell HM.out (o := 0) (List.Mem.head _) (by repeat (first | exact Rd.nil | apply Rd.here | apply Rd.skip)); have k1 := Blks.cell HM.out (o := 1) (List.Mem.head _) (by repeat (first | exact Rd.nil | apply Rd.here | apply Rd.skip)); have j0 := Blks.cell HM.out (o := 0) (List.Mem.tail _ (List.Mem.head _)) (by repeat (first | exact Rd.nil | apply Rd.here | apply Rd.skip)); have j1 := Blks.cell HM.out (o := 1) (List.Mem.tail _ (List.Mem.head _)) (by repeat (first | exact Rd.nil | apply Rd.here | apply Rd.skip)))))
    | (go_at_call 49; (first | (with_reducible refine (HL1.out _).mono ?_) | (with_reducible refine (HL2.out _).mono ?_) | (with_reducible refine (HL3.out _).mono ?_)); rintro e w4 ⟨rfl, hb⟩; have HN := Aside0.mk (Blks.call (by repeat (first | exact HM.out | apply Blks.drewN | apply Blks.drew | apply Blks.other)) hb); clear HM hb; have HM := HN; clear HN; try (have k0 := Blks.cell HM.out (o := 0) (List.Mem.head _) (by repeat (first | exact Rd.nil | apply Rd.here | apply Rd.skip)); have k1 := Blks.cell HM.out (o := 1) (List.Mem.head _) (by repeat (first | exact Rd.nil | apply Rd.here | apply Rd.skip)); have j0 := Blks.cell HM.out (o := 0) (List.Mem.tail _ (List.Mem.head _)) (by repeat (first | exact Rd.nil | apply Rd.here | apply Rd.skip)); have j1 := Blks.cell HM.out (o := 1) (List.Mem.tail _ (List.Mem.head _)) (by repeat (first | exact Rd.nil | apply Rd.here | apply Rd.skip))))
    | ((refine bk_box (by rfl) (by rfl) (by repeat (first | exact HM.out | apply Blks.drewN | apply Blks.drew | apply Blks.other)) (by rfl) ?_; intro bq _ HN; clear HM; have HM := Aside0.mk HN; clear HN); try (have k0 := Blks.cell HM.out (o := 0) (List.Mem.head _) (by repeat (first | exact Rd.nil | apply Rd.here | apply Rd.skip)); have k1 := Blks.cell HM.out (o := 1) (List.Mem.head _) (by repeat (first | exact Rd.nil | apply Rd.here | apply Rd.skip)); have j0 := Blks.cell HM.out (o := 0) (List.Mem.tail _ (List.Mem.head _)) (by repeat (first | exact Rd.nil | apply Rd.here | apply Rd.skip)); have j1 := Blks.cell HM.out (o := 1) (List.Mem.tail _ (List.Mem.head _)) (by repeat (first | exact Rd.nil | apply Rd.here | apply Rd.skip)))))
  go_ret
  exact ⟨rfl, Blks.bel (by repeat (first | exact HM.out | apply Blks.drewN | apply Blks.drew | apply Blks.other))⟩

set_option maxRecDepth 20000 in
set_option maxHeartbeats 4000000 in
theorem il_m (r s p q : ByteArray) (w : World) (hv : Vars w) (l2 : Bool) (hl2 : (true && l2) = false)
    (HZ1' : ∀ W, Calls Tryz.prog 46 #[.agg #[.string r, .string s]] W fun e w' => e = .returned (.bool true) ∧ Below W.heap.size W w')
    (HZ2' : ∀ W, Calls Tryz.prog 46 #[.agg #[.string p, .string q]] W fun e w' => e = .returned (.bool true) ∧ Below W.heap.size W w')
    (HP1' : ∀ W, Calls Tryz.prog 47 #[.agg #[.string r, .string s]] W fun e w' => e = .returned (.bool true) ∧ Below W.heap.size W w')
    (HP2' : ∀ W, Calls Tryz.prog 47 #[.agg #[.string p, .string q]] W fun e w' => e = .returned (.bool true) ∧ Below W.heap.size W w')
    (HL1' : ∀ W, Calls Tryz.prog 49 #[.agg #[.string r, .string s], .agg #[.string p, .string q]] W fun e w' => e = .returned (.bool true) ∧ Below W.heap.size W w')
    (HL2' : ∀ W, Calls Tryz.prog 49 #[.agg #[.string p, .string q], .agg #[.string r, .string s]] W fun e w' => e = .returned (.bool l2) ∧ Below W.heap.size W w')
    (HL3' : ∀ W, Calls Tryz.prog 49 #[.agg #[.string r, .string s], .agg #[.string r, .string s]] W fun e w' => e = .returned (.bool false) ∧ Below W.heap.size W w')
    (HS1' : ∀ W, Calls Tryz.prog 48 #[.agg #[.string r, .string s]] W fun e w' => e = .returned (.string (srcI r s)) ∧ Below W.heap.size W w')
    (HS2' : ∀ W, Calls Tryz.prog 48 #[.agg #[.string p, .string q]] W fun e w' => e = .returned (.string (srcI p q)) ∧ Below W.heap.size W w')
    (h1 : Op.bytesLess r.toList p.toList = false) (h2 : (r.toList == p.toList) = true) (h3 : Op.bytesLess (srcI r s).toList (srcI p q).toList = true) :
    Calls Tryz.prog 13 #[.agg #[.string r, .string s], .agg #[.string p, .string q]] w fun e w' => e = .returned (.bool true) ∧ Below w.heap.size w w' := by
  have HA := Lib.hid (fun W hb => awake W (Vars.below (w := w) hv hb))
  have HZ1 := Lib.hid HZ1'
  have HZ2 := Lib.hid HZ2'
  have HP1 := Lib.hid HP1'
  have HP2 := Lib.hid HP2'
  have HL1 := Lib.hid HL1'
  have HL2 := Lib.hid HL2'
  have HL3 := Lib.hid HL3'
  have HS1 := Lib.hid HS1'
  have HS2 := Lib.hid HS2'
  clear HZ1' HZ2' HP1' HP2' HL1' HL2' HL3' HS1' HS2'
  have HM := Aside0.mk (Blks.start w)
  clear hv
  cases l2
  rotate_left
  · exact absurd hl2 (by decide)
  clear hl2
  go_enter Tryz.func13, Tryz.ntmps13
  go_wp2_with (first
    | (go_at_call 46; (first | (with_reducible refine (HZ1.out _).mono ?_) | (with_reducible refine (HZ2.out _).mono ?_)); rintro e w1 ⟨rfl, hb⟩; have HN := Aside0.mk (Blks.call (by repeat (first | exact HM.out | apply Blks.drewN | apply Blks.drew | apply Blks.other)) hb); clear HM hb; have HM := HN; clear HN; try (have k0 := Blks.cell HM.out (o := 0) (List.Mem.head _) (by repeat (first | exact Rd.nil | apply Rd.here | apply Rd.skip)); have k1 := Blks.cell HM.out (o := 1) (List.Mem.head _) (by repeat (first | exact Rd.nil | apply Rd.here | apply Rd.skip)); have j0 := Blks.cell HM.out (o := 0) (List.Mem.tail _ (List.Mem.head _)) (by repeat (first | exact Rd.nil | apply Rd.here | apply Rd.skip)); have j1 := Blks.cell HM.out (o := 1) (List.Mem.tail _ (List.Mem.head _)) (by repeat (first | exact Rd.nil | apply Rd.here | apply Rd.skip))))
    | (go_at_call 47; (first | (with_reducible refine (HP1.out _).mono ?_) | (with_reducible refine (HP2.out _).mono ?_)); rintro e w2 ⟨rfl, hb⟩; have HN := Aside0.mk (Blks.call (by repeat (first | exact HM.out | apply Blks.drewN | apply Blks.drew | apply Blks.other)) hb); clear HM hb; have HM := HN; clear HN; try (have k0 := Blks.cell HM.out (o := 0) (List.Mem.head _) (by repeat (first | exact Rd.nil | apply Rd.here | apply Rd.skip)); have k1 := Blks.cell HM.out (o := 1) (List.Mem.head _) (by repeat (first | exact Rd.nil | apply Rd.here | apply Rd.skip)); have j0 := Blks.cell HM.out (o := 0) (List.Mem.tail _ (List.Mem.head _)) (by repeat (first | exact Rd.nil | apply Rd.here | apply Rd.skip)); have j1 := Blks.cell HM.out (o := 1) (List.Mem.tail _ (List.Mem.head _)) (by repeat (first | exact Rd.nil | apply Rd.here | apply Rd.skip))))
    | (go_at_call 25; ((with_reducible refine (HA.out _ (Blks.bel (by repeat (first | exact HM.out | apply Blks.drewN | apply Blks.drew | apply Blks.other)))).mono ?_); rintro e w3 ⟨rfl, hb⟩; have HN := Aside0.mk (Blks.call (by repeat (first | exact HM.out | apply Blks.drewN | apply Blks.drew | apply Blks.other)) hb); clear HM hb; have HM := HN; clear HN; try (have k0 := Blks.cell HM.out (o := 0) (List.Mem.head _) (by repeat (first | exact Rd.nil | apply Rd.here | apply Rd.skip)); have k1 := Blks.cell HM.out (o := 1) (List.Mem.head _) (by repeat (first | exact Rd.nil | apply Rd.here | apply Rd.skip)); have j0 := Blks.cell HM.out (o := 0) (List.Mem.tail _ (List.Mem.head _)) (by repeat (first | exact Rd.nil | apply Rd.here | apply Rd.skip)); have j1 := Blks.cell HM.out (o := 1) (List.Mem.tail _ (List.Mem.head _)) (by repeat (first | exact Rd.nil | apply Rd.here | apply Rd.skip)))))
    | (go_at_call 49; (first | (with_reducible refine (HL1.out _).mono ?_) | (with_reducible refine (HL2.out _).mono ?_) | (with_reducible refine (HL3.out _).mono ?_)); rintro e w4 ⟨rfl, hb⟩; have HN := Aside0.mk (Blks.call (by repeat (first | exact HM.out | apply Blks.drewN | apply Blks.drew | apply Blks.other)) hb); clear HM hb; have HM := HN; clear HN; try (have k0 := Blks.cell HM.out (o := 0) (List.Mem.head _) (by repeat (first | exact Rd.nil | apply Rd.here | apply Rd.skip)); have k1 := Blks.cell HM.out (o := 1) (List.Mem.head _) (by repeat (first | exact Rd.nil | apply Rd.here | apply Rd.skip)); have j0 := Blks.cell HM.out (o := 0) (List.Mem.tail _ (List.Mem.head _)) (by repeat (first | exact Rd.nil | apply Rd.here | apply Rd.skip)); have j1 := Blks.cell HM.out (o := 1) (List.Mem.tail _ (List.Mem.head _)) (by repeat (first | exact Rd.nil | apply Rd.here | apply Rd.skip))))
    | ((refine bk_box (by rfl) (by rfl) (by repeat (first | exact HM.out | apply Blks.drewN | apply Blks.drew | apply Blks.other)) (by rfl) ?_; intro bq _ HN; clear HM; have HM := Aside0.mk HN; clear HN); try (have k0 := Blks.cell HM.out (o := 0) (List.Mem.head _) (by repeat (first | exact Rd.nil | apply Rd.here | apply Rd.skip)); have k1 := Blks.cell HM.out (o := 1) (List.Mem.head _) (by repeat (first | exact Rd.nil | apply Rd.here | apply Rd.skip)); have j0 := Blks.cell HM.out (o := 0) (List.Mem.tail _ (List.Mem.head _)) (by repeat (first | exact Rd.nil | apply Rd.here | apply Rd.skip)); have j1 := Blks.cell HM.out (o := 1) (List.Mem.tail _ (List.Mem.head _)) (by repeat (first | exact Rd.nil | apply Rd.here | apply Rd.skip)))))
  have hr := Blks.cell HM.out (o := 0) (List.Mem.head _) (by repeat (first | exact Rd.nil | apply Rd.here | apply Rd.skip))
  have k0 := fun d os => cell_regrown (Blks.cell HM.out (o := 0) (List.Mem.head _) (by repeat (first | exact Rd.nil | apply Rd.here | apply Rd.skip))) d os
  have k1 := fun d os => cell_regrown (Blks.cell HM.out (o := 1) (List.Mem.head _) (by repeat (first | exact Rd.nil | apply Rd.here | apply Rd.skip))) d os
  have j0 := fun d os => cell_regrown (Blks.cell HM.out (o := 0) (List.Mem.tail _ (List.Mem.head _)) (by repeat (first | exact Rd.nil | apply Rd.here | apply Rd.skip))) d os
  have j1 := fun d os => cell_regrown (Blks.cell HM.out (o := 1) (List.Mem.tail _ (List.Mem.head _)) (by repeat (first | exact Rd.nil | apply Rd.here | apply Rd.skip))) d os
  clear hr
  have HSa := Lib.hid (fun d os => Calls.regrown_of (HS1.out (grow (redrawn w2 d) os)))
  have HSb := Lib.hid (fun d os => Calls.regrown_of (HS2.out (grow (redrawn w2 d) os)))
  refine wp_region_quiet_below (by kernel_rfl) (by kernel_rfl) ?_
  repeat (go_big_quiet_step (first | (with_reducible exact HSa.out _ _) | (with_reducible exact HSb.out _ _)))
  refine wpQuiet_nil ?_
  intro _ hw'
  obtain ⟨⟨dq, osq⟩, hw''⟩ := hw'
  subst hw''
  have HN := Aside0.mk (Blks.call HM.out (below_regrown w2 dq osq)); clear HM; have HM := HN; clear HN
  try (have k0 := Blks.cell HM.out (o := 0) (List.Mem.head _) (by repeat (first | exact Rd.nil | apply Rd.here | apply Rd.skip)); have k1 := Blks.cell HM.out (o := 1) (List.Mem.head _) (by repeat (first | exact Rd.nil | apply Rd.here | apply Rd.skip)); have j0 := Blks.cell HM.out (o := 0) (List.Mem.tail _ (List.Mem.head _)) (by repeat (first | exact Rd.nil | apply Rd.here | apply Rd.skip)); have j1 := Blks.cell HM.out (o := 1) (List.Mem.tail _ (List.Mem.head _)) (by repeat (first | exact Rd.nil | apply Rd.here | apply Rd.skip)))
  clear HSa HSb
  go_wp2_with (first
    | (go_at_call 46; (first | (with_reducible refine (HZ1.out _).mono ?_) | (with_reducible refine (HZ2.out _).mono ?_)); rintro e w1 ⟨rfl, hb⟩; have HN := Aside0.mk (Blks.call (by repeat (first | exact HM.out | apply Blks.drewN | apply Blks.drew | apply Blks.other)) hb); clear HM hb; have HM := HN; clear HN; try (have k0 := Blks.cell HM.out (o := 0) (List.Mem.head _) (by repeat (first | exact Rd.nil | apply Rd.here | apply Rd.skip)); have k1 := Blks.cell HM.out (o := 1) (List.Mem.head _) (by repeat (first | exact Rd.nil | apply Rd.here | apply Rd.skip)); have j0 := Blks.cell HM.out (o := 0) (List.Mem.tail _ (List.Mem.head _)) (by repeat (first | exact Rd.nil | apply Rd.here | apply Rd.skip)); have j1 := Blks.cell HM.out (o := 1) (List.Mem.tail _ (List.Mem.head _)) (by repeat (first | exact Rd.nil | apply Rd.here | apply Rd.skip))))
    | (go_at_call 47; (first | (with_reducible refine (HP1.out _).mono ?_) | (with_reducible refine (HP2.out _).mono ?_)); rintro e w2 ⟨rfl, hb⟩; have HN := Aside0.mk (Blks.call (by repeat (first | exact HM.out | apply Blks.drewN | apply Blks.drew | apply Blks.other)) hb); clear HM hb; have HM := HN; clear HN; try (have k0 := Blks.cell HM.out (o := 0) (List.Mem.head _) (by repeat (first | exact Rd.nil | apply Rd.here | apply Rd.skip)); have k1 := Blks.cell HM.out (o := 1) (List.Mem.head _) (by repeat (first | exact Rd.nil | apply Rd.here | apply Rd.skip)); have j0 := Blks.cell HM.out (o := 0) (List.Mem.tail _ (List.Mem.head _)) (by repeat (first | exact Rd.nil | apply Rd.here | apply Rd.skip)); have j1 := Blks.cell HM.out (o := 1) (List.Mem.tail _ (List.Mem.head _)) (by repeat (first | exact Rd.nil | apply Rd.here | apply Rd.skip))))
    | (go_at_call 25; ((with_reducible refine (HA.out _ (Blks.bel (by repeat (first | exact HM.out | apply Blks.drewN | apply Blks.drew | apply Blks.other)))).mono ?_); rintro e w3 ⟨rfl, hb⟩; have HN := Aside0.mk (Blks.call (by repeat (first | exact HM.out | apply Blks.drewN | apply Blks.drew | apply Blks.other)) hb); clear HM hb; have HM := HN; clear HN; try (have k0 := Blks.cell HM.out (o := 0) (List.Mem.head _) (by repeat (first | exact Rd.nil | apply Rd.here | apply Rd.skip)); have k1 := Blks.cell HM.out (o := 1) (List.Mem.head _) (by repeat (first | exact Rd.nil | apply Rd.here | apply Rd.skip)); have j0 := Blks.cell HM.out (o := 0) (List.Mem.tail _ (List.Mem.head _)) (by repeat (first | exact Rd.nil | apply Rd.here | apply Rd.skip)); have j1 := Blks.cell HM.out (o := 1) (List.Mem.tail _ (List.Mem.head _)) (by repeat (first | exact Rd.nil | apply Rd.here | apply Rd.skip)))))
    | (go_at_call 49; (first | (with_reducible refine (HL1.out _).mono ?_) | (with_reducible refine (HL2.out _).mono ?_) | (with_reducible refine (HL3.out _).mono ?_)); rintro e w4 ⟨rfl, hb⟩; have HN := Aside0.mk (Blks.call (by repeat (first | exact HM.out | apply Blks.drewN | apply Blks.drew | apply Blks.other)) hb); clear HM hb; have HM := HN; clear HN; try (have k0 := Blks.cell HM.out (o := 0) (List.Mem.head _) (by repeat (first | exact Rd.nil | apply Rd.here | apply Rd.skip)); have k1 := Blks.cell HM.out (o := 1) (List.Mem.head _) (by repeat (first | exact Rd.nil | apply Rd.here | apply Rd.skip)); have j0 := Blks.cell HM.out (o := 0) (List.Mem.tail _ (List.Mem.head _)) (by repeat (first | exact Rd.nil | apply Rd.here | apply Rd.skip)); have j1 := Blks.cell HM.out (o := 1) (List.Mem.tail _ (List.Mem.head _)) (by repeat (first | exact Rd.nil | apply Rd.here | apply Rd.skip))))
    | ((refine bk_box (by rfl) (by rfl) (by repeat (first | exact HM.out | apply Blks.drewN | apply Blks.drew | apply Blks.other)) (by rfl) ?_; intro bq _ HN; clear HM; have HM := Aside0.mk HN; clear HN); try (have k0 := Blks.cell HM.out (o := 0) (List.Mem.head _) (by repeat (first | exact Rd.nil | apply Rd.here | apply Rd.skip)); have k1 := Blks.cell HM.out (o := 1) (List.Mem.head _) (by repeat (first | exact Rd.nil | apply Rd.here | apply Rd.skip)); have j0 := Blks.cell HM.out (o := 0) (List.Mem.tail _ (List.Mem.head _)) (by repeat (first | exact Rd.nil | apply Rd.here | apply Rd.skip)); have j1 := Blks.cell HM.out (o := 1) (List.Mem.tail _ (List.Mem.head _)) (by repeat (first | exact Rd.nil | apply Rd.here | apply Rd.skip)))))
  go_ret
  exact ⟨rfl, Blks.bel (by repeat (first | exact HM.out | apply Blks.drewN | apply Blks.drew | apply Blks.other))⟩

set_option maxRecDepth 20000 in
set_option maxHeartbeats 4000000 in
theorem il_n (r s p q : ByteArray) (w : World) (hv : Vars w) (l2 : Bool) (hl2 : (false && l2) = false)
    (HZ1' : ∀ W, Calls Tryz.prog 46 #[.agg #[.string r, .string s]] W fun e w' => e = .returned (.bool true) ∧ Below W.heap.size W w')
    (HZ2' : ∀ W, Calls Tryz.prog 46 #[.agg #[.string p, .string q]] W fun e w' => e = .returned (.bool true) ∧ Below W.heap.size W w')
    (HP1' : ∀ W, Calls Tryz.prog 47 #[.agg #[.string r, .string s]] W fun e w' => e = .returned (.bool true) ∧ Below W.heap.size W w')
    (HP2' : ∀ W, Calls Tryz.prog 47 #[.agg #[.string p, .string q]] W fun e w' => e = .returned (.bool true) ∧ Below W.heap.size W w')
    (HL1' : ∀ W, Calls Tryz.prog 49 #[.agg #[.string r, .string s], .agg #[.string p, .string q]] W fun e w' => e = .returned (.bool false) ∧ Below W.heap.size W w')
    (HL2' : ∀ W, Calls Tryz.prog 49 #[.agg #[.string p, .string q], .agg #[.string r, .string s]] W fun e w' => e = .returned (.bool l2) ∧ Below W.heap.size W w')
    (HL3' : ∀ W, Calls Tryz.prog 49 #[.agg #[.string r, .string s], .agg #[.string r, .string s]] W fun e w' => e = .returned (.bool false) ∧ Below W.heap.size W w')
    (HS1' : ∀ W, Calls Tryz.prog 48 #[.agg #[.string r, .string s]] W fun e w' => e = .returned (.string (srcI r s)) ∧ Below W.heap.size W w')
    (HS2' : ∀ W, Calls Tryz.prog 48 #[.agg #[.string p, .string q]] W fun e w' => e = .returned (.string (srcI p q)) ∧ Below W.heap.size W w')
    (h1 : Op.bytesLess r.toList p.toList = false) (h2 : (r.toList == p.toList) = true) (h3 : Op.bytesLess (srcI r s).toList (srcI p q).toList = false) :
    Calls Tryz.prog 13 #[.agg #[.string r, .string s], .agg #[.string p, .string q]] w fun e w' => e = .returned (.bool true) ∧ Below w.heap.size w w' := by
  have HA := Lib.hid (fun W hb => awake W (Vars.below (w := w) hv hb))
  have HZ1 := Lib.hid HZ1'
  have HZ2 := Lib.hid HZ2'
  have HP1 := Lib.hid HP1'
  have HP2 := Lib.hid HP2'
  have HL1 := Lib.hid HL1'
  have HL2 := Lib.hid HL2'
  have HL3 := Lib.hid HL3'
  have HS1 := Lib.hid HS1'
  have HS2 := Lib.hid HS2'
  clear HZ1' HZ2' HP1' HP2' HL1' HL2' HL3' HS1' HS2'
  have HM := Aside0.mk (Blks.start w)
  clear hv
  clear hl2
  go_enter Tryz.func13, Tryz.ntmps13
  go_wp2_with (first
    | (go_at_call 46; (first | (with_reducible refine (HZ1.out _).mono ?_) | (with_reducible refine (HZ2.out _).mono ?_)); rintro e w1 ⟨rfl, hb⟩; have HN := Aside0.mk (Blks.call (by repeat (first | exact HM.out | apply Blks.drewN | apply Blks.drew | apply Blks.other)) hb); clear HM hb; have HM := HN; clear HN; try (have k0 := Blks.cell HM.out (o := 0) (List.Mem.head _) (by repeat (first | exact Rd.nil | apply Rd.here | apply Rd.skip)); have k1 := Blks.cell HM.out (o := 1) (List.Mem.head _) (by repeat (first | exact Rd.nil | apply Rd.here | apply Rd.skip)); have j0 := Blks.cell HM.out (o := 0) (List.Mem.tail _ (List.Mem.head _)) (by repeat (first | exact Rd.nil | apply Rd.here | apply Rd.skip)); have j1 := Blks.cell HM.out (o := 1) (List.Mem.tail _ (List.Mem.head _)) (by repeat (first | exact Rd.nil | apply Rd.here | apply Rd.skip))))
    | (go_at_call 47; (first | (with_reducible refine (HP1.out _).mono ?_) | (with_reducible refine (HP2.out _).mono ?_)); rintro e w2 ⟨rfl, hb⟩; have HN := Aside0.mk (Blks.call (by repeat (first | exact HM.out | apply Blks.drewN | apply Blks.drew | apply Blks.other)) hb); clear HM hb; have HM := HN; clear HN; try (have k0 := Blks.cell HM.out (o := 0) (List.Mem.head _) (by repeat (first | exact Rd.nil | apply Rd.here | apply Rd.skip)); have k1 := Blks.cell HM.out (o := 1) (List.Mem.head _) (by repeat (first | exact Rd.nil | apply Rd.here | apply Rd.skip)); have j0 := Blks.cell HM.out (o := 0) (List.Mem.tail _ (List.Mem.head _)) (by repeat (first | exact Rd.nil | apply Rd.here | apply Rd.skip)); have j1 := Blks.cell HM.out (o := 1) (List.Mem.tail _ (List.Mem.head _)) (by repeat (first | exact Rd.nil | apply Rd.here | apply Rd.skip))))
    | (go_at_call 25; ((with_reducible refine (HA.out _ (Blks.bel (by repeat (first | exact HM.out | apply Blks.drewN | apply Blks.drew | apply Blks.other)))).mono ?_); rintro e w3 ⟨rfl, hb⟩; have HN := Aside0.mk (Blks.call (by repeat (first | exact HM.out | apply Blks.drewN | apply Blks.drew | apply Blks.other)) hb); clear HM hb; have HM := HN; clear HN; try (have k0 := Blks.cell HM.out (o := 0) (List.Mem.head _) (by repeat (first | exact Rd.nil | apply Rd.here | apply Rd.skip)); have k1 := Blks.cell HM.out (o := 1) (List.Mem.head _) (by repeat (first | exact Rd.nil | apply Rd.here | apply Rd.skip)); have j0 := Blks.cell HM.out (o := 0) (List.Mem.tail _ (List.Mem.head _)) (by repeat (first | exact Rd.nil | apply Rd.here | apply Rd.skip)); have j1 := Blks.cell HM.out (o := 1) (List.Mem.tail _ (List.Mem.head _)) (by repeat (first | exact Rd.nil | apply Rd.here | apply Rd.skip)))))
    | (go_at_call 49; (first | (with_reducible refine (HL1.out _).mono ?_) | (with_reducible refine (HL2.out _).mono ?_) | (with_reducible refine (HL3.out _).mono ?_)); rintro e w4 ⟨rfl, hb⟩; have HN := Aside0.mk (Blks.call (by repeat (first | exact HM.out | apply Blks.drewN | apply Blks.drew | apply Blks.other)) hb); clear HM hb; have HM := HN; clear HN; try (have k0 := Blks.cell HM.out (o := 0) (List.Mem.head _) (by repeat (first | exact Rd.nil | apply Rd.here | apply Rd.skip)); have k1 := Blks.cell HM.out (o := 1) (List.Mem.head _) (by repeat (first | exact Rd.nil | apply Rd.here | apply Rd.skip)); have j0 := Blks.cell HM.out (o := 0) (List.Mem.tail _ (List.Mem.head _)) (by repeat (first | exact Rd.nil | apply Rd.here | apply Rd.skip)); have j1 := Blks.cell HM.out (o := 1) (List.Mem.tail _ (List.Mem.head _)) (by repeat (first | exact Rd.nil | apply Rd.here | apply Rd.skip))))
    | ((refine bk_box (by rfl) (by rfl) (by repeat (first | exact HM.out | apply Blks.drewN | apply Blks.drew | apply Blks.other)) (by rfl) ?_; intro bq _ HN; clear HM; have HM := Aside0.mk HN; clear HN); try (have k0 := Blks.cell HM.out (o := 0) (List.Mem.head _) (by repeat (first | exact Rd.nil | apply Rd.here | apply Rd.skip)); have k1 := Blks.cell HM.out (o := 1) (List.Mem.head _) (by repeat (first | exact Rd.nil | apply Rd.here | apply Rd.skip)); have j0 := Blks.cell HM.out (o := 0) (List.Mem.tail _ (List.Mem.head _)) (by repeat (first | exact Rd.nil | apply Rd.here | apply Rd.skip)); have j1 := Blks.cell HM.out (o := 1) (List.Mem.tail _ (List.Mem.head _)) (by repeat (first | exact Rd.nil | apply Rd.here | apply Rd.skip)))))
  have hr := Blks.cell HM.out (o := 0) (List.Mem.head _) (by repeat (first | exact Rd.nil | apply Rd.here | apply Rd.skip))
  have k0 := fun d os => cell_regrown (Blks.cell HM.out (o := 0) (List.Mem.head _) (by repeat (first | exact Rd.nil | apply Rd.here | apply Rd.skip))) d os
  have k1 := fun d os => cell_regrown (Blks.cell HM.out (o := 1) (List.Mem.head _) (by repeat (first | exact Rd.nil | apply Rd.here | apply Rd.skip))) d os
  have j0 := fun d os => cell_regrown (Blks.cell HM.out (o := 0) (List.Mem.tail _ (List.Mem.head _)) (by repeat (first | exact Rd.nil | apply Rd.here | apply Rd.skip))) d os
  have j1 := fun d os => cell_regrown (Blks.cell HM.out (o := 1) (List.Mem.tail _ (List.Mem.head _)) (by repeat (first | exact Rd.nil | apply Rd.here | apply Rd.skip))) d os
  clear hr
  have HSa := Lib.hid (fun d os => Calls.regrown_of (HS1.out (grow (redrawn w2 d) os)))
  have HSb := Lib.hid (fun d os => Calls.regrown_of (HS2.out (grow (redrawn w2 d) os)))
  refine wp_region_quiet_below (by kernel_rfl) (by kernel_rfl) ?_
  repeat (go_big_quiet_step (first | (with_reducible exact HSa.out _ _) | (with_reducible exact HSb.out _ _)))
  refine wpQuiet_nil ?_
  intro _ hw'
  obtain ⟨⟨dq, osq⟩, hw''⟩ := hw'
  subst hw''
  have HN := Aside0.mk (Blks.call HM.out (below_regrown w2 dq osq)); clear HM; have HM := HN; clear HN
  try (have k0 := Blks.cell HM.out (o := 0) (List.Mem.head _) (by repeat (first | exact Rd.nil | apply Rd.here | apply Rd.skip)); have k1 := Blks.cell HM.out (o := 1) (List.Mem.head _) (by repeat (first | exact Rd.nil | apply Rd.here | apply Rd.skip)); have j0 := Blks.cell HM.out (o := 0) (List.Mem.tail _ (List.Mem.head _)) (by repeat (first | exact Rd.nil | apply Rd.here | apply Rd.skip)); have j1 := Blks.cell HM.out (o := 1) (List.Mem.tail _ (List.Mem.head _)) (by repeat (first | exact Rd.nil | apply Rd.here | apply Rd.skip)))
  clear HSa HSb
  go_wp2_with (first
    | (go_at_call 46; (first | (with_reducible refine (HZ1.out _).mono ?_) | (with_reducible refine (HZ2.out _).mono ?_)); rintro e w1 ⟨rfl, hb⟩; have HN := Aside0.mk (Blks.call (by repeat (first | exact HM.out | apply Blks.drewN | apply Blks.drew | apply Blks.other)) hb); clear HM hb; have HM := HN; clear HN; try (have k0 := Blks.cell HM.out (o := 0) (List.Mem.head _) (by repeat (first | exact Rd.nil | apply Rd.here | apply Rd.skip)); have k1 := Blks.cell HM.out (o := 1) (List.Mem.head _) (by repeat (first | exact Rd.nil | apply Rd.here | apply Rd.skip)); have j0 := Blks.cell HM.out (o := 0) (List.Mem.tail _ (List.Mem.head _)) (by repeat (first | exact Rd.nil | apply Rd.here | apply Rd.skip)); have j1 := Blks.cell HM.out (o := 1) (List.Mem.tail _ (List.Mem.head _)) (by repeat (first | exact Rd.nil | apply Rd.here | apply Rd.skip))))
    | (go_at_call 47; (first | (with_reducible refine (HP1.out _).mono ?_) | (with_reducible refine (HP2.out _).mono ?_)); rintro e w2 ⟨rfl, hb⟩; have HN := Aside0.mk (Blks.call (by repeat (first | exact HM.out | apply Blks.drewN | apply Blks.drew | apply Blks.other)) hb); clear HM hb; have HM := HN; clear HN; try (have k0 := Blks.cell HM.out (o := 0) (List.Mem.head _) (by repeat (first | exact Rd.nil | apply Rd.here | apply Rd.skip)); have k1 := Blks.cell HM.out (o := 1) (List.Mem.head _) (by repeat (first | exact Rd.nil | apply Rd.here | apply Rd.skip)); have j0 := Blks.cell HM.out (o := 0) (List.Mem.tail _ (List.Mem.head _)) (by repeat (first | exact Rd.nil | apply Rd.here | apply Rd.skip)); have j1 := Blks.cell HM.out (o := 1) (List.Mem.tail _ (List.Mem.head _)) (by repeat (first | exact Rd.nil | apply Rd.here | apply Rd.skip))))
    | (go_at_call 25; ((with_reducible refine (HA.out _ (Blks.bel (by repeat (first | exact HM.out | apply Blks.drewN | apply Blks.drew | apply Blks.other)))).mono ?_); rintro e w3 ⟨rfl, hb⟩; have HN := Aside0.mk (Blks.call (by repeat (first | exact HM.out | apply Blks.drewN | apply Blks.drew | apply Blks.other)) hb); clear HM hb; have HM := HN; clear HN; try (have k0 := Blks.cell HM.out (o := 0) (List.Mem.head _) (by repeat (first | exact Rd.nil | apply Rd.here | apply Rd.skip)); have k1 := Blks.cell HM.out (o := 1) (List.Mem.head _) (by repeat (first | exact Rd.nil | apply Rd.here | apply Rd.skip)); have j0 := Blks.cell HM.out (o := 0) (List.Mem.tail _ (List.Mem.head _)) (by repeat (first | exact Rd.nil | apply Rd.here | apply Rd.skip)); have j1 := Blks.cell HM.out (o := 1) (List.Mem.tail _ (List.Mem.head _)) (by repeat (first | exact Rd.nil | apply Rd.here | apply Rd.skip)))))
    | (go_at_call 49; (first | (with_reducible refine (HL1.out _).mono ?_) | (with_reducible refine (HL2.out _).mono ?_) | (with_reducible refine (HL3.out _).mono ?_)); rintro e w4 ⟨rfl, hb⟩; have HN := Aside0.mk (Blks.call (by repeat (first | exact HM.out | apply Blks.drewN | apply Blks.drew | apply Blks.other)) hb); clear HM hb; have HM := HN; clear HN; try (have k0 := Blks.cell HM.out (o := 0) (List.Mem.head _) (by repeat (first | exact Rd.nil | apply Rd.here | apply Rd.skip)); have k1 := Blks.cell HM.out (o := 1) (List.Mem.head _) (by repeat (first | exact Rd.nil | apply Rd.here | apply Rd.skip)); have j0 := Blks.cell HM.out (o := 0) (List.Mem.tail _ (List.Mem.head _)) (by repeat (first | exact Rd.nil | apply Rd.here | apply Rd.skip)); have j1 := Blks.cell HM.out (o := 1) (List.Mem.tail _ (List.Mem.head _)) (by repeat (first | exact Rd.nil | apply Rd.here | apply Rd.skip))))
    | ((refine bk_box (by rfl) (by rfl) (by repeat (first | exact HM.out | apply Blks.drewN | apply Blks.drew | apply Blks.other)) (by rfl) ?_; intro bq _ HN; clear HM; have HM := Aside0.mk HN; clear HN); try (have k0 := Blks.cell HM.out (o := 0) (List.Mem.head _) (by repeat (first | exact Rd.nil | apply Rd.here | apply Rd.skip)); have k1 := Blks.cell HM.out (o := 1) (List.Mem.head _) (by repeat (first | exact Rd.nil | apply Rd.here | apply Rd.skip)); have j0 := Blks.cell HM.out (o := 0) (List.Mem.tail _ (List.Mem.head _)) (by repeat (first | exact Rd.nil | apply Rd.here | apply Rd.skip)); have j1 := Blks.cell HM.out (o := 1) (List.Mem.tail _ (List.Mem.head _)) (by repeat (first | exact Rd.nil | apply Rd.here | apply Rd.skip)))))
  go_ret
  exact ⟨rfl, Blks.bel (by repeat (first | exact HM.out | apply Blks.drewN | apply Blks.drew | apply Blks.other))⟩

set_option maxRecDepth 20000 in
set_option maxHeartbeats 4000000 in
theorem il_g (r s p q : ByteArray) (w : World) (hv : Vars w) (l2 : Bool) (hl2 : (false && l2) = false)
    (HZ1' : ∀ W, Calls Tryz.prog 46 #[.agg #[.string r, .string s]] W fun e w' => e = .returned (.bool true) ∧ Below W.heap.size W w')
    (HZ2' : ∀ W, Calls Tryz.prog 46 #[.agg #[.string p, .string q]] W fun e w' => e = .returned (.bool true) ∧ Below W.heap.size W w')
    (HP1' : ∀ W, Calls Tryz.prog 47 #[.agg #[.string r, .string s]] W fun e w' => e = .returned (.bool true) ∧ Below W.heap.size W w')
    (HP2' : ∀ W, Calls Tryz.prog 47 #[.agg #[.string p, .string q]] W fun e w' => e = .returned (.bool true) ∧ Below W.heap.size W w')
    (HL1' : ∀ W, Calls Tryz.prog 49 #[.agg #[.string r, .string s], .agg #[.string p, .string q]] W fun e w' => e = .returned (.bool false) ∧ Below W.heap.size W w')
    (HL2' : ∀ W, Calls Tryz.prog 49 #[.agg #[.string p, .string q], .agg #[.string r, .string s]] W fun e w' => e = .returned (.bool l2) ∧ Below W.heap.size W w')
    (HL3' : ∀ W, Calls Tryz.prog 49 #[.agg #[.string r, .string s], .agg #[.string r, .string s]] W fun e w' => e = .returned (.bool false) ∧ Below W.heap.size W w')
    (HS1' : ∀ W, Calls Tryz.prog 48 #[.agg #[.string r, .string s]] W fun e w' => e = .returned (.string (srcI r s)) ∧ Below W.heap.size W w')
    (HS2' : ∀ W, Calls Tryz.prog 48 #[.agg #[.string p, .string q]] W fun e w' => e = .returned (.string (srcI p q)) ∧ Below W.heap.size W w')
    (h1 : Op.bytesLess r.toList p.toList = false) (h2 : (r.toList == p.toList) = false) :
    Calls Tryz.prog 13 #[.agg #[.string r, .string s], .agg #[.string p, .string q]] w fun e w' => e = .returned (.bool true) ∧ Below w.heap.size w w' := by
  have HA := Lib.hid (fun W hb => awake W (Vars.below (w := w) hv hb))
  have HZ1 := Lib.hid HZ1'
  have HZ2 := Lib.hid HZ2'
  have HP1 := Lib.hid HP1'
  have HP2 := Lib.hid HP2'
  have HL1 := Lib.hid HL1'
  have HL2 := Lib.hid HL2'
  have HL3 := Lib.hid HL3'
  have HS1 := Lib.hid HS1'
  have HS2 := Lib.hid HS2'
  clear HZ1' HZ2' HP1' HP2' HL1' HL2' HL3' HS1' HS2'
  have HM := Aside0.mk (Blks.start w)
  clear hv
  clear hl2
  go_enter Tryz.func13, Tryz.ntmps13
  go_wp2_with (first
    | (go_at_call 46; (first | (with_reducible refine (HZ1.out _).mono ?_) | (with_reducible refine (HZ2.out _).mono ?_)); rintro e w1 ⟨rfl, hb⟩; have HN := Aside0.mk (Blks.call (by repeat (first | exact HM.out | apply Blks.drewN | apply Blks.drew | apply Blks.other)) hb); clear HM hb; have HM := HN; clear HN; try (have k0 := Blks.cell HM.out (o := 0) (List.Mem.head _) (by repeat (first | exact Rd.nil | apply Rd.here | apply Rd.skip)); have k1 := Blks.cell HM.out (o := 1) (List.Mem.head _) (by repeat (first | exact Rd.nil | apply Rd.here | apply Rd.skip)); have j0 := Blks.cell HM.out (o := 0) (List.Mem.tail _ (List.Mem.head _)) (by repeat (first | exact Rd.nil | apply Rd.here | apply Rd.skip)); have j1 := Blks.cell HM.out (o := 1) (List.Mem.tail _ (List.Mem.head _)) (by repeat (first | exact Rd.nil | apply Rd.here | apply Rd.skip))))
    | (go_at_call 47; (first | (with_reducible refine (HP1.out _).mono ?_) | (with_reducible refine (HP2.out _).mono ?_)); rintro e w2 ⟨rfl, hb⟩; have HN := Aside0.mk (Blks.call (by repeat (first | exact HM.out | apply Blks.drewN | apply Blks.drew | apply Blks.other)) hb); clear HM hb; have HM := HN; clear HN; try (have k0 := Blks.cell HM.out (o := 0) (List.Mem.head _) (by repeat (first | exact Rd.nil | apply Rd.here | apply Rd.skip)); have k1 := Blks.cell HM.out (o := 1) (List.Mem.head _) (by repeat (first | exact Rd.nil | apply Rd.here | apply Rd.skip)); have j0 := Blks.cell HM.out (o := 0) (List.Mem.tail _ (List.Mem.head _)) (by repeat (first | exact Rd.nil | apply Rd.here | apply Rd.skip)); have j1 := Blks.cell HM.out (o := 1) (List.Mem.tail _ (List.Mem.head _)) (by repeat (first | exact Rd.nil | apply Rd.here | apply Rd.skip))))
    | (go_at_call 25; ((with_reducible refine (HA.out _ (Blks.bel (by repeat (first | exact HM.out | apply Blks.drewN | apply Blks.drew | apply Blks.other)))).mono ?_); rintro e w3 ⟨rfl, hb⟩; have HN := Aside0.mk (Blks.call (by repeat (first | exact HM.out | apply Blks.drewN | apply Blks.drew | apply Blks.other)) hb); clear HM hb; have HM := HN; clear HN; try (have k0 := Blks.cell HM.out (o := 0) (List.Mem.head _) (by repeat (first | exact Rd.nil | apply Rd.here | apply Rd.skip)); have k1 := Blks.cell HM.out (o := 1) (List.Mem.head _) (by repeat (first | exact Rd.nil | apply Rd.here | apply Rd.skip)); have j0 := Blks.cell HM.out (o := 0) (List.Mem.tail _ (List.Mem.head _)) (by repeat (first | exact Rd.nil | apply Rd.here | apply Rd.skip)); have j1 := Blks.cell HM.out (o := 1) (List.Mem.tail _ (List.Mem.head _)) (by repeat (first | exact Rd.nil | apply Rd.here | apply Rd.skip)))))
    | (go_at_call 49; (first | (with_reducible refine (HL1.out _).mono ?_) | (with_reducible refine (HL2.out _).mono ?_) | (with_reducible refine (HL3.out _).mono ?_)); rintro e w4 ⟨rfl, hb⟩; have HN := Aside0.mk (Blks.call (by repeat (first | exact HM.out | apply Blks.drewN | apply Blks.drew | apply Blks.other)) hb); clear HM hb; have HM := HN; clear HN; try (have k0 := Blks.cell HM.out (o := 0) (List.Mem.head _) (by repeat (first | exact Rd.nil | apply Rd.here | apply Rd.skip)); have k1 := Blks.cell HM.out (o := 1) (List.Mem.head _) (by repeat (first | exact Rd.nil | apply Rd.here | apply Rd.skip)); have j0 := Blks.cell HM.out (o := 0) (List.Mem.tail _ (List.Mem.head _)) (by repeat (first | exact Rd.nil | apply Rd.here | apply Rd.skip)); have j1 := Blks.cell HM.out (o := 1) (List.Mem.tail _ (List.Mem.head _)) (by repeat (first | exact Rd.nil | apply Rd.here | apply Rd.skip))))
    | ((refine bk_box (by rfl) (by rfl) (by repeat (first | exact HM.out | apply Blks.drewN | apply Blks.drew | apply Blks.other)) (by rfl) ?_; intro bq _ HN; clear HM; have HM := Aside0.mk HN; clear HN); try (have k0 := Blks.cell HM.out (o := 0) (List.Mem.head _) (by repeat (first | exact Rd.nil | apply Rd.here | apply Rd.skip)); have k1 := Blks.cell HM.out (o := 1) (List.Mem.head _) (by repeat (first | exact Rd.nil | apply Rd.here | apply Rd.skip)); have j0 := Blks.cell HM.out (o := 0) (List.Mem.tail _ (List.Mem.head _)) (by repeat (first | exact Rd.nil | apply Rd.here | apply Rd.skip)); have j1 := Blks.cell HM.out (o := 1) (List.Mem.tail _ (List.Mem.head _)) (by repeat (first | exact Rd.nil | apply Rd.here | apply Rd.skip)))))
  have hr := Blks.cell HM.out (o := 0) (List.Mem.head _) (by repeat (first | exact Rd.nil | apply Rd.here | apply Rd.skip))
  have k0 := fun d os => cell_regrown (Blks.cell HM.out (o := 0) (List.Mem.head _) (by repeat (first | exact Rd.nil | apply Rd.here | apply Rd.skip))) d os
  have k1 := fun d os => cell_regrown (Blks.cell HM.out (o := 1) (List.Mem.head _) (by repeat (first | exact Rd.nil | apply Rd.here | apply Rd.skip))) d os
  have j0 := fun d os => cell_regrown (Blks.cell HM.out (o := 0) (List.Mem.tail _ (List.Mem.head _)) (by repeat (first | exact Rd.nil | apply Rd.here | apply Rd.skip))) d os
  have j1 := fun d os => cell_regrown (Blks.cell HM.out (o := 1) (List.Mem.tail _ (List.Mem.head _)) (by repeat (first | exact Rd.nil | apply Rd.here | apply Rd.skip))) d os
  clear hr
  have HSa := Lib.hid (fun d os => Calls.regrown_of (HS1.out (grow (redrawn w2 d) os)))
  have HSb := Lib.hid (fun d os => Calls.regrown_of (HS2.out (grow (redrawn w2 d) os)))
  refine wp_region_quiet_below (by kernel_rfl) (by kernel_rfl) ?_
  repeat (go_big_quiet_step (first | (with_reducible exact HSa.out _ _) | (with_reducible exact HSb.out _ _)))
  refine wpQuiet_nil ?_
  intro _ hw'
  obtain ⟨⟨dq, osq⟩, hw''⟩ := hw'
  subst hw''
  have HN := Aside0.mk (Blks.call HM.out (below_regrown w2 dq osq)); clear HM; have HM := HN; clear HN
  try (have k0 := Blks.cell HM.out (o := 0) (List.Mem.head _) (by repeat (first | exact Rd.nil | apply Rd.here | apply Rd.skip)); have k1 := Blks.cell HM.out (o := 1) (List.Mem.head _) (by repeat (first | exact Rd.nil | apply Rd.here | apply Rd.skip)); have j0 := Blks.cell HM.out (o := 0) (List.Mem.tail _ (List.Mem.head _)) (by repeat (first | exact Rd.nil | apply Rd.here | apply Rd.skip)); have j1 := Blks.cell HM.out (o := 1) (List.Mem.tail _ (List.Mem.head _)) (by repeat (first | exact Rd.nil | apply Rd.here | apply Rd.skip)))
  clear HSa HSb
  go_wp2_with (first
    | (go_at_call 46; (first | (with_reducible refine (HZ1.out _).mono ?_) | (with_reducible refine (HZ2.out _).mono ?_)); rintro e w1 ⟨rfl, hb⟩; have HN := Aside0.mk (Blks.call (by repeat (first | exact HM.out | apply Blks.drewN | apply Blks.drew | apply Blks.other)) hb); clear HM hb; have HM := HN; clear HN; try (have k0 := Blks.cell HM.out (o := 0) (List.Mem.head _) (by repeat (first | exact Rd.nil | apply Rd.here | apply Rd.skip)); have k1 := Blks.cell HM.out (o := 1) (List.Mem.head _) (by repeat (first | exact Rd.nil | apply Rd.here | apply Rd.skip)); have j0 := Blks.cell HM.out (o := 0) (List.Mem.tail _ (List.Mem.head _)) (by repeat (first | exact Rd.nil | apply Rd.here | apply Rd.skip)); have j1 := Blks.cell HM.out (o := 1) (List.Mem.tail _ (List.Mem.head _)) (by repeat (first | exact Rd.nil | apply Rd.here | apply Rd.skip))))
    | (go_at_call 47; (first | (with_reducible refine (HP1.out _).mono ?_) | (with_reducible refine (HP2.out _).mono ?_)); rintro e w2 ⟨rfl, hb⟩; have HN := Aside0.mk (Blks.call (by repeat (first | exact HM.out | apply Blks.drewN | apply Blks.drew | apply Blks.other)) hb); clear HM hb; have HM := HN; clear HN; try (have k0 := Blks.cell HM.out (o := 0) (List.Mem.head _) (by repeat (first | exact Rd.nil | apply Rd.here | apply Rd.skip)); have k1 := Blks.cell HM.out (o := 1) (List.Mem.head _) (by repeat (first | exact Rd.nil | apply Rd.here | apply Rd.skip)); have j0 := Blks.cell HM.out (o := 0) (List.Mem.tail _ (List.Mem.head _)) (by repeat (first | exact Rd.nil | apply Rd.here | apply Rd.skip)); have j1 := Blks.cell HM.out (o := 1) (List.Mem.tail _ (List.Mem.head _)) (by repeat (first | exact Rd.nil | apply Rd.here | apply Rd.skip))))
    | (go_at_call 25; ((with_reducible refine (HA.out _ (Blks.bel (by repeat (first | exact HM.out | apply Blks.drewN | apply Blks.drew | apply Blks.other)))).mono ?_); rintro e w3 ⟨rfl, hb⟩; have HN := Aside0.mk (Blks.call (by repeat (first | exact HM.out | apply Blks.drewN | apply Blks.drew | apply Blks.other)) hb); clear HM hb; have HM := HN; clear HN; try (have k0 := Blks.cell HM.out (o := 0) (List.Mem.head _) (by repeat (first | exact Rd.nil | apply Rd.here | apply Rd.skip)); have k1 := Blks.cell HM.out (o := 1) (List.Mem.head _) (by repeat (first | exact Rd.nil | apply Rd.here | apply Rd.skip)); have j0 := Blks.cell HM.out (o := 0) (List.Mem.tail _ (List.Mem.head _)) (by repeat (first | exact Rd.nil | apply Rd.here | apply Rd.skip)); have j1 := Blks.cell HM.out (o := 1) (List.Mem.tail _ (List.Mem.head _)) (by repeat (first | exact Rd.nil | apply Rd.here | apply Rd.skip)))))
    | (go_at_call 49; (first | (with_reducible refine (HL1.out _).mono ?_) | (with_reducible refine (HL2.out _).mono ?_) | (with_reducible refine (HL3.out _).mono ?_)); rintro e w4 ⟨rfl, hb⟩; have HN := Aside0.mk (Blks.call (by repeat (first | exact HM.out | apply Blks.drewN | apply Blks.drew | apply Blks.other)) hb); clear HM hb; have HM := HN; clear HN; try (have k0 := Blks.cell HM.out (o := 0) (List.Mem.head _) (by repeat (first | exact Rd.nil | apply Rd.here | apply Rd.skip)); have k1 := Blks.cell HM.out (o := 1) (List.Mem.head _) (by repeat (first | exact Rd.nil | apply Rd.here | apply Rd.skip)); have j0 := Blks.cell HM.out (o := 0) (List.Mem.tail _ (List.Mem.head _)) (by repeat (first | exact Rd.nil | apply Rd.here | apply Rd.skip)); have j1 := Blks.cell HM.out (o := 1) (List.Mem.tail _ (List.Mem.head _)) (by repeat (first | exact Rd.nil | apply Rd.here | apply Rd.skip))))
    | ((refine bk_box (by rfl) (by rfl) (by repeat (first | exact HM.out | apply Blks.drewN | apply Blks.drew | apply Blks.other)) (by rfl) ?_; intro bq _ HN; clear HM; have HM := Aside0.mk HN; clear HN); try (have k0 := Blks.cell HM.out (o := 0) (List.Mem.head _) (by repeat (first | exact Rd.nil | apply Rd.here | apply Rd.skip)); have k1 := Blks.cell HM.out (o := 1) (List.Mem.head _) (by repeat (first | exact Rd.nil | apply Rd.here | apply Rd.skip)); have j0 := Blks.cell HM.out (o := 0) (List.Mem.tail _ (List.Mem.head _)) (by repeat (first | exact Rd.nil | apply Rd.here | apply Rd.skip)); have j1 := Blks.cell HM.out (o := 1) (List.Mem.tail _ (List.Mem.head _)) (by repeat (first | exact Rd.nil | apply Rd.here | apply Rd.skip)))))
  go_ret
  exact ⟨rfl, Blks.bel (by repeat (first | exact HM.out | apply Blks.drewN | apply Blks.drew | apply Blks.other))⟩

theorem identLess_law (r s p q : ByteArray) (w : World) (_g1 : r.size ≤ maxLen ∧ s.size ≤ maxLen) (_g2 : p.size ≤ maxLen ∧ q.size ≤ maxLen) (hv : Vars w) :
    Calls Tryz.prog 13 #[.agg #[.string r, .string s], .agg #[.string p, .string q]] w fun e w' => e = .returned (.bool true) ∧ Below w.heap.size w w' := by
  have fit : ∀ r s : ByteArray, ∃ z : Bool, ∀ W, Calls Tryz.prog 46 #[.agg #[.string r, .string s]] W fun e w' => e = .returned (.bool z) ∧ Below W.heap.size W w' := fun r s =>
    ⟨_, fun W => PFnIdentLess.laws_zzFits5.calls r s (decide (r.size ≤ 2147483647 ∧ s.size ≤ 2147483647)) W (by
      unfold PFnIdentLess.laws_zzFits5.f
      by_cases h1 : (r.size : Int) > 2147483647
      · rw [if_pos h1, decide_eq_false (by omega)]
      · by_cases h2 : (s.size : Int) > 2147483647
        · rw [if_neg h1, if_pos h2, decide_eq_false (by omega)]
        · rw [if_neg h1, if_neg h2, decide_eq_true (by omega)])⟩
  have pla : ∀ r s : ByteArray, ∃ z : Bool, ∀ W, Calls Tryz.prog 47 #[.agg #[.string r, .string s]] W fun e w' => e = .returned (.bool z) ∧ Below W.heap.size W w' := fun r s =>
    ⟨_, fun W => PFnIdentLess.laws_identPlain.calls r s (decide (r.size ≤ 60 ∧ s.size ≤ 60)) W (by
      unfold PFnIdentLess.laws_identPlain.f
      by_cases h1 : (r.size : Int) ≤ 60
      · by_cases h2 : (s.size : Int) ≤ 60
        · rw [if_pos h1, decide_eq_true h2, decide_eq_true (by omega)]
        · rw [if_pos h1, decide_eq_false h2, decide_eq_false (by omega)]
      · rw [if_neg h1, decide_eq_false (by omega)])⟩
  obtain ⟨z1, HZ1⟩ := fit r s
  obtain ⟨z2, HZ2⟩ := fit p q
  obtain ⟨p1, HP1⟩ := pla r s
  obtain ⟨p2, HP2⟩ := pla p q
  clear fit pla
  by_cases hz : (z1 && z2 && p1 && p2) = true
  · simp only [Bool.and_eq_true] at hz
    obtain ⟨⟨⟨rfl, rfl⟩, rfl⟩, rfl⟩ := hz
    have HL : ∀ (r s p q : ByteArray) W, Calls Tryz.prog 49 #[.agg #[.string r, .string s], .agg #[.string p, .string q]] W fun e w' => e = .returned (.bool (lessI r s p q)) ∧ Below W.heap.size W w' :=
      fun r s p q W => PFnIdentLess.impl_IdentLess.calls r s p q _ W (less_f r s p q)
    have HS : ∀ (r s : ByteArray) W, Calls Tryz.prog 48 #[.agg #[.string r, .string s]] W fun e w' => e = .returned (.string (srcI r s)) ∧ Below W.heap.size W w' :=
      fun r s W => PFnIdentLess.laws_identSource.calls r s _ W (src_f r s)
    have HL3 := HL r s r s
    rw [lessI_irr] at HL3
    have HL1 := HL r s p q
    have HL2 := HL p q r s
    rcases less3 r.toList p.toList with ⟨a, b, c⟩ | ⟨a, b, c⟩ | ⟨a, b, c⟩
    · rw [show lessI r s p q = true from by unfold lessI; rw [if_pos a]] at HL1
      exact il_l r s p q w hv _ (by show (true && lessI p q r s) = false; unfold lessI; rw [if_neg (by rw [c]; decide), if_pos a]; rfl) HZ1 HZ2 HP1 HP2 HL1 HL2 HL3 (HS r s) (HS p q) a
    · have e : lessI r s p q = Op.bytesLess (srcI r s).toList (srcI p q).toList := by unfold lessI; rw [if_neg (by rw [a]; decide), if_neg (by rw [c]; decide)]
      have e2 : lessI p q r s = Op.bytesLess (srcI p q).toList (srcI r s).toList := by unfold lessI; rw [if_neg (by rw [c]; decide), if_neg (by rw [a]; decide)]
      rcases less3 (srcI r s).toList (srcI p q).toList with ⟨x, y, z⟩ | ⟨x, y, z⟩ | ⟨x, y, z⟩
      · rw [e, x] at HL1
        exact il_m r s p q w hv _ (by rw [e2, z]; rfl) HZ1 HZ2 HP1 HP2 HL1 HL2 HL3 (HS r s) (HS p q) a (beq_iff_eq.2 b) x
      · rw [e, x] at HL1
        exact il_n r s p q w hv _ rfl HZ1 HZ2 HP1 HP2 HL1 HL2 HL3 (HS r s) (HS p q) a (beq_iff_eq.2 b) x
      · rw [e, x] at HL1
        exact il_n r s p q w hv _ rfl HZ1 HZ2 HP1 HP2 HL1 HL2 HL3 (HS r s) (HS p q) a (beq_iff_eq.2 b) x
    · rw [show lessI r s p q = false from by unfold lessI; rw [if_neg (by rw [a]; decide), if_pos c]] at HL1
      exact il_g r s p q w hv _ rfl HZ1 HZ2 HP1 HP2 HL1 HL2 HL3 (HS r s) (HS p q) a b
  · exact il_rest r s p q w hv z1 z2 p1 p2 (by simpa using hz) HZ1 HZ2 HP1 HP2
end Go.Proofs.YtgoeiflddikihaaGreatDoor.Ver
end
