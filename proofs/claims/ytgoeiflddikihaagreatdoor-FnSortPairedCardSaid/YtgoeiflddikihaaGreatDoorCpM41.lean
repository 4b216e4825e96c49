/- Merged by program out of: SpecC. -/
import Derived.Test.YtgoeiflddikihaaGreatDoorCpM37
import Derived.Test.YtgoeiflddikihaaGreatDoorCpM36
import Derived.Deep.Cut
import Derived.Deep.CutRange
import Derived.Deep.RegionWith
import Derived.Test.YtgoeiflddikihaaGreatDoorCpM6
section
namespace Go.Proofs.YtgoeiflddikihaaGreatDoor.Ver
set_option linter.unusedSimpArgs false
set_option linter.unusedVariables false
open Go.Sort Go.RowKit Go.Proofs.YtgoeiflddikihaaGreatDoor.Dig Go.Proofs.YtgoeiflddikihaaGreatDoorW.PrintWords Go.Proofs.YtgoeiflddikihaaGreatDoor.Mem Go.Proofs.YtgoeiflddikihaaGreatDoor.Ord
theorem bytesC_texts (x y : ByteArray) : bytesC x.data.toList y.data.toList = if x.toList = y.toList then 0 else if Op.bytesLess x.toList y.toList = true then -1 else 1 := by
  rw [bytesC_form, ByteArray.toList_eq, ByteArray.toList_eq]
  by_cases h1 : Op.bytesLess x.data.toList y.data.toList = true
  · rw [if_pos h1, if_neg, if_pos h1]
    intro e
    have := (bytesC_less x.data.toList y.data.toList).2 h1
    rw [e, cmp_bytes.refl] at this; omega
  · rw [if_neg h1]; split <;> simp [h1, *]
set_option maxRecDepth 20000 in
set_option maxHeartbeats 8000000 in
theorem vo_rank (k1 k2 : Int) (t1 r1 t2 r2 : ByteArray) (down : Bool) (hk1 : 0 ≤ k1 ∧ k1 ≤ 3) (hk2 : 0 ≤ k2 ∧ k2 ≤ 3) (ht1 : t1.size ≤ 100000) (ht2 : t2.size ≤ 100000) (w : World) (x y : Int) (hx : rankS k1 t1 = x) (hy : rankS k2 t2 = y) (hne : x ≠ y) :
    Calls Tryz.prog 84 #[.agg #[.int .i64 k1, .string t1, .string r1], .agg #[.int .i64 k2, .string t2, .string r2], .bool down] w fun e w' => e = .returned (.int .i64 (if x < y then -1 else 1)) ∧ Below w.heap.size w w' := by
  have HS := Lib.hid (fun b W => vsign_any b W)
  have HM := Aside0.mk (Blks.start w)
  have HR1 := Lib.hid (fun W => rank_any k1 t1 r1 hk1 ht1 W)
  have HR2 := Lib.hid (fun W => rank_any k2 t2 r2 hk2 ht2 W)
  rw [hx] at HR1
  rw [hy] at HR2
  clear hk1 hk2 ht1 ht2 hx hy
  have e1 : (x != y) = true := bne_iff_ne.2 hne
  by_cases hl : x < y
  · have e2 : decide (x < y) = true := decide_eq_true hl
    rw [if_pos hl]
    clear hne hl
    go_enter Tryz.func84, Tryz.ntmps84
    go_upto_region 1 with (first | (refine m_box (x := .tmp 0) (by repeat (first | exact HM.out | apply Blks.drewN | apply Blks.drew | apply Blks.other)) (h := ?_); intro ba wq HN; clear HM; have HM := HN; clear HN) | (refine m_box (x := .tmp 1) (by repeat (first | exact HM.out | apply Blks.drewN | apply Blks.drew | apply Blks.other)) (h := ?_); intro bb wq HN; clear HM; have HM := HN; clear HN))
    have HQ1 := Lib.hid (fun d os => Calls.regrown_of (HR1.out (grow (redrawn wq d) os)))
    have HQ2 := Lib.hid (fun d os => Calls.regrown_of (HR2.out (grow (redrawn wq d) os)))
    have f0 := fun d os => cell_regrown (Blks.cell HM.out (b := ba) (o := 0) (by repeat (first | exact List.Mem.head _ | apply List.Mem.tail)) (by repeat (first | exact Rd.nil | apply Rd.here | apply Rd.skip))) d os
    have f1 := fun d os => cell_regrown (Blks.cell HM.out (b := ba) (o := 1) (by repeat (first | exact List.Mem.head _ | apply List.Mem.tail)) (by repeat (first | exact Rd.nil | apply Rd.here | apply Rd.skip))) d os
    have f2 := fun d os => cell_regrown (Blks.cell HM.out (b := ba) (o := 2) (by repeat (first | exact List.Mem.head _ | apply List.Mem.tail)) (by repeat (first | exact Rd.nil | apply Rd.here | apply Rd.skip))) d os
    have g0 := fun d os => cell_regrown (Blks.cell HM.out (b := bb) (o := 0) (by repeat (first | exact List.Mem.head _ | apply List.Mem.tail)) (by repeat (first | exact Rd.nil | apply Rd.here | apply Rd.skip))) d os
    have g1 := fun d os => cell_regrown (Blks.cell HM.out (b := bb) (o := 1) (by repeat (first | exact List.Mem.head _ | apply List.Mem.tail)) (by repeat (first | exact Rd.nil | apply Rd.here | apply Rd.skip))) d os
    have g2 := fun d os => cell_regrown (Blks.cell HM.out (b := bb) (o := 2) (by repeat (first | exact List.Mem.head _ | apply List.Mem.tail)) (by repeat (first | exact Rd.nil | apply Rd.here | apply Rd.skip))) d os
    refine wp_region_quiet_below (by kernel_rfl) (by kernel_rfl) ?_
    repeat (go_big_quiet_step (first | (with_reducible exact HQ1.out _ _) | (with_reducible exact HQ2.out _ _)))
    refine wpQuiet_nil ?_
    intro _ hw'
    obtain ⟨⟨dq, osq⟩, hw''⟩ := hw'
    subst hw''
    have HN := Aside0.mk (Blks.call HM.out (below_regrown _ dq osq)); clear HM; have HM := HN; clear HN
    clear f0 f1 f2 g0 g1 g2
    generalize grow (redrawn _ dq) osq = wz at *
    clear HQ1 HQ2
    go_wp2_with (first | (go_at_call 105; ((with_reducible refine (HS.out _ _).mono ?_); rintro e w' ⟨rfl, ⟨nq, rfl⟩⟩; simp only [if_true, if_false, Bool.false_eq_true, reduceCtorEq, ite_true, ite_false]; have HN := Aside0.mk (Blks.drewN (by repeat (first | exact HM.out | apply Blks.drewN | apply Blks.drew | apply Blks.other)) nq); clear HM; have HM := HN; clear HN)))
    go_ret
    exact ⟨rfl, HM.out.bel⟩
  · have e2 : decide (x < y) = false := decide_eq_false hl
    rw [if_neg hl]
    clear hne hl
    go_enter Tryz.func84, Tryz.ntmps84
    go_upto_region 1 with (first | (refine m_box (x := .tmp 0) (by repeat (first | exact HM.out | apply Blks.drewN | apply Blks.drew | apply Blks.other)) (h := ?_); intro ba wq HN; clear HM; have HM := HN; clear HN) | (refine m_box (x := .tmp 1) (by repeat (first | exact HM.out | apply Blks.drewN | apply Blks.drew | apply Blks.other)) (h := ?_); intro bb wq HN; clear HM; have HM := HN; clear HN))
    have HQ1 := Lib.hid (fun d os => Calls.regrown_of (HR1.out (grow (redrawn wq d) os)))
    have HQ2 := Lib.hid (fun d os => Calls.regrown_of (HR2.out (grow (redrawn wq d) os)))
    have f0 := fun d os => cell_regrown (Blks.cell HM.out (b := ba) (o := 0) (by repeat (first | exact List.Mem.head _ | apply List.Mem.tail)) (by repeat (first | exact Rd.nil | apply Rd.here | apply Rd.skip))) d os
    have f1 := fun d os => cell_regrown (Blks.cell HM.out (b := ba) (o := 1) (by repeat (first | exact List.Mem.head _ | apply List.Mem.tail)) (by repeat (first | exact Rd.nil | apply Rd.here | apply Rd.skip))) d os
    have f2 := fun d os => cell_regrown (Blks.cell HM.out (b := ba) (o := 2) (by repeat (first | exact List.Mem.head _ | apply List.Mem.tail)) (by repeat (first | exact Rd.nil | apply Rd.here | apply Rd.skip))) d os
    have g0 := fun d os => cell_regrown (Blks.cell HM.out (b := bb) (o := 0) (by repeat (first | exact List.Mem.head _ | apply List.Mem.tail)) (by repeat (first | exact Rd.nil | apply Rd.here | apply Rd.skip))) d os
    have g1 := fun d os => cell_regrown (Blks.cell HM.out (b := bb) (o := 1) (by repeat (first | exact List.Mem.head _ | apply List.Mem.tail)) (by repeat (first | exact Rd.nil | apply Rd.here | apply Rd.skip))) d os
    have g2 := fun d os => cell_regrown (Blks.cell HM.out (b := bb) (o := 2) (by repeat (first | exact List.Mem.head _ | apply List.Mem.tail)) (by repeat (first | exact Rd.nil | apply Rd.here | apply Rd.skip))) d os
    refine wp_region_quiet_below (by kernel_rfl) (by kernel_rfl) ?_
    repeat (go_big_quiet_step (first | (with_reducible exact HQ1.out _ _) | (with_reducible exact HQ2.out _ _)))
    refine wpQuiet_nil ?_
    intro _ hw'
    obtain ⟨⟨dq, osq⟩, hw''⟩ := hw'
    subst hw''
    have HN := Aside0.mk (Blks.call HM.out (below_regrown _ dq osq)); clear HM; have HM := HN; clear HN
    clear f0 f1 f2 g0 g1 g2
    generalize grow (redrawn _ dq) osq = wz at *
    clear HQ1 HQ2
    go_wp2_with (first | (go_at_call 105; ((with_reducible refine (HS.out _ _).mono ?_); rintro e w' ⟨rfl, ⟨nq, rfl⟩⟩; simp only [if_true, if_false, Bool.false_eq_true, reduceCtorEq, ite_true, ite_false]; have HN := Aside0.mk (Blks.drewN (by repeat (first | exact HM.out | apply Blks.drewN | apply Blks.drew | apply Blks.other)) nq); clear HM; have HM := HN; clear HN)))
    go_ret
    exact ⟨rfl, HM.out.bel⟩
set_option maxRecDepth 20000 in
set_option maxHeartbeats 8000000 in
theorem vo_textr (k1 k2 : Int) (t1 r1 t2 r2 : ByteArray) (down : Bool) (hk1 : 0 ≤ k1 ∧ k1 ≤ 3) (hk2 : 0 ≤ k2 ∧ k2 ≤ 3) (ht1 : t1.size ≤ 100000) (ht2 : t2.size ≤ 100000) (w : World) (x : Int) (hx : rankS k1 t1 = x) (hy : rankS k2 t2 = x) (hz : typS k1 t1 = 0) :
    Calls Tryz.prog 84 #[.agg #[.int .i64 k1, .string t1, .string r1], .agg #[.int .i64 k2, .string t2, .string r2], .bool down] w fun e w' => e = .returned (.int .i64 (bytesC t1.data.toList t2.data.toList)) ∧ Below w.heap.size w w' := by
  rw [bytesC_texts]
  have HS := Lib.hid (fun b W => vsign_any b W)
  have HM := Aside0.mk (Blks.start w)
  have HR1 := Lib.hid (fun W => rank_any k1 t1 r1 hk1 ht1 W)
  have HR2 := Lib.hid (fun W => rank_any k2 t2 r2 hk2 ht2 W)
  rw [hx] at HR1
  rw [hy] at HR2
  have hty := fun W => type_any k1 t1 r1 hk1 ht1 W
  simp only [hz] at hty
  have HTY := Lib.hid hty
  clear hk1 hk2 ht1 ht2 hx hy hz hty
  by_cases he : t1.toList = t2.toList
  · have c1 : (t1.toList == t2.toList) = true := beq_iff_eq.2 he
    rw [if_pos he]
    clear he
    go_enter Tryz.func84, Tryz.ntmps84
    go_upto_region 1 with (first | (refine m_box (x := .tmp 0) (by repeat (first | exact HM.out | apply Blks.drewN | apply Blks.drew | apply Blks.other)) (h := ?_); intro ba wq HN; clear HM; have HM := HN; clear HN) | (refine m_box (x := .tmp 1) (by repeat (first | exact HM.out | apply Blks.drewN | apply Blks.drew | apply Blks.other)) (h := ?_); intro bb wq HN; clear HM; have HM := HN; clear HN))
    have HQ1 := Lib.hid (fun d os => Calls.regrown_of (HR1.out (grow (redrawn wq d) os)))
    have HQ2 := Lib.hid (fun d os => Calls.regrown_of (HR2.out (grow (redrawn wq d) os)))
    have f0 := fun d os => cell_regrown (Blks.cell HM.out (b := ba) (o := 0) (by repeat (first | exact List.Mem.head _ | apply List.Mem.tail)) (by repeat (first | exact Rd.nil | apply Rd.here | apply Rd.skip))) d os
    have f1 := fun d os => cell_regrown (Blks.cell HM.out (b := ba) (o := 1) (by repeat (first | exact List.Mem.head _ | apply List.Mem.tail)) (by repeat (first | exact Rd.nil | apply Rd.here | apply Rd.skip))) d os
    have f2 := fun d os => cell_regrown (Blks.cell HM.out (b := ba) (o := 2) (by repeat (first | exact List.Mem.head _ | apply List.Mem.tail)) (by repeat (first | exact Rd.nil | apply Rd.here | apply Rd.skip))) d os
    have g0 := fun d os => cell_regrown (Blks.cell HM.out (b := bb) (o := 0) (by repeat (first | exact List.Mem.head _ | apply List.Mem.tail)) (by repeat (first | exact Rd.nil | apply Rd.here | apply Rd.skip))) d os
    have g1 := fun d os => cell_regrown (Blks.cell HM.out (b := bb) (o := 1) (by repeat (first | exact List.Mem.head _ | apply List.Mem.tail)) (by repeat (first | exact Rd.nil | apply Rd.here | apply Rd.skip))) d os
    have g2 := fun d os => cell_regrown (Blks.cell HM.out (b := bb) (o := 2) (by repeat (first | exact List.Mem.head _ | apply List.Mem.tail)) (by repeat (first | exact Rd.nil | apply Rd.here | apply Rd.skip))) d os
    refine wp_region_quiet_below (by kernel_rfl) (by kernel_rfl) ?_
    repeat (go_big_quiet_step (first | (with_reducible exact HQ1.out _ _) | (with_reducible exact HQ2.out _ _)))
    refine wpQuiet_nil ?_
    intro _ hw'
    obtain ⟨⟨dq, osq⟩, hw''⟩ := hw'
    subst hw''
    have HN := Aside0.mk (Blks.call HM.out (below_regrown _ dq osq)); clear HM; have HM := HN; clear HN
    clear f0 f1 f2 g0 g1 g2
    generalize grow (redrawn _ dq) osq = wz at *
    clear HQ1 HQ2
    go_wp2_with (first | (refine m_load (by repeat (first | exact HM.out | apply Blks.drewN | apply Blks.drew | apply Blks.other)) (h := ?_)) | (refine m_load1 (by repeat (first | exact HM.out | apply Blks.drewN | apply Blks.drew | apply Blks.other)) (h := ?_)) | (go_at_call 44; ((with_reducible refine (HTY.out _).mono ?_); rintro e w2 ⟨rfl, hb⟩; have HN := Aside0.mk (Blks.call (by repeat (first | exact HM.out | apply Blks.drewN | apply Blks.drew | apply Blks.other)) hb); clear HM hb; have HM := HN; clear HN)) | (go_at_call 105; ((with_reducible refine (HS.out _ _).mono ?_); rintro e w' ⟨rfl, ⟨nq, rfl⟩⟩; simp only [if_true, if_false, Bool.false_eq_true, reduceCtorEq, ite_true, ite_false]; have HN := Aside0.mk (Blks.drewN (by repeat (first | exact HM.out | apply Blks.drewN | apply Blks.drew | apply Blks.other)) nq); clear HM; have HM := HN; clear HN)))
    go_ret
    exact ⟨rfl, HM.out.bel⟩
  · have c1 : (t1.toList == t2.toList) = false := beq_eq_false_iff_ne.2 he
    rw [if_neg he]
    clear he
    cases c2 : Op.bytesLess t1.toList t2.toList
    · rw [if_neg (by decide)]
      go_enter Tryz.func84, Tryz.ntmps84
      go_upto_region 1 with (first | (refine m_box (x := .tmp 0) (by repeat (first | exact HM.out | apply Blks.drewN | apply Blks.drew | apply Blks.other)) (h := ?_); intro ba wq HN; clear HM; have HM := HN; clear HN) | (refine m_box (x := .tmp 1) (by repeat (first | exact HM.out | apply Blks.drewN | apply Blks.drew | apply Blks.other)) (h := ?_); intro bb wq HN; clear HM; have HM := HN; clear HN))
      have HQ1 := Lib.hid (fun d os => Calls.regrown_of (HR1.out (grow (redrawn wq d) os)))
      have HQ2 := Lib.hid (fun d os => Calls.regrown_of (HR2.out (grow (redrawn wq d) os)))
      have f0 := fun d os => cell_regrown (Blks.cell HM.out (b := ba) (o := 0) (by repeat (first | exact List.Mem.head _ | apply List.Mem.tail)) (by repeat (first | exact Rd.nil | apply Rd.here | apply Rd.skip))) d os
      have f1 := fun d os => cell_regrown (Blks.cell HM.out (b := ba) (o := 1) (by repeat (first | exact List.Mem.head _ | apply List.Mem.tail)) (by repeat (first | exact Rd.nil | apply Rd.here | apply Rd.skip))) d os
      have f2 := fun d os => cell_regrown (Blks.cell HM.out (b := ba) (o := 2) (by repeat (first | exact List.Mem.head _ | apply List.Mem.tail)) (by repeat (first | exact Rd.nil | apply Rd.here | apply Rd.skip))) d os
      have g0 := fun d os => cell_regrown (Blks.cell HM.out (b := bb) (o := 0) (by repeat (first | exact List.Mem.head _ | apply List.Mem.tail)) (by repeat (first | exact Rd.nil | apply Rd.here | apply Rd.skip))) d os
      have g1 := fun d os => cell_regrown (Blks.cell HM.out (b := bb) (o := 1) (by repeat (first | exact List.Mem.head _ | apply List.Mem.tail)) (by repeat (first | exact Rd.nil | apply Rd.here | apply Rd.skip))) d os
      have g2 := fun d os => cell_regrown (Blks.cell HM.out (b := bb) (o := 2) (by repeat (first | exact List.Mem.head _ | apply List.Mem.tail)) (by repeat (first | exact Rd.nil | apply Rd.here | apply Rd.skip))) d os
      refine wp_region_quiet_below (by kernel_rfl) (by kernel_rfl) ?_
      repeat (go_big_quiet_step (first | (with_reducible exact HQ1.out _ _) | (with_reducible exact HQ2.out _ _)))
      refine wpQuiet_nil ?_
      intro _ hw'
      obtain ⟨⟨dq, osq⟩, hw''⟩ := hw'
      subst hw''
      have HN := Aside0.mk (Blks.call HM.out (below_regrown _ dq osq)); clear HM; have HM := HN; clear HN
      clear f0 f1 f2 g0 g1 g2
      generalize grow (redrawn _ dq) osq = wz at *
      clear HQ1 HQ2
      go_wp2_with (first | (refine m_load (by repeat (first | exact HM.out | apply Blks.drewN | apply Blks.drew | apply Blks.other)) (h := ?_)) | (refine m_load1 (by repeat (first | exact HM.out | apply Blks.drewN | apply Blks.drew | apply Blks.other)) (h := ?_)) | (go_at_call 44; ((with_reducible refine (HTY.out _).mono ?_); rintro e w2 ⟨rfl, hb⟩; have HN := Aside0.mk (Blks.call (by repeat (first | exact HM.out | apply Blks.drewN | apply Blks.drew | apply Blks.other)) hb); clear HM hb; have HM := HN; clear HN)) | (go_at_call 105; ((with_reducible refine (HS.out _ _).mono ?_); rintro e w' ⟨rfl, ⟨nq, rfl⟩⟩; simp only [if_true, if_false, Bool.false_eq_true, reduceCtorEq, ite_true, ite_false]; have HN := Aside0.mk (Blks.drewN (by repeat (first | exact HM.out | apply Blks.drewN | apply Blks.drew | apply Blks.other)) nq); clear HM; have HM := HN; clear HN)))
      go_ret
      exact ⟨rfl, HM.out.bel⟩
    · rw [if_pos rfl]
      go_enter Tryz.func84, Tryz.ntmps84
      go_upto_region 1 with (first | (refine m_box (x := .tmp 0) (by repeat (first | exact HM.out | apply Blks.drewN | apply Blks.drew | apply Blks.other)) (h := ?_); intro ba wq HN; clear HM; have HM := HN; clear HN) | (refine m_box (x := .tmp 1) (by repeat (first | exact HM.out | apply Blks.drewN | apply Blks.drew | apply Blks.other)) (h := ?_); intro bb wq HN; clear HM; have HM := HN; clear HN))
      have HQ1 := Lib.hid (fun d os => Calls.regrown_of (HR1.out (grow (redrawn wq d) os)))
      have HQ2 := Lib.hid (fun d os => Calls.regrown_of (HR2.out (grow (redrawn wq d) os)))
      have f0 := fun d os => cell_regrown (Blks.cell HM.out (b := ba) (o := 0) (by repeat (first | exact List.Mem.head _ | apply List.Mem.tail)) (by repeat (first | exact Rd.nil | apply Rd.here | apply Rd.skip))) d os
      have f1 := fun d os => cell_regrown (Blks.cell HM.out (b := ba) (o := 1) (by repeat (first | exact List.Mem.head _ | apply List.Mem.tail)) (by repeat (first | exact Rd.nil | apply Rd.here | apply Rd.skip))) d os
      have f2 := fun d os => cell_regrown (Blks.cell HM.out (b := ba) (o := 2) (by repeat (first | exact List.Mem.head _ | apply List.Mem.tail)) (by repeat (first | exact Rd.nil | apply Rd.here | apply Rd.skip))) d os
      have g0 := fun d os => cell_regrown (Blks.cell HM.out (b := bb) (o := 0) (by repeat (first | exact List.Mem.head _ | apply List.Mem.tail)) (by repeat (first | exact Rd.nil | apply Rd.here | apply Rd.skip))) d os
      have g1 := fun d os => cell_regrown (Blks.cell HM.out (b := bb) (o := 1) (by repeat (first | exact List.Mem.head _ | apply List.Mem.tail)) (by repeat (first | exact Rd.nil | apply Rd.here | apply Rd.skip))) d os
      have g2 := fun d os => cell_regrown (Blks.cell HM.out (b := bb) (o := 2) (by repeat (first | exact List.Mem.head _ | apply List.Mem.tail)) (by repeat (first | exact Rd.nil | apply Rd.here | apply Rd.skip))) d os
      refine wp_region_quiet_below (by kernel_rfl) (by kernel_rfl) ?_
      repeat (go_big_quiet_step (first | (with_reducible exact HQ1.out _ _) | (with_reducible exact HQ2.out _ _)))
      refine wpQuiet_nil ?_
      intro _ hw'
      obtain ⟨⟨dq, osq⟩, hw''⟩ := hw'
      subst hw''
      have HN := Aside0.mk (Blks.call HM.out (below_regrown _ dq osq)); clear HM; have HM := HN; clear HN
      clear f0 f1 f2 g0 g1 g2
      generalize grow (redrawn _ dq) osq = wz at *
      clear HQ1 HQ2
      go_wp2_with (first | (refine m_load (by repeat (first | exact HM.out | apply Blks.drewN | apply Blks.drew | apply Blks.other)) (h := ?_)) | (refine m_load1 (by repeat (first | exact HM.out | apply Blks.drewN | apply Blks.drew | apply Blks.other)) (h := ?_)) | (go_at_call 44; ((with_reducible refine (HTY.out _).mono ?_); rintro e w2 ⟨rfl, hb⟩; have HN := Aside0.mk (Blks.call (by repeat (first | exact HM.out | apply Blks.drewN | apply Blks.drew | apply Blks.other)) hb); clear HM hb; have HM := HN; clear HN)) | (go_at_call 105; ((with_reducible refine (HS.out _ _).mono ?_); rintro e w' ⟨rfl, ⟨nq, rfl⟩⟩; simp only [if_true, if_false, Bool.false_eq_true, reduceCtorEq, ite_true, ite_false]; have HN := Aside0.mk (Blks.drewN (by repeat (first | exact HM.out | apply Blks.drewN | apply Blks.drew | apply Blks.other)) nq); clear HM; have HM := HN; clear HN)))
      go_ret
      exact ⟨rfl, HM.out.bel⟩
set_option maxRecDepth 20000 in
set_option maxHeartbeats 8000000 in
theorem vo_textp (k1 k2 : Int) (t1 r1 t2 r2 : ByteArray) (down : Bool) (hk1 : 0 ≤ k1 ∧ k1 ≤ 3) (hk2 : 0 ≤ k2 ∧ k2 ≤ 3) (ht1 : t1.size ≤ 100000) (ht2 : t2.size ≤ 100000) (w : World) (x : Int) (hx : rankS k1 t1 = x) (hy : rankS k2 t2 = x) (hz : typS k1 t1 = 1) :
    Calls Tryz.prog 84 #[.agg #[.int .i64 k1, .string t1, .string r1], .agg #[.int .i64 k2, .string t2, .string r2], .bool down] w fun e w' => e = .returned (.int .i64 (bytesC t1.data.toList t2.data.toList)) ∧ Below w.heap.size w w' := by
  rw [bytesC_texts]
  have HS := Lib.hid (fun b W => vsign_any b W)
  have HM := Aside0.mk (Blks.start w)
  have HR1 := Lib.hid (fun W => rank_any k1 t1 r1 hk1 ht1 W)
  have HR2 := Lib.hid (fun W => rank_any k2 t2 r2 hk2 ht2 W)
  rw [hx] at HR1
  rw [hy] at HR2
  have hty := fun W => type_any k1 t1 r1 hk1 ht1 W
  simp only [hz] at hty
  have HTY := Lib.hid hty
  clear hk1 hk2 ht1 ht2 hx hy hz hty
  by_cases he : t1.toList = t2.toList
  · have c1 : (t1.toList == t2.toList) = true := beq_iff_eq.2 he
    rw [if_pos he]
    clear he
    go_enter Tryz.func84, Tryz.ntmps84
    go_upto_region 1 with (first | (refine m_box (x := .tmp 0) (by repeat (first | exact HM.out | apply Blks.drewN | apply Blks.drew | apply Blks.other)) (h := ?_); intro ba wq HN; clear HM; have HM := HN; clear HN) | (refine m_box (x := .tmp 1) (by repeat (first | exact HM.out | apply Blks.drewN | apply Blks.drew | apply Blks.other)) (h := ?_); intro bb wq HN; clear HM; have HM := HN; clear HN))
    have HQ1 := Lib.hid (fun d os => Calls.regrown_of (HR1.out (grow (redrawn wq d) os)))
    have HQ2 := Lib.hid (fun d os => Calls.regrown_of (HR2.out (grow (redrawn wq d) os)))
    have f0 := fun d os => cell_regrown (Blks.cell HM.out (b := ba) (o := 0) (by repeat (first | exact List.Mem.head _ | apply List.Mem.tail)) (by repeat (first | exact Rd.nil | apply Rd.here | apply Rd.skip))) d os
    have f1 := fun d os => cell_regrown (Blks.cell HM.out (b := ba) (o := 1) (by repeat (first | exact List.Mem.head _ | apply List.Mem.tail)) (by repeat (first | exact Rd.nil | apply Rd.here | apply Rd.skip))) d os
    have f2 := fun d os => cell_regrown (Blks.cell HM.out (b := ba) (o := 2) (by repeat (first | exact List.Mem.head _ | apply List.Mem.tail)) (by repeat (first | exact Rd.nil | apply Rd.here | apply Rd.skip))) d os
    have g0 := fun d os => cell_regrown (Blks.cell HM.out (b := bb) (o := 0) (by repeat (first | exact List.Mem.head _ | apply List.Mem.tail)) (by repeat (first | exact Rd.nil | apply Rd.here | apply Rd.skip))) d os
    have g1 := fun d os => cell_regrown (Blks.cell HM.out (b := bb) (o := 1) (by repeat (first | exact List.Mem.head _ | apply List.Mem.tail)) (by repeat (first | exact Rd.nil | apply Rd.here | apply Rd.skip))) d os
    have g2 := fun d os => cell_regrown (Blks.cell HM.out (b := bb) (o := 2) (by repeat (first | exact List.Mem.head _ | apply List.Mem.tail)) (by repeat (first | exact Rd.nil | apply Rd.here | apply Rd.skip))) d os
    refine wp_region_quiet_below (by kernel_rfl) (by kernel_rfl) ?_
    repeat (go_big_quiet_step (first | (with_reducible exact HQ1.out _ _) | (with_reducible exact HQ2.out _ _)))
    refine wpQuiet_nil ?_
    intro _ hw'
    obtain ⟨⟨dq, osq⟩, hw''⟩ := hw'
    subst hw''
    have HN := Aside0.mk (Blks.call HM.out (below_regrown _ dq osq)); clear HM; have HM := HN; clear HN
    clear f0 f1 f2 g0 g1 g2
    generalize grow (redrawn _ dq) osq = wz at *
    clear HQ1 HQ2
    go_wp2_with (first | (refine m_load (by repeat (first | exact HM.out | apply Blks.drewN | apply Blks.drew | apply Blks.other)) (h := ?_)) | (refine m_load1 (by repeat (first | exact HM.out | apply Blks.drewN | apply Blks.drew | apply Blks.other)) (h := ?_)) | (go_at_call 44; ((with_reducible refine (HTY.out _).mono ?_); rintro e w2 ⟨rfl, hb⟩; have HN := Aside0.mk (Blks.call (by repeat (first | exact HM.out | apply Blks.drewN | apply Blks.drew | apply Blks.other)) hb); clear HM hb; have HM := HN; clear HN)) | (go_at_call 105; ((with_reducible refine (HS.out _ _).mono ?_); rintro e w' ⟨rfl, ⟨nq, rfl⟩⟩; simp only [if_true, if_false, Bool.false_eq_true, reduceCtorEq, ite_true, ite_false]; have HN := Aside0.mk (Blks.drewN (by repeat (first | exact HM.out | apply Blks.drewN | apply Blks.drew | apply Blks.other)) nq); clear HM; have HM := HN; clear HN)))
    go_ret
    exact ⟨rfl, HM.out.bel⟩
  · have c1 : (t1.toList == t2.toList) = false := beq_eq_false_iff_ne.2 he
    rw [if_neg he]
    clear he
    cases c2 : Op.bytesLess t1.toList t2.toList
    · rw [if_neg (by decide)]
      go_enter Tryz.func84, Tryz.ntmps84
      go_upto_region 1 with (first | (refine m_box (x := .tmp 0) (by repeat (first | exact HM.out | apply Blks.drewN | apply Blks.drew | apply Blks.other)) (h := ?_); intro ba wq HN; clear HM; have HM := HN; clear HN) | (refine m_box (x := .tmp 1) (by repeat (first | exact HM.out | apply Blks.drewN | apply Blks.drew | apply Blks.other)) (h := ?_); intro bb wq HN; clear HM; have HM := HN; clear HN))
      have HQ1 := Lib.hid (fun d os => Calls.regrown_of (HR1.out (grow (redrawn wq d) os)))
      have HQ2 := Lib.hid (fun d os => Calls.regrown_of (HR2.out (grow (redrawn wq d) os)))
      have f0 := fun d os => cell_regrown (Blks.cell HM.out (b := ba) (o := 0) (by repeat (first | exact List.Mem.head _ | apply List.Mem.tail)) (by repeat (first | exact Rd.nil | apply Rd.here | apply Rd.skip))) d os
      have f1 := fun d os => cell_regrown (Blks.cell HM.out (b := ba) (o := 1) (by repeat (first | exact List.Mem.head _ | apply List.Mem.tail)) (by repeat (first | exact Rd.nil | apply Rd.here | apply Rd.skip))) d os
      have f2 := fun d os => cell_regrown (Blks.cell HM.out (b := ba) (o := 2) (by repeat (first | exact List.Mem.head _ | apply List.Mem.tail)) (by repeat (first | exact Rd.nil | apply Rd.here | apply Rd.skip))) d os
      have g0 := fun d os => cell_regrown (Blks.cell HM.out (b := bb) (o := 0) (by repeat (first | exact List.Mem.head _ | apply List.Mem.tail)) (by repeat (first | exact Rd.nil | apply Rd.here | apply Rd.skip))) d os
      have g1 := fun d os => cell_regrown (Blks.cell HM.out (b := bb) (o := 1) (by repeat (first | exact List.Mem.head _ | apply List.Mem.tail)) (by repeat (first | exact Rd.nil | apply Rd.here | apply Rd.skip))) d os
      have g2 := fun d os => cell_regrown (Blks.cell HM.out (b := bb) (o := 2) (by repeat (first | exact List.Mem.head _ | apply List.Mem.tail)) (by repeat (first | exact Rd.nil | apply Rd.here | apply Rd.skip))) d os
      refine wp_region_quiet_below (by kernel_rfl) (by kernel_rfl) ?_
      repeat (go_big_quiet_step (first | (with_reducible exact HQ1.out _ _) | (with_reducible exact HQ2.out _ _)))
      refine wpQuiet_nil ?_
      intro _ hw'
      obtain ⟨⟨dq, osq⟩, hw''⟩ := hw'
      subst hw''
      have HN := Aside0.mk (Blks.call HM.out (below_regrown _ dq osq)); clear HM; have HM := HN; clear HN
      clear f0 f1 f2 g0 g1 g2
      generalize grow (redrawn _ dq) osq = wz at *
      clear HQ1 HQ2
      go_wp2_with (first | (refine m_load (by repeat (first | exact HM.out | apply Blks.drewN | apply Blks.drew | apply Blks.other)) (h := ?_)) | (refine m_load1 (by repeat (first | exact HM.out | apply Blks.drewN | apply Blks.drew | apply Blks.other)) (h := ?_)) | (go_at_call 44; ((with_reducible refine (HTY.out _).mono ?_); rintro e w2 ⟨rfl, hb⟩; have HN := Aside0.mk (Blks.call (by repeat (first | exact HM.out | apply Blks.drewN | apply Blks.drew | apply Blks.other)) hb); clear HM hb; have HM := HN; clear HN)) | (go_at_call 105; ((with_reducible refine (HS.out _ _).mono ?_); rintro e w' ⟨rfl, ⟨nq, rfl⟩⟩; simp only [if_true, if_false, Bool.false_eq_true, reduceCtorEq, ite_true, ite_false]; have HN := Aside0.mk (Blks.drewN (by repeat (first | exact HM.out | apply Blks.drewN | apply Blks.drew | apply Blks.other)) nq); clear HM; have HM := HN; clear HN)))
      go_ret
      exact ⟨rfl, HM.out.bel⟩
    · rw [if_pos rfl]
      go_enter Tryz.func84, Tryz.ntmps84
      go_upto_region 1 with (first | (refine m_box (x := .tmp 0) (by repeat (first | exact HM.out | apply Blks.drewN | apply Blks.drew | apply Blks.other)) (h := ?_); intro ba wq HN; clear HM; have HM := HN; clear HN) | (refine m_box (x := .tmp 1) (by repeat (first | exact HM.out | apply Blks.drewN | apply Blks.drew | apply Blks.other)) (h := ?_); intro bb wq HN; clear HM; have HM := HN; clear HN))
      have HQ1 := Lib.hid (fun d os => Calls.regrown_of (HR1.out (grow (redrawn wq d) os)))
      have HQ2 := Lib.hid (fun d os => Calls.regrown_of (HR2.out (grow (redrawn wq d) os)))
      have f0 := fun d os => cell_regrown (Blks.cell HM.out (b := ba) (o := 0) (by repeat (first | exact List.Mem.head _ | apply List.Mem.tail)) (by repeat (first | exact Rd.nil | apply Rd.here | apply Rd.skip))) d os
      have f1 := fun d os => cell_regrown (Blks.cell HM.out (b := ba) (o := 1) (by repeat (first | exact List.Mem.head _ | apply List.Mem.tail)) (by repeat (first | exact Rd.nil | apply Rd.here | apply Rd.skip))) d os
      have f2 := fun d os => cell_regrown (Blks.cell HM.out (b := ba) (o := 2) (by repeat (first | exact List.Mem.head _ | apply List.Mem.tail)) (by repeat (first | exact Rd.nil | apply Rd.here | apply Rd.skip))) d os
      have g0 := fun d os => cell_regrown (Blks.cell HM.out (b := bb) (o := 0) (by repeat (first | exact List.Mem.head _ | apply List.Mem.tail)) (by repeat (first | exact Rd.nil | apply Rd.here | apply Rd.skip))) d os
      have g1 := fun d os => cell_regrown (Blks.cell HM.out (b := bb) (o := 1) (by repeat (first | exact List.Mem.head _ | apply List.Mem.tail)) (by repeat (first | exact Rd.nil | apply Rd.here | apply Rd.skip))) d os
      have g2 := fun d os => cell_regrown (Blks.cell HM.out (b := bb) (o := 2) (by repeat (first | exact List.Mem.head _ | apply List.Mem.tail)) (by repeat (first | exact Rd.nil | apply Rd.here | apply Rd.skip))) d os
      refine wp_region_quiet_below (by kernel_rfl) (by kernel_rfl) ?_
      repeat (go_big_quiet_step (first | (with_reducible exact HQ1.out _ _) | (with_reducible exact HQ2.out _ _)))
      refine wpQuiet_nil ?_
      intro _ hw'
      obtain ⟨⟨dq, osq⟩, hw''⟩ := hw'
      subst hw''
      have HN := Aside0.mk (Blks.call HM.out (below_regrown _ dq osq)); clear HM; have HM := HN; clear HN
      clear f0 f1 f2 g0 g1 g2
      generalize grow (redrawn _ dq) osq = wz at *
      clear HQ1 HQ2
      go_wp2_with (first | (refine m_load (by repeat (first | exact HM.out | apply Blks.drewN | apply Blks.drew | apply Blks.other)) (h := ?_)) | (refine m_load1 (by repeat (first | exact HM.out | apply Blks.drewN | apply Blks.drew | apply Blks.other)) (h := ?_)) | (go_at_call 44; ((with_reducible refine (HTY.out _).mono ?_); rintro e w2 ⟨rfl, hb⟩; have HN := Aside0.mk (Blks.call (by repeat (first | exact HM.out | apply Blks.drewN | apply Blks.drew | apply Blks.other)) hb); clear HM hb; have HM := HN; clear HN)) | (go_at_call 105; ((with_reducible refine (HS.out _ _).mono ?_); rintro e w' ⟨rfl, ⟨nq, rfl⟩⟩; simp only [if_true, if_false, Bool.false_eq_true, reduceCtorEq, ite_true, ite_false]; have HN := Aside0.mk (Blks.drewN (by repeat (first | exact HM.out | apply Blks.drewN | apply Blks.drew | apply Blks.other)) nq); clear HM; have HM := HN; clear HN)))
      go_ret
      exact ⟨rfl, HM.out.bel⟩
set_option maxRecDepth 20000 in
set_option maxHeartbeats 8000000 in
theorem vo_textb (k1 k2 : Int) (t1 r1 t2 r2 : ByteArray) (down : Bool) (hk1 : 0 ≤ k1 ∧ k1 ≤ 3) (hk2 : 0 ≤ k2 ∧ k2 ≤ 3) (ht1 : t1.size ≤ 100000) (ht2 : t2.size ≤ 100000) (w : World) (x : Int) (hx : rankS k1 t1 = x) (hy : rankS k2 t2 = x) (hz : typS k1 t1 = 3) (b : Bool) (hb1 : (k1 == 2) = b) (hb2 : (k2 == 2) = b) :
    Calls Tryz.prog 84 #[.agg #[.int .i64 k1, .string t1, .string r1], .agg #[.int .i64 k2, .string t2, .string r2], .bool down] w fun e w' => e = .returned (.int .i64 (bytesC t1.data.toList t2.data.toList)) ∧ Below w.heap.size w w' := by
  rw [bytesC_texts]
  have HS := Lib.hid (fun b W => vsign_any b W)
  have HM := Aside0.mk (Blks.start w)
  have HR1 := Lib.hid (fun W => rank_any k1 t1 r1 hk1 ht1 W)
  have HR2 := Lib.hid (fun W => rank_any k2 t2 r2 hk2 ht2 W)
  rw [hx] at HR1
  rw [hy] at HR2
  have hty := fun W => type_any k1 t1 r1 hk1 ht1 W
  simp only [hz] at hty
  have HTY := Lib.hid hty
  clear hk1 hk2 ht1 ht2 hx hy hz hty
  cases b
  · skip
    by_cases he : t1.toList = t2.toList
    · have c1 : (t1.toList == t2.toList) = true := beq_iff_eq.2 he
      rw [if_pos he]
      clear he
      go_enter Tryz.func84, Tryz.ntmps84
      go_upto_region 1 with (first | (refine m_box (x := .tmp 0) (by repeat (first | exact HM.out | apply Blks.drewN | apply Blks.drew | apply Blks.other)) (h := ?_); intro ba wq HN; clear HM; have HM := HN; clear HN) | (refine m_box (x := .tmp 1) (by repeat (first | exact HM.out | apply Blks.drewN | apply Blks.drew | apply Blks.other)) (h := ?_); intro bb wq HN; clear HM; have HM := HN; clear HN))
      have HQ1 := Lib.hid (fun d os => Calls.regrown_of (HR1.out (grow (redrawn wq d) os)))
      have HQ2 := Lib.hid (fun d os => Calls.regrown_of (HR2.out (grow (redrawn wq d) os)))
      have f0 := fun d os => cell_regrown (Blks.cell HM.out (b := ba) (o := 0) (by repeat (first | exact List.Mem.head _ | apply List.Mem.tail)) (by repeat (first | exact Rd.nil | apply Rd.here | apply Rd.skip))) d os
      have f1 := fun d os => cell_regrown (Blks.cell HM.out (b := ba) (o := 1) (by repeat (first | exact List.Mem.head _ | apply List.Mem.tail)) (by repeat (first | exact Rd.nil | apply Rd.here | apply Rd.skip))) d os
      have f2 := fun d os => cell_regrown (Blks.cell HM.out (b := ba) (o := 2) (by repeat (first | exact List.Mem.head _ | apply List.Mem.tail)) (by repeat (first | exact Rd.nil | apply Rd.here | apply Rd.skip))) d os
      have g0 := fun d os => cell_regrown (Blks.cell HM.out (b := bb) (o := 0) (by repeat (first | exact List.Mem.head _ | apply List.Mem.tail)) (by repeat (first | exact Rd.nil | apply Rd.here | apply Rd.skip))) d os
      have g1 := fun d os => cell_regrown (Blks.cell HM.out (b := bb) (o := 1) (by repeat (first | exact List.Mem.head _ | apply List.Mem.tail)) (by repeat (first | exact Rd.nil | apply Rd.here | apply Rd.skip))) d os
      have g2 := fun d os => cell_regrown (Blks.cell HM.out (b := bb) (o := 2) (by repeat (first | exact List.Mem.head _ | apply List.Mem.tail)) (by repeat (first | exact Rd.nil | apply Rd.here | apply Rd.skip))) d os
      refine wp_region_quiet_below (by kernel_rfl) (by kernel_rfl) ?_
      repeat (go_big_quiet_step (first | (with_reducible exact HQ1.out _ _) | (with_reducible exact HQ2.out _ _)))
      refine wpQuiet_nil ?_
      intro _ hw'
      obtain ⟨⟨dq, osq⟩, hw''⟩ := hw'
      subst hw''
      have HN := Aside0.mk (Blks.call HM.out (below_regrown _ dq osq)); clear HM; have HM := HN; clear HN
      clear f0 f1 f2 g0 g1 g2
      generalize grow (redrawn _ dq) osq = wz at *
      clear HQ1 HQ2
      go_wp2_with (first | (refine m_load (by repeat (first | exact HM.out | apply Blks.drewN | apply Blks.drew | apply Blks.other)) (h := ?_)) | (refine m_load1 (by repeat (first | exact HM.out | apply Blks.drewN | apply Blks.drew | apply Blks.other)) (h := ?_)) | (go_at_call 44; ((with_reducible refine (HTY.out _).mono ?_); rintro e w2 ⟨rfl, hb⟩; have HN := Aside0.mk (Blks.call (by repeat (first | exact HM.out | apply Blks.drewN | apply Blks.drew | apply Blks.other)) hb); clear HM hb; have HM := HN; clear HN)) | (go_at_call 105; ((with_reducible refine (HS.out _ _).mono ?_); rintro e w' ⟨rfl, ⟨nq, rfl⟩⟩; simp only [if_true, if_false, Bool.false_eq_true, reduceCtorEq, ite_true, ite_false]; have HN := Aside0.mk (Blks.drewN (by repeat (first | exact HM.out | apply Blks.drewN | apply Blks.drew | apply Blks.other)) nq); clear HM; have HM := HN; clear HN)))
      go_ret
      exact ⟨rfl, HM.out.bel⟩
    · have c1 : (t1.toList == t2.toList) = false := beq_eq_false_iff_ne.2 he
      rw [if_neg he]
      clear he
      cases c2 : Op.bytesLess t1.toList t2.toList
      · rw [if_neg (by decide)]
        go_enter Tryz.func84, Tryz.ntmps84
        go_upto_region 1 with (first | (refine m_box (x := .tmp 0) (by repeat (first | exact HM.out | apply Blks.drewN | apply Blks.drew | apply Blks.other)) (h := ?_); intro ba wq HN; clear HM; have HM := HN; clear HN) | (refine m_box (x := .tmp 1) (by repeat (first | exact HM.out | apply Blks.drewN | apply Blks.drew | apply Blks.other)) (h := ?_); intro bb wq HN; clear HM; have HM := HN; clear HN))
        have HQ1 := Lib.hid (fun d os => Calls.regrown_of (HR1.out (grow (redrawn wq d) os)))
        have HQ2 := Lib.hid (fun d os => Calls.regrown_of (HR2.out (grow (redrawn wq d) os)))
        have f0 := fun d os => cell_regrown (Blks.cell HM.out (b := ba) (o := 0) (by repeat (first | exact List.Mem.head _ | apply List.Mem.tail)) (by repeat (first | exact Rd.nil | apply Rd.here | apply Rd.skip))) d os
        have f1 := fun d os => cell_regrown (Blks.cell HM.out (b := ba) (o := 1) (by repeat (first | exact List.Mem.head _ | apply List.Mem.tail)) (by repeat (first | exact Rd.nil | apply Rd.here | apply Rd.skip))) d os
        have f2 := fun d os => cell_regrown (Blks.cell HM.out (b := ba) (o := 2) (by repeat (first | exact List.Mem.head _ | apply List.Mem.tail)) (by repeat (first | exact Rd.nil | apply Rd.here | apply Rd.skip))) d os
        have g0 := fun d os => cell_regrown (Blks.cell HM.out (b := bb) (o := 0) (by repeat (first | exact List.Mem.head _ | apply List.Mem.tail)) (by repeat (first | exact Rd.nil | apply Rd.here | apply Rd.skip))) d os
        have g1 := fun d os => cell_regrown (Blks.cell HM.out (b := bb) (o := 1) (by repeat (first | exact List.Mem.head _ | apply List.Mem.tail)) (by repeat (first | exact Rd.nil | apply Rd.here | apply Rd.skip))) d os
        have g2 := fun d os => cell_regrown (Blks.cell HM.out (b := bb) (o := 2) (by repeat (first | exact List.Mem.head _ | apply List.Mem.tail)) (by repeat (first | exact Rd.nil | apply Rd.here | apply Rd.skip))) d os
        refine wp_region_quiet_below (by kernel_rfl) (by kernel_rfl) ?_
        repeat (go_big_quiet_step (first | (with_reducible exact HQ1.out _ _) | (with_reducible exact HQ2.out _ _)))
        refine wpQuiet_nil ?_
        intro _ hw'
        obtain ⟨⟨dq, osq⟩, hw''⟩ := hw'
        subst hw''
        have HN := Aside0.mk (Blks.call HM.out (below_regrown _ dq osq)); clear HM; have HM := HN; clear HN
        clear f0 f1 f2 g0 g1 g2
        generalize grow (redrawn _ dq) osq = wz at *
        clear HQ1 HQ2
        go_wp2_with (first | (refine m_load (by repeat (first | exact HM.out | apply Blks.drewN | apply Blks.drew | apply Blks.other)) (h := ?_)) | (refine m_load1 (by repeat (first | exact HM.out | apply Blks.drewN | apply Blks.drew | apply Blks.other)) (h := ?_)) | (go_at_call 44; ((with_reducible refine (HTY.out _).mono ?_); rintro e w2 ⟨rfl, hb⟩; have HN := Aside0.mk (Blks.call (by repeat (first | exact HM.out | apply Blks.drewN | apply Blks.drew | apply Blks.other)) hb); clear HM hb; have HM := HN; clear HN)) | (go_at_call 105; ((with_reducible refine (HS.out _ _).mono ?_); rintro e w' ⟨rfl, ⟨nq, rfl⟩⟩; simp only [if_true, if_false, Bool.false_eq_true, reduceCtorEq, ite_true, ite_false]; have HN := Aside0.mk (Blks.drewN (by repeat (first | exact HM.out | apply Blks.drewN | apply Blks.drew | apply Blks.other)) nq); clear HM; have HM := HN; clear HN)))
        go_ret
        exact ⟨rfl, HM.out.bel⟩
      · rw [if_pos rfl]
        go_enter Tryz.func84, Tryz.ntmps84
        go_upto_region 1 with (first | (refine m_box (x := .tmp 0) (by repeat (first | exact HM.out | apply Blks.drewN | apply Blks.drew | apply Blks.other)) (h := ?_); intro ba wq HN; clear HM; have HM := HN; clear HN) | (refine m_box (x := .tmp 1) (by repeat (first | exact HM.out | apply Blks.drewN | apply Blks.drew | apply Blks.other)) (h := ?_); intro bb wq HN; clear HM; have HM := HN; clear HN))
        have HQ1 := Lib.hid (fun d os => Calls.regrown_of (HR1.out (grow (redrawn wq d) os)))
        have HQ2 := Lib.hid (fun d os => Calls.regrown_of (HR2.out (grow (redrawn wq d) os)))
        have f0 := fun d os => cell_regrown (Blks.cell HM.out (b := ba) (o := 0) (by repeat (first | exact List.Mem.head _ | apply List.Mem.tail)) (by repeat (first | exact Rd.nil | apply Rd.here | apply Rd.skip))) d os
        have f1 := fun d os => cell_regrown (Blks.cell HM.out (b := ba) (o := 1) (by repeat (first | exact List.Mem.head _ | apply List.Mem.tail)) (by repeat (first | exact Rd.nil | apply Rd.here | apply Rd.skip))) d os
        have f2 := fun d os => cell_regrown (Blks.cell HM.out (b := ba) (o := 2) (by repeat (first | exact List.Mem.head _ | apply List.Mem.tail)) (by repeat (first | exact Rd.nil | apply Rd.here | apply Rd.skip))) d os
        have g0 := fun d os => cell_regrown (Blks.cell HM.out (b := bb) (o := 0) (by repeat (first | exact List.Mem.head _ | apply List.Mem.tail)) (by repeat (first | exact Rd.nil | apply Rd.here | apply Rd.skip))) d os
        have g1 := fun d os => cell_regrown (Blks.cell HM.out (b := bb) (o := 1) (by repeat (first | exact List.Mem.head _ | apply List.Mem.tail)) (by repeat (first | exact Rd.nil | apply Rd.here | apply Rd.skip))) d os
        have g2 := fun d os => cell_regrown (Blks.cell HM.out (b := bb) (o := 2) (by repeat (first | exact List.Mem.head _ | apply List.Mem.tail)) (by repeat (first | exact Rd.nil | apply Rd.here | apply Rd.skip))) d os
        refine wp_region_quiet_below (by kernel_rfl) (by kernel_rfl) ?_
        repeat (go_big_quiet_step (first | (with_reducible exact HQ1.out _ _) | (with_reducible exact HQ2.out _ _)))
        refine wpQuiet_nil ?_
        intro _ hw'
        obtain ⟨⟨dq, osq⟩, hw''⟩ := hw'
        subst hw''
        have HN := Aside0.mk (Blks.call HM.out (below_regrown _ dq osq)); clear HM; have HM := HN; clear HN
        clear f0 f1 f2 g0 g1 g2
        generalize grow (redrawn _ dq) osq = wz at *
        clear HQ1 HQ2
        go_wp2_with (first | (refine m_load (by repeat (first | exact HM.out | apply Blks.drewN | apply Blks.drew | apply Blks.other)) (h := ?_)) | (refine m_load1 (by repeat (first | exact HM.out | apply Blks.drewN | apply Blks.drew | apply Blks.other)) (h := ?_)) | (go_at_call 44; ((with_reducible refine (HTY.out _).mono ?_); rintro e w2 ⟨rfl, hb⟩; have HN := Aside0.mk (Blks.call (by repeat (first | exact HM.out | apply Blks.drewN | apply Blks.drew | apply Blks.other)) hb); clear HM hb; have HM := HN; clear HN)) | (go_at_call 105; ((with_reducible refine (HS.out _ _).mono ?_); rintro e w' ⟨rfl, ⟨nq, rfl⟩⟩; simp only [if_true, if_false, Bool.false_eq_true, reduceCtorEq, ite_true, ite_false]; have HN := Aside0.mk (Blks.drewN (by repeat (first | exact HM.out | apply Blks.drewN | apply Blks.drew | apply Blks.other)) nq); clear HM; have HM := HN; clear HN)))
        go_ret
        exact ⟨rfl, HM.out.bel⟩
  · skip
    by_cases he : t1.toList = t2.toList
    · have c1 : (t1.toList == t2.toList) = true := beq_iff_eq.2 he
      rw [if_pos he]
      clear he
      go_enter Tryz.func84, Tryz.ntmps84
      go_upto_region 1 with (first | (refine m_box (x := .tmp 0) (by repeat (first | exact HM.out | apply Blks.drewN | apply Blks.drew | apply Blks.other)) (h := ?_); intro ba wq HN; clear HM; have HM := HN; clear HN) | (refine m_box (x := .tmp 1) (by repeat (first | exact HM.out | apply Blks.drewN | apply Blks.drew | apply Blks.other)) (h := ?_); intro bb wq HN; clear HM; have HM := HN; clear HN))
      have HQ1 := Lib.hid (fun d os => Calls.regrown_of (HR1.out (grow (redrawn wq d) os)))
      have HQ2 := Lib.hid (fun d os => Calls.regrown_of (HR2.out (grow (redrawn wq d) os)))
      have f0 := fun d os => cell_regrown (Blks.cell HM.out (b := ba) (o := 0) (by repeat (first | exact List.Mem.head _ | apply List.Mem.tail)) (by repeat (first | exact Rd.nil | apply Rd.here | apply Rd.skip))) d os
      have f1 := fun d os => cell_regrown (Blks.cell HM.out (b := ba) (o := 1) (by repeat (first | exact List.Mem.head _ | apply List.Mem.tail)) (by repeat (first | exact Rd.nil | apply Rd.here | apply Rd.skip))) d os
      have f2 := fun d os => cell_regrown (Blks.cell HM.out (b := ba) (o := 2) (by repeat (first | exact List.Mem.head _ | apply List.Mem.tail)) (by repeat (first | exact Rd.nil | apply Rd.here | apply Rd.skip))) d os
      have g0 := fun d os => cell_regrown (Blks.cell HM.out (b := bb) (o := 0) (by repeat (first | exact List.Mem.head _ | apply List.Mem.tail)) (by repeat (first | exact Rd.nil | apply Rd.here | apply Rd.skip))) d os
      have g1 := fun d os => cell_regrown (Blks.cell HM.out (b := bb) (o := 1) (by repeat (first | exact List.Mem.head _ | apply List.Mem.tail)) (by repeat (first | exact Rd.nil | apply Rd.here | apply Rd.skip))) d os
      have g2 := fun d os => cell_regrown (Blks.cell HM.out (b := bb) (o := 2) (by repeat (first | exact List.Mem.head _ | apply List.Mem.tail)) (by repeat (first | exact Rd.nil | apply Rd.here | apply Rd.skip))) d os
      refine wp_region_quiet_below (by kernel_rfl) (by kernel_rfl) ?_
      repeat (go_big_quiet_step (first | (with_reducible exact HQ1.out _ _) | (with_reducible exact HQ2.out _ _)))
      refine wpQuiet_nil ?_
      intro _ hw'
      obtain ⟨⟨dq, osq⟩, hw''⟩ := hw'
      subst hw''
      have HN := Aside0.mk (Blks.call HM.out (below_regrown _ dq osq)); clear HM; have HM := HN; clear HN
      clear f0 f1 f2 g0 g1 g2
      generalize grow (redrawn _ dq) osq = wz at *
      clear HQ1 HQ2
      go_wp2_with (first | (refine m_load (by repeat (first | exact HM.out | apply Blks.drewN | apply Blks.drew | apply Blks.other)) (h := ?_)) | (refine m_load1 (by repeat (first | exact HM.out | apply Blks.drewN | apply Blks.drew | apply Blks.other)) (h := ?_)) | (go_at_call 44; ((with_reducible refine (HTY.out _).mono ?_); rintro e w2 ⟨rfl, hb⟩; have HN := Aside0.mk (Blks.call (by repeat (first | exact HM.out | apply Blks.drewN | apply Blks.drew | apply Blks.other)) hb); clear HM hb; have HM := HN; clear HN)) | (go_at_call 105; ((with_reducible refine (HS.out _ _).mono ?_); rintro e w' ⟨rfl, ⟨nq, rfl⟩⟩; simp only [if_true, if_false, Bool.false_eq_true, reduceCtorEq, ite_true, ite_false]; have HN := Aside0.mk (Blks.drewN (by repeat (first | exact HM.out | apply Blks.drewN | apply Blks.drew | apply Blks.other)) nq); clear HM; have HM := HN; clear HN)))
      go_ret
      exact ⟨rfl, HM.out.bel⟩
    · have c1 : (t1.toList == t2.toList) = false := beq_eq_false_iff_ne.2 he
      rw [if_neg he]
      clear he
      cases c2 : Op.bytesLess t1.toList t2.toList
      · rw [if_neg (by decide)]
        go_enter Tryz.func84, Tryz.ntmps84
        go_upto_region 1 with (first | (refine m_box (x := .tmp 0) (by repeat (first | exact HM.out | apply Blks.drewN | apply Blks.drew | apply Blks.other)) (h := ?_); intro ba wq HN; clear HM; have HM := HN; clear HN) | (refine m_box (x := .tmp 1) (by repeat (first | exact HM.out | apply Blks.drewN | apply Blks.drew | apply Blks.other)) (h := ?_); intro bb wq HN; clear HM; have HM := HN; clear HN))
        have HQ1 := Lib.hid (fun d os => Calls.regrown_of (HR1.out (grow (redrawn wq d) os)))
        have HQ2 := Lib.hid (fun d os => Calls.regrown_of (HR2.out (grow (redrawn wq d) os)))
        have f0 := fun d os => cell_regrown (Blks.cell HM.out (b := ba) (o := 0) (by repeat (first | exact List.Mem.head _ | apply List.Mem.tail)) (by repeat (first | exact Rd.nil | apply Rd.here | apply Rd.skip))) d os
        have f1 := fun d os => cell_regrown (Blks.cell HM.out (b := ba) (o := 1) (by repeat (first | exact List.Mem.head _ | apply List.Mem.tail)) (by repeat (first | exact Rd.nil | apply Rd.here | apply Rd.skip))) d os
        have f2 := fun d os => cell_regrown (Blks.cell HM.out (b := ba) (o := 2) (by repeat (first | exact List.Mem.head _ | apply List.Mem.tail)) (by repeat (first | exact Rd.nil | apply Rd.here | apply Rd.skip))) d os
        have g0 := fun d os => cell_regrown (Blks.cell HM.out (b := bb) (o := 0) (by repeat (first | exact List.Mem.head _ | apply List.Mem.tail)) (by repeat (first | exact Rd.nil | apply Rd.here | apply Rd.skip))) d os
        have g1 := fun d os => cell_regrown (Blks.cell HM.out (b := bb) (o := 1) (by repeat (first | exact List.Mem.head _ | apply List.Mem.tail)) (by repeat (first | exact Rd.nil | apply Rd.here | apply Rd.skip))) d os
        have g2 := fun d os => cell_regrown (Blks.cell HM.out (b := bb) (o := 2) (by repeat (first | exact List.Mem.head _ | apply List.Mem.tail)) (by repeat (first | exact Rd.nil | apply Rd.here | apply Rd.skip))) d os
        refine wp_region_quiet_below (by kernel_rfl) (by kernel_rfl) ?_
        repeat (go_big_quiet_step (first | (with_reducible exact HQ1.out _ _) | (with_reducible exact HQ2.out _ _)))
        refine wpQuiet_nil ?_
        intro _ hw'
        obtain ⟨⟨dq, osq⟩, hw''⟩ := hw'
        subst hw''
        have HN := Aside0.mk (Blks.call HM.out (below_regrown _ dq osq)); clear HM; have HM := HN; clear HN
        clear f0 f1 f2 g0 g1 g2
        generalize grow (redrawn _ dq) osq = wz at *
        clear HQ1 HQ2
        go_wp2_with (first | (refine m_load (by repeat (first | exact HM.out | apply Blks.drewN | apply Blks.drew | apply Blks.other)) (h := ?_)) | (refine m_load1 (by repeat (first | exact HM.out | apply Blks.drewN | apply Blks.drew | apply Blks.other)) (h := ?_)) | (go_at_call 44; ((with_reducible refine (HTY.out _).mono ?_); rintro e w2 ⟨rfl, hb⟩; have HN := Aside0.mk (Blks.call (by repeat (first | exact HM.out | apply Blks.drewN | apply Blks.drew | apply Blks.other)) hb); clear HM hb; have HM := HN; clear HN)) | (go_at_call 105; ((with_reducible refine (HS.out _ _).mono ?_); rintro e w' ⟨rfl, ⟨nq, rfl⟩⟩; simp only [if_true, if_false, Bool.false_eq_true, reduceCtorEq, ite_true, ite_false]; have HN := Aside0.mk (Blks.drewN (by repeat (first | exact HM.out | apply Blks.drewN | apply Blks.drew | apply Blks.other)) nq); clear HM; have HM := HN; clear HN)))
        go_ret
        exact ⟨rfl, HM.out.bel⟩
      · rw [if_pos rfl]
        go_enter Tryz.func84, Tryz.ntmps84
        go_upto_region 1 with (first | (refine m_box (x := .tmp 0) (by repeat (first | exact HM.out | apply Blks.drewN | apply Blks.drew | apply Blks.other)) (h := ?_); intro ba wq HN; clear HM; have HM := HN; clear HN) | (refine m_box (x := .tmp 1) (by repeat (first | exact HM.out | apply Blks.drewN | apply Blks.drew | apply Blks.other)) (h := ?_); intro bb wq HN; clear HM; have HM := HN; clear HN))
        have HQ1 := Lib.hid (fun d os => Calls.regrown_of (HR1.out (grow (redrawn wq d) os)))
        have HQ2 := Lib.hid (fun d os => Calls.regrown_of (HR2.out (grow (redrawn wq d) os)))
        have f0 := fun d os => cell_regrown (Blks.cell HM.out (b := ba) (o := 0) (by repeat (first | exact List.Mem.head _ | apply List.Mem.tail)) (by repeat (first | exact Rd.nil | apply Rd.here | apply Rd.skip))) d os
        have f1 := fun d os => cell_regrown (Blks.cell HM.out (b := ba) (o := 1) (by repeat (first | exact List.Mem.head _ | apply List.Mem.tail)) (by repeat (first | exact Rd.nil | apply Rd.here | apply Rd.skip))) d os
        have f2 := fun d os => cell_regrown (Blks.cell HM.out (b := ba) (o := 2) (by repeat (first | exact List.Mem.head _ | apply List.Mem.tail)) (by repeat (first | exact Rd.nil | apply Rd.here | apply Rd.skip))) d os
        have g0 := fun d os => cell_regrown (Blks.cell HM.out (b := bb) (o := 0) (by repeat (first | exact List.Mem.head _ | apply List.Mem.tail)) (by repeat (first | exact Rd.nil | apply Rd.here | apply Rd.skip))) d os
        have g1 := fun d os => cell_regrown (Blks.cell HM.out (b := bb) (o := 1) (by repeat (first | exact List.Mem.head _ | apply List.Mem.tail)) (by repeat (first | exact Rd.nil | apply Rd.here | apply Rd.skip))) d os
        have g2 := fun d os => cell_regrown (Blks.cell HM.out (b := bb) (o := 2) (by repeat (first | exact List.Mem.head _ | apply List.Mem.tail)) (by repeat (first | exact Rd.nil | apply Rd.here | apply Rd.skip))) d os
        refine wp_region_quiet_below (by kernel_rfl) (by kernel_rfl) ?_
        repeat (go_big_quiet_step (first | (with_reducible exact HQ1.out _ _) | (with_reducible exact HQ2.out _ _)))
        refine wpQuiet_nil ?_
        intro _ hw'
        obtain ⟨⟨dq, osq⟩, hw''⟩ := hw'
        subst hw''
        have HN := Aside0.mk (Blks.call HM.out (below_regrown _ dq osq)); clear HM; have HM := HN; clear HN
        clear f0 f1 f2 g0 g1 g2
        generalize grow (redrawn _ dq) osq = wz at *
        clear HQ1 HQ2
        go_wp2_with (first | (refine m_load (by repeat (first | exact HM.out | apply Blks.drewN | apply Blks.drew | apply Blks.other)) (h := ?_)) | (refine m_load1 (by repeat (first | exact HM.out | apply Blks.drewN | apply Blks.drew | apply Blks.other)) (h := ?_)) | (go_at_call 44; ((with_reducible refine (HTY.out _).mono ?_); rintro e w2 ⟨rfl, hb⟩; have HN := Aside0.mk (Blks.call (by repeat (first | exact HM.out | apply Blks.drewN | apply Blks.drew | apply Blks.other)) hb); clear HM hb; have HM := HN; clear HN)) | (go_at_call 105; ((with_reducible refine (HS.out _ _).mono ?_); rintro e w' ⟨rfl, ⟨nq, rfl⟩⟩; simp only [if_true, if_false, Bool.false_eq_true, reduceCtorEq, ite_true, ite_false]; have HN := Aside0.mk (Blks.drewN (by repeat (first | exact HM.out | apply Blks.drewN | apply Blks.drew | apply Blks.other)) nq); clear HM; have HM := HN; clear HN)))
        go_ret
        exact ⟨rfl, HM.out.bel⟩
set_option maxRecDepth 20000 in
set_option maxHeartbeats 8000000 in
theorem vo_branch (k1 k2 : Int) (t1 r1 t2 r2 : ByteArray) (down : Bool) (hk1 : 0 ≤ k1 ∧ k1 ≤ 3) (hk2 : 0 ≤ k2 ∧ k2 ≤ 3) (ht1 : t1.size ≤ 100000) (ht2 : t2.size ≤ 100000) (w : World) (x : Int) (hx : rankS k1 t1 = x) (hy : rankS k2 t2 = x) (hz : typS k1 t1 = 3) (b : Bool) (hb1 : (k1 == 2) = b) (hb2 : (k2 == 2) = !b) :
    Calls Tryz.prog 84 #[.agg #[.int .i64 k1, .string t1, .string r1], .agg #[.int .i64 k2, .string t2, .string r2], .bool down] w fun e w' => e = .returned (.int .i64 (if b = true then -1 else 1)) ∧ Below w.heap.size w w' := by
  have HS := Lib.hid (fun b W => vsign_any b W)
  have HM := Aside0.mk (Blks.start w)
  have HR1 := Lib.hid (fun W => rank_any k1 t1 r1 hk1 ht1 W)
  have HR2 := Lib.hid (fun W => rank_any k2 t2 r2 hk2 ht2 W)
  rw [hx] at HR1
  rw [hy] at HR2
  have hty := fun W => type_any k1 t1 r1 hk1 ht1 W
  simp only [hz] at hty
  have HTY := Lib.hid hty
  clear hk1 hk2 ht1 ht2 hx hy hz hty
  cases b
  · rw [if_neg (by decide)]
    simp only [Bool.not_false] at hb2
    go_enter Tryz.func84, Tryz.ntmps84
    go_upto_region 1 with (first | (refine m_box (x := .tmp 0) (by repeat (first | exact HM.out | apply Blks.drewN | apply Blks.drew | apply Blks.other)) (h := ?_); intro ba wq HN; clear HM; have HM := HN; clear HN) | (refine m_box (x := .tmp 1) (by repeat (first | exact HM.out | apply Blks.drewN | apply Blks.drew | apply Blks.other)) (h := ?_); intro bb wq HN; clear HM; have HM := HN; clear HN))
    have HQ1 := Lib.hid (fun d os => Calls.regrown_of (HR1.out (grow (redrawn wq d) os)))
    have HQ2 := Lib.hid (fun d os => Calls.regrown_of (HR2.out (grow (redrawn wq d) os)))
    have f0 := fun d os => cell_regrown (Blks.cell HM.out (b := ba) (o := 0) (by repeat (first | exact List.Mem.head _ | apply List.Mem.tail)) (by repeat (first | exact Rd.nil | apply Rd.here | apply Rd.skip))) d os
    have f1 := fun d os => cell_regrown (Blks.cell HM.out (b := ba) (o := 1) (by repeat (first | exact List.Mem.head _ | apply List.Mem.tail)) (by repeat (first | exact Rd.nil | apply Rd.here | apply Rd.skip))) d os
    have f2 := fun d os => cell_regrown (Blks.cell HM.out (b := ba) (o := 2) (by repeat (first | exact List.Mem.head _ | apply List.Mem.tail)) (by repeat (first | exact Rd.nil | apply Rd.here | apply Rd.skip))) d os
    have g0 := fun d os => cell_regrown (Blks.cell HM.out (b := bb) (o := 0) (by repeat (first | exact List.Mem.head _ | apply List.Mem.tail)) (by repeat (first | exact Rd.nil | apply Rd.here | apply Rd.skip))) d os
    have g1 := fun d os => cell_regrown (Blks.cell HM.out (b := bb) (o := 1) (by repeat (first | exact List.Mem.head _ | apply List.Mem.tail)) (by repeat (first | exact Rd.nil | apply Rd.here | apply Rd.skip))) d os
    have g2 := fun d os => cell_regrown (Blks.cell HM.out (b := bb) (o := 2) (by repeat (first | exact List.Mem.head _ | apply List.Mem.tail)) (by repeat (first | exact Rd.nil | apply Rd.here | apply Rd.skip))) d os
    refine wp_region_quiet_below (by kernel_rfl) (by kernel_rfl) ?_
    repeat (go_big_quiet_step (first | (with_reducible exact HQ1.out _ _) | (with_reducible exact HQ2.out _ _)))
    refine wpQuiet_nil ?_
    intro _ hw'
    obtain ⟨⟨dq, osq⟩, hw''⟩ := hw'
    subst hw''
    have HN := Aside0.mk (Blks.call HM.out (below_regrown _ dq osq)); clear HM; have HM := HN; clear HN
    clear f0 f1 f2 g0 g1 g2
    generalize grow (redrawn _ dq) osq = wz at *
    clear HQ1 HQ2
    go_wp2_with (first | (refine m_load (by repeat (first | exact HM.out | apply Blks.drewN | apply Blks.drew | apply Blks.other)) (h := ?_)) | (refine m_load1 (by repeat (first | exact HM.out | apply Blks.drewN | apply Blks.drew | apply Blks.other)) (h := ?_)) | (go_at_call 44; ((with_reducible refine (HTY.out _).mono ?_); rintro e w2 ⟨rfl, hb⟩; have HN := Aside0.mk (Blks.call (by repeat (first | exact HM.out | apply Blks.drewN | apply Blks.drew | apply Blks.other)) hb); clear HM hb; have HM := HN; clear HN)) | (go_at_call 105; ((with_reducible refine (HS.out _ _).mono ?_); rintro e w' ⟨rfl, ⟨nq, rfl⟩⟩; simp only [if_true, if_false, Bool.false_eq_true, reduceCtorEq, ite_true, ite_false]; have HN := Aside0.mk (Blks.drewN (by repeat (first | exact HM.out | apply Blks.drewN | apply Blks.drew | apply Blks.other)) nq); clear HM; have HM := HN; clear HN)))
    go_ret
    exact ⟨rfl, HM.out.bel⟩
  · rw [if_pos rfl]
    simp only [Bool.not_true] at hb2
    go_enter Tryz.func84, Tryz.ntmps84
    go_upto_region 1 with (first | (refine m_box (x := .tmp 0) (by repeat (first | exact HM.out | apply Blks.drewN | apply Blks.drew | apply Blks.other)) (h := ?_); intro ba wq HN; clear HM; have HM := HN; clear HN) | (refine m_box (x := .tmp 1) (by repeat (first | exact HM.out | apply Blks.drewN | apply Blks.drew | apply Blks.other)) (h := ?_); intro bb wq HN; clear HM; have HM := HN; clear HN))
    have HQ1 := Lib.hid (fun d os => Calls.regrown_of (HR1.out (grow (redrawn wq d) os)))
    have HQ2 := Lib.hid (fun d os => Calls.regrown_of (HR2.out (grow (redrawn wq d) os)))
    have f0 := fun d os => cell_regrown (Blks.cell HM.out (b := ba) (o := 0) (by repeat (first | exact List.Mem.head _ | apply List.Mem.tail)) (by repeat (first | exact Rd.nil | apply Rd.here | apply Rd.skip))) d os
    have f1 := fun d os => cell_regrown (Blks.cell HM.out (b := ba) (o := 1) (by repeat (first | exact List.Mem.head _ | apply List.Mem.tail)) (by repeat (first | exact Rd.nil | apply Rd.here | apply Rd.skip))) d os
    have f2 := fun d os => cell_regrown (Blks.cell HM.out (b := ba) (o := 2) (by repeat (first | exact List.Mem.head _ | apply List.Mem.tail)) (by repeat (first | exact Rd.nil | apply Rd.here | apply Rd.skip))) d os
    have g0 := fun d os => cell_regrown (Blks.cell HM.out (b := bb) (o := 0) (by repeat (first | exact List.Mem.head _ | apply List.Mem.tail)) (by repeat (first | exact Rd.nil | apply Rd.here | apply Rd.skip))) d os
    have g1 := fun d os => cell_regrown (Blks.cell HM.out (b := bb) (o := 1) (by repeat (first | exact List.Mem.head _ | apply List.Mem.tail)) (by repeat (first | exact Rd.nil | apply Rd.here | apply Rd.skip))) d os
    have g2 := fun d os => cell_regrown (Blks.cell HM.out (b := bb) (o := 2) (by repeat (first | exact List.Mem.head _ | apply List.Mem.tail)) (by repeat (first | exact Rd.nil | apply Rd.here | apply Rd.skip))) d os
    refine wp_region_quiet_below (by kernel_rfl) (by kernel_rfl) ?_
    repeat (go_big_quiet_step (first | (with_reducible exact HQ1.out _ _) | (with_reducible exact HQ2.out _ _)))
    refine wpQuiet_nil ?_
    intro _ hw'
    obtain ⟨⟨dq, osq⟩, hw''⟩ := hw'
    subst hw''
    have HN := Aside0.mk (Blks.call HM.out (below_regrown _ dq osq)); clear HM; have HM := HN; clear HN
    clear f0 f1 f2 g0 g1 g2
    generalize grow (redrawn _ dq) osq = wz at *
    clear HQ1 HQ2
    go_wp2_with (first | (refine m_load (by repeat (first | exact HM.out | apply Blks.drewN | apply Blks.drew | apply Blks.other)) (h := ?_)) | (refine m_load1 (by repeat (first | exact HM.out | apply Blks.drewN | apply Blks.drew | apply Blks.other)) (h := ?_)) | (go_at_call 44; ((with_reducible refine (HTY.out _).mono ?_); rintro e w2 ⟨rfl, hb⟩; have HN := Aside0.mk (Blks.call (by repeat (first | exact HM.out | apply Blks.drewN | apply Blks.drew | apply Blks.other)) hb); clear HM hb; have HM := HN; clear HN)) | (go_at_call 105; ((with_reducible refine (HS.out _ _).mono ?_); rintro e w' ⟨rfl, ⟨nq, rfl⟩⟩; simp only [if_true, if_false, Bool.false_eq_true, reduceCtorEq, ite_true, ite_false]; have HN := Aside0.mk (Blks.drewN (by repeat (first | exact HM.out | apply Blks.drewN | apply Blks.drew | apply Blks.other)) nq); clear HM; have HM := HN; clear HN)))
    go_ret
    exact ⟨rfl, HM.out.bel⟩
end Go.Proofs.YtgoeiflddikihaaGreatDoor.Ver
end
