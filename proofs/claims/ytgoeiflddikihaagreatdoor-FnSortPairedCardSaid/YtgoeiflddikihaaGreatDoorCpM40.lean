/- Merged by program out of: SpecD. -/
import Derived.Test.YtgoeiflddikihaaGreatDoorCpM37
import Derived.Test.YtgoeiflddikihaaGreatDoorCpM36
import Derived.Deep.Cut
import Derived.Deep.CutRange
import Derived.Deep.RegionWith
import Derived.Test.YtgoeiflddikihaaGreatDoorCpM6
section
namespace Go.Proofs.YtgoeiflddikihaaGreatDoor.Ver
set_option linter.unusedSimpArgs false
set_option linter.unusedVariables false
open Go.Sort Go.RowKit Go.Proofs.YtgoeiflddikihaaGreatDoor.Dig Go.Proofs.YtgoeiflddikihaaGreatDoorW.PrintWords Go.Proofs.YtgoeiflddikihaaGreatDoor.Mem Go.Proofs.YtgoeiflddikihaaGreatDoor.Ord
theorem PreOk.val {pp : List ByteArray} {P : Value} {X : List Blk} (h : PreOk pp P X) : ∃ A c, P = .slice A pp.length c := by
 rcases h with ⟨rfl, rfl, _⟩ | ⟨g, cap, rest, rfl, _⟩ <;> exact ⟨_, _, rfl⟩
theorem PreOk.strsIn {pp : List ByteArray} {P : Value} {X L : List Blk} {w0 w : World} (h : PreOk pp P X) (H : Blks w0 w L) (hs : ∀ x ∈ X, x ∈ L) : StrsAt 9 w w0.heap.size P pp := by
 rcases h with ⟨rfl, rfl, rfl⟩ | ⟨g, cap, rest, rfl, rfl⟩
 ·exact Or.inl ⟨rfl, rfl⟩
 ·exact Blks.strs H (hs _ (List.mem_singleton.2 rfl))
theorem sem_ok {l : List UInt8} {ns : List Nat} {pre mt : List UInt8} (h : qSemB0 l = some (ns, pre, mt)) : (pre = [] ∨ qIdentsB pre = true) ∧ pre.length ≤ l.length := by
 unfold qSemB0 at h
 simp only at h
 split at h
 ·cases h
 ·split at h
  ·cases h
  ·rename_i mt' hm pre' hp
   split at h
   ·cases h
   ·split at h
    ·cases h
    ·simp only [Option.some.injEq, Prod.mk.injEq] at h
     obtain ⟨_, rfl, _⟩ := h
     have h1 := qCutAt_len 43 (bare0 l)
     have h2 := qCutAt_len 45 (qCutAt 43 (bare0 l)).1
     have h3 := bare0_len l
     unfold qOptB at hp
     split at hp
     ·simp only [Option.some.injEq] at hp; subst hp; simp
     ·rename_i p hq
      split at hp
      ·simp only [Option.some.injEq] at hp
       subst hp
       exact ⟨Or.inr (by assumption), by have := h2.2 p hq; omega⟩
      ·cases hp
theorem sv_ok (t : ByteArray) : ((svOf t).pre.data.toList = [] ∨ qIdentsB (svOf t).pre.data.toList = true) ∧ (svOf t).pre.size ≤ t.size := by
 unfold svOf
 cases hq : qSemB0 t.data.toList with
 | none => exact ⟨Or.inl rfl, Nat.zero_le _⟩
 | some q =>
  obtain ⟨ns, pre, mt⟩ := q
  have := sem_ok hq
  exact ⟨this.1, by rw [mkB_size, ← list_size]; exact this.2⟩
set_option maxRecDepth 20000 in
set_option maxHeartbeats 8000000 in
theorem vo_sem (k1 k2 : Int) (t1 r1 t2 r2 : ByteArray) (down : Bool) (hk1 : 0 ≤ k1 ∧ k1 ≤ 3) (hk2 : 0 ≤ k2 ∧ k2 ≤ 3) (ht1 : t1.size ≤ 100000) (ht2 : t2.size ≤ 100000) (w : World) (x : Int) (hx : rankS k1 t1 = x) (hy : rankS k2 t2 = x) (hz : typS k1 t1 = 2) (h1 : (qSemB0 t1.data.toList).isSome = true) (h2 : (qSemB0 t2.data.toList).isSome = true) (v1 v2 : SV) (c1 c2 : Nat) (hv1 : svOf t1 = v1) (hv2 : svOf t2 = v2) (hc1 : cntOf t1 = c1) (hc2 : cntOf t2 = c2) (r : Int) (hr : r = if (((preParts v1.pre.data.toList).map mkB).length = 0 ↔ ((preParts v2.pre.data.toList).map mkB).length = 0) then (if down = true then cmpV v1 v2 else -cmpV v1 v2) else if ((preParts v1.pre.data.toList).map mkB).length = 0 then -1 else 1) :
  Calls Tryz.prog 84 #[.agg #[.int .i64 k1, .string t1, .string r1], .agg #[.int .i64 k2, .string t2, .string r2], .bool down] w fun e w' => e = .returned (.int .i64 (r)) ∧ Below w.heap.size w w' := by
 have HS := Lib.hid (fun b W => vsign_any b W)
 have HM := Aside0.mk (Blks.start w)
 have HR1 := Lib.hid (fun W => rank_any k1 t1 r1 hk1 ht1 W)
 have HR2 := Lib.hid (fun W => rank_any k2 t2 r2 hk2 ht2 W)
 have hV1 := fun W => versem_any k1 t1 r1 ht1 h1 W
 have hV2 := fun W => versem_any k2 t2 r2 ht2 h2 W
 rw [hv1, hc1] at hV1
 rw [hv2, hc2] at hV2
 have o1 := sv_ok t1
 have o2 := sv_ok t2
 rw [hv1] at o1
 rw [hv2] at o2
 have hso : ∀ (W : World) (A1 A2 : Option Addr) (q1 q2 : Nat), StrsAt 9 W w.heap.size (.slice A1 ((preParts v1.pre.data.toList).map mkB).length q1) ((preParts v1.pre.data.toList).map mkB) → StrsAt 9 W w.heap.size (.slice A2 ((preParts v2.pre.data.toList).map mkB).length q2) ((preParts v2.pre.data.toList).map mkB) → Calls Tryz.prog 82 #[.agg #[.int .u64 v1.major, .int .u64 v1.minor, .int .u64 v1.patch, .int .i64 c1, .slice A1 ((preParts v1.pre.data.toList).map mkB).length q1, .string v1.mt], .agg #[.int .u64 v2.major, .int .u64 v2.minor, .int .u64 v2.patch, .int .i64 c2, .slice A2 ((preParts v2.pre.data.toList).map mkB).length q2, .string v2.mt]] W fun e w' => e = .returned (.int .i64 (cmpV v1 v2)) ∧ RowKit.Below W.heap.size W w' :=
  fun W A1 A2 q1 q2 h1 h2 => sem_order v1 v2 c1 c2 _ _ W w.heap.size ⟨_, rfl, h1⟩ ⟨_, rfl, h2⟩ o1.1 o2.1 (by omega) (by omega)
 clear o1 o2
 have HV1 := Lib.hid hV1
 have HV2 := Lib.hid hV2
 clear hV1 hV2 hv1 hv2 hc1 hc2 h1 h2
 rw [hx] at HR1
 rw [hy] at HR2
 have hty := fun W => type_any k1 t1 r1 hk1 ht1 W
 simp only [hz] at hty
 have HTY := Lib.hid hty
 clear hk1 hk2 ht1 ht2 hx hy hz hty
 obtain ⟨pp1, hp1⟩ : ∃ p, p = (preParts v1.pre.data.toList).map mkB := ⟨_, rfl⟩
 obtain ⟨pp2, hp2⟩ : ∃ p, p = (preParts v2.pre.data.toList).map mkB := ⟨_, rfl⟩
 unfold SemAt at HV1 HV2
 rw [← hp1] at HV1 hso hr
 rw [← hp2] at HV2 hso hr
 clear hp1 hp2
 have HSO0 := Lib.hid hso
 have HR := Lib.hid hr
 clear hso hr
 have hcv := cmpV_val v1 v2
 have hb1 : -1 ≤ cmpV v1 v2 := by omega
 have hb2 : cmpV v1 v2 ≤ 1 := by omega
 clear hcv
 generalize cmpV v1 v2 = cv at *
 go_enter Tryz.func84, Tryz.ntmps84
 go_upto_region 1 with (first | (refine m_box (x := .tmp 0) (by repeat (first | exact HM.out | apply Blks.drewN | apply Blks.drew | apply Blks.other)) (h := ?_); intro ba wq HN; clear HM; have HM := HN; clear HN) | (refine m_box (x := .tmp 1) (by repeat (first | exact HM.out | apply Blks.drewN | apply Blks.drew | apply Blks.other)) (h := ?_); intro bb wq HN; clear HM; have HM := HN; clear HN))
 have HQ1 := Lib.hid (fun d os => Calls.regrown_of (HR1.out (grow (redrawn wq d) os)))
 have HQ2 := Lib.hid (fun d os => Calls.regrown_of (HR2.out (grow (redrawn wq d) os)))
 have f0 := fun d os => cell_regrown (Blks.cell HM.out (b := ba) (o := 0) (by repeat (first | exact List.Mem.head _ | apply List.Mem.tail)) (by repeat (first | exact Rd.nil | apply Rd.here | apply Rd.skip))) d os
 have f1 := fun d os => cell_regrown (Blks.cell HM.out (b := ba) (o := 1) (by repeat (first | exact List.Mem.head _ | apply List.Mem.tail)) (by repeat (first | exact Rd.nil | apply Rd.here | apply Rd.skip))) d os
 have f2 := fun d os => cell_regrown (Blks.cell HM.out (b := ba) (o := 2) (by repeat (first | exact List.Mem.head _ | apply List.Mem.tail)) (by repeat (first | exact Rd.nil | apply Rd.here | apply Rd.skip))) d os
 have g0 := fun d os => cell_regrown (Blks.cell HM.out (b := bb) (o := 0) (by repeat (first | exact List.Mem.head _ | apply List.Mem.tail)) (by repeat (first | exact Rd.nil | apply Rd.here | apply Rd.skip))) d os
 have g1 := fun d os => cell_regrown (Blks.cell HM.out (b := bb) (o := 1) (by repeat (first | exact List.Mem.head _ | apply List.Mem.tail)) (by repeat (first | exact Rd.nil | apply Rd.here | apply Rd.skip))) d os
 have g2 := fun d os => cell_regrown (Blks.cell HM.out (b := bb) (o := 2) (by repeat (first | exact List.Mem.head _ | apply List.Mem.tail)) (by repeat (first | exact Rd.nil | apply Rd.here | apply Rd.skip))) d os
 refine wp_region_quiet_below (by kernel_rfl) (by kernel_rfl) ?_
 repeat (go_big_quiet_step (first | (with_reducible exact HQ1.out _ _) | (with_reducible exact HQ2.out _ _)))
 refine wpQuiet_nil ?_
 intro _ hw'
 obtain ⟨⟨dq, osq⟩, hw''⟩ := hw'
 subst hw''
 have HN := Aside0.mk (Blks.call HM.out (below_regrown _ dq osq)); clear HM; have HM := HN; clear HN
 clear f0 f1 f2 g0 g1 g2
 generalize grow (redrawn _ dq) osq = wz at *
 clear HQ1 HQ2
 go_upto_region 6 with (first | (refine m_load (by repeat (first | exact HM.out | apply Blks.drewN | apply Blks.drew | apply Blks.other)) (h := ?_)) | (go_at_call 44; ((with_reducible refine (HTY.out _).mono ?_); rintro e w2 ⟨rfl, hb⟩; have HN := Aside0.mk (Blks.call (by repeat (first | exact HM.out | apply Blks.drewN | apply Blks.drew | apply Blks.other)) hb); clear HM hb; have HM := HN; clear HN)))
 go_cut [9, 10] from 9 to 30 (fun v9 v10 wx => ∃ b9 b10 P1 P2 X1 X2, v9 = .pointer (some ⟨b9, 0, none⟩) ∧ v10 = .pointer (some ⟨b10, 0, none⟩) ∧ PreOk pp1 P1 X1 ∧ PreOk pp2 P2 X2 ∧ Aside0 (Blks w wx ((b9, [.int .u64 v1.major, .int .u64 v1.minor, .int .u64 v1.patch, .int .i64 c1, P1, .string v1.mt], 50) :: (b10, [.int .u64 v2.major, .int .u64 v2.minor, .int .u64 v2.patch, .int .i64 c2, P2, .string v2.mt], 50) :: (bb, [.int .i64 k2, .string t2, .string r2], 30) :: (ba, [.int .i64 k1, .string t1, .string r1], 30) :: (X1 ++ X2))))
 case first =>
  refine wp_region_held_drew (S := fun w' => Blks w w' [(bb, [.int .i64 k2, .string t2, .string r2], 30), (ba, [.int .i64 k1, .string t1, .string r1], 30)]) (by kernel_rfl) (by repeat (first | exact HM.out | apply Blks.drewN | apply Blks.drew | apply Blks.other)) (fun hS => ?_)
  have HN := Aside0.mk hS
  clear hS HM
  have HM := HN
  clear HN
  refine wpAnyH_take (i := 0) (v := .agg #[.int .i64 k1, .string t1, .string r1]) rfl (by kernel_rfl) (by kernel_rfl) (by kernel_rfl) (fun _ _ _ h => h) (d_load (w0 := w) (by rfl) (by rfl) (fun w h => h) (by repeat (first | exact List.Mem.head _ | apply List.Mem.tail)) (by repeat (first | exact Rd.nil | apply Rd.here | apply Rd.skip))) HM.out ?_
  (try simp only [Act.put, List.setIfInBounds_toArray, List.set_cons_zero, List.set_cons_succ])
  refine wpAnyH_take (i := 2) (v := .agg #[.int .i64 k2, .string t2, .string r2]) rfl (by kernel_rfl) (by kernel_rfl) (by kernel_rfl) (fun _ _ _ h => h) (d_load (w0 := w) (by rfl) (by rfl) (fun w h => h) (by repeat (first | exact List.Mem.head _ | apply List.Mem.tail)) (by repeat (first | exact Rd.nil | apply Rd.here | apply Rd.skip))) HM.out ?_
  (try simp only [Act.put, List.setIfInBounds_toArray, List.set_cons_zero, List.set_cons_succ])
  refine wpAnyH_ready (rs := [1, 4, 5]) (by kernel_rfl) (by simp) ?_
  refine AllReadyH.cons rfl (fun K hK => ?_) ?_
  ·skip
   go_simp
   go_wp2_with (go_at_call 68; ((with_reducible refine (HV1.out _).mono ?_); rintro e w2 ⟨⟨v, rfl, P1, rfl, hP⟩, hb⟩; have HO1 := Lib.hid (show P1.oneCell' = true by obtain ⟨_, _, rfl⟩ := hP.val; rfl); obtain ⟨X1, HX1, HN⟩ := Blks.strsAdd (by repeat (first | exact HM.out | apply Blks.drewN | apply Blks.drew | apply Blks.other)) hb hP; simp only [List.cons_append, List.nil_append] at HN; clear HM hb hP; have HM := Aside0.mk HN; clear HN))
   refine hK.out _ _ (HM.out.less (by repeat (first | exact List.nil_sublist _ | apply List.Sublist.cons_cons | apply List.Sublist.cons))) (fun _ => ?_)
   clear hK K
   (try simp only [Act.put, List.setIfInBounds_toArray, List.set_cons_zero, List.set_cons_succ])
   refine wpAnyH_ready (rs := [3, 4, 5]) (by kernel_rfl) (by simp) ?_
   refine AllReadyH.cons rfl (fun K hK => ?_) ?_
   ·skip
    go_simp
    go_wp2_with (go_at_call 68; ((with_reducible refine (HV2.out _).mono ?_); rintro e w2 ⟨⟨v, rfl, P2, rfl, hP⟩, hb⟩; have HO2 := Lib.hid (show P2.oneCell' = true by obtain ⟨_, _, rfl⟩ := hP.val; rfl); obtain ⟨X2, HX2, HN⟩ := Blks.strsAdd (by repeat (first | exact HM.out | apply Blks.drewN | apply Blks.drew | apply Blks.other)) hb hP; simp only [List.cons_append, List.nil_append] at HN; clear HM hb hP; have HM := Aside0.mk HN; clear HN))
    refine hK.out _ _ (HM.out.less (by repeat (first | exact List.nil_sublist _ | apply List.Sublist.cons_cons | apply List.Sublist.cons))) (fun _ => ?_)
    clear hK K
    (try simp only [Act.put, List.setIfInBounds_toArray, List.set_cons_zero, List.set_cons_succ])
    refine wpAnyH_ready (rs := [4, 5]) (by kernel_rfl) (by simp) ?_
    refine AllReadyH.cons (o := ⟨some 9, .alloc 50, _, _, _, none⟩) rfl (fun K hK => ?_) ?_
    ·skip
     refine d_alloc (by repeat (first | exact HM.out | apply Blks.drewN | apply Blks.drew | apply Blks.other)) ?_
     intro b9 wq HN
     clear HM; have HM := HN; clear HN
     refine hK.out _ _ (HM.out.less (by repeat (first | exact List.nil_sublist _ | apply List.Sublist.cons_cons | apply List.Sublist.cons))) (fun _ => ?_)
     clear hK K
     (try simp only [Act.put, List.setIfInBounds_toArray, List.set_cons_zero, List.set_cons_succ])
     refine wpAnyH_ready (rs := [5]) (by kernel_rfl) (by simp) ?_
     refine AllReadyH.cons (o := ⟨some 10, .alloc 50, _, _, _, none⟩) rfl (fun K hK => ?_) ?_
     ·skip
      refine d_alloc (by repeat (first | exact HM.out | apply Blks.drewN | apply Blks.drew | apply Blks.other)) ?_
      intro b10 wq HN
      clear HM; have HM := HN; clear HN
      refine hK.out _ _ (HM.out.less (by repeat (first | exact List.nil_sublist _ | apply List.Sublist.cons_cons | apply List.Sublist.cons))) (fun _ => ?_)
      clear hK K
      (try simp only [Act.put, List.setIfInBounds_toArray, List.set_cons_zero, List.set_cons_succ])
      refine wpAnyH_ready (rs := [6]) (by kernel_rfl) (by simp) ?_
      refine AllReadyH.cons (o := ⟨none, .store 50 (.tmp 9) (.tmp 28), _, _, _, none⟩) rfl (fun K hK => ?_) ?_
      ·skip
       refine d_store (by repeat (first | exact HM.out | apply Blks.drewN | apply Blks.drew | apply Blks.other)) (by rfl) (by rfl) (by rfl) (semOne HO1.out) (by repeat (first | exact List.Mem.head _ | apply List.Mem.tail)) (by repeat (first | exact Wr.nil | apply Wr.here | apply Wr.skip)) (by repeat (first | exact Up.here | apply Up.skip)) ?_
       intro wq HN
       clear HM; have HM := HN; clear HN
       refine hK.out _ _ (HM.out.less (by repeat (first | exact List.nil_sublist _ | apply List.Sublist.cons_cons | apply List.Sublist.cons))) (fun _ => ?_)
       clear hK K
       (try simp only [Act.put, List.setIfInBounds_toArray, List.set_cons_zero, List.set_cons_succ])
       refine wpAnyH_ready (rs := [7]) (by kernel_rfl) (by simp) ?_
       refine AllReadyH.cons (o := ⟨none, .store 50 (.tmp 10) (.tmp 30), _, _, _, none⟩) rfl (fun K hK => ?_) ?_
       ·skip
        refine d_store (by repeat (first | exact HM.out | apply Blks.drewN | apply Blks.drew | apply Blks.other)) (by rfl) (by rfl) (by rfl) (semOne HO2.out) (by repeat (first | exact List.Mem.head _ | apply List.Mem.tail)) (by repeat (first | exact Wr.nil | apply Wr.here | apply Wr.skip)) (by repeat (first | exact Up.here | apply Up.skip)) ?_
        intro wq HN
        clear HM; have HM := HN; clear HN
        refine hK.out _ _ (HM.out.less (by repeat (first | exact List.nil_sublist _ | apply List.Sublist.cons_cons | apply List.Sublist.cons))) (fun _ => ?_)
        clear hK K
        (try simp only [Act.put, List.setIfInBounds_toArray, List.set_cons_zero, List.set_cons_succ])
        refine wpAnyH_done (by kernel_rfl) ?_ _
        go_wp2_with fail
        go_meet
        case rel => exact ⟨b9, b10, P1, P2, X1, X2, rfl, rfl, HX1, HX2, ⟨HM.out.perm (List.Perm.swap _ _ _)⟩⟩
       exact AllReadyH.nil
      exact AllReadyH.nil
     exact AllReadyH.nil
    refine AllReadyH.cons (o := ⟨some 10, .alloc 50, _, _, _, none⟩) rfl (fun K hK => ?_) ?_
    ·skip
     refine d_alloc (by repeat (first | exact HM.out | apply Blks.drewN | apply Blks.drew | apply Blks.other)) ?_
     intro b10 wq HN
     clear HM; have HM := HN; clear HN
     refine hK.out _ _ (HM.out.less (by repeat (first | exact List.nil_sublist _ | apply List.Sublist.cons_cons | apply List.Sublist.cons))) (fun _ => ?_)
     clear hK K
     (try simp only [Act.put, List.setIfInBounds_toArray, List.set_cons_zero, List.set_cons_succ])
     refine wpAnyH_ready (rs := [4]) (by kernel_rfl) (by simp) ?_
     refine AllReadyH.cons (o := ⟨some 9, .alloc 50, _, _, _, none⟩) rfl (fun K hK => ?_) ?_
     ·skip
      refine d_alloc (by repeat (first | exact HM.out | apply Blks.drewN | apply Blks.drew | apply Blks.other)) ?_
      intro b9 wq HN
      clear HM; have HM := HN; clear HN
      refine hK.out _ _ (HM.out.less (by repeat (first | exact List.nil_sublist _ | apply List.Sublist.cons_cons | apply List.Sublist.cons))) (fun _ => ?_)
      clear hK K
      (try simp only [Act.put, List.setIfInBounds_toArray, List.set_cons_zero, List.set_cons_succ])
      refine wpAnyH_ready (rs := [6]) (by kernel_rfl) (by simp) ?_
      refine AllReadyH.cons (o := ⟨none, .store 50 (.tmp 9) (.tmp 28), _, _, _, none⟩) rfl (fun K hK => ?_) ?_
      ·skip
       refine d_store (by repeat (first | exact HM.out | apply Blks.drewN | apply Blks.drew | apply Blks.other)) (by rfl) (by rfl) (by rfl) (semOne HO1.out) (by repeat (first | exact List.Mem.head _ | apply List.Mem.tail)) (by repeat (first | exact Wr.nil | apply Wr.here | apply Wr.skip)) (by repeat (first | exact Up.here | apply Up.skip)) ?_
       intro wq HN
       clear HM; have HM := HN; clear HN
       refine hK.out _ _ (HM.out.less (by repeat (first | exact List.nil_sublist _ | apply List.Sublist.cons_cons | apply List.Sublist.cons))) (fun _ => ?_)
       clear hK K
       (try simp only [Act.put, List.setIfInBounds_toArray, List.set_cons_zero, List.set_cons_succ])
       refine wpAnyH_ready (rs := [7]) (by kernel_rfl) (by simp) ?_
       refine AllReadyH.cons (o := ⟨none, .store 50 (.tmp 10) (.tmp 30), _, _, _, none⟩) rfl (fun K hK => ?_) ?_
       ·skip
        refine d_store (by repeat (first | exact HM.out | apply Blks.drewN | apply Blks.drew | apply Blks.other)) (by rfl) (by rfl) (by rfl) (semOne HO2.out) (by repeat (first | exact List.Mem.head _ | apply List.Mem.tail)) (by repeat (first | exact Wr.nil | apply Wr.here | apply Wr.skip)) (by repeat (first | exact Up.here | apply Up.skip)) ?_
        intro wq HN
        clear HM; have HM := HN; clear HN
        refine hK.out _ _ (HM.out.less (by repeat (first | exact List.nil_sublist _ | apply List.Sublist.cons_cons | apply List.Sublist.cons))) (fun _ => ?_)
        clear hK K
        (try simp only [Act.put, List.setIfInBounds_toArray, List.set_cons_zero, List.set_cons_succ])
        refine wpAnyH_done (by kernel_rfl) ?_ _
        go_wp2_with fail
        go_meet
        case rel => exact ⟨b9, b10, P1, P2, X1, X2, rfl, rfl, HX1, HX2, ⟨HM.out⟩⟩
       exact AllReadyH.nil
      exact AllReadyH.nil
     exact AllReadyH.nil
    exact AllReadyH.nil
   refine AllReadyH.cons (o := ⟨some 9, .alloc 50, _, _, _, none⟩) rfl (fun K hK => ?_) ?_
   ·skip
    refine d_alloc (by repeat (first | exact HM.out | apply Blks.drewN | apply Blks.drew | apply Blks.other)) ?_
    intro b9 wq HN
    clear HM; have HM := HN; clear HN
    refine hK.out _ _ (HM.out.less (by repeat (first | exact List.nil_sublist _ | apply List.Sublist.cons_cons | apply List.Sublist.cons))) (fun _ => ?_)
    clear hK K
    (try simp only [Act.put, List.setIfInBounds_toArray, List.set_cons_zero, List.set_cons_succ])
    refine wpAnyH_ready (rs := [3, 5]) (by kernel_rfl) (by simp) ?_
    refine AllReadyH.cons rfl (fun K hK => ?_) ?_
    ·skip
     go_simp
     go_wp2_with (go_at_call 68; ((with_reducible refine (HV2.out _).mono ?_); rintro e w2 ⟨⟨v, rfl, P2, rfl, hP⟩, hb⟩; have HO2 := Lib.hid (show P2.oneCell' = true by obtain ⟨_, _, rfl⟩ := hP.val; rfl); obtain ⟨X2, HX2, HN⟩ := Blks.strsAdd (by repeat (first | exact HM.out | apply Blks.drewN | apply Blks.drew | apply Blks.other)) hb hP; simp only [List.cons_append, List.nil_append] at HN; clear HM hb hP; have HM := Aside0.mk HN; clear HN))
     refine hK.out _ _ (HM.out.less (by repeat (first | exact List.nil_sublist _ | apply List.Sublist.cons_cons | apply List.Sublist.cons))) (fun _ => ?_)
     clear hK K
     (try simp only [Act.put, List.setIfInBounds_toArray, List.set_cons_zero, List.set_cons_succ])
     refine wpAnyH_ready (rs := [5]) (by kernel_rfl) (by simp) ?_
     refine AllReadyH.cons (o := ⟨some 10, .alloc 50, _, _, _, none⟩) rfl (fun K hK => ?_) ?_
     ·skip
      refine d_alloc (by repeat (first | exact HM.out | apply Blks.drewN | apply Blks.drew | apply Blks.other)) ?_
      intro b10 wq HN
      clear HM; have HM := HN; clear HN
      refine hK.out _ _ (HM.out.less (by repeat (first | exact List.nil_sublist _ | apply List.Sublist.cons_cons | apply List.Sublist.cons))) (fun _ => ?_)
      clear hK K
      (try simp only [Act.put, List.setIfInBounds_toArray, List.set_cons_zero, List.set_cons_succ])
      refine wpAnyH_ready (rs := [6]) (by kernel_rfl) (by simp) ?_
      refine AllReadyH.cons (o := ⟨none, .store 50 (.tmp 9) (.tmp 28), _, _, _, none⟩) rfl (fun K hK => ?_) ?_
      ·skip
       refine d_store (by repeat (first | exact HM.out | apply Blks.drewN | apply Blks.drew | apply Blks.other)) (by rfl) (by rfl) (by rfl) (semOne HO1.out) (by repeat (first | exact List.Mem.head _ | apply List.Mem.tail)) (by repeat (first | exact Wr.nil | apply Wr.here | apply Wr.skip)) (by repeat (first | exact Up.here | apply Up.skip)) ?_
       intro wq HN
       clear HM; have HM := HN; clear HN
       refine hK.out _ _ (HM.out.less (by repeat (first | exact List.nil_sublist _ | apply List.Sublist.cons_cons | apply List.Sublist.cons))) (fun _ => ?_)
       clear hK K
       (try simp only [Act.put, List.setIfInBounds_toArray, List.set_cons_zero, List.set_cons_succ])
       refine wpAnyH_ready (rs := [7]) (by kernel_rfl) (by simp) ?_
       refine AllReadyH.cons (o := ⟨none, .store 50 (.tmp 10) (.tmp 30), _, _, _, none⟩) rfl (fun K hK => ?_) ?_
       ·skip
        refine d_store (by repeat (first | exact HM.out | apply Blks.drewN | apply Blks.drew | apply Blks.other)) (by rfl) (by rfl) (by rfl) (semOne HO2.out) (by repeat (first | exact List.Mem.head _ | apply List.Mem.tail)) (by repeat (first | exact Wr.nil | apply Wr.here | apply Wr.skip)) (by repeat (first | exact Up.here | apply Up.skip)) ?_
        intro wq HN
        clear HM; have HM := HN; clear HN
        refine hK.out _ _ (HM.out.less (by repeat (first | exact List.nil_sublist _ | apply List.Sublist.cons_cons | apply List.Sublist.cons))) (fun _ => ?_)
        clear hK K
        (try simp only [Act.put, List.setIfInBounds_toArray, List.set_cons_zero, List.set_cons_succ])
        refine wpAnyH_done (by kernel_rfl) ?_ _
        go_wp2_with fail
        go_meet
        case rel => exact ⟨b9, b10, P1, P2, X1, X2, rfl, rfl, HX1, HX2, ⟨HM.out.perm (List.Perm.swap _ _ _)⟩⟩
       exact AllReadyH.nil
      exact AllReadyH.nil
     exact AllReadyH.nil
    refine AllReadyH.cons (o := ⟨some 10, .alloc 50, _, _, _, none⟩) rfl (fun K hK => ?_) ?_
    ·skip
     refine d_alloc (by repeat (first | exact HM.out | apply Blks.drewN | apply Blks.drew | apply Blks.other)) ?_
     intro b10 wq HN
     clear HM; have HM := HN; clear HN
     refine hK.out _ _ (HM.out.less (by repeat (first | exact List.nil_sublist _ | apply List.Sublist.cons_cons | apply List.Sublist.cons))) (fun _ => ?_)
     clear hK K
     (try simp only [Act.put, List.setIfInBounds_toArray, List.set_cons_zero, List.set_cons_succ])
     refine wpAnyH_ready (rs := [3]) (by kernel_rfl) (by simp) ?_
     refine AllReadyH.cons rfl (fun K hK => ?_) ?_
     ·skip
      go_simp
      go_wp2_with (go_at_call 68; ((with_reducible refine (HV2.out _).mono ?_); rintro e w2 ⟨⟨v, rfl, P2, rfl, hP⟩, hb⟩; have HO2 := Lib.hid (show P2.oneCell' = true by obtain ⟨_, _, rfl⟩ := hP.val; rfl); obtain ⟨X2, HX2, HN⟩ := Blks.strsAdd (by repeat (first | exact HM.out | apply Blks.drewN | apply Blks.drew | apply Blks.other)) hb hP; simp only [List.cons_append, List.nil_append] at HN; clear HM hb hP; have HM := Aside0.mk HN; clear HN))
      refine hK.out _ _ (HM.out.less (by repeat (first | exact List.nil_sublist _ | apply List.Sublist.cons_cons | apply List.Sublist.cons))) (fun _ => ?_)
      clear hK K
      (try simp only [Act.put, List.setIfInBounds_toArray, List.set_cons_zero, List.set_cons_succ])
      refine wpAnyH_ready (rs := [6]) (by kernel_rfl) (by simp) ?_
      refine AllReadyH.cons (o := ⟨none, .store 50 (.tmp 9) (.tmp 28), _, _, _, none⟩) rfl (fun K hK => ?_) ?_
      ·skip
       refine d_store (by repeat (first | exact HM.out | apply Blks.drewN | apply Blks.drew | apply Blks.other)) (by rfl) (by rfl) (by rfl) (semOne HO1.out) (by repeat (first | exact List.Mem.head _ | apply List.Mem.tail)) (by repeat (first | exact Wr.nil | apply Wr.here | apply Wr.skip)) (by repeat (first | exact Up.here | apply Up.skip)) ?_
       intro wq HN
       clear HM; have HM := HN; clear HN
       refine hK.out _ _ (HM.out.less (by repeat (first | exact List.nil_sublist _ | apply List.Sublist.cons_cons | apply List.Sublist.cons))) (fun _ => ?_)
       clear hK K
       (try simp only [Act.put, List.setIfInBounds_toArray, List.set_cons_zero, List.set_cons_succ])
       refine wpAnyH_ready (rs := [7]) (by kernel_rfl) (by simp) ?_
       refine AllReadyH.cons (o := ⟨none, .store 50 (.tmp 10) (.tmp 30), _, _, _, none⟩) rfl (fun K hK => ?_) ?_
       ·skip
        refine d_store (by repeat (first | exact HM.out | apply Blks.drewN | apply Blks.drew | apply Blks.other)) (by rfl) (by rfl) (by rfl) (semOne HO2.out) (by repeat (first | exact List.Mem.head _ | apply List.Mem.tail)) (by repeat (first | exact Wr.nil | apply Wr.here | apply Wr.skip)) (by repeat (first | exact Up.here | apply Up.skip)) ?_
        intro wq HN
        clear HM; have HM := HN; clear HN
        refine hK.out _ _ (HM.out.less (by repeat (first | exact List.nil_sublist _ | apply List.Sublist.cons_cons | apply List.Sublist.cons))) (fun _ => ?_)
        clear hK K
        (try simp only [Act.put, List.setIfInBounds_toArray, List.set_cons_zero, List.set_cons_succ])
        refine wpAnyH_done (by kernel_rfl) ?_ _
        go_wp2_with fail
        go_meet
        case rel => exact ⟨b9, b10, P1, P2, X1, X2, rfl, rfl, HX1, HX2, ⟨HM.out.perm (List.Perm.swap _ _ _)⟩⟩
       exact AllReadyH.nil
      exact AllReadyH.nil
     exact AllReadyH.nil
    exact AllReadyH.nil
   refine AllReadyH.cons (o := ⟨some 10, .alloc 50, _, _, _, none⟩) rfl (fun K hK => ?_) ?_
   ·skip
    refine d_alloc (by repeat (first | exact HM.out | apply Blks.drewN | apply Blks.drew | apply Blks.other)) ?_
    intro b10 wq HN
    clear HM; have HM := HN; clear HN
    refine hK.out _ _ (HM.out.less (by repeat (first | exact List.nil_sublist _ | apply List.Sublist.cons_cons | apply List.Sublist.cons))) (fun _ => ?_)
    clear hK K
    (try simp only [Act.put, List.setIfInBounds_toArray, List.set_cons_zero, List.set_cons_succ])
    refine wpAnyH_ready (rs := [3, 4]) (by kernel_rfl) (by simp) ?_
    refine AllReadyH.cons rfl (fun K hK => ?_) ?_
    ·skip
     go_simp
     go_wp2_with (go_at_call 68; ((with_reducible refine (HV2.out _).mono ?_); rintro e w2 ⟨⟨v, rfl, P2, rfl, hP⟩, hb⟩; have HO2 := Lib.hid (show P2.oneCell' = true by obtain ⟨_, _, rfl⟩ := hP.val; rfl); obtain ⟨X2, HX2, HN⟩ := Blks.strsAdd (by repeat (first | exact HM.out | apply Blks.drewN | apply Blks.drew | apply Blks.other)) hb hP; simp only [List.cons_append, List.nil_append] at HN; clear HM hb hP; have HM := Aside0.mk HN; clear HN))
     refine hK.out _ _ (HM.out.less (by repeat (first | exact List.nil_sublist _ | apply List.Sublist.cons_cons | apply List.Sublist.cons))) (fun _ => ?_)
     clear hK K
     (try simp only [Act.put, List.setIfInBounds_toArray, List.set_cons_zero, List.set_cons_succ])
     refine wpAnyH_ready (rs := [4]) (by kernel_rfl) (by simp) ?_
     refine AllReadyH.cons (o := ⟨some 9, .alloc 50, _, _, _, none⟩) rfl (fun K hK => ?_) ?_
     ·skip
      refine d_alloc (by repeat (first | exact HM.out | apply Blks.drewN | apply Blks.drew | apply Blks.other)) ?_
      intro b9 wq HN
      clear HM; have HM := HN; clear HN
      refine hK.out _ _ (HM.out.less (by repeat (first | exact List.nil_sublist _ | apply List.Sublist.cons_cons | apply List.Sublist.cons))) (fun _ => ?_)
      clear hK K
      (try simp only [Act.put, List.setIfInBounds_toArray, List.set_cons_zero, List.set_cons_succ])
      refine wpAnyH_ready (rs := [6]) (by kernel_rfl) (by simp) ?_
      refine AllReadyH.cons (o := ⟨none, .store 50 (.tmp 9) (.tmp 28), _, _, _, none⟩) rfl (fun K hK => ?_) ?_
      ·skip
       refine d_store (by repeat (first | exact HM.out | apply Blks.drewN | apply Blks.drew | apply Blks.other)) (by rfl) (by rfl) (by rfl) (semOne HO1.out) (by repeat (first | exact List.Mem.head _ | apply List.Mem.tail)) (by repeat (first | exact Wr.nil | apply Wr.here | apply Wr.skip)) (by repeat (first | exact Up.here | apply Up.skip)) ?_
       intro wq HN
       clear HM; have HM := HN; clear HN
       refine hK.out _ _ (HM.out.less (by repeat (first | exact List.nil_sublist _ | apply List.Sublist.cons_cons | apply List.Sublist.cons))) (fun _ => ?_)
       clear hK K
       (try simp only [Act.put, List.setIfInBounds_toArray, List.set_cons_zero, List.set_cons_succ])
       refine wpAnyH_ready (rs := [7]) (by kernel_rfl) (by simp) ?_
       refine AllReadyH.cons (o := ⟨none, .store 50 (.tmp 10) (.tmp 30), _, _, _, none⟩) rfl (fun K hK => ?_) ?_
       ·skip
        refine d_store (by repeat (first | exact HM.out | apply Blks.drewN | apply Blks.drew | apply Blks.other)) (by rfl) (by rfl) (by rfl) (semOne HO2.out) (by repeat (first | exact List.Mem.head _ | apply List.Mem.tail)) (by repeat (first | exact Wr.nil | apply Wr.here | apply Wr.skip)) (by repeat (first | exact Up.here | apply Up.skip)) ?_
        intro wq HN
        clear HM; have HM := HN; clear HN
        refine hK.out _ _ (HM.out.less (by repeat (first | exact List.nil_sublist _ | apply List.Sublist.cons_cons | apply List.Sublist.cons))) (fun _ => ?_)
        clear hK K
        (try simp only [Act.put, List.setIfInBounds_toArray, List.set_cons_zero, List.set_cons_succ])
        refine wpAnyH_done (by kernel_rfl) ?_ _
        go_wp2_with fail
        go_meet
        case rel => exact ⟨b9, b10, P1, P2, X1, X2, rfl, rfl, HX1, HX2, ⟨HM.out⟩⟩
       exact AllReadyH.nil
      exact AllReadyH.nil
     exact AllReadyH.nil
    refine AllReadyH.cons (o := ⟨some 9, .alloc 50, _, _, _, none⟩) rfl (fun K hK => ?_) ?_
    ·skip
     refine d_alloc (by repeat (first | exact HM.out | apply Blks.drewN | apply Blks.drew | apply Blks.other)) ?_
     intro b9 wq HN
     clear HM; have HM := HN; clear HN
     refine hK.out _ _ (HM.out.less (by repeat (first | exact List.nil_sublist _ | apply List.Sublist.cons_cons | apply List.Sublist.cons))) (fun _ => ?_)
     clear hK K
     (try simp only [Act.put, List.setIfInBounds_toArray, List.set_cons_zero, List.set_cons_succ])
     refine wpAnyH_ready (rs := [3]) (by kernel_rfl) (by simp) ?_
     refine AllReadyH.cons rfl (fun K hK => ?_) ?_
     ·skip
      go_simp
      go_wp2_with (go_at_call 68; ((with_reducible refine (HV2.out _).mono ?_); rintro e w2 ⟨⟨v, rfl, P2, rfl, hP⟩, hb⟩; have HO2 := Lib.hid (show P2.oneCell' = true by obtain ⟨_, _, rfl⟩ := hP.val; rfl); obtain ⟨X2, HX2, HN⟩ := Blks.strsAdd (by repeat (first | exact HM.out | apply Blks.drewN | apply Blks.drew | apply Blks.other)) hb hP; simp only [List.cons_append, List.nil_append] at HN; clear HM hb hP; have HM := Aside0.mk HN; clear HN))
      refine hK.out _ _ (HM.out.less (by repeat (first | exact List.nil_sublist _ | apply List.Sublist.cons_cons | apply List.Sublist.cons))) (fun _ => ?_)
      clear hK K
      (try simp only [Act.put, List.setIfInBounds_toArray, List.set_cons_zero, List.set_cons_succ])
      refine wpAnyH_ready (rs := [6]) (by kernel_rfl) (by simp) ?_
      refine AllReadyH.cons (o := ⟨none, .store 50 (.tmp 9) (.tmp 28), _, _, _, none⟩) rfl (fun K hK => ?_) ?_
      ·skip
       refine d_store (by repeat (first | exact HM.out | apply Blks.drewN | apply Blks.drew | apply Blks.other)) (by rfl) (by rfl) (by rfl) (semOne HO1.out) (by repeat (first | exact List.Mem.head _ | apply List.Mem.tail)) (by repeat (first | exact Wr.nil | apply Wr.here | apply Wr.skip)) (by repeat (first | exact Up.here | apply Up.skip)) ?_
       intro wq HN
       clear HM; have HM := HN; clear HN
       refine hK.out _ _ (HM.out.less (by repeat (first | exact List.nil_sublist _ | apply List.Sublist.cons_cons | apply List.Sublist.cons))) (fun _ => ?_)
       clear hK K
       (try simp only [Act.put, List.setIfInBounds_toArray, List.set_cons_zero, List.set_cons_succ])
       refine wpAnyH_ready (rs := [7]) (by kernel_rfl) (by simp) ?_
       refine AllReadyH.cons (o := ⟨none, .store 50 (.tmp 10) (.tmp 30), _, _, _, none⟩) rfl (fun K hK => ?_) ?_
       ·skip
        refine d_store (by repeat (first | exact HM.out | apply Blks.drewN | apply Blks.drew | apply Blks.other)) (by rfl) (by rfl) (by rfl) (semOne HO2.out) (by repeat (first | exact List.Mem.head _ | apply List.Mem.tail)) (by repeat (first | exact Wr.nil | apply Wr.here | apply Wr.skip)) (by repeat (first | exact Up.here | apply Up.skip)) ?_
        intro wq HN
        clear HM; have HM := HN; clear HN
        refine hK.out _ _ (HM.out.less (by repeat (first | exact List.nil_sublist _ | apply List.Sublist.cons_cons | apply List.Sublist.cons))) (fun _ => ?_)
        clear hK K
        (try simp only [Act.put, List.setIfInBounds_toArray, List.set_cons_zero, List.set_cons_succ])
        refine wpAnyH_done (by kernel_rfl) ?_ _
        go_wp2_with fail
        go_meet
        case rel => exact ⟨b9, b10, P1, P2, X1, X2, rfl, rfl, HX1, HX2, ⟨HM.out⟩⟩
       exact AllReadyH.nil
      exact AllReadyH.nil
     exact AllReadyH.nil
    exact AllReadyH.nil
   exact AllReadyH.nil
  refine AllReadyH.cons (o := ⟨some 9, .alloc 50, _, _, _, none⟩) rfl (fun K hK => ?_) ?_
  ·skip
   refine d_alloc (by repeat (first | exact HM.out | apply Blks.drewN | apply Blks.drew | apply Blks.other)) ?_
   intro b9 wq HN
   clear HM; have HM := HN; clear HN
   refine hK.out _ _ (HM.out.less (by repeat (first | exact List.nil_sublist _ | apply List.Sublist.cons_cons | apply List.Sublist.cons))) (fun _ => ?_)
   clear hK K
   (try simp only [Act.put, List.setIfInBounds_toArray, List.set_cons_zero, List.set_cons_succ])
   refine wpAnyH_ready (rs := [1, 5]) (by kernel_rfl) (by simp) ?_
   refine AllReadyH.cons rfl (fun K hK => ?_) ?_
   ·skip
    go_simp
    go_wp2_with (go_at_call 68; ((with_reducible refine (HV1.out _).mono ?_); rintro e w2 ⟨⟨v, rfl, P1, rfl, hP⟩, hb⟩; have HO1 := Lib.hid (show P1.oneCell' = true by obtain ⟨_, _, rfl⟩ := hP.val; rfl); obtain ⟨X1, HX1, HN⟩ := Blks.strsAdd (by repeat (first | exact HM.out | apply Blks.drewN | apply Blks.drew | apply Blks.other)) hb hP; simp only [List.cons_append, List.nil_append] at HN; clear HM hb hP; have HM := Aside0.mk HN; clear HN))
    refine hK.out _ _ (HM.out.less (by repeat (first | exact List.nil_sublist _ | apply List.Sublist.cons_cons | apply List.Sublist.cons))) (fun _ => ?_)
    clear hK K
    (try simp only [Act.put, List.setIfInBounds_toArray, List.set_cons_zero, List.set_cons_succ])
    refine wpAnyH_ready (rs := [3, 5]) (by kernel_rfl) (by simp) ?_
    refine AllReadyH.cons rfl (fun K hK => ?_) ?_
    ·skip
     go_simp
     go_wp2_with (go_at_call 68; ((with_reducible refine (HV2.out _).mono ?_); rintro e w2 ⟨⟨v, rfl, P2, rfl, hP⟩, hb⟩; have HO2 := Lib.hid (show P2.oneCell' = true by obtain ⟨_, _, rfl⟩ := hP.val; rfl); obtain ⟨X2, HX2, HN⟩ := Blks.strsAdd (by repeat (first | exact HM.out | apply Blks.drewN | apply Blks.drew | apply Blks.other)) hb hP; simp only [List.cons_append, List.nil_append] at HN; clear HM hb hP; have HM := Aside0.mk HN; clear HN))
     refine hK.out _ _ (HM.out.less (by repeat (first | exact List.nil_sublist _ | apply List.Sublist.cons_cons | apply List.Sublist.cons))) (fun _ => ?_)
     clear hK K
     (try simp only [Act.put, List.setIfInBounds_toArray, List.set_cons_zero, List.set_cons_succ])
     refine wpAnyH_ready (rs := [5]) (by kernel_rfl) (by simp) ?_
     refine AllReadyH.cons (o := ⟨some 10, .alloc 50, _, _, _, none⟩) rfl (fun K hK => ?_) ?_
     ·skip
      refine d_alloc (by repeat (first | exact HM.out | apply Blks.drewN | apply Blks.drew | apply Blks.other)) ?_
      intro b10 wq HN
      clear HM; have HM := HN; clear HN
      refine hK.out _ _ (HM.out.less (by repeat (first | exact List.nil_sublist _ | apply List.Sublist.cons_cons | apply List.Sublist.cons))) (fun _ => ?_)
      clear hK K
      (try simp only [Act.put, List.setIfInBounds_toArray, List.set_cons_zero, List.set_cons_succ])
      refine wpAnyH_ready (rs := [6]) (by kernel_rfl) (by simp) ?_
      refine AllReadyH.cons (o := ⟨none, .store 50 (.tmp 9) (.tmp 28), _, _, _, none⟩) rfl (fun K hK => ?_) ?_
      ·skip
       refine d_store (by repeat (first | exact HM.out | apply Blks.drewN | apply Blks.drew | apply Blks.other)) (by rfl) (by rfl) (by rfl) (semOne HO1.out) (by repeat (first | exact List.Mem.head _ | apply List.Mem.tail)) (by repeat (first | exact Wr.nil | apply Wr.here | apply Wr.skip)) (by repeat (first | exact Up.here | apply Up.skip)) ?_
       intro wq HN
       clear HM; have HM := HN; clear HN
       refine hK.out _ _ (HM.out.less (by repeat (first | exact List.nil_sublist _ | apply List.Sublist.cons_cons | apply List.Sublist.cons))) (fun _ => ?_)
       clear hK K
       (try simp only [Act.put, List.setIfInBounds_toArray, List.set_cons_zero, List.set_cons_succ])
       refine wpAnyH_ready (rs := [7]) (by kernel_rfl) (by simp) ?_
       refine AllReadyH.cons (o := ⟨none, .store 50 (.tmp 10) (.tmp 30), _, _, _, none⟩) rfl (fun K hK => ?_) ?_
       ·skip
        refine d_store (by repeat (first | exact HM.out | apply Blks.drewN | apply Blks.drew | apply Blks.other)) (by rfl) (by rfl) (by rfl) (semOne HO2.out) (by repeat (first | exact List.Mem.head _ | apply List.Mem.tail)) (by repeat (first | exact Wr.nil | apply Wr.here | apply Wr.skip)) (by repeat (first | exact Up.here | apply Up.skip)) ?_
        intro wq HN
        clear HM; have HM := HN; clear HN
        refine hK.out _ _ (HM.out.less (by repeat (first | exact List.nil_sublist _ | apply List.Sublist.cons_cons | apply List.Sublist.cons))) (fun _ => ?_)
        clear hK K
        (try simp only [Act.put, List.setIfInBounds_toArray, List.set_cons_zero, List.set_cons_succ])
        refine wpAnyH_done (by kernel_rfl) ?_ _
        go_wp2_with fail
        go_meet
        case rel => exact ⟨b9, b10, P1, P2, X1, X2, rfl, rfl, HX1, HX2, ⟨HM.out.perm (List.Perm.swap _ _ _)⟩⟩
       exact AllReadyH.nil
      exact AllReadyH.nil
     exact AllReadyH.nil
    refine AllReadyH.cons (o := ⟨some 10, .alloc 50, _, _, _, none⟩) rfl (fun K hK => ?_) ?_
    ·skip
     refine d_alloc (by repeat (first | exact HM.out | apply Blks.drewN | apply Blks.drew | apply Blks.other)) ?_
     intro b10 wq HN
     clear HM; have HM := HN; clear HN
     refine hK.out _ _ (HM.out.less (by repeat (first | exact List.nil_sublist _ | apply List.Sublist.cons_cons | apply List.Sublist.cons))) (fun _ => ?_)
     clear hK K
     (try simp only [Act.put, List.setIfInBounds_toArray, List.set_cons_zero, List.set_cons_succ])
     refine wpAnyH_ready (rs := [3]) (by kernel_rfl) (by simp) ?_
     refine AllReadyH.cons rfl (fun K hK => ?_) ?_
     ·skip
      go_simp
      go_wp2_with (go_at_call 68; ((with_reducible refine (HV2.out _).mono ?_); rintro e w2 ⟨⟨v, rfl, P2, rfl, hP⟩, hb⟩; have HO2 := Lib.hid (show P2.oneCell' = true by obtain ⟨_, _, rfl⟩ := hP.val; rfl); obtain ⟨X2, HX2, HN⟩ := Blks.strsAdd (by repeat (first | exact HM.out | apply Blks.drewN | apply Blks.drew | apply Blks.other)) hb hP; simp only [List.cons_append, List.nil_append] at HN; clear HM hb hP; have HM := Aside0.mk HN; clear HN))
      refine hK.out _ _ (HM.out.less (by repeat (first | exact List.nil_sublist _ | apply List.Sublist.cons_cons | apply List.Sublist.cons))) (fun _ => ?_)
      clear hK K
      (try simp only [Act.put, List.setIfInBounds_toArray, List.set_cons_zero, List.set_cons_succ])
      refine wpAnyH_ready (rs := [6]) (by kernel_rfl) (by simp) ?_
      refine AllReadyH.cons (o := ⟨none, .store 50 (.tmp 9) (.tmp 28), _, _, _, none⟩) rfl (fun K hK => ?_) ?_
      ·skip
       refine d_store (by repeat (first | exact HM.out | apply Blks.drewN | apply Blks.drew | apply Blks.other)) (by rfl) (by rfl) (by rfl) (semOne HO1.out) (by repeat (first | exact List.Mem.head _ | apply List.Mem.tail)) (by repeat (first | exact Wr.nil | apply Wr.here | apply Wr.skip)) (by repeat (first | exact Up.here | apply Up.skip)) ?_
       intro wq HN
       clear HM; have HM := HN; clear HN
       refine hK.out _ _ (HM.out.less (by repeat (first | exact List.nil_sublist _ | apply List.Sublist.cons_cons | apply List.Sublist.cons))) (fun _ => ?_)
       clear hK K
       (try simp only [Act.put, List.setIfInBounds_toArray, List.set_cons_zero, List.set_cons_succ])
       refine wpAnyH_ready (rs := [7]) (by kernel_rfl) (by simp) ?_
       refine AllReadyH.cons (o := ⟨none, .store 50 (.tmp 10) (.tmp 30), _, _, _, none⟩) rfl (fun K hK => ?_) ?_
       ·skip
        refine d_store (by repeat (first | exact HM.out | apply Blks.drewN | apply Blks.drew | apply Blks.other)) (by rfl) (by rfl) (by rfl) (semOne HO2.out) (by repeat (first | exact List.Mem.head _ | apply List.Mem.tail)) (by repeat (first | exact Wr.nil | apply Wr.here | apply Wr.skip)) (by repeat (first | exact Up.here | apply Up.skip)) ?_
        intro wq HN
        clear HM; have HM := HN; clear HN
        refine hK.out _ _ (HM.out.less (by repeat (first | exact List.nil_sublist _ | apply List.Sublist.cons_cons | apply List.Sublist.cons))) (fun _ => ?_)
        clear hK K
        (try simp only [Act.put, List.setIfInBounds_toArray, List.set_cons_zero, List.set_cons_succ])
        refine wpAnyH_done (by kernel_rfl) ?_ _
        go_wp2_with fail
        go_meet
        case rel => exact ⟨b9, b10, P1, P2, X1, X2, rfl, rfl, HX1, HX2, ⟨HM.out.perm (List.Perm.swap _ _ _)⟩⟩
       exact AllReadyH.nil
      exact AllReadyH.nil
     exact AllReadyH.nil
    exact AllReadyH.nil
   refine AllReadyH.cons (o := ⟨some 10, .alloc 50, _, _, _, none⟩) rfl (fun K hK => ?_) ?_
   ·skip
    refine d_alloc (by repeat (first | exact HM.out | apply Blks.drewN | apply Blks.drew | apply Blks.other)) ?_
    intro b10 wq HN
    clear HM; have HM := HN; clear HN
    refine hK.out _ _ (HM.out.less (by repeat (first | exact List.nil_sublist _ | apply List.Sublist.cons_cons | apply List.Sublist.cons))) (fun _ => ?_)
    clear hK K
    (try simp only [Act.put, List.setIfInBounds_toArray, List.set_cons_zero, List.set_cons_succ])
    refine wpAnyH_ready (rs := [1]) (by kernel_rfl) (by simp) ?_
    refine AllReadyH.cons rfl (fun K hK => ?_) ?_
    ·skip
     go_simp
     go_wp2_with (go_at_call 68; ((with_reducible refine (HV1.out _).mono ?_); rintro e w2 ⟨⟨v, rfl, P1, rfl, hP⟩, hb⟩; have HO1 := Lib.hid (show P1.oneCell' = true by obtain ⟨_, _, rfl⟩ := hP.val; rfl); obtain ⟨X1, HX1, HN⟩ := Blks.strsAdd (by repeat (first | exact HM.out | apply Blks.drewN | apply Blks.drew | apply Blks.other)) hb hP; simp only [List.cons_append, List.nil_append] at HN; clear HM hb hP; have HM := Aside0.mk HN; clear HN))
     refine hK.out _ _ (HM.out.less (by repeat (first | exact List.nil_sublist _ | apply List.Sublist.cons_cons | apply List.Sublist.cons))) (fun _ => ?_)
     clear hK K
     (try simp only [Act.put, List.setIfInBounds_toArray, List.set_cons_zero, List.set_cons_succ])
     refine wpAnyH_ready (rs := [3]) (by kernel_rfl) (by simp) ?_
     refine AllReadyH.cons rfl (fun K hK => ?_) ?_
     ·skip
      go_simp
      go_wp2_with (go_at_call 68; ((with_reducible refine (HV2.out _).mono ?_); rintro e w2 ⟨⟨v, rfl, P2, rfl, hP⟩, hb⟩; have HO2 := Lib.hid (show P2.oneCell' = true by obtain ⟨_, _, rfl⟩ := hP.val; rfl); obtain ⟨X2, HX2, HN⟩ := Blks.strsAdd (by repeat (first | exact HM.out | apply Blks.drewN | apply Blks.drew | apply Blks.other)) hb hP; simp only [List.cons_append, List.nil_append] at HN; clear HM hb hP; have HM := Aside0.mk HN; clear HN))
      refine hK.out _ _ (HM.out.less (by repeat (first | exact List.nil_sublist _ | apply List.Sublist.cons_cons | apply List.Sublist.cons))) (fun _ => ?_)
      clear hK K
      (try simp only [Act.put, List.setIfInBounds_toArray, List.set_cons_zero, List.set_cons_succ])
      refine wpAnyH_ready (rs := [6]) (by kernel_rfl) (by simp) ?_
      refine AllReadyH.cons (o := ⟨none, .store 50 (.tmp 9) (.tmp 28), _, _, _, none⟩) rfl (fun K hK => ?_) ?_
      ·skip
       refine d_store (by repeat (first | exact HM.out | apply Blks.drewN | apply Blks.drew | apply Blks.other)) (by rfl) (by rfl) (by rfl) (semOne HO1.out) (by repeat (first | exact List.Mem.head _ | apply List.Mem.tail)) (by repeat (first | exact Wr.nil | apply Wr.here | apply Wr.skip)) (by repeat (first | exact Up.here | apply Up.skip)) ?_
       intro wq HN
       clear HM; have HM := HN; clear HN
       refine hK.out _ _ (HM.out.less (by repeat (first | exact List.nil_sublist _ | apply List.Sublist.cons_cons | apply List.Sublist.cons))) (fun _ => ?_)
       clear hK K
       (try simp only [Act.put, List.setIfInBounds_toArray, List.set_cons_zero, List.set_cons_succ])
       refine wpAnyH_ready (rs := [7]) (by kernel_rfl) (by simp) ?_
       refine AllReadyH.cons (o := ⟨none, .store 50 (.tmp 10) (.tmp 30), _, _, _, none⟩) rfl (fun K hK => ?_) ?_
       ·skip
        refine d_store (by repeat (first | exact HM.out | apply Blks.drewN | apply Blks.drew | apply Blks.other)) (by rfl) (by rfl) (by rfl) (semOne HO2.out) (by repeat (first | exact List.Mem.head _ | apply List.Mem.tail)) (by repeat (first | exact Wr.nil | apply Wr.here | apply Wr.skip)) (by repeat (first | exact Up.here | apply Up.skip)) ?_
        intro wq HN
        clear HM; have HM := HN; clear HN
        refine hK.out _ _ (HM.out.less (by repeat (first | exact List.nil_sublist _ | apply List.Sublist.cons_cons | apply List.Sublist.cons))) (fun _ => ?_)
        clear hK K
        (try simp only [Act.put, List.setIfInBounds_toArray, List.set_cons_zero, List.set_cons_succ])
        refine wpAnyH_done (by kernel_rfl) ?_ _
        go_wp2_with fail
        go_meet
        case rel => exact ⟨b9, b10, P1, P2, X1, X2, rfl, rfl, HX1, HX2, ⟨HM.out.perm (List.Perm.swap _ _ _)⟩⟩
       exact AllReadyH.nil
      exact AllReadyH.nil
     exact AllReadyH.nil
    exact AllReadyH.nil
   exact AllReadyH.nil
  refine AllReadyH.cons (o := ⟨some 10, .alloc 50, _, _, _, none⟩) rfl (fun K hK => ?_) ?_
  ·skip
   refine d_alloc (by repeat (first | exact HM.out | apply Blks.drewN | apply Blks.drew | apply Blks.other)) ?_
   intro b10 wq HN
   clear HM; have HM := HN; clear HN
   refine hK.out _ _ (HM.out.less (by repeat (first | exact List.nil_sublist _ | apply List.Sublist.cons_cons | apply List.Sublist.cons))) (fun _ => ?_)
   clear hK K
   (try simp only [Act.put, List.setIfInBounds_toArray, List.set_cons_zero, List.set_cons_succ])
   refine wpAnyH_ready (rs := [1, 4]) (by kernel_rfl) (by simp) ?_
   refine AllReadyH.cons rfl (fun K hK => ?_) ?_
   ·skip
    go_simp
    go_wp2_with (go_at_call 68; ((with_reducible refine (HV1.out _).mono ?_); rintro e w2 ⟨⟨v, rfl, P1, rfl, hP⟩, hb⟩; have HO1 := Lib.hid (show P1.oneCell' = true by obtain ⟨_, _, rfl⟩ := hP.val; rfl); obtain ⟨X1, HX1, HN⟩ := Blks.strsAdd (by repeat (first | exact HM.out | apply Blks.drewN | apply Blks.drew | apply Blks.other)) hb hP; simp only [List.cons_append, List.nil_append] at HN; clear HM hb hP; have HM := Aside0.mk HN; clear HN))
    refine hK.out _ _ (HM.out.less (by repeat (first | exact List.nil_sublist _ | apply List.Sublist.cons_cons | apply List.Sublist.cons))) (fun _ => ?_)
    clear hK K
    (try simp only [Act.put, List.setIfInBounds_toArray, List.set_cons_zero, List.set_cons_succ])
    refine wpAnyH_ready (rs := [3, 4]) (by kernel_rfl) (by simp) ?_
    refine AllReadyH.cons rfl (fun K hK => ?_) ?_
    ·skip
     go_simp
     go_wp2_with (go_at_call 68; ((with_reducible refine (HV2.out _).mono ?_); rintro e w2 ⟨⟨v, rfl, P2, rfl, hP⟩, hb⟩; have HO2 := Lib.hid (show P2.oneCell' = true by obtain ⟨_, _, rfl⟩ := hP.val; rfl); obtain ⟨X2, HX2, HN⟩ := Blks.strsAdd (by repeat (first | exact HM.out | apply Blks.drewN | apply Blks.drew | apply Blks.other)) hb hP; simp only [List.cons_append, List.nil_append] at HN; clear HM hb hP; have HM := Aside0.mk HN; clear HN))
     refine hK.out _ _ (HM.out.less (by repeat (first | exact List.nil_sublist _ | apply List.Sublist.cons_cons | apply List.Sublist.cons))) (fun _ => ?_)
     clear hK K
     (try simp only [Act.put, List.setIfInBounds_toArray, List.set_cons_zero, List.set_cons_succ])
     refine wpAnyH_ready (rs := [4]) (by kernel_rfl) (by simp) ?_
     refine AllReadyH.cons (o := ⟨some 9, .alloc 50, _, _, _, none⟩) rfl (fun K hK => ?_) ?_
     ·skip
      refine d_alloc (by repeat (first | exact HM.out | apply Blks.drewN | apply Blks.drew | apply Blks.other)) ?_
      intro b9 wq HN
      clear HM; have HM := HN; clear HN
      refine hK.out _ _ (HM.out.less (by repeat (first | exact List.nil_sublist _ | apply List.Sublist.cons_cons | apply List.Sublist.cons))) (fun _ => ?_)
      clear hK K
      (try simp only [Act.put, List.setIfInBounds_toArray, List.set_cons_zero, List.set_cons_succ])
      refine wpAnyH_ready (rs := [6]) (by kernel_rfl) (by simp) ?_
      refine AllReadyH.cons (o := ⟨none, .store 50 (.tmp 9) (.tmp 28), _, _, _, none⟩) rfl (fun K hK => ?_) ?_
      ·skip
       refine d_store (by repeat (first | exact HM.out | apply Blks.drewN | apply Blks.drew | apply Blks.other)) (by rfl) (by rfl) (by rfl) (semOne HO1.out) (by repeat (first | exact List.Mem.head _ | apply List.Mem.tail)) (by repeat (first | exact Wr.nil | apply Wr.here | apply Wr.skip)) (by repeat (first | exact Up.here | apply Up.skip)) ?_
       intro wq HN
       clear HM; have HM := HN; clear HN
       refine hK.out _ _ (HM.out.less (by repeat (first | exact List.nil_sublist _ | apply List.Sublist.cons_cons | apply List.Sublist.cons))) (fun _ => ?_)
       clear hK K
       (try simp only [Act.put, List.setIfInBounds_toArray, List.set_cons_zero, List.set_cons_succ])
       refine wpAnyH_ready (rs := [7]) (by kernel_rfl) (by simp) ?_
       refine AllReadyH.cons (o := ⟨none, .store 50 (.tmp 10) (.tmp 30), _, _, _, none⟩) rfl (fun K hK => ?_) ?_
       ·skip
        refine d_store (by repeat (first | exact HM.out | apply Blks.drewN | apply Blks.drew | apply Blks.other)) (by rfl) (by rfl) (by rfl) (semOne HO2.out) (by repeat (first | exact List.Mem.head _ | apply List.Mem.tail)) (by repeat (first | exact Wr.nil | apply Wr.here | apply Wr.skip)) (by repeat (first | exact Up.here | apply Up.skip)) ?_
        intro wq HN
        clear HM; have HM := HN; clear HN
        refine hK.out _ _ (HM.out.less (by repeat (first | exact List.nil_sublist _ | apply List.Sublist.cons_cons | apply List.Sublist.cons))) (fun _ => ?_)
        clear hK K
        (try simp only [Act.put, List.setIfInBounds_toArray, List.set_cons_zero, List.set_cons_succ])
        refine wpAnyH_done (by kernel_rfl) ?_ _
        go_wp2_with fail
        go_meet
        case rel => exact ⟨b9, b10, P1, P2, X1, X2, rfl, rfl, HX1, HX2, ⟨HM.out⟩⟩
       exact AllReadyH.nil
      exact AllReadyH.nil
     exact AllReadyH.nil
    refine AllReadyH.cons (o := ⟨some 9, .alloc 50, _, _, _, none⟩) rfl (fun K hK => ?_) ?_
    ·skip
     refine d_alloc (by repeat (first | exact HM.out | apply Blks.drewN | apply Blks.drew | apply Blks.other)) ?_
     intro b9 wq HN
     clear HM; have HM := HN; clear HN
     refine hK.out _ _ (HM.out.less (by repeat (first | exact List.nil_sublist _ | apply List.Sublist.cons_cons | apply List.Sublist.cons))) (fun _ => ?_)
     clear hK K
     (try simp only [Act.put, List.setIfInBounds_toArray, List.set_cons_zero, List.set_cons_succ])
     refine wpAnyH_ready (rs := [3]) (by kernel_rfl) (by simp) ?_
     refine AllReadyH.cons rfl (fun K hK => ?_) ?_
     ·skip
      go_simp
      go_wp2_with (go_at_call 68; ((with_reducible refine (HV2.out _).mono ?_); rintro e w2 ⟨⟨v, rfl, P2, rfl, hP⟩, hb⟩; have HO2 := Lib.hid (show P2.oneCell' = true by obtain ⟨_, _, rfl⟩ := hP.val; rfl); obtain ⟨X2, HX2, HN⟩ := Blks.strsAdd (by repeat (first | exact HM.out | apply Blks.drewN | apply Blks.drew | apply Blks.other)) hb hP; simp only [List.cons_append, List.nil_append] at HN; clear HM hb hP; have HM := Aside0.mk HN; clear HN))
      refine hK.out _ _ (HM.out.less (by repeat (first | exact List.nil_sublist _ | apply List.Sublist.cons_cons | apply List.Sublist.cons))) (fun _ => ?_)
      clear hK K
      (try simp only [Act.put, List.setIfInBounds_toArray, List.set_cons_zero, List.set_cons_succ])
      refine wpAnyH_ready (rs := [6]) (by kernel_rfl) (by simp) ?_
      refine AllReadyH.cons (o := ⟨none, .store 50 (.tmp 9) (.tmp 28), _, _, _, none⟩) rfl (fun K hK => ?_) ?_
      ·skip
       refine d_store (by repeat (first | exact HM.out | apply Blks.drewN | apply Blks.drew | apply Blks.other)) (by rfl) (by rfl) (by rfl) (semOne HO1.out) (by repeat (first | exact List.Mem.head _ | apply List.Mem.tail)) (by repeat (first | exact Wr.nil | apply Wr.here | apply Wr.skip)) (by repeat (first | exact Up.here | apply Up.skip)) ?_
       intro wq HN
       clear HM; have HM := HN; clear HN
       refine hK.out _ _ (HM.out.less (by repeat (first | exact List.nil_sublist _ | apply List.Sublist.cons_cons | apply List.Sublist.cons))) (fun _ => ?_)
       clear hK K
       (try simp only [Act.put, List.setIfInBounds_toArray, List.set_cons_zero, List.set_cons_succ])
       refine wpAnyH_ready (rs := [7]) (by kernel_rfl) (by simp) ?_
       refine AllReadyH.cons (o := ⟨none, .store 50 (.tmp 10) (.tmp 30), _, _, _, none⟩) rfl (fun K hK => ?_) ?_
       ·skip
        refine d_store (by repeat (first | exact HM.out | apply Blks.drewN | apply Blks.drew | apply Blks.other)) (by rfl) (by rfl) (by rfl) (semOne HO2.out) (by repeat (first | exact List.Mem.head _ | apply List.Mem.tail)) (by repeat (first | exact Wr.nil | apply Wr.here | apply Wr.skip)) (by repeat (first | exact Up.here | apply Up.skip)) ?_
        intro wq HN
        clear HM; have HM := HN; clear HN
        refine hK.out _ _ (HM.out.less (by repeat (first | exact List.nil_sublist _ | apply List.Sublist.cons_cons | apply List.Sublist.cons))) (fun _ => ?_)
        clear hK K
        (try simp only [Act.put, List.setIfInBounds_toArray, List.set_cons_zero, List.set_cons_succ])
        refine wpAnyH_done (by kernel_rfl) ?_ _
        go_wp2_with fail
        go_meet
        case rel => exact ⟨b9, b10, P1, P2, X1, X2, rfl, rfl, HX1, HX2, ⟨HM.out⟩⟩
       exact AllReadyH.nil
      exact AllReadyH.nil
     exact AllReadyH.nil
    exact AllReadyH.nil
   refine AllReadyH.cons (o := ⟨some 9, .alloc 50, _, _, _, none⟩) rfl (fun K hK => ?_) ?_
   ·skip
    refine d_alloc (by repeat (first | exact HM.out | apply Blks.drewN | apply Blks.drew | apply Blks.other)) ?_
    intro b9 wq HN
    clear HM; have HM := HN; clear HN
    refine hK.out _ _ (HM.out.less (by repeat (first | exact List.nil_sublist _ | apply List.Sublist.cons_cons | apply List.Sublist.cons))) (fun _ => ?_)
    clear hK K
    (try simp only [Act.put, List.setIfInBounds_toArray, List.set_cons_zero, List.set_cons_succ])
    refine wpAnyH_ready (rs := [1]) (by kernel_rfl) (by simp) ?_
    refine AllReadyH.cons rfl (fun K hK => ?_) ?_
    ·skip
     go_simp
     go_wp2_with (go_at_call 68; ((with_reducible refine (HV1.out _).mono ?_); rintro e w2 ⟨⟨v, rfl, P1, rfl, hP⟩, hb⟩; have HO1 := Lib.hid (show P1.oneCell' = true by obtain ⟨_, _, rfl⟩ := hP.val; rfl); obtain ⟨X1, HX1, HN⟩ := Blks.strsAdd (by repeat (first | exact HM.out | apply Blks.drewN | apply Blks.drew | apply Blks.other)) hb hP; simp only [List.cons_append, List.nil_append] at HN; clear HM hb hP; have HM := Aside0.mk HN; clear HN))
     refine hK.out _ _ (HM.out.less (by repeat (first | exact List.nil_sublist _ | apply List.Sublist.cons_cons | apply List.Sublist.cons))) (fun _ => ?_)
     clear hK K
     (try simp only [Act.put, List.setIfInBounds_toArray, List.set_cons_zero, List.set_cons_succ])
     refine wpAnyH_ready (rs := [3]) (by kernel_rfl) (by simp) ?_
     refine AllReadyH.cons rfl (fun K hK => ?_) ?_
     ·skip
      go_simp
      go_wp2_with (go_at_call 68; ((with_reducible refine (HV2.out _).mono ?_); rintro e w2 ⟨⟨v, rfl, P2, rfl, hP⟩, hb⟩; have HO2 := Lib.hid (show P2.oneCell' = true by obtain ⟨_, _, rfl⟩ := hP.val; rfl); obtain ⟨X2, HX2, HN⟩ := Blks.strsAdd (by repeat (first | exact HM.out | apply Blks.drewN | apply Blks.drew | apply Blks.other)) hb hP; simp only [List.cons_append, List.nil_append] at HN; clear HM hb hP; have HM := Aside0.mk HN; clear HN))
      refine hK.out _ _ (HM.out.less (by repeat (first | exact List.nil_sublist _ | apply List.Sublist.cons_cons | apply List.Sublist.cons))) (fun _ => ?_)
      clear hK K
      (try simp only [Act.put, List.setIfInBounds_toArray, List.set_cons_zero, List.set_cons_succ])
      refine wpAnyH_ready (rs := [6]) (by kernel_rfl) (by simp) ?_
      refine AllReadyH.cons (o := ⟨none, .store 50 (.tmp 9) (.tmp 28), _, _, _, none⟩) rfl (fun K hK => ?_) ?_
      ·skip
       refine d_store (by repeat (first | exact HM.out | apply Blks.drewN | apply Blks.drew | apply Blks.other)) (by rfl) (by rfl) (by rfl) (semOne HO1.out) (by repeat (first | exact List.Mem.head _ | apply List.Mem.tail)) (by repeat (first | exact Wr.nil | apply Wr.here | apply Wr.skip)) (by repeat (first | exact Up.here | apply Up.skip)) ?_
       intro wq HN
       clear HM; have HM := HN; clear HN
       refine hK.out _ _ (HM.out.less (by repeat (first | exact List.nil_sublist _ | apply List.Sublist.cons_cons | apply List.Sublist.cons))) (fun _ => ?_)
       clear hK K
       (try simp only [Act.put, List.setIfInBounds_toArray, List.set_cons_zero, List.set_cons_succ])
       refine wpAnyH_ready (rs := [7]) (by kernel_rfl) (by simp) ?_
       refine AllReadyH.cons (o := ⟨none, .store 50 (.tmp 10) (.tmp 30), _, _, _, none⟩) rfl (fun K hK => ?_) ?_
       ·skip
        refine d_store (by repeat (first | exact HM.out | apply Blks.drewN | apply Blks.drew | apply Blks.other)) (by rfl) (by rfl) (by rfl) (semOne HO2.out) (by repeat (first | exact List.Mem.head _ | apply List.Mem.tail)) (by repeat (first | exact Wr.nil | apply Wr.here | apply Wr.skip)) (by repeat (first | exact Up.here | apply Up.skip)) ?_
        intro wq HN
        clear HM; have HM := HN; clear HN
        refine hK.out _ _ (HM.out.less (by repeat (first | exact List.nil_sublist _ | apply List.Sublist.cons_cons | apply List.Sublist.cons))) (fun _ => ?_)
        clear hK K
        (try simp only [Act.put, List.setIfInBounds_toArray, List.set_cons_zero, List.set_cons_succ])
        refine wpAnyH_done (by kernel_rfl) ?_ _
        go_wp2_with fail
        go_meet
        case rel => exact ⟨b9, b10, P1, P2, X1, X2, rfl, rfl, HX1, HX2, ⟨HM.out⟩⟩
       exact AllReadyH.nil
      exact AllReadyH.nil
     exact AllReadyH.nil
    exact AllReadyH.nil
   exact AllReadyH.nil
  exact AllReadyH.nil
 case rest =>
  clear HM
  obtain ⟨b9, b10, P1, P2, X1, X2, rfl, rfl, HX1, HX2, HM⟩ := hcut
  obtain ⟨A1, q1, rfl⟩ := HX1.val
  obtain ⟨A2, q2, rfl⟩ := HX2.val
  have HSO := Lib.hid (fun W (h1 : StrsAt 9 W w.heap.size (.slice A1 pp1.length q1) pp1) (h2 : StrsAt 9 W w.heap.size (.slice A2 pp2.length q2) pp2) => HSO0.out W A1 A2 q1 q2 h1 h2)
  have HX3 := Lib.hid HX1
  have HX4 := Lib.hid HX2
  clear HX1 HX2 HSO0
  have k9 := Blks.cell HM.out (b := b9) (o := 4) (by repeat (first | exact List.Mem.head _ | apply List.Mem.tail)) (by repeat (first | exact Rd.nil | apply Rd.here | apply Rd.skip))
  have k10 := Blks.cell HM.out (b := b10) (o := 4) (by repeat (first | exact List.Mem.head _ | apply List.Mem.tail)) (by repeat (first | exact Rd.nil | apply Rd.here | apply Rd.skip))
  have hr := HR.out
  clear HR
  by_cases hn1 : pp1.length = 0
  ·skip
   by_cases hn2 : pp2.length = 0
   ·have f1a : decide ((0 : Int) < (pp1.length : Int)) = false := decide_eq_false (by omega)
    have f1b : decide (0 < pp1.length) = false := decide_eq_false (by omega)
    have f1c : ((pp1.length : Int) == 0) = true := beq_iff_eq.2 (by omega)
    have f1d : (pp1.length == 0) = true := beq_iff_eq.2 (by omega)
    have f2a : decide ((0 : Int) < (pp2.length : Int)) = false := decide_eq_false (by omega)
    have f2b : decide (0 < pp2.length) = false := decide_eq_false (by omega)
    have f2c : ((pp2.length : Int) == 0) = true := beq_iff_eq.2 (by omega)
    have f2d : (pp2.length == 0) = true := beq_iff_eq.2 (by omega)
    have hr2 : r = if down = true then cv else -cv := by rw [hr, if_pos (by omega)]
    clear hr hn1 hn2
    cases down
    ·have hr3 : r = -cv := hr2
     subst hr3
     clear hr2
     go_wp2_with (first | (go_at_call 82; ((with_reducible refine (HSO.out _ (HX3.out.strsIn (by repeat (first | exact HM.out | apply Blks.drewN | apply Blks.drew | apply Blks.other)) (fun x hx => by simp [hx])) (HX4.out.strsIn (by repeat (first | exact HM.out | apply Blks.drewN | apply Blks.drew | apply Blks.other)) (fun x hx => by simp [hx]))).mono ?_); rintro e w2 ⟨rfl, hb⟩; have HN := Aside0.mk (Blks.call (by repeat (first | exact HM.out | apply Blks.drewN | apply Blks.drew | apply Blks.other)) hb); clear HM hb; have HM := HN; clear HN)) | (refine m_load (by repeat (first | exact HM.out | apply Blks.drewN | apply Blks.drew | apply Blks.other)) (h := ?_)) | (go_at_call 105; ((with_reducible refine (HS.out _ _).mono ?_); rintro e w' ⟨rfl, ⟨nq, rfl⟩⟩; simp only [if_true, if_false, Bool.false_eq_true, reduceCtorEq, ite_true, ite_false]; have HN := Aside0.mk (Blks.drewN (by repeat (first | exact HM.out | apply Blks.drewN | apply Blks.drew | apply Blks.other)) nq); clear HM; have HM := HN; clear HN)))
     go_ret
     exact ⟨rfl, HM.out.bel⟩
    ·have hr3 : r = cv := hr2
     subst hr3
     clear hr2
     go_wp2_with (first | (go_at_call 82; ((with_reducible refine (HSO.out _ (HX3.out.strsIn (by repeat (first | exact HM.out | apply Blks.drewN | apply Blks.drew | apply Blks.other)) (fun x hx => by simp [hx])) (HX4.out.strsIn (by repeat (first | exact HM.out | apply Blks.drewN | apply Blks.drew | apply Blks.other)) (fun x hx => by simp [hx]))).mono ?_); rintro e w2 ⟨rfl, hb⟩; have HN := Aside0.mk (Blks.call (by repeat (first | exact HM.out | apply Blks.drewN | apply Blks.drew | apply Blks.other)) hb); clear HM hb; have HM := HN; clear HN)) | (refine m_load (by repeat (first | exact HM.out | apply Blks.drewN | apply Blks.drew | apply Blks.other)) (h := ?_)) | (go_at_call 105; ((with_reducible refine (HS.out _ _).mono ?_); rintro e w' ⟨rfl, ⟨nq, rfl⟩⟩; simp only [if_true, if_false, Bool.false_eq_true, reduceCtorEq, ite_true, ite_false]; have HN := Aside0.mk (Blks.drewN (by repeat (first | exact HM.out | apply Blks.drewN | apply Blks.drew | apply Blks.other)) nq); clear HM; have HM := HN; clear HN)))
     go_ret
     exact ⟨rfl, HM.out.bel⟩
   ·have f1a : decide ((0 : Int) < (pp1.length : Int)) = false := decide_eq_false (by omega)
    have f1b : decide (0 < pp1.length) = false := decide_eq_false (by omega)
    have f1c : ((pp1.length : Int) == 0) = true := beq_iff_eq.2 (by omega)
    have f1d : (pp1.length == 0) = true := beq_iff_eq.2 (by omega)
    have f2a : decide ((0 : Int) < (pp2.length : Int)) = true := decide_eq_true (by omega)
    have f2b : decide (0 < pp2.length) = true := decide_eq_true (by omega)
    have f2c : ((pp2.length : Int) == 0) = false := beq_eq_false_iff_ne.2 (by omega)
    have f2d : (pp2.length == 0) = false := beq_eq_false_iff_ne.2 (by omega)
    have hr2 : r = -1 := by rw [hr, if_neg (by omega), if_pos hn1]
    subst hr2
    clear hr hn1 hn2
    go_wp2_with (first | (go_at_call 82; ((with_reducible refine (HSO.out _ (HX3.out.strsIn (by repeat (first | exact HM.out | apply Blks.drewN | apply Blks.drew | apply Blks.other)) (fun x hx => by simp [hx])) (HX4.out.strsIn (by repeat (first | exact HM.out | apply Blks.drewN | apply Blks.drew | apply Blks.other)) (fun x hx => by simp [hx]))).mono ?_); rintro e w2 ⟨rfl, hb⟩; have HN := Aside0.mk (Blks.call (by repeat (first | exact HM.out | apply Blks.drewN | apply Blks.drew | apply Blks.other)) hb); clear HM hb; have HM := HN; clear HN)) | (refine m_load (by repeat (first | exact HM.out | apply Blks.drewN | apply Blks.drew | apply Blks.other)) (h := ?_)) | (go_at_call 105; ((with_reducible refine (HS.out _ _).mono ?_); rintro e w' ⟨rfl, ⟨nq, rfl⟩⟩; simp only [if_true, if_false, Bool.false_eq_true, reduceCtorEq, ite_true, ite_false]; have HN := Aside0.mk (Blks.drewN (by repeat (first | exact HM.out | apply Blks.drewN | apply Blks.drew | apply Blks.other)) nq); clear HM; have HM := HN; clear HN)))
    go_ret
    exact ⟨rfl, HM.out.bel⟩
  ·skip
   by_cases hn2 : pp2.length = 0
   ·have f1a : decide ((0 : Int) < (pp1.length : Int)) = true := decide_eq_true (by omega)
    have f1b : decide (0 < pp1.length) = true := decide_eq_true (by omega)
    have f1c : ((pp1.length : Int) == 0) = false := beq_eq_false_iff_ne.2 (by omega)
    have f1d : (pp1.length == 0) = false := beq_eq_false_iff_ne.2 (by omega)
    have f2a : decide ((0 : Int) < (pp2.length : Int)) = false := decide_eq_false (by omega)
    have f2b : decide (0 < pp2.length) = false := decide_eq_false (by omega)
    have f2c : ((pp2.length : Int) == 0) = true := beq_iff_eq.2 (by omega)
    have f2d : (pp2.length == 0) = true := beq_iff_eq.2 (by omega)
    have hr2 : r = 1 := by rw [hr, if_neg (by omega), if_neg hn1]
    subst hr2
    clear hr hn1 hn2
    go_wp2_with (first | (go_at_call 82; ((with_reducible refine (HSO.out _ (HX3.out.strsIn (by repeat (first | exact HM.out | apply Blks.drewN | apply Blks.drew | apply Blks.other)) (fun x hx => by simp [hx])) (HX4.out.strsIn (by repeat (first | exact HM.out | apply Blks.drewN | apply Blks.drew | apply Blks.other)) (fun x hx => by simp [hx]))).mono ?_); rintro e w2 ⟨rfl, hb⟩; have HN := Aside0.mk (Blks.call (by repeat (first | exact HM.out | apply Blks.drewN | apply Blks.drew | apply Blks.other)) hb); clear HM hb; have HM := HN; clear HN)) | (refine m_load (by repeat (first | exact HM.out | apply Blks.drewN | apply Blks.drew | apply Blks.other)) (h := ?_)) | (go_at_call 105; ((with_reducible refine (HS.out _ _).mono ?_); rintro e w' ⟨rfl, ⟨nq, rfl⟩⟩; simp only [if_true, if_false, Bool.false_eq_true, reduceCtorEq, ite_true, ite_false]; have HN := Aside0.mk (Blks.drewN (by repeat (first | exact HM.out | apply Blks.drewN | apply Blks.drew | apply Blks.other)) nq); clear HM; have HM := HN; clear HN)))
    go_ret
    exact ⟨rfl, HM.out.bel⟩
   ·have f1a : decide ((0 : Int) < (pp1.length : Int)) = true := decide_eq_true (by omega)
    have f1b : decide (0 < pp1.length) = true := decide_eq_true (by omega)
    have f1c : ((pp1.length : Int) == 0) = false := beq_eq_false_iff_ne.2 (by omega)
    have f1d : (pp1.length == 0) = false := beq_eq_false_iff_ne.2 (by omega)
    have f2a : decide ((0 : Int) < (pp2.length : Int)) = true := decide_eq_true (by omega)
    have f2b : decide (0 < pp2.length) = true := decide_eq_true (by omega)
    have f2c : ((pp2.length : Int) == 0) = false := beq_eq_false_iff_ne.2 (by omega)
    have f2d : (pp2.length == 0) = false := beq_eq_false_iff_ne.2 (by omega)
    have hr2 : r = if down = true then cv else -cv := by rw [hr, if_pos (by omega)]
    clear hr hn1 hn2
    cases down
    ·have hr3 : r = -cv := hr2
     subst hr3
     clear hr2
     go_wp2_with (first | (go_at_call 82; ((with_reducible refine (HSO.out _ (HX3.out.strsIn (by repeat (first | exact HM.out | apply Blks.drewN | apply Blks.drew | apply Blks.other)) (fun x hx => by simp [hx])) (HX4.out.strsIn (by repeat (first | exact HM.out | apply Blks.drewN | apply Blks.drew | apply Blks.other)) (fun x hx => by simp [hx]))).mono ?_); rintro e w2 ⟨rfl, hb⟩; have HN := Aside0.mk (Blks.call (by repeat (first | exact HM.out | apply Blks.drewN | apply Blks.drew | apply Blks.other)) hb); clear HM hb; have HM := HN; clear HN)) | (refine m_load (by repeat (first | exact HM.out | apply Blks.drewN | apply Blks.drew | apply Blks.other)) (h := ?_)) | (go_at_call 105; ((with_reducible refine (HS.out _ _).mono ?_); rintro e w' ⟨rfl, ⟨nq, rfl⟩⟩; simp only [if_true, if_false, Bool.false_eq_true, reduceCtorEq, ite_true, ite_false]; have HN := Aside0.mk (Blks.drewN (by repeat (first | exact HM.out | apply Blks.drewN | apply Blks.drew | apply Blks.other)) nq); clear HM; have HM := HN; clear HN)))
     go_ret
     exact ⟨rfl, HM.out.bel⟩
    ·have hr3 : r = cv := hr2
     subst hr3
     clear hr2
     go_wp2_with (first | (go_at_call 82; ((with_reducible refine (HSO.out _ (HX3.out.strsIn (by repeat (first | exact HM.out | apply Blks.drewN | apply Blks.drew | apply Blks.other)) (fun x hx => by simp [hx])) (HX4.out.strsIn (by repeat (first | exact HM.out | apply Blks.drewN | apply Blks.drew | apply Blks.other)) (fun x hx => by simp [hx]))).mono ?_); rintro e w2 ⟨rfl, hb⟩; have HN := Aside0.mk (Blks.call (by repeat (first | exact HM.out | apply Blks.drewN | apply Blks.drew | apply Blks.other)) hb); clear HM hb; have HM := HN; clear HN)) | (refine m_load (by repeat (first | exact HM.out | apply Blks.drewN | apply Blks.drew | apply Blks.other)) (h := ?_)) | (go_at_call 105; ((with_reducible refine (HS.out _ _).mono ?_); rintro e w' ⟨rfl, ⟨nq, rfl⟩⟩; simp only [if_true, if_false, Bool.false_eq_true, reduceCtorEq, ite_true, ite_false]; have HN := Aside0.mk (Blks.drewN (by repeat (first | exact HM.out | apply Blks.drewN | apply Blks.drew | apply Blks.other)) nq); clear HM; have HM := HN; clear HN)))
     go_ret
     exact ⟨rfl, HM.out.bel⟩
end Go.Proofs.YtgoeiflddikihaaGreatDoor.Ver
end
