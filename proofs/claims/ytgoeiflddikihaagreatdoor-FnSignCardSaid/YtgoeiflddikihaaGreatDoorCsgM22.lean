/- Merged by program out of: VLess3. -/
import Derived.Test.YtgoeiflddikihaaGreatDoorCsgM17
import Derived.Test.YtgoeiflddikihaaGreatDoorCsgM15
section
namespace Go.Proofs.YtgoeiflddikihaaGreatDoor.Ver
open Go.RowKit Go.Proofs.YtgoeiflddikihaaGreatDoorW.PrintWords Go.Proofs.YtgoeiflddikihaaGreatDoor.Ord
theorem at_two (w : World) (a b : Obj) : ((w.alloc a).alloc b).heap[w.heap.size + 1]? = some b := by
  have := alloc_at (w.alloc a) b
  rw [alloc_size] at this
  exact this
theorem fld_sem (a b c : Int) (p m o : ByteArray) (W : World) : (Instr.field 200 (.agg #[.int .u64 a, .int .u64 b, .int .u64 c, .string p, .string m, .string o]) 0).run Tryz.prog W = .ok (.agg #[.int .u64 a, .int .u64 b, .int .u64 c, .string p, .string m, .string o]) W := by kernel_rfl
set_option maxRecDepth 20000 in
set_option maxHeartbeats 8000000 in
theorem vless_sem (l r : Vers) (v u : SV) (hl : l.bare = .un (.sem v)) (hr : r.bare = .un (.sem u)) (hv : v.pre.size ≤ 140737488351232) (hu : u.pre.size ≤ 140737488351232) (down : Bool) (w : World) :
    Calls Tryz.prog 204 #[l.val, r.val, .bool down] w fun e w' => e = .returned (.bool (lessV down l r)) ∧ Below w.heap.size w w' := by
  have HB := Aside0.mk (Below.refl w.heap.size w)
  have h1 : l.rank = 0 := by rcases l with s | (⟨n, d⟩ | s | v) | ⟨(⟨n, d⟩ | s | v), x⟩ <;> first | rfl | cases hl
  have h2 : r.rank = 0 := by rcases r with s | (⟨n, d⟩ | s | v) | ⟨(⟨n, d⟩ | s | v), x⟩ <;> first | rfl | cases hr
  rw [← less_bare]
  have HC := Lib.hid (fun W => cvt_at l r (k := 0) (by rw [h1, h2]; exact cmp_nat.refl _) W)
  rw [hl, hr, less_sem] 
  rw [hl, hr] at HC
  have PV : ∀ (W : World) d os, Calls Tryz.prog 206 #[.agg v.cells] (Sort.grow (redrawn W d) os) fun e w'' => e = .returned (.string v.pre) ∧ ∃ p : Regrown, w'' = Sort.grow (redrawn W p.d) p.os := fun W d os => Calls.regrown_of (prerel_any v _)
  have PU : ∀ (W : World) d os, Calls Tryz.prog 206 #[.agg u.cells] (Sort.grow (redrawn W d) os) fun e w'' => e = .returned (.string u.pre) ∧ ∃ p : Regrown, w'' = Sort.grow (redrawn W p.d) p.os := fun W d os => Calls.regrown_of (prerel_any u _)
  have HL := Lib.hid (fun W => less_any v u hv hu W)
  have HM := Lib.hid (fun W => more_any v u hv hu W)
  rw [← ByteArray.toList_eq, ← ByteArray.toList_eq]
  generalize hres : (if v.pre.toList.isEmpty = u.pre.toList.isEmpty then (if down = true then decide (cmpV v u < 0) else decide (cmpV v u > 0)) else v.pre.toList.isEmpty) = res
  have HRES := Lib.hid hres
  clear hres
  generalize cmpV v u = c at *
  have c1 := c_sem_pair
  have c2 := c_pair_pair
  have c3 := c_sem_branch
  have c4 := c_sem_rev
  have c5 := c_sem_plain
  have c6 := p_sem
  have c7 := fld_sem
  obtain ⟨va, vb, vc, vp, vm, vo⟩ := v
  obtain ⟨ua, ub, uc, up, um, uo⟩ := u
  dsimp only at hv hu HRES
  have hl' : l = .un (.sem ⟨va, vb, vc, vp, vm, vo⟩) ∨ ∃ x, l = .pair (.sem ⟨va, vb, vc, vp, vm, vo⟩) x := by
    rcases l with s | (⟨n, d⟩ | s | v) | ⟨(⟨n, d⟩ | s | v), x⟩ <;> first | (cases hl; done) | (injection hl with e; injection e with e; subst e; first | exact Or.inl rfl | exact Or.inr ⟨_, rfl⟩)
  have hr' : r = .un (.sem ⟨ua, ub, uc, up, um, uo⟩) ∨ ∃ x, r = .pair (.sem ⟨ua, ub, uc, up, um, uo⟩) x := by
    rcases r with s | (⟨n, d⟩ | s | v) | ⟨(⟨n, d⟩ | s | v), x⟩ <;> first | (cases hr; done) | (injection hr with e; injection e with e; subst e; first | exact Or.inl rfl | exact Or.inr ⟨_, rfl⟩)
  clear hl hr h1 h2
  rcases hl' with rfl | ⟨x, rfl⟩
  all_goals
    rcases hr' with rfl | ⟨x', rfl⟩
    all_goals
      dsimp only [Vers.val, Vers.tid, Vers.inner, Unp.val, Unp.tid, Unp.inner, SV.cells, Vers.bare] at HC PV PU HL HM ⊢
      have QV := Lib.hid PV
      have QU := Lib.hid PU
      clear PV PU
      go_enter Tryz.func204, Tryz.ntmps204
      go_upto_region 24 with (first
          | (go_at_call 205; ((with_reducible refine (HC.out _).mono ?_); rintro e w1 ⟨rfl, hb⟩; have HB5 := Aside0.mk (below_trans (by repeat (first | exact HB.out | apply below_alloc | apply pw_below_drewN | refine below_set ?_ (by first | exact Nat.le_refl _ | (simp; done) | (simp; omega)))) hb); clear hb)))
      go_cut [14, 15] (fun v14 v15 wx => ∃ g h : Nat, v14 = .pointer (some ⟨g, 0, none⟩) ∧ v15 = .pointer (some ⟨h, 0, none⟩) ∧ Aside0 (wx.heap[g]? = some (bSV va vb vc vp vm vo)) ∧ Aside0 (wx.heap[h]? = some (bSV ua ub uc up um uo)) ∧ Aside0 (Below w.heap.size w wx))
      case first =>
        go_region
        all_goals
          go_wp2_with fail
          go_meet
          case rel =>
            refine ⟨_, _, rfl, rfl, ⟨?_⟩, ⟨?_⟩, ⟨?_⟩⟩
            · first | exact blk_drew (blk_alloc (alloc_at w1 _) _) | exact blk_drew (at_two w1 _ _)
            · first | exact blk_drew (blk_alloc (alloc_at w1 _) _) | exact blk_drew (at_two w1 _ _)
            · exact below_drew (below_alloc (below_alloc HB5.out _) _)
      case rest =>
        obtain ⟨g, h, rfl, rfl, HG, HH, HB6⟩ := hcut
        have k0 := cell_regrown (blk_cell HG.out 0)
        have j0 := cell_regrown (blk_cell HH.out 0)
        have k1 := cell_regrown (blk_cell HG.out 1)
        have j1 := cell_regrown (blk_cell HH.out 1)
        have k2 := cell_regrown (blk_cell HG.out 2)
        have j2 := cell_regrown (blk_cell HH.out 2)
        have k3 := cell_regrown (blk_cell HG.out 3)
        have j3 := cell_regrown (blk_cell HH.out 3)
        have k4 := cell_regrown (blk_cell HG.out 4)
        have j4 := cell_regrown (blk_cell HH.out 4)
        have k5 := cell_regrown (blk_cell HG.out 5)
        have j5 := cell_regrown (blk_cell HH.out 5)
        go_wp2_with fail
        refine wp_region_quiet_below (by kernel_rfl) (by kernel_rfl) ?_
        repeat (quiet_step (first | exact QV.out _ _ _ | exact QU.out _ _ _))
        refine wpQuiet_nil ?_
        intro _ hw'
        obtain ⟨⟨dq, osq⟩, hw''⟩ := hw'
        subst hw''
        have HB7 := Aside0.mk (below_trans HB6.out (below_regrown _ dq osq))
        have z0 := k0 dq osq
        have y0 := j0 dq osq
        clear k0 j0
        have z1 := k1 dq osq
        have y1 := j1 dq osq
        clear k1 j1
        have z2 := k2 dq osq
        have y2 := j2 dq osq
        clear k2 j2
        have z3 := k3 dq osq
        have y3 := j3 dq osq
        clear k3 j3
        have z4 := k4 dq osq
        have y4 := j4 dq osq
        clear k4 j4
        have z5 := k5 dq osq
        have y5 := j5 dq osq
        clear k5 j5
        cases ha : vp.toList.isEmpty <;> cases hb : up.toList.isEmpty <;> cases down
        all_goals
          go_wp2_with (first
            | (go_at_call 207; ((with_reducible refine (HL.out _).mono ?_); rintro e w8 ⟨rfl, hb8⟩; have HB8 := Aside0.mk (below_trans HB7.out hb8); clear hb8))
            | (go_at_call 208; ((with_reducible refine (HM.out _).mono ?_); rintro e w8 ⟨rfl, hb8⟩; have HB8 := Aside0.mk (below_trans HB7.out hb8); clear hb8)))
          go_ret
          exact ⟨by rw [← HRES.out]; simp [ha, hb], by repeat (first | exact HB8.out | exact HB7.out | apply below_alloc | apply pw_below_drewN)⟩
end Go.Proofs.YtgoeiflddikihaaGreatDoor.Ver
end
