/- Merged by program out of: VLess3, Back, VOf, PHas, AwakeD, Sorter, VOf2. -/
import Derived.Test.YtgoeiflddikihaaGreatDoorCsoM11
import Derived.Test.YtgoeiflddikihaaGreatDoorCsoM10
import Derived.Test.YtgoeiflddikihaaGreatDoorCsoM7
import Derived.Deep.CutRange
import Derived.Test.YtgoeiflddikihaaGreatDoorCsoM3
import Derived.Deep.Cut
import Derived.Test.YtgoeiflddikihaaGreatDoorCsoM8
import Derived.Lib.QuietBelow
import Derived.BigQuiet
import Derived.RegionTactic
import Derived.BigRegion
import Derived.ChangeAlike
section
namespace Go.Proofs.YtgoeiflddikihaaGreatDoor.Ver
open Go.RowKit Go.Proofs.YtgoeiflddikihaaGreatDoorW.PrintWords Go.Proofs.YtgoeiflddikihaaGreatDoor.Ord
theorem at_two (w : World) (a b : Obj) : ((w.alloc a).alloc b).heap[w.heap.size + 1]? = some b := by
  have := alloc_at (w.alloc a) b
  rw [alloc_size] at this
  exact this
theorem fld_sem (a b c : Int) (p m o : ByteArray) (W : World) : (Instr.field 200 (.agg #[.int .u64 a, .int .u64 b, .int .u64 c, .string p, .string m, .string o]) 0).run Tryz.prog W = .ok (.agg #[.int .u64 a, .int .u64 b, .int .u64 c, .string p, .string m, .string o]) W := by kernel_rfl
set_option maxRecDepth 20000 in
set_option maxHeartbeats 8000000 in
theorem vless_sem (l r : Vers) (v u : SV) (hl : l.bare = .un (.sem v)) (hr : r.bare = .un (.sem u)) (hv : v.pre.size ≤ 140737488351232) (hu : u.pre.size ≤ 140737488351232) (down : Bool) (w : World) :
    Calls Tryz.prog 204 #[l.val, r.val, .bool down] w fun e w' => e = .returned (.bool (lessV down l r)) ∧ Below w.heap.size w w' := by
  have HB := Aside0.mk (Below.refl w.heap.size w)
  have h1 : l.rank = 0 := by rcases l with s | (⟨n, d⟩ | s | v) | ⟨(⟨n, d⟩ | s | v), x⟩ <;> first | rfl | cases hl
  have h2 : r.rank = 0 := by rcases r with s | (⟨n, d⟩ | s | v) | ⟨(⟨n, d⟩ | s | v), x⟩ <;> first | rfl | cases hr
  rw [← less_bare]
  have HC := Lib.hid (fun W => cvt_at l r (k := 0) (by rw [h1, h2]; exact cmp_nat.refl _) W)
  rw [hl, hr, less_sem] 
  rw [hl, hr] at HC
  have PV : ∀ (W : World) d os, Calls Tryz.prog 206 #[.agg v.cells] (Sort.grow (redrawn W d) os) fun e w'' => e = .returned (.string v.pre) ∧ ∃ p : Regrown, w'' = Sort.grow (redrawn W p.d) p.os := fun W d os => Calls.regrown_of (prerel_any v _)
  have PU : ∀ (W : World) d os, Calls Tryz.prog 206 #[.agg u.cells] (Sort.grow (redrawn W d) os) fun e w'' => e = .returned (.string u.pre) ∧ ∃ p : Regrown, w'' = Sort.grow (redrawn W p.d) p.os := fun W d os => Calls.regrown_of (prerel_any u _)
  have HL := Lib.hid (fun W => less_any v u hv hu W)
  have HM := Lib.hid (fun W => more_any v u hv hu W)
  rw [← ByteArray.toList_eq, ← ByteArray.toList_eq]
  generalize hres : (if v.pre.toList.isEmpty = u.pre.toList.isEmpty then (if down = true then decide (cmpV v u < 0) else decide (cmpV v u > 0)) else v.pre.toList.isEmpty) = res
  have HRES := Lib.hid hres
  clear hres
  generalize cmpV v u = c at *
  have c1 := c_sem_pair
  have c2 := c_pair_pair
  have c3 := c_sem_branch
  have c4 := c_sem_rev
  have c5 := c_sem_plain
  have c6 := p_sem
  have c7 := fld_sem
  obtain ⟨va, vb, vc, vp, vm, vo⟩ := v
  obtain ⟨ua, ub, uc, up, um, uo⟩ := u
  dsimp only at hv hu HRES
  have hl' : l = .un (.sem ⟨va, vb, vc, vp, vm, vo⟩) ∨ ∃ x, l = .pair (.sem ⟨va, vb, vc, vp, vm, vo⟩) x := by
    rcases l with s | (⟨n, d⟩ | s | v) | ⟨(⟨n, d⟩ | s | v), x⟩ <;> first | (cases hl; done) | (injection hl with e; injection e with e; subst e; first | exact Or.inl rfl | exact Or.inr ⟨_, rfl⟩)
  have hr' : r = .un (.sem ⟨ua, ub, uc, up, um, uo⟩) ∨ ∃ x, r = .pair (.sem ⟨ua, ub, uc, up, um, uo⟩) x := by
    rcases r with s | (⟨n, d⟩ | s | v) | ⟨(⟨n, d⟩ | s | v), x⟩ <;> first | (cases hr; done) | (injection hr with e; injection e with e; subst e; first | exact Or.inl rfl | exact Or.inr ⟨_, rfl⟩)
  clear hl hr h1 h2
  rcases hl' with rfl | ⟨x, rfl⟩
  all_goals
    rcases hr' with rfl | ⟨x', rfl⟩
    all_goals
      dsimp only [Vers.val, Vers.tid, Vers.inner, Unp.val, Unp.tid, Unp.inner, SV.cells, Vers.bare] at HC PV PU HL HM ⊢
      have QV := Lib.hid PV
      have QU := Lib.hid PU
      clear PV PU
      go_enter Tryz.func204, Tryz.ntmps204
      go_upto_region 24 with (first
          | (go_at_call 205; ((with_reducible refine (HC.out _).mono ?_); rintro e w1 ⟨rfl, hb⟩; have HB5 := Aside0.mk (below_trans (by repeat (first | exact HB.out | apply below_alloc | apply pw_below_drewN | refine below_set ?_ (by first | exact Nat.le_refl _ | (simp; done) | (simp; omega)))) hb); clear hb)))
      go_cut [14, 15] (fun v14 v15 wx => ∃ g h : Nat, v14 = .pointer (some ⟨g, 0, none⟩) ∧ v15 = .pointer (some ⟨h, 0, none⟩) ∧ Aside0 (wx.heap[g]? = some (bSV va vb vc vp vm vo)) ∧ Aside0 (wx.heap[h]? = some (bSV ua ub uc up um uo)) ∧ Aside0 (Below w.heap.size w wx))
      case first =>
        go_region
        all_goals
          go_wp2_with fail
          go_meet
          case rel =>
            refine ⟨_, _, rfl, rfl, ⟨?_⟩, ⟨?_⟩, ⟨?_⟩⟩
            · first | exact blk_drew (blk_alloc (alloc_at w1 _) _) | exact blk_drew (at_two w1 _ _)
            · first | exact blk_drew (blk_alloc (alloc_at w1 _) _) | exact blk_drew (at_two w1 _ _)
            · exact below_drew (below_alloc (below_alloc HB5.out _) _)
      case rest =>
        obtain ⟨g, h, rfl, rfl, HG, HH, HB6⟩ := hcut
        have k0 := cell_regrown (blk_cell HG.out 0)
        have j0 := cell_regrown (blk_cell HH.out 0)
        have k1 := cell_regrown (blk_cell HG.out 1)
        have j1 := cell_regrown (blk_cell HH.out 1)
        have k2 := cell_regrown (blk_cell HG.out 2)
        have j2 := cell_regrown (blk_cell HH.out 2)
        have k3 := cell_regrown (blk_cell HG.out 3)
        have j3 := cell_regrown (blk_cell HH.out 3)
        have k4 := cell_regrown (blk_cell HG.out 4)
        have j4 := cell_regrown (blk_cell HH.out 4)
        have k5 := cell_regrown (blk_cell HG.out 5)
        have j5 := cell_regrown (blk_cell HH.out 5)
        go_wp2_with fail
        refine wp_region_quiet_below (by kernel_rfl) (by kernel_rfl) ?_
        repeat (quiet_step (first | exact QV.out _ _ _ | exact QU.out _ _ _))
        refine wpQuiet_nil ?_
        intro _ hw'
        obtain ⟨⟨dq, osq⟩, hw''⟩ := hw'
        subst hw''
        have HB7 := Aside0.mk (below_trans HB6.out (below_regrown _ dq osq))
        have z0 := k0 dq osq
        have y0 := j0 dq osq
        clear k0 j0
        have z1 := k1 dq osq
        have y1 := j1 dq osq
        clear k1 j1
        have z2 := k2 dq osq
        have y2 := j2 dq osq
        clear k2 j2
        have z3 := k3 dq osq
        have y3 := j3 dq osq
        clear k3 j3
        have z4 := k4 dq osq
        have y4 := j4 dq osq
        clear k4 j4
        have z5 := k5 dq osq
        have y5 := j5 dq osq
        clear k5 j5
        cases ha : vp.toList.isEmpty <;> cases hb : up.toList.isEmpty <;> cases down
        all_goals
          go_wp2_with (first
            | (go_at_call 207; ((with_reducible refine (HL.out _).mono ?_); rintro e w8 ⟨rfl, hb8⟩; have HB8 := Aside0.mk (below_trans HB7.out hb8); clear hb8))
            | (go_at_call 208; ((with_reducible refine (HM.out _).mono ?_); rintro e w8 ⟨rfl, hb8⟩; have HB8 := Aside0.mk (below_trans HB7.out hb8); clear hb8)))
          go_ret
          exact ⟨by rw [← HRES.out]; simp [ha, hb], by repeat (first | exact HB8.out | exact HB7.out | apply below_alloc | apply pw_below_drewN)⟩
end Go.Proofs.YtgoeiflddikihaaGreatDoor.Ver
end
section
namespace Go.Proofs.YtgoeiflddikihaaGreatDoor.Ver
set_option linter.unusedSimpArgs false
open Go.RowKit Go.Proofs.YtgoeiflddikihaaGreatDoorW.PrintWords
def Unp.kind : Unp → Int
  | .branch _ d => if d then 2 else 1
  | _ => 3
def Unp.word : Unp → ByteArray
  | .branch n _ => n
  | .plain n => n
  | .sem v => v.orig
def backV : Vers → Value
  | .rev s => .agg #[.int .i64 0, .string s, .string ⟨#[]⟩]
  | .un u => .agg #[.int .i64 u.kind, .string u.word, .string ⟨#[]⟩]
  | .pair u r => .agg #[.int .i64 u.kind, .string u.word, .string r]
set_option maxHeartbeats 2000000 in
theorem back_rev (s : ByteArray) (w : World) : Calls Tryz.prog 78 #[Vers.val (.rev s)] w fun e w' => e = .returned (backV (.rev s)) ∧ Below w.heap.size w w' := by
  have HB := Aside0.mk (Below.refl w.heap.size w)
  have q0 := c_rev_rev
  have q1 := c_rev_pair
  have q2 := m_rev_String
  have q3 := m_rev_Type
  dsimp only [Vers.val, Vers.tid, Vers.inner, Unp.val, Unp.tid, Unp.inner, SV.cells] at *
  go_enter Tryz.func78, Tryz.ntmps78
  go_wp2
  refine bodyPost_ret (v := .agg #[.int .i64 0, .string s, .string ⟨#[]⟩]) (by simp [results, Tryz.results78, go_sem, *]) rfl ⟨rfl, ?_⟩
  repeat (first | exact HB.out | apply below_alloc | apply pw_below_drewN | (refine below_set ?_ (by first | exact Nat.le_refl _ | (simp; done) | (simp; omega))))
set_option maxHeartbeats 2000000 in
theorem back_branchF (n : ByteArray) (w : World) : Calls Tryz.prog 78 #[Vers.val (.un (.branch n false))] w fun e w' => e = .returned (backV (.un (.branch n false))) ∧ Below w.heap.size w w' := by
  have HB := Aside0.mk (Below.refl w.heap.size w)
  have q0 := c_branch_rev
  have q1 := c_branch_pair
  have q2 := a_branch_P
  have q3 := c_branch_branch
  have q4 := m_branch_String
  have q5 := m_branch_Type
  dsimp only [Vers.val, Vers.tid, Vers.inner, Unp.val, Unp.tid, Unp.inner, SV.cells] at *
  go_enter Tryz.func78, Tryz.ntmps78
  go_wp2
  refine bodyPost_ret (v := .agg #[.int .i64 1, .string n, .string ⟨#[]⟩]) (by simp [results, Tryz.results78, go_sem, *]) rfl ⟨rfl, ?_⟩
  repeat (first | exact HB.out | apply below_alloc | apply pw_below_drewN | (refine below_set ?_ (by first | exact Nat.le_refl _ | (simp; done) | (simp; omega))))
set_option maxHeartbeats 2000000 in
theorem back_branchT (n : ByteArray) (w : World) : Calls Tryz.prog 78 #[Vers.val (.un (.branch n true))] w fun e w' => e = .returned (backV (.un (.branch n true))) ∧ Below w.heap.size w w' := by
  have HB := Aside0.mk (Below.refl w.heap.size w)
  have q0 := c_branch_rev
  have q1 := c_branch_pair
  have q2 := a_branch_P
  have q3 := c_branch_branch
  have q4 := m_branch_String
  have q5 := m_branch_Type
  dsimp only [Vers.val, Vers.tid, Vers.inner, Unp.val, Unp.tid, Unp.inner, SV.cells] at *
  go_enter Tryz.func78, Tryz.ntmps78
  go_wp2
  refine bodyPost_ret (v := .agg #[.int .i64 2, .string n, .string ⟨#[]⟩]) (by simp [results, Tryz.results78, go_sem, *]) rfl ⟨rfl, ?_⟩
  repeat (first | exact HB.out | apply below_alloc | apply pw_below_drewN | (refine below_set ?_ (by first | exact Nat.le_refl _ | (simp; done) | (simp; omega))))
set_option maxHeartbeats 2000000 in
theorem back_plain (n : ByteArray) (w : World) : Calls Tryz.prog 78 #[Vers.val (.un (.plain n))] w fun e w' => e = .returned (backV (.un (.plain n))) ∧ Below w.heap.size w w' := by
  have HB := Aside0.mk (Below.refl w.heap.size w)
  have q0 := c_plain_rev
  have q1 := c_plain_pair
  have q2 := a_plain_P
  have q3 := m_plain_String
  have q4 := m_plain_Type
  dsimp only [Vers.val, Vers.tid, Vers.inner, Unp.val, Unp.tid, Unp.inner, SV.cells] at *
  go_enter Tryz.func78, Tryz.ntmps78
  go_wp2
  refine bodyPost_ret (v := .agg #[.int .i64 3, .string n, .string ⟨#[]⟩]) (by simp [results, Tryz.results78, go_sem, *]) rfl ⟨rfl, ?_⟩
  repeat (first | exact HB.out | apply below_alloc | apply pw_below_drewN | (refine below_set ?_ (by first | exact Nat.le_refl _ | (simp; done) | (simp; omega))))
set_option maxHeartbeats 2000000 in
theorem back_sem (v : SV) (ho : v.orig ≠ ⟨#[]⟩) (w : World) : Calls Tryz.prog 78 #[Vers.val (.un (.sem v))] w fun e w' => e = .returned (backV (.un (.sem v))) ∧ Below w.heap.size w w' := by
  have HB := Aside0.mk (Below.refl w.heap.size w)
  have hem : v.orig.toList.isEmpty = false := isEmpty_false (size_pos ho)
  clear ho
  obtain ⟨va, vb, vc, vp, vm, vo⟩ := v
  have q0 := c_sem_rev
  have q1 := c_sem_pair
  have q2 := a_sem_P
  have q3 := m_sem_String
  have q4 := m_sem_Type
  dsimp only [Vers.val, Vers.tid, Vers.inner, Unp.val, Unp.tid, Unp.inner, SV.cells] at *
  go_enter Tryz.func78, Tryz.ntmps78
  go_wp2
  refine bodyPost_ret (v := .agg #[.int .i64 3, .string vo, .string ⟨#[]⟩]) (by simp [results, Tryz.results78, go_sem, *]) rfl ⟨rfl, ?_⟩
  repeat (first | exact HB.out | apply below_alloc | apply pw_below_drewN | (refine below_set ?_ (by first | exact Nat.le_refl _ | (simp; done) | (simp; omega))))
set_option maxHeartbeats 2000000 in
theorem back_pbranchF (n q : ByteArray) (w : World) : Calls Tryz.prog 78 #[Vers.val (.pair (.branch n false) q)] w fun e w' => e = .returned (backV (.pair (.branch n false) q)) ∧ Below w.heap.size w w' := by
  have HB := Aside0.mk (Below.refl w.heap.size w)
  have q0 := c_pair_rev
  have q1 := c_pair_pair
  have q2 := a_pair_P
  have q3 := m_pair_Revision
  have q4 := m_pair_String
  have q5 := m_pair_Type
  have q6 := m_branch_String
  have q7 := m_branch_Type
  have q8 := c_branch_branch
  dsimp only [Vers.val, Vers.tid, Vers.inner, Unp.val, Unp.tid, Unp.inner, SV.cells] at *
  go_enter Tryz.func78, Tryz.ntmps78
  go_wp2
  refine bodyPost_ret (v := .agg #[.int .i64 1, .string n, .string q]) (by simp [results, Tryz.results78, go_sem, *]) rfl ⟨rfl, ?_⟩
  repeat (first | exact HB.out | apply below_alloc | apply pw_below_drewN | (refine below_set ?_ (by first | exact Nat.le_refl _ | (simp; done) | (simp; omega))))
set_option maxHeartbeats 2000000 in
theorem back_pbranchT (n q : ByteArray) (w : World) : Calls Tryz.prog 78 #[Vers.val (.pair (.branch n true) q)] w fun e w' => e = .returned (backV (.pair (.branch n true) q)) ∧ Below w.heap.size w w' := by
  have HB := Aside0.mk (Below.refl w.heap.size w)
  have q0 := c_pair_rev
  have q1 := c_pair_pair
  have q2 := a_pair_P
  have q3 := m_pair_Revision
  have q4 := m_pair_String
  have q5 := m_pair_Type
  have q6 := m_branch_String
  have q7 := m_branch_Type
  have q8 := c_branch_branch
  dsimp only [Vers.val, Vers.tid, Vers.inner, Unp.val, Unp.tid, Unp.inner, SV.cells] at *
  go_enter Tryz.func78, Tryz.ntmps78
  go_wp2
  refine bodyPost_ret (v := .agg #[.int .i64 2, .string n, .string q]) (by simp [results, Tryz.results78, go_sem, *]) rfl ⟨rfl, ?_⟩
  repeat (first | exact HB.out | apply below_alloc | apply pw_below_drewN | (refine below_set ?_ (by first | exact Nat.le_refl _ | (simp; done) | (simp; omega))))
set_option maxHeartbeats 2000000 in
theorem back_pplain (n q : ByteArray) (w : World) : Calls Tryz.prog 78 #[Vers.val (.pair (.plain n) q)] w fun e w' => e = .returned (backV (.pair (.plain n) q)) ∧ Below w.heap.size w w' := by
  have HB := Aside0.mk (Below.refl w.heap.size w)
  have q0 := c_pair_rev
  have q1 := c_pair_pair
  have q2 := a_pair_P
  have q3 := m_pair_Revision
  have q4 := m_pair_String
  have q5 := m_pair_Type
  have q6 := m_plain_String
  have q7 := m_plain_Type
  dsimp only [Vers.val, Vers.tid, Vers.inner, Unp.val, Unp.tid, Unp.inner, SV.cells] at *
  go_enter Tryz.func78, Tryz.ntmps78
  go_wp2
  refine bodyPost_ret (v := .agg #[.int .i64 3, .string n, .string q]) (by simp [results, Tryz.results78, go_sem, *]) rfl ⟨rfl, ?_⟩
  repeat (first | exact HB.out | apply below_alloc | apply pw_below_drewN | (refine below_set ?_ (by first | exact Nat.le_refl _ | (simp; done) | (simp; omega))))
set_option maxHeartbeats 2000000 in
theorem back_psem (v : SV) (ho : v.orig ≠ ⟨#[]⟩) (q : ByteArray) (w : World) : Calls Tryz.prog 78 #[Vers.val (.pair (.sem v) q)] w fun e w' => e = .returned (backV (.pair (.sem v) q)) ∧ Below w.heap.size w w' := by
  have HB := Aside0.mk (Below.refl w.heap.size w)
  have hem : v.orig.toList.isEmpty = false := isEmpty_false (size_pos ho)
  clear ho
  obtain ⟨va, vb, vc, vp, vm, vo⟩ := v
  have q0 := c_pair_rev
  have q1 := c_pair_pair
  have q2 := a_pair_P
  have q3 := m_pair_Revision
  have q4 := m_pair_String
  have q5 := m_pair_Type
  have q6 := m_sem_String
  have q7 := m_sem_Type
  dsimp only [Vers.val, Vers.tid, Vers.inner, Unp.val, Unp.tid, Unp.inner, SV.cells] at *
  go_enter Tryz.func78, Tryz.ntmps78
  go_wp2
  refine bodyPost_ret (v := .agg #[.int .i64 3, .string vo, .string q]) (by simp [results, Tryz.results78, go_sem, *]) rfl ⟨rfl, ?_⟩
  repeat (first | exact HB.out | apply below_alloc | apply pw_below_drewN | (refine below_set ?_ (by first | exact Nat.le_refl _ | (simp; done) | (simp; omega))))
end Go.Proofs.YtgoeiflddikihaaGreatDoor.Ver
end
section
namespace Go.Proofs.YtgoeiflddikihaaGreatDoor.Ver
set_option linter.unusedSimpArgs false
open Go.RowKit Go.Proofs.YtgoeiflddikihaaGreatDoor.Dig Go.Proofs.YtgoeiflddikihaaGreatDoorW.PrintWords
def told (ty : Int) (text caret revision branch version under unpaired : ByteArray) (paired : Bool) : Value :=
  .agg #[.int .i64 ty, .string text, .string caret, .string revision, .string branch, .string version, .string under, .string unpaired, .bool paired]
abbrev zTold : Array Value := #[.int .i64 0, .string ⟨#[]⟩, .string ⟨#[]⟩, .string ⟨#[]⟩, .string ⟨#[]⟩, .string ⟨#[]⟩, .string ⟨#[]⟩, .string ⟨#[]⟩, .bool false]
theorem res_at {w w1 : World} {x y : Obj} (hb : Below ((w.alloc x).alloc y).heap.size ((w.alloc x).alloc y) w1) : w1.heap[w.heap.size + 1]? = some y := by
  have h := blk_below (alloc_at (w.alloc x) y) hb
  rw [alloc_size] at h
  exact h
end Go.Proofs.YtgoeiflddikihaaGreatDoor.Ver
end
section
namespace Go.Proofs.YtgoeiflddikihaaGreatDoor.Ver
set_option linter.unusedSimpArgs false
set_option linter.unusedVariables false
open Go.RowKit Go.Proofs.YtgoeiflddikihaaGreatDoorW.PrintWords Go.Proofs.YtgoeiflddikihaaGreatDoor.Mem Go.Proofs.YtgoeiflddikihaaGreatDoor.Ord
theorem butOk_snoc (l : List SV) (v : SV) (k : Nat) (h : k < l.length) : butOk (l.take (k + 1)) v = (butOk (l.take k) v && !(cmpV l[k] v == 0)) := by
  unfold butOk
  rw [List.take_succ_eq_append_getElem h, List.all_append]
  simp
theorem butOk_bad {l : List SV} {v : SV} {k : Nat} (h : k < l.length) (hc : cmpV l[k] v = 0) : butOk l v = false := by
  unfold butOk
  rw [List.all_eq_false]
  exact ⟨l[k], List.getElem_mem h, by rw [hc]; decide⟩
set_option maxRecDepth 20000 in
set_option maxHeartbeats 8000000 in
theorem has_any (p : PD) (hp : PDok p) (v : SV) (hv : SVok v) (bv : Value) (w : World) (hbv : VsAt w 0 bv p.but) :
    Calls Tryz.prog 300 #[.agg (pcl p bv).toArray, .agg v.cells] w fun e w' => e = .returned (.bool (hasD p v)) ∧ Below w.heap.size w w' := by
  have HC1 := Lib.hid (fun W => cmp_any v p.lo hv.pre hp.lo.pre W)
  have HC2 := Lib.hid (fun W => cmp_any v p.hi hv.pre hp.hi.pre W)
  have HQ := Lib.hid (fun x (hx : x ∈ p.but) W => equal_any x v (hp.but x hx).pre hv.pre W)
  have CV1 := Lib.hid (cmpV_val v p.lo)
  have CV2 := Lib.hid (cmpV_val v p.hi)
  obtain ⟨r, hr⟩ : ∃ r, r = hasD p v := ⟨_, rfl⟩
  obtain ⟨a, ha⟩ : ∃ a, a = lowOk p v := ⟨_, rfl⟩
  obtain ⟨b, hb⟩ : ∃ b, b = highOk p v := ⟨_, rfl⟩
  have HR := Lib.hid (show r = (a && (b && butOk p.but v)) by rw [hr, ha, hb]; rfl)
  rw [← hr]
  unfold lowOk at ha
  unfold highOk at hb
  have HL := Lib.hid ha
  have HH := Lib.hid hb
  have HM := Aside0.mk (Blks.start w)
  obtain ⟨A, c, rfl, hmx⟩ := row_val hbv
  have HMX := Lib.hid hmx
  have HBV := Lib.hid (show w.ownsRow 0 197 6 (.slice A p.but.length c) p.but.length (flatV p.but) from hbv)
  clear hr ha hb hp hv hbv hmx
  generalize hc1 : cmpV v p.lo = c1 at *
  generalize hc2 : cmpV v p.hi = c2 at *
  clear hc1 hc2
  have HV := Lib.hid (rfl : v = v)
  obtain ⟨lo, hi, hl, hh, wl, wh, but⟩ := p
  obtain ⟨la, lb, lc, lp, lm, lq⟩ := lo
  obtain ⟨ha, hb0, hc, hp, hm, hq⟩ := hi
  obtain ⟨u, hu⟩ : ∃ u, u = v := ⟨_, rfl⟩
  have HU := Lib.hid hu
  obtain ⟨va, vb, vc, vp, vm, vo⟩ := v
  dsimp only [SV.cells, pcl] at HC1 HC2 HQ HL HH HR HBV ⊢
  rw [← hu] at HQ HR
  clear hu HV
  obtain ⟨n, hn⟩ : ∃ n, but.length = n := ⟨_, rfl⟩
  have HN := Lib.hid hn
  rw [hn] at HBV HMX ⊢
  clear hn
  go_enter Tryz.func300, Tryz.ntmps300
  go_upto_if 10 with (first | ((with_reducible refine id_box ?_); (refine n_bx (x := .tmp 0) ?_; clear HM; intro b2 wq HM)) | ((with_reducible refine id_box ?_); (refine n_bx (x := .tmp 1) ?_; clear HM; intro b3 wq HM)) | ((with_reducible refine id_load ?_); refine n_ld1 ?_))
  go_simp
  go_cut [4] from 4 to 25 (fun v4 wx => v4 = .bool false ∧ Hid (a = true) ∧ Aside0 (Blks w wx [(b3, [.int .u64 va, .int .u64 vb, .int .u64 vc, .string vp, .string vm, .string vo], 197), (b2, [.int .u64 la, .int .u64 lb, .int .u64 lc, .string lp, .string lm, .string lq, .int .u64 ha, .int .u64 hb0, .int .u64 hc, .string hp, .string hm, .string hq, .bool hl, .bool hh, .bool wl, .bool wh, .slice A n c], 242)]))
  case first =>
    cases hl with
    | false =>
      go_wp2_with (first | ((with_reducible refine id_load ?_); refine n_ld1 ?_) | ((with_reducible refine id_load ?_); refine n_ld ?_))
      go_meet
      case rel => exact ⟨rfl, Lib.hid (by rw [HL.out]; rfl), ⟨n_own⟩⟩
    | true =>
      rcases CV1.out with hc | hc | hc
      · rw [hc] at HC1 HL
        clear hc
        go_wp2_with (first | ((with_reducible refine id_load ?_); refine n_ld1 ?_) | ((with_reducible refine id_load ?_); refine n_ld ?_) | (go_at_call 209; ((with_reducible refine (HC1.out _).mono ?_); rintro e wc ⟨rfl, hb⟩; replace HM := n_call hb; clear hb)))
        (try simp only [Exit.inBlock, Exit.then])
        go_ret
        exact ⟨by rw [HR.out, HL.out]; rfl, HM.out.bel⟩
      · rw [hc] at HC1 HL
        clear hc
        cases wl with
        | false =>
          go_upto_region 3 with (first | ((with_reducible refine id_load ?_); refine n_ld1 ?_) | ((with_reducible refine id_load ?_); refine n_ld ?_) | (go_at_call 209; ((with_reducible refine (HC1.out _).mono ?_); rintro e wc ⟨rfl, hb⟩; replace HM := n_call hb; clear hb)))
          have k14 := n_cell (b := b2) (o := 14)
          go_wp2_with (first | ((with_reducible refine id_load ?_); refine n_ld1 ?_) | ((with_reducible refine id_load ?_); refine n_ld ?_))
          (try simp only [Exit.inBlock, Exit.then])
          go_ret
          exact ⟨by rw [HR.out, HL.out]; rfl, HM.out.bel⟩
        | true =>
          go_upto_region 3 with (first | ((with_reducible refine id_load ?_); refine n_ld1 ?_) | ((with_reducible refine id_load ?_); refine n_ld ?_) | (go_at_call 209; ((with_reducible refine (HC1.out _).mono ?_); rintro e wc ⟨rfl, hb⟩; replace HM := n_call hb; clear hb)))
          have k14 := n_cell (b := b2) (o := 14)
          go_wp2_with (first | ((with_reducible refine id_load ?_); refine n_ld1 ?_) | ((with_reducible refine id_load ?_); refine n_ld ?_))
          go_meet
          case rel => exact ⟨rfl, Lib.hid (by rw [HL.out]; rfl), ⟨n_own⟩⟩
      · rw [hc] at HC1 HL
        clear hc
        go_wp2_with (first | ((with_reducible refine id_load ?_); refine n_ld1 ?_) | ((with_reducible refine id_load ?_); refine n_ld ?_) | (go_at_call 209; ((with_reducible refine (HC1.out _).mono ?_); rintro e wc ⟨rfl, hb⟩; replace HM := n_call hb; clear hb)))
        go_meet
        case rel => exact ⟨rfl, Lib.hid (by rw [HL.out]; rfl), ⟨n_own⟩⟩
  case rest =>
  clear HM
  obtain ⟨rfl, HA, HM⟩ := hcut
  go_upto_if 27 with (first | ((with_reducible refine id_load ?_); refine n_ld1 ?_))
  go_simp
  go_cut [4] from 4 to 42 (fun v4 wx => v4 = .bool false ∧ Hid (b = true) ∧ Aside0 (Blks w wx [(b3, [.int .u64 va, .int .u64 vb, .int .u64 vc, .string vp, .string vm, .string vo], 197), (b2, [.int .u64 la, .int .u64 lb, .int .u64 lc, .string lp, .string lm, .string lq, .int .u64 ha, .int .u64 hb0, .int .u64 hc, .string hp, .string hm, .string hq, .bool hl, .bool hh, .bool wl, .bool wh, .slice A n c], 242)]))
  case first =>
    cases hh with
    | false =>
      go_wp2_with (first | ((with_reducible refine id_load ?_); refine n_ld1 ?_) | ((with_reducible refine id_load ?_); refine n_ld ?_))
      go_meet
      case rel => exact ⟨rfl, Lib.hid (by rw [HH.out]; rfl), ⟨n_own⟩⟩
    | true =>
      rcases CV2.out with hc | hc | hc
      · rw [hc] at HC2 HH
        clear hc
        go_wp2_with (first | ((with_reducible refine id_load ?_); refine n_ld1 ?_) | ((with_reducible refine id_load ?_); refine n_ld ?_) | (go_at_call 209; ((with_reducible refine (HC2.out _).mono ?_); rintro e wc ⟨rfl, hb⟩; replace HM := n_call hb; clear hb)))
        go_meet
        case rel => exact ⟨rfl, Lib.hid (by rw [HH.out]; rfl), ⟨n_own⟩⟩
      · rw [hc] at HC2 HH
        clear hc
        cases wh with
        | false =>
          go_upto_region 7 with (first | ((with_reducible refine id_load ?_); refine n_ld1 ?_) | ((with_reducible refine id_load ?_); refine n_ld ?_) | (go_at_call 209; ((with_reducible refine (HC2.out _).mono ?_); rintro e wc ⟨rfl, hb⟩; replace HM := n_call hb; clear hb)))
          have k15 := n_cell (b := b2) (o := 15)
          go_wp2_with (first | ((with_reducible refine id_load ?_); refine n_ld1 ?_) | ((with_reducible refine id_load ?_); refine n_ld ?_))
          (try simp only [Exit.inBlock, Exit.then])
          go_ret
          exact ⟨by rw [HR.out, HA.out, HH.out]; rfl, HM.out.bel⟩
        | true =>
          go_upto_region 7 with (first | ((with_reducible refine id_load ?_); refine n_ld1 ?_) | ((with_reducible refine id_load ?_); refine n_ld ?_) | (go_at_call 209; ((with_reducible refine (HC2.out _).mono ?_); rintro e wc ⟨rfl, hb⟩; replace HM := n_call hb; clear hb)))
          have k15 := n_cell (b := b2) (o := 15)
          go_wp2_with (first | ((with_reducible refine id_load ?_); refine n_ld1 ?_) | ((with_reducible refine id_load ?_); refine n_ld ?_))
          go_meet
          case rel => exact ⟨rfl, Lib.hid (by rw [HH.out]; rfl), ⟨n_own⟩⟩
      · rw [hc] at HC2 HH
        clear hc
        go_wp2_with (first | ((with_reducible refine id_load ?_); refine n_ld1 ?_) | ((with_reducible refine id_load ?_); refine n_ld ?_) | (go_at_call 209; ((with_reducible refine (HC2.out _).mono ?_); rintro e wc ⟨rfl, hb⟩; replace HM := n_call hb; clear hb)))
        (try simp only [Exit.inBlock, Exit.then])
        go_ret
        exact ⟨by rw [HR.out, HA.out, HH.out]; rfl, HM.out.bel⟩
  case rest =>
  clear HM
  obtain ⟨rfl, HB, HM⟩ := hcut
  go_wp2_with (first | ((with_reducible refine id_load ?_); refine n_ld1 ?_))
  go_loopw [46] (fun v46 wr => ∃ k : Nat, v46 = .int .i64 (k : Int) ∧ k ≤ n ∧ Hid (butOk (but.take k) u = true) ∧ Aside0 (Blks w wr [(b3, [.int .u64 va, .int .u64 vb, .int .u64 vc, .string vp, .string vm, .string vo], 197), (b2, [.int .u64 la, .int .u64 lb, .int .u64 lc, .string lp, .string lm, .string lq, .int .u64 ha, .int .u64 hb0, .int .u64 hc, .string hp, .string hm, .string hq, .bool hl, .bool hh, .bool wl, .bool wh, .slice A n c], 242)])) (fun v _ => n - (intOf v).toNat)
  case atStart => exact ⟨0, rfl, Nat.zero_le _, Lib.hid rfl, ⟨n_own⟩⟩
  case round =>
    obtain ⟨k, rfl, hk, HK, HM1⟩ := hrel
    clear HM
    have HM := HM1
    clear HM1
    by_cases hlt : k < n
    · have hb' : k < but.length := by have := HN.out; omega
      obtain ⟨g, cc, hg, hat⟩ := row_at (row_keep HBV.out HM.out.bel) hlt
      rw [flatV_at but k hb'] at hat
      obtain ⟨rfl, _, rfl⟩ := Value.slice.inj hg
      have HE := Lib.hid hat
      have HX := Lib.hid (fun W => HQ.out but[k] (List.getElem_mem hb') W)
      have HS := Lib.hid (butOk_snoc but u k hb')
      have HBAD := Lib.hid (butOk_bad (v := u) hb')
      clear hat hg
      generalize but[k] = x at HE HX HS HBAD
      rw [HK.out, Bool.true_and] at HS
      generalize hq : cmpV x u = q at *
      obtain ⟨xa, xb, xc, xp, xm, xo⟩ := x
      dsimp only [SV.cells, cellsV] at HE HX
      by_cases h0 : q = 0
      · subst h0
        go_wp2_with (first | ((with_reducible refine id_index ?_); refine m_index (x := .tmp 44) hlt rfl rfl ?_) | (go_at_call 234; ((with_reducible refine (HX.out _).mono ?_); rintro e wc ⟨rfl, hb⟩; replace HM := n_call hb; clear hb)) | ((with_reducible refine id_load ?_); refine n_ld1 ?_) | ((with_reducible refine id_load ?_); refine n_ld ?_) | ((with_reducible refine id_load ?_); refine m_loadr (x := .tmp 48) HE.out rfl rfl ?_) | ((with_reducible refine id_alloc ?_); (refine n_al ?_; clear HM; intro b8 wq HM)) | ((with_reducible refine id_store ?_); (refine n_st ?_; clear HM; intro wq HM)))
        (try simp only [Exit.inBlock, Exit.then])
        go_ret
        exact ⟨by rw [HR.out, HBAD.out (by trivial)]; simp, HM.out.bel⟩
      · have q0 : (q == 0) = false := beq_eq_false_iff_ne.2 h0
        rw [q0] at HS HX
        go_wp2_with (first | ((with_reducible refine id_index ?_); refine m_index (x := .tmp 44) hlt rfl rfl ?_) | (go_at_call 234; ((with_reducible refine (HX.out _).mono ?_); rintro e wc ⟨rfl, hb⟩; replace HM := n_call hb; clear hb)) | ((with_reducible refine id_load ?_); refine n_ld1 ?_) | ((with_reducible refine id_load ?_); refine n_ld ?_) | ((with_reducible refine id_load ?_); refine m_loadr (x := .tmp 48) HE.out rfl rfl ?_) | ((with_reducible refine id_alloc ?_); (refine n_al ?_; clear HM; intro b8 wq HM)) | ((with_reducible refine id_store ?_); (refine n_st ?_; clear HM; intro wq HM)))
        refine ⟨⟨k + 1, ?_, by omega, Lib.hid (by rw [HS.out]; rfl), ⟨Blks.drop n_own⟩⟩, ?_⟩
        · rw [wrap_step hlt HMX.out]
        · rw [wrap_step hlt HMX.out]; exact meas_step hlt
    · have : k = n := by omega
      subst this
      go_wp2_with fail
      go_ret
      exact ⟨by rw [HR.out, HA.out, HB.out]; rw [List.take_of_length_le (by have := HN.out; omega)] at HK; rw [HK.out]; rfl, HM.out.bel⟩
end Go.Proofs.YtgoeiflddikihaaGreatDoor.Ver
end
section
namespace Go.Proofs.YtgoeiflddikihaaGreatDoor.Ver
set_option linter.unusedSimpArgs false
open Go.Sort (grow)
open Go.RowKit Go.Proofs.YtgoeiflddikihaaGreatDoor.Dig Go.Proofs.YtgoeiflddikihaaGreatDoorW.PrintWords Go.Proofs.YtgoeiflddikihaaGreatDoor.Mem
theorem rowC : RowT Tryz.prog 29 6 := ⟨⟨_, Tryz.underlying29, rfl⟩, by kernel_rfl⟩
theorem rowIV : RowT Tryz.prog 27 3 := ⟨⟨_, Tryz.underlying27, rfl⟩, by kernel_rfl⟩
theorem oneI : OneT Tryz.prog 2 := ⟨⟨_, Tryz.underlying2, rfl⟩, by kernel_rfl⟩
theorem n_sc_Matches (v : Value) (w : World) : (nilAhead 417 202 v "Matches").run Tryz.prog w = .ok (some false) w := by kernel_rfl
end Go.Proofs.YtgoeiflddikihaaGreatDoor.Ver
end
section
namespace Go.Proofs.YtgoeiflddikihaaGreatDoor.Ver
open Go.RowKit Go.Proofs.YtgoeiflddikihaaGreatDoorW.PrintWords Go.Sort Go.Proofs.YtgoeiflddikihaaGreatDoor.Srt Go.Proofs.YtgoeiflddikihaaGreatDoor.Ord
theorem bare_sem (l : Vers) (h : l.rank = 0) : l.bare = .un (.sem l.sem) := by
  rcases l with s | (⟨n, d⟩ | s | v) | ⟨(⟨n, d⟩ | s | v), x⟩ <;> first | rfl | (simp [Vers.rank, Unp.rank] at h)
theorem vless_any (l r : Vers) (hl : l.sem.pre.size ≤ 140737488351232) (hr : r.sem.pre.size ≤ 140737488351232) (down : Bool) (w : World) :
    Calls Tryz.prog 204 #[l.val, r.val, .bool down] w fun e w' => e = .returned (.bool (lessV down l r)) ∧ Below w.heap.size w w' := by
  by_cases h : l.rank = r.rank
  · by_cases h0 : l.rank = 0
    · exact vless_sem l r l.sem r.sem (bare_sem l h0) (bare_sem r (h.symm.trans h0)) hl hr down w
    · by_cases h1 : l.rank = 1
      · exact vless_branch l r down h1 (h.symm.trans h1) w
      · exact vless_name l r down h (by omega) w
  · exact vless_rank l r down h w
def Vers.fine (v : Vers) : Prop := v.sem.pre.size ≤ 140737488351232 ∧ ∀ s, v.bare = .un (.sem s) → s.orig ≠ ⟨#[]⟩
def VS : Type := { v : Vers // v.fine }
instance : Inhabited VS := ⟨⟨.rev ⟨#[]⟩, by decide, by intro s h; cases h⟩⟩
theorem readV_text {s : ByteArray} {v : SV} {k : Nat} (h : readV s = some (v, k)) : s ≠ ⟨#[]⟩ := by
  rintro rfl
  have : readV ⟨#[]⟩ = none := by rfl
  rw [this] at h; cases h
theorem newV_fine {t : ByteArray} (ht : t.size ≤ 2147483647) {v : SV} (h : newV t = .sem v) : v.pre.size ≤ 140737488351232 ∧ v.orig ≠ ⟨#[]⟩ := by
  unfold newV at h
  split at h
  · cases h
  · rename_i x k hq
    injection h with h
    subst h
    obtain ⟨h1, h2⟩ := readV_ok' ht hq
    exact ⟨Nat.le_trans h1.p (by omega), by rw [h2]; exact readV_text hq⟩
theorem unpV_fine {k : Int} {t : ByteArray} (ht : t.size ≤ 2147483647) {v : SV} (h : unpV k t = some (.sem v)) : v.pre.size ≤ 140737488351232 ∧ v.orig ≠ ⟨#[]⟩ := by
  unfold unpV at h
  split at h
  · cases h
  · split at h
    · cases h
    · split at h
      · injection h with h; exact newV_fine ht h
      · cases h
theorem verV_fine (k : Int) {t : ByteArray} (r : ByteArray) (ht : t.size ≤ 2147483647) : (verV k t r).fine := by
  unfold verV
  split
  · exact ⟨by show (ByteArray.size ⟨#[]⟩) ≤ _; decide, by intro s h; cases h⟩
  · rename_i u hu
    have hz : (zV.pre.size ≤ 140737488351232) := by decide
    split
    · rcases u with ⟨n, d⟩ | n | v
      · exact ⟨hz, by intro s h; cases h⟩
      · exact ⟨hz, by intro s h; cases h⟩
      · have := unpV_fine ht hu
        exact ⟨this.1, by intro s h; cases h; exact this.2⟩
    · rcases u with ⟨n, d⟩ | n | v
      · exact ⟨hz, by intro s h; cases h⟩
      · exact ⟨hz, by intro s h; cases h⟩
      · have := unpV_fine ht hu
        exact ⟨this.1, by intro s h; cases h; exact this.2⟩
def encV (a : VS) : Value := a.1.val
def ltV (down : Bool) (a b : VS) : Bool := lessV down a.1 b.1
theorem swo_ltV (down : Bool) : SWO (ltV down) := ⟨fun x => (swo_vers down).irrefl x.1, fun x y z => (swo_vers down).trans x.1 y.1 z.1, fun x y z => (swo_vers down).ntrans x.1 y.1 z.1⟩
set_option maxHeartbeats 2000000 in
theorem less_up (w : World) (blk off n cap : Nat) : LessC 221 (.slice (some ⟨blk, off, none⟩) n cap) encV (ltV false) w blk off n := by
  intro W d hW hd i j hi hj
  have hv := vless_any d[i]!.1 d[j]!.1 d[i]!.2.1 d[j]!.2.1 false
  change ∀ W, Calls _ _ _ _ fun e w' => e = .returned (.bool (ltV false d[i]! d[j]!)) ∧ _ at hv
  have h1 := (hW.holds i (by omega)).1
  have h2 := (hW.holds j (by omega)).1
  unfold encV at h1 h2
  generalize ltV false d[i]! d[j]! = r at *
  generalize d[i]!.1.val = x at *
  generalize d[j]!.1.val = y at *
  have HV := Lib.hid hv
  have b1 : (i : Int) < (n : Int) := by omega
  have b2 : (j : Int) < (n : Int) := by omega
  have HB := Aside0.mk (Below.refl W.heap.size W)
  clear hv hd hW
  go_enter Tryz.func221, Tryz.ntmps221
  go_wp2_with fail
  go_quiet (fail)
  go_wp2_with (go_at_call 204; ((with_reducible refine (HV.out _).mono ?_); rintro e w5 ⟨rfl, hb⟩; have HB5 := Aside0.mk (below_trans (by repeat (first | exact HB.out | apply below_alloc | apply pw_below_drewN)) hb); clear hb))
  go_ret
  exact ⟨rfl, HB5.out⟩
set_option maxHeartbeats 4000000 in
theorem swap_up (w : World) (blk off n cap : Nat) : SwapC 222 (.slice (some ⟨blk, off, none⟩) n cap) encV w blk off n := by
  intro W d hW hd i j hi hj
  have HS := Lib.hid (fun q => (hW.swap (i := i) (j := j) (by omega) (by omega)).drewN q)
  obtain ⟨h1, f1⟩ := hW.holds i (by omega)
  obtain ⟨h2, f2⟩ := hW.holds j (by omega)
  obtain ⟨tx, vx, hx⟩ : ∃ t v, encV d[i]! = .iface t v := ⟨_, _, rfl⟩
  obtain ⟨ty, vy, hy⟩ : ∃ t v, encV d[j]! = .iface t v := ⟨_, _, rfl⟩
  rw [hx, hy] at HS
  rw [hx] at h1
  rw [hy] at h2
  clear hx hy
  have b1 : (i : Int) < (n : Int) := by omega
  have b2 : (j : Int) < (n : Int) := by omega
  obtain ⟨v', hy'⟩ := cell?_setCell_some (w := W) (p := ⟨blk, off + i, none⟩) (x := .iface ty vy) (q := ⟨blk, off + j, none⟩) (v := .iface ty vy) (by go_simp)
  clear hd hW
  go_enter Tryz.func222, Tryz.ntmps222
  go_wp2_with fail
  go_region
  all_goals
    go_end0
    exact ⟨rfl, HS.out 1⟩
set_option maxHeartbeats 2000000 in
theorem less_dn (w : World) (blk off n cap : Nat) : LessC 218 (.slice (some ⟨blk, off, none⟩) n cap) encV (ltV true) w blk off n := by
  intro W d hW hd i j hi hj
  have hv := vless_any d[i]!.1 d[j]!.1 d[i]!.2.1 d[j]!.2.1 true
  change ∀ W, Calls _ _ _ _ fun e w' => e = .returned (.bool (ltV true d[i]! d[j]!)) ∧ _ at hv
  have h1 := (hW.holds i (by omega)).1
  have h2 := (hW.holds j (by omega)).1
  unfold encV at h1 h2
  generalize ltV true d[i]! d[j]! = r at *
  generalize d[i]!.1.val = x at *
  generalize d[j]!.1.val = y at *
  have HV := Lib.hid hv
  have b1 : (i : Int) < (n : Int) := by omega
  have b2 : (j : Int) < (n : Int) := by omega
  have HB := Aside0.mk (Below.refl W.heap.size W)
  clear hv hd hW
  go_enter Tryz.func218, Tryz.ntmps218
  go_wp2_with fail
  go_quiet (fail)
  go_wp2_with (go_at_call 204; ((with_reducible refine (HV.out _).mono ?_); rintro e w5 ⟨rfl, hb⟩; have HB5 := Aside0.mk (below_trans (by repeat (first | exact HB.out | apply below_alloc | apply pw_below_drewN)) hb); clear hb))
  go_ret
  exact ⟨rfl, HB5.out⟩
set_option maxHeartbeats 4000000 in
theorem swap_dn (w : World) (blk off n cap : Nat) : SwapC 219 (.slice (some ⟨blk, off, none⟩) n cap) encV w blk off n := by
  intro W d hW hd i j hi hj
  have HS := Lib.hid (fun q => (hW.swap (i := i) (j := j) (by omega) (by omega)).drewN q)
  obtain ⟨h1, f1⟩ := hW.holds i (by omega)
  obtain ⟨h2, f2⟩ := hW.holds j (by omega)
  obtain ⟨tx, vx, hx⟩ : ∃ t v, encV d[i]! = .iface t v := ⟨_, _, rfl⟩
  obtain ⟨ty, vy, hy⟩ : ∃ t v, encV d[j]! = .iface t v := ⟨_, _, rfl⟩
  rw [hx, hy] at HS
  rw [hx] at h1
  rw [hy] at h2
  clear hx hy
  have b1 : (i : Int) < (n : Int) := by omega
  have b2 : (j : Int) < (n : Int) := by omega
  obtain ⟨v', hy'⟩ := cell?_setCell_some (w := W) (p := ⟨blk, off + i, none⟩) (x := .iface ty vy) (q := ⟨blk, off + j, none⟩) (v := .iface ty vy) (by go_simp)
  clear hd hW
  go_enter Tryz.func219, Tryz.ntmps219
  go_wp2_with fail
  go_region
  all_goals
    go_end0
    exact ⟨rfl, HS.out 1⟩
theorem meth_up (a : Option Addr) (n cap : Nat) : Meth 179 (.slice a n cap) 220 221 222 :=
  ⟨fun _ => by kernel_rfl, fun _ => by kernel_rfl, fun _ => by kernel_rfl, fun _ _ => by kernel_rfl, fun _ _ => by kernel_rfl, fun _ _ => by kernel_rfl⟩
theorem lenN_up (a : Option Addr) (n cap : Nat) (w : World) : Calls Tryz.prog 220 #[.slice a n cap] w fun e w' => e = .returned (.int .i64 n) ∧ Drawn0 w w' := by
  go_enter Tryz.func220, Tryz.ntmps220
  go_wp2
  go_ret
  exact ⟨rfl, by repeat (first | exact Drawn0.refl _ | apply Drawn0.step)⟩
theorem sorts0_up (a : Option Addr) (n cap : Nat) (hn : n ≤ 1) (w : World) : Calls Tryz.prog 80 #[.slice a n cap] w fun e w' => e = .returned (.tuple #[]) ∧ Drawn0 w w' := by
  have HS := Lib.hid (fun W => sort_tiny (meth_up a n cap) n hn (lenN_up a n cap) W)
  clear hn
  go_enter Tryz.func80, Tryz.ntmps80
  go_wp2_with (go_at_call 102; ((with_reducible refine (HS.out _).mono ?_); rintro e w5 ⟨rfl, ⟨q, rfl⟩⟩))
  go_end0
  exact ⟨rfl, by repeat (first | exact Drawn0.refl _ | apply Drawn0.step)⟩
theorem sorts_up (blk off n cap : Nat) (h2 : 2 ≤ n) (hn : n ≤ 12) (d : Array VS) (hd : d.size = n) (w : World) (hH : Holds encV w blk off d) (hb : blk < w.heap.size) :
    Calls Tryz.prog 80 #[.slice (some ⟨blk, off, none⟩) n cap] w fun e w' => e = .returned (.tuple #[]) ∧ SI encV w blk off (insertionSort (ltV false) d 0 n) w' := by
  have HS := Lib.hid (sort_short (meth_up _ n cap) encV (ltV false) w blk off n (less_up w blk off n cap) (swap_up w blk off n cap) h2 hn (fun W => lenN_up _ n cap W) d hd hH hb)
  clear hn h2 hd hH hb
  go_enter Tryz.func80, Tryz.ntmps80
  go_wp2_with (go_at_call 102; ((with_reducible refine HS.out.mono ?_); rintro e w5 ⟨rfl, hs5⟩; have HS5 := Aside0.mk hs5; clear hs5))
  go_end0
  exact ⟨rfl, HS5.out⟩
theorem sortAll_up (blk off n cap : Nat) (h1 : 1 ≤ n) (hn : n ≤ 12) (d : Array VS) (hd : d.size = n) (w : World) (hH : Holds encV w blk off d) (hb : blk < w.heap.size) :
    Calls Tryz.prog 80 #[.slice (some ⟨blk, off, none⟩) n cap] w fun e w' => e = .returned (.tuple #[]) ∧ ∃ d', PermIn 0 n d d' ∧ SortedIn (ltV false) 0 n d' ∧ SI encV w blk off d' w' := by
  by_cases h2 : 2 ≤ n
  · have h := insertionSort_holds (swo_ltV false) d 0 n (Nat.zero_le _) (by omega)
    exact (sorts_up blk off n cap h2 hn d hd w hH hb).mono fun _ _ ⟨he, hs⟩ => ⟨he, _, h.1, h.2, hs⟩
  · refine (sorts0_up _ n cap (by omega) w).mono fun _ _ ⟨he, hd0⟩ => ⟨he, d, permIn_refl d 0 n, fun i j _ h3 h4 => by omega, ?_⟩
    obtain ⟨q, rfl⟩ := hd0.out
    exact (SI.mk (World.grownBy.refl w (some blk)) hH hb).drewN q
theorem meth_dn (a : Option Addr) (n cap : Nat) : Meth 178 (.slice a n cap) 217 218 219 :=
  ⟨fun _ => by kernel_rfl, fun _ => by kernel_rfl, fun _ => by kernel_rfl, fun _ _ => by kernel_rfl, fun _ _ => by kernel_rfl, fun _ _ => by kernel_rfl⟩
theorem lenN_dn (a : Option Addr) (n cap : Nat) (w : World) : Calls Tryz.prog 217 #[.slice a n cap] w fun e w' => e = .returned (.int .i64 n) ∧ Drawn0 w w' := by
  go_enter Tryz.func217, Tryz.ntmps217
  go_wp2
  go_ret
  exact ⟨rfl, by repeat (first | exact Drawn0.refl _ | apply Drawn0.step)⟩
theorem sorts0_dn (a : Option Addr) (n cap : Nat) (hn : n ≤ 1) (w : World) : Calls Tryz.prog 79 #[.slice a n cap] w fun e w' => e = .returned (.tuple #[]) ∧ Drawn0 w w' := by
  have HS := Lib.hid (fun W => sort_tiny (meth_dn a n cap) n hn (lenN_dn a n cap) W)
  clear hn
  go_enter Tryz.func79, Tryz.ntmps79
  go_wp2_with (go_at_call 102; ((with_reducible refine (HS.out _).mono ?_); rintro e w5 ⟨rfl, ⟨q, rfl⟩⟩))
  go_end0
  exact ⟨rfl, by repeat (first | exact Drawn0.refl _ | apply Drawn0.step)⟩
end Go.Proofs.YtgoeiflddikihaaGreatDoor.Ver
end
section
namespace Go.Proofs.YtgoeiflddikihaaGreatDoor.Ver
set_option linter.unusedSimpArgs false
set_option linter.unusedVariables false
open Go.RowKit Go.Proofs.YtgoeiflddikihaaGreatDoor.Dig Go.Proofs.YtgoeiflddikihaaGreatDoorW.PrintWords
theorem alloc_at' {w : World} {o : Obj} {n : Nat} (h : n = w.heap.size) : (w.alloc o).heap[n]? = some o := by rw [h]; exact alloc_at w o
set_option maxRecDepth 20000 in
set_option maxHeartbeats 4000000 in
theorem of_psem (k : Int) (t r : ByteArray) (ht : t.size ≤ 2147483647) (w : World) (hv : Vars w) (v : SV) (hk : SVok v) (ho : v.orig ≠ ⟨#[]⟩) (hcs : ¬ 9223372036854775807 < 1 + (semB v).size) (q : ByteArray) (hx : verV k t r = .pair (.sem v) q) :
    Calls Tryz.prog 35 #[.agg #[.int .i64 k, .string t, .string r]] w fun e w' => e = .returned (told 2 v.orig (⟨#[61]⟩ ++ semB v) q ⟨#[]⟩ v.orig q v.orig true) ∧ Below w.heap.size w w' := by
  have HR := Lib.hid (fun W hb => ver_any k t r ht W (Vars.below (w := w) hv hb))
  have hc := comp_psem v ho q
  dsimp only [Vers.val, Vers.tid, Vers.inner, Unp.val, Unp.tid, Unp.inner, SV.cells] at hc
  have HC := Lib.hid hc
  clear hc
  have HB := Aside0.mk (Below.refl w.heap.size w)
  have hs := fun W hb => semStr_any v hk W (Vars.below (w := w) hv hb)
  dsimp only [SV.cells] at hs
  have HS := Lib.hid hs
  have e1 : v.orig.toList.isEmpty = false := isEmpty_false (size_pos ho)
  have HSZ := Lib.hid hcs
  clear hs ho hcs
  clear hv
  have HX := Lib.hid hx
  clear hx
  have a_sem_P' := a_sem_P
  have m_sem_Type' := m_sem_Type
  have m_sem_String' := m_sem_String
  have m_sem_ImpliedCaretString' := m_sem_ImpliedCaretString
  have a_pair_P' := a_pair_P
  have m_pair_Type' := m_pair_Type
  have m_pair_String' := m_pair_String
  have m_pair_ImpliedCaretString' := m_pair_ImpliedCaretString
  have m_pair_Revision' := m_pair_Revision
  have m_pair_Unpair' := m_pair_Unpair
  go_enter Tryz.func35, Tryz.ntmps35
  go_wp2_with (first
    | (go_at_call 66; ((with_reducible refine (HR.out _ (by repeat (first | exact HB.out | apply below_alloc | apply pw_below_drewN))).mono ?_); rintro e w5 ⟨rfl, hb⟩; rw [HX.out]; refine Hid.out ?_)))
  have HRES := Aside0.mk (res_at hb)
  have HB5 := Aside0.mk (below_trans (by repeat (first | exact HB.out | apply below_alloc | apply pw_below_drewN)) hb)
  clear hb
  dsimp only [Vers.val, Vers.tid, Vers.inner, Unp.val, Unp.tid, Unp.inner, SV.cells]
  refine Lib.hid ?_
  go_upto_region 2 with fail
  go_cut [4] from 9 to 16 (fun v4 wx => ∃ g : Nat, v4 = .pointer (some ⟨g, 0, none⟩) ∧ w.heap.size + 1 < g ∧ Aside0 (Below w.heap.size w wx) ∧ Aside0 (wx.heap[g]? = some (.cells #[.int .i64 2, .string v.orig, .string (⟨#[61]⟩ ++ semB v), .string ⟨#[]⟩, .string ⟨#[]⟩, .string ⟨#[]⟩, .string ⟨#[]⟩, .string ⟨#[]⟩, .bool false] 54 (0, 0))) ∧ Aside0 (wx.heap[w.heap.size + 1]? = some (.cells zTold 54 (0, 0))))
  case first =>
    go_wp2_with (first
      | (go_at_call 233; ((with_reducible refine (HS.out _ (by repeat (first | exact HB5.out | apply below_alloc | apply pw_below_drewN))).mono ?_); rintro e w7 ⟨rfl, hb⟩; have HB7 := Aside0.mk (below_trans (by repeat (first | exact HB5.out | apply below_alloc | apply pw_below_drewN)) hb); have HR7 := Aside0.mk (blk_below (by repeat (first | exact HRES.out | apply blk_alloc)) hb); have hcs := HSZ.out; clear hb))
      | go_in)
    go_meet
    case rel => exact ⟨_, rfl, (by (try simp only [alloc_size]); have := blk_lt HR7.out; omega), ⟨by repeat (first | exact HB7.out | apply below_alloc | apply pw_below_drewN)⟩, ⟨alloc_at' (by simp [alloc_size])⟩, ⟨by repeat (first | exact HR7.out | apply blk_alloc)⟩⟩
  case rest =>
    clear HB5 HRES
    obtain ⟨g, rfl, hg, HB5, HK, HRES⟩ := hcut
    have HG := Lib.hid hg
    clear hg
    go_upto_region 4 with (first
      | (go_at_call 75; ((with_reducible refine (HC.out _).mono ?_); rintro e w6 ⟨rfl, hb⟩; refine Hid.out ?_))
      | go_in)
    have HK6 := Aside0.mk (blk_below HK.out hb)
    have HR6 := Aside0.mk (blk_below HRES.out hb)
    have HB6 := Aside0.mk (below_trans HB5.out hb)
    have z4 := blk_cell HK6.out 4
    have y4 := blk_frozen HK6.out 4
    have z5 := blk_cell HK6.out 5
    have y5 := blk_frozen HK6.out 5
    have z6 := blk_cell HK6.out 6
    have y6 := blk_frozen HK6.out 6
    clear hb
    refine Lib.hid ?_
    go_upto_region 4 with go_in
    clear z4 z5 z6 y4 y5 y6
    go_cut [5, 6] from 26 to 30 (fun v5 v6 wx => v5 = .iface 212 (.agg #[.iface 200 (.agg #[.int .u64 v.major, .int .u64 v.minor, .int .u64 v.patch, .string v.pre, .string v.mt, .string v.orig]), .string q]) ∧ v6 = .bool true ∧ Aside0 (Below w.heap.size w wx) ∧ Aside0 (wx.heap[g]? = some (.cells #[.int .i64 2, .string v.orig, .string (⟨#[61]⟩ ++ semB v), .string ⟨#[]⟩, .string ⟨#[]⟩, .string v.orig, .string q, .string ⟨#[]⟩, .bool false] 54 (0, 0))) ∧ Aside0 (wx.heap[w.heap.size + 1]? = some (.cells zTold 54 (0, 0))))
    case first =>
      go_wp2_with fail
      go_meet
      case rel => exact ⟨rfl, rfl, ⟨((HB6.out.setCell (by show _ ≤ g; have := HG.out; omega) _).setCell (by show _ ≤ g; have := HG.out; omega) _).setCell (by show _ ≤ g; have := HG.out; omega) _⟩, ⟨blk_put (blk_put (blk_put HK6.out 6 _ rfl) 4 _ rfl) 5 _ rfl⟩, ⟨blk_far (blk_far (blk_far HR6.out (p := ⟨g, 6, none⟩) (Nat.ne_of_lt HG.out) _) (p := ⟨g, 4, none⟩) (Nat.ne_of_lt HG.out) _) (p := ⟨g, 5, none⟩) (Nat.ne_of_lt HG.out) _⟩⟩
    case rest =>
      clear HB6 HK6 HR6 HB5 HK HRES
      obtain ⟨rfl, rfl, HB7, HK7, HR7⟩ := hcut
      go_upto_region 6 with fail
      have HA := Aside0.mk (blk_alloc (blk_alloc (blk_alloc (blk_alloc (HK7.out) (.cells #[.iface 200 (.agg #[.int .u64 v.major, .int .u64 v.minor, .int .u64 v.patch, .string v.pre, .string v.mt, .string v.orig]), .string q] 212)) (.cells #[.iface 200 (.agg #[.int .u64 v.major, .int .u64 v.minor, .int .u64 v.patch, .string v.pre, .string v.mt, .string v.orig]), .string q] 212)) (.cells #[.int .u64 v.major, .int .u64 v.minor, .int .u64 v.patch, .string v.pre, .string v.mt, .string v.orig] 200)) (.cells #[.int .u64 v.major, .int .u64 v.minor, .int .u64 v.patch, .string v.pre, .string v.mt, .string v.orig] 197))
      have HAR := Aside0.mk (blk_alloc (blk_alloc (blk_alloc (blk_alloc (HR7.out) (.cells #[.iface 200 (.agg #[.int .u64 v.major, .int .u64 v.minor, .int .u64 v.patch, .string v.pre, .string v.mt, .string v.orig]), .string q] 212)) (.cells #[.iface 200 (.agg #[.int .u64 v.major, .int .u64 v.minor, .int .u64 v.patch, .string v.pre, .string v.mt, .string v.orig]), .string q] 212)) (.cells #[.int .u64 v.major, .int .u64 v.minor, .int .u64 v.patch, .string v.pre, .string v.mt, .string v.orig] 200)) (.cells #[.int .u64 v.major, .int .u64 v.minor, .int .u64 v.patch, .string v.pre, .string v.mt, .string v.orig] 197))
      have z8 := blk_cell HA.out 8
      have y8 := blk_frozen HA.out 8
      have z3 := blk_cell HA.out 3
      have y3 := blk_frozen HA.out 3
      have z7 := blk_cell HA.out 7
      have y7 := blk_frozen HA.out 7
      go_cut [33] from 32 to 39 (fun _ wx => Aside0 (Below w.heap.size w wx) ∧ Aside0 (wx.heap[g]? = some (.cells #[.int .i64 2, .string v.orig, .string (⟨#[61]⟩ ++ semB v), .string q, .string ⟨#[]⟩, .string v.orig, .string q, .string v.orig, .bool true] 54 (0, 0))) ∧ Aside0 (wx.heap[w.heap.size + 1]? = some (.cells zTold 54 (0, 0))))
      case first =>
        go_wp2_with go_in
        go_meet
        case rel => exact ⟨⟨(((below_alloc (below_alloc (below_alloc (below_alloc (HB7.out) (.cells #[.iface 200 (.agg #[.int .u64 v.major, .int .u64 v.minor, .int .u64 v.patch, .string v.pre, .string v.mt, .string v.orig]), .string q] 212)) (.cells #[.iface 200 (.agg #[.int .u64 v.major, .int .u64 v.minor, .int .u64 v.patch, .string v.pre, .string v.mt, .string v.orig]), .string q] 212)) (.cells #[.int .u64 v.major, .int .u64 v.minor, .int .u64 v.patch, .string v.pre, .string v.mt, .string v.orig] 200)) (.cells #[.int .u64 v.major, .int .u64 v.minor, .int .u64 v.patch, .string v.pre, .string v.mt, .string v.orig] 197)).setCell (by show _ ≤ g; have := HG.out; omega) _).setCell (by show _ ≤ g; have := HG.out; omega) _).setCell (by show _ ≤ g; have := HG.out; omega) _⟩, ⟨blk_put (blk_put (blk_put HA.out 8 _ rfl) 3 _ rfl) 7 _ rfl⟩, ⟨blk_far (blk_far (blk_far HAR.out (p := ⟨g, 8, none⟩) (Nat.ne_of_lt HG.out) _) (p := ⟨g, 3, none⟩) (Nat.ne_of_lt HG.out) _) (p := ⟨g, 7, none⟩) (Nat.ne_of_lt HG.out) _⟩⟩
      case rest =>
        clear z8 z3 z7 y8 y3 y7 HA HAR HB7 HK7 HR7
        obtain ⟨HB8, HK8, HR8⟩ := hcut
        have z0 := blk_cell HK8.out 0
        have y0 := blk_frozen HK8.out 0
        have z1 := blk_cell HK8.out 1
        have y1 := blk_frozen HK8.out 1
        have z2 := blk_cell HK8.out 2
        have y2 := blk_frozen HK8.out 2
        have z3 := blk_cell HK8.out 3
        have y3 := blk_frozen HK8.out 3
        have z4 := blk_cell HK8.out 4
        have y4 := blk_frozen HK8.out 4
        have z5 := blk_cell HK8.out 5
        have y5 := blk_frozen HK8.out 5
        have z6 := blk_cell HK8.out 6
        have y6 := blk_frozen HK8.out 6
        have z7 := blk_cell HK8.out 7
        have y7 := blk_frozen HK8.out 7
        have z8 := blk_cell HK8.out 8
        have y8 := blk_frozen HK8.out 8
        have r0 := blk_cell HR8.out 0
        have t0 := blk_frozen HR8.out 0
        have r1 := blk_cell HR8.out 1
        have t1 := blk_frozen HR8.out 1
        have r2 := blk_cell HR8.out 2
        have t2 := blk_frozen HR8.out 2
        have r3 := blk_cell HR8.out 3
        have t3 := blk_frozen HR8.out 3
        have r4 := blk_cell HR8.out 4
        have t4 := blk_frozen HR8.out 4
        have r5 := blk_cell HR8.out 5
        have t5 := blk_frozen HR8.out 5
        have r6 := blk_cell HR8.out 6
        have t6 := blk_frozen HR8.out 6
        have r7 := blk_cell HR8.out 7
        have t7 := blk_frozen HR8.out 7
        have r8 := blk_cell HR8.out 8
        have t8 := blk_frozen HR8.out 8
        have hg := HG.out
        go_wp2_with fail
        refine bodyPost_ret (v := told 2 v.orig (⟨#[61]⟩ ++ semB v) q ⟨#[]⟩ v.orig q v.orig true) (by simp [told, results, Tryz.results35, go_sem, *]) rfl ⟨rfl, ?_⟩
        exact (((((((((HB8.out).setCell (by show _ ≤ w.heap.size + 1; omega) _).setCell (by show _ ≤ w.heap.size + 1; omega) _).setCell (by show _ ≤ w.heap.size + 1; omega) _).setCell (by show _ ≤ w.heap.size + 1; omega) _).setCell (by show _ ≤ w.heap.size + 1; omega) _).setCell (by show _ ≤ w.heap.size + 1; omega) _).setCell (by show _ ≤ w.heap.size + 1; omega) _).setCell (by show _ ≤ w.heap.size + 1; omega) _).setCell (by show _ ≤ w.heap.size + 1; omega) _
end Go.Proofs.YtgoeiflddikihaaGreatDoor.Ver
end
