/- Merged by program out of: VLess. -/
import Derived.Test.YtgoeiflddikihaaGreatDoorCsgM14
import Derived.Test.YtgoeiflddikihaaGreatDoorCsgM13
import Derived.RegionTactic
import Derived.BigRegion
import Derived.Lib.QuietBelow
section
namespace Go.Proofs.YtgoeiflddikihaaGreatDoor.Ver
open Go.RowKit Go.Proofs.YtgoeiflddikihaaGreatDoorW.PrintWords Go.Proofs.YtgoeiflddikihaaGreatDoor.Ord
set_option maxHeartbeats 2000000 in
theorem cvt_any (l r : Vers) (hl : l.bare = l) (hr : r.bare = r) (w : World) :
    Calls Tryz.prog 205 #[l.val, r.val] w fun e w' => e = .returned (.int .i64 (natC l.rank r.rank)) ∧ Below w.heap.size w w' := by
  have c_rev_rev := c_rev_rev
  have c_rev_plain := c_rev_plain
  have c_rev_branch := c_rev_branch
  have c_rev_sem := c_rev_sem
  have c_plain_rev := c_plain_rev
  have c_plain_plain := c_plain_plain
  have c_plain_branch := c_plain_branch
  have c_plain_sem := c_plain_sem
  have c_branch_rev := c_branch_rev
  have c_branch_plain := c_branch_plain
  have c_branch_branch := c_branch_branch
  have c_branch_sem := c_branch_sem
  have c_sem_rev := c_sem_rev
  have c_sem_plain := c_sem_plain
  have c_sem_branch := c_sem_branch
  have c_sem_sem := c_sem_sem
  have HB := Aside0.mk (Below.refl w.heap.size w)
  rcases l with s | (⟨n, d⟩ | s | v) | ⟨u, x⟩
  all_goals first | (exfalso; cases hl; done) | skip
  all_goals
    rcases r with s' | (⟨n', d'⟩ | s' | v') | ⟨u, x⟩
    all_goals first | (exfalso; cases hr; done) | skip
    all_goals
      clear hl hr
      dsimp only [Vers.val, Vers.tid, Vers.inner, Unp.val, Unp.tid, Unp.inner, SV.cells, Vers.rank, Unp.rank]
      go_enter Tryz.func205, Tryz.ntmps205
      go_wp2_with fail
      go_ret
      exact ⟨rfl, by repeat (first | exact HB.out | apply below_alloc | apply pw_below_drewN)⟩
theorem p_branch (v : Value) (xT : TypeId) (w : World) : (Instr.typeAssert (.iface 215 v) xT 215 false).run Tryz.prog w = .ok v w := by kernel_rfl
theorem p_sem (v : Value) (xT : TypeId) (w : World) : (Instr.typeAssert (.iface 200 v) xT 200 false).run Tryz.prog w = .ok v w := by kernel_rfl
theorem bare_bare (l : Vers) : l.bare.bare = l.bare := by rcases l with _ | _ | _ <;> rfl
theorem cvt_at (l r : Vers) {k : Int} (hk : natC l.rank r.rank = k) (w : World) :
    Calls Tryz.prog 205 #[l.bare.val, r.bare.val] w fun e w' => e = .returned (.int .i64 k) ∧ Below w.heap.size w w' := by
  have h := cvt_any l.bare r.bare (bare_bare l) (bare_bare r) w
  have e1 : l.bare.rank = l.rank := by rcases l with s | u | ⟨u, x⟩ <;> rfl
  have e2 : r.bare.rank = r.rank := by rcases r with s | u | ⟨u, x⟩ <;> rfl
  rw [e1, e2, hk] at h
  exact h
set_option maxRecDepth 20000 in
set_option maxHeartbeats 8000000 in
theorem vless_rank (l r : Vers) (down : Bool) (hne : l.rank ≠ r.rank) (w : World) :
    Calls Tryz.prog 204 #[l.val, r.val, .bool down] w fun e w' => e = .returned (.bool (lessV down l r)) ∧ Below w.heap.size w w' := by
  have HB := Aside0.mk (Below.refl w.heap.size w)
  rw [less_rank hne]
  have cp1 := c_rev_pair
  have cp2 := c_branch_pair
  have cp3 := c_plain_pair
  have cp4 := c_sem_pair
  have cp5 := c_pair_pair
  rcases Nat.lt_or_gt_of_ne hne with hlt | hgt
  · have HC := Lib.hid (fun W => cvt_at l r (k := -1) (by unfold natC; rw [if_pos hlt]) W)
    rw [decide_eq_true hlt]
    rcases l with s | (⟨n, d⟩ | s | v) | ⟨(⟨n, d⟩ | s | v), x⟩
    all_goals
      rcases r with s' | (⟨n', d'⟩ | s' | v') | ⟨(⟨n', d'⟩ | s' | v'), x'⟩
      all_goals first | (exfalso; simp [Vers.rank, Unp.rank] at hlt; done) | skip
      all_goals
        clear hlt hne
        dsimp only [Vers.val, Vers.tid, Vers.inner, Unp.val, Unp.tid, Unp.inner, SV.cells, Vers.bare] at HC ⊢
        go_enter Tryz.func204, Tryz.ntmps204
        go_wp2_with (first
          | (go_at_call 205; ((with_reducible refine (HC.out _).mono ?_); rintro e w1 ⟨rfl, hb⟩; have HB5 := Aside0.mk (below_trans (by repeat (first | exact HB.out | apply below_alloc | apply pw_below_drewN | refine below_set ?_ (by first | exact Nat.le_refl _ | (simp; done) | (simp; omega)))) hb); clear hb)))
        go_ret
        exact ⟨rfl, by repeat (first | exact HB5.out | apply below_alloc | apply pw_below_drewN)⟩
  · have HC := Lib.hid (fun W => cvt_at l r (k := 1) (by unfold natC; rw [if_neg (by omega), if_pos hgt]) W)
    rw [decide_eq_false (by omega)]
    rcases l with s | (⟨n, d⟩ | s | v) | ⟨(⟨n, d⟩ | s | v), x⟩
    all_goals
      rcases r with s' | (⟨n', d'⟩ | s' | v') | ⟨(⟨n', d'⟩ | s' | v'), x'⟩
      all_goals first | (exfalso; simp [Vers.rank, Unp.rank] at hgt; done) | skip
      all_goals
        clear hgt hne
        dsimp only [Vers.val, Vers.tid, Vers.inner, Unp.val, Unp.tid, Unp.inner, SV.cells, Vers.bare] at HC ⊢
        go_enter Tryz.func204, Tryz.ntmps204
        go_wp2_with (first
          | (go_at_call 205; ((with_reducible refine (HC.out _).mono ?_); rintro e w1 ⟨rfl, hb⟩; have HB5 := Aside0.mk (below_trans (by repeat (first | exact HB.out | apply below_alloc | apply pw_below_drewN | refine below_set ?_ (by first | exact Nat.le_refl _ | (simp; done) | (simp; omega)))) hb); clear hb)))
        go_ret
        exact ⟨rfl, by repeat (first | exact HB5.out | apply below_alloc | apply pw_below_drewN)⟩
end Go.Proofs.YtgoeiflddikihaaGreatDoor.Ver
end
