/- Merged by program out of: AwakeS, VLess, VLess2, VSemC, VLess3, Sort. -/
import Derived.Sort.Statements
import Derived.Test.YtgoeiflddikihaaGreatDoorCsM7
import Derived.Test.YtgoeiflddikihaaGreatDoorCsM8
import Derived.RegionTactic
import Derived.BigRegion
import Derived.Lib.QuietBelow
import Derived.Test.YtgoeiflddikihaaGreatDoorCsM6
import Derived.Sort.AssemblyPlain
import Derived.Sort.Row
import Derived.LoopTactic
import Derived.Lib.BufferOwn
import Derived.Maps.AppendAt
import Derived.WalkLawsBesides
section
namespace Go.Proofs.YtgoeiflddikihaaGreatDoor.Awk
open Go.Sort
theorem three {α : Type} [Inhabited α] {lt : α → α → Bool} (h : SWO lt) {c0 c1 c2 : α} (h21 : lt c2 c1 = true) (h20 : lt c2 c0 = true) (h10 : lt c1 c0 = true) {d' : Array α} (hp : PermIn 0 3 #[c0, c1, c2] d') (hs : SortedIn lt 0 3 d') :
    d' = #[c2, c1, c0] := by
  obtain ⟨hsz, _, hpm⟩ := hp
  have hsz3 : d'.size = 3 := hsz
  obtain ⟨l⟩ := d'
  have hl : l.length = 3 := hsz3
  match l, hl with
  | [x, y, z], _ =>
    have hpm' : [x, y, z].Perm [c0, c1, c2] := by simpa using hpm
    have s1 : lt y x = false := by simpa using hs 0 1 (by omega) (by omega) (by omega)
    have s2 : lt z x = false := by simpa using hs 0 2 (by omega) (by omega) (by omega)
    have s3 : lt z y = false := by simpa using hs 1 2 (by omega) (by omega) (by omega)
    have n01 : c0 ≠ c1 := fun e => by rw [e, h.irrefl] at h10; cases h10
    have n02 : c0 ≠ c2 := fun e => by rw [e, h.irrefl] at h20; cases h20
    have n12 : c1 ≠ c2 := fun e => by rw [e, h.irrefl] at h21; cases h21
    have hx : x ∈ [c0, c1, c2] := hpm'.mem_iff.1 (by simp)
    have hy : y ∈ [c0, c1, c2] := hpm'.mem_iff.1 (by simp)
    have hz : z ∈ [c0, c1, c2] := hpm'.mem_iff.1 (by simp)
    have k0 : c0 ∈ [x, y, z] := hpm'.mem_iff.2 (by simp)
    have k1 : c1 ∈ [x, y, z] := hpm'.mem_iff.2 (by simp)
    have k2 : c2 ∈ [x, y, z] := hpm'.mem_iff.2 (by simp)
    simp only [List.mem_cons, List.not_mem_nil, or_false] at hx hy hz
    rcases hx with rfl | rfl | rfl <;> rcases hy with rfl | rfl | rfl <;> rcases hz with rfl | rfl | rfl <;>
      first
        | rfl
        | (exfalso; simp [n01, n02, n12, n01.symm, n02.symm, n12.symm] at k0 k1 k2; done)
        | (exfalso; simp_all; done)
end Go.Proofs.YtgoeiflddikihaaGreatDoor.Awk
end
section
namespace Go.Proofs.YtgoeiflddikihaaGreatDoor.Ver
open Go.RowKit Go.Proofs.YtgoeiflddikihaaGreatDoorW.PrintWords Go.Proofs.YtgoeiflddikihaaGreatDoor.Ord
set_option maxHeartbeats 2000000 in
theorem cvt_any (l r : Vers) (hl : l.bare = l) (hr : r.bare = r) (w : World) :
    Calls Tryz.prog 205 #[l.val, r.val] w fun e w' => e = .returned (.int .i64 (natC l.rank r.rank)) ∧ Below w.heap.size w w' := by
  have c_rev_rev := c_rev_rev
  have c_rev_plain := c_rev_plain
  have c_rev_branch := c_rev_branch
  have c_rev_sem := c_rev_sem
  have c_plain_rev := c_plain_rev
  have c_plain_plain := c_plain_plain
  have c_plain_branch := c_plain_branch
  have c_plain_sem := c_plain_sem
  have c_branch_rev := c_branch_rev
  have c_branch_plain := c_branch_plain
  have c_branch_branch := c_branch_branch
  have c_branch_sem := c_branch_sem
  have c_sem_rev := c_sem_rev
  have c_sem_plain := c_sem_plain
  have c_sem_branch := c_sem_branch
  have c_sem_sem := c_sem_sem
  have HB := Aside0.mk (Below.refl w.heap.size w)
  rcases l with s | (⟨n, d⟩ | s | v) | ⟨u, x⟩
  all_goals first | (exfalso; cases hl; done) | skip
  all_goals
    rcases r with s' | (⟨n', d'⟩ | s' | v') | ⟨u, x⟩
    all_goals first | (exfalso; cases hr; done) | skip
    all_goals
      clear hl hr
      dsimp only [Vers.val, Vers.tid, Vers.inner, Unp.val, Unp.tid, Unp.inner, SV.cells, Vers.rank, Unp.rank]
      go_enter Tryz.func205, Tryz.ntmps205
      go_wp2_with fail
      go_ret
      exact ⟨rfl, by repeat (first | exact HB.out | apply below_alloc | apply pw_below_drewN)⟩
theorem p_branch (v : Value) (xT : TypeId) (w : World) : (Instr.typeAssert (.iface 215 v) xT 215 false).run Tryz.prog w = .ok v w := by kernel_rfl
theorem p_sem (v : Value) (xT : TypeId) (w : World) : (Instr.typeAssert (.iface 200 v) xT 200 false).run Tryz.prog w = .ok v w := by kernel_rfl
theorem bare_bare (l : Vers) : l.bare.bare = l.bare := by rcases l with _ | _ | _ <;> rfl
theorem cvt_at (l r : Vers) {k : Int} (hk : natC l.rank r.rank = k) (w : World) :
    Calls Tryz.prog 205 #[l.bare.val, r.bare.val] w fun e w' => e = .returned (.int .i64 k) ∧ Below w.heap.size w w' := by
  have h := cvt_any l.bare r.bare (bare_bare l) (bare_bare r) w
  have e1 : l.bare.rank = l.rank := by rcases l with s | u | ⟨u, x⟩ <;> rfl
  have e2 : r.bare.rank = r.rank := by rcases r with s | u | ⟨u, x⟩ <;> rfl
  rw [e1, e2, hk] at h
  exact h
set_option maxRecDepth 20000 in
set_option maxHeartbeats 8000000 in
theorem vless_rank (l r : Vers) (down : Bool) (hne : l.rank ≠ r.rank) (w : World) :
    Calls Tryz.prog 204 #[l.val, r.val, .bool down] w fun e w' => e = .returned (.bool (lessV down l r)) ∧ Below w.heap.size w w' := by
  have HB := Aside0.mk (Below.refl w.heap.size w)
  rw [less_rank hne]
  have cp1 := c_rev_pair
  have cp2 := c_branch_pair
  have cp3 := c_plain_pair
  have cp4 := c_sem_pair
  have cp5 := c_pair_pair
  rcases Nat.lt_or_gt_of_ne hne with hlt | hgt
  · have HC := Lib.hid (fun W => cvt_at l r (k := -1) (by unfold natC; rw [if_pos hlt]) W)
    rw [decide_eq_true hlt]
    rcases l with s | (⟨n, d⟩ | s | v) | ⟨(⟨n, d⟩ | s | v), x⟩
    all_goals
      rcases r with s' | (⟨n', d'⟩ | s' | v') | ⟨(⟨n', d'⟩ | s' | v'), x'⟩
      all_goals first | (exfalso; simp [Vers.rank, Unp.rank] at hlt; done) | skip
      all_goals
        clear hlt hne
        dsimp only [Vers.val, Vers.tid, Vers.inner, Unp.val, Unp.tid, Unp.inner, SV.cells, Vers.bare] at HC ⊢
        go_enter Tryz.func204, Tryz.ntmps204
        go_wp2_with (first
          | (go_at_call 205; ((with_reducible refine (HC.out _).mono ?_); rintro e w1 ⟨rfl, hb⟩; have HB5 := Aside0.mk (below_trans (by repeat (first | exact HB.out | apply below_alloc | apply pw_below_drewN | refine below_set ?_ (by first | exact Nat.le_refl _ | (simp; done) | (simp; omega)))) hb); clear hb)))
        go_ret
        exact ⟨rfl, by repeat (first | exact HB5.out | apply below_alloc | apply pw_below_drewN)⟩
  · have HC := Lib.hid (fun W => cvt_at l r (k := 1) (by unfold natC; rw [if_neg (by omega), if_pos hgt]) W)
    rw [decide_eq_false (by omega)]
    rcases l with s | (⟨n, d⟩ | s | v) | ⟨(⟨n, d⟩ | s | v), x⟩
    all_goals
      rcases r with s' | (⟨n', d'⟩ | s' | v') | ⟨(⟨n', d'⟩ | s' | v'), x'⟩
      all_goals first | (exfalso; simp [Vers.rank, Unp.rank] at hgt; done) | skip
      all_goals
        clear hgt hne
        dsimp only [Vers.val, Vers.tid, Vers.inner, Unp.val, Unp.tid, Unp.inner, SV.cells, Vers.bare] at HC ⊢
        go_enter Tryz.func204, Tryz.ntmps204
        go_wp2_with (first
          | (go_at_call 205; ((with_reducible refine (HC.out _).mono ?_); rintro e w1 ⟨rfl, hb⟩; have HB5 := Aside0.mk (below_trans (by repeat (first | exact HB.out | apply below_alloc | apply pw_below_drewN | refine below_set ?_ (by first | exact Nat.le_refl _ | (simp; done) | (simp; omega)))) hb); clear hb)))
        go_ret
        exact ⟨rfl, by repeat (first | exact HB5.out | apply below_alloc | apply pw_below_drewN)⟩
end Go.Proofs.YtgoeiflddikihaaGreatDoor.Ver
end
section
namespace Go.Proofs.YtgoeiflddikihaaGreatDoor.Ver
open Go.RowKit Go.Proofs.YtgoeiflddikihaaGreatDoorW.PrintWords Go.Proofs.YtgoeiflddikihaaGreatDoor.Ord
set_option maxRecDepth 20000 in
set_option maxHeartbeats 8000000 in
theorem vless_name (l r : Vers) (down : Bool) (hr : l.rank = r.rank) (h2 : 2 ≤ l.rank) (w : World) :
    Calls Tryz.prog 204 #[l.val, r.val, .bool down] w fun e w' => e = .returned (.bool (lessV down l r)) ∧ Below w.heap.size w w' := by
  have HB := Aside0.mk (Below.refl w.heap.size w)
  rw [← less_bare]
  have HC := Lib.hid (fun W => cvt_at l r (k := 0) (by rw [hr]; exact cmp_nat.refl _) W)
  have c1 := c_rev_pair
  have c2 := c_branch_pair
  have c3 := c_plain_pair
  have c5 := c_pair_pair
  have c6 := c_rev_branch
  have c7 := c_rev_rev
  have c8 := c_rev_plain
  have c9 := c_plain_branch
  have c10 := c_plain_rev
  have c11 := c_plain_plain
  have m1 := m_rev_String
  have m2 := m_plain_String
  rcases l with s | (⟨n, d⟩ | s | v) | ⟨(⟨n, d⟩ | s | v), x⟩
  all_goals first | (exfalso; simp [Vers.rank, Unp.rank] at h2; done) | skip
  all_goals
    rcases r with s' | (⟨n', d'⟩ | s' | v') | ⟨(⟨n', d'⟩ | s' | v'), x'⟩
    all_goals first | (exfalso; simp [Vers.rank, Unp.rank] at hr; done) | skip
    all_goals
      clear h2 hr
      dsimp only [Vers.bare]
      first | rw [less_rev] | rw [less_plain]
      dsimp only [Vers.val, Vers.tid, Vers.inner, Unp.val, Unp.tid, Unp.inner, SV.cells, Vers.bare] at HC ⊢
      rw [← ByteArray.toList_eq, ← ByteArray.toList_eq]
      generalize hbl : Op.bytesLess _ _ = b
      go_enter Tryz.func204, Tryz.ntmps204
      go_wp2_with (first
        | (go_at_call 205; ((with_reducible refine (HC.out _).mono ?_); rintro e w1 ⟨rfl, hb⟩; have HB5 := Aside0.mk (below_trans (by repeat (first | exact HB.out | apply below_alloc | apply pw_below_drewN | refine below_set ?_ (by first | exact Nat.le_refl _ | (simp; done) | (simp; omega)))) hb); clear hb))
        | go_in)
      go_ret
      exact ⟨rfl, by repeat (first | exact HB5.out | apply below_alloc | apply pw_below_drewN)⟩
set_option maxRecDepth 20000 in
set_option maxHeartbeats 8000000 in
theorem vless_branch (l r : Vers) (down : Bool) (h1 : l.rank = 1) (h2 : r.rank = 1) (w : World) :
    Calls Tryz.prog 204 #[l.val, r.val, .bool down] w fun e w' => e = .returned (.bool (lessV down l r)) ∧ Below w.heap.size w w' := by
  have HB := Aside0.mk (Below.refl w.heap.size w)
  rw [← less_bare]
  have HC := Lib.hid (fun W => cvt_at l r (k := 0) (by rw [h1, h2]; exact cmp_nat.refl _) W)
  have c2 := c_branch_pair
  have c5 := c_pair_pair
  have c6 := c_branch_branch
  have c7 := p_branch
  have m1 := m_branch_String
  rcases l with s | (⟨n, d⟩ | s | v) | ⟨(⟨n, d⟩ | s | v), x⟩
  all_goals first | (exfalso; simp [Vers.rank, Unp.rank] at h1; done) | skip
  all_goals
    rcases r with s' | (⟨n', d'⟩ | s' | v') | ⟨(⟨n', d'⟩ | s' | v'), x'⟩
    all_goals first | (exfalso; simp [Vers.rank, Unp.rank] at h2; done) | skip
    all_goals
      clear h1 h2
      dsimp only [Vers.bare]
      rw [less_branch]
      dsimp only [Vers.val, Vers.tid, Vers.inner, Unp.val, Unp.tid, Unp.inner, SV.cells, Vers.bare] at HC ⊢
      rw [← ByteArray.toList_eq, ← ByteArray.toList_eq]
      generalize hbl : Op.bytesLess _ _ = b
      cases d <;> cases d'
      all_goals
        go_enter Tryz.func204, Tryz.ntmps204
        go_wp2_with (first
          | (go_at_call 205; ((with_reducible refine (HC.out _).mono ?_); rintro e w1 ⟨rfl, hb⟩; have HB5 := Aside0.mk (below_trans (by repeat (first | exact HB.out | apply below_alloc | apply pw_below_drewN | refine below_set ?_ (by first | exact Nat.le_refl _ | (simp; done) | (simp; omega)))) hb); clear hb))
          | go_in)
        go_ret
        exact ⟨rfl, by repeat (first | exact HB5.out | apply below_alloc | apply pw_below_drewN)⟩
end Go.Proofs.YtgoeiflddikihaaGreatDoor.Ver
end
section
namespace Go.Proofs.YtgoeiflddikihaaGreatDoor.Ver
open Go.RowKit Go.Proofs.YtgoeiflddikihaaGreatDoorW.PrintWords Go.Proofs.YtgoeiflddikihaaGreatDoor.Ord
set_option maxHeartbeats 2000000 in
theorem less_any (v u : SV) (hv : v.pre.size ≤ 140737488351232) (hu : u.pre.size ≤ 140737488351232) (w : World) :
    Calls Tryz.prog 207 #[.agg v.cells, .agg u.cells] w fun e w' => e = .returned (.bool (decide (cmpV v u < 0))) ∧ Below w.heap.size w w' := by
  have HC := Lib.hid (fun W => cmp_any v u hv hu W)
  have HB := Aside0.mk (Below.refl w.heap.size w)
  generalize cmpV v u = c at *
  obtain ⟨va, vb, vc, vp, vm, vo⟩ := v
  obtain ⟨ua, ub, uc, up, um, uo⟩ := u
  dsimp only [SV.cells] at HC hv hu ⊢
  go_enter Tryz.func207, Tryz.ntmps207
  go_wp2_with (first
    | (go_at_call 209; ((with_reducible refine (HC.out _).mono ?_); rintro e w1 ⟨rfl, hb⟩; have HB5 := Aside0.mk (below_trans (by repeat (first | exact HB.out | apply below_alloc | apply pw_below_drewN)) hb); clear hb)))
  go_ret
  exact ⟨rfl, by repeat (first | exact HB5.out | apply below_alloc | apply pw_below_drewN)⟩
set_option maxHeartbeats 2000000 in
theorem more_any (v u : SV) (hv : v.pre.size ≤ 140737488351232) (hu : u.pre.size ≤ 140737488351232) (w : World) :
    Calls Tryz.prog 208 #[.agg v.cells, .agg u.cells] w fun e w' => e = .returned (.bool (decide (cmpV v u > 0))) ∧ Below w.heap.size w w' := by
  have HC := Lib.hid (fun W => cmp_any v u hv hu W)
  have HB := Aside0.mk (Below.refl w.heap.size w)
  generalize cmpV v u = c at *
  obtain ⟨va, vb, vc, vp, vm, vo⟩ := v
  obtain ⟨ua, ub, uc, up, um, uo⟩ := u
  dsimp only [SV.cells] at HC hv hu ⊢
  go_enter Tryz.func208, Tryz.ntmps208
  go_wp2_with (first
    | (go_at_call 209; ((with_reducible refine (HC.out _).mono ?_); rintro e w1 ⟨rfl, hb⟩; have HB5 := Aside0.mk (below_trans (by repeat (first | exact HB.out | apply below_alloc | apply pw_below_drewN)) hb); clear hb)))
  go_ret
  exact ⟨rfl, by repeat (first | exact HB5.out | apply below_alloc | apply pw_below_drewN)⟩
theorem prerel_any (v : SV) (w : World) :
    Calls Tryz.prog 206 #[.agg v.cells] w fun e w' => e = .returned (.string v.pre) ∧ Below w.heap.size w w' := by
  have HB := Aside0.mk (Below.refl w.heap.size w)
  obtain ⟨va, vb, vc, vp, vm, vo⟩ := v
  dsimp only [SV.cells]
  go_enter Tryz.func206, Tryz.ntmps206
  go_wp2_with fail
  go_ret
  exact ⟨rfl, by repeat (first | exact HB.out | apply below_alloc | apply pw_below_drewN)⟩
end Go.Proofs.YtgoeiflddikihaaGreatDoor.Ver
end
section
namespace Go.Proofs.YtgoeiflddikihaaGreatDoor.Ver
open Go.RowKit Go.Proofs.YtgoeiflddikihaaGreatDoorW.PrintWords Go.Proofs.YtgoeiflddikihaaGreatDoor.Ord
theorem at_two (w : World) (a b : Obj) : ((w.alloc a).alloc b).heap[w.heap.size + 1]? = some b := by
  have := alloc_at (w.alloc a) b
  rw [alloc_size] at this
  exact this
theorem fld_sem (a b c : Int) (p m o : ByteArray) (W : World) : (Instr.field 200 (.agg #[.int .u64 a, .int .u64 b, .int .u64 c, .string p, .string m, .string o]) 0).run Tryz.prog W = .ok (.agg #[.int .u64 a, .int .u64 b, .int .u64 c, .string p, .string m, .string o]) W := by kernel_rfl
set_option maxRecDepth 20000 in
set_option maxHeartbeats 8000000 in
theorem vless_sem (l r : Vers) (v u : SV) (hl : l.bare = .un (.sem v)) (hr : r.bare = .un (.sem u)) (hv : v.pre.size ≤ 140737488351232) (hu : u.pre.size ≤ 140737488351232) (down : Bool) (w : World) :
    Calls Tryz.prog 204 #[l.val, r.val, .bool down] w fun e w' => e = .returned (.bool (lessV down l r)) ∧ Below w.heap.size w w' := by
  have HB := Aside0.mk (Below.refl w.heap.size w)
  have h1 : l.rank = 0 := by rcases l with s | (⟨n, d⟩ | s | v) | ⟨(⟨n, d⟩ | s | v), x⟩ <;> first | rfl | cases hl
  have h2 : r.rank = 0 := by rcases r with s | (⟨n, d⟩ | s | v) | ⟨(⟨n, d⟩ | s | v), x⟩ <;> first | rfl | cases hr
  rw [← less_bare]
  have HC := Lib.hid (fun W => cvt_at l r (k := 0) (by rw [h1, h2]; exact cmp_nat.refl _) W)
  rw [hl, hr, less_sem] 
  rw [hl, hr] at HC
  have PV : ∀ (W : World) d os, Calls Tryz.prog 206 #[.agg v.cells] (Sort.grow (redrawn W d) os) fun e w'' => e = .returned (.string v.pre) ∧ ∃ p : Regrown, w'' = Sort.grow (redrawn W p.d) p.os := fun W d os => Calls.regrown_of (prerel_any v _)
  have PU : ∀ (W : World) d os, Calls Tryz.prog 206 #[.agg u.cells] (Sort.grow (redrawn W d) os) fun e w'' => e = .returned (.string u.pre) ∧ ∃ p : Regrown, w'' = Sort.grow (redrawn W p.d) p.os := fun W d os => Calls.regrown_of (prerel_any u _)
  have HL := Lib.hid (fun W => less_any v u hv hu W)
  have HM := Lib.hid (fun W => more_any v u hv hu W)
  rw [← ByteArray.toList_eq, ← ByteArray.toList_eq]
  generalize hres : (if v.pre.toList.isEmpty = u.pre.toList.isEmpty then (if down = true then decide (cmpV v u < 0) else decide (cmpV v u > 0)) else v.pre.toList.isEmpty) = res
  have HRES := Lib.hid hres
  clear hres
  generalize cmpV v u = c at *
  have c1 := c_sem_pair
  have c2 := c_pair_pair
  have c3 := c_sem_branch
  have c4 := c_sem_rev
  have c5 := c_sem_plain
  have c6 := p_sem
  have c7 := fld_sem
  obtain ⟨va, vb, vc, vp, vm, vo⟩ := v
  obtain ⟨ua, ub, uc, up, um, uo⟩ := u
  dsimp only at hv hu HRES
  have hl' : l = .un (.sem ⟨va, vb, vc, vp, vm, vo⟩) ∨ ∃ x, l = .pair (.sem ⟨va, vb, vc, vp, vm, vo⟩) x := by
    rcases l with s | (⟨n, d⟩ | s | v) | ⟨(⟨n, d⟩ | s | v), x⟩ <;> first | (cases hl; done) | (injection hl with e; injection e with e; subst e; first | exact Or.inl rfl | exact Or.inr ⟨_, rfl⟩)
  have hr' : r = .un (.sem ⟨ua, ub, uc, up, um, uo⟩) ∨ ∃ x, r = .pair (.sem ⟨ua, ub, uc, up, um, uo⟩) x := by
    rcases r with s | (⟨n, d⟩ | s | v) | ⟨(⟨n, d⟩ | s | v), x⟩ <;> first | (cases hr; done) | (injection hr with e; injection e with e; subst e; first | exact Or.inl rfl | exact Or.inr ⟨_, rfl⟩)
  clear hl hr h1 h2
  rcases hl' with rfl | ⟨x, rfl⟩
  all_goals
    rcases hr' with rfl | ⟨x', rfl⟩
    all_goals
      dsimp only [Vers.val, Vers.tid, Vers.inner, Unp.val, Unp.tid, Unp.inner, SV.cells, Vers.bare] at HC PV PU HL HM ⊢
      have QV := Lib.hid PV
      have QU := Lib.hid PU
      clear PV PU
      go_enter Tryz.func204, Tryz.ntmps204
      go_upto_region 24 with (first
          | (go_at_call 205; ((with_reducible refine (HC.out _).mono ?_); rintro e w1 ⟨rfl, hb⟩; have HB5 := Aside0.mk (below_trans (by repeat (first | exact HB.out | apply below_alloc | apply pw_below_drewN | refine below_set ?_ (by first | exact Nat.le_refl _ | (simp; done) | (simp; omega)))) hb); clear hb)))
      go_cut [14, 15] (fun v14 v15 wx => ∃ g h : Nat, v14 = .pointer (some ⟨g, 0, none⟩) ∧ v15 = .pointer (some ⟨h, 0, none⟩) ∧ Aside0 (wx.heap[g]? = some (bSV va vb vc vp vm vo)) ∧ Aside0 (wx.heap[h]? = some (bSV ua ub uc up um uo)) ∧ Aside0 (Below w.heap.size w wx))
      case first =>
        go_region
        all_goals
          go_wp2_with fail
          go_meet
          case rel =>
            refine ⟨_, _, rfl, rfl, ⟨?_⟩, ⟨?_⟩, ⟨?_⟩⟩
            · first | exact blk_drew (blk_alloc (alloc_at w1 _) _) | exact blk_drew (at_two w1 _ _)
            · first | exact blk_drew (blk_alloc (alloc_at w1 _) _) | exact blk_drew (at_two w1 _ _)
            · exact below_drew (below_alloc (below_alloc HB5.out _) _)
      case rest =>
        obtain ⟨g, h, rfl, rfl, HG, HH, HB6⟩ := hcut
        have k0 := cell_regrown (blk_cell HG.out 0)
        have j0 := cell_regrown (blk_cell HH.out 0)
        have k1 := cell_regrown (blk_cell HG.out 1)
        have j1 := cell_regrown (blk_cell HH.out 1)
        have k2 := cell_regrown (blk_cell HG.out 2)
        have j2 := cell_regrown (blk_cell HH.out 2)
        have k3 := cell_regrown (blk_cell HG.out 3)
        have j3 := cell_regrown (blk_cell HH.out 3)
        have k4 := cell_regrown (blk_cell HG.out 4)
        have j4 := cell_regrown (blk_cell HH.out 4)
        have k5 := cell_regrown (blk_cell HG.out 5)
        have j5 := cell_regrown (blk_cell HH.out 5)
        go_wp2_with fail
        refine wp_region_quiet_below (by kernel_rfl) (by kernel_rfl) ?_
        repeat (quiet_step (first | exact QV.out _ _ _ | exact QU.out _ _ _))
        refine wpQuiet_nil ?_
        intro _ hw'
        obtain ⟨⟨dq, osq⟩, hw''⟩ := hw'
        subst hw''
        have HB7 := Aside0.mk (below_trans HB6.out (below_regrown _ dq osq))
        have z0 := k0 dq osq
        have y0 := j0 dq osq
        clear k0 j0
        have z1 := k1 dq osq
        have y1 := j1 dq osq
        clear k1 j1
        have z2 := k2 dq osq
        have y2 := j2 dq osq
        clear k2 j2
        have z3 := k3 dq osq
        have y3 := j3 dq osq
        clear k3 j3
        have z4 := k4 dq osq
        have y4 := j4 dq osq
        clear k4 j4
        have z5 := k5 dq osq
        have y5 := j5 dq osq
        clear k5 j5
        cases ha : vp.toList.isEmpty <;> cases hb : up.toList.isEmpty <;> cases down
        all_goals
          go_wp2_with (first
            | (go_at_call 207; ((with_reducible refine (HL.out _).mono ?_); rintro e w8 ⟨rfl, hb8⟩; have HB8 := Aside0.mk (below_trans HB7.out hb8); clear hb8))
            | (go_at_call 208; ((with_reducible refine (HM.out _).mono ?_); rintro e w8 ⟨rfl, hb8⟩; have HB8 := Aside0.mk (below_trans HB7.out hb8); clear hb8)))
          go_ret
          exact ⟨by rw [← HRES.out]; simp [ha, hb], by repeat (first | exact HB8.out | exact HB7.out | apply below_alloc | apply pw_below_drewN)⟩
end Go.Proofs.YtgoeiflddikihaaGreatDoor.Ver
end
section
namespace Go.Proofs.YtgoeiflddikihaaGreatDoor.Srt
open Go.RowKit Go.Proofs.YtgoeiflddikihaaGreatDoorW.PrintWords Go.Sort
section plain
variable {α : Type} [Inhabited α] (lt : α → α → Bool)
theorem inner_go (a j : Nat) (d : Array α) (hj : a < j) (hl : lt d[j]! d[j - 1]! = true) : insInner lt a j d = insInner lt a (j - 1) (swp d j (j - 1)) := by
  cases j with
  | zero => omega
  | succ j =>
    have h2 : lt d[j + 1]! d[j]! = true := hl
    simp only [insInner]
    rw [if_pos (by rw [h2, Bool.and_true]; exact decide_eq_true hj)]
    rfl
theorem inner_stop (a j : Nat) (d : Array α) (h : j ≤ a ∨ lt d[j]! d[j - 1]! = false) : insInner lt a j d = d := by
  cases j with
  | zero => rfl
  | succ j =>
    simp only [insInner]
    rw [if_neg]
    rcases h with h | h
    · rw [decide_eq_false (by omega)]; simp
    · have h2 : lt d[j + 1]! d[j]! = false := h
      rw [h2, Bool.and_false]; simp
theorem outer_go (a b i : Nat) (d : Array α) (h : i < b) : insOuter lt a b i d = insOuter lt a b (i + 1) (insInner lt a i d) := by rw [insOuter, if_pos h]
theorem outer_stop (a b i : Nat) (d : Array α) (h : ¬ i < b) : insOuter lt a b i d = d := by rw [insOuter, if_neg h]
theorem swp_size (d : Array α) (i j : Nat) : (swp d i j).size = d.size := by simp [swp]
end plain
variable {α : Type} [Inhabited α]
structure SI (enc : α → Value) (w : World) (blk off : Nat) (d : Array α) (W : World) : Prop where
  gr : w.grownBy W (some blk)
  holds : Holds enc W blk off d
  lt : blk < w.heap.size
theorem SI.below {enc : α → Value} {w : World} {blk off : Nat} {d : Array α} {W W' : World} (h : SI enc w blk off d W) (hb : Below W.heap.size W W') : SI enc w blk off d W' := by
  have hl : blk < W.heap.size := Nat.lt_of_lt_of_le h.lt h.gr.size
  refine ⟨h.gr.trans (grown_of_below hb _), fun j hj => ?_, h.lt⟩
  obtain ⟨h1, h2⟩ := h.holds j hj
  exact ⟨(hb.cell (p := ⟨blk, off + j, none⟩) hl).trans h1, (hb.frozen (p := ⟨blk, off + j, none⟩) hl).trans h2⟩
theorem SI.drewN {enc : α → Value} {w : World} {blk off : Nat} {d : Array α} {W : World} (h : SI enc w blk off d W) (n : Nat) : SI enc w blk off d (W.drewN n) := h.below (pw_below_drewN (Below.refl _ _) n)
theorem set_holds {enc : α → Value} {W : World} {blk off : Nat} {d : Array α} (h : Holds enc W blk off d) {i : Nat} (hi : i < d.size) (x : α) : Holds enc (W.setCell ⟨blk, off + i, none⟩ (enc x)) blk off (d.setIfInBounds i x) := by
  intro j hj
  have hj' : j < d.size := by simpa using hj
  obtain ⟨h1, h2⟩ := h j hj'
  refine ⟨?_, by rw [World.frozen?_setCell]; exact h2⟩
  by_cases e : i = j
  · subst e
    rw [getElem!_set_same d i x hi]
    exact World.cell?_setCell_same _ _ _ h1
  · rw [getElem!_set_other d i j x (fun e' => e e'.symm), World.cell?_setCell_other _ _ _ _ (by intro e'; injection e' with _ e'; omega)]
    exact h1
theorem SI.swap {enc : α → Value} {w : World} {blk off : Nat} {d : Array α} {W : World} (h : SI enc w blk off d W) {i j : Nat} (hi : i < d.size) (hj : j < d.size) :
    SI enc w blk off (swp d i j) ((W.setCell ⟨blk, off + i, none⟩ (enc d[j]!)).setCell ⟨blk, off + j, none⟩ (enc d[i]!)) :=
  ⟨(h.gr.trans (Lib.grownBy_setCell _ _ _ _)).trans (Lib.grownBy_setCell _ _ _ _), set_holds (set_holds h.holds hi d[j]!) (by simpa using hj) d[i]!, h.lt⟩
def LessC (gl : Nat) (rv : Value) (enc : α → Value) (lt : α → α → Bool) (w : World) (blk off n : Nat) : Prop :=
  ∀ (W : World) (d : Array α), SI enc w blk off d W → d.size = n → ∀ i j : Nat, i < n → j < n →
    Calls Tryz.prog gl #[rv, .int .i64 i, .int .i64 j] W fun e w' => e = .returned (.bool (lt d[i]! d[j]!)) ∧ Below W.heap.size W w'
def SwapC (gs : Nat) (rv : Value) (enc : α → Value) (w : World) (blk off n : Nat) : Prop :=
  ∀ (W : World) (d : Array α), SI enc w blk off d W → d.size = n → ∀ i j : Nat, i < n → j < n →
    Calls Tryz.prog gs #[rv, .int .i64 i, .int .i64 j] W fun e w' => e = .returned (.tuple #[]) ∧ SI enc w blk off (swp d i j) w'
structure Meth (T : TypeId) (rv : Value) (gn gl gs : Nat) : Prop where
  n : ∀ w, Sem.run Tryz.prog (method 417 T rv "Len") w = .ok (gn, rv) w
  l : ∀ w, Sem.run Tryz.prog (method 417 T rv "Less") w = .ok (gl, rv) w
  s : ∀ w, Sem.run Tryz.prog (method 417 T rv "Swap") w = .ok (gs, rv) w
  en : ∀ args w, (callFunc gn args).run Tryz.prog w = .ok (.enter gn args) w
  el : ∀ args w, (callFunc gl args).run Tryz.prog w = .ok (.enter gl args) w
  es : ∀ args w, (callFunc gs args).run Tryz.prog w = .ok (.enter gs args) w
set_option maxHeartbeats 2000000 in
set_option maxRecDepth 100000 in
theorem ins_any {T : TypeId} {rv : Value} {gn gl gs : Nat} (hm : Meth T rv gn gl gs) (enc : α → Value) (lt : α → α → Bool) (w : World) (blk off n : Nat) (hl : LessC gl rv enc lt w blk off n) (hs : SwapC gs rv enc w blk off n) (hn : n < 4611686018427387904)
    (a b : Nat) (hab : a ≤ b) (hb : b ≤ n) (W : World) (d : Array α) (hd : d.size = n) (hW : SI enc w blk off d W) :
    Calls Tryz.prog 132 #[.iface T rv, .int .i64 a, .int .i64 b] W fun e w' => e = .returned (.tuple #[]) ∧ SI enc w blk off (insertionSort lt d a b) w' := by
  have mL := hm.l
  have mS := hm.s
  have eL := hm.el
  have eS := hm.es
  have HW := Aside0.mk hW
  have HD := Lib.hid hd
  clear hW hd hm
  go_enter Tryz.func132, Tryz.ntmps132
  go_wp2
  go_loopw [6] (fun vi wr => ∃ (i : Nat) (dk : Array α), vi = .int .i64 i ∧ a < i ∧ i ≤ b + 1 ∧ Hid (dk.size = n) ∧ Aside0 (SI enc w blk off dk wr) ∧ Hid (insOuter lt a b i dk = insOuter lt a b (a + 1) d)) (fun vi _ => b + 1 - (intOf vi).toNat)
  case atStart => exact ⟨a + 1, d, by go_num, by omega, by omega, HD, HW, Lib.hid rfl⟩
  case round =>
    obtain ⟨i, dk, rfl, hai, hib, HK, HS, HO⟩ := hrel
    by_cases hlt : i < b
    · have d1 : decide (i < b) = true := decide_eq_true hlt
      go_wp2
      go_loopw [7] (fun vj wr2 => ∃ (j : Nat) (dj : Array α), vj = .int .i64 j ∧ a ≤ j ∧ j ≤ i ∧ Hid (dj.size = n) ∧ Aside0 (SI enc w blk off dj wr2) ∧ Hid (insInner lt a j dj = insInner lt a i dk)) (fun vj _ => (intOf vj).toNat)
      case atStart => exact ⟨i, dk, rfl, by omega, Nat.le_refl _, HK, HS, Lib.hid rfl⟩
      case round =>
        obtain ⟨j, dj, rfl, haj, hji, HJ, HT, HI⟩ := hrel
        have OUT : Hid ((j ≤ a ∨ lt dj[j]! dj[j - 1]! = false) → ∀ W2, SI enc w blk off dj W2 → ∃ (i' : Nat) (dk' : Array α), Value.int .i64 ((i : Int) + 1) = .int .i64 (i' : Nat) ∧ a < i' ∧ i' ≤ b + 1 ∧ Hid (dk'.size = n) ∧ Aside0 (SI enc w blk off dk' W2) ∧ Hid (insOuter lt a b i' dk' = insOuter lt a b (a + 1) d)) := Lib.hid (fun hst W2 h2 =>
          ⟨i + 1, dj, by go_num, by omega, by omega, HJ, ⟨h2⟩, Lib.hid (by rw [← HO.out, outer_go lt _ _ _ _ hlt, ← HI.out, inner_stop lt _ _ _ hst])⟩)
        by_cases hja : a < j
        · have hL := hl wr dj HT.out HJ.out j (j - 1) (by omega) (by omega)
          rw [show (((j - 1 : Nat) : Int)) = (j : Int) - 1 by omega] at hL
          have HSW := Lib.hid (fun W2 h2 => hs W2 dj h2 HJ.out j (j - 1) (by omega) (by omega))
          rw [show (((j - 1 : Nat) : Int)) = (j : Int) - 1 by omega] at HSW
          cases hlv : lt dj[j]! dj[j - 1]! with
          | true =>
            rw [hlv] at hL
            have HL := Lib.hid hL
            clear hL
            go_wp2_with (first
              | (go_at_fn gl; refine HL.out.mono ?_; rintro e w' ⟨rfl, hb1⟩; have HT1 := Aside0.mk (HT.out.below hb1); clear hb1)
              | (go_at_fn gs; refine (HSW.out _ HT1.out).mono ?_; rintro e w' ⟨rfl, hs2⟩; have HT2 := Aside0.mk hs2; clear hs2))
            go_roundw
            case rel => exact ⟨j - 1, swp dj j (j - 1), by congr 1 <;> omega, by omega, by omega, Lib.hid (by rw [swp_size]; exact HJ.out), HT2, Lib.hid (by rw [← HI.out, inner_go lt a j dj hja hlv])⟩
            case measure => simp [intOf]; omega
          | false =>
            rw [hlv] at hL
            have HL := Lib.hid hL
            clear hL
            go_wp2_with (go_at_fn gl; refine HL.out.mono ?_; rintro e w' ⟨rfl, hb1⟩; have HT1 := Aside0.mk (HT.out.below hb1); clear hb1)
            go_roundw
            case rel => exact OUT.out (Or.inr hlv) _ HT1.out
            case measure => simp [intOf]; omega
        · go_wp2
          go_roundw
          case rel => exact OUT.out (Or.inl (by omega)) _ HT.out
          case measure => simp [intOf]; omega
    · have hge := Lib.hid hlt
      have d1 : decide (i < b) = false := decide_eq_false hlt
      clear hlt
      go_wp2
      go_end0
      exact ⟨rfl, by unfold insertionSort; rw [← HO.out, outer_stop lt _ _ _ _ hge.out]; exact HS.out⟩
end Go.Proofs.YtgoeiflddikihaaGreatDoor.Srt
end
