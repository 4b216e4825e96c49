/- Merged by program out of: AwakeS, VLess, VLess2. -/
import Derived.Sort.Statements
import Derived.Test.YtgoeiflddikihaaGreatDoorCtM9
import Derived.Test.YtgoeiflddikihaaGreatDoorCtM11
import Derived.RegionTactic
import Derived.BigRegion
import Derived.Lib.QuietBelow
section
namespace Go.Proofs.YtgoeiflddikihaaGreatDoor.Awk
open Go.Sort

theorem three {α : Type} [Inhabited α] {lt : α → α → Bool} (h : SWO lt) {c0 c1 c2 : α} (h21 : lt c2 c1 = true) (h20 : lt c2 c0 = true) (h10 : lt c1 c0 = true) {d' : Array α} (hp : PermIn 0 3 #[c0, c1, c2] d') (hs : SortedIn lt 0 3 d') :
    d' = #[c2, c1, c0] := by
  obtain ⟨hsz, _, hpm⟩ := hp
  have hsz3 : d'.size = 3 := hsz
  obtain ⟨l⟩ := d'
  have hl : l.length = 3 := hsz3
  match l, hl with
  | [x, y, z], _ =>
    have hpm' : [x, y, z].Perm [c0, c1, c2] := by simpa using hpm
    have s1 : lt y x = false := by simpa using hs 0 1 (by omega) (by omega) (by omega)
    have s2 : lt z x = false := by simpa using hs 0 2 (by omega) (by omega) (by omega)
    have s3 : lt z y = false := by simpa using hs 1 2 (by omega) (by omega) (by omega)
    have n01 : c0 ≠ c1 := fun e => by rw [e, h.irrefl] at h10; cases h10
    have n02 : c0 ≠ c2 := fun e => by rw [e, h.irrefl] at h20; cases h20
    have n12 : c1 ≠ c2 := fun e => by rw [e, h.irrefl] at h21; cases h21
    have hx : x ∈ [c0, c1, c2] := hpm'.mem_iff.1 (by simp)
    have hy : y ∈ [c0, c1, c2] := hpm'.mem_iff.1 (by simp)
    have hz : z ∈ [c0, c1, c2] := hpm'.mem_iff.1 (by simp)
    have k0 : c0 ∈ [x, y, z] := hpm'.mem_iff.2 (by simp)
    have k1 : c1 ∈ [x, y, z] := hpm'.mem_iff.2 (by simp)
    have k2 : c2 ∈ [x, y, z] := hpm'.mem_iff.2 (by simp)
    simp only [List.mem_cons, List.not_mem_nil, or_false] at hx hy hz
    rcases hx with rfl | rfl | rfl <;> rcases hy with rfl | rfl | rfl <;> rcases hz with rfl | rfl | rfl <;>
      first
        | rfl
        | (exfalso; simp [n01, n02, n12, n01.symm, n02.symm, n12.symm] at k0 k1 k2; done)
        | (exfalso; simp_all; done)

end Go.Proofs.YtgoeiflddikihaaGreatDoor.Awk
end
section
namespace Go.Proofs.YtgoeiflddikihaaGreatDoor.Ver
open Go.RowKit Go.Proofs.YtgoeiflddikihaaGreatDoorW.PrintWords Go.Proofs.YtgoeiflddikihaaGreatDoor.Ord

set_option maxHeartbeats 2000000 in
theorem cvt_any (l r : Vers) (hl : l.bare = l) (hr : r.bare = r) (w : World) :
    Calls Tryz.prog 205 #[l.val, r.val] w fun e w' => e = .returned (.int .i64 (natC l.rank r.rank)) ∧ Below w.heap.size w w' := by
  have c_rev_rev := c_rev_rev
  have c_rev_plain := c_rev_plain
  have c_rev_branch := c_rev_branch
  have c_rev_sem := c_rev_sem
  have c_plain_rev := c_plain_rev
  have c_plain_plain := c_plain_plain
  have c_plain_branch := c_plain_branch
  have c_plain_sem := c_plain_sem
  have c_branch_rev := c_branch_rev
  have c_branch_plain := c_branch_plain
  have c_branch_branch := c_branch_branch
  have c_branch_sem := c_branch_sem
  have c_sem_rev := c_sem_rev
  have c_sem_plain := c_sem_plain
  have c_sem_branch := c_sem_branch
  have c_sem_sem := c_sem_sem
  have HB := Aside0.mk (Below.refl w.heap.size w)
  rcases l with s | (⟨n, d⟩ | s | v) | ⟨u, x⟩
  all_goals first | (exfalso; cases hl; done) | skip
  all_goals
    rcases r with s' | (⟨n', d'⟩ | s' | v') | ⟨u, x⟩
    all_goals first | (exfalso; cases hr; done) | skip
    all_goals
      clear hl hr
      dsimp only [Vers.val, Vers.tid, Vers.inner, Unp.val, Unp.tid, Unp.inner, SV.cells, Vers.rank, Unp.rank]
      go_enter Tryz.func205, Tryz.ntmps205
      go_wp2_with fail
      go_ret
      exact ⟨rfl, by repeat (first | exact HB.out | apply below_alloc | apply pw_below_drewN)⟩

theorem p_branch (v : Value) (xT : TypeId) (w : World) : (Instr.typeAssert (.iface 215 v) xT 215 false).run Tryz.prog w = .ok v w := by kernel_rfl
theorem p_sem (v : Value) (xT : TypeId) (w : World) : (Instr.typeAssert (.iface 200 v) xT 200 false).run Tryz.prog w = .ok v w := by kernel_rfl
theorem bare_bare (l : Vers) : l.bare.bare = l.bare := by rcases l with _ | _ | _ <;> rfl
/-- What a walk needs of two versions' kinds: the comparison of their types. -/
theorem cvt_at (l r : Vers) {k : Int} (hk : natC l.rank r.rank = k) (w : World) :
    Calls Tryz.prog 205 #[l.bare.val, r.bare.val] w fun e w' => e = .returned (.int .i64 k) ∧ Below w.heap.size w w' := by
  have h := cvt_any l.bare r.bare (bare_bare l) (bare_bare r) w
  have e1 : l.bare.rank = l.rank := by rcases l with s | u | ⟨u, x⟩ <;> rfl
  have e2 : r.bare.rank = r.rank := by rcases r with s | u | ⟨u, x⟩ <;> rfl
  rw [e1, e2, hk] at h
  exact h
set_option maxRecDepth 20000 in
set_option maxHeartbeats 8000000 in
theorem vless_rank (l r : Vers) (down : Bool) (hne : l.rank ≠ r.rank) (w : World) :
    Calls Tryz.prog 204 #[l.val, r.val, .bool down] w fun e w' => e = .returned (.bool (lessV down l r)) ∧ Below w.heap.size w w' := by
  have HB := Aside0.mk (Below.refl w.heap.size w)
  rw [less_rank hne]
  have cp1 := c_rev_pair
  have cp2 := c_branch_pair
  have cp3 := c_plain_pair
  have cp4 := c_sem_pair
  have cp5 := c_pair_pair
  rcases Nat.lt_or_gt_of_ne hne with hlt | hgt
  · have HC := Lib.hid (fun W => cvt_at l r (k := -1) (by unfold natC; rw [if_pos hlt]) W)
    rw [decide_eq_true hlt]
    rcases l with s | (⟨n, d⟩ | s | v) | ⟨(⟨n, d⟩ | s | v), x⟩
    all_goals
      rcases r with s' | (⟨n', d'⟩ | s' | v') | ⟨(⟨n', d'⟩ | s' | v'), x'⟩
      all_goals first | (exfalso; simp [Vers.rank, Unp.rank] at hlt; done) | skip
      all_goals
        clear hlt hne
        dsimp only [Vers.val, Vers.tid, Vers.inner, Unp.val, Unp.tid, Unp.inner, SV.cells, Vers.bare] at HC ⊢
        go_enter Tryz.func204, Tryz.ntmps204
        go_wp2_with (first
          | (go_at_call 205; ((with_reducible refine (HC.out _).mono ?_); rintro e w1 ⟨rfl, hb⟩; have HB5 := Aside0.mk (below_trans (by repeat (first | exact HB.out | apply below_alloc | apply pw_below_drewN | refine below_set ?_ (by first | exact Nat.le_refl _ | (simp; done) | (simp; omega)))) hb); clear hb)))
        go_ret
        exact ⟨rfl, by repeat (first | exact HB5.out | apply below_alloc | apply pw_below_drewN)⟩
  · have HC := Lib.hid (fun W => cvt_at l r (k := 1) (by unfold natC; rw [if_neg (by omega), if_pos hgt]) W)
    rw [decide_eq_false (by omega)]
    rcases l with s | (⟨n, d⟩ | s | v) | ⟨(⟨n, d⟩ | s | v), x⟩
    all_goals
      rcases r with s' | (⟨n', d'⟩ | s' | v') | ⟨(⟨n', d'⟩ | s' | v'), x'⟩
      all_goals first | (exfalso; simp [Vers.rank, Unp.rank] at hgt; done) | skip
      all_goals
        clear hgt hne
        dsimp only [Vers.val, Vers.tid, Vers.inner, Unp.val, Unp.tid, Unp.inner, SV.cells, Vers.bare] at HC ⊢
        go_enter Tryz.func204, Tryz.ntmps204
        go_wp2_with (first
          | (go_at_call 205; ((with_reducible refine (HC.out _).mono ?_); rintro e w1 ⟨rfl, hb⟩; have HB5 := Aside0.mk (below_trans (by repeat (first | exact HB.out | apply below_alloc | apply pw_below_drewN | refine below_set ?_ (by first | exact Nat.le_refl _ | (simp; done) | (simp; omega)))) hb); clear hb)))
        go_ret
        exact ⟨rfl, by repeat (first | exact HB5.out | apply below_alloc | apply pw_below_drewN)⟩

end Go.Proofs.YtgoeiflddikihaaGreatDoor.Ver
end
section
namespace Go.Proofs.YtgoeiflddikihaaGreatDoor.Ver
open Go.RowKit Go.Proofs.YtgoeiflddikihaaGreatDoorW.PrintWords Go.Proofs.YtgoeiflddikihaaGreatDoor.Ord

set_option maxRecDepth 20000 in
set_option maxHeartbeats 8000000 in
theorem vless_name (l r : Vers) (down : Bool) (hr : l.rank = r.rank) (h2 : 2 ≤ l.rank) (w : World) :
    Calls Tryz.prog 204 #[l.val, r.val, .bool down] w fun e w' => e = .returned (.bool (lessV down l r)) ∧ Below w.heap.size w w' := by
  have HB := Aside0.mk (Below.refl w.heap.size w)
  rw [← less_bare]
  have HC := Lib.hid (fun W => cvt_at l r (k := 0) (by rw [hr]; exact cmp_nat.refl _) W)
  have c1 := c_rev_pair
  have c2 := c_branch_pair
  have c3 := c_plain_pair
  have c5 := c_pair_pair
  have c6 := c_rev_branch
  have c7 := c_rev_rev
  have c8 := c_rev_plain
  have c9 := c_plain_branch
  have c10 := c_plain_rev
  have c11 := c_plain_plain
  have m1 := m_rev_String
  have m2 := m_plain_String
  rcases l with s | (⟨n, d⟩ | s | v) | ⟨(⟨n, d⟩ | s | v), x⟩
  all_goals first | (exfalso; simp [Vers.rank, Unp.rank] at h2; done) | skip
  all_goals
    rcases r with s' | (⟨n', d'⟩ | s' | v') | ⟨(⟨n', d'⟩ | s' | v'), x'⟩
    all_goals first | (exfalso; simp [Vers.rank, Unp.rank] at hr; done) | skip
    all_goals
      clear h2 hr
      dsimp only [Vers.bare]
      first | rw [less_rev] | rw [less_plain]
      dsimp only [Vers.val, Vers.tid, Vers.inner, Unp.val, Unp.tid, Unp.inner, SV.cells, Vers.bare] at HC ⊢
      rw [← ByteArray.toList_eq, ← ByteArray.toList_eq]
      generalize hbl : Op.bytesLess _ _ = b
      go_enter Tryz.func204, Tryz.ntmps204
      go_wp2_with (first
        | (go_at_call 205; ((with_reducible refine (HC.out _).mono ?_); rintro e w1 ⟨rfl, hb⟩; have HB5 := Aside0.mk (below_trans (by repeat (first | exact HB.out | apply below_alloc | apply pw_below_drewN | refine below_set ?_ (by first | exact Nat.le_refl _ | (simp; done) | (simp; omega)))) hb); clear hb))
        | go_in)
      go_ret
      exact ⟨rfl, by repeat (first | exact HB5.out | apply below_alloc | apply pw_below_drewN)⟩

set_option maxRecDepth 20000 in
set_option maxHeartbeats 8000000 in
theorem vless_branch (l r : Vers) (down : Bool) (h1 : l.rank = 1) (h2 : r.rank = 1) (w : World) :
    Calls Tryz.prog 204 #[l.val, r.val, .bool down] w fun e w' => e = .returned (.bool (lessV down l r)) ∧ Below w.heap.size w w' := by
  have HB := Aside0.mk (Below.refl w.heap.size w)
  rw [← less_bare]
  have HC := Lib.hid (fun W => cvt_at l r (k := 0) (by rw [h1, h2]; exact cmp_nat.refl _) W)
  have c2 := c_branch_pair
  have c5 := c_pair_pair
  have c6 := c_branch_branch
  have c7 := p_branch
  have m1 := m_branch_String
  rcases l with s | (⟨n, d⟩ | s | v) | ⟨(⟨n, d⟩ | s | v), x⟩
  all_goals first | (exfalso; simp [Vers.rank, Unp.rank] at h1; done) | skip
  all_goals
    rcases r with s' | (⟨n', d'⟩ | s' | v') | ⟨(⟨n', d'⟩ | s' | v'), x'⟩
    all_goals first | (exfalso; simp [Vers.rank, Unp.rank] at h2; done) | skip
    all_goals
      clear h1 h2
      dsimp only [Vers.bare]
      rw [less_branch]
      dsimp only [Vers.val, Vers.tid, Vers.inner, Unp.val, Unp.tid, Unp.inner, SV.cells, Vers.bare] at HC ⊢
      rw [← ByteArray.toList_eq, ← ByteArray.toList_eq]
      generalize hbl : Op.bytesLess _ _ = b
      cases d <;> cases d'
      all_goals
        go_enter Tryz.func204, Tryz.ntmps204
        go_wp2_with (first
          | (go_at_call 205; ((with_reducible refine (HC.out _).mono ?_); rintro e w1 ⟨rfl, hb⟩; have HB5 := Aside0.mk (below_trans (by repeat (first | exact HB.out | apply below_alloc | apply pw_below_drewN | refine below_set ?_ (by first | exact Nat.le_refl _ | (simp; done) | (simp; omega)))) hb); clear hb))
          | go_in)
        go_ret
        exact ⟨rfl, by repeat (first | exact HB5.out | apply below_alloc | apply pw_below_drewN)⟩

end Go.Proofs.YtgoeiflddikihaaGreatDoor.Ver
end
