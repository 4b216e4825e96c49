/- Merged by program out of: VOk, VAs, VLess, VLess2, VSemC, VLess3. -/
import Derived.Test.YtgoeiflddikihaaGreatDoorCdM8
import Derived.Lib.ParseIntBCases
import Derived.RegionTactic
import Derived.BigRegion
import Derived.Lib.QuietBelow
section
namespace Go.Proofs.YtgoeiflddikihaaGreatDoor.Ver
open Go.RowKit Go.Proofs.YtgoeiflddikihaaGreatDoor.Dig Go.Proofs.YtgoeiflddikihaaGreatDoorW.PrintWords
theorem numOf_lt {l r : List UInt8} {u : Nat} (h : numOf l = some (u, r)) : u < 18446744073709551616 ∧ r.length ≤ l.length := by
  unfold numOf at h
  split at h
  · cases h
  · split at h
    · rename_i u' hu
      simp at h
      obtain ⟨rfl, rfl⟩ := h
      have := Lib.parseUintB_le hu
      exact ⟨by have e : 2 ^ 64 - 1 = 18446744073709551615 := rfl; omega, by rw [List.length_drop]; omega⟩
    · cases h
theorem nums_ok : ∀ (m : Nat) (acc ns : List Nat) (l r : List UInt8), (∀ x ∈ acc, x < 18446744073709551616) → nums m acc l = some (ns, r) → (∀ x ∈ ns, x < 18446744073709551616) ∧ r.length ≤ l.length
  | 0, _, _, _, _, _, h => by simp [nums] at h
  | m + 1, acc, ns, l, r, ha, h => by
    rw [nums] at h
    split at h
    · cases h
    · rename_i a r' hn
      have hl := numOf_lt hn
      have hb : ∀ x ∈ acc ++ [a], x < 18446744073709551616 := fun x hx => by
        rcases List.mem_append.1 hx with hx | hx
        · exact ha x hx
        · rw [List.mem_singleton] at hx; rw [hx]; exact hl.1
      split at h
      · have := nums_ok m _ _ _ _ hb h
        exact ⟨this.1, by have h2 := this.2; rw [List.length_drop] at h2; omega⟩
      · simp at h
        obtain ⟨rfl, rfl⟩ := h
        exact ⟨hb, hl.2⟩
theorem part_len {c : UInt8} {l p r : List UInt8} (h : part c l = some (p, r)) : p.length ≤ l.length ∧ r.length ≤ l.length := by
  cases l with
  | nil => simp [part] at h; rw [h.1, h.2]; simp
  | cons x q =>
    rw [part] at h
    split at h
    · split at h
      · cases h
      · simp at h
        obtain ⟨rfl, rfl⟩ := h
        rw [List.length_take, List.length_drop, List.length_cons]
        omega
    · simp at h
      obtain ⟨rfl, rfl⟩ := h
      simp
theorem getD_lt {ns : List Nat} (h : ∀ x ∈ ns, x < 18446744073709551616) (i : Nat) : ns.getD i 0 < 18446744073709551616 := by
  rw [List.getD_eq_getElem?_getD]
  cases hx : ns[i]? with
  | none => simp
  | some x => exact h x (List.mem_of_getElem? hx)
theorem readV_ok' {s : ByteArray} {v : SV} {k : Nat} (hs : s.size ≤ 2147483647) (h : readV s = some (v, k)) : SVok v ∧ v.orig = s := by
  have hb := bare0_size s
  unfold readV at h
  split at h
  · cases h
  · rename_i ns r hn
    have h1 := nums_ok 3 [] ns _ r (fun x hx => by cases hx) hn
    split at h
    · cases h
    · rename_i pre r1 hp
      have h2 := part_len hp
      split at h
      · cases h
      · rename_i mt r2 hm
        have h3 := part_len hm
        split at h
        · injection h with h
          injection h with h h'
          subst h
          refine ⟨⟨by simp, ?_, by simp, ?_, by simp, ?_, ?_, ?_⟩, rfl⟩
          · show ((ns.getD 0 0 : Nat) : Int) < _
            have := getD_lt h1.1 0; omega
          · show ((ns.getD 1 0 : Nat) : Int) < _
            have := getD_lt h1.1 1; omega
          · show ((ns.getD 2 0 : Nat) : Int) < _
            have := getD_lt h1.1 2; omega
          · show pre.toArray.size ≤ _
            rw [List.size_toArray]; omega
          · show mt.toArray.size ≤ _
            rw [List.size_toArray]; omega
        · cases h
def Unp.ok : Unp → Prop
  | .branch n _ => n.size ≤ 2147483647
  | .plain n => n.size ≤ 2147483647
  | .sem v => SVok v ∧ v.orig.size ≤ 2147483647
def Vers.ok : Vers → Prop
  | .rev s => s.size ≤ 2147483647
  | .un u => u.ok
  | .pair u r => u.ok ∧ r.size ≤ 2147483647
end Go.Proofs.YtgoeiflddikihaaGreatDoor.Ver
end
section
namespace Go.Proofs.YtgoeiflddikihaaGreatDoor.Ver
open Go.RowKit
theorem c_rev_rev (v : Value) (xT : TypeId) (w : World) : (Instr.typeAssert (.iface 135 v) xT 135 true).run Tryz.prog w = .ok (.tuple #[v, .bool true]) w := by kernel_rfl
theorem c_rev_branch (v : Value) (xT : TypeId) (w : World) : (Instr.typeAssert (.iface 135 v) xT 215 true).run Tryz.prog w = .ok (.tuple #[.agg #[.string ⟨#[]⟩, .bool false], .bool false]) w := by kernel_rfl
theorem c_rev_plain (v : Value) (xT : TypeId) (w : World) : (Instr.typeAssert (.iface 135 v) xT 224 true).run Tryz.prog w = .ok (.tuple #[.string ⟨#[]⟩, .bool false]) w := by kernel_rfl
theorem c_rev_sem (v : Value) (xT : TypeId) (w : World) : (Instr.typeAssert (.iface 135 v) xT 200 true).run Tryz.prog w = .ok (.tuple #[.agg zSV, .bool false]) w := by kernel_rfl
theorem c_rev_pair (v : Value) (xT : TypeId) (w : World) : (Instr.typeAssert (.iface 135 v) xT 212 true).run Tryz.prog w = .ok (.tuple #[.agg #[.nilIface, .string ⟨#[]⟩], .bool false]) w := by kernel_rfl
theorem c_branch_rev (v : Value) (xT : TypeId) (w : World) : (Instr.typeAssert (.iface 215 v) xT 135 true).run Tryz.prog w = .ok (.tuple #[.string ⟨#[]⟩, .bool false]) w := by kernel_rfl
theorem c_branch_branch (v : Value) (xT : TypeId) (w : World) : (Instr.typeAssert (.iface 215 v) xT 215 true).run Tryz.prog w = .ok (.tuple #[v, .bool true]) w := by kernel_rfl
theorem c_branch_plain (v : Value) (xT : TypeId) (w : World) : (Instr.typeAssert (.iface 215 v) xT 224 true).run Tryz.prog w = .ok (.tuple #[.string ⟨#[]⟩, .bool false]) w := by kernel_rfl
theorem c_branch_sem (v : Value) (xT : TypeId) (w : World) : (Instr.typeAssert (.iface 215 v) xT 200 true).run Tryz.prog w = .ok (.tuple #[.agg zSV, .bool false]) w := by kernel_rfl
theorem c_branch_pair (v : Value) (xT : TypeId) (w : World) : (Instr.typeAssert (.iface 215 v) xT 212 true).run Tryz.prog w = .ok (.tuple #[.agg #[.nilIface, .string ⟨#[]⟩], .bool false]) w := by kernel_rfl
theorem c_plain_rev (v : Value) (xT : TypeId) (w : World) : (Instr.typeAssert (.iface 224 v) xT 135 true).run Tryz.prog w = .ok (.tuple #[.string ⟨#[]⟩, .bool false]) w := by kernel_rfl
theorem c_plain_branch (v : Value) (xT : TypeId) (w : World) : (Instr.typeAssert (.iface 224 v) xT 215 true).run Tryz.prog w = .ok (.tuple #[.agg #[.string ⟨#[]⟩, .bool false], .bool false]) w := by kernel_rfl
theorem c_plain_plain (v : Value) (xT : TypeId) (w : World) : (Instr.typeAssert (.iface 224 v) xT 224 true).run Tryz.prog w = .ok (.tuple #[v, .bool true]) w := by kernel_rfl
theorem c_plain_sem (v : Value) (xT : TypeId) (w : World) : (Instr.typeAssert (.iface 224 v) xT 200 true).run Tryz.prog w = .ok (.tuple #[.agg zSV, .bool false]) w := by kernel_rfl
theorem c_plain_pair (v : Value) (xT : TypeId) (w : World) : (Instr.typeAssert (.iface 224 v) xT 212 true).run Tryz.prog w = .ok (.tuple #[.agg #[.nilIface, .string ⟨#[]⟩], .bool false]) w := by kernel_rfl
theorem c_sem_rev (v : Value) (xT : TypeId) (w : World) : (Instr.typeAssert (.iface 200 v) xT 135 true).run Tryz.prog w = .ok (.tuple #[.string ⟨#[]⟩, .bool false]) w := by kernel_rfl
theorem c_sem_branch (v : Value) (xT : TypeId) (w : World) : (Instr.typeAssert (.iface 200 v) xT 215 true).run Tryz.prog w = .ok (.tuple #[.agg #[.string ⟨#[]⟩, .bool false], .bool false]) w := by kernel_rfl
theorem c_sem_plain (v : Value) (xT : TypeId) (w : World) : (Instr.typeAssert (.iface 200 v) xT 224 true).run Tryz.prog w = .ok (.tuple #[.string ⟨#[]⟩, .bool false]) w := by kernel_rfl
theorem c_sem_sem (v : Value) (xT : TypeId) (w : World) : (Instr.typeAssert (.iface 200 v) xT 200 true).run Tryz.prog w = .ok (.tuple #[v, .bool true]) w := by kernel_rfl
theorem c_sem_pair (v : Value) (xT : TypeId) (w : World) : (Instr.typeAssert (.iface 200 v) xT 212 true).run Tryz.prog w = .ok (.tuple #[.agg #[.nilIface, .string ⟨#[]⟩], .bool false]) w := by kernel_rfl
theorem c_pair_rev (v : Value) (xT : TypeId) (w : World) : (Instr.typeAssert (.iface 212 v) xT 135 true).run Tryz.prog w = .ok (.tuple #[.string ⟨#[]⟩, .bool false]) w := by kernel_rfl
theorem c_pair_pair (v : Value) (xT : TypeId) (w : World) : (Instr.typeAssert (.iface 212 v) xT 212 true).run Tryz.prog w = .ok (.tuple #[v, .bool true]) w := by kernel_rfl
theorem c_range_sv (v : Value) (xT : TypeId) (w : World) : (Instr.typeAssert (.iface 238 v) xT 197 true).run Tryz.prog w = .ok (.tuple #[.agg zSV, .bool false]) w := by kernel_rfl
theorem c_range_range (v : Value) (xT : TypeId) (w : World) : (Instr.typeAssert (.iface 238 v) xT 238 true).run Tryz.prog w = .ok (.tuple #[v, .bool true]) w := by kernel_rfl
end Go.Proofs.YtgoeiflddikihaaGreatDoor.Ver
end
section
namespace Go.Proofs.YtgoeiflddikihaaGreatDoor.Ver
open Go.RowKit Go.Proofs.YtgoeiflddikihaaGreatDoorW.PrintWords Go.Proofs.YtgoeiflddikihaaGreatDoor.Ord
set_option maxHeartbeats 2000000 in
theorem cvt_any (l r : Vers) (hl : l.bare = l) (hr : r.bare = r) (w : World) :
    Calls Tryz.prog 205 #[l.val, r.val] w fun e w' => e = .returned (.int .i64 (natC l.rank r.rank)) ∧ Below w.heap.size w w' := by
  have c_rev_rev := c_rev_rev
  have c_rev_plain := c_rev_plain
  have c_rev_branch := c_rev_branch
  have c_rev_sem := c_rev_sem
  have c_plain_rev := c_plain_rev
  have c_plain_plain := c_plain_plain
  have c_plain_branch := c_plain_branch
  have c_plain_sem := c_plain_sem
  have c_branch_rev := c_branch_rev
  have c_branch_plain := c_branch_plain
  have c_branch_branch := c_branch_branch
  have c_branch_sem := c_branch_sem
  have c_sem_rev := c_sem_rev
  have c_sem_plain := c_sem_plain
  have c_sem_branch := c_sem_branch
  have c_sem_sem := c_sem_sem
  have HB := Aside0.mk (Below.refl w.heap.size w)
  rcases l with s | (⟨n, d⟩ | s | v) | ⟨u, x⟩
  all_goals first | (exfalso; cases hl; done) | skip
  all_goals
    rcases r with s' | (⟨n', d'⟩ | s' | v') | ⟨u, x⟩
    all_goals first | (exfalso; cases hr; done) | skip
    all_goals
      clear hl hr
      dsimp only [Vers.val, Vers.tid, Vers.inner, Unp.val, Unp.tid, Unp.inner, SV.cells, Vers.rank, Unp.rank]
      go_enter Tryz.func205, Tryz.ntmps205
      go_wp2_with fail
      go_ret
      exact ⟨rfl, by repeat (first | exact HB.out | apply below_alloc | apply pw_below_drewN)⟩
theorem p_branch (v : Value) (xT : TypeId) (w : World) : (Instr.typeAssert (.iface 215 v) xT 215 false).run Tryz.prog w = .ok v w := by kernel_rfl
theorem p_sem (v : Value) (xT : TypeId) (w : World) : (Instr.typeAssert (.iface 200 v) xT 200 false).run Tryz.prog w = .ok v w := by kernel_rfl
theorem bare_bare (l : Vers) : l.bare.bare = l.bare := by rcases l with _ | _ | _ <;> rfl
theorem cvt_at (l r : Vers) {k : Int} (hk : natC l.rank r.rank = k) (w : World) :
    Calls Tryz.prog 205 #[l.bare.val, r.bare.val] w fun e w' => e = .returned (.int .i64 k) ∧ Below w.heap.size w w' := by
  have h := cvt_any l.bare r.bare (bare_bare l) (bare_bare r) w
  have e1 : l.bare.rank = l.rank := by rcases l with s | u | ⟨u, x⟩ <;> rfl
  have e2 : r.bare.rank = r.rank := by rcases r with s | u | ⟨u, x⟩ <;> rfl
  rw [e1, e2, hk] at h
  exact h
set_option maxRecDepth 20000 in
set_option maxHeartbeats 8000000 in
theorem vless_rank (l r : Vers) (down : Bool) (hne : l.rank ≠ r.rank) (w : World) :
    Calls Tryz.prog 204 #[l.val, r.val, .bool down] w fun e w' => e = .returned (.bool (lessV down l r)) ∧ Below w.heap.size w w' := by
  have HB := Aside0.mk (Below.refl w.heap.size w)
  rw [less_rank hne]
  have cp1 := c_rev_pair
  have cp2 := c_branch_pair
  have cp3 := c_plain_pair
  have cp4 := c_sem_pair
  have cp5 := c_pair_pair
  rcases Nat.lt_or_gt_of_ne hne with hlt | hgt
  · have HC := Lib.hid (fun W => cvt_at l r (k := -1) (by unfold natC; rw [if_pos hlt]) W)
    rw [decide_eq_true hlt]
    rcases l with s | (⟨n, d⟩ | s | v) | ⟨(⟨n, d⟩ | s | v), x⟩
    all_goals
      rcases r with s' | (⟨n', d'⟩ | s' | v') | ⟨(⟨n', d'⟩ | s' | v'), x'⟩
      all_goals first | (exfalso; simp [Vers.rank, Unp.rank] at hlt; done) | skip
      all_goals
        clear hlt hne
        dsimp only [Vers.val, Vers.tid, Vers.inner, Unp.val, Unp.tid, Unp.inner, SV.cells, Vers.bare] at HC ⊢
        go_enter Tryz.func204, Tryz.ntmps204
        go_wp2_with (first
          | (go_at_call 205; ((with_reducible refine (HC.out _).mono ?_); rintro e w1 ⟨rfl, hb⟩; have HB5 := Aside0.mk (below_trans (by repeat (first | exact HB.out | apply below_alloc | apply pw_below_drewN | refine below_set ?_ (by first | exact Nat.le_refl _ | (simp; done) | (simp; omega)))) hb); clear hb)))
        go_ret
        exact ⟨rfl, by repeat (first | exact HB5.out | apply below_alloc | apply pw_below_drewN)⟩
  · have HC := Lib.hid (fun W => cvt_at l r (k := 1) (by unfold natC; rw [if_neg (by omega), if_pos hgt]) W)
    rw [decide_eq_false (by omega)]
    rcases l with s | (⟨n, d⟩ | s | v) | ⟨(⟨n, d⟩ | s | v), x⟩
    all_goals
      rcases r with s' | (⟨n', d'⟩ | s' | v') | ⟨(⟨n', d'⟩ | s' | v'), x'⟩
      all_goals first | (exfalso; simp [Vers.rank, Unp.rank] at hgt; done) | skip
      all_goals
        clear hgt hne
        dsimp only [Vers.val, Vers.tid, Vers.inner, Unp.val, Unp.tid, Unp.inner, SV.cells, Vers.bare] at HC ⊢
        go_enter Tryz.func204, Tryz.ntmps204
        go_wp2_with (first
          | (go_at_call 205; ((with_reducible refine (HC.out _).mono ?_); rintro e w1 ⟨rfl, hb⟩; have HB5 := Aside0.mk (below_trans (by repeat (first | exact HB.out | apply below_alloc | apply pw_below_drewN | refine below_set ?_ (by first | exact Nat.le_refl _ | (simp; done) | (simp; omega)))) hb); clear hb)))
        go_ret
        exact ⟨rfl, by repeat (first | exact HB5.out | apply below_alloc | apply pw_below_drewN)⟩
end Go.Proofs.YtgoeiflddikihaaGreatDoor.Ver
end
section
namespace Go.Proofs.YtgoeiflddikihaaGreatDoor.Ver
open Go.RowKit Go.Proofs.YtgoeiflddikihaaGreatDoorW.PrintWords Go.Proofs.YtgoeiflddikihaaGreatDoor.Ord
set_option maxRecDepth 20000 in
set_option maxHeartbeats 8000000 in
theorem vless_name (l r : Vers) (down : Bool) (hr : l.rank = r.rank) (h2 : 2 ≤ l.rank) (w : World) :
    Calls Tryz.prog 204 #[l.val, r.val, .bool down] w fun e w' => e = .returned (.bool (lessV down l r)) ∧ Below w.heap.size w w' := by
  have HB := Aside0.mk (Below.refl w.heap.size w)
  rw [← less_bare]
  have HC := Lib.hid (fun W => cvt_at l r (k := 0) (by rw [hr]; exact cmp_nat.refl _) W)
  have c1 := c_rev_pair
  have c2 := c_branch_pair
  have c3 := c_plain_pair
  have c5 := c_pair_pair
  have c6 := c_rev_branch
  have c7 := c_rev_rev
  have c8 := c_rev_plain
  have c9 := c_plain_branch
  have c10 := c_plain_rev
  have c11 := c_plain_plain
  have m1 := m_rev_String
  have m2 := m_plain_String
  rcases l with s | (⟨n, d⟩ | s | v) | ⟨(⟨n, d⟩ | s | v), x⟩
  all_goals first | (exfalso; simp [Vers.rank, Unp.rank] at h2; done) | skip
  all_goals
    rcases r with s' | (⟨n', d'⟩ | s' | v') | ⟨(⟨n', d'⟩ | s' | v'), x'⟩
    all_goals first | (exfalso; simp [Vers.rank, Unp.rank] at hr; done) | skip
    all_goals
      clear h2 hr
      dsimp only [Vers.bare]
      first | rw [less_rev] | rw [less_plain]
      dsimp only [Vers.val, Vers.tid, Vers.inner, Unp.val, Unp.tid, Unp.inner, SV.cells, Vers.bare] at HC ⊢
      rw [← ByteArray.toList_eq, ← ByteArray.toList_eq]
      generalize hbl : Op.bytesLess _ _ = b
      go_enter Tryz.func204, Tryz.ntmps204
      go_wp2_with (first
        | (go_at_call 205; ((with_reducible refine (HC.out _).mono ?_); rintro e w1 ⟨rfl, hb⟩; have HB5 := Aside0.mk (below_trans (by repeat (first | exact HB.out | apply below_alloc | apply pw_below_drewN | refine below_set ?_ (by first | exact Nat.le_refl _ | (simp; done) | (simp; omega)))) hb); clear hb))
        | go_in)
      go_ret
      exact ⟨rfl, by repeat (first | exact HB5.out | apply below_alloc | apply pw_below_drewN)⟩
set_option maxRecDepth 20000 in
set_option maxHeartbeats 8000000 in
theorem vless_branch (l r : Vers) (down : Bool) (h1 : l.rank = 1) (h2 : r.rank = 1) (w : World) :
    Calls Tryz.prog 204 #[l.val, r.val, .bool down] w fun e w' => e = .returned (.bool (lessV down l r)) ∧ Below w.heap.size w w' := by
  have HB := Aside0.mk (Below.refl w.heap.size w)
  rw [← less_bare]
  have HC := Lib.hid (fun W => cvt_at l r (k := 0) (by rw [h1, h2]; exact cmp_nat.refl _) W)
  have c2 := c_branch_pair
  have c5 := c_pair_pair
  have c6 := c_branch_branch
  have c7 := p_branch
  have m1 := m_branch_String
  rcases l with s | (⟨n, d⟩ | s | v) | ⟨(⟨n, d⟩ | s | v), x⟩
  all_goals first | (exfalso; simp [Vers.rank, Unp.rank] at h1; done) | skip
  all_goals
    rcases r with s' | (⟨n', d'⟩ | s' | v') | ⟨(⟨n', d'⟩ | s' | v'), x'⟩
    all_goals first | (exfalso; simp [Vers.rank, Unp.rank] at h2; done) | skip
    all_goals
      clear h1 h2
      dsimp only [Vers.bare]
      rw [less_branch]
      dsimp only [Vers.val, Vers.tid, Vers.inner, Unp.val, Unp.tid, Unp.inner, SV.cells, Vers.bare] at HC ⊢
      rw [← ByteArray.toList_eq, ← ByteArray.toList_eq]
      generalize hbl : Op.bytesLess _ _ = b
      cases d <;> cases d'
      all_goals
        go_enter Tryz.func204, Tryz.ntmps204
        go_wp2_with (first
          | (go_at_call 205; ((with_reducible refine (HC.out _).mono ?_); rintro e w1 ⟨rfl, hb⟩; have HB5 := Aside0.mk (below_trans (by repeat (first | exact HB.out | apply below_alloc | apply pw_below_drewN | refine below_set ?_ (by first | exact Nat.le_refl _ | (simp; done) | (simp; omega)))) hb); clear hb))
          | go_in)
        go_ret
        exact ⟨rfl, by repeat (first | exact HB5.out | apply below_alloc | apply pw_below_drewN)⟩
end Go.Proofs.YtgoeiflddikihaaGreatDoor.Ver
end
section
namespace Go.Proofs.YtgoeiflddikihaaGreatDoor.Ver
open Go.RowKit Go.Proofs.YtgoeiflddikihaaGreatDoorW.PrintWords Go.Proofs.YtgoeiflddikihaaGreatDoor.Ord
set_option maxHeartbeats 2000000 in
theorem less_any (v u : SV) (hv : v.pre.size ≤ 140737488351232) (hu : u.pre.size ≤ 140737488351232) (w : World) :
    Calls Tryz.prog 207 #[.agg v.cells, .agg u.cells] w fun e w' => e = .returned (.bool (decide (cmpV v u < 0))) ∧ Below w.heap.size w w' := by
  have HC := Lib.hid (fun W => cmp_any v u hv hu W)
  have HB := Aside0.mk (Below.refl w.heap.size w)
  generalize cmpV v u = c at *
  obtain ⟨va, vb, vc, vp, vm, vo⟩ := v
  obtain ⟨ua, ub, uc, up, um, uo⟩ := u
  dsimp only [SV.cells] at HC hv hu ⊢
  go_enter Tryz.func207, Tryz.ntmps207
  go_wp2_with (first
    | (go_at_call 209; ((with_reducible refine (HC.out _).mono ?_); rintro e w1 ⟨rfl, hb⟩; have HB5 := Aside0.mk (below_trans (by repeat (first | exact HB.out | apply below_alloc | apply pw_below_drewN)) hb); clear hb)))
  go_ret
  exact ⟨rfl, by repeat (first | exact HB5.out | apply below_alloc | apply pw_below_drewN)⟩
set_option maxHeartbeats 2000000 in
theorem more_any (v u : SV) (hv : v.pre.size ≤ 140737488351232) (hu : u.pre.size ≤ 140737488351232) (w : World) :
    Calls Tryz.prog 208 #[.agg v.cells, .agg u.cells] w fun e w' => e = .returned (.bool (decide (cmpV v u > 0))) ∧ Below w.heap.size w w' := by
  have HC := Lib.hid (fun W => cmp_any v u hv hu W)
  have HB := Aside0.mk (Below.refl w.heap.size w)
  generalize cmpV v u = c at *
  obtain ⟨va, vb, vc, vp, vm, vo⟩ := v
  obtain ⟨ua, ub, uc, up, um, uo⟩ := u
  dsimp only [SV.cells] at HC hv hu ⊢
  go_enter Tryz.func208, Tryz.ntmps208
  go_wp2_with (first
    | (go_at_call 209; ((with_reducible refine (HC.out _).mono ?_); rintro e w1 ⟨rfl, hb⟩; have HB5 := Aside0.mk (below_trans (by repeat (first | exact HB.out | apply below_alloc | apply pw_below_drewN)) hb); clear hb)))
  go_ret
  exact ⟨rfl, by repeat (first | exact HB5.out | apply below_alloc | apply pw_below_drewN)⟩
theorem prerel_any (v : SV) (w : World) :
    Calls Tryz.prog 206 #[.agg v.cells] w fun e w' => e = .returned (.string v.pre) ∧ Below w.heap.size w w' := by
  have HB := Aside0.mk (Below.refl w.heap.size w)
  obtain ⟨va, vb, vc, vp, vm, vo⟩ := v
  dsimp only [SV.cells]
  go_enter Tryz.func206, Tryz.ntmps206
  go_wp2_with fail
  go_ret
  exact ⟨rfl, by repeat (first | exact HB.out | apply below_alloc | apply pw_below_drewN)⟩
end Go.Proofs.YtgoeiflddikihaaGreatDoor.Ver
end
section
namespace Go.Proofs.YtgoeiflddikihaaGreatDoor.Ver
open Go.RowKit Go.Proofs.YtgoeiflddikihaaGreatDoorW.PrintWords Go.Proofs.YtgoeiflddikihaaGreatDoor.Ord
theorem at_two (w : World) (a b : Obj) : ((w.alloc a).alloc b).heap[w.heap.size + 1]? = some b := by
  have := alloc_at (w.alloc a) b
  rw [alloc_size] at this
  exact this
theorem fld_sem (a b c : Int) (p m o : ByteArray) (W : World) : (Instr.field 200 (.agg #[.int .u64 a, .int .u64 b, .int .u64 c, .string p, .string m, .string o]) 0).run Tryz.prog W = .ok (.agg #[.int .u64 a, .int .u64 b, .int .u64 c, .string p, .string m, .string o]) W := by kernel_rfl
set_option maxRecDepth 20000 in
set_option maxHeartbeats 8000000 in
theorem vless_sem (l r : Vers) (v u : SV) (hl : l.bare = .un (.sem v)) (hr : r.bare = .un (.sem u)) (hv : v.pre.size ≤ 140737488351232) (hu : u.pre.size ≤ 140737488351232) (down : Bool) (w : World) :
    Calls Tryz.prog 204 #[l.val, r.val, .bool down] w fun e w' => e = .returned (.bool (lessV down l r)) ∧ Below w.heap.size w w' := by
  have HB := Aside0.mk (Below.refl w.heap.size w)
  have h1 : l.rank = 0 := by rcases l with s | (⟨n, d⟩ | s | v) | ⟨(⟨n, d⟩ | s | v), x⟩ <;> first | rfl | cases hl
  have h2 : r.rank = 0 := by rcases r with s | (⟨n, d⟩ | s | v) | ⟨(⟨n, d⟩ | s | v), x⟩ <;> first | rfl | cases hr
  rw [← less_bare]
  have HC := Lib.hid (fun W => cvt_at l r (k := 0) (by rw [h1, h2]; exact cmp_nat.refl _) W)
  rw [hl, hr, less_sem] 
  rw [hl, hr] at HC
  have PV : ∀ (W : World) d os, Calls Tryz.prog 206 #[.agg v.cells] (Sort.grow (redrawn W d) os) fun e w'' => e = .returned (.string v.pre) ∧ ∃ p : Regrown, w'' = Sort.grow (redrawn W p.d) p.os := fun W d os => Calls.regrown_of (prerel_any v _)
  have PU : ∀ (W : World) d os, Calls Tryz.prog 206 #[.agg u.cells] (Sort.grow (redrawn W d) os) fun e w'' => e = .returned (.string u.pre) ∧ ∃ p : Regrown, w'' = Sort.grow (redrawn W p.d) p.os := fun W d os => Calls.regrown_of (prerel_any u _)
  have HL := Lib.hid (fun W => less_any v u hv hu W)
  have HM := Lib.hid (fun W => more_any v u hv hu W)
  rw [← ByteArray.toList_eq, ← ByteArray.toList_eq]
  generalize hres : (if v.pre.toList.isEmpty = u.pre.toList.isEmpty then (if down = true then decide (cmpV v u < 0) else decide (cmpV v u > 0)) else v.pre.toList.isEmpty) = res
  have HRES := Lib.hid hres
  clear hres
  generalize cmpV v u = c at *
  have c1 := c_sem_pair
  have c2 := c_pair_pair
  have c3 := c_sem_branch
  have c4 := c_sem_rev
  have c5 := c_sem_plain
  have c6 := p_sem
  have c7 := fld_sem
  obtain ⟨va, vb, vc, vp, vm, vo⟩ := v
  obtain ⟨ua, ub, uc, up, um, uo⟩ := u
  dsimp only at hv hu HRES
  have hl' : l = .un (.sem ⟨va, vb, vc, vp, vm, vo⟩) ∨ ∃ x, l = .pair (.sem ⟨va, vb, vc, vp, vm, vo⟩) x := by
    rcases l with s | (⟨n, d⟩ | s | v) | ⟨(⟨n, d⟩ | s | v), x⟩ <;> first | (cases hl; done) | (injection hl with e; injection e with e; subst e; first | exact Or.inl rfl | exact Or.inr ⟨_, rfl⟩)
  have hr' : r = .un (.sem ⟨ua, ub, uc, up, um, uo⟩) ∨ ∃ x, r = .pair (.sem ⟨ua, ub, uc, up, um, uo⟩) x := by
    rcases r with s | (⟨n, d⟩ | s | v) | ⟨(⟨n, d⟩ | s | v), x⟩ <;> first | (cases hr; done) | (injection hr with e; injection e with e; subst e; first | exact Or.inl rfl | exact Or.inr ⟨_, rfl⟩)
  clear hl hr h1 h2
  rcases hl' with rfl | ⟨x, rfl⟩
  all_goals
    rcases hr' with rfl | ⟨x', rfl⟩
    all_goals
      dsimp only [Vers.val, Vers.tid, Vers.inner, Unp.val, Unp.tid, Unp.inner, SV.cells, Vers.bare] at HC PV PU HL HM ⊢
      have QV := Lib.hid PV
      have QU := Lib.hid PU
      clear PV PU
      go_enter Tryz.func204, Tryz.ntmps204
      go_upto_region 24 with (first
          | (go_at_call 205; ((with_reducible refine (HC.out _).mono ?_); rintro e w1 ⟨rfl, hb⟩; have HB5 := Aside0.mk (below_trans (by repeat (first | exact HB.out | apply below_alloc | apply pw_below_drewN | refine below_set ?_ (by first | exact Nat.le_refl _ | (simp; done) | (simp; omega)))) hb); clear hb)))
      go_cut [14, 15] (fun v14 v15 wx => ∃ g h : Nat, v14 = .pointer (some ⟨g, 0, none⟩) ∧ v15 = .pointer (some ⟨h, 0, none⟩) ∧ Aside0 (wx.heap[g]? = some (bSV va vb vc vp vm vo)) ∧ Aside0 (wx.heap[h]? = some (bSV ua ub uc up um uo)) ∧ Aside0 (Below w.heap.size w wx))
      case first =>
        go_region
        all_goals
          go_wp2_with fail
          go_meet
          case rel =>
            refine ⟨_, _, rfl, rfl, ⟨?_⟩, ⟨?_⟩, ⟨?_⟩⟩
            · first | exact blk_drew (blk_alloc (alloc_at w1 _) _) | exact blk_drew (at_two w1 _ _)
            · first | exact blk_drew (blk_alloc (alloc_at w1 _) _) | exact blk_drew (at_two w1 _ _)
            · exact below_drew (below_alloc (below_alloc HB5.out _) _)
      case rest =>
        obtain ⟨g, h, rfl, rfl, HG, HH, HB6⟩ := hcut
        have k0 := cell_regrown (blk_cell HG.out 0)
        have j0 := cell_regrown (blk_cell HH.out 0)
        have k1 := cell_regrown (blk_cell HG.out 1)
        have j1 := cell_regrown (blk_cell HH.out 1)
        have k2 := cell_regrown (blk_cell HG.out 2)
        have j2 := cell_regrown (blk_cell HH.out 2)
        have k3 := cell_regrown (blk_cell HG.out 3)
        have j3 := cell_regrown (blk_cell HH.out 3)
        have k4 := cell_regrown (blk_cell HG.out 4)
        have j4 := cell_regrown (blk_cell HH.out 4)
        have k5 := cell_regrown (blk_cell HG.out 5)
        have j5 := cell_regrown (blk_cell HH.out 5)
        go_wp2_with fail
        refine wp_region_quiet_below (by kernel_rfl) (by kernel_rfl) ?_
        repeat (quiet_step (first | exact QV.out _ _ _ | exact QU.out _ _ _))
        refine wpQuiet_nil ?_
        intro _ hw'
        obtain ⟨⟨dq, osq⟩, hw''⟩ := hw'
        subst hw''
        have HB7 := Aside0.mk (below_trans HB6.out (below_regrown _ dq osq))
        have z0 := k0 dq osq
        have y0 := j0 dq osq
        clear k0 j0
        have z1 := k1 dq osq
        have y1 := j1 dq osq
        clear k1 j1
        have z2 := k2 dq osq
        have y2 := j2 dq osq
        clear k2 j2
        have z3 := k3 dq osq
        have y3 := j3 dq osq
        clear k3 j3
        have z4 := k4 dq osq
        have y4 := j4 dq osq
        clear k4 j4
        have z5 := k5 dq osq
        have y5 := j5 dq osq
        clear k5 j5
        cases ha : vp.toList.isEmpty <;> cases hb : up.toList.isEmpty <;> cases down
        all_goals
          go_wp2_with (first
            | (go_at_call 207; ((with_reducible refine (HL.out _).mono ?_); rintro e w8 ⟨rfl, hb8⟩; have HB8 := Aside0.mk (below_trans HB7.out hb8); clear hb8))
            | (go_at_call 208; ((with_reducible refine (HM.out _).mono ?_); rintro e w8 ⟨rfl, hb8⟩; have HB8 := Aside0.mk (below_trans HB7.out hb8); clear hb8)))
          go_ret
          exact ⟨by rw [← HRES.out]; simp [ha, hb], by repeat (first | exact HB8.out | exact HB7.out | apply below_alloc | apply pw_below_drewN)⟩
end Go.Proofs.YtgoeiflddikihaaGreatDoor.Ver
end
