/- Merged by program out of: Back. -/
import Derived.Test.YtgoeiflddikihaaGreatDoorCsgM19
import Derived.Test.YtgoeiflddikihaaGreatDoorCsgM7
section
namespace Go.Proofs.YtgoeiflddikihaaGreatDoor.Ver
set_option linter.unusedSimpArgs false
open Go.RowKit Go.Proofs.YtgoeiflddikihaaGreatDoorW.PrintWords
def Unp.kind : Unp → Int
  | .branch _ d => if d then 2 else 1
  | _ => 3
def Unp.word : Unp → ByteArray
  | .branch n _ => n
  | .plain n => n
  | .sem v => v.orig
def backV : Vers → Value
  | .rev s => .agg #[.int .i64 0, .string s, .string ⟨#[]⟩]
  | .un u => .agg #[.int .i64 u.kind, .string u.word, .string ⟨#[]⟩]
  | .pair u r => .agg #[.int .i64 u.kind, .string u.word, .string r]
set_option maxHeartbeats 2000000 in
theorem back_rev (s : ByteArray) (w : World) : Calls Tryz.prog 78 #[Vers.val (.rev s)] w fun e w' => e = .returned (backV (.rev s)) ∧ Below w.heap.size w w' := by
  have HB := Aside0.mk (Below.refl w.heap.size w)
  have q0 := c_rev_rev
  have q1 := c_rev_pair
  have q2 := m_rev_String
  have q3 := m_rev_Type
  dsimp only [Vers.val, Vers.tid, Vers.inner, Unp.val, Unp.tid, Unp.inner, SV.cells] at *
  go_enter Tryz.func78, Tryz.ntmps78
  go_wp2
  refine bodyPost_ret (v := .agg #[.int .i64 0, .string s, .string ⟨#[]⟩]) (by simp [results, Tryz.results78, go_sem, *]) rfl ⟨rfl, ?_⟩
  repeat (first | exact HB.out | apply below_alloc | apply pw_below_drewN | (refine below_set ?_ (by first | exact Nat.le_refl _ | (simp; done) | (simp; omega))))
set_option maxHeartbeats 2000000 in
theorem back_branchF (n : ByteArray) (w : World) : Calls Tryz.prog 78 #[Vers.val (.un (.branch n false))] w fun e w' => e = .returned (backV (.un (.branch n false))) ∧ Below w.heap.size w w' := by
  have HB := Aside0.mk (Below.refl w.heap.size w)
  have q0 := c_branch_rev
  have q1 := c_branch_pair
  have q2 := a_branch_P
  have q3 := c_branch_branch
  have q4 := m_branch_String
  have q5 := m_branch_Type
  dsimp only [Vers.val, Vers.tid, Vers.inner, Unp.val, Unp.tid, Unp.inner, SV.cells] at *
  go_enter Tryz.func78, Tryz.ntmps78
  go_wp2
  refine bodyPost_ret (v := .agg #[.int .i64 1, .string n, .string ⟨#[]⟩]) (by simp [results, Tryz.results78, go_sem, *]) rfl ⟨rfl, ?_⟩
  repeat (first | exact HB.out | apply below_alloc | apply pw_below_drewN | (refine below_set ?_ (by first | exact Nat.le_refl _ | (simp; done) | (simp; omega))))
set_option maxHeartbeats 2000000 in
theorem back_branchT (n : ByteArray) (w : World) : Calls Tryz.prog 78 #[Vers.val (.un (.branch n true))] w fun e w' => e = .returned (backV (.un (.branch n true))) ∧ Below w.heap.size w w' := by
  have HB := Aside0.mk (Below.refl w.heap.size w)
  have q0 := c_branch_rev
  have q1 := c_branch_pair
  have q2 := a_branch_P
  have q3 := c_branch_branch
  have q4 := m_branch_String
  have q5 := m_branch_Type
  dsimp only [Vers.val, Vers.tid, Vers.inner, Unp.val, Unp.tid, Unp.inner, SV.cells] at *
  go_enter Tryz.func78, Tryz.ntmps78
  go_wp2
  refine bodyPost_ret (v := .agg #[.int .i64 2, .string n, .string ⟨#[]⟩]) (by simp [results, Tryz.results78, go_sem, *]) rfl ⟨rfl, ?_⟩
  repeat (first | exact HB.out | apply below_alloc | apply pw_below_drewN | (refine below_set ?_ (by first | exact Nat.le_refl _ | (simp; done) | (simp; omega))))
set_option maxHeartbeats 2000000 in
theorem back_plain (n : ByteArray) (w : World) : Calls Tryz.prog 78 #[Vers.val (.un (.plain n))] w fun e w' => e = .returned (backV (.un (.plain n))) ∧ Below w.heap.size w w' := by
  have HB := Aside0.mk (Below.refl w.heap.size w)
  have q0 := c_plain_rev
  have q1 := c_plain_pair
  have q2 := a_plain_P
  have q3 := m_plain_String
  have q4 := m_plain_Type
  dsimp only [Vers.val, Vers.tid, Vers.inner, Unp.val, Unp.tid, Unp.inner, SV.cells] at *
  go_enter Tryz.func78, Tryz.ntmps78
  go_wp2
  refine bodyPost_ret (v := .agg #[.int .i64 3, .string n, .string ⟨#[]⟩]) (by simp [results, Tryz.results78, go_sem, *]) rfl ⟨rfl, ?_⟩
  repeat (first | exact HB.out | apply below_alloc | apply pw_below_drewN | (refine below_set ?_ (by first | exact Nat.le_refl _ | (simp; done) | (simp; omega))))
set_option maxHeartbeats 2000000 in
theorem back_sem (v : SV) (ho : v.orig ≠ ⟨#[]⟩) (w : World) : Calls Tryz.prog 78 #[Vers.val (.un (.sem v))] w fun e w' => e = .returned (backV (.un (.sem v))) ∧ Below w.heap.size w w' := by
  have HB := Aside0.mk (Below.refl w.heap.size w)
  have hem : v.orig.toList.isEmpty = false := isEmpty_false (size_pos ho)
  clear ho
  obtain ⟨va, vb, vc, vp, vm, vo⟩ := v
  have q0 := c_sem_rev
  have q1 := c_sem_pair
  have q2 := a_sem_P
  have q3 := m_sem_String
  have q4 := m_sem_Type
  dsimp only [Vers.val, Vers.tid, Vers.inner, Unp.val, Unp.tid, Unp.inner, SV.cells] at *
  go_enter Tryz.func78, Tryz.ntmps78
  go_wp2
  refine bodyPost_ret (v := .agg #[.int .i64 3, .string vo, .string ⟨#[]⟩]) (by simp [results, Tryz.results78, go_sem, *]) rfl ⟨rfl, ?_⟩
  repeat (first | exact HB.out | apply below_alloc | apply pw_below_drewN | (refine below_set ?_ (by first | exact Nat.le_refl _ | (simp; done) | (simp; omega))))
set_option maxHeartbeats 2000000 in
theorem back_pbranchF (n q : ByteArray) (w : World) : Calls Tryz.prog 78 #[Vers.val (.pair (.branch n false) q)] w fun e w' => e = .returned (backV (.pair (.branch n false) q)) ∧ Below w.heap.size w w' := by
  have HB := Aside0.mk (Below.refl w.heap.size w)
  have q0 := c_pair_rev
  have q1 := c_pair_pair
  have q2 := a_pair_P
  have q3 := m_pair_Revision
  have q4 := m_pair_String
  have q5 := m_pair_Type
  have q6 := m_branch_String
  have q7 := m_branch_Type
  have q8 := c_branch_branch
  dsimp only [Vers.val, Vers.tid, Vers.inner, Unp.val, Unp.tid, Unp.inner, SV.cells] at *
  go_enter Tryz.func78, Tryz.ntmps78
  go_wp2
  refine bodyPost_ret (v := .agg #[.int .i64 1, .string n, .string q]) (by simp [results, Tryz.results78, go_sem, *]) rfl ⟨rfl, ?_⟩
  repeat (first | exact HB.out | apply below_alloc | apply pw_below_drewN | (refine below_set ?_ (by first | exact Nat.le_refl _ | (simp; done) | (simp; omega))))
set_option maxHeartbeats 2000000 in
theorem back_pbranchT (n q : ByteArray) (w : World) : Calls Tryz.prog 78 #[Vers.val (.pair (.branch n true) q)] w fun e w' => e = .returned (backV (.pair (.branch n true) q)) ∧ Below w.heap.size w w' := by
  have HB := Aside0.mk (Below.refl w.heap.size w)
  have q0 := c_pair_rev
  have q1 := c_pair_pair
  have q2 := a_pair_P
  have q3 := m_pair_Revision
  have q4 := m_pair_String
  have q5 := m_pair_Type
  have q6 := m_branch_String
  have q7 := m_branch_Type
  have q8 := c_branch_branch
  dsimp only [Vers.val, Vers.tid, Vers.inner, Unp.val, Unp.tid, Unp.inner, SV.cells] at *
  go_enter Tryz.func78, Tryz.ntmps78
  go_wp2
  refine bodyPost_ret (v := .agg #[.int .i64 2, .string n, .string q]) (by simp [results, Tryz.results78, go_sem, *]) rfl ⟨rfl, ?_⟩
  repeat (first | exact HB.out | apply below_alloc | apply pw_below_drewN | (refine below_set ?_ (by first | exact Nat.le_refl _ | (simp; done) | (simp; omega))))
set_option maxHeartbeats 2000000 in
theorem back_pplain (n q : ByteArray) (w : World) : Calls Tryz.prog 78 #[Vers.val (.pair (.plain n) q)] w fun e w' => e = .returned (backV (.pair (.plain n) q)) ∧ Below w.heap.size w w' := by
  have HB := Aside0.mk (Below.refl w.heap.size w)
  have q0 := c_pair_rev
  have q1 := c_pair_pair
  have q2 := a_pair_P
  have q3 := m_pair_Revision
  have q4 := m_pair_String
  have q5 := m_pair_Type
  have q6 := m_plain_String
  have q7 := m_plain_Type
  dsimp only [Vers.val, Vers.tid, Vers.inner, Unp.val, Unp.tid, Unp.inner, SV.cells] at *
  go_enter Tryz.func78, Tryz.ntmps78
  go_wp2
  refine bodyPost_ret (v := .agg #[.int .i64 3, .string n, .string q]) (by simp [results, Tryz.results78, go_sem, *]) rfl ⟨rfl, ?_⟩
  repeat (first | exact HB.out | apply below_alloc | apply pw_below_drewN | (refine below_set ?_ (by first | exact Nat.le_refl _ | (simp; done) | (simp; omega))))
set_option maxHeartbeats 2000000 in
theorem back_psem (v : SV) (ho : v.orig ≠ ⟨#[]⟩) (q : ByteArray) (w : World) : Calls Tryz.prog 78 #[Vers.val (.pair (.sem v) q)] w fun e w' => e = .returned (backV (.pair (.sem v) q)) ∧ Below w.heap.size w w' := by
  have HB := Aside0.mk (Below.refl w.heap.size w)
  have hem : v.orig.toList.isEmpty = false := isEmpty_false (size_pos ho)
  clear ho
  obtain ⟨va, vb, vc, vp, vm, vo⟩ := v
  have q0 := c_pair_rev
  have q1 := c_pair_pair
  have q2 := a_pair_P
  have q3 := m_pair_Revision
  have q4 := m_pair_String
  have q5 := m_pair_Type
  have q6 := m_sem_String
  have q7 := m_sem_Type
  dsimp only [Vers.val, Vers.tid, Vers.inner, Unp.val, Unp.tid, Unp.inner, SV.cells] at *
  go_enter Tryz.func78, Tryz.ntmps78
  go_wp2
  refine bodyPost_ret (v := .agg #[.int .i64 3, .string vo, .string q]) (by simp [results, Tryz.results78, go_sem, *]) rfl ⟨rfl, ?_⟩
  repeat (first | exact HB.out | apply below_alloc | apply pw_below_drewN | (refine below_set ?_ (by first | exact Nat.le_refl _ | (simp; done) | (simp; omega))))
end Go.Proofs.YtgoeiflddikihaaGreatDoor.Ver
end
