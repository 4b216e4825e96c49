/- Merged by program out of: VCompare. -/
import Derived.Test.YtgoeiflddikihaaGreatDoorCsgM10
section
namespace Go.Proofs.YtgoeiflddikihaaGreatDoor.Ver
open Go.RowKit Go.Proofs.YtgoeiflddikihaaGreatDoorW.PrintWords Go.Proofs.YtgoeiflddikihaaGreatDoor.Ord
theorem cmpV_1l {v u : SV} (h : v.major < u.major) : cmpV v u = -1 := thenC_ne (intC_lt h) (by omega)
theorem cmpV_1g {v u : SV} (h : u.major < v.major) : cmpV v u = 1 := thenC_ne (intC_gt h) (by omega)
theorem intC_self (a : Int) : intC a a = 0 := cmp_int.refl a
theorem cmpV_2l {v u : SV} (h1 : v.major = u.major) (h : v.minor < u.minor) : cmpV v u = -1 := thenC_go (by unfold onC; rw [h1, intC_self]) (thenC_ne (intC_lt h) (by omega))
theorem cmpV_2g {v u : SV} (h1 : v.major = u.major) (h : u.minor < v.minor) : cmpV v u = 1 := thenC_go (by unfold onC; rw [h1, intC_self]) (thenC_ne (intC_gt h) (by omega))
theorem cmpV_3l {v u : SV} (h1 : v.major = u.major) (h2 : v.minor = u.minor) (h : v.patch < u.patch) : cmpV v u = -1 := thenC_go (by unfold onC; rw [h1, intC_self]) (thenC_go (by unfold onC; rw [h2, intC_self]) (thenC_ne (intC_lt h) (by omega)))
theorem cmpV_3g {v u : SV} (h1 : v.major = u.major) (h2 : v.minor = u.minor) (h : u.patch < v.patch) : cmpV v u = 1 := thenC_go (by unfold onC; rw [h1, intC_self]) (thenC_go (by unfold onC; rw [h2, intC_self]) (thenC_ne (intC_gt h) (by omega)))
theorem cmpV_4 {v u : SV} (h1 : v.major = u.major) (h2 : v.minor = u.minor) (h3 : v.patch = u.patch) : cmpV v u = preC v.pre.data.toList u.pre.data.toList := thenC_go (by unfold onC; rw [h1, intC_self]) (thenC_go (by unfold onC; rw [h2, intC_self]) (thenC_go (by unfold onC; rw [h3, intC_self]) rfl))
def NumTell (va vb vc ua ub uc r p : Int) : Prop := (va < ua → r = -1) ∧ (ua < va → r = 1) ∧ (va = ua → vb < ub → r = -1) ∧ (va = ua → ub < vb → r = 1) ∧ (va = ua → vb = ub → vc < uc → r = -1) ∧ (va = ua → vb = ub → uc < vc → r = 1) ∧ (va = ua → vb = ub → vc = uc → r = p)
theorem numTell (v u : SV) : NumTell v.major v.minor v.patch u.major u.minor u.patch (cmpV v u) (preC v.pre.data.toList u.pre.data.toList) :=
  ⟨cmpV_1l, cmpV_1g, cmpV_2l, cmpV_2g, cmpV_3l, cmpV_3g, cmpV_4⟩
theorem pre_cases (x y : ByteArray) : ((x.toList == y.toList) = true ∧ preC x.data.toList y.data.toList = 0) ∨ ((x.toList == y.toList) = false ∧ x.toList.isEmpty = true ∧ preC x.data.toList y.data.toList = 1) ∨ ((x.toList == y.toList) = false ∧ x.toList.isEmpty = false ∧ y.toList.isEmpty = true ∧ preC x.data.toList y.data.toList = -1) ∨ ((x.toList == y.toList) = false ∧ x.toList.isEmpty = false ∧ y.toList.isEmpty = false ∧ preC x.data.toList y.data.toList = listC idC (parts x.data.toList) (parts y.data.toList)) := by
  rw [ByteArray.toList_eq, ByteArray.toList_eq]
  generalize x.data.toList = a
  generalize y.data.toList = b
  by_cases e : a = b
  · subst e; exact Or.inl ⟨beq_self_eq_true _, preC_same _⟩
  · have he : (a == b) = false := beq_eq_false_iff_ne.2 e
    cases a with
    | nil => exact Or.inr (Or.inl ⟨he, rfl, preC_left (fun h => e h.symm)⟩)
    | cons c r =>
      cases b with
      | nil => exact Or.inr (Or.inr (Or.inl ⟨he, rfl, rfl, preC_right (by simp)⟩))
      | cons d t => exact Or.inr (Or.inr (Or.inr ⟨he, rfl, rfl, preC_both (by simp) (by simp)⟩))
theorem ab_cases (A B : ByteArray) : (A.toList.isEmpty = true ∧ B.toList.isEmpty = true ∧ (A.toList == B.toList) = true ∧ listC idC (parts A.data.toList) (parts B.data.toList) = 0) ∨ (A.toList.isEmpty = true ∧ B.toList.isEmpty = false ∧ (A.toList == B.toList) = false ∧ listC idC (parts A.data.toList) (parts B.data.toList) = -1) ∨ (A.toList.isEmpty = false ∧ B.toList.isEmpty = true ∧ (A.toList == B.toList) = false ∧ listC idC (parts A.data.toList) (parts B.data.toList) = 1) ∨ (A.toList.isEmpty = false ∧ B.toList.isEmpty = false ∧
    ((idC (firstB A).data.toList (firstB B).data.toList = 0 → listC idC (parts A.data.toList) (parts B.data.toList) = listC idC (parts (restB A).data.toList) (parts (restB B).data.toList)) ∧ (idC (firstB A).data.toList (firstB B).data.toList ≠ 0 → listC idC (parts A.data.toList) (parts B.data.toList) = idC (firstB A).data.toList (firstB B).data.toList))) := by
  rw [ByteArray.toList_eq, ByteArray.toList_eq]
  unfold firstB restB
  dsimp only
  generalize A.data.toList = a
  generalize B.data.toList = b
  cases a with
  | nil =>
    cases b with
    | nil => exact Or.inl ⟨rfl, rfl, rfl, partsC_none⟩
    | cons d t => exact Or.inr (Or.inl ⟨rfl, rfl, rfl, partsC_less (by simp)⟩)
  | cons c r =>
    cases b with
    | nil => exact Or.inr (Or.inr (Or.inl ⟨rfl, rfl, rfl, partsC_more (by simp)⟩))
    | cons d t => exact Or.inr (Or.inr (Or.inr ⟨rfl, rfl, partsC_step (by simp) (by simp), partsC_stop (by simp) (by simp)⟩))
theorem firstB_le (A : ByteArray) : (firstB A).size ≤ A.size := by
  rw [← len_list, ← len_list]
  show (firstI A.data.toList).length ≤ _
  exact (List.takeWhile_sublist _).length_le
theorem restB_le (A : ByteArray) : (restB A).size ≤ A.size := by
  rw [← len_list, ← len_list]
  show (restI A.data.toList).length ≤ _
  unfold restI
  rw [List.length_drop]
  have := (List.dropWhile_sublist (l := A.data.toList) (· != 46)).length_le
  omega
theorem restB_lt {A : ByteArray} (h : A.toList.isEmpty = false) : (restB A).size < A.size := by
  rw [← len_list, ← len_list]
  refine restI_lt ?_
  rintro e
  rw [ByteArray.toList_eq, e] at h
  cases h
set_option maxRecDepth 20000 in
set_option maxHeartbeats 4000000 in
theorem cmp_short (v u : SV) (hq : ((v.pre.toList == u.pre.toList) = true ∧ preC v.pre.data.toList u.pre.data.toList = 0) ∨ ((v.pre.toList == u.pre.toList) = false ∧ v.pre.toList.isEmpty = true ∧ preC v.pre.data.toList u.pre.data.toList = 1) ∨ ((v.pre.toList == u.pre.toList) = false ∧ v.pre.toList.isEmpty = false ∧ u.pre.toList.isEmpty = true ∧ preC v.pre.data.toList u.pre.data.toList = -1)) (w : World) :
    Calls Tryz.prog 209 #[.agg v.cells, .agg u.cells] w fun e w' => e = .returned (.int .i64 (cmpV v u)) ∧ Below w.heap.size w w' := by
  have HT := Lib.hid (numTell v u)
  generalize cmpV v u = r at *
  obtain ⟨va, vb, vc, vp, vm, vo⟩ := v
  obtain ⟨ua, ub, uc, up, um, uo⟩ := u
  dsimp only at HT hq
  have i0 : ∀ W, (Instr.index 306 (.agg #[.int .u64 va, .int .u64 ua, .int .u64 vb, .int .u64 ub, .int .u64 vc, .int .u64 uc]) (.int .i64 0)).run Tryz.prog W = .ok (.agg #[.int .u64 va, .int .u64 ua]) W := fun _ => by kernel_rfl
  have i1 : ∀ W, (Instr.index 306 (.agg #[.int .u64 va, .int .u64 ua, .int .u64 vb, .int .u64 ub, .int .u64 vc, .int .u64 uc]) (.int .i64 1)).run Tryz.prog W = .ok (.agg #[.int .u64 vb, .int .u64 ub]) W := fun _ => by kernel_rfl
  have i2 : ∀ W, (Instr.index 306 (.agg #[.int .u64 va, .int .u64 ua, .int .u64 vb, .int .u64 ub, .int .u64 vc, .int .u64 uc]) (.int .i64 2)).run Tryz.prog W = .ok (.agg #[.int .u64 vc, .int .u64 uc]) W := fun _ => by kernel_rfl
  have HB := Aside0.mk (Below.refl w.heap.size w)
  rcases hq with ⟨q1, hp⟩ | ⟨q1, q2, hp⟩ | ⟨q1, q2, q3, hp⟩
  all_goals
    rw [hp] at HT
    clear hp
    dsimp only [SV.cells]
    go_enter Tryz.func209, Tryz.ntmps209
    go_wp2_with fail
    go_loopw [28] (fun v28 wr => ∃ k : Int, v28 = .int .i64 k ∧ (0 ≤ k ∧ k ≤ 3) ∧ Hid (1 ≤ k → va = ua) ∧ Hid (2 ≤ k → vb = ub) ∧ Hid (3 ≤ k → vc = uc) ∧ Aside0 (Below w.heap.size w wr) ∧ Aside0 (wr.heap[w.heap.size]? = some (bSV va vb vc vp vm vo)) ∧ Aside0 (wr.heap[w.heap.size + 1]? = some (bSV ua ub uc up um uo)) ∧ Aside0 (w.heap.size + 2 ≤ wr.heap.size)) (fun v28 _ => (3 - intOf v28).toNat)
    case atStart =>
      refine ⟨0, rfl, by omega, Lib.hid (by omega), Lib.hid (by omega), Lib.hid (by omega), ⟨below_alloc (below_alloc HB.out _) _⟩, ⟨blk_alloc (alloc_at w _) _⟩, ⟨?_⟩, ⟨by rw [alloc_size, alloc_size]; omega⟩⟩
      have := alloc_at (w.alloc (bSV va vb vc vp vm vo)) (bSV ua ub uc up um uo)
      rw [alloc_size] at this
      exact this
    case round =>
      obtain ⟨k, rfl, hk, H1, H2, H3, HW, HV, HU, HZ⟩ := hrel
      have HSZ := Lib.hid HW.out.size
      obtain rfl | rfl | rfl | rfl : k = 0 ∨ k = 1 ∨ k = 2 ∨ k = 3 := by omega
      · rcases Int.lt_trichotomy va ua with h | h | h
        · have d1 : decide (va < ua) = true := decide_eq_true h
          obtain rfl := (HT.out.1 h)
          clear h
          go_wp2_with fail
          go_ret
          exact ⟨rfl, by repeat (first | exact HW.out | apply below_alloc | apply pw_below_drewN | (refine below_set ?_ HSZ.out))⟩
        · have d1 : decide (va < ua) = false := decide_eq_false (by omega)
          have d2 : decide (ua < va) = false := decide_eq_false (by omega)
          have HE := Lib.hid h
          clear h
          go_wp2_with fail
          go_roundw
          case rel => exact ⟨1, by first | rfl | go_num, by omega, Lib.hid (fun _ => HE.out), Lib.hid (fun _ => absurd ‹_› (by omega)), Lib.hid (fun _ => absurd ‹_› (by omega)), ⟨by repeat (first | exact HW.out | apply below_alloc | apply pw_below_drewN | (refine below_set ?_ HSZ.out))⟩, ⟨by repeat (first | exact HV.out | apply blk_alloc | refine blk_far ?_ (by show w.heap.size ≠ wr.heap.size; have := HZ.out; omega) _)⟩, ⟨by repeat (first | exact HU.out | apply blk_alloc | refine blk_far ?_ (by show w.heap.size + 1 ≠ wr.heap.size; have := HZ.out; omega) _)⟩, ⟨by have := HZ.out; first | (simp; omega) | omega⟩⟩
          case measure => simp [intOf]
        · have d1 : decide (va < ua) = false := decide_eq_false (by omega)
          have d2 : decide (ua < va) = true := decide_eq_true h
          obtain rfl := (HT.out.2.1 h)
          clear h
          go_wp2_with fail
          go_ret
          exact ⟨rfl, by repeat (first | exact HW.out | apply below_alloc | apply pw_below_drewN | (refine below_set ?_ HSZ.out))⟩
      · rcases Int.lt_trichotomy vb ub with h | h | h
        · have d1 : decide (vb < ub) = true := decide_eq_true h
          obtain rfl := (HT.out.2.2.1 (H1.out (by omega)) h)
          clear h
          go_wp2_with fail
          go_ret
          exact ⟨rfl, by repeat (first | exact HW.out | apply below_alloc | apply pw_below_drewN | (refine below_set ?_ HSZ.out))⟩
        · have d1 : decide (vb < ub) = false := decide_eq_false (by omega)
          have d2 : decide (ub < vb) = false := decide_eq_false (by omega)
          have HE := Lib.hid h
          clear h
          go_wp2_with fail
          go_roundw
          case rel => exact ⟨2, by first | rfl | go_num, by omega, Lib.hid (fun _ => H1.out (by omega)), Lib.hid (fun _ => HE.out), Lib.hid (fun _ => absurd ‹_› (by omega)), ⟨by repeat (first | exact HW.out | apply below_alloc | apply pw_below_drewN | (refine below_set ?_ HSZ.out))⟩, ⟨by repeat (first | exact HV.out | apply blk_alloc | refine blk_far ?_ (by show w.heap.size ≠ wr.heap.size; have := HZ.out; omega) _)⟩, ⟨by repeat (first | exact HU.out | apply blk_alloc | refine blk_far ?_ (by show w.heap.size + 1 ≠ wr.heap.size; have := HZ.out; omega) _)⟩, ⟨by have := HZ.out; first | (simp; omega) | omega⟩⟩
          case measure => simp [intOf]
        · have d1 : decide (vb < ub) = false := decide_eq_false (by omega)
          have d2 : decide (ub < vb) = true := decide_eq_true h
          obtain rfl := (HT.out.2.2.2.1 (H1.out (by omega)) h)
          clear h
          go_wp2_with fail
          go_ret
          exact ⟨rfl, by repeat (first | exact HW.out | apply below_alloc | apply pw_below_drewN | (refine below_set ?_ HSZ.out))⟩
      · rcases Int.lt_trichotomy vc uc with h | h | h
        · have d1 : decide (vc < uc) = true := decide_eq_true h
          obtain rfl := (HT.out.2.2.2.2.1 (H1.out (by omega)) (H2.out (by omega)) h)
          clear h
          go_wp2_with fail
          go_ret
          exact ⟨rfl, by repeat (first | exact HW.out | apply below_alloc | apply pw_below_drewN | (refine below_set ?_ HSZ.out))⟩
        · have d1 : decide (vc < uc) = false := decide_eq_false (by omega)
          have d2 : decide (uc < vc) = false := decide_eq_false (by omega)
          have HE := Lib.hid h
          clear h
          go_wp2_with fail
          go_roundw
          case rel => exact ⟨3, by first | rfl | go_num, by omega, Lib.hid (fun _ => H1.out (by omega)), Lib.hid (fun _ => H2.out (by omega)), Lib.hid (fun _ => HE.out), ⟨by repeat (first | exact HW.out | apply below_alloc | apply pw_below_drewN | (refine below_set ?_ HSZ.out))⟩, ⟨by repeat (first | exact HV.out | apply blk_alloc | refine blk_far ?_ (by show w.heap.size ≠ wr.heap.size; have := HZ.out; omega) _)⟩, ⟨by repeat (first | exact HU.out | apply blk_alloc | refine blk_far ?_ (by show w.heap.size + 1 ≠ wr.heap.size; have := HZ.out; omega) _)⟩, ⟨by have := HZ.out; first | (simp; omega) | omega⟩⟩
          case measure => simp [intOf]
        · have d1 : decide (vc < uc) = false := decide_eq_false (by omega)
          have d2 : decide (uc < vc) = true := decide_eq_true h
          obtain rfl := (HT.out.2.2.2.2.2.1 (H1.out (by omega)) (H2.out (by omega)) h)
          clear h
          go_wp2_with fail
          go_ret
          exact ⟨rfl, by repeat (first | exact HW.out | apply below_alloc | apply pw_below_drewN | (refine below_set ?_ HSZ.out))⟩
      · have hr := HT.out.2.2.2.2.2.2 (H1.out (by omega)) (H2.out (by omega)) (H3.out (by omega))
        subst hr
        have c3 := blk_cell HV.out 3
        have e3 := blk_cell HU.out 3
        go_wp2_with fail
        go_ret
        exact ⟨rfl, by repeat (first | exact HW.out | apply below_alloc | apply pw_below_drewN | (refine below_set ?_ HSZ.out))⟩
set_option maxRecDepth 20000 in
set_option maxHeartbeats 4000000 in
theorem cmp_long (v u : SV) (q1 : (v.pre.toList == u.pre.toList) = false) (q2 : v.pre.toList.isEmpty = false) (q3 : u.pre.toList.isEmpty = false) (hp : preC v.pre.data.toList u.pre.data.toList = listC idC (parts v.pre.data.toList) (parts u.pre.data.toList)) (hv : v.pre.size ≤ 140737488351232) (hu : u.pre.size ≤ 140737488351232) (w : World) :
    Calls Tryz.prog 209 #[.agg v.cells, .agg u.cells] w fun e w' => e = .returned (.int .i64 (cmpV v u)) ∧ Below w.heap.size w w' := by
  have HT := Lib.hid (numTell v u)
  generalize cmpV v u = r at *
  obtain ⟨va, vb, vc, vp, vm, vo⟩ := v
  obtain ⟨ua, ub, uc, up, um, uo⟩ := u
  dsimp only at HT hv hu q1 q2 q3 hp
  have i0 : ∀ W, (Instr.index 306 (.agg #[.int .u64 va, .int .u64 ua, .int .u64 vb, .int .u64 ub, .int .u64 vc, .int .u64 uc]) (.int .i64 0)).run Tryz.prog W = .ok (.agg #[.int .u64 va, .int .u64 ua]) W := fun _ => by kernel_rfl
  have i1 : ∀ W, (Instr.index 306 (.agg #[.int .u64 va, .int .u64 ua, .int .u64 vb, .int .u64 ub, .int .u64 vc, .int .u64 uc]) (.int .i64 1)).run Tryz.prog W = .ok (.agg #[.int .u64 vb, .int .u64 ub]) W := fun _ => by kernel_rfl
  have i2 : ∀ W, (Instr.index 306 (.agg #[.int .u64 va, .int .u64 ua, .int .u64 vb, .int .u64 ub, .int .u64 vc, .int .u64 uc]) (.int .i64 2)).run Tryz.prog W = .ok (.agg #[.int .u64 vc, .int .u64 uc]) W := fun _ => by kernel_rfl
  have HB := Aside0.mk (Below.refl w.heap.size w)
  · skip
    rw [hp] at HT
    clear hp
    dsimp only [SV.cells]
    go_enter Tryz.func209, Tryz.ntmps209
    go_wp2_with fail
    go_loopw [28] (fun v28 wr => ∃ k : Int, v28 = .int .i64 k ∧ (0 ≤ k ∧ k ≤ 3) ∧ Hid (1 ≤ k → va = ua) ∧ Hid (2 ≤ k → vb = ub) ∧ Hid (3 ≤ k → vc = uc) ∧ Aside0 (Below w.heap.size w wr) ∧ Aside0 (wr.heap[w.heap.size]? = some (bSV va vb vc vp vm vo)) ∧ Aside0 (wr.heap[w.heap.size + 1]? = some (bSV ua ub uc up um uo)) ∧ Aside0 (w.heap.size + 2 ≤ wr.heap.size)) (fun v28 _ => (3 - intOf v28).toNat)
    case atStart =>
      refine ⟨0, rfl, by omega, Lib.hid (by omega), Lib.hid (by omega), Lib.hid (by omega), ⟨below_alloc (below_alloc HB.out _) _⟩, ⟨blk_alloc (alloc_at w _) _⟩, ⟨?_⟩, ⟨by rw [alloc_size, alloc_size]; omega⟩⟩
      have := alloc_at (w.alloc (bSV va vb vc vp vm vo)) (bSV ua ub uc up um uo)
      rw [alloc_size] at this
      exact this
    case round =>
      obtain ⟨k, rfl, hk, H1, H2, H3, HW, HV, HU, HZ⟩ := hrel
      have HSZ := Lib.hid HW.out.size
      obtain rfl | rfl | rfl | rfl : k = 0 ∨ k = 1 ∨ k = 2 ∨ k = 3 := by omega
      · rcases Int.lt_trichotomy va ua with h | h | h
        · have d1 : decide (va < ua) = true := decide_eq_true h
          obtain rfl := (HT.out.1 h)
          clear h
          go_wp2_with fail
          go_ret
          exact ⟨rfl, by repeat (first | exact HW.out | apply below_alloc | apply pw_below_drewN | (refine below_set ?_ HSZ.out))⟩
        · have d1 : decide (va < ua) = false := decide_eq_false (by omega)
          have d2 : decide (ua < va) = false := decide_eq_false (by omega)
          have HE := Lib.hid h
          clear h
          go_wp2_with fail
          go_roundw
          case rel => exact ⟨1, by first | rfl | go_num, by omega, Lib.hid (fun _ => HE.out), Lib.hid (fun _ => absurd ‹_› (by omega)), Lib.hid (fun _ => absurd ‹_› (by omega)), ⟨by repeat (first | exact HW.out | apply below_alloc | apply pw_below_drewN | (refine below_set ?_ HSZ.out))⟩, ⟨by repeat (first | exact HV.out | apply blk_alloc | refine blk_far ?_ (by show w.heap.size ≠ wr.heap.size; have := HZ.out; omega) _)⟩, ⟨by repeat (first | exact HU.out | apply blk_alloc | refine blk_far ?_ (by show w.heap.size + 1 ≠ wr.heap.size; have := HZ.out; omega) _)⟩, ⟨by have := HZ.out; first | (simp; omega) | omega⟩⟩
          case measure => simp [intOf]
        · have d1 : decide (va < ua) = false := decide_eq_false (by omega)
          have d2 : decide (ua < va) = true := decide_eq_true h
          obtain rfl := (HT.out.2.1 h)
          clear h
          go_wp2_with fail
          go_ret
          exact ⟨rfl, by repeat (first | exact HW.out | apply below_alloc | apply pw_below_drewN | (refine below_set ?_ HSZ.out))⟩
      · rcases Int.lt_trichotomy vb ub with h | h | h
        · have d1 : decide (vb < ub) = true := decide_eq_true h
          obtain rfl := (HT.out.2.2.1 (H1.out (by omega)) h)
          clear h
          go_wp2_with fail
          go_ret
          exact ⟨rfl, by repeat (first | exact HW.out | apply below_alloc | apply pw_below_drewN | (refine below_set ?_ HSZ.out))⟩
        · have d1 : decide (vb < ub) = false := decide_eq_false (by omega)
          have d2 : decide (ub < vb) = false := decide_eq_false (by omega)
          have HE := Lib.hid h
          clear h
          go_wp2_with fail
          go_roundw
          case rel => exact ⟨2, by first | rfl | go_num, by omega, Lib.hid (fun _ => H1.out (by omega)), Lib.hid (fun _ => HE.out), Lib.hid (fun _ => absurd ‹_› (by omega)), ⟨by repeat (first | exact HW.out | apply below_alloc | apply pw_below_drewN | (refine below_set ?_ HSZ.out))⟩, ⟨by repeat (first | exact HV.out | apply blk_alloc | refine blk_far ?_ (by show w.heap.size ≠ wr.heap.size; have := HZ.out; omega) _)⟩, ⟨by repeat (first | exact HU.out | apply blk_alloc | refine blk_far ?_ (by show w.heap.size + 1 ≠ wr.heap.size; have := HZ.out; omega) _)⟩, ⟨by have := HZ.out; first | (simp; omega) | omega⟩⟩
          case measure => simp [intOf]
        · have d1 : decide (vb < ub) = false := decide_eq_false (by omega)
          have d2 : decide (ub < vb) = true := decide_eq_true h
          obtain rfl := (HT.out.2.2.2.1 (H1.out (by omega)) h)
          clear h
          go_wp2_with fail
          go_ret
          exact ⟨rfl, by repeat (first | exact HW.out | apply below_alloc | apply pw_below_drewN | (refine below_set ?_ HSZ.out))⟩
      · rcases Int.lt_trichotomy vc uc with h | h | h
        · have d1 : decide (vc < uc) = true := decide_eq_true h
          obtain rfl := (HT.out.2.2.2.2.1 (H1.out (by omega)) (H2.out (by omega)) h)
          clear h
          go_wp2_with fail
          go_ret
          exact ⟨rfl, by repeat (first | exact HW.out | apply below_alloc | apply pw_below_drewN | (refine below_set ?_ HSZ.out))⟩
        · have d1 : decide (vc < uc) = false := decide_eq_false (by omega)
          have d2 : decide (uc < vc) = false := decide_eq_false (by omega)
          have HE := Lib.hid h
          clear h
          go_wp2_with fail
          go_roundw
          case rel => exact ⟨3, by first | rfl | go_num, by omega, Lib.hid (fun _ => H1.out (by omega)), Lib.hid (fun _ => H2.out (by omega)), Lib.hid (fun _ => HE.out), ⟨by repeat (first | exact HW.out | apply below_alloc | apply pw_below_drewN | (refine below_set ?_ HSZ.out))⟩, ⟨by repeat (first | exact HV.out | apply blk_alloc | refine blk_far ?_ (by show w.heap.size ≠ wr.heap.size; have := HZ.out; omega) _)⟩, ⟨by repeat (first | exact HU.out | apply blk_alloc | refine blk_far ?_ (by show w.heap.size + 1 ≠ wr.heap.size; have := HZ.out; omega) _)⟩, ⟨by have := HZ.out; first | (simp; omega) | omega⟩⟩
          case measure => simp [intOf]
        · have d1 : decide (vc < uc) = false := decide_eq_false (by omega)
          have d2 : decide (uc < vc) = true := decide_eq_true h
          obtain rfl := (HT.out.2.2.2.2.2.1 (H1.out (by omega)) (H2.out (by omega)) h)
          clear h
          go_wp2_with fail
          go_ret
          exact ⟨rfl, by repeat (first | exact HW.out | apply below_alloc | apply pw_below_drewN | (refine below_set ?_ HSZ.out))⟩
      · have HR := Lib.hid (HT.out.2.2.2.2.2.2 (H1.out (by omega)) (H2.out (by omega)) (H3.out (by omega)))
        have c3 := blk_cell HV.out 3
        have e3 := blk_cell HU.out 3
        go_wp2_with fail
        go_quiet (fail)
        go_wp2_with fail
        rename_i nq
        clear c3 e3 q1 q2 q3
        go_loopw [7, 8] (fun v7 v8 wx => ∃ (A B : ByteArray), v7 = .string A ∧ v8 = .string B ∧ Hid (r = listC idC (parts A.data.toList) (parts B.data.toList)) ∧ A.size ≤ 140737488351232 ∧ B.size ≤ 140737488351232 ∧ Aside0 (Below w.heap.size w wx)) (fun v7 _ _ => match v7 with | .string a => a.size | _ => 0)
        case atStart => exact ⟨vp, up, rfl, rfl, HR, hv, hu, ⟨by repeat (first | exact HW.out | apply below_alloc | apply pw_below_drewN)⟩⟩
        case round =>
          obtain ⟨A, B, rfl, rfl, HA, hA, hB, HX⟩ := hrel
          rcases ab_cases A B with ⟨a1, a2, e1, hr⟩ | ⟨a1, a2, e1, hr⟩ | ⟨a1, a2, e1, hr⟩ | ⟨a1, a2, hr⟩
          · have hr := HA.out.trans hr
            subst hr
            go_wp2_with fail
            go_ret
            exact ⟨rfl, by repeat (first | exact HX.out | apply below_alloc | apply pw_below_drewN)⟩
          · have hr := HA.out.trans hr
            subst hr
            go_wp2_with fail
            go_ret
            exact ⟨rfl, by repeat (first | exact HX.out | apply below_alloc | apply pw_below_drewN)⟩
          · have hr := HA.out.trans hr
            subst hr
            go_wp2_with fail
            go_ret
            exact ⟨rfl, by repeat (first | exact HX.out | apply below_alloc | apply pw_below_drewN)⟩
          · have F1 := Lib.hid (fun W => first_any A hA W)
            have F2 := Lib.hid (fun W => first_any B hB W)
            have C := Lib.hid (fun W => compare_any (firstB A) (firstB B) (by have := firstB_le A; omega) (by have := firstB_le B; omega) W)
            have m1 := restB_lt a1
            have m2 := restB_le B
            have HL := Lib.hid hr
            clear hr
            by_cases hc : idC (firstB A).data.toList (firstB B).data.toList = 0
            · have h2 := HA.out.trans (HL.out.1 hc)
              have HA2 := Lib.hid h2
              rw [hc] at C
              clear h2 hc HA HL
              generalize firstB A = fa at *
              generalize firstB B = fb at *
              generalize restB A = ra at *
              generalize restB B = rb at *
              have HM := Lib.hid m1
              have hra : ra.size ≤ 140737488351232 := by omega
              have hrb : rb.size ≤ 140737488351232 := by omega
              clear m1 m2
              go_wp2_with (first
                | (go_at_call 210; ((with_reducible refine (F1.out _).mono ?_); rintro e w1 ⟨rfl, n1, rfl⟩))
                | (go_at_call 210; ((with_reducible refine (F2.out _).mono ?_); rintro e w1 ⟨rfl, n2, rfl⟩))
                | (go_at_call 211; ((with_reducible refine (C.out _).mono ?_); rintro e w1 ⟨rfl, ⟨n3, rfl⟩⟩)))
              go_roundw
              case rel => exact ⟨ra, rb, rfl, rfl, HA2, hra, hrb, ⟨by repeat (first | exact HX.out | apply below_alloc | apply pw_below_drewN)⟩⟩
              case measure => exact HM.out
            · have h2 := HA.out.trans (HL.out.2 hc)
              rw [← h2] at C hc
              have d1 : (r != 0) = true := bne_iff_ne.2 hc
              clear h2 hc HA HL m1 m2
              generalize firstB A = fa at *
              generalize firstB B = fb at *
              generalize restB A = ra at *
              generalize restB B = rb at *
              go_wp2_with (first
                | (go_at_call 210; ((with_reducible refine (F1.out _).mono ?_); rintro e w1 ⟨rfl, n1, rfl⟩))
                | (go_at_call 210; ((with_reducible refine (F2.out _).mono ?_); rintro e w1 ⟨rfl, n2, rfl⟩))
                | (go_at_call 211; ((with_reducible refine (C.out _).mono ?_); rintro e w1 ⟨rfl, ⟨n3, rfl⟩⟩)))
              go_ret
              exact ⟨rfl, by repeat (first | exact HX.out | apply below_alloc | apply pw_below_drewN)⟩
theorem cmp_any (v u : SV) (hv : v.pre.size ≤ 140737488351232) (hu : u.pre.size ≤ 140737488351232) (w : World) :
    Calls Tryz.prog 209 #[.agg v.cells, .agg u.cells] w fun e w' => e = .returned (.int .i64 (cmpV v u)) ∧ Below w.heap.size w w' := by
  rcases pre_cases v.pre u.pre with h | h | h | ⟨q1, q2, q3, hp⟩
  · exact cmp_short v u (Or.inl h) w
  · exact cmp_short v u (Or.inr (Or.inl h)) w
  · exact cmp_short v u (Or.inr (Or.inr h)) w
  · exact cmp_long v u q1 q2 q3 hp hv hu w
end Go.Proofs.YtgoeiflddikihaaGreatDoor.Ver
end
