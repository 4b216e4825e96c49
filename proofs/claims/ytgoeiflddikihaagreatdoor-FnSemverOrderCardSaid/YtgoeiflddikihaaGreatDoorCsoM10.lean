/- Merged by program out of: SortP, VStr, VCompare, Sort2, ConG, VOk, VSemC. -/
import Derived.Test.YtgoeiflddikihaaGreatDoorCsoM8
import Derived.Test.YtgoeiflddikihaaGreatDoorCsoM6
import Derived.Test.YtgoeiflddikihaaGreatDoorCsoM9
import Derived.RegionTactic
import Derived.Deep.RegionLaw
import Derived.BigQuiet
import Derived.Lib.QuietBelow
import Derived.Test.YtgoeiflddikihaaGreatDoorCsoM2
import Derived.Test.YtgoeiflddikihaaGreatDoorCsoM3
import Derived.Lib.ParseIntBCases
section
namespace Go.Proofs.YtgoeiflddikihaaGreatDoor.Ver
set_option linter.unusedSimpArgs false
set_option linter.unusedVariables false
open Go.RowKit Go.Proofs.YtgoeiflddikihaaGreatDoor.PFnVersion Go.Proofs.YtgoeiflddikihaaGreatDoorW.PrintWords
structure RightV (k : Int) (t r : ByteArray) : Prop where
  k0 : 0 ≤ k
  k3 : k ≤ 3
  t0 : 0 < t.size
  t60 : t.size ≤ 60
  r60 : r.size ≤ 60
  rk : k = 0 → r = ⟨#[]⟩
def to30 (x : S27) : S30 := ⟨x.f0, x.f1, x.f2⟩
end Go.Proofs.YtgoeiflddikihaaGreatDoor.Ver
end
section
set_option linter.unusedSimpArgs false
namespace Go.Proofs.YtgoeiflddikihaaGreatDoor.Ver
open Go.RowKit Go.Proofs.YtgoeiflddikihaaGreatDoor.Dig Go.Proofs.YtgoeiflddikihaaGreatDoorW.PrintWords
structure SVok (v : SV) : Prop where
  a0 : 0 ≤ v.major
  a1 : v.major < 18446744073709551616
  b0 : 0 ≤ v.minor
  b1 : v.minor < 18446744073709551616
  c0 : 0 ≤ v.patch
  c1 : v.patch < 18446744073709551616
  p : v.pre.size ≤ 4294967296
  m : v.mt.size ≤ 4294967296
def decB (n : Int) : ByteArray := ⟨(Lib.decDigits n.toNat).toArray⟩
def threeB (v : SV) : ByteArray := decB v.major ++ ⟨#[46]⟩ ++ decB v.minor ++ ⟨#[46]⟩ ++ decB v.patch
def preB (v : SV) : ByteArray := if v.pre = ⟨#[]⟩ then threeB v else threeB v ++ (⟨#[45]⟩ ++ v.pre)
def semB (v : SV) : ByteArray := if v.mt = ⟨#[]⟩ then preB v else preB v ++ (⟨#[43]⟩ ++ v.mt)
theorem decB_size (n : Int) (h0 : 0 ≤ n) (h : n < 18446744073709551616) : (decB n).size ≤ 21 := by
  show (Lib.decDigits n.toNat).toArray.size ≤ 21
  rw [List.size_toArray, Lib.decDigits_length]
  by_cases h1 : 1 ≤ n.toNat
  · have := Lib.numDigits_eq n.toNat h1 (by omega)
    split at this <;> omega
  · have : n.toNat = 0 := by omega
    rw [this, ← Lib.decDigits_length, Lib.decDigits, dif_pos (by omega)]; simp
set_option maxRecDepth 20000 in
theorem semStr_any (v : SV) (hk : SVok v) (w : World) (hv : Vars w) : Calls Tryz.prog 233 #[.agg v.cells] w fun e w' => e = .returned (.string (semB v)) ∧ Below w.heap.size w w' := by
  obtain ⟨va, vb, vc, vp, vm, vo⟩ := v
  obtain ⟨a0, a1, b0, b1, c0, c1, hp, hm⟩ := hk
  dsimp only at a0 a1 b0 b1 c0 c1 hp hm
  have w0 : Below w.heap.size w (w.alloc (.cells #[.int .u64 va, .int .u64 vb, .int .u64 vc, .string vp, .string vm, .string vo] 197)) := below_alloc (Below.refl _ _) _
  have cI : ∀ (n : Int), 0 ≤ n → n < 18446744073709551616 → ∀ d os, Calls Tryz.prog 235 #[.int .u64 n, .int .i64 10] (Sort.grow (redrawn (w.alloc (.cells #[.int .u64 va, .int .u64 vb, .int .u64 vc, .string vp, .string vm, .string vo] 197)) d) os) fun e w'' => e = .returned (.string (decB n)) ∧ ∃ p : Regrown, w'' = Sort.grow (redrawn (w.alloc (.cells #[.int .u64 va, .int .u64 vb, .int .u64 vc, .string vp, .string vm, .string vo] 197)) p.d) p.os :=
    fun n h0 h1 d os => Calls.regrown_of (by
      have h := fmtU_any n.toNat (by omega) _ ((hv.below w0).below (below_regrown _ d os))
      rw [show ((n.toNat : Nat) : Int) = n by omega] at h
      exact h)
  have CA := Lib.hid (cI va a0 a1)
  have CB := Lib.hid (cI vb b0 b1)
  have CC := Lib.hid (cI vc c0 c1)
  have la := decB_size va a0 a1
  have lb := decB_size vb b0 b1
  have lc := decB_size vc c0 c1
  have k0 := cell_regrown (blk_cell (alloc_at w (.cells #[.int .u64 va, .int .u64 vb, .int .u64 vc, .string vp, .string vm, .string vo] 197)) 0)
  have k1 := cell_regrown (blk_cell (alloc_at w (.cells #[.int .u64 va, .int .u64 vb, .int .u64 vc, .string vp, .string vm, .string vo] 197)) 1)
  have k2 := cell_regrown (blk_cell (alloc_at w (.cells #[.int .u64 va, .int .u64 vb, .int .u64 vc, .string vp, .string vm, .string vo] 197)) 2)
  have k3 := cell_regrown (blk_cell (alloc_at w (.cells #[.int .u64 va, .int .u64 vb, .int .u64 vc, .string vp, .string vm, .string vo] 197)) 3)
  have k4 := cell_regrown (blk_cell (alloc_at w (.cells #[.int .u64 va, .int .u64 vb, .int .u64 vc, .string vp, .string vm, .string vo] 197)) 4)
  have hS : semB ⟨va, vb, vc, vp, vm, vo⟩ = (if vm = ⟨#[]⟩ then (if vp = ⟨#[]⟩ then decB va ++ ⟨#[46]⟩ ++ decB vb ++ ⟨#[46]⟩ ++ decB vc else decB va ++ ⟨#[46]⟩ ++ decB vb ++ ⟨#[46]⟩ ++ decB vc ++ (⟨#[45]⟩ ++ vp)) else (if vp = ⟨#[]⟩ then decB va ++ ⟨#[46]⟩ ++ decB vb ++ ⟨#[46]⟩ ++ decB vc else decB va ++ ⟨#[46]⟩ ++ decB vb ++ ⟨#[46]⟩ ++ decB vc ++ (⟨#[45]⟩ ++ vp)) ++ (⟨#[43]⟩ ++ vm)) := rfl
  rw [hS]
  dsimp only [SV.cells]
  clear cI a0 a1 b0 b1 c0 c1 hS hv
  generalize decB va = sa at *
  generalize decB vb = sb at *
  generalize decB vc = sc at *
  go_enter Tryz.func233, Tryz.ntmps233
  have n1 : ¬ 9223372036854775807 < sa.size + 1 := by omega
  have n2 : ¬ 9223372036854775807 < sa.size + 1 + sb.size := by omega
  have n3 : ¬ 9223372036854775807 < sa.size + 1 + sb.size + 1 := by omega
  have n4 : ¬ 9223372036854775807 < sa.size + 1 + sb.size + 1 + sc.size := by omega
  go_wp2
  refine wp_region_quiet_below (by kernel_rfl) (by kernel_rfl) ?_
  repeat (quiet_step (first | exact CA.out _ _ | exact CB.out _ _ | exact CC.out _ _))
  refine wpQuiet_nil ?_
  intro _ hw'
  obtain ⟨⟨dq, osq⟩, hw''⟩ := hw'
  subst hw''
  have hsum : (sa ++ ⟨#[46]⟩ ++ sb ++ ⟨#[46]⟩ ++ sc).size ≤ 100 := by simp only [ByteArray.size_append]; have : (⟨#[46]⟩ : ByteArray).size = 1 := rfl; omega
  clear n1 n2 n3 n4
  generalize ht : sa ++ ⟨#[46]⟩ ++ sb ++ ⟨#[46]⟩ ++ sc = t3 at *
  have HT := Lib.hid ht
  clear ht
  have z3 := k3 dq osq
  have z4 := k4 dq osq
  have HBB := Aside0.mk (below_trans w0 (below_regrown _ dq osq))
  have hone : (⟨#[45]⟩ : ByteArray).size = 1 := rfl
  have hone2 : (⟨#[43]⟩ : ByteArray).size = 1 := rfl
  have m1 : ¬ 9223372036854775807 < 1 + vp.size := by omega
  have m2 : ¬ 9223372036854775807 < t3.size + (1 + vp.size) := by omega
  have m3 : ¬ 9223372036854775807 < 1 + vm.size := by omega
  have m4 : ¬ 9223372036854775807 < t3.size + (1 + vm.size) := by omega
  have m5 : ¬ 9223372036854775807 < t3.size + (1 + vp.size) + (1 + vm.size) := by omega
  clear k0 k1 k2 k3 k4 w0 CA CB CC
  by_cases hp0 : vp = ⟨#[]⟩
  · by_cases hm0 : vm = ⟨#[]⟩
    · have e1 : vp.toList.isEmpty = true := isEmpty_true (by rw [hp0]; rfl)
      have e2 : vm.toList.isEmpty = true := isEmpty_true (by rw [hm0]; rfl)
      have HM0 := Lib.hid hm0
      have HP0 := Lib.hid hp0
      clear hp0 hm0
      go_wp2
      go_ret
      refine ⟨?_, by first | exact HBB.out | exact below_trans (below_alloc (Below.refl _ _) _) (below_regrown _ _ _)⟩
      simp [HT.out, HM0.out, HP0.out]
    · have e1 : vp.toList.isEmpty = true := isEmpty_true (by rw [hp0]; rfl)
      have e2 : vm.toList.isEmpty = false := isEmpty_false (size_pos hm0)
      have HM0 := Lib.hid hm0
      have HP0 := Lib.hid hp0
      clear hp0 hm0
      go_wp2
      go_ret
      refine ⟨?_, by first | exact HBB.out | exact below_trans (below_alloc (Below.refl _ _) _) (below_regrown _ _ _)⟩
      simp [HT.out, HM0.out, HP0.out]
  · by_cases hm0 : vm = ⟨#[]⟩
    · have e1 : vp.toList.isEmpty = false := isEmpty_false (size_pos hp0)
      have e2 : vm.toList.isEmpty = true := isEmpty_true (by rw [hm0]; rfl)
      have HM0 := Lib.hid hm0
      have HP0 := Lib.hid hp0
      clear hp0 hm0
      go_wp2
      go_ret
      refine ⟨?_, by first | exact HBB.out | exact below_trans (below_alloc (Below.refl _ _) _) (below_regrown _ _ _)⟩
      simp [HT.out, HM0.out, HP0.out]
    · have e1 : vp.toList.isEmpty = false := isEmpty_false (size_pos hp0)
      have e2 : vm.toList.isEmpty = false := isEmpty_false (size_pos hm0)
      have HM0 := Lib.hid hm0
      have HP0 := Lib.hid hp0
      clear hp0 hm0
      go_wp2
      go_ret
      refine ⟨?_, by first | exact HBB.out | exact below_trans (below_alloc (Below.refl _ _) _) (below_regrown _ _ _)⟩
      simp [HT.out, HM0.out, HP0.out]
end Go.Proofs.YtgoeiflddikihaaGreatDoor.Ver
end
section
namespace Go.Proofs.YtgoeiflddikihaaGreatDoor.Ver
open Go.RowKit Go.Proofs.YtgoeiflddikihaaGreatDoorW.PrintWords Go.Proofs.YtgoeiflddikihaaGreatDoor.Ord
theorem cmpV_1l {v u : SV} (h : v.major < u.major) : cmpV v u = -1 := thenC_ne (intC_lt h) (by omega)
theorem cmpV_1g {v u : SV} (h : u.major < v.major) : cmpV v u = 1 := thenC_ne (intC_gt h) (by omega)
theorem intC_self (a : Int) : intC a a = 0 := cmp_int.refl a
theorem cmpV_2l {v u : SV} (h1 : v.major = u.major) (h : v.minor < u.minor) : cmpV v u = -1 := thenC_go (by unfold onC; rw [h1, intC_self]) (thenC_ne (intC_lt h) (by omega))
theorem cmpV_2g {v u : SV} (h1 : v.major = u.major) (h : u.minor < v.minor) : cmpV v u = 1 := thenC_go (by unfold onC; rw [h1, intC_self]) (thenC_ne (intC_gt h) (by omega))
theorem cmpV_3l {v u : SV} (h1 : v.major = u.major) (h2 : v.minor = u.minor) (h : v.patch < u.patch) : cmpV v u = -1 := thenC_go (by unfold onC; rw [h1, intC_self]) (thenC_go (by unfold onC; rw [h2, intC_self]) (thenC_ne (intC_lt h) (by omega)))
theorem cmpV_3g {v u : SV} (h1 : v.major = u.major) (h2 : v.minor = u.minor) (h : u.patch < v.patch) : cmpV v u = 1 := thenC_go (by unfold onC; rw [h1, intC_self]) (thenC_go (by unfold onC; rw [h2, intC_self]) (thenC_ne (intC_gt h) (by omega)))
theorem cmpV_4 {v u : SV} (h1 : v.major = u.major) (h2 : v.minor = u.minor) (h3 : v.patch = u.patch) : cmpV v u = preC v.pre.data.toList u.pre.data.toList := thenC_go (by unfold onC; rw [h1, intC_self]) (thenC_go (by unfold onC; rw [h2, intC_self]) (thenC_go (by unfold onC; rw [h3, intC_self]) rfl))
def NumTell (va vb vc ua ub uc r p : Int) : Prop := (va < ua → r = -1) ∧ (ua < va → r = 1) ∧ (va = ua → vb < ub → r = -1) ∧ (va = ua → ub < vb → r = 1) ∧ (va = ua → vb = ub → vc < uc → r = -1) ∧ (va = ua → vb = ub → uc < vc → r = 1) ∧ (va = ua → vb = ub → vc = uc → r = p)
theorem numTell (v u : SV) : NumTell v.major v.minor v.patch u.major u.minor u.patch (cmpV v u) (preC v.pre.data.toList u.pre.data.toList) :=
  ⟨cmpV_1l, cmpV_1g, cmpV_2l, cmpV_2g, cmpV_3l, cmpV_3g, cmpV_4⟩
theorem pre_cases (x y : ByteArray) : ((x.toList == y.toList) = true ∧ preC x.data.toList y.data.toList = 0) ∨ ((x.toList == y.toList) = false ∧ x.toList.isEmpty = true ∧ preC x.data.toList y.data.toList = 1) ∨ ((x.toList == y.toList) = false ∧ x.toList.isEmpty = false ∧ y.toList.isEmpty = true ∧ preC x.data.toList y.data.toList = -1) ∨ ((x.toList == y.toList) = false ∧ x.toList.isEmpty = false ∧ y.toList.isEmpty = false ∧ preC x.data.toList y.data.toList = listC idC (parts x.data.toList) (parts y.data.toList)) := by
  rw [ByteArray.toList_eq, ByteArray.toList_eq]
  generalize x.data.toList = a
  generalize y.data.toList = b
  by_cases e : a = b
  · subst e; exact Or.inl ⟨beq_self_eq_true _, preC_same _⟩
  · have he : (a == b) = false := beq_eq_false_iff_ne.2 e
    cases a with
    | nil => exact Or.inr (Or.inl ⟨he, rfl, preC_left (fun h => e h.symm)⟩)
    | cons c r =>
      cases b with
      | nil => exact Or.inr (Or.inr (Or.inl ⟨he, rfl, rfl, preC_right (by simp)⟩))
      | cons d t => exact Or.inr (Or.inr (Or.inr ⟨he, rfl, rfl, preC_both (by simp) (by simp)⟩))
theorem ab_cases (A B : ByteArray) : (A.toList.isEmpty = true ∧ B.toList.isEmpty = true ∧ (A.toList == B.toList) = true ∧ listC idC (parts A.data.toList) (parts B.data.toList) = 0) ∨ (A.toList.isEmpty = true ∧ B.toList.isEmpty = false ∧ (A.toList == B.toList) = false ∧ listC idC (parts A.data.toList) (parts B.data.toList) = -1) ∨ (A.toList.isEmpty = false ∧ B.toList.isEmpty = true ∧ (A.toList == B.toList) = false ∧ listC idC (parts A.data.toList) (parts B.data.toList) = 1) ∨ (A.toList.isEmpty = false ∧ B.toList.isEmpty = false ∧
    ((idC (firstB A).data.toList (firstB B).data.toList = 0 → listC idC (parts A.data.toList) (parts B.data.toList) = listC idC (parts (restB A).data.toList) (parts (restB B).data.toList)) ∧ (idC (firstB A).data.toList (firstB B).data.toList ≠ 0 → listC idC (parts A.data.toList) (parts B.data.toList) = idC (firstB A).data.toList (firstB B).data.toList))) := by
  rw [ByteArray.toList_eq, ByteArray.toList_eq]
  unfold firstB restB
  dsimp only
  generalize A.data.toList = a
  generalize B.data.toList = b
  cases a with
  | nil =>
    cases b with
    | nil => exact Or.inl ⟨rfl, rfl, rfl, partsC_none⟩
    | cons d t => exact Or.inr (Or.inl ⟨rfl, rfl, rfl, partsC_less (by simp)⟩)
  | cons c r =>
    cases b with
    | nil => exact Or.inr (Or.inr (Or.inl ⟨rfl, rfl, rfl, partsC_more (by simp)⟩))
    | cons d t => exact Or.inr (Or.inr (Or.inr ⟨rfl, rfl, partsC_step (by simp) (by simp), partsC_stop (by simp) (by simp)⟩))
theorem firstB_le (A : ByteArray) : (firstB A).size ≤ A.size := by
  rw [← len_list, ← len_list]
  show (firstI A.data.toList).length ≤ _
  exact (List.takeWhile_sublist _).length_le
theorem restB_le (A : ByteArray) : (restB A).size ≤ A.size := by
  rw [← len_list, ← len_list]
  show (restI A.data.toList).length ≤ _
  unfold restI
  rw [List.length_drop]
  have := (List.dropWhile_sublist (l := A.data.toList) (· != 46)).length_le
  omega
theorem restB_lt {A : ByteArray} (h : A.toList.isEmpty = false) : (restB A).size < A.size := by
  rw [← len_list, ← len_list]
  refine restI_lt ?_
  rintro e
  rw [ByteArray.toList_eq, e] at h
  cases h
set_option maxRecDepth 20000 in
set_option maxHeartbeats 4000000 in
theorem cmp_short (v u : SV) (hq : ((v.pre.toList == u.pre.toList) = true ∧ preC v.pre.data.toList u.pre.data.toList = 0) ∨ ((v.pre.toList == u.pre.toList) = false ∧ v.pre.toList.isEmpty = true ∧ preC v.pre.data.toList u.pre.data.toList = 1) ∨ ((v.pre.toList == u.pre.toList) = false ∧ v.pre.toList.isEmpty = false ∧ u.pre.toList.isEmpty = true ∧ preC v.pre.data.toList u.pre.data.toList = -1)) (w : World) :
    Calls Tryz.prog 209 #[.agg v.cells, .agg u.cells] w fun e w' => e = .returned (.int .i64 (cmpV v u)) ∧ Below w.heap.size w w' := by
  have HT := Lib.hid (numTell v u)
  generalize cmpV v u = r at *
  obtain ⟨va, vb, vc, vp, vm, vo⟩ := v
  obtain ⟨ua, ub, uc, up, um, uo⟩ := u
  dsimp only at HT hq
  have i0 : ∀ W, (Instr.index 306 (.agg #[.int .u64 va, .int .u64 ua, .int .u64 vb, .int .u64 ub, .int .u64 vc, .int .u64 uc]) (.int .i64 0)).run Tryz.prog W = .ok (.agg #[.int .u64 va, .int .u64 ua]) W := fun _ => by kernel_rfl
  have i1 : ∀ W, (Instr.index 306 (.agg #[.int .u64 va, .int .u64 ua, .int .u64 vb, .int .u64 ub, .int .u64 vc, .int .u64 uc]) (.int .i64 1)).run Tryz.prog W = .ok (.agg #[.int .u64 vb, .int .u64 ub]) W := fun _ => by kernel_rfl
  have i2 : ∀ W, (Instr.index 306 (.agg #[.int .u64 va, .int .u64 ua, .int .u64 vb, .int .u64 ub, .int .u64 vc, .int .u64 uc]) (.int .i64 2)).run Tryz.prog W = .ok (.agg #[.int .u64 vc, .int .u64 uc]) W := fun _ => by kernel_rfl
  have HB := Aside0.mk (Below.refl w.heap.size w)
  rcases hq with ⟨q1, hp⟩ | ⟨q1, q2, hp⟩ | ⟨q1, q2, q3, hp⟩
  all_goals
    rw [hp] at HT
    clear hp
    dsimp only [SV.cells]
    go_enter Tryz.func209, Tryz.ntmps209
    go_wp2_with fail
    go_loopw [28] (fun v28 wr => ∃ k : Int, v28 = .int .i64 k ∧ (0 ≤ k ∧ k ≤ 3) ∧ Hid (1 ≤ k → va = ua) ∧ Hid (2 ≤ k → vb = ub) ∧ Hid (3 ≤ k → vc = uc) ∧ Aside0 (Below w.heap.size w wr) ∧ Aside0 (wr.heap[w.heap.size]? = some (bSV va vb vc vp vm vo)) ∧ Aside0 (wr.heap[w.heap.size + 1]? = some (bSV ua ub uc up um uo)) ∧ Aside0 (w.heap.size + 2 ≤ wr.heap.size)) (fun v28 _ => (3 - intOf v28).toNat)
    case atStart =>
      refine ⟨0, rfl, by omega, Lib.hid (by omega), Lib.hid (by omega), Lib.hid (by omega), ⟨below_alloc (below_alloc HB.out _) _⟩, ⟨blk_alloc (alloc_at w _) _⟩, ⟨?_⟩, ⟨by rw [alloc_size, alloc_size]; omega⟩⟩
      have := alloc_at (w.alloc (bSV va vb vc vp vm vo)) (bSV ua ub uc up um uo)
      rw [alloc_size] at this
      exact this
    case round =>
      obtain ⟨k, rfl, hk, H1, H2, H3, HW, HV, HU, HZ⟩ := hrel
      have HSZ := Lib.hid HW.out.size
      obtain rfl | rfl | rfl | rfl : k = 0 ∨ k = 1 ∨ k = 2 ∨ k = 3 := by omega
      · rcases Int.lt_trichotomy va ua with h | h | h
        · have d1 : decide (va < ua) = true := decide_eq_true h
          obtain rfl := (HT.out.1 h)
          clear h
          go_wp2_with fail
          go_ret
          exact ⟨rfl, by repeat (first | exact HW.out | apply below_alloc | apply pw_below_drewN | (refine below_set ?_ HSZ.out))⟩
        · have d1 : decide (va < ua) = false := decide_eq_false (by omega)
          have d2 : decide (ua < va) = false := decide_eq_false (by omega)
          have HE := Lib.hid h
          clear h
          go_wp2_with fail
          go_roundw
          case rel => exact ⟨1, by first | rfl | go_num, by omega, Lib.hid (fun _ => HE.out), Lib.hid (fun _ => absurd ‹_› (by omega)), Lib.hid (fun _ => absurd ‹_› (by omega)), ⟨by repeat (first | exact HW.out | apply below_alloc | apply pw_below_drewN | (refine below_set ?_ HSZ.out))⟩, ⟨by repeat (first | exact HV.out | apply blk_alloc | refine blk_far ?_ (by show w.heap.size ≠ wr.heap.size; have := HZ.out; omega) _)⟩, ⟨by repeat (first | exact HU.out | apply blk_alloc | refine blk_far ?_ (by show w.heap.size + 1 ≠ wr.heap.size; have := HZ.out; omega) _)⟩, ⟨by have := HZ.out; first | (simp; omega) | omega⟩⟩
          case measure => simp [intOf]
        · have d1 : decide (va < ua) = false := decide_eq_false (by omega)
          have d2 : decide (ua < va) = true := decide_eq_true h
          obtain rfl := (HT.out.2.1 h)
          clear h
          go_wp2_with fail
          go_ret
          exact ⟨rfl, by repeat (first | exact HW.out | apply below_alloc | apply pw_below_drewN | (refine below_set ?_ HSZ.out))⟩
      · rcases Int.lt_trichotomy vb ub with h | h | h
        · have d1 : decide (vb < ub) = true := decide_eq_true h
          obtain rfl := (HT.out.2.2.1 (H1.out (by omega)) h)
          clear h
          go_wp2_with fail
          go_ret
          exact ⟨rfl, by repeat (first | exact HW.out | apply below_alloc | apply pw_below_drewN | (refine below_set ?_ HSZ.out))⟩
        · have d1 : decide (vb < ub) = false := decide_eq_false (by omega)
          have d2 : decide (ub < vb) = false := decide_eq_false (by omega)
          have HE := Lib.hid h
          clear h
          go_wp2_with fail
          go_roundw
          case rel => exact ⟨2, by first | rfl | go_num, by omega, Lib.hid (fun _ => H1.out (by omega)), Lib.hid (fun _ => HE.out), Lib.hid (fun _ => absurd ‹_› (by omega)), ⟨by repeat (first | exact HW.out | apply below_alloc | apply pw_below_drewN | (refine below_set ?_ HSZ.out))⟩, ⟨by repeat (first | exact HV.out | apply blk_alloc | refine blk_far ?_ (by show w.heap.size ≠ wr.heap.size; have := HZ.out; omega) _)⟩, ⟨by repeat (first | exact HU.out | apply blk_alloc | refine blk_far ?_ (by show w.heap.size + 1 ≠ wr.heap.size; have := HZ.out; omega) _)⟩, ⟨by have := HZ.out; first | (simp; omega) | omega⟩⟩
          case measure => simp [intOf]
        · have d1 : decide (vb < ub) = false := decide_eq_false (by omega)
          have d2 : decide (ub < vb) = true := decide_eq_true h
          obtain rfl := (HT.out.2.2.2.1 (H1.out (by omega)) h)
          clear h
          go_wp2_with fail
          go_ret
          exact ⟨rfl, by repeat (first | exact HW.out | apply below_alloc | apply pw_below_drewN | (refine below_set ?_ HSZ.out))⟩
      · rcases Int.lt_trichotomy vc uc with h | h | h
        · have d1 : decide (vc < uc) = true := decide_eq_true h
          obtain rfl := (HT.out.2.2.2.2.1 (H1.out (by omega)) (H2.out (by omega)) h)
          clear h
          go_wp2_with fail
          go_ret
          exact ⟨rfl, by repeat (first | exact HW.out | apply below_alloc | apply pw_below_drewN | (refine below_set ?_ HSZ.out))⟩
        · have d1 : decide (vc < uc) = false := decide_eq_false (by omega)
          have d2 : decide (uc < vc) = false := decide_eq_false (by omega)
          have HE := Lib.hid h
          clear h
          go_wp2_with fail
          go_roundw
          case rel => exact ⟨3, by first | rfl | go_num, by omega, Lib.hid (fun _ => H1.out (by omega)), Lib.hid (fun _ => H2.out (by omega)), Lib.hid (fun _ => HE.out), ⟨by repeat (first | exact HW.out | apply below_alloc | apply pw_below_drewN | (refine below_set ?_ HSZ.out))⟩, ⟨by repeat (first | exact HV.out | apply blk_alloc | refine blk_far ?_ (by show w.heap.size ≠ wr.heap.size; have := HZ.out; omega) _)⟩, ⟨by repeat (first | exact HU.out | apply blk_alloc | refine blk_far ?_ (by show w.heap.size + 1 ≠ wr.heap.size; have := HZ.out; omega) _)⟩, ⟨by have := HZ.out; first | (simp; omega) | omega⟩⟩
          case measure => simp [intOf]
        · have d1 : decide (vc < uc) = false := decide_eq_false (by omega)
          have d2 : decide (uc < vc) = true := decide_eq_true h
          obtain rfl := (HT.out.2.2.2.2.2.1 (H1.out (by omega)) (H2.out (by omega)) h)
          clear h
          go_wp2_with fail
          go_ret
          exact ⟨rfl, by repeat (first | exact HW.out | apply below_alloc | apply pw_below_drewN | (refine below_set ?_ HSZ.out))⟩
      · have hr := HT.out.2.2.2.2.2.2 (H1.out (by omega)) (H2.out (by omega)) (H3.out (by omega))
        subst hr
        have c3 := blk_cell HV.out 3
        have e3 := blk_cell HU.out 3
        go_wp2_with fail
        go_ret
        exact ⟨rfl, by repeat (first | exact HW.out | apply below_alloc | apply pw_below_drewN | (refine below_set ?_ HSZ.out))⟩
set_option maxRecDepth 20000 in
set_option maxHeartbeats 4000000 in
theorem cmp_long (v u : SV) (q1 : (v.pre.toList == u.pre.toList) = false) (q2 : v.pre.toList.isEmpty = false) (q3 : u.pre.toList.isEmpty = false) (hp : preC v.pre.data.toList u.pre.data.toList = listC idC (parts v.pre.data.toList) (parts u.pre.data.toList)) (hv : v.pre.size ≤ 140737488351232) (hu : u.pre.size ≤ 140737488351232) (w : World) :
    Calls Tryz.prog 209 #[.agg v.cells, .agg u.cells] w fun e w' => e = .returned (.int .i64 (cmpV v u)) ∧ Below w.heap.size w w' := by
  have HT := Lib.hid (numTell v u)
  generalize cmpV v u = r at *
  obtain ⟨va, vb, vc, vp, vm, vo⟩ := v
  obtain ⟨ua, ub, uc, up, um, uo⟩ := u
  dsimp only at HT hv hu q1 q2 q3 hp
  have i0 : ∀ W, (Instr.index 306 (.agg #[.int .u64 va, .int .u64 ua, .int .u64 vb, .int .u64 ub, .int .u64 vc, .int .u64 uc]) (.int .i64 0)).run Tryz.prog W = .ok (.agg #[.int .u64 va, .int .u64 ua]) W := fun _ => by kernel_rfl
  have i1 : ∀ W, (Instr.index 306 (.agg #[.int .u64 va, .int .u64 ua, .int .u64 vb, .int .u64 ub, .int .u64 vc, .int .u64 uc]) (.int .i64 1)).run Tryz.prog W = .ok (.agg #[.int .u64 vb, .int .u64 ub]) W := fun _ => by kernel_rfl
  have i2 : ∀ W, (Instr.index 306 (.agg #[.int .u64 va, .int .u64 ua, .int .u64 vb, .int .u64 ub, .int .u64 vc, .int .u64 uc]) (.int .i64 2)).run Tryz.prog W = .ok (.agg #[.int .u64 vc, .int .u64 uc]) W := fun _ => by kernel_rfl
  have HB := Aside0.mk (Below.refl w.heap.size w)
  · skip
    rw [hp] at HT
    clear hp
    dsimp only [SV.cells]
    go_enter Tryz.func209, Tryz.ntmps209
    go_wp2_with fail
    go_loopw [28] (fun v28 wr => ∃ k : Int, v28 = .int .i64 k ∧ (0 ≤ k ∧ k ≤ 3) ∧ Hid (1 ≤ k → va = ua) ∧ Hid (2 ≤ k → vb = ub) ∧ Hid (3 ≤ k → vc = uc) ∧ Aside0 (Below w.heap.size w wr) ∧ Aside0 (wr.heap[w.heap.size]? = some (bSV va vb vc vp vm vo)) ∧ Aside0 (wr.heap[w.heap.size + 1]? = some (bSV ua ub uc up um uo)) ∧ Aside0 (w.heap.size + 2 ≤ wr.heap.size)) (fun v28 _ => (3 - intOf v28).toNat)
    case atStart =>
      refine ⟨0, rfl, by omega, Lib.hid (by omega), Lib.hid (by omega), Lib.hid (by omega), ⟨below_alloc (below_alloc HB.out _) _⟩, ⟨blk_alloc (alloc_at w _) _⟩, ⟨?_⟩, ⟨by rw [alloc_size, alloc_size]; omega⟩⟩
      have := alloc_at (w.alloc (bSV va vb vc vp vm vo)) (bSV ua ub uc up um uo)
      rw [alloc_size] at this
      exact this
    case round =>
      obtain ⟨k, rfl, hk, H1, H2, H3, HW, HV, HU, HZ⟩ := hrel
      have HSZ := Lib.hid HW.out.size
      obtain rfl | rfl | rfl | rfl : k = 0 ∨ k = 1 ∨ k = 2 ∨ k = 3 := by omega
      · rcases Int.lt_trichotomy va ua with h | h | h
        · have d1 : decide (va < ua) = true := decide_eq_true h
          obtain rfl := (HT.out.1 h)
          clear h
          go_wp2_with fail
          go_ret
          exact ⟨rfl, by repeat (first | exact HW.out | apply below_alloc | apply pw_below_drewN | (refine below_set ?_ HSZ.out))⟩
        · have d1 : decide (va < ua) = false := decide_eq_false (by omega)
          have d2 : decide (ua < va) = false := decide_eq_false (by omega)
          have HE := Lib.hid h
          clear h
          go_wp2_with fail
          go_roundw
          case rel => exact ⟨1, by first | rfl | go_num, by omega, Lib.hid (fun _ => HE.out), Lib.hid (fun _ => absurd ‹_› (by omega)), Lib.hid (fun _ => absurd ‹_› (by omega)), ⟨by repeat (first | exact HW.out | apply below_alloc | apply pw_below_drewN | (refine below_set ?_ HSZ.out))⟩, ⟨by repeat (first | exact HV.out | apply blk_alloc | refine blk_far ?_ (by show w.heap.size ≠ wr.heap.size; have := HZ.out; omega) _)⟩, ⟨by repeat (first | exact HU.out | apply blk_alloc | refine blk_far ?_ (by show w.heap.size + 1 ≠ wr.heap.size; have := HZ.out; omega) _)⟩, ⟨by have := HZ.out; first | (simp; omega) | omega⟩⟩
          case measure => simp [intOf]
        · have d1 : decide (va < ua) = false := decide_eq_false (by omega)
          have d2 : decide (ua < va) = true := decide_eq_true h
          obtain rfl := (HT.out.2.1 h)
          clear h
          go_wp2_with fail
          go_ret
          exact ⟨rfl, by repeat (first | exact HW.out | apply below_alloc | apply pw_below_drewN | (refine below_set ?_ HSZ.out))⟩
      · rcases Int.lt_trichotomy vb ub with h | h | h
        · have d1 : decide (vb < ub) = true := decide_eq_true h
          obtain rfl := (HT.out.2.2.1 (H1.out (by omega)) h)
          clear h
          go_wp2_with fail
          go_ret
          exact ⟨rfl, by repeat (first | exact HW.out | apply below_alloc | apply pw_below_drewN | (refine below_set ?_ HSZ.out))⟩
        · have d1 : decide (vb < ub) = false := decide_eq_false (by omega)
          have d2 : decide (ub < vb) = false := decide_eq_false (by omega)
          have HE := Lib.hid h
          clear h
          go_wp2_with fail
          go_roundw
          case rel => exact ⟨2, by first | rfl | go_num, by omega, Lib.hid (fun _ => H1.out (by omega)), Lib.hid (fun _ => HE.out), Lib.hid (fun _ => absurd ‹_› (by omega)), ⟨by repeat (first | exact HW.out | apply below_alloc | apply pw_below_drewN | (refine below_set ?_ HSZ.out))⟩, ⟨by repeat (first | exact HV.out | apply blk_alloc | refine blk_far ?_ (by show w.heap.size ≠ wr.heap.size; have := HZ.out; omega) _)⟩, ⟨by repeat (first | exact HU.out | apply blk_alloc | refine blk_far ?_ (by show w.heap.size + 1 ≠ wr.heap.size; have := HZ.out; omega) _)⟩, ⟨by have := HZ.out; first | (simp; omega) | omega⟩⟩
          case measure => simp [intOf]
        · have d1 : decide (vb < ub) = false := decide_eq_false (by omega)
          have d2 : decide (ub < vb) = true := decide_eq_true h
          obtain rfl := (HT.out.2.2.2.1 (H1.out (by omega)) h)
          clear h
          go_wp2_with fail
          go_ret
          exact ⟨rfl, by repeat (first | exact HW.out | apply below_alloc | apply pw_below_drewN | (refine below_set ?_ HSZ.out))⟩
      · rcases Int.lt_trichotomy vc uc with h | h | h
        · have d1 : decide (vc < uc) = true := decide_eq_true h
          obtain rfl := (HT.out.2.2.2.2.1 (H1.out (by omega)) (H2.out (by omega)) h)
          clear h
          go_wp2_with fail
          go_ret
          exact ⟨rfl, by repeat (first | exact HW.out | apply below_alloc | apply pw_below_drewN | (refine below_set ?_ HSZ.out))⟩
        · have d1 : decide (vc < uc) = false := decide_eq_false (by omega)
          have d2 : decide (uc < vc) = false := decide_eq_false (by omega)
          have HE := Lib.hid h
          clear h
          go_wp2_with fail
          go_roundw
          case rel => exact ⟨3, by first | rfl | go_num, by omega, Lib.hid (fun _ => H1.out (by omega)), Lib.hid (fun _ => H2.out (by omega)), Lib.hid (fun _ => HE.out), ⟨by repeat (first | exact HW.out | apply below_alloc | apply pw_below_drewN | (refine below_set ?_ HSZ.out))⟩, ⟨by repeat (first | exact HV.out | apply blk_alloc | refine blk_far ?_ (by show w.heap.size ≠ wr.heap.size; have := HZ.out; omega) _)⟩, ⟨by repeat (first | exact HU.out | apply blk_alloc | refine blk_far ?_ (by show w.heap.size + 1 ≠ wr.heap.size; have := HZ.out; omega) _)⟩, ⟨by have := HZ.out; first | (simp; omega) | omega⟩⟩
          case measure => simp [intOf]
        · have d1 : decide (vc < uc) = false := decide_eq_false (by omega)
          have d2 : decide (uc < vc) = true := decide_eq_true h
          obtain rfl := (HT.out.2.2.2.2.2.1 (H1.out (by omega)) (H2.out (by omega)) h)
          clear h
          go_wp2_with fail
          go_ret
          exact ⟨rfl, by repeat (first | exact HW.out | apply below_alloc | apply pw_below_drewN | (refine below_set ?_ HSZ.out))⟩
      · have HR := Lib.hid (HT.out.2.2.2.2.2.2 (H1.out (by omega)) (H2.out (by omega)) (H3.out (by omega)))
        have c3 := blk_cell HV.out 3
        have e3 := blk_cell HU.out 3
        go_wp2_with fail
        go_quiet (fail)
        go_wp2_with fail
        rename_i nq
        clear c3 e3 q1 q2 q3
        go_loopw [7, 8] (fun v7 v8 wx => ∃ (A B : ByteArray), v7 = .string A ∧ v8 = .string B ∧ Hid (r = listC idC (parts A.data.toList) (parts B.data.toList)) ∧ A.size ≤ 140737488351232 ∧ B.size ≤ 140737488351232 ∧ Aside0 (Below w.heap.size w wx)) (fun v7 _ _ => match v7 with | .string a => a.size | _ => 0)
        case atStart => exact ⟨vp, up, rfl, rfl, HR, hv, hu, ⟨by repeat (first | exact HW.out | apply below_alloc | apply pw_below_drewN)⟩⟩
        case round =>
          obtain ⟨A, B, rfl, rfl, HA, hA, hB, HX⟩ := hrel
          rcases ab_cases A B with ⟨a1, a2, e1, hr⟩ | ⟨a1, a2, e1, hr⟩ | ⟨a1, a2, e1, hr⟩ | ⟨a1, a2, hr⟩
          · have hr := HA.out.trans hr
            subst hr
            go_wp2_with fail
            go_ret
            exact ⟨rfl, by repeat (first | exact HX.out | apply below_alloc | apply pw_below_drewN)⟩
          · have hr := HA.out.trans hr
            subst hr
            go_wp2_with fail
            go_ret
            exact ⟨rfl, by repeat (first | exact HX.out | apply below_alloc | apply pw_below_drewN)⟩
          · have hr := HA.out.trans hr
            subst hr
            go_wp2_with fail
            go_ret
            exact ⟨rfl, by repeat (first | exact HX.out | apply below_alloc | apply pw_below_drewN)⟩
          · have F1 := Lib.hid (fun W => first_any A hA W)
            have F2 := Lib.hid (fun W => first_any B hB W)
            have C := Lib.hid (fun W => compare_any (firstB A) (firstB B) (by have := firstB_le A; omega) (by have := firstB_le B; omega) W)
            have m1 := restB_lt a1
            have m2 := restB_le B
            have HL := Lib.hid hr
            clear hr
            by_cases hc : idC (firstB A).data.toList (firstB B).data.toList = 0
            · have h2 := HA.out.trans (HL.out.1 hc)
              have HA2 := Lib.hid h2
              rw [hc] at C
              clear h2 hc HA HL
              generalize firstB A = fa at *
              generalize firstB B = fb at *
              generalize restB A = ra at *
              generalize restB B = rb at *
              have HM := Lib.hid m1
              have hra : ra.size ≤ 140737488351232 := by omega
              have hrb : rb.size ≤ 140737488351232 := by omega
              clear m1 m2
              go_wp2_with (first
                | (go_at_call 210; ((with_reducible refine (F1.out _).mono ?_); rintro e w1 ⟨rfl, n1, rfl⟩))
                | (go_at_call 210; ((with_reducible refine (F2.out _).mono ?_); rintro e w1 ⟨rfl, n2, rfl⟩))
                | (go_at_call 211; ((with_reducible refine (C.out _).mono ?_); rintro e w1 ⟨rfl, ⟨n3, rfl⟩⟩)))
              go_roundw
              case rel => exact ⟨ra, rb, rfl, rfl, HA2, hra, hrb, ⟨by repeat (first | exact HX.out | apply below_alloc | apply pw_below_drewN)⟩⟩
              case measure => exact HM.out
            · have h2 := HA.out.trans (HL.out.2 hc)
              rw [← h2] at C hc
              have d1 : (r != 0) = true := bne_iff_ne.2 hc
              clear h2 hc HA HL m1 m2
              generalize firstB A = fa at *
              generalize firstB B = fb at *
              generalize restB A = ra at *
              generalize restB B = rb at *
              go_wp2_with (first
                | (go_at_call 210; ((with_reducible refine (F1.out _).mono ?_); rintro e w1 ⟨rfl, n1, rfl⟩))
                | (go_at_call 210; ((with_reducible refine (F2.out _).mono ?_); rintro e w1 ⟨rfl, n2, rfl⟩))
                | (go_at_call 211; ((with_reducible refine (C.out _).mono ?_); rintro e w1 ⟨rfl, ⟨n3, rfl⟩⟩)))
              go_ret
              exact ⟨rfl, by repeat (first | exact HX.out | apply below_alloc | apply pw_below_drewN)⟩
theorem cmp_any (v u : SV) (hv : v.pre.size ≤ 140737488351232) (hu : u.pre.size ≤ 140737488351232) (w : World) :
    Calls Tryz.prog 209 #[.agg v.cells, .agg u.cells] w fun e w' => e = .returned (.int .i64 (cmpV v u)) ∧ Below w.heap.size w w' := by
  rcases pre_cases v.pre u.pre with h | h | h | ⟨q1, q2, q3, hp⟩
  · exact cmp_short v u (Or.inl h) w
  · exact cmp_short v u (Or.inr (Or.inl h)) w
  · exact cmp_short v u (Or.inr (Or.inr h)) w
  · exact cmp_long v u q1 q2 q3 hp hv hu w
end Go.Proofs.YtgoeiflddikihaaGreatDoor.Ver
end
section
namespace Go.Proofs.YtgoeiflddikihaaGreatDoor.Srt
open Go.RowKit Go.Proofs.YtgoeiflddikihaaGreatDoorW.PrintWords Go.Sort
variable {α : Type} [Inhabited α]
theorem bitsLen_any (n : Nat) (hn : n < 4611686018427387904) (w : World) : Calls Tryz.prog 123 #[.int .u64 n] w fun e w' => e = .returned (.int .i64 (Lib.bitLen n)) ∧ Drawn0 w w' := by
  have h64 := Lib.hid (fun W => Tryz.bits_Len64 (n : Int) W (by omega) (by omega))
  rw [Int.toNat_natCast] at h64
  have hb := Lib.bitLen_le n 62 (by omega) (by omega)
  generalize Lib.bitLen n = b at *
  go_enter Tryz.func123, Tryz.ntmps123
  go_wp2_with (go_at_call 131; ((with_reducible refine (h64.out _).mono ?_); rintro e w1 ⟨rfl, rfl⟩))
  go_ret
  exact ⟨rfl, by repeat (first | exact Drawn0.refl _ | apply Drawn0.step)⟩
set_option maxRecDepth 20000 in
set_option maxHeartbeats 2000000 in
theorem pdq_short {T : TypeId} {rv : Value} {gn gl gs : Nat} (hm : Meth T rv gn gl gs) (enc : α → Value) (lt : α → α → Bool) (w : World) (blk off n : Nat) (hl : LessC gl rv enc lt w blk off n) (hs : SwapC gs rv enc w blk off n) (hn : n ≤ 12)
    (k : Int) (W : World) (d : Array α) (hd : d.size = n) (hW : SI enc w blk off d W) :
    Calls Tryz.prog 124 #[.iface T rv, .int .i64 0, .int .i64 n, .int .i64 k] W fun e w' => e = .returned (.tuple #[]) ∧ SI enc w blk off (insertionSort lt d 0 n) w' := by
  have HI := Lib.hid (fun W2 h2 => ins_any hm enc lt w blk off n hl hs (by omega) 0 n (Nat.zero_le _) (Nat.le_refl _) W2 d hd h2)
  have HW := Aside0.mk hW
  clear hW hd hl hs hm
  have d1 : decide ((n : Int) ≤ 12) = true := decide_eq_true (by omega)
  go_enter Tryz.func124, Tryz.ntmps124
  go_wp2_with fail
  refine wp_loop_rounds 1 ?_
  rw [rounds_succ]
  go_wp2_with (go_at_call 132; refine (HI.out _ HW.out).mono ?_; rintro e w1 ⟨rfl, hs1⟩; have HW1 := Aside0.mk hs1; clear hs1)
  (try simp only [Exit.inBlock, Exit.then])
  refine bodyPost_ret (results_none rfl _ _ _) rfl ?_
  exact ⟨rfl, HW1.out⟩
set_option maxHeartbeats 2000000 in
theorem sort_short {T : TypeId} {rv : Value} {gn gl gs : Nat} (hm : Meth T rv gn gl gs) (enc : α → Value) (lt : α → α → Bool) (w : World) (blk off n : Nat) (hl : LessC gl rv enc lt w blk off n) (hs : SwapC gs rv enc w blk off n) (h2 : 2 ≤ n) (hn : n ≤ 12)
    (hlen : ∀ W, Calls Tryz.prog gn #[rv] W fun e w' => e = .returned (.int .i64 n) ∧ Drawn0 W w') (d : Array α) (hd : d.size = n) (hH : Holds enc w blk off d) (hb : blk < w.heap.size) :
    Calls Tryz.prog 102 #[.iface T rv] w fun e w' => e = .returned (.tuple #[]) ∧ SI enc w blk off (insertionSort lt d 0 n) w' := by
  have HP := Lib.hid (fun k W2 h2 => pdq_short hm enc lt w blk off n hl hs hn k W2 d hd h2)
  have HW := Aside0.mk (SI.mk (World.grownBy.refl w (some blk)) hH hb)
  have HL := Lib.hid hlen
  have HBL := Lib.hid (fun W => bitsLen_any n (by omega) W)
  have mN := hm.n
  have eN := hm.en
  have d1 : decide ((n : Int) ≤ 1) = false := decide_eq_false (by omega)
  clear hd hl hs hm hlen hH hb
  go_enter Tryz.func102, Tryz.ntmps102
  go_wp2_with (first
    | (go_at_fn gn; refine (HL.out _).mono ?_; rintro e w1 ⟨rfl, ⟨q1, rfl⟩⟩)
    | (go_at_call 123; ((with_reducible refine (HBL.out _).mono ?_); rintro e w1 ⟨rfl, ⟨q2, rfl⟩⟩))
    | (go_at_call 124; refine (HP.out _ _ (by repeat (first | exact HW.out | apply SI.drewN))).mono ?_; rintro e w1 ⟨rfl, hs1⟩; have HW1 := Aside0.mk hs1; clear hs1))
  go_end0
  exact ⟨rfl, HW1.out⟩
theorem sort_tiny {T : TypeId} {rv : Value} {gn gl gs : Nat} (hm : Meth T rv gn gl gs) (n : Nat) (hn : n ≤ 1)
    (hlen : ∀ W, Calls Tryz.prog gn #[rv] W fun e w' => e = .returned (.int .i64 n) ∧ Drawn0 W w') (w : World) :
    Calls Tryz.prog 102 #[.iface T rv] w fun e w' => e = .returned (.tuple #[]) ∧ Drawn0 w w' := by
  have HL := Lib.hid hlen
  have mN := hm.n
  have eN := hm.en
  have d1 : decide ((n : Int) ≤ 1) = true := decide_eq_true (by omega)
  clear hm hlen hn
  go_enter Tryz.func102, Tryz.ntmps102
  go_wp2_with (go_at_fn gn; refine (HL.out _).mono ?_; rintro e w1 ⟨rfl, ⟨q1, rfl⟩⟩)
  (try simp only [Exit.inBlock, Exit.then])
  refine bodyPost_ret (results_none rfl _ _ _) rfl ?_
  exact ⟨rfl, by repeat (first | exact Drawn0.refl _ | apply Drawn0.step)⟩
end Go.Proofs.YtgoeiflddikihaaGreatDoor.Srt
end
section
namespace Go.Proofs.YtgoeiflddikihaaGreatDoor.Ver
set_option linter.unusedSimpArgs false
set_option linter.unusedVariables false
open Go.RowKit Go.Proofs.YtgoeiflddikihaaGreatDoor.PFnIntersectAny Go.Proofs.YtgoeiflddikihaaGreatDoorW.PrintWords Go.Proofs.YtgoeiflddikihaaGreatDoor.Mem
abbrev Bs := List UInt8
def mkT (l : Bs) : ByteArray := ⟨l.toArray⟩
theorem mkT_list (l : Bs) : (mkT l).data.toList = l := rfl
theorem mkT_of (s : ByteArray) : mkT s.data.toList = s := by apply ByteArray.ext; simp [mkT]
theorem mkT_size (l : Bs) : (mkT l).size = l.length := by show l.toArray.size = _; simp
theorem mkT_tolist (l : Bs) : (mkT l).toList = l := by rw [ByteArray.toList_eq]; rfl
theorem mkT_bt (l : Bs) (i : Nat) (h : i < l.length) : bt (mkT l) (i : Int) = ((l[i].toNat : Nat) : Int) := by
  unfold bt
  rw [Int.toNat_natCast, dif_pos (by rw [mkT_size]; exact h)]
  rfl
theorem mkT_extract (l : Bs) (i j : Nat) : (mkT l).extract i j = mkT ((l.take j).drop i) := by
  apply ByteArray.ext
  apply Array.ext'
  simp [mkT, List.drop_take]
def ltrimL : Bs → Bs
  | [] => []
  | c :: l => if c = 32 then ltrimL l else c :: l
def rtrimL (l : Bs) : Bs := (ltrimL l.reverse).reverse
def trimL (l : Bs) : Bs := rtrimL (ltrimL l)
def trimD (s : ByteArray) : ByteArray := mkT (trimL s.data.toList)
theorem ltrimL_len : ∀ l : Bs, (ltrimL l).length ≤ l.length
  | [] => Nat.le_refl _
  | c :: l => by
    rw [ltrimL]
    split
    · exact Nat.le_succ_of_le (ltrimL_len l)
    · exact Nat.le_refl _
theorem rtrimL_len (l : Bs) : (rtrimL l).length ≤ l.length := by
  unfold rtrimL
  rw [List.length_reverse]
  exact Nat.le_trans (ltrimL_len _) (by rw [List.length_reverse]; exact Nat.le_refl _)
theorem trimL_len (l : Bs) : (trimL l).length ≤ l.length := Nat.le_trans (rtrimL_len _) (ltrimL_len _)
theorem trimD_size (s : ByteArray) : (trimD s).size ≤ s.size := by
  unfold trimD; rw [mkT_size]
  exact Nat.le_trans (trimL_len _) (by rw [Array.length_toList]; exact Nat.le_refl _)
theorem u8_32 (c : UInt8) : (((c.toNat : Nat) : Int) = 32) ↔ c = 32 := by
  constructor
  · intro h
    apply UInt8.toNat_inj.1
    show c.toNat = 32
    omega
  · rintro rfl; rfl
theorem rtrim_run (r : Bs) : ∀ n, r.length + 1 < n → r.length ≤ 1000000000000 → semver_trim.l1 n (mkT r.reverse) = some (mkT (ltrimL r).reverse) := by
  induction r with
  | nil =>
    intro n hn _
    obtain ⟨n, rfl⟩ : ∃ i, n = i + 1 := ⟨n - 1, by simp at hn; omega⟩
    rw [semver_trim.l1, if_pos (by rw [mkT_tolist]; rfl)]
    rfl
  | cons c r ih =>
    intro n hn hb
    rw [List.length_cons] at hn hb
    obtain ⟨n, rfl⟩ : ∃ i, n = i + 1 := ⟨n - 1, by omega⟩
    have hs : (mkT (c :: r).reverse).size = r.length + 1 := by rw [mkT_size, List.length_reverse, List.length_cons]
    have w1 : wrap64 (((mkT (c :: r).reverse).size : Int) - 1) = ((r.length : Nat) : Int) := by rw [hs, wrap_in (by omega) (by omega)]; omega
    have hne : (mkT (c :: r).reverse).toList ≠ ([] : Bs) := by rw [mkT_tolist]; simp
    have hbt : bt (mkT (c :: r).reverse) ((r.length : Nat) : Int) = ((c.toNat : Nat) : Int) := by
      rw [mkT_bt _ _ (by simp)]
      congr 2
      simp
    have hex : (mkT (c :: r).reverse).extract 0 r.length = mkT r.reverse := by
      rw [mkT_extract]
      congr 1
      simp
    rw [semver_trim.l1, if_neg hne, w1, if_pos (by omega), hs, if_pos (by omega), hbt, Int.toNat_natCast, hex]
    rw [ltrimL]
    by_cases hc : c = 32
    · rw [if_pos ((u8_32 c).2 hc), if_pos (by omega), if_pos hc]
      exact ih n (by omega) (by omega)
    · rw [if_neg (fun h => hc ((u8_32 c).1 h)), if_neg hc]
theorem ltrim_run (l : Bs) : ∀ n, 2 * l.length + 3 < n → l.length ≤ 1000000000000 → semver_trim.l0 n (mkT l) = some (mkT (trimL l)) := by
  have tail : ∀ (l : Bs) n, l.length + 2 < n → l.length ≤ 1000000000000 → semver_trim.j1 n (mkT l) = some (mkT (rtrimL l)) := by
    intro l n hn hb
    obtain ⟨n, rfl⟩ : ∃ i, n = i + 1 := ⟨n - 1, by omega⟩
    rw [semver_trim.j1]
    have := rtrim_run l.reverse n (by rw [List.length_reverse]; omega) (by rw [List.length_reverse]; omega)
    rw [List.reverse_reverse] at this
    exact this
  induction l with
  | nil =>
    intro n hn hb
    obtain ⟨n, rfl⟩ : ∃ i, n = i + 1 := ⟨n - 1, by omega⟩
    rw [semver_trim.l0, if_pos (by rw [mkT_tolist])]
    exact tail [] n (by simp at hn ⊢; omega) hb
  | cons c l ih =>
    intro n hn hb
    rw [List.length_cons] at hn hb
    obtain ⟨n, rfl⟩ : ∃ i, n = i + 1 := ⟨n - 1, by omega⟩
    have hs : (mkT (c :: l)).size = l.length + 1 := by rw [mkT_size, List.length_cons]
    have hne : (mkT (c :: l)).toList ≠ ([] : Bs) := by rw [mkT_tolist]; simp
    have hbt : bt (mkT (c :: l)) 0 = ((c.toNat : Nat) : Int) := mkT_bt (c :: l) 0 (by simp)
    have hex : (mkT (c :: l)).extract 1 (mkT (c :: l)).size = mkT l := by
      rw [mkT_extract, hs]
      congr 1
      simp
    rw [semver_trim.l0, if_neg hne, if_pos (by omega), hbt, hex, hs]
    unfold trimL
    rw [ltrimL]
    by_cases hc : c = 32
    · rw [if_pos ((u8_32 c).2 hc), if_pos (by omega), if_pos hc]
      exact ih n (by omega) (by omega)
    · rw [if_neg (fun h => hc ((u8_32 c).1 h)), if_neg hc]
      exact tail (c :: l) n (by rw [List.length_cons]; omega) (by rw [List.length_cons]; omega)
theorem trimD_calls (s : ByteArray) (hs : s.size ≤ 1000000000000) (W : World) : Calls Tryz.prog 142 #[.string s] W fun e w' => e = .returned (.string (trimD s)) ∧ Drawn0 W w' := by
  refine semver_trim.calls (2 * s.data.toList.length + 4) s (trimD s) W ?_
  have := ltrim_run s.data.toList (2 * s.data.toList.length + 4) (by omega) (by rw [Array.length_toList]; exact hs)
  rw [mkT_of] at this
  exact this
def splitL (sep : Bs) : Nat → Bs → Bs → List Bs
  | 0, cur, l => [cur ++ l]
  | n + 1, cur, l => match l with
    | [] => [cur]
    | c :: r => if (c :: r).take sep.length = sep then cur :: splitL sep n [] ((c :: r).drop sep.length) else splitL sep n (cur ++ [c]) r
def splitD (sep s : ByteArray) : List ByteArray := (splitL sep.data.toList s.size [] s.data.toList).map mkT
theorem wrap_back {n : Nat} (h : 1 ≤ n) (h2 : n ≤ 2000000000000) : wrap64 (wrap64 ((n : Int) - 1) + 1) = (n : Int) := by
  have e : wrap64 ((n : Int) - 1) = (n : Int) - 1 := wrap_in (by omega) (by omega)
  rw [e, wrap_in (by omega) (by omega)]; omega
theorem split_run (sep : Bs) (l : Bs) (hl : l.length ≤ 1000000000000) (h1 : 1 ≤ sep.length) (h2 : sep.length ≤ 1000) : ∀ (d n m last j : Nat) (out : List ByteArray), l.length - j = d → d < n → d ≤ m → last ≤ j → j ≤ l.length → out.length ≤ j →
    semver_split.l0 n (mkT l) (mkT sep) out (last : Int) (j : Int) = some (out ++ (splitL sep m ((l.take j).drop last) (l.drop j)).map mkT) := by
  intro d
  induction d using Nat.strongRecOn with
  | _ d ih =>
  intro n m last j out hd hn hm hlj hj hout
  obtain ⟨n, rfl⟩ : ∃ i, n = i + 1 := ⟨n - 1, by omega⟩
  have w1 : wrap64 ((j : Int) + ((mkT sep).size : Int)) = ((j + sep.length : Nat) : Int) := by rw [mkT_size, wrap_in (by omega) (by omega)]; omega
  have w2 : wrap64 ((j : Int) + 1) = ((j + 1 : Nat) : Int) := by clear w1; rw [wrap_in (by omega) (by omega)]; omega
  have w3 : wrap64 (wrap64 (((j + sep.length : Nat) : Int) - 1) + 1) = ((j + sep.length : Nat) : Int) := by
    clear w1 w2
    have a1 : 1 ≤ j + sep.length := by omega
    have a2 : j + sep.length ≤ 2000000000000 := by omega
    generalize j + sep.length = k at a1 a2 ⊢
    exact wrap_back a1 a2
  rw [semver_split.l0, w1, w2, w3, mkT_size]
  clear w1 w2 w3
  by_cases hc : j + sep.length ≤ l.length
  · rw [if_pos (by omega), if_pos (by omega), if_pos (by omega), Int.toNat_natCast, Int.toNat_natCast, Int.toNat_natCast, mkT_extract, mkT_extract, mkT_tolist, mkT_tolist]
    obtain ⟨m, rfl⟩ : ∃ i, m = i + 1 := ⟨m - 1, by omega⟩
    obtain ⟨c, r, hcr⟩ : ∃ c r, l.drop j = c :: r := by
      cases h : l.drop j with
      | nil => have := congrArg List.length h; rw [List.length_drop] at this; simp at this; omega
      | cons c r => exact ⟨c, r, rfl⟩
    have hr : l.drop (j + 1) = r := by rw [← List.drop_drop, hcr]; rfl
    have hdt : (l.take (j + sep.length)).drop j = (c :: r).take sep.length := by rw [← hcr, List.drop_take]; congr 1; omega
    rw [hdt, hcr]
    show _ = some (out ++ (if (c :: r).take sep.length = sep then (l.take j).drop last :: splitL sep m [] ((c :: r).drop sep.length) else splitL sep m ((l.take j).drop last ++ [c]) r).map mkT)
    by_cases he : (c :: r).take sep.length = sep
    · rw [if_pos he, if_pos he, if_pos (by omega), if_pos (by omega), if_pos (by omega), if_pos (by omega)]
      rw [ih (l.length - (j + sep.length)) (by omega) n m (j + sep.length) (j + sep.length) _ rfl (by omega) (by omega) (Nat.le_refl _) hc (by rw [List.length_append, List.length_singleton]; omega)]
      have h0 : (l.take (j + sep.length)).drop (j + sep.length) = [] := List.drop_eq_nil_of_le (by rw [List.length_take]; omega)
      rw [h0, ← hcr, List.drop_drop, List.map_cons, List.append_assoc]
      rfl
    · rw [if_neg he, if_neg he]
      rw [ih (l.length - (j + 1)) (by omega) n m last (j + 1) out rfl (by omega) (by omega) (by omega) (by omega) (by omega)]
      have hjc : l[j]'(by omega) = c := by
        have := congrArg (fun x => x[0]?) hcr
        simp at this
        rw [List.getElem?_eq_getElem (by omega)] at this
        exact Option.some.inj this
      have e1 : (l.take (j + 1)).drop last = (l.take j).drop last ++ [c] := by
        rw [List.take_succ_eq_append_getElem (by omega), List.drop_append_of_le_length (by rw [List.length_take]; omega), hjc]
      rw [hr, e1]
  · rw [if_neg (by omega), if_pos (by omega), if_pos (by omega), if_pos (by omega), Int.toNat_natCast, mkT_extract]
    have rest : ∀ (m : Nat) (cur r : Bs), r.length < sep.length → r.length ≤ m → splitL sep m cur r = [cur ++ r] := by
      intro m
      induction m with
      | zero => intro cur r _ _; rfl
      | succ m ihm =>
        intro cur r h1 h2
        cases r with
        | nil => rw [splitL, List.append_nil]
        | cons c r =>
          rw [splitL, if_neg]
          · rw [ihm _ _ (by rw [List.length_cons] at h1; omega) (by rw [List.length_cons] at h2; omega), List.append_assoc]; rfl
          · intro e
            have := congrArg List.length e
            rw [List.length_take] at this
            omega
    rw [rest m _ _ (by rw [List.length_drop]; omega) (by rw [List.length_drop]; omega)]
    have e1 : (l.take l.length).drop last = (l.take j).drop last ++ l.drop j := by
      rw [List.take_length]
      have : l.drop last = (l.take j ++ l.drop j).drop last := by rw [List.take_append_drop]
      rw [this, List.drop_append_of_le_length (by rw [List.length_take]; omega)]
    rw [e1]; rfl
theorem split_f' (s sep : ByteArray) (hs : s.size ≤ 1000000000000) (h1 : 1 ≤ sep.size) (h2 : sep.size ≤ 1000) : semver_split.f (s.size + 1) s sep = some (splitD sep s) := by
  have hl : s.data.toList.length = s.size := Array.length_toList
  have hl2 : sep.data.toList.length = sep.size := Array.length_toList
  have := split_run sep.data.toList s.data.toList (by omega) (by omega) (by omega) s.size (s.size + 1) s.size 0 0 [] (by omega) (by omega) (Nat.le_refl _) (Nat.le_refl _) (by omega) (Nat.le_refl _)
  rw [mkT_of, mkT_of] at this
  exact this
abbrev StrR (w : World) (base : Nat) (v : Value) (l : List ByteArray) : Prop := w.ownsRow base 9 1 v l.length (l.map Value.string)
theorem splitD_calls (s sep : ByteArray) (hs : s.size ≤ 1000000000000) (h1 : 1 ≤ sep.size) (h2 : sep.size ≤ 1000) (W : World) :
    Calls Tryz.prog 140 #[.string s, .string sep] W fun e w' => (∃ v, e = .returned v ∧ StrR w' W.heap.size v (splitD sep s)) ∧ Below W.heap.size W w' := by
  refine (semver_split.calls _ s sep _ W (split_f' s sep hs h1 h2)).mono ?_
  rintro e w' ⟨v, rfl, hr, hb⟩
  obtain ⟨_, inner, ho, hr⟩ := hr
  rw [reps_strings hr] at ho
  exact ⟨⟨v, rfl, ho⟩, hb⟩
end Go.Proofs.YtgoeiflddikihaaGreatDoor.Ver
end
section
namespace Go.Proofs.YtgoeiflddikihaaGreatDoor.Ver
open Go.RowKit Go.Proofs.YtgoeiflddikihaaGreatDoor.Dig Go.Proofs.YtgoeiflddikihaaGreatDoorW.PrintWords
theorem numOf_lt {l r : List UInt8} {u : Nat} (h : numOf l = some (u, r)) : u < 18446744073709551616 ∧ r.length ≤ l.length := by
  unfold numOf at h
  split at h
  · cases h
  · split at h
    · rename_i u' hu
      simp at h
      obtain ⟨rfl, rfl⟩ := h
      have := Lib.parseUintB_le hu
      exact ⟨by have e : 2 ^ 64 - 1 = 18446744073709551615 := rfl; omega, by rw [List.length_drop]; omega⟩
    · cases h
theorem nums_ok : ∀ (m : Nat) (acc ns : List Nat) (l r : List UInt8), (∀ x ∈ acc, x < 18446744073709551616) → nums m acc l = some (ns, r) → (∀ x ∈ ns, x < 18446744073709551616) ∧ r.length ≤ l.length
  | 0, _, _, _, _, _, h => by simp [nums] at h
  | m + 1, acc, ns, l, r, ha, h => by
    rw [nums] at h
    split at h
    · cases h
    · rename_i a r' hn
      have hl := numOf_lt hn
      have hb : ∀ x ∈ acc ++ [a], x < 18446744073709551616 := fun x hx => by
        rcases List.mem_append.1 hx with hx | hx
        · exact ha x hx
        · rw [List.mem_singleton] at hx; rw [hx]; exact hl.1
      split at h
      · have := nums_ok m _ _ _ _ hb h
        exact ⟨this.1, by have h2 := this.2; rw [List.length_drop] at h2; omega⟩
      · simp at h
        obtain ⟨rfl, rfl⟩ := h
        exact ⟨hb, hl.2⟩
theorem part_len {c : UInt8} {l p r : List UInt8} (h : part c l = some (p, r)) : p.length ≤ l.length ∧ r.length ≤ l.length := by
  cases l with
  | nil => simp [part] at h; rw [h.1, h.2]; simp
  | cons x q =>
    rw [part] at h
    split at h
    · split at h
      · cases h
      · simp at h
        obtain ⟨rfl, rfl⟩ := h
        rw [List.length_take, List.length_drop, List.length_cons]
        omega
    · simp at h
      obtain ⟨rfl, rfl⟩ := h
      simp
theorem getD_lt {ns : List Nat} (h : ∀ x ∈ ns, x < 18446744073709551616) (i : Nat) : ns.getD i 0 < 18446744073709551616 := by
  rw [List.getD_eq_getElem?_getD]
  cases hx : ns[i]? with
  | none => simp
  | some x => exact h x (List.mem_of_getElem? hx)
theorem readV_ok' {s : ByteArray} {v : SV} {k : Nat} (hs : s.size ≤ 2147483647) (h : readV s = some (v, k)) : SVok v ∧ v.orig = s := by
  have hb := bare0_size s
  unfold readV at h
  split at h
  · cases h
  · rename_i ns r hn
    have h1 := nums_ok 3 [] ns _ r (fun x hx => by cases hx) hn
    split at h
    · cases h
    · rename_i pre r1 hp
      have h2 := part_len hp
      split at h
      · cases h
      · rename_i mt r2 hm
        have h3 := part_len hm
        split at h
        · injection h with h
          injection h with h h'
          subst h
          refine ⟨⟨by simp, ?_, by simp, ?_, by simp, ?_, ?_, ?_⟩, rfl⟩
          · show ((ns.getD 0 0 : Nat) : Int) < _
            have := getD_lt h1.1 0; omega
          · show ((ns.getD 1 0 : Nat) : Int) < _
            have := getD_lt h1.1 1; omega
          · show ((ns.getD 2 0 : Nat) : Int) < _
            have := getD_lt h1.1 2; omega
          · show pre.toArray.size ≤ _
            rw [List.size_toArray]; omega
          · show mt.toArray.size ≤ _
            rw [List.size_toArray]; omega
        · cases h
def Unp.ok : Unp → Prop
  | .branch n _ => n.size ≤ 2147483647
  | .plain n => n.size ≤ 2147483647
  | .sem v => SVok v ∧ v.orig.size ≤ 2147483647
def Vers.ok : Vers → Prop
  | .rev s => s.size ≤ 2147483647
  | .un u => u.ok
  | .pair u r => u.ok ∧ r.size ≤ 2147483647
theorem newV_ok {s : ByteArray} (hs : s.size ≤ 2147483647) : (newV s).ok := by
  unfold newV
  split
  · exact hs
  · rename_i v k h
    have := readV_ok' hs h
    exact ⟨this.1, by rw [this.2]; exact hs⟩
theorem unpV_ok {k : Int} {t : ByteArray} (ht : t.size ≤ 2147483647) {u : Unp} (h : unpV k t = some u) : u.ok := by
  unfold unpV at h
  repeat' split at h
  · cases h; exact ht
  · cases h; exact ht
  · cases h; exact newV_ok ht
  · cases h
theorem verV_ok (k : Int) {t r : ByteArray} (ht : t.size ≤ 2147483647) (hr : r.size ≤ 2147483647) : (verV k t r).ok := by
  unfold verV
  split
  · exact ht
  · rename_i u hu
    split
    · exact unpV_ok ht hu
    · exact ⟨unpV_ok ht hu, hr⟩
end Go.Proofs.YtgoeiflddikihaaGreatDoor.Ver
end
section
namespace Go.Proofs.YtgoeiflddikihaaGreatDoor.Ver
open Go.RowKit Go.Proofs.YtgoeiflddikihaaGreatDoorW.PrintWords Go.Proofs.YtgoeiflddikihaaGreatDoor.Ord
set_option maxHeartbeats 2000000 in
theorem equal_any (v u : SV) (hv : v.pre.size ≤ 140737488351232) (hu : u.pre.size ≤ 140737488351232) (w : World) :
    Calls Tryz.prog 234 #[.agg v.cells, .agg u.cells] w fun e w' => e = .returned (.bool (cmpV v u == 0)) ∧ Below w.heap.size w w' := by
  have HC := Lib.hid (fun W => cmp_any v u hv hu W)
  have HB := Aside0.mk (Below.refl w.heap.size w)
  generalize cmpV v u = c at *
  obtain ⟨va, vb, vc, vp, vm, vo⟩ := v
  obtain ⟨ua, ub, uc, up, um, uo⟩ := u
  dsimp only [SV.cells] at HC hv hu ⊢
  go_enter Tryz.func234, Tryz.ntmps234
  go_wp2_with (first
    | (go_at_call 209; ((with_reducible refine (HC.out _).mono ?_); rintro e w1 ⟨rfl, hb⟩; have HB5 := Aside0.mk (below_trans (by repeat (first | exact HB.out | apply below_alloc | apply pw_below_drewN)) hb); clear hb)))
  go_ret
  exact ⟨rfl, by repeat (first | exact HB5.out | apply below_alloc | apply pw_below_drewN)⟩
set_option maxHeartbeats 2000000 in
theorem less_any (v u : SV) (hv : v.pre.size ≤ 140737488351232) (hu : u.pre.size ≤ 140737488351232) (w : World) :
    Calls Tryz.prog 207 #[.agg v.cells, .agg u.cells] w fun e w' => e = .returned (.bool (decide (cmpV v u < 0))) ∧ Below w.heap.size w w' := by
  have HC := Lib.hid (fun W => cmp_any v u hv hu W)
  have HB := Aside0.mk (Below.refl w.heap.size w)
  generalize cmpV v u = c at *
  obtain ⟨va, vb, vc, vp, vm, vo⟩ := v
  obtain ⟨ua, ub, uc, up, um, uo⟩ := u
  dsimp only [SV.cells] at HC hv hu ⊢
  go_enter Tryz.func207, Tryz.ntmps207
  go_wp2_with (first
    | (go_at_call 209; ((with_reducible refine (HC.out _).mono ?_); rintro e w1 ⟨rfl, hb⟩; have HB5 := Aside0.mk (below_trans (by repeat (first | exact HB.out | apply below_alloc | apply pw_below_drewN)) hb); clear hb)))
  go_ret
  exact ⟨rfl, by repeat (first | exact HB5.out | apply below_alloc | apply pw_below_drewN)⟩
set_option maxHeartbeats 2000000 in
theorem more_any (v u : SV) (hv : v.pre.size ≤ 140737488351232) (hu : u.pre.size ≤ 140737488351232) (w : World) :
    Calls Tryz.prog 208 #[.agg v.cells, .agg u.cells] w fun e w' => e = .returned (.bool (decide (cmpV v u > 0))) ∧ Below w.heap.size w w' := by
  have HC := Lib.hid (fun W => cmp_any v u hv hu W)
  have HB := Aside0.mk (Below.refl w.heap.size w)
  generalize cmpV v u = c at *
  obtain ⟨va, vb, vc, vp, vm, vo⟩ := v
  obtain ⟨ua, ub, uc, up, um, uo⟩ := u
  dsimp only [SV.cells] at HC hv hu ⊢
  go_enter Tryz.func208, Tryz.ntmps208
  go_wp2_with (first
    | (go_at_call 209; ((with_reducible refine (HC.out _).mono ?_); rintro e w1 ⟨rfl, hb⟩; have HB5 := Aside0.mk (below_trans (by repeat (first | exact HB.out | apply below_alloc | apply pw_below_drewN)) hb); clear hb)))
  go_ret
  exact ⟨rfl, by repeat (first | exact HB5.out | apply below_alloc | apply pw_below_drewN)⟩
theorem prerel_any (v : SV) (w : World) :
    Calls Tryz.prog 206 #[.agg v.cells] w fun e w' => e = .returned (.string v.pre) ∧ Below w.heap.size w w' := by
  have HB := Aside0.mk (Below.refl w.heap.size w)
  obtain ⟨va, vb, vc, vp, vm, vo⟩ := v
  dsimp only [SV.cells]
  go_enter Tryz.func206, Tryz.ntmps206
  go_wp2_with fail
  go_ret
  exact ⟨rfl, by repeat (first | exact HB.out | apply below_alloc | apply pw_below_drewN)⟩
end Go.Proofs.YtgoeiflddikihaaGreatDoor.Ver
end
