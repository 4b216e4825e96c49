/- Merged by program out of: VStr, VOk, VAs, Scm. -/
import Derived.Test.YtgoeiflddikihaaGreatDoorCvM16
import Derived.RegionTactic
import Derived.Deep.RegionLaw
import Derived.BigQuiet
import Derived.Lib.QuietBelow
import Derived.Lib.ParseIntBCases
import Derived.Test.YtgoeiflddikihaaGreatDoorCvM9
import Derived.Test.YtgoeiflddikihaaGreatDoorCvM15
section
set_option linter.unusedSimpArgs false
namespace Go.Proofs.YtgoeiflddikihaaGreatDoor.Ver
open Go.RowKit Go.Proofs.YtgoeiflddikihaaGreatDoor.Dig Go.Proofs.YtgoeiflddikihaaGreatDoorW.PrintWords
structure SVok (v : SV) : Prop where
  a0 : 0 ≤ v.major
  a1 : v.major < 18446744073709551616
  b0 : 0 ≤ v.minor
  b1 : v.minor < 18446744073709551616
  c0 : 0 ≤ v.patch
  c1 : v.patch < 18446744073709551616
  p : v.pre.size ≤ 4294967296
  m : v.mt.size ≤ 4294967296
def decB (n : Int) : ByteArray := ⟨(Lib.decDigits n.toNat).toArray⟩
def threeB (v : SV) : ByteArray := decB v.major ++ ⟨#[46]⟩ ++ decB v.minor ++ ⟨#[46]⟩ ++ decB v.patch
def preB (v : SV) : ByteArray := if v.pre = ⟨#[]⟩ then threeB v else threeB v ++ (⟨#[45]⟩ ++ v.pre)
def semB (v : SV) : ByteArray := if v.mt = ⟨#[]⟩ then preB v else preB v ++ (⟨#[43]⟩ ++ v.mt)
theorem decB_size (n : Int) (h0 : 0 ≤ n) (h : n < 18446744073709551616) : (decB n).size ≤ 21 := by
  show (Lib.decDigits n.toNat).toArray.size ≤ 21
  rw [List.size_toArray, Lib.decDigits_length]
  by_cases h1 : 1 ≤ n.toNat
  · have := Lib.numDigits_eq n.toNat h1 (by omega)
    split at this <;> omega
  · have : n.toNat = 0 := by omega
    rw [this, ← Lib.decDigits_length, Lib.decDigits, dif_pos (by omega)]; simp
set_option maxRecDepth 20000 in
theorem semStr_any (v : SV) (hk : SVok v) (w : World) (hv : Vars w) : Calls Tryz.prog 233 #[.agg v.cells] w fun e w' => e = .returned (.string (semB v)) ∧ Below w.heap.size w w' := by
  obtain ⟨va, vb, vc, vp, vm, vo⟩ := v
  obtain ⟨a0, a1, b0, b1, c0, c1, hp, hm⟩ := hk
  dsimp only at a0 a1 b0 b1 c0 c1 hp hm
  have w0 : Below w.heap.size w (w.alloc (.cells #[.int .u64 va, .int .u64 vb, .int .u64 vc, .string vp, .string vm, .string vo] 197)) := below_alloc (Below.refl _ _) _
  have cI : ∀ (n : Int), 0 ≤ n → n < 18446744073709551616 → ∀ d os, Calls Tryz.prog 235 #[.int .u64 n, .int .i64 10] (Sort.grow (redrawn (w.alloc (.cells #[.int .u64 va, .int .u64 vb, .int .u64 vc, .string vp, .string vm, .string vo] 197)) d) os) fun e w'' => e = .returned (.string (decB n)) ∧ ∃ p : Regrown, w'' = Sort.grow (redrawn (w.alloc (.cells #[.int .u64 va, .int .u64 vb, .int .u64 vc, .string vp, .string vm, .string vo] 197)) p.d) p.os :=
    fun n h0 h1 d os => Calls.regrown_of (by
      have h := fmtU_any n.toNat (by omega) _ ((hv.below w0).below (below_regrown _ d os))
      rw [show ((n.toNat : Nat) : Int) = n by omega] at h
      exact h)
  have CA := Lib.hid (cI va a0 a1)
  have CB := Lib.hid (cI vb b0 b1)
  have CC := Lib.hid (cI vc c0 c1)
  have la := decB_size va a0 a1
  have lb := decB_size vb b0 b1
  have lc := decB_size vc c0 c1
  have k0 := cell_regrown (blk_cell (alloc_at w (.cells #[.int .u64 va, .int .u64 vb, .int .u64 vc, .string vp, .string vm, .string vo] 197)) 0)
  have k1 := cell_regrown (blk_cell (alloc_at w (.cells #[.int .u64 va, .int .u64 vb, .int .u64 vc, .string vp, .string vm, .string vo] 197)) 1)
  have k2 := cell_regrown (blk_cell (alloc_at w (.cells #[.int .u64 va, .int .u64 vb, .int .u64 vc, .string vp, .string vm, .string vo] 197)) 2)
  have k3 := cell_regrown (blk_cell (alloc_at w (.cells #[.int .u64 va, .int .u64 vb, .int .u64 vc, .string vp, .string vm, .string vo] 197)) 3)
  have k4 := cell_regrown (blk_cell (alloc_at w (.cells #[.int .u64 va, .int .u64 vb, .int .u64 vc, .string vp, .string vm, .string vo] 197)) 4)
  have hS : semB ⟨va, vb, vc, vp, vm, vo⟩ = (if vm = ⟨#[]⟩ then (if vp = ⟨#[]⟩ then decB va ++ ⟨#[46]⟩ ++ decB vb ++ ⟨#[46]⟩ ++ decB vc else decB va ++ ⟨#[46]⟩ ++ decB vb ++ ⟨#[46]⟩ ++ decB vc ++ (⟨#[45]⟩ ++ vp)) else (if vp = ⟨#[]⟩ then decB va ++ ⟨#[46]⟩ ++ decB vb ++ ⟨#[46]⟩ ++ decB vc else decB va ++ ⟨#[46]⟩ ++ decB vb ++ ⟨#[46]⟩ ++ decB vc ++ (⟨#[45]⟩ ++ vp)) ++ (⟨#[43]⟩ ++ vm)) := rfl
  rw [hS]
  dsimp only [SV.cells]
  clear cI a0 a1 b0 b1 c0 c1 hS hv
  generalize decB va = sa at *
  generalize decB vb = sb at *
  generalize decB vc = sc at *
  go_enter Tryz.func233, Tryz.ntmps233
  have n1 : ¬ 9223372036854775807 < sa.size + 1 := by omega
  have n2 : ¬ 9223372036854775807 < sa.size + 1 + sb.size := by omega
  have n3 : ¬ 9223372036854775807 < sa.size + 1 + sb.size + 1 := by omega
  have n4 : ¬ 9223372036854775807 < sa.size + 1 + sb.size + 1 + sc.size := by omega
  go_wp2
  refine wp_region_quiet_below (by kernel_rfl) (by kernel_rfl) ?_
  repeat (quiet_step (first | exact CA.out _ _ | exact CB.out _ _ | exact CC.out _ _))
  refine wpQuiet_nil ?_
  intro _ hw'
  obtain ⟨⟨dq, osq⟩, hw''⟩ := hw'
  subst hw''
  have hsum : (sa ++ ⟨#[46]⟩ ++ sb ++ ⟨#[46]⟩ ++ sc).size ≤ 100 := by simp only [ByteArray.size_append]; have : (⟨#[46]⟩ : ByteArray).size = 1 := rfl; omega
  clear n1 n2 n3 n4
  generalize ht : sa ++ ⟨#[46]⟩ ++ sb ++ ⟨#[46]⟩ ++ sc = t3 at *
  have HT := Lib.hid ht
  clear ht
  have z3 := k3 dq osq
  have z4 := k4 dq osq
  have HBB := Aside0.mk (below_trans w0 (below_regrown _ dq osq))
  have hone : (⟨#[45]⟩ : ByteArray).size = 1 := rfl
  have hone2 : (⟨#[43]⟩ : ByteArray).size = 1 := rfl
  have m1 : ¬ 9223372036854775807 < 1 + vp.size := by omega
  have m2 : ¬ 9223372036854775807 < t3.size + (1 + vp.size) := by omega
  have m3 : ¬ 9223372036854775807 < 1 + vm.size := by omega
  have m4 : ¬ 9223372036854775807 < t3.size + (1 + vm.size) := by omega
  have m5 : ¬ 9223372036854775807 < t3.size + (1 + vp.size) + (1 + vm.size) := by omega
  clear k0 k1 k2 k3 k4 w0 CA CB CC
  by_cases hp0 : vp = ⟨#[]⟩
  · by_cases hm0 : vm = ⟨#[]⟩
    · have e1 : vp.toList.isEmpty = true := isEmpty_true (by rw [hp0]; rfl)
      have e2 : vm.toList.isEmpty = true := isEmpty_true (by rw [hm0]; rfl)
      have HM0 := Lib.hid hm0
      have HP0 := Lib.hid hp0
      clear hp0 hm0
      go_wp2
      go_ret
      refine ⟨?_, by first | exact HBB.out | exact below_trans (below_alloc (Below.refl _ _) _) (below_regrown _ _ _)⟩
      simp [HT.out, HM0.out, HP0.out]
    · have e1 : vp.toList.isEmpty = true := isEmpty_true (by rw [hp0]; rfl)
      have e2 : vm.toList.isEmpty = false := isEmpty_false (size_pos hm0)
      have HM0 := Lib.hid hm0
      have HP0 := Lib.hid hp0
      clear hp0 hm0
      go_wp2
      go_ret
      refine ⟨?_, by first | exact HBB.out | exact below_trans (below_alloc (Below.refl _ _) _) (below_regrown _ _ _)⟩
      simp [HT.out, HM0.out, HP0.out]
  · by_cases hm0 : vm = ⟨#[]⟩
    · have e1 : vp.toList.isEmpty = false := isEmpty_false (size_pos hp0)
      have e2 : vm.toList.isEmpty = true := isEmpty_true (by rw [hm0]; rfl)
      have HM0 := Lib.hid hm0
      have HP0 := Lib.hid hp0
      clear hp0 hm0
      go_wp2
      go_ret
      refine ⟨?_, by first | exact HBB.out | exact below_trans (below_alloc (Below.refl _ _) _) (below_regrown _ _ _)⟩
      simp [HT.out, HM0.out, HP0.out]
    · have e1 : vp.toList.isEmpty = false := isEmpty_false (size_pos hp0)
      have e2 : vm.toList.isEmpty = false := isEmpty_false (size_pos hm0)
      have HM0 := Lib.hid hm0
      have HP0 := Lib.hid hp0
      clear hp0 hm0
      go_wp2
      go_ret
      refine ⟨?_, by first | exact HBB.out | exact below_trans (below_alloc (Below.refl _ _) _) (below_regrown _ _ _)⟩
      simp [HT.out, HM0.out, HP0.out]
end Go.Proofs.YtgoeiflddikihaaGreatDoor.Ver
end
section
namespace Go.Proofs.YtgoeiflddikihaaGreatDoor.Ver
open Go.RowKit Go.Proofs.YtgoeiflddikihaaGreatDoor.Dig Go.Proofs.YtgoeiflddikihaaGreatDoorW.PrintWords
theorem numOf_lt {l r : List UInt8} {u : Nat} (h : numOf l = some (u, r)) : u < 18446744073709551616 ∧ r.length ≤ l.length := by
  unfold numOf at h
  split at h
  · cases h
  · split at h
    · rename_i u' hu
      simp at h
      obtain ⟨rfl, rfl⟩ := h
      have := Lib.parseUintB_le hu
      exact ⟨by have e : 2 ^ 64 - 1 = 18446744073709551615 := rfl; omega, by rw [List.length_drop]; omega⟩
    · cases h
theorem nums_ok : ∀ (m : Nat) (acc ns : List Nat) (l r : List UInt8), (∀ x ∈ acc, x < 18446744073709551616) → nums m acc l = some (ns, r) → (∀ x ∈ ns, x < 18446744073709551616) ∧ r.length ≤ l.length
  | 0, _, _, _, _, _, h => by simp [nums] at h
  | m + 1, acc, ns, l, r, ha, h => by
    rw [nums] at h
    split at h
    · cases h
    · rename_i a r' hn
      have hl := numOf_lt hn
      have hb : ∀ x ∈ acc ++ [a], x < 18446744073709551616 := fun x hx => by
        rcases List.mem_append.1 hx with hx | hx
        · exact ha x hx
        · rw [List.mem_singleton] at hx; rw [hx]; exact hl.1
      split at h
      · have := nums_ok m _ _ _ _ hb h
        exact ⟨this.1, by have h2 := this.2; rw [List.length_drop] at h2; omega⟩
      · simp at h
        obtain ⟨rfl, rfl⟩ := h
        exact ⟨hb, hl.2⟩
theorem part_len {c : UInt8} {l p r : List UInt8} (h : part c l = some (p, r)) : p.length ≤ l.length ∧ r.length ≤ l.length := by
  cases l with
  | nil => simp [part] at h; rw [h.1, h.2]; simp
  | cons x q =>
    rw [part] at h
    split at h
    · split at h
      · cases h
      · simp at h
        obtain ⟨rfl, rfl⟩ := h
        rw [List.length_take, List.length_drop, List.length_cons]
        omega
    · simp at h
      obtain ⟨rfl, rfl⟩ := h
      simp
theorem getD_lt {ns : List Nat} (h : ∀ x ∈ ns, x < 18446744073709551616) (i : Nat) : ns.getD i 0 < 18446744073709551616 := by
  rw [List.getD_eq_getElem?_getD]
  cases hx : ns[i]? with
  | none => simp
  | some x => exact h x (List.mem_of_getElem? hx)
theorem readV_ok' {s : ByteArray} {v : SV} {k : Nat} (hs : s.size ≤ 2147483647) (h : readV s = some (v, k)) : SVok v ∧ v.orig = s := by
  have hb := bare0_size s
  unfold readV at h
  split at h
  · cases h
  · rename_i ns r hn
    have h1 := nums_ok 3 [] ns _ r (fun x hx => by cases hx) hn
    split at h
    · cases h
    · rename_i pre r1 hp
      have h2 := part_len hp
      split at h
      · cases h
      · rename_i mt r2 hm
        have h3 := part_len hm
        split at h
        · injection h with h
          injection h with h h'
          subst h
          refine ⟨⟨by simp, ?_, by simp, ?_, by simp, ?_, ?_, ?_⟩, rfl⟩
          · show ((ns.getD 0 0 : Nat) : Int) < _
            have := getD_lt h1.1 0; omega
          · show ((ns.getD 1 0 : Nat) : Int) < _
            have := getD_lt h1.1 1; omega
          · show ((ns.getD 2 0 : Nat) : Int) < _
            have := getD_lt h1.1 2; omega
          · show pre.toArray.size ≤ _
            rw [List.size_toArray]; omega
          · show mt.toArray.size ≤ _
            rw [List.size_toArray]; omega
        · cases h
def Unp.ok : Unp → Prop
  | .branch n _ => n.size ≤ 2147483647
  | .plain n => n.size ≤ 2147483647
  | .sem v => SVok v ∧ v.orig.size ≤ 2147483647
def Vers.ok : Vers → Prop
  | .rev s => s.size ≤ 2147483647
  | .un u => u.ok
  | .pair u r => u.ok ∧ r.size ≤ 2147483647
end Go.Proofs.YtgoeiflddikihaaGreatDoor.Ver
end
section
namespace Go.Proofs.YtgoeiflddikihaaGreatDoor.Ver
open Go.RowKit
theorem c_rev_rev (v : Value) (xT : TypeId) (w : World) : (Instr.typeAssert (.iface 135 v) xT 135 true).run Tryz.prog w = .ok (.tuple #[v, .bool true]) w := by kernel_rfl
theorem c_rev_branch (v : Value) (xT : TypeId) (w : World) : (Instr.typeAssert (.iface 135 v) xT 215 true).run Tryz.prog w = .ok (.tuple #[.agg #[.string ⟨#[]⟩, .bool false], .bool false]) w := by kernel_rfl
theorem c_rev_plain (v : Value) (xT : TypeId) (w : World) : (Instr.typeAssert (.iface 135 v) xT 224 true).run Tryz.prog w = .ok (.tuple #[.string ⟨#[]⟩, .bool false]) w := by kernel_rfl
theorem c_rev_sem (v : Value) (xT : TypeId) (w : World) : (Instr.typeAssert (.iface 135 v) xT 200 true).run Tryz.prog w = .ok (.tuple #[.agg zSV, .bool false]) w := by kernel_rfl
theorem c_rev_pair (v : Value) (xT : TypeId) (w : World) : (Instr.typeAssert (.iface 135 v) xT 212 true).run Tryz.prog w = .ok (.tuple #[.agg #[.nilIface, .string ⟨#[]⟩], .bool false]) w := by kernel_rfl
theorem c_branch_rev (v : Value) (xT : TypeId) (w : World) : (Instr.typeAssert (.iface 215 v) xT 135 true).run Tryz.prog w = .ok (.tuple #[.string ⟨#[]⟩, .bool false]) w := by kernel_rfl
theorem c_branch_branch (v : Value) (xT : TypeId) (w : World) : (Instr.typeAssert (.iface 215 v) xT 215 true).run Tryz.prog w = .ok (.tuple #[v, .bool true]) w := by kernel_rfl
theorem c_branch_plain (v : Value) (xT : TypeId) (w : World) : (Instr.typeAssert (.iface 215 v) xT 224 true).run Tryz.prog w = .ok (.tuple #[.string ⟨#[]⟩, .bool false]) w := by kernel_rfl
theorem c_branch_sem (v : Value) (xT : TypeId) (w : World) : (Instr.typeAssert (.iface 215 v) xT 200 true).run Tryz.prog w = .ok (.tuple #[.agg zSV, .bool false]) w := by kernel_rfl
theorem c_branch_pair (v : Value) (xT : TypeId) (w : World) : (Instr.typeAssert (.iface 215 v) xT 212 true).run Tryz.prog w = .ok (.tuple #[.agg #[.nilIface, .string ⟨#[]⟩], .bool false]) w := by kernel_rfl
theorem c_plain_rev (v : Value) (xT : TypeId) (w : World) : (Instr.typeAssert (.iface 224 v) xT 135 true).run Tryz.prog w = .ok (.tuple #[.string ⟨#[]⟩, .bool false]) w := by kernel_rfl
theorem c_plain_branch (v : Value) (xT : TypeId) (w : World) : (Instr.typeAssert (.iface 224 v) xT 215 true).run Tryz.prog w = .ok (.tuple #[.agg #[.string ⟨#[]⟩, .bool false], .bool false]) w := by kernel_rfl
theorem c_plain_plain (v : Value) (xT : TypeId) (w : World) : (Instr.typeAssert (.iface 224 v) xT 224 true).run Tryz.prog w = .ok (.tuple #[v, .bool true]) w := by kernel_rfl
theorem c_plain_sem (v : Value) (xT : TypeId) (w : World) : (Instr.typeAssert (.iface 224 v) xT 200 true).run Tryz.prog w = .ok (.tuple #[.agg zSV, .bool false]) w := by kernel_rfl
theorem c_plain_pair (v : Value) (xT : TypeId) (w : World) : (Instr.typeAssert (.iface 224 v) xT 212 true).run Tryz.prog w = .ok (.tuple #[.agg #[.nilIface, .string ⟨#[]⟩], .bool false]) w := by kernel_rfl
theorem c_sem_rev (v : Value) (xT : TypeId) (w : World) : (Instr.typeAssert (.iface 200 v) xT 135 true).run Tryz.prog w = .ok (.tuple #[.string ⟨#[]⟩, .bool false]) w := by kernel_rfl
theorem c_sem_branch (v : Value) (xT : TypeId) (w : World) : (Instr.typeAssert (.iface 200 v) xT 215 true).run Tryz.prog w = .ok (.tuple #[.agg #[.string ⟨#[]⟩, .bool false], .bool false]) w := by kernel_rfl
theorem c_sem_plain (v : Value) (xT : TypeId) (w : World) : (Instr.typeAssert (.iface 200 v) xT 224 true).run Tryz.prog w = .ok (.tuple #[.string ⟨#[]⟩, .bool false]) w := by kernel_rfl
theorem c_sem_sem (v : Value) (xT : TypeId) (w : World) : (Instr.typeAssert (.iface 200 v) xT 200 true).run Tryz.prog w = .ok (.tuple #[v, .bool true]) w := by kernel_rfl
theorem c_sem_pair (v : Value) (xT : TypeId) (w : World) : (Instr.typeAssert (.iface 200 v) xT 212 true).run Tryz.prog w = .ok (.tuple #[.agg #[.nilIface, .string ⟨#[]⟩], .bool false]) w := by kernel_rfl
theorem c_pair_rev (v : Value) (xT : TypeId) (w : World) : (Instr.typeAssert (.iface 212 v) xT 135 true).run Tryz.prog w = .ok (.tuple #[.string ⟨#[]⟩, .bool false]) w := by kernel_rfl
theorem c_pair_pair (v : Value) (xT : TypeId) (w : World) : (Instr.typeAssert (.iface 212 v) xT 212 true).run Tryz.prog w = .ok (.tuple #[v, .bool true]) w := by kernel_rfl
theorem c_range_sv (v : Value) (xT : TypeId) (w : World) : (Instr.typeAssert (.iface 238 v) xT 197 true).run Tryz.prog w = .ok (.tuple #[.agg zSV, .bool false]) w := by kernel_rfl
theorem c_range_range (v : Value) (xT : TypeId) (w : World) : (Instr.typeAssert (.iface 238 v) xT 238 true).run Tryz.prog w = .ok (.tuple #[v, .bool true]) w := by kernel_rfl
end Go.Proofs.YtgoeiflddikihaaGreatDoor.Ver
end
section
namespace Go.Proofs.YtgoeiflddikihaaGreatDoor.Ver
open Go.RowKit Go.Proofs.YtgoeiflddikihaaGreatDoorW.PrintWords
theorem scm (rv : Value) (v : SV) (w : World)
    (hm : ∀ W, Below w.heap.size w W → Calls Tryz.prog 296 #[.agg #[rv], .agg v.cells] W fun e w' => e = .returned .nilIface ∧ Below W.heap.size W w') :
    Calls Tryz.prog 251 #[.agg #[.iface 238 (.agg #[rv])], Vers.val (.un (.sem v))] w fun e w' => e = .returned (.bool true) ∧ Below w.heap.size w w' := by
  have HM := Lib.hid hm
  have HB := Aside0.mk (Below.refl w.heap.size w)
  have f1 := c_sem_sem
  have f2 := m_range_Matches
  obtain ⟨va, vb, vc, vp, vm, vo⟩ := v
  dsimp only [Vers.val, Vers.tid, Vers.inner, Unp.val, Unp.tid, Unp.inner, SV.cells] at HM ⊢
  clear hm
  go_enter Tryz.func251, Tryz.ntmps251
  go_wp2_with (first
    | (go_at_call 296; ((with_reducible refine (HM.out _ (by repeat (first | exact HB.out | apply below_alloc | apply pw_below_drewN))).mono ?_); rintro e w1 ⟨rfl, hb1⟩; have HB5 := Aside0.mk (below_trans (by repeat (first | exact HB.out | apply below_alloc | apply pw_below_drewN)) hb1); clear hb1)))
  go_ret
  exact ⟨rfl, HB5.out⟩
end Go.Proofs.YtgoeiflddikihaaGreatDoor.Ver
end
