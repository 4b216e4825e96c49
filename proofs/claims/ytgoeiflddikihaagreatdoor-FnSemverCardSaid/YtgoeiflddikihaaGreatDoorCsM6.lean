/- Merged by program out of: VVer, Pcomparex0, VPd, Pfirstx0, VPe, VId. -/
import Derived.Test.YtgoeiflddikihaaGreatDoorCsM3
import Derived.Test.YtgoeiflddikihaaGreatDoorProg
import Derived.Below
import Derived.Deep.Draws
import Derived.Deep.AppendLies
import Derived.Maps.AppendAt
import Derived.OwnWalk
import Derived.Laws.BytesArg
import Derived.Laws.MakeOwn
import Derived.Laws.OwnMore
import Derived.Deep.OwnRows
import Derived.Tactics
import Derived.Lib.ConvBytes
import Derived.Laws.Slices
import Derived.WalkKit
import Derived.KernelRfl
import Derived.RowKit3
import Derived.Deep.LoopGhost
import Derived.Deep.QuietTactic
import Derived.BigQuiet
import Derived.WideLaws
import Derived.Deep.DeepCutAuto
import Derived.Deep.CutBlock
import Derived.Deep.RegionHeld3
import Derived.Laws.Rows
import Derived.Lib.AppendStr
import Derived.ArgAppend
import Derived.Laws.IdiomCopy
import Derived.OrdersHeld
import Derived.Laws.BitsLemmas
import Derived.RowKit
import Derived.Test.YtgoeiflddikihaaGreatDoorCsM0
import Derived.Test.YtgoeiflddikihaaGreatDoorCsM1
import Derived.Test.YtgoeiflddikihaaGreatDoorCsM2
import Derived.Laws.StructEq
import Derived.Test.YtgoeiflddikihaaGreatDoorCsM4
import Derived.WalkLawsBesides
section
namespace Go.Proofs.YtgoeiflddikihaaGreatDoor.Ver
open Go.RowKit Go.Proofs.YtgoeiflddikihaaGreatDoor.Dig Go.Proofs.YtgoeiflddikihaaGreatDoorW.PrintWords
theorem below_trans {a b c : World} (h : Below a.heap.size a b) (k : Below b.heap.size b c) : Below a.heap.size a c := h.trans (k.mono h.size)
theorem nums_len : ∀ (m : Nat) (acc ns : List Nat) (l r : List UInt8), nums m acc l = some (ns, r) → 1 ≤ ns.length
  | 0, _, _, _, _, h => by simp [nums] at h
  | m + 1, acc, ns, l, r, h => by
    rw [nums] at h
    split at h
    · cases h
    · split at h
      · exact nums_len m _ _ _ _ h
      · simp at h; rw [← h.1]; simp
theorem readV_pos {s : ByteArray} {v : SV} {k : Nat} (h : readV s = some (v, k)) : 1 ≤ k := by
  unfold readV at h
  split at h
  · cases h
  · rename_i ns r hn
    split at h
    · cases h
    · split at h
      · cases h
      · split at h
        · injection h with h; injection h with _ h2; rw [← h2]; exact nums_len _ _ _ _ _ hn
        · cases h
def newV (s : ByteArray) : Unp := match readV s with
  | none => .plain s
  | some (v, _) => .sem v
def NewEnd (s : ByteArray) (w : World) (e : Ending) (w' : World) : Prop :=
  Below w.heap.size w w' ∧ match readV s with
    | none => ∃ a, e = .returned (.tuple #[.agg zSV, .iface 260 (.pointer (some a))])
    | some (v, _) => e = .returned (.tuple #[.agg v.cells, .nilIface])
theorem new_any' (s : ByteArray) (hs : s.size ≤ 2147483647) (w : World) (hv : Vars w) : Calls Tryz.prog 129 #[.string s] w (NewEnd s w) := by
  have HR := Lib.hid (fun W hb => read_any s hs W (Vars.below (w := w) hv hb))
  have HB := Aside0.mk (Below.refl w.heap.size w)
  clear hv
  cases hq : readV s with
  | none =>
    have HQ := Lib.hid hq
    clear hq
    go_enter Tryz.func129, Tryz.ntmps129
    go_wp2_with (first
      | (go_at_call 143; ((with_reducible refine (HR.out _ (by repeat (first | exact HB.out | apply below_alloc | apply pw_below_drewN))).mono ?_); rintro e w5 ⟨hb, hm⟩; rw [HQ.out] at hm; obtain ⟨a, rfl⟩ := hm; refine Hid.out ?_)))
    have hk := blk_below (alloc_at w (.cells zSV 197)) hb
    have HB5 := Aside0.mk (below_trans (by repeat (first | exact HB.out | apply below_alloc | apply pw_below_drewN)) hb)
    have hk2 := blk_alloc hk (.cells zSV 197)
    have r0 := blk_cell hk2 0
    have t0 := blk_frozen hk2 0
    have r1 := blk_cell hk2 1
    have t1 := blk_frozen hk2 1
    have r2 := blk_cell hk2 2
    have t2 := blk_frozen hk2 2
    have r3 := blk_cell hk2 3
    have t3 := blk_frozen hk2 3
    have r4 := blk_cell hk2 4
    have t4 := blk_frozen hk2 4
    have r5 := blk_cell hk2 5
    have t5 := blk_frozen hk2 5
    clear hk hk2 hb
    refine Lib.hid ?_
    go_wp2_with fail
    refine bodyPost_ret (v := .tuple #[.agg zSV, .iface 260 (.pointer (some a))]) (by simp [results, Tryz.results129, go_sem, *]) rfl ⟨?_, by rw [HQ.out]; exact ⟨a, rfl⟩⟩
    exact ((((((below_alloc HB5.out _).setCell (Nat.le_refl _) _).setCell (Nat.le_refl _) _).setCell (Nat.le_refl _) _).setCell (Nat.le_refl _) _).setCell (Nat.le_refl _) _).setCell (Nat.le_refl _) _
  | some p =>
    obtain ⟨v, k⟩ := p
    have hk0 := readV_pos hq
    have HQ := Lib.hid hq
    clear hq
    go_enter Tryz.func129, Tryz.ntmps129
    go_wp2_with (first
      | (go_at_call 143; ((with_reducible refine (HR.out _ (by repeat (first | exact HB.out | apply below_alloc | apply pw_below_drewN))).mono ?_); rintro e w5 ⟨hb, hm⟩; rw [HQ.out] at hm; obtain rfl := hm; refine Hid.out ?_)))
    obtain ⟨va, vb, vc, vp, vm, vo⟩ := v
    have hk := blk_below (alloc_at w (.cells zSV 197)) hb
    have HB5 := Aside0.mk (below_trans (by repeat (first | exact HB.out | apply below_alloc | apply pw_below_drewN)) hb)
    have hk2 := blk_alloc hk (.cells #[.int .u64 va, .int .u64 vb, .int .u64 vc, .string vp, .string vm, .string vo] 197)
    have r0 := blk_cell hk2 0
    have t0 := blk_frozen hk2 0
    have r1 := blk_cell hk2 1
    have t1 := blk_frozen hk2 1
    have r2 := blk_cell hk2 2
    have t2 := blk_frozen hk2 2
    have r3 := blk_cell hk2 3
    have t3 := blk_frozen hk2 3
    have r4 := blk_cell hk2 4
    have t4 := blk_frozen hk2 4
    have r5 := blk_cell hk2 5
    have t5 := blk_frozen hk2 5
    have q0 : ((k : Int) == 0) = false := by rw [beq_eq_false_iff_ne]; omega
    clear hk hk2 hb hk0
    refine Lib.hid ?_
    dsimp only [SV.cells]
    go_wp2_with fail
    refine bodyPost_ret (v := .tuple #[.agg #[.int .u64 va, .int .u64 vb, .int .u64 vc, .string vp, .string vm, .string vo], .nilIface]) (by simp [results, Tryz.results129, go_sem, *]) rfl ⟨?_, by rw [HQ.out]; rfl⟩
    exact ((((((below_alloc HB5.out _).setCell (Nat.le_refl _) _).setCell (Nat.le_refl _) _).setCell (Nat.le_refl _) _).setCell (Nat.le_refl _) _).setCell (Nat.le_refl _) _).setCell (Nat.le_refl _) _
theorem newV_any (s : ByteArray) (hs : s.size ≤ 2147483647) (w : World) (hv : Vars w) : Calls Tryz.prog 122 #[.string s] w fun e w' => e = .returned (newV s).val ∧ Below w.heap.size w w' := by
  have HR := Lib.hid (fun W hb => new_any' s hs W (Vars.below (w := w) hv hb))
  have HB := Aside0.mk (Below.refl w.heap.size w)
  clear hv
  cases hq : readV s with
  | none =>
    have hN : newV s = .plain s := by unfold newV; rw [hq]
    rw [hN]
    have HQ := Lib.hid hq
    clear hq hN
    go_enter Tryz.func122, Tryz.ntmps122
    go_wp2_with (first
      | (go_at_call 129; ((with_reducible refine (HR.out _ (by repeat (first | exact HB.out | apply below_alloc | apply pw_below_drewN))).mono ?_); rintro e w5 ⟨hb, hm⟩; rw [HQ.out] at hm; obtain ⟨a, rfl⟩ := hm; have HB5 := Aside0.mk (below_trans (by repeat (first | exact HB.out | apply below_alloc | apply pw_below_drewN)) hb); clear hb)))
    go_ret
    exact ⟨rfl, by repeat (first | exact HB5.out | apply below_alloc | apply pw_below_drewN)⟩
  | some p =>
    obtain ⟨v, k⟩ := p
    have hN : newV s = .sem v := by unfold newV; rw [hq]
    rw [hN]
    have HQ := Lib.hid hq
    clear hq hN
    go_enter Tryz.func122, Tryz.ntmps122
    go_wp2_with (first
      | (go_at_call 129; ((with_reducible refine (HR.out _ (by repeat (first | exact HB.out | apply below_alloc | apply pw_below_drewN))).mono ?_); rintro e w5 ⟨hb, hm⟩; rw [HQ.out] at hm; obtain rfl := hm; have HB5 := Aside0.mk (below_trans (by repeat (first | exact HB.out | apply below_alloc | apply pw_below_drewN)) hb); clear hb; dsimp only [SV.cells])))
    go_ret
    exact ⟨rfl, by repeat (first | exact HB5.out | apply below_alloc | apply pw_below_drewN)⟩
def unpV (k : Int) (t : ByteArray) : Option Unp := if k = 1 then some (.branch t false) else if k = 2 then some (.branch t true) else if k = 3 then some (newV t) else none
def verV (k : Int) (t r : ByteArray) : Vers := match unpV k t with
  | none => .rev t
  | some u => if r = ⟨#[]⟩ then .un u else .pair u r
def unpVal : Option Unp → Value
  | none => .nilIface
  | some u => u.val
theorem unp_any (k : Int) (t r : ByteArray) (ht : t.size ≤ 2147483647) (w : World) (hv : Vars w) : Calls Tryz.prog 98 #[.agg #[.int .i64 k, .string t, .string r]] w fun e w' => e = .returned (unpVal (unpV k t)) ∧ Below w.heap.size w w' := by
  have HR := Lib.hid (fun W hb => newV_any t ht W (Vars.below (w := w) hv hb))
  have HB := Aside0.mk (Below.refl w.heap.size w)
  clear hv
  by_cases h1 : k = 1
  · subst h1
    go_enter Tryz.func98, Tryz.ntmps98
    go_wp2
    go_ret
    exact ⟨rfl, by repeat (first | exact HB.out | apply below_alloc | apply pw_below_drewN)⟩
  by_cases h2 : k = 2
  · subst h2
    go_enter Tryz.func98, Tryz.ntmps98
    go_wp2
    go_ret
    exact ⟨rfl, by repeat (first | exact HB.out | apply below_alloc | apply pw_below_drewN)⟩
  by_cases h3 : k = 3
  · subst h3
    go_enter Tryz.func98, Tryz.ntmps98
    go_wp2_with (first
      | (go_at_call 122; ((with_reducible refine (HR.out _ (by repeat (first | exact HB.out | apply below_alloc | apply pw_below_drewN))).mono ?_); rintro e w5 ⟨rfl, hb⟩; have HB5 := Aside0.mk (below_trans (by repeat (first | exact HB.out | apply below_alloc | apply pw_below_drewN)) hb); clear hb)))
    go_ret
    exact ⟨rfl, by repeat (first | exact HB5.out | apply below_alloc | apply pw_below_drewN)⟩
  · have q1 : (k == 1) = false := beq_eq_false_iff_ne.2 h1
    have q2 : (k == 2) = false := beq_eq_false_iff_ne.2 h2
    have q3 : (k == 3) = false := beq_eq_false_iff_ne.2 h3
    have hN : unpV k t = none := by unfold unpV; rw [if_neg h1, if_neg h2, if_neg h3]
    rw [hN]
    clear h1 h2 h3 hN
    go_enter Tryz.func98, Tryz.ntmps98
    go_wp2
    go_ret
    exact ⟨rfl, by repeat (first | exact HB.out | apply below_alloc | apply pw_below_drewN)⟩
theorem size_pos {r : ByteArray} (h : r ≠ ⟨#[]⟩) : 0 < r.size := by
  rcases Nat.eq_zero_or_pos r.size with h0 | h0
  · exact absurd (ByteArray.ext (Array.ext' (list_nil h0))) h
  · exact h0
theorem ver_any (k : Int) (t r : ByteArray) (ht : t.size ≤ 2147483647) (w : World) (hv : Vars w) : Calls Tryz.prog 66 #[.agg #[.int .i64 k, .string t, .string r]] w fun e w' => e = .returned (verV k t r).val ∧ Below w.heap.size w w' := by
  have HR := Lib.hid (fun W hb => unp_any k t r ht W (Vars.below (w := w) hv hb))
  have HB := Aside0.mk (Below.refl w.heap.size w)
  clear hv
  have mb := m_branch_Pair
  have mp := m_plain_Pair
  have ms := m_sem_Pair
  cases hq : unpV k t with
  | none =>
    have hN : verV k t r = .rev t := by unfold verV; rw [hq]
    rw [hN]
    have HQ := Lib.hid hq
    clear hq hN
    go_enter Tryz.func66, Tryz.ntmps66
    go_wp2_with (first
      | (go_at_call 98; ((with_reducible refine (HR.out _ (by repeat (first | exact HB.out | apply below_alloc | apply pw_below_drewN))).mono ?_); rintro e w5 ⟨rfl, hb⟩; refine Hid.out ?_)))
    have hk := blk_below (alloc_at w (.cells #[.int .i64 k, .string t, .string r] 27)) hb
    have HB5 := Aside0.mk (below_trans (by repeat (first | exact HB.out | apply below_alloc | apply pw_below_drewN)) hb)
    have r0 := blk_cell hk 0
    have r1 := blk_cell hk 1
    have r2 := blk_cell hk 2
    clear hk hb
    rw [HQ.out]
    dsimp only [unpVal, Unp.val, Unp.tid, Unp.inner, SV.cells]
    refine Lib.hid ?_
    go_wp2
    go_ret
    exact ⟨rfl, by repeat (first | exact HB5.out | apply below_alloc | apply pw_below_drewN)⟩
  | some u =>
    by_cases hr : r = ⟨#[]⟩
    · have hN : verV k t r = .un u := by unfold verV; rw [hq]; simp only; rw [if_pos hr]
      rw [hN]
      have hem : r.toList.isEmpty = true := isEmpty_true (by rw [hr]; rfl)
      have HQ := Lib.hid hq
      clear hq hN hr
      rcases u with ⟨n, d⟩ | n | v
      · go_enter Tryz.func66, Tryz.ntmps66
        go_wp2_with (first
          | (go_at_call 98; ((with_reducible refine (HR.out _ (by repeat (first | exact HB.out | apply below_alloc | apply pw_below_drewN))).mono ?_); rintro e w5 ⟨rfl, hb⟩; refine Hid.out ?_)))
        have hk := blk_below (alloc_at w (.cells #[.int .i64 k, .string t, .string r] 27)) hb
        have HB5 := Aside0.mk (below_trans (by repeat (first | exact HB.out | apply below_alloc | apply pw_below_drewN)) hb)
        have r0 := blk_cell hk 0
        have r1 := blk_cell hk 1
        have r2 := blk_cell hk 2
        clear hk hb
        rw [HQ.out]
        dsimp only [unpVal, Unp.val, Unp.tid, Unp.inner, SV.cells]
        refine Lib.hid ?_
        go_wp2
        go_ret
        exact ⟨rfl, by repeat (first | exact HB5.out | apply below_alloc | apply pw_below_drewN)⟩
      · go_enter Tryz.func66, Tryz.ntmps66
        go_wp2_with (first
          | (go_at_call 98; ((with_reducible refine (HR.out _ (by repeat (first | exact HB.out | apply below_alloc | apply pw_below_drewN))).mono ?_); rintro e w5 ⟨rfl, hb⟩; refine Hid.out ?_)))
        have hk := blk_below (alloc_at w (.cells #[.int .i64 k, .string t, .string r] 27)) hb
        have HB5 := Aside0.mk (below_trans (by repeat (first | exact HB.out | apply below_alloc | apply pw_below_drewN)) hb)
        have r0 := blk_cell hk 0
        have r1 := blk_cell hk 1
        have r2 := blk_cell hk 2
        clear hk hb
        rw [HQ.out]
        dsimp only [unpVal, Unp.val, Unp.tid, Unp.inner, SV.cells]
        refine Lib.hid ?_
        go_wp2
        go_ret
        exact ⟨rfl, by repeat (first | exact HB5.out | apply below_alloc | apply pw_below_drewN)⟩
      · go_enter Tryz.func66, Tryz.ntmps66
        go_wp2_with (first
          | (go_at_call 98; ((with_reducible refine (HR.out _ (by repeat (first | exact HB.out | apply below_alloc | apply pw_below_drewN))).mono ?_); rintro e w5 ⟨rfl, hb⟩; refine Hid.out ?_)))
        have hk := blk_below (alloc_at w (.cells #[.int .i64 k, .string t, .string r] 27)) hb
        have HB5 := Aside0.mk (below_trans (by repeat (first | exact HB.out | apply below_alloc | apply pw_below_drewN)) hb)
        have r0 := blk_cell hk 0
        have r1 := blk_cell hk 1
        have r2 := blk_cell hk 2
        clear hk hb
        rw [HQ.out]
        dsimp only [unpVal, Unp.val, Unp.tid, Unp.inner, SV.cells]
        refine Lib.hid ?_
        go_wp2
        go_ret
        exact ⟨rfl, by repeat (first | exact HB5.out | apply below_alloc | apply pw_below_drewN)⟩
    · have hN : verV k t r = .pair u r := by unfold verV; rw [hq]; simp only; rw [if_neg hr]
      rw [hN]
      have hem : r.toList.isEmpty = false := isEmpty_false (size_pos hr)
      have HQ := Lib.hid hq
      clear hq hN hr
      rcases u with ⟨n, d⟩ | n | v
      · go_enter Tryz.func66, Tryz.ntmps66
        go_wp2_with (first
          | (go_at_call 98; ((with_reducible refine (HR.out _ (by repeat (first | exact HB.out | apply below_alloc | apply pw_below_drewN))).mono ?_); rintro e w5 ⟨rfl, hb⟩; refine Hid.out ?_)))
        have hk := blk_below (alloc_at w (.cells #[.int .i64 k, .string t, .string r] 27)) hb
        have HB5 := Aside0.mk (below_trans (by repeat (first | exact HB.out | apply below_alloc | apply pw_below_drewN)) hb)
        have r0 := blk_cell hk 0
        have r1 := blk_cell hk 1
        have r2 := blk_cell hk 2
        clear hk hb
        rw [HQ.out]
        dsimp only [unpVal, Unp.val, Unp.tid, Unp.inner, SV.cells]
        refine Lib.hid ?_
        go_wp2
        go_ret
        exact ⟨rfl, by repeat (first | exact HB5.out | apply below_alloc | apply pw_below_drewN)⟩
      · go_enter Tryz.func66, Tryz.ntmps66
        go_wp2_with (first
          | (go_at_call 98; ((with_reducible refine (HR.out _ (by repeat (first | exact HB.out | apply below_alloc | apply pw_below_drewN))).mono ?_); rintro e w5 ⟨rfl, hb⟩; refine Hid.out ?_)))
        have hk := blk_below (alloc_at w (.cells #[.int .i64 k, .string t, .string r] 27)) hb
        have HB5 := Aside0.mk (below_trans (by repeat (first | exact HB.out | apply below_alloc | apply pw_below_drewN)) hb)
        have r0 := blk_cell hk 0
        have r1 := blk_cell hk 1
        have r2 := blk_cell hk 2
        clear hk hb
        rw [HQ.out]
        dsimp only [unpVal, Unp.val, Unp.tid, Unp.inner, SV.cells]
        refine Lib.hid ?_
        go_wp2
        go_ret
        exact ⟨rfl, by repeat (first | exact HB5.out | apply below_alloc | apply pw_below_drewN)⟩
      · go_enter Tryz.func66, Tryz.ntmps66
        go_wp2_with (first
          | (go_at_call 98; ((with_reducible refine (HR.out _ (by repeat (first | exact HB.out | apply below_alloc | apply pw_below_drewN))).mono ?_); rintro e w5 ⟨rfl, hb⟩; refine Hid.out ?_)))
        have hk := blk_below (alloc_at w (.cells #[.int .i64 k, .string t, .string r] 27)) hb
        have HB5 := Aside0.mk (below_trans (by repeat (first | exact HB.out | apply below_alloc | apply pw_below_drewN)) hb)
        have r0 := blk_cell hk 0
        have r1 := blk_cell hk 1
        have r2 := blk_cell hk 2
        clear hk hb
        rw [HQ.out]
        dsimp only [unpVal, Unp.val, Unp.tid, Unp.inner, SV.cells]
        refine Lib.hid ?_
        go_wp2
        go_ret
        exact ⟨rfl, by repeat (first | exact HB5.out | apply below_alloc | apply pw_below_drewN)⟩
end Go.Proofs.YtgoeiflddikihaaGreatDoor.Ver
end
section
namespace Go.Proofs.YtgoeiflddikihaaGreatDoor.Pcompare
open Go.RowKit Go.Proofs.YtgoeiflddikihaaGreatDoorW.PrintWords Go.Proofs.YtgoeiflddikihaaGreatDoorW.PrintLast Go.Proofs.YtgoeiflddikihaaGreatDoorW.PrintMore
attribute [local go_sem] max2_int min2_int max_two min_two max_three min_three max_four min_four   -- for this text's walks alone
set_option linter.unusedVariables false
set_option linter.unusedSimpArgs false
def errW : Option Int → Value
  | none => .nilIface
  | some c => .iface 0 (.int .i64 c)
theorem errW_none : errW none = .nilIface := rfl
theorem errW_some (c : Int) : errW (some c) = .iface 0 (.int .i64 c) := rfl
end Go.Proofs.YtgoeiflddikihaaGreatDoor.Pcompare
end
section
namespace Go.Proofs.YtgoeiflddikihaaGreatDoor.Pcompare
open Go.RowKit Go.Proofs.YtgoeiflddikihaaGreatDoorW.PrintWords Go.Proofs.YtgoeiflddikihaaGreatDoorW.PrintLast Go.Proofs.YtgoeiflddikihaaGreatDoorW.PrintMore
attribute [local go_sem] max2_int min2_int max_two min_two max_three min_three max_four min_four   -- for this text's walks alone
set_option linter.unusedVariables false
set_option linter.unusedSimpArgs false
def semver_number.l0 : Nat → ByteArray → Int → Option (Bool)
  | 0, _, _ => none
  | k + 1, x0, x3 => if x3 < (x0.size : Int) then (if 0 ≤ x3 then (if (bt x0 x3) < 48 then (some false) else (if (bt x0 x3) > 57 then (some false) else (semver_number.l0 k x0 (wrap64 (x3 + 1))))) else (none)) else (some (x0.toList != ([] : List UInt8)))
def semver_number.f (k : Nat) (a0 : ByteArray) : Option (Bool) := semver_number.l0 k a0 0
theorem semver_number.mono_l : ∀ k, (∀ y0 y1, LeO (semver_number.l0 k y0 y1) (semver_number.l0 (k + 1) y0 y1))
  | 0 => fun _ _ r h => by simp [semver_number.l0] at h
  | k + 1 => by
    have ih0 := semver_number.mono_l k
    · intro y0 y1
      unfold semver_number.l0
      repeat' first
      | (with_reducible exact ih0 _ _)
      | (with_reducible exact LeO.refl _)
      | (with_reducible exact LeO.none _)
      | (with_reducible refine LeO.ite ?_ ?_)
      | (with_reducible refine LeO.bind ?_ (fun _ => ?_))
      | exact ih0 _ _
      | exact LeO.none _
      | refine LeO.ite ?_ ?_
      | refine LeO.bind ?_ (fun _ => ?_)
theorem semver_number.mono : ∀ a0 k, LeO (semver_number.f k a0) (semver_number.f (k + 1) a0) := by
  intro a0 k
  have ih0 := semver_number.mono_l k
  unfold semver_number.f
  repeat' first
      | (with_reducible exact ih0 _ _)
      | (with_reducible exact LeO.refl _)
      | (with_reducible exact LeO.none _)
      | (with_reducible refine LeO.ite ?_ ?_)
      | (with_reducible refine LeO.bind ?_ (fun _ => ?_))
      | exact ih0 _ _
      | exact LeO.none _
      | refine LeO.ite ?_ ?_
      | refine LeO.bind ?_ (fun _ => ?_)
set_option maxHeartbeats 8000000 in
set_option maxRecDepth 100000 in
theorem semver_number.calls (k : Nat) (a0 : ByteArray) (r : Bool) (w : World) (h : semver_number.f k a0 = some r) :
    Calls Tryz.prog 212 #[.string a0] w fun e w' => e = .returned (.bool r) ∧ Drawn0 w w' := by
  have H : (semver_number.l0 k a0 0) = some r := h
  clear h
  have H' := Aside0.mk H
  clear H
  go_enter Tryz.func212, Tryz.ntmps212
  go_wp2
  go_loopg [3] k (fun kq v3 w' => ∃ (x3_1 : Int), v3 = .int .i64 x3_1 ∧ Aside0 (semver_number.l0 kq a0 x3_1 = some r) ∧ Aside0 (kq ≤ k) ∧ Drawn0 w w')
  case atStart => exact ⟨(0), (by first | rfl | (simp; done) | (simp [*]; done)), H', ⟨Nat.le_refl _⟩, by repeat (first | exact Drawn0.refl _ | apply Drawn0.step)⟩
  case round =>
    clear H'
    obtain ⟨x3_1, rfl, HA, HK1, ⟨m1, rfl⟩⟩ := hrel
    cases gk with
    | zero => exact absurd HA.out (by simp [semver_number.l0])
    | succ k1 =>
      have H := HA.out
      clear HA
      simp only [semver_number.l0] at H
      by_cases c2 : x3_1 < (a0.size : Int)
      · rw [if_pos c2] at H
        have c2b0 : decide (x3_1 < (a0.size : Int)) = true := decide_eq_true c2
        clear c2
        by_cases c3 : 0 ≤ x3_1
        · rw [if_pos c3] at H
          have c3b0 : decide (0 ≤ x3_1) = true := decide_eq_true c3
          clear c3
          by_cases c5 : (bt a0 x3_1) < 48
          · rw [if_pos c5] at H
            have c5b0 : decide ((bt a0 x3_1) < 48) = true := decide_eq_true c5
            clear c5
            obtain rfl := Option.some.inj H
            have p4 : 0 ≤ (x3_1 : Int) := of_decide_eq_true (by first | (with_reducible assumption) | assumption)
            have q4 : x3_1 < (a0.size : Int) := of_decide_eq_true (by first | (with_reducible assumption) | assumption)
            have hx4 := bt_at a0 x3_1
            replace p4 := eq_true p4
            replace q4 := eq_true q4
            go_wp2
            go_ret
            exact ⟨by first | rfl | (simp; done) | (simp [*]; done), by repeat (first | exact Drawn0.refl _ | apply Drawn0.step)⟩
          · rw [if_neg c5] at H
            have c5b0 : decide ((bt a0 x3_1) < 48) = false := decide_eq_false c5
            clear c5
            by_cases c7 : (bt a0 x3_1) > 57
            · rw [if_pos c7] at H
              have c7b0 : decide (57 < (bt a0 x3_1)) = true := decide_eq_true c7
              clear c7
              obtain rfl := Option.some.inj H
              have p4 : 0 ≤ (x3_1 : Int) := of_decide_eq_true (by first | (with_reducible assumption) | assumption)
              have q4 : x3_1 < (a0.size : Int) := of_decide_eq_true (by first | (with_reducible assumption) | assumption)
              have hx4 := bt_at a0 x3_1
              replace p4 := eq_true p4
              replace q4 := eq_true q4
              have p6 : 0 ≤ (x3_1 : Int) := of_decide_eq_true (by first | (with_reducible assumption) | assumption)
              have q6 : x3_1 < (a0.size : Int) := of_decide_eq_true (by first | (with_reducible assumption) | assumption)
              have hx6 := bt_at a0 x3_1
              replace p6 := eq_true p6
              replace q6 := eq_true q6
              go_wp2
              go_ret
              exact ⟨by first | rfl | (simp; done) | (simp [*]; done), by repeat (first | exact Drawn0.refl _ | apply Drawn0.step)⟩
            · rw [if_neg c7] at H
              have c7b0 : decide (57 < (bt a0 x3_1)) = false := decide_eq_false c7
              clear c7
              have H' := Aside0.mk H
              clear H
              have p4 : 0 ≤ (x3_1 : Int) := of_decide_eq_true (by first | (with_reducible assumption) | assumption)
              have q4 : x3_1 < (a0.size : Int) := of_decide_eq_true (by first | (with_reducible assumption) | assumption)
              have hx4 := bt_at a0 x3_1
              replace p4 := eq_true p4
              replace q4 := eq_true q4
              have p6 : 0 ≤ (x3_1 : Int) := of_decide_eq_true (by first | (with_reducible assumption) | assumption)
              have q6 : x3_1 < (a0.size : Int) := of_decide_eq_true (by first | (with_reducible assumption) | assumption)
              have hx6 := bt_at a0 x3_1
              replace p6 := eq_true p6
              replace q6 := eq_true q6
              go_wp2
              go_roundg k1
              case measure => have := HK1.out; omega
              case rel => exact ⟨(wrap64 (x3_1 + 1)), (by first | rfl | (simp; done) | (simp [*]; done)), H', ⟨by have := HK1.out; omega⟩, by repeat (first | exact Drawn0.refl _ | apply Drawn0.step)⟩
        · rw [if_neg c3] at H
          exact absurd H (by simp)
      · rw [if_neg c2] at H
        have c2b0 : decide (x3_1 < (a0.size : Int)) = false := decide_eq_false c2
        clear c2
        obtain rfl := Option.some.inj H
        go_wp2
        go_ret
        refine ⟨?_, by repeat (first | exact Drawn0.refl _ | apply Drawn0.step)⟩
        show Ending.returned (Value.bool (!a0.toList.isEmpty)) = _
        cases a0.toList <;> rfl
def semver_bare.l0 : Nat → ByteArray → Option (ByteArray)
  | 0, _ => none
  | k + 1, x0 => if (x0.size : Int) > 1 then (if 0 < (x0.size : Int) then (if (bt x0 0) = 48 then (if 1 ≤ (x0.size : Int) then (semver_bare.l0 k (x0.extract 1 x0.size)) else (none)) else (some x0)) else (none)) else (some x0)
def semver_bare.f (k : Nat) (a0 : ByteArray) : Option (ByteArray) := semver_bare.l0 k a0
theorem semver_bare.mono_l : ∀ k, (∀ y0, LeO (semver_bare.l0 k y0) (semver_bare.l0 (k + 1) y0))
  | 0 => fun _ r h => by simp [semver_bare.l0] at h
  | k + 1 => by
    have ih0 := semver_bare.mono_l k
    · intro y0
      unfold semver_bare.l0
      repeat' first
      | (with_reducible exact ih0 _)
      | (with_reducible exact LeO.refl _)
      | (with_reducible exact LeO.none _)
      | (with_reducible refine LeO.ite ?_ ?_)
      | (with_reducible refine LeO.bind ?_ (fun _ => ?_))
      | exact ih0 _
      | exact LeO.none _
      | refine LeO.ite ?_ ?_
      | refine LeO.bind ?_ (fun _ => ?_)
theorem semver_bare.mono : ∀ a0 k, LeO (semver_bare.f k a0) (semver_bare.f (k + 1) a0) := by
  intro a0 k
  have ih0 := semver_bare.mono_l k
  unfold semver_bare.f
  repeat' first
      | (with_reducible exact ih0 _)
      | (with_reducible exact LeO.refl _)
      | (with_reducible exact LeO.none _)
      | (with_reducible refine LeO.ite ?_ ?_)
      | (with_reducible refine LeO.bind ?_ (fun _ => ?_))
      | exact ih0 _
      | exact LeO.none _
      | refine LeO.ite ?_ ?_
      | refine LeO.bind ?_ (fun _ => ?_)
set_option maxHeartbeats 8000000 in
set_option maxRecDepth 100000 in
theorem semver_bare.calls (k : Nat) (a0 : ByteArray) (r : ByteArray) (w : World) (h : semver_bare.f k a0 = some r) :
    Calls Tryz.prog 213 #[.string a0] w fun e w' => e = .returned (.string r) ∧ Drawn0 w w' := by
  have H : (semver_bare.l0 k a0) = some r := h
  clear h
  have H' := Aside0.mk H
  clear H
  go_enter Tryz.func213, Tryz.ntmps213
  go_wp2
  go_loopg [0] k (fun kq v0 w' => ∃ (x0_1 : ByteArray), v0 = .string x0_1 ∧ Aside0 (semver_bare.l0 kq x0_1 = some r) ∧ Aside0 (kq ≤ k) ∧ Drawn0 w w')
  case atStart => exact ⟨(a0), (by first | rfl | (simp; done) | (simp [*]; done)), H', ⟨Nat.le_refl _⟩, by repeat (first | exact Drawn0.refl _ | apply Drawn0.step)⟩
  case round =>
    clear H'
    obtain ⟨x0_1, rfl, HA, HK1, ⟨m1, rfl⟩⟩ := hrel
    cases gk with
    | zero => exact absurd HA.out (by simp [semver_bare.l0])
    | succ k1 =>
      have H := HA.out
      clear HA
      simp only [semver_bare.l0] at H
      by_cases c2 : (x0_1.size : Int) > 1
      · rw [if_pos c2] at H
        have c2b0 : decide (1 < (x0_1.size : Int)) = true := decide_eq_true c2
        have c2b1 : decide (1 < x0_1.size) = true := decide_eq_true (by omega)
        clear c2
        by_cases c3 : 0 < (x0_1.size : Int)
        · rw [if_pos c3] at H
          have c3b0 : decide (0 < (x0_1.size : Int)) = true := decide_eq_true c3
          have c3b1 : decide (0 < x0_1.size) = true := decide_eq_true (by omega)
          clear c3
          by_cases c5 : (bt x0_1 0) = 48
          · rw [if_pos c5] at H
            have c5b0 : ((bt x0_1 0) == 48) = true := beq_iff_eq.mpr c5
            have c5b1 : ((bt x0_1 0) != 48) = false := bne_eq_false_iff_eq.mpr c5
            clear c5
            by_cases c6 : 1 ≤ (x0_1.size : Int)
            · rw [if_pos c6] at H
              have c6b0 := eq_true c6
              have c6b1 : decide (1 ≤ (x0_1.size : Int)) = true := decide_eq_true c6
              clear c6
              have H' := Aside0.mk H
              clear H
              have p4 : 0 ≤ (0 : Int) := (by omega)
              have q4 : 0 < x0_1.size := (by have : (0 : Int) < (x0_1.size : Int) := of_decide_eq_true (by first | (with_reducible assumption) | assumption); omega)
              have hx4 : ∀ h : 0 < x0_1.size, ((x0_1[0]'h).toNat : Int) = bt x0_1 0 := bt_at x0_1 0
              clear p4
              have qi4 : (0 < (x0_1.size : Int)) = True := eq_true (of_decide_eq_true (by first | (with_reducible assumption) | assumption))
              replace q4 := eq_true q4
              go_wp2
              go_roundg k1
              case measure => have := HK1.out; omega
              case rel => exact ⟨(x0_1.extract 1 x0_1.size), (by first | rfl | (simp; done) | (simp [*]; done)), H', ⟨by have := HK1.out; omega⟩, by repeat (first | exact Drawn0.refl _ | apply Drawn0.step)⟩
            · rw [if_neg c6] at H
              exact absurd H (by simp)
          · rw [if_neg c5] at H
            have c5b0 : ((bt x0_1 0) == 48) = false := beq_eq_false_iff_ne.mpr c5
            have c5b1 : ((bt x0_1 0) != 48) = true := bne_iff_ne.mpr c5
            obtain rfl := Option.some.inj H
            have p4 : 0 ≤ (0 : Int) := (by omega)
            have q4 : 0 < x0_1.size := (by have : (0 : Int) < (x0_1.size : Int) := of_decide_eq_true (by first | (with_reducible assumption) | assumption); omega)
            have hx4 : ∀ h : 0 < x0_1.size, ((x0_1[0]'h).toNat : Int) = bt x0_1 0 := bt_at x0_1 0
            clear p4
            have qi4 : (0 < (x0_1.size : Int)) = True := eq_true (of_decide_eq_true (by first | (with_reducible assumption) | assumption))
            replace q4 := eq_true q4
            go_wp2
            go_ret
            exact ⟨by first | rfl | (simp; done) | (simp [*]; done), by repeat (first | exact Drawn0.refl _ | apply Drawn0.step)⟩
        · rw [if_neg c3] at H
          exact absurd H (by simp)
      · rw [if_neg c2] at H
        have c2b0 : decide (1 < (x0_1.size : Int)) = false := decide_eq_false c2
        have c2b1 : decide (1 < x0_1.size) = false := decide_eq_false (by omega)
        clear c2
        obtain rfl := Option.some.inj H
        go_wp2
        go_ret
        exact ⟨by first | rfl | (simp; done) | (simp [*]; done), by repeat (first | exact Drawn0.refl _ | apply Drawn0.step)⟩
end Go.Proofs.YtgoeiflddikihaaGreatDoor.Pcompare
end
section
namespace Go.Proofs.YtgoeiflddikihaaGreatDoor.Pfirst
open Go.RowKit Go.Proofs.YtgoeiflddikihaaGreatDoorW.PrintWords Go.Proofs.YtgoeiflddikihaaGreatDoorW.PrintLast Go.Proofs.YtgoeiflddikihaaGreatDoorW.PrintMore
attribute [local go_sem] max2_int min2_int max_two min_two max_three min_three max_four min_four   -- for this text's walks alone
set_option linter.unusedVariables false
set_option linter.unusedSimpArgs false
def errW : Option Int → Value
  | none => .nilIface
  | some c => .iface 0 (.int .i64 c)
theorem errW_none : errW none = .nilIface := rfl
theorem errW_some (c : Int) : errW (some c) = .iface 0 (.int .i64 c) := rfl
end Go.Proofs.YtgoeiflddikihaaGreatDoor.Pfirst
end
section
namespace Go.Proofs.YtgoeiflddikihaaGreatDoor.Pfirst
open Go.RowKit Go.Proofs.YtgoeiflddikihaaGreatDoorW.PrintWords Go.Proofs.YtgoeiflddikihaaGreatDoorW.PrintLast Go.Proofs.YtgoeiflddikihaaGreatDoorW.PrintMore
attribute [local go_sem] max2_int min2_int max_two min_two max_three min_three max_four min_four   -- for this text's walks alone
set_option linter.unusedVariables false
set_option linter.unusedSimpArgs false
def semver_first.l0 : Nat → ByteArray → Int → Option (ByteArray × ByteArray)
  | 0, _, _ => none
  | k + 1, x0, x4 => if x4 < (x0.size : Int) then (if 0 ≤ x4 then (if (bt x0 x4) = 46 then (if x4 ≤ (x0.size : Int) then (if 0 ≤ (wrap64 (x4 + 1)) then (if (wrap64 (x4 + 1)) ≤ (x0.size : Int) then (some (x0.extract 0 (x4 : Int).toNat, x0.extract ((wrap64 (x4 + 1)) : Int).toNat x0.size)) else (none)) else (none)) else (none)) else (semver_first.l0 k x0 (wrap64 (x4 + 1)))) else (none)) else (some (x0, (⟨#[]⟩ : ByteArray)))
def semver_first.f (k : Nat) (a0 : ByteArray) : Option (ByteArray × ByteArray) := semver_first.l0 k a0 0
theorem semver_first.mono_l : ∀ k, (∀ y0 y1, LeO (semver_first.l0 k y0 y1) (semver_first.l0 (k + 1) y0 y1))
  | 0 => fun _ _ r h => by simp [semver_first.l0] at h
  | k + 1 => by
    have ih0 := semver_first.mono_l k
    · intro y0 y1
      unfold semver_first.l0
      repeat' first
      | (with_reducible exact ih0 _ _)
      | (with_reducible exact LeO.refl _)
      | (with_reducible exact LeO.none _)
      | (with_reducible refine LeO.ite ?_ ?_)
      | (with_reducible refine LeO.bind ?_ (fun _ => ?_))
      | exact ih0 _ _
      | exact LeO.none _
      | refine LeO.ite ?_ ?_
      | refine LeO.bind ?_ (fun _ => ?_)
theorem semver_first.mono : ∀ a0 k, LeO (semver_first.f k a0) (semver_first.f (k + 1) a0) := by
  intro a0 k
  have ih0 := semver_first.mono_l k
  unfold semver_first.f
  repeat' first
      | (with_reducible exact ih0 _ _)
      | (with_reducible exact LeO.refl _)
      | (with_reducible exact LeO.none _)
      | (with_reducible refine LeO.ite ?_ ?_)
      | (with_reducible refine LeO.bind ?_ (fun _ => ?_))
      | exact ih0 _ _
      | exact LeO.none _
      | refine LeO.ite ?_ ?_
      | refine LeO.bind ?_ (fun _ => ?_)
set_option maxHeartbeats 8000000 in
set_option maxRecDepth 100000 in
theorem semver_first.calls (k : Nat) (a0 : ByteArray) (r1 : ByteArray) (r2 : ByteArray) (w : World) (h : semver_first.f k a0 = some (r1, r2)) :
    Calls Tryz.prog 210 #[.string a0] w fun e w' => e = .returned (.tuple #[.string r1, .string r2]) ∧ Drawn0 w w' := by
  have H : (semver_first.l0 k a0 0) = some (r1, r2) := h
  clear h
  have H' := Aside0.mk H
  clear H
  go_enter Tryz.func210, Tryz.ntmps210
  go_wp2
  repeat (go_quiet (fail); try go_wp2)
  go_loopg [4] k (fun kq v4 w' => ∃ (x4_1 : Int), v4 = .int .i64 x4_1 ∧ Aside0 (semver_first.l0 kq a0 x4_1 = some (r1, r2)) ∧ Aside0 (kq ≤ k) ∧ Drawn0 w w')
  case atStart => exact ⟨(0), (by first | rfl | (simp; done) | (simp [*]; done)), H', ⟨Nat.le_refl _⟩, by repeat (first | exact Drawn0.refl _ | apply Drawn0.step)⟩
  case round =>
    clear H'
    obtain ⟨x4_1, rfl, HA, HK1, ⟨m1, rfl⟩⟩ := hrel
    cases gk with
    | zero => exact absurd HA.out (by simp [semver_first.l0])
    | succ k1 =>
      have H := HA.out
      clear HA
      simp only [semver_first.l0] at H
      by_cases c2 : x4_1 < (a0.size : Int)
      · rw [if_pos c2] at H
        have c2b0 : decide (x4_1 < (a0.size : Int)) = true := decide_eq_true c2
        clear c2
        by_cases c3 : 0 ≤ x4_1
        · rw [if_pos c3] at H
          have c3b0 : decide (0 ≤ x4_1) = true := decide_eq_true c3
          clear c3
          by_cases c5 : (bt a0 x4_1) = 46
          · rw [if_pos c5] at H
            have c5b0 : ((bt a0 x4_1) == 46) = true := beq_iff_eq.mpr c5
            have c5b1 : ((bt a0 x4_1) != 46) = false := bne_eq_false_iff_eq.mpr c5
            clear c5
            have c6b0 := eq_true (of_decide_eq_true (by first | (with_reducible assumption) | assumption) : 0 ≤ x4_1)
            by_cases c7 : x4_1 ≤ (a0.size : Int)
            · rw [if_pos c7] at H
              have c7b0 := eq_true c7
              have c7b1 : decide (x4_1 ≤ (a0.size : Int)) = true := decide_eq_true c7
              clear c7
              obtain ⟨ji8, hji8⟩ : ∃ j_ : Int, (wrap64 (x4_1 + 1)) = j_ := ⟨_, rfl⟩
              replace H : (if 0 ≤ (ji8) then (if (ji8) ≤ (a0.size : Int) then (some (a0.extract 0 (x4_1 : Int).toNat, a0.extract ((ji8) : Int).toNat a0.size)) else (none)) else (none)) = some (r1, r2) := by first | (rw [hji8] at H; exact H) | (simp only [hji8] at H ⊢; exact H)
              have hji8w : (IntKind.i64.wrap (x4_1 + 1)) = ji8 := (i64_w _).trans hji8
              by_cases c9 : 0 ≤ (ji8)
              · rw [if_pos c9] at H
                have c9b0 := eq_true c9
                have c9b1 : decide (0 ≤ (ji8)) = true := decide_eq_true c9
                clear c9
                by_cases c10 : (ji8) ≤ (a0.size : Int)
                · rw [if_pos c10] at H
                  have c10b0 := eq_true c10
                  have c10b1 : decide ((ji8) ≤ (a0.size : Int)) = true := decide_eq_true c10
                  clear c10
                  simp only [Option.some.injEq, Prod.mk.injEq] at H
                  obtain ⟨rfl, rfl⟩ := H
                  have p4 : 0 ≤ (x4_1 : Int) := of_decide_eq_true (by first | (with_reducible assumption) | assumption)
                  have q4 : x4_1 < (a0.size : Int) := of_decide_eq_true (by first | (with_reducible assumption) | assumption)
                  have hx4 := bt_at a0 x4_1
                  replace p4 := eq_true p4
                  replace q4 := eq_true q4
                  go_wp2
                  repeat (go_quiet (fail); try go_wp2)
                  go_ret2
                  exact ⟨by first | rfl | (simp; done) | (simp only [← hji8] <;> (first | rfl | simp)) | (simp [*]; done), by repeat (first | exact Drawn0.refl _ | apply Drawn0.step)⟩
                · rw [if_neg c10] at H
                  exact absurd H (by simp)
              · rw [if_neg c9] at H
                exact absurd H (by simp)
            · rw [if_neg c7] at H
              exact absurd H (by simp)
          · rw [if_neg c5] at H
            have c5b0 : ((bt a0 x4_1) == 46) = false := beq_eq_false_iff_ne.mpr c5
            have c5b1 : ((bt a0 x4_1) != 46) = true := bne_iff_ne.mpr c5
            have H' := Aside0.mk H
            clear H
            have p4 : 0 ≤ (x4_1 : Int) := of_decide_eq_true (by first | (with_reducible assumption) | assumption)
            have q4 : x4_1 < (a0.size : Int) := of_decide_eq_true (by first | (with_reducible assumption) | assumption)
            have hx4 := bt_at a0 x4_1
            replace p4 := eq_true p4
            replace q4 := eq_true q4
            go_wp2
            repeat (go_quiet (fail); try go_wp2)
            go_roundg k1
            case measure => have := HK1.out; omega
            case rel => exact ⟨(wrap64 (x4_1 + 1)), (by first | rfl | (simp; done) | (simp [*]; done)), H', ⟨by have := HK1.out; omega⟩, by repeat (first | exact Drawn0.refl _ | apply Drawn0.step)⟩
        · rw [if_neg c3] at H
          exact absurd H (by simp)
      · rw [if_neg c2] at H
        have c2b0 : decide (x4_1 < (a0.size : Int)) = false := decide_eq_false c2
        clear c2
        simp only [Option.some.injEq, Prod.mk.injEq] at H
        obtain ⟨rfl, rfl⟩ := H
        go_wp2
        repeat (go_quiet (fail); try go_wp2)
        go_ret2
        exact ⟨by first | rfl | (simp; done) | (simp [*]; done), by repeat (first | exact Drawn0.refl _ | apply Drawn0.step)⟩
end Go.Proofs.YtgoeiflddikihaaGreatDoor.Pfirst
end
section
namespace Go.Proofs.YtgoeiflddikihaaGreatDoor.Ver
open Go.RowKit Go.Proofs.YtgoeiflddikihaaGreatDoorW.PrintWords Go.Proofs.YtgoeiflddikihaaGreatDoor.Ord
theorem ba_eq {a b : ByteArray} (h : a.data.toList = b.data.toList) : a = b := ByteArray.ext (Array.ext' h)
theorem len_list (s : ByteArray) : s.data.toList.length = s.size := Array.length_toList
theorem extract_pre (s : ByteArray) (i : Nat) : (s.extract 0 i).data.toList = s.data.toList.take i := by
  rw [ByteArray.data_extract, Array.toList_extract]; simp [List.extract_eq_take_drop]
theorem extract_suf (s : ByteArray) (i : Nat) : (s.extract i s.size).data.toList = s.data.toList.drop i := by
  rw [ByteArray.data_extract, Array.toList_extract]
  simp only [List.extract_eq_take_drop]
  rw [List.take_of_length_le (by rw [List.length_drop, len_list]; exact Nat.le_refl _)]
def firstB (s : ByteArray) : ByteArray := ⟨(firstI s.data.toList).toArray⟩
def restB (s : ByteArray) : ByteArray := ⟨(restI s.data.toList).toArray⟩
def bareB (s : ByteArray) : ByteArray := ⟨(bareZ s.data.toList).toArray⟩
theorem firstI_at {l : List UInt8} {i : Nat} (hi : i < l.length) (h0 : ∀ c ∈ l.take i, c ≠ 46) (hc : l[i] = 46) : firstI l = l.take i ∧ restI l = l.drop (i + 1) := by
  have e : l = l.take i ++ 46 :: l.drop (i + 1) := by rw [← hc, ← List.drop_eq_getElem_cons hi, List.take_append_drop]
  have h1 : ∀ c ∈ l.take i, (c != 46) = true := fun c h => by rw [bne_iff_ne]; exact h0 c h
  refine ⟨?_, ?_⟩
  · unfold firstI
    conv => lhs; rw [e]
    rw [List.takeWhile_append_of_pos h1]; simp
  · unfold restI
    conv => lhs; rw [e]
    rw [List.dropWhile_append_of_pos h1]; simp
theorem firstI_all {l : List UInt8} (h0 : ∀ c ∈ l, c ≠ 46) : firstI l = l ∧ restI l = [] := by
  have h1 : ∀ c ∈ l, (c != 46) = true := fun c h => by rw [bne_iff_ne]; exact h0 c h
  refine ⟨?_, ?_⟩
  · unfold firstI
    have := List.takeWhile_append_of_pos (l₂ := []) h1
    simpa using this
  · unfold restI
    have := List.dropWhile_append_of_pos (l₂ := []) h1
    rw [List.append_nil] at this
    rw [this]; rfl
theorem take_more {l : List UInt8} {i : Nat} (hi : i < l.length) (h0 : ∀ c ∈ l.take i, c ≠ 46) (hc : l[i] ≠ 46) : ∀ c ∈ l.take (i + 1), c ≠ 46 := by
  intro c h
  rw [List.take_succ_eq_append_getElem hi, List.mem_append, List.mem_singleton] at h
  rcases h with h | h
  · exact h0 c h
  · rw [h]; exact hc
theorem byte_int {c : UInt8} {n : Nat} (hn : n < 256) : ((c.toNat : Int) = (n : Int)) ↔ c = UInt8.ofNat n := by
  constructor
  · intro h
    apply UInt8.toNat_inj.1
    rw [UInt8.toNat_ofNat']; omega
  · rintro rfl
    rw [UInt8.toNat_ofNat']; omega
theorem first_tells (s : ByteArray) (hn : s.size ≤ 140737488351232) (d : Nat) : ∀ (k i : Nat), i ≤ s.size → s.size - i = d → d < k → (∀ c ∈ s.data.toList.take i, c ≠ 46) →
    Pfirst.semver_first.l0 k s (i : Int) = some (firstB s, restB s) := by
  induction d with
  | zero =>
    intro k i hi hd hk h0
    cases k with
    | zero => omega
    | succ k =>
      rw [Pfirst.semver_first.l0, if_neg (by omega)]
      rw [List.take_of_length_le (by rw [len_list]; omega)] at h0
      obtain ⟨e1, e2⟩ := firstI_all h0
      unfold firstB restB
      rw [e1, e2]
  | succ d ih =>
    intro k i hi hd hk h0
    have hlt : i < s.size := by omega
    have hll : i < s.data.toList.length := by rw [len_list]; exact hlt
    have hget : s.data.toList[i] = s[i] := rfl
    cases k with
    | zero => omega
    | succ k =>
      have w1 : wrap64 ((i : Int) + 1) = ((i + 1 : Nat) : Int) := by rw [wrap_in (by omega) (by omega)]; omega
      rw [Pfirst.semver_first.l0, if_pos (by omega), if_pos (by omega), bt_nat s i hlt, w1]
      by_cases hc : s[i] = 46
      · rw [if_pos (by rw [hc]; rfl), if_pos (by omega), if_pos (by omega), if_pos (by omega)]
        obtain ⟨e1, e2⟩ := firstI_at hll h0 (hget.trans hc)
        unfold firstB restB
        rw [e1, e2]
        congr 2
        · apply ba_eq; rw [Int.toNat_natCast, extract_pre]
        · apply ba_eq; rw [Int.toNat_natCast, extract_suf]
      · have hne : ¬ ((s[i].toNat : Int) = 46) := fun h => hc ((byte_int (n := 46) (by omega)).1 h)
        rw [if_neg hne]
        exact ih k (i + 1) (by omega) (by omega) (by omega) (take_more hll h0 (fun h => hc (hget.symm.trans h)))
theorem first_any (s : ByteArray) (hn : s.size ≤ 140737488351232) (w : World) :
    Calls Tryz.prog 210 #[.string s] w fun e w' => e = .returned (.tuple #[.string (firstB s), .string (restB s)]) ∧ ∃ n, w' = w.drewN n :=
  (Pfirst.semver_first.calls (s.size + 1) s _ _ w (first_tells s hn s.size (s.size + 1) 0 (by omega) (by omega) (by omega) (by simp))).mono fun _ _ ⟨h, hd⟩ => ⟨h, hd.out⟩
theorem number_tells (s : ByteArray) (hn : s.size ≤ 140737488351232) (d : Nat) : ∀ (k i : Nat), i ≤ s.size → s.size - i = d → d < k →
    Pcompare.semver_number.l0 k s (i : Int) = some (!s.data.toList.isEmpty && (s.data.toList.drop i).all Ord.isDig) := by
  induction d with
  | zero =>
    intro k i hi hd hk
    cases k with
    | zero => omega
    | succ k =>
      rw [Pcompare.semver_number.l0, if_neg (by omega), List.drop_eq_nil_of_le (by rw [len_list]; omega), ByteArray.toList_eq]
      cases s.data.toList <;> rfl
  | succ d ih =>
    intro k i hi hd hk
    have hlt : i < s.size := by omega
    have hne : s.data.toList.isEmpty = false := by
      have := drop_at s i hlt
      cases h : s.data.toList with
      | nil => rw [h] at this; simp at this
      | cons => rfl
    cases k with
    | zero => omega
    | succ k =>
      have w1 : wrap64 ((i : Int) + 1) = ((i + 1 : Nat) : Int) := by rw [wrap_in (by omega) (by omega)]; omega
      rw [Pcompare.semver_number.l0, if_pos (by omega), if_pos (by omega), bt_nat s i hlt, w1, drop_at s i hlt, List.all_cons]
      have e1 := ih k (i + 1) (by omega) (by omega) (by omega)
      unfold Ord.isDig at *
      by_cases h1 : s[i].toNat < 48
      · rw [if_pos (by omega), decide_eq_false (by omega)]; simp
      · rw [if_neg (by omega)]
        by_cases h2 : s[i].toNat ≤ 57
        · rw [if_neg (by omega), e1, decide_eq_true (by omega : 48 ≤ s[i].toNat), decide_eq_true h2]; simp
        · rw [if_pos (by omega), decide_eq_false h2]; simp
theorem number_any (s : ByteArray) (hn : s.size ≤ 140737488351232) (w : World) :
    Calls Tryz.prog 212 #[.string s] w fun e w' => e = .returned (.bool (idNum s.data.toList)) ∧ ∃ n, w' = w.drewN n :=
  (Pcompare.semver_number.calls (s.size + 1) s _ w (number_tells s hn s.size (s.size + 1) 0 (by omega) (by omega) (by omega))).mono fun _ _ ⟨h, hd⟩ => ⟨h, hd.out⟩
theorem bare_tells (d : Nat) : ∀ (s : ByteArray) (k : Nat), s.size = d → d < k → Pcompare.semver_bare.l0 k s = some (bareB s) := by
  induction d with
  | zero =>
    intro s k hd hk
    cases k with
    | zero => omega
    | succ k =>
      rw [Pcompare.semver_bare.l0, if_neg (by omega)]
      congr 1
      apply ba_eq
      have : s.data.toList = [] := List.length_eq_zero_iff.1 (by rw [len_list]; exact hd)
      unfold bareB; rw [this]; rfl
  | succ d ih =>
    intro s k hd hk
    cases k with
    | zero => omega
    | succ k =>
      have e0 := drop_at s 0 (by omega)
      rw [List.drop_zero] at e0
      rw [Pcompare.semver_bare.l0]
      by_cases h1 : 1 < s.size
      · have e1 := drop_at s 1 h1
        rw [if_pos (by omega), if_pos (by omega), show ((0 : Int)) = ((0 : Nat) : Int) from rfl, bt_nat s 0 (by omega)]
        by_cases hc : s[0] = 48
        · rw [if_pos (by rw [hc]; rfl), if_pos (by omega), ih (s.extract 1 s.size) k (by rw [ByteArray.size_extract]; omega) (by omega)]
          congr 1
          apply ba_eq
          unfold bareB
          show bareZ (s.extract 1 s.size).data.toList = bareZ s.data.toList
          rw [extract_suf]
          conv => rhs; rw [e0, e1, hc]
          rw [e1]
          rfl
        · have hne : ¬ ((s[0].toNat : Int) = 48) := fun h => hc ((byte_int (n := 48) (by omega)).1 h)
          rw [if_neg hne]
          congr 1
          apply ba_eq
          unfold bareB
          show _ = bareZ s.data.toList
          rw [e0, e1]
          simp only [bareZ]
          rw [if_neg hc]
      · rw [if_neg (by omega)]
        congr 1
        apply ba_eq
        unfold bareB
        show _ = bareZ s.data.toList
        rw [e0, List.drop_eq_nil_of_le (by rw [len_list]; omega)]
        rfl
theorem bare_any (s : ByteArray) (w : World) :
    Calls Tryz.prog 213 #[.string s] w fun e w' => e = .returned (.string (bareB s)) ∧ ∃ n, w' = w.drewN n :=
  (Pcompare.semver_bare.calls (s.size + 1) s _ w (bare_tells s.size s (s.size + 1) rfl (by omega))).mono fun _ _ ⟨h, hd⟩ => ⟨h, hd.out⟩
end Go.Proofs.YtgoeiflddikihaaGreatDoor.Ver
end
