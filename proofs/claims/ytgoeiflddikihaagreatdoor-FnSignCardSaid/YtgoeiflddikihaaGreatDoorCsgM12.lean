/- Merged by program out of: VVer. -/
import Derived.Test.YtgoeiflddikihaaGreatDoorCsgM9
section
namespace Go.Proofs.YtgoeiflddikihaaGreatDoor.Ver
open Go.RowKit Go.Proofs.YtgoeiflddikihaaGreatDoor.Dig Go.Proofs.YtgoeiflddikihaaGreatDoorW.PrintWords
theorem below_trans {a b c : World} (h : Below a.heap.size a b) (k : Below b.heap.size b c) : Below a.heap.size a c := h.trans (k.mono h.size)
theorem nums_len : ∀ (m : Nat) (acc ns : List Nat) (l r : List UInt8), nums m acc l = some (ns, r) → 1 ≤ ns.length
  | 0, _, _, _, _, h => by simp [nums] at h
  | m + 1, acc, ns, l, r, h => by
    rw [nums] at h
    split at h
    · cases h
    · split at h
      · exact nums_len m _ _ _ _ h
      · simp at h; rw [← h.1]; simp
theorem readV_pos {s : ByteArray} {v : SV} {k : Nat} (h : readV s = some (v, k)) : 1 ≤ k := by
  unfold readV at h
  split at h
  · cases h
  · rename_i ns r hn
    split at h
    · cases h
    · split at h
      · cases h
      · split at h
        · injection h with h; injection h with _ h2; rw [← h2]; exact nums_len _ _ _ _ _ hn
        · cases h
def newV (s : ByteArray) : Unp := match readV s with
  | none => .plain s
  | some (v, _) => .sem v
def NewEnd (s : ByteArray) (w : World) (e : Ending) (w' : World) : Prop :=
  Below w.heap.size w w' ∧ match readV s with
    | none => ∃ a, e = .returned (.tuple #[.agg zSV, .iface 260 (.pointer (some a))])
    | some (v, _) => e = .returned (.tuple #[.agg v.cells, .nilIface])
theorem new_any' (s : ByteArray) (hs : s.size ≤ 2147483647) (w : World) (hv : Vars w) : Calls Tryz.prog 129 #[.string s] w (NewEnd s w) := by
  have HR := Lib.hid (fun W hb => read_any s hs W (Vars.below (w := w) hv hb))
  have HB := Aside0.mk (Below.refl w.heap.size w)
  clear hv
  cases hq : readV s with
  | none =>
    have HQ := Lib.hid hq
    clear hq
    go_enter Tryz.func129, Tryz.ntmps129
    go_wp2_with (first
      | (go_at_call 143; ((with_reducible refine (HR.out _ (by repeat (first | exact HB.out | apply below_alloc | apply pw_below_drewN))).mono ?_); rintro e w5 ⟨hb, hm⟩; rw [HQ.out] at hm; obtain ⟨a, rfl⟩ := hm; refine Hid.out ?_)))
    have hk := blk_below (alloc_at w (.cells zSV 197)) hb
    have HB5 := Aside0.mk (below_trans (by repeat (first | exact HB.out | apply below_alloc | apply pw_below_drewN)) hb)
    have hk2 := blk_alloc hk (.cells zSV 197)
    have r0 := blk_cell hk2 0
    have t0 := blk_frozen hk2 0
    have r1 := blk_cell hk2 1
    have t1 := blk_frozen hk2 1
    have r2 := blk_cell hk2 2
    have t2 := blk_frozen hk2 2
    have r3 := blk_cell hk2 3
    have t3 := blk_frozen hk2 3
    have r4 := blk_cell hk2 4
    have t4 := blk_frozen hk2 4
    have r5 := blk_cell hk2 5
    have t5 := blk_frozen hk2 5
    clear hk hk2 hb
    refine Lib.hid ?_
    go_wp2_with fail
    refine bodyPost_ret (v := .tuple #[.agg zSV, .iface 260 (.pointer (some a))]) (by simp [results, Tryz.results129, go_sem, *]) rfl ⟨?_, by rw [HQ.out]; exact ⟨a, rfl⟩⟩
    exact ((((((below_alloc HB5.out _).setCell (Nat.le_refl _) _).setCell (Nat.le_refl _) _).setCell (Nat.le_refl _) _).setCell (Nat.le_refl _) _).setCell (Nat.le_refl _) _).setCell (Nat.le_refl _) _
  | some p =>
    obtain ⟨v, k⟩ := p
    have hk0 := readV_pos hq
    have HQ := Lib.hid hq
    clear hq
    go_enter Tryz.func129, Tryz.ntmps129
    go_wp2_with (first
      | (go_at_call 143; ((with_reducible refine (HR.out _ (by repeat (first | exact HB.out | apply below_alloc | apply pw_below_drewN))).mono ?_); rintro e w5 ⟨hb, hm⟩; rw [HQ.out] at hm; obtain rfl := hm; refine Hid.out ?_)))
    obtain ⟨va, vb, vc, vp, vm, vo⟩ := v
    have hk := blk_below (alloc_at w (.cells zSV 197)) hb
    have HB5 := Aside0.mk (below_trans (by repeat (first | exact HB.out | apply below_alloc | apply pw_below_drewN)) hb)
    have hk2 := blk_alloc hk (.cells #[.int .u64 va, .int .u64 vb, .int .u64 vc, .string vp, .string vm, .string vo] 197)
    have r0 := blk_cell hk2 0
    have t0 := blk_frozen hk2 0
    have r1 := blk_cell hk2 1
    have t1 := blk_frozen hk2 1
    have r2 := blk_cell hk2 2
    have t2 := blk_frozen hk2 2
    have r3 := blk_cell hk2 3
    have t3 := blk_frozen hk2 3
    have r4 := blk_cell hk2 4
    have t4 := blk_frozen hk2 4
    have r5 := blk_cell hk2 5
    have t5 := blk_frozen hk2 5
    have q0 : ((k : Int) == 0) = false := by rw [beq_eq_false_iff_ne]; omega
    clear hk hk2 hb hk0
    refine Lib.hid ?_
    dsimp only [SV.cells]
    go_wp2_with fail
    refine bodyPost_ret (v := .tuple #[.agg #[.int .u64 va, .int .u64 vb, .int .u64 vc, .string vp, .string vm, .string vo], .nilIface]) (by simp [results, Tryz.results129, go_sem, *]) rfl ⟨?_, by rw [HQ.out]; rfl⟩
    exact ((((((below_alloc HB5.out _).setCell (Nat.le_refl _) _).setCell (Nat.le_refl _) _).setCell (Nat.le_refl _) _).setCell (Nat.le_refl _) _).setCell (Nat.le_refl _) _).setCell (Nat.le_refl _) _
theorem newV_any (s : ByteArray) (hs : s.size ≤ 2147483647) (w : World) (hv : Vars w) : Calls Tryz.prog 122 #[.string s] w fun e w' => e = .returned (newV s).val ∧ Below w.heap.size w w' := by
  have HR := Lib.hid (fun W hb => new_any' s hs W (Vars.below (w := w) hv hb))
  have HB := Aside0.mk (Below.refl w.heap.size w)
  clear hv
  cases hq : readV s with
  | none =>
    have hN : newV s = .plain s := by unfold newV; rw [hq]
    rw [hN]
    have HQ := Lib.hid hq
    clear hq hN
    go_enter Tryz.func122, Tryz.ntmps122
    go_wp2_with (first
      | (go_at_call 129; ((with_reducible refine (HR.out _ (by repeat (first | exact HB.out | apply below_alloc | apply pw_below_drewN))).mono ?_); rintro e w5 ⟨hb, hm⟩; rw [HQ.out] at hm; obtain ⟨a, rfl⟩ := hm; have HB5 := Aside0.mk (below_trans (by repeat (first | exact HB.out | apply below_alloc | apply pw_below_drewN)) hb); clear hb)))
    go_ret
    exact ⟨rfl, by repeat (first | exact HB5.out | apply below_alloc | apply pw_below_drewN)⟩
  | some p =>
    obtain ⟨v, k⟩ := p
    have hN : newV s = .sem v := by unfold newV; rw [hq]
    rw [hN]
    have HQ := Lib.hid hq
    clear hq hN
    go_enter Tryz.func122, Tryz.ntmps122
    go_wp2_with (first
      | (go_at_call 129; ((with_reducible refine (HR.out _ (by repeat (first | exact HB.out | apply below_alloc | apply pw_below_drewN))).mono ?_); rintro e w5 ⟨hb, hm⟩; rw [HQ.out] at hm; obtain rfl := hm; have HB5 := Aside0.mk (below_trans (by repeat (first | exact HB.out | apply below_alloc | apply pw_below_drewN)) hb); clear hb; dsimp only [SV.cells])))
    go_ret
    exact ⟨rfl, by repeat (first | exact HB5.out | apply below_alloc | apply pw_below_drewN)⟩
def unpV (k : Int) (t : ByteArray) : Option Unp := if k = 1 then some (.branch t false) else if k = 2 then some (.branch t true) else if k = 3 then some (newV t) else none
def verV (k : Int) (t r : ByteArray) : Vers := match unpV k t with
  | none => .rev t
  | some u => if r = ⟨#[]⟩ then .un u else .pair u r
def unpVal : Option Unp → Value
  | none => .nilIface
  | some u => u.val
theorem unp_any (k : Int) (t r : ByteArray) (ht : t.size ≤ 2147483647) (w : World) (hv : Vars w) : Calls Tryz.prog 98 #[.agg #[.int .i64 k, .string t, .string r]] w fun e w' => e = .returned (unpVal (unpV k t)) ∧ Below w.heap.size w w' := by
  have HR := Lib.hid (fun W hb => newV_any t ht W (Vars.below (w := w) hv hb))
  have HB := Aside0.mk (Below.refl w.heap.size w)
  clear hv
  by_cases h1 : k = 1
  · subst h1
    go_enter Tryz.func98, Tryz.ntmps98
    go_wp2
    go_ret
    exact ⟨rfl, by repeat (first | exact HB.out | apply below_alloc | apply pw_below_drewN)⟩
  by_cases h2 : k = 2
  · subst h2
    go_enter Tryz.func98, Tryz.ntmps98
    go_wp2
    go_ret
    exact ⟨rfl, by repeat (first | exact HB.out | apply below_alloc | apply pw_below_drewN)⟩
  by_cases h3 : k = 3
  · subst h3
    go_enter Tryz.func98, Tryz.ntmps98
    go_wp2_with (first
      | (go_at_call 122; ((with_reducible refine (HR.out _ (by repeat (first | exact HB.out | apply below_alloc | apply pw_below_drewN))).mono ?_); rintro e w5 ⟨rfl, hb⟩; have HB5 := Aside0.mk (below_trans (by repeat (first | exact HB.out | apply below_alloc | apply pw_below_drewN)) hb); clear hb)))
    go_ret
    exact ⟨rfl, by repeat (first | exact HB5.out | apply below_alloc | apply pw_below_drewN)⟩
  · have q1 : (k == 1) = false := beq_eq_false_iff_ne.2 h1
    have q2 : (k == 2) = false := beq_eq_false_iff_ne.2 h2
    have q3 : (k == 3) = false := beq_eq_false_iff_ne.2 h3
    have hN : unpV k t = none := by unfold unpV; rw [if_neg h1, if_neg h2, if_neg h3]
    rw [hN]
    clear h1 h2 h3 hN
    go_enter Tryz.func98, Tryz.ntmps98
    go_wp2
    go_ret
    exact ⟨rfl, by repeat (first | exact HB.out | apply below_alloc | apply pw_below_drewN)⟩
theorem size_pos {r : ByteArray} (h : r ≠ ⟨#[]⟩) : 0 < r.size := by
  rcases Nat.eq_zero_or_pos r.size with h0 | h0
  · exact absurd (ByteArray.ext (Array.ext' (list_nil h0))) h
  · exact h0
theorem ver_any (k : Int) (t r : ByteArray) (ht : t.size ≤ 2147483647) (w : World) (hv : Vars w) : Calls Tryz.prog 66 #[.agg #[.int .i64 k, .string t, .string r]] w fun e w' => e = .returned (verV k t r).val ∧ Below w.heap.size w w' := by
  have HR := Lib.hid (fun W hb => unp_any k t r ht W (Vars.below (w := w) hv hb))
  have HB := Aside0.mk (Below.refl w.heap.size w)
  clear hv
  have mb := m_branch_Pair
  have mp := m_plain_Pair
  have ms := m_sem_Pair
  cases hq : unpV k t with
  | none =>
    have hN : verV k t r = .rev t := by unfold verV; rw [hq]
    rw [hN]
    have HQ := Lib.hid hq
    clear hq hN
    go_enter Tryz.func66, Tryz.ntmps66
    go_wp2_with (first
      | (go_at_call 98; ((with_reducible refine (HR.out _ (by repeat (first | exact HB.out | apply below_alloc | apply pw_below_drewN))).mono ?_); rintro e w5 ⟨rfl, hb⟩; refine Hid.out ?_)))
    have hk := blk_below (alloc_at w (.cells #[.int .i64 k, .string t, .string r] 27)) hb
    have HB5 := Aside0.mk (below_trans (by repeat (first | exact HB.out | apply below_alloc | apply pw_below_drewN)) hb)
    have r0 := blk_cell hk 0
    have r1 := blk_cell hk 1
    have r2 := blk_cell hk 2
    clear hk hb
    rw [HQ.out]
    dsimp only [unpVal, Unp.val, Unp.tid, Unp.inner, SV.cells]
    refine Lib.hid ?_
    go_wp2
    go_ret
    exact ⟨rfl, by repeat (first | exact HB5.out | apply below_alloc | apply pw_below_drewN)⟩
  | some u =>
    by_cases hr : r = ⟨#[]⟩
    · have hN : verV k t r = .un u := by unfold verV; rw [hq]; simp only; rw [if_pos hr]
      rw [hN]
      have hem : r.toList.isEmpty = true := isEmpty_true (by rw [hr]; rfl)
      have HQ := Lib.hid hq
      clear hq hN hr
      rcases u with ⟨n, d⟩ | n | v
      · go_enter Tryz.func66, Tryz.ntmps66
        go_wp2_with (first
          | (go_at_call 98; ((with_reducible refine (HR.out _ (by repeat (first | exact HB.out | apply below_alloc | apply pw_below_drewN))).mono ?_); rintro e w5 ⟨rfl, hb⟩; refine Hid.out ?_)))
        have hk := blk_below (alloc_at w (.cells #[.int .i64 k, .string t, .string r] 27)) hb
        have HB5 := Aside0.mk (below_trans (by repeat (first | exact HB.out | apply below_alloc | apply pw_below_drewN)) hb)
        have r0 := blk_cell hk 0
        have r1 := blk_cell hk 1
        have r2 := blk_cell hk 2
        clear hk hb
        rw [HQ.out]
        dsimp only [unpVal, Unp.val, Unp.tid, Unp.inner, SV.cells]
        refine Lib.hid ?_
        go_wp2
        go_ret
        exact ⟨rfl, by repeat (first | exact HB5.out | apply below_alloc | apply pw_below_drewN)⟩
      · go_enter Tryz.func66, Tryz.ntmps66
        go_wp2_with (first
          | (go_at_call 98; ((with_reducible refine (HR.out _ (by repeat (first | exact HB.out | apply below_alloc | apply pw_below_drewN))).mono ?_); rintro e w5 ⟨rfl, hb⟩; refine Hid.out ?_)))
        have hk := blk_below (alloc_at w (.cells #[.int .i64 k, .string t, .string r] 27)) hb
        have HB5 := Aside0.mk (below_trans (by repeat (first | exact HB.out | apply below_alloc | apply pw_below_drewN)) hb)
        have r0 := blk_cell hk 0
        have r1 := blk_cell hk 1
        have r2 := blk_cell hk 2
        clear hk hb
        rw [HQ.out]
        dsimp only [unpVal, Unp.val, Unp.tid, Unp.inner, SV.cells]
        refine Lib.hid ?_
        go_wp2
        go_ret
        exact ⟨rfl, by repeat (first | exact HB5.out | apply below_alloc | apply pw_below_drewN)⟩
      · go_enter Tryz.func66, Tryz.ntmps66
        go_wp2_with (first
          | (go_at_call 98; ((with_reducible refine (HR.out _ (by repeat (first | exact HB.out | apply below_alloc | apply pw_below_drewN))).mono ?_); rintro e w5 ⟨rfl, hb⟩; refine Hid.out ?_)))
        have hk := blk_below (alloc_at w (.cells #[.int .i64 k, .string t, .string r] 27)) hb
        have HB5 := Aside0.mk (below_trans (by repeat (first | exact HB.out | apply below_alloc | apply pw_below_drewN)) hb)
        have r0 := blk_cell hk 0
        have r1 := blk_cell hk 1
        have r2 := blk_cell hk 2
        clear hk hb
        rw [HQ.out]
        dsimp only [unpVal, Unp.val, Unp.tid, Unp.inner, SV.cells]
        refine Lib.hid ?_
        go_wp2
        go_ret
        exact ⟨rfl, by repeat (first | exact HB5.out | apply below_alloc | apply pw_below_drewN)⟩
    · have hN : verV k t r = .pair u r := by unfold verV; rw [hq]; simp only; rw [if_neg hr]
      rw [hN]
      have hem : r.toList.isEmpty = false := isEmpty_false (size_pos hr)
      have HQ := Lib.hid hq
      clear hq hN hr
      rcases u with ⟨n, d⟩ | n | v
      · go_enter Tryz.func66, Tryz.ntmps66
        go_wp2_with (first
          | (go_at_call 98; ((with_reducible refine (HR.out _ (by repeat (first | exact HB.out | apply below_alloc | apply pw_below_drewN))).mono ?_); rintro e w5 ⟨rfl, hb⟩; refine Hid.out ?_)))
        have hk := blk_below (alloc_at w (.cells #[.int .i64 k, .string t, .string r] 27)) hb
        have HB5 := Aside0.mk (below_trans (by repeat (first | exact HB.out | apply below_alloc | apply pw_below_drewN)) hb)
        have r0 := blk_cell hk 0
        have r1 := blk_cell hk 1
        have r2 := blk_cell hk 2
        clear hk hb
        rw [HQ.out]
        dsimp only [unpVal, Unp.val, Unp.tid, Unp.inner, SV.cells]
        refine Lib.hid ?_
        go_wp2
        go_ret
        exact ⟨rfl, by repeat (first | exact HB5.out | apply below_alloc | apply pw_below_drewN)⟩
      · go_enter Tryz.func66, Tryz.ntmps66
        go_wp2_with (first
          | (go_at_call 98; ((with_reducible refine (HR.out _ (by repeat (first | exact HB.out | apply below_alloc | apply pw_below_drewN))).mono ?_); rintro e w5 ⟨rfl, hb⟩; refine Hid.out ?_)))
        have hk := blk_below (alloc_at w (.cells #[.int .i64 k, .string t, .string r] 27)) hb
        have HB5 := Aside0.mk (below_trans (by repeat (first | exact HB.out | apply below_alloc | apply pw_below_drewN)) hb)
        have r0 := blk_cell hk 0
        have r1 := blk_cell hk 1
        have r2 := blk_cell hk 2
        clear hk hb
        rw [HQ.out]
        dsimp only [unpVal, Unp.val, Unp.tid, Unp.inner, SV.cells]
        refine Lib.hid ?_
        go_wp2
        go_ret
        exact ⟨rfl, by repeat (first | exact HB5.out | apply below_alloc | apply pw_below_drewN)⟩
      · go_enter Tryz.func66, Tryz.ntmps66
        go_wp2_with (first
          | (go_at_call 98; ((with_reducible refine (HR.out _ (by repeat (first | exact HB.out | apply below_alloc | apply pw_below_drewN))).mono ?_); rintro e w5 ⟨rfl, hb⟩; refine Hid.out ?_)))
        have hk := blk_below (alloc_at w (.cells #[.int .i64 k, .string t, .string r] 27)) hb
        have HB5 := Aside0.mk (below_trans (by repeat (first | exact HB.out | apply below_alloc | apply pw_below_drewN)) hb)
        have r0 := blk_cell hk 0
        have r1 := blk_cell hk 1
        have r2 := blk_cell hk 2
        clear hk hb
        rw [HQ.out]
        dsimp only [unpVal, Unp.val, Unp.tid, Unp.inner, SV.cells]
        refine Lib.hid ?_
        go_wp2
        go_ret
        exact ⟨rfl, by repeat (first | exact HB5.out | apply below_alloc | apply pw_below_drewN)⟩
end Go.Proofs.YtgoeiflddikihaaGreatDoor.Ver
end
