/- Merged by program out of: VOk, VAs, Rm, AwakeA, After, Ri. -/
import Derived.Test.YtgoeiflddikihaaGreatDoorCsM7
import Derived.Lib.ParseIntBCases
import Derived.Laws.OwnMore
import Derived.Laws.Tables
import Derived.Laws.CopyOwn
import Derived.Deep.MidRow
import Derived.Test.YtgoeiflddikihaaGreatDoorCsM6
import Derived.RegionTactic
import Derived.BigRegion
import Derived.Great.BuildSlice
section
namespace Go.Proofs.YtgoeiflddikihaaGreatDoor.Ver
open Go.RowKit Go.Proofs.YtgoeiflddikihaaGreatDoor.Dig Go.Proofs.YtgoeiflddikihaaGreatDoorW.PrintWords
theorem numOf_lt {l r : List UInt8} {u : Nat} (h : numOf l = some (u, r)) : u < 18446744073709551616 ∧ r.length ≤ l.length := by
  unfold numOf at h
  split at h
  · cases h
  · split at h
    · rename_i u' hu
      simp at h
      obtain ⟨rfl, rfl⟩ := h
      have := Lib.parseUintB_le hu
      exact ⟨by have e : 2 ^ 64 - 1 = 18446744073709551615 := rfl; omega, by rw [List.length_drop]; omega⟩
    · cases h
theorem nums_ok : ∀ (m : Nat) (acc ns : List Nat) (l r : List UInt8), (∀ x ∈ acc, x < 18446744073709551616) → nums m acc l = some (ns, r) → (∀ x ∈ ns, x < 18446744073709551616) ∧ r.length ≤ l.length
  | 0, _, _, _, _, _, h => by simp [nums] at h
  | m + 1, acc, ns, l, r, ha, h => by
    rw [nums] at h
    split at h
    · cases h
    · rename_i a r' hn
      have hl := numOf_lt hn
      have hb : ∀ x ∈ acc ++ [a], x < 18446744073709551616 := fun x hx => by
        rcases List.mem_append.1 hx with hx | hx
        · exact ha x hx
        · rw [List.mem_singleton] at hx; rw [hx]; exact hl.1
      split at h
      · have := nums_ok m _ _ _ _ hb h
        exact ⟨this.1, by have h2 := this.2; rw [List.length_drop] at h2; omega⟩
      · simp at h
        obtain ⟨rfl, rfl⟩ := h
        exact ⟨hb, hl.2⟩
theorem part_len {c : UInt8} {l p r : List UInt8} (h : part c l = some (p, r)) : p.length ≤ l.length ∧ r.length ≤ l.length := by
  cases l with
  | nil => simp [part] at h; rw [h.1, h.2]; simp
  | cons x q =>
    rw [part] at h
    split at h
    · split at h
      · cases h
      · simp at h
        obtain ⟨rfl, rfl⟩ := h
        rw [List.length_take, List.length_drop, List.length_cons]
        omega
    · simp at h
      obtain ⟨rfl, rfl⟩ := h
      simp
theorem getD_lt {ns : List Nat} (h : ∀ x ∈ ns, x < 18446744073709551616) (i : Nat) : ns.getD i 0 < 18446744073709551616 := by
  rw [List.getD_eq_getElem?_getD]
  cases hx : ns[i]? with
  | none => simp
  | some x => exact h x (List.mem_of_getElem? hx)
theorem readV_ok' {s : ByteArray} {v : SV} {k : Nat} (hs : s.size ≤ 2147483647) (h : readV s = some (v, k)) : SVok v ∧ v.orig = s := by
  have hb := bare0_size s
  unfold readV at h
  split at h
  · cases h
  · rename_i ns r hn
    have h1 := nums_ok 3 [] ns _ r (fun x hx => by cases hx) hn
    split at h
    · cases h
    · rename_i pre r1 hp
      have h2 := part_len hp
      split at h
      · cases h
      · rename_i mt r2 hm
        have h3 := part_len hm
        split at h
        · injection h with h
          injection h with h h'
          subst h
          refine ⟨⟨by simp, ?_, by simp, ?_, by simp, ?_, ?_, ?_⟩, rfl⟩
          · show ((ns.getD 0 0 : Nat) : Int) < _
            have := getD_lt h1.1 0; omega
          · show ((ns.getD 1 0 : Nat) : Int) < _
            have := getD_lt h1.1 1; omega
          · show ((ns.getD 2 0 : Nat) : Int) < _
            have := getD_lt h1.1 2; omega
          · show pre.toArray.size ≤ _
            rw [List.size_toArray]; omega
          · show mt.toArray.size ≤ _
            rw [List.size_toArray]; omega
        · cases h
def Unp.ok : Unp → Prop
  | .branch n _ => n.size ≤ 2147483647
  | .plain n => n.size ≤ 2147483647
  | .sem v => SVok v ∧ v.orig.size ≤ 2147483647
def Vers.ok : Vers → Prop
  | .rev s => s.size ≤ 2147483647
  | .un u => u.ok
  | .pair u r => u.ok ∧ r.size ≤ 2147483647
end Go.Proofs.YtgoeiflddikihaaGreatDoor.Ver
end
section
namespace Go.Proofs.YtgoeiflddikihaaGreatDoor.Ver
open Go.RowKit
theorem c_rev_rev (v : Value) (xT : TypeId) (w : World) : (Instr.typeAssert (.iface 135 v) xT 135 true).run Tryz.prog w = .ok (.tuple #[v, .bool true]) w := by kernel_rfl
theorem c_rev_branch (v : Value) (xT : TypeId) (w : World) : (Instr.typeAssert (.iface 135 v) xT 215 true).run Tryz.prog w = .ok (.tuple #[.agg #[.string ⟨#[]⟩, .bool false], .bool false]) w := by kernel_rfl
theorem c_rev_plain (v : Value) (xT : TypeId) (w : World) : (Instr.typeAssert (.iface 135 v) xT 224 true).run Tryz.prog w = .ok (.tuple #[.string ⟨#[]⟩, .bool false]) w := by kernel_rfl
theorem c_rev_sem (v : Value) (xT : TypeId) (w : World) : (Instr.typeAssert (.iface 135 v) xT 200 true).run Tryz.prog w = .ok (.tuple #[.agg zSV, .bool false]) w := by kernel_rfl
theorem c_rev_pair (v : Value) (xT : TypeId) (w : World) : (Instr.typeAssert (.iface 135 v) xT 212 true).run Tryz.prog w = .ok (.tuple #[.agg #[.nilIface, .string ⟨#[]⟩], .bool false]) w := by kernel_rfl
theorem c_branch_rev (v : Value) (xT : TypeId) (w : World) : (Instr.typeAssert (.iface 215 v) xT 135 true).run Tryz.prog w = .ok (.tuple #[.string ⟨#[]⟩, .bool false]) w := by kernel_rfl
theorem c_branch_branch (v : Value) (xT : TypeId) (w : World) : (Instr.typeAssert (.iface 215 v) xT 215 true).run Tryz.prog w = .ok (.tuple #[v, .bool true]) w := by kernel_rfl
theorem c_branch_plain (v : Value) (xT : TypeId) (w : World) : (Instr.typeAssert (.iface 215 v) xT 224 true).run Tryz.prog w = .ok (.tuple #[.string ⟨#[]⟩, .bool false]) w := by kernel_rfl
theorem c_branch_sem (v : Value) (xT : TypeId) (w : World) : (Instr.typeAssert (.iface 215 v) xT 200 true).run Tryz.prog w = .ok (.tuple #[.agg zSV, .bool false]) w := by kernel_rfl
theorem c_branch_pair (v : Value) (xT : TypeId) (w : World) : (Instr.typeAssert (.iface 215 v) xT 212 true).run Tryz.prog w = .ok (.tuple #[.agg #[.nilIface, .string ⟨#[]⟩], .bool false]) w := by kernel_rfl
theorem c_plain_rev (v : Value) (xT : TypeId) (w : World) : (Instr.typeAssert (.iface 224 v) xT 135 true).run Tryz.prog w = .ok (.tuple #[.string ⟨#[]⟩, .bool false]) w := by kernel_rfl
theorem c_plain_branch (v : Value) (xT : TypeId) (w : World) : (Instr.typeAssert (.iface 224 v) xT 215 true).run Tryz.prog w = .ok (.tuple #[.agg #[.string ⟨#[]⟩, .bool false], .bool false]) w := by kernel_rfl
theorem c_plain_plain (v : Value) (xT : TypeId) (w : World) : (Instr.typeAssert (.iface 224 v) xT 224 true).run Tryz.prog w = .ok (.tuple #[v, .bool true]) w := by kernel_rfl
theorem c_plain_sem (v : Value) (xT : TypeId) (w : World) : (Instr.typeAssert (.iface 224 v) xT 200 true).run Tryz.prog w = .ok (.tuple #[.agg zSV, .bool false]) w := by kernel_rfl
theorem c_plain_pair (v : Value) (xT : TypeId) (w : World) : (Instr.typeAssert (.iface 224 v) xT 212 true).run Tryz.prog w = .ok (.tuple #[.agg #[.nilIface, .string ⟨#[]⟩], .bool false]) w := by kernel_rfl
theorem c_sem_rev (v : Value) (xT : TypeId) (w : World) : (Instr.typeAssert (.iface 200 v) xT 135 true).run Tryz.prog w = .ok (.tuple #[.string ⟨#[]⟩, .bool false]) w := by kernel_rfl
theorem c_sem_branch (v : Value) (xT : TypeId) (w : World) : (Instr.typeAssert (.iface 200 v) xT 215 true).run Tryz.prog w = .ok (.tuple #[.agg #[.string ⟨#[]⟩, .bool false], .bool false]) w := by kernel_rfl
theorem c_sem_plain (v : Value) (xT : TypeId) (w : World) : (Instr.typeAssert (.iface 200 v) xT 224 true).run Tryz.prog w = .ok (.tuple #[.string ⟨#[]⟩, .bool false]) w := by kernel_rfl
theorem c_sem_sem (v : Value) (xT : TypeId) (w : World) : (Instr.typeAssert (.iface 200 v) xT 200 true).run Tryz.prog w = .ok (.tuple #[v, .bool true]) w := by kernel_rfl
theorem c_sem_pair (v : Value) (xT : TypeId) (w : World) : (Instr.typeAssert (.iface 200 v) xT 212 true).run Tryz.prog w = .ok (.tuple #[.agg #[.nilIface, .string ⟨#[]⟩], .bool false]) w := by kernel_rfl
theorem c_pair_rev (v : Value) (xT : TypeId) (w : World) : (Instr.typeAssert (.iface 212 v) xT 135 true).run Tryz.prog w = .ok (.tuple #[.string ⟨#[]⟩, .bool false]) w := by kernel_rfl
theorem c_pair_pair (v : Value) (xT : TypeId) (w : World) : (Instr.typeAssert (.iface 212 v) xT 212 true).run Tryz.prog w = .ok (.tuple #[v, .bool true]) w := by kernel_rfl
theorem c_range_sv (v : Value) (xT : TypeId) (w : World) : (Instr.typeAssert (.iface 238 v) xT 197 true).run Tryz.prog w = .ok (.tuple #[.agg zSV, .bool false]) w := by kernel_rfl
theorem c_range_range (v : Value) (xT : TypeId) (w : World) : (Instr.typeAssert (.iface 238 v) xT 238 true).run Tryz.prog w = .ok (.tuple #[v, .bool true]) w := by kernel_rfl
end Go.Proofs.YtgoeiflddikihaaGreatDoor.Ver
end
section
namespace Go.Proofs.YtgoeiflddikihaaGreatDoor.Ver
set_option linter.unusedSimpArgs false
open Go.RowKit Go.Proofs.YtgoeiflddikihaaGreatDoorW.PrintWords Go.Proofs.YtgoeiflddikihaaGreatDoor.Ord
structure Pcell (cs : Array Value) : Prop where
  size : cs.size = 17
  one : cs.all (·.oneCell') = true
theorem sizeP : (Tryz.prog.info? 242).map (·.size) = some 17 := by kernel_rfl
theorem Pcell.info {cs : Array Value} (h : Pcell cs) : (Tryz.prog.info? 242).map (·.size) = some cs.size := by rw [h.size]; exact sizeP
abbrev zP : Array Value := #[.int .u64 0, .int .u64 0, .int .u64 0, .string ⟨#[]⟩, .string ⟨#[]⟩, .string ⟨#[]⟩, .int .u64 0, .int .u64 0, .int .u64 0, .string ⟨#[]⟩, .string ⟨#[]⟩, .string ⟨#[]⟩, .bool false, .bool false, .bool false, .bool false, .slice none 0 0]
theorem pcell_pcs (lo hi : SV) (a b c d : Bool) : Pcell (pcs lo hi a b c d) := ⟨rfl, by simp [pcs, Value.oneCell']⟩
theorem pcell_z : Pcell zP := ⟨rfl, by simp [Value.oneCell']⟩
theorem row_range {w : World} {base n cap g : Nat} {cs : Array Value} (h : w.ownsRow base 242 17 (.slice (some ⟨g, 0, none⟩) n cap) n cs.toList) (hn : cs.size = n * 17) : w.rangeAt g 0 cs.toList := by
  intro j v hv
  have hj : j < cs.size := by
    have := (List.getElem?_eq_some_iff.1 hv).1
    simpa using this
  rw [Nat.zero_add, h.cellAt j (by omega)]
  exact hv
theorem at_third' (w : World) (a b c : Obj) : (((w.alloc a).alloc b).alloc c).heap[w.heap.size + 1 + 1]? = some c := by
  have := alloc_at ((w.alloc a).alloc b) c
  rw [alloc_size, alloc_size] at this
  exact this
set_option maxRecDepth 20000 in
set_option maxHeartbeats 2000000 in
theorem range_in (cs : Array Value) (hcs : Pcell cs) (v : SV) (base : Nat) (rv : Value) (w : World) (hown : w.ownsRow base 242 17 rv 1 cs.toList)
    (hhas : ∀ W, Calls Tryz.prog 300 #[.agg cs, .agg v.cells] W fun e w' => e = .returned (.bool true) ∧ Below W.heap.size W w') :
    Calls Tryz.prog 296 #[.agg #[rv], .agg v.cells] w fun e w' => e = .returned .nilIface ∧ Below w.heap.size w w' := by
  have HH := Lib.hid hhas
  have HB := Aside0.mk (Below.refl w.heap.size w)
  obtain ⟨g, cap, rfl, hg1, hg2⟩ := hown.form (by omega)
  have HR := Aside0.mk (row_range hown (by rw [hcs.size]))
  have HS := Aside0.mk hcs
  obtain ⟨va, vb, vc, vp, vm, vo⟩ := v
  dsimp only [SV.cells] at HH ⊢
  clear hown hg1 hhas hcs
  go_enter Tryz.func296, Tryz.ntmps296
  go_wp2_with fail
  refine wp_loop_rounds 1 ?_
  rw [rounds_succ]
  have W1 := Aside0.mk (below_alloc (below_alloc HB.out (.cells #[.slice (some ⟨g, 0, none⟩) 1 cap] 238)) (bSV va vb vc vp vm vo))
  have R1 := Aside0.mk (show ((w.alloc (.cells #[.slice (some ⟨g, 0, none⟩) 1 cap] 238)).alloc (bSV va vb vc vp vm vo)).rangeAt g 0 cs.toList from fun j x hx => (W1.out.cell (p := ⟨g, 0 + j, none⟩) hg2).trans (HR.out j x hx))
  have S1 := Lib.hid (show zP.size = cs.size by rw [HS.out.size]; rfl)
  have K6 := Aside0.mk (setRow_heap _ _ _ cs _ _ (at_third' w (.cells #[.slice (some ⟨g, 0, none⟩) 1 cap] 238) (bSV va vb vc vp vm vo) (.cells zP 242)))
  have K3 := Aside0.mk ((setRow_other (((w.alloc (.cells #[.slice (some ⟨g, 0, none⟩) 1 cap] 238)).alloc (bSV va vb vc vp vm vo)).alloc (.cells zP 242)) (w.heap.size + 1 + 1) (w.heap.size + 1) cs (by omega)).trans (blk_alloc (at_second w (.cells #[.slice (some ⟨g, 0, none⟩) 1 cap] 238) (bSV va vb vc vp vm vo)) _))
  have B5 := Aside0.mk (below_setRow (below_alloc W1.out (.cells zP 242)) (g := w.heap.size + 1 + 1) (by omega) cs)
  have HW5 : ∃ W5, W5 = ((((w.alloc (.cells #[.slice (some ⟨g, 0, none⟩) 1 cap] 238)).alloc (bSV va vb vc vp vm vo)).alloc (.cells zP 242)).setRow (w.heap.size + 1 + 1) cs) := ⟨_, rfl⟩
  obtain ⟨W5, hW5⟩ := HW5
  rw [← hW5] at K6 K3 B5
  have HW := Lib.hid hW5
  clear hW5
  go_wp2_with (first
    | (refine wpList_load_mid rfl 242 (.tmp 12) rfl g 0 rfl cs.toList _ R1.out Tryz.underlying242 rfl (by simpa using HS.out.info) ?_)
    | (refine wpList_store_row (by rfl) 242 (.tmp 6) (.tmp 13) (by rfl) (w.heap.size + 1 + 1) cs (by rfl) (by rfl) 242 zP (at_third' w _ _ _) HS.out.info S1.out HS.out.one ?_; rw [← HW.out])
    | (refine wpList_load_row (by rfl) 242 (.tmp 6) (by rfl) (w.heap.size + 1 + 1) (by rfl) 242 cs (0, 0) _ K6.out Tryz.underlying242 rfl HS.out.info ?_)
    | (refine wpList_load_row (by rfl) 197 (.tmp 3) (by rfl) (w.heap.size + 1) (by rfl) 197 #[.int .u64 va, .int .u64 vb, .int .u64 vc, .string vp, .string vm, .string vo] (0, 0) _ K3.out Tryz.underlying197 rfl (by kernel_rfl) ?_)
    | (go_at_call 300; ((with_reducible refine (HH.out _).mono ?_); rintro e w9 ⟨rfl, hb1⟩; have HB9 := Aside0.mk (below_trans B5.out hb1); clear hb1)))
  go_ret
  exact ⟨rfl, HB9.out⟩
end Go.Proofs.YtgoeiflddikihaaGreatDoor.Ver
end
section
namespace Go.Proofs.YtgoeiflddikihaaGreatDoor.Ver
set_option linter.unusedSimpArgs false
open Go.RowKit Go.Proofs.YtgoeiflddikihaaGreatDoor.Dig Go.Proofs.YtgoeiflddikihaaGreatDoorW.PrintWords
abbrev t120 : ByteArray := ⟨#[49, 46, 50, 46, 48]⟩
def v120 : SV := ⟨1, 2, 0, ⟨#[]⟩, ⟨#[]⟩, t120⟩
theorem read120 : readV t120 = some (v120, 3) := by kernel_rfl
set_option maxRecDepth 20000 in
set_option maxHeartbeats 2000000 in
theorem partial120 (w : World) (hv : Vars w) : Calls Tryz.prog 150 #[.string t120] w fun e w' => e = .returned (.tuple #[.agg v120.cells, .int .i64 3, .nilIface]) ∧ Below w.heap.size w w' := by
  have HR := Lib.hid (fun W hb => read_any t120 (by decide) W (Vars.below (w := w) hv hb))
  have HB := Aside0.mk (Below.refl w.heap.size w)
  clear hv
  go_enter Tryz.func150, Tryz.ntmps150
  go_wp2_with fail
  refine wp_loop_rounds 1 ?_
  rw [rounds_succ]
  go_wp2_with (first
    | (go_at_call 143; ((with_reducible refine (HR.out _ (by repeat (first | exact HB.out | apply below_alloc | apply pw_below_drewN))).mono ?_); rintro e w5 ⟨hb, hm⟩; rw [read120] at hm; obtain rfl := hm; refine Hid.out ?_)))
  have KR := Aside0.mk (blk_below (alloc_at w (.cells zSV 197)) hb)
  have B5 := Aside0.mk (below_trans (by repeat (first | exact HB.out | apply below_alloc | apply pw_below_drewN)) hb)
  have KF := Aside0.mk (setRow_heap _ _ _ #[.int .u64 1, .int .u64 2, .int .u64 0, .string ⟨#[]⟩, .string ⟨#[]⟩, .string t120] _ _ KR.out)
  have BF := Aside0.mk (below_setRow B5.out (g := w.heap.size) (Nat.le_refl _) #[.int .u64 1, .int .u64 2, .int .u64 0, .string ⟨#[]⟩, .string ⟨#[]⟩, .string t120])
  clear hb
  dsimp only [v120, SV.cells]
  refine Lib.hid ?_
  go_wp2_with (refine wpList_store_row (by rfl) 197 (.tmp 2) (.tmp 74) (by rfl) w.heap.size #[.int .u64 1, .int .u64 2, .int .u64 0, .string ⟨#[]⟩, .string ⟨#[]⟩, .string t120] (by rfl) (by rfl) 197 zSV KR.out (by kernel_rfl) rfl (by simp [Value.oneCell']) ?_)
  refine bodyPost_ret (results_ctt rfl _ _ w.heap.size 197 #[.int .u64 1, .int .u64 2, .int .u64 0, .string ⟨#[]⟩, .string ⟨#[]⟩, .string t120] (0, 0) _ rfl KF.out Tryz.underlying197 rfl (by kernel_rfl)) rfl ⟨rfl, BF.out⟩
end Go.Proofs.YtgoeiflddikihaaGreatDoor.Ver
end
section
namespace Go.Proofs.YtgoeiflddikihaaGreatDoor.Ver
set_option linter.unusedSimpArgs false
open Go.RowKit Go.Proofs.YtgoeiflddikihaaGreatDoorW.PrintWords
set_option maxRecDepth 20000 in
set_option maxHeartbeats 2000000 in
theorem after_1 (v : SV) (h0 : 0 ≤ v.major) (h1 : v.major + 1 < 18446744073709551616) (w : World) :
    Calls Tryz.prog 151 #[.agg v.cells, .int .i64 1] w fun e w' => e = .returned (.agg #[.int .u64 (v.major + 1), .int .u64 0, .int .u64 0, .string ⟨#[]⟩, .string ⟨#[]⟩, .string ⟨#[]⟩]) ∧ Below w.heap.size w w' := by
  have HB := Aside0.mk (Below.refl w.heap.size w)
  obtain ⟨va, vb, vc, vp, vm, vo⟩ := v
  dsimp only [SV.cells] at h0 h1 ⊢
  have hw : IntKind.u64.wrap (va + 1) = va + 1 := by simp [IntKind.wrap, IntKind.bits, IntKind.signed]; omega
  clear h0 h1
  go_enter Tryz.func151, Tryz.ntmps151
  go_wp2_with fail
  refine bodyPost_ret (v := .agg #[.int .u64 (va + 1), .int .u64 0, .int .u64 0, .string ⟨#[]⟩, .string ⟨#[]⟩, .string ⟨#[]⟩]) (by simp [results, Tryz.results151, go_sem, *]) rfl ⟨rfl, ?_⟩
  repeat (first | exact HB.out | apply below_alloc | apply pw_below_drewN)
set_option maxRecDepth 20000 in
set_option maxHeartbeats 2000000 in
theorem after_3 (v : SV) (h0 : 0 ≤ v.patch) (h1 : v.patch + 1 < 18446744073709551616) (w : World) :
    Calls Tryz.prog 151 #[.agg v.cells, .int .i64 3] w fun e w' => e = .returned (.agg #[.int .u64 v.major, .int .u64 v.minor, .int .u64 (v.patch + 1), .string ⟨#[]⟩, .string ⟨#[]⟩, .string ⟨#[]⟩]) ∧ Below w.heap.size w w' := by
  have HB := Aside0.mk (Below.refl w.heap.size w)
  obtain ⟨va, vb, vc, vp, vm, vo⟩ := v
  dsimp only [SV.cells] at h0 h1 ⊢
  have hw : IntKind.u64.wrap (vc + 1) = vc + 1 := by simp [IntKind.wrap, IntKind.bits, IntKind.signed]; omega
  clear h0 h1
  go_enter Tryz.func151, Tryz.ntmps151
  go_wp2_with fail
  refine bodyPost_ret (v := .agg #[.int .u64 va, .int .u64 vb, .int .u64 (vc + 1), .string ⟨#[]⟩, .string ⟨#[]⟩, .string ⟨#[]⟩]) (by simp [results, Tryz.results151, go_sem, *]) rfl ⟨rfl, ?_⟩
  repeat (first | exact HB.out | apply below_alloc | apply pw_below_drewN)
end Go.Proofs.YtgoeiflddikihaaGreatDoor.Ver
end
section
namespace Go.Proofs.YtgoeiflddikihaaGreatDoor.Ver
set_option linter.unusedSimpArgs false
open Go.RowKit Go.Proofs.YtgoeiflddikihaaGreatDoorW.PrintWords Go.Proofs.YtgoeiflddikihaaGreatDoor.Ord
theorem foldl_set : ∀ (l : List Value) (k : Nat) (z : Array Value), k + l.length ≤ z.size →
    ((l.zipIdx k).foldl (fun acc x => acc.setIfInBounds (0 + x.2) x.1) z).toList = z.toList.take k ++ l ++ z.toList.drop (k + l.length)
  | [], k, z, _ => by simp
  | c :: l, k, z, h => by
    have h' : k + 1 + l.length ≤ (z.setIfInBounds (0 + k) c).size := by simp only [List.length_cons] at h; simp; omega
    have hk : k < z.toList.length := by simp only [List.length_cons] at h; simp; omega
    rw [List.zipIdx_cons, List.foldl_cons, foldl_set l (k + 1) _ h']
    simp only [Array.toList_setIfInBounds, Nat.zero_add, List.length_cons]
    rw [List.take_set, List.drop_set_of_lt (by omega), List.take_succ_eq_append_getElem hk, List.set_append_right _ _ (by simp; omega)]
    have e : k - (List.take k z.toList).length = 0 := by rw [List.length_take]; omega
    rw [e]
    simp [Nat.add_assoc, Nat.add_comm 1]
theorem fill_one (cs z : Array Value) (h : cs.size = 17) (hz : z.size = 17) : Instr.fill (fun i => some (i * 17, 17)) z [(0, .agg cs)] = some cs := by
  have hf := foldl_set cs.toList 0 z (by simp; omega)
  simp only [List.take_zero, List.nil_append, Nat.zero_add, Array.length_toList] at hf
  rw [h, ← hz, ← Array.length_toList, List.drop_length, List.append_nil] at hf
  unfold Instr.fill
  simp only [Value.cells, h, Nat.zero_mul]
  rw [if_neg (by simp [hz])]
  unfold Instr.fill
  congr 1
  apply Array.ext'
  rw [← Array.foldl_toList, Array.toList_zipIdx]
  simp only [Nat.zero_add]
  exact hf
theorem cells_newA (w : World) (cs : Array Value) (t : TypeId) : ∀ (j : Nat) (u : Value), cs.toList[j]? = some u → (w.alloc (.cells cs t)).cell? ((⟨w.heap.size, 0, none⟩ : Addr).add j) = some u := by
  intro j u h
  have e : ((⟨w.heap.size, 0, none⟩ : Addr).add j) = ⟨w.heap.size, j, none⟩ := by unfold Addr.add; split <;> simp_all
  rw [e, blk_cell (alloc_at w _) j, ← Array.getElem?_toList]
  exact h
theorem infoP : (Tryz.prog.info? 242).map (fun i => (i.zero, i.size, i.bytes)) = some (some (.agg zP), 17, 176) := by kernel_rfl
set_option maxRecDepth 20000 in
set_option maxHeartbeats 4000000 in
theorem isect_one (p q s : Array Value) (hp : Pcell p) (hq : Pcell q) (hs : Pcell s) (base : Nat) (r1 r2 : Value) (w : World) (ho1 : w.ownsRow base 242 17 r1 1 p.toList) (ho2 : w.ownsRow base 242 17 r2 1 q.toList)
    (hboth : ∀ W, Calls Tryz.prog 298 #[.agg p, .agg q] W fun e w' => e = .returned (.agg s) ∧ Below W.heap.size W w')
    (hempty : ∀ W, Calls Tryz.prog 299 #[.agg s] W fun e w' => e = .returned (.bool false) ∧ Below W.heap.size W w') :
    Calls Tryz.prog 295 #[.agg #[r1], .iface 238 (.agg #[r2])] w fun e w' => ∃ r3, e = .returned (.iface 238 (.agg #[r3])) ∧ w'.ownsRow w.heap.size 242 17 r3 1 s.toList ∧ Below w.heap.size w w' := by
  have HBO := Lib.hid hboth
  have HE := Lib.hid hempty
  have HB := Aside0.mk (Below.refl w.heap.size w)
  have SP := Aside0.mk hp
  have SQ := Aside0.mk hq
  have SS := Aside0.mk hs
  obtain ⟨g1, cap1, rfl, _, hg1⟩ := ho1.form (by omega)
  obtain ⟨g2, cap2, rfl, _, hg2⟩ := ho2.form (by omega)
  have HR1 := Aside0.mk (row_range ho1 (by rw [hp.size]))
  have HR2 := Aside0.mk (row_range ho2 (by rw [hq.size]))
  have f1 := c_range_sv
  have f2 := c_range_range
  clear ho1 ho2 hboth hempty hp hq hs
  go_enter Tryz.func295, Tryz.ntmps295
  go_wp2_with fail
  have KA0 := Aside0.mk (blk_alloc (blk_alloc (alloc_at w (.cells #[.slice (some ⟨g1, 0, none⟩) 1 cap1] 238)) (.cells #[.slice (some ⟨g2, 0, none⟩) 1 cap2] 238)) (.cells #[.slice none 0 0] 238))
  have KA1 := Aside0.mk (blk_alloc (at_second w (.cells #[.slice (some ⟨g1, 0, none⟩) 1 cap1] 238) (.cells #[.slice (some ⟨g2, 0, none⟩) 1 cap2] 238)) (.cells #[.slice none 0 0] 238))
  have KA2 := Aside0.mk (at_third' w (.cells #[.slice (some ⟨g1, 0, none⟩) 1 cap1] 238) (.cells #[.slice (some ⟨g2, 0, none⟩) 1 cap2] 238) (.cells #[.slice none 0 0] 238))
  have BA := Aside0.mk (below_alloc (below_alloc (below_alloc HB.out (.cells #[.slice (some ⟨g1, 0, none⟩) 1 cap1] 238)) (.cells #[.slice (some ⟨g2, 0, none⟩) 1 cap2] 238)) (.cells #[.slice none 0 0] 238))
  obtain ⟨WA, hWA⟩ : ∃ W, W = ((w.alloc (.cells #[.slice (some ⟨g1, 0, none⟩) 1 cap1] 238)).alloc (.cells #[.slice (some ⟨g2, 0, none⟩) 1 cap2] 238)).alloc (.cells #[.slice none 0 0] 238) := ⟨_, rfl⟩
  rw [← hWA] at KA0 KA1 KA2 BA ⊢
  have NA := Lib.hid (show WA.heap.size = w.heap.size + 1 + 1 + 1 by rw [hWA, alloc_size, alloc_size, alloc_size])
  clear hWA
  have RA1 := Aside0.mk (show WA.rangeAt g1 0 p.toList from fun j x hx => (BA.out.cell (p := ⟨g1, 0 + j, none⟩) hg1).trans (HR1.out j x hx))
  have SP1 := Lib.hid (show zP.size = p.size by rw [SP.out.size]; rfl)
  have SQ1 := Lib.hid (show zP.size = q.size by rw [SQ.out.size]; rfl)
  have SS1 := Lib.hid (show zP.size = s.size by rw [SS.out.size]; rfl)
  have KB9 := Aside0.mk (setRow_heap _ _ _ p _ _ (alloc_at WA (.cells zP 242)))
  have BB := Aside0.mk (below_setRow (below_alloc BA.out (.cells zP 242)) (g := WA.heap.size) BA.out.size p)
  have KB1 := Aside0.mk ((setRow_other (WA.alloc (.cells zP 242)) WA.heap.size (w.heap.size + 1) p (by rw [NA.out]; omega)).trans (blk_alloc KA1.out _))
  have KB2 := Aside0.mk ((setRow_other (WA.alloc (.cells zP 242)) WA.heap.size (w.heap.size + 1 + 1) p (by rw [NA.out]; omega)).trans (blk_alloc KA2.out _))
  have hWB : ∃ W, W = (WA.alloc (.cells zP 242)).setRow WA.heap.size p := ⟨_, rfl⟩
  obtain ⟨WB, hWB⟩ := hWB
  rw [← hWB] at KB9 BB KB1 KB2
  have HWB := Lib.hid hWB
  have NB := Lib.hid (show WB.heap.size = WA.heap.size + 1 by rw [hWB, setRow_size, alloc_size])
  clear hWB
  have cb := blk_cell KB1.out 0
  refine wp_loop_rounds 2 ?_
  rw [rounds_succ]
  go_wp2_with (first
    | (refine wpList_load_mid rfl 242 (.tmp 29) rfl g1 0 rfl p.toList _ RA1.out Tryz.underlying242 rfl (by simpa using SP.out.info) ?_)
    | (refine wpList_store_row (by rfl) 242 (.tmp 9) (.tmp 30) (by rfl) WA.heap.size p (by rfl) (by rfl) 242 zP (alloc_at WA _) SP.out.info SP1.out SP.out.one ?_; rw [← HWB.out]))
  have RB2 := Aside0.mk (show WB.rangeAt g2 0 q.toList from fun j x hx => (BB.out.cell (p := ⟨g2, 0 + j, none⟩) hg2).trans (HR2.out j x hx))
  have KC11 := Aside0.mk (setRow_heap _ _ _ q _ _ (alloc_at WB (.cells zP 242)))
  have BC := Aside0.mk (below_setRow (below_alloc BB.out (.cells zP 242)) (g := WB.heap.size) BB.out.size q)
  have KC2 := Aside0.mk ((setRow_other (WB.alloc (.cells zP 242)) WB.heap.size (w.heap.size + 1 + 1) q (by rw [NB.out, NA.out]; omega)).trans (blk_alloc KB2.out _))
  have KC9 := Aside0.mk ((setRow_other (WB.alloc (.cells zP 242)) WB.heap.size WA.heap.size q (by rw [NB.out]; omega)).trans (blk_alloc KB9.out _))
  have hWC : ∃ W, W = (WB.alloc (.cells zP 242)).setRow WB.heap.size q := ⟨_, rfl⟩
  obtain ⟨WC, hWC⟩ := hWC
  rw [← hWC] at KC11 BC KC2 KC9
  have HWC := Lib.hid hWC
  clear hWC cb
  refine wp_loop_rounds 2 ?_
  rw [rounds_succ]
  go_wp2_with (first
    | (refine wpList_load_mid rfl 242 (.tmp 36) rfl g2 0 rfl q.toList _ RB2.out Tryz.underlying242 rfl (by simpa using SQ.out.info) ?_)
    | (refine wpList_store_row (by rfl) 242 (.tmp 11) (.tmp 37) (by rfl) WB.heap.size q (by rfl) (by rfl) 242 zP (alloc_at WB _) SQ.out.info SQ1.out SQ.out.one ?_; rw [← HWC.out])
    | (refine wpList_load_row (by rfl) 242 (.tmp 9) (by rfl) WA.heap.size (by rfl) 242 p (0, 0) _ KC9.out Tryz.underlying242 rfl SP.out.info ?_)
    | (refine wpList_load_row (by rfl) 242 (.tmp 11) (by rfl) WB.heap.size (by rfl) 242 q (0, 0) _ KC11.out Tryz.underlying242 rfl SQ.out.info ?_)
    | (go_at_call 298; ((with_reducible refine (HBO.out _).mono ?_); rintro e w1 ⟨rfl, hb1⟩; refine Hid.out ?_)))
  have B1 := Aside0.mk (below_trans BC.out hb1)
  have K12 := Aside0.mk (blk_below KC2.out hb1)
  clear hb1
  have KD12 := Aside0.mk (setRow_heap _ _ _ s _ _ (alloc_at w1 (.cells zP 242)))
  have BD := Aside0.mk (below_setRow (below_alloc B1.out (.cells zP 242)) (g := w1.heap.size) B1.out.size s)
  have KD2 := Aside0.mk ((setRow_other (w1.alloc (.cells zP 242)) w1.heap.size (w.heap.size + 1 + 1) s (Nat.ne_of_lt (blk_lt K12.out))).trans (blk_alloc K12.out _))
  have hWD : ∃ W, W = (w1.alloc (.cells zP 242)).setRow w1.heap.size s := ⟨_, rfl⟩
  obtain ⟨WD, hWD⟩ := hWD
  rw [← hWD] at KD12 BD KD2
  have HWD := Lib.hid hWD
  clear hWD
  refine Lib.hid ?_
  go_wp2_with (first
    | (refine wpList_store_row (by rfl) 242 (.tmp 12) (.tmp 40) (by rfl) w1.heap.size s (by rfl) (by rfl) 242 zP (alloc_at w1 _) SS.out.info SS1.out SS.out.one ?_; rw [← HWD.out])
    | (refine wpList_load_row (by rfl) 242 (.tmp 12) (by rfl) w1.heap.size (by rfl) 242 s (0, 0) _ KD12.out Tryz.underlying242 rfl SS.out.info ?_)
    | (go_at_call 299; ((with_reducible refine (HE.out _).mono ?_); rintro e w2 ⟨rfl, hb1⟩; refine Hid.out ?_)))
  have BE := Aside0.mk (below_trans BD.out hb1)
  have KE2 := Aside0.mk (blk_below KD2.out hb1)
  have KE12 := Aside0.mk (blk_below KD12.out hb1)
  have e2 := blk_cell KE2.out 0
  clear hb1
  obtain ⟨iv, hvi, hvz0, hvz1, hvz2⟩ := info_parts infoP
  have HFL := Lib.hid (fun z hz => fill_one s z SS.out.size hz)
  refine Lib.hid ?_
  go_wp2_with (first
    | (refine wpList_load_row (by rfl) 242 (.tmp 12) (by rfl) w1.heap.size (by rfl) 242 s (0, 0) _ KE12.out Tryz.underlying242 rfl SS.out.info ?_)
    | (refine wpList_buildSlice (by rfl) 236 242 1 #[(0, .tmp 46)] (by rfl) s iv (.agg zP) Tryz.underlying236 hvi hvz0 (by rw [hvz1]; decide) (by rw [hvz1]; decide) (by rw [hvz1, Array.toList_map]; exact HFL.out _ (by rw [Array.size_map, Array.size_range])) ?_)
    | (at_builtin; (refine wpList_append_own _ (by rfl) _ _ 236 (by rfl) w2.heap.size 242 iv (.agg zP) 17 176 Tryz.underlying236 hvi hvz0 hvz1 hvz2 rfl (by decide) _ 0 _ (by rfl) (World.ownsRow_nil _ _ _ _) ⟨w2.heap.size, 0, none⟩ 1 1 s.toList (by rfl) ?c0 ?c1 ?c2 ?c3 ?c4 ?c5 ?_)))
  case c0 => rw [Array.length_toList, SS.out.size]
  case c1 => exact cells_newA _ _ _
  case c2 => exact fun u hu => (Array.all_eq_true_iff_forall_mem.1 SS.out.one) u (by simpa using hu)
  case c3 => unfold maxLen; omega
  case c4 => omega
  case c5 => exact Nat.le_of_lt (by rw [alloc_size]; omega)
  intro v' w3 ho3 hg3 _
  obtain ⟨g3, cap3, rfl, hg31, hg32⟩ := ho3.form (by omega)
  have B3 := Aside0.mk (pw_below_grown (below_alloc BE.out (.cells s 242)) _ (below_alloc BE.out _).size hg3 (fun kk hk => by simp [Value.ownBlock] at hk))
  have K3 := Aside0.mk (blk_grown (blk_alloc KE2.out (.cells s 242)) hg3 (by simp [Value.ownBlock]))
  have hB2 : w.heap.size + 1 + 1 < w2.heap.size := blk_lt KE2.out
  have K9 := Aside0.mk (blk_put (cs' := #[.slice (some ⟨g3, 0, none⟩) 1 cap3]) K3.out 0 (.slice (some ⟨g3, 0, none⟩) 1 cap3) rfl)
  have O9 := Aside0.mk (own_less (ownsRow_setCell_below ho3 (a := ⟨w.heap.size + 1 + 1, 0, none⟩) hB2 (.slice (some ⟨g3, 0, none⟩) 1 cap3)) BE.out.size)
  have B9 := Aside0.mk (below_set (j := 0) (v := .slice (some ⟨g3, 0, none⟩) 1 cap3) B3.out (g := w.heap.size + 1 + 1) (by omega))
  have c3 := blk_cell K3.out 0
  have d3 := blk_frozen K3.out 0
  have c9 := blk_cell K9.out 0
  clear ho3 hg3 hg31 hg32 hB2 e2
  go_wp2_with fail
  rw [rounds_succ]
  go_wp2_with fail
  rw [rounds_succ]
  go_wp2_with fail
  go_ret
  exact ⟨_, rfl, O9.out, B9.out⟩
end Go.Proofs.YtgoeiflddikihaaGreatDoor.Ver
end
