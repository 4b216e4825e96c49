/- Merged by program out of: Rm, AwakeA, After, Ri, VPb, AwakeB. -/
import Derived.Test.YtgoeiflddikihaaGreatDoorCuM13
import Derived.Test.YtgoeiflddikihaaGreatDoorCuM9
import Derived.Laws.OwnMore
import Derived.Laws.Tables
import Derived.Laws.CopyOwn
import Derived.Deep.MidRow
import Derived.Test.YtgoeiflddikihaaGreatDoorCuM8
import Derived.RegionTactic
import Derived.BigRegion
import Derived.Great.BuildSlice
import Derived.Test.YtgoeiflddikihaaGreatDoorCuM4
import Derived.Test.YtgoeiflddikihaaGreatDoorCuM6
section
namespace Go.Proofs.YtgoeiflddikihaaGreatDoor.Ver
set_option linter.unusedSimpArgs false
open Go.RowKit Go.Proofs.YtgoeiflddikihaaGreatDoorW.PrintWords Go.Proofs.YtgoeiflddikihaaGreatDoor.Ord
structure Pcell (cs : Array Value) : Prop where
  size : cs.size = 17
  one : cs.all (·.oneCell') = true
theorem sizeP : (Tryz.prog.info? 242).map (·.size) = some 17 := by kernel_rfl
theorem Pcell.info {cs : Array Value} (h : Pcell cs) : (Tryz.prog.info? 242).map (·.size) = some cs.size := by rw [h.size]; exact sizeP
abbrev zP : Array Value := #[.int .u64 0, .int .u64 0, .int .u64 0, .string ⟨#[]⟩, .string ⟨#[]⟩, .string ⟨#[]⟩, .int .u64 0, .int .u64 0, .int .u64 0, .string ⟨#[]⟩, .string ⟨#[]⟩, .string ⟨#[]⟩, .bool false, .bool false, .bool false, .bool false, .slice none 0 0]
theorem pcell_pcs (lo hi : SV) (a b c d : Bool) : Pcell (pcs lo hi a b c d) := ⟨rfl, by simp [pcs, Value.oneCell']⟩
theorem pcell_z : Pcell zP := ⟨rfl, by simp [Value.oneCell']⟩
theorem row_range {w : World} {base n cap g : Nat} {cs : Array Value} (h : w.ownsRow base 242 17 (.slice (some ⟨g, 0, none⟩) n cap) n cs.toList) (hn : cs.size = n * 17) : w.rangeAt g 0 cs.toList := by
  intro j v hv
  have hj : j < cs.size := by
    have := (List.getElem?_eq_some_iff.1 hv).1
    simpa using this
  rw [Nat.zero_add, h.cellAt j (by omega)]
  exact hv
theorem at_third' (w : World) (a b c : Obj) : (((w.alloc a).alloc b).alloc c).heap[w.heap.size + 1 + 1]? = some c := by
  have := alloc_at ((w.alloc a).alloc b) c
  rw [alloc_size, alloc_size] at this
  exact this
set_option maxRecDepth 20000 in
set_option maxHeartbeats 2000000 in
theorem range_in (cs : Array Value) (hcs : Pcell cs) (v : SV) (base : Nat) (rv : Value) (w : World) (hown : w.ownsRow base 242 17 rv 1 cs.toList)
    (hhas : ∀ W, Calls Tryz.prog 300 #[.agg cs, .agg v.cells] W fun e w' => e = .returned (.bool true) ∧ Below W.heap.size W w') :
    Calls Tryz.prog 296 #[.agg #[rv], .agg v.cells] w fun e w' => e = .returned .nilIface ∧ Below w.heap.size w w' := by
  have HH := Lib.hid hhas
  have HB := Aside0.mk (Below.refl w.heap.size w)
  obtain ⟨g, cap, rfl, hg1, hg2⟩ := hown.form (by omega)
  have HR := Aside0.mk (row_range hown (by rw [hcs.size]))
  have HS := Aside0.mk hcs
  obtain ⟨va, vb, vc, vp, vm, vo⟩ := v
  dsimp only [SV.cells] at HH ⊢
  clear hown hg1 hhas hcs
  go_enter Tryz.func296, Tryz.ntmps296
  go_wp2_with fail
  refine wp_loop_rounds 1 ?_
  rw [rounds_succ]
  have W1 := Aside0.mk (below_alloc (below_alloc HB.out (.cells #[.slice (some ⟨g, 0, none⟩) 1 cap] 238)) (bSV va vb vc vp vm vo))
  have R1 := Aside0.mk (show ((w.alloc (.cells #[.slice (some ⟨g, 0, none⟩) 1 cap] 238)).alloc (bSV va vb vc vp vm vo)).rangeAt g 0 cs.toList from fun j x hx => (W1.out.cell (p := ⟨g, 0 + j, none⟩) hg2).trans (HR.out j x hx))
  have S1 := Lib.hid (show zP.size = cs.size by rw [HS.out.size]; rfl)
  have K6 := Aside0.mk (setRow_heap _ _ _ cs _ _ (at_third' w (.cells #[.slice (some ⟨g, 0, none⟩) 1 cap] 238) (bSV va vb vc vp vm vo) (.cells zP 242)))
  have K3 := Aside0.mk ((setRow_other (((w.alloc (.cells #[.slice (some ⟨g, 0, none⟩) 1 cap] 238)).alloc (bSV va vb vc vp vm vo)).alloc (.cells zP 242)) (w.heap.size + 1 + 1) (w.heap.size + 1) cs (by omega)).trans (blk_alloc (at_second w (.cells #[.slice (some ⟨g, 0, none⟩) 1 cap] 238) (bSV va vb vc vp vm vo)) _))
  have B5 := Aside0.mk (below_setRow (below_alloc W1.out (.cells zP 242)) (g := w.heap.size + 1 + 1) (by omega) cs)
  have HW5 : ∃ W5, W5 = ((((w.alloc (.cells #[.slice (some ⟨g, 0, none⟩) 1 cap] 238)).alloc (bSV va vb vc vp vm vo)).alloc (.cells zP 242)).setRow (w.heap.size + 1 + 1) cs) := ⟨_, rfl⟩
  obtain ⟨W5, hW5⟩ := HW5
  rw [← hW5] at K6 K3 B5
  have HW := Lib.hid hW5
  clear hW5
  go_wp2_with (first
    | (refine wpList_load_mid rfl 242 (.tmp 12) rfl g 0 rfl cs.toList _ R1.out Tryz.underlying242 rfl (by simpa using HS.out.info) ?_)
    | (refine wpList_store_row (by rfl) 242 (.tmp 6) (.tmp 13) (by rfl) (w.heap.size + 1 + 1) cs (by rfl) (by rfl) 242 zP (at_third' w _ _ _) HS.out.info S1.out HS.out.one ?_; rw [← HW.out])
    | (refine wpList_load_row (by rfl) 242 (.tmp 6) (by rfl) (w.heap.size + 1 + 1) (by rfl) 242 cs (0, 0) _ K6.out Tryz.underlying242 rfl HS.out.info ?_)
    | (refine wpList_load_row (by rfl) 197 (.tmp 3) (by rfl) (w.heap.size + 1) (by rfl) 197 #[.int .u64 va, .int .u64 vb, .int .u64 vc, .string vp, .string vm, .string vo] (0, 0) _ K3.out Tryz.underlying197 rfl (by kernel_rfl) ?_)
    | (go_at_call 300; ((with_reducible refine (HH.out _).mono ?_); rintro e w9 ⟨rfl, hb1⟩; have HB9 := Aside0.mk (below_trans B5.out hb1); clear hb1)))
  go_ret
  exact ⟨rfl, HB9.out⟩
end Go.Proofs.YtgoeiflddikihaaGreatDoor.Ver
end
section
namespace Go.Proofs.YtgoeiflddikihaaGreatDoor.Ver
set_option linter.unusedSimpArgs false
open Go.RowKit Go.Proofs.YtgoeiflddikihaaGreatDoor.Dig Go.Proofs.YtgoeiflddikihaaGreatDoorW.PrintWords
abbrev t120 : ByteArray := ⟨#[49, 46, 50, 46, 48]⟩
def v120 : SV := ⟨1, 2, 0, ⟨#[]⟩, ⟨#[]⟩, t120⟩
theorem read120 : readV t120 = some (v120, 3) := by kernel_rfl
set_option maxRecDepth 20000 in
set_option maxHeartbeats 2000000 in
theorem partial120 (w : World) (hv : Vars w) : Calls Tryz.prog 150 #[.string t120] w fun e w' => e = .returned (.tuple #[.agg v120.cells, .int .i64 3, .nilIface]) ∧ Below w.heap.size w w' := by
  have HR := Lib.hid (fun W hb => read_any t120 (by decide) W (Vars.below (w := w) hv hb))
  have HB := Aside0.mk (Below.refl w.heap.size w)
  clear hv
  go_enter Tryz.func150, Tryz.ntmps150
  go_wp2_with fail
  refine wp_loop_rounds 1 ?_
  rw [rounds_succ]
  go_wp2_with (first
    | (go_at_call 143; ((with_reducible refine (HR.out _ (by repeat (first | exact HB.out | apply below_alloc | apply pw_below_drewN))).mono ?_); rintro e w5 ⟨hb, hm⟩; rw [read120] at hm; obtain rfl := hm; refine Hid.out ?_)))
  have KR := Aside0.mk (blk_below (alloc_at w (.cells zSV 197)) hb)
  have B5 := Aside0.mk (below_trans (by repeat (first | exact HB.out | apply below_alloc | apply pw_below_drewN)) hb)
  have KF := Aside0.mk (setRow_heap _ _ _ #[.int .u64 1, .int .u64 2, .int .u64 0, .string ⟨#[]⟩, .string ⟨#[]⟩, .string t120] _ _ KR.out)
  have BF := Aside0.mk (below_setRow B5.out (g := w.heap.size) (Nat.le_refl _) #[.int .u64 1, .int .u64 2, .int .u64 0, .string ⟨#[]⟩, .string ⟨#[]⟩, .string t120])
  clear hb
  dsimp only [v120, SV.cells]
  refine Lib.hid ?_
  go_wp2_with (refine wpList_store_row (by rfl) 197 (.tmp 2) (.tmp 74) (by rfl) w.heap.size #[.int .u64 1, .int .u64 2, .int .u64 0, .string ⟨#[]⟩, .string ⟨#[]⟩, .string t120] (by rfl) (by rfl) 197 zSV KR.out (by kernel_rfl) rfl (by simp [Value.oneCell']) ?_)
  refine bodyPost_ret (results_ctt rfl _ _ w.heap.size 197 #[.int .u64 1, .int .u64 2, .int .u64 0, .string ⟨#[]⟩, .string ⟨#[]⟩, .string t120] (0, 0) _ rfl KF.out Tryz.underlying197 rfl (by kernel_rfl)) rfl ⟨rfl, BF.out⟩
end Go.Proofs.YtgoeiflddikihaaGreatDoor.Ver
end
section
namespace Go.Proofs.YtgoeiflddikihaaGreatDoor.Ver
set_option linter.unusedSimpArgs false
open Go.RowKit Go.Proofs.YtgoeiflddikihaaGreatDoorW.PrintWords
set_option maxRecDepth 20000 in
set_option maxHeartbeats 2000000 in
theorem after_1 (v : SV) (h0 : 0 ≤ v.major) (h1 : v.major + 1 < 18446744073709551616) (w : World) :
    Calls Tryz.prog 151 #[.agg v.cells, .int .i64 1] w fun e w' => e = .returned (.agg #[.int .u64 (v.major + 1), .int .u64 0, .int .u64 0, .string ⟨#[]⟩, .string ⟨#[]⟩, .string ⟨#[]⟩]) ∧ Below w.heap.size w w' := by
  have HB := Aside0.mk (Below.refl w.heap.size w)
  obtain ⟨va, vb, vc, vp, vm, vo⟩ := v
  dsimp only [SV.cells] at h0 h1 ⊢
  have hw : IntKind.u64.wrap (va + 1) = va + 1 := by simp [IntKind.wrap, IntKind.bits, IntKind.signed]; omega
  clear h0 h1
  go_enter Tryz.func151, Tryz.ntmps151
  go_wp2_with fail
  refine bodyPost_ret (v := .agg #[.int .u64 (va + 1), .int .u64 0, .int .u64 0, .string ⟨#[]⟩, .string ⟨#[]⟩, .string ⟨#[]⟩]) (by simp [results, Tryz.results151, go_sem, *]) rfl ⟨rfl, ?_⟩
  repeat (first | exact HB.out | apply below_alloc | apply pw_below_drewN)
set_option maxRecDepth 20000 in
set_option maxHeartbeats 2000000 in
theorem after_3 (v : SV) (h0 : 0 ≤ v.patch) (h1 : v.patch + 1 < 18446744073709551616) (w : World) :
    Calls Tryz.prog 151 #[.agg v.cells, .int .i64 3] w fun e w' => e = .returned (.agg #[.int .u64 v.major, .int .u64 v.minor, .int .u64 (v.patch + 1), .string ⟨#[]⟩, .string ⟨#[]⟩, .string ⟨#[]⟩]) ∧ Below w.heap.size w w' := by
  have HB := Aside0.mk (Below.refl w.heap.size w)
  obtain ⟨va, vb, vc, vp, vm, vo⟩ := v
  dsimp only [SV.cells] at h0 h1 ⊢
  have hw : IntKind.u64.wrap (vc + 1) = vc + 1 := by simp [IntKind.wrap, IntKind.bits, IntKind.signed]; omega
  clear h0 h1
  go_enter Tryz.func151, Tryz.ntmps151
  go_wp2_with fail
  refine bodyPost_ret (v := .agg #[.int .u64 va, .int .u64 vb, .int .u64 (vc + 1), .string ⟨#[]⟩, .string ⟨#[]⟩, .string ⟨#[]⟩]) (by simp [results, Tryz.results151, go_sem, *]) rfl ⟨rfl, ?_⟩
  repeat (first | exact HB.out | apply below_alloc | apply pw_below_drewN)
end Go.Proofs.YtgoeiflddikihaaGreatDoor.Ver
end
section
namespace Go.Proofs.YtgoeiflddikihaaGreatDoor.Ver
set_option linter.unusedSimpArgs false
open Go.RowKit Go.Proofs.YtgoeiflddikihaaGreatDoorW.PrintWords Go.Proofs.YtgoeiflddikihaaGreatDoor.Ord
theorem foldl_set : ∀ (l : List Value) (k : Nat) (z : Array Value), k + l.length ≤ z.size →
    ((l.zipIdx k).foldl (fun acc x => acc.setIfInBounds (0 + x.2) x.1) z).toList = z.toList.take k ++ l ++ z.toList.drop (k + l.length)
  | [], k, z, _ => by simp
  | c :: l, k, z, h => by
    have h' : k + 1 + l.length ≤ (z.setIfInBounds (0 + k) c).size := by simp only [List.length_cons] at h; simp; omega
    have hk : k < z.toList.length := by simp only [List.length_cons] at h; simp; omega
    rw [List.zipIdx_cons, List.foldl_cons, foldl_set l (k + 1) _ h']
    simp only [Array.toList_setIfInBounds, Nat.zero_add, List.length_cons]
    rw [List.take_set, List.drop_set_of_lt (by omega), List.take_succ_eq_append_getElem hk, List.set_append_right _ _ (by simp; omega)]
    have e : k - (List.take k z.toList).length = 0 := by rw [List.length_take]; omega
    rw [e]
    simp [Nat.add_assoc, Nat.add_comm 1]
theorem fill_one (cs z : Array Value) (h : cs.size = 17) (hz : z.size = 17) : Instr.fill (fun i => some (i * 17, 17)) z [(0, .agg cs)] = some cs := by
  have hf := foldl_set cs.toList 0 z (by simp; omega)
  simp only [List.take_zero, List.nil_append, Nat.zero_add, Array.length_toList] at hf
  rw [h, ← hz, ← Array.length_toList, List.drop_length, List.append_nil] at hf
  unfold Instr.fill
  simp only [Value.cells, h, Nat.zero_mul]
  rw [if_neg (by simp [hz])]
  unfold Instr.fill
  congr 1
  apply Array.ext'
  rw [← Array.foldl_toList, Array.toList_zipIdx]
  simp only [Nat.zero_add]
  exact hf
theorem cells_newA (w : World) (cs : Array Value) (t : TypeId) : ∀ (j : Nat) (u : Value), cs.toList[j]? = some u → (w.alloc (.cells cs t)).cell? ((⟨w.heap.size, 0, none⟩ : Addr).add j) = some u := by
  intro j u h
  have e : ((⟨w.heap.size, 0, none⟩ : Addr).add j) = ⟨w.heap.size, j, none⟩ := by unfold Addr.add; split <;> simp_all
  rw [e, blk_cell (alloc_at w _) j, ← Array.getElem?_toList]
  exact h
theorem infoP : (Tryz.prog.info? 242).map (fun i => (i.zero, i.size, i.bytes)) = some (some (.agg zP), 17, 176) := by kernel_rfl
set_option maxRecDepth 20000 in
set_option maxHeartbeats 4000000 in
theorem isect_one (p q s : Array Value) (hp : Pcell p) (hq : Pcell q) (hs : Pcell s) (base : Nat) (r1 r2 : Value) (w : World) (ho1 : w.ownsRow base 242 17 r1 1 p.toList) (ho2 : w.ownsRow base 242 17 r2 1 q.toList)
    (hboth : ∀ W, Calls Tryz.prog 298 #[.agg p, .agg q] W fun e w' => e = .returned (.agg s) ∧ Below W.heap.size W w')
    (hempty : ∀ W, Calls Tryz.prog 299 #[.agg s] W fun e w' => e = .returned (.bool false) ∧ Below W.heap.size W w') :
    Calls Tryz.prog 295 #[.agg #[r1], .iface 238 (.agg #[r2])] w fun e w' => ∃ r3, e = .returned (.iface 238 (.agg #[r3])) ∧ w'.ownsRow w.heap.size 242 17 r3 1 s.toList ∧ Below w.heap.size w w' := by
  have HBO := Lib.hid hboth
  have HE := Lib.hid hempty
  have HB := Aside0.mk (Below.refl w.heap.size w)
  have SP := Aside0.mk hp
  have SQ := Aside0.mk hq
  have SS := Aside0.mk hs
  obtain ⟨g1, cap1, rfl, _, hg1⟩ := ho1.form (by omega)
  obtain ⟨g2, cap2, rfl, _, hg2⟩ := ho2.form (by omega)
  have HR1 := Aside0.mk (row_range ho1 (by rw [hp.size]))
  have HR2 := Aside0.mk (row_range ho2 (by rw [hq.size]))
  have f1 := c_range_sv
  have f2 := c_range_range
  clear ho1 ho2 hboth hempty hp hq hs
  go_enter Tryz.func295, Tryz.ntmps295
  go_wp2_with fail
  have KA0 := Aside0.mk (blk_alloc (blk_alloc (alloc_at w (.cells #[.slice (some ⟨g1, 0, none⟩) 1 cap1] 238)) (.cells #[.slice (some ⟨g2, 0, none⟩) 1 cap2] 238)) (.cells #[.slice none 0 0] 238))
  have KA1 := Aside0.mk (blk_alloc (at_second w (.cells #[.slice (some ⟨g1, 0, none⟩) 1 cap1] 238) (.cells #[.slice (some ⟨g2, 0, none⟩) 1 cap2] 238)) (.cells #[.slice none 0 0] 238))
  have KA2 := Aside0.mk (at_third' w (.cells #[.slice (some ⟨g1, 0, none⟩) 1 cap1] 238) (.cells #[.slice (some ⟨g2, 0, none⟩) 1 cap2] 238) (.cells #[.slice none 0 0] 238))
  have BA := Aside0.mk (below_alloc (below_alloc (below_alloc HB.out (.cells #[.slice (some ⟨g1, 0, none⟩) 1 cap1] 238)) (.cells #[.slice (some ⟨g2, 0, none⟩) 1 cap2] 238)) (.cells #[.slice none 0 0] 238))
  obtain ⟨WA, hWA⟩ : ∃ W, W = ((w.alloc (.cells #[.slice (some ⟨g1, 0, none⟩) 1 cap1] 238)).alloc (.cells #[.slice (some ⟨g2, 0, none⟩) 1 cap2] 238)).alloc (.cells #[.slice none 0 0] 238) := ⟨_, rfl⟩
  rw [← hWA] at KA0 KA1 KA2 BA ⊢
  have NA := Lib.hid (show WA.heap.size = w.heap.size + 1 + 1 + 1 by rw [hWA, alloc_size, alloc_size, alloc_size])
  clear hWA
  have RA1 := Aside0.mk (show WA.rangeAt g1 0 p.toList from fun j x hx => (BA.out.cell (p := ⟨g1, 0 + j, none⟩) hg1).trans (HR1.out j x hx))
  have SP1 := Lib.hid (show zP.size = p.size by rw [SP.out.size]; rfl)
  have SQ1 := Lib.hid (show zP.size = q.size by rw [SQ.out.size]; rfl)
  have SS1 := Lib.hid (show zP.size = s.size by rw [SS.out.size]; rfl)
  have KB9 := Aside0.mk (setRow_heap _ _ _ p _ _ (alloc_at WA (.cells zP 242)))
  have BB := Aside0.mk (below_setRow (below_alloc BA.out (.cells zP 242)) (g := WA.heap.size) BA.out.size p)
  have KB1 := Aside0.mk ((setRow_other (WA.alloc (.cells zP 242)) WA.heap.size (w.heap.size + 1) p (by rw [NA.out]; omega)).trans (blk_alloc KA1.out _))
  have KB2 := Aside0.mk ((setRow_other (WA.alloc (.cells zP 242)) WA.heap.size (w.heap.size + 1 + 1) p (by rw [NA.out]; omega)).trans (blk_alloc KA2.out _))
  have hWB : ∃ W, W = (WA.alloc (.cells zP 242)).setRow WA.heap.size p := ⟨_, rfl⟩
  obtain ⟨WB, hWB⟩ := hWB
  rw [← hWB] at KB9 BB KB1 KB2
  have HWB := Lib.hid hWB
  have NB := Lib.hid (show WB.heap.size = WA.heap.size + 1 by rw [hWB, setRow_size, alloc_size])
  clear hWB
  have cb := blk_cell KB1.out 0
  refine wp_loop_rounds 2 ?_
  rw [rounds_succ]
  go_wp2_with (first
    | (refine wpList_load_mid rfl 242 (.tmp 29) rfl g1 0 rfl p.toList _ RA1.out Tryz.underlying242 rfl (by simpa using SP.out.info) ?_)
    | (refine wpList_store_row (by rfl) 242 (.tmp 9) (.tmp 30) (by rfl) WA.heap.size p (by rfl) (by rfl) 242 zP (alloc_at WA _) SP.out.info SP1.out SP.out.one ?_; rw [← HWB.out]))
  have RB2 := Aside0.mk (show WB.rangeAt g2 0 q.toList from fun j x hx => (BB.out.cell (p := ⟨g2, 0 + j, none⟩) hg2).trans (HR2.out j x hx))
  have KC11 := Aside0.mk (setRow_heap _ _ _ q _ _ (alloc_at WB (.cells zP 242)))
  have BC := Aside0.mk (below_setRow (below_alloc BB.out (.cells zP 242)) (g := WB.heap.size) BB.out.size q)
  have KC2 := Aside0.mk ((setRow_other (WB.alloc (.cells zP 242)) WB.heap.size (w.heap.size + 1 + 1) q (by rw [NB.out, NA.out]; omega)).trans (blk_alloc KB2.out _))
  have KC9 := Aside0.mk ((setRow_other (WB.alloc (.cells zP 242)) WB.heap.size WA.heap.size q (by rw [NB.out]; omega)).trans (blk_alloc KB9.out _))
  have hWC : ∃ W, W = (WB.alloc (.cells zP 242)).setRow WB.heap.size q := ⟨_, rfl⟩
  obtain ⟨WC, hWC⟩ := hWC
  rw [← hWC] at KC11 BC KC2 KC9
  have HWC := Lib.hid hWC
  clear hWC cb
  refine wp_loop_rounds 2 ?_
  rw [rounds_succ]
  go_wp2_with (first
    | (refine wpList_load_mid rfl 242 (.tmp 36) rfl g2 0 rfl q.toList _ RB2.out Tryz.underlying242 rfl (by simpa using SQ.out.info) ?_)
    | (refine wpList_store_row (by rfl) 242 (.tmp 11) (.tmp 37) (by rfl) WB.heap.size q (by rfl) (by rfl) 242 zP (alloc_at WB _) SQ.out.info SQ1.out SQ.out.one ?_; rw [← HWC.out])
    | (refine wpList_load_row (by rfl) 242 (.tmp 9) (by rfl) WA.heap.size (by rfl) 242 p (0, 0) _ KC9.out Tryz.underlying242 rfl SP.out.info ?_)
    | (refine wpList_load_row (by rfl) 242 (.tmp 11) (by rfl) WB.heap.size (by rfl) 242 q (0, 0) _ KC11.out Tryz.underlying242 rfl SQ.out.info ?_)
    | (go_at_call 298; ((with_reducible refine (HBO.out _).mono ?_); rintro e w1 ⟨rfl, hb1⟩; refine Hid.out ?_)))
  have B1 := Aside0.mk (below_trans BC.out hb1)
  have K12 := Aside0.mk (blk_below KC2.out hb1)
  clear hb1
  have KD12 := Aside0.mk (setRow_heap _ _ _ s _ _ (alloc_at w1 (.cells zP 242)))
  have BD := Aside0.mk (below_setRow (below_alloc B1.out (.cells zP 242)) (g := w1.heap.size) B1.out.size s)
  have KD2 := Aside0.mk ((setRow_other (w1.alloc (.cells zP 242)) w1.heap.size (w.heap.size + 1 + 1) s (Nat.ne_of_lt (blk_lt K12.out))).trans (blk_alloc K12.out _))
  have hWD : ∃ W, W = (w1.alloc (.cells zP 242)).setRow w1.heap.size s := ⟨_, rfl⟩
  obtain ⟨WD, hWD⟩ := hWD
  rw [← hWD] at KD12 BD KD2
  have HWD := Lib.hid hWD
  clear hWD
  refine Lib.hid ?_
  go_wp2_with (first
    | (refine wpList_store_row (by rfl) 242 (.tmp 12) (.tmp 40) (by rfl) w1.heap.size s (by rfl) (by rfl) 242 zP (alloc_at w1 _) SS.out.info SS1.out SS.out.one ?_; rw [← HWD.out])
    | (refine wpList_load_row (by rfl) 242 (.tmp 12) (by rfl) w1.heap.size (by rfl) 242 s (0, 0) _ KD12.out Tryz.underlying242 rfl SS.out.info ?_)
    | (go_at_call 299; ((with_reducible refine (HE.out _).mono ?_); rintro e w2 ⟨rfl, hb1⟩; refine Hid.out ?_)))
  have BE := Aside0.mk (below_trans BD.out hb1)
  have KE2 := Aside0.mk (blk_below KD2.out hb1)
  have KE12 := Aside0.mk (blk_below KD12.out hb1)
  have e2 := blk_cell KE2.out 0
  clear hb1
  obtain ⟨iv, hvi, hvz0, hvz1, hvz2⟩ := info_parts infoP
  have HFL := Lib.hid (fun z hz => fill_one s z SS.out.size hz)
  refine Lib.hid ?_
  go_wp2_with (first
    | (refine wpList_load_row (by rfl) 242 (.tmp 12) (by rfl) w1.heap.size (by rfl) 242 s (0, 0) _ KE12.out Tryz.underlying242 rfl SS.out.info ?_)
    | (refine wpList_buildSlice (by rfl) 236 242 1 #[(0, .tmp 46)] (by rfl) s iv (.agg zP) Tryz.underlying236 hvi hvz0 (by rw [hvz1]; decide) (by rw [hvz1]; decide) (by rw [hvz1, Array.toList_map]; exact HFL.out _ (by rw [Array.size_map, Array.size_range])) ?_)
    | (at_builtin; (refine wpList_append_own _ (by rfl) _ _ 236 (by rfl) w2.heap.size 242 iv (.agg zP) 17 176 Tryz.underlying236 hvi hvz0 hvz1 hvz2 rfl (by decide) _ 0 _ (by rfl) (World.ownsRow_nil _ _ _ _) ⟨w2.heap.size, 0, none⟩ 1 1 s.toList (by rfl) ?c0 ?c1 ?c2 ?c3 ?c4 ?c5 ?_)))
  case c0 => rw [Array.length_toList, SS.out.size]
  case c1 => exact cells_newA _ _ _
  case c2 => exact fun u hu => (Array.all_eq_true_iff_forall_mem.1 SS.out.one) u (by simpa using hu)
  case c3 => unfold maxLen; omega
  case c4 => omega
  case c5 => exact Nat.le_of_lt (by rw [alloc_size]; omega)
  intro v' w3 ho3 hg3 _
  obtain ⟨g3, cap3, rfl, hg31, hg32⟩ := ho3.form (by omega)
  have B3 := Aside0.mk (pw_below_grown (below_alloc BE.out (.cells s 242)) _ (below_alloc BE.out _).size hg3 (fun kk hk => by simp [Value.ownBlock] at hk))
  have K3 := Aside0.mk (blk_grown (blk_alloc KE2.out (.cells s 242)) hg3 (by simp [Value.ownBlock]))
  have hB2 : w.heap.size + 1 + 1 < w2.heap.size := blk_lt KE2.out
  have K9 := Aside0.mk (blk_put (cs' := #[.slice (some ⟨g3, 0, none⟩) 1 cap3]) K3.out 0 (.slice (some ⟨g3, 0, none⟩) 1 cap3) rfl)
  have O9 := Aside0.mk (own_less (ownsRow_setCell_below ho3 (a := ⟨w.heap.size + 1 + 1, 0, none⟩) hB2 (.slice (some ⟨g3, 0, none⟩) 1 cap3)) BE.out.size)
  have B9 := Aside0.mk (below_set (j := 0) (v := .slice (some ⟨g3, 0, none⟩) 1 cap3) B3.out (g := w.heap.size + 1 + 1) (by omega))
  have c3 := blk_cell K3.out 0
  have d3 := blk_frozen K3.out 0
  have c9 := blk_cell K9.out 0
  clear ho3 hg3 hg31 hg32 hB2 e2
  go_wp2_with fail
  rw [rounds_succ]
  go_wp2_with fail
  rw [rounds_succ]
  go_wp2_with fail
  go_ret
  exact ⟨_, rfl, O9.out, B9.out⟩
end Go.Proofs.YtgoeiflddikihaaGreatDoor.Ver
end
section
namespace Go.Proofs.YtgoeiflddikihaaGreatDoor.PFnIntersectAny
open Go.RowKit Go.Proofs.YtgoeiflddikihaaGreatDoorW.PrintWords Go.Proofs.YtgoeiflddikihaaGreatDoorW.PrintLast Go.Proofs.YtgoeiflddikihaaGreatDoorW.PrintMore
attribute [local go_sem] max2_int min2_int max_two min_two max_three min_three max_four min_four   -- for this text's walks alone
set_option linter.unusedVariables false
set_option linter.unusedSimpArgs false
mutual
def semver_trim.j1 : Nat → ByteArray → Option (ByteArray)
 | 0, _ => none
 | k + 1, x0 => semver_trim.l1 k x0
def semver_trim.l1 : Nat → ByteArray → Option (ByteArray)
 | 0, _ => none
 | k + 1, x0 => if x0.toList = ([] : List UInt8) then (some x0) else (if 0 ≤ (wrap64 ((x0.size : Int) - 1)) then (if (wrap64 ((x0.size : Int) - 1)) < (x0.size : Int) then (if (bt x0 (wrap64 ((x0.size : Int) - 1))) = 32 then (if (wrap64 ((x0.size : Int) - 1)) ≤ (x0.size : Int) then (semver_trim.l1 k (x0.extract 0 ((wrap64 ((x0.size : Int) - 1)) : Int).toNat)) else (none)) else (some x0)) else (none)) else (none))
def semver_trim.l0 : Nat → ByteArray → Option (ByteArray)
 | 0, _ => none
 | k + 1, x0 => if x0.toList = ([] : List UInt8) then (semver_trim.j1 k x0) else (if 0 < (x0.size : Int) then (if (bt x0 0) = 32 then (if 1 ≤ (x0.size : Int) then (semver_trim.l0 k (x0.extract 1 x0.size)) else (none)) else (semver_trim.j1 k x0)) else (none))
end
def semver_trim.f (k : Nat) (a0 : ByteArray) : Option (ByteArray) := semver_trim.l0 k a0
theorem semver_trim.mono_l : ∀ k, (∀ y0, LeO (semver_trim.j1 k y0) (semver_trim.j1 (k + 1) y0)) ∧ (∀ y0, LeO (semver_trim.l1 k y0) (semver_trim.l1 (k + 1) y0)) ∧ (∀ y0, LeO (semver_trim.l0 k y0) (semver_trim.l0 (k + 1) y0))
 | 0 => ⟨fun _ r h => by simp [semver_trim.j1] at h, fun _ r h => by simp [semver_trim.l1] at h, fun _ r h => by simp [semver_trim.l0] at h⟩
 | k + 1 => by
  obtain ⟨ih0, ih1, ih2⟩ := semver_trim.mono_l k
  refine ⟨?_, ?_, ?_⟩
  ·intro y0
   unfold semver_trim.j1
   repeat' first
   | (with_reducible exact ih0 _)
   | (with_reducible exact ih1 _)
   | (with_reducible exact ih2 _)
   | (with_reducible exact LeO.refl _)
   | (with_reducible exact LeO.none _)
   | (with_reducible refine LeO.ite ?_ ?_)
   | (with_reducible refine LeO.bind ?_ (fun _ => ?_))
   | exact ih0 _
   | exact ih1 _
   | exact ih2 _
   | exact LeO.none _
   | refine LeO.ite ?_ ?_
   | refine LeO.bind ?_ (fun _ => ?_)
  ·intro y0
   unfold semver_trim.l1
   repeat' first
   | (with_reducible exact ih0 _)
   | (with_reducible exact ih1 _)
   | (with_reducible exact ih2 _)
   | (with_reducible exact LeO.refl _)
   | (with_reducible exact LeO.none _)
   | (with_reducible refine LeO.ite ?_ ?_)
   | (with_reducible refine LeO.bind ?_ (fun _ => ?_))
   | exact ih0 _
   | exact ih1 _
   | exact ih2 _
   | exact LeO.none _
   | refine LeO.ite ?_ ?_
   | refine LeO.bind ?_ (fun _ => ?_)
  ·intro y0
   unfold semver_trim.l0
   repeat' first
   | (with_reducible exact ih0 _)
   | (with_reducible exact ih1 _)
   | (with_reducible exact ih2 _)
   | (with_reducible exact LeO.refl _)
   | (with_reducible exact LeO.none _)
   | (with_reducible refine LeO.ite ?_ ?_)
   | (with_reducible refine LeO.bind ?_ (fun _ => ?_))
   | exact ih0 _
   | exact ih1 _
   | exact ih2 _
   | exact LeO.none _
   | refine LeO.ite ?_ ?_
   | refine LeO.bind ?_ (fun _ => ?_)
theorem semver_trim.mono : ∀ a0 k, LeO (semver_trim.f k a0) (semver_trim.f (k + 1) a0) := by
 intro a0 k
 obtain ⟨ih0, ih1, ih2⟩ := semver_trim.mono_l k
 unfold semver_trim.f
 repeat' first
   | (with_reducible exact ih0 _)
   | (with_reducible exact ih1 _)
   | (with_reducible exact ih2 _)
   | (with_reducible exact LeO.refl _)
   | (with_reducible exact LeO.none _)
   | (with_reducible refine LeO.ite ?_ ?_)
   | (with_reducible refine LeO.bind ?_ (fun _ => ?_))
   | exact ih0 _
   | exact ih1 _
   | exact ih2 _
   | exact LeO.none _
   | refine LeO.ite ?_ ?_
   | refine LeO.bind ?_ (fun _ => ?_)
set_option maxHeartbeats 8000000 in
set_option maxRecDepth 100000 in
theorem semver_trim.calls (k : Nat) (a0 : ByteArray) (r : ByteArray) (w : World) (h : semver_trim.f k a0 = some r) :
  Calls Tryz.prog 142 #[.string a0] w fun e w' => e = .returned (.string r) ∧ Drawn0 w w' := by
 have H : (semver_trim.l0 k a0) = some r := h
 clear h
 have HC2 := Aside0.mk H
 clear H
 go_enter Tryz.func142, Tryz.ntmps142
 go_upto_block 0 with (fail)
 go_cut [0] (fun v0 wc => ∃ (kq : Nat) (x0_1 : ByteArray), v0 = .string x0_1 ∧ Aside0 (semver_trim.j1 kq x0_1 = some r) ∧ Aside0 (kq ≤ k) ∧ Drawn0 w wc)
 case first =>
  have H := HC2.out
  clear HC2
  have H' := Aside0.mk H
  clear H
  go_wp2
  go_loopg [0] k (fun kq v0 w' => ∃ (x0_1 : ByteArray), v0 = .string x0_1 ∧ Aside0 (semver_trim.l0 kq x0_1 = some r) ∧ Aside0 (kq ≤ k) ∧ Drawn0 w w')
  case atStart => exact ⟨(a0), (by first | rfl | (simp; done) | (simp [*]; done)), H', ⟨Nat.le_refl _⟩, by repeat (first | exact Drawn0.refl _ | apply Drawn0.step)⟩
  case round =>
   clear H'
   try clear c1
   try clear p2
   obtain ⟨x0_1, rfl, HA, HK1, ⟨m1, rfl⟩⟩ := hrel
   cases gk with
   | zero => exact absurd HA.out (by simp [semver_trim.l0])
   | succ k1 =>
    have H := HA.out
    clear HA
    simp only [semver_trim.l0] at H
    by_cases c3 : x0_1.toList = ([] : List UInt8)
    ·rw [if_pos c3] at H
     have c3b0 : (x0_1.toList == ([] : List UInt8)) = true := beq_iff_eq.mpr c3
     have c3b1 : (x0_1.toList != ([] : List UInt8)) = false := bne_eq_false_iff_eq.mpr c3
     clear c3
     (first | rw [c3b0] | (simp only [i64_w, i32_w]; rw [c3b0]) | skip)
     have H' := Aside0.mk H
     clear H
     go_wp2
     go_meet
     case rel => exact ⟨_, (x0_1), (by first | rfl | (simp; done) | (simp [*]; done)), H', ⟨by have := HK1.out; first | omega | exact Nat.le_refl _⟩, by repeat (first | exact Drawn0.refl _ | apply Drawn0.step)⟩
    ·rw [if_neg c3] at H
     have c3b0 : (x0_1.toList == ([] : List UInt8)) = false := beq_eq_false_iff_ne.mpr c3
     have c3b1 : (x0_1.toList != ([] : List UInt8)) = true := bne_iff_ne.mpr c3
     (first | rw [c3b0] | (simp only [i64_w, i32_w]; rw [c3b0]) | skip)
     by_cases c4 : 0 < (x0_1.size : Int)
     ·rw [if_pos c4] at H
      have c4b0 : decide (0 < (x0_1.size : Int)) = true := decide_eq_true c4
      have c4b1 : decide (0 < x0_1.size) = true := decide_eq_true (by omega)
      clear c4
      by_cases c6 : (bt x0_1 0) = 32
      ·rw [if_pos c6] at H
       have c6b0 : ((bt x0_1 0) == 32) = true := beq_iff_eq.mpr c6
       have c6b1 : ((bt x0_1 0) != 32) = false := bne_eq_false_iff_eq.mpr c6
       clear c6
       by_cases c7 : 1 ≤ (x0_1.size : Int)
       ·rw [if_pos c7] at H
        have c7b0 := eq_true c7
        have c7b1 : decide (1 ≤ (x0_1.size : Int)) = true := decide_eq_true c7
        clear c7
        have H' := Aside0.mk H
        clear H
        have p5 : 0 ≤ (0 : Int) := (by omega)
        have q5 : 0 < x0_1.size := (by have : (0 : Int) < (x0_1.size : Int) := of_decide_eq_true (by first | (with_reducible assumption) | assumption); omega)
        have hx5 : ∀ h : 0 < x0_1.size, ((x0_1[0]'h).toNat : Int) = bt x0_1 0 := bt_at x0_1 0
        clear p5
        have qi5 : (0 < (x0_1.size : Int)) = True := eq_true (of_decide_eq_true (by first | (with_reducible assumption) | assumption))
        replace q5 := eq_true q5
        go_wp2
        go_roundg k1
        case measure => have := HK1.out; omega
        case rel => exact ⟨(x0_1.extract 1 x0_1.size), (by first | rfl | (simp; done) | (simp [*]; done)), H', ⟨by have := HK1.out; omega⟩, by repeat (first | exact Drawn0.refl _ | apply Drawn0.step)⟩
       ·rw [if_neg c7] at H
        exact absurd H (by simp)
      ·rw [if_neg c6] at H
       have c6b0 : ((bt x0_1 0) == 32) = false := beq_eq_false_iff_ne.mpr c6
       have c6b1 : ((bt x0_1 0) != 32) = true := bne_iff_ne.mpr c6
       have H' := Aside0.mk H
       clear H
       have p5 : 0 ≤ (0 : Int) := (by omega)
       have q5 : 0 < x0_1.size := (by have : (0 : Int) < (x0_1.size : Int) := of_decide_eq_true (by first | (with_reducible assumption) | assumption); omega)
       have hx5 : ∀ h : 0 < x0_1.size, ((x0_1[0]'h).toNat : Int) = bt x0_1 0 := bt_at x0_1 0
       clear p5
       have qi5 : (0 < (x0_1.size : Int)) = True := eq_true (of_decide_eq_true (by first | (with_reducible assumption) | assumption))
       replace q5 := eq_true q5
       go_wp2
       go_meet
       case rel => exact ⟨_, (x0_1), (by first | rfl | (simp; done) | (simp [*]; done)), H', ⟨by have := HK1.out; first | omega | exact Nat.le_refl _⟩, by repeat (first | exact Drawn0.refl _ | apply Drawn0.step)⟩
     ·rw [if_neg c4] at H
      exact absurd H (by simp)
 case rest =>
  clear HC2
  try clear c1
  try clear p2
  try clear c3
  try clear c3b0
  try clear c3b1
  try clear c4
  try clear c4b0
  try clear c4b1
  try clear p5
  try clear q5
  try clear hx5
  try clear qi5
  try clear c6
  try clear c6b0
  try clear c6b1
  try clear c7
  try clear c7b0
  try clear c7b1
  try clear p2
  try clear p5
  try clear q5
  obtain ⟨kq, x0_1, rfl, HA, HJ1, ⟨mc1, rfl⟩⟩ := hcut
  cases kq with
  | zero => exact absurd HA.out (by simp [semver_trim.j1])
  | succ kj1 =>
   have H := HA.out
   clear HA
   simp only [semver_trim.j1] at H
   have H' := Aside0.mk H
   clear H
   go_wp2
   go_loopg [0] kj1 (fun kq v0 w' => ∃ (x0_2 : ByteArray), v0 = .string x0_2 ∧ Aside0 (semver_trim.l1 kq x0_2 = some r) ∧ Aside0 (kq ≤ kj1) ∧ Drawn0 w w')
   case atStart => exact ⟨(x0_1), (by first | rfl | (simp; done) | (simp [*]; done)), H', ⟨Nat.le_refl _⟩, by repeat (first | exact Drawn0.refl _ | apply Drawn0.step)⟩
   case round =>
    clear H'
    try clear c1
    try clear p2
    try clear c3
    try clear c3b0
    try clear c3b1
    try clear c4
    try clear c4b0
    try clear c4b1
    try clear p5
    try clear q5
    try clear hx5
    try clear qi5
    try clear c6
    try clear c6b0
    try clear c6b1
    try clear c7
    try clear c7b0
    try clear c7b1
    try clear p2
    try clear p5
    try clear q5
    obtain ⟨x0_2, rfl, HA, HK2, ⟨m2, rfl⟩⟩ := hrel
    cases gk with
    | zero => exact absurd HA.out (by simp [semver_trim.l1])
    | succ k2 =>
     have H := HA.out
     clear HA
     simp only [semver_trim.l1] at H
     by_cases c8 : x0_2.toList = ([] : List UInt8)
     ·rw [if_pos c8] at H
      have c8b0 : (x0_2.toList == ([] : List UInt8)) = true := beq_iff_eq.mpr c8
      have c8b1 : (x0_2.toList != ([] : List UInt8)) = false := bne_eq_false_iff_eq.mpr c8
      clear c8
      obtain rfl := Option.some.inj H
      go_wp2
      go_ret
      exact ⟨by first | rfl | (simp; done) | (simp [*]; done), by repeat (first | exact Drawn0.refl _ | apply Drawn0.step)⟩
     ·rw [if_neg c8] at H
      have c8b0 : (x0_2.toList == ([] : List UInt8)) = false := beq_eq_false_iff_ne.mpr c8
      have c8b1 : (x0_2.toList != ([] : List UInt8)) = true := bne_iff_ne.mpr c8
      obtain ⟨ji9, hji9⟩ : ∃ j_ : Int, (wrap64 ((x0_2.size : Int) - 1)) = j_ := ⟨_, rfl⟩
      replace H : (if 0 ≤ (ji9) then (if (ji9) < (x0_2.size : Int) then (if (bt x0_2 (ji9)) = 32 then (if (ji9) ≤ (x0_2.size : Int) then (semver_trim.l1 k2 (x0_2.extract 0 ((ji9) : Int).toNat)) else (none)) else (some x0_2)) else (none)) else (none)) = some r := by first | (rw [hji9] at H; exact H) | (simp only [hji9] at H ⊢; exact H)
      have hji9w : (IntKind.i64.wrap ((x0_2.size : Int) - 1)) = ji9 := (i64_w _).trans hji9
      by_cases c10 : 0 ≤ (ji9)
      ·rw [if_pos c10] at H
       have c10b0 : decide (0 ≤ (ji9)) = true := decide_eq_true c10
       clear c10
       by_cases c11 : (ji9) < (x0_2.size : Int)
       ·rw [if_pos c11] at H
        have c11b0 : decide ((ji9) < (x0_2.size : Int)) = true := decide_eq_true c11
        clear c11
        by_cases c13 : (bt x0_2 (ji9)) = 32
        ·rw [if_pos c13] at H
         have c13b0 : ((bt x0_2 (ji9)) == 32) = true := beq_iff_eq.mpr c13
         have c13b1 : ((bt x0_2 (ji9)) != 32) = false := bne_eq_false_iff_eq.mpr c13
         clear c13
         have c14b0 := eq_true (of_decide_eq_true (by first | (with_reducible assumption) | assumption) : 0 ≤ (ji9))
         by_cases c15 : (ji9) ≤ (x0_2.size : Int)
         ·rw [if_pos c15] at H
          have c15b0 := eq_true c15
          have c15b1 : decide ((ji9) ≤ (x0_2.size : Int)) = true := decide_eq_true c15
          clear c15
          have H' := Aside0.mk H
          clear H
          have p12 : 0 ≤ ((ji9) : Int) := of_decide_eq_true (by first | (with_reducible assumption) | assumption)
          have q12 : (ji9) < (x0_2.size : Int) := of_decide_eq_true (by first | (with_reducible assumption) | assumption)
          have hx12 := bt_at x0_2 (ji9)
          replace p12 := eq_true p12
          replace q12 := eq_true q12
          go_wp2
          go_roundg k2
          case measure => have := HJ1.out; have := HK2.out; omega
          case rel => exact ⟨(x0_2.extract 0 ((ji9) : Int).toNat), (by first | rfl | (simp; done) | (simp only [← hji9] <;> (first | rfl | simp)) | (simp [*]; done)), H', ⟨by have := HJ1.out; have := HK2.out; omega⟩, by repeat (first | exact Drawn0.refl _ | apply Drawn0.step)⟩
         ·rw [if_neg c15] at H
          exact absurd H (by simp)
        ·rw [if_neg c13] at H
         have c13b0 : ((bt x0_2 (ji9)) == 32) = false := beq_eq_false_iff_ne.mpr c13
         have c13b1 : ((bt x0_2 (ji9)) != 32) = true := bne_iff_ne.mpr c13
         obtain rfl := Option.some.inj H
         have p12 : 0 ≤ ((ji9) : Int) := of_decide_eq_true (by first | (with_reducible assumption) | assumption)
         have q12 : (ji9) < (x0_2.size : Int) := of_decide_eq_true (by first | (with_reducible assumption) | assumption)
         have hx12 := bt_at x0_2 (ji9)
         replace p12 := eq_true p12
         replace q12 := eq_true q12
         go_wp2
         go_ret
         exact ⟨by first | rfl | (simp; done) | (simp only [← hji9] <;> (first | rfl | simp)) | (simp [*]; done), by repeat (first | exact Drawn0.refl _ | apply Drawn0.step)⟩
       ·rw [if_neg c11] at H
        exact absurd H (by simp)
      ·rw [if_neg c10] at H
       exact absurd H (by simp)
def semver_plainNumbers.l0 : Nat → ByteArray → Int → Option (Bool)
 | 0, _, _ => none
 | k + 1, x0, x3 => if x3 < (x0.size : Int) then (if 0 ≤ x3 then (if (bt x0 x3) < 48 then (if (bt x0 x3) = 46 then (semver_plainNumbers.l0 k x0 (wrap64 (x3 + 1))) else (if (bt x0 x3) = 120 then (semver_plainNumbers.l0 k x0 (wrap64 (x3 + 1))) else (if (bt x0 x3) = 88 then (semver_plainNumbers.l0 k x0 (wrap64 (x3 + 1))) else (if (bt x0 x3) = 42 then (semver_plainNumbers.l0 k x0 (wrap64 (x3 + 1))) else (if (bt x0 x3) = 118 then (semver_plainNumbers.l0 k x0 (wrap64 (x3 + 1))) else (some false)))))) else (if (bt x0 x3) > 57 then (if (bt x0 x3) = 46 then (semver_plainNumbers.l0 k x0 (wrap64 (x3 + 1))) else (if (bt x0 x3) = 120 then (semver_plainNumbers.l0 k x0 (wrap64 (x3 + 1))) else (if (bt x0 x3) = 88 then (semver_plainNumbers.l0 k x0 (wrap64 (x3 + 1))) else (if (bt x0 x3) = 42 then (semver_plainNumbers.l0 k x0 (wrap64 (x3 + 1))) else (if (bt x0 x3) = 118 then (semver_plainNumbers.l0 k x0 (wrap64 (x3 + 1))) else (some false)))))) else (semver_plainNumbers.l0 k x0 (wrap64 (x3 + 1))))) else (none)) else (some true)
def semver_plainNumbers.f (k : Nat) (a0 : ByteArray) : Option (Bool) := semver_plainNumbers.l0 k a0 0
theorem semver_plainNumbers.mono_l : ∀ k, (∀ y0 y1, LeO (semver_plainNumbers.l0 k y0 y1) (semver_plainNumbers.l0 (k + 1) y0 y1))
 | 0 => fun _ _ r h => by simp [semver_plainNumbers.l0] at h
 | k + 1 => by
  have ih0 := semver_plainNumbers.mono_l k
  ·intro y0 y1
   unfold semver_plainNumbers.l0
   repeat' first
   | (with_reducible exact ih0 _ _)
   | (with_reducible exact LeO.refl _)
   | (with_reducible exact LeO.none _)
   | (with_reducible refine LeO.ite ?_ ?_)
   | (with_reducible refine LeO.bind ?_ (fun _ => ?_))
   | exact ih0 _ _
   | exact LeO.none _
   | refine LeO.ite ?_ ?_
   | refine LeO.bind ?_ (fun _ => ?_)
theorem semver_plainNumbers.mono : ∀ a0 k, LeO (semver_plainNumbers.f k a0) (semver_plainNumbers.f (k + 1) a0) := by
 intro a0 k
 have ih0 := semver_plainNumbers.mono_l k
 unfold semver_plainNumbers.f
 repeat' first
   | (with_reducible exact ih0 _ _)
   | (with_reducible exact LeO.refl _)
   | (with_reducible exact LeO.none _)
   | (with_reducible refine LeO.ite ?_ ?_)
   | (with_reducible refine LeO.bind ?_ (fun _ => ?_))
   | exact ih0 _ _
   | exact LeO.none _
   | refine LeO.ite ?_ ?_
   | refine LeO.bind ?_ (fun _ => ?_)
set_option maxHeartbeats 8000000 in
set_option maxRecDepth 100000 in
theorem semver_plainNumbers.calls (k : Nat) (a0 : ByteArray) (r : Bool) (w : World) (h : semver_plainNumbers.f k a0 = some r) :
  Calls Tryz.prog 155 #[.string a0] w fun e w' => e = .returned (.bool r) ∧ Drawn0 w w' := by
 have H : (semver_plainNumbers.l0 k a0 0) = some r := h
 clear h
 have H' := Aside0.mk H
 clear H
 go_enter Tryz.func155, Tryz.ntmps155
 go_wp2
 go_loopg [3] k (fun kq v3 w' => ∃ (x3_1 : Int), v3 = .int .i64 x3_1 ∧ Aside0 (semver_plainNumbers.l0 kq a0 x3_1 = some r) ∧ Aside0 (kq ≤ k) ∧ Drawn0 w w')
 case atStart => exact ⟨(0), (by first | rfl | (simp; done) | (simp [*]; done)), H', ⟨Nat.le_refl _⟩, by repeat (first | exact Drawn0.refl _ | apply Drawn0.step)⟩
 case round =>
  clear H'
  try clear c1
  obtain ⟨x3_1, rfl, HA, HK1, ⟨m1, rfl⟩⟩ := hrel
  cases gk with
  | zero => exact absurd HA.out (by simp [semver_plainNumbers.l0])
  | succ k1 =>
   have H := HA.out
   clear HA
   simp only [semver_plainNumbers.l0] at H
   by_cases c2 : x3_1 < (a0.size : Int)
   ·rw [if_pos c2] at H
    have c2b0 : decide (x3_1 < (a0.size : Int)) = true := decide_eq_true c2
    clear c2
    by_cases c3 : 0 ≤ x3_1
    ·rw [if_pos c3] at H
     have c3b0 : decide (0 ≤ x3_1) = true := decide_eq_true c3
     clear c3
     by_cases c5 : (bt a0 x3_1) < 48
     ·rw [if_pos c5] at H
      have c5b0 : decide ((bt a0 x3_1) < 48) = true := decide_eq_true c5
      clear c5
      by_cases c7 : (bt a0 x3_1) = 46
      ·rw [if_pos c7] at H
       have c7b0 : ((bt a0 x3_1) == 46) = true := beq_iff_eq.mpr c7
       have c7b1 : ((bt a0 x3_1) != 46) = false := bne_eq_false_iff_eq.mpr c7
       clear c7
       have H' := Aside0.mk H
       clear H
       have p4 : 0 ≤ (x3_1 : Int) := of_decide_eq_true (by first | (with_reducible assumption) | assumption)
       have q4 : x3_1 < (a0.size : Int) := of_decide_eq_true (by first | (with_reducible assumption) | assumption)
       have hx4 := bt_at a0 x3_1
       replace p4 := eq_true p4
       replace q4 := eq_true q4
       have p6 : 0 ≤ (x3_1 : Int) := of_decide_eq_true (by first | (with_reducible assumption) | assumption)
       have q6 : x3_1 < (a0.size : Int) := of_decide_eq_true (by first | (with_reducible assumption) | assumption)
       have hx6 := bt_at a0 x3_1
       replace p6 := eq_true p6
       replace q6 := eq_true q6
       go_wp2
       go_roundg k1
       case measure => have := HK1.out; omega
       case rel => exact ⟨(wrap64 (x3_1 + 1)), (by first | rfl | (simp; done) | (simp [*]; done)), H', ⟨by have := HK1.out; omega⟩, by repeat (first | exact Drawn0.refl _ | apply Drawn0.step)⟩
      ·rw [if_neg c7] at H
       have c7b0 : ((bt a0 x3_1) == 46) = false := beq_eq_false_iff_ne.mpr c7
       have c7b1 : ((bt a0 x3_1) != 46) = true := bne_iff_ne.mpr c7
       by_cases c9 : (bt a0 x3_1) = 120
       ·rw [if_pos c9] at H
        have c9b0 : ((bt a0 x3_1) == 120) = true := beq_iff_eq.mpr c9
        have c9b1 : ((bt a0 x3_1) != 120) = false := bne_eq_false_iff_eq.mpr c9
        clear c9
        have H' := Aside0.mk H
        clear H
        have p4 : 0 ≤ (x3_1 : Int) := of_decide_eq_true (by first | (with_reducible assumption) | assumption)
        have q4 : x3_1 < (a0.size : Int) := of_decide_eq_true (by first | (with_reducible assumption) | assumption)
        have hx4 := bt_at a0 x3_1
        replace p4 := eq_true p4
        replace q4 := eq_true q4
        have p6 : 0 ≤ (x3_1 : Int) := of_decide_eq_true (by first | (with_reducible assumption) | assumption)
        have q6 : x3_1 < (a0.size : Int) := of_decide_eq_true (by first | (with_reducible assumption) | assumption)
        have hx6 := bt_at a0 x3_1
        replace p6 := eq_true p6
        replace q6 := eq_true q6
        have p8 : 0 ≤ (x3_1 : Int) := of_decide_eq_true (by first | (with_reducible assumption) | assumption)
        have q8 : x3_1 < (a0.size : Int) := of_decide_eq_true (by first | (with_reducible assumption) | assumption)
        have hx8 := bt_at a0 x3_1
        replace p8 := eq_true p8
        replace q8 := eq_true q8
        go_wp2
        go_roundg k1
        case measure => have := HK1.out; omega
        case rel => exact ⟨(wrap64 (x3_1 + 1)), (by first | rfl | (simp; done) | (simp [*]; done)), H', ⟨by have := HK1.out; omega⟩, by repeat (first | exact Drawn0.refl _ | apply Drawn0.step)⟩
       ·rw [if_neg c9] at H
        have c9b0 : ((bt a0 x3_1) == 120) = false := beq_eq_false_iff_ne.mpr c9
        have c9b1 : ((bt a0 x3_1) != 120) = true := bne_iff_ne.mpr c9
        by_cases c11 : (bt a0 x3_1) = 88
        ·rw [if_pos c11] at H
         have c11b0 : ((bt a0 x3_1) == 88) = true := beq_iff_eq.mpr c11
         have c11b1 : ((bt a0 x3_1) != 88) = false := bne_eq_false_iff_eq.mpr c11
         clear c11
         have H' := Aside0.mk H
         clear H
         have p4 : 0 ≤ (x3_1 : Int) := of_decide_eq_true (by first | (with_reducible assumption) | assumption)
         have q4 : x3_1 < (a0.size : Int) := of_decide_eq_true (by first | (with_reducible assumption) | assumption)
         have hx4 := bt_at a0 x3_1
         replace p4 := eq_true p4
         replace q4 := eq_true q4
         have p6 : 0 ≤ (x3_1 : Int) := of_decide_eq_true (by first | (with_reducible assumption) | assumption)
         have q6 : x3_1 < (a0.size : Int) := of_decide_eq_true (by first | (with_reducible assumption) | assumption)
         have hx6 := bt_at a0 x3_1
         replace p6 := eq_true p6
         replace q6 := eq_true q6
         have p8 : 0 ≤ (x3_1 : Int) := of_decide_eq_true (by first | (with_reducible assumption) | assumption)
         have q8 : x3_1 < (a0.size : Int) := of_decide_eq_true (by first | (with_reducible assumption) | assumption)
         have hx8 := bt_at a0 x3_1
         replace p8 := eq_true p8
         replace q8 := eq_true q8
         have p10 : 0 ≤ (x3_1 : Int) := of_decide_eq_true (by first | (with_reducible assumption) | assumption)
         have q10 : x3_1 < (a0.size : Int) := of_decide_eq_true (by first | (with_reducible assumption) | assumption)
         have hx10 := bt_at a0 x3_1
         replace p10 := eq_true p10
         replace q10 := eq_true q10
         go_wp2
         go_roundg k1
         case measure => have := HK1.out; omega
         case rel => exact ⟨(wrap64 (x3_1 + 1)), (by first | rfl | (simp; done) | (simp [*]; done)), H', ⟨by have := HK1.out; omega⟩, by repeat (first | exact Drawn0.refl _ | apply Drawn0.step)⟩
        ·rw [if_neg c11] at H
         have c11b0 : ((bt a0 x3_1) == 88) = false := beq_eq_false_iff_ne.mpr c11
         have c11b1 : ((bt a0 x3_1) != 88) = true := bne_iff_ne.mpr c11
         by_cases c13 : (bt a0 x3_1) = 42
         ·rw [if_pos c13] at H
          have c13b0 : ((bt a0 x3_1) == 42) = true := beq_iff_eq.mpr c13
          have c13b1 : ((bt a0 x3_1) != 42) = false := bne_eq_false_iff_eq.mpr c13
          clear c13
          have H' := Aside0.mk H
          clear H
          have p4 : 0 ≤ (x3_1 : Int) := of_decide_eq_true (by first | (with_reducible assumption) | assumption)
          have q4 : x3_1 < (a0.size : Int) := of_decide_eq_true (by first | (with_reducible assumption) | assumption)
          have hx4 := bt_at a0 x3_1
          replace p4 := eq_true p4
          replace q4 := eq_true q4
          have p6 : 0 ≤ (x3_1 : Int) := of_decide_eq_true (by first | (with_reducible assumption) | assumption)
          have q6 : x3_1 < (a0.size : Int) := of_decide_eq_true (by first | (with_reducible assumption) | assumption)
          have hx6 := bt_at a0 x3_1
          replace p6 := eq_true p6
          replace q6 := eq_true q6
          have p8 : 0 ≤ (x3_1 : Int) := of_decide_eq_true (by first | (with_reducible assumption) | assumption)
          have q8 : x3_1 < (a0.size : Int) := of_decide_eq_true (by first | (with_reducible assumption) | assumption)
          have hx8 := bt_at a0 x3_1
          replace p8 := eq_true p8
          replace q8 := eq_true q8
          have p10 : 0 ≤ (x3_1 : Int) := of_decide_eq_true (by first | (with_reducible assumption) | assumption)
          have q10 : x3_1 < (a0.size : Int) := of_decide_eq_true (by first | (with_reducible assumption) | assumption)
          have hx10 := bt_at a0 x3_1
          replace p10 := eq_true p10
          replace q10 := eq_true q10
          have p12 : 0 ≤ (x3_1 : Int) := of_decide_eq_true (by first | (with_reducible assumption) | assumption)
          have q12 : x3_1 < (a0.size : Int) := of_decide_eq_true (by first | (with_reducible assumption) | assumption)
          have hx12 := bt_at a0 x3_1
          replace p12 := eq_true p12
          replace q12 := eq_true q12
          go_wp2
          go_roundg k1
          case measure => have := HK1.out; omega
          case rel => exact ⟨(wrap64 (x3_1 + 1)), (by first | rfl | (simp; done) | (simp [*]; done)), H', ⟨by have := HK1.out; omega⟩, by repeat (first | exact Drawn0.refl _ | apply Drawn0.step)⟩
         ·rw [if_neg c13] at H
          have c13b0 : ((bt a0 x3_1) == 42) = false := beq_eq_false_iff_ne.mpr c13
          have c13b1 : ((bt a0 x3_1) != 42) = true := bne_iff_ne.mpr c13
          by_cases c15 : (bt a0 x3_1) = 118
          ·rw [if_pos c15] at H
           have c15b0 : ((bt a0 x3_1) == 118) = true := beq_iff_eq.mpr c15
           have c15b1 : ((bt a0 x3_1) != 118) = false := bne_eq_false_iff_eq.mpr c15
           clear c15
           have H' := Aside0.mk H
           clear H
           have p4 : 0 ≤ (x3_1 : Int) := of_decide_eq_true (by first | (with_reducible assumption) | assumption)
           have q4 : x3_1 < (a0.size : Int) := of_decide_eq_true (by first | (with_reducible assumption) | assumption)
           have hx4 := bt_at a0 x3_1
           replace p4 := eq_true p4
           replace q4 := eq_true q4
           have p6 : 0 ≤ (x3_1 : Int) := of_decide_eq_true (by first | (with_reducible assumption) | assumption)
           have q6 : x3_1 < (a0.size : Int) := of_decide_eq_true (by first | (with_reducible assumption) | assumption)
           have hx6 := bt_at a0 x3_1
           replace p6 := eq_true p6
           replace q6 := eq_true q6
           have p8 : 0 ≤ (x3_1 : Int) := of_decide_eq_true (by first | (with_reducible assumption) | assumption)
           have q8 : x3_1 < (a0.size : Int) := of_decide_eq_true (by first | (with_reducible assumption) | assumption)
           have hx8 := bt_at a0 x3_1
           replace p8 := eq_true p8
           replace q8 := eq_true q8
           have p10 : 0 ≤ (x3_1 : Int) := of_decide_eq_true (by first | (with_reducible assumption) | assumption)
           have q10 : x3_1 < (a0.size : Int) := of_decide_eq_true (by first | (with_reducible assumption) | assumption)
           have hx10 := bt_at a0 x3_1
           replace p10 := eq_true p10
           replace q10 := eq_true q10
           have p12 : 0 ≤ (x3_1 : Int) := of_decide_eq_true (by first | (with_reducible assumption) | assumption)
           have q12 : x3_1 < (a0.size : Int) := of_decide_eq_true (by first | (with_reducible assumption) | assumption)
           have hx12 := bt_at a0 x3_1
           replace p12 := eq_true p12
           replace q12 := eq_true q12
           have p14 : 0 ≤ (x3_1 : Int) := of_decide_eq_true (by first | (with_reducible assumption) | assumption)
           have q14 : x3_1 < (a0.size : Int) := of_decide_eq_true (by first | (with_reducible assumption) | assumption)
           have hx14 := bt_at a0 x3_1
           replace p14 := eq_true p14
           replace q14 := eq_true q14
           go_wp2
           go_roundg k1
           case measure => have := HK1.out; omega
           case rel => exact ⟨(wrap64 (x3_1 + 1)), (by first | rfl | (simp; done) | (simp [*]; done)), H', ⟨by have := HK1.out; omega⟩, by repeat (first | exact Drawn0.refl _ | apply Drawn0.step)⟩
          ·rw [if_neg c15] at H
           have c15b0 : ((bt a0 x3_1) == 118) = false := beq_eq_false_iff_ne.mpr c15
           have c15b1 : ((bt a0 x3_1) != 118) = true := bne_iff_ne.mpr c15
           obtain rfl := Option.some.inj H
           have p4 : 0 ≤ (x3_1 : Int) := of_decide_eq_true (by first | (with_reducible assumption) | assumption)
           have q4 : x3_1 < (a0.size : Int) := of_decide_eq_true (by first | (with_reducible assumption) | assumption)
           have hx4 := bt_at a0 x3_1
           replace p4 := eq_true p4
           replace q4 := eq_true q4
           have p6 : 0 ≤ (x3_1 : Int) := of_decide_eq_true (by first | (with_reducible assumption) | assumption)
           have q6 : x3_1 < (a0.size : Int) := of_decide_eq_true (by first | (with_reducible assumption) | assumption)
           have hx6 := bt_at a0 x3_1
           replace p6 := eq_true p6
           replace q6 := eq_true q6
           have p8 : 0 ≤ (x3_1 : Int) := of_decide_eq_true (by first | (with_reducible assumption) | assumption)
           have q8 : x3_1 < (a0.size : Int) := of_decide_eq_true (by first | (with_reducible assumption) | assumption)
           have hx8 := bt_at a0 x3_1
           replace p8 := eq_true p8
           replace q8 := eq_true q8
           have p10 : 0 ≤ (x3_1 : Int) := of_decide_eq_true (by first | (with_reducible assumption) | assumption)
           have q10 : x3_1 < (a0.size : Int) := of_decide_eq_true (by first | (with_reducible assumption) | assumption)
           have hx10 := bt_at a0 x3_1
           replace p10 := eq_true p10
           replace q10 := eq_true q10
           have p12 : 0 ≤ (x3_1 : Int) := of_decide_eq_true (by first | (with_reducible assumption) | assumption)
           have q12 : x3_1 < (a0.size : Int) := of_decide_eq_true (by first | (with_reducible assumption) | assumption)
           have hx12 := bt_at a0 x3_1
           replace p12 := eq_true p12
           replace q12 := eq_true q12
           have p14 : 0 ≤ (x3_1 : Int) := of_decide_eq_true (by first | (with_reducible assumption) | assumption)
           have q14 : x3_1 < (a0.size : Int) := of_decide_eq_true (by first | (with_reducible assumption) | assumption)
           have hx14 := bt_at a0 x3_1
           replace p14 := eq_true p14
           replace q14 := eq_true q14
           go_wp2
           go_ret
           exact ⟨by first | rfl | (simp; done) | (simp [*]; done), by repeat (first | exact Drawn0.refl _ | apply Drawn0.step)⟩
     ·rw [if_neg c5] at H
      have c5b0 : decide ((bt a0 x3_1) < 48) = false := decide_eq_false c5
      clear c5
      by_cases c17 : (bt a0 x3_1) > 57
      ·rw [if_pos c17] at H
       have c17b0 : decide (57 < (bt a0 x3_1)) = true := decide_eq_true c17
       clear c17
       by_cases c19 : (bt a0 x3_1) = 46
       ·rw [if_pos c19] at H
        have c19b0 : ((bt a0 x3_1) == 46) = true := beq_iff_eq.mpr c19
        have c19b1 : ((bt a0 x3_1) != 46) = false := bne_eq_false_iff_eq.mpr c19
        clear c19
        have H' := Aside0.mk H
        clear H
        have p4 : 0 ≤ (x3_1 : Int) := of_decide_eq_true (by first | (with_reducible assumption) | assumption)
        have q4 : x3_1 < (a0.size : Int) := of_decide_eq_true (by first | (with_reducible assumption) | assumption)
        have hx4 := bt_at a0 x3_1
        replace p4 := eq_true p4
        replace q4 := eq_true q4
        have p16 : 0 ≤ (x3_1 : Int) := of_decide_eq_true (by first | (with_reducible assumption) | assumption)
        have q16 : x3_1 < (a0.size : Int) := of_decide_eq_true (by first | (with_reducible assumption) | assumption)
        have hx16 := bt_at a0 x3_1
        replace p16 := eq_true p16
        replace q16 := eq_true q16
        have p18 : 0 ≤ (x3_1 : Int) := of_decide_eq_true (by first | (with_reducible assumption) | assumption)
        have q18 : x3_1 < (a0.size : Int) := of_decide_eq_true (by first | (with_reducible assumption) | assumption)
        have hx18 := bt_at a0 x3_1
        replace p18 := eq_true p18
        replace q18 := eq_true q18
        go_wp2
        go_roundg k1
        case measure => have := HK1.out; omega
        case rel => exact ⟨(wrap64 (x3_1 + 1)), (by first | rfl | (simp; done) | (simp [*]; done)), H', ⟨by have := HK1.out; omega⟩, by repeat (first | exact Drawn0.refl _ | apply Drawn0.step)⟩
       ·rw [if_neg c19] at H
        have c19b0 : ((bt a0 x3_1) == 46) = false := beq_eq_false_iff_ne.mpr c19
        have c19b1 : ((bt a0 x3_1) != 46) = true := bne_iff_ne.mpr c19
        by_cases c21 : (bt a0 x3_1) = 120
        ·rw [if_pos c21] at H
         have c21b0 : ((bt a0 x3_1) == 120) = true := beq_iff_eq.mpr c21
         have c21b1 : ((bt a0 x3_1) != 120) = false := bne_eq_false_iff_eq.mpr c21
         clear c21
         have H' := Aside0.mk H
         clear H
         have p4 : 0 ≤ (x3_1 : Int) := of_decide_eq_true (by first | (with_reducible assumption) | assumption)
         have q4 : x3_1 < (a0.size : Int) := of_decide_eq_true (by first | (with_reducible assumption) | assumption)
         have hx4 := bt_at a0 x3_1
         replace p4 := eq_true p4
         replace q4 := eq_true q4
         have p16 : 0 ≤ (x3_1 : Int) := of_decide_eq_true (by first | (with_reducible assumption) | assumption)
         have q16 : x3_1 < (a0.size : Int) := of_decide_eq_true (by first | (with_reducible assumption) | assumption)
         have hx16 := bt_at a0 x3_1
         replace p16 := eq_true p16
         replace q16 := eq_true q16
         have p18 : 0 ≤ (x3_1 : Int) := of_decide_eq_true (by first | (with_reducible assumption) | assumption)
         have q18 : x3_1 < (a0.size : Int) := of_decide_eq_true (by first | (with_reducible assumption) | assumption)
         have hx18 := bt_at a0 x3_1
         replace p18 := eq_true p18
         replace q18 := eq_true q18
         have p20 : 0 ≤ (x3_1 : Int) := of_decide_eq_true (by first | (with_reducible assumption) | assumption)
         have q20 : x3_1 < (a0.size : Int) := of_decide_eq_true (by first | (with_reducible assumption) | assumption)
         have hx20 := bt_at a0 x3_1
         replace p20 := eq_true p20
         replace q20 := eq_true q20
         go_wp2
         go_roundg k1
         case measure => have := HK1.out; omega
         case rel => exact ⟨(wrap64 (x3_1 + 1)), (by first | rfl | (simp; done) | (simp [*]; done)), H', ⟨by have := HK1.out; omega⟩, by repeat (first | exact Drawn0.refl _ | apply Drawn0.step)⟩
        ·rw [if_neg c21] at H
         have c21b0 : ((bt a0 x3_1) == 120) = false := beq_eq_false_iff_ne.mpr c21
         have c21b1 : ((bt a0 x3_1) != 120) = true := bne_iff_ne.mpr c21
         by_cases c23 : (bt a0 x3_1) = 88
         ·rw [if_pos c23] at H
          have c23b0 : ((bt a0 x3_1) == 88) = true := beq_iff_eq.mpr c23
          have c23b1 : ((bt a0 x3_1) != 88) = false := bne_eq_false_iff_eq.mpr c23
          clear c23
          have H' := Aside0.mk H
          clear H
          have p4 : 0 ≤ (x3_1 : Int) := of_decide_eq_true (by first | (with_reducible assumption) | assumption)
          have q4 : x3_1 < (a0.size : Int) := of_decide_eq_true (by first | (with_reducible assumption) | assumption)
          have hx4 := bt_at a0 x3_1
          replace p4 := eq_true p4
          replace q4 := eq_true q4
          have p16 : 0 ≤ (x3_1 : Int) := of_decide_eq_true (by first | (with_reducible assumption) | assumption)
          have q16 : x3_1 < (a0.size : Int) := of_decide_eq_true (by first | (with_reducible assumption) | assumption)
          have hx16 := bt_at a0 x3_1
          replace p16 := eq_true p16
          replace q16 := eq_true q16
          have p18 : 0 ≤ (x3_1 : Int) := of_decide_eq_true (by first | (with_reducible assumption) | assumption)
          have q18 : x3_1 < (a0.size : Int) := of_decide_eq_true (by first | (with_reducible assumption) | assumption)
          have hx18 := bt_at a0 x3_1
          replace p18 := eq_true p18
          replace q18 := eq_true q18
          have p20 : 0 ≤ (x3_1 : Int) := of_decide_eq_true (by first | (with_reducible assumption) | assumption)
          have q20 : x3_1 < (a0.size : Int) := of_decide_eq_true (by first | (with_reducible assumption) | assumption)
          have hx20 := bt_at a0 x3_1
          replace p20 := eq_true p20
          replace q20 := eq_true q20
          have p22 : 0 ≤ (x3_1 : Int) := of_decide_eq_true (by first | (with_reducible assumption) | assumption)
          have q22 : x3_1 < (a0.size : Int) := of_decide_eq_true (by first | (with_reducible assumption) | assumption)
          have hx22 := bt_at a0 x3_1
          replace p22 := eq_true p22
          replace q22 := eq_true q22
          go_wp2
          go_roundg k1
          case measure => have := HK1.out; omega
          case rel => exact ⟨(wrap64 (x3_1 + 1)), (by first | rfl | (simp; done) | (simp [*]; done)), H', ⟨by have := HK1.out; omega⟩, by repeat (first | exact Drawn0.refl _ | apply Drawn0.step)⟩
         ·rw [if_neg c23] at H
          have c23b0 : ((bt a0 x3_1) == 88) = false := beq_eq_false_iff_ne.mpr c23
          have c23b1 : ((bt a0 x3_1) != 88) = true := bne_iff_ne.mpr c23
          by_cases c25 : (bt a0 x3_1) = 42
          ·rw [if_pos c25] at H
           have c25b0 : ((bt a0 x3_1) == 42) = true := beq_iff_eq.mpr c25
           have c25b1 : ((bt a0 x3_1) != 42) = false := bne_eq_false_iff_eq.mpr c25
           clear c25
           have H' := Aside0.mk H
           clear H
           have p4 : 0 ≤ (x3_1 : Int) := of_decide_eq_true (by first | (with_reducible assumption) | assumption)
           have q4 : x3_1 < (a0.size : Int) := of_decide_eq_true (by first | (with_reducible assumption) | assumption)
           have hx4 := bt_at a0 x3_1
           replace p4 := eq_true p4
           replace q4 := eq_true q4
           have p16 : 0 ≤ (x3_1 : Int) := of_decide_eq_true (by first | (with_reducible assumption) | assumption)
           have q16 : x3_1 < (a0.size : Int) := of_decide_eq_true (by first | (with_reducible assumption) | assumption)
           have hx16 := bt_at a0 x3_1
           replace p16 := eq_true p16
           replace q16 := eq_true q16
           have p18 : 0 ≤ (x3_1 : Int) := of_decide_eq_true (by first | (with_reducible assumption) | assumption)
           have q18 : x3_1 < (a0.size : Int) := of_decide_eq_true (by first | (with_reducible assumption) | assumption)
           have hx18 := bt_at a0 x3_1
           replace p18 := eq_true p18
           replace q18 := eq_true q18
           have p20 : 0 ≤ (x3_1 : Int) := of_decide_eq_true (by first | (with_reducible assumption) | assumption)
           have q20 : x3_1 < (a0.size : Int) := of_decide_eq_true (by first | (with_reducible assumption) | assumption)
           have hx20 := bt_at a0 x3_1
           replace p20 := eq_true p20
           replace q20 := eq_true q20
           have p22 : 0 ≤ (x3_1 : Int) := of_decide_eq_true (by first | (with_reducible assumption) | assumption)
           have q22 : x3_1 < (a0.size : Int) := of_decide_eq_true (by first | (with_reducible assumption) | assumption)
           have hx22 := bt_at a0 x3_1
           replace p22 := eq_true p22
           replace q22 := eq_true q22
           have p24 : 0 ≤ (x3_1 : Int) := of_decide_eq_true (by first | (with_reducible assumption) | assumption)
           have q24 : x3_1 < (a0.size : Int) := of_decide_eq_true (by first | (with_reducible assumption) | assumption)
           have hx24 := bt_at a0 x3_1
           replace p24 := eq_true p24
           replace q24 := eq_true q24
           go_wp2
           go_roundg k1
           case measure => have := HK1.out; omega
           case rel => exact ⟨(wrap64 (x3_1 + 1)), (by first | rfl | (simp; done) | (simp [*]; done)), H', ⟨by have := HK1.out; omega⟩, by repeat (first | exact Drawn0.refl _ | apply Drawn0.step)⟩
          ·rw [if_neg c25] at H
           have c25b0 : ((bt a0 x3_1) == 42) = false := beq_eq_false_iff_ne.mpr c25
           have c25b1 : ((bt a0 x3_1) != 42) = true := bne_iff_ne.mpr c25
           by_cases c27 : (bt a0 x3_1) = 118
           ·rw [if_pos c27] at H
            have c27b0 : ((bt a0 x3_1) == 118) = true := beq_iff_eq.mpr c27
            have c27b1 : ((bt a0 x3_1) != 118) = false := bne_eq_false_iff_eq.mpr c27
            clear c27
            have H' := Aside0.mk H
            clear H
            have p4 : 0 ≤ (x3_1 : Int) := of_decide_eq_true (by first | (with_reducible assumption) | assumption)
            have q4 : x3_1 < (a0.size : Int) := of_decide_eq_true (by first | (with_reducible assumption) | assumption)
            have hx4 := bt_at a0 x3_1
            replace p4 := eq_true p4
            replace q4 := eq_true q4
            have p16 : 0 ≤ (x3_1 : Int) := of_decide_eq_true (by first | (with_reducible assumption) | assumption)
            have q16 : x3_1 < (a0.size : Int) := of_decide_eq_true (by first | (with_reducible assumption) | assumption)
            have hx16 := bt_at a0 x3_1
            replace p16 := eq_true p16
            replace q16 := eq_true q16
            have p18 : 0 ≤ (x3_1 : Int) := of_decide_eq_true (by first | (with_reducible assumption) | assumption)
            have q18 : x3_1 < (a0.size : Int) := of_decide_eq_true (by first | (with_reducible assumption) | assumption)
            have hx18 := bt_at a0 x3_1
            replace p18 := eq_true p18
            replace q18 := eq_true q18
            have p20 : 0 ≤ (x3_1 : Int) := of_decide_eq_true (by first | (with_reducible assumption) | assumption)
            have q20 : x3_1 < (a0.size : Int) := of_decide_eq_true (by first | (with_reducible assumption) | assumption)
            have hx20 := bt_at a0 x3_1
            replace p20 := eq_true p20
            replace q20 := eq_true q20
            have p22 : 0 ≤ (x3_1 : Int) := of_decide_eq_true (by first | (with_reducible assumption) | assumption)
            have q22 : x3_1 < (a0.size : Int) := of_decide_eq_true (by first | (with_reducible assumption) | assumption)
            have hx22 := bt_at a0 x3_1
            replace p22 := eq_true p22
            replace q22 := eq_true q22
            have p24 : 0 ≤ (x3_1 : Int) := of_decide_eq_true (by first | (with_reducible assumption) | assumption)
            have q24 : x3_1 < (a0.size : Int) := of_decide_eq_true (by first | (with_reducible assumption) | assumption)
            have hx24 := bt_at a0 x3_1
            replace p24 := eq_true p24
            replace q24 := eq_true q24
            have p26 : 0 ≤ (x3_1 : Int) := of_decide_eq_true (by first | (with_reducible assumption) | assumption)
            have q26 : x3_1 < (a0.size : Int) := of_decide_eq_true (by first | (with_reducible assumption) | assumption)
            have hx26 := bt_at a0 x3_1
            replace p26 := eq_true p26
            replace q26 := eq_true q26
            go_wp2
            go_roundg k1
            case measure => have := HK1.out; omega
            case rel => exact ⟨(wrap64 (x3_1 + 1)), (by first | rfl | (simp; done) | (simp [*]; done)), H', ⟨by have := HK1.out; omega⟩, by repeat (first | exact Drawn0.refl _ | apply Drawn0.step)⟩
           ·rw [if_neg c27] at H
            have c27b0 : ((bt a0 x3_1) == 118) = false := beq_eq_false_iff_ne.mpr c27
            have c27b1 : ((bt a0 x3_1) != 118) = true := bne_iff_ne.mpr c27
            obtain rfl := Option.some.inj H
            have p4 : 0 ≤ (x3_1 : Int) := of_decide_eq_true (by first | (with_reducible assumption) | assumption)
            have q4 : x3_1 < (a0.size : Int) := of_decide_eq_true (by first | (with_reducible assumption) | assumption)
            have hx4 := bt_at a0 x3_1
            replace p4 := eq_true p4
            replace q4 := eq_true q4
            have p16 : 0 ≤ (x3_1 : Int) := of_decide_eq_true (by first | (with_reducible assumption) | assumption)
            have q16 : x3_1 < (a0.size : Int) := of_decide_eq_true (by first | (with_reducible assumption) | assumption)
            have hx16 := bt_at a0 x3_1
            replace p16 := eq_true p16
            replace q16 := eq_true q16
            have p18 : 0 ≤ (x3_1 : Int) := of_decide_eq_true (by first | (with_reducible assumption) | assumption)
            have q18 : x3_1 < (a0.size : Int) := of_decide_eq_true (by first | (with_reducible assumption) | assumption)
            have hx18 := bt_at a0 x3_1
            replace p18 := eq_true p18
            replace q18 := eq_true q18
            have p20 : 0 ≤ (x3_1 : Int) := of_decide_eq_true (by first | (with_reducible assumption) | assumption)
            have q20 : x3_1 < (a0.size : Int) := of_decide_eq_true (by first | (with_reducible assumption) | assumption)
            have hx20 := bt_at a0 x3_1
            replace p20 := eq_true p20
            replace q20 := eq_true q20
            have p22 : 0 ≤ (x3_1 : Int) := of_decide_eq_true (by first | (with_reducible assumption) | assumption)
            have q22 : x3_1 < (a0.size : Int) := of_decide_eq_true (by first | (with_reducible assumption) | assumption)
            have hx22 := bt_at a0 x3_1
            replace p22 := eq_true p22
            replace q22 := eq_true q22
            have p24 : 0 ≤ (x3_1 : Int) := of_decide_eq_true (by first | (with_reducible assumption) | assumption)
            have q24 : x3_1 < (a0.size : Int) := of_decide_eq_true (by first | (with_reducible assumption) | assumption)
            have hx24 := bt_at a0 x3_1
            replace p24 := eq_true p24
            replace q24 := eq_true q24
            have p26 : 0 ≤ (x3_1 : Int) := of_decide_eq_true (by first | (with_reducible assumption) | assumption)
            have q26 : x3_1 < (a0.size : Int) := of_decide_eq_true (by first | (with_reducible assumption) | assumption)
            have hx26 := bt_at a0 x3_1
            replace p26 := eq_true p26
            replace q26 := eq_true q26
            go_wp2
            go_ret
            exact ⟨by first | rfl | (simp; done) | (simp [*]; done), by repeat (first | exact Drawn0.refl _ | apply Drawn0.step)⟩
      ·rw [if_neg c17] at H
       have c17b0 : decide (57 < (bt a0 x3_1)) = false := decide_eq_false c17
       clear c17
       have H' := Aside0.mk H
       clear H
       have p4 : 0 ≤ (x3_1 : Int) := of_decide_eq_true (by first | (with_reducible assumption) | assumption)
       have q4 : x3_1 < (a0.size : Int) := of_decide_eq_true (by first | (with_reducible assumption) | assumption)
       have hx4 := bt_at a0 x3_1
       replace p4 := eq_true p4
       replace q4 := eq_true q4
       have p16 : 0 ≤ (x3_1 : Int) := of_decide_eq_true (by first | (with_reducible assumption) | assumption)
       have q16 : x3_1 < (a0.size : Int) := of_decide_eq_true (by first | (with_reducible assumption) | assumption)
       have hx16 := bt_at a0 x3_1
       replace p16 := eq_true p16
       replace q16 := eq_true q16
       go_wp2
       go_roundg k1
       case measure => have := HK1.out; omega
       case rel => exact ⟨(wrap64 (x3_1 + 1)), (by first | rfl | (simp; done) | (simp [*]; done)), H', ⟨by have := HK1.out; omega⟩, by repeat (first | exact Drawn0.refl _ | apply Drawn0.step)⟩
    ·rw [if_neg c3] at H
     exact absurd H (by simp)
   ·rw [if_neg c2] at H
    have c2b0 : decide (x3_1 < (a0.size : Int)) = false := decide_eq_false c2
    clear c2
    obtain rfl := Option.some.inj H
    go_wp2
    go_ret
    exact ⟨by first | rfl | (simp; done) | (simp [*]; done), by repeat (first | exact Drawn0.refl _ | apply Drawn0.step)⟩
end Go.Proofs.YtgoeiflddikihaaGreatDoor.PFnIntersectAny
end
section
namespace Go.Proofs.YtgoeiflddikihaaGreatDoor.Ver
set_option linter.unusedSimpArgs false
open Go.RowKit Go.Proofs.YtgoeiflddikihaaGreatDoor.Dig Go.Proofs.YtgoeiflddikihaaGreatDoorW.PrintWords Go.Proofs.YtgoeiflddikihaaGreatDoor.Mem
theorem rowV : RowT Tryz.prog 197 6 := ⟨⟨_, Tryz.underlying197, rfl⟩, by kernel_rfl⟩
theorem rowP : RowT Tryz.prog 242 17 := ⟨⟨_, Tryz.underlying242, rfl⟩, by kernel_rfl⟩
theorem oneB : OneT Tryz.prog 4 := ⟨⟨_, Tryz.underlying4, rfl⟩, by kernel_rfl⟩
theorem oneU : OneT Tryz.prog 46 := ⟨⟨_, Tryz.underlying46, rfl⟩, by kernel_rfl⟩
theorem zeroV : (Tryz.prog.info? 197).bind (fun i => i.zero.map (·.cells)) = some zSV := by kernel_rfl
theorem zeroP : (Tryz.prog.info? 242).bind (fun i => i.zero.map (·.cells)) = some zP := by kernel_rfl
theorem bs_one (cs : Array Value) (h : cs.size = 17) : Tryz.prog.builtSlice 242 1 [(0, .agg cs)] = some cs := by
  obtain ⟨iv, hvi, hvz0, hvz1, _⟩ := info_parts infoP
  unfold Program.builtSlice
  simp only [hvi, hvz0, hvz1]
  rw [if_neg (by decide)]
  exact fill_one cs _ h (by rw [Array.size_map, Array.size_range])
abbrev tc120 : ByteArray := ⟨#[94, 49, 46, 50, 46, 48]⟩
theorem trim120 (w : World) : Calls Tryz.prog 142 #[.string t120] w fun e w' => e = .returned (.string t120) ∧ Drawn0 w w' :=
  PFnIntersectAny.semver_trim.calls 10 t120 t120 w (by kernel_rfl)
set_option maxRecDepth 20000 in
set_option maxHeartbeats 4000000 in
theorem read1_120 (w : World) (hv : Vars w) : Calls Tryz.prog 141 #[.string tc120, .bool false] w fun e w' => ∃ r, e = .returned (.tuple #[.iface 238 (.agg #[r]), .nilIface]) ∧ w'.ownsRow w.heap.size 242 17 r 1 (pcs v120 ⟨2, 0, 0, ⟨#[]⟩, ⟨#[]⟩, ⟨#[]⟩⟩ true true true false).toList ∧ Below w.heap.size w w' := by
  have HP := Lib.hid (fun W hb => partial120 W (Vars.below (w := w) hv hb))
  have HM := Aside0.mk (Blks.start w)
  have HA3 := Lib.hid (fun W => after_3 v120 (by decide) (by decide) W)
  have HA1 := Lib.hid (fun W => after_1 v120 (by decide) (by decide) W)
  dsimp only [v120, SV.cells] at HP HA3 HA1
  rw [show (0 : Int) + 1 = 1 from rfl] at HA3
  rw [show (1 : Int) + 1 = 2 from rfl] at HA1
  have hx1 : tc120.extract 1 6 = t120 := by kernel_rfl
  have hx2 : (⟨#[]⟩ : ByteArray) ++ tc120.extract 0 1 = ⟨#[94]⟩ := by kernel_rfl
  clear hv
  go_enter Tryz.func141, Tryz.ntmps141
  go_wp2_with fail
  refine wp_loop_rounds 2 ?_
  rw [rounds_succ]
  go_wp2_with fail
  rw [rounds_succ]
  go_wp2_with (first
    | (go_at_call 142; ((with_reducible refine (trim120 _).mono ?_); rintro e w4 ⟨rfl, ⟨n4, rfl⟩⟩))
    | (go_at_call 150; ((with_reducible refine (HP.out _ (Blks.bel (by repeat (first | exact HM.out | apply Blks.drewN | apply Blks.drew | apply Blks.other)))).mono ?_); rintro e w5 ⟨rfl, hb⟩; have HN := Aside0.mk (Blks.call (by repeat (first | exact HM.out | apply Blks.drewN | apply Blks.drew | apply Blks.other)) hb); clear HM hb; have HM := HN; clear HN))
    | (go_at_call 151; ((with_reducible refine (HA3.out _).mono ?_); rintro e w6 ⟨rfl, hb⟩; have HN := Aside0.mk (Blks.call (by repeat (first | exact HM.out | apply Blks.drewN | apply Blks.drew | apply Blks.other)) hb); clear HM hb; have HM := HN; clear HN))
    | (go_at_call 151; ((with_reducible refine (HA1.out _).mono ?_); rintro e w7 ⟨rfl, hb⟩; have HN := Aside0.mk (Blks.call (by repeat (first | exact HM.out | apply Blks.drewN | apply Blks.drew | apply Blks.other)) hb); clear HM hb; have HM := HN; clear HN))
    | (refine bk_load (by rfl) (by rfl) (by rfl) (by repeat (first | exact HM.out | apply Blks.drewN | apply Blks.drew | apply Blks.other)) (by repeat (first | exact List.Mem.head _ | apply List.Mem.tail)) (by first | exact rowV | exact rowP) (by repeat (first | exact Rd.nil | apply Rd.here | apply Rd.skip)) ?_)
    | (refine bk_load1 (by rfl) (by rfl) (by rfl) (by repeat (first | exact HM.out | apply Blks.drewN | apply Blks.drew | apply Blks.other)) (by repeat (first | exact List.Mem.head _ | apply List.Mem.tail)) (by first | exact oneU | exact oneB) (by repeat (first | exact Rd.nil | apply Rd.here | apply Rd.skip)) ?_)
    | (refine bk_store (by rfl) (by rfl) (by rfl) (by rfl) (by rfl) (by repeat (first | exact HM.out | apply Blks.drewN | apply Blks.drew | apply Blks.other)) (by first | exact rowV | exact rowP) (by rfl) (by simp [Value.oneCell']) (by repeat (first | exact List.Mem.head _ | apply List.Mem.tail)) (by repeat (first | exact Wr.nil | apply Wr.here | apply Wr.skip)) (by repeat (first | exact Up.here | apply Up.skip)) ?_; intro _ HN; clear HM; have HM := Aside0.mk HN; clear HN)
    | (refine bk_store1 (by rfl) (by rfl) (by rfl) (by rfl) (by first | exact (rfl : _ = Value.bool _) | exact (rfl : _ = Value.int _ _) | exact (rfl : _ = Value.string _) | exact (rfl : _ = Value.slice _ _ _) | exact (rfl : _ = Value.iface _ _) | exact (rfl : _ = Value.nilIface) | exact (rfl : _ = Value.pointer _)) (by repeat (first | exact HM.out | apply Blks.drewN | apply Blks.drew | apply Blks.other)) (by first | exact oneB) (by rfl) (by repeat (first | exact List.Mem.head _ | apply List.Mem.tail)) (by repeat (first | exact Wr.nil | apply Wr.here | apply Wr.skip)) (by repeat (first | exact Up.here | apply Up.skip)) ?_; intro _ HN; clear HM; have HM := Aside0.mk HN; clear HN)
    | (refine bk_alloc (by rfl) (by rfl) (by repeat (first | exact HM.out | apply Blks.drewN | apply Blks.drew | apply Blks.other)) (by first | exact zeroV | exact zeroP) ?_; intro _ _ HN; clear HM; have HM := Aside0.mk HN; clear HN)
    | (refine bk_slice (by rfl) (by rfl) (by repeat (first | exact HM.out | apply Blks.drewN | apply Blks.drew | apply Blks.other)) Tryz.underlying236 (by rw [Array.toList_map]; exact bs_one _ rfl) ?_; intro _ _ HN; clear HM; have HM := Aside0.mk HN; clear HN))
  go_ret2
  exact ⟨_, rfl, Blks.row HM.out (List.Mem.head _) rfl (by unfold maxLen; omega), HM.out.bel⟩
end Go.Proofs.YtgoeiflddikihaaGreatDoor.Ver
end
