/- Merged by program out of: VSemC, Piece, Rm, AwakeA. -/
import Derived.Test.YtgoeiflddikihaaGreatDoorCvM18
import Derived.Test.YtgoeiflddikihaaGreatDoorCvM15
import Derived.Lib.QuietBelow
import Derived.RegionTactic
import Derived.BigRegion
import Derived.WalkLawsBesides
import Derived.Test.YtgoeiflddikihaaGreatDoorCvM17
import Derived.Laws.OwnMore
import Derived.Laws.Tables
import Derived.Laws.CopyOwn
import Derived.Deep.MidRow
section
namespace Go.Proofs.YtgoeiflddikihaaGreatDoor.Ver
open Go.RowKit Go.Proofs.YtgoeiflddikihaaGreatDoorW.PrintWords Go.Proofs.YtgoeiflddikihaaGreatDoor.Ord
set_option maxHeartbeats 2000000 in
theorem less_any (v u : SV) (hv : v.pre.size ≤ 140737488351232) (hu : u.pre.size ≤ 140737488351232) (w : World) :
    Calls Tryz.prog 207 #[.agg v.cells, .agg u.cells] w fun e w' => e = .returned (.bool (decide (cmpV v u < 0))) ∧ Below w.heap.size w w' := by
  have HC := Lib.hid (fun W => cmp_any v u hv hu W)
  have HB := Aside0.mk (Below.refl w.heap.size w)
  generalize cmpV v u = c at *
  obtain ⟨va, vb, vc, vp, vm, vo⟩ := v
  obtain ⟨ua, ub, uc, up, um, uo⟩ := u
  dsimp only [SV.cells] at HC hv hu ⊢
  go_enter Tryz.func207, Tryz.ntmps207
  go_wp2_with (first
    | (go_at_call 209; ((with_reducible refine (HC.out _).mono ?_); rintro e w1 ⟨rfl, hb⟩; have HB5 := Aside0.mk (below_trans (by repeat (first | exact HB.out | apply below_alloc | apply pw_below_drewN)) hb); clear hb)))
  go_ret
  exact ⟨rfl, by repeat (first | exact HB5.out | apply below_alloc | apply pw_below_drewN)⟩
set_option maxHeartbeats 2000000 in
theorem more_any (v u : SV) (hv : v.pre.size ≤ 140737488351232) (hu : u.pre.size ≤ 140737488351232) (w : World) :
    Calls Tryz.prog 208 #[.agg v.cells, .agg u.cells] w fun e w' => e = .returned (.bool (decide (cmpV v u > 0))) ∧ Below w.heap.size w w' := by
  have HC := Lib.hid (fun W => cmp_any v u hv hu W)
  have HB := Aside0.mk (Below.refl w.heap.size w)
  generalize cmpV v u = c at *
  obtain ⟨va, vb, vc, vp, vm, vo⟩ := v
  obtain ⟨ua, ub, uc, up, um, uo⟩ := u
  dsimp only [SV.cells] at HC hv hu ⊢
  go_enter Tryz.func208, Tryz.ntmps208
  go_wp2_with (first
    | (go_at_call 209; ((with_reducible refine (HC.out _).mono ?_); rintro e w1 ⟨rfl, hb⟩; have HB5 := Aside0.mk (below_trans (by repeat (first | exact HB.out | apply below_alloc | apply pw_below_drewN)) hb); clear hb)))
  go_ret
  exact ⟨rfl, by repeat (first | exact HB5.out | apply below_alloc | apply pw_below_drewN)⟩
theorem prerel_any (v : SV) (w : World) :
    Calls Tryz.prog 206 #[.agg v.cells] w fun e w' => e = .returned (.string v.pre) ∧ Below w.heap.size w w' := by
  have HB := Aside0.mk (Below.refl w.heap.size w)
  obtain ⟨va, vb, vc, vp, vm, vo⟩ := v
  dsimp only [SV.cells]
  go_enter Tryz.func206, Tryz.ntmps206
  go_wp2_with fail
  go_ret
  exact ⟨rfl, by repeat (first | exact HB.out | apply below_alloc | apply pw_below_drewN)⟩
end Go.Proofs.YtgoeiflddikihaaGreatDoor.Ver
end
section
namespace Go.Proofs.YtgoeiflddikihaaGreatDoor.Ver
set_option linter.unusedSimpArgs false
open Go.RowKit Go.Proofs.YtgoeiflddikihaaGreatDoorW.PrintWords Go.Proofs.YtgoeiflddikihaaGreatDoor.Ord
theorem at_second (w : World) (a b : Obj) : ((w.alloc a).alloc b).heap[w.heap.size + 1]? = some b := by
  have := alloc_at (w.alloc a) b
  rw [alloc_size] at this
  exact this
def pcs (lo hi : SV) (a b c d : Bool) : Array Value := #[.int .u64 lo.major, .int .u64 lo.minor, .int .u64 lo.patch, .string lo.pre, .string lo.mt, .string lo.orig, .int .u64 hi.major, .int .u64 hi.minor, .int .u64 hi.patch, .string hi.pre, .string hi.mt, .string hi.orig, .bool a, .bool b, .bool c, .bool d, .slice none 0 0]
abbrev bP (la lb lc : Int) (lp lm lo : ByteArray) (ha hb hc : Int) (hp hm ho : ByteArray) (a b c d : Bool) : Obj := .cells #[.int .u64 la, .int .u64 lb, .int .u64 lc, .string lp, .string lm, .string lo, .int .u64 ha, .int .u64 hb, .int .u64 hc, .string hp, .string hm, .string ho, .bool a, .bool b, .bool c, .bool d, .slice none 0 0] 242 (0, 0)
set_option maxRecDepth 20000 in
set_option maxHeartbeats 2000000 in
theorem has_in (lo hi v : SV) (hl : lo.pre.size ≤ 140737488351232) (hh : hi.pre.size ≤ 140737488351232) (hv : v.pre.size ≤ 140737488351232) (c1 : cmpV v lo = 1) (c2 : cmpV v hi = -1) (d : Bool) (w : World) :
    Calls Tryz.prog 300 #[.agg (pcs lo hi true true true d), .agg v.cells] w fun e w' => e = .returned (.bool true) ∧ Below w.heap.size w w' := by
  have HC1 := Lib.hid (fun W => cmp_any v lo hv hl W)
  have HC2 := Lib.hid (fun W => cmp_any v hi hv hh W)
  rw [c1] at HC1
  rw [c2] at HC2
  clear c1 c2
  have HB := Aside0.mk (Below.refl w.heap.size w)
  obtain ⟨la, lb, lc, lp, lm, lo'⟩ := lo
  obtain ⟨ha, hb', hc, hp, hm, ho⟩ := hi
  obtain ⟨va, vb, vc, vp, vm, vo⟩ := v
  dsimp only [SV.cells, pcs] at HC1 HC2 hl hh hv ⊢
  have KP := Aside0.mk (blk_alloc (alloc_at w (bP la lb lc lp lm lo' ha hb' hc hp hm ho true true true d)) (bSV va vb vc vp vm vo))
  have KV := Aside0.mk (at_second w (bP la lb lc lp lm lo' ha hb' hc hp hm ho true true true d) (bSV va vb vc vp vm vo))
  go_enter Tryz.func300, Tryz.ntmps300
  go_wp2_with (first
    | (go_at_call 209; ((with_reducible refine (HC1.out _).mono ?_); rintro e w1 ⟨rfl, hb1⟩; refine Hid.out ?_)))
  have KP1 := Aside0.mk (blk_below KP.out hb1)
  have KV1 := Aside0.mk (blk_below KV.out hb1)
  have HB4 := Aside0.mk (below_trans (by repeat (first | exact HB.out | apply below_alloc | apply pw_below_drewN)) hb1)
  clear hb1
  have p0 := blk_cell KP1.out 0
  have p1 := blk_cell KP1.out 1
  have p2 := blk_cell KP1.out 2
  have p3 := blk_cell KP1.out 3
  have p4 := blk_cell KP1.out 4
  have p5 := blk_cell KP1.out 5
  have p6 := blk_cell KP1.out 6
  have p7 := blk_cell KP1.out 7
  have p8 := blk_cell KP1.out 8
  have p9 := blk_cell KP1.out 9
  have p10 := blk_cell KP1.out 10
  have p11 := blk_cell KP1.out 11
  have p12 := blk_cell KP1.out 12
  have p13 := blk_cell KP1.out 13
  have p14 := blk_cell KP1.out 14
  have p15 := blk_cell KP1.out 15
  have p16 := blk_cell KP1.out 16
  have q0 := blk_cell KV1.out 0
  have q1 := blk_cell KV1.out 1
  have q2 := blk_cell KV1.out 2
  have q3 := blk_cell KV1.out 3
  have q4 := blk_cell KV1.out 4
  have q5 := blk_cell KV1.out 5
  refine Lib.hid ?_
  go_wp2_with (first
    | (go_at_call 209; ((with_reducible refine (HC2.out _).mono ?_); rintro e w2 ⟨rfl, hb2⟩; refine Hid.out ?_)))
  clear p0 p1 p2 p3 p4 p5 p6 p7 p8 p9 p10 p11 p12 p13 p14 p15 p16
  clear q0 q1 q2 q3 q4 q5
  have KP2 := Aside0.mk (blk_below KP1.out hb2)
  have HB5 := Aside0.mk (below_trans HB4.out hb2)
  clear hb2
  have p0 := blk_cell KP2.out 0
  have p1 := blk_cell KP2.out 1
  have p2 := blk_cell KP2.out 2
  have p3 := blk_cell KP2.out 3
  have p4 := blk_cell KP2.out 4
  have p5 := blk_cell KP2.out 5
  have p6 := blk_cell KP2.out 6
  have p7 := blk_cell KP2.out 7
  have p8 := blk_cell KP2.out 8
  have p9 := blk_cell KP2.out 9
  have p10 := blk_cell KP2.out 10
  have p11 := blk_cell KP2.out 11
  have p12 := blk_cell KP2.out 12
  have p13 := blk_cell KP2.out 13
  have p14 := blk_cell KP2.out 14
  have p15 := blk_cell KP2.out 15
  have p16 := blk_cell KP2.out 16
  refine Lib.hid ?_
  go_wp2_with fail
  refine wp_loop_rounds 1 ?_
  rw [rounds_succ]
  go_wp2_with fail
  go_ret
  exact ⟨rfl, by repeat (first | exact HB5.out | apply below_alloc | apply pw_below_drewN)⟩
set_option maxRecDepth 20000 in
set_option maxHeartbeats 2000000 in
theorem empty_in (lo hi : SV) (hl : lo.pre.size ≤ 140737488351232) (hh : hi.pre.size ≤ 140737488351232) (c1 : cmpV lo hi = -1) (c d : Bool) (w : World) :
    Calls Tryz.prog 299 #[.agg (pcs lo hi true true c d)] w fun e w' => e = .returned (.bool false) ∧ Below w.heap.size w w' := by
  have HC1 := Lib.hid (fun W => cmp_any lo hi hl hh W)
  rw [c1] at HC1
  clear c1
  have HB := Aside0.mk (Below.refl w.heap.size w)
  obtain ⟨la, lb, lc, lp, lm, lo'⟩ := lo
  obtain ⟨ha, hb', hc, hp, hm, ho⟩ := hi
  dsimp only [SV.cells, pcs] at HC1 hl hh ⊢
  go_enter Tryz.func299, Tryz.ntmps299
  go_wp2_with (first
    | (go_at_call 209; ((with_reducible refine (HC1.out _).mono ?_); rintro e w1 ⟨rfl, hb1⟩; have HB5 := Aside0.mk (below_trans (by repeat (first | exact HB.out | apply below_alloc | apply pw_below_drewN)) hb1); clear hb1)))
  go_ret
  exact ⟨rfl, by repeat (first | exact HB5.out | apply below_alloc | apply pw_below_drewN)⟩
end Go.Proofs.YtgoeiflddikihaaGreatDoor.Ver
end
section
namespace Go.Proofs.YtgoeiflddikihaaGreatDoor.Ver
set_option linter.unusedSimpArgs false
open Go.RowKit Go.Proofs.YtgoeiflddikihaaGreatDoorW.PrintWords Go.Proofs.YtgoeiflddikihaaGreatDoor.Ord
structure Pcell (cs : Array Value) : Prop where
  size : cs.size = 17
  one : cs.all (·.oneCell') = true
theorem sizeP : (Tryz.prog.info? 242).map (·.size) = some 17 := by kernel_rfl
theorem Pcell.info {cs : Array Value} (h : Pcell cs) : (Tryz.prog.info? 242).map (·.size) = some cs.size := by rw [h.size]; exact sizeP
abbrev zP : Array Value := #[.int .u64 0, .int .u64 0, .int .u64 0, .string ⟨#[]⟩, .string ⟨#[]⟩, .string ⟨#[]⟩, .int .u64 0, .int .u64 0, .int .u64 0, .string ⟨#[]⟩, .string ⟨#[]⟩, .string ⟨#[]⟩, .bool false, .bool false, .bool false, .bool false, .slice none 0 0]
theorem pcell_pcs (lo hi : SV) (a b c d : Bool) : Pcell (pcs lo hi a b c d) := ⟨rfl, by simp [pcs, Value.oneCell']⟩
theorem pcell_z : Pcell zP := ⟨rfl, by simp [Value.oneCell']⟩
theorem row_range {w : World} {base n cap g : Nat} {cs : Array Value} (h : w.ownsRow base 242 17 (.slice (some ⟨g, 0, none⟩) n cap) n cs.toList) (hn : cs.size = n * 17) : w.rangeAt g 0 cs.toList := by
  intro j v hv
  have hj : j < cs.size := by
    have := (List.getElem?_eq_some_iff.1 hv).1
    simpa using this
  rw [Nat.zero_add, h.cellAt j (by omega)]
  exact hv
theorem at_third' (w : World) (a b c : Obj) : (((w.alloc a).alloc b).alloc c).heap[w.heap.size + 1 + 1]? = some c := by
  have := alloc_at ((w.alloc a).alloc b) c
  rw [alloc_size, alloc_size] at this
  exact this
set_option maxRecDepth 20000 in
set_option maxHeartbeats 2000000 in
theorem range_in (cs : Array Value) (hcs : Pcell cs) (v : SV) (base : Nat) (rv : Value) (w : World) (hown : w.ownsRow base 242 17 rv 1 cs.toList)
    (hhas : ∀ W, Calls Tryz.prog 300 #[.agg cs, .agg v.cells] W fun e w' => e = .returned (.bool true) ∧ Below W.heap.size W w') :
    Calls Tryz.prog 296 #[.agg #[rv], .agg v.cells] w fun e w' => e = .returned .nilIface ∧ Below w.heap.size w w' := by
  have HH := Lib.hid hhas
  have HB := Aside0.mk (Below.refl w.heap.size w)
  obtain ⟨g, cap, rfl, hg1, hg2⟩ := hown.form (by omega)
  have HR := Aside0.mk (row_range hown (by rw [hcs.size]))
  have HS := Aside0.mk hcs
  obtain ⟨va, vb, vc, vp, vm, vo⟩ := v
  dsimp only [SV.cells] at HH ⊢
  clear hown hg1 hhas hcs
  go_enter Tryz.func296, Tryz.ntmps296
  go_wp2_with fail
  refine wp_loop_rounds 1 ?_
  rw [rounds_succ]
  have W1 := Aside0.mk (below_alloc (below_alloc HB.out (.cells #[.slice (some ⟨g, 0, none⟩) 1 cap] 238)) (bSV va vb vc vp vm vo))
  have R1 := Aside0.mk (show ((w.alloc (.cells #[.slice (some ⟨g, 0, none⟩) 1 cap] 238)).alloc (bSV va vb vc vp vm vo)).rangeAt g 0 cs.toList from fun j x hx => (W1.out.cell (p := ⟨g, 0 + j, none⟩) hg2).trans (HR.out j x hx))
  have S1 := Lib.hid (show zP.size = cs.size by rw [HS.out.size]; rfl)
  have K6 := Aside0.mk (setRow_heap _ _ _ cs _ _ (at_third' w (.cells #[.slice (some ⟨g, 0, none⟩) 1 cap] 238) (bSV va vb vc vp vm vo) (.cells zP 242)))
  have K3 := Aside0.mk ((setRow_other (((w.alloc (.cells #[.slice (some ⟨g, 0, none⟩) 1 cap] 238)).alloc (bSV va vb vc vp vm vo)).alloc (.cells zP 242)) (w.heap.size + 1 + 1) (w.heap.size + 1) cs (by omega)).trans (blk_alloc (at_second w (.cells #[.slice (some ⟨g, 0, none⟩) 1 cap] 238) (bSV va vb vc vp vm vo)) _))
  have B5 := Aside0.mk (below_setRow (below_alloc W1.out (.cells zP 242)) (g := w.heap.size + 1 + 1) (by omega) cs)
  have HW5 : ∃ W5, W5 = ((((w.alloc (.cells #[.slice (some ⟨g, 0, none⟩) 1 cap] 238)).alloc (bSV va vb vc vp vm vo)).alloc (.cells zP 242)).setRow (w.heap.size + 1 + 1) cs) := ⟨_, rfl⟩
  obtain ⟨W5, hW5⟩ := HW5
  rw [← hW5] at K6 K3 B5
  have HW := Lib.hid hW5
  clear hW5
  go_wp2_with (first
    | (refine wpList_load_mid rfl 242 (.tmp 12) rfl g 0 rfl cs.toList _ R1.out Tryz.underlying242 rfl (by simpa using HS.out.info) ?_)
    | (refine wpList_store_row (by rfl) 242 (.tmp 6) (.tmp 13) (by rfl) (w.heap.size + 1 + 1) cs (by rfl) (by rfl) 242 zP (at_third' w _ _ _) HS.out.info S1.out HS.out.one ?_; rw [← HW.out])
    | (refine wpList_load_row (by rfl) 242 (.tmp 6) (by rfl) (w.heap.size + 1 + 1) (by rfl) 242 cs (0, 0) _ K6.out Tryz.underlying242 rfl HS.out.info ?_)
    | (refine wpList_load_row (by rfl) 197 (.tmp 3) (by rfl) (w.heap.size + 1) (by rfl) 197 #[.int .u64 va, .int .u64 vb, .int .u64 vc, .string vp, .string vm, .string vo] (0, 0) _ K3.out Tryz.underlying197 rfl (by kernel_rfl) ?_)
    | (go_at_call 300; ((with_reducible refine (HH.out _).mono ?_); rintro e w9 ⟨rfl, hb1⟩; have HB9 := Aside0.mk (below_trans B5.out hb1); clear hb1)))
  go_ret
  exact ⟨rfl, HB9.out⟩
end Go.Proofs.YtgoeiflddikihaaGreatDoor.Ver
end
section
namespace Go.Proofs.YtgoeiflddikihaaGreatDoor.Ver
set_option linter.unusedSimpArgs false
open Go.RowKit Go.Proofs.YtgoeiflddikihaaGreatDoor.Dig Go.Proofs.YtgoeiflddikihaaGreatDoorW.PrintWords
abbrev t120 : ByteArray := ⟨#[49, 46, 50, 46, 48]⟩
def v120 : SV := ⟨1, 2, 0, ⟨#[]⟩, ⟨#[]⟩, t120⟩
theorem read120 : readV t120 = some (v120, 3) := by kernel_rfl
set_option maxRecDepth 20000 in
set_option maxHeartbeats 2000000 in
theorem partial120 (w : World) (hv : Vars w) : Calls Tryz.prog 150 #[.string t120] w fun e w' => e = .returned (.tuple #[.agg v120.cells, .int .i64 3, .nilIface]) ∧ Below w.heap.size w w' := by
  have HR := Lib.hid (fun W hb => read_any t120 (by decide) W (Vars.below (w := w) hv hb))
  have HB := Aside0.mk (Below.refl w.heap.size w)
  clear hv
  go_enter Tryz.func150, Tryz.ntmps150
  go_wp2_with fail
  refine wp_loop_rounds 1 ?_
  rw [rounds_succ]
  go_wp2_with (first
    | (go_at_call 143; ((with_reducible refine (HR.out _ (by repeat (first | exact HB.out | apply below_alloc | apply pw_below_drewN))).mono ?_); rintro e w5 ⟨hb, hm⟩; rw [read120] at hm; obtain rfl := hm; refine Hid.out ?_)))
  have KR := Aside0.mk (blk_below (alloc_at w (.cells zSV 197)) hb)
  have B5 := Aside0.mk (below_trans (by repeat (first | exact HB.out | apply below_alloc | apply pw_below_drewN)) hb)
  have KF := Aside0.mk (setRow_heap _ _ _ #[.int .u64 1, .int .u64 2, .int .u64 0, .string ⟨#[]⟩, .string ⟨#[]⟩, .string t120] _ _ KR.out)
  have BF := Aside0.mk (below_setRow B5.out (g := w.heap.size) (Nat.le_refl _) #[.int .u64 1, .int .u64 2, .int .u64 0, .string ⟨#[]⟩, .string ⟨#[]⟩, .string t120])
  clear hb
  dsimp only [v120, SV.cells]
  refine Lib.hid ?_
  go_wp2_with (refine wpList_store_row (by rfl) 197 (.tmp 2) (.tmp 74) (by rfl) w.heap.size #[.int .u64 1, .int .u64 2, .int .u64 0, .string ⟨#[]⟩, .string ⟨#[]⟩, .string t120] (by rfl) (by rfl) 197 zSV KR.out (by kernel_rfl) rfl (by simp [Value.oneCell']) ?_)
  refine bodyPost_ret (results_ctt rfl _ _ w.heap.size 197 #[.int .u64 1, .int .u64 2, .int .u64 0, .string ⟨#[]⟩, .string ⟨#[]⟩, .string t120] (0, 0) _ rfl KF.out Tryz.underlying197 rfl (by kernel_rfl)) rfl ⟨rfl, BF.out⟩
end Go.Proofs.YtgoeiflddikihaaGreatDoor.Ver
end
