/- Merged by program out of: AwakeA, Ri, Both. -/
import Derived.Test.YtgoeiflddikihaaGreatDoorCpM16
import Derived.Test.YtgoeiflddikihaaGreatDoorCpM21
import Derived.Great.BuildSlice
section
namespace Go.Proofs.YtgoeiflddikihaaGreatDoor.Ver
set_option linter.unusedSimpArgs false
open Go.RowKit Go.Proofs.YtgoeiflddikihaaGreatDoor.Dig Go.Proofs.YtgoeiflddikihaaGreatDoorW.PrintWords
abbrev t120 : ByteArray := ⟨#[49, 46, 50, 46, 48]⟩
def v120 : SV := ⟨1, 2, 0, ⟨#[]⟩, ⟨#[]⟩, t120⟩
theorem read120 : readV t120 = some (v120, 3) := by kernel_rfl
set_option maxRecDepth 20000 in
set_option maxHeartbeats 2000000 in
theorem partial120 (w : World) (hv : Vars w) : Calls Tryz.prog 150 #[.string t120] w fun e w' => e = .returned (.tuple #[.agg v120.cells, .int .i64 3, .nilIface]) ∧ Below w.heap.size w w' := by
  have HR := Lib.hid (fun W hb => read_any t120 (by decide) W (Vars.below (w := w) hv hb))
  have HB := Aside0.mk (Below.refl w.heap.size w)
  clear hv
  go_enter Tryz.func150, Tryz.ntmps150
  go_wp2_with fail
  refine wp_loop_rounds 1 ?_
  rw [rounds_succ]
  go_wp2_with (first
    | (go_at_call 143; ((with_reducible refine (HR.out _ (by repeat (first | exact HB.out | apply below_alloc | apply pw_below_drewN))).mono ?_); rintro e w5 ⟨hb, hm⟩; rw [read120] at hm; obtain rfl := hm; refine Hid.out ?_)))
  have KR := Aside0.mk (blk_below (alloc_at w (.cells zSV 197)) hb)
  have B5 := Aside0.mk (below_trans (by repeat (first | exact HB.out | apply below_alloc | apply pw_below_drewN)) hb)
  have KF := Aside0.mk (setRow_heap _ _ _ #[.int .u64 1, .int .u64 2, .int .u64 0, .string ⟨#[]⟩, .string ⟨#[]⟩, .string t120] _ _ KR.out)
  have BF := Aside0.mk (below_setRow B5.out (g := w.heap.size) (Nat.le_refl _) #[.int .u64 1, .int .u64 2, .int .u64 0, .string ⟨#[]⟩, .string ⟨#[]⟩, .string t120])
  clear hb
  dsimp only [v120, SV.cells]
  refine Lib.hid ?_
  go_wp2_with (refine wpList_store_row (by rfl) 197 (.tmp 2) (.tmp 74) (by rfl) w.heap.size #[.int .u64 1, .int .u64 2, .int .u64 0, .string ⟨#[]⟩, .string ⟨#[]⟩, .string t120] (by rfl) (by rfl) 197 zSV KR.out (by kernel_rfl) rfl (by simp [Value.oneCell']) ?_)
  refine bodyPost_ret (results_ctt rfl _ _ w.heap.size 197 #[.int .u64 1, .int .u64 2, .int .u64 0, .string ⟨#[]⟩, .string ⟨#[]⟩, .string t120] (0, 0) _ rfl KF.out Tryz.underlying197 rfl (by kernel_rfl)) rfl ⟨rfl, BF.out⟩
end Go.Proofs.YtgoeiflddikihaaGreatDoor.Ver
end
section
namespace Go.Proofs.YtgoeiflddikihaaGreatDoor.Ver
set_option linter.unusedSimpArgs false
open Go.RowKit Go.Proofs.YtgoeiflddikihaaGreatDoorW.PrintWords Go.Proofs.YtgoeiflddikihaaGreatDoor.Ord
theorem foldl_set : ∀ (l : List Value) (k : Nat) (z : Array Value), k + l.length ≤ z.size →
    ((l.zipIdx k).foldl (fun acc x => acc.setIfInBounds (0 + x.2) x.1) z).toList = z.toList.take k ++ l ++ z.toList.drop (k + l.length)
  | [], k, z, _ => by simp
  | c :: l, k, z, h => by
    have h' : k + 1 + l.length ≤ (z.setIfInBounds (0 + k) c).size := by simp only [List.length_cons] at h; simp; omega
    have hk : k < z.toList.length := by simp only [List.length_cons] at h; simp; omega
    rw [List.zipIdx_cons, List.foldl_cons, foldl_set l (k + 1) _ h']
    simp only [Array.toList_setIfInBounds, Nat.zero_add, List.length_cons]
    rw [List.take_set, List.drop_set_of_lt (by omega), List.take_succ_eq_append_getElem hk, List.set_append_right _ _ (by simp; omega)]
    have e : k - (List.take k z.toList).length = 0 := by rw [List.length_take]; omega
    rw [e]
    simp [Nat.add_assoc, Nat.add_comm 1]
theorem fill_one (cs z : Array Value) (h : cs.size = 17) (hz : z.size = 17) : Instr.fill (fun i => some (i * 17, 17)) z [(0, .agg cs)] = some cs := by
  have hf := foldl_set cs.toList 0 z (by simp; omega)
  simp only [List.take_zero, List.nil_append, Nat.zero_add, Array.length_toList] at hf
  rw [h, ← hz, ← Array.length_toList, List.drop_length, List.append_nil] at hf
  unfold Instr.fill
  simp only [Value.cells, h, Nat.zero_mul]
  rw [if_neg (by simp [hz])]
  unfold Instr.fill
  congr 1
  apply Array.ext'
  rw [← Array.foldl_toList, Array.toList_zipIdx]
  simp only [Nat.zero_add]
  exact hf
theorem cells_newA (w : World) (cs : Array Value) (t : TypeId) : ∀ (j : Nat) (u : Value), cs.toList[j]? = some u → (w.alloc (.cells cs t)).cell? ((⟨w.heap.size, 0, none⟩ : Addr).add j) = some u := by
  intro j u h
  have e : ((⟨w.heap.size, 0, none⟩ : Addr).add j) = ⟨w.heap.size, j, none⟩ := by unfold Addr.add; split <;> simp_all
  rw [e, blk_cell (alloc_at w _) j, ← Array.getElem?_toList]
  exact h
theorem infoP : (Tryz.prog.info? 242).map (fun i => (i.zero, i.size, i.bytes)) = some (some (.agg zP), 17, 176) := by kernel_rfl
set_option maxRecDepth 20000 in
set_option maxHeartbeats 4000000 in
theorem isect_one (p q s : Array Value) (hp : Pcell p) (hq : Pcell q) (hs : Pcell s) (base : Nat) (r1 r2 : Value) (w : World) (ho1 : w.ownsRow base 242 17 r1 1 p.toList) (ho2 : w.ownsRow base 242 17 r2 1 q.toList)
    (hboth : ∀ W, Calls Tryz.prog 298 #[.agg p, .agg q] W fun e w' => e = .returned (.agg s) ∧ Below W.heap.size W w')
    (hempty : ∀ W, Calls Tryz.prog 299 #[.agg s] W fun e w' => e = .returned (.bool false) ∧ Below W.heap.size W w') :
    Calls Tryz.prog 295 #[.agg #[r1], .iface 238 (.agg #[r2])] w fun e w' => ∃ r3, e = .returned (.iface 238 (.agg #[r3])) ∧ w'.ownsRow w.heap.size 242 17 r3 1 s.toList ∧ Below w.heap.size w w' := by
  have HBO := Lib.hid hboth
  have HE := Lib.hid hempty
  have HB := Aside0.mk (Below.refl w.heap.size w)
  have SP := Aside0.mk hp
  have SQ := Aside0.mk hq
  have SS := Aside0.mk hs
  obtain ⟨g1, cap1, rfl, _, hg1⟩ := ho1.form (by omega)
  obtain ⟨g2, cap2, rfl, _, hg2⟩ := ho2.form (by omega)
  have HR1 := Aside0.mk (row_range ho1 (by rw [hp.size]))
  have HR2 := Aside0.mk (row_range ho2 (by rw [hq.size]))
  have f1 := c_range_sv
  have f2 := c_range_range
  clear ho1 ho2 hboth hempty hp hq hs
  go_enter Tryz.func295, Tryz.ntmps295
  go_wp2_with fail
  have KA0 := Aside0.mk (blk_alloc (blk_alloc (alloc_at w (.cells #[.slice (some ⟨g1, 0, none⟩) 1 cap1] 238)) (.cells #[.slice (some ⟨g2, 0, none⟩) 1 cap2] 238)) (.cells #[.slice none 0 0] 238))
  have KA1 := Aside0.mk (blk_alloc (at_second w (.cells #[.slice (some ⟨g1, 0, none⟩) 1 cap1] 238) (.cells #[.slice (some ⟨g2, 0, none⟩) 1 cap2] 238)) (.cells #[.slice none 0 0] 238))
  have KA2 := Aside0.mk (at_third' w (.cells #[.slice (some ⟨g1, 0, none⟩) 1 cap1] 238) (.cells #[.slice (some ⟨g2, 0, none⟩) 1 cap2] 238) (.cells #[.slice none 0 0] 238))
  have BA := Aside0.mk (below_alloc (below_alloc (below_alloc HB.out (.cells #[.slice (some ⟨g1, 0, none⟩) 1 cap1] 238)) (.cells #[.slice (some ⟨g2, 0, none⟩) 1 cap2] 238)) (.cells #[.slice none 0 0] 238))
  obtain ⟨WA, hWA⟩ : ∃ W, W = ((w.alloc (.cells #[.slice (some ⟨g1, 0, none⟩) 1 cap1] 238)).alloc (.cells #[.slice (some ⟨g2, 0, none⟩) 1 cap2] 238)).alloc (.cells #[.slice none 0 0] 238) := ⟨_, rfl⟩
  rw [← hWA] at KA0 KA1 KA2 BA ⊢
  have NA := Lib.hid (show WA.heap.size = w.heap.size + 1 + 1 + 1 by rw [hWA, alloc_size, alloc_size, alloc_size])
  clear hWA
  have RA1 := Aside0.mk (show WA.rangeAt g1 0 p.toList from fun j x hx => (BA.out.cell (p := ⟨g1, 0 + j, none⟩) hg1).trans (HR1.out j x hx))
  have SP1 := Lib.hid (show zP.size = p.size by rw [SP.out.size]; rfl)
  have SQ1 := Lib.hid (show zP.size = q.size by rw [SQ.out.size]; rfl)
  have SS1 := Lib.hid (show zP.size = s.size by rw [SS.out.size]; rfl)
  have KB9 := Aside0.mk (setRow_heap _ _ _ p _ _ (alloc_at WA (.cells zP 242)))
  have BB := Aside0.mk (below_setRow (below_alloc BA.out (.cells zP 242)) (g := WA.heap.size) BA.out.size p)
  have KB1 := Aside0.mk ((setRow_other (WA.alloc (.cells zP 242)) WA.heap.size (w.heap.size + 1) p (by rw [NA.out]; omega)).trans (blk_alloc KA1.out _))
  have KB2 := Aside0.mk ((setRow_other (WA.alloc (.cells zP 242)) WA.heap.size (w.heap.size + 1 + 1) p (by rw [NA.out]; omega)).trans (blk_alloc KA2.out _))
  have hWB : ∃ W, W = (WA.alloc (.cells zP 242)).setRow WA.heap.size p := ⟨_, rfl⟩
  obtain ⟨WB, hWB⟩ := hWB
  rw [← hWB] at KB9 BB KB1 KB2
  have HWB := Lib.hid hWB
  have NB := Lib.hid (show WB.heap.size = WA.heap.size + 1 by rw [hWB, setRow_size, alloc_size])
  clear hWB
  have cb := blk_cell KB1.out 0
  refine wp_loop_rounds 2 ?_
  rw [rounds_succ]
  go_wp2_with (first
    | (refine wpList_load_mid rfl 242 (.tmp 29) rfl g1 0 rfl p.toList _ RA1.out Tryz.underlying242 rfl (by simpa using SP.out.info) ?_)
    | (refine wpList_store_row (by rfl) 242 (.tmp 9) (.tmp 30) (by rfl) WA.heap.size p (by rfl) (by rfl) 242 zP (alloc_at WA _) SP.out.info SP1.out SP.out.one ?_; rw [← HWB.out]))
  have RB2 := Aside0.mk (show WB.rangeAt g2 0 q.toList from fun j x hx => (BB.out.cell (p := ⟨g2, 0 + j, none⟩) hg2).trans (HR2.out j x hx))
  have KC11 := Aside0.mk (setRow_heap _ _ _ q _ _ (alloc_at WB (.cells zP 242)))
  have BC := Aside0.mk (below_setRow (below_alloc BB.out (.cells zP 242)) (g := WB.heap.size) BB.out.size q)
  have KC2 := Aside0.mk ((setRow_other (WB.alloc (.cells zP 242)) WB.heap.size (w.heap.size + 1 + 1) q (by rw [NB.out, NA.out]; omega)).trans (blk_alloc KB2.out _))
  have KC9 := Aside0.mk ((setRow_other (WB.alloc (.cells zP 242)) WB.heap.size WA.heap.size q (by rw [NB.out]; omega)).trans (blk_alloc KB9.out _))
  have hWC : ∃ W, W = (WB.alloc (.cells zP 242)).setRow WB.heap.size q := ⟨_, rfl⟩
  obtain ⟨WC, hWC⟩ := hWC
  rw [← hWC] at KC11 BC KC2 KC9
  have HWC := Lib.hid hWC
  clear hWC cb
  refine wp_loop_rounds 2 ?_
  rw [rounds_succ]
  go_wp2_with (first
    | (refine wpList_load_mid rfl 242 (.tmp 36) rfl g2 0 rfl q.toList _ RB2.out Tryz.underlying242 rfl (by simpa using SQ.out.info) ?_)
    | (refine wpList_store_row (by rfl) 242 (.tmp 11) (.tmp 37) (by rfl) WB.heap.size q (by rfl) (by rfl) 242 zP (alloc_at WB _) SQ.out.info SQ1.out SQ.out.one ?_; rw [← HWC.out])
    | (refine wpList_load_row (by rfl) 242 (.tmp 9) (by rfl) WA.heap.size (by rfl) 242 p (0, 0) _ KC9.out Tryz.underlying242 rfl SP.out.info ?_)
    | (refine wpList_load_row (by rfl) 242 (.tmp 11) (by rfl) WB.heap.size (by rfl) 242 q (0, 0) _ KC11.out Tryz.underlying242 rfl SQ.out.info ?_)
    | (go_at_call 298; ((with_reducible refine (HBO.out _).mono ?_); rintro e w1 ⟨rfl, hb1⟩; refine Hid.out ?_)))
  have B1 := Aside0.mk (below_trans BC.out hb1)
  have K12 := Aside0.mk (blk_below KC2.out hb1)
  clear hb1
  have KD12 := Aside0.mk (setRow_heap _ _ _ s _ _ (alloc_at w1 (.cells zP 242)))
  have BD := Aside0.mk (below_setRow (below_alloc B1.out (.cells zP 242)) (g := w1.heap.size) B1.out.size s)
  have KD2 := Aside0.mk ((setRow_other (w1.alloc (.cells zP 242)) w1.heap.size (w.heap.size + 1 + 1) s (Nat.ne_of_lt (blk_lt K12.out))).trans (blk_alloc K12.out _))
  have hWD : ∃ W, W = (w1.alloc (.cells zP 242)).setRow w1.heap.size s := ⟨_, rfl⟩
  obtain ⟨WD, hWD⟩ := hWD
  rw [← hWD] at KD12 BD KD2
  have HWD := Lib.hid hWD
  clear hWD
  refine Lib.hid ?_
  go_wp2_with (first
    | (refine wpList_store_row (by rfl) 242 (.tmp 12) (.tmp 40) (by rfl) w1.heap.size s (by rfl) (by rfl) 242 zP (alloc_at w1 _) SS.out.info SS1.out SS.out.one ?_; rw [← HWD.out])
    | (refine wpList_load_row (by rfl) 242 (.tmp 12) (by rfl) w1.heap.size (by rfl) 242 s (0, 0) _ KD12.out Tryz.underlying242 rfl SS.out.info ?_)
    | (go_at_call 299; ((with_reducible refine (HE.out _).mono ?_); rintro e w2 ⟨rfl, hb1⟩; refine Hid.out ?_)))
  have BE := Aside0.mk (below_trans BD.out hb1)
  have KE2 := Aside0.mk (blk_below KD2.out hb1)
  have KE12 := Aside0.mk (blk_below KD12.out hb1)
  have e2 := blk_cell KE2.out 0
  clear hb1
  obtain ⟨iv, hvi, hvz0, hvz1, hvz2⟩ := info_parts infoP
  have HFL := Lib.hid (fun z hz => fill_one s z SS.out.size hz)
  refine Lib.hid ?_
  go_wp2_with (first
    | (refine wpList_load_row (by rfl) 242 (.tmp 12) (by rfl) w1.heap.size (by rfl) 242 s (0, 0) _ KE12.out Tryz.underlying242 rfl SS.out.info ?_)
    | (refine wpList_buildSlice (by rfl) 236 242 1 #[(0, .tmp 46)] (by rfl) s iv (.agg zP) Tryz.underlying236 hvi hvz0 (by rw [hvz1]; decide) (by rw [hvz1]; decide) (by rw [hvz1, Array.toList_map]; exact HFL.out _ (by rw [Array.size_map, Array.size_range])) ?_)
    | (at_builtin; (refine wpList_append_own _ (by rfl) _ _ 236 (by rfl) w2.heap.size 242 iv (.agg zP) 17 176 Tryz.underlying236 hvi hvz0 hvz1 hvz2 rfl (by decide) _ 0 _ (by rfl) (World.ownsRow_nil _ _ _ _) ⟨w2.heap.size, 0, none⟩ 1 1 s.toList (by rfl) ?c0 ?c1 ?c2 ?c3 ?c4 ?c5 ?_)))
  case c0 => rw [Array.length_toList, SS.out.size]
  case c1 => exact cells_newA _ _ _
  case c2 => exact fun u hu => (Array.all_eq_true_iff_forall_mem.1 SS.out.one) u (by simpa using hu)
  case c3 => unfold maxLen; omega
  case c4 => omega
  case c5 => exact Nat.le_of_lt (by rw [alloc_size]; omega)
  intro v' w3 ho3 hg3 _
  obtain ⟨g3, cap3, rfl, hg31, hg32⟩ := ho3.form (by omega)
  have B3 := Aside0.mk (pw_below_grown (below_alloc BE.out (.cells s 242)) _ (below_alloc BE.out _).size hg3 (fun kk hk => by simp [Value.ownBlock] at hk))
  have K3 := Aside0.mk (blk_grown (blk_alloc KE2.out (.cells s 242)) hg3 (by simp [Value.ownBlock]))
  have hB2 : w.heap.size + 1 + 1 < w2.heap.size := blk_lt KE2.out
  have K9 := Aside0.mk (blk_put (cs' := #[.slice (some ⟨g3, 0, none⟩) 1 cap3]) K3.out 0 (.slice (some ⟨g3, 0, none⟩) 1 cap3) rfl)
  have O9 := Aside0.mk (own_less (ownsRow_setCell_below ho3 (a := ⟨w.heap.size + 1 + 1, 0, none⟩) hB2 (.slice (some ⟨g3, 0, none⟩) 1 cap3)) BE.out.size)
  have B9 := Aside0.mk (below_set (j := 0) (v := .slice (some ⟨g3, 0, none⟩) 1 cap3) B3.out (g := w.heap.size + 1 + 1) (by omega))
  have c3 := blk_cell K3.out 0
  have d3 := blk_frozen K3.out 0
  have c9 := blk_cell K9.out 0
  clear ho3 hg3 hg31 hg32 hB2 e2
  go_wp2_with fail
  rw [rounds_succ]
  go_wp2_with fail
  rw [rounds_succ]
  go_wp2_with fail
  go_ret
  exact ⟨_, rfl, O9.out, B9.out⟩
end Go.Proofs.YtgoeiflddikihaaGreatDoor.Ver
end
section
namespace Go.Proofs.YtgoeiflddikihaaGreatDoor.Ver
set_option linter.unusedSimpArgs false
open Go.RowKit Go.Proofs.YtgoeiflddikihaaGreatDoorW.PrintWords Go.Proofs.YtgoeiflddikihaaGreatDoor.Ord
theorem at_third (w : World) (a b c : Obj) : (((w.alloc a).alloc b).alloc c).heap[w.heap.size + 1 + 1]? = some c := by
  have := alloc_at ((w.alloc a).alloc b) c
  rw [alloc_size, alloc_size] at this
  exact this
set_option maxRecDepth 20000 in
set_option maxHeartbeats 16000000 in
theorem both_zero (lo hi : SV) (c d : Bool) (w : World) :
    Calls Tryz.prog 298 #[.agg zP, .agg (pcs lo hi true true c d)] w fun e w' => e = .returned (.agg (pcs lo hi true true c d)) ∧ Below w.heap.size w w' := by
  have HB := Aside0.mk (Below.refl w.heap.size w)
  obtain ⟨la, lb, lc, lp, lm, lo'⟩ := lo
  obtain ⟨ha, hb', hc, hp, hm, ho⟩ := hi
  dsimp only [SV.cells, pcs]
  have HNE := Lib.hid (show w.heap.size ≠ w.heap.size + 1 + 1 from by omega)
  have ha1 : ∀ W, Sem.run Tryz.prog (Builtin.append_ #[240, 240] 240 #[.slice none 0 0, .slice none 0 0]) W = .ok (.slice none 0 0) W := fun _ => by kernel_rfl
  go_enter Tryz.func298, Tryz.ntmps298
  go_wp2_with fail
  go_region
  go_wp2_with fail
  go_region
  go_upto_region 17 with (fail)
  go_cut [7] (fun v7 wx => v7 = .slice none 0 0 ∧ Aside0 (wx.heap[w.heap.size]? = some (bP la lb lc lp lm lo' ha hb' hc hp hm ho true true c d)) ∧ Aside0 (wx.heap[w.heap.size + 1 + 1]? = some (.cells zP 242 (0, 0))) ∧ Aside0 (Below w.heap.size w wx))
  case first =>
    go_region
    go_wp2_with fail
    go_meet
    case rel => exact ⟨rfl, ⟨by repeat (first | exact alloc_at w _ | apply blk_drew | apply blk_alloc)⟩, ⟨by repeat (first | exact at_third w _ _ _ | apply blk_drew)⟩, ⟨by repeat (first | exact HB.out | apply below_alloc | apply pw_below_drewN | apply below_drew)⟩⟩
  case rest =>
    obtain ⟨rfl, KP, KR, HB5⟩ := hcut
    have u1 := blk_cell KP.out 16
    have u2 := blk_frozen KP.out 16
    have KP2 := Aside0.mk (blk_put (cs' := #[.int .u64 la, .int .u64 lb, .int .u64 lc, .string lp, .string lm, .string lo', .int .u64 ha, .int .u64 hb', .int .u64 hc, .string hp, .string hm, .string ho, .bool true, .bool true, .bool c, .bool d, .slice none 0 0]) KP.out 16 (.slice none 0 0) rfl)
    have KR2 := Aside0.mk (blk_far KR.out (p := ⟨w.heap.size, 16, none⟩) HNE.out.symm (.slice none 0 0))
    have KF := Aside0.mk (setRow_heap _ _ _ #[.int .u64 la, .int .u64 lb, .int .u64 lc, .string lp, .string lm, .string lo', .int .u64 ha, .int .u64 hb', .int .u64 hc, .string hp, .string hm, .string ho, .bool true, .bool true, .bool c, .bool d, .slice none 0 0] _ _ KR2.out)
    have BF := Aside0.mk (below_setRow (below_set (j := 16) (v := .slice none 0 0) HB5.out (g := w.heap.size) (Nat.le_refl _)) (g := w.heap.size + 1 + 1) (by omega) #[.int .u64 la, .int .u64 lb, .int .u64 lc, .string lp, .string lm, .string lo', .int .u64 ha, .int .u64 hb', .int .u64 hc, .string hp, .string hm, .string ho, .bool true, .bool true, .bool c, .bool d, .slice none 0 0])
    have HI := Lib.hid (show (Tryz.prog.info? 242).map (·.size) = some (#[.int .u64 la, .int .u64 lb, .int .u64 lc, .string lp, .string lm, .string lo', .int .u64 ha, .int .u64 hb', .int .u64 hc, .string hp, .string hm, .string ho, .bool true, .bool true, .bool c, .bool d, .slice none 0 0] : Array Value).size from sizeP)
    go_wp2_with fail
    refine wp_loop_rounds 1 ?_
    rw [rounds_succ]
    go_wp2_with (first
      | (refine wpList_load_row (by rfl) 242 (.tmp 2) (by rfl) w.heap.size (by rfl) 242 #[.int .u64 la, .int .u64 lb, .int .u64 lc, .string lp, .string lm, .string lo', .int .u64 ha, .int .u64 hb', .int .u64 hc, .string hp, .string hm, .string ho, .bool true, .bool true, .bool c, .bool d, .slice none 0 0] (0, 0) _ KP2.out Tryz.underlying242 rfl HI.out ?_)
      | (refine wpList_store_row (by rfl) 242 (.tmp 4) (.tmp 87) (by rfl) (w.heap.size + 1 + 1) #[.int .u64 la, .int .u64 lb, .int .u64 lc, .string lp, .string lm, .string lo', .int .u64 ha, .int .u64 hb', .int .u64 hc, .string hp, .string hm, .string ho, .bool true, .bool true, .bool c, .bool d, .slice none 0 0] (by rfl) (by rfl) 242 zP KR2.out HI.out rfl (by simp [Value.oneCell']) ?_))
    refine bodyPost_ret (results_single rfl (.cell _ 242 #[.int .u64 la, .int .u64 lb, .int .u64 lc, .string lp, .string lm, .string lo', .int .u64 ha, .int .u64 hb', .int .u64 hc, .string hp, .string hm, .string ho, .bool true, .bool true, .bool c, .bool d, .slice none 0 0] (0, 0) _ rfl KF.out Tryz.underlying242 rfl HI.out .nil)) rfl ⟨rfl, BF.out⟩
end Go.Proofs.YtgoeiflddikihaaGreatDoor.Ver
end
