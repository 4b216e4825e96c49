/- Merged by program out of: VOf2. -/
import Derived.Test.YtgoeiflddikihaaGreatDoorCsgM21
section
namespace Go.Proofs.YtgoeiflddikihaaGreatDoor.Ver
set_option linter.unusedSimpArgs false
set_option linter.unusedVariables false
open Go.RowKit Go.Proofs.YtgoeiflddikihaaGreatDoor.Dig Go.Proofs.YtgoeiflddikihaaGreatDoorW.PrintWords
theorem alloc_at' {w : World} {o : Obj} {n : Nat} (h : n = w.heap.size) : (w.alloc o).heap[n]? = some o := by rw [h]; exact alloc_at w o
set_option maxRecDepth 20000 in
set_option maxHeartbeats 4000000 in
theorem of_psem (k : Int) (t r : ByteArray) (ht : t.size ≤ 2147483647) (w : World) (hv : Vars w) (v : SV) (hk : SVok v) (ho : v.orig ≠ ⟨#[]⟩) (hcs : ¬ 9223372036854775807 < 1 + (semB v).size) (q : ByteArray) (hx : verV k t r = .pair (.sem v) q) :
    Calls Tryz.prog 35 #[.agg #[.int .i64 k, .string t, .string r]] w fun e w' => e = .returned (told 2 v.orig (⟨#[61]⟩ ++ semB v) q ⟨#[]⟩ v.orig q v.orig true) ∧ Below w.heap.size w w' := by
  have HR := Lib.hid (fun W hb => ver_any k t r ht W (Vars.below (w := w) hv hb))
  have hc := comp_psem v ho q
  dsimp only [Vers.val, Vers.tid, Vers.inner, Unp.val, Unp.tid, Unp.inner, SV.cells] at hc
  have HC := Lib.hid hc
  clear hc
  have HB := Aside0.mk (Below.refl w.heap.size w)
  have hs := fun W hb => semStr_any v hk W (Vars.below (w := w) hv hb)
  dsimp only [SV.cells] at hs
  have HS := Lib.hid hs
  have e1 : v.orig.toList.isEmpty = false := isEmpty_false (size_pos ho)
  have HSZ := Lib.hid hcs
  clear hs ho hcs
  clear hv
  have HX := Lib.hid hx
  clear hx
  have a_sem_P' := a_sem_P
  have m_sem_Type' := m_sem_Type
  have m_sem_String' := m_sem_String
  have m_sem_ImpliedCaretString' := m_sem_ImpliedCaretString
  have a_pair_P' := a_pair_P
  have m_pair_Type' := m_pair_Type
  have m_pair_String' := m_pair_String
  have m_pair_ImpliedCaretString' := m_pair_ImpliedCaretString
  have m_pair_Revision' := m_pair_Revision
  have m_pair_Unpair' := m_pair_Unpair
  go_enter Tryz.func35, Tryz.ntmps35
  go_wp2_with (first
    | (go_at_call 66; ((with_reducible refine (HR.out _ (by repeat (first | exact HB.out | apply below_alloc | apply pw_below_drewN))).mono ?_); rintro e w5 ⟨rfl, hb⟩; rw [HX.out]; refine Hid.out ?_)))
  have HRES := Aside0.mk (res_at hb)
  have HB5 := Aside0.mk (below_trans (by repeat (first | exact HB.out | apply below_alloc | apply pw_below_drewN)) hb)
  clear hb
  dsimp only [Vers.val, Vers.tid, Vers.inner, Unp.val, Unp.tid, Unp.inner, SV.cells]
  refine Lib.hid ?_
  go_upto_region 2 with fail
  go_cut [4] from 9 to 16 (fun v4 wx => ∃ g : Nat, v4 = .pointer (some ⟨g, 0, none⟩) ∧ w.heap.size + 1 < g ∧ Aside0 (Below w.heap.size w wx) ∧ Aside0 (wx.heap[g]? = some (.cells #[.int .i64 2, .string v.orig, .string (⟨#[61]⟩ ++ semB v), .string ⟨#[]⟩, .string ⟨#[]⟩, .string ⟨#[]⟩, .string ⟨#[]⟩, .string ⟨#[]⟩, .bool false] 54 (0, 0))) ∧ Aside0 (wx.heap[w.heap.size + 1]? = some (.cells zTold 54 (0, 0))))
  case first =>
    go_wp2_with (first
      | (go_at_call 233; ((with_reducible refine (HS.out _ (by repeat (first | exact HB5.out | apply below_alloc | apply pw_below_drewN))).mono ?_); rintro e w7 ⟨rfl, hb⟩; have HB7 := Aside0.mk (below_trans (by repeat (first | exact HB5.out | apply below_alloc | apply pw_below_drewN)) hb); have HR7 := Aside0.mk (blk_below (by repeat (first | exact HRES.out | apply blk_alloc)) hb); have hcs := HSZ.out; clear hb))
      | go_in)
    go_meet
    case rel => exact ⟨_, rfl, (by (try simp only [alloc_size]); have := blk_lt HR7.out; omega), ⟨by repeat (first | exact HB7.out | apply below_alloc | apply pw_below_drewN)⟩, ⟨alloc_at' (by simp [alloc_size])⟩, ⟨by repeat (first | exact HR7.out | apply blk_alloc)⟩⟩
  case rest =>
    clear HB5 HRES
    obtain ⟨g, rfl, hg, HB5, HK, HRES⟩ := hcut
    have HG := Lib.hid hg
    clear hg
    go_upto_region 4 with (first
      | (go_at_call 75; ((with_reducible refine (HC.out _).mono ?_); rintro e w6 ⟨rfl, hb⟩; refine Hid.out ?_))
      | go_in)
    have HK6 := Aside0.mk (blk_below HK.out hb)
    have HR6 := Aside0.mk (blk_below HRES.out hb)
    have HB6 := Aside0.mk (below_trans HB5.out hb)
    have z4 := blk_cell HK6.out 4
    have y4 := blk_frozen HK6.out 4
    have z5 := blk_cell HK6.out 5
    have y5 := blk_frozen HK6.out 5
    have z6 := blk_cell HK6.out 6
    have y6 := blk_frozen HK6.out 6
    clear hb
    refine Lib.hid ?_
    go_upto_region 4 with go_in
    clear z4 z5 z6 y4 y5 y6
    go_cut [5, 6] from 26 to 30 (fun v5 v6 wx => v5 = .iface 212 (.agg #[.iface 200 (.agg #[.int .u64 v.major, .int .u64 v.minor, .int .u64 v.patch, .string v.pre, .string v.mt, .string v.orig]), .string q]) ∧ v6 = .bool true ∧ Aside0 (Below w.heap.size w wx) ∧ Aside0 (wx.heap[g]? = some (.cells #[.int .i64 2, .string v.orig, .string (⟨#[61]⟩ ++ semB v), .string ⟨#[]⟩, .string ⟨#[]⟩, .string v.orig, .string q, .string ⟨#[]⟩, .bool false] 54 (0, 0))) ∧ Aside0 (wx.heap[w.heap.size + 1]? = some (.cells zTold 54 (0, 0))))
    case first =>
      go_wp2_with fail
      go_meet
      case rel => exact ⟨rfl, rfl, ⟨((HB6.out.setCell (by show _ ≤ g; have := HG.out; omega) _).setCell (by show _ ≤ g; have := HG.out; omega) _).setCell (by show _ ≤ g; have := HG.out; omega) _⟩, ⟨blk_put (blk_put (blk_put HK6.out 6 _ rfl) 4 _ rfl) 5 _ rfl⟩, ⟨blk_far (blk_far (blk_far HR6.out (p := ⟨g, 6, none⟩) (Nat.ne_of_lt HG.out) _) (p := ⟨g, 4, none⟩) (Nat.ne_of_lt HG.out) _) (p := ⟨g, 5, none⟩) (Nat.ne_of_lt HG.out) _⟩⟩
    case rest =>
      clear HB6 HK6 HR6 HB5 HK HRES
      obtain ⟨rfl, rfl, HB7, HK7, HR7⟩ := hcut
      go_upto_region 6 with fail
      have HA := Aside0.mk (blk_alloc (blk_alloc (blk_alloc (blk_alloc (HK7.out) (.cells #[.iface 200 (.agg #[.int .u64 v.major, .int .u64 v.minor, .int .u64 v.patch, .string v.pre, .string v.mt, .string v.orig]), .string q] 212)) (.cells #[.iface 200 (.agg #[.int .u64 v.major, .int .u64 v.minor, .int .u64 v.patch, .string v.pre, .string v.mt, .string v.orig]), .string q] 212)) (.cells #[.int .u64 v.major, .int .u64 v.minor, .int .u64 v.patch, .string v.pre, .string v.mt, .string v.orig] 200)) (.cells #[.int .u64 v.major, .int .u64 v.minor, .int .u64 v.patch, .string v.pre, .string v.mt, .string v.orig] 197))
      have HAR := Aside0.mk (blk_alloc (blk_alloc (blk_alloc (blk_alloc (HR7.out) (.cells #[.iface 200 (.agg #[.int .u64 v.major, .int .u64 v.minor, .int .u64 v.patch, .string v.pre, .string v.mt, .string v.orig]), .string q] 212)) (.cells #[.iface 200 (.agg #[.int .u64 v.major, .int .u64 v.minor, .int .u64 v.patch, .string v.pre, .string v.mt, .string v.orig]), .string q] 212)) (.cells #[.int .u64 v.major, .int .u64 v.minor, .int .u64 v.patch, .string v.pre, .string v.mt, .string v.orig] 200)) (.cells #[.int .u64 v.major, .int .u64 v.minor, .int .u64 v.patch, .string v.pre, .string v.mt, .string v.orig] 197))
      have z8 := blk_cell HA.out 8
      have y8 := blk_frozen HA.out 8
      have z3 := blk_cell HA.out 3
      have y3 := blk_frozen HA.out 3
      have z7 := blk_cell HA.out 7
      have y7 := blk_frozen HA.out 7
      go_cut [33] from 32 to 39 (fun _ wx => Aside0 (Below w.heap.size w wx) ∧ Aside0 (wx.heap[g]? = some (.cells #[.int .i64 2, .string v.orig, .string (⟨#[61]⟩ ++ semB v), .string q, .string ⟨#[]⟩, .string v.orig, .string q, .string v.orig, .bool true] 54 (0, 0))) ∧ Aside0 (wx.heap[w.heap.size + 1]? = some (.cells zTold 54 (0, 0))))
      case first =>
        go_wp2_with go_in
        go_meet
        case rel => exact ⟨⟨(((below_alloc (below_alloc (below_alloc (below_alloc (HB7.out) (.cells #[.iface 200 (.agg #[.int .u64 v.major, .int .u64 v.minor, .int .u64 v.patch, .string v.pre, .string v.mt, .string v.orig]), .string q] 212)) (.cells #[.iface 200 (.agg #[.int .u64 v.major, .int .u64 v.minor, .int .u64 v.patch, .string v.pre, .string v.mt, .string v.orig]), .string q] 212)) (.cells #[.int .u64 v.major, .int .u64 v.minor, .int .u64 v.patch, .string v.pre, .string v.mt, .string v.orig] 200)) (.cells #[.int .u64 v.major, .int .u64 v.minor, .int .u64 v.patch, .string v.pre, .string v.mt, .string v.orig] 197)).setCell (by show _ ≤ g; have := HG.out; omega) _).setCell (by show _ ≤ g; have := HG.out; omega) _).setCell (by show _ ≤ g; have := HG.out; omega) _⟩, ⟨blk_put (blk_put (blk_put HA.out 8 _ rfl) 3 _ rfl) 7 _ rfl⟩, ⟨blk_far (blk_far (blk_far HAR.out (p := ⟨g, 8, none⟩) (Nat.ne_of_lt HG.out) _) (p := ⟨g, 3, none⟩) (Nat.ne_of_lt HG.out) _) (p := ⟨g, 7, none⟩) (Nat.ne_of_lt HG.out) _⟩⟩
      case rest =>
        clear z8 z3 z7 y8 y3 y7 HA HAR HB7 HK7 HR7
        obtain ⟨HB8, HK8, HR8⟩ := hcut
        have z0 := blk_cell HK8.out 0
        have y0 := blk_frozen HK8.out 0
        have z1 := blk_cell HK8.out 1
        have y1 := blk_frozen HK8.out 1
        have z2 := blk_cell HK8.out 2
        have y2 := blk_frozen HK8.out 2
        have z3 := blk_cell HK8.out 3
        have y3 := blk_frozen HK8.out 3
        have z4 := blk_cell HK8.out 4
        have y4 := blk_frozen HK8.out 4
        have z5 := blk_cell HK8.out 5
        have y5 := blk_frozen HK8.out 5
        have z6 := blk_cell HK8.out 6
        have y6 := blk_frozen HK8.out 6
        have z7 := blk_cell HK8.out 7
        have y7 := blk_frozen HK8.out 7
        have z8 := blk_cell HK8.out 8
        have y8 := blk_frozen HK8.out 8
        have r0 := blk_cell HR8.out 0
        have t0 := blk_frozen HR8.out 0
        have r1 := blk_cell HR8.out 1
        have t1 := blk_frozen HR8.out 1
        have r2 := blk_cell HR8.out 2
        have t2 := blk_frozen HR8.out 2
        have r3 := blk_cell HR8.out 3
        have t3 := blk_frozen HR8.out 3
        have r4 := blk_cell HR8.out 4
        have t4 := blk_frozen HR8.out 4
        have r5 := blk_cell HR8.out 5
        have t5 := blk_frozen HR8.out 5
        have r6 := blk_cell HR8.out 6
        have t6 := blk_frozen HR8.out 6
        have r7 := blk_cell HR8.out 7
        have t7 := blk_frozen HR8.out 7
        have r8 := blk_cell HR8.out 8
        have t8 := blk_frozen HR8.out 8
        have hg := HG.out
        go_wp2_with fail
        refine bodyPost_ret (v := told 2 v.orig (⟨#[61]⟩ ++ semB v) q ⟨#[]⟩ v.orig q v.orig true) (by simp [told, results, Tryz.results35, go_sem, *]) rfl ⟨rfl, ?_⟩
        exact (((((((((HB8.out).setCell (by show _ ≤ w.heap.size + 1; omega) _).setCell (by show _ ≤ w.heap.size + 1; omega) _).setCell (by show _ ≤ w.heap.size + 1; omega) _).setCell (by show _ ≤ w.heap.size + 1; omega) _).setCell (by show _ ≤ w.heap.size + 1; omega) _).setCell (by show _ ≤ w.heap.size + 1; omega) _).setCell (by show _ ≤ w.heap.size + 1; omega) _).setCell (by show _ ≤ w.heap.size + 1; omega) _).setCell (by show _ ≤ w.heap.size + 1; omega) _
end Go.Proofs.YtgoeiflddikihaaGreatDoor.Ver
end
