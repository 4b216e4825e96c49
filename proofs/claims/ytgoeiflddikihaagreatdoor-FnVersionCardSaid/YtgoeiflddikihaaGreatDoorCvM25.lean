/- Merged by program out of: VOf. -/
import Derived.Test.YtgoeiflddikihaaGreatDoorCvM23
import Derived.Deep.CutRange
section
namespace Go.Proofs.YtgoeiflddikihaaGreatDoor.Ver
set_option linter.unusedSimpArgs false
open Go.RowKit Go.Proofs.YtgoeiflddikihaaGreatDoor.Dig Go.Proofs.YtgoeiflddikihaaGreatDoorW.PrintWords
def told (ty : Int) (text caret revision branch version under unpaired : ByteArray) (paired : Bool) : Value :=
  .agg #[.int .i64 ty, .string text, .string caret, .string revision, .string branch, .string version, .string under, .string unpaired, .bool paired]
abbrev zTold : Array Value := #[.int .i64 0, .string ⟨#[]⟩, .string ⟨#[]⟩, .string ⟨#[]⟩, .string ⟨#[]⟩, .string ⟨#[]⟩, .string ⟨#[]⟩, .string ⟨#[]⟩, .bool false]
theorem res_at {w w1 : World} {x y : Obj} (hb : Below ((w.alloc x).alloc y).heap.size ((w.alloc x).alloc y) w1) : w1.heap[w.heap.size + 1]? = some y := by
  have h := blk_below (alloc_at (w.alloc x) y) hb
  rw [alloc_size] at h
  exact h
set_option maxRecDepth 20000 in
set_option maxHeartbeats 4000000 in
theorem of_rev (k : Int) (t r : ByteArray) (ht : t.size ≤ 2147483647) (w : World) (hv : Vars w) (s : ByteArray) (hx : verV k t r = .rev s) :
    Calls Tryz.prog 35 #[.agg #[.int .i64 k, .string t, .string r]] w fun e w' => e = .returned (told 0 s s ⟨#[]⟩ ⟨#[]⟩ ⟨#[]⟩ s ⟨#[]⟩ false) ∧ Below w.heap.size w w' := by
  have HR := Lib.hid (fun W hb => ver_any k t r ht W (Vars.below (w := w) hv hb))
  have hc := comp_rev s
  dsimp only [Vers.val, Vers.tid, Vers.inner, Unp.val, Unp.tid, Unp.inner, SV.cells] at hc
  have HC := Lib.hid hc
  clear hc
  have HB := Aside0.mk (Below.refl w.heap.size w)
  clear hv
  have HX := Lib.hid hx
  clear hx
  have h1 := a_rev_P
  have h3 := m_rev_Type
  have h4 := m_rev_String
  have h5 := m_rev_ImpliedCaretString
  go_enter Tryz.func35, Tryz.ntmps35
  go_wp2_with (first
    | (go_at_call 66; ((with_reducible refine (HR.out _ (by repeat (first | exact HB.out | apply below_alloc | apply pw_below_drewN))).mono ?_); rintro e w5 ⟨rfl, hb⟩; rw [HX.out]; refine Hid.out ?_)))
  have hres := res_at hb
  have HB5 := Aside0.mk (below_trans (by repeat (first | exact HB.out | apply below_alloc | apply pw_below_drewN)) hb)
  clear hb
  have HRES := Aside0.mk hres
  clear hres
  dsimp only [Vers.val, Vers.tid, Vers.inner, Unp.val, Unp.tid, Unp.inner, SV.cells]
  refine Lib.hid ?_
  go_wp2_with (first
    | (go_at_call 75; ((with_reducible refine (HC.out _).mono ?_); rintro e w6 ⟨rfl, hb⟩; refine Hid.out ?_))
    | go_in)
  have hk4 := blk_below (alloc_at w5 _) hb
  have HRES6 := Aside0.mk (blk_below (blk_alloc HRES.out _) hb)
  have HB6 := Aside0.mk (below_trans HB5.out (below_trans (below_alloc (Below.refl _ _) _) hb))
  have hsz : w.heap.size ≤ w5.heap.size := HB5.out.size
  have HNE := Lib.hid (show w.heap.size + 1 ≠ w5.heap.size from Nat.ne_of_lt (blk_lt HRES.out))
  have HSZ := Lib.hid hsz
  have HK4 := Aside0.mk hk4
  clear hsz
  have z4 := blk_cell hk4 4
  have y4 := blk_frozen hk4 4
  have z5 := blk_cell hk4 5
  have y5 := blk_frozen hk4 5
  have z6 := blk_cell hk4 6
  have y6 := blk_frozen hk4 6
  clear hk4 hb
  refine Lib.hid ?_
  go_upto_region 4 with go_in
  clear z4 z5 z6 y4 y5 y6
  go_cut [5, 6] from 26 to 30 (fun v5 v6 wx => v5 = .nilIface ∧ v6 = .bool false ∧ Aside0 (Below w.heap.size w wx) ∧ Aside0 (wx.heap[w5.heap.size]? = some (.cells #[.int .i64 0, .string s, .string s, .string ⟨#[]⟩, .string ⟨#[]⟩, .string ⟨#[]⟩, .string s, .string ⟨#[]⟩, .bool false] 54 (0, 0))) ∧ Aside0 (wx.heap[w.heap.size + 1]? = some (.cells zTold 54 (0, 0))))
  case first =>
    go_wp2_with fail
    go_meet
    case rel => exact ⟨rfl, rfl, ⟨((HB6.out.setCell (by show _ ≤ w5.heap.size; exact HSZ.out) _).setCell (by show _ ≤ w5.heap.size; exact HSZ.out) _).setCell (by show _ ≤ w5.heap.size; exact HSZ.out) _⟩, ⟨blk_put (blk_put (blk_put HK4.out 6 _ rfl) 4 _ rfl) 5 _ rfl⟩, ⟨blk_far (blk_far (blk_far HRES6.out (p := ⟨w5.heap.size, 6, none⟩) HNE.out _) (p := ⟨w5.heap.size, 4, none⟩) HNE.out _) (p := ⟨w5.heap.size, 5, none⟩) HNE.out _⟩⟩
  case rest =>
    obtain ⟨rfl, rfl, HB7, HK7, HR7⟩ := hcut
    have z0 := blk_cell HK7.out 0
    have y0 := blk_frozen HK7.out 0
    have z1 := blk_cell HK7.out 1
    have y1 := blk_frozen HK7.out 1
    have z2 := blk_cell HK7.out 2
    have y2 := blk_frozen HK7.out 2
    have z3 := blk_cell HK7.out 3
    have y3 := blk_frozen HK7.out 3
    have z4 := blk_cell HK7.out 4
    have y4 := blk_frozen HK7.out 4
    have z5 := blk_cell HK7.out 5
    have y5 := blk_frozen HK7.out 5
    have z6 := blk_cell HK7.out 6
    have y6 := blk_frozen HK7.out 6
    have z7 := blk_cell HK7.out 7
    have y7 := blk_frozen HK7.out 7
    have z8 := blk_cell HK7.out 8
    have y8 := blk_frozen HK7.out 8
    have r0 := blk_cell HR7.out 0
    have t0 := blk_frozen HR7.out 0
    have r1 := blk_cell HR7.out 1
    have t1 := blk_frozen HR7.out 1
    have r2 := blk_cell HR7.out 2
    have t2 := blk_frozen HR7.out 2
    have r3 := blk_cell HR7.out 3
    have t3 := blk_frozen HR7.out 3
    have r4 := blk_cell HR7.out 4
    have t4 := blk_frozen HR7.out 4
    have r5 := blk_cell HR7.out 5
    have t5 := blk_frozen HR7.out 5
    have r6 := blk_cell HR7.out 6
    have t6 := blk_frozen HR7.out 6
    have r7 := blk_cell HR7.out 7
    have t7 := blk_frozen HR7.out 7
    have r8 := blk_cell HR7.out 8
    have t8 := blk_frozen HR7.out 8
    go_wp2_with fail
    refine bodyPost_ret (v := told 0 s s ⟨#[]⟩ ⟨#[]⟩ ⟨#[]⟩ s ⟨#[]⟩ false) (by simp [told, results, Tryz.results35, go_sem, *]) rfl ⟨rfl, ?_⟩
    exact (((((((((HB7.out).setCell (by show _ ≤ w.heap.size + 1; omega) _).setCell (by show _ ≤ w.heap.size + 1; omega) _).setCell (by show _ ≤ w.heap.size + 1; omega) _).setCell (by show _ ≤ w.heap.size + 1; omega) _).setCell (by show _ ≤ w.heap.size + 1; omega) _).setCell (by show _ ≤ w.heap.size + 1; omega) _).setCell (by show _ ≤ w.heap.size + 1; omega) _).setCell (by show _ ≤ w.heap.size + 1; omega) _).setCell (by show _ ≤ w.heap.size + 1; omega) _
set_option maxRecDepth 20000 in
set_option maxHeartbeats 4000000 in
theorem of_plain (k : Int) (t r : ByteArray) (ht : t.size ≤ 2147483647) (w : World) (hv : Vars w) (n : ByteArray) (hx : verV k t r = .un (.plain n)) :
    Calls Tryz.prog 35 #[.agg #[.int .i64 k, .string t, .string r]] w fun e w' => e = .returned (told 1 n n ⟨#[]⟩ ⟨#[]⟩ n ⟨#[]⟩ ⟨#[]⟩ false) ∧ Below w.heap.size w w' := by
  have HR := Lib.hid (fun W hb => ver_any k t r ht W (Vars.below (w := w) hv hb))
  have hc := comp_plain n
  dsimp only [Vers.val, Vers.tid, Vers.inner, Unp.val, Unp.tid, Unp.inner, SV.cells] at hc
  have HC := Lib.hid hc
  clear hc
  have HB := Aside0.mk (Below.refl w.heap.size w)
  clear hv
  have HX := Lib.hid hx
  clear hx
  have h1 := a_plain_P
  have h3 := m_plain_Type
  have h4 := m_plain_String
  have h5 := m_plain_ImpliedCaretString
  go_enter Tryz.func35, Tryz.ntmps35
  go_wp2_with (first
    | (go_at_call 66; ((with_reducible refine (HR.out _ (by repeat (first | exact HB.out | apply below_alloc | apply pw_below_drewN))).mono ?_); rintro e w5 ⟨rfl, hb⟩; rw [HX.out]; refine Hid.out ?_)))
  have hres := res_at hb
  have HB5 := Aside0.mk (below_trans (by repeat (first | exact HB.out | apply below_alloc | apply pw_below_drewN)) hb)
  clear hb
  have HRES := Aside0.mk hres
  clear hres
  dsimp only [Vers.val, Vers.tid, Vers.inner, Unp.val, Unp.tid, Unp.inner, SV.cells]
  refine Lib.hid ?_
  go_wp2_with (first
    | (go_at_call 75; ((with_reducible refine (HC.out _).mono ?_); rintro e w6 ⟨rfl, hb⟩; refine Hid.out ?_))
    | go_in)
  have hk4 := blk_below (alloc_at w5 _) hb
  have HRES6 := Aside0.mk (blk_below (blk_alloc HRES.out _) hb)
  have HB6 := Aside0.mk (below_trans HB5.out (below_trans (below_alloc (Below.refl _ _) _) hb))
  have hsz : w.heap.size ≤ w5.heap.size := HB5.out.size
  have HNE := Lib.hid (show w.heap.size + 1 ≠ w5.heap.size from Nat.ne_of_lt (blk_lt HRES.out))
  have HSZ := Lib.hid hsz
  have HK4 := Aside0.mk hk4
  clear hsz
  have z4 := blk_cell hk4 4
  have y4 := blk_frozen hk4 4
  have z5 := blk_cell hk4 5
  have y5 := blk_frozen hk4 5
  have z6 := blk_cell hk4 6
  have y6 := blk_frozen hk4 6
  clear hk4 hb
  refine Lib.hid ?_
  go_upto_region 4 with go_in
  clear z4 z5 z6 y4 y5 y6
  go_cut [5, 6] from 26 to 30 (fun v5 v6 wx => v5 = .nilIface ∧ v6 = .bool false ∧ Aside0 (Below w.heap.size w wx) ∧ Aside0 (wx.heap[w5.heap.size]? = some (.cells #[.int .i64 1, .string n, .string n, .string ⟨#[]⟩, .string ⟨#[]⟩, .string n, .string ⟨#[]⟩, .string ⟨#[]⟩, .bool false] 54 (0, 0))) ∧ Aside0 (wx.heap[w.heap.size + 1]? = some (.cells zTold 54 (0, 0))))
  case first =>
    go_wp2_with fail
    go_meet
    case rel => exact ⟨rfl, rfl, ⟨((HB6.out.setCell (by show _ ≤ w5.heap.size; exact HSZ.out) _).setCell (by show _ ≤ w5.heap.size; exact HSZ.out) _).setCell (by show _ ≤ w5.heap.size; exact HSZ.out) _⟩, ⟨blk_put (blk_put (blk_put HK4.out 6 _ rfl) 4 _ rfl) 5 _ rfl⟩, ⟨blk_far (blk_far (blk_far HRES6.out (p := ⟨w5.heap.size, 6, none⟩) HNE.out _) (p := ⟨w5.heap.size, 4, none⟩) HNE.out _) (p := ⟨w5.heap.size, 5, none⟩) HNE.out _⟩⟩
  case rest =>
    obtain ⟨rfl, rfl, HB7, HK7, HR7⟩ := hcut
    have z0 := blk_cell HK7.out 0
    have y0 := blk_frozen HK7.out 0
    have z1 := blk_cell HK7.out 1
    have y1 := blk_frozen HK7.out 1
    have z2 := blk_cell HK7.out 2
    have y2 := blk_frozen HK7.out 2
    have z3 := blk_cell HK7.out 3
    have y3 := blk_frozen HK7.out 3
    have z4 := blk_cell HK7.out 4
    have y4 := blk_frozen HK7.out 4
    have z5 := blk_cell HK7.out 5
    have y5 := blk_frozen HK7.out 5
    have z6 := blk_cell HK7.out 6
    have y6 := blk_frozen HK7.out 6
    have z7 := blk_cell HK7.out 7
    have y7 := blk_frozen HK7.out 7
    have z8 := blk_cell HK7.out 8
    have y8 := blk_frozen HK7.out 8
    have r0 := blk_cell HR7.out 0
    have t0 := blk_frozen HR7.out 0
    have r1 := blk_cell HR7.out 1
    have t1 := blk_frozen HR7.out 1
    have r2 := blk_cell HR7.out 2
    have t2 := blk_frozen HR7.out 2
    have r3 := blk_cell HR7.out 3
    have t3 := blk_frozen HR7.out 3
    have r4 := blk_cell HR7.out 4
    have t4 := blk_frozen HR7.out 4
    have r5 := blk_cell HR7.out 5
    have t5 := blk_frozen HR7.out 5
    have r6 := blk_cell HR7.out 6
    have t6 := blk_frozen HR7.out 6
    have r7 := blk_cell HR7.out 7
    have t7 := blk_frozen HR7.out 7
    have r8 := blk_cell HR7.out 8
    have t8 := blk_frozen HR7.out 8
    go_wp2_with fail
    refine bodyPost_ret (v := told 1 n n ⟨#[]⟩ ⟨#[]⟩ n ⟨#[]⟩ ⟨#[]⟩ false) (by simp [told, results, Tryz.results35, go_sem, *]) rfl ⟨rfl, ?_⟩
    exact (((((((((HB7.out).setCell (by show _ ≤ w.heap.size + 1; omega) _).setCell (by show _ ≤ w.heap.size + 1; omega) _).setCell (by show _ ≤ w.heap.size + 1; omega) _).setCell (by show _ ≤ w.heap.size + 1; omega) _).setCell (by show _ ≤ w.heap.size + 1; omega) _).setCell (by show _ ≤ w.heap.size + 1; omega) _).setCell (by show _ ≤ w.heap.size + 1; omega) _).setCell (by show _ ≤ w.heap.size + 1; omega) _).setCell (by show _ ≤ w.heap.size + 1; omega) _
end Go.Proofs.YtgoeiflddikihaaGreatDoor.Ver
end
