/- Merged by program out of: VOf, VOf2, AwakeE, SemL. -/
import Derived.Test.YtgoeiflddikihaaGreatDoorCsM11
import Derived.Deep.CutRange
import Derived.Test.YtgoeiflddikihaaGreatDoorCsM10
import Derived.Test.YtgoeiflddikihaaGreatDoorCsM6
import Derived.Deep.Cut
section
namespace Go.Proofs.YtgoeiflddikihaaGreatDoor.Ver
set_option linter.unusedSimpArgs false
open Go.RowKit Go.Proofs.YtgoeiflddikihaaGreatDoor.Dig Go.Proofs.YtgoeiflddikihaaGreatDoorW.PrintWords
def told (ty : Int) (text caret revision branch version under unpaired : ByteArray) (paired : Bool) : Value :=
  .agg #[.int .i64 ty, .string text, .string caret, .string revision, .string branch, .string version, .string under, .string unpaired, .bool paired]
abbrev zTold : Array Value := #[.int .i64 0, .string ⟨#[]⟩, .string ⟨#[]⟩, .string ⟨#[]⟩, .string ⟨#[]⟩, .string ⟨#[]⟩, .string ⟨#[]⟩, .string ⟨#[]⟩, .bool false]
theorem res_at {w w1 : World} {x y : Obj} (hb : Below ((w.alloc x).alloc y).heap.size ((w.alloc x).alloc y) w1) : w1.heap[w.heap.size + 1]? = some y := by
  have h := blk_below (alloc_at (w.alloc x) y) hb
  rw [alloc_size] at h
  exact h
set_option maxRecDepth 20000 in
set_option maxHeartbeats 4000000 in
theorem of_plain (k : Int) (t r : ByteArray) (ht : t.size ≤ 2147483647) (w : World) (hv : Vars w) (n : ByteArray) (hx : verV k t r = .un (.plain n)) :
    Calls Tryz.prog 35 #[.agg #[.int .i64 k, .string t, .string r]] w fun e w' => e = .returned (told 1 n n ⟨#[]⟩ ⟨#[]⟩ n ⟨#[]⟩ ⟨#[]⟩ false) ∧ Below w.heap.size w w' := by
  have HR := Lib.hid (fun W hb => ver_any k t r ht W (Vars.below (w := w) hv hb))
  have hc := comp_plain n
  dsimp only [Vers.val, Vers.tid, Vers.inner, Unp.val, Unp.tid, Unp.inner, SV.cells] at hc
  have HC := Lib.hid hc
  clear hc
  have HB := Aside0.mk (Below.refl w.heap.size w)
  clear hv
  have HX := Lib.hid hx
  clear hx
  have h1 := a_plain_P
  have h3 := m_plain_Type
  have h4 := m_plain_String
  have h5 := m_plain_ImpliedCaretString
  go_enter Tryz.func35, Tryz.ntmps35
  go_wp2_with (first
    | (go_at_call 66; ((with_reducible refine (HR.out _ (by repeat (first | exact HB.out | apply below_alloc | apply pw_below_drewN))).mono ?_); rintro e w5 ⟨rfl, hb⟩; rw [HX.out]; refine Hid.out ?_)))
  have hres := res_at hb
  have HB5 := Aside0.mk (below_trans (by repeat (first | exact HB.out | apply below_alloc | apply pw_below_drewN)) hb)
  clear hb
  have HRES := Aside0.mk hres
  clear hres
  dsimp only [Vers.val, Vers.tid, Vers.inner, Unp.val, Unp.tid, Unp.inner, SV.cells]
  refine Lib.hid ?_
  go_wp2_with (first
    | (go_at_call 75; ((with_reducible refine (HC.out _).mono ?_); rintro e w6 ⟨rfl, hb⟩; refine Hid.out ?_))
    | go_in)
  have hk4 := blk_below (alloc_at w5 _) hb
  have HRES6 := Aside0.mk (blk_below (blk_alloc HRES.out _) hb)
  have HB6 := Aside0.mk (below_trans HB5.out (below_trans (below_alloc (Below.refl _ _) _) hb))
  have hsz : w.heap.size ≤ w5.heap.size := HB5.out.size
  have HNE := Lib.hid (show w.heap.size + 1 ≠ w5.heap.size from Nat.ne_of_lt (blk_lt HRES.out))
  have HSZ := Lib.hid hsz
  have HK4 := Aside0.mk hk4
  clear hsz
  have z4 := blk_cell hk4 4
  have y4 := blk_frozen hk4 4
  have z5 := blk_cell hk4 5
  have y5 := blk_frozen hk4 5
  have z6 := blk_cell hk4 6
  have y6 := blk_frozen hk4 6
  clear hk4 hb
  refine Lib.hid ?_
  go_upto_region 4 with go_in
  clear z4 z5 z6 y4 y5 y6
  go_cut [5, 6] from 26 to 30 (fun v5 v6 wx => v5 = .nilIface ∧ v6 = .bool false ∧ Aside0 (Below w.heap.size w wx) ∧ Aside0 (wx.heap[w5.heap.size]? = some (.cells #[.int .i64 1, .string n, .string n, .string ⟨#[]⟩, .string ⟨#[]⟩, .string n, .string ⟨#[]⟩, .string ⟨#[]⟩, .bool false] 54 (0, 0))) ∧ Aside0 (wx.heap[w.heap.size + 1]? = some (.cells zTold 54 (0, 0))))
  case first =>
    go_wp2_with fail
    go_meet
    case rel => exact ⟨rfl, rfl, ⟨((HB6.out.setCell (by show _ ≤ w5.heap.size; exact HSZ.out) _).setCell (by show _ ≤ w5.heap.size; exact HSZ.out) _).setCell (by show _ ≤ w5.heap.size; exact HSZ.out) _⟩, ⟨blk_put (blk_put (blk_put HK4.out 6 _ rfl) 4 _ rfl) 5 _ rfl⟩, ⟨blk_far (blk_far (blk_far HRES6.out (p := ⟨w5.heap.size, 6, none⟩) HNE.out _) (p := ⟨w5.heap.size, 4, none⟩) HNE.out _) (p := ⟨w5.heap.size, 5, none⟩) HNE.out _⟩⟩
  case rest =>
    obtain ⟨rfl, rfl, HB7, HK7, HR7⟩ := hcut
    have z0 := blk_cell HK7.out 0
    have y0 := blk_frozen HK7.out 0
    have z1 := blk_cell HK7.out 1
    have y1 := blk_frozen HK7.out 1
    have z2 := blk_cell HK7.out 2
    have y2 := blk_frozen HK7.out 2
    have z3 := blk_cell HK7.out 3
    have y3 := blk_frozen HK7.out 3
    have z4 := blk_cell HK7.out 4
    have y4 := blk_frozen HK7.out 4
    have z5 := blk_cell HK7.out 5
    have y5 := blk_frozen HK7.out 5
    have z6 := blk_cell HK7.out 6
    have y6 := blk_frozen HK7.out 6
    have z7 := blk_cell HK7.out 7
    have y7 := blk_frozen HK7.out 7
    have z8 := blk_cell HK7.out 8
    have y8 := blk_frozen HK7.out 8
    have r0 := blk_cell HR7.out 0
    have t0 := blk_frozen HR7.out 0
    have r1 := blk_cell HR7.out 1
    have t1 := blk_frozen HR7.out 1
    have r2 := blk_cell HR7.out 2
    have t2 := blk_frozen HR7.out 2
    have r3 := blk_cell HR7.out 3
    have t3 := blk_frozen HR7.out 3
    have r4 := blk_cell HR7.out 4
    have t4 := blk_frozen HR7.out 4
    have r5 := blk_cell HR7.out 5
    have t5 := blk_frozen HR7.out 5
    have r6 := blk_cell HR7.out 6
    have t6 := blk_frozen HR7.out 6
    have r7 := blk_cell HR7.out 7
    have t7 := blk_frozen HR7.out 7
    have r8 := blk_cell HR7.out 8
    have t8 := blk_frozen HR7.out 8
    go_wp2_with fail
    refine bodyPost_ret (v := told 1 n n ⟨#[]⟩ ⟨#[]⟩ n ⟨#[]⟩ ⟨#[]⟩ false) (by simp [told, results, Tryz.results35, go_sem, *]) rfl ⟨rfl, ?_⟩
    exact (((((((((HB7.out).setCell (by show _ ≤ w.heap.size + 1; omega) _).setCell (by show _ ≤ w.heap.size + 1; omega) _).setCell (by show _ ≤ w.heap.size + 1; omega) _).setCell (by show _ ≤ w.heap.size + 1; omega) _).setCell (by show _ ≤ w.heap.size + 1; omega) _).setCell (by show _ ≤ w.heap.size + 1; omega) _).setCell (by show _ ≤ w.heap.size + 1; omega) _).setCell (by show _ ≤ w.heap.size + 1; omega) _).setCell (by show _ ≤ w.heap.size + 1; omega) _
end Go.Proofs.YtgoeiflddikihaaGreatDoor.Ver
end
section
namespace Go.Proofs.YtgoeiflddikihaaGreatDoor.Ver
set_option linter.unusedSimpArgs false
set_option linter.unusedVariables false
open Go.RowKit Go.Proofs.YtgoeiflddikihaaGreatDoor.Dig Go.Proofs.YtgoeiflddikihaaGreatDoorW.PrintWords
theorem alloc_at' {w : World} {o : Obj} {n : Nat} (h : n = w.heap.size) : (w.alloc o).heap[n]? = some o := by rw [h]; exact alloc_at w o
set_option maxRecDepth 20000 in
set_option maxHeartbeats 4000000 in
theorem of_sem (k : Int) (t r : ByteArray) (ht : t.size ≤ 2147483647) (w : World) (hv : Vars w) (v : SV) (hk : SVok v) (ho : v.orig ≠ ⟨#[]⟩) (hcs : ¬ 9223372036854775807 < 1 + (semB v).size) (hx : verV k t r = .un (.sem v)) :
    Calls Tryz.prog 35 #[.agg #[.int .i64 k, .string t, .string r]] w fun e w' => e = .returned (told 2 v.orig (⟨#[61]⟩ ++ semB v) ⟨#[]⟩ ⟨#[]⟩ v.orig ⟨#[]⟩ ⟨#[]⟩ false) ∧ Below w.heap.size w w' := by
  have HR := Lib.hid (fun W hb => ver_any k t r ht W (Vars.below (w := w) hv hb))
  have hc := comp_sem v ho
  dsimp only [Vers.val, Vers.tid, Vers.inner, Unp.val, Unp.tid, Unp.inner, SV.cells] at hc
  have HC := Lib.hid hc
  clear hc
  have HB := Aside0.mk (Below.refl w.heap.size w)
  have hs := fun W hb => semStr_any v hk W (Vars.below (w := w) hv hb)
  dsimp only [SV.cells] at hs
  have HS := Lib.hid hs
  have e1 : v.orig.toList.isEmpty = false := isEmpty_false (size_pos ho)
  have HSZ := Lib.hid hcs
  clear hs ho hcs
  clear hv
  have HX := Lib.hid hx
  clear hx
  have a_sem_P' := a_sem_P
  have m_sem_Type' := m_sem_Type
  have m_sem_String' := m_sem_String
  have m_sem_ImpliedCaretString' := m_sem_ImpliedCaretString
  go_enter Tryz.func35, Tryz.ntmps35
  go_wp2_with (first
    | (go_at_call 66; ((with_reducible refine (HR.out _ (by repeat (first | exact HB.out | apply below_alloc | apply pw_below_drewN))).mono ?_); rintro e w5 ⟨rfl, hb⟩; rw [HX.out]; refine Hid.out ?_)))
  have HRES := Aside0.mk (res_at hb)
  have HB5 := Aside0.mk (below_trans (by repeat (first | exact HB.out | apply below_alloc | apply pw_below_drewN)) hb)
  clear hb
  dsimp only [Vers.val, Vers.tid, Vers.inner, Unp.val, Unp.tid, Unp.inner, SV.cells]
  refine Lib.hid ?_
  go_upto_region 2 with fail
  go_cut [4] from 9 to 16 (fun v4 wx => ∃ g : Nat, v4 = .pointer (some ⟨g, 0, none⟩) ∧ w.heap.size + 1 < g ∧ Aside0 (Below w.heap.size w wx) ∧ Aside0 (wx.heap[g]? = some (.cells #[.int .i64 2, .string v.orig, .string (⟨#[61]⟩ ++ semB v), .string ⟨#[]⟩, .string ⟨#[]⟩, .string ⟨#[]⟩, .string ⟨#[]⟩, .string ⟨#[]⟩, .bool false] 54 (0, 0))) ∧ Aside0 (wx.heap[w.heap.size + 1]? = some (.cells zTold 54 (0, 0))))
  case first =>
    go_wp2_with (first
      | (go_at_call 233; ((with_reducible refine (HS.out _ (by repeat (first | exact HB5.out | apply below_alloc | apply pw_below_drewN))).mono ?_); rintro e w7 ⟨rfl, hb⟩; have HB7 := Aside0.mk (below_trans (by repeat (first | exact HB5.out | apply below_alloc | apply pw_below_drewN)) hb); have HR7 := Aside0.mk (blk_below (by repeat (first | exact HRES.out | apply blk_alloc)) hb); have hcs := HSZ.out; clear hb))
      | go_in)
    go_meet
    case rel => exact ⟨_, rfl, (by (try simp only [alloc_size]); have := blk_lt HR7.out; omega), ⟨by repeat (first | exact HB7.out | apply below_alloc | apply pw_below_drewN)⟩, ⟨alloc_at' (by simp [alloc_size])⟩, ⟨by repeat (first | exact HR7.out | apply blk_alloc)⟩⟩
  case rest =>
    clear HB5 HRES
    obtain ⟨g, rfl, hg, HB5, HK, HRES⟩ := hcut
    have HG := Lib.hid hg
    clear hg
    go_upto_region 4 with (first
      | (go_at_call 75; ((with_reducible refine (HC.out _).mono ?_); rintro e w6 ⟨rfl, hb⟩; refine Hid.out ?_))
      | go_in)
    have HK6 := Aside0.mk (blk_below HK.out hb)
    have HR6 := Aside0.mk (blk_below HRES.out hb)
    have HB6 := Aside0.mk (below_trans HB5.out hb)
    have z4 := blk_cell HK6.out 4
    have y4 := blk_frozen HK6.out 4
    have z5 := blk_cell HK6.out 5
    have y5 := blk_frozen HK6.out 5
    have z6 := blk_cell HK6.out 6
    have y6 := blk_frozen HK6.out 6
    clear hb
    refine Lib.hid ?_
    go_upto_region 4 with go_in
    clear z4 z5 z6 y4 y5 y6
    go_cut [5, 6] from 26 to 30 (fun v5 v6 wx => v5 = .nilIface ∧ v6 = .bool false ∧ Aside0 (Below w.heap.size w wx) ∧ Aside0 (wx.heap[g]? = some (.cells #[.int .i64 2, .string v.orig, .string (⟨#[61]⟩ ++ semB v), .string ⟨#[]⟩, .string ⟨#[]⟩, .string v.orig, .string ⟨#[]⟩, .string ⟨#[]⟩, .bool false] 54 (0, 0))) ∧ Aside0 (wx.heap[w.heap.size + 1]? = some (.cells zTold 54 (0, 0))))
    case first =>
      go_wp2_with fail
      go_meet
      case rel => exact ⟨rfl, rfl, ⟨((HB6.out.setCell (by show _ ≤ g; have := HG.out; omega) _).setCell (by show _ ≤ g; have := HG.out; omega) _).setCell (by show _ ≤ g; have := HG.out; omega) _⟩, ⟨blk_put (blk_put (blk_put HK6.out 6 _ rfl) 4 _ rfl) 5 _ rfl⟩, ⟨blk_far (blk_far (blk_far HR6.out (p := ⟨g, 6, none⟩) (Nat.ne_of_lt HG.out) _) (p := ⟨g, 4, none⟩) (Nat.ne_of_lt HG.out) _) (p := ⟨g, 5, none⟩) (Nat.ne_of_lt HG.out) _⟩⟩
    case rest =>
      clear HB6 HK6 HR6 HB5 HK HRES
      obtain ⟨rfl, rfl, HB7, HK7, HR7⟩ := hcut
      have z0 := blk_cell HK7.out 0
      have y0 := blk_frozen HK7.out 0
      have z1 := blk_cell HK7.out 1
      have y1 := blk_frozen HK7.out 1
      have z2 := blk_cell HK7.out 2
      have y2 := blk_frozen HK7.out 2
      have z3 := blk_cell HK7.out 3
      have y3 := blk_frozen HK7.out 3
      have z4 := blk_cell HK7.out 4
      have y4 := blk_frozen HK7.out 4
      have z5 := blk_cell HK7.out 5
      have y5 := blk_frozen HK7.out 5
      have z6 := blk_cell HK7.out 6
      have y6 := blk_frozen HK7.out 6
      have z7 := blk_cell HK7.out 7
      have y7 := blk_frozen HK7.out 7
      have z8 := blk_cell HK7.out 8
      have y8 := blk_frozen HK7.out 8
      have r0 := blk_cell HR7.out 0
      have t0 := blk_frozen HR7.out 0
      have r1 := blk_cell HR7.out 1
      have t1 := blk_frozen HR7.out 1
      have r2 := blk_cell HR7.out 2
      have t2 := blk_frozen HR7.out 2
      have r3 := blk_cell HR7.out 3
      have t3 := blk_frozen HR7.out 3
      have r4 := blk_cell HR7.out 4
      have t4 := blk_frozen HR7.out 4
      have r5 := blk_cell HR7.out 5
      have t5 := blk_frozen HR7.out 5
      have r6 := blk_cell HR7.out 6
      have t6 := blk_frozen HR7.out 6
      have r7 := blk_cell HR7.out 7
      have t7 := blk_frozen HR7.out 7
      have r8 := blk_cell HR7.out 8
      have t8 := blk_frozen HR7.out 8
      have hg := HG.out
      go_wp2_with fail
      refine bodyPost_ret (v := told 2 v.orig (⟨#[61]⟩ ++ semB v) ⟨#[]⟩ ⟨#[]⟩ v.orig ⟨#[]⟩ ⟨#[]⟩ false) (by simp [told, results, Tryz.results35, go_sem, *]) rfl ⟨rfl, ?_⟩
      exact (((((((((HB7.out).setCell (by show _ ≤ w.heap.size + 1; omega) _).setCell (by show _ ≤ w.heap.size + 1; omega) _).setCell (by show _ ≤ w.heap.size + 1; omega) _).setCell (by show _ ≤ w.heap.size + 1; omega) _).setCell (by show _ ≤ w.heap.size + 1; omega) _).setCell (by show _ ≤ w.heap.size + 1; omega) _).setCell (by show _ ≤ w.heap.size + 1; omega) _).setCell (by show _ ≤ w.heap.size + 1; omega) _).setCell (by show _ ≤ w.heap.size + 1; omega) _
set_option maxRecDepth 20000 in
set_option maxHeartbeats 4000000 in
theorem of_psem (k : Int) (t r : ByteArray) (ht : t.size ≤ 2147483647) (w : World) (hv : Vars w) (v : SV) (hk : SVok v) (ho : v.orig ≠ ⟨#[]⟩) (hcs : ¬ 9223372036854775807 < 1 + (semB v).size) (q : ByteArray) (hx : verV k t r = .pair (.sem v) q) :
    Calls Tryz.prog 35 #[.agg #[.int .i64 k, .string t, .string r]] w fun e w' => e = .returned (told 2 v.orig (⟨#[61]⟩ ++ semB v) q ⟨#[]⟩ v.orig q v.orig true) ∧ Below w.heap.size w w' := by
  have HR := Lib.hid (fun W hb => ver_any k t r ht W (Vars.below (w := w) hv hb))
  have hc := comp_psem v ho q
  dsimp only [Vers.val, Vers.tid, Vers.inner, Unp.val, Unp.tid, Unp.inner, SV.cells] at hc
  have HC := Lib.hid hc
  clear hc
  have HB := Aside0.mk (Below.refl w.heap.size w)
  have hs := fun W hb => semStr_any v hk W (Vars.below (w := w) hv hb)
  dsimp only [SV.cells] at hs
  have HS := Lib.hid hs
  have e1 : v.orig.toList.isEmpty = false := isEmpty_false (size_pos ho)
  have HSZ := Lib.hid hcs
  clear hs ho hcs
  clear hv
  have HX := Lib.hid hx
  clear hx
  have a_sem_P' := a_sem_P
  have m_sem_Type' := m_sem_Type
  have m_sem_String' := m_sem_String
  have m_sem_ImpliedCaretString' := m_sem_ImpliedCaretString
  have a_pair_P' := a_pair_P
  have m_pair_Type' := m_pair_Type
  have m_pair_String' := m_pair_String
  have m_pair_ImpliedCaretString' := m_pair_ImpliedCaretString
  have m_pair_Revision' := m_pair_Revision
  have m_pair_Unpair' := m_pair_Unpair
  go_enter Tryz.func35, Tryz.ntmps35
  go_wp2_with (first
    | (go_at_call 66; ((with_reducible refine (HR.out _ (by repeat (first | exact HB.out | apply below_alloc | apply pw_below_drewN))).mono ?_); rintro e w5 ⟨rfl, hb⟩; rw [HX.out]; refine Hid.out ?_)))
  have HRES := Aside0.mk (res_at hb)
  have HB5 := Aside0.mk (below_trans (by repeat (first | exact HB.out | apply below_alloc | apply pw_below_drewN)) hb)
  clear hb
  dsimp only [Vers.val, Vers.tid, Vers.inner, Unp.val, Unp.tid, Unp.inner, SV.cells]
  refine Lib.hid ?_
  go_upto_region 2 with fail
  go_cut [4] from 9 to 16 (fun v4 wx => ∃ g : Nat, v4 = .pointer (some ⟨g, 0, none⟩) ∧ w.heap.size + 1 < g ∧ Aside0 (Below w.heap.size w wx) ∧ Aside0 (wx.heap[g]? = some (.cells #[.int .i64 2, .string v.orig, .string (⟨#[61]⟩ ++ semB v), .string ⟨#[]⟩, .string ⟨#[]⟩, .string ⟨#[]⟩, .string ⟨#[]⟩, .string ⟨#[]⟩, .bool false] 54 (0, 0))) ∧ Aside0 (wx.heap[w.heap.size + 1]? = some (.cells zTold 54 (0, 0))))
  case first =>
    go_wp2_with (first
      | (go_at_call 233; ((with_reducible refine (HS.out _ (by repeat (first | exact HB5.out | apply below_alloc | apply pw_below_drewN))).mono ?_); rintro e w7 ⟨rfl, hb⟩; have HB7 := Aside0.mk (below_trans (by repeat (first | exact HB5.out | apply below_alloc | apply pw_below_drewN)) hb); have HR7 := Aside0.mk (blk_below (by repeat (first | exact HRES.out | apply blk_alloc)) hb); have hcs := HSZ.out; clear hb))
      | go_in)
    go_meet
    case rel => exact ⟨_, rfl, (by (try simp only [alloc_size]); have := blk_lt HR7.out; omega), ⟨by repeat (first | exact HB7.out | apply below_alloc | apply pw_below_drewN)⟩, ⟨alloc_at' (by simp [alloc_size])⟩, ⟨by repeat (first | exact HR7.out | apply blk_alloc)⟩⟩
  case rest =>
    clear HB5 HRES
    obtain ⟨g, rfl, hg, HB5, HK, HRES⟩ := hcut
    have HG := Lib.hid hg
    clear hg
    go_upto_region 4 with (first
      | (go_at_call 75; ((with_reducible refine (HC.out _).mono ?_); rintro e w6 ⟨rfl, hb⟩; refine Hid.out ?_))
      | go_in)
    have HK6 := Aside0.mk (blk_below HK.out hb)
    have HR6 := Aside0.mk (blk_below HRES.out hb)
    have HB6 := Aside0.mk (below_trans HB5.out hb)
    have z4 := blk_cell HK6.out 4
    have y4 := blk_frozen HK6.out 4
    have z5 := blk_cell HK6.out 5
    have y5 := blk_frozen HK6.out 5
    have z6 := blk_cell HK6.out 6
    have y6 := blk_frozen HK6.out 6
    clear hb
    refine Lib.hid ?_
    go_upto_region 4 with go_in
    clear z4 z5 z6 y4 y5 y6
    go_cut [5, 6] from 26 to 30 (fun v5 v6 wx => v5 = .iface 212 (.agg #[.iface 200 (.agg #[.int .u64 v.major, .int .u64 v.minor, .int .u64 v.patch, .string v.pre, .string v.mt, .string v.orig]), .string q]) ∧ v6 = .bool true ∧ Aside0 (Below w.heap.size w wx) ∧ Aside0 (wx.heap[g]? = some (.cells #[.int .i64 2, .string v.orig, .string (⟨#[61]⟩ ++ semB v), .string ⟨#[]⟩, .string ⟨#[]⟩, .string v.orig, .string q, .string ⟨#[]⟩, .bool false] 54 (0, 0))) ∧ Aside0 (wx.heap[w.heap.size + 1]? = some (.cells zTold 54 (0, 0))))
    case first =>
      go_wp2_with fail
      go_meet
      case rel => exact ⟨rfl, rfl, ⟨((HB6.out.setCell (by show _ ≤ g; have := HG.out; omega) _).setCell (by show _ ≤ g; have := HG.out; omega) _).setCell (by show _ ≤ g; have := HG.out; omega) _⟩, ⟨blk_put (blk_put (blk_put HK6.out 6 _ rfl) 4 _ rfl) 5 _ rfl⟩, ⟨blk_far (blk_far (blk_far HR6.out (p := ⟨g, 6, none⟩) (Nat.ne_of_lt HG.out) _) (p := ⟨g, 4, none⟩) (Nat.ne_of_lt HG.out) _) (p := ⟨g, 5, none⟩) (Nat.ne_of_lt HG.out) _⟩⟩
    case rest =>
      clear HB6 HK6 HR6 HB5 HK HRES
      obtain ⟨rfl, rfl, HB7, HK7, HR7⟩ := hcut
      go_upto_region 6 with fail
      have HA := Aside0.mk (blk_alloc (blk_alloc (blk_alloc (blk_alloc (HK7.out) (.cells #[.iface 200 (.agg #[.int .u64 v.major, .int .u64 v.minor, .int .u64 v.patch, .string v.pre, .string v.mt, .string v.orig]), .string q] 212)) (.cells #[.iface 200 (.agg #[.int .u64 v.major, .int .u64 v.minor, .int .u64 v.patch, .string v.pre, .string v.mt, .string v.orig]), .string q] 212)) (.cells #[.int .u64 v.major, .int .u64 v.minor, .int .u64 v.patch, .string v.pre, .string v.mt, .string v.orig] 200)) (.cells #[.int .u64 v.major, .int .u64 v.minor, .int .u64 v.patch, .string v.pre, .string v.mt, .string v.orig] 197))
      have HAR := Aside0.mk (blk_alloc (blk_alloc (blk_alloc (blk_alloc (HR7.out) (.cells #[.iface 200 (.agg #[.int .u64 v.major, .int .u64 v.minor, .int .u64 v.patch, .string v.pre, .string v.mt, .string v.orig]), .string q] 212)) (.cells #[.iface 200 (.agg #[.int .u64 v.major, .int .u64 v.minor, .int .u64 v.patch, .string v.pre, .string v.mt, .string v.orig]), .string q] 212)) (.cells #[.int .u64 v.major, .int .u64 v.minor, .int .u64 v.patch, .string v.pre, .string v.mt, .string v.orig] 200)) (.cells #[.int .u64 v.major, .int .u64 v.minor, .int .u64 v.patch, .string v.pre, .string v.mt, .string v.orig] 197))
      have z8 := blk_cell HA.out 8
      have y8 := blk_frozen HA.out 8
      have z3 := blk_cell HA.out 3
      have y3 := blk_frozen HA.out 3
      have z7 := blk_cell HA.out 7
      have y7 := blk_frozen HA.out 7
      go_cut [33] from 32 to 39 (fun _ wx => Aside0 (Below w.heap.size w wx) ∧ Aside0 (wx.heap[g]? = some (.cells #[.int .i64 2, .string v.orig, .string (⟨#[61]⟩ ++ semB v), .string q, .string ⟨#[]⟩, .string v.orig, .string q, .string v.orig, .bool true] 54 (0, 0))) ∧ Aside0 (wx.heap[w.heap.size + 1]? = some (.cells zTold 54 (0, 0))))
      case first =>
        go_wp2_with go_in
        go_meet
        case rel => exact ⟨⟨(((below_alloc (below_alloc (below_alloc (below_alloc (HB7.out) (.cells #[.iface 200 (.agg #[.int .u64 v.major, .int .u64 v.minor, .int .u64 v.patch, .string v.pre, .string v.mt, .string v.orig]), .string q] 212)) (.cells #[.iface 200 (.agg #[.int .u64 v.major, .int .u64 v.minor, .int .u64 v.patch, .string v.pre, .string v.mt, .string v.orig]), .string q] 212)) (.cells #[.int .u64 v.major, .int .u64 v.minor, .int .u64 v.patch, .string v.pre, .string v.mt, .string v.orig] 200)) (.cells #[.int .u64 v.major, .int .u64 v.minor, .int .u64 v.patch, .string v.pre, .string v.mt, .string v.orig] 197)).setCell (by show _ ≤ g; have := HG.out; omega) _).setCell (by show _ ≤ g; have := HG.out; omega) _).setCell (by show _ ≤ g; have := HG.out; omega) _⟩, ⟨blk_put (blk_put (blk_put HA.out 8 _ rfl) 3 _ rfl) 7 _ rfl⟩, ⟨blk_far (blk_far (blk_far HAR.out (p := ⟨g, 8, none⟩) (Nat.ne_of_lt HG.out) _) (p := ⟨g, 3, none⟩) (Nat.ne_of_lt HG.out) _) (p := ⟨g, 7, none⟩) (Nat.ne_of_lt HG.out) _⟩⟩
      case rest =>
        clear z8 z3 z7 y8 y3 y7 HA HAR HB7 HK7 HR7
        obtain ⟨HB8, HK8, HR8⟩ := hcut
        have z0 := blk_cell HK8.out 0
        have y0 := blk_frozen HK8.out 0
        have z1 := blk_cell HK8.out 1
        have y1 := blk_frozen HK8.out 1
        have z2 := blk_cell HK8.out 2
        have y2 := blk_frozen HK8.out 2
        have z3 := blk_cell HK8.out 3
        have y3 := blk_frozen HK8.out 3
        have z4 := blk_cell HK8.out 4
        have y4 := blk_frozen HK8.out 4
        have z5 := blk_cell HK8.out 5
        have y5 := blk_frozen HK8.out 5
        have z6 := blk_cell HK8.out 6
        have y6 := blk_frozen HK8.out 6
        have z7 := blk_cell HK8.out 7
        have y7 := blk_frozen HK8.out 7
        have z8 := blk_cell HK8.out 8
        have y8 := blk_frozen HK8.out 8
        have r0 := blk_cell HR8.out 0
        have t0 := blk_frozen HR8.out 0
        have r1 := blk_cell HR8.out 1
        have t1 := blk_frozen HR8.out 1
        have r2 := blk_cell HR8.out 2
        have t2 := blk_frozen HR8.out 2
        have r3 := blk_cell HR8.out 3
        have t3 := blk_frozen HR8.out 3
        have r4 := blk_cell HR8.out 4
        have t4 := blk_frozen HR8.out 4
        have r5 := blk_cell HR8.out 5
        have t5 := blk_frozen HR8.out 5
        have r6 := blk_cell HR8.out 6
        have t6 := blk_frozen HR8.out 6
        have r7 := blk_cell HR8.out 7
        have t7 := blk_frozen HR8.out 7
        have r8 := blk_cell HR8.out 8
        have t8 := blk_frozen HR8.out 8
        have hg := HG.out
        go_wp2_with fail
        refine bodyPost_ret (v := told 2 v.orig (⟨#[61]⟩ ++ semB v) q ⟨#[]⟩ v.orig q v.orig true) (by simp [told, results, Tryz.results35, go_sem, *]) rfl ⟨rfl, ?_⟩
        exact (((((((((HB8.out).setCell (by show _ ≤ w.heap.size + 1; omega) _).setCell (by show _ ≤ w.heap.size + 1; omega) _).setCell (by show _ ≤ w.heap.size + 1; omega) _).setCell (by show _ ≤ w.heap.size + 1; omega) _).setCell (by show _ ≤ w.heap.size + 1; omega) _).setCell (by show _ ≤ w.heap.size + 1; omega) _).setCell (by show _ ≤ w.heap.size + 1; omega) _).setCell (by show _ ≤ w.heap.size + 1; omega) _).setCell (by show _ ≤ w.heap.size + 1; omega) _
end Go.Proofs.YtgoeiflddikihaaGreatDoor.Ver
end
section
namespace Go.Proofs.YtgoeiflddikihaaGreatDoor.Ver
set_option linter.unusedSimpArgs false
open Go.RowKit Go.Proofs.YtgoeiflddikihaaGreatDoor.Dig Go.Proofs.YtgoeiflddikihaaGreatDoorW.PrintWords Go.Proofs.YtgoeiflddikihaaGreatDoor.Mem Go.Sort Go.Proofs.YtgoeiflddikihaaGreatDoor.Srt
theorem rowTold : RowT Tryz.prog 54 9 := ⟨⟨_, Tryz.underlying54, rfl⟩, by kernel_rfl⟩
theorem zeroTold : (Tryz.prog.info? 54).bind (fun i => i.zero.map (·.cells)) = some zTold := by kernel_rfl
abbrev t123 : ByteArray := ⟨#[118, 49, 46, 50, 46, 51]⟩
abbrev tr : ByteArray := ⟨#[114]⟩
abbrev tdev : ByteArray := ⟨#[100, 101, 118]⟩
abbrev t100 : ByteArray := ⟨#[49, 46, 48, 46, 48]⟩
abbrev t110 : ByteArray := ⟨#[49, 46, 49, 46, 48]⟩
def v123 : SV := ⟨1, 2, 3, ⟨#[]⟩, ⟨#[]⟩, t123⟩
theorem read123 : readV t123 = some (v123, 3) := by kernel_rfl
theorem of123 (w : World) (hv : Vars w) : Calls Tryz.prog 35 #[.agg #[.int .i64 3, .string t123, .string tr]] w fun e w' => e = .returned (told 2 t123 (⟨#[61]⟩ ++ semB v123) tr ⟨#[]⟩ t123 tr t123 true) ∧ Below w.heap.size w w' :=
  of_psem 3 t123 tr (by decide) w hv v123 (readV_ok' (by decide) read123).1 (by decide) (by rw [show (semB v123).size = 5 by kernel_rfl]; omega) tr (by kernel_rfl)
def x0 : VD := ⟨1, tdev, ⟨#[]⟩, by decide⟩
def x1 : VD := ⟨3, t100, ⟨#[]⟩, by decide⟩
def x2 : VD := ⟨3, t110, ⟨#[]⟩, by decide⟩
abbrev In3 : Array Value := #[.int .i64 1, .string tdev, .string ⟨#[]⟩, .int .i64 3, .string t100, .string ⟨#[]⟩, .int .i64 3, .string t110, .string ⟨#[]⟩]
def Out3 : List Value := [.int .i64 3, .string t110, .string ⟨#[]⟩, .int .i64 3, .string t100, .string ⟨#[]⟩, .int .i64 1, .string tdev, .string ⟨#[]⟩]
theorem bs_v3 : Tryz.prog.builtSlice 27 3 [(0, .agg #[.int .i64 1, .string tdev, .string ⟨#[]⟩]), (1, .agg #[.int .i64 3, .string t100, .string ⟨#[]⟩]), (2, .agg #[.int .i64 3, .string t110, .string ⟨#[]⟩])] = some In3 := by kernel_rfl
theorem at3 {w : World} {b : Nat} (h : w.rangeAt b 0 In3.toList) : AtV w (.slice (some ⟨b, 0, none⟩) 3 3) [x0, x1, x2] := by
  refine ⟨⟨some ⟨b, 0, none⟩, 3, rfl, fun _ => ⟨b, 0, rfl, fun i hi => ?_⟩⟩⟩
  have h3 : i < 3 := hi
  rcases i with _ | _ | _ | i
  · exact ⟨h 0 _ rfl, h 1 _ rfl, h 2 _ rfl⟩
  · exact ⟨h 3 _ rfl, h 4 _ rfl, h 5 _ rfl⟩
  · exact ⟨h 6 _ rfl, h 7 _ rfl, h 8 _ rfl⟩
  · omega
theorem lt21 : ltV false x2.ver x1.ver = true := by kernel_rfl
theorem lt20 : ltV false x2.ver x0.ver = true := by kernel_rfl
theorem lt10 : ltV false x1.ver x0.ver = true := by kernel_rfl
def Sort3End (w : World) (e : Ending) (w' : World) : Prop :=
  ∃ g cap cells rest, e = .returned (.slice (some ⟨g, 0, none⟩) 3 cap) ∧ w.heap.size ≤ g ∧ w'.heap[g]? = some (.cells cells 27 (0, 0)) ∧ cells.toList = Out3 ++ rest ∧ Below w.heap.size w w'
theorem sort3 (b : Nat) (w : World) (hv : Vars w) (h : w.rangeAt b 0 In3.toList) : Calls Tryz.prog 37 #[.slice (some ⟨b, 0, none⟩) 3 3, .bool false, .bool false] w (Sort3End w) := by
  refine (sorted_up [x0, x1, x2] ⟨by decide, by decide⟩ _ w hv (at3 h)).mono ?_
  rintro e w' ⟨x, d', rfl, hp, hs, ho, hb⟩
  have hd := Awk.three (swo_ltV false) lt21 lt20 lt10 hp hs
  subst hd
  obtain ⟨g, cap, cells, rest, rfl, hg, hc, hl, _⟩ := row_block ho (by show 0 < 3; omega)
  exact ⟨g, cap, cells, rest, rfl, hg, hc, hl, hb⟩
set_option maxRecDepth 20000 in
set_option maxHeartbeats 4000000 in
theorem awake (w : World) (hv : Vars w) : Calls Tryz.prog 25 #[] w fun e w' => e = .returned (.bool true) ∧ Below w.heap.size w w' := by
  have HO := Lib.hid (fun W hb => of123 W (Vars.below (w := w) hv hb))
  have HS := Lib.hid (fun b W hb h => sort3 b W (Vars.below (w := w) hv hb) h)
  have HT := Lib.hid (fun W hb => matches120 W (Vars.below (w := w) hv hb))
  have HM := Aside0.mk (Blks.start w)
  generalize (⟨#[61]⟩ : ByteArray) ++ semB v123 = cs at HO
  unfold told at HO
  clear hv
  go_enter Tryz.func25, Tryz.ntmps25
  go_wp2_with (first
    | (go_at_call 35; ((with_reducible refine (HO.out _ (Blks.bel (by repeat (first | exact HM.out | apply Blks.drewN | apply Blks.drew | apply Blks.other)))).mono ?_); rintro e w1 ⟨rfl, hb⟩; have HN := Aside0.mk (Blks.call (by repeat (first | exact HM.out | apply Blks.drewN | apply Blks.drew | apply Blks.other)) hb); clear HM hb; have HM := HN; clear HN))
    | (go_at_call 37; ((refine (HS.out _ _ (Blks.bel (by repeat (first | exact HM.out | apply Blks.drewN | apply Blks.drew | apply Blks.other))) (Blks.range HM.out (b := bq) (o := 0) (n := 9) (by repeat (first | exact List.Mem.head _ | apply List.Mem.tail)) (by repeat (first | exact Rd.nil | apply Rd.here | apply Rd.skip)))).mono ?_); rintro e w3 ⟨g3, cap3, cells3, rest3, rfl, hg, hc, hl, hb⟩; unfold Out3 at hl; have HN := Aside0.mk (Blks.add (by repeat (first | exact HM.out | apply Blks.drewN | apply Blks.drew | apply Blks.other)) hb hg hc hl); clear HM hb hg hc hl; have HM := HN; clear HN; refine Hid.out ?_))
    | (refine bk_load1 (by rfl) (by rfl) (by rfl) (by repeat (first | exact HM.out | apply Blks.drewN | apply Blks.drew | apply Blks.other)) (by repeat (first | exact List.Mem.head _ | apply List.Mem.tail)) (by first | exact oneS | exact oneSl | exact oneB | exact oneI) (by repeat (first | exact Rd.nil | apply Rd.here | apply Rd.skip)) ?_) | (refine bk_load (by rfl) (by rfl) (by rfl) (by repeat (first | exact HM.out | apply Blks.drewN | apply Blks.drew | apply Blks.other)) (by repeat (first | exact List.Mem.head _ | apply List.Mem.tail)) (by first | exact rowV | exact rowP | exact rowR | exact rowC | exact rowIV | exact rowTold) (by repeat (first | exact Rd.nil | apply Rd.here | apply Rd.skip)) ?_) | (refine bk_alloc (by rfl) (by rfl) (by repeat (first | exact HM.out | apply Blks.drewN | apply Blks.drew | apply Blks.other)) (by first | exact zeroTold) ?_; intro bt _ HN; clear HM; have HM := Aside0.mk HN; clear HN) | (refine bk_store1 (by rfl) (by rfl) (by rfl) (by rfl) (by first | exact (rfl : _ = Value.bool _) | exact (rfl : _ = Value.int _ _) | exact (rfl : _ = Value.string _) | exact (rfl : _ = Value.slice _ _ _) | exact (rfl : _ = Value.iface _ _) | exact (rfl : _ = Value.nilIface) | exact (rfl : _ = Value.pointer _)) (by repeat (first | exact HM.out | apply Blks.drewN | apply Blks.drew | apply Blks.other)) (by first | exact oneSl | exact oneB) (by rfl) (by repeat (first | exact List.Mem.head _ | apply List.Mem.tail)) (by repeat (first | exact Wr.nil | apply Wr.here | apply Wr.skip)) (by repeat (first | exact Up.here | apply Up.skip)) ?_; intro _ HN; clear HM; have HM := Aside0.mk HN; clear HN) | (refine bk_store (by rfl) (by rfl) (by rfl) (by rfl) (by rfl) (by repeat (first | exact HM.out | apply Blks.drewN | apply Blks.drew | apply Blks.other)) (by first | exact rowTold) (by rfl) (by simp [Value.oneCell']) (by repeat (first | exact List.Mem.head _ | apply List.Mem.tail)) (by repeat (first | exact Wr.nil | apply Wr.here | apply Wr.skip)) (by repeat (first | exact Up.here | apply Up.skip)) ?_; intro _ HN; clear HM; have HM := Aside0.mk HN; clear HN) | (refine bk_slice (by rfl) (by rfl) (by repeat (first | exact HM.out | apply Blks.drewN | apply Blks.drew | apply Blks.other)) Tryz.underlying23 (by rw [Array.toList_map]; exact bs_v3) ?_; intro bq _ HN; clear HM; have HM := Aside0.mk HN; clear HN))
  have r8 := HM.out.range (b := bt) (o := 8) (n := 1) (by repeat (first | exact List.Mem.head _ | apply List.Mem.tail)) (by repeat (first | exact Rd.nil | apply Rd.here | apply Rd.skip)) 0 _ rfl
  have r0 := HM.out.range (b := bt) (o := 0) (n := 1) (by repeat (first | exact List.Mem.head _ | apply List.Mem.tail)) (by repeat (first | exact Rd.nil | apply Rd.here | apply Rd.skip)) 0 _ rfl
  have r1 := HM.out.range (b := bt) (o := 1) (n := 1) (by repeat (first | exact List.Mem.head _ | apply List.Mem.tail)) (by repeat (first | exact Rd.nil | apply Rd.here | apply Rd.skip)) 0 _ rfl
  simp only [Nat.add_zero] at r8 r0 r1
  refine Lib.hid ?_
  go_wp2_with (first
    | (go_at_call 27; ((with_reducible refine (HT.out _ (Blks.bel (by repeat (first | exact HM.out | apply Blks.drewN | apply Blks.drew | apply Blks.other)))).mono ?_); rintro e w4 ⟨rfl, hb⟩; have HN := Aside0.mk (Blks.call (by repeat (first | exact HM.out | apply Blks.drewN | apply Blks.drew | apply Blks.other)) hb); clear HM hb; have HM := HN; clear HN; refine Hid.out ?_)))
  clear r8 r0 r1
  have r1 := HM.out.range (b := g3) (o := 1) (n := 1) (by repeat (first | exact List.Mem.head _ | apply List.Mem.tail)) (by repeat (first | exact Rd.nil | apply Rd.here | apply Rd.skip)) 0 _ rfl
  have r7 := HM.out.range (b := g3) (o := 7) (n := 1) (by repeat (first | exact List.Mem.head _ | apply List.Mem.tail)) (by repeat (first | exact Rd.nil | apply Rd.here | apply Rd.skip)) 0 _ rfl
  simp only [Nat.add_zero] at r1 r7
  refine Lib.hid ?_
  go_wp2_with fail
  go_ret
  exact ⟨rfl, HM.out.bel⟩
end Go.Proofs.YtgoeiflddikihaaGreatDoor.Ver
end
section
namespace Go.Proofs.YtgoeiflddikihaaGreatDoor.Ver
set_option linter.unusedSimpArgs false
set_option linter.unusedVariables false
open Go.RowKit Go.Proofs.YtgoeiflddikihaaGreatDoor.Dig Go.Proofs.YtgoeiflddikihaaGreatDoorW.PrintWords Go.Proofs.YtgoeiflddikihaaGreatDoor.Mem
theorem size_app (a b : ByteArray) : (a ++ b).size = a.size + b.size := ByteArray.size_append
theorem semB_size (v : SV) (hk : SVok v) : (semB v).size ≤ 10000000000 := by
  have h1 := decB_size _ hk.a0 hk.a1
  have h2 := decB_size _ hk.b0 hk.b1
  have h3 := decB_size _ hk.c0 hk.c1
  have h4 := hk.p
  have h5 := hk.m
  have e : ∀ b : UInt8, (⟨#[b]⟩ : ByteArray).size = 1 := fun _ => rfl
  unfold semB preB threeB
  split <;> split <;> simp only [size_app, e] <;> omega
theorem ver3 (t : ByteArray) : verV 3 t ⟨#[]⟩ = .un (newV t) := by
  unfold verV unpV
  rw [if_neg (by decide), if_neg (by decide), if_pos rfl]
  simp
theorem new_plain {t : ByteArray} (h : qSemB0 t.data.toList = none) : newV t = .plain t := by
  unfold newV; rw [readV_eq, qReadB, h]; rfl
theorem new_sem {t : ByteArray} (ht : t.size ≤ 2147483647) {q : List Nat × List UInt8 × List UInt8} (h : qSemB0 t.data.toList = some q) : ∃ v, newV t = .sem v ∧ SVok v ∧ v.orig = t := by
  have hr : ∃ v k, readV t = some (v, k) := by rw [readV_eq, qReadB, h]; exact ⟨_, _, rfl⟩
  obtain ⟨v, k, hr⟩ := hr
  have := readV_ok' ht hr
  exact ⟨v, by unfold newV; rw [hr], this.1, this.2⟩
theorem of3_plain {t : ByteArray} (ht : t.size ≤ 2147483647) (h : qSemB0 t.data.toList = none) (w : World) (hv : Vars w) :
    Calls Tryz.prog 35 #[.agg #[.int .i64 3, .string t, .string ⟨#[]⟩]] w fun e w' => e = .returned (told 1 t t ⟨#[]⟩ ⟨#[]⟩ t ⟨#[]⟩ ⟨#[]⟩ false) ∧ Below w.heap.size w w' :=
  of_plain 3 t ⟨#[]⟩ ht w hv t (by rw [ver3, new_plain h])
theorem of3_sem {t : ByteArray} (ht : t.size ≤ 2147483647) (h0 : 0 < t.size) {q : List Nat × List UInt8 × List UInt8} (h : qSemB0 t.data.toList = some q) : ∃ c, ∀ (w : World) (hv : Vars w),
    Calls Tryz.prog 35 #[.agg #[.int .i64 3, .string t, .string ⟨#[]⟩]] w fun e w' => e = .returned (told 2 t c ⟨#[]⟩ ⟨#[]⟩ t ⟨#[]⟩ ⟨#[]⟩ false) ∧ Below w.heap.size w w' := by
  obtain ⟨v, h1, h2, h3⟩ := new_sem ht h
  refine ⟨⟨#[61]⟩ ++ semB v, fun w hv => ?_⟩
  have := of_sem 3 t ⟨#[]⟩ ht w hv v h2 (by rw [h3]; rintro rfl; exact absurd h0 (by decide)) (by have := semB_size v h2; omega) (by rw [ver3, h1])
  rw [h3] at this
  exact this
theorem fld_told (x : Int) (a b c d e f g : ByteArray) (p : Bool) (W : World) : (Instr.field 54 (.agg #[.int .i64 x, .string a, .string b, .string c, .string d, .string e, .string f, .string g, .bool p]) 0).run Tryz.prog W = .ok (.int .i64 x) W := by kernel_rfl
set_option maxRecDepth 20000 in
set_option maxHeartbeats 4000000 in
theorem semver_law (t : ByteArray) (w : World) (hg : t.size ≤ 140737488351232) (hv : Vars w) :
    Calls Tryz.prog 5 #[.string t] w fun e w' => e = .returned (.bool true) ∧ Below w.heap.size w w' := by
  have HA := Lib.hid (fun W hb => awake W (Vars.below (w := w) hv hb))
  have HVB := Lib.hid (fun W hb => Vars.below (w := w) (w' := W) hv hb)
  have HM := Aside0.mk (Blks.start w)
  clear hv
  by_cases hz : t.size ≤ 2147483647
  · have z1 : decide ((2147483647 : Int) < (t.size : Int)) = false := decide_eq_false (by omega)
    obtain ⟨b, hb, hp⟩ := plain60 t hg
    have HP := Lib.hid hp
    clear hp
    cases b with
    | false =>
      clear hb
      go_enter Tryz.func5, Tryz.ntmps5
      go_wp2_with (first | (go_at_call 33; ((with_reducible refine (HP.out _).mono ?_); rintro e w1 ⟨rfl, hb⟩; have HN := Aside0.mk (Blks.call (by repeat (first | exact HM.out | apply Blks.drewN | apply Blks.drew | apply Blks.other)) hb); clear HM hb; have HM := HN; clear HN)) | (go_at_call 25; ((with_reducible refine (HA.out _ (Blks.bel (by repeat (first | exact HM.out | apply Blks.drewN | apply Blks.drew | apply Blks.other)))).mono ?_); rintro e w3 ⟨rfl, hb⟩; have HN := Aside0.mk (Blks.call (by repeat (first | exact HM.out | apply Blks.drewN | apply Blks.drew | apply Blks.other)) hb); clear HM hb; have HM := HN; clear HN)))
      go_ret
      exact ⟨rfl, HM.out.bel⟩
    | true =>
      obtain ⟨h0, h60⟩ := hb rfl
      have hr := fun W => read_sem t (by omega) W
      clear hb
      cases hq : qSemB0 t.data.toList with
      | none =>
        simp only [hq] at hr
        have HR := Lib.hid hr
        have HO3 := Lib.hid (fun W hv => of3_plain hz hq W hv)
        clear hr h0 h60 hq
        unfold told at HO3
        have fld := fld_told
        go_enter Tryz.func5, Tryz.ntmps5
        go_wp2_with (first | (go_at_call 33; ((with_reducible refine (HP.out _).mono ?_); rintro e w1 ⟨rfl, hb⟩; have HN := Aside0.mk (Blks.call (by repeat (first | exact HM.out | apply Blks.drewN | apply Blks.drew | apply Blks.other)) hb); clear HM hb; have HM := HN; clear HN)) | (go_at_call 34; ((with_reducible refine (HR.out _).mono ?_); rintro e w2 ⟨rfl, hb⟩; have HN := Aside0.mk (Blks.call (by repeat (first | exact HM.out | apply Blks.drewN | apply Blks.drew | apply Blks.other)) hb); clear HM hb; have HM := HN; clear HN)) | (go_at_call 25; ((with_reducible refine (HA.out _ (Blks.bel (by repeat (first | exact HM.out | apply Blks.drewN | apply Blks.drew | apply Blks.other)))).mono ?_); rintro e w3 ⟨rfl, hb⟩; have HN := Aside0.mk (Blks.call (by repeat (first | exact HM.out | apply Blks.drewN | apply Blks.drew | apply Blks.other)) hb); clear HM hb; have HM := HN; clear HN)) | (go_at_call 35; ((with_reducible refine (HO3.out _ (HVB.out _ (Blks.bel (by repeat (first | exact HM.out | apply Blks.drewN | apply Blks.drew | apply Blks.other))))).mono ?_); rintro e w4 ⟨rfl, hb⟩; have HN := Aside0.mk (Blks.call (by repeat (first | exact HM.out | apply Blks.drewN | apply Blks.drew | apply Blks.other)) hb); clear HM hb; have HM := HN; clear HN)) | (refine m_alloc (by repeat (first | exact HM.out | apply Blks.drewN | apply Blks.drew | apply Blks.other)) (h := ?_); intro bx _ HN; clear HM; have HM := HN; clear HN) | (refine m_store (by repeat (first | exact HM.out | apply Blks.drewN | apply Blks.drew | apply Blks.other)) (h := ?_); intro _ HN; clear HM; have HM := HN; clear HN))
        go_ret
        exact ⟨rfl, HM.out.bel⟩
      | some q =>
        simp only [hq] at hr
        obtain ⟨ns, pre, mt⟩ := q
        have HR := Lib.hid hr
        obtain ⟨c, hc⟩ := of3_sem hz h0 hq
        have HO3 := Lib.hid (fun W hv => hc W hv)
        clear hr h0 h60 hq hc
        unfold told at HO3
        have fld := fld_told
        go_enter Tryz.func5, Tryz.ntmps5
        go_wp2_with (first | (go_at_call 33; ((with_reducible refine (HP.out _).mono ?_); rintro e w1 ⟨rfl, hb⟩; have HN := Aside0.mk (Blks.call (by repeat (first | exact HM.out | apply Blks.drewN | apply Blks.drew | apply Blks.other)) hb); clear HM hb; have HM := HN; clear HN)) | (go_at_call 34; ((with_reducible refine (HR.out _).mono ?_); rintro e w2 ⟨⟨P, rfl, hP⟩, hb⟩; have HO := Lib.hid (show P.oneCell' = true by obtain ⟨_, _, rfl⟩ := hP.val; rfl); clear hP; have HN := Aside0.mk (Blks.call (by repeat (first | exact HM.out | apply Blks.drewN | apply Blks.drew | apply Blks.other)) hb); clear HM hb; have HM := HN; clear HN)) | (go_at_call 25; ((with_reducible refine (HA.out _ (Blks.bel (by repeat (first | exact HM.out | apply Blks.drewN | apply Blks.drew | apply Blks.other)))).mono ?_); rintro e w3 ⟨rfl, hb⟩; have HN := Aside0.mk (Blks.call (by repeat (first | exact HM.out | apply Blks.drewN | apply Blks.drew | apply Blks.other)) hb); clear HM hb; have HM := HN; clear HN)) | (go_at_call 35; ((with_reducible refine (HO3.out _ (HVB.out _ (Blks.bel (by repeat (first | exact HM.out | apply Blks.drewN | apply Blks.drew | apply Blks.other))))).mono ?_); rintro e w4 ⟨rfl, hb⟩; have HN := Aside0.mk (Blks.call (by repeat (first | exact HM.out | apply Blks.drewN | apply Blks.drew | apply Blks.other)) hb); clear HM hb; have HM := HN; clear HN)) | (refine m_alloc (by repeat (first | exact HM.out | apply Blks.drewN | apply Blks.drew | apply Blks.other)) (h := ?_); intro bx _ HN; clear HM; have HM := HN; clear HN) | (refine m_store (by repeat (first | exact HM.out | apply Blks.drewN | apply Blks.drew | apply Blks.other)) (h1 := semOne HO.out) (h := ?_); intro _ HN; clear HM; have HM := HN; clear HN))
        go_ret
        exact ⟨rfl, HM.out.bel⟩
  · have z1 : decide ((2147483647 : Int) < (t.size : Int)) = true := decide_eq_true (by omega)
    go_enter Tryz.func5, Tryz.ntmps5
    go_wp2_with fail
    go_ret
    exact ⟨rfl, HM.out.bel⟩
end Go.Proofs.YtgoeiflddikihaaGreatDoor.Ver
end
