/- Merged by program out of: VOf, VOf2, AwakeE, SemL, SpecE, InsP. -/
import Derived.Test.YtgoeiflddikihaaGreatDoorCdM10
import Derived.Deep.CutRange
import Derived.Test.YtgoeiflddikihaaGreatDoorCdM15
import Derived.Test.YtgoeiflddikihaaGreatDoorCdM12
import Derived.Deep.Cut
import Derived.Test.YtgoeiflddikihaaGreatDoorCdM13
import Derived.Sort.Lot0
section
namespace Go.Proofs.YtgoeiflddikihaaGreatDoor.Ver
set_option linter.unusedSimpArgs false
open Go.RowKit Go.Proofs.YtgoeiflddikihaaGreatDoor.Dig Go.Proofs.YtgoeiflddikihaaGreatDoorW.PrintWords
def told (ty : Int) (text caret revision branch version under unpaired : ByteArray) (paired : Bool) : Value :=
  .agg #[.int .i64 ty, .string text, .string caret, .string revision, .string branch, .string version, .string under, .string unpaired, .bool paired]
abbrev zTold : Array Value := #[.int .i64 0, .string ⟨#[]⟩, .string ⟨#[]⟩, .string ⟨#[]⟩, .string ⟨#[]⟩, .string ⟨#[]⟩, .string ⟨#[]⟩, .string ⟨#[]⟩, .bool false]
theorem res_at {w w1 : World} {x y : Obj} (hb : Below ((w.alloc x).alloc y).heap.size ((w.alloc x).alloc y) w1) : w1.heap[w.heap.size + 1]? = some y := by
  have h := blk_below (alloc_at (w.alloc x) y) hb
  rw [alloc_size] at h
  exact h
end Go.Proofs.YtgoeiflddikihaaGreatDoor.Ver
end
section
namespace Go.Proofs.YtgoeiflddikihaaGreatDoor.Ver
set_option linter.unusedSimpArgs false
set_option linter.unusedVariables false
open Go.RowKit Go.Proofs.YtgoeiflddikihaaGreatDoor.Dig Go.Proofs.YtgoeiflddikihaaGreatDoorW.PrintWords
theorem alloc_at' {w : World} {o : Obj} {n : Nat} (h : n = w.heap.size) : (w.alloc o).heap[n]? = some o := by rw [h]; exact alloc_at w o
set_option maxRecDepth 20000 in
set_option maxHeartbeats 4000000 in
theorem of_psem (k : Int) (t r : ByteArray) (ht : t.size ≤ 2147483647) (w : World) (hv : Vars w) (v : SV) (hk : SVok v) (ho : v.orig ≠ ⟨#[]⟩) (hcs : ¬ 9223372036854775807 < 1 + (semB v).size) (q : ByteArray) (hx : verV k t r = .pair (.sem v) q) :
    Calls Tryz.prog 35 #[.agg #[.int .i64 k, .string t, .string r]] w fun e w' => e = .returned (told 2 v.orig (⟨#[61]⟩ ++ semB v) q ⟨#[]⟩ v.orig q v.orig true) ∧ Below w.heap.size w w' := by
  have HR := Lib.hid (fun W hb => ver_any k t r ht W (Vars.below (w := w) hv hb))
  have hc := comp_psem v ho q
  dsimp only [Vers.val, Vers.tid, Vers.inner, Unp.val, Unp.tid, Unp.inner, SV.cells] at hc
  have HC := Lib.hid hc
  clear hc
  have HB := Aside0.mk (Below.refl w.heap.size w)
  have hs := fun W hb => semStr_any v hk W (Vars.below (w := w) hv hb)
  dsimp only [SV.cells] at hs
  have HS := Lib.hid hs
  have e1 : v.orig.toList.isEmpty = false := isEmpty_false (size_pos ho)
  have HSZ := Lib.hid hcs
  clear hs ho hcs
  clear hv
  have HX := Lib.hid hx
  clear hx
  have a_sem_P' := a_sem_P
  have m_sem_Type' := m_sem_Type
  have m_sem_String' := m_sem_String
  have m_sem_ImpliedCaretString' := m_sem_ImpliedCaretString
  have a_pair_P' := a_pair_P
  have m_pair_Type' := m_pair_Type
  have m_pair_String' := m_pair_String
  have m_pair_ImpliedCaretString' := m_pair_ImpliedCaretString
  have m_pair_Revision' := m_pair_Revision
  have m_pair_Unpair' := m_pair_Unpair
  go_enter Tryz.func35, Tryz.ntmps35
  go_wp2_with (first
    | (go_at_call 66; ((with_reducible refine (HR.out _ (by repeat (first | exact HB.out | apply below_alloc | apply pw_below_drewN))).mono ?_); rintro e w5 ⟨rfl, hb⟩; rw [HX.out]; refine Hid.out ?_)))
  have HRES := Aside0.mk (res_at hb)
  have HB5 := Aside0.mk (below_trans (by repeat (first | exact HB.out | apply below_alloc | apply pw_below_drewN)) hb)
  clear hb
  dsimp only [Vers.val, Vers.tid, Vers.inner, Unp.val, Unp.tid, Unp.inner, SV.cells]
  refine Lib.hid ?_
  go_upto_region 2 with fail
  go_cut [4] from 9 to 16 (fun v4 wx => ∃ g : Nat, v4 = .pointer (some ⟨g, 0, none⟩) ∧ w.heap.size + 1 < g ∧ Aside0 (Below w.heap.size w wx) ∧ Aside0 (wx.heap[g]? = some (.cells #[.int .i64 2, .string v.orig, .string (⟨#[61]⟩ ++ semB v), .string ⟨#[]⟩, .string ⟨#[]⟩, .string ⟨#[]⟩, .string ⟨#[]⟩, .string ⟨#[]⟩, .bool false] 54 (0, 0))) ∧ Aside0 (wx.heap[w.heap.size + 1]? = some (.cells zTold 54 (0, 0))))
  case first =>
    go_wp2_with (first
      | (go_at_call 233; ((with_reducible refine (HS.out _ (by repeat (first | exact HB5.out | apply below_alloc | apply pw_below_drewN))).mono ?_); rintro e w7 ⟨rfl, hb⟩; have HB7 := Aside0.mk (below_trans (by repeat (first | exact HB5.out | apply below_alloc | apply pw_below_drewN)) hb); have HR7 := Aside0.mk (blk_below (by repeat (first | exact HRES.out | apply blk_alloc)) hb); have hcs := HSZ.out; clear hb))
      | go_in)
    go_meet
    case rel => exact ⟨_, rfl, (by (try simp only [alloc_size]); have := blk_lt HR7.out; omega), ⟨by repeat (first | exact HB7.out | apply below_alloc | apply pw_below_drewN)⟩, ⟨alloc_at' (by simp [alloc_size])⟩, ⟨by repeat (first | exact HR7.out | apply blk_alloc)⟩⟩
  case rest =>
    clear HB5 HRES
    obtain ⟨g, rfl, hg, HB5, HK, HRES⟩ := hcut
    have HG := Lib.hid hg
    clear hg
    go_upto_region 4 with (first
      | (go_at_call 75; ((with_reducible refine (HC.out _).mono ?_); rintro e w6 ⟨rfl, hb⟩; refine Hid.out ?_))
      | go_in)
    have HK6 := Aside0.mk (blk_below HK.out hb)
    have HR6 := Aside0.mk (blk_below HRES.out hb)
    have HB6 := Aside0.mk (below_trans HB5.out hb)
    have z4 := blk_cell HK6.out 4
    have y4 := blk_frozen HK6.out 4
    have z5 := blk_cell HK6.out 5
    have y5 := blk_frozen HK6.out 5
    have z6 := blk_cell HK6.out 6
    have y6 := blk_frozen HK6.out 6
    clear hb
    refine Lib.hid ?_
    go_upto_region 4 with go_in
    clear z4 z5 z6 y4 y5 y6
    go_cut [5, 6] from 26 to 30 (fun v5 v6 wx => v5 = .iface 212 (.agg #[.iface 200 (.agg #[.int .u64 v.major, .int .u64 v.minor, .int .u64 v.patch, .string v.pre, .string v.mt, .string v.orig]), .string q]) ∧ v6 = .bool true ∧ Aside0 (Below w.heap.size w wx) ∧ Aside0 (wx.heap[g]? = some (.cells #[.int .i64 2, .string v.orig, .string (⟨#[61]⟩ ++ semB v), .string ⟨#[]⟩, .string ⟨#[]⟩, .string v.orig, .string q, .string ⟨#[]⟩, .bool false] 54 (0, 0))) ∧ Aside0 (wx.heap[w.heap.size + 1]? = some (.cells zTold 54 (0, 0))))
    case first =>
      go_wp2_with fail
      go_meet
      case rel => exact ⟨rfl, rfl, ⟨((HB6.out.setCell (by show _ ≤ g; have := HG.out; omega) _).setCell (by show _ ≤ g; have := HG.out; omega) _).setCell (by show _ ≤ g; have := HG.out; omega) _⟩, ⟨blk_put (blk_put (blk_put HK6.out 6 _ rfl) 4 _ rfl) 5 _ rfl⟩, ⟨blk_far (blk_far (blk_far HR6.out (p := ⟨g, 6, none⟩) (Nat.ne_of_lt HG.out) _) (p := ⟨g, 4, none⟩) (Nat.ne_of_lt HG.out) _) (p := ⟨g, 5, none⟩) (Nat.ne_of_lt HG.out) _⟩⟩
    case rest =>
      clear HB6 HK6 HR6 HB5 HK HRES
      obtain ⟨rfl, rfl, HB7, HK7, HR7⟩ := hcut
      go_upto_region 6 with fail
      have HA := Aside0.mk (blk_alloc (blk_alloc (blk_alloc (blk_alloc (HK7.out) (.cells #[.iface 200 (.agg #[.int .u64 v.major, .int .u64 v.minor, .int .u64 v.patch, .string v.pre, .string v.mt, .string v.orig]), .string q] 212)) (.cells #[.iface 200 (.agg #[.int .u64 v.major, .int .u64 v.minor, .int .u64 v.patch, .string v.pre, .string v.mt, .string v.orig]), .string q] 212)) (.cells #[.int .u64 v.major, .int .u64 v.minor, .int .u64 v.patch, .string v.pre, .string v.mt, .string v.orig] 200)) (.cells #[.int .u64 v.major, .int .u64 v.minor, .int .u64 v.patch, .string v.pre, .string v.mt, .string v.orig] 197))
      have HAR := Aside0.mk (blk_alloc (blk_alloc (blk_alloc (blk_alloc (HR7.out) (.cells #[.iface 200 (.agg #[.int .u64 v.major, .int .u64 v.minor, .int .u64 v.patch, .string v.pre, .string v.mt, .string v.orig]), .string q] 212)) (.cells #[.iface 200 (.agg #[.int .u64 v.major, .int .u64 v.minor, .int .u64 v.patch, .string v.pre, .string v.mt, .string v.orig]), .string q] 212)) (.cells #[.int .u64 v.major, .int .u64 v.minor, .int .u64 v.patch, .string v.pre, .string v.mt, .string v.orig] 200)) (.cells #[.int .u64 v.major, .int .u64 v.minor, .int .u64 v.patch, .string v.pre, .string v.mt, .string v.orig] 197))
      have z8 := blk_cell HA.out 8
      have y8 := blk_frozen HA.out 8
      have z3 := blk_cell HA.out 3
      have y3 := blk_frozen HA.out 3
      have z7 := blk_cell HA.out 7
      have y7 := blk_frozen HA.out 7
      go_cut [33] from 32 to 39 (fun _ wx => Aside0 (Below w.heap.size w wx) ∧ Aside0 (wx.heap[g]? = some (.cells #[.int .i64 2, .string v.orig, .string (⟨#[61]⟩ ++ semB v), .string q, .string ⟨#[]⟩, .string v.orig, .string q, .string v.orig, .bool true] 54 (0, 0))) ∧ Aside0 (wx.heap[w.heap.size + 1]? = some (.cells zTold 54 (0, 0))))
      case first =>
        go_wp2_with go_in
        go_meet
        case rel => exact ⟨⟨(((below_alloc (below_alloc (below_alloc (below_alloc (HB7.out) (.cells #[.iface 200 (.agg #[.int .u64 v.major, .int .u64 v.minor, .int .u64 v.patch, .string v.pre, .string v.mt, .string v.orig]), .string q] 212)) (.cells #[.iface 200 (.agg #[.int .u64 v.major, .int .u64 v.minor, .int .u64 v.patch, .string v.pre, .string v.mt, .string v.orig]), .string q] 212)) (.cells #[.int .u64 v.major, .int .u64 v.minor, .int .u64 v.patch, .string v.pre, .string v.mt, .string v.orig] 200)) (.cells #[.int .u64 v.major, .int .u64 v.minor, .int .u64 v.patch, .string v.pre, .string v.mt, .string v.orig] 197)).setCell (by show _ ≤ g; have := HG.out; omega) _).setCell (by show _ ≤ g; have := HG.out; omega) _).setCell (by show _ ≤ g; have := HG.out; omega) _⟩, ⟨blk_put (blk_put (blk_put HA.out 8 _ rfl) 3 _ rfl) 7 _ rfl⟩, ⟨blk_far (blk_far (blk_far HAR.out (p := ⟨g, 8, none⟩) (Nat.ne_of_lt HG.out) _) (p := ⟨g, 3, none⟩) (Nat.ne_of_lt HG.out) _) (p := ⟨g, 7, none⟩) (Nat.ne_of_lt HG.out) _⟩⟩
      case rest =>
        clear z8 z3 z7 y8 y3 y7 HA HAR HB7 HK7 HR7
        obtain ⟨HB8, HK8, HR8⟩ := hcut
        have z0 := blk_cell HK8.out 0
        have y0 := blk_frozen HK8.out 0
        have z1 := blk_cell HK8.out 1
        have y1 := blk_frozen HK8.out 1
        have z2 := blk_cell HK8.out 2
        have y2 := blk_frozen HK8.out 2
        have z3 := blk_cell HK8.out 3
        have y3 := blk_frozen HK8.out 3
        have z4 := blk_cell HK8.out 4
        have y4 := blk_frozen HK8.out 4
        have z5 := blk_cell HK8.out 5
        have y5 := blk_frozen HK8.out 5
        have z6 := blk_cell HK8.out 6
        have y6 := blk_frozen HK8.out 6
        have z7 := blk_cell HK8.out 7
        have y7 := blk_frozen HK8.out 7
        have z8 := blk_cell HK8.out 8
        have y8 := blk_frozen HK8.out 8
        have r0 := blk_cell HR8.out 0
        have t0 := blk_frozen HR8.out 0
        have r1 := blk_cell HR8.out 1
        have t1 := blk_frozen HR8.out 1
        have r2 := blk_cell HR8.out 2
        have t2 := blk_frozen HR8.out 2
        have r3 := blk_cell HR8.out 3
        have t3 := blk_frozen HR8.out 3
        have r4 := blk_cell HR8.out 4
        have t4 := blk_frozen HR8.out 4
        have r5 := blk_cell HR8.out 5
        have t5 := blk_frozen HR8.out 5
        have r6 := blk_cell HR8.out 6
        have t6 := blk_frozen HR8.out 6
        have r7 := blk_cell HR8.out 7
        have t7 := blk_frozen HR8.out 7
        have r8 := blk_cell HR8.out 8
        have t8 := blk_frozen HR8.out 8
        have hg := HG.out
        go_wp2_with fail
        refine bodyPost_ret (v := told 2 v.orig (⟨#[61]⟩ ++ semB v) q ⟨#[]⟩ v.orig q v.orig true) (by simp [told, results, Tryz.results35, go_sem, *]) rfl ⟨rfl, ?_⟩
        exact (((((((((HB8.out).setCell (by show _ ≤ w.heap.size + 1; omega) _).setCell (by show _ ≤ w.heap.size + 1; omega) _).setCell (by show _ ≤ w.heap.size + 1; omega) _).setCell (by show _ ≤ w.heap.size + 1; omega) _).setCell (by show _ ≤ w.heap.size + 1; omega) _).setCell (by show _ ≤ w.heap.size + 1; omega) _).setCell (by show _ ≤ w.heap.size + 1; omega) _).setCell (by show _ ≤ w.heap.size + 1; omega) _).setCell (by show _ ≤ w.heap.size + 1; omega) _
end Go.Proofs.YtgoeiflddikihaaGreatDoor.Ver
end
section
namespace Go.Proofs.YtgoeiflddikihaaGreatDoor.Ver
set_option linter.unusedSimpArgs false
open Go.RowKit Go.Proofs.YtgoeiflddikihaaGreatDoor.Dig Go.Proofs.YtgoeiflddikihaaGreatDoorW.PrintWords Go.Proofs.YtgoeiflddikihaaGreatDoor.Mem Go.Sort Go.Proofs.YtgoeiflddikihaaGreatDoor.Srt
theorem rowTold : RowT Tryz.prog 54 9 := ⟨⟨_, Tryz.underlying54, rfl⟩, by kernel_rfl⟩
theorem zeroTold : (Tryz.prog.info? 54).bind (fun i => i.zero.map (·.cells)) = some zTold := by kernel_rfl
abbrev t123 : ByteArray := ⟨#[118, 49, 46, 50, 46, 51]⟩
abbrev tr : ByteArray := ⟨#[114]⟩
abbrev tdev : ByteArray := ⟨#[100, 101, 118]⟩
abbrev t100 : ByteArray := ⟨#[49, 46, 48, 46, 48]⟩
abbrev t110 : ByteArray := ⟨#[49, 46, 49, 46, 48]⟩
def v123 : SV := ⟨1, 2, 3, ⟨#[]⟩, ⟨#[]⟩, t123⟩
theorem read123 : readV t123 = some (v123, 3) := by kernel_rfl
theorem of123 (w : World) (hv : Vars w) : Calls Tryz.prog 35 #[.agg #[.int .i64 3, .string t123, .string tr]] w fun e w' => e = .returned (told 2 t123 (⟨#[61]⟩ ++ semB v123) tr ⟨#[]⟩ t123 tr t123 true) ∧ Below w.heap.size w w' :=
  of_psem 3 t123 tr (by decide) w hv v123 (readV_ok' (by decide) read123).1 (by decide) (by rw [show (semB v123).size = 5 by kernel_rfl]; omega) tr (by kernel_rfl)
def x0 : VD := ⟨1, tdev, ⟨#[]⟩, by decide⟩
def x1 : VD := ⟨3, t100, ⟨#[]⟩, by decide⟩
def x2 : VD := ⟨3, t110, ⟨#[]⟩, by decide⟩
abbrev In3 : Array Value := #[.int .i64 1, .string tdev, .string ⟨#[]⟩, .int .i64 3, .string t100, .string ⟨#[]⟩, .int .i64 3, .string t110, .string ⟨#[]⟩]
def Out3 : List Value := [.int .i64 3, .string t110, .string ⟨#[]⟩, .int .i64 3, .string t100, .string ⟨#[]⟩, .int .i64 1, .string tdev, .string ⟨#[]⟩]
theorem bs_v3 : Tryz.prog.builtSlice 27 3 [(0, .agg #[.int .i64 1, .string tdev, .string ⟨#[]⟩]), (1, .agg #[.int .i64 3, .string t100, .string ⟨#[]⟩]), (2, .agg #[.int .i64 3, .string t110, .string ⟨#[]⟩])] = some In3 := by kernel_rfl
theorem at3 {w : World} {b : Nat} (h : w.rangeAt b 0 In3.toList) : AtV w (.slice (some ⟨b, 0, none⟩) 3 3) [x0, x1, x2] := by
  refine ⟨⟨some ⟨b, 0, none⟩, 3, rfl, fun _ => ⟨b, 0, rfl, fun i hi => ?_⟩⟩⟩
  have h3 : i < 3 := hi
  rcases i with _ | _ | _ | i
  · exact ⟨h 0 _ rfl, h 1 _ rfl, h 2 _ rfl⟩
  · exact ⟨h 3 _ rfl, h 4 _ rfl, h 5 _ rfl⟩
  · exact ⟨h 6 _ rfl, h 7 _ rfl, h 8 _ rfl⟩
  · omega
theorem lt21 : ltV false x2.ver x1.ver = true := by kernel_rfl
theorem lt20 : ltV false x2.ver x0.ver = true := by kernel_rfl
theorem lt10 : ltV false x1.ver x0.ver = true := by kernel_rfl
def Sort3End (w : World) (e : Ending) (w' : World) : Prop :=
  ∃ g cap cells rest, e = .returned (.slice (some ⟨g, 0, none⟩) 3 cap) ∧ w.heap.size ≤ g ∧ w'.heap[g]? = some (.cells cells 27 (0, 0)) ∧ cells.toList = Out3 ++ rest ∧ Below w.heap.size w w'
theorem sort3 (b : Nat) (w : World) (hv : Vars w) (h : w.rangeAt b 0 In3.toList) : Calls Tryz.prog 37 #[.slice (some ⟨b, 0, none⟩) 3 3, .bool false, .bool false] w (Sort3End w) := by
  refine (sorted_up [x0, x1, x2] ⟨by decide, by decide⟩ _ w hv (at3 h)).mono ?_
  rintro e w' ⟨x, d', rfl, hp, hs, ho, hb⟩
  have hd := Awk.three (swo_ltV false) lt21 lt20 lt10 hp hs
  subst hd
  obtain ⟨g, cap, cells, rest, rfl, hg, hc, hl, _⟩ := row_block ho (by show 0 < 3; omega)
  exact ⟨g, cap, cells, rest, rfl, hg, hc, hl, hb⟩
set_option maxRecDepth 20000 in
set_option maxHeartbeats 4000000 in
theorem awake (w : World) (hv : Vars w) : Calls Tryz.prog 25 #[] w fun e w' => e = .returned (.bool true) ∧ Below w.heap.size w w' := by
  have HO := Lib.hid (fun W hb => of123 W (Vars.below (w := w) hv hb))
  have HS := Lib.hid (fun b W hb h => sort3 b W (Vars.below (w := w) hv hb) h)
  have HT := Lib.hid (fun W hb => matches120 W (Vars.below (w := w) hv hb))
  have HM := Aside0.mk (Blks.start w)
  generalize (⟨#[61]⟩ : ByteArray) ++ semB v123 = cs at HO
  unfold told at HO
  clear hv
  go_enter Tryz.func25, Tryz.ntmps25
  go_wp2_with (first
    | (go_at_call 35; ((with_reducible refine (HO.out _ (Blks.bel (by repeat (first | exact HM.out | apply Blks.drewN | apply Blks.drew | apply Blks.other)))).mono ?_); rintro e w1 ⟨rfl, hb⟩; have HN := Aside0.mk (Blks.call (by repeat (first | exact HM.out | apply Blks.drewN | apply Blks.drew | apply Blks.other)) hb); clear HM hb; have HM := HN; clear HN))
    | (go_at_call 37; ((refine (HS.out _ _ (Blks.bel (by repeat (first | exact HM.out | apply Blks.drewN | apply Blks.drew | apply Blks.other))) (Blks.range HM.out (b := bq) (o := 0) (n := 9) (by repeat (first | exact List.Mem.head _ | apply List.Mem.tail)) (by repeat (first | exact Rd.nil | apply Rd.here | apply Rd.skip)))).mono ?_); rintro e w3 ⟨g3, cap3, cells3, rest3, rfl, hg, hc, hl, hb⟩; unfold Out3 at hl; have HN := Aside0.mk (Blks.add (by repeat (first | exact HM.out | apply Blks.drewN | apply Blks.drew | apply Blks.other)) hb hg hc hl); clear HM hb hg hc hl; have HM := HN; clear HN; refine Hid.out ?_))
    | (refine bk_load1 (by rfl) (by rfl) (by rfl) (by repeat (first | exact HM.out | apply Blks.drewN | apply Blks.drew | apply Blks.other)) (by repeat (first | exact List.Mem.head _ | apply List.Mem.tail)) (by first | exact oneS | exact oneSl | exact oneB | exact oneI) (by repeat (first | exact Rd.nil | apply Rd.here | apply Rd.skip)) ?_) | (refine bk_load (by rfl) (by rfl) (by rfl) (by repeat (first | exact HM.out | apply Blks.drewN | apply Blks.drew | apply Blks.other)) (by repeat (first | exact List.Mem.head _ | apply List.Mem.tail)) (by first | exact rowV | exact rowP | exact rowR | exact rowC | exact rowIV | exact rowTold) (by repeat (first | exact Rd.nil | apply Rd.here | apply Rd.skip)) ?_) | (refine bk_alloc (by rfl) (by rfl) (by repeat (first | exact HM.out | apply Blks.drewN | apply Blks.drew | apply Blks.other)) (by first | exact zeroTold) ?_; intro bt _ HN; clear HM; have HM := Aside0.mk HN; clear HN) | (refine bk_store1 (by rfl) (by rfl) (by rfl) (by rfl) (by first | exact (rfl : _ = Value.bool _) | exact (rfl : _ = Value.int _ _) | exact (rfl : _ = Value.string _) | exact (rfl : _ = Value.slice _ _ _) | exact (rfl : _ = Value.iface _ _) | exact (rfl : _ = Value.nilIface) | exact (rfl : _ = Value.pointer _)) (by repeat (first | exact HM.out | apply Blks.drewN | apply Blks.drew | apply Blks.other)) (by first | exact oneSl | exact oneB) (by rfl) (by repeat (first | exact List.Mem.head _ | apply List.Mem.tail)) (by repeat (first | exact Wr.nil | apply Wr.here | apply Wr.skip)) (by repeat (first | exact Up.here | apply Up.skip)) ?_; intro _ HN; clear HM; have HM := Aside0.mk HN; clear HN) | (refine bk_store (by rfl) (by rfl) (by rfl) (by rfl) (by rfl) (by repeat (first | exact HM.out | apply Blks.drewN | apply Blks.drew | apply Blks.other)) (by first | exact rowTold) (by rfl) (by simp [Value.oneCell']) (by repeat (first | exact List.Mem.head _ | apply List.Mem.tail)) (by repeat (first | exact Wr.nil | apply Wr.here | apply Wr.skip)) (by repeat (first | exact Up.here | apply Up.skip)) ?_; intro _ HN; clear HM; have HM := Aside0.mk HN; clear HN) | (refine bk_slice (by rfl) (by rfl) (by repeat (first | exact HM.out | apply Blks.drewN | apply Blks.drew | apply Blks.other)) Tryz.underlying23 (by rw [Array.toList_map]; exact bs_v3) ?_; intro bq _ HN; clear HM; have HM := Aside0.mk HN; clear HN))
  have r8 := HM.out.range (b := bt) (o := 8) (n := 1) (by repeat (first | exact List.Mem.head _ | apply List.Mem.tail)) (by repeat (first | exact Rd.nil | apply Rd.here | apply Rd.skip)) 0 _ rfl
  have r0 := HM.out.range (b := bt) (o := 0) (n := 1) (by repeat (first | exact List.Mem.head _ | apply List.Mem.tail)) (by repeat (first | exact Rd.nil | apply Rd.here | apply Rd.skip)) 0 _ rfl
  have r1 := HM.out.range (b := bt) (o := 1) (n := 1) (by repeat (first | exact List.Mem.head _ | apply List.Mem.tail)) (by repeat (first | exact Rd.nil | apply Rd.here | apply Rd.skip)) 0 _ rfl
  simp only [Nat.add_zero] at r8 r0 r1
  refine Lib.hid ?_
  go_wp2_with (first
    | (go_at_call 27; ((with_reducible refine (HT.out _ (Blks.bel (by repeat (first | exact HM.out | apply Blks.drewN | apply Blks.drew | apply Blks.other)))).mono ?_); rintro e w4 ⟨rfl, hb⟩; have HN := Aside0.mk (Blks.call (by repeat (first | exact HM.out | apply Blks.drewN | apply Blks.drew | apply Blks.other)) hb); clear HM hb; have HM := HN; clear HN; refine Hid.out ?_)))
  clear r8 r0 r1
  have r1 := HM.out.range (b := g3) (o := 1) (n := 1) (by repeat (first | exact List.Mem.head _ | apply List.Mem.tail)) (by repeat (first | exact Rd.nil | apply Rd.here | apply Rd.skip)) 0 _ rfl
  have r7 := HM.out.range (b := g3) (o := 7) (n := 1) (by repeat (first | exact List.Mem.head _ | apply List.Mem.tail)) (by repeat (first | exact Rd.nil | apply Rd.here | apply Rd.skip)) 0 _ rfl
  simp only [Nat.add_zero] at r1 r7
  refine Lib.hid ?_
  go_wp2_with fail
  go_ret
  exact ⟨rfl, HM.out.bel⟩
end Go.Proofs.YtgoeiflddikihaaGreatDoor.Ver
end
section
namespace Go.Proofs.YtgoeiflddikihaaGreatDoor.Ver
set_option linter.unusedSimpArgs false
set_option linter.unusedVariables false
open Go.RowKit Go.Proofs.YtgoeiflddikihaaGreatDoor.Dig Go.Proofs.YtgoeiflddikihaaGreatDoorW.PrintWords Go.Proofs.YtgoeiflddikihaaGreatDoor.Mem
theorem new_plain {t : ByteArray} (h : qSemB0 t.data.toList = none) : newV t = .plain t := by
  unfold newV; rw [readV_eq, qReadB, h]; rfl
end Go.Proofs.YtgoeiflddikihaaGreatDoor.Ver
end
section
namespace Go.Proofs.YtgoeiflddikihaaGreatDoor.Ver
set_option linter.unusedSimpArgs false
set_option linter.unusedVariables false
open Go.RowKit Go.Proofs.YtgoeiflddikihaaGreatDoor.Dig Go.Proofs.YtgoeiflddikihaaGreatDoorW.PrintWords Go.Proofs.YtgoeiflddikihaaGreatDoor.Mem Go.Proofs.YtgoeiflddikihaaGreatDoor.Ord
theorem ver0 (t r : ByteArray) : verV 0 t r = .rev t := by
  unfold verV unpV; rw [if_neg (by decide), if_neg (by decide), if_neg (by decide)]
theorem ver_un {k : Int} {t r : ByteArray} {u : Unp} (h : unpV k t = some u) : (verV k t r).bare = .un u := by
  unfold verV; rw [h]; simp only; split <;> rfl
theorem versC_bare (down : Bool) (a b : Vers) : versC down a b = versC down a.bare b.bare := by
  rcases a with _ | u | ⟨u, _⟩ <;> rcases b with _ | x | ⟨x, _⟩ <;> (try cases u) <;> (try cases x) <;> rfl
theorem unp1 (t : ByteArray) : unpV 1 t = some (.branch t false) := by unfold unpV; rw [if_pos rfl]
theorem unp2 (t : ByteArray) : unpV 2 t = some (.branch t true) := by unfold unpV; rw [if_neg (by decide), if_pos rfl]
theorem unp3 (t : ByteArray) : unpV 3 t = some (newV t) := by unfold unpV; rw [if_neg (by decide), if_neg (by decide), if_pos rfl]
inductive Is (k : Int) (t : ByteArray) (b : Vers) : Prop
  | rev (hk : k = 0) (ht : typS k t = 0) (hb : b = .rev t)
  | branch (hk : k = 1) (ht : typS k t = 3) (hb : b = .un (.branch t false))
  | dflt (hk : k = 2) (ht : typS k t = 3) (hb : b = .un (.branch t true))
  | plain (hk : k = 3) (ht : typS k t = 1) (hb : b = .un (.plain t))
  | sem (hk : k = 3) (ht : typS k t = 2) (hs : (qSemB0 t.data.toList).isSome = true) (hb : b = .un (.sem (svOf t)))
theorem is_any (k : Int) (t r : ByteArray) (hk : 0 ≤ k ∧ k ≤ 3) : Is k t (verV k t r).bare := by
  obtain rfl | rfl | rfl | rfl : k = 0 ∨ k = 1 ∨ k = 2 ∨ k = 3 := by omega
  · exact .rev rfl rfl (by rw [ver0]; rfl)
  · exact .branch rfl rfl (ver_un (unp1 t))
  · exact .dflt rfl rfl (ver_un (unp2 t))
  · cases hq : (qSemB0 t.data.toList).isSome with
    | false =>
      refine .plain rfl (by unfold typS; rw [hq]; rfl) ((ver_un (unp3 t)).trans ?_)
      rw [new_plain]
      cases h : qSemB0 t.data.toList with
      | none => rfl
      | some q => rw [h] at hq; cases hq
    | true =>
      refine .sem rfl (by unfold typS; rw [hq]; rfl) hq ((ver_un (unp3 t)).trans ?_)
      unfold newV; rw [sv_read t hq]
theorem rankS_eq {k : Int} {t : ByteArray} : (typS k t = 0 → rankS k t = 3) ∧ (typS k t = 1 → rankS k t = 2) ∧ (typS k t = 2 → rankS k t = 0) ∧ (typS k t = 3 → rankS k t = 1) := by
  refine ⟨fun h => ?_, fun h => ?_, fun h => ?_, fun h => ?_⟩ <;> (unfold rankS; rw [h]; rfl)
theorem pre_len (l : List UInt8) : (((preParts l).map mkB).length = 0) ↔ l.isEmpty = true := by
  rw [List.length_map, List.length_eq_zero_iff, preParts_nil]; simp
theorem versC_name {down : Bool} {a b : Vers} (h1 : a.rank = b.rank) (h2 : a.dflt = b.dflt) (h3 : a.isPre = b.isPre) (h4 : a.sem = zV) (h5 : b.sem = zV) : versC down a b = bytesC a.name b.name := by
  unfold versC thenC onC
  rw [h1, h2, h3, h4, h5]
  rw [if_pos (cmp_nat.refl _), if_pos (cmp_nat.refl _), if_pos (cmp_nat.refl _), (cmp_flip down cmp_v).refl zV]
  split <;> omega
theorem ver_order (k1 k2 : Int) (t1 r1 t2 r2 : ByteArray) (down : Bool) (hk1 : 0 ≤ k1 ∧ k1 ≤ 3) (hk2 : 0 ≤ k2 ∧ k2 ≤ 3) (ht1 : t1.size ≤ 100000) (ht2 : t2.size ≤ 100000) (w : World) :
    Calls Tryz.prog 84 #[.agg #[.int .i64 k1, .string t1, .string r1], .agg #[.int .i64 k2, .string t2, .string r2], .bool down] w fun e w' =>
      e = .returned (.int .i64 (versC down (verV k1 t1 r1) (verV k2 t2 r2))) ∧ Below w.heap.size w w' := by
  rw [versC_bare]
  have i1 := is_any k1 t1 r1 hk1
  have i2 := is_any k2 t2 r2 hk2
  generalize (verV k1 t1 r1).bare = b1 at *
  generalize (verV k2 t2 r2).bare = b2 at *
  have far : ∀ (x y : Int) (a b : Vers), rankS k1 t1 = x → rankS k2 t2 = y → x ≠ y → versC down a b = (if x < y then -1 else 1) →
      Calls Tryz.prog 84 #[.agg #[.int .i64 k1, .string t1, .string r1], .agg #[.int .i64 k2, .string t2, .string r2], .bool down] w fun e w' => e = .returned (.int .i64 (versC down a b)) ∧ Below w.heap.size w w' :=
    fun x y a b h1 h2 h3 h4 => by rw [h4]; exact vo_rank k1 k2 t1 r1 t2 r2 down hk1 hk2 ht1 ht2 w x y h1 h2 h3
  cases i1 with
  | rev e1 y1 hb1 =>
    subst hb1
    have q1 := rankS_eq.1 y1
    cases i2 with
    | rev e2 y2 hb2 =>
      subst hb2
      rw [show versC down (.rev t1) (.rev t2) = bytesC t1.data.toList t2.data.toList from versC_name rfl rfl rfl rfl rfl]
      exact vo_textr k1 k2 t1 r1 t2 r2 down hk1 hk2 ht1 ht2 w 3 q1 (rankS_eq.1 y2) y1
    | branch e2 y2 hb2 => subst hb2; exact far 3 1 _ _ q1 (rankS_eq.2.2.2 y2) (by decide) rfl
    | dflt e2 y2 hb2 => subst hb2; exact far 3 1 _ _ q1 (rankS_eq.2.2.2 y2) (by decide) rfl
    | plain e2 y2 hb2 => subst hb2; exact far 3 2 _ _ q1 (rankS_eq.2.1 y2) (by decide) rfl
    | sem e2 y2 s2 hb2 => subst hb2; exact far 3 0 _ _ q1 (rankS_eq.2.2.1 y2) (by decide) rfl
  | branch e1 y1 hb1 =>
    subst hb1
    have q1 := rankS_eq.2.2.2 y1
    cases i2 with
    | rev e2 y2 hb2 => subst hb2; exact far 1 3 _ _ q1 (rankS_eq.1 y2) (by decide) rfl
    | branch e2 y2 hb2 =>
      subst hb2
      rw [show versC down (.un (.branch t1 false)) (.un (.branch t2 false)) = bytesC t1.data.toList t2.data.toList from versC_name rfl rfl rfl rfl rfl]
      exact vo_textb k1 k2 t1 r1 t2 r2 down hk1 hk2 ht1 ht2 w 1 q1 (rankS_eq.2.2.2 y2) y1 false (by rw [e1]; rfl) (by rw [e2]; rfl)
    | dflt e2 y2 hb2 =>
      subst hb2
      exact vo_branch k1 k2 t1 r1 t2 r2 down hk1 hk2 ht1 ht2 w 1 q1 (rankS_eq.2.2.2 y2) y1 false (by rw [e1]; rfl) (by rw [e2]; rfl)
    | plain e2 y2 hb2 => subst hb2; exact far 1 2 _ _ q1 (rankS_eq.2.1 y2) (by decide) rfl
    | sem e2 y2 s2 hb2 => subst hb2; exact far 1 0 _ _ q1 (rankS_eq.2.2.1 y2) (by decide) rfl
  | dflt e1 y1 hb1 =>
    subst hb1
    have q1 := rankS_eq.2.2.2 y1
    cases i2 with
    | rev e2 y2 hb2 => subst hb2; exact far 1 3 _ _ q1 (rankS_eq.1 y2) (by decide) rfl
    | branch e2 y2 hb2 =>
      subst hb2
      exact vo_branch k1 k2 t1 r1 t2 r2 down hk1 hk2 ht1 ht2 w 1 q1 (rankS_eq.2.2.2 y2) y1 true (by rw [e1]; rfl) (by rw [e2]; rfl)
    | dflt e2 y2 hb2 =>
      subst hb2
      rw [show versC down (.un (.branch t1 true)) (.un (.branch t2 true)) = bytesC t1.data.toList t2.data.toList from versC_name rfl rfl rfl rfl rfl]
      exact vo_textb k1 k2 t1 r1 t2 r2 down hk1 hk2 ht1 ht2 w 1 q1 (rankS_eq.2.2.2 y2) y1 true (by rw [e1]; rfl) (by rw [e2]; rfl)
    | plain e2 y2 hb2 => subst hb2; exact far 1 2 _ _ q1 (rankS_eq.2.1 y2) (by decide) rfl
    | sem e2 y2 s2 hb2 => subst hb2; exact far 1 0 _ _ q1 (rankS_eq.2.2.1 y2) (by decide) rfl
  | plain e1 y1 hb1 =>
    subst hb1
    have q1 := rankS_eq.2.1 y1
    cases i2 with
    | rev e2 y2 hb2 => subst hb2; exact far 2 3 _ _ q1 (rankS_eq.1 y2) (by decide) rfl
    | branch e2 y2 hb2 => subst hb2; exact far 2 1 _ _ q1 (rankS_eq.2.2.2 y2) (by decide) rfl
    | dflt e2 y2 hb2 => subst hb2; exact far 2 1 _ _ q1 (rankS_eq.2.2.2 y2) (by decide) rfl
    | plain e2 y2 hb2 =>
      subst hb2
      rw [show versC down (.un (.plain t1)) (.un (.plain t2)) = bytesC t1.data.toList t2.data.toList from versC_name rfl rfl rfl rfl rfl]
      exact vo_textp k1 k2 t1 r1 t2 r2 down hk1 hk2 ht1 ht2 w 2 q1 (rankS_eq.2.1 y2) y1
    | sem e2 y2 s2 hb2 => subst hb2; exact far 2 0 _ _ q1 (rankS_eq.2.2.1 y2) (by decide) rfl
  | sem e1 y1 s1 hb1 =>
    subst hb1
    have q1 := rankS_eq.2.2.1 y1
    cases i2 with
    | rev e2 y2 hb2 => subst hb2; exact far 0 3 _ _ q1 (rankS_eq.1 y2) (by decide) rfl
    | branch e2 y2 hb2 => subst hb2; exact far 0 1 _ _ q1 (rankS_eq.2.2.2 y2) (by decide) rfl
    | dflt e2 y2 hb2 => subst hb2; exact far 0 1 _ _ q1 (rankS_eq.2.2.2 y2) (by decide) rfl
    | plain e2 y2 hb2 => subst hb2; exact far 0 2 _ _ q1 (rankS_eq.2.1 y2) (by decide) rfl
    | sem e2 y2 s2 hb2 =>
      subst hb2
      refine vo_sem k1 k2 t1 r1 t2 r2 down hk1 hk2 ht1 ht2 w 0 q1 (rankS_eq.2.2.1 y2) y1 s1 s2 (svOf t1) (svOf t2) (cntOf t1) (cntOf t2) rfl rfl rfl rfl _ ?_
      simp only [pre_len]
      have ha := cmp_v.anti (svOf t1) (svOf t2)
      show (if natC 0 0 = 0 then (if natC 0 0 = 0 then (if natC (boolN (svOf t1).pre.data.toList.isEmpty) (boolN (svOf t2).pre.data.toList.isEmpty) = 0 then (if bytesC [] [] = 0 then flipC down cmpV (svOf t1) (svOf t2) else bytesC [] []) else natC (boolN (svOf t1).pre.data.toList.isEmpty) (boolN (svOf t2).pre.data.toList.isEmpty)) else natC 0 0) else natC 0 0) = _
      rw [if_pos (cmp_nat.refl 0), if_pos (cmp_nat.refl 0), if_pos (cmp_bytes.refl [])]
      generalize (svOf t1).pre.data.toList.isEmpty = x
      generalize (svOf t2).pre.data.toList.isEmpty = y
      cases x <;> cases y <;> cases down <;> simp [boolN, natC, flipC, ha]
end Go.Proofs.YtgoeiflddikihaaGreatDoor.Ver
end
section
namespace Go.Proofs.YtgoeiflddikihaaGreatDoor.Ins
open Go.Sort
variable {α : Type}
def scan (c : α → α → Int) (v : α) (out : List α) : Nat → Nat → Option Nat
  | 0, k => some k
  | i + 1, k => match out[i]? with
    | none => none
    | some x => if c v x = 0 then none else if c v x < 0 then scan c v out i i else scan c v out i k
def insAll (c : α → α → Int) : List α → List α → Option (List α)
  | [], out => some out
  | v :: r, out => match scan c v out out.length out.length with
    | none => none
    | some k => insAll c r (out.take k ++ v :: out.drop k)
structure Ordered (c : α → α → Int) : Prop where
  anti : ∀ a b, c b a = - c a b
  lt_trans : ∀ a b d, c a b < 0 → c b d < 0 → c a d < 0
theorem scan_spec {c : α → α → Int} (hc : Ordered c) {v : α} {out : List α} (hs : out.Pairwise fun a b => c a b < 0) : ∀ (i k : Nat), i ≤ k → k ≤ out.length →
    (∀ j (h : j < out.length), k ≤ j → c v out[j] < 0) → (∀ j (h : j < out.length), i ≤ j → j < k → 0 < c v out[j]) → ∀ m, scan c v out i k = some m →
    m ≤ out.length ∧ (∀ j (h : j < out.length), m ≤ j → c v out[j] < 0) ∧ (∀ j (h : j < out.length), j < m → 0 < c v out[j])
  | 0, k, _, hk, h1, h2, m, hm => by
    simp only [scan, Option.some.injEq] at hm
    subst hm
    exact ⟨hk, h1, fun j h hj => h2 j h (Nat.zero_le _) hj⟩
  | i + 1, k, hi, hk, h1, h2, m, hm => by
    have hlt : i < out.length := by omega
    rw [scan, List.getElem?_eq_getElem hlt] at hm
    simp only at hm
    split at hm
    · cases hm
    · rename_i h0
      split at hm
      · rename_i hneg
        have hki : k = i + 1 := by
          rcases Nat.lt_or_ge (i + 1) k with hlt2 | hge
          · exfalso
            have a1 := h2 (i + 1) (by omega) (Nat.le_refl _) hlt2
            have a2 := List.pairwise_iff_getElem.1 hs i (i + 1) hlt (by omega) (by omega)
            have a3 := hc.lt_trans v out[i] out[i + 1] hneg a2
            omega
          · omega
        subst hki
        refine scan_spec hc hs i i (Nat.le_refl _) (by omega) ?_ (fun j h hj1 hj2 => by omega) m hm
        intro j h hj
        rcases Nat.lt_or_ge i j with h3 | h3
        · exact h1 j h (by omega)
        · have : j = i := by omega
          subst this; exact hneg
      · rename_i hpos
        refine scan_spec hc hs i k (by omega) hk h1 ?_ m hm
        intro j h hj1 hj2
        rcases Nat.lt_or_ge i j with h3 | h3
        · exact h2 j h (by omega) hj2
        · have : j = i := by omega
          subst this; omega
theorem ins_sorted {c : α → α → Int} (hc : Ordered c) {v : α} {out : List α} (hs : out.Pairwise fun a b => c a b < 0) {k : Nat} (hk : scan c v out out.length out.length = some k) :
    k ≤ out.length ∧ (out.take k ++ v :: out.drop k).Pairwise (fun a b => c a b < 0) ∧ (out.take k ++ v :: out.drop k).Perm (v :: out) := by
  obtain ⟨h0, h1, h2⟩ := scan_spec hc hs out.length out.length (Nat.le_refl _) (Nat.le_refl _) (fun j h hj => by omega) (fun j h hj1 hj2 => by omega) k hk
  refine ⟨h0, ?_, ?_⟩
  · have hs' := hs
    rw [← List.take_append_drop k out, List.pairwise_append] at hs'
    obtain ⟨p1, p2, p3⟩ := hs'
    rw [List.pairwise_append]
    refine ⟨p1, List.pairwise_cons.2 ⟨fun b hb => ?_, p2⟩, fun a ha b hb => ?_⟩
    · obtain ⟨j, hj, rfl⟩ := List.getElem_of_mem hb
      rw [List.length_drop] at hj
      rw [List.getElem_drop]
      exact h1 _ _ (by omega)
    · have hav : c a v < 0 := by
        obtain ⟨j, hj, rfl⟩ := List.getElem_of_mem ha
        rw [List.length_take] at hj
        rw [List.getElem_take]
        have := h2 j (by omega) (by omega)
        have := hc.anti v out[j]
        omega
      rcases List.mem_cons.1 hb with rfl | hb
      · exact hav
      · exact p3 a ha b hb
  · refine List.perm_middle.trans ?_
    rw [List.take_append_drop]
theorem insAll_sorted {c : α → α → Int} (hc : Ordered c) : ∀ (l out L : List α), out.Pairwise (fun a b => c a b < 0) → insAll c l out = some L → L.Pairwise (fun a b => c a b < 0) ∧ L.Perm (l ++ out)
  | [], out, L, hs, h => by
    simp only [insAll, Option.some.injEq] at h
    subst h
    exact ⟨hs, List.Perm.refl _⟩
  | v :: r, out, L, hs, h => by
    rw [insAll] at h
    split at h
    · cases h
    · rename_i k hk
      obtain ⟨_, h1, h2⟩ := ins_sorted hc hs hk
      obtain ⟨h3, h4⟩ := insAll_sorted hc r _ L h1 h
      refine ⟨h3, h4.trans ?_⟩
      refine (List.Perm.append_left r h2).trans ?_
      exact List.perm_middle
theorem sorted_eq {c : α → α → Int} (hc : Ordered c) {L L' : List α} (h1 : L.Pairwise fun a b => c a b < 0) (h2 : L'.Pairwise fun a b => ¬ c b a < 0) (hp : L'.Perm L) : L' = L := by
  refine List.Perm.eq_of_pairwise (le := fun a b => ¬ c b a < 0) ?_ h2 (h1.imp fun {a b} h => by have := hc.anti a b; omega) hp
  intro a b ha hb h3 h4
  have ha' := hp.subset ha
  have h0 : c a b = 0 := by have := hc.anti a b; omega
  obtain ⟨i, hi, rfl⟩ := List.getElem_of_mem ha'
  obtain ⟨j, hj, rfl⟩ := List.getElem_of_mem hb
  rw [List.pairwise_iff_getElem] at h1
  rcases Nat.lt_trichotomy i j with h | h | h
  · have := h1 i j hi hj h; omega
  · subst h; rfl
  · have a1 := h1 j i hj hi h
    have a2 := hc.anti L[j] L[i]
    omega
theorem perm_list [Inhabited α] {d d' : Array α} (h : PermIn 0 d.size d d') : d'.toList.Perm d.toList := by
  obtain ⟨h1, _, h3⟩ := h
  have e1 : d.extract 0 d.size = d := by simp
  have e2 : d'.extract 0 d.size = d' := by rw [← h1]; simp
  rw [e1, e2] at h3
  exact h3
theorem sorted_list [Inhabited α] {lt : α → α → Bool} {d : Array α} {n : Nat} (hn : d.size = n) (h : SortedIn lt 0 n d) : d.toList.Pairwise fun a b => lt b a = false := by
  rw [List.pairwise_iff_getElem]
  intro i j hi hj hij
  have hi' : i < d.size := by simpa using hi
  have hj' : j < d.size := by simpa using hj
  have := h i j (Nat.zero_le _) hij (by omega)
  rw [getElem!_pos d j hj', getElem!_pos d i hi'] at this
  simpa using this
end Go.Proofs.YtgoeiflddikihaaGreatDoor.Ins
end
