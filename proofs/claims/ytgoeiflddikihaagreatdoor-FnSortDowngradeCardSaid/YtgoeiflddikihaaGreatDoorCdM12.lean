/- Merged by program out of: Sorter2, Sorted2, SemO, ReadSem, SemJ, SpecB. -/
import Derived.Test.YtgoeiflddikihaaGreatDoorCdM10
import Derived.Test.YtgoeiflddikihaaGreatDoorCdM11
import Derived.Test.YtgoeiflddikihaaGreatDoorCdM5
import Derived.Test.YtgoeiflddikihaaGreatDoorCdM7
import Derived.Test.YtgoeiflddikihaaGreatDoorCdM6
import Derived.Deep.Cut
import Derived.Deep.CutRange
section
namespace Go.Proofs.YtgoeiflddikihaaGreatDoor.Ver
open Go.RowKit Go.Proofs.YtgoeiflddikihaaGreatDoorW.PrintWords Go.Sort Go.Proofs.YtgoeiflddikihaaGreatDoor.Srt Go.Proofs.YtgoeiflddikihaaGreatDoor.Ord
theorem sortsW_up (blk off n cap : Nat) (h2 : 2 ≤ n) (hn : n < 50) (d : Array VS) (hd : d.size = n) (w : World) (hH : Holds encV w blk off d) (hb : blk < w.heap.size) :
    Calls Tryz.prog 80 #[.slice (some ⟨blk, off, none⟩) n cap] w fun e w' => e = .returned (.tuple #[]) ∧ ∃ d', PermIn 0 n d d' ∧ SortedIn (ltV false) 0 n d' ∧ SI encV w blk off d' w' := by
  have HS := Lib.hid (sort_any (meth_up _ n cap) encV (ltV false) (swo_ltV false) w blk off n (less_up w blk off n cap) (fun w' => swap_up w' blk off n cap) h2 hn (fun W => lenN_up _ n cap W) d hd hH hb)
  clear hn h2 hd hH hb
  go_enter Tryz.func80, Tryz.ntmps80
  go_wp2_with (go_at_call 102; ((with_reducible refine HS.out.mono ?_); rintro e w5 ⟨rfl, hs5⟩; have HS5 := Aside0.mk hs5; clear hs5))
  go_end0
  exact ⟨rfl, HS5.out⟩
theorem sortW_up (blk off n cap : Nat) (h1 : 1 ≤ n) (hn : n < 50) (d : Array VS) (hd : d.size = n) (w : World) (hH : Holds encV w blk off d) (hb : blk < w.heap.size) :
    Calls Tryz.prog 80 #[.slice (some ⟨blk, off, none⟩) n cap] w fun e w' => e = .returned (.tuple #[]) ∧ ∃ d', PermIn 0 n d d' ∧ SortedIn (ltV false) 0 n d' ∧ SI encV w blk off d' w' := by
  by_cases h2 : 2 ≤ n
  · exact sortsW_up blk off n cap h2 hn d hd w hH hb
  · refine (sorts0_up _ n cap (by omega) w).mono fun _ _ ⟨he, hd0⟩ => ⟨he, d, permIn_refl d 0 n, fun i j _ h3 h4 => by omega, ?_⟩
    obtain ⟨q, rfl⟩ := hd0.out
    exact (SI.mk (World.grownBy.refl w (some blk)) hH hb).drewN q
theorem sortsW_dn (blk off n cap : Nat) (h2 : 2 ≤ n) (hn : n < 50) (d : Array VS) (hd : d.size = n) (w : World) (hH : Holds encV w blk off d) (hb : blk < w.heap.size) :
    Calls Tryz.prog 79 #[.slice (some ⟨blk, off, none⟩) n cap] w fun e w' => e = .returned (.tuple #[]) ∧ ∃ d', PermIn 0 n d d' ∧ SortedIn (ltV true) 0 n d' ∧ SI encV w blk off d' w' := by
  have HS := Lib.hid (sort_any (meth_dn _ n cap) encV (ltV true) (swo_ltV true) w blk off n (less_dn w blk off n cap) (fun w' => swap_dn w' blk off n cap) h2 hn (fun W => lenN_dn _ n cap W) d hd hH hb)
  clear hn h2 hd hH hb
  go_enter Tryz.func79, Tryz.ntmps79
  go_wp2_with (go_at_call 102; ((with_reducible refine HS.out.mono ?_); rintro e w5 ⟨rfl, hs5⟩; have HS5 := Aside0.mk hs5; clear hs5))
  go_end0
  exact ⟨rfl, HS5.out⟩
theorem sortW_dn (blk off n cap : Nat) (h1 : 1 ≤ n) (hn : n < 50) (d : Array VS) (hd : d.size = n) (w : World) (hH : Holds encV w blk off d) (hb : blk < w.heap.size) :
    Calls Tryz.prog 79 #[.slice (some ⟨blk, off, none⟩) n cap] w fun e w' => e = .returned (.tuple #[]) ∧ ∃ d', PermIn 0 n d d' ∧ SortedIn (ltV true) 0 n d' ∧ SI encV w blk off d' w' := by
  by_cases h2 : 2 ≤ n
  · exact sortsW_dn blk off n cap h2 hn d hd w hH hb
  · refine (sorts0_dn _ n cap (by omega) w).mono fun _ _ ⟨he, hd0⟩ => ⟨he, d, permIn_refl d 0 n, fun i j _ h3 h4 => by omega, ?_⟩
    obtain ⟨q, rfl⟩ := hd0.out
    exact (SI.mk (World.grownBy.refl w (some blk)) hH hb).drewN q
end Go.Proofs.YtgoeiflddikihaaGreatDoor.Ver
end
section
namespace Go.Proofs.YtgoeiflddikihaaGreatDoor.Ver
open Go.RowKit Go.Proofs.YtgoeiflddikihaaGreatDoor.Dig Go.Proofs.YtgoeiflddikihaaGreatDoorW.PrintWords Go.Sort Go.Proofs.YtgoeiflddikihaaGreatDoor.Srt Go.Proofs.YtgoeiflddikihaaGreatDoor.Ord
set_option maxRecDepth 20000 in
set_option maxHeartbeats 4000000 in
theorem sortedW_up (D : List VD) (hn : 1 ≤ D.length ∧ D.length < 50) (v : Value) (w : World) (hv : Vars w) (hA : AtV w v D) :
    Calls Tryz.prog 37 #[v, .bool false, .bool false] w (SortedEnd false (D.map VD.ver).toArray w) := by
  obtain ⟨a, c, rfl, hc⟩ := hA.form
  obtain ⟨b, o, rfl, hcell⟩ := hc (by omega)
  obtain ⟨i0, hi, hz0, hz1, hz2⟩ := info_parts info114
  have HB := Aside0.mk (Below.refl w.heap.size w)
  have hblt : b < w.heap.size := World.block_lt_of_cell? w ⟨b, o + 0 * 3, none⟩ (hcell 0 (by omega)).1
  have HC := Lib.hid (fun W (hb : Below w.heap.size w W) i (h : i < D.length) => (⟨(hb.cell (p := ⟨b, o + i * 3, none⟩) hblt).trans (hcell i h).1, (hb.cell (p := ⟨b, o + i * 3 + 1, none⟩) hblt).trans (hcell i h).2.1, (hb.cell (p := ⟨b, o + i * 3 + 2, none⟩) hblt).trans (hcell i h).2.2⟩ : W.cell? ⟨b, o + i * 3, none⟩ = some (.int .i64 D[i].k) ∧ W.cell? ⟨b, o + i * 3 + 1, none⟩ = some (.string D[i].t) ∧ W.cell? ⟨b, o + i * 3 + 2, none⟩ = some (.string D[i].r)))
  have HVER := Lib.hid (fun (x : VD) W (hb : Below w.heap.size w W) => ver_any x.k x.t x.r x.ht W (hv.below hb))
  clear hcell hc hA hv
  obtain ⟨hn1, hn2⟩ := hn
  obtain ⟨n, hN⟩ : ∃ n, D.length = n := ⟨_, rfl⟩
  have HN := Lib.hid hN
  rw [hN] at hn1 hn2 ⊢
  have HDS := Lib.hid (show (D.map VD.ver).toArray.size = n by simp [hN])
  have HDJ := Lib.hid (fun j (h : j < n) => (show (encsTo D n)[j]? = some (encV (D.map VD.ver).toArray[j]!) by
    unfold encsTo
    rw [List.take_of_length_le (by omega), getElem!_pos _ j (by simp; omega)]
    simp [List.getElem?_map, List.getElem?_eq_getElem (show j < D.length by omega)]))
  generalize (D.map VD.ver).toArray = d at *
  clear hN
  go_enter Tryz.func37, Tryz.ntmps37
  go_wp2_with fail
  go_loopw [15, 59] (fun v15 v59 wr => ∃ k : Nat, v59 = .int .i64 k ∧ k ≤ n ∧ Aside0 (wr.ownsRow w.heap.size 114 1 v15 k (encsTo D k)) ∧ Aside0 (Below w.heap.size w wr)) (fun _ v59 _ => n - (intOf v59).toNat)
  case atStart => exact ⟨0, rfl, by omega, ⟨World.ownsRow_nil _ _ _ _⟩, HB⟩
  case round =>
    obtain ⟨k, rfl, hk, HO, HW⟩ := hrel
    by_cases hlt : k < n
    · have d1 : decide (k < n) = true := decide_eq_true hlt
      have HLT := Lib.hid (show k < D.length by rw [HN.out]; exact hlt)
      obtain ⟨c0, c1, c2⟩ := HC.out wr HW.out k HLT.out
      have hv' : ∀ W, Below w.heap.size w W → Calls Tryz.prog 66 #[.agg #[.int .i64 D[k].k, .string D[k].t, .string D[k].r]] W fun e w' => e = .returned (encV D[k].ver) ∧ Below W.heap.size W w' := HVER.out D[k]
      obtain ⟨ty, vy, hy⟩ : ∃ t v, encV D[k].ver = .iface t v := ⟨_, _, rfl⟩
      rw [hy] at hv'
      have HY : Hid (encsTo D k ++ [.iface ty vy] = encsTo D (k + 1)) := Lib.hid (by rw [← hy]; exact encsTo_next D k HLT.out)
      clear hy
      have HV := Lib.hid hv'
      clear hv'
      generalize D[k].k = vk at *
      generalize D[k].t = vt at *
      generalize D[k].r = vr at *
      go_wp2_with (first
        | (go_at_call 66; ((with_reducible refine (HV.out _ (by repeat (first | exact HW.out | apply below_alloc | apply pw_below_drewN))).mono ?_); rintro e w5 ⟨rfl, hb⟩; have HO5 := Aside0.mk (pw_own_below (HO.out.alloc _) hb); have HW5 := Aside0.mk (below_trans (by repeat (first | exact HW.out | apply below_alloc | apply pw_below_drewN)) hb); clear hb))
        | (at_builtin; (refine wpList_append_own _ rfl _ _ 143 rfl w.heap.size 114 i0 .nilIface 1 16 Tryz.underlying143 hi hz0 hz1 hz2 rfl (by decide) _ k _ rfl (HO5.out.alloc _) ⟨w5.heap.size, 0, none⟩ 1 1 [.iface ty vy] rfl rfl ?c1 ?c2 ?c3 ?c4 ?c5 ?_)))
      case c1 => exact cell_one_new _ _ _
      case c2 => intro u hu; simp at hu; subst hu; rfl
      case c3 => unfold maxLen; omega
      case c4 => omega
      case c5 => exact (below_alloc HW5.out _).size
      intro v' w6 ho6 hg6 _
      have HO6 := Aside0.mk (show w6.ownsRow w.heap.size 114 1 v' (k + 1) (encsTo D (k + 1)) by rw [← HY.out]; exact ho6)
      have HW6 := Aside0.mk (pw_below_grown (below_alloc HW5.out (.cells #[.iface ty vy] 114)) _ (below_alloc HW5.out _).size hg6 (fun kk hk => (HO5.out.lt kk hk).1))
      clear ho6 hg6
      go_wp2_with fail
      go_roundw
      case rel => exact ⟨k + 1, by go_num, by omega, HO6, HW6⟩
      case measure => simp [intOf]; omega
    · have d1 : decide (k < n) = false := decide_eq_false hlt
      obtain rfl : k = n := by omega
      clear hlt hk
      obtain ⟨g, cap, rfl, hg1, hg2⟩ := HO.out.form (by omega)
      have hH : Holds encV wr g 0 d := by
        intro j hj
        rw [HDS.out] at hj
        rw [Nat.zero_add]
        exact ⟨by rw [HO.out.cellAt j (by omega)]; exact HDJ.out j hj, HO.out.frozenAt j⟩
      have HSRT := Lib.hid (sortW_up g 0 k cap hn1 hn2 d HDS.out wr hH hg2)
      have HG := Lib.hid hg1
      clear hH hg1 hg2
      go_wp2_with (first
        | (go_at_call 80; ((with_reducible refine HSRT.out.mono ?_); rintro e w7 ⟨rfl, d', hpi, hso, hsi⟩; refine Hid.out ?_)))
      have HPI := Lib.hid hpi
      have HSO := Lib.hid hso
      have HSI := Aside0.mk hsi
      have HW7 := Aside0.mk (pw_below_grown HW.out (some g) HW.out.size hsi.gr (fun kk hk => by injection hk with hk; subst hk; exact HG.out))
      have HD7 := Lib.hid (show d'.size = k by rw [hpi.1]; exact HDS.out)
      clear hpi hso hsi
      obtain ⟨iv, hvi, hvz0, hvz1, hvz2⟩ := info_parts infoV
      refine Lib.hid ?_
      go_wp2_with fail
      go_loopw [7, 76] (fun v7 v76 wx => ∃ q : Nat, v76 = .int .i64 q ∧ q ≤ k ∧ Aside0 (wx.ownsRow w7.heap.size 27 3 v7 q (backsTo d' q)) ∧ Aside0 (Below w7.heap.size w7 wx)) (fun _ v76 _ => k - (intOf v76).toNat)
      case atStart => exact ⟨0, rfl, by omega, ⟨World.ownsRow_nil _ _ _ _⟩, ⟨Below.refl _ _⟩⟩
      case round =>
        obtain ⟨q, rfl, hq, HP, HX⟩ := hrel
        by_cases hlt : q < k
        · have e1 : decide (q < k) = true := decide_eq_true hlt
          have hcl : wr.cell? ⟨g, q, none⟩ = some (encV d'[q]!) := by
            have h1 := (HSI.out.holds q (by rw [HD7.out]; exact hlt)).1
            rw [Nat.zero_add] at h1
            exact (HX.out.cell (p := ⟨g, q, none⟩) (World.block_lt_of_cell? _ _ h1)).trans h1
          have hb' := back_any d'[q]!
          obtain ⟨vk, vt, vr, hbf⟩ := backV_form d'[q]!.1
          rw [hbf] at hb'
          have HY : Hid (backsTo d' q ++ [.int .i64 vk, .string vt, .string vr] = backsTo d' (q + 1)) := Lib.hid (by rw [← backsTo_next d' q (by rw [HD7.out]; exact hlt), hbf]; rfl)
          have HBK := Lib.hid hb'
          clear hb' hbf
          generalize encV d'[q]! = ev at *
          go_wp2_with (first
            | (go_at_call 78; ((with_reducible refine (HBK.out _).mono ?_); rintro e w8 ⟨rfl, hb⟩; have HP8 := Aside0.mk (pw_own_below HP.out hb); have HX8 := Aside0.mk (below_trans HX.out hb); clear hb))
            | (at_builtin; (refine wpList_append_own _ rfl _ _ 23 rfl w7.heap.size 27 iv (.agg #[.int .i64 0, .string ⟨#[]⟩, .string ⟨#[]⟩]) 3 40 Tryz.underlying23 hvi hvz0 hvz1 hvz2 rfl (by decide) _ q _ rfl (HP8.out.alloc _) ⟨w8.heap.size, 0, none⟩ 1 1 [.int .i64 vk, .string vt, .string vr] rfl rfl ?c1 ?c2 ?c3 ?c4 ?c5 ?_)))
          case c1 => exact cells_new _ #[.int .i64 vk, .string vt, .string vr] _
          case c2 => intro u hu; simp at hu; rcases hu with rfl | rfl | rfl <;> rfl
          case c3 => unfold maxLen; omega
          case c4 => omega
          case c5 => exact (below_alloc HX8.out _).size
          intro v' w9 ho9 hg9 _
          have HP9 := Aside0.mk (show w9.ownsRow w7.heap.size 27 3 v' (q + 1) (backsTo d' (q + 1)) by rw [← HY.out]; exact ho9)
          have HX9 := Aside0.mk (pw_below_grown (below_alloc HX8.out (.cells #[.int .i64 vk, .string vt, .string vr] 27)) _ (below_alloc HX8.out _).size hg9 (fun kk hk => (HP8.out.lt kk hk).1))
          clear ho9 hg9
          go_wp2_with fail
          go_roundw
          case rel => exact ⟨q + 1, by go_num, by omega, HP9, HX9⟩
          case measure => simp [intOf]; omega
        · have e1 : decide (q < k) = false := decide_eq_false hlt
          obtain rfl : q = k := by omega
          clear hlt hq
          go_wp2_with fail
          go_ret
          refine ⟨_, d', rfl, by rw [HDS.out]; exact HPI.out, by rw [HDS.out]; exact HSO.out, ?_, below_trans HW7.out HX.out⟩
          rw [HDS.out, ← backsTo_all d' HD7.out]
          exact own_less HP.out HW7.out.size
set_option maxRecDepth 20000 in
set_option maxHeartbeats 4000000 in
theorem sorted0_up (a : Option Addr) (c : Nat) (w : World) :
    Calls Tryz.prog 37 #[.slice a 0 c, .bool false, .bool false] w (SortedEnd false #[] w) := by
  have HB := Aside0.mk (Below.refl w.heap.size w)
  have HS := Lib.hid (fun a c W => sorts0_up a 0 c (by omega) W)
  go_enter Tryz.func37, Tryz.ntmps37
  go_wp2_with fail
  refine wp_loop_rounds 1 ?_
  rw [rounds_succ]
  go_wp2_with (go_at_call 80; ((with_reducible refine (HS.out _ _ _).mono ?_); rintro e w5 ⟨rfl, ⟨q, rfl⟩⟩))
  refine wp_loop_rounds 1 ?_
  rw [rounds_succ]
  go_wp2_with fail
  go_ret
  exact ⟨_, #[], rfl, permIn_refl _ 0 0, fun i j _ h3 h4 => by simp at h4, World.ownsRow_nil _ _ _ _, by repeat (first | exact HB.out | apply below_alloc | apply pw_below_drewN)⟩
set_option maxRecDepth 20000 in
set_option maxHeartbeats 4000000 in
theorem sortedW_dn (D : List VD) (hn : 1 ≤ D.length ∧ D.length < 50) (v : Value) (w : World) (hv : Vars w) (hA : AtV w v D) :
    Calls Tryz.prog 37 #[v, .bool true, .bool false] w (SortedEnd true (D.map VD.ver).toArray w) := by
  obtain ⟨a, c, rfl, hc⟩ := hA.form
  obtain ⟨b, o, rfl, hcell⟩ := hc (by omega)
  obtain ⟨i0, hi, hz0, hz1, hz2⟩ := info_parts info114
  have HB := Aside0.mk (Below.refl w.heap.size w)
  have hblt : b < w.heap.size := World.block_lt_of_cell? w ⟨b, o + 0 * 3, none⟩ (hcell 0 (by omega)).1
  have HC := Lib.hid (fun W (hb : Below w.heap.size w W) i (h : i < D.length) => (⟨(hb.cell (p := ⟨b, o + i * 3, none⟩) hblt).trans (hcell i h).1, (hb.cell (p := ⟨b, o + i * 3 + 1, none⟩) hblt).trans (hcell i h).2.1, (hb.cell (p := ⟨b, o + i * 3 + 2, none⟩) hblt).trans (hcell i h).2.2⟩ : W.cell? ⟨b, o + i * 3, none⟩ = some (.int .i64 D[i].k) ∧ W.cell? ⟨b, o + i * 3 + 1, none⟩ = some (.string D[i].t) ∧ W.cell? ⟨b, o + i * 3 + 2, none⟩ = some (.string D[i].r)))
  have HVER := Lib.hid (fun (x : VD) W (hb : Below w.heap.size w W) => ver_any x.k x.t x.r x.ht W (hv.below hb))
  clear hcell hc hA hv
  obtain ⟨hn1, hn2⟩ := hn
  obtain ⟨n, hN⟩ : ∃ n, D.length = n := ⟨_, rfl⟩
  have HN := Lib.hid hN
  rw [hN] at hn1 hn2 ⊢
  have HDS := Lib.hid (show (D.map VD.ver).toArray.size = n by simp [hN])
  have HDJ := Lib.hid (fun j (h : j < n) => (show (encsTo D n)[j]? = some (encV (D.map VD.ver).toArray[j]!) by
    unfold encsTo
    rw [List.take_of_length_le (by omega), getElem!_pos _ j (by simp; omega)]
    simp [List.getElem?_map, List.getElem?_eq_getElem (show j < D.length by omega)]))
  generalize (D.map VD.ver).toArray = d at *
  clear hN
  go_enter Tryz.func37, Tryz.ntmps37
  go_wp2_with fail
  go_loopw [15, 59] (fun v15 v59 wr => ∃ k : Nat, v59 = .int .i64 k ∧ k ≤ n ∧ Aside0 (wr.ownsRow w.heap.size 114 1 v15 k (encsTo D k)) ∧ Aside0 (Below w.heap.size w wr)) (fun _ v59 _ => n - (intOf v59).toNat)
  case atStart => exact ⟨0, rfl, by omega, ⟨World.ownsRow_nil _ _ _ _⟩, HB⟩
  case round =>
    obtain ⟨k, rfl, hk, HO, HW⟩ := hrel
    by_cases hlt : k < n
    · have d1 : decide (k < n) = true := decide_eq_true hlt
      have HLT := Lib.hid (show k < D.length by rw [HN.out]; exact hlt)
      obtain ⟨c0, c1, c2⟩ := HC.out wr HW.out k HLT.out
      have hv' : ∀ W, Below w.heap.size w W → Calls Tryz.prog 66 #[.agg #[.int .i64 D[k].k, .string D[k].t, .string D[k].r]] W fun e w' => e = .returned (encV D[k].ver) ∧ Below W.heap.size W w' := HVER.out D[k]
      obtain ⟨ty, vy, hy⟩ : ∃ t v, encV D[k].ver = .iface t v := ⟨_, _, rfl⟩
      rw [hy] at hv'
      have HY : Hid (encsTo D k ++ [.iface ty vy] = encsTo D (k + 1)) := Lib.hid (by rw [← hy]; exact encsTo_next D k HLT.out)
      clear hy
      have HV := Lib.hid hv'
      clear hv'
      generalize D[k].k = vk at *
      generalize D[k].t = vt at *
      generalize D[k].r = vr at *
      go_wp2_with (first
        | (go_at_call 66; ((with_reducible refine (HV.out _ (by repeat (first | exact HW.out | apply below_alloc | apply pw_below_drewN))).mono ?_); rintro e w5 ⟨rfl, hb⟩; have HO5 := Aside0.mk (pw_own_below (HO.out.alloc _) hb); have HW5 := Aside0.mk (below_trans (by repeat (first | exact HW.out | apply below_alloc | apply pw_below_drewN)) hb); clear hb))
        | (at_builtin; (refine wpList_append_own _ rfl _ _ 143 rfl w.heap.size 114 i0 .nilIface 1 16 Tryz.underlying143 hi hz0 hz1 hz2 rfl (by decide) _ k _ rfl (HO5.out.alloc _) ⟨w5.heap.size, 0, none⟩ 1 1 [.iface ty vy] rfl rfl ?c1 ?c2 ?c3 ?c4 ?c5 ?_)))
      case c1 => exact cell_one_new _ _ _
      case c2 => intro u hu; simp at hu; subst hu; rfl
      case c3 => unfold maxLen; omega
      case c4 => omega
      case c5 => exact (below_alloc HW5.out _).size
      intro v' w6 ho6 hg6 _
      have HO6 := Aside0.mk (show w6.ownsRow w.heap.size 114 1 v' (k + 1) (encsTo D (k + 1)) by rw [← HY.out]; exact ho6)
      have HW6 := Aside0.mk (pw_below_grown (below_alloc HW5.out (.cells #[.iface ty vy] 114)) _ (below_alloc HW5.out _).size hg6 (fun kk hk => (HO5.out.lt kk hk).1))
      clear ho6 hg6
      go_wp2_with fail
      go_roundw
      case rel => exact ⟨k + 1, by go_num, by omega, HO6, HW6⟩
      case measure => simp [intOf]; omega
    · have d1 : decide (k < n) = false := decide_eq_false hlt
      obtain rfl : k = n := by omega
      clear hlt hk
      obtain ⟨g, cap, rfl, hg1, hg2⟩ := HO.out.form (by omega)
      have hH : Holds encV wr g 0 d := by
        intro j hj
        rw [HDS.out] at hj
        rw [Nat.zero_add]
        exact ⟨by rw [HO.out.cellAt j (by omega)]; exact HDJ.out j hj, HO.out.frozenAt j⟩
      have HSRT := Lib.hid (sortW_dn g 0 k cap hn1 hn2 d HDS.out wr hH hg2)
      have HG := Lib.hid hg1
      clear hH hg1 hg2
      go_wp2_with (first
        | (go_at_call 79; ((with_reducible refine HSRT.out.mono ?_); rintro e w7 ⟨rfl, d', hpi, hso, hsi⟩; refine Hid.out ?_)))
      have HPI := Lib.hid hpi
      have HSO := Lib.hid hso
      have HSI := Aside0.mk hsi
      have HW7 := Aside0.mk (pw_below_grown HW.out (some g) HW.out.size hsi.gr (fun kk hk => by injection hk with hk; subst hk; exact HG.out))
      have HD7 := Lib.hid (show d'.size = k by rw [hpi.1]; exact HDS.out)
      clear hpi hso hsi
      obtain ⟨iv, hvi, hvz0, hvz1, hvz2⟩ := info_parts infoV
      refine Lib.hid ?_
      go_wp2_with fail
      go_loopw [7, 76] (fun v7 v76 wx => ∃ q : Nat, v76 = .int .i64 q ∧ q ≤ k ∧ Aside0 (wx.ownsRow w7.heap.size 27 3 v7 q (backsTo d' q)) ∧ Aside0 (Below w7.heap.size w7 wx)) (fun _ v76 _ => k - (intOf v76).toNat)
      case atStart => exact ⟨0, rfl, by omega, ⟨World.ownsRow_nil _ _ _ _⟩, ⟨Below.refl _ _⟩⟩
      case round =>
        obtain ⟨q, rfl, hq, HP, HX⟩ := hrel
        by_cases hlt : q < k
        · have e1 : decide (q < k) = true := decide_eq_true hlt
          have hcl : wr.cell? ⟨g, q, none⟩ = some (encV d'[q]!) := by
            have h1 := (HSI.out.holds q (by rw [HD7.out]; exact hlt)).1
            rw [Nat.zero_add] at h1
            exact (HX.out.cell (p := ⟨g, q, none⟩) (World.block_lt_of_cell? _ _ h1)).trans h1
          have hb' := back_any d'[q]!
          obtain ⟨vk, vt, vr, hbf⟩ := backV_form d'[q]!.1
          rw [hbf] at hb'
          have HY : Hid (backsTo d' q ++ [.int .i64 vk, .string vt, .string vr] = backsTo d' (q + 1)) := Lib.hid (by rw [← backsTo_next d' q (by rw [HD7.out]; exact hlt), hbf]; rfl)
          have HBK := Lib.hid hb'
          clear hb' hbf
          generalize encV d'[q]! = ev at *
          go_wp2_with (first
            | (go_at_call 78; ((with_reducible refine (HBK.out _).mono ?_); rintro e w8 ⟨rfl, hb⟩; have HP8 := Aside0.mk (pw_own_below HP.out hb); have HX8 := Aside0.mk (below_trans HX.out hb); clear hb))
            | (at_builtin; (refine wpList_append_own _ rfl _ _ 23 rfl w7.heap.size 27 iv (.agg #[.int .i64 0, .string ⟨#[]⟩, .string ⟨#[]⟩]) 3 40 Tryz.underlying23 hvi hvz0 hvz1 hvz2 rfl (by decide) _ q _ rfl (HP8.out.alloc _) ⟨w8.heap.size, 0, none⟩ 1 1 [.int .i64 vk, .string vt, .string vr] rfl rfl ?c1 ?c2 ?c3 ?c4 ?c5 ?_)))
          case c1 => exact cells_new _ #[.int .i64 vk, .string vt, .string vr] _
          case c2 => intro u hu; simp at hu; rcases hu with rfl | rfl | rfl <;> rfl
          case c3 => unfold maxLen; omega
          case c4 => omega
          case c5 => exact (below_alloc HX8.out _).size
          intro v' w9 ho9 hg9 _
          have HP9 := Aside0.mk (show w9.ownsRow w7.heap.size 27 3 v' (q + 1) (backsTo d' (q + 1)) by rw [← HY.out]; exact ho9)
          have HX9 := Aside0.mk (pw_below_grown (below_alloc HX8.out (.cells #[.int .i64 vk, .string vt, .string vr] 27)) _ (below_alloc HX8.out _).size hg9 (fun kk hk => (HP8.out.lt kk hk).1))
          clear ho9 hg9
          go_wp2_with fail
          go_roundw
          case rel => exact ⟨q + 1, by go_num, by omega, HP9, HX9⟩
          case measure => simp [intOf]; omega
        · have e1 : decide (q < k) = false := decide_eq_false hlt
          obtain rfl : q = k := by omega
          clear hlt hq
          go_wp2_with fail
          go_ret
          refine ⟨_, d', rfl, by rw [HDS.out]; exact HPI.out, by rw [HDS.out]; exact HSO.out, ?_, below_trans HW7.out HX.out⟩
          rw [HDS.out, ← backsTo_all d' HD7.out]
          exact own_less HP.out HW7.out.size
set_option maxRecDepth 20000 in
set_option maxHeartbeats 4000000 in
theorem sorted0_dn (a : Option Addr) (c : Nat) (w : World) :
    Calls Tryz.prog 37 #[.slice a 0 c, .bool true, .bool false] w (SortedEnd true #[] w) := by
  have HB := Aside0.mk (Below.refl w.heap.size w)
  have HS := Lib.hid (fun a c W => sorts0_dn a 0 c (by omega) W)
  go_enter Tryz.func37, Tryz.ntmps37
  go_wp2_with fail
  refine wp_loop_rounds 1 ?_
  rw [rounds_succ]
  go_wp2_with (go_at_call 79; ((with_reducible refine (HS.out _ _ _).mono ?_); rintro e w5 ⟨rfl, ⟨q, rfl⟩⟩))
  refine wp_loop_rounds 1 ?_
  rw [rounds_succ]
  go_wp2_with fail
  go_ret
  exact ⟨_, #[], rfl, permIn_refl _ 0 0, fun i j _ h3 h4 => by simp at h4, World.ownsRow_nil _ _ _ _, by repeat (first | exact HB.out | apply below_alloc | apply pw_below_drewN)⟩
end Go.Proofs.YtgoeiflddikihaaGreatDoor.Ver
end
section
namespace Go.Proofs.YtgoeiflddikihaaGreatDoor.Ver
open Go.Proofs.YtgoeiflddikihaaGreatDoor.Ord
def preParts (l : List UInt8) : List (List UInt8) := if l = [] then [] else qSplitOn 46 l
theorem firstI_app {x r : List UInt8} (h : (46 : UInt8) ∉ x) : firstI (x ++ 46 :: r) = x ∧ restI (x ++ 46 :: r) = r := by
  have hx : ∀ a ∈ x, (a != 46) = true := fun a ha => by
    rw [bne_iff_ne]; rintro rfl; exact h ha
  constructor
  · unfold firstI; rw [List.takeWhile_append_of_pos hx]; simp
  · unfold restI; rw [List.dropWhile_append_of_pos hx]; simp
theorem firstI_one {x : List UInt8} (h : (46 : UInt8) ∉ x) : firstI x = x ∧ restI x = [] := by
  have hx : ∀ a ∈ x, (a != 46) = true := fun a ha => by
    rw [bne_iff_ne]; rintro rfl; exact h ha
  have h1 := List.takeWhile_append_of_pos (l₂ := []) hx
  have h2 := List.dropWhile_append_of_pos (l₂ := []) hx
  simp only [List.append_nil, List.takeWhile_nil, List.dropWhile_nil] at h1 h2
  exact ⟨h1, by unfold restI; rw [h2]; rfl⟩
theorem parts_split : ∀ (n : Nat) (l : List UInt8), l.length ≤ n → l ≠ [] → qIdentsB l = true → parts l = qSplitOn 46 l
  | 0, l, hn, hl, _ => absurd (List.length_eq_zero_iff.1 (by omega)) hl
  | n + 1, l, hn, hl, hi => by
    obtain ⟨x, hx, h⟩ := qSplitOn_first 46 l
    rcases h with ⟨rfl, h⟩ | ⟨r, rfl, h⟩
    · obtain ⟨h1, h2⟩ := firstI_one hx
      rw [parts_cons hl, h1, h2, parts_nil, h]
    · obtain ⟨h1, h2⟩ := firstI_app (r := r) hx
      have hi2 : qIdentsB r = true := by
        unfold qIdentsB at hi ⊢
        rw [h, List.all_cons, Bool.and_eq_true] at hi
        exact hi.2
      have hr : r ≠ [] := by rintro rfl; exact absurd hi2 (by decide)
      rw [parts_cons hl, h1, h2, h, parts_split n r (by simp at hn; omega) hr hi2]
theorem parts_pre {l : List UInt8} (h : l = [] ∨ qIdentsB l = true) : parts l = preParts l := by
  unfold preParts
  by_cases hl : l = []
  · rw [if_pos hl, hl, parts_nil]
  · rw [if_neg hl]; exact parts_split l.length l (Nat.le_refl _) hl (h.resolve_left hl)
theorem preParts_nil {l : List UInt8} : preParts l = [] ↔ l = [] := by
  unfold preParts
  by_cases hl : l = []
  · simp [hl]
  · rw [if_neg hl]; exact ⟨fun h => absurd h (qSplitOn_ne _ _), fun h => absurd h hl⟩
def preS (p q : List (List UInt8)) : Int := if p = [] ∨ q = [] then (if p.length = q.length then 0 else if 0 < p.length then -1 else 1) else listC idC p q
theorem preS_eq {a b : List UInt8} (ha : a = [] ∨ qIdentsB a = true) (hb : b = [] ∨ qIdentsB b = true) : preS (preParts a) (preParts b) = preC a b := by
  unfold preS
  simp only [preParts_nil]
  by_cases h1 : a = []
  · subst h1
    rw [if_pos (Or.inl rfl)]
    by_cases h2 : b = []
    · subst h2; rw [if_pos rfl]; exact (preC_same []).symm
    · have : preParts b ≠ [] := fun e => h2 (preParts_nil.1 e)
      have hl : (preParts b).length ≠ 0 := fun e => this (List.length_eq_zero_iff.1 e)
      have h0 : (preParts []).length = 0 := rfl
      rw [if_neg (by omega), if_neg (by omega), preC_left h2]
  · have hp : preParts a ≠ [] := fun e => h1 (preParts_nil.1 e)
    have hl : (preParts a).length ≠ 0 := fun e => hp (List.length_eq_zero_iff.1 e)
    by_cases h2 : b = []
    · subst h2
      have h0 : (preParts []).length = 0 := rfl
      rw [if_pos (Or.inr rfl), if_neg (by omega), if_pos (by omega), preC_right h1]
    · rw [if_neg (by simp [h1, h2]), preC_both h1 h2, parts_pre ha, parts_pre hb]
end Go.Proofs.YtgoeiflddikihaaGreatDoor.Ver
end
section
namespace Go.Proofs.YtgoeiflddikihaaGreatDoor.Ver
set_option linter.unusedSimpArgs false
set_option linter.unusedVariables false
open Go.RowKit Go.Proofs.YtgoeiflddikihaaGreatDoor.Dig Go.Proofs.YtgoeiflddikihaaGreatDoorW.PrintWords Go.Proofs.YtgoeiflddikihaaGreatDoor.Mem
abbrev zSem : Array Value := #[.int .u64 0, .int .u64 0, .int .u64 0, .int .i64 0, .slice none 0 0, .string ⟨#[]⟩]
instance : RowC Tryz.prog 50 6 := ⟨⟨_, Tryz.underlying50, rfl⟩, by kernel_rfl⟩
instance : OneC Tryz.prog 3 := ⟨⟨_, Tryz.underlying3, rfl⟩, by kernel_rfl⟩
instance : OneC Tryz.prog 46 := ⟨⟨_, Tryz.underlying46, rfl⟩, by kernel_rfl⟩
instance : OneC Tryz.prog 9 := ⟨⟨_, Tryz.underlying9, rfl⟩, by kernel_rfl⟩
instance : OneC Tryz.prog 48 := ⟨⟨_, Tryz.underlying48, rfl⟩, by kernel_rfl⟩
instance : ZeroC Tryz.prog 50 zSem := ⟨by kernel_rfl⟩
def SemAt (w : World) (base : Nat) (v : Value) (sv : SV) (cnt : Nat) : Prop :=
  ∃ P, v = .agg #[.int .u64 sv.major, .int .u64 sv.minor, .int .u64 sv.patch, .int .i64 cnt, P, .string sv.mt] ∧ StrsAt 9 w base P ((preParts sv.pre.data.toList).map mkB)
theorem SemAt.below {w w' : World} {base : Nat} {v : Value} {sv : SV} {cnt : Nat} (h : SemAt w base v sv cnt) (hb : Below w.heap.size w w') : SemAt w' base v sv cnt := by
  obtain ⟨P, h1, h2⟩ := h; exact ⟨P, h1, h2.below hb⟩
theorem SemAt.mono {w : World} {base base' : Nat} {v : Value} {sv : SV} {cnt : Nat} (h : SemAt w base v sv cnt) (hb : base' ≤ base) : SemAt w base' v sv cnt := by
  obtain ⟨P, h1, h2⟩ := h; exact ⟨P, h1, h2.mono hb⟩
theorem semOne {a b c d : Int} {P : Value} {m : ByteArray} (h : P.oneCell' = true) : (#[.int .u64 a, .int .u64 b, .int .u64 c, .int .i64 d, P, .string m] : Array Value).all (·.oneCell') = true := by
  simp only [List.all_toArray, List.all_cons, List.all_nil, h, Bool.and_true]; rfl
def RdNo (w : World) (e : Ending) (w' : World) : Prop := e = .returned (.tuple #[.agg zSem, .bool false]) ∧ Below w.heap.size w w'
def RdYes (n0 n1 n2 cnt : Int) (mt : ByteArray) (pp : List ByteArray) (w : World) (e : Ending) (w' : World) : Prop :=
  (∃ P, e = .returned (.tuple #[.agg #[.int .u64 n0, .int .u64 n1, .int .u64 n2, .int .i64 cnt, P, .string mt], .bool true]) ∧ StrsAt 9 w' w.heap.size P pp) ∧ Below w.heap.size w w'
def RdEnd (b : Bool) (n0 n1 n2 cnt : Int) (mt : ByteArray) (pp : List ByteArray) (w : World) (e : Ending) (w' : World) : Prop := match b with
  | false => RdNo w e w'
  | true => RdYes n0 n1 n2 cnt mt pp w e w'
def IdEnd (b : Bool) (pp : List ByteArray) (w : World) (e : Ending) (w' : World) : Prop := match b with
  | false => (∃ A n c, e = .returned (.tuple #[.slice A n c, .bool false])) ∧ Below w.heap.size w w'
  | true => ∃ g cap cells rest, e = .returned (.tuple #[.slice (some ⟨g, 0, none⟩) pp.length cap, .bool true]) ∧ w.heap.size ≤ g ∧ w'.heap[g]? = some (.cells cells 9 (0, 0)) ∧ cells.toList = pp.map Value.string ++ rest ∧ Below w.heap.size w w'
def IdW (b : Bool) (w : World) (e : Ending) (w' : World) : Prop := (∃ A n c, e = .returned (.tuple #[.slice A n c, .bool b])) ∧ Below w.heap.size w w'
theorem IdEnd.weak {b : Bool} {pp : List ByteArray} {w w' : World} {e : Ending} (h : IdEnd b pp w e w') : IdW b w e w' := by
  cases b
  · exact h
  · obtain ⟨g, cap, _, _, h1, _, _, _, h5⟩ := h; exact ⟨⟨_, _, _, h1⟩, h5⟩
def SpEnd (ps : List ByteArray) (w : World) (e : Ending) (w' : World) : Prop :=
  ∃ g cap cells rest, e = .returned (.slice (some ⟨g, 0, none⟩) ps.length cap) ∧ w.heap.size ≤ g ∧ w'.heap[g]? = some (.cells cells 9 (0, 0)) ∧ cells.toList = ps.map Value.string ++ rest ∧ Below w.heap.size w w'
def PreOk (pp : List ByteArray) (P : Value) (X : List Blk) : Prop := (P = .slice none 0 0 ∧ pp = [] ∧ X = []) ∨ ∃ g cap rest, P = .slice (some ⟨g, 0, none⟩) pp.length cap ∧ X = [(g, pp.map Value.string ++ rest, 9)]
theorem PreOk.one {pp : List ByteArray} {P : Value} {X : List Blk} (h : PreOk pp P X) : P.oneCell' = true := by
  rcases h with ⟨rfl, _, _⟩ | ⟨g, cap, rest, rfl, _⟩ <;> rfl
theorem PreOk.strs {pp : List ByteArray} {P : Value} {X Y : List Blk} {w0 w : World} (h : PreOk pp P X) (H : Blks w0 w (Y ++ X)) : StrsAt 9 w w0.heap.size P pp := by
  rcases h with ⟨rfl, rfl, rfl⟩ | ⟨g, cap, rest, rfl, rfl⟩
  · exact Or.inl ⟨rfl, rfl⟩
  · exact Blks.strs H (List.mem_append_right _ (List.mem_singleton.2 rfl))
set_option maxRecDepth 20000 in
set_option maxHeartbeats 8000000 in
theorem rs_meta (s s1 x1 mt : ByteArray) (hs1 : ∀ r : ByteArray, r.data.toList = bare0 s.data.toList → r = s1)
    (HC1' : ∀ W, Calls Tryz.prog 71 #[.string s1, .int .u8 43] W fun e w' => e = .returned (.tuple #[.string x1, .string mt, .bool true]) ∧ Drawn0 W w')
    (HI1' : ∀ W, Calls Tryz.prog 72 #[.string mt] W (IdW false W)) (w : World) :
    Calls Tryz.prog 34 #[.string s] w (RdNo w) := by
  have HC1 := Lib.hid HC1'
  clear HC1'
  have HI1 := Lib.hid HI1'
  clear HI1'
  have HM := Aside0.mk (Blks.start w)
  go_enter Tryz.func34, Tryz.ntmps34
  go_upto_region 1 with ((refine m_alloc (by repeat (first | exact HM.out | apply Blks.drewN | apply Blks.drew | apply Blks.other)) (h := ?_); intro br _ HN; clear HM; have HM := HN; clear HN))
  go_upto_region 2 with ((refine m_alloc (by repeat (first | exact HM.out | apply Blks.drewN | apply Blks.drew | apply Blks.other)) (h := ?_); intro bo _ HN; clear HM; have HM := HN; clear HN))
  go_simp
  go_cut [23] from 17 to 23 (fun v23 wx => v23 = .bool (begins s.data.toList 118) ∧ Aside0 (Blks w wx [(bo, zSem.toList, 50), (br, zSem.toList, 50)]))
  case first =>
    rcases Nat.eq_zero_or_pos s.size with h0 | h0
    · have hem := isEmpty_true h0
      have hbg := begins_nil (c := 118) h0
      go_wp2_with fail
      go_meet
      case rel => exact ⟨by rw [hbg], ⟨(by repeat (first | exact HM.out | apply Blks.drewN | apply Blks.drew | apply Blks.other))⟩⟩
    · have hem := isEmpty_false h0
      have hbg := begins_at (c := 118) h0
      rw [← cast_beq] at hbg
      have HBG := Lib.hid hbg
      clear hbg
      go_wp2_with fail
      go_meet
      case rel => exact ⟨by rw [HBG.out]; rfl, ⟨(by repeat (first | exact HM.out | apply Blks.drewN | apply Blks.drew | apply Blks.other))⟩⟩
  case rest =>
    clear HM
    obtain ⟨rfl, HM⟩ := hcut
    go_upto_if 23 with fail
    go_cut [0] from 23 to 25 (fun v0 wx => v0 = .string s1 ∧ Aside0 (Blks w wx [(bo, zSem.toList, 50), (br, zSem.toList, 50)]))
    case first =>
      cases hq : begins s.data.toList 118 with
      | false =>
        obtain rfl := hs1 s (bare0_of_not hq)
        go_wp2_with fail
        go_meet
        case rel => exact ⟨rfl, ⟨(by repeat (first | exact HM.out | apply Blks.drewN | apply Blks.drew | apply Blks.other))⟩⟩
      | true =>
        have h0 := begins_pos hq
        obtain rfl := hs1 _ (bare0_v h0 (begins_one hq h0))
        go_wp2_with fail
        go_meet
        case rel => exact ⟨rfl, ⟨(by repeat (first | exact HM.out | apply Blks.drewN | apply Blks.drew | apply Blks.other))⟩⟩
    case rest =>
    clear HM
    obtain ⟨rfl, HM⟩ := hcut
    go_wp2_with (first | (go_at_call 71; ((with_reducible refine (HC1.out _).mono ?_); rintro e wc ⟨rfl, ⟨nq, rfl⟩⟩; have HN := Aside0.mk (Blks.drewN (by repeat (first | exact HM.out | apply Blks.drewN | apply Blks.drew | apply Blks.other)) nq); clear HM; have HM := HN; clear HN)) | (go_at_call 72; ((with_reducible refine (HI1.out _).mono ?_); rintro e wi ⟨⟨A, n, c, rfl⟩, hb⟩; have HN := Aside0.mk (Blks.call (by repeat (first | exact HM.out | apply Blks.drewN | apply Blks.drew | apply Blks.other)) hb); clear HM hb; have HM := HN; clear HN)) | (refine m_build (by kernel_rfl) (h := ?_)) | (refine m_store (by repeat (first | exact HM.out | apply Blks.drewN | apply Blks.drew | apply Blks.other)) (h := ?_); intro _ HN; clear HM; have HM := HN; clear HN))
    have k0 := Blks.cell HM.out (b := br) (o := 0) (by repeat (first | exact List.Mem.head _ | apply List.Mem.tail)) (by repeat (first | exact Rd.nil | apply Rd.here | apply Rd.skip)); have k1 := Blks.cell HM.out (b := br) (o := 1) (by repeat (first | exact List.Mem.head _ | apply List.Mem.tail)) (by repeat (first | exact Rd.nil | apply Rd.here | apply Rd.skip)); have k2 := Blks.cell HM.out (b := br) (o := 2) (by repeat (first | exact List.Mem.head _ | apply List.Mem.tail)) (by repeat (first | exact Rd.nil | apply Rd.here | apply Rd.skip)); have k3 := Blks.cell HM.out (b := br) (o := 3) (by repeat (first | exact List.Mem.head _ | apply List.Mem.tail)) (by repeat (first | exact Rd.nil | apply Rd.here | apply Rd.skip)); have k4 := Blks.cell HM.out (b := br) (o := 4) (by repeat (first | exact List.Mem.head _ | apply List.Mem.tail)) (by repeat (first | exact Rd.nil | apply Rd.here | apply Rd.skip)); have k5 := Blks.cell HM.out (b := br) (o := 5) (by repeat (first | exact List.Mem.head _ | apply List.Mem.tail)) (by repeat (first | exact Rd.nil | apply Rd.here | apply Rd.skip)); refine bodyPost_ret (v := .tuple #[.agg zSem, .bool false]) (by simp [results, Tryz.results34, go_sem, *]) rfl ⟨rfl, HM.out.bel⟩
set_option maxRecDepth 20000 in
set_option maxHeartbeats 8000000 in
theorem rs_pre (s s1 x1 mt : ByteArray) (hs1 : ∀ r : ByteArray, r.data.toList = bare0 s.data.toList → r = s1) (x2 pre : ByteArray) (pp : List ByteArray) (has1 ok1 : Bool) (hg1 : (has1 && !ok1) = false)
    (HC1' : ∀ W, Calls Tryz.prog 71 #[.string s1, .int .u8 43] W fun e w' => e = .returned (.tuple #[.string x1, .string mt, .bool has1]) ∧ Drawn0 W w')
    (HI1' : ∀ W, Calls Tryz.prog 72 #[.string mt] W (IdW ok1 W))
    (HC2' : ∀ W, Calls Tryz.prog 71 #[.string x1, .int .u8 45] W fun e w' => e = .returned (.tuple #[.string x2, .string pre, .bool true]) ∧ Drawn0 W w')
    (HI2' : ∀ W, Calls Tryz.prog 72 #[.string pre] W (IdEnd false pp W)) (w : World) :
    Calls Tryz.prog 34 #[.string s] w (RdNo w) := by
  have HC1 := Lib.hid HC1'
  clear HC1'
  have HI1 := Lib.hid HI1'
  clear HI1'
  have HC2 := Lib.hid HC2'
  clear HC2'
  have HI2 := Lib.hid HI2'
  clear HI2'
  have HM := Aside0.mk (Blks.start w)
  go_enter Tryz.func34, Tryz.ntmps34
  go_upto_region 1 with ((refine m_alloc (by repeat (first | exact HM.out | apply Blks.drewN | apply Blks.drew | apply Blks.other)) (h := ?_); intro br _ HN; clear HM; have HM := HN; clear HN))
  go_upto_region 2 with ((refine m_alloc (by repeat (first | exact HM.out | apply Blks.drewN | apply Blks.drew | apply Blks.other)) (h := ?_); intro bo _ HN; clear HM; have HM := HN; clear HN))
  go_simp
  go_cut [23] from 17 to 23 (fun v23 wx => v23 = .bool (begins s.data.toList 118) ∧ Aside0 (Blks w wx [(bo, zSem.toList, 50), (br, zSem.toList, 50)]))
  case first =>
    rcases Nat.eq_zero_or_pos s.size with h0 | h0
    · have hem := isEmpty_true h0
      have hbg := begins_nil (c := 118) h0
      go_wp2_with fail
      go_meet
      case rel => exact ⟨by rw [hbg], ⟨(by repeat (first | exact HM.out | apply Blks.drewN | apply Blks.drew | apply Blks.other))⟩⟩
    · have hem := isEmpty_false h0
      have hbg := begins_at (c := 118) h0
      rw [← cast_beq] at hbg
      have HBG := Lib.hid hbg
      clear hbg
      go_wp2_with fail
      go_meet
      case rel => exact ⟨by rw [HBG.out]; rfl, ⟨(by repeat (first | exact HM.out | apply Blks.drewN | apply Blks.drew | apply Blks.other))⟩⟩
  case rest =>
    clear HM
    obtain ⟨rfl, HM⟩ := hcut
    go_upto_if 23 with fail
    go_cut [0] from 23 to 25 (fun v0 wx => v0 = .string s1 ∧ Aside0 (Blks w wx [(bo, zSem.toList, 50), (br, zSem.toList, 50)]))
    case first =>
      cases hq : begins s.data.toList 118 with
      | false =>
        obtain rfl := hs1 s (bare0_of_not hq)
        go_wp2_with fail
        go_meet
        case rel => exact ⟨rfl, ⟨(by repeat (first | exact HM.out | apply Blks.drewN | apply Blks.drew | apply Blks.other))⟩⟩
      | true =>
        have h0 := begins_pos hq
        obtain rfl := hs1 _ (bare0_v h0 (begins_one hq h0))
        go_wp2_with fail
        go_meet
        case rel => exact ⟨rfl, ⟨(by repeat (first | exact HM.out | apply Blks.drewN | apply Blks.drew | apply Blks.other))⟩⟩
    case rest =>
    clear HM
    obtain ⟨rfl, HM⟩ := hcut
    go_upto_region 6 with (first | (go_at_call 71; ((with_reducible refine (HC1.out _).mono ?_); rintro e wc ⟨rfl, ⟨nq, rfl⟩⟩; have HN := Aside0.mk (Blks.drewN (by repeat (first | exact HM.out | apply Blks.drewN | apply Blks.drew | apply Blks.other)) nq); clear HM; have HM := HN; clear HN)) | (go_at_call 72; ((with_reducible refine (HI1.out _).mono ?_); rintro e wi ⟨⟨A, n, c, rfl⟩, hb⟩; have HN := Aside0.mk (Blks.call (by repeat (first | exact HM.out | apply Blks.drewN | apply Blks.drew | apply Blks.other)) hb); clear HM hb; have HM := HN; clear HN)))
    go_cut [41] from 6 to 41 (fun v41 wx => v41 = .bool false ∧ Aside0 (Blks w wx [(bo, zSem.toList, 50), (br, zSem.toList, 50)]))
    case first =>
      cases has1
      · go_wp2_with fail
        go_meet
        case rel => exact ⟨rfl, ⟨(by repeat (first | exact HM.out | apply Blks.drewN | apply Blks.drew | apply Blks.other))⟩⟩
      · cases ok1
        · exact absurd hg1 (by decide)
        · go_wp2_with fail
          go_meet
          case rel => exact ⟨rfl, ⟨(by repeat (first | exact HM.out | apply Blks.drewN | apply Blks.drew | apply Blks.other))⟩⟩
    case rest =>
    clear HM
    obtain ⟨rfl, HM⟩ := hcut
    go_wp2_with (first | (go_at_call 71; ((with_reducible refine (HC2.out _).mono ?_); rintro e wc ⟨rfl, ⟨nq, rfl⟩⟩; have HN := Aside0.mk (Blks.drewN (by repeat (first | exact HM.out | apply Blks.drewN | apply Blks.drew | apply Blks.other)) nq); clear HM; have HM := HN; clear HN)) | (go_at_call 72; ((with_reducible refine (HI2.out _).mono ?_); rintro e wi ⟨⟨A, n, c, rfl⟩, hb⟩; have HN := Aside0.mk (Blks.call (by repeat (first | exact HM.out | apply Blks.drewN | apply Blks.drew | apply Blks.other)) hb); clear HM hb; have HM := HN; clear HN)) | (refine m_store1 (by repeat (first | exact HM.out | apply Blks.drewN | apply Blks.drew | apply Blks.other)) (hy := (by first | exact (rfl : _ = Value.bool _) | exact (rfl : _ = Value.int _ _) | exact (rfl : _ = Value.string _) | exact (rfl : _ = Value.slice _ _ _) | exact (rfl : _ = Value.iface _ _) | exact (rfl : _ = Value.nilIface) | exact (rfl : _ = Value.pointer _))) (h := ?_); intro _ HN; clear HM; have HM := HN; clear HN) | (refine m_build (by kernel_rfl) (h := ?_)) | (refine m_store (by repeat (first | exact HM.out | apply Blks.drewN | apply Blks.drew | apply Blks.other)) (h := ?_); intro _ HN; clear HM; have HM := HN; clear HN))
    have k0 := Blks.cell HM.out (b := br) (o := 0) (by repeat (first | exact List.Mem.head _ | apply List.Mem.tail)) (by repeat (first | exact Rd.nil | apply Rd.here | apply Rd.skip)); have k1 := Blks.cell HM.out (b := br) (o := 1) (by repeat (first | exact List.Mem.head _ | apply List.Mem.tail)) (by repeat (first | exact Rd.nil | apply Rd.here | apply Rd.skip)); have k2 := Blks.cell HM.out (b := br) (o := 2) (by repeat (first | exact List.Mem.head _ | apply List.Mem.tail)) (by repeat (first | exact Rd.nil | apply Rd.here | apply Rd.skip)); have k3 := Blks.cell HM.out (b := br) (o := 3) (by repeat (first | exact List.Mem.head _ | apply List.Mem.tail)) (by repeat (first | exact Rd.nil | apply Rd.here | apply Rd.skip)); have k4 := Blks.cell HM.out (b := br) (o := 4) (by repeat (first | exact List.Mem.head _ | apply List.Mem.tail)) (by repeat (first | exact Rd.nil | apply Rd.here | apply Rd.skip)); have k5 := Blks.cell HM.out (b := br) (o := 5) (by repeat (first | exact List.Mem.head _ | apply List.Mem.tail)) (by repeat (first | exact Rd.nil | apply Rd.here | apply Rd.skip)); refine bodyPost_ret (v := .tuple #[.agg zSem, .bool false]) (by simp [results, Tryz.results34, go_sem, *]) rfl ⟨rfl, HM.out.bel⟩
set_option maxRecDepth 20000 in
set_option maxHeartbeats 8000000 in
theorem rs_n4 (s s1 x1 mt : ByteArray) (hs1 : ∀ r : ByteArray, r.data.toList = bare0 s.data.toList → r = s1) (x2 pre : ByteArray) (pp : List ByteArray) (p q r t : ByteArray) (u : List ByteArray) (has1 ok1 has2 ok2 : Bool) (hg1 : (has1 && !ok1) = false) (hg2 : (has2 && !ok2) = false) (hpp : has2 = false → pp = [])
    (HC1' : ∀ W, Calls Tryz.prog 71 #[.string s1, .int .u8 43] W fun e w' => e = .returned (.tuple #[.string x1, .string mt, .bool has1]) ∧ Drawn0 W w')
    (HI1' : ∀ W, Calls Tryz.prog 72 #[.string mt] W (IdW ok1 W))
    (HC2' : ∀ W, Calls Tryz.prog 71 #[.string x1, .int .u8 45] W fun e w' => e = .returned (.tuple #[.string x2, .string pre, .bool has2]) ∧ Drawn0 W w')
    (HI2' : ∀ W, Calls Tryz.prog 72 #[.string pre] W (IdEnd ok2 pp W))
    (HS' : ∀ W, Calls Tryz.prog 73 #[.string x2, .int .u8 46] W (SpEnd (p :: q :: r :: t :: u) W)) (w : World) :
    Calls Tryz.prog 34 #[.string s] w (RdNo w) := by
  have HPP := Lib.hid hpp
  clear hpp
  have HC1 := Lib.hid HC1'
  clear HC1'
  have HI1 := Lib.hid HI1'
  clear HI1'
  have HC2 := Lib.hid HC2'
  clear HC2'
  have HI2 := Lib.hid HI2'
  clear HI2'
  have HS := Lib.hid HS'
  clear HS'
  have hgt : ¬ (u.length + 1 + 1 + 1 + 1 ≤ 3) := by omega
  have hgt2 : (3 : Int) < ((u.length + 1 + 1 + 1 + 1 : Nat) : Int) := by omega
  have hgt3 : (3 : Int) < (u.length : Int) + 1 + 1 + 1 + 1 := by omega
  have hgt4 : 3 < u.length + 1 + 1 + 1 + 1 := by omega
  have HM := Aside0.mk (Blks.start w)
  go_enter Tryz.func34, Tryz.ntmps34
  go_upto_region 1 with ((refine m_alloc (by repeat (first | exact HM.out | apply Blks.drewN | apply Blks.drew | apply Blks.other)) (h := ?_); intro br _ HN; clear HM; have HM := HN; clear HN))
  go_upto_region 2 with ((refine m_alloc (by repeat (first | exact HM.out | apply Blks.drewN | apply Blks.drew | apply Blks.other)) (h := ?_); intro bo _ HN; clear HM; have HM := HN; clear HN))
  go_simp
  go_cut [23] from 17 to 23 (fun v23 wx => v23 = .bool (begins s.data.toList 118) ∧ Aside0 (Blks w wx [(bo, zSem.toList, 50), (br, zSem.toList, 50)]))
  case first =>
    rcases Nat.eq_zero_or_pos s.size with h0 | h0
    · have hem := isEmpty_true h0
      have hbg := begins_nil (c := 118) h0
      go_wp2_with fail
      go_meet
      case rel => exact ⟨by rw [hbg], ⟨(by repeat (first | exact HM.out | apply Blks.drewN | apply Blks.drew | apply Blks.other))⟩⟩
    · have hem := isEmpty_false h0
      have hbg := begins_at (c := 118) h0
      rw [← cast_beq] at hbg
      have HBG := Lib.hid hbg
      clear hbg
      go_wp2_with fail
      go_meet
      case rel => exact ⟨by rw [HBG.out]; rfl, ⟨(by repeat (first | exact HM.out | apply Blks.drewN | apply Blks.drew | apply Blks.other))⟩⟩
  case rest =>
    clear HM
    obtain ⟨rfl, HM⟩ := hcut
    go_upto_if 23 with fail
    go_cut [0] from 23 to 25 (fun v0 wx => v0 = .string s1 ∧ Aside0 (Blks w wx [(bo, zSem.toList, 50), (br, zSem.toList, 50)]))
    case first =>
      cases hq : begins s.data.toList 118 with
      | false =>
        obtain rfl := hs1 s (bare0_of_not hq)
        go_wp2_with fail
        go_meet
        case rel => exact ⟨rfl, ⟨(by repeat (first | exact HM.out | apply Blks.drewN | apply Blks.drew | apply Blks.other))⟩⟩
      | true =>
        have h0 := begins_pos hq
        obtain rfl := hs1 _ (bare0_v h0 (begins_one hq h0))
        go_wp2_with fail
        go_meet
        case rel => exact ⟨rfl, ⟨(by repeat (first | exact HM.out | apply Blks.drewN | apply Blks.drew | apply Blks.other))⟩⟩
    case rest =>
    clear HM
    obtain ⟨rfl, HM⟩ := hcut
    go_upto_region 6 with (first | (go_at_call 71; ((with_reducible refine (HC1.out _).mono ?_); rintro e wc ⟨rfl, ⟨nq, rfl⟩⟩; have HN := Aside0.mk (Blks.drewN (by repeat (first | exact HM.out | apply Blks.drewN | apply Blks.drew | apply Blks.other)) nq); clear HM; have HM := HN; clear HN)) | (go_at_call 72; ((with_reducible refine (HI1.out _).mono ?_); rintro e wi ⟨⟨A, n, c, rfl⟩, hb⟩; have HN := Aside0.mk (Blks.call (by repeat (first | exact HM.out | apply Blks.drewN | apply Blks.drew | apply Blks.other)) hb); clear HM hb; have HM := HN; clear HN)))
    go_cut [41] from 6 to 41 (fun v41 wx => v41 = .bool false ∧ Aside0 (Blks w wx [(bo, zSem.toList, 50), (br, zSem.toList, 50)]))
    case first =>
      cases has1
      · go_wp2_with fail
        go_meet
        case rel => exact ⟨rfl, ⟨(by repeat (first | exact HM.out | apply Blks.drewN | apply Blks.drew | apply Blks.other))⟩⟩
      · cases ok1
        · exact absurd hg1 (by decide)
        · go_wp2_with fail
          go_meet
          case rel => exact ⟨rfl, ⟨(by repeat (first | exact HM.out | apply Blks.drewN | apply Blks.drew | apply Blks.other))⟩⟩
    case rest =>
    clear HM
    obtain ⟨rfl, HM⟩ := hcut
    go_upto_if 51 with (first | (refine m_store1 (by repeat (first | exact HM.out | apply Blks.drewN | apply Blks.drew | apply Blks.other)) (hy := (by first | exact (rfl : _ = Value.bool _) | exact (rfl : _ = Value.int _ _) | exact (rfl : _ = Value.string _) | exact (rfl : _ = Value.slice _ _ _) | exact (rfl : _ = Value.iface _ _) | exact (rfl : _ = Value.nilIface) | exact (rfl : _ = Value.pointer _))) (h := ?_); intro _ HN; clear HM; have HM := HN; clear HN) | (go_at_call 71; ((with_reducible refine (HC2.out _).mono ?_); rintro e wc ⟨rfl, ⟨nq, rfl⟩⟩; have HN := Aside0.mk (Blks.drewN (by repeat (first | exact HM.out | apply Blks.drewN | apply Blks.drew | apply Blks.other)) nq); clear HM; have HM := HN; clear HN)))
    go_cut [9] from 6 to 61 (fun v9 wx => v9 = .string pre ∧ ∃ P X, PreOk pp P X ∧ Aside0 (Blks w wx ((bo, [.int .u64 0, .int .u64 0, .int .u64 0, .int .i64 0, P, .string mt], 50) :: (br, zSem.toList, 50) :: X)))
    case first =>
      cases has2
      · go_wp2_with fail
        go_meet
        case rel => exact ⟨rfl, _, _, Or.inl ⟨rfl, HPP.out (by trivial), rfl⟩, ⟨(by repeat (first | exact HM.out | apply Blks.drewN | apply Blks.drew | apply Blks.other))⟩⟩
      · cases ok2
        · exact absurd hg2 (by decide)
        · go_wp2_with (first | (refine m_store1 (by repeat (first | exact HM.out | apply Blks.drewN | apply Blks.drew | apply Blks.other)) (hy := (by first | exact (rfl : _ = Value.bool _) | exact (rfl : _ = Value.int _ _) | exact (rfl : _ = Value.string _) | exact (rfl : _ = Value.slice _ _ _) | exact (rfl : _ = Value.iface _ _) | exact (rfl : _ = Value.nilIface) | exact (rfl : _ = Value.pointer _))) (h := ?_); intro _ HN; clear HM; have HM := HN; clear HN) | (go_at_call 72; ((with_reducible refine (HI2.out _).mono ?_); rintro e wi ⟨gp, capp, cellsp, restp, rfl, hg, hc, hl, hb⟩; have HN := Aside0.mk (Blks.add (by repeat (first | exact HM.out | apply Blks.drewN | apply Blks.drew | apply Blks.other)) hb hg hc hl); clear HM hb hg hc hl; have HM := HN; clear HN)))
          go_meet
          case rel => exact ⟨rfl, _, _, Or.inr ⟨_, _, _, rfl, rfl⟩, ⟨(Blks.turn3 (by repeat (first | exact HM.out | apply Blks.drewN | apply Blks.drew | apply Blks.other)))⟩⟩
    case rest =>
    clear HM
    obtain ⟨rfl, P, X, HP, HM⟩ := hcut
    go_wp2_with (first | (go_at_call 73; ((with_reducible refine (HS.out _).mono ?_); rintro e ws ⟨gs, caps, cellss, rests, rfl, hg, hc, hl, hb⟩; simp only [List.map, List.cons_append, List.nil_append] at hl; have HN := Aside0.mk (Blks.add (by repeat (first | exact HM.out | apply Blks.drewN | apply Blks.drew | apply Blks.other)) hb hg hc hl); clear HM hb hg hc hl; have HM := HN; clear HN)) | (refine m_build (by kernel_rfl) (h := ?_)) | (refine m_store (by repeat (first | exact HM.out | apply Blks.drewN | apply Blks.drew | apply Blks.other)) (h := ?_); intro _ HN; clear HM; have HM := HN; clear HN))
    have k0 := Blks.cell HM.out (b := br) (o := 0) (by repeat (first | exact List.Mem.head _ | apply List.Mem.tail)) (by repeat (first | exact Rd.nil | apply Rd.here | apply Rd.skip)); have k1 := Blks.cell HM.out (b := br) (o := 1) (by repeat (first | exact List.Mem.head _ | apply List.Mem.tail)) (by repeat (first | exact Rd.nil | apply Rd.here | apply Rd.skip)); have k2 := Blks.cell HM.out (b := br) (o := 2) (by repeat (first | exact List.Mem.head _ | apply List.Mem.tail)) (by repeat (first | exact Rd.nil | apply Rd.here | apply Rd.skip)); have k3 := Blks.cell HM.out (b := br) (o := 3) (by repeat (first | exact List.Mem.head _ | apply List.Mem.tail)) (by repeat (first | exact Rd.nil | apply Rd.here | apply Rd.skip)); have k4 := Blks.cell HM.out (b := br) (o := 4) (by repeat (first | exact List.Mem.head _ | apply List.Mem.tail)) (by repeat (first | exact Rd.nil | apply Rd.here | apply Rd.skip)); have k5 := Blks.cell HM.out (b := br) (o := 5) (by repeat (first | exact List.Mem.head _ | apply List.Mem.tail)) (by repeat (first | exact Rd.nil | apply Rd.here | apply Rd.skip)); refine bodyPost_ret (v := .tuple #[.agg zSem, .bool false]) (by simp [results, Tryz.results34, go_sem, *]) rfl ⟨rfl, HM.out.bel⟩
set_option maxRecDepth 20000 in
set_option maxHeartbeats 8000000 in
theorem rs_n1 (s s1 x1 mt : ByteArray) (hs1 : ∀ r : ByteArray, r.data.toList = bare0 s.data.toList → r = s1) (x2 pre : ByteArray) (pp : List ByteArray) (p : ByteArray) (has1 ok1 has2 ok2 : Bool) (hg1 : (has1 && !ok1) = false) (hg2 : (has2 && !ok2) = false) (hpp : has2 = false → pp = [])
    (HC1' : ∀ W, Calls Tryz.prog 71 #[.string s1, .int .u8 43] W fun e w' => e = .returned (.tuple #[.string x1, .string mt, .bool has1]) ∧ Drawn0 W w')
    (HI1' : ∀ W, Calls Tryz.prog 72 #[.string mt] W (IdW ok1 W))
    (HC2' : ∀ W, Calls Tryz.prog 71 #[.string x1, .int .u8 45] W fun e w' => e = .returned (.tuple #[.string x2, .string pre, .bool has2]) ∧ Drawn0 W w')
    (HI2' : ∀ W, Calls Tryz.prog 72 #[.string pre] W (IdEnd ok2 pp W))
    (HS' : ∀ W, Calls Tryz.prog 73 #[.string x2, .int .u8 46] W (SpEnd [p] W)) (n0 : Int) (b0 : Bool) (HN0' : ∀ W, Calls Tryz.prog 74 #[.string p] W fun e w' => e = .returned (.tuple #[.int .u64 n0, .bool b0]) ∧ Drawn0 W w') (w : World) :
    Calls Tryz.prog 34 #[.string s] w (RdEnd (b0) n0 0 0 1 mt pp w) := by
  have HPP := Lib.hid hpp
  clear hpp
  have HC1 := Lib.hid HC1'
  clear HC1'
  have HI1 := Lib.hid HI1'
  clear HI1'
  have HC2 := Lib.hid HC2'
  clear HC2'
  have HI2 := Lib.hid HI2'
  clear HI2'
  have HS := Lib.hid HS'
  clear HS'
  have HN0 := Lib.hid HN0'
  clear HN0'
  have HM := Aside0.mk (Blks.start w)
  go_enter Tryz.func34, Tryz.ntmps34
  go_upto_region 1 with ((refine m_alloc (by repeat (first | exact HM.out | apply Blks.drewN | apply Blks.drew | apply Blks.other)) (h := ?_); intro br _ HN; clear HM; have HM := HN; clear HN))
  go_upto_region 2 with ((refine m_alloc (by repeat (first | exact HM.out | apply Blks.drewN | apply Blks.drew | apply Blks.other)) (h := ?_); intro bo _ HN; clear HM; have HM := HN; clear HN))
  go_simp
  go_cut [23] from 17 to 23 (fun v23 wx => v23 = .bool (begins s.data.toList 118) ∧ Aside0 (Blks w wx [(bo, zSem.toList, 50), (br, zSem.toList, 50)]))
  case first =>
    rcases Nat.eq_zero_or_pos s.size with h0 | h0
    · have hem := isEmpty_true h0
      have hbg := begins_nil (c := 118) h0
      go_wp2_with fail
      go_meet
      case rel => exact ⟨by rw [hbg], ⟨(by repeat (first | exact HM.out | apply Blks.drewN | apply Blks.drew | apply Blks.other))⟩⟩
    · have hem := isEmpty_false h0
      have hbg := begins_at (c := 118) h0
      rw [← cast_beq] at hbg
      have HBG := Lib.hid hbg
      clear hbg
      go_wp2_with fail
      go_meet
      case rel => exact ⟨by rw [HBG.out]; rfl, ⟨(by repeat (first | exact HM.out | apply Blks.drewN | apply Blks.drew | apply Blks.other))⟩⟩
  case rest =>
    clear HM
    obtain ⟨rfl, HM⟩ := hcut
    go_upto_if 23 with fail
    go_cut [0] from 23 to 25 (fun v0 wx => v0 = .string s1 ∧ Aside0 (Blks w wx [(bo, zSem.toList, 50), (br, zSem.toList, 50)]))
    case first =>
      cases hq : begins s.data.toList 118 with
      | false =>
        obtain rfl := hs1 s (bare0_of_not hq)
        go_wp2_with fail
        go_meet
        case rel => exact ⟨rfl, ⟨(by repeat (first | exact HM.out | apply Blks.drewN | apply Blks.drew | apply Blks.other))⟩⟩
      | true =>
        have h0 := begins_pos hq
        obtain rfl := hs1 _ (bare0_v h0 (begins_one hq h0))
        go_wp2_with fail
        go_meet
        case rel => exact ⟨rfl, ⟨(by repeat (first | exact HM.out | apply Blks.drewN | apply Blks.drew | apply Blks.other))⟩⟩
    case rest =>
    clear HM
    obtain ⟨rfl, HM⟩ := hcut
    go_upto_region 6 with (first | (go_at_call 71; ((with_reducible refine (HC1.out _).mono ?_); rintro e wc ⟨rfl, ⟨nq, rfl⟩⟩; have HN := Aside0.mk (Blks.drewN (by repeat (first | exact HM.out | apply Blks.drewN | apply Blks.drew | apply Blks.other)) nq); clear HM; have HM := HN; clear HN)) | (go_at_call 72; ((with_reducible refine (HI1.out _).mono ?_); rintro e wi ⟨⟨A, n, c, rfl⟩, hb⟩; have HN := Aside0.mk (Blks.call (by repeat (first | exact HM.out | apply Blks.drewN | apply Blks.drew | apply Blks.other)) hb); clear HM hb; have HM := HN; clear HN)))
    go_cut [41] from 6 to 41 (fun v41 wx => v41 = .bool false ∧ Aside0 (Blks w wx [(bo, zSem.toList, 50), (br, zSem.toList, 50)]))
    case first =>
      cases has1
      · go_wp2_with fail
        go_meet
        case rel => exact ⟨rfl, ⟨(by repeat (first | exact HM.out | apply Blks.drewN | apply Blks.drew | apply Blks.other))⟩⟩
      · cases ok1
        · exact absurd hg1 (by decide)
        · go_wp2_with fail
          go_meet
          case rel => exact ⟨rfl, ⟨(by repeat (first | exact HM.out | apply Blks.drewN | apply Blks.drew | apply Blks.other))⟩⟩
    case rest =>
    clear HM
    obtain ⟨rfl, HM⟩ := hcut
    go_upto_if 51 with (first | (refine m_store1 (by repeat (first | exact HM.out | apply Blks.drewN | apply Blks.drew | apply Blks.other)) (hy := (by first | exact (rfl : _ = Value.bool _) | exact (rfl : _ = Value.int _ _) | exact (rfl : _ = Value.string _) | exact (rfl : _ = Value.slice _ _ _) | exact (rfl : _ = Value.iface _ _) | exact (rfl : _ = Value.nilIface) | exact (rfl : _ = Value.pointer _))) (h := ?_); intro _ HN; clear HM; have HM := HN; clear HN) | (go_at_call 71; ((with_reducible refine (HC2.out _).mono ?_); rintro e wc ⟨rfl, ⟨nq, rfl⟩⟩; have HN := Aside0.mk (Blks.drewN (by repeat (first | exact HM.out | apply Blks.drewN | apply Blks.drew | apply Blks.other)) nq); clear HM; have HM := HN; clear HN)))
    go_cut [9] from 6 to 61 (fun v9 wx => v9 = .string pre ∧ ∃ P X, PreOk pp P X ∧ Aside0 (Blks w wx ((bo, [.int .u64 0, .int .u64 0, .int .u64 0, .int .i64 0, P, .string mt], 50) :: (br, zSem.toList, 50) :: X)))
    case first =>
      cases has2
      · go_wp2_with fail
        go_meet
        case rel => exact ⟨rfl, _, _, Or.inl ⟨rfl, HPP.out (by trivial), rfl⟩, ⟨(by repeat (first | exact HM.out | apply Blks.drewN | apply Blks.drew | apply Blks.other))⟩⟩
      · cases ok2
        · exact absurd hg2 (by decide)
        · go_wp2_with (first | (refine m_store1 (by repeat (first | exact HM.out | apply Blks.drewN | apply Blks.drew | apply Blks.other)) (hy := (by first | exact (rfl : _ = Value.bool _) | exact (rfl : _ = Value.int _ _) | exact (rfl : _ = Value.string _) | exact (rfl : _ = Value.slice _ _ _) | exact (rfl : _ = Value.iface _ _) | exact (rfl : _ = Value.nilIface) | exact (rfl : _ = Value.pointer _))) (h := ?_); intro _ HN; clear HM; have HM := HN; clear HN) | (go_at_call 72; ((with_reducible refine (HI2.out _).mono ?_); rintro e wi ⟨gp, capp, cellsp, restp, rfl, hg, hc, hl, hb⟩; have HN := Aside0.mk (Blks.add (by repeat (first | exact HM.out | apply Blks.drewN | apply Blks.drew | apply Blks.other)) hb hg hc hl); clear HM hb hg hc hl; have HM := HN; clear HN)))
          go_meet
          case rel => exact ⟨rfl, _, _, Or.inr ⟨_, _, _, rfl, rfl⟩, ⟨(Blks.turn3 (by repeat (first | exact HM.out | apply Blks.drewN | apply Blks.drew | apply Blks.other)))⟩⟩
    case rest =>
    clear HM
    obtain ⟨rfl, P, X, HP, HM⟩ := hcut
    go_wp2_with (go_at_call 73; ((with_reducible refine (HS.out _).mono ?_); rintro e ws ⟨gs, caps, cellss, rests, rfl, hg, hc, hl, hb⟩; simp only [List.map, List.cons_append, List.nil_append] at hl; have HN := Aside0.mk (Blks.add (by repeat (first | exact HM.out | apply Blks.drewN | apply Blks.drew | apply Blks.other)) hb hg hc hl); clear HM hb hg hc hl; have HM := HN; clear HN))
    refine wp_loop_rounds 2 ?_
    rw [rounds_succ]
    go_upto_if 81 with (first | (refine m_load1 (by repeat (first | exact HM.out | apply Blks.drewN | apply Blks.drew | apply Blks.other)) (h := ?_)) | (go_at_call 74; ((with_reducible refine (HN0.out _).mono ?_); rintro e wn ⟨rfl, ⟨nq, rfl⟩⟩; have HN := Aside0.mk (Blks.drewN (by repeat (first | exact HM.out | apply Blks.drewN | apply Blks.drew | apply Blks.other)) nq); clear HM; have HM := HN; clear HN)))
    cases b0
    · go_wp2_with (first | (refine m_build (by kernel_rfl) (h := ?_)) | (refine m_store (by repeat (first | exact HM.out | apply Blks.drewN | apply Blks.drew | apply Blks.other)) (h := ?_); intro _ HN; clear HM; have HM := HN; clear HN))
      (try simp only [Exit.inBlock, Exit.then])
      have k0 := Blks.cell HM.out (b := br) (o := 0) (by repeat (first | exact List.Mem.head _ | apply List.Mem.tail)) (by repeat (first | exact Rd.nil | apply Rd.here | apply Rd.skip)); have k1 := Blks.cell HM.out (b := br) (o := 1) (by repeat (first | exact List.Mem.head _ | apply List.Mem.tail)) (by repeat (first | exact Rd.nil | apply Rd.here | apply Rd.skip)); have k2 := Blks.cell HM.out (b := br) (o := 2) (by repeat (first | exact List.Mem.head _ | apply List.Mem.tail)) (by repeat (first | exact Rd.nil | apply Rd.here | apply Rd.skip)); have k3 := Blks.cell HM.out (b := br) (o := 3) (by repeat (first | exact List.Mem.head _ | apply List.Mem.tail)) (by repeat (first | exact Rd.nil | apply Rd.here | apply Rd.skip)); have k4 := Blks.cell HM.out (b := br) (o := 4) (by repeat (first | exact List.Mem.head _ | apply List.Mem.tail)) (by repeat (first | exact Rd.nil | apply Rd.here | apply Rd.skip)); have k5 := Blks.cell HM.out (b := br) (o := 5) (by repeat (first | exact List.Mem.head _ | apply List.Mem.tail)) (by repeat (first | exact Rd.nil | apply Rd.here | apply Rd.skip)); refine bodyPost_ret (v := .tuple #[.agg zSem, .bool false]) (by simp [results, Tryz.results34, go_sem, *]) rfl ⟨rfl, HM.out.bel⟩
    go_wp2_with (refine m_store1 (by repeat (first | exact HM.out | apply Blks.drewN | apply Blks.drew | apply Blks.other)) (hy := (by first | exact (rfl : _ = Value.bool _) | exact (rfl : _ = Value.int _ _) | exact (rfl : _ = Value.string _) | exact (rfl : _ = Value.slice _ _ _) | exact (rfl : _ = Value.iface _ _) | exact (rfl : _ = Value.nilIface) | exact (rfl : _ = Value.pointer _))) (h := ?_); intro _ HN; clear HM; have HM := HN; clear HN)
    rw [rounds_succ]
    have HO := Lib.hid HP.one
    go_wp2_with (first | (refine m_store1 (by repeat (first | exact HM.out | apply Blks.drewN | apply Blks.drew | apply Blks.other)) (hy := (by first | exact (rfl : _ = Value.bool _) | exact (rfl : _ = Value.int _ _) | exact (rfl : _ = Value.string _) | exact (rfl : _ = Value.slice _ _ _) | exact (rfl : _ = Value.iface _ _) | exact (rfl : _ = Value.nilIface) | exact (rfl : _ = Value.pointer _))) (h := ?_); intro _ HN; clear HM; have HM := HN; clear HN) | (refine m_load (by repeat (first | exact HM.out | apply Blks.drewN | apply Blks.drew | apply Blks.other)) (h := ?_)) | (refine m_store (by repeat (first | exact HM.out | apply Blks.drewN | apply Blks.drew | apply Blks.other)) (h1 := semOne HO.out) (h := ?_); intro _ HN; clear HM; have HM := HN; clear HN))
    have k0 := Blks.cell HM.out (b := br) (o := 0) (by repeat (first | exact List.Mem.head _ | apply List.Mem.tail)) (by repeat (first | exact Rd.nil | apply Rd.here | apply Rd.skip)); have k1 := Blks.cell HM.out (b := br) (o := 1) (by repeat (first | exact List.Mem.head _ | apply List.Mem.tail)) (by repeat (first | exact Rd.nil | apply Rd.here | apply Rd.skip)); have k2 := Blks.cell HM.out (b := br) (o := 2) (by repeat (first | exact List.Mem.head _ | apply List.Mem.tail)) (by repeat (first | exact Rd.nil | apply Rd.here | apply Rd.skip)); have k3 := Blks.cell HM.out (b := br) (o := 3) (by repeat (first | exact List.Mem.head _ | apply List.Mem.tail)) (by repeat (first | exact Rd.nil | apply Rd.here | apply Rd.skip)); have k4 := Blks.cell HM.out (b := br) (o := 4) (by repeat (first | exact List.Mem.head _ | apply List.Mem.tail)) (by repeat (first | exact Rd.nil | apply Rd.here | apply Rd.skip)); have k5 := Blks.cell HM.out (b := br) (o := 5) (by repeat (first | exact List.Mem.head _ | apply List.Mem.tail)) (by repeat (first | exact Rd.nil | apply Rd.here | apply Rd.skip)); refine bodyPost_ret (v := .tuple #[.agg #[.int .u64 n0, .int .u64 0, .int .u64 0, .int .i64 1, P, .string mt], .bool true]) (by simp [results, Tryz.results34, go_sem, *]) rfl ⟨⟨P, rfl, HP.strs (Y := [_, _, _]) HM.out⟩, HM.out.bel⟩
set_option maxRecDepth 20000 in
set_option maxHeartbeats 8000000 in
theorem rs_n2 (s s1 x1 mt : ByteArray) (hs1 : ∀ r : ByteArray, r.data.toList = bare0 s.data.toList → r = s1) (x2 pre : ByteArray) (pp : List ByteArray) (p q : ByteArray) (has1 ok1 has2 ok2 : Bool) (hg1 : (has1 && !ok1) = false) (hg2 : (has2 && !ok2) = false) (hpp : has2 = false → pp = [])
    (HC1' : ∀ W, Calls Tryz.prog 71 #[.string s1, .int .u8 43] W fun e w' => e = .returned (.tuple #[.string x1, .string mt, .bool has1]) ∧ Drawn0 W w')
    (HI1' : ∀ W, Calls Tryz.prog 72 #[.string mt] W (IdW ok1 W))
    (HC2' : ∀ W, Calls Tryz.prog 71 #[.string x1, .int .u8 45] W fun e w' => e = .returned (.tuple #[.string x2, .string pre, .bool has2]) ∧ Drawn0 W w')
    (HI2' : ∀ W, Calls Tryz.prog 72 #[.string pre] W (IdEnd ok2 pp W))
    (HS' : ∀ W, Calls Tryz.prog 73 #[.string x2, .int .u8 46] W (SpEnd [p, q] W)) (n0 : Int) (b0 : Bool) (HN0' : ∀ W, Calls Tryz.prog 74 #[.string p] W fun e w' => e = .returned (.tuple #[.int .u64 n0, .bool b0]) ∧ Drawn0 W w') (n1 : Int) (b1 : Bool) (HN1' : ∀ W, Calls Tryz.prog 74 #[.string q] W fun e w' => e = .returned (.tuple #[.int .u64 n1, .bool b1]) ∧ Drawn0 W w') (w : World) :
    Calls Tryz.prog 34 #[.string s] w (RdEnd (b0 && b1) n0 n1 0 2 mt pp w) := by
  have HPP := Lib.hid hpp
  clear hpp
  have HC1 := Lib.hid HC1'
  clear HC1'
  have HI1 := Lib.hid HI1'
  clear HI1'
  have HC2 := Lib.hid HC2'
  clear HC2'
  have HI2 := Lib.hid HI2'
  clear HI2'
  have HS := Lib.hid HS'
  clear HS'
  have HN0 := Lib.hid HN0'
  clear HN0'
  have HN1 := Lib.hid HN1'
  clear HN1'
  have HM := Aside0.mk (Blks.start w)
  go_enter Tryz.func34, Tryz.ntmps34
  go_upto_region 1 with ((refine m_alloc (by repeat (first | exact HM.out | apply Blks.drewN | apply Blks.drew | apply Blks.other)) (h := ?_); intro br _ HN; clear HM; have HM := HN; clear HN))
  go_upto_region 2 with ((refine m_alloc (by repeat (first | exact HM.out | apply Blks.drewN | apply Blks.drew | apply Blks.other)) (h := ?_); intro bo _ HN; clear HM; have HM := HN; clear HN))
  go_simp
  go_cut [23] from 17 to 23 (fun v23 wx => v23 = .bool (begins s.data.toList 118) ∧ Aside0 (Blks w wx [(bo, zSem.toList, 50), (br, zSem.toList, 50)]))
  case first =>
    rcases Nat.eq_zero_or_pos s.size with h0 | h0
    · have hem := isEmpty_true h0
      have hbg := begins_nil (c := 118) h0
      go_wp2_with fail
      go_meet
      case rel => exact ⟨by rw [hbg], ⟨(by repeat (first | exact HM.out | apply Blks.drewN | apply Blks.drew | apply Blks.other))⟩⟩
    · have hem := isEmpty_false h0
      have hbg := begins_at (c := 118) h0
      rw [← cast_beq] at hbg
      have HBG := Lib.hid hbg
      clear hbg
      go_wp2_with fail
      go_meet
      case rel => exact ⟨by rw [HBG.out]; rfl, ⟨(by repeat (first | exact HM.out | apply Blks.drewN | apply Blks.drew | apply Blks.other))⟩⟩
  case rest =>
    clear HM
    obtain ⟨rfl, HM⟩ := hcut
    go_upto_if 23 with fail
    go_cut [0] from 23 to 25 (fun v0 wx => v0 = .string s1 ∧ Aside0 (Blks w wx [(bo, zSem.toList, 50), (br, zSem.toList, 50)]))
    case first =>
      cases hq : begins s.data.toList 118 with
      | false =>
        obtain rfl := hs1 s (bare0_of_not hq)
        go_wp2_with fail
        go_meet
        case rel => exact ⟨rfl, ⟨(by repeat (first | exact HM.out | apply Blks.drewN | apply Blks.drew | apply Blks.other))⟩⟩
      | true =>
        have h0 := begins_pos hq
        obtain rfl := hs1 _ (bare0_v h0 (begins_one hq h0))
        go_wp2_with fail
        go_meet
        case rel => exact ⟨rfl, ⟨(by repeat (first | exact HM.out | apply Blks.drewN | apply Blks.drew | apply Blks.other))⟩⟩
    case rest =>
    clear HM
    obtain ⟨rfl, HM⟩ := hcut
    go_upto_region 6 with (first | (go_at_call 71; ((with_reducible refine (HC1.out _).mono ?_); rintro e wc ⟨rfl, ⟨nq, rfl⟩⟩; have HN := Aside0.mk (Blks.drewN (by repeat (first | exact HM.out | apply Blks.drewN | apply Blks.drew | apply Blks.other)) nq); clear HM; have HM := HN; clear HN)) | (go_at_call 72; ((with_reducible refine (HI1.out _).mono ?_); rintro e wi ⟨⟨A, n, c, rfl⟩, hb⟩; have HN := Aside0.mk (Blks.call (by repeat (first | exact HM.out | apply Blks.drewN | apply Blks.drew | apply Blks.other)) hb); clear HM hb; have HM := HN; clear HN)))
    go_cut [41] from 6 to 41 (fun v41 wx => v41 = .bool false ∧ Aside0 (Blks w wx [(bo, zSem.toList, 50), (br, zSem.toList, 50)]))
    case first =>
      cases has1
      · go_wp2_with fail
        go_meet
        case rel => exact ⟨rfl, ⟨(by repeat (first | exact HM.out | apply Blks.drewN | apply Blks.drew | apply Blks.other))⟩⟩
      · cases ok1
        · exact absurd hg1 (by decide)
        · go_wp2_with fail
          go_meet
          case rel => exact ⟨rfl, ⟨(by repeat (first | exact HM.out | apply Blks.drewN | apply Blks.drew | apply Blks.other))⟩⟩
    case rest =>
    clear HM
    obtain ⟨rfl, HM⟩ := hcut
    go_upto_if 51 with (first | (refine m_store1 (by repeat (first | exact HM.out | apply Blks.drewN | apply Blks.drew | apply Blks.other)) (hy := (by first | exact (rfl : _ = Value.bool _) | exact (rfl : _ = Value.int _ _) | exact (rfl : _ = Value.string _) | exact (rfl : _ = Value.slice _ _ _) | exact (rfl : _ = Value.iface _ _) | exact (rfl : _ = Value.nilIface) | exact (rfl : _ = Value.pointer _))) (h := ?_); intro _ HN; clear HM; have HM := HN; clear HN) | (go_at_call 71; ((with_reducible refine (HC2.out _).mono ?_); rintro e wc ⟨rfl, ⟨nq, rfl⟩⟩; have HN := Aside0.mk (Blks.drewN (by repeat (first | exact HM.out | apply Blks.drewN | apply Blks.drew | apply Blks.other)) nq); clear HM; have HM := HN; clear HN)))
    go_cut [9] from 6 to 61 (fun v9 wx => v9 = .string pre ∧ ∃ P X, PreOk pp P X ∧ Aside0 (Blks w wx ((bo, [.int .u64 0, .int .u64 0, .int .u64 0, .int .i64 0, P, .string mt], 50) :: (br, zSem.toList, 50) :: X)))
    case first =>
      cases has2
      · go_wp2_with fail
        go_meet
        case rel => exact ⟨rfl, _, _, Or.inl ⟨rfl, HPP.out (by trivial), rfl⟩, ⟨(by repeat (first | exact HM.out | apply Blks.drewN | apply Blks.drew | apply Blks.other))⟩⟩
      · cases ok2
        · exact absurd hg2 (by decide)
        · go_wp2_with (first | (refine m_store1 (by repeat (first | exact HM.out | apply Blks.drewN | apply Blks.drew | apply Blks.other)) (hy := (by first | exact (rfl : _ = Value.bool _) | exact (rfl : _ = Value.int _ _) | exact (rfl : _ = Value.string _) | exact (rfl : _ = Value.slice _ _ _) | exact (rfl : _ = Value.iface _ _) | exact (rfl : _ = Value.nilIface) | exact (rfl : _ = Value.pointer _))) (h := ?_); intro _ HN; clear HM; have HM := HN; clear HN) | (go_at_call 72; ((with_reducible refine (HI2.out _).mono ?_); rintro e wi ⟨gp, capp, cellsp, restp, rfl, hg, hc, hl, hb⟩; have HN := Aside0.mk (Blks.add (by repeat (first | exact HM.out | apply Blks.drewN | apply Blks.drew | apply Blks.other)) hb hg hc hl); clear HM hb hg hc hl; have HM := HN; clear HN)))
          go_meet
          case rel => exact ⟨rfl, _, _, Or.inr ⟨_, _, _, rfl, rfl⟩, ⟨(Blks.turn3 (by repeat (first | exact HM.out | apply Blks.drewN | apply Blks.drew | apply Blks.other)))⟩⟩
    case rest =>
    clear HM
    obtain ⟨rfl, P, X, HP, HM⟩ := hcut
    go_wp2_with (go_at_call 73; ((with_reducible refine (HS.out _).mono ?_); rintro e ws ⟨gs, caps, cellss, rests, rfl, hg, hc, hl, hb⟩; simp only [List.map, List.cons_append, List.nil_append] at hl; have HN := Aside0.mk (Blks.add (by repeat (first | exact HM.out | apply Blks.drewN | apply Blks.drew | apply Blks.other)) hb hg hc hl); clear HM hb hg hc hl; have HM := HN; clear HN))
    refine wp_loop_rounds 3 ?_
    rw [rounds_succ]
    go_upto_if 81 with (first | (refine m_load1 (by repeat (first | exact HM.out | apply Blks.drewN | apply Blks.drew | apply Blks.other)) (h := ?_)) | (go_at_call 74; ((with_reducible refine (HN0.out _).mono ?_); rintro e wn ⟨rfl, ⟨nq, rfl⟩⟩; have HN := Aside0.mk (Blks.drewN (by repeat (first | exact HM.out | apply Blks.drewN | apply Blks.drew | apply Blks.other)) nq); clear HM; have HM := HN; clear HN)))
    cases b0
    · go_wp2_with (first | (refine m_build (by kernel_rfl) (h := ?_)) | (refine m_store (by repeat (first | exact HM.out | apply Blks.drewN | apply Blks.drew | apply Blks.other)) (h := ?_); intro _ HN; clear HM; have HM := HN; clear HN))
      (try simp only [Exit.inBlock, Exit.then])
      have k0 := Blks.cell HM.out (b := br) (o := 0) (by repeat (first | exact List.Mem.head _ | apply List.Mem.tail)) (by repeat (first | exact Rd.nil | apply Rd.here | apply Rd.skip)); have k1 := Blks.cell HM.out (b := br) (o := 1) (by repeat (first | exact List.Mem.head _ | apply List.Mem.tail)) (by repeat (first | exact Rd.nil | apply Rd.here | apply Rd.skip)); have k2 := Blks.cell HM.out (b := br) (o := 2) (by repeat (first | exact List.Mem.head _ | apply List.Mem.tail)) (by repeat (first | exact Rd.nil | apply Rd.here | apply Rd.skip)); have k3 := Blks.cell HM.out (b := br) (o := 3) (by repeat (first | exact List.Mem.head _ | apply List.Mem.tail)) (by repeat (first | exact Rd.nil | apply Rd.here | apply Rd.skip)); have k4 := Blks.cell HM.out (b := br) (o := 4) (by repeat (first | exact List.Mem.head _ | apply List.Mem.tail)) (by repeat (first | exact Rd.nil | apply Rd.here | apply Rd.skip)); have k5 := Blks.cell HM.out (b := br) (o := 5) (by repeat (first | exact List.Mem.head _ | apply List.Mem.tail)) (by repeat (first | exact Rd.nil | apply Rd.here | apply Rd.skip)); refine bodyPost_ret (v := .tuple #[.agg zSem, .bool false]) (by simp [results, Tryz.results34, go_sem, *]) rfl ⟨rfl, HM.out.bel⟩
    go_wp2_with (refine m_store1 (by repeat (first | exact HM.out | apply Blks.drewN | apply Blks.drew | apply Blks.other)) (hy := (by first | exact (rfl : _ = Value.bool _) | exact (rfl : _ = Value.int _ _) | exact (rfl : _ = Value.string _) | exact (rfl : _ = Value.slice _ _ _) | exact (rfl : _ = Value.iface _ _) | exact (rfl : _ = Value.nilIface) | exact (rfl : _ = Value.pointer _))) (h := ?_); intro _ HN; clear HM; have HM := HN; clear HN)
    rw [rounds_succ]
    go_upto_if 81 with (first | (refine m_load1 (by repeat (first | exact HM.out | apply Blks.drewN | apply Blks.drew | apply Blks.other)) (h := ?_)) | (go_at_call 74; ((with_reducible refine (HN1.out _).mono ?_); rintro e wn ⟨rfl, ⟨nq, rfl⟩⟩; have HN := Aside0.mk (Blks.drewN (by repeat (first | exact HM.out | apply Blks.drewN | apply Blks.drew | apply Blks.other)) nq); clear HM; have HM := HN; clear HN)))
    cases b1
    · go_wp2_with (first | (refine m_build (by kernel_rfl) (h := ?_)) | (refine m_store (by repeat (first | exact HM.out | apply Blks.drewN | apply Blks.drew | apply Blks.other)) (h := ?_); intro _ HN; clear HM; have HM := HN; clear HN))
      (try simp only [Exit.inBlock, Exit.then])
      have k0 := Blks.cell HM.out (b := br) (o := 0) (by repeat (first | exact List.Mem.head _ | apply List.Mem.tail)) (by repeat (first | exact Rd.nil | apply Rd.here | apply Rd.skip)); have k1 := Blks.cell HM.out (b := br) (o := 1) (by repeat (first | exact List.Mem.head _ | apply List.Mem.tail)) (by repeat (first | exact Rd.nil | apply Rd.here | apply Rd.skip)); have k2 := Blks.cell HM.out (b := br) (o := 2) (by repeat (first | exact List.Mem.head _ | apply List.Mem.tail)) (by repeat (first | exact Rd.nil | apply Rd.here | apply Rd.skip)); have k3 := Blks.cell HM.out (b := br) (o := 3) (by repeat (first | exact List.Mem.head _ | apply List.Mem.tail)) (by repeat (first | exact Rd.nil | apply Rd.here | apply Rd.skip)); have k4 := Blks.cell HM.out (b := br) (o := 4) (by repeat (first | exact List.Mem.head _ | apply List.Mem.tail)) (by repeat (first | exact Rd.nil | apply Rd.here | apply Rd.skip)); have k5 := Blks.cell HM.out (b := br) (o := 5) (by repeat (first | exact List.Mem.head _ | apply List.Mem.tail)) (by repeat (first | exact Rd.nil | apply Rd.here | apply Rd.skip)); refine bodyPost_ret (v := .tuple #[.agg zSem, .bool false]) (by simp [results, Tryz.results34, go_sem, *]) rfl ⟨rfl, HM.out.bel⟩
    go_wp2_with (refine m_store1 (by repeat (first | exact HM.out | apply Blks.drewN | apply Blks.drew | apply Blks.other)) (hy := (by first | exact (rfl : _ = Value.bool _) | exact (rfl : _ = Value.int _ _) | exact (rfl : _ = Value.string _) | exact (rfl : _ = Value.slice _ _ _) | exact (rfl : _ = Value.iface _ _) | exact (rfl : _ = Value.nilIface) | exact (rfl : _ = Value.pointer _))) (h := ?_); intro _ HN; clear HM; have HM := HN; clear HN)
    rw [rounds_succ]
    have HO := Lib.hid HP.one
    go_wp2_with (first | (refine m_store1 (by repeat (first | exact HM.out | apply Blks.drewN | apply Blks.drew | apply Blks.other)) (hy := (by first | exact (rfl : _ = Value.bool _) | exact (rfl : _ = Value.int _ _) | exact (rfl : _ = Value.string _) | exact (rfl : _ = Value.slice _ _ _) | exact (rfl : _ = Value.iface _ _) | exact (rfl : _ = Value.nilIface) | exact (rfl : _ = Value.pointer _))) (h := ?_); intro _ HN; clear HM; have HM := HN; clear HN) | (refine m_load (by repeat (first | exact HM.out | apply Blks.drewN | apply Blks.drew | apply Blks.other)) (h := ?_)) | (refine m_store (by repeat (first | exact HM.out | apply Blks.drewN | apply Blks.drew | apply Blks.other)) (h1 := semOne HO.out) (h := ?_); intro _ HN; clear HM; have HM := HN; clear HN))
    have k0 := Blks.cell HM.out (b := br) (o := 0) (by repeat (first | exact List.Mem.head _ | apply List.Mem.tail)) (by repeat (first | exact Rd.nil | apply Rd.here | apply Rd.skip)); have k1 := Blks.cell HM.out (b := br) (o := 1) (by repeat (first | exact List.Mem.head _ | apply List.Mem.tail)) (by repeat (first | exact Rd.nil | apply Rd.here | apply Rd.skip)); have k2 := Blks.cell HM.out (b := br) (o := 2) (by repeat (first | exact List.Mem.head _ | apply List.Mem.tail)) (by repeat (first | exact Rd.nil | apply Rd.here | apply Rd.skip)); have k3 := Blks.cell HM.out (b := br) (o := 3) (by repeat (first | exact List.Mem.head _ | apply List.Mem.tail)) (by repeat (first | exact Rd.nil | apply Rd.here | apply Rd.skip)); have k4 := Blks.cell HM.out (b := br) (o := 4) (by repeat (first | exact List.Mem.head _ | apply List.Mem.tail)) (by repeat (first | exact Rd.nil | apply Rd.here | apply Rd.skip)); have k5 := Blks.cell HM.out (b := br) (o := 5) (by repeat (first | exact List.Mem.head _ | apply List.Mem.tail)) (by repeat (first | exact Rd.nil | apply Rd.here | apply Rd.skip)); refine bodyPost_ret (v := .tuple #[.agg #[.int .u64 n0, .int .u64 n1, .int .u64 0, .int .i64 2, P, .string mt], .bool true]) (by simp [results, Tryz.results34, go_sem, *]) rfl ⟨⟨P, rfl, HP.strs (Y := [_, _, _]) HM.out⟩, HM.out.bel⟩
set_option maxRecDepth 20000 in
set_option maxHeartbeats 8000000 in
theorem rs_n3 (s s1 x1 mt : ByteArray) (hs1 : ∀ r : ByteArray, r.data.toList = bare0 s.data.toList → r = s1) (x2 pre : ByteArray) (pp : List ByteArray) (p q r : ByteArray) (has1 ok1 has2 ok2 : Bool) (hg1 : (has1 && !ok1) = false) (hg2 : (has2 && !ok2) = false) (hpp : has2 = false → pp = [])
    (HC1' : ∀ W, Calls Tryz.prog 71 #[.string s1, .int .u8 43] W fun e w' => e = .returned (.tuple #[.string x1, .string mt, .bool has1]) ∧ Drawn0 W w')
    (HI1' : ∀ W, Calls Tryz.prog 72 #[.string mt] W (IdW ok1 W))
    (HC2' : ∀ W, Calls Tryz.prog 71 #[.string x1, .int .u8 45] W fun e w' => e = .returned (.tuple #[.string x2, .string pre, .bool has2]) ∧ Drawn0 W w')
    (HI2' : ∀ W, Calls Tryz.prog 72 #[.string pre] W (IdEnd ok2 pp W))
    (HS' : ∀ W, Calls Tryz.prog 73 #[.string x2, .int .u8 46] W (SpEnd [p, q, r] W)) (n0 : Int) (b0 : Bool) (HN0' : ∀ W, Calls Tryz.prog 74 #[.string p] W fun e w' => e = .returned (.tuple #[.int .u64 n0, .bool b0]) ∧ Drawn0 W w') (n1 : Int) (b1 : Bool) (HN1' : ∀ W, Calls Tryz.prog 74 #[.string q] W fun e w' => e = .returned (.tuple #[.int .u64 n1, .bool b1]) ∧ Drawn0 W w') (n2 : Int) (b2 : Bool) (HN2' : ∀ W, Calls Tryz.prog 74 #[.string r] W fun e w' => e = .returned (.tuple #[.int .u64 n2, .bool b2]) ∧ Drawn0 W w') (w : World) :
    Calls Tryz.prog 34 #[.string s] w (RdEnd (b0 && b1 && b2) n0 n1 n2 3 mt pp w) := by
  have HPP := Lib.hid hpp
  clear hpp
  have HC1 := Lib.hid HC1'
  clear HC1'
  have HI1 := Lib.hid HI1'
  clear HI1'
  have HC2 := Lib.hid HC2'
  clear HC2'
  have HI2 := Lib.hid HI2'
  clear HI2'
  have HS := Lib.hid HS'
  clear HS'
  have HN0 := Lib.hid HN0'
  clear HN0'
  have HN1 := Lib.hid HN1'
  clear HN1'
  have HN2 := Lib.hid HN2'
  clear HN2'
  have HM := Aside0.mk (Blks.start w)
  go_enter Tryz.func34, Tryz.ntmps34
  go_upto_region 1 with ((refine m_alloc (by repeat (first | exact HM.out | apply Blks.drewN | apply Blks.drew | apply Blks.other)) (h := ?_); intro br _ HN; clear HM; have HM := HN; clear HN))
  go_upto_region 2 with ((refine m_alloc (by repeat (first | exact HM.out | apply Blks.drewN | apply Blks.drew | apply Blks.other)) (h := ?_); intro bo _ HN; clear HM; have HM := HN; clear HN))
  go_simp
  go_cut [23] from 17 to 23 (fun v23 wx => v23 = .bool (begins s.data.toList 118) ∧ Aside0 (Blks w wx [(bo, zSem.toList, 50), (br, zSem.toList, 50)]))
  case first =>
    rcases Nat.eq_zero_or_pos s.size with h0 | h0
    · have hem := isEmpty_true h0
      have hbg := begins_nil (c := 118) h0
      go_wp2_with fail
      go_meet
      case rel => exact ⟨by rw [hbg], ⟨(by repeat (first | exact HM.out | apply Blks.drewN | apply Blks.drew | apply Blks.other))⟩⟩
    · have hem := isEmpty_false h0
      have hbg := begins_at (c := 118) h0
      rw [← cast_beq] at hbg
      have HBG := Lib.hid hbg
      clear hbg
      go_wp2_with fail
      go_meet
      case rel => exact ⟨by rw [HBG.out]; rfl, ⟨(by repeat (first | exact HM.out | apply Blks.drewN | apply Blks.drew | apply Blks.other))⟩⟩
  case rest =>
    clear HM
    obtain ⟨rfl, HM⟩ := hcut
    go_upto_if 23 with fail
    go_cut [0] from 23 to 25 (fun v0 wx => v0 = .string s1 ∧ Aside0 (Blks w wx [(bo, zSem.toList, 50), (br, zSem.toList, 50)]))
    case first =>
      cases hq : begins s.data.toList 118 with
      | false =>
        obtain rfl := hs1 s (bare0_of_not hq)
        go_wp2_with fail
        go_meet
        case rel => exact ⟨rfl, ⟨(by repeat (first | exact HM.out | apply Blks.drewN | apply Blks.drew | apply Blks.other))⟩⟩
      | true =>
        have h0 := begins_pos hq
        obtain rfl := hs1 _ (bare0_v h0 (begins_one hq h0))
        go_wp2_with fail
        go_meet
        case rel => exact ⟨rfl, ⟨(by repeat (first | exact HM.out | apply Blks.drewN | apply Blks.drew | apply Blks.other))⟩⟩
    case rest =>
    clear HM
    obtain ⟨rfl, HM⟩ := hcut
    go_upto_region 6 with (first | (go_at_call 71; ((with_reducible refine (HC1.out _).mono ?_); rintro e wc ⟨rfl, ⟨nq, rfl⟩⟩; have HN := Aside0.mk (Blks.drewN (by repeat (first | exact HM.out | apply Blks.drewN | apply Blks.drew | apply Blks.other)) nq); clear HM; have HM := HN; clear HN)) | (go_at_call 72; ((with_reducible refine (HI1.out _).mono ?_); rintro e wi ⟨⟨A, n, c, rfl⟩, hb⟩; have HN := Aside0.mk (Blks.call (by repeat (first | exact HM.out | apply Blks.drewN | apply Blks.drew | apply Blks.other)) hb); clear HM hb; have HM := HN; clear HN)))
    go_cut [41] from 6 to 41 (fun v41 wx => v41 = .bool false ∧ Aside0 (Blks w wx [(bo, zSem.toList, 50), (br, zSem.toList, 50)]))
    case first =>
      cases has1
      · go_wp2_with fail
        go_meet
        case rel => exact ⟨rfl, ⟨(by repeat (first | exact HM.out | apply Blks.drewN | apply Blks.drew | apply Blks.other))⟩⟩
      · cases ok1
        · exact absurd hg1 (by decide)
        · go_wp2_with fail
          go_meet
          case rel => exact ⟨rfl, ⟨(by repeat (first | exact HM.out | apply Blks.drewN | apply Blks.drew | apply Blks.other))⟩⟩
    case rest =>
    clear HM
    obtain ⟨rfl, HM⟩ := hcut
    go_upto_if 51 with (first | (refine m_store1 (by repeat (first | exact HM.out | apply Blks.drewN | apply Blks.drew | apply Blks.other)) (hy := (by first | exact (rfl : _ = Value.bool _) | exact (rfl : _ = Value.int _ _) | exact (rfl : _ = Value.string _) | exact (rfl : _ = Value.slice _ _ _) | exact (rfl : _ = Value.iface _ _) | exact (rfl : _ = Value.nilIface) | exact (rfl : _ = Value.pointer _))) (h := ?_); intro _ HN; clear HM; have HM := HN; clear HN) | (go_at_call 71; ((with_reducible refine (HC2.out _).mono ?_); rintro e wc ⟨rfl, ⟨nq, rfl⟩⟩; have HN := Aside0.mk (Blks.drewN (by repeat (first | exact HM.out | apply Blks.drewN | apply Blks.drew | apply Blks.other)) nq); clear HM; have HM := HN; clear HN)))
    go_cut [9] from 6 to 61 (fun v9 wx => v9 = .string pre ∧ ∃ P X, PreOk pp P X ∧ Aside0 (Blks w wx ((bo, [.int .u64 0, .int .u64 0, .int .u64 0, .int .i64 0, P, .string mt], 50) :: (br, zSem.toList, 50) :: X)))
    case first =>
      cases has2
      · go_wp2_with fail
        go_meet
        case rel => exact ⟨rfl, _, _, Or.inl ⟨rfl, HPP.out (by trivial), rfl⟩, ⟨(by repeat (first | exact HM.out | apply Blks.drewN | apply Blks.drew | apply Blks.other))⟩⟩
      · cases ok2
        · exact absurd hg2 (by decide)
        · go_wp2_with (first | (refine m_store1 (by repeat (first | exact HM.out | apply Blks.drewN | apply Blks.drew | apply Blks.other)) (hy := (by first | exact (rfl : _ = Value.bool _) | exact (rfl : _ = Value.int _ _) | exact (rfl : _ = Value.string _) | exact (rfl : _ = Value.slice _ _ _) | exact (rfl : _ = Value.iface _ _) | exact (rfl : _ = Value.nilIface) | exact (rfl : _ = Value.pointer _))) (h := ?_); intro _ HN; clear HM; have HM := HN; clear HN) | (go_at_call 72; ((with_reducible refine (HI2.out _).mono ?_); rintro e wi ⟨gp, capp, cellsp, restp, rfl, hg, hc, hl, hb⟩; have HN := Aside0.mk (Blks.add (by repeat (first | exact HM.out | apply Blks.drewN | apply Blks.drew | apply Blks.other)) hb hg hc hl); clear HM hb hg hc hl; have HM := HN; clear HN)))
          go_meet
          case rel => exact ⟨rfl, _, _, Or.inr ⟨_, _, _, rfl, rfl⟩, ⟨(Blks.turn3 (by repeat (first | exact HM.out | apply Blks.drewN | apply Blks.drew | apply Blks.other)))⟩⟩
    case rest =>
    clear HM
    obtain ⟨rfl, P, X, HP, HM⟩ := hcut
    go_wp2_with (go_at_call 73; ((with_reducible refine (HS.out _).mono ?_); rintro e ws ⟨gs, caps, cellss, rests, rfl, hg, hc, hl, hb⟩; simp only [List.map, List.cons_append, List.nil_append] at hl; have HN := Aside0.mk (Blks.add (by repeat (first | exact HM.out | apply Blks.drewN | apply Blks.drew | apply Blks.other)) hb hg hc hl); clear HM hb hg hc hl; have HM := HN; clear HN))
    refine wp_loop_rounds 4 ?_
    rw [rounds_succ]
    go_upto_if 81 with (first | (refine m_load1 (by repeat (first | exact HM.out | apply Blks.drewN | apply Blks.drew | apply Blks.other)) (h := ?_)) | (go_at_call 74; ((with_reducible refine (HN0.out _).mono ?_); rintro e wn ⟨rfl, ⟨nq, rfl⟩⟩; have HN := Aside0.mk (Blks.drewN (by repeat (first | exact HM.out | apply Blks.drewN | apply Blks.drew | apply Blks.other)) nq); clear HM; have HM := HN; clear HN)))
    cases b0
    · go_wp2_with (first | (refine m_build (by kernel_rfl) (h := ?_)) | (refine m_store (by repeat (first | exact HM.out | apply Blks.drewN | apply Blks.drew | apply Blks.other)) (h := ?_); intro _ HN; clear HM; have HM := HN; clear HN))
      (try simp only [Exit.inBlock, Exit.then])
      have k0 := Blks.cell HM.out (b := br) (o := 0) (by repeat (first | exact List.Mem.head _ | apply List.Mem.tail)) (by repeat (first | exact Rd.nil | apply Rd.here | apply Rd.skip)); have k1 := Blks.cell HM.out (b := br) (o := 1) (by repeat (first | exact List.Mem.head _ | apply List.Mem.tail)) (by repeat (first | exact Rd.nil | apply Rd.here | apply Rd.skip)); have k2 := Blks.cell HM.out (b := br) (o := 2) (by repeat (first | exact List.Mem.head _ | apply List.Mem.tail)) (by repeat (first | exact Rd.nil | apply Rd.here | apply Rd.skip)); have k3 := Blks.cell HM.out (b := br) (o := 3) (by repeat (first | exact List.Mem.head _ | apply List.Mem.tail)) (by repeat (first | exact Rd.nil | apply Rd.here | apply Rd.skip)); have k4 := Blks.cell HM.out (b := br) (o := 4) (by repeat (first | exact List.Mem.head _ | apply List.Mem.tail)) (by repeat (first | exact Rd.nil | apply Rd.here | apply Rd.skip)); have k5 := Blks.cell HM.out (b := br) (o := 5) (by repeat (first | exact List.Mem.head _ | apply List.Mem.tail)) (by repeat (first | exact Rd.nil | apply Rd.here | apply Rd.skip)); refine bodyPost_ret (v := .tuple #[.agg zSem, .bool false]) (by simp [results, Tryz.results34, go_sem, *]) rfl ⟨rfl, HM.out.bel⟩
    go_wp2_with (refine m_store1 (by repeat (first | exact HM.out | apply Blks.drewN | apply Blks.drew | apply Blks.other)) (hy := (by first | exact (rfl : _ = Value.bool _) | exact (rfl : _ = Value.int _ _) | exact (rfl : _ = Value.string _) | exact (rfl : _ = Value.slice _ _ _) | exact (rfl : _ = Value.iface _ _) | exact (rfl : _ = Value.nilIface) | exact (rfl : _ = Value.pointer _))) (h := ?_); intro _ HN; clear HM; have HM := HN; clear HN)
    rw [rounds_succ]
    go_upto_if 81 with (first | (refine m_load1 (by repeat (first | exact HM.out | apply Blks.drewN | apply Blks.drew | apply Blks.other)) (h := ?_)) | (go_at_call 74; ((with_reducible refine (HN1.out _).mono ?_); rintro e wn ⟨rfl, ⟨nq, rfl⟩⟩; have HN := Aside0.mk (Blks.drewN (by repeat (first | exact HM.out | apply Blks.drewN | apply Blks.drew | apply Blks.other)) nq); clear HM; have HM := HN; clear HN)))
    cases b1
    · go_wp2_with (first | (refine m_build (by kernel_rfl) (h := ?_)) | (refine m_store (by repeat (first | exact HM.out | apply Blks.drewN | apply Blks.drew | apply Blks.other)) (h := ?_); intro _ HN; clear HM; have HM := HN; clear HN))
      (try simp only [Exit.inBlock, Exit.then])
      have k0 := Blks.cell HM.out (b := br) (o := 0) (by repeat (first | exact List.Mem.head _ | apply List.Mem.tail)) (by repeat (first | exact Rd.nil | apply Rd.here | apply Rd.skip)); have k1 := Blks.cell HM.out (b := br) (o := 1) (by repeat (first | exact List.Mem.head _ | apply List.Mem.tail)) (by repeat (first | exact Rd.nil | apply Rd.here | apply Rd.skip)); have k2 := Blks.cell HM.out (b := br) (o := 2) (by repeat (first | exact List.Mem.head _ | apply List.Mem.tail)) (by repeat (first | exact Rd.nil | apply Rd.here | apply Rd.skip)); have k3 := Blks.cell HM.out (b := br) (o := 3) (by repeat (first | exact List.Mem.head _ | apply List.Mem.tail)) (by repeat (first | exact Rd.nil | apply Rd.here | apply Rd.skip)); have k4 := Blks.cell HM.out (b := br) (o := 4) (by repeat (first | exact List.Mem.head _ | apply List.Mem.tail)) (by repeat (first | exact Rd.nil | apply Rd.here | apply Rd.skip)); have k5 := Blks.cell HM.out (b := br) (o := 5) (by repeat (first | exact List.Mem.head _ | apply List.Mem.tail)) (by repeat (first | exact Rd.nil | apply Rd.here | apply Rd.skip)); refine bodyPost_ret (v := .tuple #[.agg zSem, .bool false]) (by simp [results, Tryz.results34, go_sem, *]) rfl ⟨rfl, HM.out.bel⟩
    go_wp2_with (refine m_store1 (by repeat (first | exact HM.out | apply Blks.drewN | apply Blks.drew | apply Blks.other)) (hy := (by first | exact (rfl : _ = Value.bool _) | exact (rfl : _ = Value.int _ _) | exact (rfl : _ = Value.string _) | exact (rfl : _ = Value.slice _ _ _) | exact (rfl : _ = Value.iface _ _) | exact (rfl : _ = Value.nilIface) | exact (rfl : _ = Value.pointer _))) (h := ?_); intro _ HN; clear HM; have HM := HN; clear HN)
    rw [rounds_succ]
    go_upto_if 81 with (first | (refine m_load1 (by repeat (first | exact HM.out | apply Blks.drewN | apply Blks.drew | apply Blks.other)) (h := ?_)) | (go_at_call 74; ((with_reducible refine (HN2.out _).mono ?_); rintro e wn ⟨rfl, ⟨nq, rfl⟩⟩; have HN := Aside0.mk (Blks.drewN (by repeat (first | exact HM.out | apply Blks.drewN | apply Blks.drew | apply Blks.other)) nq); clear HM; have HM := HN; clear HN)))
    cases b2
    · go_wp2_with (first | (refine m_build (by kernel_rfl) (h := ?_)) | (refine m_store (by repeat (first | exact HM.out | apply Blks.drewN | apply Blks.drew | apply Blks.other)) (h := ?_); intro _ HN; clear HM; have HM := HN; clear HN))
      (try simp only [Exit.inBlock, Exit.then])
      have k0 := Blks.cell HM.out (b := br) (o := 0) (by repeat (first | exact List.Mem.head _ | apply List.Mem.tail)) (by repeat (first | exact Rd.nil | apply Rd.here | apply Rd.skip)); have k1 := Blks.cell HM.out (b := br) (o := 1) (by repeat (first | exact List.Mem.head _ | apply List.Mem.tail)) (by repeat (first | exact Rd.nil | apply Rd.here | apply Rd.skip)); have k2 := Blks.cell HM.out (b := br) (o := 2) (by repeat (first | exact List.Mem.head _ | apply List.Mem.tail)) (by repeat (first | exact Rd.nil | apply Rd.here | apply Rd.skip)); have k3 := Blks.cell HM.out (b := br) (o := 3) (by repeat (first | exact List.Mem.head _ | apply List.Mem.tail)) (by repeat (first | exact Rd.nil | apply Rd.here | apply Rd.skip)); have k4 := Blks.cell HM.out (b := br) (o := 4) (by repeat (first | exact List.Mem.head _ | apply List.Mem.tail)) (by repeat (first | exact Rd.nil | apply Rd.here | apply Rd.skip)); have k5 := Blks.cell HM.out (b := br) (o := 5) (by repeat (first | exact List.Mem.head _ | apply List.Mem.tail)) (by repeat (first | exact Rd.nil | apply Rd.here | apply Rd.skip)); refine bodyPost_ret (v := .tuple #[.agg zSem, .bool false]) (by simp [results, Tryz.results34, go_sem, *]) rfl ⟨rfl, HM.out.bel⟩
    go_wp2_with (refine m_store1 (by repeat (first | exact HM.out | apply Blks.drewN | apply Blks.drew | apply Blks.other)) (hy := (by first | exact (rfl : _ = Value.bool _) | exact (rfl : _ = Value.int _ _) | exact (rfl : _ = Value.string _) | exact (rfl : _ = Value.slice _ _ _) | exact (rfl : _ = Value.iface _ _) | exact (rfl : _ = Value.nilIface) | exact (rfl : _ = Value.pointer _))) (h := ?_); intro _ HN; clear HM; have HM := HN; clear HN)
    rw [rounds_succ]
    have HO := Lib.hid HP.one
    go_wp2_with (first | (refine m_store1 (by repeat (first | exact HM.out | apply Blks.drewN | apply Blks.drew | apply Blks.other)) (hy := (by first | exact (rfl : _ = Value.bool _) | exact (rfl : _ = Value.int _ _) | exact (rfl : _ = Value.string _) | exact (rfl : _ = Value.slice _ _ _) | exact (rfl : _ = Value.iface _ _) | exact (rfl : _ = Value.nilIface) | exact (rfl : _ = Value.pointer _))) (h := ?_); intro _ HN; clear HM; have HM := HN; clear HN) | (refine m_load (by repeat (first | exact HM.out | apply Blks.drewN | apply Blks.drew | apply Blks.other)) (h := ?_)) | (refine m_store (by repeat (first | exact HM.out | apply Blks.drewN | apply Blks.drew | apply Blks.other)) (h1 := semOne HO.out) (h := ?_); intro _ HN; clear HM; have HM := HN; clear HN))
    have k0 := Blks.cell HM.out (b := br) (o := 0) (by repeat (first | exact List.Mem.head _ | apply List.Mem.tail)) (by repeat (first | exact Rd.nil | apply Rd.here | apply Rd.skip)); have k1 := Blks.cell HM.out (b := br) (o := 1) (by repeat (first | exact List.Mem.head _ | apply List.Mem.tail)) (by repeat (first | exact Rd.nil | apply Rd.here | apply Rd.skip)); have k2 := Blks.cell HM.out (b := br) (o := 2) (by repeat (first | exact List.Mem.head _ | apply List.Mem.tail)) (by repeat (first | exact Rd.nil | apply Rd.here | apply Rd.skip)); have k3 := Blks.cell HM.out (b := br) (o := 3) (by repeat (first | exact List.Mem.head _ | apply List.Mem.tail)) (by repeat (first | exact Rd.nil | apply Rd.here | apply Rd.skip)); have k4 := Blks.cell HM.out (b := br) (o := 4) (by repeat (first | exact List.Mem.head _ | apply List.Mem.tail)) (by repeat (first | exact Rd.nil | apply Rd.here | apply Rd.skip)); have k5 := Blks.cell HM.out (b := br) (o := 5) (by repeat (first | exact List.Mem.head _ | apply List.Mem.tail)) (by repeat (first | exact Rd.nil | apply Rd.here | apply Rd.skip)); refine bodyPost_ret (v := .tuple #[.agg #[.int .u64 n0, .int .u64 n1, .int .u64 n2, .int .i64 3, P, .string mt], .bool true]) (by simp [results, Tryz.results34, go_sem, *]) rfl ⟨⟨P, rfl, HP.strs (Y := [_, _, _]) HM.out⟩, HM.out.bel⟩
end Go.Proofs.YtgoeiflddikihaaGreatDoor.Ver
end
section
namespace Go.Proofs.YtgoeiflddikihaaGreatDoor.Ver
set_option linter.unusedSimpArgs false
set_option linter.unusedVariables false
open Go.RowKit Go.Proofs.YtgoeiflddikihaaGreatDoor.PFnVersion Go.Proofs.YtgoeiflddikihaaGreatDoorW.PrintWords Go.Proofs.YtgoeiflddikihaaGreatDoor.Mem Go.Proofs.YtgoeiflddikihaaGreatDoor.Dig
theorem mkB_list (l : List UInt8) : (mkB l).data.toList = l := rfl
theorem mkB_size (l : List UInt8) : (mkB l).size = l.length := by show l.toArray.size = _; rw [List.size_toArray]
theorem list_size (s : ByteArray) : s.data.toList.length = s.size := by rw [Array.length_toList]; rfl
theorem mkB_back (s : ByteArray) : mkB s.data.toList = s := (mkB_of rfl).symm
theorem qCutAt_len (c : UInt8) : ∀ l : List UInt8, (qCutAt c l).1.length ≤ l.length ∧ ∀ b, (qCutAt c l).2 = some b → b.length ≤ l.length
  | [] => ⟨by simp [qCutAt], fun b h => by simp [qCutAt] at h⟩
  | x :: r => by
    have ih := qCutAt_len c r
    unfold qCutAt
    split
    · exact ⟨by simp, fun b h => by simp at h; subst h; simp⟩
    · exact ⟨by simp; exact ih.1, fun b h => by have := ih.2 b h; simp; omega⟩
theorem vcut_none (s : ByteArray) (hs : s.size ≤ 140737488351232) (c : UInt8) {a : List UInt8} (h : qCutAt c s.data.toList = (a, none)) (W : World) :
    Calls Tryz.prog 71 #[.string s, .int .u8 (c.toNat : Int)] W fun e w' => e = .returned (.tuple #[.string s, .string (mkB []), .bool false]) ∧ Drawn0 W w' := by
  refine spec_verCut.calls (s.size + 1) s c.toNat s (mkB []) false W ?_
  have := cut_tells s hs c s.size 0 (Nat.zero_le _) (by omega) (s.size + 1) (by omega)
  rw [List.take_zero, List.drop_zero, h] at this
  exact this
theorem vcut_some (s : ByteArray) (hs : s.size ≤ 140737488351232) (c : UInt8) {a b : List UInt8} (h : qCutAt c s.data.toList = (a, some b)) (W : World) :
    Calls Tryz.prog 71 #[.string s, .int .u8 (c.toNat : Int)] W fun e w' => e = .returned (.tuple #[.string (mkB a), .string (mkB b), .bool true]) ∧ Drawn0 W w' := by
  refine spec_verCut.calls (s.size + 1) s c.toNat (mkB a) (mkB b) true W ?_
  have := cut_tells s hs c s.size 0 (Nat.zero_le _) (by omega) (s.size + 1) (by omega)
  rw [List.take_zero, List.drop_zero, h] at this
  exact this
theorem partsV_pos (c : UInt8) (s : ByteArray) : 0 < (partsV c s).length := by
  unfold partsV; rw [List.length_map]; exact List.length_pos_iff.2 (qSplitOn_ne _ _)
theorem vsplit_any (s : ByteArray) (hs : s.size ≤ 1000000000) (c : UInt8) (W : World) : Calls Tryz.prog 73 #[.string s, .int .u8 (c.toNat : Int)] W (SpEnd (partsV c s) W) := by
  refine (spec_verSplit.calls (s.size + 2) s c.toNat _ W (split_f s hs c _ (by omega))).mono ?_
  rintro e w' ⟨v, rfl, hr, hb⟩
  obtain ⟨g, cap, cells, rest, rfl, h1, h2, h3⟩ := strs_block hr (partsV_pos c s)
  exact ⟨g, cap, cells, rest, rfl, h1, h2, h3, hb⟩
theorem row_slice {w : World} {base n size : Nat} {e : TypeId} {v : Value} {xs : List Value} (h : w.ownsRow base e size v n xs) : ∃ A m c, v = .slice A m c := by
  obtain ⟨_, h⟩ := h
  rcases h with ⟨rfl, _⟩ | ⟨g, cap, _, rfl, _⟩
  · exact ⟨_, _, _, rfl⟩
  · exact ⟨_, _, _, rfl⟩
theorem vidents_any (s : ByteArray) (hs : s.size ≤ 100000000) (W : World) : Calls Tryz.prog 72 #[.string s] W (IdEnd (qIdentsB s.data.toList) (partsV 46 s) W) := by
  obtain ⟨k, hk⟩ := idents_f s hs
  cases hq : qIdentsB s.data.toList with
  | true =>
    rw [hq, if_pos rfl] at hk
    refine (spec_verIdents.calls k s _ _ W hk).mono ?_
    rintro e w' ⟨v, rfl, hr, hb⟩
    obtain ⟨g, cap, cells, rest, rfl, h1, h2, h3⟩ := strs_block hr (partsV_pos 46 s)
    exact ⟨g, cap, cells, rest, rfl, h1, h2, h3, hb⟩
  | false =>
    rw [hq, if_neg (by decide)] at hk
    refine (spec_verIdents.calls k s _ _ W hk).mono ?_
    rintro e w' ⟨v, rfl, hr, hb⟩
    obtain ⟨_, inner, ho, _⟩ := hr
    obtain ⟨A, m, c, rfl⟩ := row_slice ho
    exact ⟨⟨A, m, c, rfl⟩, hb⟩
theorem vnumber_any (p : List UInt8) (hp : p.length ≤ 140737488351232) : ∃ n : Int, (∀ u, qNumB p = some u → n = (u : Int)) ∧ ∀ W, Calls Tryz.prog 74 #[.string (mkB p)] W fun e w' => e = .returned (.tuple #[.int .u64 n, .bool (qNumB p).isSome]) ∧ Drawn0 W w' := by
  obtain ⟨n, k, h1, h2⟩ := number_f (mkB p) (by rw [mkB_size]; exact hp)
  exact ⟨n, h2, fun W => spec_verNumber.calls k (mkB p) n _ W h1⟩
def RsEnd (q : Option (List Nat × List UInt8 × List UInt8)) (w : World) (e : Ending) (w' : World) : Prop := match q with
  | none => RdNo w e w'
  | some (ns, pre, mt) => RdYes (ns.getD 0 0 : Nat) (ns.getD 1 0 : Nat) (ns.getD 2 0 : Nat) ns.length (mkB mt) ((preParts pre).map mkB) w e w'
theorem read_nums (s x1 x2 mt pre : ByteArray) (hs : s.size ≤ 100000) (has1 ok1 has2 ok2 : Bool) (hg1 : (has1 && !ok1) = false) (hg2 : (has2 && !ok2) = false) (pp : List ByteArray) (hpp : has2 = false → pp = []) (hx : x2.size ≤ 100000)
    (HC1 : ∀ W, Calls Tryz.prog 71 #[.string (mkB (bare0 s.data.toList)), .int .u8 43] W fun e w' => e = .returned (.tuple #[.string x1, .string mt, .bool has1]) ∧ Drawn0 W w')
    (HI1 : ∀ W, Calls Tryz.prog 72 #[.string mt] W (IdW ok1 W))
    (HC2 : ∀ W, Calls Tryz.prog 71 #[.string x1, .int .u8 45] W fun e w' => e = .returned (.tuple #[.string x2, .string pre, .bool has2]) ∧ Drawn0 W w')
    (HI2 : ∀ W, Calls Tryz.prog 72 #[.string pre] W (IdEnd ok2 pp W)) (w : World) :
    Calls Tryz.prog 34 #[.string s] w (match (if 3 < (qSplitOn 46 x2.data.toList).length then none else qNumsB (qSplitOn 46 x2.data.toList)) with
      | none => RdNo w
      | some ns => RdYes (ns.getD 0 0 : Nat) (ns.getD 1 0 : Nat) (ns.getD 2 0 : Nat) ns.length mt pp w) := by
  have hs1 : ∀ r : ByteArray, r.data.toList = bare0 s.data.toList → r = mkB (bare0 s.data.toList) := fun r h => mkB_of h
  have HS := fun W => vsplit_any x2 (by omega) 46 W
  have hlen : ∀ y ∈ qSplitOn 46 x2.data.toList, y.length ≤ 140737488351232 := fun y hy => by
    have h1 := parts_size 46 x2.data.toList y hy
    rw [list_size] at h1; omega
  unfold partsV at HS
  have hne := qSplitOn_ne 46 x2.data.toList
  generalize qSplitOn 46 x2.data.toList = Q at HS hlen hne ⊢
  rcases Q with _ | ⟨p, _ | ⟨q, _ | ⟨r, _ | ⟨t, u⟩⟩⟩⟩
  · exact absurd rfl hne
  · skip
    obtain ⟨n0, h0, HN0⟩ := vnumber_any p (hlen p (by simp))
    have H := rs_n1 s _ x1 mt hs1 x2 pre pp (mkB p) has1 ok1 has2 ok2 hg1 hg2 hpp HC1 HI1 HC2 HI2 HS n0 _ HN0 w
    rw [if_neg (by simp)]
    simp only [qNumsB]
    cases e0 : qNumB p with
    | none =>
      simp only [e0, Option.isSome_none, Option.isSome_some, Bool.true_and, Bool.false_and, Bool.and_true, Bool.and_false] at H
      exact H
    | some u0 =>
      obtain rfl := h0 u0 e0
      simp only [e0, Option.isSome_some, Bool.and_true] at H
      exact H
  · skip
    obtain ⟨n0, h0, HN0⟩ := vnumber_any p (hlen p (by simp))
    obtain ⟨n1, h1, HN1⟩ := vnumber_any q (hlen q (by simp))
    have H := rs_n2 s _ x1 mt hs1 x2 pre pp (mkB p) (mkB q) has1 ok1 has2 ok2 hg1 hg2 hpp HC1 HI1 HC2 HI2 HS n0 _ HN0 n1 _ HN1 w
    rw [if_neg (by simp)]
    simp only [qNumsB]
    cases e0 : qNumB p with
    | none =>
      simp only [e0, Option.isSome_none, Option.isSome_some, Bool.true_and, Bool.false_and, Bool.and_true, Bool.and_false] at H
      exact H
    | some u0 =>
      obtain rfl := h0 u0 e0
      cases e1 : qNumB q with
      | none =>
        simp only [e0, e1, Option.isSome_none, Option.isSome_some, Bool.true_and, Bool.false_and, Bool.and_true, Bool.and_false] at H
        exact H
      | some u1 =>
        obtain rfl := h1 u1 e1
        simp only [e0, e1, Option.isSome_some, Bool.and_true] at H
        exact H
  · skip
    obtain ⟨n0, h0, HN0⟩ := vnumber_any p (hlen p (by simp))
    obtain ⟨n1, h1, HN1⟩ := vnumber_any q (hlen q (by simp))
    obtain ⟨n2, h2, HN2⟩ := vnumber_any r (hlen r (by simp))
    have H := rs_n3 s _ x1 mt hs1 x2 pre pp (mkB p) (mkB q) (mkB r) has1 ok1 has2 ok2 hg1 hg2 hpp HC1 HI1 HC2 HI2 HS n0 _ HN0 n1 _ HN1 n2 _ HN2 w
    rw [if_neg (by simp)]
    simp only [qNumsB]
    cases e0 : qNumB p with
    | none =>
      simp only [e0, Option.isSome_none, Option.isSome_some, Bool.true_and, Bool.false_and, Bool.and_true, Bool.and_false] at H
      exact H
    | some u0 =>
      obtain rfl := h0 u0 e0
      cases e1 : qNumB q with
      | none =>
        simp only [e0, e1, Option.isSome_none, Option.isSome_some, Bool.true_and, Bool.false_and, Bool.and_true, Bool.and_false] at H
        exact H
      | some u1 =>
        obtain rfl := h1 u1 e1
        cases e2 : qNumB r with
        | none =>
          simp only [e0, e1, e2, Option.isSome_none, Option.isSome_some, Bool.true_and, Bool.false_and, Bool.and_true, Bool.and_false] at H
          exact H
        | some u2 =>
          obtain rfl := h2 u2 e2
          simp only [e0, e1, e2, Option.isSome_some, Bool.and_true] at H
          exact H
  · rw [if_pos (by simp)]
    exact rs_n4 s _ x1 mt hs1 x2 pre pp (mkB p) (mkB q) (mkB r) (mkB t) (u.map mkB) has1 ok1 has2 ok2 hg1 hg2 hpp HC1 HI1 HC2 HI2 HS w
theorem bare0_len (l : List UInt8) : (bare0 l).length ≤ l.length := by
  cases l with
  | nil => exact Nat.le_refl _
  | cons c r =>
    simp only [bare0]
    split
    · simp
    · exact Nat.le_refl _
theorem read_sem (s : ByteArray) (hs : s.size ≤ 100000) (w : World) : Calls Tryz.prog 34 #[.string s] w (RsEnd (qSemB0 s.data.toList) w) := by
  have hs1 : ∀ r : ByteArray, r.data.toList = bare0 s.data.toList → r = mkB (bare0 s.data.toList) := fun r h => mkB_of h
  have hb := bare0_len s.data.toList
  rw [list_size] at hb
  unfold qSemB0
  simp only
  rcases e1 : qCutAt 43 (bare0 s.data.toList) with ⟨a1, om⟩
  have l1 := qCutAt_len 43 (bare0 s.data.toList)
  rw [e1] at l1
  -- what is behind +
  have key : ∀ (x1 mt : ByteArray) (has1 ok1 : Bool) (hg1 : (has1 && !ok1) = false) (hx1 : x1.data.toList = a1),
      (∀ W, Calls Tryz.prog 71 #[.string (mkB (bare0 s.data.toList)), .int .u8 43] W fun e w' => e = .returned (.tuple #[.string x1, .string mt, .bool has1]) ∧ Drawn0 W w') →
      (∀ W, Calls Tryz.prog 72 #[.string mt] W (IdW ok1 W)) →
      Calls Tryz.prog 34 #[.string s] w (RsEnd (match qOptB (qCutAt 45 a1).2 with
        | none => none
        | some pre => if 3 < (qSplitOn 46 (qCutAt 45 a1).1).length then none else match qNumsB (qSplitOn 46 (qCutAt 45 a1).1) with
          | none => none
          | some ns => some (ns, pre, mt.data.toList)) w) := by
    intro x1 mt has1 ok1 hg1 hx1 HC1 HI1
    have hl1 : x1.size ≤ 100000 := by have := list_size x1; rw [hx1] at this; have := l1.1; simp only at this; omega
    rcases e2 : qCutAt 45 a1 with ⟨a2, op⟩
    have l2 := qCutAt_len 45 a1
    rw [e2] at l2
    simp only at l2
    have hr : ∀ (ns : Option (List Nat)) (pp : List ByteArray) (pre : List UInt8), pp = (preParts pre).map mkB → (match ns with
        | none => RdNo w
        | some ns => RdYes (ns.getD 0 0 : Nat) (ns.getD 1 0 : Nat) (ns.getD 2 0 : Nat) ns.length mt pp w) = RsEnd (match ns with | none => none | some ns => some (ns, pre, mt.data.toList)) w := by
      intro ns pp pre hp
      subst hp
      cases ns with
      | none => rfl
      | some ns => show _ = RdYes _ _ _ _ (mkB mt.data.toList) _ w; rw [mkB_back]
    cases op with
    | none =>
      obtain ⟨h1, _⟩ := qCutAt_none e2
      subst h1
      have hq : qCutAt 45 x1.data.toList = (a2, none) := by rw [hx1]; exact e2
      have H := read_nums s x1 x1 mt (mkB []) hs has1 ok1 false false hg1 rfl [] (fun _ => rfl) hl1 HC1 HI1 (fun W => vcut_none x1 (by omega) 45 hq W) (fun W => (vidents_any (mkB []) (by rw [mkB_size]; simp) W).mono fun e w' h => by
        have : qIdentsB (mkB []).data.toList = false := by decide
        rw [this] at h; exact h) w
      rw [hx1, hr _ [] [] rfl] at H
      simp only [qOptB]
      refine H.mono fun e w' h => ?_
      split
      · rename_i h3; rw [if_pos h3] at h; exact h
      · rename_i h3; rw [if_neg h3] at h; exact h
    | some b =>
      have hq : qCutAt 45 x1.data.toList = (a2, some b) := by rw [hx1]; exact e2
      have hb2 := l2.2 b rfl
      have hbl : b.length ≤ 100000 := by have := list_size x1; rw [hx1] at this; omega
      have hal : a2.length ≤ 100000 := by have := list_size x1; rw [hx1] at this; have := l2.1; omega
      cases hi : qIdentsB b with
      | false =>
        simp only [qOptB, hi]
        exact rs_pre s _ x1 mt hs1 (mkB a2) (mkB b) (partsV 46 (mkB b)) has1 ok1 hg1 HC1 HI1 (fun W => vcut_some x1 (by omega) 45 hq W) (fun W => (vidents_any (mkB b) (by rw [mkB_size]; omega) W).mono fun e w' h => by
          rw [mkB_list, hi] at h; exact h) w
      | true =>
        have H := read_nums s x1 (mkB a2) mt (mkB b) hs has1 ok1 true true hg1 rfl (partsV 46 (mkB b)) (fun h => by cases h) (by rw [mkB_size]; exact hal) HC1 HI1 (fun W => vcut_some x1 (by omega) 45 hq W) (fun W => (vidents_any (mkB b) (by rw [mkB_size]; omega) W).mono fun e w' h => by
          rw [mkB_list, hi] at h; exact h) w
        have hne : b ≠ [] := by rintro rfl; exact absurd hi (by decide)
        rw [mkB_list, hr _ (partsV 46 (mkB b)) b (by unfold partsV preParts; rw [mkB_list, if_neg hne])] at H
        simp only [qOptB, hi, if_true]
        refine H.mono fun e w' h => ?_
        split
        · rename_i h3; rw [if_pos h3] at h; exact h
        · rename_i h3; rw [if_neg h3] at h; exact h
  cases om with
  | none =>
    obtain ⟨h1, _⟩ := qCutAt_none e1
    have H := key (mkB (bare0 s.data.toList)) (mkB []) false false rfl (by rw [mkB_list]; exact h1.symm) (fun W => vcut_none (mkB (bare0 s.data.toList)) (by rw [mkB_size]; omega) 43 e1 W) (fun W => (vidents_any (mkB []) (by rw [mkB_size]; simp) W).mono fun e w' h => by
      have : qIdentsB (mkB []).data.toList = false := by decide
      rw [this] at h; exact h.weak)
    exact H
  | some m =>
    have hml := l1.2 m rfl
    cases hi : qIdentsB m with
    | false =>
      simp only [qOptB, hi]
      exact rs_meta s _ (mkB a1) (mkB m) hs1 (fun W => vcut_some (mkB (bare0 s.data.toList)) (by rw [mkB_size]; omega) 43 e1 W) (fun W => (vidents_any (mkB m) (by rw [mkB_size]; omega) W).mono fun e w' h => by
        rw [mkB_list, hi] at h; exact h.weak) w
    | true =>
      have H := key (mkB a1) (mkB m) true true rfl rfl (fun W => vcut_some (mkB (bare0 s.data.toList)) (by rw [mkB_size]; omega) 43 e1 W) (fun W => (vidents_any (mkB m) (by rw [mkB_size]; omega) W).mono fun e w' h => by
        rw [mkB_list, hi] at h; exact h.weak)
      simp only [qOptB, hi, if_true]
      exact H
end Go.Proofs.YtgoeiflddikihaaGreatDoor.Ver
end
section
namespace Go.Proofs.YtgoeiflddikihaaGreatDoor.Ver
set_option linter.unusedSimpArgs false
set_option linter.unusedVariables false
open Go.RowKit Go.Proofs.YtgoeiflddikihaaGreatDoor.Dig Go.Proofs.YtgoeiflddikihaaGreatDoorW.PrintWords Go.Proofs.YtgoeiflddikihaaGreatDoor.Mem
instance : RowC Tryz.prog 30 3 := ⟨⟨_, Tryz.underlying30, rfl⟩, by kernel_rfl⟩
instance : OneC Tryz.prog 2 := ⟨⟨_, Tryz.underlying2, rfl⟩, by kernel_rfl⟩
theorem Blks.strsAdd {w0 w w1 : World} {L : List Blk} (h : Blks w0 w L) (hb : Below w.heap.size w w1) {P : Value} {pp : List ByteArray} (hP : StrsAt 9 w1 w.heap.size P pp) : ∃ X, PreOk pp P X ∧ Blks w0 w1 (L ++ X) := by
  rcases hP with ⟨rfl, rfl⟩ | ⟨g, cap, cells, rest, rfl, h1, h2, h3⟩
  · exact ⟨[], Or.inl ⟨rfl, rfl, rfl⟩, by rw [List.append_nil]; exact h.call hb⟩
  · exact ⟨_, Or.inr ⟨g, cap, rest, rfl, rfl⟩, (h.add hb h1 h2 h3).perm (List.perm_append_comm (l₁ := [_]) (l₂ := L))⟩
def typS (k : Int) (t : ByteArray) : Int := if k = 0 then 0 else if k = 1 ∨ k = 2 then 3 else if (qSemB0 t.data.toList).isSome then 2 else 1
def svOf (t : ByteArray) : SV := match qSemB0 t.data.toList with
  | none => zV
  | some (ns, pre, mt) => ⟨(ns.getD 0 0 : Nat), (ns.getD 1 0 : Nat), (ns.getD 2 0 : Nat), mkB pre, mkB mt, t⟩
def cntOf (t : ByteArray) : Nat := match qSemB0 t.data.toList with
  | none => 0
  | some (ns, _, _) => ns.length
theorem sv_read (t : ByteArray) (h : (qSemB0 t.data.toList).isSome = true) : readV t = some (svOf t, cntOf t) := by
  rw [readV_eq, qReadB]
  unfold svOf cntOf
  cases hq : qSemB0 t.data.toList with
  | none => rw [hq] at h; cases h
  | some q => obtain ⟨ns, pre, mt⟩ := q; rfl
theorem read_yes (t : ByteArray) (ht : t.size ≤ 100000) (h : (qSemB0 t.data.toList).isSome = true) (w : World) : Calls Tryz.prog 34 #[.string t] w fun e w' => (∃ v, e = .returned (.tuple #[v, .bool true]) ∧ SemAt w' w.heap.size v (svOf t) (cntOf t)) ∧ Below w.heap.size w w' := by
  refine (read_sem t ht w).mono ?_
  intro e w' hE
  unfold svOf cntOf
  cases hq : qSemB0 t.data.toList with
  | none => rw [hq] at h; cases h
  | some q =>
    obtain ⟨ns, pre, mt⟩ := q
    rw [hq] at hE
    obtain ⟨⟨P, h1, h2⟩, h3⟩ := hE
    exact ⟨⟨_, h1, P, rfl, h2⟩, h3⟩
theorem read_no (t : ByteArray) (ht : t.size ≤ 100000) (h : (qSemB0 t.data.toList).isSome = false) (w : World) : Calls Tryz.prog 34 #[.string t] w (RdNo w) := by
  refine (read_sem t ht w).mono ?_
  intro e w' hE
  cases hq : qSemB0 t.data.toList with
  | none => rw [hq] at hE; exact hE
  | some q => rw [hq] at h; cases h
set_option maxRecDepth 20000 in
set_option maxHeartbeats 4000000 in
theorem type_any (k : Int) (t r : ByteArray) (hk : 0 ≤ k ∧ k ≤ 3) (ht : t.size ≤ 100000) (w : World) :
    Calls Tryz.prog 44 #[.agg #[.int .i64 k, .string t, .string r]] w fun e w' => e = .returned (.int .i64 (typS k t)) ∧ Below w.heap.size w w' := by
  have HM := Aside0.mk (Blks.start w)
  obtain rfl | rfl | rfl | rfl : k = 0 ∨ k = 1 ∨ k = 2 ∨ k = 3 := by omega
  · clear hk
    go_enter Tryz.func44, Tryz.ntmps44
    go_wp2_with (first | (refine m_box (by repeat (first | exact HM.out | apply Blks.drewN | apply Blks.drew | apply Blks.other)) (h := ?_); intro bb _ HN; clear HM; have HM := HN; clear HN) | (refine m_load1 (by repeat (first | exact HM.out | apply Blks.drewN | apply Blks.drew | apply Blks.other)) (h := ?_)))
    go_ret
    exact ⟨rfl, HM.out.bel⟩
  · clear hk
    go_enter Tryz.func44, Tryz.ntmps44
    go_wp2_with (first | (refine m_box (by repeat (first | exact HM.out | apply Blks.drewN | apply Blks.drew | apply Blks.other)) (h := ?_); intro bb _ HN; clear HM; have HM := HN; clear HN) | (refine m_load1 (by repeat (first | exact HM.out | apply Blks.drewN | apply Blks.drew | apply Blks.other)) (h := ?_)))
    go_ret
    exact ⟨rfl, HM.out.bel⟩
  · clear hk
    go_enter Tryz.func44, Tryz.ntmps44
    go_wp2_with (first | (refine m_box (by repeat (first | exact HM.out | apply Blks.drewN | apply Blks.drew | apply Blks.other)) (h := ?_); intro bb _ HN; clear HM; have HM := HN; clear HN) | (refine m_load1 (by repeat (first | exact HM.out | apply Blks.drewN | apply Blks.drew | apply Blks.other)) (h := ?_)))
    go_ret
    exact ⟨rfl, HM.out.bel⟩
  · clear hk
    cases hq : (qSemB0 t.data.toList).isSome with
    | false =>
      have e : typS 3 t = 1 := by unfold typS; rw [hq]; rfl
      rw [e]
      have HR := Lib.hid (fun W => read_no t ht hq W)
      clear e hq ht
      go_enter Tryz.func44, Tryz.ntmps44
      go_wp2_with (first | (refine m_box (by repeat (first | exact HM.out | apply Blks.drewN | apply Blks.drew | apply Blks.other)) (h := ?_); intro bb _ HN; clear HM; have HM := HN; clear HN) | (refine m_load1 (by repeat (first | exact HM.out | apply Blks.drewN | apply Blks.drew | apply Blks.other)) (h := ?_)) | (go_at_call 34; ((with_reducible refine (HR.out _).mono ?_); rintro e w2 ⟨rfl, hb⟩; have HN := Aside0.mk (Blks.call (by repeat (first | exact HM.out | apply Blks.drewN | apply Blks.drew | apply Blks.other)) hb); clear HM hb; have HM := HN; clear HN)) | (refine m_alloc (by repeat (first | exact HM.out | apply Blks.drewN | apply Blks.drew | apply Blks.other)) (h := ?_); intro bx _ HN; clear HM; have HM := HN; clear HN) | (refine m_store (by repeat (first | exact HM.out | apply Blks.drewN | apply Blks.drew | apply Blks.other)) (h := ?_); intro _ HN; clear HM; have HM := HN; clear HN))
      go_ret
      exact ⟨rfl, HM.out.bel⟩
    | true =>
      have e : typS 3 t = 2 := by unfold typS; rw [hq]; rfl
      rw [e]
      have HR := Lib.hid (fun W => read_yes t ht hq W)
      clear e hq ht
      go_enter Tryz.func44, Tryz.ntmps44
      go_wp2_with (first | (refine m_box (by repeat (first | exact HM.out | apply Blks.drewN | apply Blks.drew | apply Blks.other)) (h := ?_); intro bb _ HN; clear HM; have HM := HN; clear HN) | (refine m_load1 (by repeat (first | exact HM.out | apply Blks.drewN | apply Blks.drew | apply Blks.other)) (h := ?_)) | (go_at_call 34; ((with_reducible refine (HR.out _).mono ?_); rintro e w2 ⟨⟨v, rfl, P, rfl, hP⟩, hb⟩; have HO := Lib.hid (show P.oneCell' = true by obtain ⟨_, _, rfl⟩ := hP.val; rfl); obtain ⟨X, HX, HN⟩ := Blks.strsAdd (by repeat (first | exact HM.out | apply Blks.drewN | apply Blks.drew | apply Blks.other)) hb hP; simp only [List.cons_append, List.nil_append] at HN; clear HM hb hP; have HM := Aside0.mk HN; clear HN)) | (refine m_alloc (by repeat (first | exact HM.out | apply Blks.drewN | apply Blks.drew | apply Blks.other)) (h := ?_); intro bx _ HN; clear HM; have HM := HN; clear HN) | (refine m_store (by repeat (first | exact HM.out | apply Blks.drewN | apply Blks.drew | apply Blks.other)) (h1 := semOne HO.out) (h := ?_); intro _ HN; clear HM; have HM := HN; clear HN))
      go_ret
      exact ⟨rfl, HM.out.bel⟩
set_option maxRecDepth 20000 in
set_option maxHeartbeats 4000000 in
theorem versem_any (k : Int) (t r : ByteArray) (ht : t.size ≤ 100000) (h : (qSemB0 t.data.toList).isSome = true) (w : World) :
    Calls Tryz.prog 68 #[.agg #[.int .i64 k, .string t, .string r]] w fun e w' => (∃ v, e = .returned v ∧ SemAt w' w.heap.size v (svOf t) (cntOf t)) ∧ Below w.heap.size w w' := by
  have HM := Aside0.mk (Blks.start w)
  have HR := Lib.hid (fun W => read_yes t ht h W)
  clear h ht
  generalize svOf t = sv at *
  generalize cntOf t = ct at *
  go_enter Tryz.func68, Tryz.ntmps68
  go_wp2_with (first | (refine m_box (by repeat (first | exact HM.out | apply Blks.drewN | apply Blks.drew | apply Blks.other)) (h := ?_); intro bb _ HN; clear HM; have HM := HN; clear HN) | (refine m_load1 (by repeat (first | exact HM.out | apply Blks.drewN | apply Blks.drew | apply Blks.other)) (h := ?_)) | (go_at_call 34; ((with_reducible refine (HR.out _).mono ?_); rintro e w2 ⟨⟨v, rfl, P, rfl, hP⟩, hb⟩; have HO := Lib.hid (show P.oneCell' = true by obtain ⟨_, _, rfl⟩ := hP.val; rfl); obtain ⟨X, HX, HN⟩ := Blks.strsAdd (by repeat (first | exact HM.out | apply Blks.drewN | apply Blks.drew | apply Blks.other)) hb hP; simp only [List.cons_append, List.nil_append] at HN; clear HM hb hP; have HM := Aside0.mk HN; clear HN)) | (refine m_alloc (d := some 2) (by repeat (first | exact HM.out | apply Blks.drewN | apply Blks.drew | apply Blks.other)) (h := ?_); intro br _ HN; clear HM; have HM := HN; clear HN) | (refine m_alloc (by repeat (first | exact HM.out | apply Blks.drewN | apply Blks.drew | apply Blks.other)) (h := ?_); intro bx _ HN; clear HM; have HM := HN; clear HN) | (refine m_store (by repeat (first | exact HM.out | apply Blks.drewN | apply Blks.drew | apply Blks.other)) (h1 := semOne HO.out) (h := ?_); intro _ HN; clear HM; have HM := HN; clear HN) | (refine m_load (by repeat (first | exact HM.out | apply Blks.drewN | apply Blks.drew | apply Blks.other)) (h := ?_)))
  have k0 := Blks.cell HM.out (b := br) (o := 0) (by repeat (first | exact List.Mem.head _ | apply List.Mem.tail)) (by repeat (first | exact Rd.nil | apply Rd.here | apply Rd.skip)); have k1 := Blks.cell HM.out (b := br) (o := 1) (by repeat (first | exact List.Mem.head _ | apply List.Mem.tail)) (by repeat (first | exact Rd.nil | apply Rd.here | apply Rd.skip)); have k2 := Blks.cell HM.out (b := br) (o := 2) (by repeat (first | exact List.Mem.head _ | apply List.Mem.tail)) (by repeat (first | exact Rd.nil | apply Rd.here | apply Rd.skip)); have k3 := Blks.cell HM.out (b := br) (o := 3) (by repeat (first | exact List.Mem.head _ | apply List.Mem.tail)) (by repeat (first | exact Rd.nil | apply Rd.here | apply Rd.skip)); have k4 := Blks.cell HM.out (b := br) (o := 4) (by repeat (first | exact List.Mem.head _ | apply List.Mem.tail)) (by repeat (first | exact Rd.nil | apply Rd.here | apply Rd.skip)); have k5 := Blks.cell HM.out (b := br) (o := 5) (by repeat (first | exact List.Mem.head _ | apply List.Mem.tail)) (by repeat (first | exact Rd.nil | apply Rd.here | apply Rd.skip))
  refine bodyPost_ret (v := .agg #[.int .u64 sv.major, .int .u64 sv.minor, .int .u64 sv.patch, .int .i64 ct, P, .string sv.mt]) (by simp [results, Tryz.results68, go_sem, *]) rfl ⟨⟨_, rfl, P, rfl, HX.strs (Y := [_, _, _]) HM.out⟩, HM.out.bel⟩
def rankS (k : Int) (t : ByteArray) : Int := if typS k t = 0 then 3 else if typS k t = 1 then 2 else if typS k t = 2 then 0 else 1
theorem typS_val (k : Int) (t : ByteArray) : typS k t = 0 ∨ typS k t = 1 ∨ typS k t = 2 ∨ typS k t = 3 := by
  unfold typS; repeat' split
  all_goals simp
theorem rankSlice : Tryz.prog.builtSlice 3 4 [(0, .int .i64 3), (1, .int .i64 2), (2, .int .i64 0), (3, .int .i64 1)] = some #[.int .i64 3, .int .i64 2, .int .i64 0, .int .i64 1] := by kernel_rfl
set_option maxRecDepth 20000 in
set_option maxHeartbeats 4000000 in
theorem rank_any (k : Int) (t r : ByteArray) (hk : 0 ≤ k ∧ k ≤ 3) (ht : t.size ≤ 100000) (w : World) :
    Calls Tryz.prog 107 #[.agg #[.int .i64 k, .string t, .string r]] w fun e w' => e = .returned (.int .i64 (rankS k t)) ∧ Below w.heap.size w w' := by
  have HM := Aside0.mk (Blks.start w)
  have hT := fun W => type_any k t r hk ht W
  rcases typS_val k t with h | h | h | h
  · have hr : rankS k t = 3 := by unfold rankS; rw [h]; rfl
    rw [hr]
    simp only [h] at hT
    have HT := Lib.hid hT
    clear h hr hT hk ht
    go_enter Tryz.func107, Tryz.ntmps107
    go_wp2_with (first | (refine m_box (by repeat (first | exact HM.out | apply Blks.drewN | apply Blks.drew | apply Blks.other)) (h := ?_); intro bb _ HN; clear HM; have HM := HN; clear HN) | (refine m_load1 (by repeat (first | exact HM.out | apply Blks.drewN | apply Blks.drew | apply Blks.other)) (h := ?_)) | (go_at_call 44; ((with_reducible refine (HT.out _).mono ?_); rintro e w2 ⟨rfl, hb⟩; have HN := Aside0.mk (Blks.call (by repeat (first | exact HM.out | apply Blks.drewN | apply Blks.drew | apply Blks.other)) hb); clear HM hb; have HM := HN; clear HN)) | (refine m_slice (by exact Tryz.underlying217) (by rw [Array.toList_map]; exact rankSlice) (by repeat (first | exact HM.out | apply Blks.drewN | apply Blks.drew | apply Blks.other)) (h := ?_); intro bs _ HN; clear HM; have HM := HN; clear HN) | (refine m_load (by repeat (first | exact HM.out | apply Blks.drewN | apply Blks.drew | apply Blks.other)) (h := ?_)))
    go_ret
    exact ⟨rfl, HM.out.bel⟩
  · have hr : rankS k t = 2 := by unfold rankS; rw [h]; rfl
    rw [hr]
    simp only [h] at hT
    have HT := Lib.hid hT
    clear h hr hT hk ht
    go_enter Tryz.func107, Tryz.ntmps107
    go_wp2_with (first | (refine m_box (by repeat (first | exact HM.out | apply Blks.drewN | apply Blks.drew | apply Blks.other)) (h := ?_); intro bb _ HN; clear HM; have HM := HN; clear HN) | (refine m_load1 (by repeat (first | exact HM.out | apply Blks.drewN | apply Blks.drew | apply Blks.other)) (h := ?_)) | (go_at_call 44; ((with_reducible refine (HT.out _).mono ?_); rintro e w2 ⟨rfl, hb⟩; have HN := Aside0.mk (Blks.call (by repeat (first | exact HM.out | apply Blks.drewN | apply Blks.drew | apply Blks.other)) hb); clear HM hb; have HM := HN; clear HN)) | (refine m_slice (by exact Tryz.underlying217) (by rw [Array.toList_map]; exact rankSlice) (by repeat (first | exact HM.out | apply Blks.drewN | apply Blks.drew | apply Blks.other)) (h := ?_); intro bs _ HN; clear HM; have HM := HN; clear HN) | (refine m_load (by repeat (first | exact HM.out | apply Blks.drewN | apply Blks.drew | apply Blks.other)) (h := ?_)))
    go_ret
    exact ⟨rfl, HM.out.bel⟩
  · have hr : rankS k t = 0 := by unfold rankS; rw [h]; rfl
    rw [hr]
    simp only [h] at hT
    have HT := Lib.hid hT
    clear h hr hT hk ht
    go_enter Tryz.func107, Tryz.ntmps107
    go_wp2_with (first | (refine m_box (by repeat (first | exact HM.out | apply Blks.drewN | apply Blks.drew | apply Blks.other)) (h := ?_); intro bb _ HN; clear HM; have HM := HN; clear HN) | (refine m_load1 (by repeat (first | exact HM.out | apply Blks.drewN | apply Blks.drew | apply Blks.other)) (h := ?_)) | (go_at_call 44; ((with_reducible refine (HT.out _).mono ?_); rintro e w2 ⟨rfl, hb⟩; have HN := Aside0.mk (Blks.call (by repeat (first | exact HM.out | apply Blks.drewN | apply Blks.drew | apply Blks.other)) hb); clear HM hb; have HM := HN; clear HN)) | (refine m_slice (by exact Tryz.underlying217) (by rw [Array.toList_map]; exact rankSlice) (by repeat (first | exact HM.out | apply Blks.drewN | apply Blks.drew | apply Blks.other)) (h := ?_); intro bs _ HN; clear HM; have HM := HN; clear HN) | (refine m_load (by repeat (first | exact HM.out | apply Blks.drewN | apply Blks.drew | apply Blks.other)) (h := ?_)))
    go_ret
    exact ⟨rfl, HM.out.bel⟩
  · have hr : rankS k t = 1 := by unfold rankS; rw [h]; rfl
    rw [hr]
    simp only [h] at hT
    have HT := Lib.hid hT
    clear h hr hT hk ht
    go_enter Tryz.func107, Tryz.ntmps107
    go_wp2_with (first | (refine m_box (by repeat (first | exact HM.out | apply Blks.drewN | apply Blks.drew | apply Blks.other)) (h := ?_); intro bb _ HN; clear HM; have HM := HN; clear HN) | (refine m_load1 (by repeat (first | exact HM.out | apply Blks.drewN | apply Blks.drew | apply Blks.other)) (h := ?_)) | (go_at_call 44; ((with_reducible refine (HT.out _).mono ?_); rintro e w2 ⟨rfl, hb⟩; have HN := Aside0.mk (Blks.call (by repeat (first | exact HM.out | apply Blks.drewN | apply Blks.drew | apply Blks.other)) hb); clear HM hb; have HM := HN; clear HN)) | (refine m_slice (by exact Tryz.underlying217) (by rw [Array.toList_map]; exact rankSlice) (by repeat (first | exact HM.out | apply Blks.drewN | apply Blks.drew | apply Blks.other)) (h := ?_); intro bs _ HN; clear HM; have HM := HN; clear HN) | (refine m_load (by repeat (first | exact HM.out | apply Blks.drewN | apply Blks.drew | apply Blks.other)) (h := ?_)))
    go_ret
    exact ⟨rfl, HM.out.bel⟩
end Go.Proofs.YtgoeiflddikihaaGreatDoor.Ver
end
