/- Merged by program out of: Sorted. -/
import Derived.Test.YtgoeiflddikihaaGreatDoorCsgM27
import Derived.Test.YtgoeiflddikihaaGreatDoorCsgM28
import Derived.Laws.OwnMore
section
namespace Go.Proofs.YtgoeiflddikihaaGreatDoor.Ver
open Go.RowKit Go.Proofs.YtgoeiflddikihaaGreatDoor.Dig Go.Proofs.YtgoeiflddikihaaGreatDoorW.PrintWords Go.Sort Go.Proofs.YtgoeiflddikihaaGreatDoor.Srt Go.Proofs.YtgoeiflddikihaaGreatDoor.Ord
structure VD where
  k : Int
  t : ByteArray
  r : ByteArray
  ht : t.size ≤ 2147483647
def VD.cells (x : VD) : List Value := [.int .i64 x.k, .string x.t, .string x.r]
def VD.ver (x : VD) : VS := ⟨verV x.k x.t x.r, verV_fine x.k x.r x.ht⟩
structure AtV (w : World) (v : Value) (D : List VD) : Prop where
  form : ∃ a c, v = .slice a D.length c ∧ (0 < D.length → ∃ b o, a = some ⟨b, o, none⟩ ∧ ∀ i (h : i < D.length), w.cell? ⟨b, o + i * 3, none⟩ = some (.int .i64 D[i].k) ∧ w.cell? ⟨b, o + i * 3 + 1, none⟩ = some (.string D[i].t) ∧ w.cell? ⟨b, o + i * 3 + 2, none⟩ = some (.string D[i].r))
def encsTo (D : List VD) (k : Nat) : List Value := (D.take k).map fun x => encV x.ver
theorem encsTo_next (D : List VD) (k : Nat) (h : k < D.length) : encsTo D k ++ [encV D[k].ver] = encsTo D (k + 1) := by
  unfold encsTo; rw [List.take_succ_eq_append_getElem h, List.map_append]; rfl
theorem info114 : (Tryz.prog.info? 114).map (fun i => (i.zero, i.size, i.bytes)) = some (some .nilIface, 1, 16) := by kernel_rfl
theorem infoV : (Tryz.prog.info? 27).map (fun i => (i.zero, i.size, i.bytes)) = some (some (.agg #[.int .i64 0, .string ⟨#[]⟩, .string ⟨#[]⟩]), 3, 40) := by kernel_rfl
theorem backV_form (a : Vers) : ∃ k t r, backV a = .agg #[.int .i64 k, .string t, .string r] := by
  rcases a with s | u | ⟨u, r⟩ <;> exact ⟨_, _, _, rfl⟩
theorem back_any (a : VS) (w : World) : Calls Tryz.prog 78 #[encV a] w fun e w' => e = .returned (backV a.1) ∧ Below w.heap.size w w' := by
  obtain ⟨a, hf⟩ := a
  show Calls _ _ #[Vers.val a] _ _
  have ho := hf.2
  rcases a with s | (⟨n, d⟩ | n | v) | ⟨(⟨n, d⟩ | n | v), q⟩
  · exact back_rev s w
  · cases d
    · exact back_branchF n w
    · exact back_branchT n w
  · exact back_plain n w
  · exact back_sem v (ho v rfl) w
  · cases d
    · exact back_pbranchF n q w
    · exact back_pbranchT n q w
  · exact back_pplain n q w
  · exact back_psem v (ho v rfl) q w
def backsTo (d : Array VS) (k : Nat) : List Value := (d.toList.take k).flatMap fun a => (backV a.1).cells.toList
theorem backsTo_next (d : Array VS) (k : Nat) (h : k < d.size) : backsTo d k ++ (backV d[k]!.1).cells.toList = backsTo d (k + 1) := by
  unfold backsTo
  rw [List.take_succ_eq_append_getElem (by simpa using h), List.flatMap_append, getElem!_pos d k h]
  simp
theorem backsTo_all (d : Array VS) {n : Nat} (h : d.size = n) : backsTo d n = d.toList.flatMap fun a => (backV a.1).cells.toList := by
  unfold backsTo; rw [List.take_of_length_le (by simp [h])]
theorem cells_new (w : World) (cs : Array Value) (t : TypeId) : ∀ (j : Nat) (u : Value), cs.toList[j]? = some u → (w.alloc (.cells cs t)).cell? ((⟨w.heap.size, 0, none⟩ : Addr).add j) = some u := by
  intro j u h
  have e : ((⟨w.heap.size, 0, none⟩ : Addr).add j) = ⟨w.heap.size, j, none⟩ := by unfold Addr.add; split <;> simp_all
  rw [e, blk_cell (alloc_at w _) j, ← Array.getElem?_toList]
  exact h
def SortedEnd (down : Bool) (d : Array VS) (w : World) (e : Ending) (w' : World) : Prop :=
  ∃ (x : Value) (d' : Array VS), e = .returned x ∧ PermIn 0 d.size d d' ∧ SortedIn (ltV down) 0 d.size d' ∧ w'.ownsRow w.heap.size 27 3 x d.size (d'.toList.flatMap fun a => (backV a.1).cells.toList) ∧ Below w.heap.size w w'
set_option maxRecDepth 20000 in
set_option maxHeartbeats 4000000 in
theorem sorted_up (D : List VD) (hn : 1 ≤ D.length ∧ D.length ≤ 12) (v : Value) (w : World) (hv : Vars w) (hA : AtV w v D) :
    Calls Tryz.prog 37 #[v, .bool false, .bool false] w (SortedEnd false (D.map VD.ver).toArray w) := by
  obtain ⟨a, c, rfl, hc⟩ := hA.form
  obtain ⟨b, o, rfl, hcell⟩ := hc (by omega)
  obtain ⟨i0, hi, hz0, hz1, hz2⟩ := info_parts info114
  have HB := Aside0.mk (Below.refl w.heap.size w)
  have hblt : b < w.heap.size := World.block_lt_of_cell? w ⟨b, o + 0 * 3, none⟩ (hcell 0 (by omega)).1
  have HC := Lib.hid (fun W (hb : Below w.heap.size w W) i (h : i < D.length) => (⟨(hb.cell (p := ⟨b, o + i * 3, none⟩) hblt).trans (hcell i h).1, (hb.cell (p := ⟨b, o + i * 3 + 1, none⟩) hblt).trans (hcell i h).2.1, (hb.cell (p := ⟨b, o + i * 3 + 2, none⟩) hblt).trans (hcell i h).2.2⟩ : W.cell? ⟨b, o + i * 3, none⟩ = some (.int .i64 D[i].k) ∧ W.cell? ⟨b, o + i * 3 + 1, none⟩ = some (.string D[i].t) ∧ W.cell? ⟨b, o + i * 3 + 2, none⟩ = some (.string D[i].r)))
  have HVER := Lib.hid (fun (x : VD) W (hb : Below w.heap.size w W) => ver_any x.k x.t x.r x.ht W (hv.below hb))
  clear hcell hc hA hv
  obtain ⟨hn1, hn2⟩ := hn
  obtain ⟨n, hN⟩ : ∃ n, D.length = n := ⟨_, rfl⟩
  have HN := Lib.hid hN
  rw [hN] at hn1 hn2 ⊢
  have HDS := Lib.hid (show (D.map VD.ver).toArray.size = n by simp [hN])
  have HDJ := Lib.hid (fun j (h : j < n) => (show (encsTo D n)[j]? = some (encV (D.map VD.ver).toArray[j]!) by
    unfold encsTo
    rw [List.take_of_length_le (by omega), getElem!_pos _ j (by simp; omega)]
    simp [List.getElem?_map, List.getElem?_eq_getElem (show j < D.length by omega)]))
  generalize (D.map VD.ver).toArray = d at *
  clear hN
  go_enter Tryz.func37, Tryz.ntmps37
  go_wp2_with fail
  go_loopw [15, 59] (fun v15 v59 wr => ∃ k : Nat, v59 = .int .i64 k ∧ k ≤ n ∧ Aside0 (wr.ownsRow w.heap.size 114 1 v15 k (encsTo D k)) ∧ Aside0 (Below w.heap.size w wr)) (fun _ v59 _ => n - (intOf v59).toNat)
  case atStart => exact ⟨0, rfl, by omega, ⟨World.ownsRow_nil _ _ _ _⟩, HB⟩
  case round =>
    obtain ⟨k, rfl, hk, HO, HW⟩ := hrel
    by_cases hlt : k < n
    · have d1 : decide (k < n) = true := decide_eq_true hlt
      have HLT := Lib.hid (show k < D.length by rw [HN.out]; exact hlt)
      obtain ⟨c0, c1, c2⟩ := HC.out wr HW.out k HLT.out
      have hv' : ∀ W, Below w.heap.size w W → Calls Tryz.prog 66 #[.agg #[.int .i64 D[k].k, .string D[k].t, .string D[k].r]] W fun e w' => e = .returned (encV D[k].ver) ∧ Below W.heap.size W w' := HVER.out D[k]
      obtain ⟨ty, vy, hy⟩ : ∃ t v, encV D[k].ver = .iface t v := ⟨_, _, rfl⟩
      rw [hy] at hv'
      have HY : Hid (encsTo D k ++ [.iface ty vy] = encsTo D (k + 1)) := Lib.hid (by rw [← hy]; exact encsTo_next D k HLT.out)
      clear hy
      have HV := Lib.hid hv'
      clear hv'
      generalize D[k].k = vk at *
      generalize D[k].t = vt at *
      generalize D[k].r = vr at *
      go_wp2_with (first
        | (go_at_call 66; ((with_reducible refine (HV.out _ (by repeat (first | exact HW.out | apply below_alloc | apply pw_below_drewN))).mono ?_); rintro e w5 ⟨rfl, hb⟩; have HO5 := Aside0.mk (pw_own_below (HO.out.alloc _) hb); have HW5 := Aside0.mk (below_trans (by repeat (first | exact HW.out | apply below_alloc | apply pw_below_drewN)) hb); clear hb))
        | (at_builtin; (refine wpList_append_own _ rfl _ _ 143 rfl w.heap.size 114 i0 .nilIface 1 16 Tryz.underlying143 hi hz0 hz1 hz2 rfl (by decide) _ k _ rfl (HO5.out.alloc _) ⟨w5.heap.size, 0, none⟩ 1 1 [.iface ty vy] rfl rfl ?c1 ?c2 ?c3 ?c4 ?c5 ?_)))
      case c1 => exact cell_one_new _ _ _
      case c2 => intro u hu; simp at hu; subst hu; rfl
      case c3 => unfold maxLen; omega
      case c4 => omega
      case c5 => exact (below_alloc HW5.out _).size
      intro v' w6 ho6 hg6 _
      have HO6 := Aside0.mk (show w6.ownsRow w.heap.size 114 1 v' (k + 1) (encsTo D (k + 1)) by rw [← HY.out]; exact ho6)
      have HW6 := Aside0.mk (pw_below_grown (below_alloc HW5.out (.cells #[.iface ty vy] 114)) _ (below_alloc HW5.out _).size hg6 (fun kk hk => (HO5.out.lt kk hk).1))
      clear ho6 hg6
      go_wp2_with fail
      go_roundw
      case rel => exact ⟨k + 1, by go_num, by omega, HO6, HW6⟩
      case measure => simp [intOf]; omega
    · have d1 : decide (k < n) = false := decide_eq_false hlt
      obtain rfl : k = n := by omega
      clear hlt hk
      obtain ⟨g, cap, rfl, hg1, hg2⟩ := HO.out.form (by omega)
      have hH : Holds encV wr g 0 d := by
        intro j hj
        rw [HDS.out] at hj
        rw [Nat.zero_add]
        exact ⟨by rw [HO.out.cellAt j (by omega)]; exact HDJ.out j hj, HO.out.frozenAt j⟩
      have HSRT := Lib.hid (sortAll_up g 0 k cap hn1 hn2 d HDS.out wr hH hg2)
      have HG := Lib.hid hg1
      clear hH hg1 hg2
      go_wp2_with (first
        | (go_at_call 80; ((with_reducible refine HSRT.out.mono ?_); rintro e w7 ⟨rfl, d', hpi, hso, hsi⟩; refine Hid.out ?_)))
      have HPI := Lib.hid hpi
      have HSO := Lib.hid hso
      have HSI := Aside0.mk hsi
      have HW7 := Aside0.mk (pw_below_grown HW.out (some g) HW.out.size hsi.gr (fun kk hk => by injection hk with hk; subst hk; exact HG.out))
      have HD7 := Lib.hid (show d'.size = k by rw [hpi.1]; exact HDS.out)
      clear hpi hso hsi
      obtain ⟨iv, hvi, hvz0, hvz1, hvz2⟩ := info_parts infoV
      refine Lib.hid ?_
      go_wp2_with fail
      go_loopw [7, 76] (fun v7 v76 wx => ∃ q : Nat, v76 = .int .i64 q ∧ q ≤ k ∧ Aside0 (wx.ownsRow w7.heap.size 27 3 v7 q (backsTo d' q)) ∧ Aside0 (Below w7.heap.size w7 wx)) (fun _ v76 _ => k - (intOf v76).toNat)
      case atStart => exact ⟨0, rfl, by omega, ⟨World.ownsRow_nil _ _ _ _⟩, ⟨Below.refl _ _⟩⟩
      case round =>
        obtain ⟨q, rfl, hq, HP, HX⟩ := hrel
        by_cases hlt : q < k
        · have e1 : decide (q < k) = true := decide_eq_true hlt
          have hcl : wr.cell? ⟨g, q, none⟩ = some (encV d'[q]!) := by
            have h1 := (HSI.out.holds q (by rw [HD7.out]; exact hlt)).1
            rw [Nat.zero_add] at h1
            exact (HX.out.cell (p := ⟨g, q, none⟩) (World.block_lt_of_cell? _ _ h1)).trans h1
          have hb' := back_any d'[q]!
          obtain ⟨vk, vt, vr, hbf⟩ := backV_form d'[q]!.1
          rw [hbf] at hb'
          have HY : Hid (backsTo d' q ++ [.int .i64 vk, .string vt, .string vr] = backsTo d' (q + 1)) := Lib.hid (by rw [← backsTo_next d' q (by rw [HD7.out]; exact hlt), hbf]; rfl)
          have HBK := Lib.hid hb'
          clear hb' hbf
          generalize encV d'[q]! = ev at *
          go_wp2_with (first
            | (go_at_call 78; ((with_reducible refine (HBK.out _).mono ?_); rintro e w8 ⟨rfl, hb⟩; have HP8 := Aside0.mk (pw_own_below HP.out hb); have HX8 := Aside0.mk (below_trans HX.out hb); clear hb))
            | (at_builtin; (refine wpList_append_own _ rfl _ _ 23 rfl w7.heap.size 27 iv (.agg #[.int .i64 0, .string ⟨#[]⟩, .string ⟨#[]⟩]) 3 40 Tryz.underlying23 hvi hvz0 hvz1 hvz2 rfl (by decide) _ q _ rfl (HP8.out.alloc _) ⟨w8.heap.size, 0, none⟩ 1 1 [.int .i64 vk, .string vt, .string vr] rfl rfl ?c1 ?c2 ?c3 ?c4 ?c5 ?_)))
          case c1 => exact cells_new _ #[.int .i64 vk, .string vt, .string vr] _
          case c2 => intro u hu; simp at hu; rcases hu with rfl | rfl | rfl <;> rfl
          case c3 => unfold maxLen; omega
          case c4 => omega
          case c5 => exact (below_alloc HX8.out _).size
          intro v' w9 ho9 hg9 _
          have HP9 := Aside0.mk (show w9.ownsRow w7.heap.size 27 3 v' (q + 1) (backsTo d' (q + 1)) by rw [← HY.out]; exact ho9)
          have HX9 := Aside0.mk (pw_below_grown (below_alloc HX8.out (.cells #[.int .i64 vk, .string vt, .string vr] 27)) _ (below_alloc HX8.out _).size hg9 (fun kk hk => (HP8.out.lt kk hk).1))
          clear ho9 hg9
          go_wp2_with fail
          go_roundw
          case rel => exact ⟨q + 1, by go_num, by omega, HP9, HX9⟩
          case measure => simp [intOf]; omega
        · have e1 : decide (q < k) = false := decide_eq_false hlt
          obtain rfl : q = k := by omega
          clear hlt hq
          go_wp2_with fail
          go_ret
          refine ⟨_, d', rfl, by rw [HDS.out]; exact HPI.out, by rw [HDS.out]; exact HSO.out, ?_, below_trans HW7.out HX.out⟩
          rw [HDS.out, ← backsTo_all d' HD7.out]
          exact own_less HP.out HW7.out.size
end Go.Proofs.YtgoeiflddikihaaGreatDoor.Ver
end
