/- Merged by program out of: Sorter2, Sorted, SortedP. -/
import Derived.Test.YtgoeiflddikihaaGreatDoorCpM32
import Derived.Test.YtgoeiflddikihaaGreatDoorCpM33
import Derived.Test.YtgoeiflddikihaaGreatDoorCpM34
import Derived.Laws.OwnMore
section
namespace Go.Proofs.YtgoeiflddikihaaGreatDoor.Ver
open Go.RowKit Go.Proofs.YtgoeiflddikihaaGreatDoorW.PrintWords Go.Sort Go.Proofs.YtgoeiflddikihaaGreatDoor.Srt Go.Proofs.YtgoeiflddikihaaGreatDoor.Ord
theorem sortsW_pu (blk off n cap : Nat) (h2 : 2 ≤ n) (hn : n < 50) (d : Array VS) (hd : d.size = n) (w : World) (hH : Holds encV w blk off d) (hb : blk < w.heap.size) :
    Calls Tryz.prog 77 #[.slice (some ⟨blk, off, none⟩) n cap] w fun e w' => e = .returned (.tuple #[]) ∧ ∃ d', PermIn 0 n d d' ∧ SortedIn (ltV false) 0 n d' ∧ SI encV w blk off d' w' := by
  have HS := Lib.hid (sort_any (meth_pu _ n cap) encV (ltV false) (swo_ltV false) w blk off n (less_pu w blk off n cap) (fun w' => swap_pu w' blk off n cap) h2 hn (fun W => lenN_pu _ n cap W) d hd hH hb)
  clear hn h2 hd hH hb
  go_enter Tryz.func77, Tryz.ntmps77
  go_wp2_with (go_at_call 102; ((with_reducible refine HS.out.mono ?_); rintro e w5 ⟨rfl, hs5⟩; have HS5 := Aside0.mk hs5; clear hs5))
  go_end0
  exact ⟨rfl, HS5.out⟩
theorem sortW_pu (blk off n cap : Nat) (h1 : 1 ≤ n) (hn : n < 50) (d : Array VS) (hd : d.size = n) (w : World) (hH : Holds encV w blk off d) (hb : blk < w.heap.size) :
    Calls Tryz.prog 77 #[.slice (some ⟨blk, off, none⟩) n cap] w fun e w' => e = .returned (.tuple #[]) ∧ ∃ d', PermIn 0 n d d' ∧ SortedIn (ltV false) 0 n d' ∧ SI encV w blk off d' w' := by
  by_cases h2 : 2 ≤ n
  · exact sortsW_pu blk off n cap h2 hn d hd w hH hb
  · refine (sorts0_pu _ n cap (by omega) w).mono fun _ _ ⟨he, hd0⟩ => ⟨he, d, permIn_refl d 0 n, fun i j _ h3 h4 => by omega, ?_⟩
    obtain ⟨q, rfl⟩ := hd0.out
    exact (SI.mk (World.grownBy.refl w (some blk)) hH hb).drewN q
theorem sortsW_pd (blk off n cap : Nat) (h2 : 2 ≤ n) (hn : n < 50) (d : Array VS) (hd : d.size = n) (w : World) (hH : Holds encV w blk off d) (hb : blk < w.heap.size) :
    Calls Tryz.prog 76 #[.slice (some ⟨blk, off, none⟩) n cap] w fun e w' => e = .returned (.tuple #[]) ∧ ∃ d', PermIn 0 n d d' ∧ SortedIn (ltV true) 0 n d' ∧ SI encV w blk off d' w' := by
  have HS := Lib.hid (sort_any (meth_pd _ n cap) encV (ltV true) (swo_ltV true) w blk off n (less_pd w blk off n cap) (fun w' => swap_pd w' blk off n cap) h2 hn (fun W => lenN_pd _ n cap W) d hd hH hb)
  clear hn h2 hd hH hb
  go_enter Tryz.func76, Tryz.ntmps76
  go_wp2_with (go_at_call 102; ((with_reducible refine HS.out.mono ?_); rintro e w5 ⟨rfl, hs5⟩; have HS5 := Aside0.mk hs5; clear hs5))
  go_end0
  exact ⟨rfl, HS5.out⟩
theorem sortW_pd (blk off n cap : Nat) (h1 : 1 ≤ n) (hn : n < 50) (d : Array VS) (hd : d.size = n) (w : World) (hH : Holds encV w blk off d) (hb : blk < w.heap.size) :
    Calls Tryz.prog 76 #[.slice (some ⟨blk, off, none⟩) n cap] w fun e w' => e = .returned (.tuple #[]) ∧ ∃ d', PermIn 0 n d d' ∧ SortedIn (ltV true) 0 n d' ∧ SI encV w blk off d' w' := by
  by_cases h2 : 2 ≤ n
  · exact sortsW_pd blk off n cap h2 hn d hd w hH hb
  · refine (sorts0_pd _ n cap (by omega) w).mono fun _ _ ⟨he, hd0⟩ => ⟨he, d, permIn_refl d 0 n, fun i j _ h3 h4 => by omega, ?_⟩
    obtain ⟨q, rfl⟩ := hd0.out
    exact (SI.mk (World.grownBy.refl w (some blk)) hH hb).drewN q
end Go.Proofs.YtgoeiflddikihaaGreatDoor.Ver
end
section
namespace Go.Proofs.YtgoeiflddikihaaGreatDoor.Ver
open Go.RowKit Go.Proofs.YtgoeiflddikihaaGreatDoor.Dig Go.Proofs.YtgoeiflddikihaaGreatDoorW.PrintWords Go.Sort Go.Proofs.YtgoeiflddikihaaGreatDoor.Srt Go.Proofs.YtgoeiflddikihaaGreatDoor.Ord
structure VD where
  k : Int
  t : ByteArray
  r : ByteArray
  ht : t.size ≤ 2147483647
def VD.cells (x : VD) : List Value := [.int .i64 x.k, .string x.t, .string x.r]
def VD.ver (x : VD) : VS := ⟨verV x.k x.t x.r, verV_fine x.k x.r x.ht⟩
structure AtV (w : World) (v : Value) (D : List VD) : Prop where
  form : ∃ a c, v = .slice a D.length c ∧ (0 < D.length → ∃ b o, a = some ⟨b, o, none⟩ ∧ ∀ i (h : i < D.length), w.cell? ⟨b, o + i * 3, none⟩ = some (.int .i64 D[i].k) ∧ w.cell? ⟨b, o + i * 3 + 1, none⟩ = some (.string D[i].t) ∧ w.cell? ⟨b, o + i * 3 + 2, none⟩ = some (.string D[i].r))
def encsTo (D : List VD) (k : Nat) : List Value := (D.take k).map fun x => encV x.ver
theorem encsTo_next (D : List VD) (k : Nat) (h : k < D.length) : encsTo D k ++ [encV D[k].ver] = encsTo D (k + 1) := by
  unfold encsTo; rw [List.take_succ_eq_append_getElem h, List.map_append]; rfl
theorem info114 : (Tryz.prog.info? 114).map (fun i => (i.zero, i.size, i.bytes)) = some (some .nilIface, 1, 16) := by kernel_rfl
theorem infoV : (Tryz.prog.info? 27).map (fun i => (i.zero, i.size, i.bytes)) = some (some (.agg #[.int .i64 0, .string ⟨#[]⟩, .string ⟨#[]⟩]), 3, 40) := by kernel_rfl
theorem backV_form (a : Vers) : ∃ k t r, backV a = .agg #[.int .i64 k, .string t, .string r] := by
  rcases a with s | u | ⟨u, r⟩ <;> exact ⟨_, _, _, rfl⟩
theorem back_any (a : VS) (w : World) : Calls Tryz.prog 78 #[encV a] w fun e w' => e = .returned (backV a.1) ∧ Below w.heap.size w w' := by
  obtain ⟨a, hf⟩ := a
  show Calls _ _ #[Vers.val a] _ _
  have ho := hf.2
  rcases a with s | (⟨n, d⟩ | n | v) | ⟨(⟨n, d⟩ | n | v), q⟩
  · exact back_rev s w
  · cases d
    · exact back_branchF n w
    · exact back_branchT n w
  · exact back_plain n w
  · exact back_sem v (ho v rfl) w
  · cases d
    · exact back_pbranchF n q w
    · exact back_pbranchT n q w
  · exact back_pplain n q w
  · exact back_psem v (ho v rfl) q w
def backsTo (d : Array VS) (k : Nat) : List Value := (d.toList.take k).flatMap fun a => (backV a.1).cells.toList
theorem backsTo_next (d : Array VS) (k : Nat) (h : k < d.size) : backsTo d k ++ (backV d[k]!.1).cells.toList = backsTo d (k + 1) := by
  unfold backsTo
  rw [List.take_succ_eq_append_getElem (by simpa using h), List.flatMap_append, getElem!_pos d k h]
  simp
theorem backsTo_all (d : Array VS) {n : Nat} (h : d.size = n) : backsTo d n = d.toList.flatMap fun a => (backV a.1).cells.toList := by
  unfold backsTo; rw [List.take_of_length_le (by simp [h])]
theorem cells_new (w : World) (cs : Array Value) (t : TypeId) : ∀ (j : Nat) (u : Value), cs.toList[j]? = some u → (w.alloc (.cells cs t)).cell? ((⟨w.heap.size, 0, none⟩ : Addr).add j) = some u := by
  intro j u h
  have e : ((⟨w.heap.size, 0, none⟩ : Addr).add j) = ⟨w.heap.size, j, none⟩ := by unfold Addr.add; split <;> simp_all
  rw [e, blk_cell (alloc_at w _) j, ← Array.getElem?_toList]
  exact h
def SortedEnd (down : Bool) (d : Array VS) (w : World) (e : Ending) (w' : World) : Prop :=
  ∃ (x : Value) (d' : Array VS), e = .returned x ∧ PermIn 0 d.size d d' ∧ SortedIn (ltV down) 0 d.size d' ∧ w'.ownsRow w.heap.size 27 3 x d.size (d'.toList.flatMap fun a => (backV a.1).cells.toList) ∧ Below w.heap.size w w'
set_option maxRecDepth 20000 in
set_option maxHeartbeats 4000000 in
theorem sorted_up (D : List VD) (hn : 1 ≤ D.length ∧ D.length ≤ 12) (v : Value) (w : World) (hv : Vars w) (hA : AtV w v D) :
    Calls Tryz.prog 37 #[v, .bool false, .bool false] w (SortedEnd false (D.map VD.ver).toArray w) := by
  obtain ⟨a, c, rfl, hc⟩ := hA.form
  obtain ⟨b, o, rfl, hcell⟩ := hc (by omega)
  obtain ⟨i0, hi, hz0, hz1, hz2⟩ := info_parts info114
  have HB := Aside0.mk (Below.refl w.heap.size w)
  have hblt : b < w.heap.size := World.block_lt_of_cell? w ⟨b, o + 0 * 3, none⟩ (hcell 0 (by omega)).1
  have HC := Lib.hid (fun W (hb : Below w.heap.size w W) i (h : i < D.length) => (⟨(hb.cell (p := ⟨b, o + i * 3, none⟩) hblt).trans (hcell i h).1, (hb.cell (p := ⟨b, o + i * 3 + 1, none⟩) hblt).trans (hcell i h).2.1, (hb.cell (p := ⟨b, o + i * 3 + 2, none⟩) hblt).trans (hcell i h).2.2⟩ : W.cell? ⟨b, o + i * 3, none⟩ = some (.int .i64 D[i].k) ∧ W.cell? ⟨b, o + i * 3 + 1, none⟩ = some (.string D[i].t) ∧ W.cell? ⟨b, o + i * 3 + 2, none⟩ = some (.string D[i].r)))
  have HVER := Lib.hid (fun (x : VD) W (hb : Below w.heap.size w W) => ver_any x.k x.t x.r x.ht W (hv.below hb))
  clear hcell hc hA hv
  obtain ⟨hn1, hn2⟩ := hn
  obtain ⟨n, hN⟩ : ∃ n, D.length = n := ⟨_, rfl⟩
  have HN := Lib.hid hN
  rw [hN] at hn1 hn2 ⊢
  have HDS := Lib.hid (show (D.map VD.ver).toArray.size = n by simp [hN])
  have HDJ := Lib.hid (fun j (h : j < n) => (show (encsTo D n)[j]? = some (encV (D.map VD.ver).toArray[j]!) by
    unfold encsTo
    rw [List.take_of_length_le (by omega), getElem!_pos _ j (by simp; omega)]
    simp [List.getElem?_map, List.getElem?_eq_getElem (show j < D.length by omega)]))
  generalize (D.map VD.ver).toArray = d at *
  clear hN
  go_enter Tryz.func37, Tryz.ntmps37
  go_wp2_with fail
  go_loopw [15, 59] (fun v15 v59 wr => ∃ k : Nat, v59 = .int .i64 k ∧ k ≤ n ∧ Aside0 (wr.ownsRow w.heap.size 114 1 v15 k (encsTo D k)) ∧ Aside0 (Below w.heap.size w wr)) (fun _ v59 _ => n - (intOf v59).toNat)
  case atStart => exact ⟨0, rfl, by omega, ⟨World.ownsRow_nil _ _ _ _⟩, HB⟩
  case round =>
    obtain ⟨k, rfl, hk, HO, HW⟩ := hrel
    by_cases hlt : k < n
    · have d1 : decide (k < n) = true := decide_eq_true hlt
      have HLT := Lib.hid (show k < D.length by rw [HN.out]; exact hlt)
      obtain ⟨c0, c1, c2⟩ := HC.out wr HW.out k HLT.out
      have hv' : ∀ W, Below w.heap.size w W → Calls Tryz.prog 66 #[.agg #[.int .i64 D[k].k, .string D[k].t, .string D[k].r]] W fun e w' => e = .returned (encV D[k].ver) ∧ Below W.heap.size W w' := HVER.out D[k]
      obtain ⟨ty, vy, hy⟩ : ∃ t v, encV D[k].ver = .iface t v := ⟨_, _, rfl⟩
      rw [hy] at hv'
      have HY : Hid (encsTo D k ++ [.iface ty vy] = encsTo D (k + 1)) := Lib.hid (by rw [← hy]; exact encsTo_next D k HLT.out)
      clear hy
      have HV := Lib.hid hv'
      clear hv'
      generalize D[k].k = vk at *
      generalize D[k].t = vt at *
      generalize D[k].r = vr at *
      go_wp2_with (first
        | (go_at_call 66; ((with_reducible refine (HV.out _ (by repeat (first | exact HW.out | apply below_alloc | apply pw_below_drewN))).mono ?_); rintro e w5 ⟨rfl, hb⟩; have HO5 := Aside0.mk (pw_own_below (HO.out.alloc _) hb); have HW5 := Aside0.mk (below_trans (by repeat (first | exact HW.out | apply below_alloc | apply pw_below_drewN)) hb); clear hb))
        | (at_builtin; (refine wpList_append_own _ rfl _ _ 143 rfl w.heap.size 114 i0 .nilIface 1 16 Tryz.underlying143 hi hz0 hz1 hz2 rfl (by decide) _ k _ rfl (HO5.out.alloc _) ⟨w5.heap.size, 0, none⟩ 1 1 [.iface ty vy] rfl rfl ?c1 ?c2 ?c3 ?c4 ?c5 ?_)))
      case c1 => exact cell_one_new _ _ _
      case c2 => intro u hu; simp at hu; subst hu; rfl
      case c3 => unfold maxLen; omega
      case c4 => omega
      case c5 => exact (below_alloc HW5.out _).size
      intro v' w6 ho6 hg6 _
      have HO6 := Aside0.mk (show w6.ownsRow w.heap.size 114 1 v' (k + 1) (encsTo D (k + 1)) by rw [← HY.out]; exact ho6)
      have HW6 := Aside0.mk (pw_below_grown (below_alloc HW5.out (.cells #[.iface ty vy] 114)) _ (below_alloc HW5.out _).size hg6 (fun kk hk => (HO5.out.lt kk hk).1))
      clear ho6 hg6
      go_wp2_with fail
      go_roundw
      case rel => exact ⟨k + 1, by go_num, by omega, HO6, HW6⟩
      case measure => simp [intOf]; omega
    · have d1 : decide (k < n) = false := decide_eq_false hlt
      obtain rfl : k = n := by omega
      clear hlt hk
      obtain ⟨g, cap, rfl, hg1, hg2⟩ := HO.out.form (by omega)
      have hH : Holds encV wr g 0 d := by
        intro j hj
        rw [HDS.out] at hj
        rw [Nat.zero_add]
        exact ⟨by rw [HO.out.cellAt j (by omega)]; exact HDJ.out j hj, HO.out.frozenAt j⟩
      have HSRT := Lib.hid (sortAll_up g 0 k cap hn1 hn2 d HDS.out wr hH hg2)
      have HG := Lib.hid hg1
      clear hH hg1 hg2
      go_wp2_with (first
        | (go_at_call 80; ((with_reducible refine HSRT.out.mono ?_); rintro e w7 ⟨rfl, d', hpi, hso, hsi⟩; refine Hid.out ?_)))
      have HPI := Lib.hid hpi
      have HSO := Lib.hid hso
      have HSI := Aside0.mk hsi
      have HW7 := Aside0.mk (pw_below_grown HW.out (some g) HW.out.size hsi.gr (fun kk hk => by injection hk with hk; subst hk; exact HG.out))
      have HD7 := Lib.hid (show d'.size = k by rw [hpi.1]; exact HDS.out)
      clear hpi hso hsi
      obtain ⟨iv, hvi, hvz0, hvz1, hvz2⟩ := info_parts infoV
      refine Lib.hid ?_
      go_wp2_with fail
      go_loopw [7, 76] (fun v7 v76 wx => ∃ q : Nat, v76 = .int .i64 q ∧ q ≤ k ∧ Aside0 (wx.ownsRow w7.heap.size 27 3 v7 q (backsTo d' q)) ∧ Aside0 (Below w7.heap.size w7 wx)) (fun _ v76 _ => k - (intOf v76).toNat)
      case atStart => exact ⟨0, rfl, by omega, ⟨World.ownsRow_nil _ _ _ _⟩, ⟨Below.refl _ _⟩⟩
      case round =>
        obtain ⟨q, rfl, hq, HP, HX⟩ := hrel
        by_cases hlt : q < k
        · have e1 : decide (q < k) = true := decide_eq_true hlt
          have hcl : wr.cell? ⟨g, q, none⟩ = some (encV d'[q]!) := by
            have h1 := (HSI.out.holds q (by rw [HD7.out]; exact hlt)).1
            rw [Nat.zero_add] at h1
            exact (HX.out.cell (p := ⟨g, q, none⟩) (World.block_lt_of_cell? _ _ h1)).trans h1
          have hb' := back_any d'[q]!
          obtain ⟨vk, vt, vr, hbf⟩ := backV_form d'[q]!.1
          rw [hbf] at hb'
          have HY : Hid (backsTo d' q ++ [.int .i64 vk, .string vt, .string vr] = backsTo d' (q + 1)) := Lib.hid (by rw [← backsTo_next d' q (by rw [HD7.out]; exact hlt), hbf]; rfl)
          have HBK := Lib.hid hb'
          clear hb' hbf
          generalize encV d'[q]! = ev at *
          go_wp2_with (first
            | (go_at_call 78; ((with_reducible refine (HBK.out _).mono ?_); rintro e w8 ⟨rfl, hb⟩; have HP8 := Aside0.mk (pw_own_below HP.out hb); have HX8 := Aside0.mk (below_trans HX.out hb); clear hb))
            | (at_builtin; (refine wpList_append_own _ rfl _ _ 23 rfl w7.heap.size 27 iv (.agg #[.int .i64 0, .string ⟨#[]⟩, .string ⟨#[]⟩]) 3 40 Tryz.underlying23 hvi hvz0 hvz1 hvz2 rfl (by decide) _ q _ rfl (HP8.out.alloc _) ⟨w8.heap.size, 0, none⟩ 1 1 [.int .i64 vk, .string vt, .string vr] rfl rfl ?c1 ?c2 ?c3 ?c4 ?c5 ?_)))
          case c1 => exact cells_new _ #[.int .i64 vk, .string vt, .string vr] _
          case c2 => intro u hu; simp at hu; rcases hu with rfl | rfl | rfl <;> rfl
          case c3 => unfold maxLen; omega
          case c4 => omega
          case c5 => exact (below_alloc HX8.out _).size
          intro v' w9 ho9 hg9 _
          have HP9 := Aside0.mk (show w9.ownsRow w7.heap.size 27 3 v' (q + 1) (backsTo d' (q + 1)) by rw [← HY.out]; exact ho9)
          have HX9 := Aside0.mk (pw_below_grown (below_alloc HX8.out (.cells #[.int .i64 vk, .string vt, .string vr] 27)) _ (below_alloc HX8.out _).size hg9 (fun kk hk => (HP8.out.lt kk hk).1))
          clear ho9 hg9
          go_wp2_with fail
          go_roundw
          case rel => exact ⟨q + 1, by go_num, by omega, HP9, HX9⟩
          case measure => simp [intOf]; omega
        · have e1 : decide (q < k) = false := decide_eq_false hlt
          obtain rfl : q = k := by omega
          clear hlt hq
          go_wp2_with fail
          go_ret
          refine ⟨_, d', rfl, by rw [HDS.out]; exact HPI.out, by rw [HDS.out]; exact HSO.out, ?_, below_trans HW7.out HX.out⟩
          rw [HDS.out, ← backsTo_all d' HD7.out]
          exact own_less HP.out HW7.out.size
end Go.Proofs.YtgoeiflddikihaaGreatDoor.Ver
end
section
namespace Go.Proofs.YtgoeiflddikihaaGreatDoor.Ver
set_option linter.unusedSimpArgs false
set_option linter.unusedVariables false
open Go.RowKit Go.Proofs.YtgoeiflddikihaaGreatDoor.Dig Go.Proofs.YtgoeiflddikihaaGreatDoorW.PrintWords Go.Sort Go.Proofs.YtgoeiflddikihaaGreatDoor.Srt Go.Proofs.YtgoeiflddikihaaGreatDoor.Ord
def isP : Vers → Bool
  | .pair _ _ => true
  | _ => false
theorem assertP (a : VS) (xT : TypeId) (w : World) : (Instr.typeAssert (encV a) xT 133 true).run Tryz.prog w = .ok (.tuple #[if isP a.1 then encV a else .nilIface, .bool (isP a.1)]) w := by
  obtain ⟨v, hv⟩ := a
  show (Instr.typeAssert v.val xT 133 true).run Tryz.prog w = .ok (.tuple #[if isP v then v.val else .nilIface, .bool (isP v)]) w
  cases v with
  | rev s => exact a_rev_P _ xT w
  | un u => cases u with
    | branch n d => exact a_branch_P _ xT w
    | plain n => exact a_plain_P _ xT w
    | sem s => exact a_sem_P _ xT w
  | pair u r => exact a_pair_P _ xT w
theorem infoPV : (Tryz.prog.info? 133).map (fun i => (i.zero, i.size, i.bytes)) = some (some .nilIface, 1, 16) := by kernel_rfl
def pairsTo (D : List VD) (k : Nat) : List VS := ((D.take k).map VD.ver).filter fun a => isP a.1
theorem pairsTo_next (D : List VD) (k : Nat) (h : k < D.length) : pairsTo D (k + 1) = if isP D[k].ver.1 then pairsTo D k ++ [D[k].ver] else pairsTo D k := by
  unfold pairsTo
  rw [List.take_succ_eq_append_getElem h, List.map_append, List.filter_append]
  cases hp : isP D[k].ver.1 <;> simp [hp]
theorem pairsTo_len (D : List VD) (k : Nat) : (pairsTo D k).length ≤ D.length := by
  unfold pairsTo
  refine Nat.le_trans (List.length_filter_le _ _) ?_
  rw [List.length_map, List.length_take]; omega
theorem pairsTo_all (D : List VD) {n : Nat} (h : D.length = n) : pairsTo D n = (D.map VD.ver).filter fun a => isP a.1 := by
  unfold pairsTo; rw [List.take_of_length_le (by omega)]
def SrtEnd (down : Bool) (A : Option Addr) (d : Array VS) (w0 : World) (e : Ending) (w' : World) : Prop :=
  e = .returned (.tuple #[]) ∧ ∃ d' : Array VS, PermIn 0 d.size d d' ∧ SortedIn (ltV down) 0 d.size d' ∧ Below w0.heap.size w0 w' ∧ ∀ j, j < d.size → ∃ g, A = some ⟨g, 0, none⟩ ∧ w'.cell? ⟨g, j, none⟩ = some (encV d'[j]!)
theorem sortR_pu (A : Option Addr) (c : Nat) (d : Array VS) (hn : d.size < 50) (w0 w : World) (hb : Below w0.heap.size w0 w) (ho : w.ownsRow w0.heap.size 133 1 (.slice A d.size c) d.size (d.toList.map encV)) :
    Calls Tryz.prog 77 #[.slice A d.size c] w (SrtEnd false A d w0) := by
  by_cases h0 : d.size = 0
  · refine (sorts0_pu A d.size c (by omega) w).mono fun e w' ⟨he, hd⟩ => ⟨he, d, permIn_refl d 0 _, fun i j _ h3 h4 => by omega, ?_, fun j hj => by omega⟩
    obtain ⟨q, rfl⟩ := hd.out
    exact pw_below_drewN hb q
  · obtain ⟨g, cap, he, hg1, hg2⟩ := ho.form (by omega)
    injection he with e1 e2 e3
    subst e1 e3
    have hH : Holds encV w g 0 d := by
      intro j hj
      rw [Nat.zero_add]
      refine ⟨?_, ho.frozenAt j⟩
      rw [ho.cellAt j (by omega), List.getElem?_map, Array.getElem?_toList, Array.getElem?_eq_getElem hj, getElem!_pos d j hj]
      rfl
    refine (sortW_pu g 0 d.size c (by omega) hn d rfl w hH hg2).mono ?_
    rintro e w' ⟨rfl, d', hpi, hso, hsi⟩
    refine ⟨rfl, d', hpi, hso, pw_below_grown hb (some g) hb.size hsi.gr (fun kk hk => by injection hk with hk; subst hk; exact hg1), fun j hj => ⟨g, rfl, ?_⟩⟩
    have h1 := (hsi.holds j (by rw [hpi.1]; exact hj)).1
    rwa [Nat.zero_add] at h1
theorem sortR_pd (A : Option Addr) (c : Nat) (d : Array VS) (hn : d.size < 50) (w0 w : World) (hb : Below w0.heap.size w0 w) (ho : w.ownsRow w0.heap.size 133 1 (.slice A d.size c) d.size (d.toList.map encV)) :
    Calls Tryz.prog 76 #[.slice A d.size c] w (SrtEnd true A d w0) := by
  by_cases h0 : d.size = 0
  · refine (sorts0_pd A d.size c (by omega) w).mono fun e w' ⟨he, hd⟩ => ⟨he, d, permIn_refl d 0 _, fun i j _ h3 h4 => by omega, ?_, fun j hj => by omega⟩
    obtain ⟨q, rfl⟩ := hd.out
    exact pw_below_drewN hb q
  · obtain ⟨g, cap, he, hg1, hg2⟩ := ho.form (by omega)
    injection he with e1 e2 e3
    subst e1 e3
    have hH : Holds encV w g 0 d := by
      intro j hj
      rw [Nat.zero_add]
      refine ⟨?_, ho.frozenAt j⟩
      rw [ho.cellAt j (by omega), List.getElem?_map, Array.getElem?_toList, Array.getElem?_eq_getElem hj, getElem!_pos d j hj]
      rfl
    refine (sortW_pd g 0 d.size c (by omega) hn d rfl w hH hg2).mono ?_
    rintro e w' ⟨rfl, d', hpi, hso, hsi⟩
    refine ⟨rfl, d', hpi, hso, pw_below_grown hb (some g) hb.size hsi.gr (fun kk hk => by injection hk with hk; subst hk; exact hg1), fun j hj => ⟨g, rfl, ?_⟩⟩
    have h1 := (hsi.holds j (by rw [hpi.1]; exact hj)).1
    rwa [Nat.zero_add] at h1
set_option maxRecDepth 20000 in
set_option maxHeartbeats 4000000 in
theorem sortedP_up (D : List VD) (hn : D.length < 50) (v : Value) (w : World) (hv : Vars w) (hA : AtV w v D) :
    Calls Tryz.prog 37 #[v, .bool false, .bool true] w (SortedEnd false ((D.map VD.ver).filter fun a => isP a.1).toArray w) := by
  obtain ⟨a, c, rfl, hc⟩ := hA.form
  obtain ⟨i0, hi, hz0, hz1, hz2⟩ := info_parts infoPV
  have HB := Aside0.mk (Below.refl w.heap.size w)
  have HC := Lib.hid (show ∀ W (hb : Below w.heap.size w W) i (h : i < D.length), ∃ b o, a = some ⟨b, o, none⟩ ∧ W.cell? ⟨b, o + i * 3, none⟩ = some (.int .i64 D[i].k) ∧ W.cell? ⟨b, o + i * 3 + 1, none⟩ = some (.string D[i].t) ∧ W.cell? ⟨b, o + i * 3 + 2, none⟩ = some (.string D[i].r) from fun W hb i h => by
    obtain ⟨b, o, e, hcell⟩ := hc (by omega)
    obtain ⟨c0, c1, c2⟩ := hcell i h
    exact ⟨b, o, e, pw_cell_below hb c0, pw_cell_below hb c1, pw_cell_below hb c2⟩)
  have HVER := Lib.hid (fun (x : VD) W (hb : Below w.heap.size w W) => ver_any x.k x.t x.r x.ht W (hv.below hb))
  clear hc hA hv
  obtain ⟨n, hN⟩ : ∃ n, D.length = n := ⟨_, rfl⟩
  have HN := Lib.hid hN
  rw [hN] at hn ⊢
  rw [← pairsTo_all D hN]
  have HPL := Lib.hid (fun k => show (pairsTo D k).length ≤ n by rw [← hN]; exact pairsTo_len D k)
  clear hN
  go_enter Tryz.func37, Tryz.ntmps37
  go_wp2_with fail
  go_loopw [8, 23] (fun v8 v23 wr => ∃ k : Nat, v23 = .int .i64 k ∧ k ≤ n ∧ Aside0 (wr.ownsRow w.heap.size 133 1 v8 (pairsTo D k).length ((pairsTo D k).map encV)) ∧ Aside0 (Below w.heap.size w wr)) (fun _ v23 _ => n - (intOf v23).toNat)
  case atStart => exact ⟨0, rfl, by omega, ⟨World.ownsRow_nil _ _ _ _⟩, HB⟩
  case round =>
    obtain ⟨k, rfl, hk, HO, HW⟩ := hrel
    by_cases hlt : k < n
    · have d1 : decide (k < n) = true := decide_eq_true hlt
      have HLT := Lib.hid (show k < D.length by rw [HN.out]; exact hlt)
      obtain ⟨b0, o0, rfl, c0, c1, c2⟩ := HC.out wr HW.out k HLT.out
      have hv' : ∀ W, Below w.heap.size w W → Calls Tryz.prog 66 #[.agg #[.int .i64 D[k].k, .string D[k].t, .string D[k].r]] W fun e w' => e = .returned (encV D[k].ver) ∧ Below W.heap.size W w' := HVER.out D[k]
      have hT := assertP D[k].ver
      have HY := Lib.hid (pairsTo_next D k HLT.out)
      obtain ⟨ty, vy, hy⟩ : ∃ t v, encV D[k].ver = .iface t v := ⟨_, _, rfl⟩
      rw [hy] at hv' hT
      have HYE := Lib.hid hy
      clear hy
      have HV := Lib.hid hv'
      clear hv'
      generalize hxs : pairsTo D k = xs at *
      obtain ⟨m, hm⟩ : ∃ m, xs.length = m := ⟨_, rfl⟩
      have HM := Lib.hid hm
      rw [hm] at HO
      have HMN := Lib.hid (show m ≤ n by rw [← hm, ← hxs]; exact HPL.out k)
      clear hm hxs
      generalize hver : D[k].ver = vv at *
      clear hver
      generalize D[k].k = vk at *
      generalize D[k].t = vt at *
      generalize D[k].r = vr at *
      cases hip : isP vv.1 with
      | true =>
        rw [hip, if_pos rfl] at HY
        rw [hip] at hT
        simp only [if_true] at hT
        clear hip
        go_wp2_with (first
          | (go_at_call 66; ((with_reducible refine (HV.out _ (by repeat (first | exact HW.out | apply below_alloc | apply pw_below_drewN))).mono ?_); rintro e w5 ⟨rfl, hb⟩; have HO5 := Aside0.mk (pw_own_below (HO.out.alloc _) hb); have HW5 := Aside0.mk (below_trans (by repeat (first | exact HW.out | apply below_alloc | apply pw_below_drewN)) hb); clear hb))
          | (at_builtin; (refine wpList_append_own _ rfl _ _ 140 rfl w.heap.size 133 i0 .nilIface 1 16 Tryz.underlying140 hi hz0 hz1 hz2 rfl (by decide) _ m _ rfl (HO5.out.alloc _) ⟨w5.heap.size, 0, none⟩ 1 1 [.iface ty vy] rfl rfl ?c1 ?c2 ?c3 ?c4 ?c5 ?_)))
        case c1 => exact cell_one_new _ _ _
        case c2 => intro u hu; simp at hu; subst hu; rfl
        case c3 => have := HMN.out; unfold maxLen; omega
        case c4 => have := HMN.out; omega
        case c5 => exact (below_alloc HW5.out _).size
        intro v' w6 ho6 hg6 _
        have HO6 := Aside0.mk (show w6.ownsRow w.heap.size 133 1 v' (pairsTo D (k + 1)).length ((pairsTo D (k + 1)).map encV) by
          rw [HY.out, List.length_append, HM.out, List.map_append]
          show w6.ownsRow w.heap.size 133 1 v' (m + 1) (xs.map encV ++ [encV vv])
          rw [HYE.out]; exact ho6)
        have HW6 := Aside0.mk (pw_below_grown (below_alloc HW5.out (.cells #[.iface ty vy] 133)) _ (below_alloc HW5.out _).size hg6 (fun kk hk => (HO5.out.lt kk hk).1))
        clear ho6 hg6
        go_wp2_with fail
        go_roundw
        case rel => exact ⟨k + 1, by go_num, by omega, HO6, HW6⟩
        case measure => simp [intOf]; omega
      | false =>
        rw [hip, if_neg (by decide)] at HY
        rw [hip] at hT
        rw [if_neg (by decide)] at hT
        clear hip
        go_wp2_with (first
          | (go_at_call 66; ((with_reducible refine (HV.out _ (by repeat (first | exact HW.out | apply below_alloc | apply pw_below_drewN))).mono ?_); rintro e w5 ⟨rfl, hb⟩; have HO5 := Aside0.mk (pw_own_below (HO.out.alloc _) hb); have HW5 := Aside0.mk (below_trans (by repeat (first | exact HW.out | apply below_alloc | apply pw_below_drewN)) hb); clear hb)))
        have HO6 := Aside0.mk (show w5.ownsRow w.heap.size 133 1 u8 (pairsTo D (k + 1)).length ((pairsTo D (k + 1)).map encV) by rw [HY.out, HM.out]; exact HO5.out)
        go_roundw
        case rel => exact ⟨k + 1, by go_num, by omega, HO6, HW5⟩
        case measure => simp [intOf]; omega
    · have d1 : decide (k < n) = false := decide_eq_false hlt
      obtain rfl : k = n := by omega
      clear hlt hk
      have HPK := HPL.out k
      obtain ⟨d, hd⟩ : ∃ d : Array VS, (pairsTo D k).toArray = d := ⟨_, rfl⟩
      have hdl : d.toList = pairsTo D k := by rw [← hd]
      have hds : d.size = (pairsTo D k).length := by rw [← hd]; simp
      have HDD := Lib.hid hd
      rw [← hds, ← hdl] at HO
      have HDS := Lib.hid (show d.size < 50 by omega)
      clear hd hdl hds HPK HPL
      obtain ⟨m, hm⟩ : ∃ m, d.size = m := ⟨_, rfl⟩
      have HDM := Lib.hid hm
      obtain ⟨g, cap, rfl, _⟩ : ∃ A c, u8 = .slice A m c ∧ m ≤ c := by
        obtain ⟨A, c, e⟩ := own_slice HO.out
        subst e
        rw [← hm]
        exact ⟨A, c, rfl, own_le HO.out⟩
      have hsrt := sortR_pu g cap d HDS.out w wr HW.out (by rw [hm] at HO ⊢; exact HO.out)
      rw [hm] at hsrt
      have HSRT := Lib.hid hsrt
      clear hm hsrt
      go_wp2_with (first
        | (go_at_call 77; ((with_reducible refine HSRT.out.mono ?_); rintro e w7 ⟨rfl, d', hpi, hso, hb7, hcl7⟩; refine Hid.out ?_)))
      have HPI := Lib.hid hpi
      have HSO := Lib.hid hso
      have HCL := Lib.hid hcl7
      have HW7 := Aside0.mk hb7
      have HD7 := Lib.hid (show d'.size = m by rw [hpi.1]; exact HDM.out)
      rw [HDM.out] at HDS HCL
      have HM50 := HDS.out
      clear hpi hso hb7 hcl7 HSRT HO HW
      obtain ⟨iv, hvi, hvz0, hvz1, hvz2⟩ := info_parts infoV
      refine Lib.hid ?_
      go_wp2_with fail
      go_loopw [7, 46] (fun v7 v46 wx => ∃ q : Nat, v46 = .int .i64 q ∧ q ≤ m ∧ Aside0 (wx.ownsRow w7.heap.size 27 3 v7 q (backsTo d' q)) ∧ Aside0 (Below w7.heap.size w7 wx)) (fun _ v46 _ => m - (intOf v46).toNat)
      case atStart => exact ⟨0, rfl, by omega, ⟨World.ownsRow_nil _ _ _ _⟩, ⟨Below.refl _ _⟩⟩
      case round =>
        obtain ⟨q, rfl, hq, HP, HX⟩ := hrel
        by_cases hlt : q < m
        · have e1 : decide (q < m) = true := decide_eq_true hlt
          obtain ⟨gb, rfl, hcl0⟩ := HCL.out q hlt
          have hcl : wr.cell? ⟨gb, q, none⟩ = some (encV d'[q]!) := pw_cell_below HX.out hcl0
          clear hcl0
          have hb' := back_any d'[q]!
          obtain ⟨vk, vt, vr, hbf⟩ := backV_form d'[q]!.1
          rw [hbf] at hb'
          have HY : Hid (backsTo d' q ++ [.int .i64 vk, .string vt, .string vr] = backsTo d' (q + 1)) := Lib.hid (by rw [← backsTo_next d' q (by rw [HD7.out]; exact hlt), hbf]; rfl)
          have HBK := Lib.hid hb'
          clear hb' hbf
          generalize encV d'[q]! = ev at *
          go_wp2_with (first
            | (go_at_call 78; ((with_reducible refine (HBK.out _).mono ?_); rintro e w8 ⟨rfl, hb⟩; have HP8 := Aside0.mk (pw_own_below HP.out hb); have HX8 := Aside0.mk (below_trans HX.out hb); clear hb))
            | (at_builtin; (refine wpList_append_own _ rfl _ _ 23 rfl w7.heap.size 27 iv (.agg #[.int .i64 0, .string ⟨#[]⟩, .string ⟨#[]⟩]) 3 40 Tryz.underlying23 hvi hvz0 hvz1 hvz2 rfl (by decide) _ q _ rfl (HP8.out.alloc _) ⟨w8.heap.size, 0, none⟩ 1 1 [.int .i64 vk, .string vt, .string vr] rfl rfl ?c1 ?c2 ?c3 ?c4 ?c5 ?_)))
          case c1 => exact cells_new _ #[.int .i64 vk, .string vt, .string vr] _
          case c2 => intro u hu; simp at hu; rcases hu with rfl | rfl | rfl <;> rfl
          case c3 => unfold maxLen; omega
          case c4 => omega
          case c5 => exact (below_alloc HX8.out _).size
          intro v' w9 ho9 hg9 _
          have HP9 := Aside0.mk (show w9.ownsRow w7.heap.size 27 3 v' (q + 1) (backsTo d' (q + 1)) by rw [← HY.out]; exact ho9)
          have HX9 := Aside0.mk (pw_below_grown (below_alloc HX8.out (.cells #[.int .i64 vk, .string vt, .string vr] 27)) _ (below_alloc HX8.out _).size hg9 (fun kk hk => (HP8.out.lt kk hk).1))
          clear ho9 hg9
          go_wp2_with fail
          go_roundw
          case rel => exact ⟨q + 1, by go_num, by omega, HP9, HX9⟩
          case measure => simp [intOf]; omega
        · have e1 : decide (q < m) = false := decide_eq_false hlt
          obtain rfl : q = m := by omega
          clear hlt hq
          go_wp2_with fail
          go_ret
          rw [HDD.out]
          refine ⟨_, d', rfl, HPI.out, HSO.out, ?_, below_trans HW7.out HX.out⟩
          rw [HDM.out, ← backsTo_all d' HD7.out]
          exact own_less HP.out HW7.out.size
set_option maxRecDepth 20000 in
set_option maxHeartbeats 4000000 in
theorem sortedP_dn (D : List VD) (hn : D.length < 50) (v : Value) (w : World) (hv : Vars w) (hA : AtV w v D) :
    Calls Tryz.prog 37 #[v, .bool true, .bool true] w (SortedEnd true ((D.map VD.ver).filter fun a => isP a.1).toArray w) := by
  obtain ⟨a, c, rfl, hc⟩ := hA.form
  obtain ⟨i0, hi, hz0, hz1, hz2⟩ := info_parts infoPV
  have HB := Aside0.mk (Below.refl w.heap.size w)
  have HC := Lib.hid (show ∀ W (hb : Below w.heap.size w W) i (h : i < D.length), ∃ b o, a = some ⟨b, o, none⟩ ∧ W.cell? ⟨b, o + i * 3, none⟩ = some (.int .i64 D[i].k) ∧ W.cell? ⟨b, o + i * 3 + 1, none⟩ = some (.string D[i].t) ∧ W.cell? ⟨b, o + i * 3 + 2, none⟩ = some (.string D[i].r) from fun W hb i h => by
    obtain ⟨b, o, e, hcell⟩ := hc (by omega)
    obtain ⟨c0, c1, c2⟩ := hcell i h
    exact ⟨b, o, e, pw_cell_below hb c0, pw_cell_below hb c1, pw_cell_below hb c2⟩)
  have HVER := Lib.hid (fun (x : VD) W (hb : Below w.heap.size w W) => ver_any x.k x.t x.r x.ht W (hv.below hb))
  clear hc hA hv
  obtain ⟨n, hN⟩ : ∃ n, D.length = n := ⟨_, rfl⟩
  have HN := Lib.hid hN
  rw [hN] at hn ⊢
  rw [← pairsTo_all D hN]
  have HPL := Lib.hid (fun k => show (pairsTo D k).length ≤ n by rw [← hN]; exact pairsTo_len D k)
  clear hN
  go_enter Tryz.func37, Tryz.ntmps37
  go_wp2_with fail
  go_loopw [8, 23] (fun v8 v23 wr => ∃ k : Nat, v23 = .int .i64 k ∧ k ≤ n ∧ Aside0 (wr.ownsRow w.heap.size 133 1 v8 (pairsTo D k).length ((pairsTo D k).map encV)) ∧ Aside0 (Below w.heap.size w wr)) (fun _ v23 _ => n - (intOf v23).toNat)
  case atStart => exact ⟨0, rfl, by omega, ⟨World.ownsRow_nil _ _ _ _⟩, HB⟩
  case round =>
    obtain ⟨k, rfl, hk, HO, HW⟩ := hrel
    by_cases hlt : k < n
    · have d1 : decide (k < n) = true := decide_eq_true hlt
      have HLT := Lib.hid (show k < D.length by rw [HN.out]; exact hlt)
      obtain ⟨b0, o0, rfl, c0, c1, c2⟩ := HC.out wr HW.out k HLT.out
      have hv' : ∀ W, Below w.heap.size w W → Calls Tryz.prog 66 #[.agg #[.int .i64 D[k].k, .string D[k].t, .string D[k].r]] W fun e w' => e = .returned (encV D[k].ver) ∧ Below W.heap.size W w' := HVER.out D[k]
      have hT := assertP D[k].ver
      have HY := Lib.hid (pairsTo_next D k HLT.out)
      obtain ⟨ty, vy, hy⟩ : ∃ t v, encV D[k].ver = .iface t v := ⟨_, _, rfl⟩
      rw [hy] at hv' hT
      have HYE := Lib.hid hy
      clear hy
      have HV := Lib.hid hv'
      clear hv'
      generalize hxs : pairsTo D k = xs at *
      obtain ⟨m, hm⟩ : ∃ m, xs.length = m := ⟨_, rfl⟩
      have HM := Lib.hid hm
      rw [hm] at HO
      have HMN := Lib.hid (show m ≤ n by rw [← hm, ← hxs]; exact HPL.out k)
      clear hm hxs
      generalize hver : D[k].ver = vv at *
      clear hver
      generalize D[k].k = vk at *
      generalize D[k].t = vt at *
      generalize D[k].r = vr at *
      cases hip : isP vv.1 with
      | true =>
        rw [hip, if_pos rfl] at HY
        rw [hip] at hT
        simp only [if_true] at hT
        clear hip
        go_wp2_with (first
          | (go_at_call 66; ((with_reducible refine (HV.out _ (by repeat (first | exact HW.out | apply below_alloc | apply pw_below_drewN))).mono ?_); rintro e w5 ⟨rfl, hb⟩; have HO5 := Aside0.mk (pw_own_below (HO.out.alloc _) hb); have HW5 := Aside0.mk (below_trans (by repeat (first | exact HW.out | apply below_alloc | apply pw_below_drewN)) hb); clear hb))
          | (at_builtin; (refine wpList_append_own _ rfl _ _ 140 rfl w.heap.size 133 i0 .nilIface 1 16 Tryz.underlying140 hi hz0 hz1 hz2 rfl (by decide) _ m _ rfl (HO5.out.alloc _) ⟨w5.heap.size, 0, none⟩ 1 1 [.iface ty vy] rfl rfl ?c1 ?c2 ?c3 ?c4 ?c5 ?_)))
        case c1 => exact cell_one_new _ _ _
        case c2 => intro u hu; simp at hu; subst hu; rfl
        case c3 => have := HMN.out; unfold maxLen; omega
        case c4 => have := HMN.out; omega
        case c5 => exact (below_alloc HW5.out _).size
        intro v' w6 ho6 hg6 _
        have HO6 := Aside0.mk (show w6.ownsRow w.heap.size 133 1 v' (pairsTo D (k + 1)).length ((pairsTo D (k + 1)).map encV) by
          rw [HY.out, List.length_append, HM.out, List.map_append]
          show w6.ownsRow w.heap.size 133 1 v' (m + 1) (xs.map encV ++ [encV vv])
          rw [HYE.out]; exact ho6)
        have HW6 := Aside0.mk (pw_below_grown (below_alloc HW5.out (.cells #[.iface ty vy] 133)) _ (below_alloc HW5.out _).size hg6 (fun kk hk => (HO5.out.lt kk hk).1))
        clear ho6 hg6
        go_wp2_with fail
        go_roundw
        case rel => exact ⟨k + 1, by go_num, by omega, HO6, HW6⟩
        case measure => simp [intOf]; omega
      | false =>
        rw [hip, if_neg (by decide)] at HY
        rw [hip] at hT
        rw [if_neg (by decide)] at hT
        clear hip
        go_wp2_with (first
          | (go_at_call 66; ((with_reducible refine (HV.out _ (by repeat (first | exact HW.out | apply below_alloc | apply pw_below_drewN))).mono ?_); rintro e w5 ⟨rfl, hb⟩; have HO5 := Aside0.mk (pw_own_below (HO.out.alloc _) hb); have HW5 := Aside0.mk (below_trans (by repeat (first | exact HW.out | apply below_alloc | apply pw_below_drewN)) hb); clear hb)))
        have HO6 := Aside0.mk (show w5.ownsRow w.heap.size 133 1 u8 (pairsTo D (k + 1)).length ((pairsTo D (k + 1)).map encV) by rw [HY.out, HM.out]; exact HO5.out)
        go_roundw
        case rel => exact ⟨k + 1, by go_num, by omega, HO6, HW5⟩
        case measure => simp [intOf]; omega
    · have d1 : decide (k < n) = false := decide_eq_false hlt
      obtain rfl : k = n := by omega
      clear hlt hk
      have HPK := HPL.out k
      obtain ⟨d, hd⟩ : ∃ d : Array VS, (pairsTo D k).toArray = d := ⟨_, rfl⟩
      have hdl : d.toList = pairsTo D k := by rw [← hd]
      have hds : d.size = (pairsTo D k).length := by rw [← hd]; simp
      have HDD := Lib.hid hd
      rw [← hds, ← hdl] at HO
      have HDS := Lib.hid (show d.size < 50 by omega)
      clear hd hdl hds HPK HPL
      obtain ⟨m, hm⟩ : ∃ m, d.size = m := ⟨_, rfl⟩
      have HDM := Lib.hid hm
      obtain ⟨g, cap, rfl, _⟩ : ∃ A c, u8 = .slice A m c ∧ m ≤ c := by
        obtain ⟨A, c, e⟩ := own_slice HO.out
        subst e
        rw [← hm]
        exact ⟨A, c, rfl, own_le HO.out⟩
      have hsrt := sortR_pd g cap d HDS.out w wr HW.out (by rw [hm] at HO ⊢; exact HO.out)
      rw [hm] at hsrt
      have HSRT := Lib.hid hsrt
      clear hm hsrt
      go_wp2_with (first
        | (go_at_call 76; ((with_reducible refine HSRT.out.mono ?_); rintro e w7 ⟨rfl, d', hpi, hso, hb7, hcl7⟩; refine Hid.out ?_)))
      have HPI := Lib.hid hpi
      have HSO := Lib.hid hso
      have HCL := Lib.hid hcl7
      have HW7 := Aside0.mk hb7
      have HD7 := Lib.hid (show d'.size = m by rw [hpi.1]; exact HDM.out)
      rw [HDM.out] at HDS HCL
      have HM50 := HDS.out
      clear hpi hso hb7 hcl7 HSRT HO HW
      obtain ⟨iv, hvi, hvz0, hvz1, hvz2⟩ := info_parts infoV
      refine Lib.hid ?_
      go_wp2_with fail
      go_loopw [7, 46] (fun v7 v46 wx => ∃ q : Nat, v46 = .int .i64 q ∧ q ≤ m ∧ Aside0 (wx.ownsRow w7.heap.size 27 3 v7 q (backsTo d' q)) ∧ Aside0 (Below w7.heap.size w7 wx)) (fun _ v46 _ => m - (intOf v46).toNat)
      case atStart => exact ⟨0, rfl, by omega, ⟨World.ownsRow_nil _ _ _ _⟩, ⟨Below.refl _ _⟩⟩
      case round =>
        obtain ⟨q, rfl, hq, HP, HX⟩ := hrel
        by_cases hlt : q < m
        · have e1 : decide (q < m) = true := decide_eq_true hlt
          obtain ⟨gb, rfl, hcl0⟩ := HCL.out q hlt
          have hcl : wr.cell? ⟨gb, q, none⟩ = some (encV d'[q]!) := pw_cell_below HX.out hcl0
          clear hcl0
          have hb' := back_any d'[q]!
          obtain ⟨vk, vt, vr, hbf⟩ := backV_form d'[q]!.1
          rw [hbf] at hb'
          have HY : Hid (backsTo d' q ++ [.int .i64 vk, .string vt, .string vr] = backsTo d' (q + 1)) := Lib.hid (by rw [← backsTo_next d' q (by rw [HD7.out]; exact hlt), hbf]; rfl)
          have HBK := Lib.hid hb'
          clear hb' hbf
          generalize encV d'[q]! = ev at *
          go_wp2_with (first
            | (go_at_call 78; ((with_reducible refine (HBK.out _).mono ?_); rintro e w8 ⟨rfl, hb⟩; have HP8 := Aside0.mk (pw_own_below HP.out hb); have HX8 := Aside0.mk (below_trans HX.out hb); clear hb))
            | (at_builtin; (refine wpList_append_own _ rfl _ _ 23 rfl w7.heap.size 27 iv (.agg #[.int .i64 0, .string ⟨#[]⟩, .string ⟨#[]⟩]) 3 40 Tryz.underlying23 hvi hvz0 hvz1 hvz2 rfl (by decide) _ q _ rfl (HP8.out.alloc _) ⟨w8.heap.size, 0, none⟩ 1 1 [.int .i64 vk, .string vt, .string vr] rfl rfl ?c1 ?c2 ?c3 ?c4 ?c5 ?_)))
          case c1 => exact cells_new _ #[.int .i64 vk, .string vt, .string vr] _
          case c2 => intro u hu; simp at hu; rcases hu with rfl | rfl | rfl <;> rfl
          case c3 => unfold maxLen; omega
          case c4 => omega
          case c5 => exact (below_alloc HX8.out _).size
          intro v' w9 ho9 hg9 _
          have HP9 := Aside0.mk (show w9.ownsRow w7.heap.size 27 3 v' (q + 1) (backsTo d' (q + 1)) by rw [← HY.out]; exact ho9)
          have HX9 := Aside0.mk (pw_below_grown (below_alloc HX8.out (.cells #[.int .i64 vk, .string vt, .string vr] 27)) _ (below_alloc HX8.out _).size hg9 (fun kk hk => (HP8.out.lt kk hk).1))
          clear ho9 hg9
          go_wp2_with fail
          go_roundw
          case rel => exact ⟨q + 1, by go_num, by omega, HP9, HX9⟩
          case measure => simp [intOf]; omega
        · have e1 : decide (q < m) = false := decide_eq_false hlt
          obtain rfl : q = m := by omega
          clear hlt hq
          go_wp2_with fail
          go_ret
          rw [HDD.out]
          refine ⟨_, d', rfl, HPI.out, HSO.out, ?_, below_trans HW7.out HX.out⟩
          rw [HDM.out, ← backsTo_all d' HD7.out]
          exact own_less HP.out HW7.out.size
end Go.Proofs.YtgoeiflddikihaaGreatDoor.Ver
end
