/- Merged by program out of: RgM, Sorted, AwakeE, RgV. -/
import Derived.Test.YtgoeiflddikihaaGreatDoorCsoM3
import Derived.Test.YtgoeiflddikihaaGreatDoorCsoM12
import Derived.Laws.OwnMore
section
namespace Go.Proofs.YtgoeiflddikihaaGreatDoor.Ver
set_option linter.unusedSimpArgs false
set_option linter.unusedVariables false
open Go.RowKit Go.Proofs.YtgoeiflddikihaaGreatDoorW.PrintWords Go.Proofs.YtgoeiflddikihaaGreatDoor.Mem Go.Proofs.YtgoeiflddikihaaGreatDoor.Ord
def rngD (l : List PD) (v : SV) : Bool := l.any (fun p => hasD p v)
def MatchEnd (b : Bool) (w : World) (e : Ending) (w' : World) : Prop := (match b with | true => e = .returned .nilIface | false => ∃ a, e = .returned (.iface 260 (.pointer (some a)))) ∧ Below w.heap.size w w'
theorem rngD_step (l : List PD) (v : SV) (k : Nat) (h : k < l.length) : rngD (l.take (k + 1)) v = (rngD (l.take k) v || hasD l[k] v) := by
  unfold rngD
  rw [List.take_succ_eq_append_getElem h, List.any_append]
  simp
theorem rngD_yes {l : List PD} {v : SV} {k : Nat} (h : k < l.length) (hc : hasD l[k] v = true) : rngD l v = true := by
  unfold rngD
  rw [List.any_eq_true]
  exact ⟨l[k], List.getElem_mem h, hc⟩
def RngOk (l : List PD) : Prop := ∀ p ∈ l, PDok p
set_option maxRecDepth 20000 in
set_option maxHeartbeats 8000000 in
theorem rm_any (l : List PD) (hl : RngOk l) (v : SV) (hv : SVok v) (rv : Value) (w : World) (hr : RngAt w 0 rv l) :
    Calls Tryz.prog 296 #[.agg #[rv], .agg v.cells] w (MatchEnd (rngD l v) w) := by
  obtain ⟨A, c, rfl⟩ := hr.val
  obtain ⟨xs, hrow, hrep⟩ := hr
  have hmx := (row_val hrow).choose_spec.choose_spec.2
  obtain ⟨r, hrr⟩ : ∃ r, r = rngD l v := ⟨_, rfl⟩
  rw [← hrr]
  have HR := Lib.hid hrr
  have HV := Lib.hid hv
  have HL := Lib.hid hl
  obtain ⟨n, hn⟩ : ∃ n, l.length = n := ⟨_, rfl⟩
  rw [hn] at hrow hmx ⊢
  have HN := Lib.hid hn
  have HMX := Lib.hid hmx
  have HROW := Lib.hid hrow
  have HREP := Lib.hid hrep
  have HM := Aside0.mk (Blks.start w)
  clear hrr hv hl hn hmx hrow hrep
  dsimp only [SV.cells]
  go_enter Tryz.func296, Tryz.ntmps296
  go_wp2_with (first | ((with_reducible refine id_box ?_); (refine n_bx (x := .tmp 0) ?_; clear HM; intro b2 wq HM)) | ((with_reducible refine id_box ?_); (refine n_bx (x := .tmp 1) ?_; clear HM; intro b3 wq HM)) | ((with_reducible refine id_load ?_); refine n_ld1 ?_))
  go_loopw [10] (fun v10 wr => ∃ k : Nat, v10 = .int .i64 (k : Int) ∧ k ≤ n ∧ Hid (rngD (l.take k) v = false) ∧ Aside0 (Blks w wr [(b3, [.int .u64 v.major, .int .u64 v.minor, .int .u64 v.patch, .string v.pre, .string v.mt, .string v.orig], 197), (b2, [.slice A n c], 238)])) (fun v10 _ => n - (intOf v10).toNat)
  case atStart => exact ⟨0, rfl, Nat.zero_le _, Lib.hid rfl, ⟨n_own⟩⟩
  case round =>
    obtain ⟨k, rfl, hk, HK, HM1⟩ := hrel
    clear HM
    have HM := HM1
    clear HM1
    by_cases hlt : k < n
    · have hb' : k < l.length := by have := HN.out; omega
      obtain ⟨g, cc, hg, hat⟩ := row_at (row_keep HROW.out HM.out.bel) hlt
      obtain ⟨bv, hpc, hbv⟩ := HREP.out.get k hb'
      rw [hpc] at hat
      obtain ⟨rfl, _, rfl⟩ := Value.slice.inj hg
      have HE := Lib.hid hat
      have HH := Lib.hid (fun W (h : VsAt W 0 bv l[k].but) => has_any l[k] (HL.out _ (List.getElem_mem hb')) v HV.out bv W h)
      have HB := Lib.hid hbv
      have HO := Lib.hid (row_one hbv)
      have HS := Lib.hid (rngD_step l v k hb')
      have HY := Lib.hid (rngD_yes (v := v) hb')
      obtain ⟨Ab, cb, rfl, _⟩ := row_val hbv
      clear hat hg hpc hbv
      generalize l[k] = p at HE HH HB HS HY
      rw [HK.out, Bool.false_or] at HS
      generalize hq : hasD p v = q at *
      clear hq
      dsimp only [SV.cells, pcl] at HE HH
      cases q with
      | true =>
        go_wp2_with (first | ((with_reducible refine id_index ?_); refine m_index (x := .tmp 8) hlt rfl rfl ?_) | (go_at_call 300; ((with_reducible refine (HH.out _ (row_keep HB.out n_bel)).mono ?_); rintro e wc ⟨rfl, hb⟩; replace HM := n_call hb; clear hb)) | ((with_reducible refine id_load ?_); refine n_ld1 ?_) | ((with_reducible refine id_load ?_); refine n_ld ?_) | ((with_reducible refine id_load ?_); refine m_loadr (x := .tmp 12) HE.out rfl rfl ?_) | ((with_reducible refine id_alloc ?_); (refine n_al ?_; clear HM; intro b6 wq HM)) | ((with_reducible refine id_store ?_); (refine n_st ?_; clear HM; intro wq HM)))
        (try simp only [Exit.inBlock, Exit.then])
        have hr := HR.out
        rw [HY.out (by trivial)] at hr
        subst hr
        go_ret
        exact ⟨rfl, HM.out.bel⟩
      | false =>
        go_wp2_with (first | ((with_reducible refine id_index ?_); refine m_index (x := .tmp 8) hlt rfl rfl ?_) | (go_at_call 300; ((with_reducible refine (HH.out _ (row_keep HB.out n_bel)).mono ?_); rintro e wc ⟨rfl, hb⟩; replace HM := n_call hb; clear hb)) | ((with_reducible refine id_load ?_); refine n_ld1 ?_) | ((with_reducible refine id_load ?_); refine n_ld ?_) | ((with_reducible refine id_load ?_); refine m_loadr (x := .tmp 12) HE.out rfl rfl ?_) | ((with_reducible refine id_alloc ?_); (refine n_al ?_; clear HM; intro b6 wq HM)) | ((with_reducible refine id_store ?_); (refine n_st ?_; clear HM; intro wq HM)))
        refine ⟨⟨k + 1, ?_, by omega, HS, ⟨Blks.drop n_own⟩⟩, ?_⟩
        · rw [wrap_step hlt HMX.out]
        · rw [wrap_step hlt HMX.out]; exact meas_step hlt
    · have : k = n := by omega
      subst this
      go_wp2_with (go_at_call 144; ((with_reducible refine (new_any _ _).mono ?_); rintro e wn ⟨rfl, rfl⟩))
      have hr := HR.out
      have hk0 := HK.out
      rw [List.take_of_length_le (by have := HN.out; omega)] at hk0
      rw [hk0] at hr
      subst hr
      go_ret
      exact ⟨⟨_, rfl⟩, (Blks.other HM.out _).bel⟩
set_option maxRecDepth 20000 in
set_option maxHeartbeats 8000000 in
theorem vm_any (v u : SV) (hv : SVok v) (hu : SVok u) (w : World) : Calls Tryz.prog 232 #[.agg v.cells, .agg u.cells] w (MatchEnd (cmpV v u == 0) w) := by
  have HE := Lib.hid (fun W => equal_any v u hv.pre hu.pre W)
  have HM := Aside0.mk (Blks.start w)
  clear hv hu
  generalize (cmpV v u == 0) = b at *
  dsimp only [SV.cells] at HE ⊢
  go_enter Tryz.func232, Tryz.ntmps232
  cases b with
  | true =>
    go_wp2_with (first | ((with_reducible refine id_box ?_); (refine n_bx (x := .tmp 0) ?_; clear HM; intro b2 wq HM)) | ((with_reducible refine id_box ?_); (refine n_bx (x := .tmp 1) ?_; clear HM; intro b3 wq HM)) | (go_at_call 234; ((with_reducible refine (HE.out _).mono ?_); rintro e wc ⟨rfl, hb⟩; replace HM := n_call hb; clear hb)) | ((with_reducible refine id_load ?_); refine n_ld ?_))
    go_ret
    exact ⟨rfl, HM.out.bel⟩
  | false =>
    go_wp2_with (first | ((with_reducible refine id_box ?_); (refine n_bx (x := .tmp 0) ?_; clear HM; intro b2 wq HM)) | ((with_reducible refine id_box ?_); (refine n_bx (x := .tmp 1) ?_; clear HM; intro b3 wq HM)) | (go_at_call 234; ((with_reducible refine (HE.out _).mono ?_); rintro e wc ⟨rfl, hb⟩; replace HM := n_call hb; clear hb)) | (go_at_call 144; ((with_reducible refine (new_any _ _).mono ?_); rintro e wn ⟨rfl, rfl⟩)) | ((with_reducible refine id_load ?_); refine n_ld ?_))
    go_ret
    exact ⟨⟨_, rfl⟩, (Blks.other HM.out _).bel⟩
inductive CnD where
  | ver (v : SV)
  | rng (l : List PD)
def CnD.matches (c : CnD) (v : SV) : Bool := match c with
  | .ver u => cmpV u v == 0
  | .rng l => rngD l v
def CnD.ok (c : CnD) : Prop := match c with
  | .ver u => SVok u
  | .rng l => RngOk l
def CnAt (w : World) (base : Nat) (c : CnD) (x : Value) : Prop := match c with
  | .ver u => x = .iface 197 (.agg u.cells)
  | .rng l => ∃ rv, x = .iface 238 (.agg #[rv]) ∧ RngAt w base rv l
theorem CnAt.keep {w w' : World} {base : Nat} {c : CnD} {x : Value} (h : CnAt w base c x) (hb : Below w.heap.size w w') : CnAt w' base c x := by
  cases c with
  | ver u => exact h
  | rng l => obtain ⟨rv, h1, h2⟩ := h; exact ⟨rv, h1, h2.below hb⟩
theorem CnAt.mono {w : World} {base base' : Nat} {c : CnD} {x : Value} (h : CnAt w base c x) (hb : base' ≤ base) : CnAt w base' c x := by
  cases c with
  | ver u => exact h
  | rng l => obtain ⟨rv, h1, h2⟩ := h; exact ⟨rv, h1, h2.mono hb⟩
end Go.Proofs.YtgoeiflddikihaaGreatDoor.Ver
end
section
namespace Go.Proofs.YtgoeiflddikihaaGreatDoor.Ver
open Go.RowKit Go.Proofs.YtgoeiflddikihaaGreatDoor.Dig Go.Proofs.YtgoeiflddikihaaGreatDoorW.PrintWords Go.Sort Go.Proofs.YtgoeiflddikihaaGreatDoor.Srt Go.Proofs.YtgoeiflddikihaaGreatDoor.Ord
structure VD where
  k : Int
  t : ByteArray
  r : ByteArray
  ht : t.size ≤ 2147483647
def VD.cells (x : VD) : List Value := [.int .i64 x.k, .string x.t, .string x.r]
def VD.ver (x : VD) : VS := ⟨verV x.k x.t x.r, verV_fine x.k x.r x.ht⟩
structure AtV (w : World) (v : Value) (D : List VD) : Prop where
  form : ∃ a c, v = .slice a D.length c ∧ (0 < D.length → ∃ b o, a = some ⟨b, o, none⟩ ∧ ∀ i (h : i < D.length), w.cell? ⟨b, o + i * 3, none⟩ = some (.int .i64 D[i].k) ∧ w.cell? ⟨b, o + i * 3 + 1, none⟩ = some (.string D[i].t) ∧ w.cell? ⟨b, o + i * 3 + 2, none⟩ = some (.string D[i].r))
def encsTo (D : List VD) (k : Nat) : List Value := (D.take k).map fun x => encV x.ver
theorem encsTo_next (D : List VD) (k : Nat) (h : k < D.length) : encsTo D k ++ [encV D[k].ver] = encsTo D (k + 1) := by
  unfold encsTo; rw [List.take_succ_eq_append_getElem h, List.map_append]; rfl
theorem info114 : (Tryz.prog.info? 114).map (fun i => (i.zero, i.size, i.bytes)) = some (some .nilIface, 1, 16) := by kernel_rfl
theorem infoV : (Tryz.prog.info? 27).map (fun i => (i.zero, i.size, i.bytes)) = some (some (.agg #[.int .i64 0, .string ⟨#[]⟩, .string ⟨#[]⟩]), 3, 40) := by kernel_rfl
theorem backV_form (a : Vers) : ∃ k t r, backV a = .agg #[.int .i64 k, .string t, .string r] := by
  rcases a with s | u | ⟨u, r⟩ <;> exact ⟨_, _, _, rfl⟩
theorem back_any (a : VS) (w : World) : Calls Tryz.prog 78 #[encV a] w fun e w' => e = .returned (backV a.1) ∧ Below w.heap.size w w' := by
  obtain ⟨a, hf⟩ := a
  show Calls _ _ #[Vers.val a] _ _
  have ho := hf.2
  rcases a with s | (⟨n, d⟩ | n | v) | ⟨(⟨n, d⟩ | n | v), q⟩
  · exact back_rev s w
  · cases d
    · exact back_branchF n w
    · exact back_branchT n w
  · exact back_plain n w
  · exact back_sem v (ho v rfl) w
  · cases d
    · exact back_pbranchF n q w
    · exact back_pbranchT n q w
  · exact back_pplain n q w
  · exact back_psem v (ho v rfl) q w
def backsTo (d : Array VS) (k : Nat) : List Value := (d.toList.take k).flatMap fun a => (backV a.1).cells.toList
theorem backsTo_next (d : Array VS) (k : Nat) (h : k < d.size) : backsTo d k ++ (backV d[k]!.1).cells.toList = backsTo d (k + 1) := by
  unfold backsTo
  rw [List.take_succ_eq_append_getElem (by simpa using h), List.flatMap_append, getElem!_pos d k h]
  simp
theorem backsTo_all (d : Array VS) {n : Nat} (h : d.size = n) : backsTo d n = d.toList.flatMap fun a => (backV a.1).cells.toList := by
  unfold backsTo; rw [List.take_of_length_le (by simp [h])]
theorem cells_new (w : World) (cs : Array Value) (t : TypeId) : ∀ (j : Nat) (u : Value), cs.toList[j]? = some u → (w.alloc (.cells cs t)).cell? ((⟨w.heap.size, 0, none⟩ : Addr).add j) = some u := by
  intro j u h
  have e : ((⟨w.heap.size, 0, none⟩ : Addr).add j) = ⟨w.heap.size, j, none⟩ := by unfold Addr.add; split <;> simp_all
  rw [e, blk_cell (alloc_at w _) j, ← Array.getElem?_toList]
  exact h
def SortedEnd (down : Bool) (d : Array VS) (w : World) (e : Ending) (w' : World) : Prop :=
  ∃ (x : Value) (d' : Array VS), e = .returned x ∧ PermIn 0 d.size d d' ∧ SortedIn (ltV down) 0 d.size d' ∧ w'.ownsRow w.heap.size 27 3 x d.size (d'.toList.flatMap fun a => (backV a.1).cells.toList) ∧ Below w.heap.size w w'
set_option maxRecDepth 20000 in
set_option maxHeartbeats 4000000 in
theorem sorted_up (D : List VD) (hn : 1 ≤ D.length ∧ D.length ≤ 12) (v : Value) (w : World) (hv : Vars w) (hA : AtV w v D) :
    Calls Tryz.prog 37 #[v, .bool false, .bool false] w (SortedEnd false (D.map VD.ver).toArray w) := by
  obtain ⟨a, c, rfl, hc⟩ := hA.form
  obtain ⟨b, o, rfl, hcell⟩ := hc (by omega)
  obtain ⟨i0, hi, hz0, hz1, hz2⟩ := info_parts info114
  have HB := Aside0.mk (Below.refl w.heap.size w)
  have hblt : b < w.heap.size := World.block_lt_of_cell? w ⟨b, o + 0 * 3, none⟩ (hcell 0 (by omega)).1
  have HC := Lib.hid (fun W (hb : Below w.heap.size w W) i (h : i < D.length) => (⟨(hb.cell (p := ⟨b, o + i * 3, none⟩) hblt).trans (hcell i h).1, (hb.cell (p := ⟨b, o + i * 3 + 1, none⟩) hblt).trans (hcell i h).2.1, (hb.cell (p := ⟨b, o + i * 3 + 2, none⟩) hblt).trans (hcell i h).2.2⟩ : W.cell? ⟨b, o + i * 3, none⟩ = some (.int .i64 D[i].k) ∧ W.cell? ⟨b, o + i * 3 + 1, none⟩ = some (.string D[i].t) ∧ W.cell? ⟨b, o + i * 3 + 2, none⟩ = some (.string D[i].r)))
  have HVER := Lib.hid (fun (x : VD) W (hb : Below w.heap.size w W) => ver_any x.k x.t x.r x.ht W (hv.below hb))
  clear hcell hc hA hv
  obtain ⟨hn1, hn2⟩ := hn
  obtain ⟨n, hN⟩ : ∃ n, D.length = n := ⟨_, rfl⟩
  have HN := Lib.hid hN
  rw [hN] at hn1 hn2 ⊢
  have HDS := Lib.hid (show (D.map VD.ver).toArray.size = n by simp [hN])
  have HDJ := Lib.hid (fun j (h : j < n) => (show (encsTo D n)[j]? = some (encV (D.map VD.ver).toArray[j]!) by
    unfold encsTo
    rw [List.take_of_length_le (by omega), getElem!_pos _ j (by simp; omega)]
    simp [List.getElem?_map, List.getElem?_eq_getElem (show j < D.length by omega)]))
  generalize (D.map VD.ver).toArray = d at *
  clear hN
  go_enter Tryz.func37, Tryz.ntmps37
  go_wp2_with fail
  go_loopw [15, 59] (fun v15 v59 wr => ∃ k : Nat, v59 = .int .i64 k ∧ k ≤ n ∧ Aside0 (wr.ownsRow w.heap.size 114 1 v15 k (encsTo D k)) ∧ Aside0 (Below w.heap.size w wr)) (fun _ v59 _ => n - (intOf v59).toNat)
  case atStart => exact ⟨0, rfl, by omega, ⟨World.ownsRow_nil _ _ _ _⟩, HB⟩
  case round =>
    obtain ⟨k, rfl, hk, HO, HW⟩ := hrel
    by_cases hlt : k < n
    · have d1 : decide (k < n) = true := decide_eq_true hlt
      have HLT := Lib.hid (show k < D.length by rw [HN.out]; exact hlt)
      obtain ⟨c0, c1, c2⟩ := HC.out wr HW.out k HLT.out
      have hv' : ∀ W, Below w.heap.size w W → Calls Tryz.prog 66 #[.agg #[.int .i64 D[k].k, .string D[k].t, .string D[k].r]] W fun e w' => e = .returned (encV D[k].ver) ∧ Below W.heap.size W w' := HVER.out D[k]
      obtain ⟨ty, vy, hy⟩ : ∃ t v, encV D[k].ver = .iface t v := ⟨_, _, rfl⟩
      rw [hy] at hv'
      have HY : Hid (encsTo D k ++ [.iface ty vy] = encsTo D (k + 1)) := Lib.hid (by rw [← hy]; exact encsTo_next D k HLT.out)
      clear hy
      have HV := Lib.hid hv'
      clear hv'
      generalize D[k].k = vk at *
      generalize D[k].t = vt at *
      generalize D[k].r = vr at *
      go_wp2_with (first
        | (go_at_call 66; ((with_reducible refine (HV.out _ (by repeat (first | exact HW.out | apply below_alloc | apply pw_below_drewN))).mono ?_); rintro e w5 ⟨rfl, hb⟩; have HO5 := Aside0.mk (pw_own_below (HO.out.alloc _) hb); have HW5 := Aside0.mk (below_trans (by repeat (first | exact HW.out | apply below_alloc | apply pw_below_drewN)) hb); clear hb))
        | (at_builtin; (refine wpList_append_own _ rfl _ _ 143 rfl w.heap.size 114 i0 .nilIface 1 16 Tryz.underlying143 hi hz0 hz1 hz2 rfl (by decide) _ k _ rfl (HO5.out.alloc _) ⟨w5.heap.size, 0, none⟩ 1 1 [.iface ty vy] rfl rfl ?c1 ?c2 ?c3 ?c4 ?c5 ?_)))
      case c1 => exact cell_one_new _ _ _
      case c2 => intro u hu; simp at hu; subst hu; rfl
      case c3 => unfold maxLen; omega
      case c4 => omega
      case c5 => exact (below_alloc HW5.out _).size
      intro v' w6 ho6 hg6 _
      have HO6 := Aside0.mk (show w6.ownsRow w.heap.size 114 1 v' (k + 1) (encsTo D (k + 1)) by rw [← HY.out]; exact ho6)
      have HW6 := Aside0.mk (pw_below_grown (below_alloc HW5.out (.cells #[.iface ty vy] 114)) _ (below_alloc HW5.out _).size hg6 (fun kk hk => (HO5.out.lt kk hk).1))
      clear ho6 hg6
      go_wp2_with fail
      go_roundw
      case rel => exact ⟨k + 1, by go_num, by omega, HO6, HW6⟩
      case measure => simp [intOf]; omega
    · have d1 : decide (k < n) = false := decide_eq_false hlt
      obtain rfl : k = n := by omega
      clear hlt hk
      obtain ⟨g, cap, rfl, hg1, hg2⟩ := HO.out.form (by omega)
      have hH : Holds encV wr g 0 d := by
        intro j hj
        rw [HDS.out] at hj
        rw [Nat.zero_add]
        exact ⟨by rw [HO.out.cellAt j (by omega)]; exact HDJ.out j hj, HO.out.frozenAt j⟩
      have HSRT := Lib.hid (sortAll_up g 0 k cap hn1 hn2 d HDS.out wr hH hg2)
      have HG := Lib.hid hg1
      clear hH hg1 hg2
      go_wp2_with (first
        | (go_at_call 80; ((with_reducible refine HSRT.out.mono ?_); rintro e w7 ⟨rfl, d', hpi, hso, hsi⟩; refine Hid.out ?_)))
      have HPI := Lib.hid hpi
      have HSO := Lib.hid hso
      have HSI := Aside0.mk hsi
      have HW7 := Aside0.mk (pw_below_grown HW.out (some g) HW.out.size hsi.gr (fun kk hk => by injection hk with hk; subst hk; exact HG.out))
      have HD7 := Lib.hid (show d'.size = k by rw [hpi.1]; exact HDS.out)
      clear hpi hso hsi
      obtain ⟨iv, hvi, hvz0, hvz1, hvz2⟩ := info_parts infoV
      refine Lib.hid ?_
      go_wp2_with fail
      go_loopw [7, 76] (fun v7 v76 wx => ∃ q : Nat, v76 = .int .i64 q ∧ q ≤ k ∧ Aside0 (wx.ownsRow w7.heap.size 27 3 v7 q (backsTo d' q)) ∧ Aside0 (Below w7.heap.size w7 wx)) (fun _ v76 _ => k - (intOf v76).toNat)
      case atStart => exact ⟨0, rfl, by omega, ⟨World.ownsRow_nil _ _ _ _⟩, ⟨Below.refl _ _⟩⟩
      case round =>
        obtain ⟨q, rfl, hq, HP, HX⟩ := hrel
        by_cases hlt : q < k
        · have e1 : decide (q < k) = true := decide_eq_true hlt
          have hcl : wr.cell? ⟨g, q, none⟩ = some (encV d'[q]!) := by
            have h1 := (HSI.out.holds q (by rw [HD7.out]; exact hlt)).1
            rw [Nat.zero_add] at h1
            exact (HX.out.cell (p := ⟨g, q, none⟩) (World.block_lt_of_cell? _ _ h1)).trans h1
          have hb' := back_any d'[q]!
          obtain ⟨vk, vt, vr, hbf⟩ := backV_form d'[q]!.1
          rw [hbf] at hb'
          have HY : Hid (backsTo d' q ++ [.int .i64 vk, .string vt, .string vr] = backsTo d' (q + 1)) := Lib.hid (by rw [← backsTo_next d' q (by rw [HD7.out]; exact hlt), hbf]; rfl)
          have HBK := Lib.hid hb'
          clear hb' hbf
          generalize encV d'[q]! = ev at *
          go_wp2_with (first
            | (go_at_call 78; ((with_reducible refine (HBK.out _).mono ?_); rintro e w8 ⟨rfl, hb⟩; have HP8 := Aside0.mk (pw_own_below HP.out hb); have HX8 := Aside0.mk (below_trans HX.out hb); clear hb))
            | (at_builtin; (refine wpList_append_own _ rfl _ _ 23 rfl w7.heap.size 27 iv (.agg #[.int .i64 0, .string ⟨#[]⟩, .string ⟨#[]⟩]) 3 40 Tryz.underlying23 hvi hvz0 hvz1 hvz2 rfl (by decide) _ q _ rfl (HP8.out.alloc _) ⟨w8.heap.size, 0, none⟩ 1 1 [.int .i64 vk, .string vt, .string vr] rfl rfl ?c1 ?c2 ?c3 ?c4 ?c5 ?_)))
          case c1 => exact cells_new _ #[.int .i64 vk, .string vt, .string vr] _
          case c2 => intro u hu; simp at hu; rcases hu with rfl | rfl | rfl <;> rfl
          case c3 => unfold maxLen; omega
          case c4 => omega
          case c5 => exact (below_alloc HX8.out _).size
          intro v' w9 ho9 hg9 _
          have HP9 := Aside0.mk (show w9.ownsRow w7.heap.size 27 3 v' (q + 1) (backsTo d' (q + 1)) by rw [← HY.out]; exact ho9)
          have HX9 := Aside0.mk (pw_below_grown (below_alloc HX8.out (.cells #[.int .i64 vk, .string vt, .string vr] 27)) _ (below_alloc HX8.out _).size hg9 (fun kk hk => (HP8.out.lt kk hk).1))
          clear ho9 hg9
          go_wp2_with fail
          go_roundw
          case rel => exact ⟨q + 1, by go_num, by omega, HP9, HX9⟩
          case measure => simp [intOf]; omega
        · have e1 : decide (q < k) = false := decide_eq_false hlt
          obtain rfl : q = k := by omega
          clear hlt hq
          go_wp2_with fail
          go_ret
          refine ⟨_, d', rfl, by rw [HDS.out]; exact HPI.out, by rw [HDS.out]; exact HSO.out, ?_, below_trans HW7.out HX.out⟩
          rw [HDS.out, ← backsTo_all d' HD7.out]
          exact own_less HP.out HW7.out.size
end Go.Proofs.YtgoeiflddikihaaGreatDoor.Ver
end
section
namespace Go.Proofs.YtgoeiflddikihaaGreatDoor.Ver
set_option linter.unusedSimpArgs false
open Go.RowKit Go.Proofs.YtgoeiflddikihaaGreatDoor.Dig Go.Proofs.YtgoeiflddikihaaGreatDoorW.PrintWords Go.Proofs.YtgoeiflddikihaaGreatDoor.Mem Go.Sort Go.Proofs.YtgoeiflddikihaaGreatDoor.Srt
theorem rowTold : RowT Tryz.prog 54 9 := ⟨⟨_, Tryz.underlying54, rfl⟩, by kernel_rfl⟩
theorem zeroTold : (Tryz.prog.info? 54).bind (fun i => i.zero.map (·.cells)) = some zTold := by kernel_rfl
abbrev t123 : ByteArray := ⟨#[118, 49, 46, 50, 46, 51]⟩
abbrev tr : ByteArray := ⟨#[114]⟩
abbrev tdev : ByteArray := ⟨#[100, 101, 118]⟩
abbrev t100 : ByteArray := ⟨#[49, 46, 48, 46, 48]⟩
abbrev t110 : ByteArray := ⟨#[49, 46, 49, 46, 48]⟩
def v123 : SV := ⟨1, 2, 3, ⟨#[]⟩, ⟨#[]⟩, t123⟩
theorem read123 : readV t123 = some (v123, 3) := by kernel_rfl
theorem of123 (w : World) (hv : Vars w) : Calls Tryz.prog 35 #[.agg #[.int .i64 3, .string t123, .string tr]] w fun e w' => e = .returned (told 2 t123 (⟨#[61]⟩ ++ semB v123) tr ⟨#[]⟩ t123 tr t123 true) ∧ Below w.heap.size w w' :=
  of_psem 3 t123 tr (by decide) w hv v123 (readV_ok' (by decide) read123).1 (by decide) (by rw [show (semB v123).size = 5 by kernel_rfl]; omega) tr (by kernel_rfl)
def x0 : VD := ⟨1, tdev, ⟨#[]⟩, by decide⟩
def x1 : VD := ⟨3, t100, ⟨#[]⟩, by decide⟩
def x2 : VD := ⟨3, t110, ⟨#[]⟩, by decide⟩
abbrev In3 : Array Value := #[.int .i64 1, .string tdev, .string ⟨#[]⟩, .int .i64 3, .string t100, .string ⟨#[]⟩, .int .i64 3, .string t110, .string ⟨#[]⟩]
def Out3 : List Value := [.int .i64 3, .string t110, .string ⟨#[]⟩, .int .i64 3, .string t100, .string ⟨#[]⟩, .int .i64 1, .string tdev, .string ⟨#[]⟩]
theorem bs_v3 : Tryz.prog.builtSlice 27 3 [(0, .agg #[.int .i64 1, .string tdev, .string ⟨#[]⟩]), (1, .agg #[.int .i64 3, .string t100, .string ⟨#[]⟩]), (2, .agg #[.int .i64 3, .string t110, .string ⟨#[]⟩])] = some In3 := by kernel_rfl
theorem at3 {w : World} {b : Nat} (h : w.rangeAt b 0 In3.toList) : AtV w (.slice (some ⟨b, 0, none⟩) 3 3) [x0, x1, x2] := by
  refine ⟨⟨some ⟨b, 0, none⟩, 3, rfl, fun _ => ⟨b, 0, rfl, fun i hi => ?_⟩⟩⟩
  have h3 : i < 3 := hi
  rcases i with _ | _ | _ | i
  · exact ⟨h 0 _ rfl, h 1 _ rfl, h 2 _ rfl⟩
  · exact ⟨h 3 _ rfl, h 4 _ rfl, h 5 _ rfl⟩
  · exact ⟨h 6 _ rfl, h 7 _ rfl, h 8 _ rfl⟩
  · omega
theorem lt21 : ltV false x2.ver x1.ver = true := by kernel_rfl
theorem lt20 : ltV false x2.ver x0.ver = true := by kernel_rfl
theorem lt10 : ltV false x1.ver x0.ver = true := by kernel_rfl
def Sort3End (w : World) (e : Ending) (w' : World) : Prop :=
  ∃ g cap cells rest, e = .returned (.slice (some ⟨g, 0, none⟩) 3 cap) ∧ w.heap.size ≤ g ∧ w'.heap[g]? = some (.cells cells 27 (0, 0)) ∧ cells.toList = Out3 ++ rest ∧ Below w.heap.size w w'
theorem sort3 (b : Nat) (w : World) (hv : Vars w) (h : w.rangeAt b 0 In3.toList) : Calls Tryz.prog 37 #[.slice (some ⟨b, 0, none⟩) 3 3, .bool false, .bool false] w (Sort3End w) := by
  refine (sorted_up [x0, x1, x2] ⟨by decide, by decide⟩ _ w hv (at3 h)).mono ?_
  rintro e w' ⟨x, d', rfl, hp, hs, ho, hb⟩
  have hd := Awk.three (swo_ltV false) lt21 lt20 lt10 hp hs
  subst hd
  obtain ⟨g, cap, cells, rest, rfl, hg, hc, hl, _⟩ := row_block ho (by show 0 < 3; omega)
  exact ⟨g, cap, cells, rest, rfl, hg, hc, hl, hb⟩
end Go.Proofs.YtgoeiflddikihaaGreatDoor.Ver
end
section
namespace Go.Proofs.YtgoeiflddikihaaGreatDoor.Ver
set_option linter.unusedSimpArgs false
set_option linter.unusedVariables false
open Go.RowKit Go.Proofs.YtgoeiflddikihaaGreatDoorW.PrintWords Go.Proofs.YtgoeiflddikihaaGreatDoor.Mem Go.Proofs.YtgoeiflddikihaaGreatDoor.Ord
def isectV (u : SV) (c : CnD) : CnD := if c.matches u then .ver u else .rng []
def CnEnd (c : CnD) (w : World) (e : Ending) (w' : World) : Prop := (∃ x, e = .returned x ∧ CnAt w' w.heap.size c x) ∧ Below w.heap.size w w'
set_option maxRecDepth 20000 in
set_option maxHeartbeats 8000000 in
theorem vi_any (u : SV) (hu : SVok u) (c : CnD) (hc : c.ok) (x : Value) (w : World) (hx : CnAt w 0 c x) : Calls Tryz.prog 231 #[.agg u.cells, x] w (CnEnd (isectV u c) w) := by
  have HM := Aside0.mk (Blks.start w)
  have f1 := m_sv_Matches
  have f2 := m_range_Matches
  unfold isectV
  cases c with
  | ver v =>
    obtain rfl := hx
    have HC := Lib.hid (fun W => vm_any v u hc hu W)
    show Calls _ _ _ _ (CnEnd (if (cmpV v u == 0) = true then _ else _) w)
    clear hc hu
    generalize (cmpV v u == 0) = b at *
    dsimp only [SV.cells] at HC ⊢
    unfold MatchEnd at HC
    go_enter Tryz.func231, Tryz.ntmps231
    cases b with
    | true =>
      go_wp2_with (first | ((with_reducible refine id_box ?_); (refine n_bx (x := .tmp 0) ?_; clear HM; intro b2 wq HM)) | (go_at_call 232; ((with_reducible refine (HC.out _ ).mono ?_); rintro e wc ⟨rfl, hb⟩; replace HM := n_call hb; clear hb)) | ((with_reducible refine id_load ?_); refine n_ld ?_))
      go_ret
      exact ⟨⟨_, rfl, rfl⟩, HM.out.bel⟩
    | false =>
      go_wp2_with (first | ((with_reducible refine id_box ?_); (refine n_bx (x := .tmp 0) ?_; clear HM; intro b2 wq HM)) | (go_at_call 232; ((with_reducible refine (HC.out _ ).mono ?_); rintro e wc ⟨⟨ae, rfl⟩, hb⟩; replace HM := n_call hb; clear hb)) | ((with_reducible refine id_load ?_); refine n_ld ?_) | ((with_reducible refine id_build ?_); (refine m_build (by kernel_rfl) (h := ?_))))
      go_ret
      exact ⟨⟨_, rfl, ⟨_, rfl, RngAt.nil _ _⟩⟩, HM.out.bel⟩
  | rng l =>
    obtain ⟨rv, rfl, hr⟩ := hx
    have HRG := Lib.hid hr
    have HC := Lib.hid (fun W (h : RngAt W 0 rv l) => rm_any l hc u hu rv W h)
    show Calls _ _ _ _ (CnEnd (if rngD l u = true then _ else _) w)
    clear hc hu hr
    generalize rngD l u = b at *
    dsimp only [SV.cells] at HC ⊢
    unfold MatchEnd at HC
    go_enter Tryz.func231, Tryz.ntmps231
    cases b with
    | true =>
      go_wp2_with (first | ((with_reducible refine id_box ?_); (refine n_bx (x := .tmp 0) ?_; clear HM; intro b2 wq HM)) | (go_at_call 296; ((with_reducible refine (HC.out _ (RngAt.below HRG.out n_bel)).mono ?_); rintro e wc ⟨rfl, hb⟩; replace HM := n_call hb; clear hb)) | ((with_reducible refine id_load ?_); refine n_ld ?_))
      go_ret
      exact ⟨⟨_, rfl, rfl⟩, HM.out.bel⟩
    | false =>
      go_wp2_with (first | ((with_reducible refine id_box ?_); (refine n_bx (x := .tmp 0) ?_; clear HM; intro b2 wq HM)) | (go_at_call 296; ((with_reducible refine (HC.out _ (RngAt.below HRG.out n_bel)).mono ?_); rintro e wc ⟨⟨ae, rfl⟩, hb⟩; replace HM := n_call hb; clear hb)) | ((with_reducible refine id_load ?_); refine n_ld ?_) | ((with_reducible refine id_build ?_); (refine m_build (by kernel_rfl) (h := ?_))))
      go_ret
      exact ⟨⟨_, rfl, ⟨_, rfl, RngAt.nil _ _⟩⟩, HM.out.bel⟩
end Go.Proofs.YtgoeiflddikihaaGreatDoor.Ver
end
