/- Merged by program out of: PEmpty. -/
import Derived.Test.YtgoeiflddikihaaGreatDoorCsgM3
import Derived.Test.YtgoeiflddikihaaGreatDoorCsgM15
section
namespace Go.Proofs.YtgoeiflddikihaaGreatDoor.Ver
set_option linter.unusedSimpArgs false
set_option linter.unusedVariables false
open Go.RowKit Go.Proofs.YtgoeiflddikihaaGreatDoorW.PrintWords Go.Proofs.YtgoeiflddikihaaGreatDoor.Mem Go.Proofs.YtgoeiflddikihaaGreatDoor.Ord
set_option maxRecDepth 20000 in
set_option maxHeartbeats 8000000 in
theorem empty_any (p : PD) (hp : PDok p) (bv : Value) (w : World) (hbv : VsAt w 0 bv p.but) :
    Calls Tryz.prog 299 #[.agg (pcl p bv).toArray] w fun e w' => e = .returned (.bool (emptyD p)) ∧ Below w.heap.size w w' := by
  have HC := Lib.hid (fun W => cmp_any p.lo p.hi hp.lo.pre hp.hi.pre W)
  have HH := Lib.hid (fun W (h : VsAt W 0 bv p.but) => has_any p hp p.lo hp.lo bv W h)
  have CV := Lib.hid (cmpV_val p.lo p.hi)
  have HBV := Lib.hid hbv
  obtain ⟨r, hr⟩ : ∃ r, r = emptyD p := ⟨_, rfl⟩
  obtain ⟨q, hq⟩ : ∃ q, q = hasD p p.lo := ⟨_, rfl⟩
  rw [← hq] at HH
  rw [← hr]
  unfold emptyD at hr
  rw [← hq] at hr
  have HR := Lib.hid hr
  have HM := Aside0.mk (Blks.start w)
  obtain ⟨A, c, rfl, _⟩ := row_val hbv
  clear hr hq hp hbv
  generalize hc1 : cmpV p.lo p.hi = c1 at *
  clear hc1
  obtain ⟨lo, hi, hl, hh, wl, wh, but⟩ := p
  dsimp only [SV.cells, pcl] at HC HH HR HBV ⊢
  obtain ⟨n, hn⟩ : ∃ n, but.length = n := ⟨_, rfl⟩
  rw [hn] at HBV HH ⊢
  clear hn
  go_enter Tryz.func299, Tryz.ntmps299
  go_upto_region 1 with ((with_reducible refine id_box ?_); (refine n_bx (x := .tmp 0) ?_; clear HM; intro b1 wq HM))
  have k12 := n_cell (b := b1) (o := 12); have k13 := n_cell (b := b1) (o := 13)
  cases hl with
  | false =>
    go_wp2_with (first | ((with_reducible refine id_load ?_); refine n_ld1 ?_))
    go_ret
    exact ⟨by rw [HR.out]; rfl, HM.out.bel⟩
  | true =>
  cases hh with
  | false =>
    go_wp2_with (first | ((with_reducible refine id_load ?_); refine n_ld1 ?_))
    go_ret
    exact ⟨by rw [HR.out]; rfl, HM.out.bel⟩
  | true =>
    go_upto_region 3 with (first | ((with_reducible refine id_load ?_); refine n_ld1 ?_))
    clear k12 k13
    rcases CV.out with hc | hc | hc
    · rw [hc] at HC HR
      clear hc
      go_wp2_with (first | ((with_reducible refine id_load ?_); refine n_ld1 ?_) | ((with_reducible refine id_load ?_); refine n_ld ?_) | (go_at_call 209; ((with_reducible refine (HC.out _).mono ?_); rintro e wc ⟨rfl, hb⟩; replace HM := n_call hb; clear hb)))
      go_ret
      exact ⟨by rw [HR.out]; rfl, HM.out.bel⟩
    · rw [hc] at HC HR
      clear hc
      cases wl with
      | false =>
        go_upto_region 4 with (first | ((with_reducible refine id_load ?_); refine n_ld1 ?_) | ((with_reducible refine id_load ?_); refine n_ld ?_) | (go_at_call 209; ((with_reducible refine (HC.out _).mono ?_); rintro e wc ⟨rfl, hb⟩; replace HM := n_call hb; clear hb)))
        have k14 := n_cell (b := b1) (o := 14); have k15 := n_cell (b := b1) (o := 15)
        go_wp2_with (first | ((with_reducible refine id_load ?_); refine n_ld1 ?_))
        go_ret
        exact ⟨by rw [HR.out]; rfl, HM.out.bel⟩
      | true =>
        cases wh with
        | false =>
          go_upto_region 4 with (first | ((with_reducible refine id_load ?_); refine n_ld1 ?_) | ((with_reducible refine id_load ?_); refine n_ld ?_) | (go_at_call 209; ((with_reducible refine (HC.out _).mono ?_); rintro e wc ⟨rfl, hb⟩; replace HM := n_call hb; clear hb)))
          have k14 := n_cell (b := b1) (o := 14); have k15 := n_cell (b := b1) (o := 15)
          go_wp2_with (first | ((with_reducible refine id_load ?_); refine n_ld1 ?_))
          go_ret
          exact ⟨by rw [HR.out]; rfl, HM.out.bel⟩
        | true =>
          go_upto_region 4 with (first | ((with_reducible refine id_load ?_); refine n_ld1 ?_) | ((with_reducible refine id_load ?_); refine n_ld ?_) | (go_at_call 209; ((with_reducible refine (HC.out _).mono ?_); rintro e wc ⟨rfl, hb⟩; replace HM := n_call hb; clear hb)))
          have k0 := n_cell (b := b1) (o := 0); have k1 := n_cell (b := b1) (o := 1); have k2 := n_cell (b := b1) (o := 2); have k3 := n_cell (b := b1) (o := 3); have k4 := n_cell (b := b1) (o := 4); have k5 := n_cell (b := b1) (o := 5); have k6 := n_cell (b := b1) (o := 6); have k7 := n_cell (b := b1) (o := 7); have k8 := n_cell (b := b1) (o := 8); have k9 := n_cell (b := b1) (o := 9); have k10 := n_cell (b := b1) (o := 10); have k11 := n_cell (b := b1) (o := 11); have k12 := n_cell (b := b1) (o := 12); have k13 := n_cell (b := b1) (o := 13); have k14 := n_cell (b := b1) (o := 14); have k15 := n_cell (b := b1) (o := 15); have k16 := n_cell (b := b1) (o := 16)
          go_wp2_with (first | (go_at_call 300; ((with_reducible refine (HH.out _ (row_keep HBV.out n_bel)).mono ?_); rintro e wd ⟨rfl, hb⟩; replace HM := n_call hb; clear hb)) | ((with_reducible refine id_load ?_); refine n_ld1 ?_))
          go_ret
          exact ⟨by rw [HR.out]; cases q <;> rfl, HM.out.bel⟩
    · rw [hc] at HC HR
      clear hc
      go_wp2_with (first | ((with_reducible refine id_load ?_); refine n_ld1 ?_) | ((with_reducible refine id_load ?_); refine n_ld ?_) | (go_at_call 209; ((with_reducible refine (HC.out _).mono ?_); rintro e wc ⟨rfl, hb⟩; replace HM := n_call hb; clear hb)))
      go_ret
      exact ⟨by rw [HR.out]; rfl, HM.out.bel⟩
end Go.Proofs.YtgoeiflddikihaaGreatDoor.Ver
end
