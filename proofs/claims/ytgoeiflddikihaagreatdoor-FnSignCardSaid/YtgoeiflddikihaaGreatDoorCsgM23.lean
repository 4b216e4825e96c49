/- Merged by program out of: PBoth. -/
import Derived.Test.YtgoeiflddikihaaGreatDoorCsgM3
import Derived.Test.YtgoeiflddikihaaGreatDoorCsgM15
import Derived.RegionTactic
import Derived.BigRegion
import Derived.Deep.Cut
import Derived.Deep.CutRange
section
namespace Go.Proofs.YtgoeiflddikihaaGreatDoor.Ver
set_option linter.unusedSimpArgs false
set_option linter.unusedVariables false
open Go.RowKit Go.Proofs.YtgoeiflddikihaaGreatDoorW.PrintWords Go.Proofs.YtgoeiflddikihaaGreatDoor.Mem Go.Proofs.YtgoeiflddikihaaGreatDoor.Ord
theorem bothL_f {p q : PD} (h : q.hl = false) : bothL p q = p := by unfold bothL; rw [h]; rfl
theorem bothL_n {p q : PD} (h : q.hl = true) (h2 : p.hl = false ∨ 0 < cmpV q.lo p.lo) : bothL p q = { p with lo := q.lo, hl := true, wl := q.wl } := by unfold bothL; rw [if_pos h, if_pos h2]
theorem bothL_e {p q : PD} (h : q.hl = true) (h1 : p.hl = true) (h2 : cmpV q.lo p.lo = 0) : bothL p q = { p with wl := p.wl && q.wl } := by
 unfold bothL; rw [if_pos h, if_neg, if_pos h2]; rintro (e | e)
 ·rw [h1] at e; cases e
 ·omega
theorem bothL_k {p q : PD} (h : q.hl = true) (h1 : p.hl = true) (h2 : ¬ 0 < cmpV q.lo p.lo) (h3 : cmpV q.lo p.lo ≠ 0) : bothL p q = p := by
 unfold bothL; rw [if_pos h, if_neg, if_neg h3]; rintro (e | e)
 ·rw [h1] at e; cases e
 ·exact h2 e
theorem bothH_f {p q : PD} (h : q.hh = false) : bothH p q = p := by unfold bothH; rw [h]; rfl
theorem bothH_n {p q : PD} (h : q.hh = true) (h2 : p.hh = false ∨ cmpV q.hi p.hi < 0) : bothH p q = { p with hi := q.hi, hh := true, wh := q.wh } := by unfold bothH; rw [if_pos h, if_pos h2]
theorem bothH_e {p q : PD} (h : q.hh = true) (h1 : p.hh = true) (h2 : cmpV q.hi p.hi = 0) : bothH p q = { p with wh := p.wh && q.wh } := by
 unfold bothH; rw [if_pos h, if_neg, if_pos h2]; rintro (e | e)
 ·rw [h1] at e; cases e
 ·omega
theorem bothH_k {p q : PD} (h : q.hh = true) (h1 : p.hh = true) (h2 : ¬ cmpV q.hi p.hi < 0) (h3 : cmpV q.hi p.hi ≠ 0) : bothH p q = p := by
 unfold bothH; rw [if_pos h, if_neg, if_neg h3]; rintro (e | e)
 ·rw [h1] at e; cases e
 ·exact h2 e
theorem bothL_but (p q : PD) : (bothL p q).but = p.but := by unfold bothL; split <;> (try split) <;> (try split) <;> rfl
theorem bothH_but (p q : PD) : (bothH p q).but = p.but := by unfold bothH; split <;> (try split) <;> (try split) <;> rfl
theorem bothL_ok {p q : PD} (hp : PDok p) (hq : PDok q) : PDok (bothL p q) := by
 unfold bothL; split <;> (try split) <;> (try split) <;> first | exact hp | exact ⟨hq.lo, hp.hi, hp.but⟩ | exact ⟨hp.lo, hp.hi, hp.but⟩
theorem bothH_ok {p q : PD} (hp : PDok p) (hq : PDok q) : PDok (bothH p q) := by
 unfold bothH; split <;> (try split) <;> (try split) <;> first | exact hp | exact ⟨hp.lo, hq.hi, hp.but⟩ | exact ⟨hp.lo, hp.hi, hp.but⟩
theorem keepB_mem (r : PD) : ∀ (l acc : List SV), ∀ x ∈ keepB r acc l, x ∈ acc ∨ x ∈ l
 | [], acc, x, h => Or.inl h
 | v :: l, acc, x, h => by
  rw [keepB] at h
  rcases keepB_mem r l _ x h with h | h
  ·split at h
   ·rcases List.mem_append.1 h with h | h
    ·exact Or.inl h
    ·exact Or.inr (by rw [List.mem_singleton.1 h]; exact List.mem_cons_self)
   ·exact Or.inl h
  ·exact Or.inr (List.mem_cons_of_mem _ h)
theorem keepB_len (r : PD) : ∀ (l acc : List SV), (keepB r acc l).length ≤ acc.length + l.length
 | [], acc => Nat.le_refl _
 | v :: l, acc => by
  rw [keepB]
  have h1 := keepB_len r l (if hasD { r with but := acc } v then acc ++ [v] else acc)
  have h2 : (if hasD { r with but := acc } v then acc ++ [v] else acc).length ≤ acc.length + 1 := by split <;> simp
  rw [List.length_cons]
  exact Nat.le_trans h1 (by omega)
theorem bothD_ok {p q : PD} (hp : PDok p) (hq : PDok q) : PDok (bothD p q) := by
 have h := bothH_ok (bothL_ok hp hq) hq
 refine ⟨h.lo, h.hi, fun x hx => ?_⟩
 rcases keepB_mem _ _ _ x hx with h1 | h1
 ·cases h1
 ·rcases List.mem_append.1 h1 with h1 | h1
  ·exact hp.but x h1
  ·exact hq.but x h1
theorem _root_.Go.Proofs.YtgoeiflddikihaaGreatDoor.Mem.Blks.put {w0 w : World} {L L' : List Blk} (h : Blks w0 w L) {b o : Nat} {cs vs cs' : List Value} {t : TypeId} (hm : (b, cs, t) ∈ L) (hw : Wr cs o vs cs') (hu : Up L b cs t cs' L') : Blks w0 (w.setCells b o vs) L' := h.set hw hu
theorem _root_.Go.Proofs.YtgoeiflddikihaaGreatDoor.Mem.Blks.froz {w0 w : World} {L : List Blk} (h : Blks w0 w L) {b : Nat} {cs : List Value} {t : TypeId} (hm : (b, cs, t) ∈ L) (o : Nat) : w.frozen? ⟨b, o, none⟩ = false := by
 have hb := h.has _ hm
 simp [World.frozen?, hb]
section
variable {P : Program} {ops : Array Oper} {a : Act} {w0 w : World} {K : Act → World → Prop} {Q : Exit → Act → World → Prop} {L L' : List Blk} {E : Prop}
variable {d : Option Tmp} {tt : TypeId} {pos : String} {af : Array Edge}
theorem d_load1 {ty : TypeId} {x : Operand} {b off : Nat} {cs : List Value} {v : Value} {t : TypeId} {S : World → Prop} (hw : Region.wanted ⟨d, .load ty x, tt, pos, af, none⟩ (yielded ops a.tmps) = true)
  (hx : a.eval x = .pointer (some ⟨b, off, none⟩)) (hS : ∀ w, S w → Blks w0 w L) (hm : (b, cs, t) ∈ L) [ht : OneC P ty] (hr : Rd cs off 1 [v]) :
  YieldsIf P ops S ⟨d, .load ty x, tt, pos, af, none⟩ v a := by
 refine .inl ⟨hw, fun w hw' => ?_⟩
 obtain ⟨d', hu, hd⟩ := ht.out.row
 have hc : w.cell? ⟨b, off, none⟩ = some v := ((hS w hw').range hm hr) 0 v rfl
 unfold execOp
 have hrun : (loadVar ty ⟨b, off, none⟩).run P w = .ok v w := by
  have hs := ht.out.size
  cases hq : P.info? ty with
  | none => simp [hq] at hs
  | some i =>
   have hs : i.size = 1 := by simpa [hq] using hs
   cases d' <;> first
    | (simp [TypeDesc.isRow] at hd; done)
    | (simp [loadVar, isAgg, sizeOf, typeInfo, hq, hs, run_underlying hu, hc, loadCells, go_sem]; done)
 simp only [hx, Instr.loadAt, Instr.sureAddr, Sem.run_bind, Sem.run_pure, Result.andThen_ok, hrun]
theorem e_append {s x : Operand} {t tx : TypeId} {sv xv v' : Value} {w' : World} (hs : a.eval s = sv) (hx : a.eval x = xv) (hrun : (Builtin.append_ #[t, tx] tt #[sv, xv]).run P w = .ok v' w') (h : K (a.put d v') w') :
  Oper.wp P ⟨d, .call { callee := .builtin .append, args := #[s, x], argTypes := #[t, tx] }, tt, pos, af, none⟩ a w K Q := by
 unfold Oper.wp execOp
 simp only [resolve, invoke, builtin, Sem.run_bind, Sem.run_pure, Result.andThen_ok, List.map_toArray, List.map_cons, List.map_nil, hs, hx, hrun]
 exact h
theorem d_field {ty : TypeId} {x : Operand} {k b off off' : Nat} {S : World → Prop} (hw : Region.wanted ⟨d, .fieldAddr ty x k, tt, pos, af, none⟩ (yielded ops a.tmps) = true)
  (hx : a.eval x = .pointer (some ⟨b, off, none⟩)) (hf : ∀ w, (Instr.fieldAt ty (.pointer (some ⟨b, off, none⟩)) k).run P w = .ok (.pointer (some ⟨b, off', none⟩)) w) :
  YieldsIf P ops S ⟨d, .fieldAddr ty x k, tt, pos, af, none⟩ (.pointer (some ⟨b, off', none⟩)) a := by
 refine .inl ⟨hw, fun w _ => ?_⟩
 unfold execOp
 simp only [hx, Sem.run_bind, Sem.run_pure, Result.andThen_ok, hf]
end
set_option maxRecDepth 20000 in
set_option maxHeartbeats 16000000 in
theorem both_any (p q : PD) (hp : PDok p) (hq : PDok q) (bp bq : Value) (w : World) (hbp : VsAt w 0 bp p.but) (hbq : VsAt w 0 bq q.but) (hlen : p.but.length + q.but.length ≤ 1000000) :
  Calls Tryz.prog 298 #[.agg (pcl p bp).toArray, .agg (pcl q bq).toArray] w fun e w' => (∃ bv, e = .returned (.agg (pcl (bothD p q) bv).toArray) ∧ VsAt w' w.heap.size bv (bothD p q).but) ∧ Below w.heap.size w w' := by
 have HOKL := Lib.hid (bothL_ok hp hq)
 have HOK := Lib.hid (bothH_ok (bothL_ok hp hq) hq)
 have HC1 := Lib.hid (fun W => cmp_any q.lo p.lo hq.lo.pre hp.lo.pre W)
 have HC2 := Lib.hid (fun W => cmp_any q.hi (bothL p q).hi hq.hi.pre (bothL_ok hp hq).hi.pre W)
 have CV1 := Lib.hid (cmpV_val q.lo p.lo)
 have CV2 := Lib.hid (cmpV_val q.hi (bothL p q).hi)
 have HALL := Lib.hid (show ∀ x ∈ p.but ++ q.but, SVok x from fun x hx => (List.mem_append.1 hx).elim (hp.but x) (hq.but x))
 have HM := Aside0.mk (Blks.start w)
 obtain ⟨Ap, cp, rfl, _⟩ := row_val hbp
 obtain ⟨Aq, cq, rfl, _⟩ := row_val hbq
 obtain ⟨np, hnp⟩ : ∃ n, p.but.length = n := ⟨_, rfl⟩
 obtain ⟨nq, hnq⟩ : ∃ n, q.but.length = n := ⟨_, rfl⟩
 have HBP := Lib.hid (show w.ownsRow 0 197 6 (.slice Ap p.but.length cp) p.but.length (flatV p.but) from hbp)
 have HBQ := Lib.hid (show w.ownsRow 0 197 6 (.slice Aq q.but.length cq) q.but.length (flatV q.but) from hbq)
 rw [hnp] at HBP hlen ⊢
 rw [hnq] at HBQ hlen ⊢
 have HNP := Lib.hid hnp
 have HNQ := Lib.hid hnq
 have HLEN := Lib.hid hlen
 clear hp hq hbp hbq hlen hnp hnq
 have HBE := Lib.hid (show ∀ r, r = bothL p q → r.but = p.but from fun r h => by rw [h, bothL_but])
 obtain ⟨plo, phi, phl, phh, pwl, pwh, pbut⟩ := p
 obtain ⟨qlo, qhi, qhl, qhh, qwl, qwh, qbut⟩ := q
 dsimp only [SV.cells] at HC1 HC2
 go_enter Tryz.func298, Tryz.ntmps298
 go_upto_if 11 with (first | ((with_reducible refine id_box ?_); (refine n_bx (x := .tmp 0) ?_; clear HM; intro b2 wq HM)) | ((with_reducible refine id_box ?_); (refine n_bx (x := .tmp 1) ?_; clear HM; intro b3 wq HM)) | ((with_reducible refine id_alloc ?_); (refine n_al ?_; clear HM; intro b4 wq HM)) | ((with_reducible refine id_load ?_); refine n_ld1 ?_))
 go_simp
 go_cut [4] from 4 to 36 (fun v4 wx => v4 = .pointer (some ⟨b4, 0, none⟩) ∧ Aside0 (Blks w wx [(b4, zPc.toList, 242), (b3, pcl ⟨qlo, qhi, qhl, qhh, qwl, qwh, qbut⟩ (.slice Aq nq cq), 242), (b2, pcl (bothL ⟨plo, phi, phl, phh, pwl, pwh, pbut⟩ ⟨qlo, qhi, qhl, qhh, qwl, qwh, qbut⟩) (.slice Ap np cp), 242)]))
 case first =>
  cases qhl with
  | false =>
   go_wp2_with fail
   go_meet
   case rel => exact ⟨rfl, ⟨by rw [bothL_f rfl]; exact n_own⟩⟩
  | true =>
   cases phl with
   | false =>
    go_upto_region 6 with (first | ((with_reducible refine id_load ?_); refine n_ld1 ?_))
    have x0 := n_cell (b := b3) (o := 0)
    have x1 := n_cell (b := b3) (o := 1)
    have x2 := n_cell (b := b3) (o := 2)
    have x3 := n_cell (b := b3) (o := 3)
    have x4 := n_cell (b := b3) (o := 4)
    have x5 := n_cell (b := b3) (o := 5)
    have x14 := n_cell (b := b3) (o := 14)
    have y0 := n_cell (b := b2) (o := 0)
    have y1 := n_cell (b := b2) (o := 1)
    have y2 := n_cell (b := b2) (o := 2)
    have y3 := n_cell (b := b2) (o := 3)
    have y4 := n_cell (b := b2) (o := 4)
    have y5 := n_cell (b := b2) (o := 5)
    have y12 := n_cell (b := b2) (o := 12)
    have y14 := n_cell (b := b2) (o := 14)
    have f0 := Blks.froz HM.out (b := b2) n_mem 0
    have f1 := Blks.froz HM.out (b := b2) n_mem 1
    have f2 := Blks.froz HM.out (b := b2) n_mem 2
    have f3 := Blks.froz HM.out (b := b2) n_mem 3
    have f4 := Blks.froz HM.out (b := b2) n_mem 4
    have f5 := Blks.froz HM.out (b := b2) n_mem 5
    have f12 := Blks.froz HM.out (b := b2) n_mem 12
    have f14 := Blks.froz HM.out (b := b2) n_mem 14
    have S1 := Aside0.mk (Blks.put (b := b2) (o := 0) (vs := [.int .u64 qlo.major, .int .u64 qlo.minor, .int .u64 qlo.patch, .string qlo.pre, .string qlo.mt, .string qlo.orig]) HM.out n_mem (by repeat (first | exact Wr.nil | apply Wr.here | apply Wr.skip)) (by repeat (first | exact Up.here | apply Up.skip)))
    have S2 := Aside0.mk (Blks.put (b := b2) (o := 12) (vs := [.bool true]) S1.out n_mem (by repeat (first | exact Wr.nil | apply Wr.here | apply Wr.skip)) (by repeat (first | exact Up.here | apply Up.skip)))
    have S3 := Aside0.mk (Blks.put (b := b2) (o := 14) (vs := [.bool qwl]) S2.out n_mem (by repeat (first | exact Wr.nil | apply Wr.here | apply Wr.skip)) (by repeat (first | exact Up.here | apply Up.skip)))
    have HN := Aside0.mk (Blks.drew S3.out)
    clear S1 S2 S3
    go_region
    go_wp2_with fail
    go_meet
    case rel => exact ⟨rfl, ⟨by rw [bothL_n rfl (Or.inl rfl)]; exact HN.out⟩⟩
   | true =>
    rcases CV1.out with hc | hc | hc
    ·have HCX := Lib.hid hc
     rw [hc] at HC1
     clear hc
     go_wp2_with (first | ((with_reducible refine id_load ?_); refine n_ld1 ?_) | ((with_reducible refine id_load ?_); refine n_ld ?_) | (go_at_call 209; ((with_reducible refine (HC1.out _).mono ?_); rintro e wc ⟨rfl, hb⟩; replace HM := n_call hb; clear hb)))
     go_meet
     case rel => exact ⟨rfl, ⟨by rw [bothL_k rfl rfl (by rw [HCX.out]; decide) (by rw [HCX.out]; decide)]; exact n_own⟩⟩
    ·have HCX := Lib.hid hc
     rw [hc] at HC1
     clear hc
     go_upto_region 8 with (first | ((with_reducible refine id_load ?_); refine n_ld1 ?_) | ((with_reducible refine id_load ?_); refine n_ld ?_) | (go_at_call 209; ((with_reducible refine (HC1.out _).mono ?_); rintro e wc ⟨rfl, hb⟩; replace HM := n_call hb; clear hb)))
     have k1 := n_cell (b := b3) (o := 14)
     cases pwl
     ·go_wp2_with (first | ((with_reducible refine id_load ?_); refine n_ld1 ?_) | ((with_reducible refine id_store ?_); (refine n_st1 ?_; clear HM; intro wq HM)))
      go_meet
      case rel => exact ⟨rfl, ⟨by rw [bothL_e rfl rfl HCX.out]; exact n_own⟩⟩
     ·go_wp2_with (first | ((with_reducible refine id_load ?_); refine n_ld1 ?_) | ((with_reducible refine id_store ?_); (refine n_st1 ?_; clear HM; intro wq HM)))
      go_meet
      case rel => exact ⟨rfl, ⟨by rw [bothL_e rfl rfl HCX.out]; exact n_own⟩⟩
    ·have HCX := Lib.hid hc
     rw [hc] at HC1
     clear hc
     go_upto_region 6 with (first | ((with_reducible refine id_load ?_); refine n_ld1 ?_) | ((with_reducible refine id_load ?_); refine n_ld ?_) | (go_at_call 209; ((with_reducible refine (HC1.out _).mono ?_); rintro e wc ⟨rfl, hb⟩; replace HM := n_call hb; clear hb)))
     have x0 := n_cell (b := b3) (o := 0)
     have x1 := n_cell (b := b3) (o := 1)
     have x2 := n_cell (b := b3) (o := 2)
     have x3 := n_cell (b := b3) (o := 3)
     have x4 := n_cell (b := b3) (o := 4)
     have x5 := n_cell (b := b3) (o := 5)
     have x14 := n_cell (b := b3) (o := 14)
     have y0 := n_cell (b := b2) (o := 0)
     have y1 := n_cell (b := b2) (o := 1)
     have y2 := n_cell (b := b2) (o := 2)
     have y3 := n_cell (b := b2) (o := 3)
     have y4 := n_cell (b := b2) (o := 4)
     have y5 := n_cell (b := b2) (o := 5)
     have y12 := n_cell (b := b2) (o := 12)
     have y14 := n_cell (b := b2) (o := 14)
     have f0 := Blks.froz HM.out (b := b2) n_mem 0
     have f1 := Blks.froz HM.out (b := b2) n_mem 1
     have f2 := Blks.froz HM.out (b := b2) n_mem 2
     have f3 := Blks.froz HM.out (b := b2) n_mem 3
     have f4 := Blks.froz HM.out (b := b2) n_mem 4
     have f5 := Blks.froz HM.out (b := b2) n_mem 5
     have f12 := Blks.froz HM.out (b := b2) n_mem 12
     have f14 := Blks.froz HM.out (b := b2) n_mem 14
     have S1 := Aside0.mk (Blks.put (b := b2) (o := 0) (vs := [.int .u64 qlo.major, .int .u64 qlo.minor, .int .u64 qlo.patch, .string qlo.pre, .string qlo.mt, .string qlo.orig]) HM.out n_mem (by repeat (first | exact Wr.nil | apply Wr.here | apply Wr.skip)) (by repeat (first | exact Up.here | apply Up.skip)))
     have S2 := Aside0.mk (Blks.put (b := b2) (o := 12) (vs := [.bool true]) S1.out n_mem (by repeat (first | exact Wr.nil | apply Wr.here | apply Wr.skip)) (by repeat (first | exact Up.here | apply Up.skip)))
     have S3 := Aside0.mk (Blks.put (b := b2) (o := 14) (vs := [.bool qwl]) S2.out n_mem (by repeat (first | exact Wr.nil | apply Wr.here | apply Wr.skip)) (by repeat (first | exact Up.here | apply Up.skip)))
     have HN := Aside0.mk (Blks.drew S3.out)
     clear S1 S2 S3
     go_region
     go_wp2_with fail
     go_meet
     case rel => exact ⟨rfl, ⟨by rw [bothL_n rfl (Or.inr (by rw [HCX.out]; decide))]; exact HN.out⟩⟩
 case rest =>
 clear HM
 obtain ⟨rfl, HM⟩ := hcut
 obtain ⟨r, hr⟩ : ∃ r, r = bothL ⟨plo, phi, phl, phh, pwl, pwh, pbut⟩ ⟨qlo, qhi, qhl, qhh, qwl, qwh, qbut⟩ := ⟨_, rfl⟩
 have hbe := HBE.out r hr
 rw [← hr] at HM HC2 CV2 HOK
 have HR1 := Lib.hid hr
 clear hr HBE HOKL HC1 CV1
 obtain ⟨rlo, rhi, rhl, rhh, rwl, rwh, rbut⟩ := r
 dsimp only at hbe HC2 CV2
 subst hbe
 go_upto_if 38 with (first | ((with_reducible refine id_load ?_); refine n_ld1 ?_))
 go_simp
 go_cut [4] from 4 to 63 (fun v4 wx => v4 = .pointer (some ⟨b4, 0, none⟩) ∧ Aside0 (Blks w wx [(b4, zPc.toList, 242), (b3, pcl ⟨qlo, qhi, qhl, qhh, qwl, qwh, qbut⟩ (.slice Aq nq cq), 242), (b2, pcl (bothH ⟨rlo, rhi, rhl, rhh, rwl, rwh, rbut⟩ ⟨qlo, qhi, qhl, qhh, qwl, qwh, qbut⟩) (.slice Ap np cp), 242)]))
 case first =>
  cases qhh with
  | false =>
   go_wp2_with fail
   go_meet
   case rel => exact ⟨rfl, ⟨by rw [bothH_f rfl]; exact n_own⟩⟩
  | true =>
   cases rhh with
   | false =>
    go_upto_region 14 with (first | ((with_reducible refine id_load ?_); refine n_ld1 ?_))
    have x6 := n_cell (b := b3) (o := 6)
    have x7 := n_cell (b := b3) (o := 7)
    have x8 := n_cell (b := b3) (o := 8)
    have x9 := n_cell (b := b3) (o := 9)
    have x10 := n_cell (b := b3) (o := 10)
    have x11 := n_cell (b := b3) (o := 11)
    have x15 := n_cell (b := b3) (o := 15)
    have y6 := n_cell (b := b2) (o := 6)
    have y7 := n_cell (b := b2) (o := 7)
    have y8 := n_cell (b := b2) (o := 8)
    have y9 := n_cell (b := b2) (o := 9)
    have y10 := n_cell (b := b2) (o := 10)
    have y11 := n_cell (b := b2) (o := 11)
    have y13 := n_cell (b := b2) (o := 13)
    have y15 := n_cell (b := b2) (o := 15)
    have f6 := Blks.froz HM.out (b := b2) n_mem 6
    have f7 := Blks.froz HM.out (b := b2) n_mem 7
    have f8 := Blks.froz HM.out (b := b2) n_mem 8
    have f9 := Blks.froz HM.out (b := b2) n_mem 9
    have f10 := Blks.froz HM.out (b := b2) n_mem 10
    have f11 := Blks.froz HM.out (b := b2) n_mem 11
    have f13 := Blks.froz HM.out (b := b2) n_mem 13
    have f15 := Blks.froz HM.out (b := b2) n_mem 15
    have S1 := Aside0.mk (Blks.put (b := b2) (o := 6) (vs := [.int .u64 qhi.major, .int .u64 qhi.minor, .int .u64 qhi.patch, .string qhi.pre, .string qhi.mt, .string qhi.orig]) HM.out n_mem (by repeat (first | exact Wr.nil | apply Wr.here | apply Wr.skip)) (by repeat (first | exact Up.here | apply Up.skip)))
    have S2 := Aside0.mk (Blks.put (b := b2) (o := 13) (vs := [.bool true]) S1.out n_mem (by repeat (first | exact Wr.nil | apply Wr.here | apply Wr.skip)) (by repeat (first | exact Up.here | apply Up.skip)))
    have S3 := Aside0.mk (Blks.put (b := b2) (o := 15) (vs := [.bool qwh]) S2.out n_mem (by repeat (first | exact Wr.nil | apply Wr.here | apply Wr.skip)) (by repeat (first | exact Up.here | apply Up.skip)))
    have HN := Aside0.mk (Blks.drew S3.out)
    clear S1 S2 S3
    go_region
    go_wp2_with fail
    go_meet
    case rel => exact ⟨rfl, ⟨by rw [bothH_n rfl (Or.inl rfl)]; exact HN.out⟩⟩
   | true =>
    rcases CV2.out with hc | hc | hc
    ·have HCX := Lib.hid hc
     rw [hc] at HC2
     clear hc
     go_upto_region 14 with (first | ((with_reducible refine id_load ?_); refine n_ld1 ?_) | ((with_reducible refine id_load ?_); refine n_ld ?_) | (go_at_call 209; ((with_reducible refine (HC2.out _).mono ?_); rintro e wc ⟨rfl, hb⟩; replace HM := n_call hb; clear hb)))
     have x6 := n_cell (b := b3) (o := 6)
     have x7 := n_cell (b := b3) (o := 7)
     have x8 := n_cell (b := b3) (o := 8)
     have x9 := n_cell (b := b3) (o := 9)
     have x10 := n_cell (b := b3) (o := 10)
     have x11 := n_cell (b := b3) (o := 11)
     have x15 := n_cell (b := b3) (o := 15)
     have y6 := n_cell (b := b2) (o := 6)
     have y7 := n_cell (b := b2) (o := 7)
     have y8 := n_cell (b := b2) (o := 8)
     have y9 := n_cell (b := b2) (o := 9)
     have y10 := n_cell (b := b2) (o := 10)
     have y11 := n_cell (b := b2) (o := 11)
     have y13 := n_cell (b := b2) (o := 13)
     have y15 := n_cell (b := b2) (o := 15)
     have f6 := Blks.froz HM.out (b := b2) n_mem 6
     have f7 := Blks.froz HM.out (b := b2) n_mem 7
     have f8 := Blks.froz HM.out (b := b2) n_mem 8
     have f9 := Blks.froz HM.out (b := b2) n_mem 9
     have f10 := Blks.froz HM.out (b := b2) n_mem 10
     have f11 := Blks.froz HM.out (b := b2) n_mem 11
     have f13 := Blks.froz HM.out (b := b2) n_mem 13
     have f15 := Blks.froz HM.out (b := b2) n_mem 15
     have S1 := Aside0.mk (Blks.put (b := b2) (o := 6) (vs := [.int .u64 qhi.major, .int .u64 qhi.minor, .int .u64 qhi.patch, .string qhi.pre, .string qhi.mt, .string qhi.orig]) HM.out n_mem (by repeat (first | exact Wr.nil | apply Wr.here | apply Wr.skip)) (by repeat (first | exact Up.here | apply Up.skip)))
     have S2 := Aside0.mk (Blks.put (b := b2) (o := 13) (vs := [.bool true]) S1.out n_mem (by repeat (first | exact Wr.nil | apply Wr.here | apply Wr.skip)) (by repeat (first | exact Up.here | apply Up.skip)))
     have S3 := Aside0.mk (Blks.put (b := b2) (o := 15) (vs := [.bool qwh]) S2.out n_mem (by repeat (first | exact Wr.nil | apply Wr.here | apply Wr.skip)) (by repeat (first | exact Up.here | apply Up.skip)))
     have HN := Aside0.mk (Blks.drew S3.out)
     clear S1 S2 S3
     go_region
     go_wp2_with fail
     go_meet
     case rel => exact ⟨rfl, ⟨by rw [bothH_n rfl (Or.inr (by rw [HCX.out]; decide))]; exact HN.out⟩⟩
    ·have HCX := Lib.hid hc
     rw [hc] at HC2
     clear hc
     go_upto_region 16 with (first | ((with_reducible refine id_load ?_); refine n_ld1 ?_) | ((with_reducible refine id_load ?_); refine n_ld ?_) | (go_at_call 209; ((with_reducible refine (HC2.out _).mono ?_); rintro e wc ⟨rfl, hb⟩; replace HM := n_call hb; clear hb)))
     have k1 := n_cell (b := b3) (o := 15)
     cases rwh
     ·go_wp2_with (first | ((with_reducible refine id_load ?_); refine n_ld1 ?_) | ((with_reducible refine id_store ?_); (refine n_st1 ?_; clear HM; intro wq HM)))
      go_meet
      case rel => exact ⟨rfl, ⟨by rw [bothH_e rfl rfl HCX.out]; exact n_own⟩⟩
     ·go_wp2_with (first | ((with_reducible refine id_load ?_); refine n_ld1 ?_) | ((with_reducible refine id_store ?_); (refine n_st1 ?_; clear HM; intro wq HM)))
      go_meet
      case rel => exact ⟨rfl, ⟨by rw [bothH_e rfl rfl HCX.out]; exact n_own⟩⟩
    ·have HCX := Lib.hid hc
     rw [hc] at HC2
     clear hc
     go_wp2_with (first | ((with_reducible refine id_load ?_); refine n_ld1 ?_) | ((with_reducible refine id_load ?_); refine n_ld ?_) | (go_at_call 209; ((with_reducible refine (HC2.out _).mono ?_); rintro e wc ⟨rfl, hb⟩; replace HM := n_call hb; clear hb)))
     go_meet
     case rel => exact ⟨rfl, ⟨by rw [bothH_k rfl rfl (by rw [HCX.out]; decide) (by rw [HCX.out]; decide)]; exact n_own⟩⟩
 case rest =>
 clear HM
 obtain ⟨rfl, HM⟩ := hcut
 obtain ⟨s, hs⟩ : ∃ s, s = bothH ⟨rlo, rhi, rhl, rhh, rwl, rwh, rbut⟩ ⟨qlo, qhi, qhl, qhh, qwl, qwh, qbut⟩ := ⟨_, rfl⟩
 have hse : s.but = rbut := by rw [hs, bothH_but]
 rw [← hs] at HM HOK
 have HS1 := Lib.hid hs
 clear hs HC2 CV2
 obtain ⟨slo, shi, shl, shh, swl, swh, sbut⟩ := s
 dsimp only at hse
 subst hse
 have hnp := HNP.out
 have hnq := HNQ.out
 dsimp only at hnp hnq
 go_upto_region 17 with fail
 go_simp
 go_cut [7] from 7 to 69 (fun v7 wx => ∃ X, Hid (SlB 197 6 (np + nq) (flatV (sbut ++ qbut)) v7 X) ∧ Aside0 (Blks w wx ((b4, zPc.toList, 242) :: (b3, pcl ⟨qlo, qhi, qhl, qhh, qwl, qwh, qbut⟩ (.slice Aq nq cq), 242) :: (b2, pcl ⟨slo, shi, shl, shh, swl, swh, sbut⟩ (.slice Ap np cp), 242) :: X)))
 case first =>
  refine wp_region_held_drew (S := fun w' => Blks w w' [(b4, zPc.toList, 242), (b3, pcl ⟨qlo, qhi, qhl, qhh, qwl, qwh, qbut⟩ (.slice Aq nq cq), 242), (b2, pcl ⟨slo, shi, shl, shh, swl, swh, sbut⟩ (.slice Ap np cp), 242)]) (by kernel_rfl) (Blks.drew HM.out) (fun hS => ?_)
  have HS0 := Aside0.mk hS
  clear hS HM
  refine wpAnyH_take (i := 0) (v := .pointer (some ⟨b2, 16, none⟩)) rfl (by kernel_rfl) (by kernel_rfl) (by kernel_rfl) (fun _ _ _ h => h) (d_field (b := b2) (off := 0) (by rfl) (by rfl) (fun w => by kernel_rfl)) HS0.out ?_
  (try simp only [Act.put, List.setIfInBounds_toArray, List.set_cons_zero, List.set_cons_succ])
  refine wpAnyH_take (i := 1) (v := .slice Ap np cp) rfl (by kernel_rfl) (by kernel_rfl) (by kernel_rfl) (fun _ _ _ h => h) (d_load1 (w0 := w) (by rfl) (by rfl) (fun w h => h) n_mem n_rd) HS0.out ?_
  (try simp only [Act.put, List.setIfInBounds_toArray, List.set_cons_zero, List.set_cons_succ])
  refine wpAnyH_take (i := 3) (v := .pointer (some ⟨b3, 16, none⟩)) rfl (by kernel_rfl) (by kernel_rfl) (by kernel_rfl) (fun _ _ _ h => h) (d_field (b := b3) (off := 0) (by rfl) (by rfl) (fun w => by kernel_rfl)) HS0.out ?_
  (try simp only [Act.put, List.setIfInBounds_toArray, List.set_cons_zero, List.set_cons_succ])
  refine wpAnyH_take (i := 4) (v := .slice Aq nq cq) rfl (by kernel_rfl) (by kernel_rfl) (by kernel_rfl) (fun _ _ _ h => h) (d_load1 (w0 := w) (by rfl) (by rfl) (fun w h => h) n_mem n_rd) HS0.out ?_
  (try simp only [Act.put, List.setIfInBounds_toArray, List.set_cons_zero, List.set_cons_succ])
  have hs1 := row_src (tx := 240) Tryz.underlying240 (row_keep HBP.out HS0.out.bel) (flatV_one _)
  obtain ⟨v1, X1, w1, hr1, hk1, hx1⟩ := sl_append (P := Tryz.prog) (t := 240) (ty := 240) (Y := [(b4, zPc.toList, 242), (b3, pcl ⟨qlo, qhi, qhl, qhh, qwl, qwh, qbut⟩ (.slice Aq nq cq), 242), (b2, pcl ⟨slo, shi, shl, shh, swl, swh, sbut⟩ (.slice Ap np cp), 242)]) (X := []) Tryz.underlying240 infoSv (by decide) rfl (by rw [List.append_nil]; exact HS0.out) (SlB.nil _ _) hs1 (by have := HLEN.out; omega) (by have := HLEN.out; unfold maxLen; omega)
  have hs2 := row_src (tx := 240) Tryz.underlying240 (row_keep HBQ.out hk1.bel) (flatV_one _)
  obtain ⟨v2, X2, w2, hr2, hk2, hx2⟩ := sl_append (P := Tryz.prog) (t := 240) (ty := 240) (Y := [(b4, zPc.toList, 242), (b3, pcl ⟨qlo, qhi, qhl, qhh, qwl, qwh, qbut⟩ (.slice Aq nq cq), 242), (b2, pcl ⟨slo, shi, shl, shh, swl, swh, sbut⟩ (.slice Ap np cp), 242)]) Tryz.underlying240 infoSv (by decide) rfl hk1 hx1 hs2 (by have := HLEN.out; omega) (by have := HLEN.out; unfold maxLen; omega)
  obtain ⟨A1, c1, e1, _⟩ := hx1.val
  obtain ⟨A2, c2, e2, _⟩ := hx2.val
  have HK1 := Aside0.mk hk1
  have HK2 := Aside0.mk hk2
  have HX2 := Lib.hid hx2
  clear hs1 hs2 hk1 hk2 hx1 hx2
  refine wpAnyH_ready (rs := [2]) (by kernel_rfl) (by simp) ?_
  refine AllReadyH.cons (o := ⟨some 66, .call { callee := .builtin .append, args := #[.const (.slice none 0 0), .tmp 65], argTypes := #[240, 240] }, 240, _, _, none⟩) rfl (fun K hK => ?_) AllReadyH.nil
  rw [e1] at hr1 hr2
  rw [e2] at hr2
  simp only [Region.wanted, ↓reduceIte]
  refine e_append rfl rfl hr1 ?_
  refine hK.out _ _ (Blks.less HK1.out (by repeat (first | exact List.nil_sublist _ | apply List.Sublist.cons_cons | apply List.Sublist.cons))) (fun _ => ?_)
  clear hK K
  (try simp only [Act.put, List.setIfInBounds_toArray, List.set_cons_zero, List.set_cons_succ])
  refine wpAnyH_ready (rs := [5]) (by kernel_rfl) (by simp) ?_
  refine AllReadyH.cons (o := ⟨some 69, .call { callee := .builtin .append, args := #[.tmp 66, .tmp 68], argTypes := #[240, 240] }, 240, _, _, none⟩) rfl (fun K hK => ?_) AllReadyH.nil
  simp only [Region.wanted, ↓reduceIte]
  refine e_append rfl rfl hr2 ?_
  refine hK.out _ _ (Blks.less HK2.out (by repeat (first | exact List.nil_sublist _ | apply List.Sublist.cons_cons | apply List.Sublist.cons))) (fun _ => ?_)
  clear hK K
  (try simp only [Act.put, List.setIfInBounds_toArray, List.set_cons_zero, List.set_cons_succ])
  refine wpAnyH_ready (rs := [6]) (by kernel_rfl) (by simp) ?_
  refine AllReadyH.cons rfl (fun K hK => ?_) AllReadyH.nil
  go_simp
  refine hK.out _ _ (Blks.less HK2.out (by repeat (first | exact List.nil_sublist _ | apply List.Sublist.cons_cons | apply List.Sublist.cons))) (fun _ => ?_)
  clear hK K
  (try simp only [Act.put, List.setIfInBounds_toArray, List.set_cons_zero, List.set_cons_succ])
  refine wpAnyH_done (by kernel_rfl) ?_ _
  go_wp2_with fail
  go_meet
  case rel => exact ⟨X2, by rw [e2] at HX2; rw [Nat.zero_add, List.nil_append, ← flatV_app] at HX2; exact HX2, ⟨HK2.out⟩⟩
 case rest =>
 clear HM
 obtain ⟨X, HX, HM⟩ := hcut
 obtain ⟨A7, c7, rfl, _⟩ := HX.out.val
 clear HBP HBQ
 go_upto_region 19 with (first | ((with_reducible refine id_load ?_); refine n_ld1 ?_) | ((with_reducible refine id_store ?_); (refine n_st1 ?_; clear HM; intro wq HM)))
 go_wp2_with fail
 go_loopw [73] (fun v73 wr => ∃ (k : Nat) (acc : List SV) (va : Value) (XA : List Blk), v73 = .int .i64 (k : Int) ∧ k ≤ np + nq ∧ Hid (keepB ⟨slo, shi, shl, shh, swl, swh, sbut⟩ acc ((sbut ++ qbut).drop k) = keepB ⟨slo, shi, shl, shh, swl, swh, sbut⟩ [] (sbut ++ qbut)) ∧ Hid (acc.length ≤ k) ∧ Hid (∀ x ∈ acc, SVok x) ∧ Hid (SlB 197 6 acc.length (flatV acc) va XA) ∧ Aside0 (Blks w wr ((b4, zPc.toList, 242) :: (b3, pcl ⟨qlo, qhi, qhl, qhh, qwl, qwh, qbut⟩ (.slice Aq nq cq), 242) :: (b2, pcl ⟨slo, shi, shl, shh, swl, swh, sbut⟩ va, 242) :: (X ++ XA)))) (fun v _ => (np + nq) - (intOf v).toNat)
 case atStart => exact ⟨0, [], .slice none 0 0, [], rfl, Nat.zero_le _, Lib.hid rfl, Lib.hid (Nat.le_refl _), Lib.hid (by simp), Lib.hid (SlB.nil _ _), ⟨by rw [List.append_nil]; exact n_own⟩⟩
 case round =>
  obtain ⟨k, acc, va, XA, rfl, hk, HK, HLA, HOA, HA, HM1⟩ := hrel
  clear HM
  have HM := HM1
  clear HM1
  obtain ⟨Aa, ca, rfl, _⟩ := HA.out.val
  by_cases hlt : k < np + nq
  ·have hb' : k < (sbut ++ qbut).length := by rw [List.length_append, hnp, hnq]; exact hlt
   obtain ⟨g, cc, hg, hat⟩ := row_at (HX.out.owns HM.out (fun x hx => by simp [hx])) hlt
   rw [flatV_at _ k hb'] at hat
   obtain ⟨rfl, _, rfl⟩ := Value.slice.inj hg
   have HE := Lib.hid hat
   have hxok := HALL.out (sbut ++ qbut)[k] (List.getElem_mem hb')
   have hdr := List.drop_eq_getElem_cons hb'
   have hkk := HK.out
   rw [hdr, keepB] at hkk
   clear hat hg hdr
   generalize (sbut ++ qbut)[k] = x at HE hxok hkk
   have HH := Lib.hid (fun W (hv : VsAt W 0 (.slice Aa acc.length ca) acc) => has_any ⟨slo, shi, shl, shh, swl, swh, acc⟩ ⟨HOK.out.lo, HOK.out.hi, HOA.out⟩ x hxok (.slice Aa acc.length ca) W hv)
   have HKK := Lib.hid hkk
   have HXO := Lib.hid hxok
   clear hkk hxok
   generalize hq : hasD ⟨slo, shi, shl, shh, swl, swh, acc⟩ x = b at HH HKK
   clear hq
   dsimp only [pcl, SV.cells, cellsV] at HE HH
   cases b with
   | false =>
    go_wp2_with (first | ((with_reducible refine id_index ?_); refine m_index (x := .tmp 71) hlt rfl rfl ?_) | (go_at_call 300; ((with_reducible refine (HH.out _ ((HA.out.owns n_own (fun x hx => by simp [hx])).mono (Nat.zero_le _))).mono ?_); rintro e wc ⟨rfl, hb⟩; replace HM := n_call hb; clear hb)) | ((with_reducible refine id_load ?_); refine n_ld1 ?_) | ((with_reducible refine id_load ?_); refine n_ld ?_) | ((with_reducible refine id_load ?_); refine m_loadr (x := .tmp 75) HE.out rfl rfl ?_) | ((with_reducible refine id_alloc ?_); (refine n_al ?_; clear HM; intro b9 wq HM)) | ((with_reducible refine id_store ?_); (refine n_st ?_; clear HM; intro wq HM)))
    refine ⟨⟨k + 1, acc, _, XA, ?_, by omega, Lib.hid ?_, Lib.hid (Nat.le_succ_of_le HLA.out), HOA, HA, ⟨Blks.drop n_own⟩⟩, ?_⟩
    ·rw [wrap_step hlt (by have := HLEN.out; unfold maxLen; omega)]
    ·exact HKK.out
    ·rw [wrap_step hlt (by have := HLEN.out; unfold maxLen; omega)]; exact meas_step hlt
   | true =>
    go_wp2_with (first | ((with_reducible refine id_index ?_); refine m_index (x := .tmp 71) hlt rfl rfl ?_) | (go_at_call 300; ((with_reducible refine (HH.out _ ((HA.out.owns n_own (fun x hx => by simp [hx])).mono (Nat.zero_le _))).mono ?_); rintro e wc ⟨rfl, hb⟩; replace HM := n_call hb; clear hb)) | ((with_reducible refine id_load ?_); refine n_ld1 ?_) | ((with_reducible refine id_load ?_); refine n_ld ?_) | ((with_reducible refine id_load ?_); refine m_loadr (x := .tmp 75) HE.out rfl rfl ?_) | ((with_reducible refine id_alloc ?_); (refine n_al ?_; clear HM; intro b9 wq HM)) | ((with_reducible refine id_store ?_); (refine n_st ?_; clear HM; intro wq HM)) | ((with_reducible refine id_slice ?_); (refine n_sl Tryz.underlying240 (by rw [Array.toList_map]; exact slice_one infoSv rfl (by decide) _ rfl) ?_; clear HM; intro bs wq HM)) | (at_builtin; (refine m_append (Y := _ :: _ :: _ :: _ :: _ :: X) (X := XA) n_own rfl HA.out Tryz.underlying240 infoSv (by decide) rfl rfl rfl (Src.ofSlice _ Tryz.underlying240 _ _ _ (cellsV x) rfl (Blks.addr (rest := []) HM.out n_mem) (by intro u hu; simp [cellsV] at hu; rcases hu with rfl | rfl | rfl | rfl | rfl | rfl <;> rfl)) (by have := HLEN.out; have := HLA.out; omega) (by have := HLEN.out; have := HLA.out; unfold maxLen; omega) ?_; intro v2 X2 w2 HN hk2; obtain ⟨A2, c2, rfl, _⟩ := hk2.out.val; clear HM; have HM := HN; clear HN; simp only [List.cons_append] at HM; have HA2 := hk2; clear hk2)) | ((with_reducible refine id_store ?_); (refine n_st1 ?_; clear HM; intro wq HM)))
    refine ⟨⟨k + 1, acc ++ [x], _, X2, ?_, by omega, Lib.hid ?_, Lib.hid ?_, Lib.hid ?_, Lib.hid ?_, ⟨Blks.less n_own (by repeat (first | exact List.Sublist.refl _ | apply List.Sublist.cons_cons | apply List.Sublist.cons))⟩⟩, ?_⟩
    ·rw [wrap_step hlt (by have := HLEN.out; unfold maxLen; omega)]
    ·exact HKK.out
    ·have := HLA.out; rw [List.length_append]; simp; omega
    ·intro y hy
     rcases List.mem_append.1 hy with h | h
     ·exact HOA.out y h
     ·rw [List.mem_singleton.1 h]; exact HXO.out
    ·have h1 : flatV (acc ++ [x]) = flatV acc ++ cellsV x := by rw [flatV_app]; unfold flatV; simp
     rw [h1, List.length_append]; exact HA2.out
    ·rw [wrap_step hlt (by have := HLEN.out; unfold maxLen; omega)]; exact meas_step hlt
  ·have : k = np + nq := by omega
   subst this
   have hk0 := HK.out
   rw [List.drop_of_length_le (by rw [List.length_append, hnp, hnq]; exact Nat.le_refl _), keepB] at hk0
   have hD : bothD ⟨plo, phi, phl, phh, pwl, pwh, sbut⟩ ⟨qlo, qhi, qhl, qhh, qwl, qwh, qbut⟩ = ⟨slo, shi, shl, shh, swl, swh, acc⟩ := by
    unfold bothD
    rw [← HR1.out, ← HS1.out]
    dsimp only
    rw [← hk0]
   have HD := Lib.hid hD
   clear hk0 hD
   go_wp2_with (first | ((with_reducible refine id_load ?_); refine n_ld ?_) | ((with_reducible refine id_store ?_); (refine n_st ?_; clear HM; intro wq HM)))
   refine bodyPost_ret (results_single rfl (.cell _ 242 (pcl ⟨slo, shi, shl, shh, swl, swh, sbut⟩ (.slice Aa acc.length ca)).toArray (0, 0) _ rfl (HM.out.has (b4, pcl ⟨slo, shi, shl, shh, swl, swh, sbut⟩ (.slice Aa acc.length ca), 242) n_mem) Tryz.underlying242 rfl (by kernel_rfl) .nil)) rfl ⟨⟨.slice Aa acc.length ca, by rw [HD.out]; rfl, ?_⟩, HM.out.bel⟩
   rw [HD.out]
   exact HA.out.owns HM.out (fun x hx => by simp [hx])
end Go.Proofs.YtgoeiflddikihaaGreatDoor.Ver
end
