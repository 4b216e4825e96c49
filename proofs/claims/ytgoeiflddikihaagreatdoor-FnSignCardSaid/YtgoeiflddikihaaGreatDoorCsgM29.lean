/- Merged by program out of: SemOrd. -/
import Derived.Test.YtgoeiflddikihaaGreatDoorCsgM3
import Derived.Test.YtgoeiflddikihaaGreatDoorCsgM24
import Derived.Test.YtgoeiflddikihaaGreatDoorCsgM11
import Derived.BigQuiet
import Derived.Lib.QuietBelow
section
namespace Go.Proofs.YtgoeiflddikihaaGreatDoor.Ver
set_option linter.unusedSimpArgs false
set_option linter.unusedVariables false
open Go.Sort Go.RowKit Go.Proofs.YtgoeiflddikihaaGreatDoor.Dig Go.Proofs.YtgoeiflddikihaaGreatDoorW.PrintWords Go.Proofs.YtgoeiflddikihaaGreatDoor.Mem Go.Proofs.YtgoeiflddikihaaGreatDoor.Ord
theorem preS_l {q : List (List UInt8)} (h : q ≠ []) : preS [] q = 1 := by
 unfold preS; rw [if_pos (Or.inl rfl), if_neg, if_neg (by simp)]
 intro e; exact h (List.length_eq_zero_iff.1 e.symm)
theorem preS_r {p : List (List UInt8)} (h : p ≠ []) : preS p [] = -1 := by
 have := List.length_pos_iff.2 h
 unfold preS; rw [if_pos (Or.inr rfl), if_neg (by simp; omega), if_pos this]
theorem preS_b {p q : List (List UInt8)} (h : p ≠ []) (k : q ≠ []) : preS p q = listC idC p q := by
 unfold preS; rw [if_neg (by simp [h, k])]
theorem drop_at_map {k : Nat} (l : List ByteArray) (h : k < l.length) : (l.map (·.data.toList)).drop k = l[k].data.toList :: (l.map (·.data.toList)).drop (k + 1) := by
 rw [List.drop_eq_getElem_cons (by simpa using h)]; simp
theorem drop_end_map {k : Nat} (l : List ByteArray) (h : l.length ≤ k) : (l.map (·.data.toList)).drop k = [] := List.drop_eq_nil_of_le (by simpa using h)
theorem lc_both (p q : List ByteArray) (k : Nat) (h1 : k < p.length) (h2 : k < q.length) : listC idC ((p.map (·.data.toList)).drop k) ((q.map (·.data.toList)).drop k) =
  if idC p[k].data.toList q[k].data.toList = 0 then listC idC ((p.map (·.data.toList)).drop (k + 1)) ((q.map (·.data.toList)).drop (k + 1)) else idC p[k].data.toList q[k].data.toList := by
 rw [drop_at_map p h1, drop_at_map q h2, listC]
theorem lc_right (p q : List ByteArray) (k : Nat) (h1 : k < p.length) (h2 : q.length ≤ k) : listC idC ((p.map (·.data.toList)).drop k) ((q.map (·.data.toList)).drop k) = 1 := by
 rw [drop_at_map p h1, drop_end_map q h2, listC]
theorem lc_left (p q : List ByteArray) (k : Nat) (h1 : p.length ≤ k) (h2 : k < q.length) : listC idC ((p.map (·.data.toList)).drop k) ((q.map (·.data.toList)).drop k) = -1 := by
 rw [drop_end_map p h1, drop_at_map q h2, listC]
theorem lc_none (p q : List ByteArray) (k : Nat) (h1 : p.length ≤ k) (h2 : q.length ≤ k) : listC idC ((p.map (·.data.toList)).drop k) ((q.map (·.data.toList)).drop k) = 0 := by
 rw [drop_end_map p h1, drop_end_map q h2, listC]
def ordI (x0 y0 x1 y1 x2 y2 P : Int) : Int := if x0 < y0 then -1 else if y0 < x0 then 1 else if x1 < y1 then -1 else if y1 < x1 then 1 else if x2 < y2 then -1 else if y2 < x2 then 1 else P
theorem ordI_cmp (a b : SV) : cmpV a b = ordI a.major b.major a.minor b.minor a.patch b.patch (preC a.pre.data.toList b.pre.data.toList) := by
 unfold cmpV thenC onC ordI intC
 repeat' split
 all_goals first | rfl | omega
theorem drawn0_below {W w' : World} (h : Drawn0 W w') : Below W.heap.size W w' := h.below
set_option maxRecDepth 20000 in
set_option maxHeartbeats 8000000 in
theorem ord_main (x0 x1 x2 y0 y1 y2 ca cb : Int) (ma mb : ByteArray) (PA PB : Value) (pa pb : List ByteArray) (w : World) (base : Nat) (hA : StrsAt 9 w base PA pa) (hB : StrsAt 9 w base PB pb)
  (hs : ∀ p ∈ pa ++ pb, p.size ≤ 140737488351232) (hla : pa.length ≤ 1000000000) (hlb : pb.length ≤ 1000000000) : Calls Tryz.prog 82 #[.agg #[.int .u64 x0, .int .u64 x1, .int .u64 x2, .int .i64 ca, PA, .string ma], .agg #[.int .u64 y0, .int .u64 y1, .int .u64 y2, .int .i64 cb, PB, .string mb]] w fun e w' =>
   e = .returned (.int .i64 (ordI x0 y0 x1 y1 x2 y2 (preS (pa.map (·.data.toList)) (pb.map (·.data.toList))))) ∧ Below w.heap.size w w' := by
 have HS := Lib.hid (fun b W => vsign_any b W)
 have HM := Aside0.mk (Blks.start w)
 have HSZ := Lib.hid hs
 obtain ⟨A, capA, rfl⟩ := hA.val
 obtain ⟨B, capB, rfl⟩ := hB.val
 obtain ⟨r, hr⟩ : ∃ r, r = ordI x0 y0 x1 y1 x2 y2 (preS (pa.map (·.data.toList)) (pb.map (·.data.toList))) := ⟨_, rfl⟩
 rw [← hr]
 have HR := Lib.hid hr
 clear hr
 have HPA := Lib.hid hA
 have HPB := Lib.hid hB
 have HLA := Lib.hid hla
 have HLB := Lib.hid hlb
 clear hla hlb
 clear hA hB hs
 rcases Int.lt_trichotomy x0 y0 with h0 | h0 | h0
 ·skip
  have q1 : (x0 != y0) = true := bne_iff_ne.2 (by omega)
  have q2 : decide (x0 < y0) = true := decide_eq_true h0
  have H0 := Lib.hid h0
  clear h0
  go_enter Tryz.func82, Tryz.ntmps82
  go_wp2_with (first | (refine m_box (x := .tmp 0) n_own (h := ?_); intro ba _ HN; clear HM; have HM := HN; clear HN) | (refine m_box (x := .tmp 1) n_own (h := ?_); intro bb _ HN; clear HM; have HM := HN; clear HN))
  refine wp_loop_rounds 4 ?_
  rw [rounds_succ]
  go_upto_region 4 with (fail)
  have fx := fun d os => cell_regrown (n_cell (b := ba) (o := 0)) d os
  have fy := fun d os => cell_regrown (n_cell (b := bb) (o := 0)) d os
  refine wp_region_quiet_below (by kernel_rfl) (by kernel_rfl) ?_
  repeat (go_big_quiet_step (fail))
  refine wpQuiet_nil ?_
  intro _ hw'
  obtain ⟨⟨dq, osq⟩, hw''⟩ := hw'
  subst hw''
  have HN := Aside0.mk (Blks.call HM.out (below_regrown _ dq osq)); clear HM; have HM := HN; clear HN
  clear fx fy
  go_upto_region 5 with (fail)
  generalize grow (redrawn _ dq) osq = wz at *
  have HSG := Lib.hid (fun d os => Calls.regrown_of (((HS.out true (grow (redrawn wz d) os)).mono fun e w' h => ⟨h.1, drawn0_below h.2⟩)))
  have fx := fun d os => cell_regrown (n_cell (b := ba) (o := 0)) d os
  have fy := fun d os => cell_regrown (n_cell (b := bb) (o := 0)) d os
  refine wp_region_quiet_below (by kernel_rfl) (by kernel_rfl) ?_
  repeat (go_big_quiet_step (exact HSG.out _ _))
  refine wpQuiet_nil ?_
  intro _ hw'
  obtain ⟨⟨dq, osq⟩, hw''⟩ := hw'
  subst hw''
  have HN := Aside0.mk (Blks.call HM.out (below_regrown _ dq osq)); clear HM; have HM := HN; clear HN
  clear fx fy
  go_wp2_with fail
  (try simp only [Exit.inBlock, Exit.then])
  have hr := HR.out
  rw [ordI, if_pos H0.out] at hr
  subst hr
  go_ret
  exact ⟨rfl, HM.out.bel⟩
 ·skip
  subst h0
  have q1 : (x0 != x0) = false := bne_self_eq_false _
  go_enter Tryz.func82, Tryz.ntmps82
  go_wp2_with (first | (refine m_box (x := .tmp 0) n_own (h := ?_); intro ba _ HN; clear HM; have HM := HN; clear HN) | (refine m_box (x := .tmp 1) n_own (h := ?_); intro bb _ HN; clear HM; have HM := HN; clear HN))
  refine wp_loop_rounds 4 ?_
  rw [rounds_succ]
  go_upto_region 4 with (fail)
  have fx := fun d os => cell_regrown (n_cell (b := ba) (o := 0)) d os
  have fy := fun d os => cell_regrown (n_cell (b := bb) (o := 0)) d os
  refine wp_region_quiet_below (by kernel_rfl) (by kernel_rfl) ?_
  repeat (go_big_quiet_step (fail))
  refine wpQuiet_nil ?_
  intro _ hw'
  obtain ⟨⟨dq, osq⟩, hw''⟩ := hw'
  subst hw''
  have HN := Aside0.mk (Blks.call HM.out (below_regrown _ dq osq)); clear HM; have HM := HN; clear HN
  clear fx fy
  generalize grow (redrawn _ dq) osq = wz0 at *
  go_wp2_with fail
  clear q1
  rcases Int.lt_trichotomy x1 y1 with h1 | h1 | h1
  ·skip
   have q1 : (x1 != y1) = true := bne_iff_ne.2 (by omega)
   have q2 : decide (x1 < y1) = true := decide_eq_true h1
   have H1 := Lib.hid h1
   clear h1
   rw [rounds_succ]
   go_upto_region 4 with (fail)
   have fx := fun d os => cell_regrown (n_cell (b := ba) (o := 1)) d os
   have fy := fun d os => cell_regrown (n_cell (b := bb) (o := 1)) d os
   refine wp_region_quiet_below (by kernel_rfl) (by kernel_rfl) ?_
   repeat (go_big_quiet_step (fail))
   refine wpQuiet_nil ?_
   intro _ hw'
   obtain ⟨⟨dq, osq⟩, hw''⟩ := hw'
   subst hw''
   have HN := Aside0.mk (Blks.call HM.out (below_regrown _ dq osq)); clear HM; have HM := HN; clear HN
   clear fx fy
   go_upto_region 5 with (fail)
   generalize grow (redrawn _ dq) osq = wz at *
   have HSG := Lib.hid (fun d os => Calls.regrown_of (((HS.out true (grow (redrawn wz d) os)).mono fun e w' h => ⟨h.1, drawn0_below h.2⟩)))
   have fx := fun d os => cell_regrown (n_cell (b := ba) (o := 1)) d os
   have fy := fun d os => cell_regrown (n_cell (b := bb) (o := 1)) d os
   refine wp_region_quiet_below (by kernel_rfl) (by kernel_rfl) ?_
   repeat (go_big_quiet_step (exact HSG.out _ _))
   refine wpQuiet_nil ?_
   intro _ hw'
   obtain ⟨⟨dq, osq⟩, hw''⟩ := hw'
   subst hw''
   have HN := Aside0.mk (Blks.call HM.out (below_regrown _ dq osq)); clear HM; have HM := HN; clear HN
   clear fx fy
   go_wp2_with fail
   (try simp only [Exit.inBlock, Exit.then])
   have hr := HR.out
   rw [ordI, if_neg (Int.lt_irrefl _), if_neg (Int.lt_irrefl _), if_pos H1.out] at hr
   subst hr
   go_ret
   exact ⟨rfl, HM.out.bel⟩
  ·skip
   subst h1
   have q1 : (x1 != x1) = false := bne_self_eq_false _
   rw [rounds_succ]
   go_upto_region 4 with (fail)
   have fx := fun d os => cell_regrown (n_cell (b := ba) (o := 1)) d os
   have fy := fun d os => cell_regrown (n_cell (b := bb) (o := 1)) d os
   refine wp_region_quiet_below (by kernel_rfl) (by kernel_rfl) ?_
   repeat (go_big_quiet_step (fail))
   refine wpQuiet_nil ?_
   intro _ hw'
   obtain ⟨⟨dq, osq⟩, hw''⟩ := hw'
   subst hw''
   have HN := Aside0.mk (Blks.call HM.out (below_regrown _ dq osq)); clear HM; have HM := HN; clear HN
   clear fx fy
   generalize grow (redrawn _ dq) osq = wz1 at *
   go_wp2_with fail
   clear q1
   rcases Int.lt_trichotomy x2 y2 with h2 | h2 | h2
   ·skip
    have q1 : (x2 != y2) = true := bne_iff_ne.2 (by omega)
    have q2 : decide (x2 < y2) = true := decide_eq_true h2
    have H2 := Lib.hid h2
    clear h2
    rw [rounds_succ]
    go_upto_region 4 with (fail)
    have fx := fun d os => cell_regrown (n_cell (b := ba) (o := 2)) d os
    have fy := fun d os => cell_regrown (n_cell (b := bb) (o := 2)) d os
    refine wp_region_quiet_below (by kernel_rfl) (by kernel_rfl) ?_
    repeat (go_big_quiet_step (fail))
    refine wpQuiet_nil ?_
    intro _ hw'
    obtain ⟨⟨dq, osq⟩, hw''⟩ := hw'
    subst hw''
    have HN := Aside0.mk (Blks.call HM.out (below_regrown _ dq osq)); clear HM; have HM := HN; clear HN
    clear fx fy
    go_upto_region 5 with (fail)
    generalize grow (redrawn _ dq) osq = wz at *
    have HSG := Lib.hid (fun d os => Calls.regrown_of (((HS.out true (grow (redrawn wz d) os)).mono fun e w' h => ⟨h.1, drawn0_below h.2⟩)))
    have fx := fun d os => cell_regrown (n_cell (b := ba) (o := 2)) d os
    have fy := fun d os => cell_regrown (n_cell (b := bb) (o := 2)) d os
    refine wp_region_quiet_below (by kernel_rfl) (by kernel_rfl) ?_
    repeat (go_big_quiet_step (exact HSG.out _ _))
    refine wpQuiet_nil ?_
    intro _ hw'
    obtain ⟨⟨dq, osq⟩, hw''⟩ := hw'
    subst hw''
    have HN := Aside0.mk (Blks.call HM.out (below_regrown _ dq osq)); clear HM; have HM := HN; clear HN
    clear fx fy
    go_wp2_with fail
    (try simp only [Exit.inBlock, Exit.then])
    have hr := HR.out
    rw [ordI, if_neg (Int.lt_irrefl _), if_neg (Int.lt_irrefl _), if_neg (Int.lt_irrefl _), if_neg (Int.lt_irrefl _), if_pos H2.out] at hr
    subst hr
    go_ret
    exact ⟨rfl, HM.out.bel⟩
   ·skip
    subst h2
    have q1 : (x2 != x2) = false := bne_self_eq_false _
    rw [rounds_succ]
    go_upto_region 4 with (fail)
    have fx := fun d os => cell_regrown (n_cell (b := ba) (o := 2)) d os
    have fy := fun d os => cell_regrown (n_cell (b := bb) (o := 2)) d os
    refine wp_region_quiet_below (by kernel_rfl) (by kernel_rfl) ?_
    repeat (go_big_quiet_step (fail))
    refine wpQuiet_nil ?_
    intro _ hw'
    obtain ⟨⟨dq, osq⟩, hw''⟩ := hw'
    subst hw''
    have HN := Aside0.mk (Blks.call HM.out (below_regrown _ dq osq)); clear HM; have HM := HN; clear HN
    clear fx fy
    generalize grow (redrawn _ dq) osq = wz2 at *
    go_wp2_with fail
    clear q1
    rw [rounds_succ]
    go_upto_region 7 with (fail)
    have hr := HR.out
    rw [ordI, if_neg (Int.lt_irrefl _), if_neg (Int.lt_irrefl _), if_neg (Int.lt_irrefl _), if_neg (Int.lt_irrefl _), if_neg (Int.lt_irrefl _), if_neg (Int.lt_irrefl _)] at hr
    clear HR
    have kA := n_cell (b := ba) (o := 4)
    have kB := n_cell (b := bb) (o := 4)
    by_cases hna : pa.length = 0
    ·obtain rfl := List.length_eq_zero_iff.1 hna
     by_cases hnb : pb.length = 0
     ·obtain rfl := List.length_eq_zero_iff.1 hnb
      have hr2 : r = 0 := hr
      subst hr2
      simp only [List.length_nil] at kA kB
      clear hr
      go_wp2_with fail
      go_ret
      exact ⟨rfl, HM.out.bel⟩
     ·have hpb : pb ≠ [] := fun e => hnb (by rw [e]; rfl)
      have hr2 : r = 1 := by
       rw [hr, List.map_nil]; exact preS_l (by simpa using hpb)
      subst hr2
      simp only [List.length_nil] at kA
      clear hr hpb
      generalize pb.length = nb at *
      have e1 : ((nb : Int) == 0) = false := beq_eq_false_iff_ne.2 (by omega)
      have e2 : ((0 : Int) == (nb : Int)) = false := beq_eq_false_iff_ne.2 (by omega)
      have e3 : (0 == nb) = false := beq_eq_false_iff_ne.2 (by omega)
      go_wp2_with (first | (go_at_call 105; ((with_reducible refine (HS.out _ _).mono ?_); rintro e w' ⟨rfl, ⟨nq, rfl⟩⟩; simp only [if_true, if_false, Bool.false_eq_true, reduceCtorEq, ite_true, ite_false]; replace HM := n_drew nq)))
      go_ret
      exact ⟨rfl, HM.out.bel⟩
    by_cases hnb : pb.length = 0
    ·obtain rfl := List.length_eq_zero_iff.1 hnb
     have hpa : pa ≠ [] := fun e => hna (by rw [e]; rfl)
     have hr2 : r = -1 := by
      rw [hr, List.map_nil]; exact preS_r (by simpa using hpa)
     subst hr2
     simp only [List.length_nil] at kB
     clear hr hpa
     generalize pa.length = na at *
     have e1 : ((na : Int) == 0) = false := beq_eq_false_iff_ne.2 (by omega)
     have e4 : (na == 0) = false := beq_eq_false_iff_ne.2 (by omega)
     have e5 : decide ((0 : Int) < (na : Int)) = true := decide_eq_true (by omega)
     have e6 : decide (0 < na) = true := decide_eq_true (by omega)
     go_wp2_with (first | (go_at_call 105; ((with_reducible refine (HS.out _ _).mono ?_); rintro e w' ⟨rfl, ⟨nq, rfl⟩⟩; simp only [if_true, if_false, Bool.false_eq_true, reduceCtorEq, ite_true, ite_false]; replace HM := n_drew nq)))
     go_ret
     exact ⟨rfl, HM.out.bel⟩
    have hpa : pa ≠ [] := fun e => hna (by rw [e]; rfl)
    have hpb : pb ≠ [] := fun e => hnb (by rw [e]; rfl)
    rw [preS_b (by simpa using hpa) (by simpa using hpb)] at hr
    obtain ⟨gA, cA, eA, _, hgA, hcA⟩ := HPA.out.get hpa
    obtain ⟨gB, cB, eB, _, hgB, hcB⟩ := HPB.out.get hpb
    obtain ⟨rfl, _, rfl⟩ : A = some ⟨gA, 0, none⟩ ∧ True ∧ capA = cA := by injection eA with h1 h2 h3; exact ⟨h1, trivial, h3⟩
    obtain ⟨rfl, _, rfl⟩ : B = some ⟨gB, 0, none⟩ ∧ True ∧ capB = cB := by injection eB with h1 h2 h3; exact ⟨h1, trivial, h3⟩
    have HCA := Lib.hid (fun W (hb : Below w.heap.size w W) j (hj : j < pa.length) => (show W.cell? ⟨gA, j, none⟩ = some (.string pa[j]) from (hb.cell (p := ⟨gA, j, none⟩) hgA).trans (hcA j hj)))
    have HCB := Lib.hid (fun W (hb : Below w.heap.size w W) j (hj : j < pb.length) => (show W.cell? ⟨gB, j, none⟩ = some (.string pb[j]) from (hb.cell (p := ⟨gB, j, none⟩) hgB).trans (hcB j hj)))
    have HRR := Lib.hid hr
    have HPA0 := Lib.hid hpa
    have HPB0 := Lib.hid hpb
    clear eA eB hcA hcB hr hpa hpb hgA hgB HPA HPB
    obtain ⟨na, hna2⟩ : ∃ n, pa.length = n := ⟨_, rfl⟩
    obtain ⟨nb, hnb2⟩ : ∃ n, pb.length = n := ⟨_, rfl⟩
    rw [hna2] at kA hna
    rw [hnb2] at kB hnb
    have hla : na ≤ 1000000000 := by have := HLA.out; omega
    have hlb : nb ≤ 1000000000 := by have := HLB.out; omega
    clear HLA HLB
    have HNA := Lib.hid hna2
    have HNB := Lib.hid hnb2
    have HM1 := Aside0.mk (show Blks w wz2 [(bb, [.int .u64 x0, .int .u64 x1, .int .u64 x2, .int .i64 cb, .slice (some ⟨gB, 0, none⟩) nb capB, .string mb], 50), (ba, [.int .u64 x0, .int .u64 x1, .int .u64 x2, .int .i64 ca, .slice (some ⟨gA, 0, none⟩) na capA, .string ma], 50)] by rw [← HNA.out, ← HNB.out]; exact HM.out)
    clear HM hna2 hnb2
    have HM := HM1
    clear HM1
    have e1 : ((na : Int) == 0) = false := beq_eq_false_iff_ne.2 (by omega)
    have e4 : (na == 0) = false := beq_eq_false_iff_ne.2 (by omega)
    have e2 : ((nb : Int) == 0) = false := beq_eq_false_iff_ne.2 (by omega)
    have e3 : (nb == 0) = false := beq_eq_false_iff_ne.2 (by omega)
    go_wp2_with fail
    clear e1 e2 e3 e4 kA kB
    go_loopw [6] (fun v6 wr => ∃ k : Nat, v6 = .int .i64 k ∧ k ≤ na ∧ k ≤ nb ∧ Aside0 (r = listC idC ((pa.map (·.data.toList)).drop k) ((pb.map (·.data.toList)).drop k)) ∧ Aside0 (Blks w wr [(bb, [.int .u64 x0, .int .u64 x1, .int .u64 x2, .int .i64 cb, .slice (some ⟨gB, 0, none⟩) nb capB, .string mb], 50), (ba, [.int .u64 x0, .int .u64 x1, .int .u64 x2, .int .i64 ca, .slice (some ⟨gA, 0, none⟩) na capA, .string ma], 50)])) (fun v6 _ => na - (intOf v6).toNat)
    case atStart => exact ⟨0, rfl, Nat.zero_le _, Nat.zero_le _, ⟨HRR.out⟩, HM⟩
    case round =>
     clear HM HRR
     obtain ⟨k, rfl, hk1, hk2, HRR, HM⟩ := hrel
     have kA := n_cell (b := ba) (o := 4)
     have kB := n_cell (b := bb) (o := 4)
     by_cases h1 : k < na
     ·have d1 : decide ((k : Int) < (na : Int)) = true := decide_eq_true (by omega)
      have d2 : decide (k < na) = true := decide_eq_true h1
      by_cases h2 : k < nb
      ·have d3 : decide ((k : Int) < (nb : Int)) = true := decide_eq_true (by omega)
       have d4 : decide (k < nb) = true := decide_eq_true h2
       have l1 : k < pa.length := by rw [HNA.out]; exact h1
       have l2 : k < pb.length := by rw [HNB.out]; exact h2
       have cA0 := HCA.out _ HM.out.bel k l1
       have cB0 := HCB.out _ HM.out.bel k l2
       have HID := Lib.hid (fun d os => Calls.regrown_of (((vident_any pa[k] pb[k] (HSZ.out _ (List.mem_append_left _ (List.getElem_mem l1))) (HSZ.out _ (List.mem_append_right _ (List.getElem_mem l2))) (grow (redrawn wr d) os)).mono fun e w' h => ⟨h.1, drawn0_below h.2⟩)))
       have HST := Lib.hid (HRR.out.trans (lc_both pa pb k l1 l2))
       clear HRR
       generalize idC pa[k].data.toList pb[k].data.toList = c at *
       generalize pa[k] = sa at *
       generalize pb[k] = sb at *
       clear l1 l2
       go_upto_region 14 with (fail)
       have fA := fun d os => cell_regrown (kA) d os
       have fB := fun d os => cell_regrown (kB) d os
       have gA0 := fun d os => cell_regrown (cA0) d os
       have gB0 := fun d os => cell_regrown (cB0) d os
       refine wp_region_quiet_below (by kernel_rfl) (by kernel_rfl) ?_
       repeat (go_big_quiet_step (exact HID.out _ _))
       refine wpQuiet_nil ?_
       intro _ hw'
       obtain ⟨⟨dq, osq⟩, hw''⟩ := hw'
       subst hw''
       have HN := Aside0.mk (Blks.call HM.out (below_regrown _ dq osq)); clear HM; have HM := HN; clear HN
       clear fA fB gA0 gB0
       clear HID d1 d2 d3 d4
       generalize grow (redrawn _ dq) osq = wz at *
       by_cases hc : c = 0
       ·have q1 : (c != 0) = false := bne_eq_false_iff_eq.2 hc
        have HS2 := Lib.hid (HST.out.trans (if_pos hc))
        clear hc HST
        go_wp2_with fail
        go_roundw
        case rel => exact ⟨k + 1, by go_num, by omega, by omega, ⟨HS2.out⟩, HM⟩
        case measure => simp [intOf]; omega
       ·have q1 : (c != 0) = true := bne_iff_ne.2 hc
        have hr := HST.out.trans (if_neg hc)
        subst hr
        clear hc HST
        go_wp2_with fail
        go_ret
        exact ⟨rfl, HM.out.bel⟩
      ·have d3 : decide ((k : Int) < (nb : Int)) = false := decide_eq_false (by omega)
       have d4 : decide (k < nb) = false := decide_eq_false h2
       obtain rfl : k = nb := by omega
       have hr : r = 1 := HRR.out.trans (lc_right pa pb k (by rw [HNA.out]; exact h1) (by rw [HNB.out]; omega))
       subst hr
       have e1 : ((na : Int) == (k : Int)) = false := beq_eq_false_iff_ne.2 (by omega)
       have e2 : (na == k) = false := beq_eq_false_iff_ne.2 (by omega)
       have e3 : decide ((na : Int) < (k : Int)) = false := decide_eq_false (by omega)
       have e4 : decide (na < k) = false := decide_eq_false (by omega)
       clear HRR HNA HNB h1 h2 hna hnb hk1 hk2 HCA HCB HSZ
       go_wp2_with (first | (go_at_call 105; ((with_reducible refine (HS.out _ _).mono ?_); rintro e w' ⟨rfl, ⟨nq, rfl⟩⟩; simp only [if_true, if_false, Bool.false_eq_true, reduceCtorEq, ite_true, ite_false]; replace HM := n_drew nq)))
       go_ret
       exact ⟨rfl, HM.out.bel⟩
     ·have d1 : decide ((k : Int) < (na : Int)) = false := decide_eq_false (by omega)
      have d2 : decide (k < na) = false := decide_eq_false h1
      obtain rfl : k = na := by omega
      by_cases h2 : k = nb
      ·have hr : r = 0 := HRR.out.trans (lc_none pa pb k (by rw [HNA.out]; omega) (by rw [HNB.out]; omega))
       subst hr
       subst h2
       clear HRR HNA HNB h1 hna hnb hk1 hk2 HCA HCB HSZ
       go_wp2_with (first | (go_at_call 105; ((with_reducible refine (HS.out _ _).mono ?_); rintro e w' ⟨rfl, ⟨nq, rfl⟩⟩; simp only [if_true, if_false, Bool.false_eq_true, reduceCtorEq, ite_true, ite_false]; replace HM := n_drew nq)))
       go_ret
       exact ⟨rfl, HM.out.bel⟩
      ·have hr : r = -1 := HRR.out.trans (lc_left pa pb k (by rw [HNA.out]; omega) (by rw [HNB.out]; omega))
       subst hr
       have e1 : ((k : Int) == (nb : Int)) = false := beq_eq_false_iff_ne.2 (by omega)
       have e2 : (k == nb) = false := beq_eq_false_iff_ne.2 (by omega)
       have e3 : decide ((k : Int) < (nb : Int)) = true := decide_eq_true (by omega)
       have e4 : decide (k < nb) = true := decide_eq_true (by omega)
       clear HRR HNA HNB h1 h2 hna hnb hk1 hk2 HCA HCB HSZ
       go_wp2_with (first | (go_at_call 105; ((with_reducible refine (HS.out _ _).mono ?_); rintro e w' ⟨rfl, ⟨nq, rfl⟩⟩; simp only [if_true, if_false, Bool.false_eq_true, reduceCtorEq, ite_true, ite_false]; replace HM := n_drew nq)))
       go_ret
       exact ⟨rfl, HM.out.bel⟩
   ·skip
    have q1 : (x2 != y2) = true := bne_iff_ne.2 (by omega)
    have q2 : decide (x2 < y2) = false := decide_eq_false (by omega)
    have H2 := Lib.hid h2
    clear h2
    rw [rounds_succ]
    go_upto_region 4 with (fail)
    have fx := fun d os => cell_regrown (n_cell (b := ba) (o := 2)) d os
    have fy := fun d os => cell_regrown (n_cell (b := bb) (o := 2)) d os
    refine wp_region_quiet_below (by kernel_rfl) (by kernel_rfl) ?_
    repeat (go_big_quiet_step (fail))
    refine wpQuiet_nil ?_
    intro _ hw'
    obtain ⟨⟨dq, osq⟩, hw''⟩ := hw'
    subst hw''
    have HN := Aside0.mk (Blks.call HM.out (below_regrown _ dq osq)); clear HM; have HM := HN; clear HN
    clear fx fy
    go_upto_region 5 with (fail)
    generalize grow (redrawn _ dq) osq = wz at *
    have HSG := Lib.hid (fun d os => Calls.regrown_of (((HS.out false (grow (redrawn wz d) os)).mono fun e w' h => ⟨h.1, drawn0_below h.2⟩)))
    have fx := fun d os => cell_regrown (n_cell (b := ba) (o := 2)) d os
    have fy := fun d os => cell_regrown (n_cell (b := bb) (o := 2)) d os
    refine wp_region_quiet_below (by kernel_rfl) (by kernel_rfl) ?_
    repeat (go_big_quiet_step (exact HSG.out _ _))
    refine wpQuiet_nil ?_
    intro _ hw'
    obtain ⟨⟨dq, osq⟩, hw''⟩ := hw'
    subst hw''
    have HN := Aside0.mk (Blks.call HM.out (below_regrown _ dq osq)); clear HM; have HM := HN; clear HN
    clear fx fy
    go_wp2_with fail
    (try simp only [Exit.inBlock, Exit.then])
    have hr := HR.out
    rw [ordI, if_neg (Int.lt_irrefl _), if_neg (Int.lt_irrefl _), if_neg (Int.lt_irrefl _), if_neg (Int.lt_irrefl _), if_neg (by have := H2.out; omega), if_pos H2.out] at hr
    subst hr
    go_ret
    exact ⟨rfl, HM.out.bel⟩
  ·skip
   have q1 : (x1 != y1) = true := bne_iff_ne.2 (by omega)
   have q2 : decide (x1 < y1) = false := decide_eq_false (by omega)
   have H1 := Lib.hid h1
   clear h1
   rw [rounds_succ]
   go_upto_region 4 with (fail)
   have fx := fun d os => cell_regrown (n_cell (b := ba) (o := 1)) d os
   have fy := fun d os => cell_regrown (n_cell (b := bb) (o := 1)) d os
   refine wp_region_quiet_below (by kernel_rfl) (by kernel_rfl) ?_
   repeat (go_big_quiet_step (fail))
   refine wpQuiet_nil ?_
   intro _ hw'
   obtain ⟨⟨dq, osq⟩, hw''⟩ := hw'
   subst hw''
   have HN := Aside0.mk (Blks.call HM.out (below_regrown _ dq osq)); clear HM; have HM := HN; clear HN
   clear fx fy
   go_upto_region 5 with (fail)
   generalize grow (redrawn _ dq) osq = wz at *
   have HSG := Lib.hid (fun d os => Calls.regrown_of (((HS.out false (grow (redrawn wz d) os)).mono fun e w' h => ⟨h.1, drawn0_below h.2⟩)))
   have fx := fun d os => cell_regrown (n_cell (b := ba) (o := 1)) d os
   have fy := fun d os => cell_regrown (n_cell (b := bb) (o := 1)) d os
   refine wp_region_quiet_below (by kernel_rfl) (by kernel_rfl) ?_
   repeat (go_big_quiet_step (exact HSG.out _ _))
   refine wpQuiet_nil ?_
   intro _ hw'
   obtain ⟨⟨dq, osq⟩, hw''⟩ := hw'
   subst hw''
   have HN := Aside0.mk (Blks.call HM.out (below_regrown _ dq osq)); clear HM; have HM := HN; clear HN
   clear fx fy
   go_wp2_with fail
   (try simp only [Exit.inBlock, Exit.then])
   have hr := HR.out
   rw [ordI, if_neg (Int.lt_irrefl _), if_neg (Int.lt_irrefl _), if_neg (by have := H1.out; omega), if_pos H1.out] at hr
   subst hr
   go_ret
   exact ⟨rfl, HM.out.bel⟩
 ·skip
  have q1 : (x0 != y0) = true := bne_iff_ne.2 (by omega)
  have q2 : decide (x0 < y0) = false := decide_eq_false (by omega)
  have H0 := Lib.hid h0
  clear h0
  go_enter Tryz.func82, Tryz.ntmps82
  go_wp2_with (first | (refine m_box (x := .tmp 0) n_own (h := ?_); intro ba _ HN; clear HM; have HM := HN; clear HN) | (refine m_box (x := .tmp 1) n_own (h := ?_); intro bb _ HN; clear HM; have HM := HN; clear HN))
  refine wp_loop_rounds 4 ?_
  rw [rounds_succ]
  go_upto_region 4 with (fail)
  have fx := fun d os => cell_regrown (n_cell (b := ba) (o := 0)) d os
  have fy := fun d os => cell_regrown (n_cell (b := bb) (o := 0)) d os
  refine wp_region_quiet_below (by kernel_rfl) (by kernel_rfl) ?_
  repeat (go_big_quiet_step (fail))
  refine wpQuiet_nil ?_
  intro _ hw'
  obtain ⟨⟨dq, osq⟩, hw''⟩ := hw'
  subst hw''
  have HN := Aside0.mk (Blks.call HM.out (below_regrown _ dq osq)); clear HM; have HM := HN; clear HN
  clear fx fy
  go_upto_region 5 with (fail)
  generalize grow (redrawn _ dq) osq = wz at *
  have HSG := Lib.hid (fun d os => Calls.regrown_of (((HS.out false (grow (redrawn wz d) os)).mono fun e w' h => ⟨h.1, drawn0_below h.2⟩)))
  have fx := fun d os => cell_regrown (n_cell (b := ba) (o := 0)) d os
  have fy := fun d os => cell_regrown (n_cell (b := bb) (o := 0)) d os
  refine wp_region_quiet_below (by kernel_rfl) (by kernel_rfl) ?_
  repeat (go_big_quiet_step (exact HSG.out _ _))
  refine wpQuiet_nil ?_
  intro _ hw'
  obtain ⟨⟨dq, osq⟩, hw''⟩ := hw'
  subst hw''
  have HN := Aside0.mk (Blks.call HM.out (below_regrown _ dq osq)); clear HM; have HM := HN; clear HN
  clear fx fy
  go_wp2_with fail
  (try simp only [Exit.inBlock, Exit.then])
  have hr := HR.out
  rw [ordI, if_neg (by have := H0.out; omega), if_pos H0.out] at hr
  subst hr
  go_ret
  exact ⟨rfl, HM.out.bel⟩
theorem sem_order (a b : SV) (ca cb : Nat) (va vb : Value) (w : World) (base : Nat) (ha : SemAt w base va a ca) (hb : SemAt w base vb b cb)
  (ia : a.pre.data.toList = [] ∨ qIdentsB a.pre.data.toList = true) (ib : b.pre.data.toList = [] ∨ qIdentsB b.pre.data.toList = true) (sa : a.pre.size ≤ 100000000) (sb : b.pre.size ≤ 100000000) :
  Calls Tryz.prog 82 #[va, vb] w fun e w' => e = .returned (.int .i64 (cmpV a b)) ∧ Below w.heap.size w w' := by
 obtain ⟨PA, rfl, hA⟩ := ha
 obtain ⟨PB, rfl, hB⟩ := hb
 have sz : ∀ (l : List UInt8), l.length ≤ 100000000 → ∀ p ∈ (preParts l).map mkB, p.size ≤ 140737488351232 := by
  intro l hl p hp
  obtain ⟨y, hy, rfl⟩ := List.mem_map.1 hp
  unfold preParts at hy
  split at hy
  ·cases hy
  ·have := parts_size 46 l y hy
   have : (mkB y).size = y.length := by show y.toArray.size = _; rw [List.size_toArray]
   omega
 have ln : ∀ (l : List UInt8), l.length ≤ 100000000 → ((preParts l).map mkB).length ≤ 1000000000 := by
  intro l hl
  have := parts_len 46 l
  rw [List.length_map]
  unfold preParts
  split
  ·simp
  ·omega
 have la : ∀ s : ByteArray, s.data.toList.length = s.size := fun s => by rw [Array.length_toList]; rfl
 have mm : ∀ l : List (List UInt8), (l.map mkB).map (·.data.toList) = l := fun l => by
  rw [List.map_map]; exact (List.map_congr_left (fun x _ => rfl)).trans (List.map_id l)
 refine (ord_main _ _ _ _ _ _ _ _ _ _ _ _ _ _ w base hA hB ?_ ?_ ?_).mono ?_
 ·intro p hp
  rcases List.mem_append.1 hp with h | h
  ·exact sz _ (by rw [la]; exact sa) p h
  ·exact sz _ (by rw [la]; exact sb) p h
 ·exact ln _ (by rw [la]; exact sa)
 ·exact ln _ (by rw [la]; exact sb)
 ·rintro e w' ⟨rfl, hb⟩
  refine ⟨?_, hb⟩
  rw [ordI_cmp, mm, mm, preS_eq ia ib]
end Go.Proofs.YtgoeiflddikihaaGreatDoor.Ver
end
