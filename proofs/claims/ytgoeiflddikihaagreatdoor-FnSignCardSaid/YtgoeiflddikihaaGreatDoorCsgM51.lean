/- Merged by program out of: SgnL1, SgnL2, SgnL3. -/
import Derived.Test.YtgoeiflddikihaaGreatDoorCsgM3
import Derived.Test.YtgoeiflddikihaaGreatDoorCsgM50
import Derived.Test.YtgoeiflddikihaaGreatDoorCsgM49
import Derived.Lib.QuietBelow
import Derived.BigQuiet
import Derived.DataShut
section
namespace Go.Proofs.YtgoeiflddikihaaGreatDoor.Ins
end Go.Proofs.YtgoeiflddikihaaGreatDoor.Ins
namespace Go.Proofs.YtgoeiflddikihaaGreatDoor.Ver
set_option linter.unusedSimpArgs false
set_option linter.unusedVariables false
open Go.Sort (grow)
open Go.RowKit Go.Proofs.YtgoeiflddikihaaGreatDoor.Dig Go.Proofs.YtgoeiflddikihaaGreatDoor.PFnVersion Go.Proofs.YtgoeiflddikihaaGreatDoorW.PrintWords Go.Proofs.YtgoeiflddikihaaGreatDoor.Mem Go.Proofs.YtgoeiflddikihaaGreatDoor.Ord Go.Proofs.YtgoeiflddikihaaGreatDoor.Ins
theorem sgl_long (sign pre other : ByteArray) (a0 a1 a2 x0 x1 x2 : Int) (w : World) (h : ¬ (sign.size ≤ 2147483647 ∧ pre.size ≤ 2147483647 ∧ other.size ≤ 2147483647)) :
    Calls Tryz.prog 7 #[.string sign, .agg #[.int .u32 a0, .int .u32 a1, .int .u32 a2], .agg #[.int .u32 x0, .int .u32 x1, .int .u32 x2], .string pre, .string other] w fun e w' => e = .returned (.bool true) ∧ Below w.heap.size w w' := by
  have HM := Aside0.mk (Blks.start w)
  have hc : (decide ((2147483647 : Int) < (sign.size : Int)) = true) ∨ (decide ((2147483647 : Int) < (sign.size : Int)) = false ∧ decide ((2147483647 : Int) < (pre.size : Int)) = true) ∨ (decide ((2147483647 : Int) < (sign.size : Int)) = false ∧ decide ((2147483647 : Int) < (pre.size : Int)) = false ∧ decide ((2147483647 : Int) < (other.size : Int)) = true) := by
    simp only [decide_eq_true_eq, decide_eq_false_iff_not]
    omega
  clear h
  rcases hc with z0 | ⟨z0, z1⟩ | ⟨z0, z1, z2⟩
  all_goals
    go_enter Tryz.func7, Tryz.ntmps7
    go_wp2_with (first | ((with_reducible refine id_box (d := some 6) ?_); (refine n_bx (x := .tmp 1) ?_; clear HM; intro b6 wq HM)) | ((with_reducible refine id_box (d := some 7) ?_); (refine n_bx (x := .tmp 2) ?_; clear HM; intro b7 wq HM)) | ((with_reducible refine id_alloc (d := some 13) ?_); (refine n_al ?_; clear HM; intro b13 wq HM)) | ((with_reducible refine id_alloc (d := some 15) ?_); (refine n_al ?_; clear HM; intro b15 wq HM)))
    go_ret
    exact ⟨rfl, HM.out.bel⟩
set_option maxRecDepth 20000 in
set_option maxHeartbeats 16000000 in
theorem sgl_none (sign pre other : ByteArray) (a0 a1 a2 x0 x1 x2 : Int) (s t : ByteArray) (w : World) (hv : Vars w)
    (hm1 : ∀ W, Calls Tryz.prog 38 #[.agg #[.int .u32 a0, .int .u32 a1, .int .u32 a2], .string pre] W fun e w' => e = .returned (.string s) ∧ Below W.heap.size W w')
    (hm2 : ∀ W, Calls Tryz.prog 38 #[.agg #[.int .u32 x0, .int .u32 x1, .int .u32 x2], .string other] W fun e w' => e = .returned (.string t) ∧ Below W.heap.size W w')
    (hz0 : sign.size ≤ 2147483647) (hz1 : pre.size ≤ 2147483647) (hz2 : other.size ≤ 2147483647)
    (hno : (∀ W, Calls Tryz.prog 34 #[.string s] W (RdNo W)) ∧ ((∀ W, Calls Tryz.prog 34 #[.string t] W (RdNo W)) ∨ ∃ x0 x1 x2 c m pp, ∀ W, Calls Tryz.prog 34 #[.string t] W (RdYes x0 x1 x2 c m pp W)) ∨
      (∃ x0 x1 x2 c m pp, ∀ W, Calls Tryz.prog 34 #[.string s] W (RdYes x0 x1 x2 c m pp W)) ∧ (∀ W, Calls Tryz.prog 34 #[.string t] W (RdNo W))) :
    Calls Tryz.prog 7 #[.string sign, .agg #[.int .u32 a0, .int .u32 a1, .int .u32 a2], .agg #[.int .u32 x0, .int .u32 x1, .int .u32 x2], .string pre, .string other] w fun e w' => e = .returned (.bool true) ∧ Below w.heap.size w w' := by
  have HA := Lib.hid (fun W hb => awakeN W (Vars.below (w := w) hv hb))
  have HVB := Lib.hid (fun W hb => Vars.below (w := w) (w' := W) hv hb)
  have HMa := Lib.hid hm1
  have HMb := Lib.hid hm2
  have z0 : decide ((2147483647 : Int) < (sign.size : Int)) = false := decide_eq_false (by omega)
  have z1 : decide ((2147483647 : Int) < (pre.size : Int)) = false := decide_eq_false (by omega)
  have z2 : decide ((2147483647 : Int) < (other.size : Int)) = false := decide_eq_false (by omega)
  have HM := Aside0.mk (Blks.start w)
  have HNO := Lib.hid hno
  clear hv hm1 hm2 hz0 hz1 hz2 hno
  go_enter Tryz.func7, Tryz.ntmps7
  go_upto_region 3 with (first | ((with_reducible refine id_box (d := some 6) ?_); (refine n_bx (x := .tmp 1) ?_; clear HM; intro b6 wq HM)) | ((with_reducible refine id_box (d := some 7) ?_); (refine n_bx (x := .tmp 2) ?_; clear HM; intro b7 wq HM)) | ((with_reducible refine id_alloc (d := some 13) ?_); (refine n_al ?_; clear HM; intro b13 wq HM)) | ((with_reducible refine id_alloc (d := some 15) ?_); (refine n_al ?_; clear HM; intro b15 wq HM)))
  go_simp
  obtain ⟨w3, hw3⟩ : ∃ x, x = wq := ⟨_, rfl⟩
  subst hw3
  have hr := HM.out.range (b := b6) (o := 0) (n := 3) n_mem n_rd
  have k0 := fun d os => cell_regrown (show w3.cell? ⟨b6, 0, none⟩ = some (.int .u32 a0) from hr 0 _ rfl) d os
  have k1 := fun d os => cell_regrown (show w3.cell? ⟨b6, 1, none⟩ = some (.int .u32 a1) from hr 1 _ rfl) d os
  have k2 := fun d os => cell_regrown (show w3.cell? ⟨b6, 2, none⟩ = some (.int .u32 a2) from hr 2 _ rfl) d os
  clear hr
  have hr := HM.out.range (b := b7) (o := 0) (n := 3) n_mem n_rd
  have j0 := fun d os => cell_regrown (show w3.cell? ⟨b7, 0, none⟩ = some (.int .u32 x0) from hr 0 _ rfl) d os
  have j1 := fun d os => cell_regrown (show w3.cell? ⟨b7, 1, none⟩ = some (.int .u32 x1) from hr 1 _ rfl) d os
  have j2 := fun d os => cell_regrown (show w3.cell? ⟨b7, 2, none⟩ = some (.int .u32 x2) from hr 2 _ rfl) d os
  clear hr
  have HB1 := Lib.hid (fun d os => Calls.regrown_of (HMa.out (grow (redrawn w3 d) os)))
  have HB2 := Lib.hid (fun d os => Calls.regrown_of (HMb.out (grow (redrawn w3 d) os)))
  refine wp_region_quiet_below (by kernel_rfl) (by kernel_rfl) ?_
  repeat (go_big_quiet_step (first | with_reducible exact HB1.out _ _ | with_reducible exact HB2.out _ _))
  refine wpQuiet_nil ?_
  intro _ hw'
  obtain ⟨⟨dq, osq⟩, hw''⟩ := hw'
  subst hw''
  have HN := Aside0.mk (Blks.call HM.out (below_regrown w3 dq osq))
  clear HM
  have HM := HN
  clear HN k0 k1 k2 j0 j1 j2 HB1 HB2
  generalize grow (redrawn w3 dq) osq = w4 at HM ⊢
  rcases HNO.out with ⟨h1, h2 | ⟨q0, q1, q2, qc, qm, qq, h2⟩⟩ | ⟨⟨q0, q1, q2, qc, qm, qq, h1⟩, h2⟩
  · have HRa := Lib.hid h1
    have HRb := Lib.hid h2
    clear h1 h2 HNO
    go_wp2_with (first | (go_at_call 34; ((with_reducible refine (HRa.out _).mono ?_); rintro e w1 ⟨rfl, hb⟩; replace HM := n_call hb; clear hb)) | (go_at_call 34; ((with_reducible refine (HRb.out _).mono ?_); rintro e w2 ⟨rfl, hb⟩; replace HM := n_call hb; clear hb)) | (go_at_call 25; ((with_reducible refine (HA.out _ n_bel).mono ?_); rintro e wa ⟨rfl, hb⟩; replace HM := n_call hb; clear hb)) | ((with_reducible refine id_box (d := some 6) ?_); (refine n_bx (x := .tmp 1) ?_; clear HM; intro b6 wq HM)) | ((with_reducible refine id_box (d := some 7) ?_); (refine n_bx (x := .tmp 2) ?_; clear HM; intro b7 wq HM)) | ((with_reducible refine id_alloc (d := some 13) ?_); (refine n_al ?_; clear HM; intro b13 wq HM)) | ((with_reducible refine id_alloc (d := some 15) ?_); (refine n_al ?_; clear HM; intro b15 wq HM)) | ((with_reducible refine id_store ?_); (refine n_st ?_; clear HM; intro wq HM)) | ((with_reducible refine id_load ?_); refine n_ld1 ?_) | ((with_reducible refine id_load ?_); refine n_ld ?_))
    go_ret
    exact ⟨rfl, HM.out.bel⟩
  · have HRa := Lib.hid h1
    have HRb := Lib.hid h2
    clear h1 h2 HNO
    go_wp2_with (first | (go_at_call 34; ((with_reducible refine (HRa.out _).mono ?_); rintro e w1 ⟨rfl, hb⟩; replace HM := n_call hb; clear hb)) | (go_at_call 34; ((with_reducible refine (HRb.out _).mono ?_); rintro e w2 ⟨⟨P2, rfl, hP⟩, hb⟩; obtain ⟨X2, hx, hbl⟩ := Blks.strsAdd n_own hb hP; obtain ⟨A2, c2, rfl⟩ := hP.val; have HX2 := Lib.hid hx; clear HM hb hP hx; have HM := Aside0.mk hbl; simp only [List.cons_append, List.nil_append, List.append_assoc] at HM; clear hbl)) | (go_at_call 25; ((with_reducible refine (HA.out _ n_bel).mono ?_); rintro e wa ⟨rfl, hb⟩; replace HM := n_call hb; clear hb)) | ((with_reducible refine id_box (d := some 6) ?_); (refine n_bx (x := .tmp 1) ?_; clear HM; intro b6 wq HM)) | ((with_reducible refine id_box (d := some 7) ?_); (refine n_bx (x := .tmp 2) ?_; clear HM; intro b7 wq HM)) | ((with_reducible refine id_alloc (d := some 13) ?_); (refine n_al ?_; clear HM; intro b13 wq HM)) | ((with_reducible refine id_alloc (d := some 15) ?_); (refine n_al ?_; clear HM; intro b15 wq HM)) | ((with_reducible refine id_store ?_); (refine n_st ?_; clear HM; intro wq HM)) | ((with_reducible refine id_load ?_); refine n_ld1 ?_) | ((with_reducible refine id_load ?_); refine n_ld ?_))
    go_ret
    exact ⟨rfl, HM.out.bel⟩
  · have HRa := Lib.hid h1
    have HRb := Lib.hid h2
    clear h1 h2 HNO
    go_wp2_with (first | (go_at_call 34; ((with_reducible refine (HRa.out _).mono ?_); rintro e w1 ⟨⟨P1, rfl, hP⟩, hb⟩; obtain ⟨X1, hx, hbl⟩ := Blks.strsAdd n_own hb hP; obtain ⟨A1, c1, rfl⟩ := hP.val; have HX1 := Lib.hid hx; clear HM hb hP hx; have HM := Aside0.mk hbl; simp only [List.cons_append, List.nil_append, List.append_assoc] at HM; clear hbl)) | (go_at_call 34; ((with_reducible refine (HRb.out _).mono ?_); rintro e w2 ⟨rfl, hb⟩; replace HM := n_call hb; clear hb)) | (go_at_call 25; ((with_reducible refine (HA.out _ n_bel).mono ?_); rintro e wa ⟨rfl, hb⟩; replace HM := n_call hb; clear hb)) | ((with_reducible refine id_box (d := some 6) ?_); (refine n_bx (x := .tmp 1) ?_; clear HM; intro b6 wq HM)) | ((with_reducible refine id_box (d := some 7) ?_); (refine n_bx (x := .tmp 2) ?_; clear HM; intro b7 wq HM)) | ((with_reducible refine id_alloc (d := some 13) ?_); (refine n_al ?_; clear HM; intro b13 wq HM)) | ((with_reducible refine id_alloc (d := some 15) ?_); (refine n_al ?_; clear HM; intro b15 wq HM)) | ((with_reducible refine id_store ?_); (refine n_st ?_; clear HM; intro wq HM)) | ((with_reducible refine id_load ?_); refine n_ld1 ?_) | ((with_reducible refine id_load ?_); refine n_ld ?_))
    go_ret
    exact ⟨rfl, HM.out.bel⟩
end Go.Proofs.YtgoeiflddikihaaGreatDoor.Ver
end
section
namespace Go.Proofs.YtgoeiflddikihaaGreatDoor.Ins
end Go.Proofs.YtgoeiflddikihaaGreatDoor.Ins
namespace Go.Proofs.YtgoeiflddikihaaGreatDoor.Ver
set_option linter.unusedSimpArgs false
set_option linter.unusedVariables false
open Go.Sort (grow)
open Go.RowKit Go.Proofs.YtgoeiflddikihaaGreatDoor.Dig Go.Proofs.YtgoeiflddikihaaGreatDoor.PFnVersion Go.Proofs.YtgoeiflddikihaaGreatDoorW.PrintWords Go.Proofs.YtgoeiflddikihaaGreatDoor.Mem Go.Proofs.YtgoeiflddikihaaGreatDoor.Ord Go.Proofs.YtgoeiflddikihaaGreatDoor.Ins
set_option maxRecDepth 20000 in
set_option maxHeartbeats 16000000 in
theorem sgl_main (sign pre other : ByteArray) (a0 a1 a2 x0 x1 x2 : Int) (s t : ByteArray) (w : World) (hv : Vars w)
    (hm1 : ∀ W, Calls Tryz.prog 38 #[.agg #[.int .u32 a0, .int .u32 a1, .int .u32 a2], .string pre] W fun e w' => e = .returned (.string s) ∧ Below W.heap.size W w')
    (hm2 : ∀ W, Calls Tryz.prog 38 #[.agg #[.int .u32 x0, .int .u32 x1, .int .u32 x2], .string other] W fun e w' => e = .returned (.string t) ∧ Below W.heap.size W w')
    (hz0 : sign.size ≤ 2147483647) (hz1 : pre.size ≤ 2147483647) (hz2 : other.size ≤ 2147483647)
    (u v : SV) (n1 n2 : Nat) (pp1 pp2 : List ByteArray) (cu cv : Int)
    (hra : ∀ W, Calls Tryz.prog 34 #[.string s] W fun e w' => (∃ A c, e = .returned (.tuple #[.agg #[.int .u64 u.major, .int .u64 u.minor, .int .u64 u.patch, .int .i64 cu, .slice A n1 c, .string u.mt], .bool true]) ∧ StrsAt 9 w' W.heap.size (.slice A n1 c) pp1) ∧ Below W.heap.size W w')
    (hrb : ∀ W, Calls Tryz.prog 34 #[.string t] W fun e w' => (∃ A c, e = .returned (.tuple #[.agg #[.int .u64 v.major, .int .u64 v.minor, .int .u64 v.patch, .int .i64 cv, .slice A n2 c, .string v.mt], .bool true]) ∧ StrsAt 9 w' W.heap.size (.slice A n2 c) pp2) ∧ Below W.heap.size W w')
    (l1 l2 : Bool) (hl1 : ∀ W, Calls Tryz.prog 39 #[.agg #[.int .u32 a0, .int .u32 a1, .int .u32 a2]] W fun e w' => e = .returned (.bool l1) ∧ Below W.heap.size W w') (hl2 : ∀ W, Calls Tryz.prog 39 #[.agg #[.int .u32 x0, .int .u32 x1, .int .u32 x2]] W fun e w' => e = .returned (.bool l2) ∧ Below W.heap.size W w')
    (r : Option Bool) (hvs : pre.size ≤ 20 → other.size ≤ 20 → ∀ A1 c1 A2 c2 W, StrsAt 9 W w.heap.size (.slice A1 n1 c1) pp1 → StrsAt 9 W w.heap.size (.slice A2 n2 c2) pp2 →
      Calls Tryz.prog 40 #[.string sign, .agg #[.int .u64 u.major, .int .u64 u.minor, .int .u64 u.patch, .int .i64 cu, .slice A1 n1 c1, .string u.mt], .agg #[.int .u64 v.major, .int .u64 v.minor, .int .u64 v.patch, .int .i64 cv, .slice A2 n2 c2, .string v.mt]] W (VsEnd r W))
    (hmt : sign.size ≤ 2 → pre.size ≤ 20 → other.size ≤ 20 → ∀ b, r = some b → ∀ W, Below w.heap.size w W → Calls Tryz.prog 27 #[.agg #[.int .i64 2, .string (sign ++ s), .int .i64 0, .string ⟨#[]⟩, .string ⟨#[]⟩, .slice none 0 0], .agg #[.int .i64 3, .string t, .string ⟨#[]⟩]] W fun e w' => e = .returned (.bool b) ∧ Below W.heap.size W w')
    (hss : s.size ≤ 2200000000) :
    Calls Tryz.prog 7 #[.string sign, .agg #[.int .u32 a0, .int .u32 a1, .int .u32 a2], .agg #[.int .u32 x0, .int .u32 x1, .int .u32 x2], .string pre, .string other] w fun e w' => e = .returned (.bool true) ∧ Below w.heap.size w w' := by
  have HA := Lib.hid (fun W hb => awakeN W (Vars.below (w := w) hv hb))
  have HVB := Lib.hid (fun W hb => Vars.below (w := w) (w' := W) hv hb)
  have HMa := Lib.hid hm1
  have HMb := Lib.hid hm2
  have z0 : decide ((2147483647 : Int) < (sign.size : Int)) = false := decide_eq_false (by omega)
  have z1 : decide ((2147483647 : Int) < (pre.size : Int)) = false := decide_eq_false (by omega)
  have z2 : decide ((2147483647 : Int) < (other.size : Int)) = false := decide_eq_false (by omega)
  have HM := Aside0.mk (Blks.start w)
  have z4 : ¬ (9223372036854775807 < sign.size + s.size) := by omega
  have HRa := Lib.hid hra
  have HRb := Lib.hid hrb
  have HL1 := Lib.hid hl1
  have HL2 := Lib.hid hl2
  have HVS := Lib.hid hvs
  have HMT := Lib.hid hmt
  clear hv hm1 hm2 hz0 hz1 hz2 hra hrb hl1 hl2 hvs hmt hss
  obtain ⟨ua, ub, uc, up, um, uo⟩ := u
  obtain ⟨va, vb, vc, vp, vm, vo⟩ := v
  dsimp only at HRa HRb HVS
  go_enter Tryz.func7, Tryz.ntmps7
  go_upto_region 3 with (first | ((with_reducible refine id_box (d := some 6) ?_); (refine n_bx (x := .tmp 1) ?_; clear HM; intro b6 wq HM)) | ((with_reducible refine id_box (d := some 7) ?_); (refine n_bx (x := .tmp 2) ?_; clear HM; intro b7 wq HM)) | ((with_reducible refine id_alloc (d := some 13) ?_); (refine n_al ?_; clear HM; intro b13 wq HM)) | ((with_reducible refine id_alloc (d := some 15) ?_); (refine n_al ?_; clear HM; intro b15 wq HM)))
  go_simp
  obtain ⟨w3, hw3⟩ : ∃ x, x = wq := ⟨_, rfl⟩
  subst hw3
  have hr := HM.out.range (b := b6) (o := 0) (n := 3) n_mem n_rd
  have k0 := fun d os => cell_regrown (show w3.cell? ⟨b6, 0, none⟩ = some (.int .u32 a0) from hr 0 _ rfl) d os
  have k1 := fun d os => cell_regrown (show w3.cell? ⟨b6, 1, none⟩ = some (.int .u32 a1) from hr 1 _ rfl) d os
  have k2 := fun d os => cell_regrown (show w3.cell? ⟨b6, 2, none⟩ = some (.int .u32 a2) from hr 2 _ rfl) d os
  clear hr
  have hr := HM.out.range (b := b7) (o := 0) (n := 3) n_mem n_rd
  have j0 := fun d os => cell_regrown (show w3.cell? ⟨b7, 0, none⟩ = some (.int .u32 x0) from hr 0 _ rfl) d os
  have j1 := fun d os => cell_regrown (show w3.cell? ⟨b7, 1, none⟩ = some (.int .u32 x1) from hr 1 _ rfl) d os
  have j2 := fun d os => cell_regrown (show w3.cell? ⟨b7, 2, none⟩ = some (.int .u32 x2) from hr 2 _ rfl) d os
  clear hr
  have HB1 := Lib.hid (fun d os => Calls.regrown_of (HMa.out (grow (redrawn w3 d) os)))
  have HB2 := Lib.hid (fun d os => Calls.regrown_of (HMb.out (grow (redrawn w3 d) os)))
  refine wp_region_quiet_below (by kernel_rfl) (by kernel_rfl) ?_
  repeat (go_big_quiet_step (first | with_reducible exact HB1.out _ _ | with_reducible exact HB2.out _ _))
  refine wpQuiet_nil ?_
  intro _ hw'
  obtain ⟨⟨dq, osq⟩, hw''⟩ := hw'
  subst hw''
  have HN := Aside0.mk (Blks.call HM.out (below_regrown w3 dq osq))
  clear HM
  have HM := HN
  clear HN k0 k1 k2 j0 j1 j2 HB1 HB2
  generalize grow (redrawn w3 dq) osq = w4 at HM ⊢
  go_upto_region 6 with (first | (go_at_call 34; ((with_reducible refine (HRa.out _).mono ?_); rintro e w1 ⟨⟨A1, c1, rfl, hP⟩, hb⟩; obtain ⟨X1, hx, hbl⟩ := Blks.strsAdd n_own hb hP; have HX1 := Lib.hid hx; clear HM hb hP hx; have HM := Aside0.mk hbl; simp only [List.cons_append, List.nil_append, List.append_assoc] at HM; clear hbl)) | (go_at_call 34; ((with_reducible refine (HRb.out _).mono ?_); rintro e w2 ⟨⟨A2, c2, rfl, hP⟩, hb⟩; obtain ⟨X2, hx, hbl⟩ := Blks.strsAdd n_own hb hP; have HX2 := Lib.hid hx; clear HM hb hP hx; have HM := Aside0.mk hbl; simp only [List.cons_append, List.nil_append, List.append_assoc] at HM; clear hbl)) | ((with_reducible refine id_box (d := some 6) ?_); (refine n_bx (x := .tmp 1) ?_; clear HM; intro b6 wq HM)) | ((with_reducible refine id_box (d := some 7) ?_); (refine n_bx (x := .tmp 2) ?_; clear HM; intro b7 wq HM)) | ((with_reducible refine id_alloc (d := some 13) ?_); (refine n_al ?_; clear HM; intro b13 wq HM)) | ((with_reducible refine id_alloc (d := some 15) ?_); (refine n_al ?_; clear HM; intro b15 wq HM)) | ((with_reducible refine id_store ?_); (refine n_st ?_; clear HM; intro wq HM)) | ((with_reducible refine id_load ?_); refine n_ld1 ?_) | ((with_reducible refine id_load ?_); refine n_ld ?_))
  have k0 := n_cell (b := b6) (o := 0); have k1 := n_cell (b := b6) (o := 1); have k2 := n_cell (b := b6) (o := 2); have j0 := n_cell (b := b7) (o := 0); have j1 := n_cell (b := b7) (o := 1); have j2 := n_cell (b := b7) (o := 2)
  have hc : (decide ((20 : Int) < (pre.size : Int)) = true ∨ (decide ((20 : Int) < (pre.size : Int)) = false ∧ decide ((20 : Int) < (other.size : Int)) = true) ∨ (decide ((20 : Int) < (pre.size : Int)) = false ∧ decide ((20 : Int) < (other.size : Int)) = false ∧ l1 = true) ∨ (decide ((20 : Int) < (pre.size : Int)) = false ∧ decide ((20 : Int) < (other.size : Int)) = false ∧ l1 = false ∧ l2 = true) ∨ (decide ((20 : Int) < (pre.size : Int)) = false ∧ decide ((20 : Int) < (other.size : Int)) = false ∧ l1 = false ∧ l2 = false ∧ decide ((2 : Int) < (sign.size : Int)) = true)) ∨ (decide ((20 : Int) < (pre.size : Int)) = false ∧ decide ((20 : Int) < (other.size : Int)) = false ∧ l1 = false ∧ l2 = false ∧ decide ((2 : Int) < (sign.size : Int)) = false) := by
    cases l1 <;> cases l2 <;> cases decide ((20 : Int) < (pre.size : Int)) <;> cases decide ((20 : Int) < (other.size : Int)) <;> cases decide ((2 : Int) < (sign.size : Int)) <;> simp
  rcases hc with he | ⟨d1, d2, rfl, rfl, d3⟩
  · rcases he with d1 | ⟨d1, d2⟩ | ⟨d1, d2, rfl⟩ | ⟨d1, d2, rfl, rfl⟩ | ⟨d1, d2, rfl, rfl, d3⟩
    all_goals
      go_wp2_with (first | (go_at_call 39; (first | ((with_reducible refine (HL1.out _).mono ?_); rintro e wl ⟨rfl, hb⟩; replace HM := n_call hb; clear hb) | ((with_reducible refine (HL2.out _).mono ?_); rintro e wl ⟨rfl, hb⟩; replace HM := n_call hb; clear hb)); have k0 := n_cell (b := b6) (o := 0); have k1 := n_cell (b := b6) (o := 1); have k2 := n_cell (b := b6) (o := 2); have j0 := n_cell (b := b7) (o := 0); have j1 := n_cell (b := b7) (o := 1); have j2 := n_cell (b := b7) (o := 2)) | (go_at_call 25; ((with_reducible refine (HA.out _ n_bel).mono ?_); rintro e wa ⟨rfl, hb⟩; replace HM := n_call hb; clear hb)) | ((with_reducible refine id_load ?_); refine n_ld1 ?_) | ((with_reducible refine id_load ?_); refine n_ld ?_))
      go_ret
      exact ⟨rfl, HM.out.bel⟩
  have q1 : pre.size ≤ 20 := by have := of_decide_eq_false d1; omega
  have q2 : other.size ≤ 20 := by have := of_decide_eq_false d2; omega
  have q3 : sign.size ≤ 2 := by have := of_decide_eq_false d3; omega
  have HMT2 := Lib.hid (HMT.out q3 q1 q2)
  have HVS2 := Lib.hid (HVS.out q1 q2)
  clear HVS
  clear q1 q2 q3
  go_upto_region 8 with (first | (go_at_call 39; (first | ((with_reducible refine (HL1.out _).mono ?_); rintro e wl ⟨rfl, hb⟩; replace HM := n_call hb; clear hb) | ((with_reducible refine (HL2.out _).mono ?_); rintro e wl ⟨rfl, hb⟩; replace HM := n_call hb; clear hb)); have k0 := n_cell (b := b6) (o := 0); have k1 := n_cell (b := b6) (o := 1); have k2 := n_cell (b := b6) (o := 2); have j0 := n_cell (b := b7) (o := 0); have j1 := n_cell (b := b7) (o := 1); have j2 := n_cell (b := b7) (o := 2)) | (go_at_call 25; ((with_reducible refine (HA.out _ n_bel).mono ?_); rintro e wa ⟨rfl, hb⟩; replace HM := n_call hb; clear hb)) | ((with_reducible refine id_load ?_); refine n_ld1 ?_) | ((with_reducible refine id_load ?_); refine n_ld ?_))
  cases r with
  | none =>
    go_wp2_with (first | (go_at_call 40; ((refine (HVS2.out _ _ _ _ _ (HX1.out.strsIn n_own (fun x hx => by simp [hx])) (HX2.out.strsIn n_own (fun x hx => by simp [hx]))).mono ?_); rintro e wv ⟨rfl, hb⟩; simp only [Option.getD, Option.isSome]; replace HM := n_call hb; clear hb)) | (go_at_call 39; (first | ((with_reducible refine (HL1.out _).mono ?_); rintro e wl ⟨rfl, hb⟩; replace HM := n_call hb; clear hb) | ((with_reducible refine (HL2.out _).mono ?_); rintro e wl ⟨rfl, hb⟩; replace HM := n_call hb; clear hb)); have k0 := n_cell (b := b6) (o := 0); have k1 := n_cell (b := b6) (o := 1); have k2 := n_cell (b := b6) (o := 2); have j0 := n_cell (b := b7) (o := 0); have j1 := n_cell (b := b7) (o := 1); have j2 := n_cell (b := b7) (o := 2)) | (go_at_call 25; ((with_reducible refine (HA.out _ n_bel).mono ?_); rintro e wa ⟨rfl, hb⟩; replace HM := n_call hb; clear hb)) | ((with_reducible refine id_load ?_); refine n_ld1 ?_) | ((with_reducible refine id_load ?_); refine n_ld ?_))
    go_ret
    exact ⟨rfl, HM.out.bel⟩
  | some bb =>
    have HMT := Lib.hid (HMT2.out bb rfl)
    go_wp2_with (first | (go_at_call 40; ((refine (HVS2.out _ _ _ _ _ (HX1.out.strsIn n_own (fun x hx => by simp [hx])) (HX2.out.strsIn n_own (fun x hx => by simp [hx]))).mono ?_); rintro e wv ⟨rfl, hb⟩; simp only [Option.getD, Option.isSome]; replace HM := n_call hb; clear hb)) | (go_at_call 27; ((with_reducible refine (HMT.out _ n_bel).mono ?_); rintro e wm ⟨rfl, hb⟩; replace HM := n_call hb; clear hb)) | (go_at_call 39; (first | ((with_reducible refine (HL1.out _).mono ?_); rintro e wl ⟨rfl, hb⟩; replace HM := n_call hb; clear hb) | ((with_reducible refine (HL2.out _).mono ?_); rintro e wl ⟨rfl, hb⟩; replace HM := n_call hb; clear hb)); have k0 := n_cell (b := b6) (o := 0); have k1 := n_cell (b := b6) (o := 1); have k2 := n_cell (b := b6) (o := 2); have j0 := n_cell (b := b7) (o := 0); have j1 := n_cell (b := b7) (o := 1); have j2 := n_cell (b := b7) (o := 2)) | (go_at_call 25; ((with_reducible refine (HA.out _ n_bel).mono ?_); rintro e wa ⟨rfl, hb⟩; replace HM := n_call hb; clear hb)) | ((with_reducible refine id_load ?_); refine n_ld1 ?_) | ((with_reducible refine id_load ?_); refine n_ld ?_))
    go_ret
    exact ⟨by simp, HM.out.bel⟩
end Go.Proofs.YtgoeiflddikihaaGreatDoor.Ver
end
section
namespace Go.Proofs.YtgoeiflddikihaaGreatDoor.Ins
end Go.Proofs.YtgoeiflddikihaaGreatDoor.Ins
namespace Go.Proofs.YtgoeiflddikihaaGreatDoor.Ver
set_option linter.unusedSimpArgs false
set_option linter.unusedVariables false
open Go.RowKit Go.Proofs.YtgoeiflddikihaaGreatDoor.Dig Go.Proofs.YtgoeiflddikihaaGreatDoor.PFnVersion Go.Proofs.YtgoeiflddikihaaGreatDoorW.PrintWords Go.Proofs.YtgoeiflddikihaaGreatDoor.Mem Go.Proofs.YtgoeiflddikihaaGreatDoor.Ord Go.Proofs.YtgoeiflddikihaaGreatDoor.Ins
theorem semT_sz (n0 n1 n2 : Int) (a0 : 0 ≤ n0 ∧ n0 < 4294967296) (b0 : 0 ≤ n1 ∧ n1 < 4294967296) (c0 : 0 ≤ n2 ∧ n2 < 4294967296) : (semT n0 n1 n2 [] ⟨#[]⟩).size ≤ 65 := by
  have la := decB_size n0 a0.1 (by omega)
  have lb := decB_size n1 b0.1 (by omega)
  have lc := decB_size n2 c0.1 (by omega)
  have h : (semT n0 n1 n2 [] ⟨#[]⟩).data.toList.length = (semT n0 n1 n2 [] ⟨#[]⟩).size := Array.length_toList
  have e : ∀ n, (decB n).data.toList.length = (decB n).size := fun n => Array.length_toList
  rw [semT_list] at h
  simp only [List.length_append, List.length_cons, e] at h
  omega
theorem vsT_size (n0 n1 n2 : Int) (a0 : 0 ≤ n0 ∧ n0 < 4294967296) (b0 : 0 ≤ n1 ∧ n1 < 4294967296) (c0 : 0 ≤ n2 ∧ n2 < 4294967296) (pre : ByteArray) : (vsT n0 n1 n2 pre).size ≤ pre.size + 66 := by
  have h := semT_sz n0 n1 n2 a0 b0 c0
  unfold vsT
  split
  · omega
  · rw [ByteArray.size_append, ByteArray.size_append]
    have e : (⟨#[45]⟩ : ByteArray).size = 1 := rfl
    omega
theorem read_svOf {t : ByteArray} (ht : t.size ≤ 2200000000) (h : (qSemB0 t.data.toList).isSome = true) (hc : cntOf t = 3) (W : World) :
    Calls Tryz.prog 34 #[.string t] W fun e w' => (∃ A c, e = .returned (.tuple #[.agg #[.int .u64 (svOf t).major, .int .u64 (svOf t).minor, .int .u64 (svOf t).patch, .int .i64 3, .slice A ((preParts (svOf t).pre.data.toList).map mkB).length c, .string (svOf t).mt], .bool true]) ∧ StrsAt 9 w' W.heap.size (.slice A ((preParts (svOf t).pre.data.toList).map mkB).length c) ((preParts (svOf t).pre.data.toList).map mkB)) ∧ Below W.heap.size W w' := by
  refine (read_sem t ht W).mono ?_
  intro e w' hE
  unfold svOf
  unfold cntOf at hc
  cases hq : qSemB0 t.data.toList with
  | none => rw [hq] at h; cases h
  | some z =>
    obtain ⟨ns, pre, mt⟩ := z
    rw [hq] at hE hc
    obtain ⟨⟨P, rfl, hP⟩, hb⟩ := hE
    obtain ⟨A, c, rfl⟩ := hP.val
    have hc' : ns.length = 3 := hc
    refine ⟨⟨A, c, by rw [hc']; rfl, ?_⟩, hb⟩
    exact hP
theorem svOf_nn (t : ByteArray) : 0 ≤ (svOf t).major ∧ 0 ≤ (svOf t).minor := by
  unfold svOf
  split
  · exact ⟨by decide, by decide⟩
  · exact ⟨Int.natCast_nonneg _, Int.natCast_nonneg _⟩
theorem svOf_pre (t : ByteArray) (h : (qSemB0 t.data.toList).isSome = true) : ((svOf t).pre.data.toList = [] ∨ qIdentsB (svOf t).pre.data.toList = true) ∧ (svOf t).pre.size ≤ t.size := by
  cases hq : qSemB0 t.data.toList with
  | none => rw [hq] at h; cases h
  | some z =>
    obtain ⟨ns, pre, mt⟩ := z
    have h1 := sem_ok hq
    have h2 := (sv_parts hq).1
    rw [h2]
    refine ⟨h1.1, ?_⟩
    have e1 : (svOf t).pre.data.toList.length = (svOf t).pre.size := Array.length_toList
    have e2 : t.data.toList.length = t.size := Array.length_toList
    rw [h2] at e1
    omega
theorem u32_of {n : Int} (h : (Lit.int .u32 n).wf = true) : 0 ≤ n ∧ n < 4294967296 := by
  have h1 := (Lit.wf_int_iff .u32 n).1 h
  have e1 : IntKind.u32.min = 0 := by decide
  have e2 : IntKind.u32.max = 4294967295 := by decide
  omega
theorem sg_law (sign : ByteArray) (a0 a1 a2 x0 x1 x2 : Int) (pre other : ByteArray) (w : World)
    (hgs : sign.size ≤ 140737488351232)
    (wa : (Lit.int .u32 a0).wf = true ∧ (Lit.int .u32 a1).wf = true ∧ (Lit.int .u32 a2).wf = true) (wx : (Lit.int .u32 x0).wf = true ∧ (Lit.int .u32 x1).wf = true ∧ (Lit.int .u32 x2).wf = true)
    (hgp : pre.size ≤ 140737488351232) (hgo : other.size ≤ 140737488351232) (hv : Vars w) :
    Calls Tryz.prog 7 #[.string sign, .agg #[.int .u32 a0, .int .u32 a1, .int .u32 a2], .agg #[.int .u32 x0, .int .u32 x1, .int .u32 x2], .string pre, .string other] w fun e w' => e = .returned (.bool true) ∧ Below w.heap.size w w' := by
  have ha := And.intro (u32_of wa.1) (And.intro (u32_of wa.2.1) (u32_of wa.2.2))
  have hx := And.intro (u32_of wx.1) (And.intro (u32_of wx.2.1) (u32_of wx.2.2))
  clear wa wx
  by_cases hz : sign.size ≤ 2147483647 ∧ pre.size ≤ 2147483647 ∧ other.size ≤ 2147483647
  · obtain ⟨z0, z1, z2⟩ := hz
    have hm1 := fun W => vsem_any a0 a1 a2 ha.1 ha.2.1 ha.2.2 pre hgp W
    have hm2 := fun W => vsem_any x0 x1 x2 hx.1 hx.2.1 hx.2.2 other hgo W
    have t1 := vsT_size a0 a1 a2 ha.1 ha.2.1 ha.2.2 pre
    have t2 := vsT_size x0 x1 x2 hx.1 hx.2.1 hx.2.2 other
    have c1 := cnt_three a0 a1 a2 pre
    have c2 := cnt_three x0 x1 x2 other
    generalize vsT a0 a1 a2 pre = s at hm1 t1 c1
    generalize vsT x0 x1 x2 other = t at hm2 t2 c2
    have yes : ∀ {t : ByteArray}, t.size ≤ 2200000000 → (qSemB0 t.data.toList).isSome = true → cntOf t = 3 → ∃ x0 x1 x2 c m pp, ∀ W, Calls Tryz.prog 34 #[.string t] W (RdYes x0 x1 x2 c m pp W) := by
      intro t ht h hc
      refine ⟨(svOf t).major, (svOf t).minor, (svOf t).patch, 3, (svOf t).mt, (preParts (svOf t).pre.data.toList).map mkB, fun W => (read_svOf ht h hc W).mono ?_⟩
      rintro e w' ⟨⟨A, c, rfl, hP⟩, hb⟩
      exact ⟨⟨_, rfl, hP⟩, hb⟩
    cases hs : (qSemB0 s.data.toList).isSome with
    | false =>
      refine sgl_none sign pre other a0 a1 a2 x0 x1 x2 s t w hv hm1 hm2 z0 z1 z2 (Or.inl ⟨fun W => read_no s (by omega) hs W, ?_⟩)
      cases ht : (qSemB0 t.data.toList).isSome with
      | false => exact Or.inl fun W => read_no t (by omega) ht W
      | true => exact Or.inr (yes (by omega) ht (c2 ht))
    | true =>
      cases ht : (qSemB0 t.data.toList).isSome with
      | false => exact sgl_none sign pre other a0 a1 a2 x0 x1 x2 s t w hv hm1 hm2 z0 z1 z2 (Or.inr ⟨yes (by omega) hs (c1 hs), fun W => read_no t (by omega) ht W⟩)
      | true =>
        obtain ⟨l1, hl1⟩ := large_any a0 a1 a2
        obtain ⟨l2, hl2⟩ := large_any x0 x1 x2
        have ps := svOf_pre s hs
        have pt := svOf_pre t ht
        refine sgl_main sign pre other a0 a1 a2 x0 x1 x2 s t w hv hm1 hm2 z0 z1 z2 (svOf s) (svOf t) _ _ _ _ 3 3 (fun W => read_svOf (by omega) hs (c1 hs) W) (fun W => read_svOf (by omega) ht (c2 ht) W) l1 l2 hl1 hl2 (signD sign.data.toList (svOf s) (svOf t)) ?_ ?_ (by omega)
        · intro q1 q2 A1 k1 A2 k2 W hS hT
          have so : ∀ W2, Below W.heap.size W W2 → SemAt W2 w.heap.size (.agg #[.int .u64 (svOf s).major, .int .u64 (svOf s).minor, .int .u64 (svOf s).patch, .int .i64 ((3 : Nat) : Int), .slice A1 ((preParts (svOf s).pre.data.toList).map mkB).length k1, .string (svOf s).mt]) (svOf s) 3 := fun W2 hb => ⟨_, rfl, hS.below hb⟩
          have tt : ∀ W2, Below W.heap.size W W2 → SemAt W2 w.heap.size (.agg #[.int .u64 (svOf t).major, .int .u64 (svOf t).minor, .int .u64 (svOf t).patch, .int .i64 ((3 : Nat) : Int), .slice A2 ((preParts (svOf t).pre.data.toList).map mkB).length k2, .string (svOf t).mt]) (svOf t) 3 := fun W2 hb => ⟨_, rfl, hT.below hb⟩
          refine vsgn_any sign (svOf s) (svOf t) 3 3 A1 A2 _ _ k1 k2 W ?_ ?_ (svOf_nn s)
          · intro W2 hb
            exact sem_order (svOf t) (svOf s) 3 3 _ _ W2 _ (tt W2 hb) (so W2 hb) pt.1 ps.1 (by omega) (by omega)
          · intro x hx W2 hb
            have xa : SemAt W2 w.heap.size (.agg #[.int .u64 x.major, .int .u64 x.minor, .int .u64 x.patch, .int .i64 ((0 : Nat) : Int), .slice none 0 0, .string ⟨#[]⟩]) x 0 := by
              obtain ⟨xM, xm, xp, xr, xt, xo⟩ := x
              obtain ⟨h1, h2⟩ := hx
              dsimp only at h1 h2
              subst h1 h2
              exact ⟨_, rfl, Or.inl ⟨rfl, rfl⟩⟩
            have xi : x.pre.data.toList = [] := by rw [hx.1]
            exact sem_order (svOf t) x 3 0 _ _ W2 _ (tt W2 hb) xa pt.1 (Or.inl xi) (by omega) (by rw [hx.1]; decide)
        · intro q1 q2 q3 b hr
          have e : sign = mkT sign.data.toList := (mkT_of sign).symm
          have hl : sign.data.toList.length = sign.size := Array.length_toList
          have := sign_mat sign.data.toList s t hs (c1 hs) ht (by omega) (by omega) hr w hv
          rw [← e] at this
          exact this
  · exact sgl_long sign pre other a0 a1 a2 x0 x1 x2 w hz
end Go.Proofs.YtgoeiflddikihaaGreatDoor.Ver
end
