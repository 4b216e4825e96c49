/- Merged by program out of: SemO4. -/
import Derived.Test.YtgoeiflddikihaaGreatDoorCsoM3
import Derived.Test.YtgoeiflddikihaaGreatDoorCsoM43
import Derived.Lib.QuietBelow
import Derived.BigQuiet
import Derived.Test.YtgoeiflddikihaaGreatDoorCsoM42
import Derived.Test.YtgoeiflddikihaaGreatDoorCsoM9
import Derived.Test.YtgoeiflddikihaaGreatDoorCsoM21
import Derived.Test.YtgoeiflddikihaaGreatDoorCsoM28
section
namespace Go.Proofs.YtgoeiflddikihaaGreatDoor.Ver
set_option linter.unusedSimpArgs false
set_option linter.unusedVariables false
open Go.Sort (grow)
open Go.RowKit Go.Proofs.YtgoeiflddikihaaGreatDoor.Dig Go.Proofs.YtgoeiflddikihaaGreatDoor.PFnVersion Go.Proofs.YtgoeiflddikihaaGreatDoorW.PrintWords Go.Proofs.YtgoeiflddikihaaGreatDoor.Mem Go.Proofs.YtgoeiflddikihaaGreatDoor.Ord Go.Proofs.YtgoeiflddikihaaGreatDoor.Ins
set_option maxRecDepth 20000 in
set_option maxHeartbeats 16000000 in
theorem so_head (a b : ByteArray) (w : World) (hv : Vars w) (za : a.size ≤ 50) (zb : b.size ≤ 50) (x0 x1 x2 y0 y1 y2 : Int) (n1 n2 : Nat) (m1 m2 : ByteArray)
    (hra : ∀ W, Calls Tryz.prog 34 #[.string a] W fun e w' => (∃ A c, e = .returned (.tuple #[.agg #[.int .u64 x0, .int .u64 x1, .int .u64 x2, .int .i64 3, .slice A n1 c, .string m1], .bool true])) ∧ Below W.heap.size W w')
    (hrb : ∀ W, Calls Tryz.prog 34 #[.string b] W fun e w' => (∃ A c, e = .returned (.tuple #[.agg #[.int .u64 y0, .int .u64 y1, .int .u64 y2, .int .i64 3, .slice A n2 c, .string m2], .bool true])) ∧ Below W.heap.size W w')
    (hp1 : ∀ W, Calls Tryz.prog 33 #[.string a, .int .i64 50] W fun e w' => e = .returned (.bool true) ∧ Below W.heap.size W w') (hp2 : ∀ W, Calls Tryz.prog 33 #[.string b, .int .i64 50] W fun e w' => e = .returned (.bool true) ∧ Below W.heap.size W w')
    (ho1 : ∀ A c W, Calls Tryz.prog 36 #[.agg #[.int .u64 x0, .int .u64 x1, .int .u64 x2, .int .i64 3, .slice A n1 c, .string m1]] W fun e w' => e = .returned (.bool false) ∧ Below W.heap.size W w')
    (ho2 : ∀ A c W, Calls Tryz.prog 36 #[.agg #[.int .u64 y0, .int .u64 y1, .int .u64 y2, .int .i64 3, .slice A n2 c, .string m2]] W fun e w' => e = .returned (.bool false) ∧ Below W.heap.size W w')
    (lt eq gt : Bool) (hone : (lt = true ∧ eq = false ∧ gt = false) ∨ (lt = false ∧ eq = true ∧ gt = false) ∨ (lt = false ∧ eq = false ∧ gt = true))
    (hm1 : ∀ W, Below w.heap.size w W → Calls Tryz.prog 27 #[.agg #[.int .i64 2, .string (⟨#[60]⟩ ++ b), .int .i64 0, .string ⟨#[]⟩, .string ⟨#[]⟩, .slice none 0 0], .agg #[.int .i64 3, .string a, .string ⟨#[]⟩]] W fun e w' => e = .returned (.bool lt) ∧ Below W.heap.size W w')
    (hm2 : ∀ W, Below w.heap.size w W → Calls Tryz.prog 27 #[.agg #[.int .i64 2, .string (⟨#[61]⟩ ++ b), .int .i64 0, .string ⟨#[]⟩, .string ⟨#[]⟩, .slice none 0 0], .agg #[.int .i64 3, .string a, .string ⟨#[]⟩]] W fun e w' => e = .returned (.bool eq) ∧ Below W.heap.size W w')
    (hm3 : ∀ W, Below w.heap.size w W → Calls Tryz.prog 27 #[.agg #[.int .i64 2, .string (⟨#[62]⟩ ++ b), .int .i64 0, .string ⟨#[]⟩, .string ⟨#[]⟩, .slice none 0 0], .agg #[.int .i64 3, .string a, .string ⟨#[]⟩]] W fun e w' => e = .returned (.bool gt) ∧ Below W.heap.size W w')
    (hne : eq = false → (a.toList == b.toList) = false) (hne2 : eq = false → (b.toList == a.toList) = false)
    (hsr : eq = false → decide (0 < n1) = decide (0 < n2) → ∀ L : List S27, L.Perm [⟨3, b, ⟨#[]⟩⟩, ⟨3, a, ⟨#[]⟩⟩] → (L.map to30).Pairwise (fun p q => ¬ cmpD true q p < 0) → L = (if lt = true then [⟨3, a, ⟨#[]⟩⟩, ⟨3, b, ⟨#[]⟩⟩] else [⟨3, b, ⟨#[]⟩⟩, ⟨3, a, ⟨#[]⟩⟩]))
    (har : AllRight [⟨3, b, ⟨#[]⟩⟩, ⟨3, a, ⟨#[]⟩⟩]) :
    Calls Tryz.prog 6 #[.string a, .string b] w fun e w' => e = .returned (.bool true) ∧ Below w.heap.size w w' := by
  have HA := Lib.hid (fun W hb => awakeN W (Vars.below (w := w) hv hb))
  have HVB := Lib.hid (fun W hb => Vars.below (w := w) (w' := W) hv hb)
  have HSO := Lib.hid (fun W v base hv ho => psort true [⟨3, b, ⟨#[]⟩⟩, ⟨3, a, ⟨#[]⟩⟩] har (by simp) v base W hv ho)
  have HRa := Lib.hid hra
  have HRb := Lib.hid hrb
  have HP1 := Lib.hid hp1
  have HP2 := Lib.hid hp2
  have HO1 := Lib.hid ho1
  have HO2 := Lib.hid ho2
  have HONE := Lib.hid hone
  have HM1 := Lib.hid hm1
  have HM2 := Lib.hid hm2
  have HM3 := Lib.hid hm3
  have HNE := Lib.hid hne
  have HNE2 := Lib.hid hne2
  have HSR0 := Lib.hid hsr
  have z1 : decide ((2147483647 : Int) < (a.size : Int)) = false := decide_eq_false (by omega)
  have z2 : decide ((2147483647 : Int) < (b.size : Int)) = false := decide_eq_false (by omega)
  have z3 : ¬ (9223372036854775807 < 1 + b.size) := by omega
  have HM := Aside0.mk (Blks.start w)
  clear hv hra hrb hp1 hp2 ho1 ho2 hone hm1 hm2 hm3 hne hne2 hsr har za zb
  go_enter Tryz.func6, Tryz.ntmps6
  go_upto_region 5 with (first | (go_at_call 34; ((with_reducible refine (HRa.out _).mono ?_); rintro e w1 ⟨⟨A1, c1, rfl⟩, hb⟩; replace HM := n_call hb; clear hb)) | (go_at_call 34; ((with_reducible refine (HRb.out _).mono ?_); rintro e w2 ⟨⟨A2, c2, rfl⟩, hb⟩; replace HM := n_call hb; clear hb)) | (go_at_call 25; ((with_reducible refine (HA.out _ n_bel).mono ?_); rintro e wa ⟨rfl, hb⟩; replace HM := n_call hb; clear hb)) | (go_at_call 33; (first | ((with_reducible refine (HP1.out _).mono ?_); rintro e wv ⟨rfl, hb⟩; replace HM := n_call hb; clear hb) | ((with_reducible refine (HP2.out _).mono ?_); rintro e wv ⟨rfl, hb⟩; replace HM := n_call hb; clear hb)); have k0 := n_cell (b := b5) (o := 0); have k1 := n_cell (b := b5) (o := 1); have k2 := n_cell (b := b5) (o := 2); have k3 := n_cell (b := b5) (o := 3); have k4 := n_cell (b := b5) (o := 4); have k5 := n_cell (b := b5) (o := 5); have j0 := n_cell (b := b7) (o := 0); have j1 := n_cell (b := b7) (o := 1); have j2 := n_cell (b := b7) (o := 2); have j3 := n_cell (b := b7) (o := 3); have j4 := n_cell (b := b7) (o := 4); have j5 := n_cell (b := b7) (o := 5)) | (go_at_call 36; (first | ((with_reducible refine (HO1.out _ _ _).mono ?_); rintro e wm ⟨rfl, hb⟩; replace HM := n_call hb; clear hb) | ((with_reducible refine (HO2.out _ _ _).mono ?_); rintro e wm ⟨rfl, hb⟩; replace HM := n_call hb; clear hb)); have k0 := n_cell (b := b5) (o := 0); have k1 := n_cell (b := b5) (o := 1); have k2 := n_cell (b := b5) (o := 2); have k3 := n_cell (b := b5) (o := 3); have k4 := n_cell (b := b5) (o := 4); have k5 := n_cell (b := b5) (o := 5); have j0 := n_cell (b := b7) (o := 0); have j1 := n_cell (b := b7) (o := 1); have j2 := n_cell (b := b7) (o := 2); have j3 := n_cell (b := b7) (o := 3); have j4 := n_cell (b := b7) (o := 4); have j5 := n_cell (b := b7) (o := 5)) | ((with_reducible refine id_alloc (d := some 5) ?_); (refine n_al ?_; clear HM; intro b5 wq HM)) | ((with_reducible refine id_alloc (d := some 7) ?_); (refine n_al ?_; clear HM; intro b7 wq HM)) | ((with_reducible refine id_alloc (d := some 9) ?_); (refine n_al ?_; clear HM; intro b9 wq HM)) | ((with_reducible refine id_alloc (d := some 10) ?_); (refine n_al ?_; clear HM; intro b10 wq HM)) | ((with_reducible refine id_store ?_); (refine n_st ?_; clear HM; intro wq HM)) | ((with_reducible refine id_load ?_); refine n_ld1 ?_) | ((with_reducible refine id_load ?_); refine n_ld ?_))
  have k0 := n_cell (b := b5) (o := 0); have k1 := n_cell (b := b5) (o := 1); have k2 := n_cell (b := b5) (o := 2); have k3 := n_cell (b := b5) (o := 3); have k4 := n_cell (b := b5) (o := 4); have k5 := n_cell (b := b5) (o := 5); have j0 := n_cell (b := b7) (o := 0); have j1 := n_cell (b := b7) (o := 1); have j2 := n_cell (b := b7) (o := 2); have j3 := n_cell (b := b7) (o := 3); have j4 := n_cell (b := b7) (o := 4); have j5 := n_cell (b := b7) (o := 5)
  go_upto_region 8 with (first | (go_at_call 34; ((with_reducible refine (HRa.out _).mono ?_); rintro e w1 ⟨⟨A1, c1, rfl⟩, hb⟩; replace HM := n_call hb; clear hb)) | (go_at_call 34; ((with_reducible refine (HRb.out _).mono ?_); rintro e w2 ⟨⟨A2, c2, rfl⟩, hb⟩; replace HM := n_call hb; clear hb)) | (go_at_call 25; ((with_reducible refine (HA.out _ n_bel).mono ?_); rintro e wa ⟨rfl, hb⟩; replace HM := n_call hb; clear hb)) | (go_at_call 33; (first | ((with_reducible refine (HP1.out _).mono ?_); rintro e wv ⟨rfl, hb⟩; replace HM := n_call hb; clear hb) | ((with_reducible refine (HP2.out _).mono ?_); rintro e wv ⟨rfl, hb⟩; replace HM := n_call hb; clear hb)); have k0 := n_cell (b := b5) (o := 0); have k1 := n_cell (b := b5) (o := 1); have k2 := n_cell (b := b5) (o := 2); have k3 := n_cell (b := b5) (o := 3); have k4 := n_cell (b := b5) (o := 4); have k5 := n_cell (b := b5) (o := 5); have j0 := n_cell (b := b7) (o := 0); have j1 := n_cell (b := b7) (o := 1); have j2 := n_cell (b := b7) (o := 2); have j3 := n_cell (b := b7) (o := 3); have j4 := n_cell (b := b7) (o := 4); have j5 := n_cell (b := b7) (o := 5)) | (go_at_call 36; (first | ((with_reducible refine (HO1.out _ _ _).mono ?_); rintro e wm ⟨rfl, hb⟩; replace HM := n_call hb; clear hb) | ((with_reducible refine (HO2.out _ _ _).mono ?_); rintro e wm ⟨rfl, hb⟩; replace HM := n_call hb; clear hb)); have k0 := n_cell (b := b5) (o := 0); have k1 := n_cell (b := b5) (o := 1); have k2 := n_cell (b := b5) (o := 2); have k3 := n_cell (b := b5) (o := 3); have k4 := n_cell (b := b5) (o := 4); have k5 := n_cell (b := b5) (o := 5); have j0 := n_cell (b := b7) (o := 0); have j1 := n_cell (b := b7) (o := 1); have j2 := n_cell (b := b7) (o := 2); have j3 := n_cell (b := b7) (o := 3); have j4 := n_cell (b := b7) (o := 4); have j5 := n_cell (b := b7) (o := 5)) | ((with_reducible refine id_alloc (d := some 5) ?_); (refine n_al ?_; clear HM; intro b5 wq HM)) | ((with_reducible refine id_alloc (d := some 7) ?_); (refine n_al ?_; clear HM; intro b7 wq HM)) | ((with_reducible refine id_alloc (d := some 9) ?_); (refine n_al ?_; clear HM; intro b9 wq HM)) | ((with_reducible refine id_alloc (d := some 10) ?_); (refine n_al ?_; clear HM; intro b10 wq HM)) | ((with_reducible refine id_store ?_); (refine n_st ?_; clear HM; intro wq HM)) | ((with_reducible refine id_load ?_); refine n_ld1 ?_) | ((with_reducible refine id_load ?_); refine n_ld ?_))
  go_simp
  obtain ⟨w8, hw8⟩ : ∃ x, x = wq := ⟨_, rfl⟩
  subst hw8
  have hr := HM.out.range (b := b9) (o := 0) (n := 3) n_mem n_rd
  have k0 := fun d os => cell_regrown (show w8.cell? ⟨b9, 0, none⟩ = some (.int .i64 3) from hr 0 _ rfl) d os
  have k1 := fun d os => cell_regrown (show w8.cell? ⟨b9, 1, none⟩ = some (.string a) from hr 1 _ rfl) d os
  have k2 := fun d os => cell_regrown (show w8.cell? ⟨b9, 2, none⟩ = some (.string ⟨#[]⟩) from hr 2 _ rfl) d os
  clear hr
  have HB1 := Lib.hid (fun d os => Calls.regrown_of (HM1.out (grow (redrawn w8 d) os) (below_trans HM.out.bel (below_regrown w8 d os))))
  have HB2 := Lib.hid (fun d os => Calls.regrown_of (HM2.out (grow (redrawn w8 d) os) (below_trans HM.out.bel (below_regrown w8 d os))))
  have HB3 := Lib.hid (fun d os => Calls.regrown_of (HM3.out (grow (redrawn w8 d) os) (below_trans HM.out.bel (below_regrown w8 d os))))
  refine wp_region_quiet_below (by kernel_rfl) (by kernel_rfl) ?_
  repeat (go_big_quiet_step (first | with_reducible exact HB1.out _ _ | with_reducible exact HB2.out _ _ | with_reducible exact HB3.out _ _))
  refine wpQuiet_nil ?_
  intro _ hw'
  obtain ⟨⟨dq, osq⟩, hw''⟩ := hw'
  subst hw''
  have HN := Aside0.mk (Blks.call HM.out (below_regrown w8 dq osq))
  clear HM
  have HM := HN
  clear HN k0 k1 k2 HB1 HB2 HB3
  generalize grow (redrawn w8 dq) osq = w9 at HM ⊢
  rcases HONE.out with ⟨rfl, rfl, rfl⟩ | ⟨rfl, rfl, rfl⟩ | ⟨rfl, rfl, rfl⟩
  · have ne1 := HNE.out rfl
    have ne2 := HNE2.out rfl
    have hs2 := HSR0.out rfl
    by_cases heq : decide (0 < n1) = decide (0 < n2)
    · have hL0 := Lib.hid (hs2 heq)
      have e1 : decide ((0 : Int) < (n1 : Int)) = decide (0 < n1) := by simp
      have e2 : decide ((0 : Int) < (n2 : Int)) = decide (0 < n1) := by rw [heq]; simp
      have e4 : decide (0 < n2) = decide (0 < n1) := heq.symm
      generalize hz : decide (0 < n1) = z at e1 e2 e4
      clear hs2 heq
      have k0 := n_cell (b := b5) (o := 0); have k1 := n_cell (b := b5) (o := 1); have k2 := n_cell (b := b5) (o := 2); have k3 := n_cell (b := b5) (o := 3); have k4 := n_cell (b := b5) (o := 4); have k5 := n_cell (b := b5) (o := 5); have j0 := n_cell (b := b7) (o := 0); have j1 := n_cell (b := b7) (o := 1); have j2 := n_cell (b := b7) (o := 2); have j3 := n_cell (b := b7) (o := 3); have j4 := n_cell (b := b7) (o := 4); have j5 := n_cell (b := b7) (o := 5)
      cases z
      all_goals
        go_upto_region 14 with (first | ((with_reducible refine id_load ?_); refine n_ld1 ?_) | ((with_reducible refine id_load ?_); refine n_ld ?_) | ((with_reducible refine id_slice ?_); (refine n_sl Tryz.underlying23 (by rw [Array.toList_map]; exact slice_twoG infoV27 rfl (by decide) _ _ rfl rfl) ?_; clear HM; intro bs wq HM)) | (go_at_call 37; ((refine (HSO.out _ _ _ (HVB.out _ n_bel) (two_row n_own n_mem)).mono ?_); rintro e ws ⟨xs, L, rfl, hp, hso, ho, hb⟩; have HP := Lib.hid hp; have HSR := Lib.hid hso; have HOW := Lib.hid ho; clear hp hso ho; replace HM := n_call hb; clear hb)))
        go_simp
        have hL := hL0.out L HP.out HSR.out
        rw [if_pos trivial] at hL
        clear hL0 HP HSR
        subst hL
        obtain ⟨g, c, rfl, f0, f1, f2, f3, f4, f5⟩ := two_at HOW.out
        have j0 := fun d os => cell_regrown f0 d os
        have j1 := fun d os => cell_regrown f1 d os
        have j2 := fun d os => cell_regrown f2 d os
        have j3 := fun d os => cell_regrown f3 d os
        have j4 := fun d os => cell_regrown f4 d os
        have j5 := fun d os => cell_regrown f5 d os
        clear f0 f1 f2 f3 f4 f5
        have hr := HM.out.range (b := b9) (o := 0) (n := 3) n_mem n_rd
        have k0 := fun d os => cell_regrown (show ws.cell? ⟨b9, 0, none⟩ = some (.int .i64 3) from hr 0 _ rfl) d os
        have k1 := fun d os => cell_regrown (show ws.cell? ⟨b9, 1, none⟩ = some (.string a) from hr 1 _ rfl) d os
        have k2 := fun d os => cell_regrown (show ws.cell? ⟨b9, 2, none⟩ = some (.string ⟨#[]⟩) from hr 2 _ rfl) d os
        clear hr
        have HA5 := Lib.hid (fun d os => Calls.regrown_of (HA.out (grow (redrawn ws d) os) (below_trans HM.out.bel (below_regrown ws d os))))
        dsimp only at j0 j1 j2 j3 j4 j5
        refine wp_region_quiet_below (by kernel_rfl) (by kernel_rfl) ?_
        repeat (go_big_quiet_step (first | with_reducible exact HA5.out _ _))
        refine wpQuiet_nil ?_
        intro _ hw'
        obtain ⟨⟨dq, osq⟩, hw''⟩ := hw'
        subst hw''
        go_wp2_with fail
        go_ret
        exact ⟨rfl, below_trans HM.out.bel (below_regrown ws _ _)⟩
    · have e1 : decide ((0 : Int) < (n1 : Int)) = decide (0 < n1) := by simp
      have e2 : decide ((0 : Int) < (n2 : Int)) = !decide (0 < n1) := by
        have : decide ((0 : Int) < (n2 : Int)) = decide (0 < n2) := by simp
        rw [this]; cases h1 : decide (0 < n1) <;> cases h2 : decide (0 < n2) <;> first | rfl | exact absurd (h1.trans h2.symm) heq
      have e4 : decide (0 < n2) = !decide (0 < n1) := by rw [← e2]; simp
      generalize hz : decide (0 < n1) = z at e1 e2 e4
      clear hs2 heq
      have k0 := n_cell (b := b5) (o := 0); have k1 := n_cell (b := b5) (o := 1); have k2 := n_cell (b := b5) (o := 2); have k3 := n_cell (b := b5) (o := 3); have k4 := n_cell (b := b5) (o := 4); have k5 := n_cell (b := b5) (o := 5); have j0 := n_cell (b := b7) (o := 0); have j1 := n_cell (b := b7) (o := 1); have j2 := n_cell (b := b7) (o := 2); have j3 := n_cell (b := b7) (o := 3); have j4 := n_cell (b := b7) (o := 4); have j5 := n_cell (b := b7) (o := 5)
      cases z
      all_goals
        go_wp2_with (first | (go_at_call 25; ((with_reducible refine (HA.out _ n_bel).mono ?_); rintro e wa ⟨rfl, hb⟩; replace HM := n_call hb; clear hb)) | ((with_reducible refine id_load ?_); refine n_ld1 ?_) | ((with_reducible refine id_load ?_); refine n_ld ?_))
        go_ret
        exact ⟨rfl, HM.out.bel⟩
  · go_wp2_with (first | (go_at_call 25; ((with_reducible refine (HA.out _ n_bel).mono ?_); rintro e wa ⟨rfl, hb⟩; replace HM := n_call hb; clear hb)))
    go_ret
    exact ⟨rfl, HM.out.bel⟩
  · have ne1 := HNE.out rfl
    have ne2 := HNE2.out rfl
    have hs2 := HSR0.out rfl
    by_cases heq : decide (0 < n1) = decide (0 < n2)
    · have hL0 := Lib.hid (hs2 heq)
      have e1 : decide ((0 : Int) < (n1 : Int)) = decide (0 < n1) := by simp
      have e2 : decide ((0 : Int) < (n2 : Int)) = decide (0 < n1) := by rw [heq]; simp
      have e4 : decide (0 < n2) = decide (0 < n1) := heq.symm
      generalize hz : decide (0 < n1) = z at e1 e2 e4
      clear hs2 heq
      have k0 := n_cell (b := b5) (o := 0); have k1 := n_cell (b := b5) (o := 1); have k2 := n_cell (b := b5) (o := 2); have k3 := n_cell (b := b5) (o := 3); have k4 := n_cell (b := b5) (o := 4); have k5 := n_cell (b := b5) (o := 5); have j0 := n_cell (b := b7) (o := 0); have j1 := n_cell (b := b7) (o := 1); have j2 := n_cell (b := b7) (o := 2); have j3 := n_cell (b := b7) (o := 3); have j4 := n_cell (b := b7) (o := 4); have j5 := n_cell (b := b7) (o := 5)
      cases z
      all_goals
        go_upto_region 14 with (first | ((with_reducible refine id_load ?_); refine n_ld1 ?_) | ((with_reducible refine id_load ?_); refine n_ld ?_) | ((with_reducible refine id_slice ?_); (refine n_sl Tryz.underlying23 (by rw [Array.toList_map]; exact slice_twoG infoV27 rfl (by decide) _ _ rfl rfl) ?_; clear HM; intro bs wq HM)) | (go_at_call 37; ((refine (HSO.out _ _ _ (HVB.out _ n_bel) (two_row n_own n_mem)).mono ?_); rintro e ws ⟨xs, L, rfl, hp, hso, ho, hb⟩; have HP := Lib.hid hp; have HSR := Lib.hid hso; have HOW := Lib.hid ho; clear hp hso ho; replace HM := n_call hb; clear hb)))
        go_simp
        have hL := hL0.out L HP.out HSR.out
        rw [if_neg (by decide)] at hL
        clear hL0 HP HSR
        subst hL
        obtain ⟨g, c, rfl, f0, f1, f2, f3, f4, f5⟩ := two_at HOW.out
        have j0 := fun d os => cell_regrown f0 d os
        have j1 := fun d os => cell_regrown f1 d os
        have j2 := fun d os => cell_regrown f2 d os
        have j3 := fun d os => cell_regrown f3 d os
        have j4 := fun d os => cell_regrown f4 d os
        have j5 := fun d os => cell_regrown f5 d os
        clear f0 f1 f2 f3 f4 f5
        have hr := HM.out.range (b := b9) (o := 0) (n := 3) n_mem n_rd
        have k0 := fun d os => cell_regrown (show ws.cell? ⟨b9, 0, none⟩ = some (.int .i64 3) from hr 0 _ rfl) d os
        have k1 := fun d os => cell_regrown (show ws.cell? ⟨b9, 1, none⟩ = some (.string a) from hr 1 _ rfl) d os
        have k2 := fun d os => cell_regrown (show ws.cell? ⟨b9, 2, none⟩ = some (.string ⟨#[]⟩) from hr 2 _ rfl) d os
        clear hr
        have HA5 := Lib.hid (fun d os => Calls.regrown_of (HA.out (grow (redrawn ws d) os) (below_trans HM.out.bel (below_regrown ws d os))))
        dsimp only at j0 j1 j2 j3 j4 j5
        refine wp_region_quiet_below (by kernel_rfl) (by kernel_rfl) ?_
        repeat (go_big_quiet_step (first | with_reducible exact HA5.out _ _))
        refine wpQuiet_nil ?_
        intro _ hw'
        obtain ⟨⟨dq, osq⟩, hw''⟩ := hw'
        subst hw''
        go_wp2_with fail
        go_ret
        exact ⟨rfl, below_trans HM.out.bel (below_regrown ws _ _)⟩
    · have e1 : decide ((0 : Int) < (n1 : Int)) = decide (0 < n1) := by simp
      have e2 : decide ((0 : Int) < (n2 : Int)) = !decide (0 < n1) := by
        have : decide ((0 : Int) < (n2 : Int)) = decide (0 < n2) := by simp
        rw [this]; cases h1 : decide (0 < n1) <;> cases h2 : decide (0 < n2) <;> first | rfl | exact absurd (h1.trans h2.symm) heq
      have e4 : decide (0 < n2) = !decide (0 < n1) := by rw [← e2]; simp
      generalize hz : decide (0 < n1) = z at e1 e2 e4
      clear hs2 heq
      have k0 := n_cell (b := b5) (o := 0); have k1 := n_cell (b := b5) (o := 1); have k2 := n_cell (b := b5) (o := 2); have k3 := n_cell (b := b5) (o := 3); have k4 := n_cell (b := b5) (o := 4); have k5 := n_cell (b := b5) (o := 5); have j0 := n_cell (b := b7) (o := 0); have j1 := n_cell (b := b7) (o := 1); have j2 := n_cell (b := b7) (o := 2); have j3 := n_cell (b := b7) (o := 3); have j4 := n_cell (b := b7) (o := 4); have j5 := n_cell (b := b7) (o := 5)
      cases z
      all_goals
        go_wp2_with (first | (go_at_call 25; ((with_reducible refine (HA.out _ n_bel).mono ?_); rintro e wa ⟨rfl, hb⟩; replace HM := n_call hb; clear hb)) | ((with_reducible refine id_load ?_); refine n_ld1 ?_) | ((with_reducible refine id_load ?_); refine n_ld ?_))
        go_ret
        exact ⟨rfl, HM.out.bel⟩
end Go.Proofs.YtgoeiflddikihaaGreatDoor.Ver
end
