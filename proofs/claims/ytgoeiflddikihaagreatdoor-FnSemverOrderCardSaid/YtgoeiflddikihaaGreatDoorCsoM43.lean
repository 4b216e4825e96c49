/- Merged by program out of: SemO3. -/
import Derived.Test.YtgoeiflddikihaaGreatDoorCsoM3
import Derived.Test.YtgoeiflddikihaaGreatDoorCsoM42
import Derived.Test.YtgoeiflddikihaaGreatDoorCsoM9
import Derived.Test.YtgoeiflddikihaaGreatDoorCsoM21
import Derived.Test.YtgoeiflddikihaaGreatDoorCsoM28
section
namespace Go.Proofs.YtgoeiflddikihaaGreatDoor.Ver
set_option linter.unusedSimpArgs false
set_option linter.unusedVariables false
open Go.Sort (grow)
open Go.RowKit Go.Proofs.YtgoeiflddikihaaGreatDoor.Dig Go.Proofs.YtgoeiflddikihaaGreatDoor.PFnVersion Go.Proofs.YtgoeiflddikihaaGreatDoorW.PrintWords Go.Proofs.YtgoeiflddikihaaGreatDoor.Mem Go.Proofs.YtgoeiflddikihaaGreatDoor.Ord Go.Proofs.YtgoeiflddikihaaGreatDoor.Ins
set_option maxRecDepth 20000 in
set_option maxHeartbeats 16000000 in
theorem so_early (a b : ByteArray) (w : World) (hga : a.size ≤ 140737488351232) (hgb : b.size ≤ 140737488351232) (hv : Vars w)
    (hmain : ∀ na pa ma nb pb mb, qSemB0 a.data.toList = some (na, pa, ma) → qSemB0 b.data.toList = some (nb, pb, mb) → 0 < a.size → a.size ≤ 50 → 0 < b.size → b.size ≤ 50 → na.length = 3 → nb.length = 3 →
      (∀ W, Calls Tryz.prog 33 #[.string a, .int .i64 50] W fun e w' => e = .returned (.bool true) ∧ Below W.heap.size W w') → (∀ W, Calls Tryz.prog 33 #[.string b, .int .i64 50] W fun e w' => e = .returned (.bool true) ∧ Below W.heap.size W w') →
      (∀ A c W, Calls Tryz.prog 36 #[.agg #[.int .u64 (na.getD 0 0 : Nat), .int .u64 (na.getD 1 0 : Nat), .int .u64 (na.getD 2 0 : Nat), .int .i64 (na.length : Int), .slice A ((preParts pa).map mkB).length c, .string (mkB ma)]] W fun e w' => e = .returned (.bool false) ∧ Below W.heap.size W w') →
      (∀ A c W, Calls Tryz.prog 36 #[.agg #[.int .u64 (nb.getD 0 0 : Nat), .int .u64 (nb.getD 1 0 : Nat), .int .u64 (nb.getD 2 0 : Nat), .int .i64 (nb.length : Int), .slice A ((preParts pb).map mkB).length c, .string (mkB mb)]] W fun e w' => e = .returned (.bool false) ∧ Below W.heap.size W w') →
      Calls Tryz.prog 6 #[.string a, .string b] w fun e w' => e = .returned (.bool true) ∧ Below w.heap.size w w') :
    Calls Tryz.prog 6 #[.string a, .string b] w fun e w' => e = .returned (.bool true) ∧ Below w.heap.size w w' := by
  have HA := Lib.hid (fun W hb => awakeN W (Vars.below (w := w) hv hb))
  have HMN := Lib.hid hmain
  have HM := Aside0.mk (Blks.start w)
  clear hv hmain
  by_cases za : a.size ≤ 2147483647
  · have z1 : decide ((2147483647 : Int) < (a.size : Int)) = false := decide_eq_false (by omega)
    by_cases zb : b.size ≤ 2147483647
    · have z2 : decide ((2147483647 : Int) < (b.size : Int)) = false := decide_eq_false (by omega)
      have hra := fun W => read_sem a (by omega) W
      have hrb := fun W => read_sem b (by omega) W
      cases hqa : qSemB0 a.data.toList with
      | none =>
        simp only [hqa] at hra
        have HRa := Lib.hid hra
        cases hqb : qSemB0 b.data.toList with
        | none =>
          simp only [hqb] at hrb
          have HRb := Lib.hid hrb
          clear hra hrb hqa hqb HMN
          go_enter Tryz.func6, Tryz.ntmps6
          go_wp2_with (first | (go_at_call 34; ((with_reducible refine (HRa.out _).mono ?_); rintro e w1 ⟨rfl, hb⟩; replace HM := n_call hb; clear hb)) | (go_at_call 34; ((with_reducible refine (HRb.out _).mono ?_); rintro e w2 ⟨rfl, hb⟩; replace HM := n_call hb; clear hb)) | (go_at_call 25; ((with_reducible refine (HA.out _ n_bel).mono ?_); rintro e wa ⟨rfl, hb⟩; replace HM := n_call hb; clear hb)) | ((with_reducible refine id_alloc (d := some 5) ?_); (refine n_al ?_; clear HM; intro b5 wq HM)) | ((with_reducible refine id_alloc (d := some 7) ?_); (refine n_al ?_; clear HM; intro b7 wq HM)) | ((with_reducible refine id_alloc (d := some 9) ?_); (refine n_al ?_; clear HM; intro b9 wq HM)) | ((with_reducible refine id_alloc (d := some 10) ?_); (refine n_al ?_; clear HM; intro b10 wq HM)) | ((with_reducible refine id_store ?_); (refine n_st ?_; clear HM; intro wq HM)) | ((with_reducible refine id_load ?_); refine n_ld1 ?_) | ((with_reducible refine id_load ?_); refine n_ld ?_))
          go_ret
          exact ⟨rfl, HM.out.bel⟩
        | some q =>
          simp only [hqb] at hrb
          obtain ⟨nb, pb, mb⟩ := q
          have HRb := Lib.hid hrb
          clear hra hrb hqa hqb HMN
          go_enter Tryz.func6, Tryz.ntmps6
          go_wp2_with (first | (go_at_call 34; ((with_reducible refine (HRa.out _).mono ?_); rintro e w1 ⟨rfl, hb⟩; replace HM := n_call hb; clear hb)) | (go_at_call 34; ((with_reducible refine (HRb.out _).mono ?_); rintro e w2 ⟨⟨P2, rfl, hP⟩, hb⟩; obtain ⟨A2, c2, rfl⟩ := hP.val; clear hP; replace HM := n_call hb; clear hb)) | (go_at_call 25; ((with_reducible refine (HA.out _ n_bel).mono ?_); rintro e wa ⟨rfl, hb⟩; replace HM := n_call hb; clear hb)) | ((with_reducible refine id_alloc (d := some 5) ?_); (refine n_al ?_; clear HM; intro b5 wq HM)) | ((with_reducible refine id_alloc (d := some 7) ?_); (refine n_al ?_; clear HM; intro b7 wq HM)) | ((with_reducible refine id_alloc (d := some 9) ?_); (refine n_al ?_; clear HM; intro b9 wq HM)) | ((with_reducible refine id_alloc (d := some 10) ?_); (refine n_al ?_; clear HM; intro b10 wq HM)) | ((with_reducible refine id_store ?_); (refine n_st ?_; clear HM; intro wq HM)) | ((with_reducible refine id_load ?_); refine n_ld1 ?_) | ((with_reducible refine id_load ?_); refine n_ld ?_))
          go_ret
          exact ⟨rfl, HM.out.bel⟩
      | some q =>
        simp only [hqa] at hra
        obtain ⟨na, pa, ma⟩ := q
        have HRa := Lib.hid hra
        cases hqb : qSemB0 b.data.toList with
        | none =>
          simp only [hqb] at hrb
          have HRb := Lib.hid hrb
          clear hra hrb hqa hqb HMN
          go_enter Tryz.func6, Tryz.ntmps6
          go_wp2_with (first | (go_at_call 34; ((with_reducible refine (HRa.out _).mono ?_); rintro e w1 ⟨⟨P1, rfl, hP⟩, hb⟩; obtain ⟨A1, c1, rfl⟩ := hP.val; clear hP; replace HM := n_call hb; clear hb)) | (go_at_call 34; ((with_reducible refine (HRb.out _).mono ?_); rintro e w2 ⟨rfl, hb⟩; replace HM := n_call hb; clear hb)) | (go_at_call 25; ((with_reducible refine (HA.out _ n_bel).mono ?_); rintro e wa ⟨rfl, hb⟩; replace HM := n_call hb; clear hb)) | ((with_reducible refine id_alloc (d := some 5) ?_); (refine n_al ?_; clear HM; intro b5 wq HM)) | ((with_reducible refine id_alloc (d := some 7) ?_); (refine n_al ?_; clear HM; intro b7 wq HM)) | ((with_reducible refine id_alloc (d := some 9) ?_); (refine n_al ?_; clear HM; intro b9 wq HM)) | ((with_reducible refine id_alloc (d := some 10) ?_); (refine n_al ?_; clear HM; intro b10 wq HM)) | ((with_reducible refine id_store ?_); (refine n_st ?_; clear HM; intro wq HM)) | ((with_reducible refine id_load ?_); refine n_ld1 ?_) | ((with_reducible refine id_load ?_); refine n_ld ?_))
          go_ret
          exact ⟨rfl, HM.out.bel⟩
        | some q =>
          simp only [hqb] at hrb
          obtain ⟨nb, pb, mb⟩ := q
          clear HRa
          have HQA := Lib.hid hqa
          have HQB := Lib.hid hqb
          obtain ⟨v1, hs1, hp1⟩ := plainM a hga 50 (by decide)
          obtain ⟨v2, hs2, hp2⟩ := plainM b hgb 50 (by decide)
          have HP1 : Hid (∀ W, Calls Tryz.prog 33 #[.string a, .int .i64 50] W fun e w' => e = .returned (.bool v1) ∧ Below W.heap.size W w') := Lib.hid (fun W => (hp1 W).mono fun e w' h => ⟨h.1, h.2.below⟩)
          have HP2 : Hid (∀ W, Calls Tryz.prog 33 #[.string b, .int .i64 50] W fun e w' => e = .returned (.bool v2) ∧ Below W.heap.size W w') := Lib.hid (fun W => (hp2 W).mono fun e w' h => ⟨h.1, h.2.below⟩)
          have HS1 := Lib.hid hs1
          have HS2 := Lib.hid hs2
          have ho1 := most_any (na.getD 0 0 : Nat) (na.getD 1 0 : Nat) (na.getD 2 0 : Nat) (na.length : Int) (mkB ma) ((preParts pa).map mkB).length
          have ho2 := most_any (nb.getD 0 0 : Nat) (nb.getD 1 0 : Nat) (nb.getD 2 0 : Nat) (nb.length : Int) (mkB mb) ((preParts pb).map mkB).length
          obtain ⟨m1, ho1⟩ := ho1
          obtain ⟨m2, ho2⟩ := ho2
          have HF1 := Lib.hid ho1
          have HF2 := Lib.hid ho2
          change ∀ W, Calls Tryz.prog 34 #[.string a] W (RdYes ((na.getD 0 0 : Nat) : Int) ((na.getD 1 0 : Nat) : Int) ((na.getD 2 0 : Nat) : Int) na.length (mkB ma) ((preParts pa).map mkB) W) at hra
          change ∀ W, Calls Tryz.prog 34 #[.string b] W (RdYes ((nb.getD 0 0 : Nat) : Int) ((nb.getD 1 0 : Nat) : Int) ((nb.getD 2 0 : Nat) : Int) nb.length (mkB mb) ((preParts pb).map mkB) W) at hrb
          generalize ((na.getD 0 0 : Nat) : Int) = x0 at hra ho1
          generalize ((na.getD 1 0 : Nat) : Int) = x1 at hra ho1
          generalize ((na.getD 2 0 : Nat) : Int) = x2 at hra ho1
          generalize ((nb.getD 0 0 : Nat) : Int) = y0 at hrb ho2
          generalize ((nb.getD 1 0 : Nat) : Int) = y1 at hrb ho2
          generalize ((nb.getD 2 0 : Nat) : Int) = y2 at hrb ho2
          generalize (preParts pa).map mkB = pp1 at hra ho1
          generalize (preParts pb).map mkB = pp2 at hrb ho2
          generalize mkB ma = mm1 at hra ho1
          generalize mkB mb = mm2 at hrb ho2
          have HRa := Lib.hid hra
          have HRb := Lib.hid hrb
          have HO1 := Lib.hid ho1
          have HO2 := Lib.hid ho2
          have la : na.length ≤ 3 := (readV_cnt (show readV a = some (_, na.length) by rw [readV_eq, qReadB, hqa]; rfl)).2
          have lb : nb.length ≤ 3 := (readV_cnt (show readV b = some (_, nb.length) by rw [readV_eq, qReadB, hqb]; rfl)).2
          clear hra hrb hqa hqb hp1 hp2 hs1 hs2 ho1 ho2
          have hc : (v1 = false ∨ (v1 = true ∧ v2 = false) ∨ (v1 = true ∧ v2 = true ∧ decide ((na.length : Int) < 3) = true) ∨ (v1 = true ∧ v2 = true ∧ decide ((na.length : Int) < 3) = false ∧ decide ((nb.length : Int) < 3) = true) ∨ (v1 = true ∧ v2 = true ∧ decide ((na.length : Int) < 3) = false ∧ decide ((nb.length : Int) < 3) = false ∧ m1 = true) ∨ (v1 = true ∧ v2 = true ∧ decide ((na.length : Int) < 3) = false ∧ decide ((nb.length : Int) < 3) = false ∧ m1 = false ∧ m2 = true)) ∨
              (v1 = true ∧ v2 = true ∧ decide ((na.length : Int) < 3) = false ∧ decide ((nb.length : Int) < 3) = false ∧ m1 = false ∧ m2 = false) := by
            cases v1 <;> cases v2 <;> cases m1 <;> cases m2 <;> cases decide ((na.length : Int) < 3) <;> cases decide ((nb.length : Int) < 3) <;> simp
          rcases hc with he | ⟨rfl, rfl, d1, d2, rfl, rfl⟩
          · rcases he with rfl | ⟨rfl, rfl⟩ | ⟨rfl, rfl, d1⟩ | ⟨rfl, rfl, d1, d2⟩ | ⟨rfl, rfl, d1, d2, rfl⟩ | ⟨rfl, rfl, d1, d2, rfl, rfl⟩
            all_goals
              clear la lb
              go_enter Tryz.func6, Tryz.ntmps6
              go_upto_region 5 with (first | (go_at_call 34; ((with_reducible refine (HRa.out _).mono ?_); rintro e w1 ⟨⟨P1, rfl, hP⟩, hb⟩; obtain ⟨A1, c1, rfl⟩ := hP.val; clear hP; replace HM := n_call hb; clear hb)) | (go_at_call 34; ((with_reducible refine (HRb.out _).mono ?_); rintro e w2 ⟨⟨P2, rfl, hP⟩, hb⟩; obtain ⟨A2, c2, rfl⟩ := hP.val; clear hP; replace HM := n_call hb; clear hb)) | (go_at_call 25; ((with_reducible refine (HA.out _ n_bel).mono ?_); rintro e wa ⟨rfl, hb⟩; replace HM := n_call hb; clear hb)) | (go_at_call 33; (first | ((with_reducible refine (HP1.out _).mono ?_); rintro e wv ⟨rfl, hb⟩; replace HM := n_call hb; clear hb) | ((with_reducible refine (HP2.out _).mono ?_); rintro e wv ⟨rfl, hb⟩; replace HM := n_call hb; clear hb)); have k0 := n_cell (b := b5) (o := 0); have k1 := n_cell (b := b5) (o := 1); have k2 := n_cell (b := b5) (o := 2); have k3 := n_cell (b := b5) (o := 3); have k4 := n_cell (b := b5) (o := 4); have k5 := n_cell (b := b5) (o := 5); have j0 := n_cell (b := b7) (o := 0); have j1 := n_cell (b := b7) (o := 1); have j2 := n_cell (b := b7) (o := 2); have j3 := n_cell (b := b7) (o := 3); have j4 := n_cell (b := b7) (o := 4); have j5 := n_cell (b := b7) (o := 5)) | (go_at_call 36; (first | ((with_reducible refine (HO1.out _ _ _).mono ?_); rintro e wm ⟨rfl, hb⟩; replace HM := n_call hb; clear hb) | ((with_reducible refine (HO2.out _ _ _).mono ?_); rintro e wm ⟨rfl, hb⟩; replace HM := n_call hb; clear hb)); have k0 := n_cell (b := b5) (o := 0); have k1 := n_cell (b := b5) (o := 1); have k2 := n_cell (b := b5) (o := 2); have k3 := n_cell (b := b5) (o := 3); have k4 := n_cell (b := b5) (o := 4); have k5 := n_cell (b := b5) (o := 5); have j0 := n_cell (b := b7) (o := 0); have j1 := n_cell (b := b7) (o := 1); have j2 := n_cell (b := b7) (o := 2); have j3 := n_cell (b := b7) (o := 3); have j4 := n_cell (b := b7) (o := 4); have j5 := n_cell (b := b7) (o := 5)) | ((with_reducible refine id_alloc (d := some 5) ?_); (refine n_al ?_; clear HM; intro b5 wq HM)) | ((with_reducible refine id_alloc (d := some 7) ?_); (refine n_al ?_; clear HM; intro b7 wq HM)) | ((with_reducible refine id_alloc (d := some 9) ?_); (refine n_al ?_; clear HM; intro b9 wq HM)) | ((with_reducible refine id_alloc (d := some 10) ?_); (refine n_al ?_; clear HM; intro b10 wq HM)) | ((with_reducible refine id_store ?_); (refine n_st ?_; clear HM; intro wq HM)) | ((with_reducible refine id_load ?_); refine n_ld1 ?_) | ((with_reducible refine id_load ?_); refine n_ld ?_))
              have k0 := n_cell (b := b5) (o := 0); have k1 := n_cell (b := b5) (o := 1); have k2 := n_cell (b := b5) (o := 2); have k3 := n_cell (b := b5) (o := 3); have k4 := n_cell (b := b5) (o := 4); have k5 := n_cell (b := b5) (o := 5); have j0 := n_cell (b := b7) (o := 0); have j1 := n_cell (b := b7) (o := 1); have j2 := n_cell (b := b7) (o := 2); have j3 := n_cell (b := b7) (o := 3); have j4 := n_cell (b := b7) (o := 4); have j5 := n_cell (b := b7) (o := 5)
              go_wp2_with (first | (go_at_call 34; ((with_reducible refine (HRa.out _).mono ?_); rintro e w1 ⟨⟨P1, rfl, hP⟩, hb⟩; obtain ⟨A1, c1, rfl⟩ := hP.val; clear hP; replace HM := n_call hb; clear hb)) | (go_at_call 34; ((with_reducible refine (HRb.out _).mono ?_); rintro e w2 ⟨⟨P2, rfl, hP⟩, hb⟩; obtain ⟨A2, c2, rfl⟩ := hP.val; clear hP; replace HM := n_call hb; clear hb)) | (go_at_call 25; ((with_reducible refine (HA.out _ n_bel).mono ?_); rintro e wa ⟨rfl, hb⟩; replace HM := n_call hb; clear hb)) | (go_at_call 33; (first | ((with_reducible refine (HP1.out _).mono ?_); rintro e wv ⟨rfl, hb⟩; replace HM := n_call hb; clear hb) | ((with_reducible refine (HP2.out _).mono ?_); rintro e wv ⟨rfl, hb⟩; replace HM := n_call hb; clear hb)); have k0 := n_cell (b := b5) (o := 0); have k1 := n_cell (b := b5) (o := 1); have k2 := n_cell (b := b5) (o := 2); have k3 := n_cell (b := b5) (o := 3); have k4 := n_cell (b := b5) (o := 4); have k5 := n_cell (b := b5) (o := 5); have j0 := n_cell (b := b7) (o := 0); have j1 := n_cell (b := b7) (o := 1); have j2 := n_cell (b := b7) (o := 2); have j3 := n_cell (b := b7) (o := 3); have j4 := n_cell (b := b7) (o := 4); have j5 := n_cell (b := b7) (o := 5)) | (go_at_call 36; (first | ((with_reducible refine (HO1.out _ _ _).mono ?_); rintro e wm ⟨rfl, hb⟩; replace HM := n_call hb; clear hb) | ((with_reducible refine (HO2.out _ _ _).mono ?_); rintro e wm ⟨rfl, hb⟩; replace HM := n_call hb; clear hb)); have k0 := n_cell (b := b5) (o := 0); have k1 := n_cell (b := b5) (o := 1); have k2 := n_cell (b := b5) (o := 2); have k3 := n_cell (b := b5) (o := 3); have k4 := n_cell (b := b5) (o := 4); have k5 := n_cell (b := b5) (o := 5); have j0 := n_cell (b := b7) (o := 0); have j1 := n_cell (b := b7) (o := 1); have j2 := n_cell (b := b7) (o := 2); have j3 := n_cell (b := b7) (o := 3); have j4 := n_cell (b := b7) (o := 4); have j5 := n_cell (b := b7) (o := 5)) | ((with_reducible refine id_alloc (d := some 5) ?_); (refine n_al ?_; clear HM; intro b5 wq HM)) | ((with_reducible refine id_alloc (d := some 7) ?_); (refine n_al ?_; clear HM; intro b7 wq HM)) | ((with_reducible refine id_alloc (d := some 9) ?_); (refine n_al ?_; clear HM; intro b9 wq HM)) | ((with_reducible refine id_alloc (d := some 10) ?_); (refine n_al ?_; clear HM; intro b10 wq HM)) | ((with_reducible refine id_store ?_); (refine n_st ?_; clear HM; intro wq HM)) | ((with_reducible refine id_load ?_); refine n_ld1 ?_) | ((with_reducible refine id_load ?_); refine n_ld ?_))
              go_ret
              exact ⟨rfl, HM.out.bel⟩
          · obtain ⟨q1, q2, _⟩ := HS1.out rfl
            obtain ⟨q3, q4, _⟩ := HS2.out rfl
            have e1 := of_decide_eq_false d1
            have e2 := of_decide_eq_false d2
            exact HMN.out na pa ma nb pb mb HQA.out HQB.out q1 q2 q3 q4 (by omega) (by omega) HP1.out HP2.out HF1.out HF2.out
    · have z2 : decide ((2147483647 : Int) < (b.size : Int)) = true := decide_eq_true (by omega)
      clear HMN
      go_enter Tryz.func6, Tryz.ntmps6
      go_wp2_with (first | fail)
      go_ret
      exact ⟨rfl, HM.out.bel⟩
  · have z1 : decide ((2147483647 : Int) < (a.size : Int)) = true := decide_eq_true (by omega)
    clear HMN
    go_enter Tryz.func6, Tryz.ntmps6
    go_wp2_with (first | fail)
    go_ret
    exact ⟨rfl, HM.out.bel⟩
end Go.Proofs.YtgoeiflddikihaaGreatDoor.Ver
end
