-- PRINTED BY print.sh 35421559b90ae4d0a3588c463048766b98c2df88dd9212a6774a882060cdf62d: not written by this session
import Derived.Test.YtehcnjjkklogbaaDoorPFnDigestx0
namespace Go.Proofs.YtehcnjjkklogbaaDoor.PFnDigest
open Go.RowKit Go.Proofs.YtehcnjjkklogbaaDoorW.PrintWords Go.Proofs.YtehcnjjkklogbaaDoorW.PrintLast Go.Proofs.YtehcnjjkklogbaaDoorW.PrintMore
attribute [local go_sem] max2_int min2_int max_two min_two max_three min_three max_four min_four   -- for this text's walks alone
set_option linter.unusedVariables false
set_option linter.unusedSimpArgs false

-- NOT PRINTED: function 32 (strconv_ParseUint)

-- NOT PRINTED: function 26 (strconv_ParseInt)

-- NOT PRINTED: function 23 (strconv_Atoi_23)

-- NOT PRINTED: function 33 (stringslite_Clone)

-- NOT PRINTED: function 27 (strconv_syntaxError)

-- NOT PRINTED: function 28 (strconv_rangeError)

-- NOT PRINTED: function 29 (strconv_baseError)

-- NOT PRINTED: function 30 (strconv_bitSizeError)

-- NOT PRINTED: function 24 (strconv_toError)

-- NOT PRINTED: function 18 (strconv_Atoi_18)

-- NOT PRINTED: function 12 (verify_ParseVersionedDigest)

-- NOT PRINTED: function 6 (impl_ParseDigest)

/-! ### spec_DepHex: function 8 -/
mutual
def spec_DepHex.j0 : Nat → List Int → ByteArray → Option (ByteArray)
  | 0, _, _ => none
  | k + 1, x0, x5 => spec_DepHex.l0 k x5 ([] : List Int) x0 (x0.length : Int) 0
def spec_DepHex.l0 : Nat → ByteArray → List Int → List Int → Int → Int → Option (ByteArray)
  | 0, _, _, _, _, _ => none
  | k + 1, x5, x6, x10, x11, x12 => if x12 < x11 then (if 0 ≤ x12 then (if x12 < (x10.length : Int) then (if 0 ≤ ((rd x10 x12) / 16) then (if ((rd x10 x12) / 16) < (x5.size : Int) then (if 0 ≤ (Go.bits .and .u8 (rd x10 x12) 15) then (if (Go.bits .and .u8 (rd x10 x12) 15) < (x5.size : Int) then ((some (([bt x5 ((rd x10 x12) / 16), bt x5 (Go.bits .and .u8 (rd x10 x12) 15)] : List Int) : List Int)).bind fun y152 => (if x6.length + y152.length < 140737488355328 then (spec_DepHex.l0 k x5 (x6 ++ y152) x10 x11 (wrap64 (x12 + 1))) else (none))) else (none)) else (none)) else (none)) else (none)) else (none)) else (none)) else (some (strOfNums x6))
end
def spec_DepHex.f (k : Nat) (l0 : List Int) (a1 : Bool) : Option (ByteArray) := if a1 = true then (spec_DepHex.j0 k l0 (⟨#[48, 49, 50, 51, 52, 53, 54, 55, 56, 57, 65, 66, 67, 68, 69, 70]⟩ : ByteArray)) else (spec_DepHex.j0 k l0 (⟨#[48, 49, 50, 51, 52, 53, 54, 55, 56, 57, 97, 98, 99, 100, 101, 102]⟩ : ByteArray))
theorem spec_DepHex.mono_l : ∀ k, (∀ y0 y1, LeO (spec_DepHex.j0 k y0 y1) (spec_DepHex.j0 (k + 1) y0 y1)) ∧ (∀ y0 y1 y2 y3 y4, LeO (spec_DepHex.l0 k y0 y1 y2 y3 y4) (spec_DepHex.l0 (k + 1) y0 y1 y2 y3 y4))
  | 0 => ⟨fun _ _ r h => by simp [spec_DepHex.j0] at h, fun _ _ _ _ _ r h => by simp [spec_DepHex.l0] at h⟩
  | k + 1 => by
    obtain ⟨ih0, ih1⟩ := spec_DepHex.mono_l k
    refine ⟨?_, ?_⟩
    · intro y0 y1
      unfold spec_DepHex.j0
      repeat' first
      | (with_reducible exact ih0 _ _)
      | (with_reducible exact ih1 _ _ _ _ _)
      | (with_reducible exact LeO.refl _)
      | (with_reducible exact LeO.none _)
      | (with_reducible refine LeO.ite ?_ ?_)
      | (with_reducible refine LeO.bind ?_ (fun _ => ?_))
      | exact ih0 _ _
      | exact ih1 _ _ _ _ _
      | exact LeO.none _
      | refine LeO.ite ?_ ?_
      | refine LeO.bind ?_ (fun _ => ?_)
    · intro y0 y1 y2 y3 y4
      unfold spec_DepHex.l0
      repeat' first
      | (with_reducible exact ih0 _ _)
      | (with_reducible exact ih1 _ _ _ _ _)
      | (with_reducible exact LeO.refl _)
      | (with_reducible exact LeO.none _)
      | (with_reducible refine LeO.ite ?_ ?_)
      | (with_reducible refine LeO.bind ?_ (fun _ => ?_))
      | exact ih0 _ _
      | exact ih1 _ _ _ _ _
      | exact LeO.none _
      | refine LeO.ite ?_ ?_
      | refine LeO.bind ?_ (fun _ => ?_)
theorem spec_DepHex.mono : ∀ a0 a1 k, LeO (spec_DepHex.f k a0 a1) (spec_DepHex.f (k + 1) a0 a1) := by
  intro a0 a1 k
  obtain ⟨ih0, ih1⟩ := spec_DepHex.mono_l k
  unfold spec_DepHex.f
  repeat' first
      | (with_reducible exact ih0 _ _)
      | (with_reducible exact ih1 _ _ _ _ _)
      | (with_reducible exact LeO.refl _)
      | (with_reducible exact LeO.none _)
      | (with_reducible refine LeO.ite ?_ ?_)
      | (with_reducible refine LeO.bind ?_ (fun _ => ?_))
      | exact ih0 _ _
      | exact ih1 _ _ _ _ _
      | exact LeO.none _
      | refine LeO.ite ?_ ?_
      | refine LeO.bind ?_ (fun _ => ?_)
def spec_DepHex.T8 : Bool × List (List Nat × List Nat) := (true, [([], []), ([], []), ([], []), ([2], [2]), ([1, 3], [1, 3]), ([], []), ([], []), ([6], [6]), ([5, 7], [5, 7]), ([4, 8], [4, 8]), ([0, 9], [0, 9]), ([10, 10, 0, 1, 2, 3, 4, 5, 6, 7, 8, 9, 10], [0, 10])])
def spec_DepHex.B8 : List Nat := [0, 0, 0, 4, 14, 0, 0, 64, 224, 510, 1023, 2047]
theorem spec_DepHex.tab8 : rtab .any (opsOf Tryd.f8 8) = spec_DepHex.T8 := by kernel_rfl
theorem spec_DepHex.bits8 : waitsOk spec_DepHex.T8.2 spec_DepHex.B8 = true := by kernel_rfl
set_option maxHeartbeats 8000000 in
set_option maxRecDepth 100000 in
theorem spec_DepHex.calls (k : Nat) (A0 : Option Addr) (c0 : Nat) (l0 : List Int) (a1 : Bool) (r : ByteArray) (w : World) (hr0 : Kd.C (Kd.int .u8) w A0 l0.length l0) (hc0 : l0.length ≤ c0) (h : spec_DepHex.f k l0 a1 = some r) :
    Calls Tryd.prog 8 #[.slice A0 l0.length c0, .bool a1] w fun e w' => e = .returned (.string r) ∧ Below w.heap.size w w' := by
  have HR0 := Aside0.mk hr0
  have HC0 := Aside0.mk hc0
  clear hr0 hc0
  have HB := Aside0.mk (Below.refl w.heap.size w)
  have H : (if a1 = true then (spec_DepHex.j0 k l0 (⟨#[48, 49, 50, 51, 52, 53, 54, 55, 56, 57, 65, 66, 67, 68, 69, 70]⟩ : ByteArray)) else (spec_DepHex.j0 k l0 (⟨#[48, 49, 50, 51, 52, 53, 54, 55, 56, 57, 97, 98, 99, 100, 101, 102]⟩ : ByteArray))) = some r := h
  clear h
  have HC3 := Aside0.mk H
  clear H
  go_enter Tryd.func8, Tryd.ntmps8
  go_upto_if 9 with (fail)
  go_cut [5] (fun v5 wc => ∃ (kq : Nat) (x5_2 : ByteArray), v5 = .string x5_2 ∧ Aside0 (spec_DepHex.j0 kq l0 x5_2 = some r) ∧ Aside0 (kq ≤ k) ∧ Aside0 (Below w.heap.size w wc))
  case first =>
    have H := HC3.out
    clear HC3
    by_cases c4 : a1 = true
    · subst c4
      have H1 : (spec_DepHex.j0 k l0 (⟨#[48, 49, 50, 51, 52, 53, 54, 55, 56, 57, 65, 66, 67, 68, 69, 70]⟩ : ByteArray)) = some r := by rw [if_pos rfl] at H; exact H
      clear H
      have H := H1
      clear H1
      have H' := Aside0.mk H
      clear H
      go_wp2
      go_meet
      case rel => exact ⟨_, ((⟨#[48, 49, 50, 51, 52, 53, 54, 55, 56, 57, 65, 66, 67, 68, 69, 70]⟩ : ByteArray)), (by first | rfl | (simp; done) | (simp [*]; done)), H', ⟨by first | omega | exact Nat.le_refl _⟩, ⟨by repeat (first | (with_reducible first | exact HB.out | apply below_alloc | apply pw_below_drewN | apply below_drew1) | exact HB.out)⟩⟩
    · replace c4 := Bool.eq_false_iff.mpr c4
      subst c4
      have H1 : (spec_DepHex.j0 k l0 (⟨#[48, 49, 50, 51, 52, 53, 54, 55, 56, 57, 97, 98, 99, 100, 101, 102]⟩ : ByteArray)) = some r := by rw [if_neg (show ¬ (false = true) by decide)] at H; exact H
      clear H
      have H := H1
      clear H1
      have H' := Aside0.mk H
      clear H
      go_wp2
      go_meet
      case rel => exact ⟨_, ((⟨#[48, 49, 50, 51, 52, 53, 54, 55, 56, 57, 97, 98, 99, 100, 101, 102]⟩ : ByteArray)), (by first | rfl | (simp; done) | (simp [*]; done)), H', ⟨by first | omega | exact Nat.le_refl _⟩, ⟨by repeat (first | (with_reducible first | exact HB.out | apply below_alloc | apply pw_below_drewN | apply below_drew1) | exact HB.out)⟩⟩
  case rest =>
    clear HC3
    try clear p2
    try clear c4
    obtain ⟨kq, x5_2, rfl, HA, HJ2, HB⟩ := hcut
    cases kq with
    | zero => exact absurd HA.out (by simp [spec_DepHex.j0])
    | succ kj2 =>
      have H := HA.out
      clear HA
      simp only [spec_DepHex.j0] at H
      have H' := Aside0.mk H
      clear H
      go_wp2
      go_loopg [6, 12] kj2 (fun kq v6 v12 w' => ∃ (x6_2 : List Int) (x12_2 : Int), v12 = .int .i64 x12_2 ∧ Aside0 (spec_DepHex.l0 kq x5_2 x6_2 l0 (l0.length : Int) x12_2 = some r) ∧ Aside0 (kq ≤ kj2) ∧ Aside0 (Kd.R (Kd.int .u8) 5 w' w.heap.size (fun _ => True) v6 x6_2) ∧ Aside0 (Below w.heap.size w w'))
      case atStart => exact ⟨(([] : List Int)), (0), (by first | rfl | (simp; done) | (simp [*]; done)), H', ⟨Nat.le_refl _⟩, ⟨by first | exact Kd.R_nil _ _ _ _ _ | exact Kd.N_nil _ _ _ _ _ | exact Kd.V_nil _ _ _ _ _ | exact Kd.Q_nil _ _ _ _ _ | exact Kd.S_nil _ _ _ _ _⟩, ⟨by repeat (first | (with_reducible first | exact HB.out | apply below_alloc | apply pw_below_drewN | apply below_drew1) | exact HB.out)⟩⟩
      case round =>
        clear H'
        try clear p2
        try clear c4
        try clear p2
        obtain ⟨x6_2, x12_2, rfl, HA, HK2, HO_6, HB⟩ := hrel
        cases gk with
        | zero => exact absurd HA.out (by simp [spec_DepHex.l0])
        | succ k2 =>
          have H := HA.out
          clear HA
          simp only [spec_DepHex.l0] at H
          by_cases c5 : x12_2 < (l0.length : Int)
          · rw [if_pos c5] at H
            have c5b0 : decide (x12_2 < (l0.length : Int)) = true := decide_eq_true c5
            clear c5
            by_cases c6 : 0 ≤ x12_2
            · rw [if_pos c6] at H
              have c6b0 : decide (0 ≤ x12_2) = true := decide_eq_true c6
              clear c6
              by_cases c7 : x12_2 < (l0.length : Int)
              · rw [if_pos c7] at H
                have c7b0 : decide (x12_2 < (l0.length : Int)) = true := decide_eq_true c7
                clear c7
                obtain ⟨ji8, hji8⟩ : ∃ j_ : Int, ((rd l0 x12_2) / 16) = j_ := ⟨_, rfl⟩
                replace H : (if 0 ≤ (ji8) then (if (ji8) < (x5_2.size : Int) then (if 0 ≤ (Go.bits .and .u8 (rd l0 x12_2) 15) then (if (Go.bits .and .u8 (rd l0 x12_2) 15) < (x5_2.size : Int) then ((some (([bt x5_2 (ji8), bt x5_2 (Go.bits .and .u8 (rd l0 x12_2) 15)] : List Int) : List Int)).bind fun y152 => (if x6_2.length + y152.length < 140737488355328 then (spec_DepHex.l0 k2 x5_2 (x6_2 ++ y152) l0 (l0.length : Int) (wrap64 (x12_2 + 1))) else (none))) else (none)) else (none)) else (none)) else (none)) = some r := by first | (rw [hji8] at H; exact H) | (simp only [hji8] at H ⊢; exact H)
                by_cases c9 : 0 ≤ (ji8)
                · rw [if_pos c9] at H
                  have c9b0 : decide (0 ≤ (ji8)) = true := decide_eq_true c9
                  clear c9
                  by_cases c10 : (ji8) < (x5_2.size : Int)
                  · rw [if_pos c10] at H
                    have c10b0 : decide ((ji8) < (x5_2.size : Int)) = true := decide_eq_true c10
                    clear c10
                    by_cases c12 : 0 ≤ (Go.bits .and .u8 (rd l0 x12_2) 15)
                    · rw [if_pos c12] at H
                      have c12b0 : decide (0 ≤ (Go.bits .and .u8 (rd l0 x12_2) 15)) = true := decide_eq_true c12
                      clear c12
                      by_cases c13 : (Go.bits .and .u8 (rd l0 x12_2) 15) < (x5_2.size : Int)
                      · rw [if_pos c13] at H
                        have c13b0 : decide ((Go.bits .and .u8 (rd l0 x12_2) 15) < (x5_2.size : Int)) = true := decide_eq_true c13
                        clear c13
                        obtain ⟨y152, hy152⟩ : ∃ y_ : List Int, y_ = (([bt x5_2 (ji8), bt x5_2 (Go.bits .and .u8 (rd l0 x12_2) 15)] : List Int)) := ⟨_, rfl⟩
                        replace H : (if x6_2.length + y152.length < 140737488355328 then (spec_DepHex.l0 k2 x5_2 (x6_2 ++ y152) l0 (l0.length : Int) (wrap64 (x12_2 + 1))) else (none)) = some r := by first | (rw [hy152]; with_reducible exact H) | (have H2_ := (Option.bind_some _ _).symm.trans H; rw [hy152]; with_reducible exact H2_) | (have H2_ := (Option.bind_some _ _).symm.trans H; with_reducible exact H2_) | with_reducible exact H | (rw [hy152]; exact H) | exact H
                        have Ny152 := Aside0.mk hy152
                        clear hy152
                        by_cases c15 : x6_2.length + y152.length < 140737488355328
                        · rw [if_pos c15] at H
                          have LMc15 := Aside0.mk c15
                          clear c15
                          obtain ⟨y155, hy155⟩ : ∃ y_ : List Int, y_ = (x6_2 ++ y152) := ⟨_, rfl⟩
                          replace H : (spec_DepHex.l0 k2 x5_2 y155 l0 (l0.length : Int) (wrap64 (x12_2 + 1))) = some r := by first | (rw [hy155]; with_reducible exact H) | (have H2_ := (Option.bind_some _ _).symm.trans H; rw [hy155]; with_reducible exact H2_) | (have H2_ := (Option.bind_some _ _).symm.trans H; with_reducible exact H2_) | with_reducible exact H | (rw [hy155]; exact H) | exact H
                          have Ny155 := Aside0.mk hy155
                          clear hy155
                          have H' := Aside0.mk H
                          clear H
                          have p151 : 0 ≤ (x12_2 : Int) := of_decide_eq_true (by first | (with_reducible assumption) | assumption)
                          have q151 : x12_2 < (l0.length : Int) := of_decide_eq_true (by first | (with_reducible assumption) | assumption)
                          obtain ⟨ad151, e151, hx151_0⟩ := Kd.at_int HR0.out x12_2 p151 q151
                          cases e151
                          replace hx151_0 := (HB.out.cell (World.block_lt_of_cell? w _ hx151_0)).trans hx151_0
                          replace p151 := eq_true p151
                          replace q151 := eq_true q151
                          try go_wp2
                          have n0_ := Aside0.mk (Kd.R_drew HO_6.out)
                          have n1_ := Aside0.mk (below_drew1 HB.out)
                          clear HO_6
                          clear HB
                          have HO_6 := n0_
                          have HB := n1_
                          clear n0_ n1_
                          have p11 : 0 ≤ ((ji8) : Int) := of_decide_eq_true (by first | (with_reducible assumption) | assumption)
                          have q11 : (ji8) < (x5_2.size : Int) := of_decide_eq_true (by first | (with_reducible assumption) | assumption)
                          have hx11 := bt_at x5_2 (ji8)
                          replace p11 := eq_true p11
                          replace q11 := eq_true q11
                          have p14 : 0 ≤ ((Go.bits .and .u8 (rd l0 x12_2) 15) : Int) := of_decide_eq_true (by first | (with_reducible assumption) | assumption)
                          have q14 : (Go.bits .and .u8 (rd l0 x12_2) 15) < (x5_2.size : Int) := of_decide_eq_true (by first | (with_reducible assumption) | assumption)
                          have hx14 := bt_at x5_2 (Go.bits .and .u8 (rd l0 x12_2) 15)
                          replace p14 := eq_true p14
                          replace q14 := eq_true q14
                          refine start_ (n := 12) (S := fun w' => True) (ds := []) #[false, false, false, false, false, false, false, false, false, false, false, false] (by kernel_rfl) rfl rfl trivial (fun hHeld => ?_); refine with_tabW spec_DepHex.tab8 spec_DepHex.bits8 (fun HT_ HW_ => ?_)
                          generalize wr.drew = w16 at HO_6 HB hHeld ⊢
                          refine pure_ (i := 0) (N := some 16) (v := ?_) (a' := ?_) #[true, false, false, false, false, false, false, false, false, false, false, false] rfl rfl (any_of HT_.out (by kernel_rfl)) (fun _ _ _ h => h) (Or.inl ⟨by rfl, ?_⟩) ?_ ?_
                          rotate_left
                          · intro w'
                            go_simp
                            with_reducible rfl
                          rotate_left
                          · simp only [Act.put, List.setIfInBounds_toArray, List.set_cons_zero, List.set_cons_succ, i64_w, i32_w]
                            rfl
                          refine pure_ (i := 1) (N := some 17) (v := ?_) (a' := ?_) #[true, true, false, false, false, false, false, false, false, false, false, false] rfl rfl (any_of HT_.out (by kernel_rfl)) (fun _ _ _ h => h) (Or.inl ⟨by rfl, ?_⟩) ?_ ?_
                          rotate_left
                          · intro w'
                            go_simp
                            with_reducible rfl
                          rotate_left
                          · simp only [Act.put, List.setIfInBounds_toArray, List.set_cons_zero, List.set_cons_succ, i64_w, i32_w]
                            rfl
                          refine pure_ (i := 2) (N := some 18) (v := ?_) (a' := ?_) #[true, true, true, false, false, false, false, false, false, false, false, false] rfl rfl (any_of HT_.out (by kernel_rfl)) (fun _ _ _ h => h) (Or.inl ⟨by rfl, ?_⟩) ?_ ?_
                          rotate_left
                          · intro w'
                            go_simp
                            with_reducible rfl
                          rotate_left
                          · simp only [Act.put, List.setIfInBounds_toArray, List.set_cons_zero, List.set_cons_succ, i64_w, i32_w]
                            rfl
                          refine pure_ (i := 3) (N := some 19) (v := ?_) (a' := ?_) #[true, true, true, true, false, false, false, false, false, false, false, false] rfl rfl (any_of HT_.out (by kernel_rfl)) (fun _ _ _ h => h) (Or.inl ⟨by rfl, ?_⟩) ?_ ?_
                          rotate_left
                          · intro w'
                            go_simp
                            with_reducible rfl
                          rotate_left
                          · simp only [Act.put, List.setIfInBounds_toArray, List.set_cons_zero, List.set_cons_succ, i64_w, i32_w]
                            rfl
                          refine pure_ (i := 5) (N := some 21) (v := ?_) (a' := ?_) #[true, true, true, true, false, true, false, false, false, false, false, false] rfl rfl (any_of HT_.out (by kernel_rfl)) (fun _ _ _ h => h) (Or.inl ⟨by rfl, ?_⟩) ?_ ?_
                          rotate_left
                          · intro w'
                            go_simp
                            with_reducible rfl
                          rotate_left
                          · simp only [Act.put, List.setIfInBounds_toArray, List.set_cons_zero, List.set_cons_succ, i64_w, i32_w]
                            rfl
                          refine pure_ (i := 6) (N := some 22) (v := ?_) (a' := ?_) #[true, true, true, true, false, true, true, false, false, false, false, false] rfl rfl (any_of HT_.out (by kernel_rfl)) (fun _ _ _ h => h) (Or.inl ⟨by rfl, ?_⟩) ?_ ?_
                          rotate_left
                          · intro w'
                            go_simp
                            with_reducible rfl
                          rotate_left
                          · simp only [Act.put, List.setIfInBounds_toArray, List.set_cons_zero, List.set_cons_succ, i64_w, i32_w]
                            rfl
                          refine pure_ (i := 7) (N := some 23) (v := ?_) (a' := ?_) #[true, true, true, true, false, true, true, true, false, false, false, false] rfl rfl (any_of HT_.out (by kernel_rfl)) (fun _ _ _ h => h) (Or.inl ⟨by rfl, ?_⟩) ?_ ?_
                          rotate_left
                          · intro w'
                            go_simp
                            with_reducible rfl
                          rotate_left
                          · simp only [Act.put, List.setIfInBounds_toArray, List.set_cons_zero, List.set_cons_succ, i64_w, i32_w]
                            rfl
                          refine take_ (i := 4) (N := some 20) (v := ?_) (a' := ?_) #[true, true, true, true, true, true, true, true, false, false, false, false] rfl rfl (take_ofW HT_.out HW_.out (by kernel_rfl)) (fun _ _ _ h => h) (Or.inl ⟨by rfl, ?_⟩) hHeld ?_ ?_
                          rotate_left
                          · intro w' _
                            go_simp
                            with_reducible rfl
                          rotate_left
                          · simp only [Act.put, List.setIfInBounds_toArray, List.set_cons_zero, List.set_cons_succ, i64_w, i32_w]
                            rfl
                          refine take_ (i := 8) (N := some 24) (v := ?_) (a' := ?_) #[true, true, true, true, true, true, true, true, true, false, false, false] rfl rfl (take_ofW HT_.out HW_.out (by kernel_rfl)) (fun _ _ _ h => h) (Or.inl ⟨by rfl, ?_⟩) hHeld ?_ ?_
                          rotate_left
                          · intro w' _
                            go_simp
                            with_reducible rfl
                          rotate_left
                          · simp only [Act.put, List.setIfInBounds_toArray, List.set_cons_zero, List.set_cons_succ, i64_w, i32_w]
                            rfl
                          refine one_ (i := 9) (N := some 25) #[true, true, true, true, true, true, true, true, true, true, false, false] rfl rfl (one_of HT_.out (by kernel_rfl)) (by decide) (fun K hK => ?_)
                          refine Kd.R_lit_step (Kd.int .u8) _ 5 ?hg (N := 25) ?hd (xs := ([bt x5_2 (ji8), bt x5_2 (Go.bits .and .u8 (rd l0 x12_2) 15)] : List Int)) (inner := [.int .u8 (bt x5_2 (ji8)), .int .u8 (bt x5_2 (Go.bits .and .u8 (rd l0 x12_2) 15))]) (ok := fun _ => True) (okp := fun _ => True) ?hr ?hp (fun _ hk => hk) trivial (Below.refl _ _) (Nat.le_refl _) (by simp) ?_; (case hd => rfl); (case hg => rfl); (case hr => first | (go_simp; done) | (go_simp; rfl)); (case hp => exact (Reps.one (show Kd.M (Kd.int .u8) _ _ _ (bt x5_2 (ji8)) [.int .u8 (bt x5_2 (ji8))] from rfl) (Reps.one (show Kd.M (Kd.int .u8) _ _ _ (bt x5_2 (Go.bits .and .u8 (rd l0 x12_2) 15)) [.int .u8 (bt x5_2 (Go.bits .and .u8 (rd l0 x12_2) 15))] from rfl) (Reps.none _ _))))
                          intro v153 w17 ho18 hb hg_ hnew_
                          clear hg_ hnew_
                          (first | rw [← Ny152.out] at ho18 | (simp only [Int.reduceToNat] at ho18; rw [← Ny152.out] at ho18))
                          have n0_ := Aside0.mk (Kd.R_elder' (by (with_reducible repeat (first | apply Kd.R_alloc | apply Kd.R_drewN | apply Kd.R_drew)); exact HO_6.out) (Kd.R_base ho18) hb)
                          have n1_ := Aside0.mk (Kd.R_lower (Kd.R_new' ho18 (Kd.R_lt (by (with_reducible repeat (first | apply Kd.R_alloc | apply Kd.R_drewN | apply Kd.R_drew)); exact HO_6.out))) (below_size (by repeat (first | (with_reducible first | exact HB.out | apply below_alloc | apply pw_below_drewN | apply below_drew1) | exact HB.out))))
                          have n2_ := Aside0.mk (below_step (by repeat (first | (with_reducible first | exact HB.out | apply below_alloc | apply pw_below_drewN | apply below_drew1) | exact HB.out)) hb)
                          clear HO_6
                          clear HB
                          have HO_6 := n0_
                          have HO154 := n1_
                          have HB := n2_
                          clear n0_ n1_ n2_
                          clear hb ho18
                          obtain ⟨Ao20, co20, eo20⟩ := Kd.R_slice HO154.out
                          (first | subst eo20 | (injection eo20 with f1_ f2_ f3_; have f4_ := f1_.symm; have f5_ := f3_.symm; clear f1_ f2_ f3_; subst f4_; subst f5_))
                          refine hK.out _ _ trivial (fun hHeld => ?_)
                          clear hK K
                          refine norm_ (a' := ?_) ?_ ?_
                          rotate_left
                          · show Act.put _ (some 25) _ = _
                            simp only [Act.put, List.setIfInBounds_toArray, List.set_cons_zero, List.set_cons_succ, i64_w, i32_w]
                            rfl
                          refine one_ (i := 10) (N := some 26) #[true, true, true, true, true, true, true, true, true, true, true, false] rfl rfl (one_of HT_.out (by kernel_rfl)) (by decide) (fun K hK => ?_)
                          refine Kd.R_append_rows_step (Kd.int .u8) (w0 := w) w.heap.size (by rfl) (.tmp 16) (.tmp 25) 23 5 (.int .u8 0) 1 rfl Tryd.underlying23 info5 rfl (by decide) (by omega) u6 x6_2 y152 _ _ _ (fun k_ => some k_ ≠ (.slice Ao20 y152.length co20 : Value).ownBlock) (fun _ => False) rfl rfl ?aO ?aR (fun _ _ h => h) (fun _ h => h.elim) ?aF ?aB ?aS ?aL ?_
                          (case aR => repeat (first | exact (Kd.R_reads' HO154.out).2.2 | (with_reducible refine Kd.C_alloc ?_ _) | (with_reducible refine Kd.C_drewN ?_ _) | (with_reducible refine Kd.C_drew ?_)))
                          (case aB => exact (by repeat (first | (with_reducible first | exact HB.out | apply below_alloc | apply pw_below_drewN | apply below_drew1) | exact HB.out)))
                          (case aF => exact (fun k_ hk => Kd.fresh' (Kd.R_lt (by (with_reducible repeat (first | apply Kd.R_alloc | apply Kd.R_drewN | apply Kd.R_drew)); exact HO154.out)) k_ hk))
                          (case aO => exact (by (with_reducible repeat (first | apply Kd.R_alloc | apply Kd.R_drewN | apply Kd.R_drew)); exact Kd.R_mono HO_6.out (fun _ hk => hk.2)))
                          (case aS => exact (below_size (by repeat (first | (with_reducible first | exact HB.out | apply below_alloc | apply pw_below_drewN | apply below_drew1) | exact HB.out))))
                          (case aL => have := LMc15.out; omega)
                          intro v156 w19 ho hb hg hat
                          rw [← Ny155.out] at ho
                          have n0_ := Aside0.mk (Kd.R_after (ok := (fun _ => True)) (by (with_reducible repeat (first | apply Kd.R_alloc | apply Kd.R_drewN | apply Kd.R_drew)); exact HO154.out) hg hat)
                          have n1_ := Aside0.mk (hb)
                          have n2_ := Aside0.mk (ho)
                          clear HO154
                          clear HB
                          clear HO_6
                          have HO154 := n0_
                          have HB := n1_
                          have HO157 := n2_
                          clear n0_ n1_ n2_
                          clear ho hb hg hat
                          refine hK.out _ _ trivial (fun hHeld => ?_)
                          clear hK K
                          refine norm_ (a' := ?_) ?_ ?_
                          rotate_left
                          · show Act.put _ (some 26) _ = _
                            simp only [Act.put, List.setIfInBounds_toArray, List.set_cons_zero, List.set_cons_succ, i64_w, i32_w]
                            rfl
                          refine pure_ (i := 11) (N := some 6) (v := ?_) (a' := ?_) #[true, true, true, true, true, true, true, true, true, true, true, true] rfl rfl (any_of HT_.out (by kernel_rfl)) (fun _ _ _ h => h) (Or.inl ⟨by rfl, ?_⟩) ?_ ?_
                          rotate_left
                          · intro w'
                            go_simp
                            with_reducible rfl
                          rotate_left
                          · simp only [Act.put, List.setIfInBounds_toArray, List.set_cons_zero, List.set_cons_succ, i64_w, i32_w]
                            rfl
                          refine done_ (done_of HT_.out (by kernel_rfl)) ?_
                          try go_wp2
                          go_roundg k2
                          case measure => have := HJ2.out; have := HK2.out; omega
                          case rel => exact ⟨(y155), (wrap64 (x12_2 + 1)), (by first | rfl | (simp; done) | (simp [*]; done)), H', ⟨by have := HJ2.out; have := HK2.out; omega⟩, ⟨by (with_reducible repeat (first | apply Kd.R_alloc | apply Kd.R_drewN | apply Kd.R_drew)); exact Kd.R_mono HO157.out (fun _ hk => trivial)⟩, ⟨by repeat (first | (with_reducible first | exact HB.out | apply below_alloc | apply pw_below_drewN | apply below_drew1) | exact HB.out)⟩⟩
                        · rw [if_neg c15] at H
                          exact absurd H (by simp)
                      · rw [if_neg c13] at H
                        exact absurd H (by simp)
                    · rw [if_neg c12] at H
                      exact absurd H (by simp)
                  · rw [if_neg c10] at H
                    exact absurd H (by simp)
                · rw [if_neg c9] at H
                  exact absurd H (by simp)
              · rw [if_neg c7] at H
                exact absurd H (by simp)
            · rw [if_neg c6] at H
              exact absurd H (by simp)
          · rw [if_neg c5] at H
            have c5b0 : decide (x12_2 < (l0.length : Int)) = false := decide_eq_false c5
            clear c5
            obtain rfl := Option.some.inj H
            have hcv21 := own_string (P := Tryd.prog) Tryd.underlying23 Tryd.underlying5 Tryd.underlying9 (Kd.own_of_R HO_6.out)
            go_wp2
            go_ret
            exact ⟨by first | rfl | (simp [errW_none, errW_some] <;> rfl) | (simp [*, errW_none, errW_some] <;> rfl), by repeat (first | (with_reducible first | exact HB.out | apply below_alloc | apply pw_below_drewN | apply below_drew1) | exact HB.out)⟩

/-! ### spec_DepDecimal: function 10 -/
def spec_DepDecimal.f : Nat → Int → Option (ByteArray)
  | 0, _ => none
  | k + 1, a0 => if a0 < 0 then ((spec_DepDecimal.f k (wrap64 (-a0))).bind fun t158 => (if 1 + t158.size ≤ 9223372036854775807 then (some ((⟨#[45]⟩ : ByteArray) ++ t158)) else (none))) else (if a0 < 10 then (some (strOfNums (([(wrap64 (48 + a0)) % 256] : List Int)))) else ((spec_DepDecimal.f k (wrap64 (Int.tdiv a0 10))).bind fun t162 => ((some (([(wrap64 (48 + (Int.tmod a0 10))) % 256] : List Int) : List Int)).bind fun y163 => (if t162.size + (strOfNums y163).size ≤ 9223372036854775807 then (some (t162 ++ (strOfNums y163))) else (none)))))
theorem spec_DepDecimal.mono_l : ∀ k, (∀ y0, LeO (spec_DepDecimal.f k y0) (spec_DepDecimal.f (k + 1) y0))
  | 0 => fun _ r h => by simp [spec_DepDecimal.f] at h
  | k + 1 => by
    have ih0 := spec_DepDecimal.mono_l k
    · intro y0
      unfold spec_DepDecimal.f
      repeat' first
      | (with_reducible exact ih0 _)
      | (with_reducible exact LeO.refl _)
      | (with_reducible exact LeO.none _)
      | (with_reducible refine LeO.ite ?_ ?_)
      | (with_reducible refine LeO.bind ?_ (fun _ => ?_))
      | exact ih0 _
      | exact LeO.none _
      | refine LeO.ite ?_ ?_
      | refine LeO.bind ?_ (fun _ => ?_)
theorem spec_DepDecimal.mono : ∀ a0 k, LeO (spec_DepDecimal.f k a0) (spec_DepDecimal.f (k + 1) a0) := by
  intro a0 k
  have ih0 := spec_DepDecimal.mono_l k
  exact ih0 a0
def spec_DepDecimal.T5 : Bool × List (List Nat × List Nat) := (true, [([], []), ([0], [0]), ([1], [1]), ([], []), ([3], [3]), ([4], [4]), ([5], [5]), ([6], [6]), ([7], [7]), ([2, 8], [2, 8]), ([9, 2, 0, 1, 2, 3, 4, 5, 6, 7, 8, 9], [9])])
def spec_DepDecimal.B5 : List Nat := [0, 1, 3, 0, 8, 24, 56, 120, 248, 511, 1023]
theorem spec_DepDecimal.tab5 : rtab .any (opsOf Tryd.f10 5) = spec_DepDecimal.T5 := by kernel_rfl
theorem spec_DepDecimal.bits5 : waitsOk spec_DepDecimal.T5.2 spec_DepDecimal.B5 = true := by kernel_rfl
set_option maxHeartbeats 8000000 in
set_option maxRecDepth 100000 in
theorem spec_DepDecimal.calls (k : Nat) : ∀ (a0 : Int) (r : ByteArray) (w : World) (h : spec_DepDecimal.f k a0 = some r),
    Calls Tryd.prog 10 #[.int .i64 a0] w fun e w' => e = .returned (.string r) ∧ Below w.heap.size w w' := by
  induction k using Nat.strongRecOn with
  | _ k ih =>
  intro a0 r w h
  cases k with
  | zero => exact absurd h (by simp [spec_DepDecimal.f])
  | succ k =>
  simp only [spec_DepDecimal.f] at h
  have HB := Aside0.mk (Below.refl w.heap.size w)
  have H : (if a0 < 0 then ((spec_DepDecimal.f k (wrap64 (-a0))).bind fun t158 => (if 1 + t158.size ≤ 9223372036854775807 then (some ((⟨#[45]⟩ : ByteArray) ++ t158)) else (none))) else (if a0 < 10 then (some (strOfNums (([(wrap64 (48 + a0)) % 256] : List Int)))) else ((spec_DepDecimal.f k (wrap64 (Int.tdiv a0 10))).bind fun t162 => ((some (([(wrap64 (48 + (Int.tmod a0 10))) % 256] : List Int) : List Int)).bind fun y163 => (if t162.size + (strOfNums y163).size ≤ 9223372036854775807 then (some (t162 ++ (strOfNums y163))) else (none)))))) = some r := h
  clear h
  by_cases c2 : a0 < 0
  · rw [if_pos c2] at H
    have c2b0 : decide (a0 < 0) = true := decide_eq_true c2
    clear c2
    replace H := Option.bind_eq_some_iff.mp H
    obtain ⟨t158, A30, H⟩ := H
    replace H : (if 1 + t158.size ≤ 9223372036854775807 then (some ((⟨#[45]⟩ : ByteArray) ++ t158)) else (none)) = some r := H
    have A3 := Aside0.mk A30
    clear A30
    by_cases c4 : 1 + t158.size ≤ 9223372036854775807
    · rw [if_pos c4] at H
      have c4b0 := eq_true c4
      have c4b1 : decide (1 + t158.size ≤ 9223372036854775807) = true := decide_eq_true c4
      try have c4b2 : (9223372036854775807 < 1 + t158.size) = False := eq_false (Nat.not_lt.2 c4)
      obtain rfl := Option.some.inj H
      go_enter Tryd.func10, Tryd.ntmps10
      go_wp2_with (first | ((with_reducible refine gate_callee (f := 10) rfl ?_); refine goesL_ (some 7) rfl rfl Tryd.func10 (by kernel_rfl) rfl #[.int .i64 (wrap64 (-a0))] rfl (by (try simp only [List.map_toArray, List.map_cons, List.map_nil]); first | done | rfl | (simp only [List.length_drop, List.length_take]; rfl)) ?_; (with_reducible refine (ih k (by omega) (wrap64 (-a0)) t158 _ A3.out).mono ?_); rintro e w5 ⟨rfl, hb⟩; refine ⟨_, rfl, ?_⟩; have n0_ := Aside0.mk (below_step (by repeat (first | (with_reducible first | exact HB.out | apply below_alloc | apply pw_below_drewN | apply below_drew1) | exact HB.out)) hb); clear HB; have HB := n0_; clear n0_; (try clear hb); (try clear hb2); (try clear hk); (try clear hi)))
      go_ret
      exact ⟨by first | rfl | (simp [errW_none, errW_some] <;> rfl) | (simp [*, errW_none, errW_some] <;> rfl), by repeat (first | (with_reducible first | exact HB.out | apply below_alloc | apply pw_below_drewN | apply below_drew1) | exact HB.out)⟩
    · rw [if_neg c4] at H
      exact absurd H (by simp)
  · rw [if_neg c2] at H
    have c2b0 : decide (a0 < 0) = false := decide_eq_false c2
    clear c2
    by_cases c6 : a0 < 10
    · rw [if_pos c6] at H
      have c6b0 : decide (a0 < 10) = true := decide_eq_true c6
      clear c6
      obtain ⟨y159, hy159⟩ : ∃ y_ : List Int, y_ = (([(wrap64 (48 + a0)) % 256] : List Int)) := ⟨_, rfl⟩
      replace H : (some (strOfNums y159)) = some r := by first | (rw [hy159]; with_reducible exact H) | (have H2_ := (Option.bind_some _ _).symm.trans H; rw [hy159]; with_reducible exact H2_) | (have H2_ := (Option.bind_some _ _).symm.trans H; with_reducible exact H2_) | with_reducible exact H | (rw [hy159]; exact H) | exact H
      have Ny159 := Aside0.mk hy159
      clear hy159
      obtain rfl := Option.some.inj H
      go_enter Tryd.func10, Tryd.ntmps10
      go_wp2_with (first | ((with_reducible refine gate_dst (N := 14) rfl ?_); refine Kd.R_lit (Kd.int .u8) _ 5 ?hg (N := 14) ?hd (xs := ([(wrap64 (48 + a0)) % 256] : List Int)) (inner := [.int .u8 ((wrap64 (48 + a0)) % 256)]) (ok := fun _ => True) (okp := fun _ => True) ?hr ?hp (fun _ hk => hk) trivial (Below.refl _ _) (Nat.le_refl _) (by simp) ?_; (case hd => rfl); (case hg => rfl); (case hr => first | (go_simp; done) | (go_simp; rfl)); (case hp => exact (Reps.one (show Kd.M (Kd.int .u8) _ _ _ ((wrap64 (48 + a0)) % 256) [.int .u8 ((wrap64 (48 + a0)) % 256)] from rfl) (Reps.none _ _))); intro v160 w7 ho8 hb hg_ hnew_; clear hg_ hnew_; (first | rw [← Ny159.out] at ho8 | (simp only [Int.reduceToNat] at ho8; rw [← Ny159.out] at ho8)); have n0_ := Aside0.mk (Kd.R_lower ho8 (below_size (by repeat (first | (with_reducible first | exact HB.out | apply below_alloc | apply pw_below_drewN | apply below_drew1) | exact HB.out)))); have n1_ := Aside0.mk (below_step (by repeat (first | (with_reducible first | exact HB.out | apply below_alloc | apply pw_below_drewN | apply below_drew1) | exact HB.out)) hb); clear HB; have HO161 := n0_; have HB := n1_; clear n0_ n1_; clear hb ho8; have hcv9 := own_string (P := Tryd.prog) Tryd.underlying23 Tryd.underlying5 Tryd.underlying9 (Kd.own_of_R HO161.out)))
      go_ret
      exact ⟨by first | rfl | (simp [errW_none, errW_some] <;> rfl) | (simp [*, errW_none, errW_some] <;> rfl), by repeat (first | (with_reducible first | exact HB.out | apply below_alloc | apply pw_below_drewN | apply below_drew1) | exact HB.out)⟩
    · rw [if_neg c6] at H
      have c6b0 : decide (a0 < 10) = false := decide_eq_false c6
      clear c6
      replace H := Option.bind_eq_some_iff.mp H
      obtain ⟨t162, A100, H⟩ := H
      replace H : ((some (([(wrap64 (48 + (Int.tmod a0 10))) % 256] : List Int) : List Int)).bind fun y163 => (if t162.size + (strOfNums y163).size ≤ 9223372036854775807 then (some (t162 ++ (strOfNums y163))) else (none))) = some r := H
      have A10 := Aside0.mk A100
      clear A100
      obtain ⟨y163, hy163⟩ : ∃ y_ : List Int, y_ = (([(wrap64 (48 + (Int.tmod a0 10))) % 256] : List Int)) := ⟨_, rfl⟩
      replace H : (if t162.size + (strOfNums y163).size ≤ 9223372036854775807 then (some (t162 ++ (strOfNums y163))) else (none)) = some r := by first | (rw [hy163]; with_reducible exact H) | (have H2_ := (Option.bind_some _ _).symm.trans H; rw [hy163]; with_reducible exact H2_) | (have H2_ := (Option.bind_some _ _).symm.trans H; with_reducible exact H2_) | with_reducible exact H | (rw [hy163]; exact H) | exact H
      have Ny163 := Aside0.mk hy163
      clear hy163
      by_cases c11 : t162.size + (strOfNums y163).size ≤ 9223372036854775807
      · rw [if_pos c11] at H
        have c11b0 := eq_true c11
        have c11b1 : decide (t162.size + (strOfNums y163).size ≤ 9223372036854775807) = true := decide_eq_true c11
        try have c11b2 : (9223372036854775807 < t162.size + (strOfNums y163).size) = False := eq_false (Nat.not_lt.2 c11)
        obtain rfl := Option.some.inj H
        go_enter Tryd.func10, Tryd.ntmps10
        try go_wp2
        have n0_ := Aside0.mk (below_drew1 HB.out)
        clear HB
        have HB := n0_
        clear n0_
        refine start_ (n := 11) (S := fun w' => True) (ds := []) #[false, false, false, false, false, false, false, false, false, false, false] (by kernel_rfl) rfl rfl trivial (fun hHeld => ?_); refine with_tabW spec_DepDecimal.tab5 spec_DepDecimal.bits5 (fun HT_ HW_ => ?_)
        generalize w.drew = w12 at HB hHeld ⊢
        refine pure_ (i := 0) (N := some 16) (v := ?_) (a' := ?_) #[true, false, false, false, false, false, false, false, false, false, false] rfl rfl (any_of HT_.out (by kernel_rfl)) (fun _ _ _ h => h) (Or.inl ⟨by rfl, ?_⟩) ?_ ?_
        rotate_left
        · intro w'
          go_simp
          with_reducible rfl
        rotate_left
        · simp only [Act.put, List.setIfInBounds_toArray, List.set_cons_zero, List.set_cons_succ, i64_w, i32_w]
          rfl
        refine pure_ (i := 1) (N := some 17) (v := ?_) (a' := ?_) #[true, true, false, false, false, false, false, false, false, false, false] rfl rfl (any_of HT_.out (by kernel_rfl)) (fun _ _ _ h => h) (Or.inl ⟨by rfl, ?_⟩) ?_ ?_
        rotate_left
        · intro w'
          go_simp
          with_reducible rfl
        rotate_left
        · simp only [Act.put, List.setIfInBounds_toArray, List.set_cons_zero, List.set_cons_succ, i64_w, i32_w]
          rfl
        refine pure_ (i := 3) (N := some 19) (v := ?_) (a' := ?_) #[true, true, false, true, false, false, false, false, false, false, false] rfl rfl (any_of HT_.out (by kernel_rfl)) (fun _ _ _ h => h) (Or.inl ⟨by rfl, ?_⟩) ?_ ?_
        rotate_left
        · intro w'
          go_simp
          with_reducible rfl
        rotate_left
        · simp only [Act.put, List.setIfInBounds_toArray, List.set_cons_zero, List.set_cons_succ, i64_w, i32_w]
          rfl
        refine pure_ (i := 4) (N := some 20) (v := ?_) (a' := ?_) #[true, true, false, true, true, false, false, false, false, false, false] rfl rfl (any_of HT_.out (by kernel_rfl)) (fun _ _ _ h => h) (Or.inl ⟨by rfl, ?_⟩) ?_ ?_
        rotate_left
        · intro w'
          go_simp
          with_reducible rfl
        rotate_left
        · simp only [Act.put, List.setIfInBounds_toArray, List.set_cons_zero, List.set_cons_succ, i64_w, i32_w]
          rfl
        refine pure_ (i := 5) (N := some 21) (v := ?_) (a' := ?_) #[true, true, false, true, true, true, false, false, false, false, false] rfl rfl (any_of HT_.out (by kernel_rfl)) (fun _ _ _ h => h) (Or.inl ⟨by rfl, ?_⟩) ?_ ?_
        rotate_left
        · intro w'
          go_simp
          with_reducible rfl
        rotate_left
        · simp only [Act.put, List.setIfInBounds_toArray, List.set_cons_zero, List.set_cons_succ, i64_w, i32_w]
          rfl
        refine pure_ (i := 6) (N := some 22) (v := ?_) (a' := ?_) #[true, true, false, true, true, true, true, false, false, false, false] rfl rfl (any_of HT_.out (by kernel_rfl)) (fun _ _ _ h => h) (Or.inl ⟨by rfl, ?_⟩) ?_ ?_
        rotate_left
        · intro w'
          go_simp
          with_reducible rfl
        rotate_left
        · simp only [Act.put, List.setIfInBounds_toArray, List.set_cons_zero, List.set_cons_succ, i64_w, i32_w]
          rfl
        refine join_ (σ := Value) 2 #[true, true, true, true, true, true, true, true, true, false, false] (fun s_ => [(18, .string t162), (23, s_), (24, .string (strOfNums y163))]) (fun s_ w' => (Kd.R (Kd.int .u8) 5 w' w.heap.size (fun _ => True) s_ y163) ∧ (Below w.heap.size w w')) ?_ ?_
        rotate_left
        · intro hCont
          refine two_ (i := 2) (j := 7) (Ni := some 18) (Nj := some 23) #[true, true, true, true, true, true, true, false, false, false, false] #[true, true, false, true, true, true, true, true, false, false, false] rfl rfl rfl rfl (two_of HT_.out (by kernel_rfl)) (by decide) (by decide) (fun K hK => ?_) (fun K hK => ?_)
          · skip
            refine goes_ Tryd.func10 (by kernel_rfl) rfl #[.int .i64 (wrap64 (Int.tdiv a0 10))] (by rfl) rfl rfl (by (try simp only [List.map_toArray, List.map_cons, List.map_nil]); first | done | rfl | (simp only [List.length_drop, List.length_take]; rfl)) ?_
            with_reducible refine (ih k (by omega) (wrap64 (Int.tdiv a0 10)) t162 _ A10.out).mono ?_
            rintro e w13 ⟨rfl, hb⟩
            refine ⟨_, rfl, ?_⟩
            have n0_ := Aside0.mk (below_step (by repeat (first | (with_reducible first | exact HB.out | apply below_alloc | apply pw_below_drewN | apply below_drew1) | exact HB.out)) hb)
            clear HB
            have HB := n0_
            clear n0_
            (try clear hb)
            (try clear hb2)
            (try clear hk)
            (try clear hi)
            refine hK.out _ _ trivial (fun hHeld => ?_)
            clear hK K
            refine norm_ (a' := ?_) ?_ ?_
            rotate_left
            · show Act.put _ (some 18) _ = _
              simp only [Act.put, List.setIfInBounds_toArray, List.set_cons_zero, List.set_cons_succ, i64_w, i32_w]
              rfl
            refine one_ (i := 7) (N := some 23) #[true, true, true, true, true, true, true, true, false, false, false] rfl rfl (one_of HT_.out (by kernel_rfl)) (by decide) (fun K hK => ?_)
            refine Kd.R_lit_step (Kd.int .u8) _ 5 ?hg (N := 23) ?hd (xs := ([(wrap64 (48 + (Int.tmod a0 10))) % 256] : List Int)) (inner := [.int .u8 ((wrap64 (48 + (Int.tmod a0 10))) % 256)]) (ok := fun _ => True) (okp := fun _ => True) ?hr ?hp (fun _ hk => hk) trivial (Below.refl _ _) (Nat.le_refl _) (by simp) ?_; (case hd => rfl); (case hg => rfl); (case hr => first | (go_simp; done) | (go_simp; rfl)); (case hp => exact (Reps.one (show Kd.M (Kd.int .u8) _ _ _ ((wrap64 (48 + (Int.tmod a0 10))) % 256) [.int .u8 ((wrap64 (48 + (Int.tmod a0 10))) % 256)] from rfl) (Reps.none _ _)))
            intro v164 w14 ho15 hb hg_ hnew_
            clear hg_ hnew_
            (first | rw [← Ny163.out] at ho15 | (simp only [Int.reduceToNat] at ho15; rw [← Ny163.out] at ho15))
            have n0_ := Aside0.mk (Kd.R_lower ho15 (below_size (by repeat (first | (with_reducible first | exact HB.out | apply below_alloc | apply pw_below_drewN | apply below_drew1) | exact HB.out))))
            have n1_ := Aside0.mk (below_step (by repeat (first | (with_reducible first | exact HB.out | apply below_alloc | apply pw_below_drewN | apply below_drew1) | exact HB.out)) hb)
            clear HB
            have HO165 := n0_
            have HB := n1_
            clear n0_ n1_
            clear hb ho15
            refine hK.out _ _ trivial (fun hHeld => ?_)
            clear hK K
            refine norm_ (a' := ?_) ?_ ?_
            rotate_left
            · show Act.put _ (some 23) _ = _
              simp only [Act.put, List.setIfInBounds_toArray, List.set_cons_zero, List.set_cons_succ, i64_w, i32_w]
              rfl
            refine one_ (i := 8) (N := some 24) #[true, true, true, true, true, true, true, true, true, false, false] rfl rfl (one_of HT_.out (by kernel_rfl)) (by decide) (fun K hK => ?_)
            have hcv16 := own_string (P := Tryd.prog) Tryd.underlying23 Tryd.underlying5 Tryd.underlying9 (Kd.own_of_R HO165.out)
            refine value_ (w1 := ?_) (v := ?_) (by rfl) rfl ?_ ?_
            rotate_left 2
            · go_simp
              constructor
              · rfl
              · rfl
            clear hcv16
            refine hK.out _ _ trivial (fun hHeld => ?_)
            clear hK K
            refine norm_ (a' := ?_) ?_ ?_
            rotate_left
            · show Act.put _ (some 24) _ = _
              simp only [Act.put, List.setIfInBounds_toArray, List.set_cons_zero, List.set_cons_succ, i64_w, i32_w]
              rfl
            exact norm_ (by simp only [putAll, Act.put, List.setIfInBounds_toArray, List.set_cons_zero, List.set_cons_succ]) (hCont (v164) _ ⟨(by (with_reducible repeat (first | apply Kd.R_alloc | apply Kd.R_drewN | apply Kd.R_drew)); exact HO165.out), (by repeat (first | (with_reducible first | exact HB.out | apply below_alloc | apply pw_below_drewN | apply below_drew1) | exact HB.out))⟩)
          · skip
            refine Kd.R_lit_step (Kd.int .u8) _ 5 ?hg (N := 23) ?hd (xs := ([(wrap64 (48 + (Int.tmod a0 10))) % 256] : List Int)) (inner := [.int .u8 ((wrap64 (48 + (Int.tmod a0 10))) % 256)]) (ok := fun _ => True) (okp := fun _ => True) ?hr ?hp (fun _ hk => hk) trivial (Below.refl _ _) (Nat.le_refl _) (by simp) ?_; (case hd => rfl); (case hg => rfl); (case hr => first | (go_simp; done) | (go_simp; rfl)); (case hp => exact (Reps.one (show Kd.M (Kd.int .u8) _ _ _ ((wrap64 (48 + (Int.tmod a0 10))) % 256) [.int .u8 ((wrap64 (48 + (Int.tmod a0 10))) % 256)] from rfl) (Reps.none _ _)))
            intro v164 w13 ho14 hb hg_ hnew_
            clear hg_ hnew_
            (first | rw [← Ny163.out] at ho14 | (simp only [Int.reduceToNat] at ho14; rw [← Ny163.out] at ho14))
            have n0_ := Aside0.mk (Kd.R_lower ho14 (below_size (by repeat (first | (with_reducible first | exact HB.out | apply below_alloc | apply pw_below_drewN | apply below_drew1) | exact HB.out))))
            have n1_ := Aside0.mk (below_step (by repeat (first | (with_reducible first | exact HB.out | apply below_alloc | apply pw_below_drewN | apply below_drew1) | exact HB.out)) hb)
            clear HB
            have HO165 := n0_
            have HB := n1_
            clear n0_ n1_
            clear hb ho14
            refine hK.out _ _ trivial (fun hHeld => ?_)
            clear hK K
            refine norm_ (a' := ?_) ?_ ?_
            rotate_left
            · show Act.put _ (some 23) _ = _
              simp only [Act.put, List.setIfInBounds_toArray, List.set_cons_zero, List.set_cons_succ, i64_w, i32_w]
              rfl
            refine two_ (i := 2) (j := 8) (Ni := some 18) (Nj := some 24) #[true, true, true, true, true, true, true, true, false, false, false] #[true, true, false, true, true, true, true, true, true, false, false] rfl rfl rfl rfl (two_of HT_.out (by kernel_rfl)) (by decide) (by decide) (fun K hK => ?_) (fun K hK => ?_)
            · skip
              refine goes_ Tryd.func10 (by kernel_rfl) rfl #[.int .i64 (wrap64 (Int.tdiv a0 10))] (by rfl) rfl rfl (by (try simp only [List.map_toArray, List.map_cons, List.map_nil]); first | done | rfl | (simp only [List.length_drop, List.length_take]; rfl)) ?_
              with_reducible refine (ih k (by omega) (wrap64 (Int.tdiv a0 10)) t162 _ A10.out).mono ?_
              rintro e w15 ⟨rfl, hb⟩
              refine ⟨_, rfl, ?_⟩
              have n0_ := Aside0.mk (Kd.R_below (by (with_reducible repeat (first | apply Kd.R_alloc | apply Kd.R_drewN | apply Kd.R_drew)); exact HO165.out) hb)
              have n1_ := Aside0.mk (below_step (by repeat (first | (with_reducible first | exact HB.out | apply below_alloc | apply pw_below_drewN | apply below_drew1) | exact HB.out)) hb)
              clear HO165
              clear HB
              have HO165 := n0_
              have HB := n1_
              clear n0_ n1_
              (try clear hb)
              (try clear hb2)
              (try clear hk)
              (try clear hi)
              refine hK.out _ _ trivial (fun hHeld => ?_)
              clear hK K
              refine norm_ (a' := ?_) ?_ ?_
              rotate_left
              · show Act.put _ (some 18) _ = _
                simp only [Act.put, List.setIfInBounds_toArray, List.set_cons_zero, List.set_cons_succ, i64_w, i32_w]
                rfl
              refine one_ (i := 8) (N := some 24) #[true, true, true, true, true, true, true, true, true, false, false] rfl rfl (one_of HT_.out (by kernel_rfl)) (by decide) (fun K hK => ?_)
              have hcv16 := own_string (P := Tryd.prog) Tryd.underlying23 Tryd.underlying5 Tryd.underlying9 (Kd.own_of_R HO165.out)
              refine value_ (w1 := ?_) (v := ?_) (by rfl) rfl ?_ ?_
              rotate_left 2
              · go_simp
                constructor
                · rfl
                · rfl
              clear hcv16
              refine hK.out _ _ trivial (fun hHeld => ?_)
              clear hK K
              refine norm_ (a' := ?_) ?_ ?_
              rotate_left
              · show Act.put _ (some 24) _ = _
                simp only [Act.put, List.setIfInBounds_toArray, List.set_cons_zero, List.set_cons_succ, i64_w, i32_w]
                rfl
              exact norm_ (by simp only [putAll, Act.put, List.setIfInBounds_toArray, List.set_cons_zero, List.set_cons_succ]) (hCont (v164) _ ⟨(by (with_reducible repeat (first | apply Kd.R_alloc | apply Kd.R_drewN | apply Kd.R_drew)); exact HO165.out), (by repeat (first | (with_reducible first | exact HB.out | apply below_alloc | apply pw_below_drewN | apply below_drew1) | exact HB.out))⟩)
            · skip
              have hcv15 := own_string (P := Tryd.prog) Tryd.underlying23 Tryd.underlying5 Tryd.underlying9 (Kd.own_of_R HO165.out)
              refine value_ (w1 := ?_) (v := ?_) (by rfl) rfl ?_ ?_
              rotate_left 2
              · go_simp
                constructor
                · rfl
                · rfl
              clear hcv15
              refine hK.out _ _ trivial (fun hHeld => ?_)
              clear hK K
              refine norm_ (a' := ?_) ?_ ?_
              rotate_left
              · show Act.put _ (some 24) _ = _
                simp only [Act.put, List.setIfInBounds_toArray, List.set_cons_zero, List.set_cons_succ, i64_w, i32_w]
                rfl
              refine one_ (i := 2) (N := some 18) #[true, true, true, true, true, true, true, true, true, false, false] rfl rfl (one_of HT_.out (by kernel_rfl)) (by decide) (fun K hK => ?_)
              refine goes_ Tryd.func10 (by kernel_rfl) rfl #[.int .i64 (wrap64 (Int.tdiv a0 10))] (by rfl) rfl rfl (by (try simp only [List.map_toArray, List.map_cons, List.map_nil]); first | done | rfl | (simp only [List.length_drop, List.length_take]; rfl)) ?_
              with_reducible refine (ih k (by omega) (wrap64 (Int.tdiv a0 10)) t162 _ A10.out).mono ?_
              rintro e w16 ⟨rfl, hb⟩
              refine ⟨_, rfl, ?_⟩
              have n0_ := Aside0.mk (Kd.R_below (by (with_reducible repeat (first | apply Kd.R_alloc | apply Kd.R_drewN | apply Kd.R_drew)); exact HO165.out) hb)
              have n1_ := Aside0.mk (below_step (by repeat (first | (with_reducible first | exact HB.out | apply below_alloc | apply pw_below_drewN | apply below_drew1) | exact HB.out)) hb)
              clear HO165
              clear HB
              have HO165 := n0_
              have HB := n1_
              clear n0_ n1_
              (try clear hb)
              (try clear hb2)
              (try clear hk)
              (try clear hi)
              refine hK.out _ _ trivial (fun hHeld => ?_)
              clear hK K
              refine norm_ (a' := ?_) ?_ ?_
              rotate_left
              · show Act.put _ (some 18) _ = _
                simp only [Act.put, List.setIfInBounds_toArray, List.set_cons_zero, List.set_cons_succ, i64_w, i32_w]
                rfl
              exact norm_ (by simp only [putAll, Act.put, List.setIfInBounds_toArray, List.set_cons_zero, List.set_cons_succ]) (hCont (v164) _ ⟨(by (with_reducible repeat (first | apply Kd.R_alloc | apply Kd.R_drewN | apply Kd.R_drew)); exact HO165.out), (by repeat (first | (with_reducible first | exact HB.out | apply below_alloc | apply pw_below_drewN | apply below_drew1) | exact HB.out))⟩)
        rintro v164 w17 ⟨h0_, h1_⟩
        have n0_ : Aside0 (Kd.R (Kd.int .u8) 5 w17 w.heap.size (fun _ => True) v164 y163) := ⟨h0_⟩
        have n1_ : Aside0 (Below w.heap.size w w17) := ⟨h1_⟩
        clear HB
        clear h0_ h1_
        have HO165 := n0_
        have HB := n1_
        clear n0_ n1_
        have hHeld := trivial
        refine norm_ (a' := ?_) ?_ ?_
        rotate_left
        · simp only [putAll, Act.put, List.setIfInBounds_toArray, List.set_cons_zero, List.set_cons_succ]
          rfl
        refine pure_ (i := 9) (N := some 25) (v := ?_) (a' := ?_) #[true, true, true, true, true, true, true, true, true, true, false] rfl rfl (any_of HT_.out (by kernel_rfl)) (fun _ _ _ h => h) (Or.inl ⟨by rfl, ?_⟩) ?_ ?_
        rotate_left
        · intro w'
          go_simp
          with_reducible rfl
        rotate_left
        · simp only [Act.put, List.setIfInBounds_toArray, List.set_cons_zero, List.set_cons_succ, i64_w, i32_w]
          rfl
        refine pure_ (i := 10) (N := some 2) (v := ?_) (a' := ?_) #[true, true, true, true, true, true, true, true, true, true, true] rfl rfl (any_of HT_.out (by kernel_rfl)) (fun _ _ _ h => h) (Or.inl ⟨by rfl, ?_⟩) ?_ ?_
        rotate_left
        · intro w'
          go_simp
          with_reducible rfl
        rotate_left
        · simp only [Act.put, List.setIfInBounds_toArray, List.set_cons_zero, List.set_cons_succ, i64_w, i32_w]
          rfl
        refine done_ (done_of HT_.out (by kernel_rfl)) ?_
        try go_wp2
        go_ret
        exact ⟨by first | rfl | (simp [errW_none, errW_some] <;> rfl) | (simp [*, errW_none, errW_some] <;> rfl), by repeat (first | (with_reducible first | exact HB.out | apply below_alloc | apply pw_below_drewN | apply below_drew1) | exact HB.out)⟩
      · rw [if_neg c11] at H
        exact absurd H (by simp)

/-! ### verify_VersionedDigest_IsEmpty: function 14 -/
def verify_VersionedDigest_IsEmpty.f (a0_0 : Int) (l0_1 : List Int) : Option (Bool) := if a0_0 = 0 then (some ((l0_1.length : Int) == 0)) else (some false)
set_option maxHeartbeats 8000000 in
set_option maxRecDepth 100000 in
theorem verify_VersionedDigest_IsEmpty.calls (a0_0 : Int) (A0_1 : Option Addr) (c0_1 : Nat) (l0_1 : List Int) (r : Bool) (w : World) (hr0_1 : Kd.C (Kd.int .u8) w A0_1 l0_1.length l0_1) (hc0_1 : l0_1.length ≤ c0_1) (h : verify_VersionedDigest_IsEmpty.f a0_0 l0_1 = some r) :
    Calls Tryd.prog 14 #[.agg #[.int .i64 a0_0, .slice A0_1 l0_1.length c0_1]] w fun e w' => e = .returned (.bool r) ∧ Below w.heap.size w w' := by
  have hu33 := Tryd.underlying33
  have HR0_1 := Aside0.mk hr0_1
  have HC0_1 := Aside0.mk hc0_1
  clear hr0_1 hc0_1
  have HB := Aside0.mk (Below.refl w.heap.size w)
  have H : (if a0_0 = 0 then (some ((l0_1.length : Int) == 0)) else (some false)) = some r := h
  clear h
  by_cases c2 : a0_0 = 0
  · rw [if_pos c2] at H
    have c2b0 : (a0_0 == 0) = true := beq_iff_eq.mpr c2
    have c2b1 : (a0_0 != 0) = false := bne_eq_false_iff_eq.mpr c2
    clear c2
    obtain rfl := Option.some.inj H
    go_enter Tryd.func14, Tryd.ntmps14
    go_wp2_with (first | ((with_reducible refine gate_dst (N := 1) rfl ?_); (try (refine gate_guard (by rfl) ?_; dsimp only)); refine box_event ?hg (N := 1) ?hd (cs := #[.int .i64 a0_0, .slice A0_1 l0_1.length c0_1]) (t := 33) ?hr ?_; (case hd => rfl); (case hg => rfl); (case hr => first | (go_simp; done) | (go_simp; rfl)); intro gb166 hg w3 hbox hb; have n0_ := Aside0.mk (below_step (by repeat (first | (with_reducible first | exact HB.out | apply below_alloc | apply pw_below_drewN | apply below_drew1) | exact HB.out)) hb); have n1_ := Aside0.mk (hbox); have n2_ := Aside0.mk ((by rw [hg]; exact (below_size (by repeat (first | (with_reducible first | exact HB.out | apply below_alloc | apply pw_below_drewN | apply below_drew1) | exact HB.out))) : w.heap.size ≤ gb166)); have n3_ := Aside0.mk ((by rw [hg]; exact (below_size (by repeat (first | (with_reducible first | exact HB.out | apply below_alloc | apply pw_below_drewN | apply below_drew1) | exact HB.out))) : w.heap.size ≤ gb166)); clear HB; have HB := n0_; have BK166 := n1_; have GW166 := n2_; have GE166 := n3_; clear n0_ n1_ n2_ n3_; clear hb hbox hg; have hcz4_0 : w3.cell? ⟨gb166, 0, none⟩ = some (.int .i64 a0_0) := (blk_cell BK166.out 0).trans rfl; have hcz4_1 : w3.cell? ⟨gb166, 1, none⟩ = some (.slice A0_1 l0_1.length c0_1) := (blk_cell BK166.out 1).trans rfl; have hfz4_0 := blk_frozen BK166.out 0; have hfz4_1 := blk_frozen BK166.out 1))
    go_ret
    exact ⟨by first | rfl | (simp [errW_none, errW_some] <;> rfl) | (simp [*, errW_none, errW_some] <;> rfl), by repeat (first | (with_reducible first | exact HB.out | apply below_alloc | apply pw_below_drewN | apply below_drew1 | refine below_set ?_ GE166.out) | exact HB.out)⟩
  · rw [if_neg c2] at H
    have c2b0 : (a0_0 == 0) = false := beq_eq_false_iff_ne.mpr c2
    have c2b1 : (a0_0 != 0) = true := bne_iff_ne.mpr c2
    obtain rfl := Option.some.inj H
    go_enter Tryd.func14, Tryd.ntmps14
    go_wp2_with (first | ((with_reducible refine gate_dst (N := 1) rfl ?_); (try (refine gate_guard (by rfl) ?_; dsimp only)); refine box_event ?hg (N := 1) ?hd (cs := #[.int .i64 a0_0, .slice A0_1 l0_1.length c0_1]) (t := 33) ?hr ?_; (case hd => rfl); (case hg => rfl); (case hr => first | (go_simp; done) | (go_simp; rfl)); intro gb166 hg w5 hbox hb; have n0_ := Aside0.mk (below_step (by repeat (first | (with_reducible first | exact HB.out | apply below_alloc | apply pw_below_drewN | apply below_drew1) | exact HB.out)) hb); have n1_ := Aside0.mk (hbox); have n2_ := Aside0.mk ((by rw [hg]; exact (below_size (by repeat (first | (with_reducible first | exact HB.out | apply below_alloc | apply pw_below_drewN | apply below_drew1) | exact HB.out))) : w.heap.size ≤ gb166)); have n3_ := Aside0.mk ((by rw [hg]; exact (below_size (by repeat (first | (with_reducible first | exact HB.out | apply below_alloc | apply pw_below_drewN | apply below_drew1) | exact HB.out))) : w.heap.size ≤ gb166)); clear HB; have HB := n0_; have BK166 := n1_; have GW166 := n2_; have GE166 := n3_; clear n0_ n1_ n2_ n3_; clear hb hbox hg; have hcz6_0 : w5.cell? ⟨gb166, 0, none⟩ = some (.int .i64 a0_0) := (blk_cell BK166.out 0).trans rfl; have hcz6_1 : w5.cell? ⟨gb166, 1, none⟩ = some (.slice A0_1 l0_1.length c0_1) := (blk_cell BK166.out 1).trans rfl; have hfz6_0 := blk_frozen BK166.out 0; have hfz6_1 := blk_frozen BK166.out 1))
    go_ret
    exact ⟨by first | rfl | (simp [errW_none, errW_some] <;> rfl) | (simp [*, errW_none, errW_some] <;> rfl), by repeat (first | (with_reducible first | exact HB.out | apply below_alloc | apply pw_below_drewN | apply below_drew1 | refine below_set ?_ GE166.out) | exact HB.out)⟩

/-! ### impl_IsDigestEmpty: function 11 -/
def impl_IsDigestEmpty.f (a0 : Int) (l1 : List Int) : Option (Bool) := (verify_VersionedDigest_IsEmpty.f a0 l1).bind fun t167 => (some t167)
set_option maxHeartbeats 8000000 in
set_option maxRecDepth 100000 in
theorem impl_IsDigestEmpty.calls (a0 : Int) (A1 : Option Addr) (c1 : Nat) (l1 : List Int) (r : Bool) (w : World) (hr1 : Kd.C (Kd.int .u8) w A1 l1.length l1) (hc1 : l1.length ≤ c1) (h : impl_IsDigestEmpty.f a0 l1 = some r) :
    Calls Tryd.prog 11 #[.int .i64 a0, .slice A1 l1.length c1] w fun e w' => e = .returned (.bool r) ∧ Below w.heap.size w w' := by
  have hu33 := Tryd.underlying33
  have HR1 := Aside0.mk hr1
  have HC1 := Aside0.mk hc1
  clear hr1 hc1
  have HB := Aside0.mk (Below.refl w.heap.size w)
  have H : ((verify_VersionedDigest_IsEmpty.f a0 l1).bind fun t167 => (some t167)) = some r := h
  clear h
  replace H := Option.bind_eq_some_iff.mp H
  obtain ⟨t167, A30, H⟩ := H
  replace H : (some t167) = some r := H
  have A3 := Aside0.mk A30
  clear A30
  obtain rfl := Option.some.inj H
  go_enter Tryd.func11, Tryd.ntmps11
  go_wp2_with (first | ((with_reducible refine gate_callee (f := 14) rfl ?_); refine goesL_ (some 8) rfl rfl Tryd.func14 (by kernel_rfl) rfl #[.agg #[.int .i64 a0, .slice A1 l1.length c1]] rfl (by (try simp only [List.map_toArray, List.map_cons, List.map_nil]); first | done | rfl | (simp only [List.length_drop, List.length_take]; rfl)) ?_; (with_reducible refine (verify_VersionedDigest_IsEmpty.calls a0 _ _ l1 t167 _ ?side1 ?side2 A3.out).mono ?_); (case side1 => repeat (first | exact HR1.out | (with_reducible refine Kd.C_alloc ?_ _) | (with_reducible refine Kd.C_drewN ?_ _) | (with_reducible refine Kd.C_drew ?_))); (case side2 => exact HC1.out); rintro e w4 ⟨rfl, hb⟩; refine ⟨_, rfl, ?_⟩; have n0_ := Aside0.mk (below_step (by repeat (first | (with_reducible first | exact HB.out | apply below_alloc | apply pw_below_drewN | apply below_drew1) | exact HB.out)) hb); clear HB; have HB := n0_; clear n0_; (try clear hb); (try clear hb2); (try clear hk); (try clear hi)))
  go_ret
  exact ⟨by first | rfl | (simp [errW_none, errW_some] <;> rfl) | (simp [*, errW_none, errW_some] <;> rfl), by repeat (first | (with_reducible first | exact HB.out | apply below_alloc | apply pw_below_drewN | apply below_drew1) | exact HB.out)⟩

-- NOT PRINTED: function 4 (laws_FnDigest)

end Go.Proofs.YtehcnjjkklogbaaDoor.PFnDigest
