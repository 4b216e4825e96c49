/- Merged by program out of: VIdent, VPi, VPj, VPl. -/
import Derived.Test.YtgoeiflddikihaaGreatDoorCsgM7
import Derived.Test.YtgoeiflddikihaaGreatDoorCsgM3
section
namespace Go.Proofs.YtgoeiflddikihaaGreatDoor.Ver
open Go.RowKit Go.Proofs.YtgoeiflddikihaaGreatDoor.PFnIntersectAny Go.Proofs.YtgoeiflddikihaaGreatDoorW.PrintWords
def isDig (c : UInt8) : Bool := decide (48 ≤ c.toNat) && decide (c.toNat ≤ 57)
def digN : List UInt8 → Nat
  | [] => 0
  | c :: r => if isDig c then digN r + 1 else 0
def isId (c : UInt8) : Bool := isDig c || (decide (97 ≤ c.toNat) && decide (c.toNat ≤ 122)) || (decide (65 ≤ c.toNat) && decide (c.toNat ≤ 90)) || c.toNat == 45
def identGo : List UInt8 → Nat → Nat → Nat → Nat
  | [], _, n, _ => n
  | c :: r, i, n, p => if isId c then identGo r (i + 1) (i + 1) (p + 1) else if c.toNat = 46 ∧ 0 < p then identGo r (i + 1) n 0 else n
def identN (l : List UInt8) : Nat := identGo l 0 0 0
theorem identGo_le : ∀ (l : List UInt8) (i n p : Nat), n ≤ i → identGo l i n p ≤ i + l.length
  | [], i, n, p, h => by simp [identGo]; omega
  | c :: r, i, n, p, h => by
    simp only [identGo, List.length_cons]
    split
    · have := identGo_le r (i + 1) (i + 1) (p + 1) (by omega); omega
    · split
      · have := identGo_le r (i + 1) n 0 (by omega); omega
      · omega
theorem identN_le (l : List UInt8) : identN l ≤ l.length := by
  have := identGo_le l 0 0 0 (by omega)
  unfold identN; omega
theorem wrap_in {i : Int} (h0 : -9223372036854775808 ≤ i) (h : i ≤ 9223372036854775807) : wrap64 i = i := by
  unfold wrap64
  omega
theorem bt_nat (s : ByteArray) (i : Nat) (h : i < s.size) : bt s (i : Int) = ((s[i]).toNat : Int) := by
  have := bt_at s (i : Int) (by simpa using h)
  rw [← this]; simp
theorem drop_at (s : ByteArray) (i : Nat) (h : i < s.size) : s.data.toList.drop i = s[i] :: s.data.toList.drop (i + 1) := by
  have hl : i < s.data.toList.length := by rw [Array.length_toList]; exact h
  rw [List.drop_eq_getElem_cons hl]
  rfl
theorem ident_tells (s : ByteArray) (hn : s.size ≤ 140737488351232) (d : Nat) : ∀ (k i n p : Nat), i ≤ s.size → n ≤ i → p ≤ i → s.size - i = d → 2 * d < k →
    semver_identifiers.l0 k s (n : Int) (p : Int) (i : Int) = some ((identGo (s.data.toList.drop i) i n p : Nat) : Int) := by
  induction d with
  | zero =>
    intro k i n p hi hni hpi hd hk
    cases k with
    | zero => omega
    | succ k =>
      rw [semver_identifiers.l0, if_neg (by omega), List.drop_eq_nil_of_le (by rw [Array.length_toList]; show s.size ≤ i; omega)]
      rfl
  | succ d ih =>
    intro k i n p hi hni hpi hd hk
    have hlt : i < s.size := by omega
    cases k with
    | zero => omega
    | succ k =>
      cases k with
      | zero => omega
      | succ k =>
        have w1 : wrap64 ((i : Int) + 1) = ((i + 1 : Nat) : Int) := by rw [wrap_in (by omega) (by omega)]; omega
        have w2 : wrap64 ((p : Int) + 1) = ((p + 1 : Nat) : Int) := by rw [wrap_in (by omega) (by omega)]; omega
        rw [drop_at s i hlt, identGo]
        rw [semver_identifiers.l0, if_pos (by omega), if_pos (by omega), bt_nat s i hlt]
        have e1 := ih k (i + 1) (i + 1) (p + 1) (by omega) (by omega) (by omega) (by omega) (by omega)
        have e2 := ih k (i + 1) n 0 (by omega) (by omega) (by omega) (by omega) (by omega)
        simp only [semver_identifiers.j1, w1, w2]
        generalize s[i] = c at *
        by_cases hid : isId c = true
        · rw [if_pos hid]
          simp only [isId, isDig, Bool.or_eq_true, Bool.and_eq_true, decide_eq_true_eq, beq_iff_eq] at hid
          rw [e1]
          by_cases a1 : (48 : Int) ≤ (c.toNat : Int) <;> by_cases a2 : (c.toNat : Int) ≤ 57 <;> by_cases a3 : (97 : Int) ≤ (c.toNat : Int) <;> by_cases a4 : (c.toNat : Int) ≤ 122 <;> by_cases a5 : (65 : Int) ≤ (c.toNat : Int) <;> by_cases a6 : (c.toNat : Int) ≤ 90 <;>
            simp only [a1, a2, a3, a4, a5, a6, if_true, if_false] <;> (have hc : (c.toNat : Int) = 45 := by omega) <;> simp [hc]
        · rw [if_neg hid]
          simp only [isId, isDig, Bool.or_eq_true, Bool.and_eq_true, decide_eq_true_eq, beq_iff_eq] at hid
          have hb : ((c.toNat : Int) == 45) = false := by rw [beq_eq_false_iff_ne]; omega
          have hz : (((0 : Nat) : Int)) = 0 := rfl
          by_cases a1 : (48 : Int) ≤ (c.toNat : Int) <;> by_cases a2 : (c.toNat : Int) ≤ 57 <;> by_cases a3 : (97 : Int) ≤ (c.toNat : Int) <;> by_cases a4 : (c.toNat : Int) ≤ 122 <;> by_cases a5 : (65 : Int) ≤ (c.toNat : Int) <;> by_cases a6 : (c.toNat : Int) ≤ 90 <;>
            first | (exfalso; omega) | skip
          all_goals
            simp only [a1, a2, a3, a4, a5, a6, if_true, if_false, hb]
            by_cases h46 : c.toNat = 46
            · by_cases hp : 0 < p
              · rw [if_neg (by decide), if_pos (by omega), if_pos (by omega), if_pos ⟨h46, hp⟩, ← e2]; rfl
              · rw [if_neg (by decide), if_pos (by omega), if_neg (by omega), if_neg (by omega)]
            · rw [if_neg (by decide), if_neg (by omega), if_neg (by omega)]
theorem ident_any (s : ByteArray) (hn : s.size ≤ 140737488351232) (w : World) :
    Calls Tryz.prog 153 #[.string s] w fun e w' => e = .returned (.int .i64 ((identN s.data.toList : Nat) : Int)) ∧ ∃ n, w' = w.drewN n :=
  (semver_identifiers.calls (2 * s.size + 1) s _ w (ident_tells s hn s.size (2 * s.size + 1) 0 0 0 (by omega) (by omega) (by omega) (by omega) (by omega))).mono fun _ _ ⟨h, hd⟩ => ⟨h, hd.out⟩
end Go.Proofs.YtgoeiflddikihaaGreatDoor.Ver
end
section
namespace Go.Proofs.YtgoeiflddikihaaGreatDoor.PFnVersion
open Go.RowKit Go.Proofs.YtgoeiflddikihaaGreatDoorW.PrintWords Go.Proofs.YtgoeiflddikihaaGreatDoorW.PrintLast Go.Proofs.YtgoeiflddikihaaGreatDoorW.PrintMore
attribute [local go_sem] max2_int min2_int max_two min_two max_three min_three max_four min_four   -- for this text's walks alone
set_option linter.unusedVariables false
set_option linter.unusedSimpArgs false
def spec_verSplit.l0 : Nat → ByteArray → Int → List ByteArray → Int → Int → Option (List ByteArray)
 | 0, _, _, _, _, _ => none
 | k + 1, x0, x1, x5, x6, x7 => if x7 ≤ (x0.size : Int) then (if x7 = (x0.size : Int) then (if 0 ≤ x6 then (if x6 ≤ x7 then (if x5.length < 8796093022208 then (spec_verSplit.l0 k x0 x1 (x5 ++ [x0.extract (x6 : Int).toNat (x7 : Int).toNat]) (wrap64 (x7 + 1)) (wrap64 (x7 + 1))) else (none)) else (none)) else (none)) else (if 0 ≤ x7 then (if x7 < (x0.size : Int) then (if (bt x0 x7) = x1 then (if 0 ≤ x6 then (if x6 ≤ x7 then (if x5.length < 8796093022208 then (spec_verSplit.l0 k x0 x1 (x5 ++ [x0.extract (x6 : Int).toNat (x7 : Int).toNat]) (wrap64 (x7 + 1)) (wrap64 (x7 + 1))) else (none)) else (none)) else (none)) else (spec_verSplit.l0 k x0 x1 x5 x6 (wrap64 (x7 + 1)))) else (none)) else (none))) else (some x5)
def spec_verSplit.f (k : Nat) (a0 : ByteArray) (a1 : Int) : Option (List ByteArray) := spec_verSplit.l0 k a0 a1 ([] : List ByteArray) 0 0
theorem spec_verSplit.mono_l : ∀ k, (∀ y0 y1 y2 y3 y4, LeO (spec_verSplit.l0 k y0 y1 y2 y3 y4) (spec_verSplit.l0 (k + 1) y0 y1 y2 y3 y4))
 | 0 => fun _ _ _ _ _ r h => by simp [spec_verSplit.l0] at h
 | k + 1 => by
  have ih0 := spec_verSplit.mono_l k
  ·intro y0 y1 y2 y3 y4
   unfold spec_verSplit.l0
   repeat' first
   | (with_reducible exact ih0 _ _ _ _ _)
   | (with_reducible exact LeO.refl _)
   | (with_reducible exact LeO.none _)
   | (with_reducible refine LeO.ite ?_ ?_)
   | (with_reducible refine LeO.bind ?_ (fun _ => ?_))
   | exact ih0 _ _ _ _ _
   | exact LeO.none _
   | refine LeO.ite ?_ ?_
   | refine LeO.bind ?_ (fun _ => ?_)
theorem spec_verSplit.mono : ∀ a0 a1 k, LeO (spec_verSplit.f k a0 a1) (spec_verSplit.f (k + 1) a0 a1) := by
 intro a0 a1 k
 have ih0 := spec_verSplit.mono_l k
 unfold spec_verSplit.f
 repeat' first
   | (with_reducible exact ih0 _ _ _ _ _)
   | (with_reducible exact LeO.refl _)
   | (with_reducible exact LeO.none _)
   | (with_reducible refine LeO.ite ?_ ?_)
   | (with_reducible refine LeO.bind ?_ (fun _ => ?_))
   | exact ih0 _ _ _ _ _
   | exact LeO.none _
   | refine LeO.ite ?_ ?_
   | refine LeO.bind ?_ (fun _ => ?_)
set_option maxHeartbeats 8000000 in
set_option maxRecDepth 100000 in
theorem spec_verSplit.calls (k : Nat) (a0 : ByteArray) (a1 : Int) (r : List ByteArray) (w : World) (h : spec_verSplit.f k a0 a1 = some r) :
  Calls Tryz.prog 73 #[.string a0, .int .u8 a1] w fun e w' => ∃ v0_ : Value, e = .returned (v0_) ∧ Kd.R Kd.string 9 w' w.heap.size (fun _ => True) v0_ r ∧ Below w.heap.size w w' := by
 have HB := Aside0.mk (Below.refl w.heap.size w)
 have H : (spec_verSplit.l0 k a0 a1 ([] : List ByteArray) 0 0) = some r := h
 clear h
 have H' := Aside0.mk H
 clear H
 go_enter Tryz.func73, Tryz.ntmps73
 go_wp2
 go_loopg [5, 6, 7] k (fun kq v5 v6 v7 w' => ∃ (x5_1 : List ByteArray) (x6_1 : Int) (x7_1 : Int), v6 = .int .i64 x6_1 ∧ v7 = .int .i64 x7_1 ∧ Aside0 (spec_verSplit.l0 kq a0 a1 x5_1 x6_1 x7_1 = some r) ∧ Aside0 (kq ≤ k) ∧ Aside0 (Kd.R Kd.string 9 w' w.heap.size (fun _ => True) v5 x5_1) ∧ Aside0 (Below w.heap.size w w'))
 case atStart => exact ⟨(([] : List ByteArray)), (0), (0), (by first | rfl | (simp; done) | (simp [*]; done)), (by first | rfl | (simp; done) | (simp [*]; done)), H', ⟨Nat.le_refl _⟩, ⟨by first | exact Kd.R_nil _ _ _ _ _ | exact Kd.N_nil _ _ _ _ _ | exact Kd.V_nil _ _ _ _ _ | exact Kd.Q_nil _ _ _ _ _ | exact Kd.S_nil _ _ _ _ _⟩, ⟨by repeat (first | (with_reducible first | exact HB.out | apply below_alloc | apply pw_below_drewN | apply below_drew1) | exact HB.out)⟩⟩
 case round =>
  clear H'
  try clear p2
  obtain ⟨x5_1, x6_1, x7_1, rfl, rfl, HA, HK1, HO_5, HB⟩ := hrel
  cases gk with
  | zero => exact absurd HA.out (by simp [spec_verSplit.l0])
  | succ k1 =>
   have H := HA.out
   clear HA
   simp only [spec_verSplit.l0] at H
   by_cases c3 : x7_1 ≤ (a0.size : Int)
   ·rw [if_pos c3] at H
    have c3b0 : decide (x7_1 ≤ (a0.size : Int)) = true := decide_eq_true c3
    clear c3
    by_cases c4 : x7_1 = (a0.size : Int)
    ·rw [if_pos c4] at H
     have c4b0 : (x7_1 == (a0.size : Int)) = true := beq_iff_eq.mpr c4
     have c4b1 : (x7_1 != (a0.size : Int)) = false := bne_eq_false_iff_eq.mpr c4
     clear c4
     by_cases c5 : 0 ≤ x6_1
     ·rw [if_pos c5] at H
      have c5b0 := eq_true c5
      have c5b1 : decide (0 ≤ x6_1) = true := decide_eq_true c5
      clear c5
      by_cases c6 : x6_1 ≤ x7_1
      ·rw [if_pos c6] at H
       have c6b0 := eq_true c6
       have c6b1 : decide (x6_1 ≤ x7_1) = true := decide_eq_true c6
       clear c6
       have c7b0 := eq_true (of_decide_eq_true (by first | (with_reducible assumption) | assumption) : x7_1 ≤ (a0.size : Int))
       by_cases c8 : x5_1.length < 8796093022208
       ·rw [if_pos c8] at H
        have LMc8 := Aside0.mk c8
        clear c8
        obtain ⟨y159, hy159⟩ : ∃ y_ : List ByteArray, y_ = (x5_1 ++ [a0.extract (x6_1 : Int).toNat (x7_1 : Int).toNat]) := ⟨_, rfl⟩
        replace H : (spec_verSplit.l0 k1 a0 a1 y159 (wrap64 (x7_1 + 1)) (wrap64 (x7_1 + 1))) = some r := by first | (rw [hy159]; with_reducible exact H) | (have H2_ := (Option.bind_some _ _).symm.trans H; rw [hy159]; with_reducible exact H2_) | (have H2_ := (Option.bind_some _ _).symm.trans H; with_reducible exact H2_) | with_reducible exact H | (rw [hy159]; exact H) | exact H
        have Ny159 := Aside0.mk hy159
        clear hy159
        have H' := Aside0.mk H
        clear H
        go_wp2_with (first | ((with_reducible refine gate_builtin (b := .append) (xs := #[.tmp 25, .tmp 30]) rfl ?_); at_builtin; refine Kd.R_append Kd.string (w0 := w) w.heap.size rfl (.tmp 25) (.tmp 30) 48 9 (.string ⟨#[]⟩) 16 rfl Tryz.underlying48 info9 rfl (by decide) (by omega) u5 x5_1 (a0.extract (x6_1 : Int).toNat (x7_1 : Int).toNat) [.string (a0.extract (x6_1 : Int).toNat (x7_1 : Int).toNat)] (fun _ => True) (fun _ => False) rfl rfl ?aP (fun _ hk => hk.elim) ?aF ?aO ?aB ?aS ?aL ?_; (case aP => exact rfl); (case aB => exact (by repeat (first | (with_reducible first | exact HB.out | apply below_alloc | apply pw_below_drewN | apply below_drew1) | exact HB.out))); (case aF => exact (fun _ _ => trivial)); (case aO => exact (by (with_reducible repeat (first | apply Kd.R_alloc | apply Kd.R_drewN | apply Kd.R_drew)); exact HO_5.out)); (case aS => exact (below_size (by repeat (first | (with_reducible first | exact HB.out | apply below_alloc | apply pw_below_drewN | apply below_drew1) | exact HB.out)))); (case aL => have := LMc8.out; omega); intro v160 w9 ho hb hg hat; rw [← Ny159.out] at ho; have n0_ := Aside0.mk (hb); have n1_ := Aside0.mk (ho); clear HB; clear HO_5; have HB := n0_; have HO161 := n1_; clear n0_ n1_; clear ho hb hg hat))
        go_roundg k1
        case measure => have := HK1.out; omega
        case rel => exact ⟨(y159), (wrap64 (x7_1 + 1)), (wrap64 (x7_1 + 1)), (by first | rfl | (simp; done) | (simp [*]; done)), (by first | rfl | (simp; done) | (simp [*]; done)), H', ⟨by have := HK1.out; omega⟩, ⟨by (with_reducible repeat (first | apply Kd.R_alloc | apply Kd.R_drewN | apply Kd.R_drew)); exact HO161.out⟩, ⟨by repeat (first | (with_reducible first | exact HB.out | apply below_alloc | apply pw_below_drewN | apply below_drew1) | exact HB.out)⟩⟩
       ·rw [if_neg c8] at H
        exact absurd H (by simp)
      ·rw [if_neg c6] at H
       exact absurd H (by simp)
     ·rw [if_neg c5] at H
      exact absurd H (by simp)
    ·rw [if_neg c4] at H
     have c4b0 : (x7_1 == (a0.size : Int)) = false := beq_eq_false_iff_ne.mpr c4
     have c4b1 : (x7_1 != (a0.size : Int)) = true := bne_iff_ne.mpr c4
     by_cases c10 : 0 ≤ x7_1
     ·rw [if_pos c10] at H
      have c10b0 : decide (0 ≤ x7_1) = true := decide_eq_true c10
      clear c10
      by_cases c11 : x7_1 < (a0.size : Int)
      ·rw [if_pos c11] at H
       have c11b0 : decide (x7_1 < (a0.size : Int)) = true := decide_eq_true c11
       clear c11
       by_cases c13 : (bt a0 x7_1) = a1
       ·rw [if_pos c13] at H
        have c13b0 : ((bt a0 x7_1) == a1) = true := beq_iff_eq.mpr c13
        have c13b1 : ((bt a0 x7_1) != a1) = false := bne_eq_false_iff_eq.mpr c13
        clear c13
        by_cases c14 : 0 ≤ x6_1
        ·rw [if_pos c14] at H
         have c14b0 := eq_true c14
         have c14b1 : decide (0 ≤ x6_1) = true := decide_eq_true c14
         clear c14
         by_cases c15 : x6_1 ≤ x7_1
         ·rw [if_pos c15] at H
          have c15b0 := eq_true c15
          have c15b1 : decide (x6_1 ≤ x7_1) = true := decide_eq_true c15
          clear c15
          have c16b0 := eq_true (of_decide_eq_true (by first | (with_reducible assumption) | assumption) : x7_1 ≤ (a0.size : Int))
          by_cases c17 : x5_1.length < 8796093022208
          ·rw [if_pos c17] at H
           have LMc17 := Aside0.mk c17
           clear c17
           obtain ⟨y162, hy162⟩ : ∃ y_ : List ByteArray, y_ = (x5_1 ++ [a0.extract (x6_1 : Int).toNat (x7_1 : Int).toNat]) := ⟨_, rfl⟩
           replace H : (spec_verSplit.l0 k1 a0 a1 y162 (wrap64 (x7_1 + 1)) (wrap64 (x7_1 + 1))) = some r := by first | (rw [hy162]; with_reducible exact H) | (have H2_ := (Option.bind_some _ _).symm.trans H; rw [hy162]; with_reducible exact H2_) | (have H2_ := (Option.bind_some _ _).symm.trans H; with_reducible exact H2_) | with_reducible exact H | (rw [hy162]; exact H) | exact H
           have Ny162 := Aside0.mk hy162
           clear hy162
           have H' := Aside0.mk H
           clear H
           have p12 : 0 ≤ (x7_1 : Int) := of_decide_eq_true (by first | (with_reducible assumption) | assumption)
           have q12 : x7_1 < (a0.size : Int) := of_decide_eq_true (by first | (with_reducible assumption) | assumption)
           have hx12 := bt_at a0 x7_1
           replace p12 := eq_true p12
           replace q12 := eq_true q12
           go_wp2_with (first | ((with_reducible refine gate_builtin (b := .append) (xs := #[.tmp 25, .tmp 30]) rfl ?_); at_builtin; refine Kd.R_append Kd.string (w0 := w) w.heap.size rfl (.tmp 25) (.tmp 30) 48 9 (.string ⟨#[]⟩) 16 rfl Tryz.underlying48 info9 rfl (by decide) (by omega) u5 x5_1 (a0.extract (x6_1 : Int).toNat (x7_1 : Int).toNat) [.string (a0.extract (x6_1 : Int).toNat (x7_1 : Int).toNat)] (fun _ => True) (fun _ => False) rfl rfl ?aP (fun _ hk => hk.elim) ?aF ?aO ?aB ?aS ?aL ?_; (case aP => exact rfl); (case aB => exact (by repeat (first | (with_reducible first | exact HB.out | apply below_alloc | apply pw_below_drewN | apply below_drew1) | exact HB.out))); (case aF => exact (fun _ _ => trivial)); (case aO => exact (by (with_reducible repeat (first | apply Kd.R_alloc | apply Kd.R_drewN | apply Kd.R_drew)); exact HO_5.out)); (case aS => exact (below_size (by repeat (first | (with_reducible first | exact HB.out | apply below_alloc | apply pw_below_drewN | apply below_drew1) | exact HB.out)))); (case aL => have := LMc17.out; omega); intro v163 w18 ho hb hg hat; rw [← Ny162.out] at ho; have n0_ := Aside0.mk (hb); have n1_ := Aside0.mk (ho); clear HB; clear HO_5; have HB := n0_; have HO164 := n1_; clear n0_ n1_; clear ho hb hg hat))
           go_roundg k1
           case measure => have := HK1.out; omega
           case rel => exact ⟨(y162), (wrap64 (x7_1 + 1)), (wrap64 (x7_1 + 1)), (by first | rfl | (simp; done) | (simp [*]; done)), (by first | rfl | (simp; done) | (simp [*]; done)), H', ⟨by have := HK1.out; omega⟩, ⟨by (with_reducible repeat (first | apply Kd.R_alloc | apply Kd.R_drewN | apply Kd.R_drew)); exact HO164.out⟩, ⟨by repeat (first | (with_reducible first | exact HB.out | apply below_alloc | apply pw_below_drewN | apply below_drew1) | exact HB.out)⟩⟩
          ·rw [if_neg c17] at H
           exact absurd H (by simp)
         ·rw [if_neg c15] at H
          exact absurd H (by simp)
        ·rw [if_neg c14] at H
         exact absurd H (by simp)
       ·rw [if_neg c13] at H
        have c13b0 : ((bt a0 x7_1) == a1) = false := beq_eq_false_iff_ne.mpr c13
        have c13b1 : ((bt a0 x7_1) != a1) = true := bne_iff_ne.mpr c13
        have H' := Aside0.mk H
        clear H
        have p12 : 0 ≤ (x7_1 : Int) := of_decide_eq_true (by first | (with_reducible assumption) | assumption)
        have q12 : x7_1 < (a0.size : Int) := of_decide_eq_true (by first | (with_reducible assumption) | assumption)
        have hx12 := bt_at a0 x7_1
        replace p12 := eq_true p12
        replace q12 := eq_true q12
        go_wp2
        go_roundg k1
        case measure => have := HK1.out; omega
        case rel => exact ⟨(x5_1), (x6_1), (wrap64 (x7_1 + 1)), (by first | rfl | (simp; done) | (simp [*]; done)), (by first | rfl | (simp; done) | (simp [*]; done)), H', ⟨by have := HK1.out; omega⟩, ⟨by (with_reducible repeat (first | apply Kd.R_alloc | apply Kd.R_drewN | apply Kd.R_drew)); exact HO_5.out⟩, ⟨by repeat (first | (with_reducible first | exact HB.out | apply below_alloc | apply pw_below_drewN | apply below_drew1) | exact HB.out)⟩⟩
      ·rw [if_neg c11] at H
       exact absurd H (by simp)
     ·rw [if_neg c10] at H
      exact absurd H (by simp)
   ·rw [if_neg c3] at H
    have c3b0 : decide (x7_1 ≤ (a0.size : Int)) = false := decide_eq_false c3
    clear c3
    obtain rfl := Option.some.inj H
    go_wp2
    go_ret
    exact ⟨_, by first | rfl | (simp [errW_none, errW_some] <;> rfl) | (simp [*, errW_none, errW_some] <;> rfl), by (with_reducible repeat (first | apply Kd.R_alloc | apply Kd.R_drewN | apply Kd.R_drew)); exact HO_5.out, by repeat (first | (with_reducible first | exact HB.out | apply below_alloc | apply pw_below_drewN | apply below_drew1) | exact HB.out)⟩
mutual
def spec_verIdents.l0 : Nat → List ByteArray → List ByteArray → Int → Int → Option (List ByteArray × Bool)
 | 0, _, _, _, _ => none
 | k + 1, x4, x11, x12, x13 => if x13 < x12 then (if 0 ≤ x13 then (if x13 < (x11.length : Int) then (spec_verIdents.l1 k x4 (rdOf ByteArray.empty x11 x13) 0 x11 x12 x13) else (none)) else (none)) else (some (x4, true))
def spec_verIdents.l1 : Nat → List ByteArray → ByteArray → Int → List ByteArray → Int → Int → Option (List ByteArray × Bool)
 | 0, _, _, _, _, _, _ => none
 | k + 1, x4, x6, x7, x11, x12, x13 => if x7 < (x6.size : Int) then (if 0 ≤ x7 then (if (Go.bits .or .u8 (bt x6 x7) 32) < 97 then (if (bt x6 x7) < 48 then (if (bt x6 x7) = 45 then (spec_verIdents.l1 k x4 x6 (wrap64 (x7 + 1)) x11 x12 x13) else (some (([] : List ByteArray), false))) else (if (bt x6 x7) > 57 then (if (bt x6 x7) = 45 then (spec_verIdents.l1 k x4 x6 (wrap64 (x7 + 1)) x11 x12 x13) else (some (([] : List ByteArray), false))) else (spec_verIdents.l1 k x4 x6 (wrap64 (x7 + 1)) x11 x12 x13))) else (if (Go.bits .or .u8 (bt x6 x7) 32) > 122 then (if (bt x6 x7) < 48 then (if (bt x6 x7) = 45 then (spec_verIdents.l1 k x4 x6 (wrap64 (x7 + 1)) x11 x12 x13) else (some (([] : List ByteArray), false))) else (if (bt x6 x7) > 57 then (if (bt x6 x7) = 45 then (spec_verIdents.l1 k x4 x6 (wrap64 (x7 + 1)) x11 x12 x13) else (some (([] : List ByteArray), false))) else (spec_verIdents.l1 k x4 x6 (wrap64 (x7 + 1)) x11 x12 x13))) else (spec_verIdents.l1 k x4 x6 (wrap64 (x7 + 1)) x11 x12 x13))) else (none)) else (if x6.toList = ([] : List UInt8) then (some (([] : List ByteArray), false)) else (spec_verIdents.l0 k x4 x11 x12 (wrap64 (x13 + 1))))
end
def spec_verIdents.f (k : Nat) (a0 : ByteArray) : Option (List ByteArray × Bool) := (spec_verSplit.f k a0 46).bind fun t165 => (spec_verIdents.l0 k t165 t165 (t165.length : Int) 0)
theorem spec_verIdents.mono_l : ∀ k, (∀ y0 y1 y2 y3, LeO (spec_verIdents.l0 k y0 y1 y2 y3) (spec_verIdents.l0 (k + 1) y0 y1 y2 y3)) ∧ (∀ y0 y1 y2 y3 y4 y5, LeO (spec_verIdents.l1 k y0 y1 y2 y3 y4 y5) (spec_verIdents.l1 (k + 1) y0 y1 y2 y3 y4 y5))
 | 0 => ⟨fun _ _ _ _ r h => by simp [spec_verIdents.l0] at h, fun _ _ _ _ _ _ r h => by simp [spec_verIdents.l1] at h⟩
 | k + 1 => by
  obtain ⟨ih0, ih1⟩ := spec_verIdents.mono_l k
  refine ⟨?_, ?_⟩
  ·intro y0 y1 y2 y3
   unfold spec_verIdents.l0
   repeat' first
   | (with_reducible exact ih0 _ _ _ _)
   | (with_reducible exact ih1 _ _ _ _ _ _)
   | (with_reducible exact spec_verSplit.mono _ _ _)
   | (with_reducible exact LeO.refl _)
   | (with_reducible exact LeO.none _)
   | (with_reducible refine LeO.ite ?_ ?_)
   | (with_reducible refine LeO.bind ?_ (fun _ => ?_))
   | exact ih0 _ _ _ _
   | exact ih1 _ _ _ _ _ _
   | exact spec_verSplit.mono _ _ _
   | exact LeO.none _
   | refine LeO.ite ?_ ?_
   | refine LeO.bind ?_ (fun _ => ?_)
  ·intro y0 y1 y2 y3 y4 y5
   unfold spec_verIdents.l1
   repeat' first
   | (with_reducible exact ih0 _ _ _ _)
   | (with_reducible exact ih1 _ _ _ _ _ _)
   | (with_reducible exact spec_verSplit.mono _ _ _)
   | (with_reducible exact LeO.refl _)
   | (with_reducible exact LeO.none _)
   | (with_reducible refine LeO.ite ?_ ?_)
   | (with_reducible refine LeO.bind ?_ (fun _ => ?_))
   | exact ih0 _ _ _ _
   | exact ih1 _ _ _ _ _ _
   | exact spec_verSplit.mono _ _ _
   | exact LeO.none _
   | refine LeO.ite ?_ ?_
   | refine LeO.bind ?_ (fun _ => ?_)
theorem spec_verIdents.mono : ∀ a0 k, LeO (spec_verIdents.f k a0) (spec_verIdents.f (k + 1) a0) := by
 intro a0 k
 obtain ⟨ih0, ih1⟩ := spec_verIdents.mono_l k
 unfold spec_verIdents.f
 repeat' first
   | (with_reducible exact ih0 _ _ _ _)
   | (with_reducible exact ih1 _ _ _ _ _ _)
   | (with_reducible exact spec_verSplit.mono _ _ _)
   | (with_reducible exact LeO.refl _)
   | (with_reducible exact LeO.none _)
   | (with_reducible refine LeO.ite ?_ ?_)
   | (with_reducible refine LeO.bind ?_ (fun _ => ?_))
   | exact ih0 _ _ _ _
   | exact ih1 _ _ _ _ _ _
   | exact spec_verSplit.mono _ _ _
   | exact LeO.none _
   | refine LeO.ite ?_ ?_
   | refine LeO.bind ?_ (fun _ => ?_)
set_option maxHeartbeats 8000000 in
set_option maxRecDepth 100000 in
theorem spec_verIdents.calls (k : Nat) (a0 : ByteArray) (r1 : List ByteArray) (r2 : Bool) (w : World) (h : spec_verIdents.f k a0 = some (r1, r2)) :
  Calls Tryz.prog 72 #[.string a0] w fun e w' => ∃ v0_ : Value, e = .returned (.tuple #[v0_, .bool r2]) ∧ Kd.R Kd.string 9 w' w.heap.size (fun _ => True) v0_ r1 ∧ Below w.heap.size w w' := by
 have HB := Aside0.mk (Below.refl w.heap.size w)
 have H : ((spec_verSplit.f k a0 46).bind fun t165 => (spec_verIdents.l0 k t165 t165 (t165.length : Int) 0)) = some (r1, r2) := h
 clear h
 replace H := Option.bind_eq_some_iff.mp H
 obtain ⟨t165, A20, H⟩ := H
 replace H : (spec_verIdents.l0 k t165 t165 (t165.length : Int) 0) = some (r1, r2) := H
 have A2 := Aside0.mk A20
 clear A20
 have H' := Aside0.mk H
 clear H
 go_enter Tryz.func72, Tryz.ntmps72
 go_wp2_with (first | ((with_reducible refine gate_callee (f := 73) rfl ?_); refine goesL_ (some 10) rfl rfl Tryz.func73 (by kernel_rfl) rfl #[.string a0, .int .u8 46] rfl (by (try simp only [List.map_toArray, List.map_cons, List.map_nil]); first | done | rfl | (simp only [List.length_drop, List.length_take]; rfl)) ?_; (with_reducible refine (spec_verSplit.calls k a0 46 t165 _ A2.out).mono ?_); rintro e w3 ⟨v166, rfl, ho0, hb⟩; refine ⟨_, rfl, ?_⟩; have n0_ := Aside0.mk (Kd.R_lower ho0 (below_size (by repeat (first | (with_reducible first | exact HB.out | apply below_alloc | apply pw_below_drewN | apply below_drew1) | exact HB.out)))); have n1_ := Aside0.mk (below_step (by repeat (first | (with_reducible first | exact HB.out | apply below_alloc | apply pw_below_drewN | apply below_drew1) | exact HB.out)) hb); clear HB; have HO167 := n0_; have HB := n1_; clear n0_ n1_; (try clear hb); (try clear hb2); (try clear hk); (try clear hi); (try clear ho0); obtain ⟨Ao4, co4, eo4⟩ := Kd.R_slice HO167.out; subst eo4))
 go_loopg [13] k (fun kq v13 w' => ∃ (x13_1 : Int), v13 = .int .i64 x13_1 ∧ Aside0 (spec_verIdents.l0 kq t165 t165 (t165.length : Int) x13_1 = some (r1, r2)) ∧ Aside0 (kq ≤ k) ∧ Aside0 (Kd.R Kd.string 9 w' w.heap.size (fun _ => True) (.slice Ao4 t165.length co4) t165) ∧ Aside0 (Kd.R Kd.string 9 w' w.heap.size (fun _ => True) (.slice Ao4 t165.length co4) t165) ∧ Aside0 (Below w.heap.size w w'))
 case atStart => exact ⟨(0), (by first | rfl | (simp; done) | (simp [*]; done)), H', ⟨Nat.le_refl _⟩, ⟨by (with_reducible repeat (first | apply Kd.R_alloc | apply Kd.R_drewN | apply Kd.R_drew)); exact HO167.out⟩, ⟨by (with_reducible repeat (first | apply Kd.R_alloc | apply Kd.R_drewN | apply Kd.R_drew)); exact HO167.out⟩, ⟨by repeat (first | (with_reducible first | exact HB.out | apply below_alloc | apply pw_below_drewN | apply below_drew1) | exact HB.out)⟩⟩
 case round =>
  clear H'
  try clear p2
  obtain ⟨x13_1, rfl, HA, HK1, HO_4, HO_11, HB⟩ := hrel
  cases gk with
  | zero => exact absurd HA.out (by simp [spec_verIdents.l0])
  | succ k1 =>
   have H := HA.out
   clear HA
   simp only [spec_verIdents.l0] at H
   by_cases c5 : x13_1 < (t165.length : Int)
   ·rw [if_pos c5] at H
    have c5b0 : decide (x13_1 < (t165.length : Int)) = true := decide_eq_true c5
    clear c5
    by_cases c6 : 0 ≤ x13_1
    ·rw [if_pos c6] at H
     have c6b0 : decide (0 ≤ x13_1) = true := decide_eq_true c6
     clear c6
     by_cases c7 : x13_1 < (t165.length : Int)
     ·rw [if_pos c7] at H
      have c7b0 : decide (x13_1 < (t165.length : Int)) = true := decide_eq_true c7
      clear c7
      have H' := Aside0.mk H
      clear H
      have p168 : 0 ≤ (x13_1 : Int) := of_decide_eq_true (by first | (with_reducible assumption) | assumption)
      have q168 : x13_1 < (t165.length : Int) := of_decide_eq_true (by first | (with_reducible assumption) | assumption)
      obtain ⟨ad168, e168, hx168_0⟩ := Kd.at_string (Kd.R_reads' HO_11.out).2.2 x13_1 p168 q168
      cases e168
      replace p168 := eq_true p168
      replace q168 := eq_true q168
      go_wp2
      go_loopg [7] k1 (fun kq v7 w' => ∃ (x7_2 : Int), v7 = .int .i64 x7_2 ∧ Aside0 (spec_verIdents.l1 kq t165 (rdOf ByteArray.empty t165 x13_1) x7_2 t165 (t165.length : Int) x13_1 = some (r1, r2)) ∧ Aside0 (kq ≤ k1) ∧ Aside0 (Kd.R Kd.string 9 w' w.heap.size (fun _ => True) (.slice (some ad168) t165.length co4) t165) ∧ Aside0 (Kd.R Kd.string 9 w' w.heap.size (fun _ => True) (.slice (some ad168) t165.length co4) t165) ∧ Aside0 (Below w.heap.size w w'))
      case atStart => exact ⟨(0), (by first | rfl | (simp; done) | (simp [*]; done)), H', ⟨Nat.le_refl _⟩, ⟨by (with_reducible repeat (first | apply Kd.R_alloc | apply Kd.R_drewN | apply Kd.R_drew)); exact HO_4.out⟩, ⟨by (with_reducible repeat (first | apply Kd.R_alloc | apply Kd.R_drewN | apply Kd.R_drew)); exact HO_11.out⟩, ⟨by repeat (first | (with_reducible first | exact HB.out | apply below_alloc | apply pw_below_drewN | apply below_drew1) | exact HB.out)⟩⟩
      case round =>
       clear H'
       try clear p1
       try clear q1
       try clear hx1
       try clear p2
       try clear c5
       try clear c5b0
       try clear c6
       try clear c6b0
       try clear c7
       try clear c7b0
       try clear hx168_0
       try clear p168
       try clear p2
       try clear q168
       obtain ⟨x7_2, rfl, HA, HK2, HO_4, HO_11, HB⟩ := hrel
       cases gk with
       | zero => exact absurd HA.out (by simp [spec_verIdents.l1])
       | succ k2 =>
        have H := HA.out
        clear HA
        simp only [spec_verIdents.l1] at H
        by_cases c8 : x7_2 < ((rdOf ByteArray.empty t165 x13_1).size : Int)
        ·rw [if_pos c8] at H
         have c8b0 : decide (x7_2 < ((rdOf ByteArray.empty t165 x13_1).size : Int)) = true := decide_eq_true c8
         clear c8
         by_cases c9 : 0 ≤ x7_2
         ·rw [if_pos c9] at H
          have c9b0 : decide (0 ≤ x7_2) = true := decide_eq_true c9
          clear c9
          by_cases c11 : (Go.bits .or .u8 (bt (rdOf ByteArray.empty t165 x13_1) x7_2) 32) < 97
          ·rw [if_pos c11] at H
           have c11b0 : decide ((Go.bits .or .u8 (bt (rdOf ByteArray.empty t165 x13_1) x7_2) 32) < 97) = true := decide_eq_true c11
           clear c11
           by_cases c13 : (bt (rdOf ByteArray.empty t165 x13_1) x7_2) < 48
           ·rw [if_pos c13] at H
            have c13b0 : decide ((bt (rdOf ByteArray.empty t165 x13_1) x7_2) < 48) = true := decide_eq_true c13
            clear c13
            by_cases c15 : (bt (rdOf ByteArray.empty t165 x13_1) x7_2) = 45
            ·rw [if_pos c15] at H
             have c15b0 : ((bt (rdOf ByteArray.empty t165 x13_1) x7_2) == 45) = true := beq_iff_eq.mpr c15
             have c15b1 : ((bt (rdOf ByteArray.empty t165 x13_1) x7_2) != 45) = false := bne_eq_false_iff_eq.mpr c15
             clear c15
             have H' := Aside0.mk H
             clear H
             have p10 : 0 ≤ (x7_2 : Int) := of_decide_eq_true (by first | (with_reducible assumption) | assumption)
             have q10 : x7_2 < ((rdOf ByteArray.empty t165 x13_1).size : Int) := of_decide_eq_true (by first | (with_reducible assumption) | assumption)
             have hx10 := bt_at (rdOf ByteArray.empty t165 x13_1) x7_2
             replace p10 := eq_true p10
             replace q10 := eq_true q10
             have p12 : 0 ≤ (x7_2 : Int) := of_decide_eq_true (by first | (with_reducible assumption) | assumption)
             have q12 : x7_2 < ((rdOf ByteArray.empty t165 x13_1).size : Int) := of_decide_eq_true (by first | (with_reducible assumption) | assumption)
             have hx12 := bt_at (rdOf ByteArray.empty t165 x13_1) x7_2
             replace p12 := eq_true p12
             replace q12 := eq_true q12
             have p14 : 0 ≤ (x7_2 : Int) := of_decide_eq_true (by first | (with_reducible assumption) | assumption)
             have q14 : x7_2 < ((rdOf ByteArray.empty t165 x13_1).size : Int) := of_decide_eq_true (by first | (with_reducible assumption) | assumption)
             have hx14 := bt_at (rdOf ByteArray.empty t165 x13_1) x7_2
             replace p14 := eq_true p14
             replace q14 := eq_true q14
             go_wp2
             go_roundg k2
             case measure => have := HK1.out; have := HK2.out; omega
             case rel => exact ⟨(wrap64 (x7_2 + 1)), (by first | rfl | (simp; done) | (simp [*]; done)), H', ⟨by have := HK1.out; have := HK2.out; omega⟩, ⟨by (with_reducible repeat (first | apply Kd.R_alloc | apply Kd.R_drewN | apply Kd.R_drew)); exact HO_4.out⟩, ⟨by (with_reducible repeat (first | apply Kd.R_alloc | apply Kd.R_drewN | apply Kd.R_drew)); exact HO_11.out⟩, ⟨by repeat (first | (with_reducible first | exact HB.out | apply below_alloc | apply pw_below_drewN | apply below_drew1) | exact HB.out)⟩⟩
            ·rw [if_neg c15] at H
             have c15b0 : ((bt (rdOf ByteArray.empty t165 x13_1) x7_2) == 45) = false := beq_eq_false_iff_ne.mpr c15
             have c15b1 : ((bt (rdOf ByteArray.empty t165 x13_1) x7_2) != 45) = true := bne_iff_ne.mpr c15
             simp only [Option.some.injEq, Prod.mk.injEq] at H
             obtain ⟨rfl, rfl⟩ := H
             have p10 : 0 ≤ (x7_2 : Int) := of_decide_eq_true (by first | (with_reducible assumption) | assumption)
             have q10 : x7_2 < ((rdOf ByteArray.empty t165 x13_1).size : Int) := of_decide_eq_true (by first | (with_reducible assumption) | assumption)
             have hx10 := bt_at (rdOf ByteArray.empty t165 x13_1) x7_2
             replace p10 := eq_true p10
             replace q10 := eq_true q10
             have p12 : 0 ≤ (x7_2 : Int) := of_decide_eq_true (by first | (with_reducible assumption) | assumption)
             have q12 : x7_2 < ((rdOf ByteArray.empty t165 x13_1).size : Int) := of_decide_eq_true (by first | (with_reducible assumption) | assumption)
             have hx12 := bt_at (rdOf ByteArray.empty t165 x13_1) x7_2
             replace p12 := eq_true p12
             replace q12 := eq_true q12
             have p14 : 0 ≤ (x7_2 : Int) := of_decide_eq_true (by first | (with_reducible assumption) | assumption)
             have q14 : x7_2 < ((rdOf ByteArray.empty t165 x13_1).size : Int) := of_decide_eq_true (by first | (with_reducible assumption) | assumption)
             have hx14 := bt_at (rdOf ByteArray.empty t165 x13_1) x7_2
             replace p14 := eq_true p14
             replace q14 := eq_true q14
             go_wp2
             go_ret2
             exact ⟨_, by first | rfl | (simp [errW_none, errW_some] <;> rfl) | (simp [*, errW_none, errW_some] <;> rfl), by first | exact Kd.R_nil _ _ _ _ _ | exact Kd.N_nil _ _ _ _ _ | exact Kd.V_nil _ _ _ _ _ | exact Kd.Q_nil _ _ _ _ _ | exact Kd.S_nil _ _ _ _ _, by repeat (first | (with_reducible first | exact HB.out | apply below_alloc | apply pw_below_drewN | apply below_drew1) | exact HB.out)⟩
           ·rw [if_neg c13] at H
            have c13b0 : decide ((bt (rdOf ByteArray.empty t165 x13_1) x7_2) < 48) = false := decide_eq_false c13
            clear c13
            by_cases c17 : (bt (rdOf ByteArray.empty t165 x13_1) x7_2) > 57
            ·rw [if_pos c17] at H
             have c17b0 : decide (57 < (bt (rdOf ByteArray.empty t165 x13_1) x7_2)) = true := decide_eq_true c17
             clear c17
             by_cases c19 : (bt (rdOf ByteArray.empty t165 x13_1) x7_2) = 45
             ·rw [if_pos c19] at H
              have c19b0 : ((bt (rdOf ByteArray.empty t165 x13_1) x7_2) == 45) = true := beq_iff_eq.mpr c19
              have c19b1 : ((bt (rdOf ByteArray.empty t165 x13_1) x7_2) != 45) = false := bne_eq_false_iff_eq.mpr c19
              clear c19
              have H' := Aside0.mk H
              clear H
              have p10 : 0 ≤ (x7_2 : Int) := of_decide_eq_true (by first | (with_reducible assumption) | assumption)
              have q10 : x7_2 < ((rdOf ByteArray.empty t165 x13_1).size : Int) := of_decide_eq_true (by first | (with_reducible assumption) | assumption)
              have hx10 := bt_at (rdOf ByteArray.empty t165 x13_1) x7_2
              replace p10 := eq_true p10
              replace q10 := eq_true q10
              have p12 : 0 ≤ (x7_2 : Int) := of_decide_eq_true (by first | (with_reducible assumption) | assumption)
              have q12 : x7_2 < ((rdOf ByteArray.empty t165 x13_1).size : Int) := of_decide_eq_true (by first | (with_reducible assumption) | assumption)
              have hx12 := bt_at (rdOf ByteArray.empty t165 x13_1) x7_2
              replace p12 := eq_true p12
              replace q12 := eq_true q12
              have p16 : 0 ≤ (x7_2 : Int) := of_decide_eq_true (by first | (with_reducible assumption) | assumption)
              have q16 : x7_2 < ((rdOf ByteArray.empty t165 x13_1).size : Int) := of_decide_eq_true (by first | (with_reducible assumption) | assumption)
              have hx16 := bt_at (rdOf ByteArray.empty t165 x13_1) x7_2
              replace p16 := eq_true p16
              replace q16 := eq_true q16
              have p18 : 0 ≤ (x7_2 : Int) := of_decide_eq_true (by first | (with_reducible assumption) | assumption)
              have q18 : x7_2 < ((rdOf ByteArray.empty t165 x13_1).size : Int) := of_decide_eq_true (by first | (with_reducible assumption) | assumption)
              have hx18 := bt_at (rdOf ByteArray.empty t165 x13_1) x7_2
              replace p18 := eq_true p18
              replace q18 := eq_true q18
              go_wp2
              go_roundg k2
              case measure => have := HK1.out; have := HK2.out; omega
              case rel => exact ⟨(wrap64 (x7_2 + 1)), (by first | rfl | (simp; done) | (simp [*]; done)), H', ⟨by have := HK1.out; have := HK2.out; omega⟩, ⟨by (with_reducible repeat (first | apply Kd.R_alloc | apply Kd.R_drewN | apply Kd.R_drew)); exact HO_4.out⟩, ⟨by (with_reducible repeat (first | apply Kd.R_alloc | apply Kd.R_drewN | apply Kd.R_drew)); exact HO_11.out⟩, ⟨by repeat (first | (with_reducible first | exact HB.out | apply below_alloc | apply pw_below_drewN | apply below_drew1) | exact HB.out)⟩⟩
             ·rw [if_neg c19] at H
              have c19b0 : ((bt (rdOf ByteArray.empty t165 x13_1) x7_2) == 45) = false := beq_eq_false_iff_ne.mpr c19
              have c19b1 : ((bt (rdOf ByteArray.empty t165 x13_1) x7_2) != 45) = true := bne_iff_ne.mpr c19
              simp only [Option.some.injEq, Prod.mk.injEq] at H
              obtain ⟨rfl, rfl⟩ := H
              have p10 : 0 ≤ (x7_2 : Int) := of_decide_eq_true (by first | (with_reducible assumption) | assumption)
              have q10 : x7_2 < ((rdOf ByteArray.empty t165 x13_1).size : Int) := of_decide_eq_true (by first | (with_reducible assumption) | assumption)
              have hx10 := bt_at (rdOf ByteArray.empty t165 x13_1) x7_2
              replace p10 := eq_true p10
              replace q10 := eq_true q10
              have p12 : 0 ≤ (x7_2 : Int) := of_decide_eq_true (by first | (with_reducible assumption) | assumption)
              have q12 : x7_2 < ((rdOf ByteArray.empty t165 x13_1).size : Int) := of_decide_eq_true (by first | (with_reducible assumption) | assumption)
              have hx12 := bt_at (rdOf ByteArray.empty t165 x13_1) x7_2
              replace p12 := eq_true p12
              replace q12 := eq_true q12
              have p16 : 0 ≤ (x7_2 : Int) := of_decide_eq_true (by first | (with_reducible assumption) | assumption)
              have q16 : x7_2 < ((rdOf ByteArray.empty t165 x13_1).size : Int) := of_decide_eq_true (by first | (with_reducible assumption) | assumption)
              have hx16 := bt_at (rdOf ByteArray.empty t165 x13_1) x7_2
              replace p16 := eq_true p16
              replace q16 := eq_true q16
              have p18 : 0 ≤ (x7_2 : Int) := of_decide_eq_true (by first | (with_reducible assumption) | assumption)
              have q18 : x7_2 < ((rdOf ByteArray.empty t165 x13_1).size : Int) := of_decide_eq_true (by first | (with_reducible assumption) | assumption)
              have hx18 := bt_at (rdOf ByteArray.empty t165 x13_1) x7_2
              replace p18 := eq_true p18
              replace q18 := eq_true q18
              go_wp2
              go_ret2
              exact ⟨_, by first | rfl | (simp [errW_none, errW_some] <;> rfl) | (simp [*, errW_none, errW_some] <;> rfl), by first | exact Kd.R_nil _ _ _ _ _ | exact Kd.N_nil _ _ _ _ _ | exact Kd.V_nil _ _ _ _ _ | exact Kd.Q_nil _ _ _ _ _ | exact Kd.S_nil _ _ _ _ _, by repeat (first | (with_reducible first | exact HB.out | apply below_alloc | apply pw_below_drewN | apply below_drew1) | exact HB.out)⟩
            ·rw [if_neg c17] at H
             have c17b0 : decide (57 < (bt (rdOf ByteArray.empty t165 x13_1) x7_2)) = false := decide_eq_false c17
             clear c17
             have H' := Aside0.mk H
             clear H
             have p10 : 0 ≤ (x7_2 : Int) := of_decide_eq_true (by first | (with_reducible assumption) | assumption)
             have q10 : x7_2 < ((rdOf ByteArray.empty t165 x13_1).size : Int) := of_decide_eq_true (by first | (with_reducible assumption) | assumption)
             have hx10 := bt_at (rdOf ByteArray.empty t165 x13_1) x7_2
             replace p10 := eq_true p10
             replace q10 := eq_true q10
             have p12 : 0 ≤ (x7_2 : Int) := of_decide_eq_true (by first | (with_reducible assumption) | assumption)
             have q12 : x7_2 < ((rdOf ByteArray.empty t165 x13_1).size : Int) := of_decide_eq_true (by first | (with_reducible assumption) | assumption)
             have hx12 := bt_at (rdOf ByteArray.empty t165 x13_1) x7_2
             replace p12 := eq_true p12
             replace q12 := eq_true q12
             have p16 : 0 ≤ (x7_2 : Int) := of_decide_eq_true (by first | (with_reducible assumption) | assumption)
             have q16 : x7_2 < ((rdOf ByteArray.empty t165 x13_1).size : Int) := of_decide_eq_true (by first | (with_reducible assumption) | assumption)
             have hx16 := bt_at (rdOf ByteArray.empty t165 x13_1) x7_2
             replace p16 := eq_true p16
             replace q16 := eq_true q16
             go_wp2
             go_roundg k2
             case measure => have := HK1.out; have := HK2.out; omega
             case rel => exact ⟨(wrap64 (x7_2 + 1)), (by first | rfl | (simp; done) | (simp [*]; done)), H', ⟨by have := HK1.out; have := HK2.out; omega⟩, ⟨by (with_reducible repeat (first | apply Kd.R_alloc | apply Kd.R_drewN | apply Kd.R_drew)); exact HO_4.out⟩, ⟨by (with_reducible repeat (first | apply Kd.R_alloc | apply Kd.R_drewN | apply Kd.R_drew)); exact HO_11.out⟩, ⟨by repeat (first | (with_reducible first | exact HB.out | apply below_alloc | apply pw_below_drewN | apply below_drew1) | exact HB.out)⟩⟩
          ·rw [if_neg c11] at H
           have c11b0 : decide ((Go.bits .or .u8 (bt (rdOf ByteArray.empty t165 x13_1) x7_2) 32) < 97) = false := decide_eq_false c11
           clear c11
           by_cases c20 : (Go.bits .or .u8 (bt (rdOf ByteArray.empty t165 x13_1) x7_2) 32) > 122
           ·rw [if_pos c20] at H
            have c20b0 : decide (122 < (Go.bits .or .u8 (bt (rdOf ByteArray.empty t165 x13_1) x7_2) 32)) = true := decide_eq_true c20
            clear c20
            by_cases c22 : (bt (rdOf ByteArray.empty t165 x13_1) x7_2) < 48
            ·rw [if_pos c22] at H
             have c22b0 : decide ((bt (rdOf ByteArray.empty t165 x13_1) x7_2) < 48) = true := decide_eq_true c22
             clear c22
             by_cases c24 : (bt (rdOf ByteArray.empty t165 x13_1) x7_2) = 45
             ·rw [if_pos c24] at H
              have c24b0 : ((bt (rdOf ByteArray.empty t165 x13_1) x7_2) == 45) = true := beq_iff_eq.mpr c24
              have c24b1 : ((bt (rdOf ByteArray.empty t165 x13_1) x7_2) != 45) = false := bne_eq_false_iff_eq.mpr c24
              clear c24
              have H' := Aside0.mk H
              clear H
              have p10 : 0 ≤ (x7_2 : Int) := of_decide_eq_true (by first | (with_reducible assumption) | assumption)
              have q10 : x7_2 < ((rdOf ByteArray.empty t165 x13_1).size : Int) := of_decide_eq_true (by first | (with_reducible assumption) | assumption)
              have hx10 := bt_at (rdOf ByteArray.empty t165 x13_1) x7_2
              replace p10 := eq_true p10
              replace q10 := eq_true q10
              have p21 : 0 ≤ (x7_2 : Int) := of_decide_eq_true (by first | (with_reducible assumption) | assumption)
              have q21 : x7_2 < ((rdOf ByteArray.empty t165 x13_1).size : Int) := of_decide_eq_true (by first | (with_reducible assumption) | assumption)
              have hx21 := bt_at (rdOf ByteArray.empty t165 x13_1) x7_2
              replace p21 := eq_true p21
              replace q21 := eq_true q21
              have p23 : 0 ≤ (x7_2 : Int) := of_decide_eq_true (by first | (with_reducible assumption) | assumption)
              have q23 : x7_2 < ((rdOf ByteArray.empty t165 x13_1).size : Int) := of_decide_eq_true (by first | (with_reducible assumption) | assumption)
              have hx23 := bt_at (rdOf ByteArray.empty t165 x13_1) x7_2
              replace p23 := eq_true p23
              replace q23 := eq_true q23
              go_wp2
              go_roundg k2
              case measure => have := HK1.out; have := HK2.out; omega
              case rel => exact ⟨(wrap64 (x7_2 + 1)), (by first | rfl | (simp; done) | (simp [*]; done)), H', ⟨by have := HK1.out; have := HK2.out; omega⟩, ⟨by (with_reducible repeat (first | apply Kd.R_alloc | apply Kd.R_drewN | apply Kd.R_drew)); exact HO_4.out⟩, ⟨by (with_reducible repeat (first | apply Kd.R_alloc | apply Kd.R_drewN | apply Kd.R_drew)); exact HO_11.out⟩, ⟨by repeat (first | (with_reducible first | exact HB.out | apply below_alloc | apply pw_below_drewN | apply below_drew1) | exact HB.out)⟩⟩
             ·rw [if_neg c24] at H
              have c24b0 : ((bt (rdOf ByteArray.empty t165 x13_1) x7_2) == 45) = false := beq_eq_false_iff_ne.mpr c24
              have c24b1 : ((bt (rdOf ByteArray.empty t165 x13_1) x7_2) != 45) = true := bne_iff_ne.mpr c24
              simp only [Option.some.injEq, Prod.mk.injEq] at H
              obtain ⟨rfl, rfl⟩ := H
              have p10 : 0 ≤ (x7_2 : Int) := of_decide_eq_true (by first | (with_reducible assumption) | assumption)
              have q10 : x7_2 < ((rdOf ByteArray.empty t165 x13_1).size : Int) := of_decide_eq_true (by first | (with_reducible assumption) | assumption)
              have hx10 := bt_at (rdOf ByteArray.empty t165 x13_1) x7_2
              replace p10 := eq_true p10
              replace q10 := eq_true q10
              have p21 : 0 ≤ (x7_2 : Int) := of_decide_eq_true (by first | (with_reducible assumption) | assumption)
              have q21 : x7_2 < ((rdOf ByteArray.empty t165 x13_1).size : Int) := of_decide_eq_true (by first | (with_reducible assumption) | assumption)
              have hx21 := bt_at (rdOf ByteArray.empty t165 x13_1) x7_2
              replace p21 := eq_true p21
              replace q21 := eq_true q21
              have p23 : 0 ≤ (x7_2 : Int) := of_decide_eq_true (by first | (with_reducible assumption) | assumption)
              have q23 : x7_2 < ((rdOf ByteArray.empty t165 x13_1).size : Int) := of_decide_eq_true (by first | (with_reducible assumption) | assumption)
              have hx23 := bt_at (rdOf ByteArray.empty t165 x13_1) x7_2
              replace p23 := eq_true p23
              replace q23 := eq_true q23
              go_wp2
              go_ret2
              exact ⟨_, by first | rfl | (simp [errW_none, errW_some] <;> rfl) | (simp [*, errW_none, errW_some] <;> rfl), by first | exact Kd.R_nil _ _ _ _ _ | exact Kd.N_nil _ _ _ _ _ | exact Kd.V_nil _ _ _ _ _ | exact Kd.Q_nil _ _ _ _ _ | exact Kd.S_nil _ _ _ _ _, by repeat (first | (with_reducible first | exact HB.out | apply below_alloc | apply pw_below_drewN | apply below_drew1) | exact HB.out)⟩
            ·rw [if_neg c22] at H
             have c22b0 : decide ((bt (rdOf ByteArray.empty t165 x13_1) x7_2) < 48) = false := decide_eq_false c22
             clear c22
             by_cases c26 : (bt (rdOf ByteArray.empty t165 x13_1) x7_2) > 57
             ·rw [if_pos c26] at H
              have c26b0 : decide (57 < (bt (rdOf ByteArray.empty t165 x13_1) x7_2)) = true := decide_eq_true c26
              clear c26
              by_cases c28 : (bt (rdOf ByteArray.empty t165 x13_1) x7_2) = 45
              ·rw [if_pos c28] at H
               have c28b0 : ((bt (rdOf ByteArray.empty t165 x13_1) x7_2) == 45) = true := beq_iff_eq.mpr c28
               have c28b1 : ((bt (rdOf ByteArray.empty t165 x13_1) x7_2) != 45) = false := bne_eq_false_iff_eq.mpr c28
               clear c28
               have H' := Aside0.mk H
               clear H
               have p10 : 0 ≤ (x7_2 : Int) := of_decide_eq_true (by first | (with_reducible assumption) | assumption)
               have q10 : x7_2 < ((rdOf ByteArray.empty t165 x13_1).size : Int) := of_decide_eq_true (by first | (with_reducible assumption) | assumption)
               have hx10 := bt_at (rdOf ByteArray.empty t165 x13_1) x7_2
               replace p10 := eq_true p10
               replace q10 := eq_true q10
               have p21 : 0 ≤ (x7_2 : Int) := of_decide_eq_true (by first | (with_reducible assumption) | assumption)
               have q21 : x7_2 < ((rdOf ByteArray.empty t165 x13_1).size : Int) := of_decide_eq_true (by first | (with_reducible assumption) | assumption)
               have hx21 := bt_at (rdOf ByteArray.empty t165 x13_1) x7_2
               replace p21 := eq_true p21
               replace q21 := eq_true q21
               have p25 : 0 ≤ (x7_2 : Int) := of_decide_eq_true (by first | (with_reducible assumption) | assumption)
               have q25 : x7_2 < ((rdOf ByteArray.empty t165 x13_1).size : Int) := of_decide_eq_true (by first | (with_reducible assumption) | assumption)
               have hx25 := bt_at (rdOf ByteArray.empty t165 x13_1) x7_2
               replace p25 := eq_true p25
               replace q25 := eq_true q25
               have p27 : 0 ≤ (x7_2 : Int) := of_decide_eq_true (by first | (with_reducible assumption) | assumption)
               have q27 : x7_2 < ((rdOf ByteArray.empty t165 x13_1).size : Int) := of_decide_eq_true (by first | (with_reducible assumption) | assumption)
               have hx27 := bt_at (rdOf ByteArray.empty t165 x13_1) x7_2
               replace p27 := eq_true p27
               replace q27 := eq_true q27
               go_wp2
               go_roundg k2
               case measure => have := HK1.out; have := HK2.out; omega
               case rel => exact ⟨(wrap64 (x7_2 + 1)), (by first | rfl | (simp; done) | (simp [*]; done)), H', ⟨by have := HK1.out; have := HK2.out; omega⟩, ⟨by (with_reducible repeat (first | apply Kd.R_alloc | apply Kd.R_drewN | apply Kd.R_drew)); exact HO_4.out⟩, ⟨by (with_reducible repeat (first | apply Kd.R_alloc | apply Kd.R_drewN | apply Kd.R_drew)); exact HO_11.out⟩, ⟨by repeat (first | (with_reducible first | exact HB.out | apply below_alloc | apply pw_below_drewN | apply below_drew1) | exact HB.out)⟩⟩
              ·rw [if_neg c28] at H
               have c28b0 : ((bt (rdOf ByteArray.empty t165 x13_1) x7_2) == 45) = false := beq_eq_false_iff_ne.mpr c28
               have c28b1 : ((bt (rdOf ByteArray.empty t165 x13_1) x7_2) != 45) = true := bne_iff_ne.mpr c28
               simp only [Option.some.injEq, Prod.mk.injEq] at H
               obtain ⟨rfl, rfl⟩ := H
               have p10 : 0 ≤ (x7_2 : Int) := of_decide_eq_true (by first | (with_reducible assumption) | assumption)
               have q10 : x7_2 < ((rdOf ByteArray.empty t165 x13_1).size : Int) := of_decide_eq_true (by first | (with_reducible assumption) | assumption)
               have hx10 := bt_at (rdOf ByteArray.empty t165 x13_1) x7_2
               replace p10 := eq_true p10
               replace q10 := eq_true q10
               have p21 : 0 ≤ (x7_2 : Int) := of_decide_eq_true (by first | (with_reducible assumption) | assumption)
               have q21 : x7_2 < ((rdOf ByteArray.empty t165 x13_1).size : Int) := of_decide_eq_true (by first | (with_reducible assumption) | assumption)
               have hx21 := bt_at (rdOf ByteArray.empty t165 x13_1) x7_2
               replace p21 := eq_true p21
               replace q21 := eq_true q21
               have p25 : 0 ≤ (x7_2 : Int) := of_decide_eq_true (by first | (with_reducible assumption) | assumption)
               have q25 : x7_2 < ((rdOf ByteArray.empty t165 x13_1).size : Int) := of_decide_eq_true (by first | (with_reducible assumption) | assumption)
               have hx25 := bt_at (rdOf ByteArray.empty t165 x13_1) x7_2
               replace p25 := eq_true p25
               replace q25 := eq_true q25
               have p27 : 0 ≤ (x7_2 : Int) := of_decide_eq_true (by first | (with_reducible assumption) | assumption)
               have q27 : x7_2 < ((rdOf ByteArray.empty t165 x13_1).size : Int) := of_decide_eq_true (by first | (with_reducible assumption) | assumption)
               have hx27 := bt_at (rdOf ByteArray.empty t165 x13_1) x7_2
               replace p27 := eq_true p27
               replace q27 := eq_true q27
               go_wp2
               go_ret2
               exact ⟨_, by first | rfl | (simp [errW_none, errW_some] <;> rfl) | (simp [*, errW_none, errW_some] <;> rfl), by first | exact Kd.R_nil _ _ _ _ _ | exact Kd.N_nil _ _ _ _ _ | exact Kd.V_nil _ _ _ _ _ | exact Kd.Q_nil _ _ _ _ _ | exact Kd.S_nil _ _ _ _ _, by repeat (first | (with_reducible first | exact HB.out | apply below_alloc | apply pw_below_drewN | apply below_drew1) | exact HB.out)⟩
             ·rw [if_neg c26] at H
              have c26b0 : decide (57 < (bt (rdOf ByteArray.empty t165 x13_1) x7_2)) = false := decide_eq_false c26
              clear c26
              have H' := Aside0.mk H
              clear H
              have p10 : 0 ≤ (x7_2 : Int) := of_decide_eq_true (by first | (with_reducible assumption) | assumption)
              have q10 : x7_2 < ((rdOf ByteArray.empty t165 x13_1).size : Int) := of_decide_eq_true (by first | (with_reducible assumption) | assumption)
              have hx10 := bt_at (rdOf ByteArray.empty t165 x13_1) x7_2
              replace p10 := eq_true p10
              replace q10 := eq_true q10
              have p21 : 0 ≤ (x7_2 : Int) := of_decide_eq_true (by first | (with_reducible assumption) | assumption)
              have q21 : x7_2 < ((rdOf ByteArray.empty t165 x13_1).size : Int) := of_decide_eq_true (by first | (with_reducible assumption) | assumption)
              have hx21 := bt_at (rdOf ByteArray.empty t165 x13_1) x7_2
              replace p21 := eq_true p21
              replace q21 := eq_true q21
              have p25 : 0 ≤ (x7_2 : Int) := of_decide_eq_true (by first | (with_reducible assumption) | assumption)
              have q25 : x7_2 < ((rdOf ByteArray.empty t165 x13_1).size : Int) := of_decide_eq_true (by first | (with_reducible assumption) | assumption)
              have hx25 := bt_at (rdOf ByteArray.empty t165 x13_1) x7_2
              replace p25 := eq_true p25
              replace q25 := eq_true q25
              go_wp2
              go_roundg k2
              case measure => have := HK1.out; have := HK2.out; omega
              case rel => exact ⟨(wrap64 (x7_2 + 1)), (by first | rfl | (simp; done) | (simp [*]; done)), H', ⟨by have := HK1.out; have := HK2.out; omega⟩, ⟨by (with_reducible repeat (first | apply Kd.R_alloc | apply Kd.R_drewN | apply Kd.R_drew)); exact HO_4.out⟩, ⟨by (with_reducible repeat (first | apply Kd.R_alloc | apply Kd.R_drewN | apply Kd.R_drew)); exact HO_11.out⟩, ⟨by repeat (first | (with_reducible first | exact HB.out | apply below_alloc | apply pw_below_drewN | apply below_drew1) | exact HB.out)⟩⟩
           ·rw [if_neg c20] at H
            have c20b0 : decide (122 < (Go.bits .or .u8 (bt (rdOf ByteArray.empty t165 x13_1) x7_2) 32)) = false := decide_eq_false c20
            clear c20
            have H' := Aside0.mk H
            clear H
            have p10 : 0 ≤ (x7_2 : Int) := of_decide_eq_true (by first | (with_reducible assumption) | assumption)
            have q10 : x7_2 < ((rdOf ByteArray.empty t165 x13_1).size : Int) := of_decide_eq_true (by first | (with_reducible assumption) | assumption)
            have hx10 := bt_at (rdOf ByteArray.empty t165 x13_1) x7_2
            replace p10 := eq_true p10
            replace q10 := eq_true q10
            go_wp2
            go_roundg k2
            case measure => have := HK1.out; have := HK2.out; omega
            case rel => exact ⟨(wrap64 (x7_2 + 1)), (by first | rfl | (simp; done) | (simp [*]; done)), H', ⟨by have := HK1.out; have := HK2.out; omega⟩, ⟨by (with_reducible repeat (first | apply Kd.R_alloc | apply Kd.R_drewN | apply Kd.R_drew)); exact HO_4.out⟩, ⟨by (with_reducible repeat (first | apply Kd.R_alloc | apply Kd.R_drewN | apply Kd.R_drew)); exact HO_11.out⟩, ⟨by repeat (first | (with_reducible first | exact HB.out | apply below_alloc | apply pw_below_drewN | apply below_drew1) | exact HB.out)⟩⟩
         ·rw [if_neg c9] at H
          exact absurd H (by simp)
        ·rw [if_neg c8] at H
         have c8b0 : decide (x7_2 < ((rdOf ByteArray.empty t165 x13_1).size : Int)) = false := decide_eq_false c8
         clear c8
         by_cases c29 : (rdOf ByteArray.empty t165 x13_1).toList = ([] : List UInt8)
         ·rw [if_pos c29] at H
          have c29b0 : ((rdOf ByteArray.empty t165 x13_1).toList == ([] : List UInt8)) = true := beq_iff_eq.mpr c29
          have c29b1 : ((rdOf ByteArray.empty t165 x13_1).toList != ([] : List UInt8)) = false := bne_eq_false_iff_eq.mpr c29
          clear c29
          simp only [Option.some.injEq, Prod.mk.injEq] at H
          obtain ⟨rfl, rfl⟩ := H
          go_wp2
          go_ret2
          exact ⟨_, by first | rfl | (simp [errW_none, errW_some] <;> rfl) | (simp [*, errW_none, errW_some] <;> rfl), by first | exact Kd.R_nil _ _ _ _ _ | exact Kd.N_nil _ _ _ _ _ | exact Kd.V_nil _ _ _ _ _ | exact Kd.Q_nil _ _ _ _ _ | exact Kd.S_nil _ _ _ _ _, by repeat (first | (with_reducible first | exact HB.out | apply below_alloc | apply pw_below_drewN | apply below_drew1) | exact HB.out)⟩
         ·rw [if_neg c29] at H
          have c29b0 : ((rdOf ByteArray.empty t165 x13_1).toList == ([] : List UInt8)) = false := beq_eq_false_iff_ne.mpr c29
          have c29b1 : ((rdOf ByteArray.empty t165 x13_1).toList != ([] : List UInt8)) = true := bne_iff_ne.mpr c29
          have H' := Aside0.mk H
          clear H
          go_wp2
          go_roundg k2
          case measure => have := HK1.out; have := HK2.out; omega
          case rel => exact ⟨(wrap64 (x13_1 + 1)), (by first | rfl | (simp; done) | (simp [*]; done)), H', ⟨by have := HK1.out; have := HK2.out; omega⟩, ⟨by (with_reducible repeat (first | apply Kd.R_alloc | apply Kd.R_drewN | apply Kd.R_drew)); exact HO_4.out⟩, ⟨by (with_reducible repeat (first | apply Kd.R_alloc | apply Kd.R_drewN | apply Kd.R_drew)); exact HO_11.out⟩, ⟨by repeat (first | (with_reducible first | exact HB.out | apply below_alloc | apply pw_below_drewN | apply below_drew1) | exact HB.out)⟩⟩
     ·rw [if_neg c7] at H
      exact absurd H (by simp)
    ·rw [if_neg c6] at H
     exact absurd H (by simp)
   ·rw [if_neg c5] at H
    have c5b0 : decide (x13_1 < (t165.length : Int)) = false := decide_eq_false c5
    clear c5
    simp only [Option.some.injEq, Prod.mk.injEq] at H
    obtain ⟨rfl, rfl⟩ := H
    go_wp2
    go_ret2
    exact ⟨_, by first | rfl | (simp [errW_none, errW_some] <;> rfl) | (simp [*, errW_none, errW_some] <;> rfl), by (with_reducible repeat (first | apply Kd.R_alloc | apply Kd.R_drewN | apply Kd.R_drew)); exact HO_4.out, by repeat (first | (with_reducible first | exact HB.out | apply below_alloc | apply pw_below_drewN | apply below_drew1) | exact HB.out)⟩
def spec_verDigits.l0 : Nat → ByteArray → Int → Option (Bool)
 | 0, _, _ => none
 | k + 1, x0, x3 => if x3 < (x0.size : Int) then (if 0 ≤ x3 then (if (bt x0 x3) < 48 then (some false) else (if (bt x0 x3) > 57 then (some false) else (spec_verDigits.l0 k x0 (wrap64 (x3 + 1))))) else (none)) else (some (x0.toList != ([] : List UInt8)))
def spec_verDigits.f (k : Nat) (a0 : ByteArray) : Option (Bool) := spec_verDigits.l0 k a0 0
theorem spec_verDigits.mono_l : ∀ k, (∀ y0 y1, LeO (spec_verDigits.l0 k y0 y1) (spec_verDigits.l0 (k + 1) y0 y1))
 | 0 => fun _ _ r h => by simp [spec_verDigits.l0] at h
 | k + 1 => by
  have ih0 := spec_verDigits.mono_l k
  ·intro y0 y1
   unfold spec_verDigits.l0
   repeat' first
   | (with_reducible exact ih0 _ _)
   | (with_reducible exact LeO.refl _)
   | (with_reducible exact LeO.none _)
   | (with_reducible refine LeO.ite ?_ ?_)
   | (with_reducible refine LeO.bind ?_ (fun _ => ?_))
   | exact ih0 _ _
   | exact LeO.none _
   | refine LeO.ite ?_ ?_
   | refine LeO.bind ?_ (fun _ => ?_)
theorem spec_verDigits.mono : ∀ a0 k, LeO (spec_verDigits.f k a0) (spec_verDigits.f (k + 1) a0) := by
 intro a0 k
 have ih0 := spec_verDigits.mono_l k
 unfold spec_verDigits.f
 repeat' first
   | (with_reducible exact ih0 _ _)
   | (with_reducible exact LeO.refl _)
   | (with_reducible exact LeO.none _)
   | (with_reducible refine LeO.ite ?_ ?_)
   | (with_reducible refine LeO.bind ?_ (fun _ => ?_))
   | exact ih0 _ _
   | exact LeO.none _
   | refine LeO.ite ?_ ?_
   | refine LeO.bind ?_ (fun _ => ?_)
set_option maxHeartbeats 8000000 in
set_option maxRecDepth 100000 in
theorem spec_verDigits.calls (k : Nat) (a0 : ByteArray) (r : Bool) (w : World) (h : spec_verDigits.f k a0 = some r) :
  Calls Tryz.prog 100 #[.string a0] w fun e w' => e = .returned (.bool r) ∧ Drawn0 w w' := by
 have H : (spec_verDigits.l0 k a0 0) = some r := h
 clear h
 have H' := Aside0.mk H
 clear H
 go_enter Tryz.func100, Tryz.ntmps100
 go_wp2
 go_loopg [3] k (fun kq v3 w' => ∃ (x3_1 : Int), v3 = .int .i64 x3_1 ∧ Aside0 (spec_verDigits.l0 kq a0 x3_1 = some r) ∧ Aside0 (kq ≤ k) ∧ Drawn0 w w')
 case atStart => exact ⟨(0), (by first | rfl | (simp; done) | (simp [*]; done)), H', ⟨Nat.le_refl _⟩, by repeat (first | exact Drawn0.refl _ | apply Drawn0.step)⟩
 case round =>
  clear H'
  try clear c1
  obtain ⟨x3_1, rfl, HA, HK1, ⟨m1, rfl⟩⟩ := hrel
  cases gk with
  | zero => exact absurd HA.out (by simp [spec_verDigits.l0])
  | succ k1 =>
   have H := HA.out
   clear HA
   simp only [spec_verDigits.l0] at H
   by_cases c2 : x3_1 < (a0.size : Int)
   ·rw [if_pos c2] at H
    have c2b0 : decide (x3_1 < (a0.size : Int)) = true := decide_eq_true c2
    clear c2
    by_cases c3 : 0 ≤ x3_1
    ·rw [if_pos c3] at H
     have c3b0 : decide (0 ≤ x3_1) = true := decide_eq_true c3
     clear c3
     by_cases c5 : (bt a0 x3_1) < 48
     ·rw [if_pos c5] at H
      have c5b0 : decide ((bt a0 x3_1) < 48) = true := decide_eq_true c5
      clear c5
      obtain rfl := Option.some.inj H
      have p4 : 0 ≤ (x3_1 : Int) := of_decide_eq_true (by first | (with_reducible assumption) | assumption)
      have q4 : x3_1 < (a0.size : Int) := of_decide_eq_true (by first | (with_reducible assumption) | assumption)
      have hx4 := bt_at a0 x3_1
      replace p4 := eq_true p4
      replace q4 := eq_true q4
      go_wp2
      go_ret
      exact ⟨by first | rfl | (simp; done) | (simp [*]; done), by repeat (first | exact Drawn0.refl _ | apply Drawn0.step)⟩
     ·rw [if_neg c5] at H
      have c5b0 : decide ((bt a0 x3_1) < 48) = false := decide_eq_false c5
      clear c5
      by_cases c7 : (bt a0 x3_1) > 57
      ·rw [if_pos c7] at H
       have c7b0 : decide (57 < (bt a0 x3_1)) = true := decide_eq_true c7
       clear c7
       obtain rfl := Option.some.inj H
       have p4 : 0 ≤ (x3_1 : Int) := of_decide_eq_true (by first | (with_reducible assumption) | assumption)
       have q4 : x3_1 < (a0.size : Int) := of_decide_eq_true (by first | (with_reducible assumption) | assumption)
       have hx4 := bt_at a0 x3_1
       replace p4 := eq_true p4
       replace q4 := eq_true q4
       have p6 : 0 ≤ (x3_1 : Int) := of_decide_eq_true (by first | (with_reducible assumption) | assumption)
       have q6 : x3_1 < (a0.size : Int) := of_decide_eq_true (by first | (with_reducible assumption) | assumption)
       have hx6 := bt_at a0 x3_1
       replace p6 := eq_true p6
       replace q6 := eq_true q6
       go_wp2
       go_ret
       exact ⟨by first | rfl | (simp; done) | (simp [*]; done), by repeat (first | exact Drawn0.refl _ | apply Drawn0.step)⟩
      ·rw [if_neg c7] at H
       have c7b0 : decide (57 < (bt a0 x3_1)) = false := decide_eq_false c7
       clear c7
       have H' := Aside0.mk H
       clear H
       have p4 : 0 ≤ (x3_1 : Int) := of_decide_eq_true (by first | (with_reducible assumption) | assumption)
       have q4 : x3_1 < (a0.size : Int) := of_decide_eq_true (by first | (with_reducible assumption) | assumption)
       have hx4 := bt_at a0 x3_1
       replace p4 := eq_true p4
       replace q4 := eq_true q4
       have p6 : 0 ≤ (x3_1 : Int) := of_decide_eq_true (by first | (with_reducible assumption) | assumption)
       have q6 : x3_1 < (a0.size : Int) := of_decide_eq_true (by first | (with_reducible assumption) | assumption)
       have hx6 := bt_at a0 x3_1
       replace p6 := eq_true p6
       replace q6 := eq_true q6
       go_wp2
       go_roundg k1
       case measure => have := HK1.out; omega
       case rel => exact ⟨(wrap64 (x3_1 + 1)), (by first | rfl | (simp; done) | (simp [*]; done)), H', ⟨by have := HK1.out; omega⟩, by repeat (first | exact Drawn0.refl _ | apply Drawn0.step)⟩
    ·rw [if_neg c3] at H
     exact absurd H (by simp)
   ·rw [if_neg c2] at H
    have c2b0 : decide (x3_1 < (a0.size : Int)) = false := decide_eq_false c2
    clear c2
    obtain rfl := Option.some.inj H
    go_wp2
    go_ret
    exact ⟨by first | rfl | (generalize a0.toList = l; cases l <;> rfl) | (simp; done) | (simp [*]; done), by repeat (first | exact Drawn0.refl _ | apply Drawn0.step)⟩
end Go.Proofs.YtgoeiflddikihaaGreatDoor.PFnVersion
end
section
namespace Go.Proofs.YtgoeiflddikihaaGreatDoor.PFnVersion
open Go.RowKit Go.Proofs.YtgoeiflddikihaaGreatDoorW.PrintWords Go.Proofs.YtgoeiflddikihaaGreatDoorW.PrintLast Go.Proofs.YtgoeiflddikihaaGreatDoorW.PrintMore
attribute [local go_sem] max2_int min2_int max_two min_two max_three min_three max_four min_four   -- for this text's walks alone
set_option linter.unusedVariables false
set_option linter.unusedSimpArgs false
def spec_verNumber.l0 : Nat → ByteArray → Int → Int → Option (Int × Bool)
  | 0, _, _, _ => none
  | k + 1, x0, x4, x5 => if x5 < (x0.size : Int) then (if 0 ≤ x5 then (if x4 > ((18446744073709551615 - (((bt x0 x5) - 48) % 256)) / 10) then (some (0, false)) else (spec_verNumber.l0 k x0 (IntKind.u64.wrap ((IntKind.u64.wrap (10 * x4)) + (((bt x0 x5) - 48) % 256))) (wrap64 (x5 + 1)))) else (none)) else (some (x4, true))
def spec_verNumber.f (k : Nat) (a0 : ByteArray) : Option (Int × Bool) := (spec_verDigits.f k a0).bind fun t169 => (if t169 = true then (spec_verNumber.l0 k a0 0 0) else (some (0, false)))
theorem spec_verNumber.mono_l : ∀ k, (∀ y0 y1 y2, LeO (spec_verNumber.l0 k y0 y1 y2) (spec_verNumber.l0 (k + 1) y0 y1 y2))
  | 0 => fun _ _ _ r h => by simp [spec_verNumber.l0] at h
  | k + 1 => by
    have ih0 := spec_verNumber.mono_l k
    · intro y0 y1 y2
      unfold spec_verNumber.l0
      repeat' first
      | (with_reducible exact ih0 _ _ _)
      | (with_reducible exact spec_verDigits.mono _ _)
      | (with_reducible exact LeO.refl _)
      | (with_reducible exact LeO.none _)
      | (with_reducible refine LeO.ite ?_ ?_)
      | (with_reducible refine LeO.bind ?_ (fun _ => ?_))
      | exact ih0 _ _ _
      | exact spec_verDigits.mono _ _
      | exact LeO.none _
      | refine LeO.ite ?_ ?_
      | refine LeO.bind ?_ (fun _ => ?_)
theorem spec_verNumber.mono : ∀ a0 k, LeO (spec_verNumber.f k a0) (spec_verNumber.f (k + 1) a0) := by
  intro a0 k
  have ih0 := spec_verNumber.mono_l k
  unfold spec_verNumber.f
  repeat' first
      | (with_reducible exact ih0 _ _ _)
      | (with_reducible exact spec_verDigits.mono _ _)
      | (with_reducible exact LeO.refl _)
      | (with_reducible exact LeO.none _)
      | (with_reducible refine LeO.ite ?_ ?_)
      | (with_reducible refine LeO.bind ?_ (fun _ => ?_))
      | exact ih0 _ _ _
      | exact spec_verDigits.mono _ _
      | exact LeO.none _
      | refine LeO.ite ?_ ?_
      | refine LeO.bind ?_ (fun _ => ?_)
set_option maxHeartbeats 8000000 in
set_option maxRecDepth 100000 in
theorem spec_verNumber.calls (k : Nat) (a0 : ByteArray) (r1 : Int) (r2 : Bool) (w : World) (h : spec_verNumber.f k a0 = some (r1, r2)) :
    Calls Tryz.prog 74 #[.string a0] w fun e w' => e = .returned (.tuple #[.int .u64 r1, .bool r2]) ∧ Drawn0 w w' := by
  have H : ((spec_verDigits.f k a0).bind fun t169 => (if t169 = true then (spec_verNumber.l0 k a0 0 0) else (some (0, false)))) = some (r1, r2) := h
  clear h
  replace H := Option.bind_eq_some_iff.mp H
  obtain ⟨t169, A20, H⟩ := H
  replace H : (if t169 = true then (spec_verNumber.l0 k a0 0 0) else (some (0, false))) = some (r1, r2) := H
  have A2 := Aside0.mk A20
  clear A20
  by_cases c3 : t169 = true
  · subst c3
    have H1 : (spec_verNumber.l0 k a0 0 0) = some (r1, r2) := by rw [if_pos rfl] at H; exact H
    clear H
    have H := H1
    clear H1
    have H' := Aside0.mk H
    clear H
    go_enter Tryz.func74, Tryz.ntmps74
    go_wp2_with (first | ((with_reducible refine gate_callee (f := 100) rfl ?_); refine goesL_ (some 8) rfl rfl Tryz.func100 (by kernel_rfl) rfl #[.string a0] rfl (by (try simp only [List.map_toArray, List.map_cons, List.map_nil]); first | done | rfl | (simp only [List.length_drop, List.length_take]; rfl)) ?_; (with_reducible refine (spec_verDigits.calls k a0 true _ A2.out).mono ?_); rintro e w' ⟨rfl, ⟨nd, rfl⟩⟩; refine ⟨_, rfl, ?_⟩))
    go_loopg [4, 5] k (fun kq v4 v5 w' => ∃ (x4_1 : Int) (x5_1 : Int), v4 = .int .u64 x4_1 ∧ v5 = .int .i64 x5_1 ∧ Aside0 (spec_verNumber.l0 kq a0 x4_1 x5_1 = some (r1, r2)) ∧ Aside0 (kq ≤ k) ∧ Drawn0 w w')
    case atStart => exact ⟨(0), (0), (by first | rfl | (simp; done) | (simp [*]; done)), (by first | rfl | (simp; done) | (simp [*]; done)), H', ⟨Nat.le_refl _⟩, by repeat (first | exact Drawn0.refl _ | apply Drawn0.step)⟩
    case round =>
      clear H'
      try clear c1
      try clear p2
      try clear c3
      obtain ⟨x4_1, x5_1, rfl, rfl, HA, HK1, ⟨m1, rfl⟩⟩ := hrel
      cases gk with
      | zero => exact absurd HA.out (by simp [spec_verNumber.l0])
      | succ k1 =>
        have H := HA.out
        clear HA
        simp only [spec_verNumber.l0] at H
        by_cases c4 : x5_1 < (a0.size : Int)
        · rw [if_pos c4] at H
          have c4b0 : decide (x5_1 < (a0.size : Int)) = true := decide_eq_true c4
          clear c4
          by_cases c5 : 0 ≤ x5_1
          · rw [if_pos c5] at H
            have c5b0 : decide (0 ≤ x5_1) = true := decide_eq_true c5
            clear c5
            by_cases c7 : x4_1 > ((18446744073709551615 - (((bt a0 x5_1) - 48) % 256)) / 10)
            · rw [if_pos c7] at H
              have c7b0 : decide (((18446744073709551615 - (((bt a0 x5_1) - 48) % 256)) / 10) < x4_1) = true := decide_eq_true c7
              clear c7
              simp only [Option.some.injEq, Prod.mk.injEq] at H
              obtain ⟨rfl, rfl⟩ := H
              have p6 : 0 ≤ (x5_1 : Int) := of_decide_eq_true (by first | (with_reducible assumption) | assumption)
              have q6 : x5_1 < (a0.size : Int) := of_decide_eq_true (by first | (with_reducible assumption) | assumption)
              have hx6 := bt_at a0 x5_1
              replace p6 := eq_true p6
              replace q6 := eq_true q6
              go_wp2
              go_ret2
              exact ⟨by first | rfl | (simp; done) | (simp [*]; done), by repeat (first | exact Drawn0.refl _ | apply Drawn0.step)⟩
            · rw [if_neg c7] at H
              have c7b0 : decide (((18446744073709551615 - (((bt a0 x5_1) - 48) % 256)) / 10) < x4_1) = false := decide_eq_false c7
              clear c7
              have H' := Aside0.mk H
              clear H
              have p6 : 0 ≤ (x5_1 : Int) := of_decide_eq_true (by first | (with_reducible assumption) | assumption)
              have q6 : x5_1 < (a0.size : Int) := of_decide_eq_true (by first | (with_reducible assumption) | assumption)
              have hx6 := bt_at a0 x5_1
              replace p6 := eq_true p6
              replace q6 := eq_true q6
              go_wp2
              go_roundg k1
              case measure => have := HK1.out; omega
              case rel => exact ⟨(IntKind.u64.wrap ((IntKind.u64.wrap (10 * x4_1)) + (((bt a0 x5_1) - 48) % 256))), (wrap64 (x5_1 + 1)), (by first | rfl | (simp; done) | (simp [*]; done)), (by first | rfl | (simp; done) | (simp [*]; done)), H', ⟨by have := HK1.out; omega⟩, by repeat (first | exact Drawn0.refl _ | apply Drawn0.step)⟩
          · rw [if_neg c5] at H
            exact absurd H (by simp)
        · rw [if_neg c4] at H
          have c4b0 : decide (x5_1 < (a0.size : Int)) = false := decide_eq_false c4
          clear c4
          simp only [Option.some.injEq, Prod.mk.injEq] at H
          obtain ⟨rfl, rfl⟩ := H
          go_wp2
          go_ret2
          exact ⟨by first | rfl | (simp; done) | (simp [*]; done), by repeat (first | exact Drawn0.refl _ | apply Drawn0.step)⟩
  · replace c3 := Bool.eq_false_iff.mpr c3
    subst c3
    have H1 : (some (0, false)) = some (r1, r2) := by rw [if_neg (show ¬ (false = true) by decide)] at H; exact H
    clear H
    have H := H1
    clear H1
    simp only [Option.some.injEq, Prod.mk.injEq] at H
    obtain ⟨rfl, rfl⟩ := H
    go_enter Tryz.func74, Tryz.ntmps74
    go_wp2_with (first | ((with_reducible refine gate_callee (f := 100) rfl ?_); refine goesL_ (some 8) rfl rfl Tryz.func100 (by kernel_rfl) rfl #[.string a0] rfl (by (try simp only [List.map_toArray, List.map_cons, List.map_nil]); first | done | rfl | (simp only [List.length_drop, List.length_take]; rfl)) ?_; (with_reducible refine (spec_verDigits.calls k a0 false _ A2.out).mono ?_); rintro e w' ⟨rfl, ⟨nd, rfl⟩⟩; refine ⟨_, rfl, ?_⟩))
    go_ret2
    exact ⟨by first | rfl | (simp; done) | (simp [*]; done), by repeat (first | exact Drawn0.refl _ | apply Drawn0.step)⟩
end Go.Proofs.YtgoeiflddikihaaGreatDoor.PFnVersion
end
section
namespace Go.Proofs.YtgoeiflddikihaaGreatDoor.PFnVersion
open Go.RowKit Go.Proofs.YtgoeiflddikihaaGreatDoorW.PrintWords Go.Proofs.YtgoeiflddikihaaGreatDoorW.PrintLast Go.Proofs.YtgoeiflddikihaaGreatDoorW.PrintMore
attribute [local go_sem] max2_int min2_int max_two min_two max_three min_three max_four min_four   -- for this text's walks alone
set_option linter.unusedVariables false
set_option linter.unusedSimpArgs false
def spec_verSign.f (a0 : Bool) : Option (Int) := if a0 = true then (some (-1)) else (some 1)
set_option maxHeartbeats 8000000 in
set_option maxRecDepth 100000 in
theorem spec_verSign.calls (a0 : Bool) (r : Int) (w : World) (h : spec_verSign.f a0 = some r) :
    Calls Tryz.prog 105 #[.bool a0] w fun e w' => e = .returned (.int .i64 r) ∧ Drawn0 w w' := by
  have H : (if a0 = true then (some (-1)) else (some 1)) = some r := h
  clear h
  by_cases c2 : a0 = true
  · subst c2
    have H1 : (some (-1)) = some r := by rw [if_pos rfl] at H; exact H
    clear H
    have H := H1
    clear H1
    obtain rfl := Option.some.inj H
    go_enter Tryz.func105, Tryz.ntmps105
    go_wp2
    go_ret
    exact ⟨by first | rfl | (simp; done) | (simp [*]; done), by repeat (first | exact Drawn0.refl _ | apply Drawn0.step)⟩
  · replace c2 := Bool.eq_false_iff.mpr c2
    subst c2
    have H1 : (some 1) = some r := by rw [if_neg (show ¬ (false = true) by decide)] at H; exact H
    clear H
    have H := H1
    clear H1
    obtain rfl := Option.some.inj H
    go_enter Tryz.func105, Tryz.ntmps105
    go_wp2
    go_ret
    exact ⟨by first | rfl | (simp; done) | (simp [*]; done), by repeat (first | exact Drawn0.refl _ | apply Drawn0.step)⟩
def spec_verAmount.l0 : Nat → ByteArray → Option (ByteArray)
  | 0, _ => none
  | k + 1, x0 => if (x0.size : Int) > 1 then (if 0 < (x0.size : Int) then (if (bt x0 0) = 48 then (if 1 ≤ (x0.size : Int) then (spec_verAmount.l0 k (x0.extract 1 x0.size)) else (none)) else (some x0)) else (none)) else (some x0)
def spec_verAmount.f (k : Nat) (a0 : ByteArray) : Option (ByteArray) := spec_verAmount.l0 k a0
theorem spec_verAmount.mono_l : ∀ k, (∀ y0, LeO (spec_verAmount.l0 k y0) (spec_verAmount.l0 (k + 1) y0))
  | 0 => fun _ r h => by simp [spec_verAmount.l0] at h
  | k + 1 => by
    have ih0 := spec_verAmount.mono_l k
    · intro y0
      unfold spec_verAmount.l0
      repeat' first
      | (with_reducible exact ih0 _)
      | (with_reducible exact LeO.refl _)
      | (with_reducible exact LeO.none _)
      | (with_reducible refine LeO.ite ?_ ?_)
      | (with_reducible refine LeO.bind ?_ (fun _ => ?_))
      | exact ih0 _
      | exact LeO.none _
      | refine LeO.ite ?_ ?_
      | refine LeO.bind ?_ (fun _ => ?_)
theorem spec_verAmount.mono : ∀ a0 k, LeO (spec_verAmount.f k a0) (spec_verAmount.f (k + 1) a0) := by
  intro a0 k
  have ih0 := spec_verAmount.mono_l k
  unfold spec_verAmount.f
  repeat' first
      | (with_reducible exact ih0 _)
      | (with_reducible exact LeO.refl _)
      | (with_reducible exact LeO.none _)
      | (with_reducible refine LeO.ite ?_ ?_)
      | (with_reducible refine LeO.bind ?_ (fun _ => ?_))
      | exact ih0 _
      | exact LeO.none _
      | refine LeO.ite ?_ ?_
      | refine LeO.bind ?_ (fun _ => ?_)
set_option maxHeartbeats 8000000 in
set_option maxRecDepth 100000 in
theorem spec_verAmount.calls (k : Nat) (a0 : ByteArray) (r : ByteArray) (w : World) (h : spec_verAmount.f k a0 = some r) :
    Calls Tryz.prog 125 #[.string a0] w fun e w' => e = .returned (.string r) ∧ Drawn0 w w' := by
  have H : (spec_verAmount.l0 k a0) = some r := h
  clear h
  have H' := Aside0.mk H
  clear H
  go_enter Tryz.func125, Tryz.ntmps125
  go_wp2
  go_loopg [0] k (fun kq v0 w' => ∃ (x0_1 : ByteArray), v0 = .string x0_1 ∧ Aside0 (spec_verAmount.l0 kq x0_1 = some r) ∧ Aside0 (kq ≤ k) ∧ Drawn0 w w')
  case atStart => exact ⟨(a0), (by first | rfl | (simp; done) | (simp [*]; done)), H', ⟨Nat.le_refl _⟩, by repeat (first | exact Drawn0.refl _ | apply Drawn0.step)⟩
  case round =>
    clear H'
    try clear c1
    obtain ⟨x0_1, rfl, HA, HK1, ⟨m1, rfl⟩⟩ := hrel
    cases gk with
    | zero => exact absurd HA.out (by simp [spec_verAmount.l0])
    | succ k1 =>
      have H := HA.out
      clear HA
      simp only [spec_verAmount.l0] at H
      by_cases c2 : (x0_1.size : Int) > 1
      · rw [if_pos c2] at H
        have c2b0 : decide (1 < (x0_1.size : Int)) = true := decide_eq_true c2
        have c2b1 : decide (1 < x0_1.size) = true := decide_eq_true (by omega)
        clear c2
        by_cases c3 : 0 < (x0_1.size : Int)
        · rw [if_pos c3] at H
          have c3b0 : decide (0 < (x0_1.size : Int)) = true := decide_eq_true c3
          have c3b1 : decide (0 < x0_1.size) = true := decide_eq_true (by omega)
          clear c3
          by_cases c5 : (bt x0_1 0) = 48
          · rw [if_pos c5] at H
            have c5b0 : ((bt x0_1 0) == 48) = true := beq_iff_eq.mpr c5
            have c5b1 : ((bt x0_1 0) != 48) = false := bne_eq_false_iff_eq.mpr c5
            clear c5
            by_cases c6 : 1 ≤ (x0_1.size : Int)
            · rw [if_pos c6] at H
              have c6b0 := eq_true c6
              have c6b1 : decide (1 ≤ (x0_1.size : Int)) = true := decide_eq_true c6
              clear c6
              have H' := Aside0.mk H
              clear H
              have p4 : 0 ≤ (0 : Int) := (by omega)
              have q4 : 0 < x0_1.size := (by have : (0 : Int) < (x0_1.size : Int) := of_decide_eq_true (by first | (with_reducible assumption) | assumption); omega)
              have hx4 : ∀ h : 0 < x0_1.size, ((x0_1[0]'h).toNat : Int) = bt x0_1 0 := bt_at x0_1 0
              clear p4
              have qi4 : (0 < (x0_1.size : Int)) = True := eq_true (of_decide_eq_true (by first | (with_reducible assumption) | assumption))
              replace q4 := eq_true q4
              go_wp2
              go_roundg k1
              case measure => have := HK1.out; omega
              case rel => exact ⟨(x0_1.extract 1 x0_1.size), (by first | rfl | (simp; done) | (simp [*]; done)), H', ⟨by have := HK1.out; omega⟩, by repeat (first | exact Drawn0.refl _ | apply Drawn0.step)⟩
            · rw [if_neg c6] at H
              exact absurd H (by simp)
          · rw [if_neg c5] at H
            have c5b0 : ((bt x0_1 0) == 48) = false := beq_eq_false_iff_ne.mpr c5
            have c5b1 : ((bt x0_1 0) != 48) = true := bne_iff_ne.mpr c5
            obtain rfl := Option.some.inj H
            have p4 : 0 ≤ (0 : Int) := (by omega)
            have q4 : 0 < x0_1.size := (by have : (0 : Int) < (x0_1.size : Int) := of_decide_eq_true (by first | (with_reducible assumption) | assumption); omega)
            have hx4 : ∀ h : 0 < x0_1.size, ((x0_1[0]'h).toNat : Int) = bt x0_1 0 := bt_at x0_1 0
            clear p4
            have qi4 : (0 < (x0_1.size : Int)) = True := eq_true (of_decide_eq_true (by first | (with_reducible assumption) | assumption))
            replace q4 := eq_true q4
            go_wp2
            go_ret
            exact ⟨by first | rfl | (simp; done) | (simp [*]; done), by repeat (first | exact Drawn0.refl _ | apply Drawn0.step)⟩
        · rw [if_neg c3] at H
          exact absurd H (by simp)
      · rw [if_neg c2] at H
        have c2b0 : decide (1 < (x0_1.size : Int)) = false := decide_eq_false c2
        have c2b1 : decide (1 < x0_1.size) = false := decide_eq_false (by omega)
        clear c2
        obtain rfl := Option.some.inj H
        go_wp2
        go_ret
        exact ⟨by first | rfl | (simp; done) | (simp [*]; done), by repeat (first | exact Drawn0.refl _ | apply Drawn0.step)⟩
end Go.Proofs.YtgoeiflddikihaaGreatDoor.PFnVersion
end
