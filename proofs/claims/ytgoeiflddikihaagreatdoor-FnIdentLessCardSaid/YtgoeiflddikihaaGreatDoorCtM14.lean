/- Merged by program out of: Both, Mem2, VPc. -/
import Derived.Test.YtgoeiflddikihaaGreatDoorCtM11
import Derived.Test.YtgoeiflddikihaaGreatDoorCtM13
import Derived.Test.YtgoeiflddikihaaGreatDoorCtM0
import Derived.Test.YtgoeiflddikihaaGreatDoorCtM4
section
namespace Go.Proofs.YtgoeiflddikihaaGreatDoor.Ver
set_option linter.unusedSimpArgs false
open Go.RowKit Go.Proofs.YtgoeiflddikihaaGreatDoorW.PrintWords Go.Proofs.YtgoeiflddikihaaGreatDoor.Ord

theorem at_third (w : World) (a b c : Obj) : (((w.alloc a).alloc b).alloc c).heap[w.heap.size + 1 + 1]? = some c := by
  have := alloc_at ((w.alloc a).alloc b) c
  rw [alloc_size, alloc_size] at this
  exact this
set_option maxRecDepth 20000 in
set_option maxHeartbeats 16000000 in
theorem both_zero (lo hi : SV) (c d : Bool) (w : World) :
    Calls Tryz.prog 298 #[.agg zP, .agg (pcs lo hi true true c d)] w fun e w' => e = .returned (.agg (pcs lo hi true true c d)) ∧ Below w.heap.size w w' := by
  have HB := Aside0.mk (Below.refl w.heap.size w)
  obtain ⟨la, lb, lc, lp, lm, lo'⟩ := lo
  obtain ⟨ha, hb', hc, hp, hm, ho⟩ := hi
  dsimp only [SV.cells, pcs]
  have HNE := Lib.hid (show w.heap.size ≠ w.heap.size + 1 + 1 from by omega)
  have ha1 : ∀ W, Sem.run Tryz.prog (Builtin.append_ #[240, 240] 240 #[.slice none 0 0, .slice none 0 0]) W = .ok (.slice none 0 0) W := fun _ => by kernel_rfl
  go_enter Tryz.func298, Tryz.ntmps298
  go_wp2_with fail
  go_region
  go_wp2_with fail
  go_region
  go_upto_region 17 with (fail)
  go_cut [7] (fun v7 wx => v7 = .slice none 0 0 ∧ Aside0 (wx.heap[w.heap.size]? = some (bP la lb lc lp lm lo' ha hb' hc hp hm ho true true c d)) ∧ Aside0 (wx.heap[w.heap.size + 1 + 1]? = some (.cells zP 242 (0, 0))) ∧ Aside0 (Below w.heap.size w wx))
  case first =>
    go_region
    go_wp2_with fail
    go_meet
    case rel => exact ⟨rfl, ⟨by repeat (first | exact alloc_at w _ | apply blk_drew | apply blk_alloc)⟩, ⟨by repeat (first | exact at_third w _ _ _ | apply blk_drew)⟩, ⟨by repeat (first | exact HB.out | apply below_alloc | apply pw_below_drewN | apply below_drew)⟩⟩
  case rest =>
    obtain ⟨rfl, KP, KR, HB5⟩ := hcut
    have u1 := blk_cell KP.out 16
    have u2 := blk_frozen KP.out 16
    have KP2 := Aside0.mk (blk_put (cs' := #[.int .u64 la, .int .u64 lb, .int .u64 lc, .string lp, .string lm, .string lo', .int .u64 ha, .int .u64 hb', .int .u64 hc, .string hp, .string hm, .string ho, .bool true, .bool true, .bool c, .bool d, .slice none 0 0]) KP.out 16 (.slice none 0 0) rfl)
    have KR2 := Aside0.mk (blk_far KR.out (p := ⟨w.heap.size, 16, none⟩) HNE.out.symm (.slice none 0 0))
    have KF := Aside0.mk (setRow_heap _ _ _ #[.int .u64 la, .int .u64 lb, .int .u64 lc, .string lp, .string lm, .string lo', .int .u64 ha, .int .u64 hb', .int .u64 hc, .string hp, .string hm, .string ho, .bool true, .bool true, .bool c, .bool d, .slice none 0 0] _ _ KR2.out)
    have BF := Aside0.mk (below_setRow (below_set (j := 16) (v := .slice none 0 0) HB5.out (g := w.heap.size) (Nat.le_refl _)) (g := w.heap.size + 1 + 1) (by omega) #[.int .u64 la, .int .u64 lb, .int .u64 lc, .string lp, .string lm, .string lo', .int .u64 ha, .int .u64 hb', .int .u64 hc, .string hp, .string hm, .string ho, .bool true, .bool true, .bool c, .bool d, .slice none 0 0])
    have HI := Lib.hid (show (Tryz.prog.info? 242).map (·.size) = some (#[.int .u64 la, .int .u64 lb, .int .u64 lc, .string lp, .string lm, .string lo', .int .u64 ha, .int .u64 hb', .int .u64 hc, .string hp, .string hm, .string ho, .bool true, .bool true, .bool c, .bool d, .slice none 0 0] : Array Value).size from sizeP)
    go_wp2_with fail
    refine wp_loop_rounds 1 ?_
    rw [rounds_succ]
    go_wp2_with (first
      | (refine wpList_load_row (by rfl) 242 (.tmp 2) (by rfl) w.heap.size (by rfl) 242 #[.int .u64 la, .int .u64 lb, .int .u64 lc, .string lp, .string lm, .string lo', .int .u64 ha, .int .u64 hb', .int .u64 hc, .string hp, .string hm, .string ho, .bool true, .bool true, .bool c, .bool d, .slice none 0 0] (0, 0) _ KP2.out Tryz.underlying242 rfl HI.out ?_)
      | (refine wpList_store_row (by rfl) 242 (.tmp 4) (.tmp 87) (by rfl) (w.heap.size + 1 + 1) #[.int .u64 la, .int .u64 lb, .int .u64 lc, .string lp, .string lm, .string lo', .int .u64 ha, .int .u64 hb', .int .u64 hc, .string hp, .string hm, .string ho, .bool true, .bool true, .bool c, .bool d, .slice none 0 0] (by rfl) (by rfl) 242 zP KR2.out HI.out rfl (by simp [Value.oneCell']) ?_))
    refine bodyPost_ret (results_single rfl (.cell _ 242 #[.int .u64 la, .int .u64 lb, .int .u64 lc, .string lp, .string lm, .string lo', .int .u64 ha, .int .u64 hb', .int .u64 hc, .string hp, .string hm, .string ho, .bool true, .bool true, .bool c, .bool d, .slice none 0 0] (0, 0) _ rfl KF.out Tryz.underlying242 rfl HI.out .nil)) rfl ⟨rfl, BF.out⟩

end Go.Proofs.YtgoeiflddikihaaGreatDoor.Ver
end
section
namespace Go.Proofs.YtgoeiflddikihaaGreatDoor.Mem
open Go.RowKit Go.Proofs.YtgoeiflddikihaaGreatDoorW.PrintWords

theorem Blks.add {w0 w w1 : World} {L : List Blk} (h : Blks w0 w L) (hb : Below w.heap.size w w1) {g : Nat} (hg : w.heap.size ≤ g) {cs : Array Value} {t : TypeId} (hc : w1.heap[g]? = some (.cells cs t (0, 0))) {l : List Value} (hl : cs.toList = l) : Blks w0 w1 ((g, l, t) :: L) := by
  have h1 := h.call hb
  subst hl
  refine ⟨h1.bel, ?_, ?_, ?_⟩
  · intro x hx
    rcases List.mem_cons.1 hx with rfl | hx
    · exact hc
    · exact h1.has x hx
  · intro x hx
    rcases List.mem_cons.1 hx with rfl | hx
    · exact Nat.le_trans h.bel.size hg
    · exact h1.new x hx
  · rw [List.map_cons, List.nodup_cons]
    refine ⟨?_, h1.nd⟩
    intro hm
    obtain ⟨x, hx, e⟩ := List.mem_map.1 hm
    have := hlt (h.has x hx)
    simp only at e
    omega
/-- What is known of a row, without a world: its cells, what lies behind them. -/
structure RowF (n cap size : Nat) (xs rest : List Value) : Prop where
  len : xs.length = n * size
  le : n ≤ cap
  most : cap ≤ maxLen
  all : (xs ++ rest).length = cap * size
theorem row_block {w : World} {base n size : Nat} {e : TypeId} {v : Value} {xs : List Value} (h : w.ownsRow base e size v n xs) (hp : 0 < n) :
    ∃ g cap cells rest, v = .slice (some ⟨g, 0, none⟩) n cap ∧ base ≤ g ∧ w.heap[g]? = some (.cells cells e (0, 0)) ∧ cells.toList = xs ++ rest ∧ RowF n cap size xs rest := by
  obtain ⟨hl, h⟩ := h
  rcases h with ⟨_, rfl⟩ | ⟨g, cap, cur, rfl, hb, hc, h1, h2, h3, ht⟩
  · omega
  · have e1 : cur.toList = xs ++ cur.toList.drop (n * size) := by rw [← ht, List.take_append_drop]
    exact ⟨g, cap, cur, cur.toList.drop (n * size), rfl, hb, hc, e1, hl, h1, h2, by rw [← e1, Array.length_toList, h3]⟩
theorem Blks.rowOf {w0 w : World} {L : List Blk} (h : Blks w0 w L) {g n cap size : Nat} {xs rest : List Value} {e : TypeId} (hm : (g, xs ++ rest, e) ∈ L) (hf : RowF n cap size xs rest) : w.ownsRow w0.heap.size e size (.slice (some ⟨g, 0, none⟩) n cap) n xs :=
  ⟨hf.len, Or.inr ⟨g, cap, (xs ++ rest).toArray, rfl, h.new _ hm, h.has _ hm, hf.le, hf.most, by simpa using hf.all, by simp [← hf.len]⟩⟩
theorem Blks.addr {w0 w : World} {L : List Blk} (h : Blks w0 w L) {g : Nat} {xs rest : List Value} {e : TypeId} (hm : (g, xs ++ rest, e) ∈ L) : ∀ (j : Nat) (u : Value), xs[j]? = some u → w.cell? ((⟨g, 0, none⟩ : Addr).add j) = some u := by
  intro j u hu
  rw [Addr.add_mid]
  have := cell_of_row w g (0 + j) (xs ++ rest).toArray e (0, 0) (h.has _ hm)
  rw [this]
  have hj : j < xs.length := (List.getElem?_eq_some_iff.1 hu).1
  simp only [Nat.zero_add, List.getElem?_toArray]
  rw [List.getElem?_append_left hj, hu]
theorem reps_strings {w : World} {base : Nat} {ok : Nat → Prop} {xs : List ByteArray} {inner : List Value} (h : Reps (Kd.string.M w base ok) 1 xs inner) : inner = xs.map Value.string := by
  obtain ⟨h1, h2⟩ := h
  refine List.ext_getElem (by simp [h1]) fun j hj hj' => ?_
  have hx : j < xs.length := by simpa using hj'
  have := h2 j xs[j] (List.getElem?_eq_getElem hx)
  have e : List.take 1 (List.drop (j * 1) inner) = [Value.string xs[j]] := this
  rw [Nat.mul_one, List.drop_eq_getElem_cons hj, List.take_succ_cons] at e
  injection e with e _
  simp [e]
theorem strs_block {w : World} {base : Nat} {ok : Nat → Prop} {e : TypeId} {v : Value} {xs : List ByteArray} (h : Kd.R Kd.string e w base ok v xs) (hp : 0 < xs.length) :
    ∃ g cap cells rest, v = .slice (some ⟨g, 0, none⟩) xs.length cap ∧ base ≤ g ∧ w.heap[g]? = some (.cells cells e (0, 0)) ∧ cells.toList = xs.map Value.string ++ rest := by
  obtain ⟨_, inner, ho, hr⟩ := h
  obtain ⟨g, cap, cells, rest, h1, h2, h3, h4, _⟩ := row_block ho hp
  rw [reps_strings hr] at h4
  exact ⟨g, cap, cells, rest, h1, h2, h3, h4⟩
end Go.Proofs.YtgoeiflddikihaaGreatDoor.Mem
end
section
namespace Go.Proofs.YtgoeiflddikihaaGreatDoor.PFnIntersectAny
open Go.RowKit Go.Proofs.YtgoeiflddikihaaGreatDoorW.PrintWords Go.Proofs.YtgoeiflddikihaaGreatDoorW.PrintLast Go.Proofs.YtgoeiflddikihaaGreatDoorW.PrintMore
attribute [local go_sem] max2_int min2_int max_two min_two max_three min_three max_four min_four   -- for this text's walks alone
set_option linter.unusedVariables false
set_option linter.unusedSimpArgs false

/-! ### semver_split: function 140 -/
def semver_split.l0 : Nat → ByteArray → ByteArray → List ByteArray → Int → Int → Option (List ByteArray)
  | 0, _, _, _, _, _ => none
  | k + 1, x0, x1, x5, x6, x7 => if (wrap64 (x7 + (x1.size : Int))) ≤ (x0.size : Int) then (if 0 ≤ x7 then (if x7 ≤ (wrap64 (x7 + (x1.size : Int))) then (if (x0.extract (x7 : Int).toNat ((wrap64 (x7 + (x1.size : Int))) : Int).toNat).toList = x1.toList then (if 0 ≤ x6 then (if x6 ≤ x7 then (if x7 ≤ (x0.size : Int) then (if x5.length < 8796093022208 then (semver_split.l0 k x0 x1 (x5 ++ [x0.extract (x6 : Int).toNat (x7 : Int).toNat]) (wrap64 (x7 + (x1.size : Int))) (wrap64 ((wrap64 ((wrap64 (x7 + (x1.size : Int))) - 1)) + 1))) else (none)) else (none)) else (none)) else (none)) else (semver_split.l0 k x0 x1 x5 x6 (wrap64 (x7 + 1)))) else (none)) else (none)) else (if 0 ≤ x6 then (if x6 ≤ (x0.size : Int) then (if x5.length < 8796093022208 then (some (x5 ++ [x0.extract (x6 : Int).toNat x0.size])) else (none)) else (none)) else (none))
def semver_split.f (k : Nat) (a0 : ByteArray) (a1 : ByteArray) : Option (List ByteArray) := semver_split.l0 k a0 a1 ([] : List ByteArray) 0 0
theorem semver_split.mono_l : ∀ k, (∀ y0 y1 y2 y3 y4, LeO (semver_split.l0 k y0 y1 y2 y3 y4) (semver_split.l0 (k + 1) y0 y1 y2 y3 y4))
  | 0 => fun _ _ _ _ _ r h => by simp [semver_split.l0] at h
  | k + 1 => by
    have ih0 := semver_split.mono_l k
    · intro y0 y1 y2 y3 y4
      unfold semver_split.l0
      repeat' first
      | (with_reducible exact ih0 _ _ _ _ _)
      | (with_reducible exact LeO.refl _)
      | (with_reducible exact LeO.none _)
      | (with_reducible refine LeO.ite ?_ ?_)
      | (with_reducible refine LeO.bind ?_ (fun _ => ?_))
      | exact ih0 _ _ _ _ _
      | exact LeO.none _
      | refine LeO.ite ?_ ?_
      | refine LeO.bind ?_ (fun _ => ?_)
theorem semver_split.mono : ∀ a0 a1 k, LeO (semver_split.f k a0 a1) (semver_split.f (k + 1) a0 a1) := by
  intro a0 a1 k
  have ih0 := semver_split.mono_l k
  unfold semver_split.f
  repeat' first
      | (with_reducible exact ih0 _ _ _ _ _)
      | (with_reducible exact LeO.refl _)
      | (with_reducible exact LeO.none _)
      | (with_reducible refine LeO.ite ?_ ?_)
      | (with_reducible refine LeO.bind ?_ (fun _ => ?_))
      | exact ih0 _ _ _ _ _
      | exact LeO.none _
      | refine LeO.ite ?_ ?_
      | refine LeO.bind ?_ (fun _ => ?_)
set_option maxHeartbeats 8000000 in
set_option maxRecDepth 100000 in
theorem semver_split.calls (k : Nat) (a0 : ByteArray) (a1 : ByteArray) (r : List ByteArray) (w : World) (h : semver_split.f k a0 a1 = some r) :
    Calls Tryz.prog 140 #[.string a0, .string a1] w fun e w' => ∃ v0_ : Value, e = .returned (v0_) ∧ Kd.R Kd.string 9 w' w.heap.size (fun _ => True) v0_ r ∧ Below w.heap.size w w' := by
  have HB := Aside0.mk (Below.refl w.heap.size w)
  have H : (semver_split.l0 k a0 a1 ([] : List ByteArray) 0 0) = some r := h
  clear h
  have H' := Aside0.mk H
  clear H
  go_enter Tryz.func140, Tryz.ntmps140
  go_wp2
  go_loopg [5, 6, 7] k (fun kq v5 v6 v7 w' => ∃ (x5_1 : List ByteArray) (x6_1 : Int) (x7_1 : Int), v6 = .int .i64 x6_1 ∧ v7 = .int .i64 x7_1 ∧ Aside0 (semver_split.l0 kq a0 a1 x5_1 x6_1 x7_1 = some r) ∧ Aside0 (kq ≤ k) ∧ Aside0 (Kd.R Kd.string 9 w' w.heap.size (fun _ => True) v5 x5_1) ∧ Aside0 (Below w.heap.size w w'))
  case atStart => exact ⟨(([] : List ByteArray)), (0), (0), (by first | rfl | (simp; done) | (simp [*]; done)), (by first | rfl | (simp; done) | (simp [*]; done)), H', ⟨Nat.le_refl _⟩, ⟨by first | exact Kd.R_nil _ _ _ _ _ | exact Kd.N_nil _ _ _ _ _ | exact Kd.V_nil _ _ _ _ _ | exact Kd.Q_nil _ _ _ _ _ | exact Kd.S_nil _ _ _ _ _⟩, ⟨by repeat (first | (with_reducible first | exact HB.out | apply below_alloc | apply pw_below_drewN | apply below_drew1) | exact HB.out)⟩⟩
  case round =>
    clear H'
    try clear c1
    try clear p2
    obtain ⟨x5_1, x6_1, x7_1, rfl, rfl, HA, HK1, HO_5, HB⟩ := hrel
    cases gk with
    | zero => exact absurd HA.out (by simp [semver_split.l0])
    | succ k1 =>
      have H := HA.out
      clear HA
      simp only [semver_split.l0] at H
      by_cases c3 : (wrap64 (x7_1 + (a1.size : Int))) ≤ (a0.size : Int)
      · rw [if_pos c3] at H
        have c3b0 : decide ((wrap64 (x7_1 + (a1.size : Int))) ≤ (a0.size : Int)) = true := decide_eq_true c3
        clear c3
        by_cases c4 : 0 ≤ x7_1
        · rw [if_pos c4] at H
          have c4b0 := eq_true c4
          have c4b1 : decide (0 ≤ x7_1) = true := decide_eq_true c4
          clear c4
          by_cases c5 : x7_1 ≤ (wrap64 (x7_1 + (a1.size : Int)))
          · rw [if_pos c5] at H
            have c5b0 := eq_true c5
            have c5b1 : decide (x7_1 ≤ (wrap64 (x7_1 + (a1.size : Int)))) = true := decide_eq_true c5
            have c6b0 := eq_true (of_decide_eq_true (by first | (with_reducible assumption) | assumption) : (wrap64 (x7_1 + (a1.size : Int))) ≤ (a0.size : Int))
            by_cases c7 : (a0.extract (x7_1 : Int).toNat ((wrap64 (x7_1 + (a1.size : Int))) : Int).toNat).toList = a1.toList
            · rw [if_pos c7] at H
              have c7b0 : ((a0.extract (x7_1 : Int).toNat ((wrap64 (x7_1 + (a1.size : Int))) : Int).toNat).toList == a1.toList) = true := beq_iff_eq.mpr c7
              have c7b1 : ((a0.extract (x7_1 : Int).toNat ((wrap64 (x7_1 + (a1.size : Int))) : Int).toNat).toList != a1.toList) = false := bne_eq_false_iff_eq.mpr c7
              clear c7
              by_cases c8 : 0 ≤ x6_1
              · rw [if_pos c8] at H
                have c8b0 := eq_true c8
                have c8b1 : decide (0 ≤ x6_1) = true := decide_eq_true c8
                clear c8
                by_cases c9 : x6_1 ≤ x7_1
                · rw [if_pos c9] at H
                  have c9b0 := eq_true c9
                  have c9b1 : decide (x6_1 ≤ x7_1) = true := decide_eq_true c9
                  clear c9
                  by_cases c10 : x7_1 ≤ (a0.size : Int)
                  · rw [if_pos c10] at H
                    have c10b0 := eq_true c10
                    have c10b1 : decide (x7_1 ≤ (a0.size : Int)) = true := decide_eq_true c10
                    clear c10
                    by_cases c11 : x5_1.length < 8796093022208
                    · rw [if_pos c11] at H
                      have LMc11 := Aside0.mk c11
                      clear c11
                      obtain ⟨y137, hy137⟩ : ∃ y_ : List ByteArray, y_ = (x5_1 ++ [a0.extract (x6_1 : Int).toNat (x7_1 : Int).toNat]) := ⟨_, rfl⟩
                      replace H : (semver_split.l0 k1 a0 a1 y137 (wrap64 (x7_1 + (a1.size : Int))) (wrap64 ((wrap64 ((wrap64 (x7_1 + (a1.size : Int))) - 1)) + 1))) = some r := by first | (rw [hy137]; with_reducible exact H) | (have H2_ := (Option.bind_some _ _).symm.trans H; rw [hy137]; with_reducible exact H2_) | (have H2_ := (Option.bind_some _ _).symm.trans H; with_reducible exact H2_) | with_reducible exact H | (rw [hy137]; exact H) | exact H
                      have Ny137 := Aside0.mk hy137
                      clear hy137
                      have H' := Aside0.mk H
                      clear H
                      go_wp2_with (first | ((with_reducible refine gate_builtin (b := .append) (xs := #[.tmp 26, .tmp 31]) rfl ?_); at_builtin; refine Kd.R_append Kd.string (w0 := w) w.heap.size rfl (.tmp 26) (.tmp 31) 48 9 (.string ⟨#[]⟩) 16 rfl Tryz.underlying48 info9 rfl (by decide) (by omega) u5 x5_1 (a0.extract (x6_1 : Int).toNat (x7_1 : Int).toNat) [.string (a0.extract (x6_1 : Int).toNat (x7_1 : Int).toNat)] (fun _ => True) (fun _ => False) rfl rfl ?aP (fun _ hk => hk.elim) ?aF ?aO ?aB ?aS ?aL ?_; (case aP => exact rfl); (case aB => exact (by repeat (first | (with_reducible first | exact HB.out | apply below_alloc | apply pw_below_drewN | apply below_drew1) | exact HB.out))); (case aF => exact (fun _ _ => trivial)); (case aO => exact (by (with_reducible repeat (first | apply Kd.R_alloc | apply Kd.R_drewN | apply Kd.R_drew)); exact HO_5.out)); (case aS => exact (below_size (by repeat (first | (with_reducible first | exact HB.out | apply below_alloc | apply pw_below_drewN | apply below_drew1) | exact HB.out)))); (case aL => have := LMc11.out; omega); intro v138 w12 ho hb hg hat; rw [← Ny137.out] at ho; have n0_ := Aside0.mk (hb); have n1_ := Aside0.mk (ho); clear HB; clear HO_5; have HB := n0_; have HO139 := n1_; clear n0_ n1_; clear ho hb hg hat))
                      go_roundg k1
                      case measure => have := HK1.out; omega
                      case rel => exact ⟨(y137), (wrap64 (x7_1 + (a1.size : Int))), (wrap64 ((wrap64 ((wrap64 (x7_1 + (a1.size : Int))) - 1)) + 1)), (by first | rfl | (simp; done) | (simp [*]; done)), (by first | rfl | (simp; done) | (simp [*]; done)), H', ⟨by have := HK1.out; omega⟩, ⟨by (with_reducible repeat (first | apply Kd.R_alloc | apply Kd.R_drewN | apply Kd.R_drew)); exact HO139.out⟩, ⟨by repeat (first | (with_reducible first | exact HB.out | apply below_alloc | apply pw_below_drewN | apply below_drew1) | exact HB.out)⟩⟩
                    · rw [if_neg c11] at H
                      exact absurd H (by simp)
                  · rw [if_neg c10] at H
                    exact absurd H (by simp)
                · rw [if_neg c9] at H
                  exact absurd H (by simp)
              · rw [if_neg c8] at H
                exact absurd H (by simp)
            · rw [if_neg c7] at H
              have c7b0 : ((a0.extract (x7_1 : Int).toNat ((wrap64 (x7_1 + (a1.size : Int))) : Int).toNat).toList == a1.toList) = false := beq_eq_false_iff_ne.mpr c7
              have c7b1 : ((a0.extract (x7_1 : Int).toNat ((wrap64 (x7_1 + (a1.size : Int))) : Int).toNat).toList != a1.toList) = true := bne_iff_ne.mpr c7
              have H' := Aside0.mk H
              clear H
              go_wp2
              go_roundg k1
              case measure => have := HK1.out; omega
              case rel => exact ⟨(x5_1), (x6_1), (wrap64 (x7_1 + 1)), (by first | rfl | (simp; done) | (simp [*]; done)), (by first | rfl | (simp; done) | (simp [*]; done)), H', ⟨by have := HK1.out; omega⟩, ⟨by (with_reducible repeat (first | apply Kd.R_alloc | apply Kd.R_drewN | apply Kd.R_drew)); exact HO_5.out⟩, ⟨by repeat (first | (with_reducible first | exact HB.out | apply below_alloc | apply pw_below_drewN | apply below_drew1) | exact HB.out)⟩⟩
          · rw [if_neg c5] at H
            exact absurd H (by simp)
        · rw [if_neg c4] at H
          exact absurd H (by simp)
      · rw [if_neg c3] at H
        have c3b0 : decide ((wrap64 (x7_1 + (a1.size : Int))) ≤ (a0.size : Int)) = false := decide_eq_false c3
        clear c3
        by_cases c13 : 0 ≤ x6_1
        · rw [if_pos c13] at H
          have c13b0 := eq_true c13
          have c13b1 : decide (0 ≤ x6_1) = true := decide_eq_true c13
          clear c13
          by_cases c14 : x6_1 ≤ (a0.size : Int)
          · rw [if_pos c14] at H
            have c14b0 := eq_true c14
            have c14b1 : decide (x6_1 ≤ (a0.size : Int)) = true := decide_eq_true c14
            clear c14
            by_cases c15 : x5_1.length < 8796093022208
            · rw [if_pos c15] at H
              have LMc15 := Aside0.mk c15
              clear c15
              obtain ⟨y140, hy140⟩ : ∃ y_ : List ByteArray, y_ = (x5_1 ++ [a0.extract (x6_1 : Int).toNat a0.size]) := ⟨_, rfl⟩
              replace H : (some y140) = some r := by first | (rw [hy140]; with_reducible exact H) | (have H2_ := (Option.bind_some _ _).symm.trans H; rw [hy140]; with_reducible exact H2_) | (have H2_ := (Option.bind_some _ _).symm.trans H; with_reducible exact H2_) | with_reducible exact H | (rw [hy140]; exact H) | exact H
              have Ny140 := Aside0.mk hy140
              clear hy140
              obtain rfl := Option.some.inj H
              go_wp2_with (first | ((with_reducible refine gate_builtin (b := .append) (xs := #[.tmp 39, .tmp 43]) rfl ?_); at_builtin; refine Kd.R_append Kd.string (w0 := w) w.heap.size rfl (.tmp 39) (.tmp 43) 48 9 (.string ⟨#[]⟩) 16 rfl Tryz.underlying48 info9 rfl (by decide) (by omega) u5 x5_1 (a0.extract (x6_1 : Int).toNat a0.size) [.string (a0.extract (x6_1 : Int).toNat a0.size)] (fun _ => True) (fun _ => False) rfl rfl ?aP (fun _ hk => hk.elim) ?aF ?aO ?aB ?aS ?aL ?_; (case aP => exact rfl); (case aB => exact (by repeat (first | (with_reducible first | exact HB.out | apply below_alloc | apply pw_below_drewN | apply below_drew1) | exact HB.out))); (case aF => exact (fun _ _ => trivial)); (case aO => exact (by (with_reducible repeat (first | apply Kd.R_alloc | apply Kd.R_drewN | apply Kd.R_drew)); exact HO_5.out)); (case aS => exact (below_size (by repeat (first | (with_reducible first | exact HB.out | apply below_alloc | apply pw_below_drewN | apply below_drew1) | exact HB.out)))); (case aL => have := LMc15.out; omega); intro v141 w16 ho hb hg hat; rw [← Ny140.out] at ho; have n0_ := Aside0.mk (hb); have n1_ := Aside0.mk (ho); clear HB; clear HO_5; have HB := n0_; have HO142 := n1_; clear n0_ n1_; clear ho hb hg hat))
              go_ret
              exact ⟨_, by first | rfl | (simp [errW_none, errW_some] <;> rfl) | (simp [*, errW_none, errW_some] <;> rfl), by (with_reducible repeat (first | apply Kd.R_alloc | apply Kd.R_drewN | apply Kd.R_drew)); exact HO142.out, by repeat (first | (with_reducible first | exact HB.out | apply below_alloc | apply pw_below_drewN | apply below_drew1) | exact HB.out)⟩
            · rw [if_neg c15] at H
              exact absurd H (by simp)
          · rw [if_neg c14] at H
            exact absurd H (by simp)
        · rw [if_neg c13] at H
          exact absurd H (by simp)

end Go.Proofs.YtgoeiflddikihaaGreatDoor.PFnIntersectAny
end
