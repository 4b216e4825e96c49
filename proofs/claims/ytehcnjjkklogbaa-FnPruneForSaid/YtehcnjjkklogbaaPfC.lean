/- The law FnPruneFor. No condition but that texts are as long as texts can be. -/
import Derived.Test.YtehcnjjkklogbaaPfB
namespace Go.Proofs.Ytehcnjjkklogbaa.PfOwn
open Go.RowKit Go.Maps Go.Proofs.Ytehcnjjkklogbaa.FnPruneOwn Go.Proofs.Ytehcnjjkklogbaa.PFnPruneFor Go.Proofs.YtehcnjjkklogbaaW.PrintWords

theorem fits_tells (l : List S30) (hl : l.length ≤ 2147483647) (d : Nat) : ∀ (k i : Nat), i ≤ l.length → l.length - i = d → d < k → ∃ r, laws_zzFits24.l0 k l (l.length : Int) (i : Int) = some r := by
  induction d with
  | zero =>
    intro k i hi hd hk
    cases k with
    | zero => omega
    | succ k => exact ⟨true, by rw [laws_zzFits24.l0, if_neg (by omega)]⟩
  | succ d ih =>
    intro k i hi hd hk
    cases k with
    | zero => omega
    | succ k =>
      rw [laws_zzFits24.l0, if_pos (by omega), if_pos (by omega), if_pos (by omega)]
      have hw : wrap64 ((i : Int) + 1) = ((i + 1 : Nat) : Int) := by rw [wrap_next (n := l.length) (by omega) (by omega) (by omega)]; omega
      unfold laws_zzFits25.f
      split
      · exact ⟨false, rfl⟩
      · obtain ⟨r, hr⟩ := ih k (i + 1) (by omega) (by omega) (by omega)
        exact ⟨r, by simp only [Option.bind_some]; rw [if_pos trivial, hw, hr]⟩
theorem fits_good (l : List S30) (hl : l.length ≤ 2147483647) : ∀ (k i : Nat), laws_zzFits24.l0 k l (l.length : Int) (i : Int) = some true → ∀ j, i ≤ j → j < l.length → (rd_T30 l (j : Int)).f0.size ≤ 2147483647 := by
  intro k
  induction k with
  | zero => intro i h; simp [laws_zzFits24.l0] at h
  | succ k ih =>
    intro i h j hj hjl
    have hw : wrap64 ((i : Int) + 1) = ((i + 1 : Nat) : Int) := by rw [wrap_next (n := l.length) (by omega) (by omega) (by omega)]; omega
    rw [laws_zzFits24.l0, if_pos (by omega), if_pos (by omega), if_pos (by omega)] at h
    unfold laws_zzFits25.f at h
    by_cases hs : ((rd_T30 l (i : Int)).f0.size : Int) > 2147483647
    · rw [if_pos hs] at h
      simp at h
    · rw [if_neg hs] at h
      simp only [Option.bind_some] at h
      rw [if_pos trivial, hw] at h
      by_cases e : j = i
      · subst e; omega
      · exact ih (i + 1) h j (by omega) hjl
theorem fits_all {l : List S30} {k : Nat} (hl : l.length ≤ 2147483647) (h : laws_zzFits24.f k l = some true) : ∀ j, j < l.length → (rd_T30 l (j : Int)).f0.size ≤ 2147483647 := by
  rw [laws_zzFits24.f, if_neg (by omega)] at h
  exact fun j hj => fits_good l hl k 0 h j (by omega) hj
theorem fits_any (l : List S30) : ∃ k r, laws_zzFits24.f k l = some r ∧ (r = true → l.length ≤ 2147483647) := by
  by_cases hl : l.length ≤ 2147483647
  · obtain ⟨r, hr⟩ := fits_tells l hl l.length (l.length + 1) 0 (by omega) (by omega) (by omega)
    exact ⟨l.length + 1, r, by rw [laws_zzFits24.f, if_neg (by omega)]; exact hr, fun _ => hl⟩
  · exact ⟨0, false, by rw [laws_zzFits24.f, if_pos (by omega)], fun h => by cases h⟩
theorem ite_ex {c : Prop} [Decidable c] {a b : Option Bool} (ha : ∃ r, a = some r) (hb : ∃ r, b = some r) : ∃ r, (if c then a else b) = some r := by split <;> assumption
theorem path_tells (s : ByteArray) (hs : s.size ≤ 140737488351232) (d : Nat) : ∀ (k i : Nat), i ≤ s.size → s.size - i = d → d < k → ∃ r, spec_IsDepPath.l0 k s (s.size : Int) (i : Int) = some r := by
  induction d with
  | zero =>
    intro k i hi hd hk
    cases k with
    | zero => omega
    | succ k =>
      rw [spec_IsDepPath.l0, if_neg (by omega)]
      repeat' (first | (with_reducible exact ⟨_, rfl⟩) | refine ite_ex ?_ ?_)
  | succ d ih =>
    intro k i hi hd hk
    cases k with
    | zero => omega
    | succ k =>
      obtain ⟨r, hr⟩ := ih k (i + 1) (by omega) (by omega) (by omega)
      have hw : wrap64 ((i : Int) + 1) = ((i + 1 : Nat) : Int) := by rw [wrap_next (n := s.size) (by omega) (by omega) (by omega)]; omega
      rw [spec_IsDepPath.l0, if_pos (by omega), if_pos (by omega), if_pos (by omega), hw, hr]
      repeat' (first | (with_reducible exact ⟨_, rfl⟩) | refine ite_ex ?_ ?_)
theorem path_any (s : ByteArray) (hs : s.size ≤ 140737488351232) (w : World) : Calls Try.prog 13 #[.string s] w fun e w' => ∃ b, e = .returned (.bool b) ∧ Below w.heap.size w w' := by
  obtain ⟨r, hr⟩ := path_tells s hs s.size (s.size + 1) 0 (by omega) (by omega) (by omega)
  exact (spec_IsDepPath.calls (s.size + 1) s r w hr).mono fun _ _ ⟨h, hd⟩ => ⟨r, h, by first | exact hd | exact hd.below⟩

/-- What is known of the arguments from the first world on. -/
structure ForArg (w : World) (all : Int) (l : List S30) (A : Option Addr) (c : Nat) (root : ByteArray) : Prop where
  row : Kd.C k30 w A l.length l
  cap : l.length ≤ c
  good : ∀ s ∈ l, s.f0.size ≤ maxLen
  size : root.size ≤ maxLen

theorem law_nofit (all : Int) (l : List S30) (A : Option Addr) (c : Nat) (root : ByteArray) (w : World) (k : Nat) (hf : laws_zzFits24.f k l = some false) (h : ForArg w all l A c root) :
    Calls Try.prog 5 #[.int .u8 all, .slice A l.length c, .string root] w fun e w' => e = .returned (.bool true) ∧ Below w.heap.size w w' := by
  have CF := Lib.hid (fun W (hb : Below w.heap.size w W) => laws_zzFits24.calls k A c l false W (Kd.C_below h.row hb) h.cap hf)
  have HB := Aside0.mk (Below.refl w.heap.size w)
  clear h hf
  go_enter Try.func5, Try.ntmps5
  go_wp2_with (first | (go_at_call 12; ((with_reducible refine (CF.out _ (by repeat (first | exact HB.out | apply below_alloc | apply pw_below_drewN))).mono ?_); rintro e w9 ⟨rfl, hb⟩; have HN := Aside0.mk (below_trans (by repeat (first | exact HB.out | apply below_alloc | apply pw_below_drewN)) hb); clear HB hb; have HB := HN; clear HN)))
  go_ret
  exact ⟨rfl, HB.out⟩

theorem law_long (all : Int) (l : List S30) (A : Option Addr) (c : Nat) (root : ByteArray) (w : World) (k : Nat) (hf : laws_zzFits24.f k l = some true) (h : ForArg w all l A c root) (hr : 2147483647 < root.size) :
    Calls Try.prog 5 #[.int .u8 all, .slice A l.length c, .string root] w fun e w' => e = .returned (.bool true) ∧ Below w.heap.size w w' := by
  have CF := Lib.hid (fun W (hb : Below w.heap.size w W) => laws_zzFits24.calls k A c l true W (Kd.C_below h.row hb) h.cap hf)
  have HB := Aside0.mk (Below.refl w.heap.size w)
  clear h hf
  go_enter Try.func5, Try.ntmps5
  go_wp2_with (first | (go_at_call 12; ((with_reducible refine (CF.out _ (by repeat (first | exact HB.out | apply below_alloc | apply pw_below_drewN))).mono ?_); rintro e w9 ⟨rfl, hb⟩; have HN := Aside0.mk (below_trans (by repeat (first | exact HB.out | apply below_alloc | apply pw_below_drewN)) hb); clear HB hb; have HB := HN; clear HN)))
  go_ret
  exact ⟨rfl, HB.out⟩

theorem law_rest (all : Int) (l : List S30) (A : Option Addr) (c : Nat) (root : ByteArray) (w : World) (k : Nat) (hf : laws_zzFits24.f k l = some true) (hl : l.length ≤ 2147483647) (h : ForArg w all l A c root) (hr : root.size ≤ 2147483647) :
    Calls Try.prog 5 #[.int .u8 all, .slice A l.length c, .string root] w fun e w' => e = .returned (.bool true) ∧ Below w.heap.size w w' := by
  have CF := Lib.hid (fun W (hb : Below w.heap.size w W) => laws_zzFits24.calls k A c l true W (Kd.C_below h.row hb) h.cap hf)
  have CP := Lib.hid (fun W => path_any root (by omega) W)
  have CQ := Lib.hid (fun W (hb : Below w.heap.size w W) => puts_any all root h.size l hl h.good A c W (Kd.C_below h.row hb))
  have HF := Lib.hid h
  have HG := Lib.hid (fits_all hl hf)
  have hcap := h.cap
  have HB := Aside0.mk (Below.refl w.heap.size w)
  clear h hf
  by_cases h16 : 16 ≤ all
  · go_enter Try.func5, Try.ntmps5
    go_wp2_with (first | (go_at_call 12; ((with_reducible refine (CF.out _ (by repeat (first | exact HB.out | apply below_alloc | apply pw_below_drewN))).mono ?_); rintro e w9 ⟨rfl, hb⟩; have HN := Aside0.mk (below_trans (by repeat (first | exact HB.out | apply below_alloc | apply pw_below_drewN)) hb); clear HB hb; have HB := HN; clear HN)) | (go_at_call 8; ((with_reducible refine (pruneText_two _).mono ?_); rintro e w9 ⟨rfl, hb⟩; have HN := Aside0.mk (below_trans (by repeat (first | exact HB.out | apply below_alloc | apply pw_below_drewN)) hb); clear HB hb; have HB := HN; clear HN)))
    go_ret
    exact ⟨rfl, HB.out⟩
  by_cases h6 : 6 < l.length
  · go_enter Try.func5, Try.ntmps5
    go_wp2_with (first | (go_at_call 12; ((with_reducible refine (CF.out _ (by repeat (first | exact HB.out | apply below_alloc | apply pw_below_drewN))).mono ?_); rintro e w9 ⟨rfl, hb⟩; have HN := Aside0.mk (below_trans (by repeat (first | exact HB.out | apply below_alloc | apply pw_below_drewN)) hb); clear HB hb; have HB := HN; clear HN)) | (go_at_call 8; ((with_reducible refine (pruneText_two _).mono ?_); rintro e w9 ⟨rfl, hb⟩; have HN := Aside0.mk (below_trans (by repeat (first | exact HB.out | apply below_alloc | apply pw_below_drewN)) hb); clear HB hb; have HB := HN; clear HN)))
    go_ret
    exact ⟨rfl, HB.out⟩
  go_enter Try.func5, Try.ntmps5
  go_wp2_with (first | (go_at_call 12; ((with_reducible refine (CF.out _ (by repeat (first | exact HB.out | apply below_alloc | apply pw_below_drewN))).mono ?_); rintro e w9 ⟨rfl, hb⟩; have HN := Aside0.mk (below_trans (by repeat (first | exact HB.out | apply below_alloc | apply pw_below_drewN)) hb); clear HB hb; have HB := HN; clear HN)) | (go_at_call 13; ((with_reducible refine (CP.out _).mono ?_); rintro e w9 ⟨b, rfl, hb⟩; have HN := Aside0.mk (below_trans (by repeat (first | exact HB.out | apply below_alloc | apply pw_below_drewN)) hb); clear HB hb; have HB := HN; clear HN; refine Hid.out ?_)))
  cases b with
  | false =>
    refine Lib.hid ?_
    go_wp2_with (first | (go_at_call 8; ((with_reducible refine (pruneText_two _).mono ?_); rintro e w9 ⟨rfl, hb⟩; have HN := Aside0.mk (below_trans (by repeat (first | exact HB.out | apply below_alloc | apply pw_below_drewN)) hb); clear HB hb; have HB := HN; clear HN)))
    go_ret
    exact ⟨rfl, HB.out⟩
  | true =>
    refine Lib.hid ?_
    go_wp2
    go_loopw [7, 40] (fun v7 v40 wr => ∃ k : Nat, k ≤ l.length ∧ v40 = .int .i64 (k : Int) ∧ v7 = .int .u8 (wantOf all (lastOf (l.take k) root)) ∧ Aside0 (Below w.heap.size w wr)) (fun _ v40 _ => l.length - (intOf v40).toNat)
    case atStart => exact ⟨0, by omega, rfl, rfl, HB⟩
    case round =>
      clear HB
      obtain ⟨W4, hW4⟩ : ∃ x, x = wr := ⟨_, rfl⟩
      subst hW4
      obtain ⟨k, hk, rfl, rfl, HB⟩ := hrel
      by_cases hlt : k < l.length
      · obtain ⟨ad, hA, x0, x1, x2, x3, x4⟩ := at_T30 HF.out.row (k : Int) (by omega) (by omega)
        subst hA
        rw [Int.toNat_natCast] at x0 x1 x2 x3 x4
        replace x0 := (HB.out.cell (World.block_lt_of_cell? w _ x0)).trans x0
        replace x1 := (HB.out.cell (World.block_lt_of_cell? w _ x1)).trans x1
        replace x2 := (HB.out.cell (World.block_lt_of_cell? w _ x2)).trans x2
        replace x3 := (HB.out.cell (World.block_lt_of_cell? w _ x3)).trans x3
        replace x4 := (HB.out.cell (World.block_lt_of_cell? w _ x4)).trans x4
        have hsz : (rd_T30 l (k : Int)).f0.size ≤ 2147483647 := HG.out k hlt
        have hkc : k ≤ c := by omega
        have hnx : wantOf all (lastOf (l.take (k + 1)) root) = if (rd_T30 l (k : Int)).f0 = root then own4 all (rd_T30 l (k : Int)).f1 (rd_T30 l (k : Int)).f2 (rd_T30 l (k : Int)).f3 (rd_T30 l (k : Int)).f4 else wantOf all (lastOf (l.take k) root) := by
          rw [take_next hlt, lastOf_snoc]
          split <;> rfl
        have HN := Lib.hid hnx
        clear hnx
        generalize wantOf all (lastOf (l.take k) root) = want at *
        generalize (rd_T30 l (k : Int)).f0 = f0 at *
        generalize (rd_T30 l (k : Int)).f1 = f1 at *
        generalize (rd_T30 l (k : Int)).f2 = f2 at *
        generalize (rd_T30 l (k : Int)).f3 = f3 at *
        generalize (rd_T30 l (k : Int)).f4 = f4 at *
        have CX := Lib.hid (fun W => path_any f0 (by omega) W)
        clear hsz
        have OW := Lib.hid (fun (w1 : World) (hb : Below ((W4.alloc (.cells #[.string f0, .int .u8 f1, .int .u8 f2, .int .u8 f3, .int .u8 f4] 30)).alloc (.cells #[.int .u8 f1, .int .u8 f2, .int .u8 f3, .int .u8 f4] 31)).heap.size ((W4.alloc (.cells #[.string f0, .int .u8 f1, .int .u8 f2, .int .u8 f3, .int .u8 f4] 30)).alloc (.cells #[.int .u8 f1, .int .u8 f2, .int .u8 f3, .int .u8 f4] 31)) w1) => own_two hb)
        go_wp2_with fail
        go_loopw [58] (fun v58 wr2 => ∃ j : Nat, j ≤ k ∧ v58 = .int .i64 (j : Int) ∧ Aside0 (Below w.heap.size w wr2) ∧ Aside0 (wr2.heap[W4.heap.size]? = some (.cells #[.string f0, .int .u8 f1, .int .u8 f2, .int .u8 f3, .int .u8 f4] 30 (0, 0))) ∧ Aside0 (wr2.heap[W4.heap.size + 1]? = some (.cells #[.int .u8 f1, .int .u8 f2, .int .u8 f3, .int .u8 f4] 31 (0, 0)))) (fun v58 _ => k - (intOf v58).toNat)
        case atStart => exact ⟨0, by omega, rfl, ⟨by repeat (first | exact HB.out | apply below_alloc | apply pw_below_drewN)⟩, ⟨(own_two (Below.refl _ _)).1⟩, ⟨(own_two (Below.refl _ _)).2⟩⟩
        case round =>
          clear HB
          obtain ⟨j, hj, rfl, HB, H9, H10⟩ := hrel
          by_cases hjk : j < k
          · obtain ⟨ad', hA, y0, y1, y2, y3, y4⟩ := at_T30 HF.out.row (j : Int) (by omega) (by omega)
            obtain rfl := Option.some.inj hA
            rw [Int.toNat_natCast] at y0 y1 y2 y3 y4
            clear x0 x1 x2 x3 x4 hA
            replace y0 := (HB.out.cell (World.block_lt_of_cell? w _ y0)).trans y0
            replace y1 := (HB.out.cell (World.block_lt_of_cell? w _ y1)).trans y1
            replace y2 := (HB.out.cell (World.block_lt_of_cell? w _ y2)).trans y2
            replace y3 := (HB.out.cell (World.block_lt_of_cell? w _ y3)).trans y3
            replace y4 := (HB.out.cell (World.block_lt_of_cell? w _ y4)).trans y4
            generalize (rd_T30 l (j : Int)).f0 = g0 at *
            generalize (rd_T30 l (j : Int)).f1 = g1 at *
            generalize (rd_T30 l (j : Int)).f2 = g2 at *
            generalize (rd_T30 l (j : Int)).f3 = g3 at *
            generalize (rd_T30 l (j : Int)).f4 = g4 at *
            have H9n := Aside0.mk (blk_kept H9.out (below_alloc (Below.refl _ _) (.cells #[.string g0, .int .u8 g1, .int .u8 g2, .int .u8 g3, .int .u8 g4] 30)))
            have H10n := Aside0.mk (blk_kept H10.out (below_alloc (Below.refl _ _) (.cells #[.string g0, .int .u8 g1, .int .u8 g2, .int .u8 g3, .int .u8 g4] 30)))
            have z0 := blk_cell H9n.out 0
            rcases hq : (g0.toList == f0.toList) with _ | _
            · go_wp2_with fail
              go_roundw
              case rel => exact ⟨j + 1, by omega, by simp, ⟨by repeat (first | exact HB.out | apply below_alloc | apply pw_below_drewN)⟩, H9n, H10n⟩
              case measure => simp [intOf]; omega
            · go_wp2_with (first | (go_at_call 8; ((with_reducible refine (pruneText_two _).mono ?_); rintro e w9 ⟨rfl, hb⟩; have HN := Aside0.mk (below_trans (by repeat (first | exact HB.out | apply below_alloc | apply pw_below_drewN)) hb); clear HB hb; have HB := HN; clear HN)))
              go_ret
              exact ⟨rfl, HB.out⟩
          · clear x0 x1 x2 x3 x4
            have z0 := blk_cell H9.out 0
            have a0 := blk_cell H10.out 0
            have a1 := blk_cell H10.out 1
            have a2 := blk_cell H10.out 2
            have a3 := blk_cell H10.out 3
            go_wp2_with fail
            clear z0 a0 a1 a2 a3
            go_loopw [71] (fun v71 wr3 => ∃ j : Nat, j ≤ 4 ∧ v71 = .int .i64 (j : Int) ∧ Aside0 (Below w.heap.size w wr3) ∧ Aside0 (wr3.heap[W4.heap.size]? = some (.cells #[.string f0, .int .u8 f1, .int .u8 f2, .int .u8 f3, .int .u8 f4] 30 (0, 0))) ∧ Aside0 (wr3.heap[W4.heap.size + 1]? = some (.cells #[.int .u8 f1, .int .u8 f2, .int .u8 f3, .int .u8 f4] 31 (0, 0)))) (fun v71 _ => 4 - (intOf v71).toNat)
            case atStart => exact ⟨0, by omega, rfl, HB, H9, H10⟩
            case round =>
              clear HB H9 H10
              obtain ⟨j3, hj3, rfl, HB, H9, H10⟩ := hrel
              by_cases hj4 : j3 < 4
              · obtain ⟨n, hn⟩ : ∃ n, ∀ W : World, (Instr.index 31 (.agg #[.int .u8 f1, .int .u8 f2, .int .u8 f3, .int .u8 f4]) (.int .i64 (j3 : Int))).run Try.prog W = .ok (.int .u8 n) W := by
                  have h5 : j3 = 0 ∨ j3 = 1 ∨ j3 = 2 ∨ j3 = 3 := by omega
                  rcases h5 with rfl | rfl | rfl | rfl
                  · exact ⟨f1, ix0 f1 f2 f3 f4⟩
                  · exact ⟨f2, ix1 f1 f2 f3 f4⟩
                  · exact ⟨f3, ix2 f1 f2 f3 f4⟩
                  · exact ⟨f4, ix3 f1 f2 f3 f4⟩
                have z0 := blk_cell H9.out 0
                by_cases h2 : 2 < n
                · go_wp2_with (first | (go_at_call 8; ((with_reducible refine (pruneText_two _).mono ?_); rintro e w9 ⟨rfl, hb⟩; have HN9 := Aside0.mk hb; have HBn := Aside0.mk (below_trans (by repeat (first | exact HB.out | apply below_alloc | apply pw_below_drewN)) hb); clear HB hb; have HB := HBn; clear HBn)))
                  go_ret
                  exact ⟨rfl, HB.out⟩
                · go_wp2_with (first | (go_at_call 13; ((with_reducible refine (CX.out _).mono ?_); rintro e w9 ⟨b, rfl, hb⟩; have HN9 := Aside0.mk hb; have HBn := Aside0.mk (below_trans (by repeat (first | exact HB.out | apply below_alloc | apply pw_below_drewN)) hb); clear HB hb; have HB := HBn; clear HBn; refine Hid.out ?_)))
                  cases b with
                  | false =>
                    refine Lib.hid ?_
                    go_wp2_with (first | (go_at_call 8; ((with_reducible refine (pruneText_two _).mono ?_); rintro e w9 ⟨rfl, hb⟩; have HN9 := Aside0.mk hb; have HBn := Aside0.mk (below_trans (by repeat (first | exact HB.out | apply below_alloc | apply pw_below_drewN)) hb); clear HB hb; have HB := HBn; clear HBn)))
                    go_ret
                    exact ⟨rfl, HB.out⟩
                  | true =>
                    refine Lib.hid ?_
                    go_wp2_with fail
                    go_roundw
                    case rel => exact ⟨j3 + 1, by omega, by simp, HB, ⟨blk_kept H9.out HN9.out⟩, ⟨blk_kept H10.out HN9.out⟩⟩
                    case measure => simp [intOf]; omega
              · have z0 := blk_cell H9.out 0
                have a0 := blk_cell H10.out 0
                have a1 := blk_cell H10.out 1
                have a2 := blk_cell H10.out 2
                have a3 := blk_cell H10.out 3
                by_cases hfr : f0 = root
                · have hq : (f0.toList == root.toList) = true := by rw [hfr]; simp
                  have hnn := HN.out
                  rw [if_pos hfr] at hnn
                  have HNN := Lib.hid hnn
                  clear hnn hfr HN
                  go_wp2_with (first | (go_at_call 14; ((with_reducible refine (with_any _ _ _ _ _ _).mono ?_); rintro e w9 ⟨rfl, hb⟩; have HN9 := Aside0.mk hb; have HBn := Aside0.mk (below_trans (by repeat (first | exact HB.out | apply below_alloc | apply pw_below_drewN)) hb); clear HB hb; have HB := HBn; clear HBn)))
                  go_roundw
                  case rel => exact ⟨k + 1, by omega, by simp, by rw [HNN.out], HB⟩
                  case measure => simp [intOf]; omega
                · have hq : (f0.toList == root.toList) = false := by
                    rw [beq_eq_false_iff_ne]
                    intro e
                    rw [ByteArray.toList_eq, ByteArray.toList_eq] at e
                    exact hfr (ByteArray.ext (Array.ext' e))
                  have hnn := HN.out
                  rw [if_neg hfr] at hnn
                  have HNN := Lib.hid hnn
                  clear hnn hfr HN
                  go_wp2_with fail
                  go_roundw
                  case rel => exact ⟨k + 1, by omega, by simp, by rw [HNN.out], HB⟩
                  case measure => simp [intOf]; omega
      · have hkl : k = l.length := by omega
        subst hkl
        rw [List.take_length]
        go_wp2_with (first | (go_at_call 15; ((with_reducible refine (CQ.out _ (by repeat (first | exact HB.out | apply below_alloc | apply pw_below_drewN))).mono ?_); rintro e w9 ⟨rfl, hb⟩; have HN := Aside0.mk (below_trans (by repeat (first | exact HB.out | apply below_alloc | apply pw_below_drewN)) hb); clear HB hb; have HB := HN; clear HN)) | (go_at_call 8; ((with_reducible refine (pruneText_two _).mono ?_); rintro e w9 ⟨rfl, hb⟩; have HN := Aside0.mk (below_trans (by repeat (first | exact HB.out | apply below_alloc | apply pw_below_drewN)) hb); clear HB hb; have HB := HN; clear HN)))
        go_ret
        exact ⟨rfl, HB.out⟩

theorem law_any (all : Int) (l : List S30) (root : ByteArray) (A : Option Addr) (c : Nat) (w : World) (h : ForArg w all l A c root) :
    Calls Try.prog 5 #[.int .u8 all, .slice A l.length c, .string root] w fun e w' => e = .returned (.bool true) ∧ Below w.heap.size w w' := by
  obtain ⟨k, r, hf, hr⟩ := fits_any l
  cases r with
  | false => exact law_nofit all l A c root w k hf h
  | true =>
    by_cases h2 : 2147483647 < root.size
    · exact law_long all l A c root w k hf h h2
    · exact law_rest all l A c root w k hf (hr rfl) h (by omega)

end Go.Proofs.Ytehcnjjkklogbaa.PfOwn
