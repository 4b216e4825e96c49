/- Merged by program out of: VSemC, Sort5, Piece, Rm. -/
import Derived.Test.YtgoeiflddikihaaGreatDoorCpM20
import Derived.Test.YtgoeiflddikihaaGreatDoorCpM16
import Derived.Lib.QuietBelow
import Derived.Test.YtgoeiflddikihaaGreatDoorCpM18
import Derived.Test.YtgoeiflddikihaaGreatDoorCpM3
import Derived.Shelf.GgSortFunc.Partition
import Derived.RegionTactic
import Derived.BigRegion
import Derived.WalkLawsBesides
import Derived.Test.YtgoeiflddikihaaGreatDoorCpM19
import Derived.Laws.OwnMore
import Derived.Laws.Tables
import Derived.Laws.CopyOwn
import Derived.Deep.MidRow
section
namespace Go.Proofs.YtgoeiflddikihaaGreatDoor.Ver
open Go.RowKit Go.Proofs.YtgoeiflddikihaaGreatDoorW.PrintWords Go.Proofs.YtgoeiflddikihaaGreatDoor.Ord
set_option maxHeartbeats 2000000 in
theorem less_any (v u : SV) (hv : v.pre.size ≤ 140737488351232) (hu : u.pre.size ≤ 140737488351232) (w : World) :
    Calls Tryz.prog 207 #[.agg v.cells, .agg u.cells] w fun e w' => e = .returned (.bool (decide (cmpV v u < 0))) ∧ Below w.heap.size w w' := by
  have HC := Lib.hid (fun W => cmp_any v u hv hu W)
  have HB := Aside0.mk (Below.refl w.heap.size w)
  generalize cmpV v u = c at *
  obtain ⟨va, vb, vc, vp, vm, vo⟩ := v
  obtain ⟨ua, ub, uc, up, um, uo⟩ := u
  dsimp only [SV.cells] at HC hv hu ⊢
  go_enter Tryz.func207, Tryz.ntmps207
  go_wp2_with (first
    | (go_at_call 209; ((with_reducible refine (HC.out _).mono ?_); rintro e w1 ⟨rfl, hb⟩; have HB5 := Aside0.mk (below_trans (by repeat (first | exact HB.out | apply below_alloc | apply pw_below_drewN)) hb); clear hb)))
  go_ret
  exact ⟨rfl, by repeat (first | exact HB5.out | apply below_alloc | apply pw_below_drewN)⟩
set_option maxHeartbeats 2000000 in
theorem more_any (v u : SV) (hv : v.pre.size ≤ 140737488351232) (hu : u.pre.size ≤ 140737488351232) (w : World) :
    Calls Tryz.prog 208 #[.agg v.cells, .agg u.cells] w fun e w' => e = .returned (.bool (decide (cmpV v u > 0))) ∧ Below w.heap.size w w' := by
  have HC := Lib.hid (fun W => cmp_any v u hv hu W)
  have HB := Aside0.mk (Below.refl w.heap.size w)
  generalize cmpV v u = c at *
  obtain ⟨va, vb, vc, vp, vm, vo⟩ := v
  obtain ⟨ua, ub, uc, up, um, uo⟩ := u
  dsimp only [SV.cells] at HC hv hu ⊢
  go_enter Tryz.func208, Tryz.ntmps208
  go_wp2_with (first
    | (go_at_call 209; ((with_reducible refine (HC.out _).mono ?_); rintro e w1 ⟨rfl, hb⟩; have HB5 := Aside0.mk (below_trans (by repeat (first | exact HB.out | apply below_alloc | apply pw_below_drewN)) hb); clear hb)))
  go_ret
  exact ⟨rfl, by repeat (first | exact HB5.out | apply below_alloc | apply pw_below_drewN)⟩
theorem prerel_any (v : SV) (w : World) :
    Calls Tryz.prog 206 #[.agg v.cells] w fun e w' => e = .returned (.string v.pre) ∧ Below w.heap.size w w' := by
  have HB := Aside0.mk (Below.refl w.heap.size w)
  obtain ⟨va, vb, vc, vp, vm, vo⟩ := v
  dsimp only [SV.cells]
  go_enter Tryz.func206, Tryz.ntmps206
  go_wp2_with fail
  go_ret
  exact ⟨rfl, by repeat (first | exact HB.out | apply below_alloc | apply pw_below_drewN)⟩
end Go.Proofs.YtgoeiflddikihaaGreatDoor.Ver
end
section
namespace Go.Proofs.YtgoeiflddikihaaGreatDoor.Srt
open Go.RowKit Go.Proofs.YtgoeiflddikihaaGreatDoorW.PrintWords Go.Sort
variable {α : Type} [Inhabited α]
theorem pow_any (n : Nat) (hn : n < 4611686018427387904) (w : World) :
    Calls Tryz.prog 146 #[.int .i64 n] w fun e w' => e = .returned (.int .u64 ((1 <<< bitsLen n : Nat) : Int)) ∧ w' = w := Tryz.nextPowerOfTwo n hn w
theorem xor_any (rb X : Nat) (hX : X < 18446744073709551616) (w : World) (hc : w.cell? ⟨rb, 0, none⟩ = some (.int .u64 X)) (hf : w.frozen? ⟨rb, 0, none⟩ = false) :
    Calls Tryz.prog 147 #[.pointer (some ⟨rb, 0, none⟩)] w fun e w' => e = .returned (.int .u64 (xorNextN X : Nat)) ∧ w' = (w.setCell ⟨rb, 0, none⟩ (.int .u64 (xorNextN X : Nat))).drewN 3 := Tryz.xorshift_Next rb 0 X hX w hc hf
theorem swapC_at {gs : Nat} {rv : Value} {enc : α → Value} {w : World} {blk off n : Nat} (hs : ∀ w', SwapC gs rv enc w' blk off n) {dk : Array α} (hk : dk.size = n) {i j : Nat} (hi : i < n) (hj : j < n) {I J : Int} (hI : (i : Int) = I) (hJ : (j : Int) = J) {cb : Nat} {s : Value} {t : TypeId} :
    ∀ W2, SC enc w blk off dk cb s t W2 → Calls Tryz.prog gs #[rv, .int .i64 I, .int .i64 J] W2 fun e w' => e = .returned (.tuple #[]) ∧ SC enc w blk off (swp dk i j) cb s t w' := fun W2 h2 => by
  subst hI hJ
  have hlt : blk < W2.heap.size := Nat.lt_of_lt_of_le h2.si.lt h2.si.gr.size
  have h0 : SI enc W2 blk off dk W2 := ⟨World.grownBy.refl W2 (some blk), h2.si.holds, hlt⟩
  refine (hs W2 W2 dk h0 hk i j hi hj).mono ?_
  rintro e w' ⟨he, h3⟩
  have hne : cb ≠ blk := by have := h2.si.lt; have := h2.hi; omega
  exact ⟨he, ⟨h2.si.gr.trans h3.gr, h3.holds, h2.si.lt⟩, (h3.gr.block cb (blk_lt h2.cnt) (fun e => hne (by injection e))).trans h2.cnt, h2.hi⟩
set_option maxHeartbeats 4000000 in
set_option maxRecDepth 1000000 in
theorem brk_go {T : TypeId} {rv : Value} {gn gl gs : Nat} (hm : Meth T rv gn gl gs) (enc : α → Value) (w : World) (blk off n : Nat) (hs : ∀ w', SwapC gs rv enc w' blk off n) (hn : n < 4611686018427387904)
    (a L : Nat) (hb : a + L ≤ n) (h8 : 8 ≤ L) (W : World) (d : Array α) (hd : d.size = n) (hW : SI enc w blk off d W) :
    Calls Tryz.prog 134 #[.iface T rv, .int .i64 a, .int .i64 ((a + L : Nat) : Int)] W fun e w' => e = .returned (.tuple #[]) ∧ SI enc w blk off (breakPatterns d a (a + L)) w' := by
  have mS := hm.s
  have eS := hm.es
  rw [breakPatterns_eq d a L h8]
  obtain ⟨M, hM⟩ : ∃ M : Nat, M = 1 <<< bitsLen L := ⟨_, rfl⟩
  have hM1 : 1 ≤ M := by rw [hM, Nat.one_shiftLeft]; exact Nat.two_pow_pos _
  have hM2 : M ≤ 2 * L := by rw [hM, Nat.one_shiftLeft]; exact two_pow_bitsLen_le (by omega)
  have HNP := Lib.hid (show ∀ w, Calls Tryz.prog 146 #[.int .i64 (L : Int)] w fun e w' => e = .returned (.int .u64 (M : Int)) ∧ w' = w by rw [hM]; exact fun w => pow_any L (by omega) w)
  rw [← hM]
  clear hM
  have hLz : ((a : Int) + (L : Int) - (a : Int)) = (L : Int) := by omega
  have h8z : (8 : Int) ≤ (L : Int) := by omega
  have hlt : w.heap.size ≤ W.heap.size := hW.gr.size
  have hSC := SC.mk (hW.below (below_alloc (Below.refl W.heap.size W) (.cells #[.int .u64 (L : Int)] 248))) (Go.Proofs.YtgoeiflddikihaaGreatDoor.Ver.alloc_at W (.cells #[.int .u64 (L : Int)] 248)) hlt
  have HSC := Aside0.mk hSC
  have HD := Lib.hid hd
  have HS0 := Lib.hid hs
  clear hW hm hs hSC hd
  go_enter Tryz.func134, Tryz.ntmps134
  go_wp2_with (go_at_call 146; refine (HNP.out _).mono ?_; rintro e w1 ⟨rfl, rfl⟩)
  go_loopg [9] 3 (fun g1 vi wr => ∃ (t : Nat) (r : UInt64) (dk : Array α), vi = .int .i64 ((a : Int) + (L : Int) / 4 * 2 - 1 + (t : Int)) ∧ t ≤ 3 ∧ 3 - t ≤ g1 ∧ Hid (dk.size = n) ∧ Aside0 (SC enc w blk off dk W.heap.size (.int .u64 (r.toNat : Int)) 248 wr) ∧
      Hid (bpRest a L M (a + L / 4 * 2 - 1) (3 - t) t (r, dk) = bpRest a L M (a + L / 4 * 2 - 1) 3 0 (UInt64.ofNat L, d)))
  case atStart =>
    refine ⟨0, UInt64.ofNat L, d, by simp, by omega, by omega, HD, ?_, Lib.hid rfl⟩
    rw [show (UInt64.ofNat L).toNat = L from by simp; omega]
    exact ⟨by repeat (first | exact HSC.out | apply SC.drewN)⟩
  case round =>
    obtain ⟨t, r, dk, rfl, ht, hg1, HK, S, HR⟩ := hrel
    by_cases ht3 : t < 3
    · have hle : (a : Int) + (L : Int) / 4 * 2 - 1 + (t : Int) ≤ (a : Int) + (L : Int) / 4 * 2 + 1 := by omega
      obtain ⟨R, hRr⟩ : ∃ R : Nat, R = r.toNat := ⟨_, rfl⟩
      have lR : R < 18446744073709551616 := by rw [hRr]; exact r.toNat_lt
      obtain ⟨R', hR'⟩ : ∃ R' : Nat, R' = xorNextN R := ⟨_, rfl⟩
      have lR' : R' < 18446744073709551616 := by rw [hR']; exact xorNextN_lt R lR
      obtain ⟨O, hO⟩ : ∃ O : Nat, O = R' &&& (M - 1) := ⟨_, rfl⟩
      have lO : O ≤ M - 1 := by rw [hO]; exact Nat.and_le_right
      have eAnd : bits .and .u64 (R' : Int) ((M : Int) - 1) = (O : Int) := by
        rw [show ((M : Int) - 1) = ((M - 1 : Nat) : Int) by omega, bits_and_u64_nat _ _ lR' (by omega), hO]
      have HNext : Hid (∀ W2, SC enc w blk off dk W.heap.size (.int .u64 (R : Int)) 248 W2 → Calls Tryz.prog 147 #[.pointer (some ⟨W.heap.size, 0, none⟩)] W2 fun e w' => e = .returned (.int .u64 (R' : Int)) ∧ SC enc w blk off dk W.heap.size (.int .u64 (R' : Int)) 248 w') := Lib.hid (fun W2 h2 => by
        rw [hR']
        refine (xor_any _ R lR W2 h2.cell h2.frozen).mono ?_
        rintro e w' ⟨he, rfl⟩
        exact ⟨he, (h2.put _).drewN 3⟩)
      have HN : Hid (R' = (xorNext r).toNat ∧ O = (xorNext r).toNat &&& (M - 1)) := by
        have e : R' = (xorNext r).toNat := by rw [hR', hRr, xorNext_toNat]
        exact ⟨e, by rw [hO, e]⟩
      rw [← hRr] at S
      clear hRr hR' hO
      by_cases hLO : L ≤ O
      · have hLOz : (L : Int) ≤ (O : Int) := by omega
        have H3 := Lib.hid (fun W2 (h2 : SC enc w blk off dk W.heap.size (.int .u64 (R' : Int)) 248 W2) => swapC_at HS0.out HK.out (i := a + L / 4 * 2 - 1 + t) (j := a + (O - L)) (by omega) (by omega) (I := (a : Int) + (L : Int) / 4 * 2 - 1 + (t : Int)) (J := (a : Int) + ((O : Int) - (L : Int))) (by omega) (by omega) W2 h2)
        go_wp2_with (first
          | (go_at_call 147; refine (HNext.out _ (by repeat (first | exact S.out | apply SC.drewN))).mono ?_; rintro e w2 ⟨rfl, hs2⟩; have A2 := Aside0.mk hs2; clear hs2)
          | (go_at_fn gs; refine (H3.out _ (by repeat (first | exact A2.out | apply SC.drewN))).mono ?_; rintro e w3 ⟨rfl, hs3⟩; have A3 := Aside0.mk hs3; clear hs3))
        go_roundg (3 - (t + 1))
        case measure => omega
        case rel => exact ⟨t + 1, xorNext r, swp dk (a + L / 4 * 2 - 1 + t) (a + (O - L)), by congr 1; push_cast; omega, by omega, Nat.le_refl _, Lib.hid (by rw [swp_size]; exact HK.out), by rw [← HN.out.1]; exact A3,
          Lib.hid (by rw [← HR.out, bp_step a L M _ t r dk (O - L) ht3 (by rw [← HN.out.2, if_pos (by omega)])])⟩
      · have hLOz : ¬ (L : Int) ≤ (O : Int) := by omega
        have H3 := Lib.hid (fun W2 (h2 : SC enc w blk off dk W.heap.size (.int .u64 (R' : Int)) 248 W2) => swapC_at HS0.out HK.out (i := a + L / 4 * 2 - 1 + t) (j := a + O) (by omega) (by omega) (I := (a : Int) + (L : Int) / 4 * 2 - 1 + (t : Int)) (J := (a : Int) + (O : Int)) (by omega) (by omega) W2 h2)
        go_wp2_with (first
          | (go_at_call 147; refine (HNext.out _ (by repeat (first | exact S.out | apply SC.drewN))).mono ?_; rintro e w2 ⟨rfl, hs2⟩; have A2 := Aside0.mk hs2; clear hs2)
          | (go_at_fn gs; refine (H3.out _ (by repeat (first | exact A2.out | apply SC.drewN))).mono ?_; rintro e w3 ⟨rfl, hs3⟩; have A3 := Aside0.mk hs3; clear hs3))
        go_roundg (3 - (t + 1))
        case measure => omega
        case rel => exact ⟨t + 1, xorNext r, swp dk (a + L / 4 * 2 - 1 + t) (a + O), by congr 1; push_cast; omega, by omega, Nat.le_refl _, Lib.hid (by rw [swp_size]; exact HK.out), by rw [← HN.out.1]; exact A3,
          Lib.hid (by rw [← HR.out, bp_step a L M _ t r dk O ht3 (by rw [← HN.out.2, if_neg (by omega)])])⟩
    · obtain rfl : t = 3 := by omega
      have hle : ¬ ((a : Int) + (L : Int) / 4 * 2 - 1 + ((3 : Nat) : Int) ≤ (a : Int) + (L : Int) / 4 * 2 + 1) := by omega
      go_wp2
      go_end0
      refine ⟨rfl, ?_⟩
      rw [← HR.out]
      exact S.out.si
set_option maxHeartbeats 1000000 in
theorem brk_any {T : TypeId} {rv : Value} {gn gl gs : Nat} (hm : Meth T rv gn gl gs) (enc : α → Value) (w : World) (blk off n : Nat) (hs : ∀ w', SwapC gs rv enc w' blk off n) (hn : n < 4611686018427387904)
    (a b : Nat) (hab : a ≤ b) (hb : b ≤ n) (W : World) (d : Array α) (hd : d.size = n) (hW : SI enc w blk off d W) :
    Calls Tryz.prog 134 #[.iface T rv, .int .i64 a, .int .i64 b] W fun e w' => e = .returned (.tuple #[]) ∧ SI enc w blk off (breakPatterns d a b) w' := by
  obtain ⟨L, rfl⟩ : ∃ L, b = a + L := ⟨b - a, by omega⟩
  by_cases h8 : 8 ≤ L
  · exact brk_go hm enc w blk off n hs hn a L hb h8 W d hd hW
  · have hv : breakPatterns d a (a + L) = d := by unfold breakPatterns; simp only [Nat.add_sub_cancel_left]; rw [if_neg h8]
    rw [hv]
    have hLz : ((a : Int) + (L : Int) - (a : Int)) = (L : Int) := by omega
    have h8z : ¬ (8 : Int) ≤ (L : Int) := by omega
    have S0 := Aside0.mk hW
    clear hm hs hW hv
    go_enter Tryz.func134, Tryz.ntmps134
    go_wp2
    go_end0
    exact ⟨rfl, by repeat (first | exact S0.out | apply SI.drewN)⟩
end Go.Proofs.YtgoeiflddikihaaGreatDoor.Srt
end
section
namespace Go.Proofs.YtgoeiflddikihaaGreatDoor.Ver
set_option linter.unusedSimpArgs false
open Go.RowKit Go.Proofs.YtgoeiflddikihaaGreatDoorW.PrintWords Go.Proofs.YtgoeiflddikihaaGreatDoor.Ord
theorem at_second (w : World) (a b : Obj) : ((w.alloc a).alloc b).heap[w.heap.size + 1]? = some b := by
  have := alloc_at (w.alloc a) b
  rw [alloc_size] at this
  exact this
def pcs (lo hi : SV) (a b c d : Bool) : Array Value := #[.int .u64 lo.major, .int .u64 lo.minor, .int .u64 lo.patch, .string lo.pre, .string lo.mt, .string lo.orig, .int .u64 hi.major, .int .u64 hi.minor, .int .u64 hi.patch, .string hi.pre, .string hi.mt, .string hi.orig, .bool a, .bool b, .bool c, .bool d, .slice none 0 0]
abbrev bP (la lb lc : Int) (lp lm lo : ByteArray) (ha hb hc : Int) (hp hm ho : ByteArray) (a b c d : Bool) : Obj := .cells #[.int .u64 la, .int .u64 lb, .int .u64 lc, .string lp, .string lm, .string lo, .int .u64 ha, .int .u64 hb, .int .u64 hc, .string hp, .string hm, .string ho, .bool a, .bool b, .bool c, .bool d, .slice none 0 0] 242 (0, 0)
set_option maxRecDepth 20000 in
set_option maxHeartbeats 2000000 in
theorem has_in (lo hi v : SV) (hl : lo.pre.size ≤ 140737488351232) (hh : hi.pre.size ≤ 140737488351232) (hv : v.pre.size ≤ 140737488351232) (c1 : cmpV v lo = 1) (c2 : cmpV v hi = -1) (d : Bool) (w : World) :
    Calls Tryz.prog 300 #[.agg (pcs lo hi true true true d), .agg v.cells] w fun e w' => e = .returned (.bool true) ∧ Below w.heap.size w w' := by
  have HC1 := Lib.hid (fun W => cmp_any v lo hv hl W)
  have HC2 := Lib.hid (fun W => cmp_any v hi hv hh W)
  rw [c1] at HC1
  rw [c2] at HC2
  clear c1 c2
  have HB := Aside0.mk (Below.refl w.heap.size w)
  obtain ⟨la, lb, lc, lp, lm, lo'⟩ := lo
  obtain ⟨ha, hb', hc, hp, hm, ho⟩ := hi
  obtain ⟨va, vb, vc, vp, vm, vo⟩ := v
  dsimp only [SV.cells, pcs] at HC1 HC2 hl hh hv ⊢
  have KP := Aside0.mk (blk_alloc (alloc_at w (bP la lb lc lp lm lo' ha hb' hc hp hm ho true true true d)) (bSV va vb vc vp vm vo))
  have KV := Aside0.mk (at_second w (bP la lb lc lp lm lo' ha hb' hc hp hm ho true true true d) (bSV va vb vc vp vm vo))
  go_enter Tryz.func300, Tryz.ntmps300
  go_wp2_with (first
    | (go_at_call 209; ((with_reducible refine (HC1.out _).mono ?_); rintro e w1 ⟨rfl, hb1⟩; refine Hid.out ?_)))
  have KP1 := Aside0.mk (blk_below KP.out hb1)
  have KV1 := Aside0.mk (blk_below KV.out hb1)
  have HB4 := Aside0.mk (below_trans (by repeat (first | exact HB.out | apply below_alloc | apply pw_below_drewN)) hb1)
  clear hb1
  have p0 := blk_cell KP1.out 0
  have p1 := blk_cell KP1.out 1
  have p2 := blk_cell KP1.out 2
  have p3 := blk_cell KP1.out 3
  have p4 := blk_cell KP1.out 4
  have p5 := blk_cell KP1.out 5
  have p6 := blk_cell KP1.out 6
  have p7 := blk_cell KP1.out 7
  have p8 := blk_cell KP1.out 8
  have p9 := blk_cell KP1.out 9
  have p10 := blk_cell KP1.out 10
  have p11 := blk_cell KP1.out 11
  have p12 := blk_cell KP1.out 12
  have p13 := blk_cell KP1.out 13
  have p14 := blk_cell KP1.out 14
  have p15 := blk_cell KP1.out 15
  have p16 := blk_cell KP1.out 16
  have q0 := blk_cell KV1.out 0
  have q1 := blk_cell KV1.out 1
  have q2 := blk_cell KV1.out 2
  have q3 := blk_cell KV1.out 3
  have q4 := blk_cell KV1.out 4
  have q5 := blk_cell KV1.out 5
  refine Lib.hid ?_
  go_wp2_with (first
    | (go_at_call 209; ((with_reducible refine (HC2.out _).mono ?_); rintro e w2 ⟨rfl, hb2⟩; refine Hid.out ?_)))
  clear p0 p1 p2 p3 p4 p5 p6 p7 p8 p9 p10 p11 p12 p13 p14 p15 p16
  clear q0 q1 q2 q3 q4 q5
  have KP2 := Aside0.mk (blk_below KP1.out hb2)
  have HB5 := Aside0.mk (below_trans HB4.out hb2)
  clear hb2
  have p0 := blk_cell KP2.out 0
  have p1 := blk_cell KP2.out 1
  have p2 := blk_cell KP2.out 2
  have p3 := blk_cell KP2.out 3
  have p4 := blk_cell KP2.out 4
  have p5 := blk_cell KP2.out 5
  have p6 := blk_cell KP2.out 6
  have p7 := blk_cell KP2.out 7
  have p8 := blk_cell KP2.out 8
  have p9 := blk_cell KP2.out 9
  have p10 := blk_cell KP2.out 10
  have p11 := blk_cell KP2.out 11
  have p12 := blk_cell KP2.out 12
  have p13 := blk_cell KP2.out 13
  have p14 := blk_cell KP2.out 14
  have p15 := blk_cell KP2.out 15
  have p16 := blk_cell KP2.out 16
  refine Lib.hid ?_
  go_wp2_with fail
  refine wp_loop_rounds 1 ?_
  rw [rounds_succ]
  go_wp2_with fail
  go_ret
  exact ⟨rfl, by repeat (first | exact HB5.out | apply below_alloc | apply pw_below_drewN)⟩
set_option maxRecDepth 20000 in
set_option maxHeartbeats 2000000 in
theorem empty_in (lo hi : SV) (hl : lo.pre.size ≤ 140737488351232) (hh : hi.pre.size ≤ 140737488351232) (c1 : cmpV lo hi = -1) (c d : Bool) (w : World) :
    Calls Tryz.prog 299 #[.agg (pcs lo hi true true c d)] w fun e w' => e = .returned (.bool false) ∧ Below w.heap.size w w' := by
  have HC1 := Lib.hid (fun W => cmp_any lo hi hl hh W)
  rw [c1] at HC1
  clear c1
  have HB := Aside0.mk (Below.refl w.heap.size w)
  obtain ⟨la, lb, lc, lp, lm, lo'⟩ := lo
  obtain ⟨ha, hb', hc, hp, hm, ho⟩ := hi
  dsimp only [SV.cells, pcs] at HC1 hl hh ⊢
  go_enter Tryz.func299, Tryz.ntmps299
  go_wp2_with (first
    | (go_at_call 209; ((with_reducible refine (HC1.out _).mono ?_); rintro e w1 ⟨rfl, hb1⟩; have HB5 := Aside0.mk (below_trans (by repeat (first | exact HB.out | apply below_alloc | apply pw_below_drewN)) hb1); clear hb1)))
  go_ret
  exact ⟨rfl, by repeat (first | exact HB5.out | apply below_alloc | apply pw_below_drewN)⟩
end Go.Proofs.YtgoeiflddikihaaGreatDoor.Ver
end
section
namespace Go.Proofs.YtgoeiflddikihaaGreatDoor.Ver
set_option linter.unusedSimpArgs false
open Go.RowKit Go.Proofs.YtgoeiflddikihaaGreatDoorW.PrintWords Go.Proofs.YtgoeiflddikihaaGreatDoor.Ord
structure Pcell (cs : Array Value) : Prop where
  size : cs.size = 17
  one : cs.all (·.oneCell') = true
theorem sizeP : (Tryz.prog.info? 242).map (·.size) = some 17 := by kernel_rfl
theorem Pcell.info {cs : Array Value} (h : Pcell cs) : (Tryz.prog.info? 242).map (·.size) = some cs.size := by rw [h.size]; exact sizeP
abbrev zP : Array Value := #[.int .u64 0, .int .u64 0, .int .u64 0, .string ⟨#[]⟩, .string ⟨#[]⟩, .string ⟨#[]⟩, .int .u64 0, .int .u64 0, .int .u64 0, .string ⟨#[]⟩, .string ⟨#[]⟩, .string ⟨#[]⟩, .bool false, .bool false, .bool false, .bool false, .slice none 0 0]
theorem pcell_pcs (lo hi : SV) (a b c d : Bool) : Pcell (pcs lo hi a b c d) := ⟨rfl, by simp [pcs, Value.oneCell']⟩
theorem pcell_z : Pcell zP := ⟨rfl, by simp [Value.oneCell']⟩
theorem row_range {w : World} {base n cap g : Nat} {cs : Array Value} (h : w.ownsRow base 242 17 (.slice (some ⟨g, 0, none⟩) n cap) n cs.toList) (hn : cs.size = n * 17) : w.rangeAt g 0 cs.toList := by
  intro j v hv
  have hj : j < cs.size := by
    have := (List.getElem?_eq_some_iff.1 hv).1
    simpa using this
  rw [Nat.zero_add, h.cellAt j (by omega)]
  exact hv
theorem at_third' (w : World) (a b c : Obj) : (((w.alloc a).alloc b).alloc c).heap[w.heap.size + 1 + 1]? = some c := by
  have := alloc_at ((w.alloc a).alloc b) c
  rw [alloc_size, alloc_size] at this
  exact this
set_option maxRecDepth 20000 in
set_option maxHeartbeats 2000000 in
theorem range_in (cs : Array Value) (hcs : Pcell cs) (v : SV) (base : Nat) (rv : Value) (w : World) (hown : w.ownsRow base 242 17 rv 1 cs.toList)
    (hhas : ∀ W, Calls Tryz.prog 300 #[.agg cs, .agg v.cells] W fun e w' => e = .returned (.bool true) ∧ Below W.heap.size W w') :
    Calls Tryz.prog 296 #[.agg #[rv], .agg v.cells] w fun e w' => e = .returned .nilIface ∧ Below w.heap.size w w' := by
  have HH := Lib.hid hhas
  have HB := Aside0.mk (Below.refl w.heap.size w)
  obtain ⟨g, cap, rfl, hg1, hg2⟩ := hown.form (by omega)
  have HR := Aside0.mk (row_range hown (by rw [hcs.size]))
  have HS := Aside0.mk hcs
  obtain ⟨va, vb, vc, vp, vm, vo⟩ := v
  dsimp only [SV.cells] at HH ⊢
  clear hown hg1 hhas hcs
  go_enter Tryz.func296, Tryz.ntmps296
  go_wp2_with fail
  refine wp_loop_rounds 1 ?_
  rw [rounds_succ]
  have W1 := Aside0.mk (below_alloc (below_alloc HB.out (.cells #[.slice (some ⟨g, 0, none⟩) 1 cap] 238)) (bSV va vb vc vp vm vo))
  have R1 := Aside0.mk (show ((w.alloc (.cells #[.slice (some ⟨g, 0, none⟩) 1 cap] 238)).alloc (bSV va vb vc vp vm vo)).rangeAt g 0 cs.toList from fun j x hx => (W1.out.cell (p := ⟨g, 0 + j, none⟩) hg2).trans (HR.out j x hx))
  have S1 := Lib.hid (show zP.size = cs.size by rw [HS.out.size]; rfl)
  have K6 := Aside0.mk (setRow_heap _ _ _ cs _ _ (at_third' w (.cells #[.slice (some ⟨g, 0, none⟩) 1 cap] 238) (bSV va vb vc vp vm vo) (.cells zP 242)))
  have K3 := Aside0.mk ((setRow_other (((w.alloc (.cells #[.slice (some ⟨g, 0, none⟩) 1 cap] 238)).alloc (bSV va vb vc vp vm vo)).alloc (.cells zP 242)) (w.heap.size + 1 + 1) (w.heap.size + 1) cs (by omega)).trans (blk_alloc (at_second w (.cells #[.slice (some ⟨g, 0, none⟩) 1 cap] 238) (bSV va vb vc vp vm vo)) _))
  have B5 := Aside0.mk (below_setRow (below_alloc W1.out (.cells zP 242)) (g := w.heap.size + 1 + 1) (by omega) cs)
  have HW5 : ∃ W5, W5 = ((((w.alloc (.cells #[.slice (some ⟨g, 0, none⟩) 1 cap] 238)).alloc (bSV va vb vc vp vm vo)).alloc (.cells zP 242)).setRow (w.heap.size + 1 + 1) cs) := ⟨_, rfl⟩
  obtain ⟨W5, hW5⟩ := HW5
  rw [← hW5] at K6 K3 B5
  have HW := Lib.hid hW5
  clear hW5
  go_wp2_with (first
    | (refine wpList_load_mid rfl 242 (.tmp 12) rfl g 0 rfl cs.toList _ R1.out Tryz.underlying242 rfl (by simpa using HS.out.info) ?_)
    | (refine wpList_store_row (by rfl) 242 (.tmp 6) (.tmp 13) (by rfl) (w.heap.size + 1 + 1) cs (by rfl) (by rfl) 242 zP (at_third' w _ _ _) HS.out.info S1.out HS.out.one ?_; rw [← HW.out])
    | (refine wpList_load_row (by rfl) 242 (.tmp 6) (by rfl) (w.heap.size + 1 + 1) (by rfl) 242 cs (0, 0) _ K6.out Tryz.underlying242 rfl HS.out.info ?_)
    | (refine wpList_load_row (by rfl) 197 (.tmp 3) (by rfl) (w.heap.size + 1) (by rfl) 197 #[.int .u64 va, .int .u64 vb, .int .u64 vc, .string vp, .string vm, .string vo] (0, 0) _ K3.out Tryz.underlying197 rfl (by kernel_rfl) ?_)
    | (go_at_call 300; ((with_reducible refine (HH.out _).mono ?_); rintro e w9 ⟨rfl, hb1⟩; have HB9 := Aside0.mk (below_trans B5.out hb1); clear hb1)))
  go_ret
  exact ⟨rfl, HB9.out⟩
end Go.Proofs.YtgoeiflddikihaaGreatDoor.Ver
end
