/- Merged by program out of: Sort4, Sort5. -/
import Derived.Test.YtgoeiflddikihaaGreatDoorCsoM14
import Derived.Test.YtgoeiflddikihaaGreatDoorCsoM10
import Derived.Sort.Walk11
import Derived.Sort.LotD4
import Derived.Sort.LotD1
import Derived.Sort.WalkA6
import Derived.Sort.Walk7
import Derived.Sort.Walk7a
import Derived.Shelf.GgSortFunc.LotD
import Derived.RegionTactic
import Derived.BigRegion
import Derived.Test.YtgoeiflddikihaaGreatDoorCsoM2
import Derived.Shelf.GgSortFunc.Partition
section
namespace Go.Proofs.YtgoeiflddikihaaGreatDoor.Srt
open Go.RowKit Go.Proofs.YtgoeiflddikihaaGreatDoorW.PrintWords Go.Sort
variable {α : Type} [Inhabited α]
structure SC (enc : α → Value) (w : World) (blk off : Nat) (d : Array α) (cb : Nat) (s : Value) (t : TypeId) (W : World) : Prop where
  si : SI enc w blk off d W
  cnt : W.heap[cb]? = some (.cells #[s] t (0, 0))
  hi : w.heap.size ≤ cb
theorem SC.below {enc : α → Value} {w : World} {blk off : Nat} {d : Array α} {cb : Nat} {s : Value} {t : TypeId} {W W' : World} (h : SC enc w blk off d cb s t W) (hb : Below W.heap.size W W') : SC enc w blk off d cb s t W' :=
  ⟨h.si.below hb, blk_below h.cnt hb, h.hi⟩
theorem SC.drewN {enc : α → Value} {w : World} {blk off : Nat} {d : Array α} {cb : Nat} {s : Value} {t : TypeId} {W : World} (h : SC enc w blk off d cb s t W) (n : Nat) : SC enc w blk off d cb s t (W.drewN n) := h.below (pw_below_drewN (Below.refl _ _) n)
theorem SI.setNew {enc : α → Value} {w : World} {blk off : Nat} {d : Array α} {W : World} (h : SI enc w blk off d W) {cb : Nat} (hi : w.heap.size ≤ cb) (o : Nat) (u : Value) : SI enc w blk off d (W.setCell ⟨cb, o, none⟩ u) := by
  have hne : cb ≠ blk := by have := h.lt; omega
  refine ⟨?_, fun j hj => ?_, h.lt⟩
  · exact ⟨h.gr.os, h.gr.tape, h.gr.output, by rw [show (W.setCell ⟨cb, o, none⟩ u).heap.size = W.heap.size by simp [World.setCell]]; exact h.gr.size, fun k hk hr => (RowKit.Below.heap_setCell W ⟨cb, o, none⟩ u k (by show k ≠ cb; omega)).trans (h.gr.block k hk hr)⟩
  · obtain ⟨h1, h2⟩ := h.holds j hj
    refine ⟨?_, by rw [World.frozen?_setCell]; exact h2⟩
    rw [World.cell?_setCell_other _ _ _ _ (by intro e'; injection e' with e1 _; exact hne e1)]
    exact h1
theorem SC.put {enc : α → Value} {w : World} {blk off : Nat} {d : Array α} {cb : Nat} {s : Value} {t : TypeId} {W : World} (h : SC enc w blk off d cb s t W) (u : Value) : SC enc w blk off d cb u t (W.setCell ⟨cb, 0, none⟩ u) :=
  ⟨h.si.setNew h.hi 0 u, blk_put (cs' := #[u]) h.cnt 0 u rfl, h.hi⟩
theorem SC.cell {enc : α → Value} {w : World} {blk off : Nat} {d : Array α} {cb : Nat} {s : Value} {t : TypeId} {W : World} (h : SC enc w blk off d cb s t W) : W.cell? ⟨cb, 0, none⟩ = some s := by
  have := blk_cell h.cnt 0
  exact this
theorem SC.frozen {enc : α → Value} {w : World} {blk off : Nat} {d : Array α} {cb : Nat} {s : Value} {t : TypeId} {W : World} (h : SC enc w blk off d cb s t W) : W.frozen? ⟨cb, 0, none⟩ = false := blk_frozen h.cnt 0
set_option maxHeartbeats 1000000 in
set_option maxRecDepth 100000 in
theorem order2_any {T : TypeId} {rv : Value} {gn gl gs : Nat} (hm : Meth T rv gn gl gs) (enc : α → Value) (lt : α → α → Bool) (w : World) (blk off n : Nat) (hl : LessC gl rv enc lt w blk off n)
    (a b cb s : Nat) (t : TypeId) (ha : a < n) (hb : b < n) (hs : s < 4611686018427387904) (W : World) (d : Array α) (hd : d.size = n) (hW : SC enc w blk off d cb (.int .i64 s) t W) :
    Calls Tryz.prog 154 #[.iface T rv, .int .i64 a, .int .i64 b, .pointer (some ⟨cb, 0, none⟩)] W fun e w' =>
      e = .returned (.tuple #[.int .i64 (order2 lt d a b s).1, .int .i64 (order2 lt d a b s).2.1]) ∧ SC enc w blk off d cb (.int .i64 (order2 lt d a b s).2.2) t w' := by
  have mL := hm.l
  have eL := hm.el
  have H1 := Lib.hid (hl W d hW.si hd b a hb ha)
  have HW := Aside0.mk hW
  clear hW hm hl hd
  cases hlv : lt d[b]! d[a]! with
  | true =>
    have H1 : Hid (Calls Tryz.prog gl #[rv, .int .i64 b, .int .i64 a] W fun e w' => e = .returned (.bool true) ∧ Below W.heap.size W w') := Lib.hid (by have := H1.out; rw [hlv] at this; exact this)
    have e2 : order2 lt d a b s = (b, a, s + 1) := by simp [order2, hlv]
    rw [e2]
    clear hlv e2
    go_enter Tryz.func154, Tryz.ntmps154
    go_wp2_with (go_at_fn gl; refine H1.out.mono ?_; rintro e w1 ⟨rfl, hb1⟩; have A1 := Aside0.mk (HW.out.below hb1); clear hb1; have cc := A1.out.cell; have cf := A1.out.frozen)
    go_ret2
    exact ⟨rfl, by have := (A1.out.put (.int .i64 ((s : Int) + 1))); simpa using this⟩
  | false =>
    have H1 : Hid (Calls Tryz.prog gl #[rv, .int .i64 b, .int .i64 a] W fun e w' => e = .returned (.bool false) ∧ Below W.heap.size W w') := Lib.hid (by have := H1.out; rw [hlv] at this; exact this)
    have e2 : order2 lt d a b s = (a, b, s) := by simp [order2, hlv]
    rw [e2]
    clear hlv e2
    go_enter Tryz.func154, Tryz.ntmps154
    go_wp2_with (go_at_fn gl; refine H1.out.mono ?_; rintro e w1 ⟨rfl, hb1⟩; have A1 := Aside0.mk (HW.out.below hb1); clear hb1)
    go_ret2
    exact ⟨rfl, A1.out⟩
set_option maxHeartbeats 1000000 in
set_option maxRecDepth 100000 in
theorem median_any {T : TypeId} {rv : Value} {gn gl gs : Nat} (hm : Meth T rv gn gl gs) (enc : α → Value) (lt : α → α → Bool) (w : World) (blk off n : Nat) (hl : LessC gl rv enc lt w blk off n)
    (a b c cb s : Nat) (t : TypeId) (ha : a < n) (hb : b < n) (hc : c < n) (hs : s + 3 < 4611686018427387904) (W : World) (d : Array α) (hd : d.size = n) (hW : SC enc w blk off d cb (.int .i64 s) t W) :
    Calls Tryz.prog 149 #[.iface T rv, .int .i64 a, .int .i64 b, .int .i64 c, .pointer (some ⟨cb, 0, none⟩)] W fun e w' =>
      e = .returned (.int .i64 (median lt d a b c s).1) ∧ SC enc w blk off d cb (.int .i64 (median lt d a b c s).2) t w' := by
  have l1 := order2_lt' lt d s ha hb
  have s1 := order2_swaps' lt d a b s
  have l2 := order2_lt' lt d (order2 lt d a b s).2.2 l1.2 hc
  have s2 := order2_swaps' lt d (order2 lt d a b s).2.1 c (order2 lt d a b s).2.2
  have H1 := Lib.hid (order2_any hm enc lt w blk off n hl a b cb s t ha hb (by omega) W d hd hW)
  have H2 := Lib.hid (fun W2 h2 => order2_any hm enc lt w blk off n hl (order2 lt d a b s).2.1 c cb (order2 lt d a b s).2.2 t l1.2 hc (by omega) W2 d hd h2)
  have H3 := Lib.hid (fun W2 h2 => order2_any hm enc lt w blk off n hl (order2 lt d a b s).1 (order2 lt d (order2 lt d a b s).2.1 c (order2 lt d a b s).2.2).1 cb (order2 lt d (order2 lt d a b s).2.1 c (order2 lt d a b s).2.2).2.2 t l1.1 l2.1 (by omega) W2 d hd h2)
  unfold median
  clear hW hm hl l1 s1 l2 s2 hd
  dsimp only
  generalize order2 lt d a b s = r1 at *
  obtain ⟨x1, y1, z1⟩ := r1
  dsimp only at *
  generalize order2 lt d y1 c z1 = r2 at *
  obtain ⟨x2, y2, z2⟩ := r2
  dsimp only at *
  generalize order2 lt d x1 x2 z2 = r3 at *
  obtain ⟨x3, y3, z3⟩ := r3
  dsimp only at *
  go_enter Tryz.func149, Tryz.ntmps149
  go_wp2_with (go_at_call 154; refine H1.out.mono ?_; rintro e w1 ⟨rfl, hs1⟩; have A1 := Aside0.mk hs1; clear hs1; refine Hid.out ?_)
  refine Lib.hid ?_
  go_wp2_with (go_at_call 154; refine (H2.out _ (by repeat (first | exact A1.out | apply SC.drewN))).mono ?_; rintro e w2 ⟨rfl, hs2⟩; have A2 := Aside0.mk hs2; clear hs2; refine Hid.out ?_)
  refine Lib.hid ?_
  go_wp2_with (go_at_call 154; refine (H3.out _ (by repeat (first | exact A2.out | apply SC.drewN))).mono ?_; rintro e w3 ⟨rfl, hs3⟩; have A3 := Aside0.mk hs3; clear hs3)
  go_ret
  exact ⟨rfl, A3.out⟩
set_option maxHeartbeats 2000000 in
set_option maxRecDepth 100000 in
theorem pivot_any {T : TypeId} {rv : Value} {gn gl gs : Nat} (hm : Meth T rv gn gl gs) (enc : α → Value) (lt : α → α → Bool) (w : World) (blk off n : Nat) (hl : LessC gl rv enc lt w blk off n) (hn : n < 50)
    (a b : Nat) (hab : a < b) (hb : b ≤ n) (W : World) (d : Array α) (hd : d.size = n) (hW : SI enc w blk off d W) :
    Calls Tryz.prog 135 #[.iface T rv, .int .i64 a, .int .i64 b] W fun e w' =>
      e = .returned (.tuple #[.int .i64 (choosePivot lt d a b).1, .int .i64 (hintCode (choosePivot lt d a b).2)]) ∧ SI enc w blk off d w' := by
  rw [choosePivot_eq]
  obtain ⟨I, hI⟩ : ∃ I : Nat, I = a + (b - a) / 4 * 1 := ⟨_, rfl⟩
  obtain ⟨J, hJ⟩ : ∃ J : Nat, J = a + (b - a) / 4 * 2 := ⟨_, rfl⟩
  obtain ⟨K, hK⟩ : ∃ K : Nat, K = a + (b - a) / 4 * 3 := ⟨_, rfl⟩
  have eI : ((a : Int) + ((b : Int) - (a : Int)) / 4) = (I : Int) := by omega
  have eJ : ((a : Int) + ((b : Int) - (a : Int)) / 4 * 2) = (J : Int) := by omega
  have eK : ((a : Int) + ((b : Int) - (a : Int)) / 4 * 3) = (K : Int) := by omega
  have h50z : ¬ ((b : Int) - (a : Int) ≥ 50) := by omega
  have hlt : w.heap.size ≤ W.heap.size := hW.gr.size
  have hSC := SC.mk (hW.below (below_alloc (Below.refl W.heap.size W) (.cells #[.int .i64 0] 3))) (Go.Proofs.YtgoeiflddikihaaGreatDoor.Ver.alloc_at W (.cells #[.int .i64 0] 3)) hlt
  by_cases h8 : b - a ≥ 8
  · obtain ⟨p, s, h4⟩ : ∃ p s, median lt d I J K 0 = (p, s) := ⟨_, _, rfl⟩
    have hraw : rawPivot lt d a b = (p, s) := by simp only [rawPivot, if_pos h8, if_neg (show ¬ b - a ≥ 50 by omega), ← hI, ← hJ, ← hK, h4]
    have c4 := median_any hm enc lt w blk off n hl I J K W.heap.size 0 3 (by omega) (by omega) (by omega) (by omega) _ d hd hSC
    rw [h4] at c4
    have C4 := Lib.hid c4
    rw [hraw]
    obtain ⟨Hc, hHc⟩ : ∃ Hc : Int, Hc = hintCode (hintOf s) := ⟨_, rfl⟩
    have hh0 : s = 0 → Hc = 1 := fun h => by rw [hHc, h]; rfl
    have hh12 : s = 12 → Hc = 2 := fun h => by rw [hHc, h]; rfl
    have hhx : s ≠ 0 → s ≠ 12 → Hc = 0 := fun h1 h2 => by rw [hHc]; unfold hintOf; rw [if_neg h1, if_neg h2]; rfl
    have HH0 := Lib.hid hh0
    have HH12 := Lib.hid hh12
    have HHX := Lib.hid hhx
    show Calls Tryz.prog 135 _ W fun e w' => e = .returned (.tuple #[.int .i64 (p : Int), .int .i64 (hintCode (hintOf s))]) ∧ SI enc w blk off d w'
    rw [← hHc]
    have h8z : (8 : Int) ≤ (b : Int) - (a : Int) := by omega
    clear hHc hraw h4 hI hJ hK hm hl hW c4 hh0 hh12 hhx hSC h8 hd
    go_enter Tryz.func135, Tryz.ntmps135
    go_wp2_with (go_at_call 149; refine C4.out.mono ?_; rintro e w1 ⟨rfl, hs1⟩; have A1 := Aside0.mk hs1; clear hs1; have cc := A1.out.cell; have cf := A1.out.frozen)
    all_goals
      go_ret2
      refine ⟨?_, by repeat (first | exact A1.out.si | apply SI.drewN)⟩
      first
        | (have e0 : (s : Int) = 0 := of_beq_int (by assumption)
           rw [HH0.out (by omega)]; rfl)
        | (have e1 : (s : Int) = 12 := of_beq_int (by assumption)
           rw [HH12.out (by omega)]; rfl)
        | (have e0 : (s : Int) ≠ 0 := of_bne_int (by assumption)
           have e1 : (s : Int) ≠ 12 := of_bne_int (by assumption)
           rw [HHX.out (by omega) (by omega)]; rfl)
        | (rw [HH0.out (by omega)]; rfl)
  · have hraw : rawPivot lt d a b = (J, 0) := by simp only [rawPivot, if_neg h8, ← hJ]
    rw [hraw]
    have h8z : ¬ ((8 : Int) ≤ (b : Int) - (a : Int)) := by omega
    have HS := Aside0.mk hSC
    have cc := hSC.cell
    have cf := hSC.frozen
    clear hraw hI hJ hK hm hl hW hSC h8 hd
    show Calls Tryz.prog 135 _ W fun e w' => e = .returned (.tuple #[.int .i64 (J : Int), .int .i64 1]) ∧ SI enc w blk off d w'
    go_enter Tryz.func135, Tryz.ntmps135
    go_wp2
    all_goals
      go_ret2
      exact ⟨rfl, by repeat (first | exact HS.out.si | apply SI.drewN)⟩
set_option maxHeartbeats 2000000 in
set_option maxRecDepth 100000 in
theorem part_ins_any {T : TypeId} {rv : Value} {gn gl gs : Nat} (hm : Meth T rv gn gl gs) (enc : α → Value) (lt : α → α → Bool) (w : World) (blk off n : Nat) (hl : LessC gl rv enc lt w blk off n) (hn : n < 50)
    (a b : Nat) (hab : a < b) (hb : b ≤ n) (W : World) (d : Array α) (hd : d.size = n) (hW : SI enc w blk off d W) :
    Calls Tryz.prog 137 #[.iface T rv, .int .i64 a, .int .i64 b] W fun e w' =>
      e = .returned (.bool (Sort.partialInsertionSort lt d a b).2) ∧ SI enc w blk off (Sort.partialInsertionSort lt d a b).1 w' := by
  have mL := hm.l
  have eL := hm.el
  have HL := Lib.hid hl
  have HD := Lib.hid hd
  have HW := Aside0.mk hW
  have h50z : (b : Int) - (a : Int) < 50 := by omega
  clear hW hm hl hd
  go_enter Tryz.func137, Tryz.ntmps137
  go_wp2
  refine wp_loop_rounds 1 ?_
  rw [rounds_succ]
  go_wp2_with fail
  go_loopg [7] (b - (a + 1)) (fun g2 vi wr2 => ∃ (kx : Nat), vi = .int .i64 kx ∧ a + 1 ≤ kx ∧ kx ≤ b ∧ b - kx ≤ g2 ∧ Aside0 (SI enc w blk off d wr2) ∧ Hid (scanSorted lt d b kx = scanSorted lt d b (a + 1)))
  case atStart => exact ⟨a + 1, by go_num, by omega, by omega, by omega, HW, Lib.hid rfl⟩
  case round =>
    obtain ⟨kx, rfl, hik, hkb, hg2, S, HSc⟩ := hrel
    by_cases hkb' : kx < b
    · have hkz : (kx : Int) < (b : Int) := by omega
      cases hlv : lt d[kx]! d[kx - 1]! with
      | false =>
        have H1 := Lib.hid (lessAt HL.out HD.out (i := kx) (j := kx - 1) (by omega) (by omega) hlv (I := (kx : Int)) (J := (kx : Int) - 1) rfl (by omega))
        have HQ := Lib.hid hlv
        clear hlv
        go_wp2_with (go_at_fn gl; refine (H1.out _ (by repeat (first | exact S.out | apply SI.drewN))).mono ?_; rintro e w1 ⟨rfl, hs1⟩; have A1 := Aside0.mk hs1; clear hs1)
        go_roundg (b - (kx + 1))
        case measure => omega
        case rel => exact ⟨kx + 1, by go_num, by omega, by omega, Nat.le_refl _, A1, Lib.hid (by rw [← HSc.out, scanSorted_go lt d b kx hkb' HQ.out])⟩
      | true =>
        have H1 := Lib.hid (lessAt HL.out HD.out (i := kx) (j := kx - 1) (by omega) (by omega) hlv (I := (kx : Int)) (J := (kx : Int) - 1) rfl (by omega))
        have HK : Hid (scanSorted lt d b (a + 1) = kx) := Lib.hid (by rw [← HSc.out, scanSorted_stop lt d b kx (Or.inr hlv)])
        have hkne : ((kx : Int) == (b : Int)) = false := beq_eq_false_iff_ne.2 (by omega)
        have HV : Hid (Sort.partialInsertionSort lt d a b = (d, false)) := Lib.hid (by
          unfold Sort.partialInsertionSort
          exact pi_short lt a b 0 (a + 1) d (by omega) (by rw [HK.out]; omega) (by omega))
        clear hlv
        go_wp2_with (go_at_fn gl; refine (H1.out _ (by repeat (first | exact S.out | apply SI.drewN))).mono ?_; rintro e w1 ⟨rfl, hs1⟩; have A1 := Aside0.mk hs1; clear hs1)
        rw [HV.out]
        go_ret
        exact ⟨rfl, A1.out⟩
    · have hkz : ¬ ((kx : Int) < (b : Int)) := by omega
      obtain rfl : kx = b := by omega
      have HK : Hid (scanSorted lt d kx (a + 1) = kx) := Lib.hid (by rw [← HSc.out, scanSorted_stop lt d kx kx (Or.inl (by omega))])
      have HV : Hid (Sort.partialInsertionSort lt d a kx = (d, true)) := Lib.hid (by
        unfold Sort.partialInsertionSort
        exact pi_true lt a kx 0 (a + 1) d (by omega) HK.out)
      clear hkb'
      go_wp2
      rw [HV.out]
      go_ret
      exact ⟨rfl, by repeat (first | exact S.out | apply SI.drewN)⟩
end Go.Proofs.YtgoeiflddikihaaGreatDoor.Srt
end
section
namespace Go.Proofs.YtgoeiflddikihaaGreatDoor.Srt
open Go.RowKit Go.Proofs.YtgoeiflddikihaaGreatDoorW.PrintWords Go.Sort
variable {α : Type} [Inhabited α]
theorem pow_any (n : Nat) (hn : n < 4611686018427387904) (w : World) :
    Calls Tryz.prog 146 #[.int .i64 n] w fun e w' => e = .returned (.int .u64 ((1 <<< bitsLen n : Nat) : Int)) ∧ w' = w := Tryz.nextPowerOfTwo n hn w
theorem xor_any (rb X : Nat) (hX : X < 18446744073709551616) (w : World) (hc : w.cell? ⟨rb, 0, none⟩ = some (.int .u64 X)) (hf : w.frozen? ⟨rb, 0, none⟩ = false) :
    Calls Tryz.prog 147 #[.pointer (some ⟨rb, 0, none⟩)] w fun e w' => e = .returned (.int .u64 (xorNextN X : Nat)) ∧ w' = (w.setCell ⟨rb, 0, none⟩ (.int .u64 (xorNextN X : Nat))).drewN 3 := Tryz.xorshift_Next rb 0 X hX w hc hf
theorem swapC_at {gs : Nat} {rv : Value} {enc : α → Value} {w : World} {blk off n : Nat} (hs : ∀ w', SwapC gs rv enc w' blk off n) {dk : Array α} (hk : dk.size = n) {i j : Nat} (hi : i < n) (hj : j < n) {I J : Int} (hI : (i : Int) = I) (hJ : (j : Int) = J) {cb : Nat} {s : Value} {t : TypeId} :
    ∀ W2, SC enc w blk off dk cb s t W2 → Calls Tryz.prog gs #[rv, .int .i64 I, .int .i64 J] W2 fun e w' => e = .returned (.tuple #[]) ∧ SC enc w blk off (swp dk i j) cb s t w' := fun W2 h2 => by
  subst hI hJ
  have hlt : blk < W2.heap.size := Nat.lt_of_lt_of_le h2.si.lt h2.si.gr.size
  have h0 : SI enc W2 blk off dk W2 := ⟨World.grownBy.refl W2 (some blk), h2.si.holds, hlt⟩
  refine (hs W2 W2 dk h0 hk i j hi hj).mono ?_
  rintro e w' ⟨he, h3⟩
  have hne : cb ≠ blk := by have := h2.si.lt; have := h2.hi; omega
  exact ⟨he, ⟨h2.si.gr.trans h3.gr, h3.holds, h2.si.lt⟩, (h3.gr.block cb (blk_lt h2.cnt) (fun e => hne (by injection e))).trans h2.cnt, h2.hi⟩
set_option maxHeartbeats 4000000 in
set_option maxRecDepth 1000000 in
theorem brk_go {T : TypeId} {rv : Value} {gn gl gs : Nat} (hm : Meth T rv gn gl gs) (enc : α → Value) (w : World) (blk off n : Nat) (hs : ∀ w', SwapC gs rv enc w' blk off n) (hn : n < 4611686018427387904)
    (a L : Nat) (hb : a + L ≤ n) (h8 : 8 ≤ L) (W : World) (d : Array α) (hd : d.size = n) (hW : SI enc w blk off d W) :
    Calls Tryz.prog 134 #[.iface T rv, .int .i64 a, .int .i64 ((a + L : Nat) : Int)] W fun e w' => e = .returned (.tuple #[]) ∧ SI enc w blk off (breakPatterns d a (a + L)) w' := by
  have mS := hm.s
  have eS := hm.es
  rw [breakPatterns_eq d a L h8]
  obtain ⟨M, hM⟩ : ∃ M : Nat, M = 1 <<< bitsLen L := ⟨_, rfl⟩
  have hM1 : 1 ≤ M := by rw [hM, Nat.one_shiftLeft]; exact Nat.two_pow_pos _
  have hM2 : M ≤ 2 * L := by rw [hM, Nat.one_shiftLeft]; exact two_pow_bitsLen_le (by omega)
  have HNP := Lib.hid (show ∀ w, Calls Tryz.prog 146 #[.int .i64 (L : Int)] w fun e w' => e = .returned (.int .u64 (M : Int)) ∧ w' = w by rw [hM]; exact fun w => pow_any L (by omega) w)
  rw [← hM]
  clear hM
  have hLz : ((a : Int) + (L : Int) - (a : Int)) = (L : Int) := by omega
  have h8z : (8 : Int) ≤ (L : Int) := by omega
  have hlt : w.heap.size ≤ W.heap.size := hW.gr.size
  have hSC := SC.mk (hW.below (below_alloc (Below.refl W.heap.size W) (.cells #[.int .u64 (L : Int)] 248))) (Go.Proofs.YtgoeiflddikihaaGreatDoor.Ver.alloc_at W (.cells #[.int .u64 (L : Int)] 248)) hlt
  have HSC := Aside0.mk hSC
  have HD := Lib.hid hd
  have HS0 := Lib.hid hs
  clear hW hm hs hSC hd
  go_enter Tryz.func134, Tryz.ntmps134
  go_wp2_with (go_at_call 146; refine (HNP.out _).mono ?_; rintro e w1 ⟨rfl, rfl⟩)
  go_loopg [9] 3 (fun g1 vi wr => ∃ (t : Nat) (r : UInt64) (dk : Array α), vi = .int .i64 ((a : Int) + (L : Int) / 4 * 2 - 1 + (t : Int)) ∧ t ≤ 3 ∧ 3 - t ≤ g1 ∧ Hid (dk.size = n) ∧ Aside0 (SC enc w blk off dk W.heap.size (.int .u64 (r.toNat : Int)) 248 wr) ∧
      Hid (bpRest a L M (a + L / 4 * 2 - 1) (3 - t) t (r, dk) = bpRest a L M (a + L / 4 * 2 - 1) 3 0 (UInt64.ofNat L, d)))
  case atStart =>
    refine ⟨0, UInt64.ofNat L, d, by simp, by omega, by omega, HD, ?_, Lib.hid rfl⟩
    rw [show (UInt64.ofNat L).toNat = L from by simp; omega]
    exact ⟨by repeat (first | exact HSC.out | apply SC.drewN)⟩
  case round =>
    obtain ⟨t, r, dk, rfl, ht, hg1, HK, S, HR⟩ := hrel
    by_cases ht3 : t < 3
    · have hle : (a : Int) + (L : Int) / 4 * 2 - 1 + (t : Int) ≤ (a : Int) + (L : Int) / 4 * 2 + 1 := by omega
      obtain ⟨R, hRr⟩ : ∃ R : Nat, R = r.toNat := ⟨_, rfl⟩
      have lR : R < 18446744073709551616 := by rw [hRr]; exact r.toNat_lt
      obtain ⟨R', hR'⟩ : ∃ R' : Nat, R' = xorNextN R := ⟨_, rfl⟩
      have lR' : R' < 18446744073709551616 := by rw [hR']; exact xorNextN_lt R lR
      obtain ⟨O, hO⟩ : ∃ O : Nat, O = R' &&& (M - 1) := ⟨_, rfl⟩
      have lO : O ≤ M - 1 := by rw [hO]; exact Nat.and_le_right
      have eAnd : bits .and .u64 (R' : Int) ((M : Int) - 1) = (O : Int) := by
        rw [show ((M : Int) - 1) = ((M - 1 : Nat) : Int) by omega, bits_and_u64_nat _ _ lR' (by omega), hO]
      have HNext : Hid (∀ W2, SC enc w blk off dk W.heap.size (.int .u64 (R : Int)) 248 W2 → Calls Tryz.prog 147 #[.pointer (some ⟨W.heap.size, 0, none⟩)] W2 fun e w' => e = .returned (.int .u64 (R' : Int)) ∧ SC enc w blk off dk W.heap.size (.int .u64 (R' : Int)) 248 w') := Lib.hid (fun W2 h2 => by
        rw [hR']
        refine (xor_any _ R lR W2 h2.cell h2.frozen).mono ?_
        rintro e w' ⟨he, rfl⟩
        exact ⟨he, (h2.put _).drewN 3⟩)
      have HN : Hid (R' = (xorNext r).toNat ∧ O = (xorNext r).toNat &&& (M - 1)) := by
        have e : R' = (xorNext r).toNat := by rw [hR', hRr, xorNext_toNat]
        exact ⟨e, by rw [hO, e]⟩
      rw [← hRr] at S
      clear hRr hR' hO
      by_cases hLO : L ≤ O
      · have hLOz : (L : Int) ≤ (O : Int) := by omega
        have H3 := Lib.hid (fun W2 (h2 : SC enc w blk off dk W.heap.size (.int .u64 (R' : Int)) 248 W2) => swapC_at HS0.out HK.out (i := a + L / 4 * 2 - 1 + t) (j := a + (O - L)) (by omega) (by omega) (I := (a : Int) + (L : Int) / 4 * 2 - 1 + (t : Int)) (J := (a : Int) + ((O : Int) - (L : Int))) (by omega) (by omega) W2 h2)
        go_wp2_with (first
          | (go_at_call 147; refine (HNext.out _ (by repeat (first | exact S.out | apply SC.drewN))).mono ?_; rintro e w2 ⟨rfl, hs2⟩; have A2 := Aside0.mk hs2; clear hs2)
          | (go_at_fn gs; refine (H3.out _ (by repeat (first | exact A2.out | apply SC.drewN))).mono ?_; rintro e w3 ⟨rfl, hs3⟩; have A3 := Aside0.mk hs3; clear hs3))
        go_roundg (3 - (t + 1))
        case measure => omega
        case rel => exact ⟨t + 1, xorNext r, swp dk (a + L / 4 * 2 - 1 + t) (a + (O - L)), by congr 1; push_cast; omega, by omega, Nat.le_refl _, Lib.hid (by rw [swp_size]; exact HK.out), by rw [← HN.out.1]; exact A3,
          Lib.hid (by rw [← HR.out, bp_step a L M _ t r dk (O - L) ht3 (by rw [← HN.out.2, if_pos (by omega)])])⟩
      · have hLOz : ¬ (L : Int) ≤ (O : Int) := by omega
        have H3 := Lib.hid (fun W2 (h2 : SC enc w blk off dk W.heap.size (.int .u64 (R' : Int)) 248 W2) => swapC_at HS0.out HK.out (i := a + L / 4 * 2 - 1 + t) (j := a + O) (by omega) (by omega) (I := (a : Int) + (L : Int) / 4 * 2 - 1 + (t : Int)) (J := (a : Int) + (O : Int)) (by omega) (by omega) W2 h2)
        go_wp2_with (first
          | (go_at_call 147; refine (HNext.out _ (by repeat (first | exact S.out | apply SC.drewN))).mono ?_; rintro e w2 ⟨rfl, hs2⟩; have A2 := Aside0.mk hs2; clear hs2)
          | (go_at_fn gs; refine (H3.out _ (by repeat (first | exact A2.out | apply SC.drewN))).mono ?_; rintro e w3 ⟨rfl, hs3⟩; have A3 := Aside0.mk hs3; clear hs3))
        go_roundg (3 - (t + 1))
        case measure => omega
        case rel => exact ⟨t + 1, xorNext r, swp dk (a + L / 4 * 2 - 1 + t) (a + O), by congr 1; push_cast; omega, by omega, Nat.le_refl _, Lib.hid (by rw [swp_size]; exact HK.out), by rw [← HN.out.1]; exact A3,
          Lib.hid (by rw [← HR.out, bp_step a L M _ t r dk O ht3 (by rw [← HN.out.2, if_neg (by omega)])])⟩
    · obtain rfl : t = 3 := by omega
      have hle : ¬ ((a : Int) + (L : Int) / 4 * 2 - 1 + ((3 : Nat) : Int) ≤ (a : Int) + (L : Int) / 4 * 2 + 1) := by omega
      go_wp2
      go_end0
      refine ⟨rfl, ?_⟩
      rw [← HR.out]
      exact S.out.si
set_option maxHeartbeats 1000000 in
theorem brk_any {T : TypeId} {rv : Value} {gn gl gs : Nat} (hm : Meth T rv gn gl gs) (enc : α → Value) (w : World) (blk off n : Nat) (hs : ∀ w', SwapC gs rv enc w' blk off n) (hn : n < 4611686018427387904)
    (a b : Nat) (hab : a ≤ b) (hb : b ≤ n) (W : World) (d : Array α) (hd : d.size = n) (hW : SI enc w blk off d W) :
    Calls Tryz.prog 134 #[.iface T rv, .int .i64 a, .int .i64 b] W fun e w' => e = .returned (.tuple #[]) ∧ SI enc w blk off (breakPatterns d a b) w' := by
  obtain ⟨L, rfl⟩ : ∃ L, b = a + L := ⟨b - a, by omega⟩
  by_cases h8 : 8 ≤ L
  · exact brk_go hm enc w blk off n hs hn a L hb h8 W d hd hW
  · have hv : breakPatterns d a (a + L) = d := by unfold breakPatterns; simp only [Nat.add_sub_cancel_left]; rw [if_neg h8]
    rw [hv]
    have hLz : ((a : Int) + (L : Int) - (a : Int)) = (L : Int) := by omega
    have h8z : ¬ (8 : Int) ≤ (L : Int) := by omega
    have S0 := Aside0.mk hW
    clear hm hs hW hv
    go_enter Tryz.func134, Tryz.ntmps134
    go_wp2
    go_end0
    exact ⟨rfl, by repeat (first | exact S0.out | apply SI.drewN)⟩
end Go.Proofs.YtgoeiflddikihaaGreatDoor.Srt
end
