/- Merged by program out of: Sort, Sort2, Sorter, VTold, Back, Sorted. -/
import Derived.Test.YtgoeiflddikihaaGreatDoorCdM8
import Derived.Sort.AssemblyPlain
import Derived.Sort.Row
import Derived.LoopTactic
import Derived.Lib.BufferOwn
import Derived.Maps.AppendAt
import Derived.WalkLawsBesides
import Derived.Test.YtgoeiflddikihaaGreatDoorCdM5
import Derived.Test.YtgoeiflddikihaaGreatDoorCdM9
import Derived.RegionTactic
import Derived.BigRegion
import Derived.ChangeAlike
import Derived.Test.YtgoeiflddikihaaGreatDoorCdM7
import Derived.Laws.OwnMore
section
namespace Go.Proofs.YtgoeiflddikihaaGreatDoor.Srt
open Go.RowKit Go.Proofs.YtgoeiflddikihaaGreatDoorW.PrintWords Go.Sort
section plain
variable {α : Type} [Inhabited α] (lt : α → α → Bool)
theorem inner_go (a j : Nat) (d : Array α) (hj : a < j) (hl : lt d[j]! d[j - 1]! = true) : insInner lt a j d = insInner lt a (j - 1) (swp d j (j - 1)) := by
  cases j with
  | zero => omega
  | succ j =>
    have h2 : lt d[j + 1]! d[j]! = true := hl
    simp only [insInner]
    rw [if_pos (by rw [h2, Bool.and_true]; exact decide_eq_true hj)]
    rfl
theorem inner_stop (a j : Nat) (d : Array α) (h : j ≤ a ∨ lt d[j]! d[j - 1]! = false) : insInner lt a j d = d := by
  cases j with
  | zero => rfl
  | succ j =>
    simp only [insInner]
    rw [if_neg]
    rcases h with h | h
    · rw [decide_eq_false (by omega)]; simp
    · have h2 : lt d[j + 1]! d[j]! = false := h
      rw [h2, Bool.and_false]; simp
theorem outer_go (a b i : Nat) (d : Array α) (h : i < b) : insOuter lt a b i d = insOuter lt a b (i + 1) (insInner lt a i d) := by rw [insOuter, if_pos h]
theorem outer_stop (a b i : Nat) (d : Array α) (h : ¬ i < b) : insOuter lt a b i d = d := by rw [insOuter, if_neg h]
theorem swp_size (d : Array α) (i j : Nat) : (swp d i j).size = d.size := by simp [swp]
end plain
variable {α : Type} [Inhabited α]
structure SI (enc : α → Value) (w : World) (blk off : Nat) (d : Array α) (W : World) : Prop where
  gr : w.grownBy W (some blk)
  holds : Holds enc W blk off d
  lt : blk < w.heap.size
theorem SI.below {enc : α → Value} {w : World} {blk off : Nat} {d : Array α} {W W' : World} (h : SI enc w blk off d W) (hb : Below W.heap.size W W') : SI enc w blk off d W' := by
  have hl : blk < W.heap.size := Nat.lt_of_lt_of_le h.lt h.gr.size
  refine ⟨h.gr.trans (grown_of_below hb _), fun j hj => ?_, h.lt⟩
  obtain ⟨h1, h2⟩ := h.holds j hj
  exact ⟨(hb.cell (p := ⟨blk, off + j, none⟩) hl).trans h1, (hb.frozen (p := ⟨blk, off + j, none⟩) hl).trans h2⟩
theorem SI.drewN {enc : α → Value} {w : World} {blk off : Nat} {d : Array α} {W : World} (h : SI enc w blk off d W) (n : Nat) : SI enc w blk off d (W.drewN n) := h.below (pw_below_drewN (Below.refl _ _) n)
theorem set_holds {enc : α → Value} {W : World} {blk off : Nat} {d : Array α} (h : Holds enc W blk off d) {i : Nat} (hi : i < d.size) (x : α) : Holds enc (W.setCell ⟨blk, off + i, none⟩ (enc x)) blk off (d.setIfInBounds i x) := by
  intro j hj
  have hj' : j < d.size := by simpa using hj
  obtain ⟨h1, h2⟩ := h j hj'
  refine ⟨?_, by rw [World.frozen?_setCell]; exact h2⟩
  by_cases e : i = j
  · subst e
    rw [getElem!_set_same d i x hi]
    exact World.cell?_setCell_same _ _ _ h1
  · rw [getElem!_set_other d i j x (fun e' => e e'.symm), World.cell?_setCell_other _ _ _ _ (by intro e'; injection e' with _ e'; omega)]
    exact h1
theorem SI.swap {enc : α → Value} {w : World} {blk off : Nat} {d : Array α} {W : World} (h : SI enc w blk off d W) {i j : Nat} (hi : i < d.size) (hj : j < d.size) :
    SI enc w blk off (swp d i j) ((W.setCell ⟨blk, off + i, none⟩ (enc d[j]!)).setCell ⟨blk, off + j, none⟩ (enc d[i]!)) :=
  ⟨(h.gr.trans (Lib.grownBy_setCell _ _ _ _)).trans (Lib.grownBy_setCell _ _ _ _), set_holds (set_holds h.holds hi d[j]!) (by simpa using hj) d[i]!, h.lt⟩
def LessC (gl : Nat) (rv : Value) (enc : α → Value) (lt : α → α → Bool) (w : World) (blk off n : Nat) : Prop :=
  ∀ (W : World) (d : Array α), SI enc w blk off d W → d.size = n → ∀ i j : Nat, i < n → j < n →
    Calls Tryz.prog gl #[rv, .int .i64 i, .int .i64 j] W fun e w' => e = .returned (.bool (lt d[i]! d[j]!)) ∧ Below W.heap.size W w'
def SwapC (gs : Nat) (rv : Value) (enc : α → Value) (w : World) (blk off n : Nat) : Prop :=
  ∀ (W : World) (d : Array α), SI enc w blk off d W → d.size = n → ∀ i j : Nat, i < n → j < n →
    Calls Tryz.prog gs #[rv, .int .i64 i, .int .i64 j] W fun e w' => e = .returned (.tuple #[]) ∧ SI enc w blk off (swp d i j) w'
structure Meth (T : TypeId) (rv : Value) (gn gl gs : Nat) : Prop where
  n : ∀ w, Sem.run Tryz.prog (method 417 T rv "Len") w = .ok (gn, rv) w
  l : ∀ w, Sem.run Tryz.prog (method 417 T rv "Less") w = .ok (gl, rv) w
  s : ∀ w, Sem.run Tryz.prog (method 417 T rv "Swap") w = .ok (gs, rv) w
  en : ∀ args w, (callFunc gn args).run Tryz.prog w = .ok (.enter gn args) w
  el : ∀ args w, (callFunc gl args).run Tryz.prog w = .ok (.enter gl args) w
  es : ∀ args w, (callFunc gs args).run Tryz.prog w = .ok (.enter gs args) w
set_option maxHeartbeats 2000000 in
set_option maxRecDepth 100000 in
theorem ins_any {T : TypeId} {rv : Value} {gn gl gs : Nat} (hm : Meth T rv gn gl gs) (enc : α → Value) (lt : α → α → Bool) (w : World) (blk off n : Nat) (hl : LessC gl rv enc lt w blk off n) (hs : SwapC gs rv enc w blk off n) (hn : n < 4611686018427387904)
    (a b : Nat) (hab : a ≤ b) (hb : b ≤ n) (W : World) (d : Array α) (hd : d.size = n) (hW : SI enc w blk off d W) :
    Calls Tryz.prog 132 #[.iface T rv, .int .i64 a, .int .i64 b] W fun e w' => e = .returned (.tuple #[]) ∧ SI enc w blk off (insertionSort lt d a b) w' := by
  have mL := hm.l
  have mS := hm.s
  have eL := hm.el
  have eS := hm.es
  have HW := Aside0.mk hW
  have HD := Lib.hid hd
  clear hW hd hm
  go_enter Tryz.func132, Tryz.ntmps132
  go_wp2
  go_loopw [6] (fun vi wr => ∃ (i : Nat) (dk : Array α), vi = .int .i64 i ∧ a < i ∧ i ≤ b + 1 ∧ Hid (dk.size = n) ∧ Aside0 (SI enc w blk off dk wr) ∧ Hid (insOuter lt a b i dk = insOuter lt a b (a + 1) d)) (fun vi _ => b + 1 - (intOf vi).toNat)
  case atStart => exact ⟨a + 1, d, by go_num, by omega, by omega, HD, HW, Lib.hid rfl⟩
  case round =>
    obtain ⟨i, dk, rfl, hai, hib, HK, HS, HO⟩ := hrel
    by_cases hlt : i < b
    · have d1 : decide (i < b) = true := decide_eq_true hlt
      go_wp2
      go_loopw [7] (fun vj wr2 => ∃ (j : Nat) (dj : Array α), vj = .int .i64 j ∧ a ≤ j ∧ j ≤ i ∧ Hid (dj.size = n) ∧ Aside0 (SI enc w blk off dj wr2) ∧ Hid (insInner lt a j dj = insInner lt a i dk)) (fun vj _ => (intOf vj).toNat)
      case atStart => exact ⟨i, dk, rfl, by omega, Nat.le_refl _, HK, HS, Lib.hid rfl⟩
      case round =>
        obtain ⟨j, dj, rfl, haj, hji, HJ, HT, HI⟩ := hrel
        have OUT : Hid ((j ≤ a ∨ lt dj[j]! dj[j - 1]! = false) → ∀ W2, SI enc w blk off dj W2 → ∃ (i' : Nat) (dk' : Array α), Value.int .i64 ((i : Int) + 1) = .int .i64 (i' : Nat) ∧ a < i' ∧ i' ≤ b + 1 ∧ Hid (dk'.size = n) ∧ Aside0 (SI enc w blk off dk' W2) ∧ Hid (insOuter lt a b i' dk' = insOuter lt a b (a + 1) d)) := Lib.hid (fun hst W2 h2 =>
          ⟨i + 1, dj, by go_num, by omega, by omega, HJ, ⟨h2⟩, Lib.hid (by rw [← HO.out, outer_go lt _ _ _ _ hlt, ← HI.out, inner_stop lt _ _ _ hst])⟩)
        by_cases hja : a < j
        · have hL := hl wr dj HT.out HJ.out j (j - 1) (by omega) (by omega)
          rw [show (((j - 1 : Nat) : Int)) = (j : Int) - 1 by omega] at hL
          have HSW := Lib.hid (fun W2 h2 => hs W2 dj h2 HJ.out j (j - 1) (by omega) (by omega))
          rw [show (((j - 1 : Nat) : Int)) = (j : Int) - 1 by omega] at HSW
          cases hlv : lt dj[j]! dj[j - 1]! with
          | true =>
            rw [hlv] at hL
            have HL := Lib.hid hL
            clear hL
            go_wp2_with (first
              | (go_at_fn gl; refine HL.out.mono ?_; rintro e w' ⟨rfl, hb1⟩; have HT1 := Aside0.mk (HT.out.below hb1); clear hb1)
              | (go_at_fn gs; refine (HSW.out _ HT1.out).mono ?_; rintro e w' ⟨rfl, hs2⟩; have HT2 := Aside0.mk hs2; clear hs2))
            go_roundw
            case rel => exact ⟨j - 1, swp dj j (j - 1), by congr 1 <;> omega, by omega, by omega, Lib.hid (by rw [swp_size]; exact HJ.out), HT2, Lib.hid (by rw [← HI.out, inner_go lt a j dj hja hlv])⟩
            case measure => simp [intOf]; omega
          | false =>
            rw [hlv] at hL
            have HL := Lib.hid hL
            clear hL
            go_wp2_with (go_at_fn gl; refine HL.out.mono ?_; rintro e w' ⟨rfl, hb1⟩; have HT1 := Aside0.mk (HT.out.below hb1); clear hb1)
            go_roundw
            case rel => exact OUT.out (Or.inr hlv) _ HT1.out
            case measure => simp [intOf]; omega
        · go_wp2
          go_roundw
          case rel => exact OUT.out (Or.inl (by omega)) _ HT.out
          case measure => simp [intOf]; omega
    · have hge := Lib.hid hlt
      have d1 : decide (i < b) = false := decide_eq_false hlt
      clear hlt
      go_wp2
      go_end0
      exact ⟨rfl, by unfold insertionSort; rw [← HO.out, outer_stop lt _ _ _ _ hge.out]; exact HS.out⟩
end Go.Proofs.YtgoeiflddikihaaGreatDoor.Srt
end
section
namespace Go.Proofs.YtgoeiflddikihaaGreatDoor.Srt
open Go.RowKit Go.Proofs.YtgoeiflddikihaaGreatDoorW.PrintWords Go.Sort
variable {α : Type} [Inhabited α]
theorem bitsLen_any (n : Nat) (hn : n < 4611686018427387904) (w : World) : Calls Tryz.prog 123 #[.int .u64 n] w fun e w' => e = .returned (.int .i64 (Lib.bitLen n)) ∧ Drawn0 w w' := by
  have h64 := Lib.hid (fun W => Tryz.bits_Len64 (n : Int) W (by omega) (by omega))
  rw [Int.toNat_natCast] at h64
  have hb := Lib.bitLen_le n 62 (by omega) (by omega)
  generalize Lib.bitLen n = b at *
  go_enter Tryz.func123, Tryz.ntmps123
  go_wp2_with (go_at_call 131; ((with_reducible refine (h64.out _).mono ?_); rintro e w1 ⟨rfl, rfl⟩))
  go_ret
  exact ⟨rfl, by repeat (first | exact Drawn0.refl _ | apply Drawn0.step)⟩
set_option maxRecDepth 20000 in
set_option maxHeartbeats 2000000 in
theorem pdq_short {T : TypeId} {rv : Value} {gn gl gs : Nat} (hm : Meth T rv gn gl gs) (enc : α → Value) (lt : α → α → Bool) (w : World) (blk off n : Nat) (hl : LessC gl rv enc lt w blk off n) (hs : SwapC gs rv enc w blk off n) (hn : n ≤ 12)
    (k : Int) (W : World) (d : Array α) (hd : d.size = n) (hW : SI enc w blk off d W) :
    Calls Tryz.prog 124 #[.iface T rv, .int .i64 0, .int .i64 n, .int .i64 k] W fun e w' => e = .returned (.tuple #[]) ∧ SI enc w blk off (insertionSort lt d 0 n) w' := by
  have HI := Lib.hid (fun W2 h2 => ins_any hm enc lt w blk off n hl hs (by omega) 0 n (Nat.zero_le _) (Nat.le_refl _) W2 d hd h2)
  have HW := Aside0.mk hW
  clear hW hd hl hs hm
  have d1 : decide ((n : Int) ≤ 12) = true := decide_eq_true (by omega)
  go_enter Tryz.func124, Tryz.ntmps124
  go_wp2_with fail
  refine wp_loop_rounds 1 ?_
  rw [rounds_succ]
  go_wp2_with (go_at_call 132; refine (HI.out _ HW.out).mono ?_; rintro e w1 ⟨rfl, hs1⟩; have HW1 := Aside0.mk hs1; clear hs1)
  (try simp only [Exit.inBlock, Exit.then])
  refine bodyPost_ret (results_none rfl _ _ _) rfl ?_
  exact ⟨rfl, HW1.out⟩
set_option maxHeartbeats 2000000 in
theorem sort_short {T : TypeId} {rv : Value} {gn gl gs : Nat} (hm : Meth T rv gn gl gs) (enc : α → Value) (lt : α → α → Bool) (w : World) (blk off n : Nat) (hl : LessC gl rv enc lt w blk off n) (hs : SwapC gs rv enc w blk off n) (h2 : 2 ≤ n) (hn : n ≤ 12)
    (hlen : ∀ W, Calls Tryz.prog gn #[rv] W fun e w' => e = .returned (.int .i64 n) ∧ Drawn0 W w') (d : Array α) (hd : d.size = n) (hH : Holds enc w blk off d) (hb : blk < w.heap.size) :
    Calls Tryz.prog 102 #[.iface T rv] w fun e w' => e = .returned (.tuple #[]) ∧ SI enc w blk off (insertionSort lt d 0 n) w' := by
  have HP := Lib.hid (fun k W2 h2 => pdq_short hm enc lt w blk off n hl hs hn k W2 d hd h2)
  have HW := Aside0.mk (SI.mk (World.grownBy.refl w (some blk)) hH hb)
  have HL := Lib.hid hlen
  have HBL := Lib.hid (fun W => bitsLen_any n (by omega) W)
  have mN := hm.n
  have eN := hm.en
  have d1 : decide ((n : Int) ≤ 1) = false := decide_eq_false (by omega)
  clear hd hl hs hm hlen hH hb
  go_enter Tryz.func102, Tryz.ntmps102
  go_wp2_with (first
    | (go_at_fn gn; refine (HL.out _).mono ?_; rintro e w1 ⟨rfl, ⟨q1, rfl⟩⟩)
    | (go_at_call 123; ((with_reducible refine (HBL.out _).mono ?_); rintro e w1 ⟨rfl, ⟨q2, rfl⟩⟩))
    | (go_at_call 124; refine (HP.out _ _ (by repeat (first | exact HW.out | apply SI.drewN))).mono ?_; rintro e w1 ⟨rfl, hs1⟩; have HW1 := Aside0.mk hs1; clear hs1))
  go_end0
  exact ⟨rfl, HW1.out⟩
theorem sort_tiny {T : TypeId} {rv : Value} {gn gl gs : Nat} (hm : Meth T rv gn gl gs) (n : Nat) (hn : n ≤ 1)
    (hlen : ∀ W, Calls Tryz.prog gn #[rv] W fun e w' => e = .returned (.int .i64 n) ∧ Drawn0 W w') (w : World) :
    Calls Tryz.prog 102 #[.iface T rv] w fun e w' => e = .returned (.tuple #[]) ∧ Drawn0 w w' := by
  have HL := Lib.hid hlen
  have mN := hm.n
  have eN := hm.en
  have d1 : decide ((n : Int) ≤ 1) = true := decide_eq_true (by omega)
  clear hm hlen hn
  go_enter Tryz.func102, Tryz.ntmps102
  go_wp2_with (go_at_fn gn; refine (HL.out _).mono ?_; rintro e w1 ⟨rfl, ⟨q1, rfl⟩⟩)
  (try simp only [Exit.inBlock, Exit.then])
  refine bodyPost_ret (results_none rfl _ _ _) rfl ?_
  exact ⟨rfl, by repeat (first | exact Drawn0.refl _ | apply Drawn0.step)⟩
end Go.Proofs.YtgoeiflddikihaaGreatDoor.Srt
end
section
namespace Go.Proofs.YtgoeiflddikihaaGreatDoor.Ver
open Go.RowKit Go.Proofs.YtgoeiflddikihaaGreatDoorW.PrintWords Go.Sort Go.Proofs.YtgoeiflddikihaaGreatDoor.Srt Go.Proofs.YtgoeiflddikihaaGreatDoor.Ord
theorem bare_sem (l : Vers) (h : l.rank = 0) : l.bare = .un (.sem l.sem) := by
  rcases l with s | (⟨n, d⟩ | s | v) | ⟨(⟨n, d⟩ | s | v), x⟩ <;> first | rfl | (simp [Vers.rank, Unp.rank] at h)
theorem vless_any (l r : Vers) (hl : l.sem.pre.size ≤ 140737488351232) (hr : r.sem.pre.size ≤ 140737488351232) (down : Bool) (w : World) :
    Calls Tryz.prog 204 #[l.val, r.val, .bool down] w fun e w' => e = .returned (.bool (lessV down l r)) ∧ Below w.heap.size w w' := by
  by_cases h : l.rank = r.rank
  · by_cases h0 : l.rank = 0
    · exact vless_sem l r l.sem r.sem (bare_sem l h0) (bare_sem r (h.symm.trans h0)) hl hr down w
    · by_cases h1 : l.rank = 1
      · exact vless_branch l r down h1 (h.symm.trans h1) w
      · exact vless_name l r down h (by omega) w
  · exact vless_rank l r down h w
def Vers.fine (v : Vers) : Prop := v.sem.pre.size ≤ 140737488351232 ∧ ∀ s, v.bare = .un (.sem s) → s.orig ≠ ⟨#[]⟩
def VS : Type := { v : Vers // v.fine }
instance : Inhabited VS := ⟨⟨.rev ⟨#[]⟩, by decide, by intro s h; cases h⟩⟩
theorem readV_text {s : ByteArray} {v : SV} {k : Nat} (h : readV s = some (v, k)) : s ≠ ⟨#[]⟩ := by
  rintro rfl
  have : readV ⟨#[]⟩ = none := by rfl
  rw [this] at h; cases h
theorem newV_fine {t : ByteArray} (ht : t.size ≤ 2147483647) {v : SV} (h : newV t = .sem v) : v.pre.size ≤ 140737488351232 ∧ v.orig ≠ ⟨#[]⟩ := by
  unfold newV at h
  split at h
  · cases h
  · rename_i x k hq
    injection h with h
    subst h
    obtain ⟨h1, h2⟩ := readV_ok' ht hq
    exact ⟨Nat.le_trans h1.p (by omega), by rw [h2]; exact readV_text hq⟩
theorem unpV_fine {k : Int} {t : ByteArray} (ht : t.size ≤ 2147483647) {v : SV} (h : unpV k t = some (.sem v)) : v.pre.size ≤ 140737488351232 ∧ v.orig ≠ ⟨#[]⟩ := by
  unfold unpV at h
  split at h
  · cases h
  · split at h
    · cases h
    · split at h
      · injection h with h; exact newV_fine ht h
      · cases h
theorem verV_fine (k : Int) {t : ByteArray} (r : ByteArray) (ht : t.size ≤ 2147483647) : (verV k t r).fine := by
  unfold verV
  split
  · exact ⟨by show (ByteArray.size ⟨#[]⟩) ≤ _; decide, by intro s h; cases h⟩
  · rename_i u hu
    have hz : (zV.pre.size ≤ 140737488351232) := by decide
    split
    · rcases u with ⟨n, d⟩ | n | v
      · exact ⟨hz, by intro s h; cases h⟩
      · exact ⟨hz, by intro s h; cases h⟩
      · have := unpV_fine ht hu
        exact ⟨this.1, by intro s h; cases h; exact this.2⟩
    · rcases u with ⟨n, d⟩ | n | v
      · exact ⟨hz, by intro s h; cases h⟩
      · exact ⟨hz, by intro s h; cases h⟩
      · have := unpV_fine ht hu
        exact ⟨this.1, by intro s h; cases h; exact this.2⟩
def encV (a : VS) : Value := a.1.val
def ltV (down : Bool) (a b : VS) : Bool := lessV down a.1 b.1
theorem swo_ltV (down : Bool) : SWO (ltV down) := ⟨fun x => (swo_vers down).irrefl x.1, fun x y z => (swo_vers down).trans x.1 y.1 z.1, fun x y z => (swo_vers down).ntrans x.1 y.1 z.1⟩
set_option maxHeartbeats 2000000 in
theorem less_up (w : World) (blk off n cap : Nat) : LessC 221 (.slice (some ⟨blk, off, none⟩) n cap) encV (ltV false) w blk off n := by
  intro W d hW hd i j hi hj
  have hv := vless_any d[i]!.1 d[j]!.1 d[i]!.2.1 d[j]!.2.1 false
  change ∀ W, Calls _ _ _ _ fun e w' => e = .returned (.bool (ltV false d[i]! d[j]!)) ∧ _ at hv
  have h1 := (hW.holds i (by omega)).1
  have h2 := (hW.holds j (by omega)).1
  unfold encV at h1 h2
  generalize ltV false d[i]! d[j]! = r at *
  generalize d[i]!.1.val = x at *
  generalize d[j]!.1.val = y at *
  have HV := Lib.hid hv
  have b1 : (i : Int) < (n : Int) := by omega
  have b2 : (j : Int) < (n : Int) := by omega
  have HB := Aside0.mk (Below.refl W.heap.size W)
  clear hv hd hW
  go_enter Tryz.func221, Tryz.ntmps221
  go_wp2_with fail
  go_quiet (fail)
  go_wp2_with (go_at_call 204; ((with_reducible refine (HV.out _).mono ?_); rintro e w5 ⟨rfl, hb⟩; have HB5 := Aside0.mk (below_trans (by repeat (first | exact HB.out | apply below_alloc | apply pw_below_drewN)) hb); clear hb))
  go_ret
  exact ⟨rfl, HB5.out⟩
set_option maxHeartbeats 4000000 in
theorem swap_up (w : World) (blk off n cap : Nat) : SwapC 222 (.slice (some ⟨blk, off, none⟩) n cap) encV w blk off n := by
  intro W d hW hd i j hi hj
  have HS := Lib.hid (fun q => (hW.swap (i := i) (j := j) (by omega) (by omega)).drewN q)
  obtain ⟨h1, f1⟩ := hW.holds i (by omega)
  obtain ⟨h2, f2⟩ := hW.holds j (by omega)
  obtain ⟨tx, vx, hx⟩ : ∃ t v, encV d[i]! = .iface t v := ⟨_, _, rfl⟩
  obtain ⟨ty, vy, hy⟩ : ∃ t v, encV d[j]! = .iface t v := ⟨_, _, rfl⟩
  rw [hx, hy] at HS
  rw [hx] at h1
  rw [hy] at h2
  clear hx hy
  have b1 : (i : Int) < (n : Int) := by omega
  have b2 : (j : Int) < (n : Int) := by omega
  obtain ⟨v', hy'⟩ := cell?_setCell_some (w := W) (p := ⟨blk, off + i, none⟩) (x := .iface ty vy) (q := ⟨blk, off + j, none⟩) (v := .iface ty vy) (by go_simp)
  clear hd hW
  go_enter Tryz.func222, Tryz.ntmps222
  go_wp2_with fail
  go_region
  all_goals
    go_end0
    exact ⟨rfl, HS.out 1⟩
set_option maxHeartbeats 2000000 in
theorem less_dn (w : World) (blk off n cap : Nat) : LessC 218 (.slice (some ⟨blk, off, none⟩) n cap) encV (ltV true) w blk off n := by
  intro W d hW hd i j hi hj
  have hv := vless_any d[i]!.1 d[j]!.1 d[i]!.2.1 d[j]!.2.1 true
  change ∀ W, Calls _ _ _ _ fun e w' => e = .returned (.bool (ltV true d[i]! d[j]!)) ∧ _ at hv
  have h1 := (hW.holds i (by omega)).1
  have h2 := (hW.holds j (by omega)).1
  unfold encV at h1 h2
  generalize ltV true d[i]! d[j]! = r at *
  generalize d[i]!.1.val = x at *
  generalize d[j]!.1.val = y at *
  have HV := Lib.hid hv
  have b1 : (i : Int) < (n : Int) := by omega
  have b2 : (j : Int) < (n : Int) := by omega
  have HB := Aside0.mk (Below.refl W.heap.size W)
  clear hv hd hW
  go_enter Tryz.func218, Tryz.ntmps218
  go_wp2_with fail
  go_quiet (fail)
  go_wp2_with (go_at_call 204; ((with_reducible refine (HV.out _).mono ?_); rintro e w5 ⟨rfl, hb⟩; have HB5 := Aside0.mk (below_trans (by repeat (first | exact HB.out | apply below_alloc | apply pw_below_drewN)) hb); clear hb))
  go_ret
  exact ⟨rfl, HB5.out⟩
set_option maxHeartbeats 4000000 in
theorem swap_dn (w : World) (blk off n cap : Nat) : SwapC 219 (.slice (some ⟨blk, off, none⟩) n cap) encV w blk off n := by
  intro W d hW hd i j hi hj
  have HS := Lib.hid (fun q => (hW.swap (i := i) (j := j) (by omega) (by omega)).drewN q)
  obtain ⟨h1, f1⟩ := hW.holds i (by omega)
  obtain ⟨h2, f2⟩ := hW.holds j (by omega)
  obtain ⟨tx, vx, hx⟩ : ∃ t v, encV d[i]! = .iface t v := ⟨_, _, rfl⟩
  obtain ⟨ty, vy, hy⟩ : ∃ t v, encV d[j]! = .iface t v := ⟨_, _, rfl⟩
  rw [hx, hy] at HS
  rw [hx] at h1
  rw [hy] at h2
  clear hx hy
  have b1 : (i : Int) < (n : Int) := by omega
  have b2 : (j : Int) < (n : Int) := by omega
  obtain ⟨v', hy'⟩ := cell?_setCell_some (w := W) (p := ⟨blk, off + i, none⟩) (x := .iface ty vy) (q := ⟨blk, off + j, none⟩) (v := .iface ty vy) (by go_simp)
  clear hd hW
  go_enter Tryz.func219, Tryz.ntmps219
  go_wp2_with fail
  go_region
  all_goals
    go_end0
    exact ⟨rfl, HS.out 1⟩
theorem meth_up (a : Option Addr) (n cap : Nat) : Meth 179 (.slice a n cap) 220 221 222 :=
  ⟨fun _ => by kernel_rfl, fun _ => by kernel_rfl, fun _ => by kernel_rfl, fun _ _ => by kernel_rfl, fun _ _ => by kernel_rfl, fun _ _ => by kernel_rfl⟩
theorem lenN_up (a : Option Addr) (n cap : Nat) (w : World) : Calls Tryz.prog 220 #[.slice a n cap] w fun e w' => e = .returned (.int .i64 n) ∧ Drawn0 w w' := by
  go_enter Tryz.func220, Tryz.ntmps220
  go_wp2
  go_ret
  exact ⟨rfl, by repeat (first | exact Drawn0.refl _ | apply Drawn0.step)⟩
theorem sorts0_up (a : Option Addr) (n cap : Nat) (hn : n ≤ 1) (w : World) : Calls Tryz.prog 80 #[.slice a n cap] w fun e w' => e = .returned (.tuple #[]) ∧ Drawn0 w w' := by
  have HS := Lib.hid (fun W => sort_tiny (meth_up a n cap) n hn (lenN_up a n cap) W)
  clear hn
  go_enter Tryz.func80, Tryz.ntmps80
  go_wp2_with (go_at_call 102; ((with_reducible refine (HS.out _).mono ?_); rintro e w5 ⟨rfl, ⟨q, rfl⟩⟩))
  go_end0
  exact ⟨rfl, by repeat (first | exact Drawn0.refl _ | apply Drawn0.step)⟩
theorem sorts_up (blk off n cap : Nat) (h2 : 2 ≤ n) (hn : n ≤ 12) (d : Array VS) (hd : d.size = n) (w : World) (hH : Holds encV w blk off d) (hb : blk < w.heap.size) :
    Calls Tryz.prog 80 #[.slice (some ⟨blk, off, none⟩) n cap] w fun e w' => e = .returned (.tuple #[]) ∧ SI encV w blk off (insertionSort (ltV false) d 0 n) w' := by
  have HS := Lib.hid (sort_short (meth_up _ n cap) encV (ltV false) w blk off n (less_up w blk off n cap) (swap_up w blk off n cap) h2 hn (fun W => lenN_up _ n cap W) d hd hH hb)
  clear hn h2 hd hH hb
  go_enter Tryz.func80, Tryz.ntmps80
  go_wp2_with (go_at_call 102; ((with_reducible refine HS.out.mono ?_); rintro e w5 ⟨rfl, hs5⟩; have HS5 := Aside0.mk hs5; clear hs5))
  go_end0
  exact ⟨rfl, HS5.out⟩
theorem sortAll_up (blk off n cap : Nat) (h1 : 1 ≤ n) (hn : n ≤ 12) (d : Array VS) (hd : d.size = n) (w : World) (hH : Holds encV w blk off d) (hb : blk < w.heap.size) :
    Calls Tryz.prog 80 #[.slice (some ⟨blk, off, none⟩) n cap] w fun e w' => e = .returned (.tuple #[]) ∧ ∃ d', PermIn 0 n d d' ∧ SortedIn (ltV false) 0 n d' ∧ SI encV w blk off d' w' := by
  by_cases h2 : 2 ≤ n
  · have h := insertionSort_holds (swo_ltV false) d 0 n (Nat.zero_le _) (by omega)
    exact (sorts_up blk off n cap h2 hn d hd w hH hb).mono fun _ _ ⟨he, hs⟩ => ⟨he, _, h.1, h.2, hs⟩
  · refine (sorts0_up _ n cap (by omega) w).mono fun _ _ ⟨he, hd0⟩ => ⟨he, d, permIn_refl d 0 n, fun i j _ h3 h4 => by omega, ?_⟩
    obtain ⟨q, rfl⟩ := hd0.out
    exact (SI.mk (World.grownBy.refl w (some blk)) hH hb).drewN q
theorem meth_dn (a : Option Addr) (n cap : Nat) : Meth 178 (.slice a n cap) 217 218 219 :=
  ⟨fun _ => by kernel_rfl, fun _ => by kernel_rfl, fun _ => by kernel_rfl, fun _ _ => by kernel_rfl, fun _ _ => by kernel_rfl, fun _ _ => by kernel_rfl⟩
theorem lenN_dn (a : Option Addr) (n cap : Nat) (w : World) : Calls Tryz.prog 217 #[.slice a n cap] w fun e w' => e = .returned (.int .i64 n) ∧ Drawn0 w w' := by
  go_enter Tryz.func217, Tryz.ntmps217
  go_wp2
  go_ret
  exact ⟨rfl, by repeat (first | exact Drawn0.refl _ | apply Drawn0.step)⟩
theorem sorts0_dn (a : Option Addr) (n cap : Nat) (hn : n ≤ 1) (w : World) : Calls Tryz.prog 79 #[.slice a n cap] w fun e w' => e = .returned (.tuple #[]) ∧ Drawn0 w w' := by
  have HS := Lib.hid (fun W => sort_tiny (meth_dn a n cap) n hn (lenN_dn a n cap) W)
  clear hn
  go_enter Tryz.func79, Tryz.ntmps79
  go_wp2_with (go_at_call 102; ((with_reducible refine (HS.out _).mono ?_); rintro e w5 ⟨rfl, ⟨q, rfl⟩⟩))
  go_end0
  exact ⟨rfl, by repeat (first | exact Drawn0.refl _ | apply Drawn0.step)⟩
end Go.Proofs.YtgoeiflddikihaaGreatDoor.Ver
end
section
namespace Go.Proofs.YtgoeiflddikihaaGreatDoor.Ver
set_option linter.unusedSimpArgs false
open Go.RowKit Go.Proofs.YtgoeiflddikihaaGreatDoor.Dig Go.Proofs.YtgoeiflddikihaaGreatDoorW.PrintWords
theorem a_rev_U (v : Value) (xT : TypeId) (w : World) : (Instr.typeAssert (.iface 135 v) xT 138 true).run Tryz.prog w = .ok (.tuple #[.nilIface, .bool false]) w := run_typeAssert_lacksB Tryz.underlying138 (by kernel_rfl) (by kernel_rfl) v xT w
theorem a_rev_P (v : Value) (xT : TypeId) (w : World) : (Instr.typeAssert (.iface 135 v) xT 133 true).run Tryz.prog w = .ok (.tuple #[.nilIface, .bool false]) w := run_typeAssert_lacksB Tryz.underlying133 (by kernel_rfl) (by kernel_rfl) v xT w
theorem a_branch_U (v : Value) (xT : TypeId) (w : World) : (Instr.typeAssert (.iface 215 v) xT 138 true).run Tryz.prog w = .ok (.tuple #[.iface 215 v, .bool true]) w := run_typeAssert_hasB Tryz.underlying138 (by kernel_rfl) v xT w
theorem a_branch_P (v : Value) (xT : TypeId) (w : World) : (Instr.typeAssert (.iface 215 v) xT 133 true).run Tryz.prog w = .ok (.tuple #[.nilIface, .bool false]) w := run_typeAssert_lacksB Tryz.underlying133 (by kernel_rfl) (by kernel_rfl) v xT w
theorem a_plain_U (v : Value) (xT : TypeId) (w : World) : (Instr.typeAssert (.iface 224 v) xT 138 true).run Tryz.prog w = .ok (.tuple #[.iface 224 v, .bool true]) w := run_typeAssert_hasB Tryz.underlying138 (by kernel_rfl) v xT w
theorem a_plain_P (v : Value) (xT : TypeId) (w : World) : (Instr.typeAssert (.iface 224 v) xT 133 true).run Tryz.prog w = .ok (.tuple #[.nilIface, .bool false]) w := run_typeAssert_lacksB Tryz.underlying133 (by kernel_rfl) (by kernel_rfl) v xT w
theorem a_sem_U (v : Value) (xT : TypeId) (w : World) : (Instr.typeAssert (.iface 200 v) xT 138 true).run Tryz.prog w = .ok (.tuple #[.iface 200 v, .bool true]) w := run_typeAssert_hasB Tryz.underlying138 (by kernel_rfl) v xT w
theorem a_sem_P (v : Value) (xT : TypeId) (w : World) : (Instr.typeAssert (.iface 200 v) xT 133 true).run Tryz.prog w = .ok (.tuple #[.nilIface, .bool false]) w := run_typeAssert_lacksB Tryz.underlying133 (by kernel_rfl) (by kernel_rfl) v xT w
theorem a_pair_U (v : Value) (xT : TypeId) (w : World) : (Instr.typeAssert (.iface 212 v) xT 138 true).run Tryz.prog w = .ok (.tuple #[.nilIface, .bool false]) w := run_typeAssert_lacksB Tryz.underlying138 (by kernel_rfl) (by kernel_rfl) v xT w
theorem a_pair_P (v : Value) (xT : TypeId) (w : World) : (Instr.typeAssert (.iface 212 v) xT 133 true).run Tryz.prog w = .ok (.tuple #[.iface 212 v, .bool true]) w := run_typeAssert_hasB Tryz.underlying133 (by kernel_rfl) v xT w
def Unp.ty : Unp → Int
  | .branch _ _ => 3
  | .plain _ => 1
  | .sem _ => 2
def Unp.text : Unp → ByteArray
  | .branch n _ => n
  | .plain n => n
  | .sem v => if v.orig = ⟨#[]⟩ then semB v else v.orig
def Unp.caret : Unp → ByteArray
  | .branch n _ => n
  | .plain n => n
  | .sem v => ⟨#[61]⟩ ++ semB v
def Vers.unp : Vers → Option Unp
  | .rev _ => none
  | .un u => some u
  | .pair u _ => some u
def Vers.ty (v : Vers) : Int := match v.unp with
  | none => 0
  | some u => u.ty
def Vers.text : Vers → ByteArray
  | .rev s => s
  | .un u => u.text
  | .pair u _ => u.text
def Vers.caret : Vers → ByteArray
  | .rev s => s
  | .un u => u.caret
  | .pair u _ => u.caret
def Vers.revision : Vers → ByteArray
  | .rev s => s
  | .un _ => ⟨#[]⟩
  | .pair _ r => r
set_option maxRecDepth 20000 in
theorem comp_psem (v : SV) (ho : v.orig ≠ ⟨#[]⟩) (r : ByteArray) (w : World) : Calls Tryz.prog 75 #[(Vers.pair (.sem v) r).val] w fun e w' => e = .returned (.tuple #[.string r, .string ⟨#[]⟩, .string v.orig]) ∧ Below w.heap.size w w' := by
  have c0 := c_sem_rev
  have c1 := c_pair_rev
  have h0 := a_rev_U
  have h1 := a_rev_P
  have h2 := a_branch_U
  have h3 := a_branch_P
  have h4 := a_plain_U
  have h5 := a_plain_P
  have h6 := a_sem_U
  have h7 := a_sem_P
  have h8 := a_pair_U
  have h9 := a_pair_P
  have g0 := m_sem_Type
  have g1 := m_sem_String
  have g2 := m_pair_Type
  have g3 := m_pair_String
  have g4 := m_pair_Revision
  obtain ⟨va, vb, vc, vp, vm, vo⟩ := v
  have e1 : vo.toList.isEmpty = false := isEmpty_false (size_pos ho)
  clear ho
  dsimp only [Vers.val, Vers.tid, Vers.inner, Unp.val, Unp.tid, Unp.inner, SV.cells]
  go_enter Tryz.func75, Tryz.ntmps75
  go_wp2
  go_ret3
  exact ⟨rfl, by repeat (first | exact Below.refl _ _ | apply below_alloc | apply pw_below_drewN)⟩
end Go.Proofs.YtgoeiflddikihaaGreatDoor.Ver
end
section
namespace Go.Proofs.YtgoeiflddikihaaGreatDoor.Ver
set_option linter.unusedSimpArgs false
open Go.RowKit Go.Proofs.YtgoeiflddikihaaGreatDoorW.PrintWords
def Unp.kind : Unp → Int
  | .branch _ d => if d then 2 else 1
  | _ => 3
def Unp.word : Unp → ByteArray
  | .branch n _ => n
  | .plain n => n
  | .sem v => v.orig
def backV : Vers → Value
  | .rev s => .agg #[.int .i64 0, .string s, .string ⟨#[]⟩]
  | .un u => .agg #[.int .i64 u.kind, .string u.word, .string ⟨#[]⟩]
  | .pair u r => .agg #[.int .i64 u.kind, .string u.word, .string r]
set_option maxHeartbeats 2000000 in
theorem back_rev (s : ByteArray) (w : World) : Calls Tryz.prog 78 #[Vers.val (.rev s)] w fun e w' => e = .returned (backV (.rev s)) ∧ Below w.heap.size w w' := by
  have HB := Aside0.mk (Below.refl w.heap.size w)
  have q0 := c_rev_rev
  have q1 := c_rev_pair
  have q2 := m_rev_String
  have q3 := m_rev_Type
  dsimp only [Vers.val, Vers.tid, Vers.inner, Unp.val, Unp.tid, Unp.inner, SV.cells] at *
  go_enter Tryz.func78, Tryz.ntmps78
  go_wp2
  refine bodyPost_ret (v := .agg #[.int .i64 0, .string s, .string ⟨#[]⟩]) (by simp [results, Tryz.results78, go_sem, *]) rfl ⟨rfl, ?_⟩
  repeat (first | exact HB.out | apply below_alloc | apply pw_below_drewN | (refine below_set ?_ (by first | exact Nat.le_refl _ | (simp; done) | (simp; omega))))
set_option maxHeartbeats 2000000 in
theorem back_branchF (n : ByteArray) (w : World) : Calls Tryz.prog 78 #[Vers.val (.un (.branch n false))] w fun e w' => e = .returned (backV (.un (.branch n false))) ∧ Below w.heap.size w w' := by
  have HB := Aside0.mk (Below.refl w.heap.size w)
  have q0 := c_branch_rev
  have q1 := c_branch_pair
  have q2 := a_branch_P
  have q3 := c_branch_branch
  have q4 := m_branch_String
  have q5 := m_branch_Type
  dsimp only [Vers.val, Vers.tid, Vers.inner, Unp.val, Unp.tid, Unp.inner, SV.cells] at *
  go_enter Tryz.func78, Tryz.ntmps78
  go_wp2
  refine bodyPost_ret (v := .agg #[.int .i64 1, .string n, .string ⟨#[]⟩]) (by simp [results, Tryz.results78, go_sem, *]) rfl ⟨rfl, ?_⟩
  repeat (first | exact HB.out | apply below_alloc | apply pw_below_drewN | (refine below_set ?_ (by first | exact Nat.le_refl _ | (simp; done) | (simp; omega))))
set_option maxHeartbeats 2000000 in
theorem back_branchT (n : ByteArray) (w : World) : Calls Tryz.prog 78 #[Vers.val (.un (.branch n true))] w fun e w' => e = .returned (backV (.un (.branch n true))) ∧ Below w.heap.size w w' := by
  have HB := Aside0.mk (Below.refl w.heap.size w)
  have q0 := c_branch_rev
  have q1 := c_branch_pair
  have q2 := a_branch_P
  have q3 := c_branch_branch
  have q4 := m_branch_String
  have q5 := m_branch_Type
  dsimp only [Vers.val, Vers.tid, Vers.inner, Unp.val, Unp.tid, Unp.inner, SV.cells] at *
  go_enter Tryz.func78, Tryz.ntmps78
  go_wp2
  refine bodyPost_ret (v := .agg #[.int .i64 2, .string n, .string ⟨#[]⟩]) (by simp [results, Tryz.results78, go_sem, *]) rfl ⟨rfl, ?_⟩
  repeat (first | exact HB.out | apply below_alloc | apply pw_below_drewN | (refine below_set ?_ (by first | exact Nat.le_refl _ | (simp; done) | (simp; omega))))
set_option maxHeartbeats 2000000 in
theorem back_plain (n : ByteArray) (w : World) : Calls Tryz.prog 78 #[Vers.val (.un (.plain n))] w fun e w' => e = .returned (backV (.un (.plain n))) ∧ Below w.heap.size w w' := by
  have HB := Aside0.mk (Below.refl w.heap.size w)
  have q0 := c_plain_rev
  have q1 := c_plain_pair
  have q2 := a_plain_P
  have q3 := m_plain_String
  have q4 := m_plain_Type
  dsimp only [Vers.val, Vers.tid, Vers.inner, Unp.val, Unp.tid, Unp.inner, SV.cells] at *
  go_enter Tryz.func78, Tryz.ntmps78
  go_wp2
  refine bodyPost_ret (v := .agg #[.int .i64 3, .string n, .string ⟨#[]⟩]) (by simp [results, Tryz.results78, go_sem, *]) rfl ⟨rfl, ?_⟩
  repeat (first | exact HB.out | apply below_alloc | apply pw_below_drewN | (refine below_set ?_ (by first | exact Nat.le_refl _ | (simp; done) | (simp; omega))))
set_option maxHeartbeats 2000000 in
theorem back_sem (v : SV) (ho : v.orig ≠ ⟨#[]⟩) (w : World) : Calls Tryz.prog 78 #[Vers.val (.un (.sem v))] w fun e w' => e = .returned (backV (.un (.sem v))) ∧ Below w.heap.size w w' := by
  have HB := Aside0.mk (Below.refl w.heap.size w)
  have hem : v.orig.toList.isEmpty = false := isEmpty_false (size_pos ho)
  clear ho
  obtain ⟨va, vb, vc, vp, vm, vo⟩ := v
  have q0 := c_sem_rev
  have q1 := c_sem_pair
  have q2 := a_sem_P
  have q3 := m_sem_String
  have q4 := m_sem_Type
  dsimp only [Vers.val, Vers.tid, Vers.inner, Unp.val, Unp.tid, Unp.inner, SV.cells] at *
  go_enter Tryz.func78, Tryz.ntmps78
  go_wp2
  refine bodyPost_ret (v := .agg #[.int .i64 3, .string vo, .string ⟨#[]⟩]) (by simp [results, Tryz.results78, go_sem, *]) rfl ⟨rfl, ?_⟩
  repeat (first | exact HB.out | apply below_alloc | apply pw_below_drewN | (refine below_set ?_ (by first | exact Nat.le_refl _ | (simp; done) | (simp; omega))))
set_option maxHeartbeats 2000000 in
theorem back_pbranchF (n q : ByteArray) (w : World) : Calls Tryz.prog 78 #[Vers.val (.pair (.branch n false) q)] w fun e w' => e = .returned (backV (.pair (.branch n false) q)) ∧ Below w.heap.size w w' := by
  have HB := Aside0.mk (Below.refl w.heap.size w)
  have q0 := c_pair_rev
  have q1 := c_pair_pair
  have q2 := a_pair_P
  have q3 := m_pair_Revision
  have q4 := m_pair_String
  have q5 := m_pair_Type
  have q6 := m_branch_String
  have q7 := m_branch_Type
  have q8 := c_branch_branch
  dsimp only [Vers.val, Vers.tid, Vers.inner, Unp.val, Unp.tid, Unp.inner, SV.cells] at *
  go_enter Tryz.func78, Tryz.ntmps78
  go_wp2
  refine bodyPost_ret (v := .agg #[.int .i64 1, .string n, .string q]) (by simp [results, Tryz.results78, go_sem, *]) rfl ⟨rfl, ?_⟩
  repeat (first | exact HB.out | apply below_alloc | apply pw_below_drewN | (refine below_set ?_ (by first | exact Nat.le_refl _ | (simp; done) | (simp; omega))))
set_option maxHeartbeats 2000000 in
theorem back_pbranchT (n q : ByteArray) (w : World) : Calls Tryz.prog 78 #[Vers.val (.pair (.branch n true) q)] w fun e w' => e = .returned (backV (.pair (.branch n true) q)) ∧ Below w.heap.size w w' := by
  have HB := Aside0.mk (Below.refl w.heap.size w)
  have q0 := c_pair_rev
  have q1 := c_pair_pair
  have q2 := a_pair_P
  have q3 := m_pair_Revision
  have q4 := m_pair_String
  have q5 := m_pair_Type
  have q6 := m_branch_String
  have q7 := m_branch_Type
  have q8 := c_branch_branch
  dsimp only [Vers.val, Vers.tid, Vers.inner, Unp.val, Unp.tid, Unp.inner, SV.cells] at *
  go_enter Tryz.func78, Tryz.ntmps78
  go_wp2
  refine bodyPost_ret (v := .agg #[.int .i64 2, .string n, .string q]) (by simp [results, Tryz.results78, go_sem, *]) rfl ⟨rfl, ?_⟩
  repeat (first | exact HB.out | apply below_alloc | apply pw_below_drewN | (refine below_set ?_ (by first | exact Nat.le_refl _ | (simp; done) | (simp; omega))))
set_option maxHeartbeats 2000000 in
theorem back_pplain (n q : ByteArray) (w : World) : Calls Tryz.prog 78 #[Vers.val (.pair (.plain n) q)] w fun e w' => e = .returned (backV (.pair (.plain n) q)) ∧ Below w.heap.size w w' := by
  have HB := Aside0.mk (Below.refl w.heap.size w)
  have q0 := c_pair_rev
  have q1 := c_pair_pair
  have q2 := a_pair_P
  have q3 := m_pair_Revision
  have q4 := m_pair_String
  have q5 := m_pair_Type
  have q6 := m_plain_String
  have q7 := m_plain_Type
  dsimp only [Vers.val, Vers.tid, Vers.inner, Unp.val, Unp.tid, Unp.inner, SV.cells] at *
  go_enter Tryz.func78, Tryz.ntmps78
  go_wp2
  refine bodyPost_ret (v := .agg #[.int .i64 3, .string n, .string q]) (by simp [results, Tryz.results78, go_sem, *]) rfl ⟨rfl, ?_⟩
  repeat (first | exact HB.out | apply below_alloc | apply pw_below_drewN | (refine below_set ?_ (by first | exact Nat.le_refl _ | (simp; done) | (simp; omega))))
set_option maxHeartbeats 2000000 in
theorem back_psem (v : SV) (ho : v.orig ≠ ⟨#[]⟩) (q : ByteArray) (w : World) : Calls Tryz.prog 78 #[Vers.val (.pair (.sem v) q)] w fun e w' => e = .returned (backV (.pair (.sem v) q)) ∧ Below w.heap.size w w' := by
  have HB := Aside0.mk (Below.refl w.heap.size w)
  have hem : v.orig.toList.isEmpty = false := isEmpty_false (size_pos ho)
  clear ho
  obtain ⟨va, vb, vc, vp, vm, vo⟩ := v
  have q0 := c_pair_rev
  have q1 := c_pair_pair
  have q2 := a_pair_P
  have q3 := m_pair_Revision
  have q4 := m_pair_String
  have q5 := m_pair_Type
  have q6 := m_sem_String
  have q7 := m_sem_Type
  dsimp only [Vers.val, Vers.tid, Vers.inner, Unp.val, Unp.tid, Unp.inner, SV.cells] at *
  go_enter Tryz.func78, Tryz.ntmps78
  go_wp2
  refine bodyPost_ret (v := .agg #[.int .i64 3, .string vo, .string q]) (by simp [results, Tryz.results78, go_sem, *]) rfl ⟨rfl, ?_⟩
  repeat (first | exact HB.out | apply below_alloc | apply pw_below_drewN | (refine below_set ?_ (by first | exact Nat.le_refl _ | (simp; done) | (simp; omega))))
end Go.Proofs.YtgoeiflddikihaaGreatDoor.Ver
end
section
namespace Go.Proofs.YtgoeiflddikihaaGreatDoor.Ver
open Go.RowKit Go.Proofs.YtgoeiflddikihaaGreatDoor.Dig Go.Proofs.YtgoeiflddikihaaGreatDoorW.PrintWords Go.Sort Go.Proofs.YtgoeiflddikihaaGreatDoor.Srt Go.Proofs.YtgoeiflddikihaaGreatDoor.Ord
structure VD where
  k : Int
  t : ByteArray
  r : ByteArray
  ht : t.size ≤ 2147483647
def VD.cells (x : VD) : List Value := [.int .i64 x.k, .string x.t, .string x.r]
def VD.ver (x : VD) : VS := ⟨verV x.k x.t x.r, verV_fine x.k x.r x.ht⟩
structure AtV (w : World) (v : Value) (D : List VD) : Prop where
  form : ∃ a c, v = .slice a D.length c ∧ (0 < D.length → ∃ b o, a = some ⟨b, o, none⟩ ∧ ∀ i (h : i < D.length), w.cell? ⟨b, o + i * 3, none⟩ = some (.int .i64 D[i].k) ∧ w.cell? ⟨b, o + i * 3 + 1, none⟩ = some (.string D[i].t) ∧ w.cell? ⟨b, o + i * 3 + 2, none⟩ = some (.string D[i].r))
def encsTo (D : List VD) (k : Nat) : List Value := (D.take k).map fun x => encV x.ver
theorem encsTo_next (D : List VD) (k : Nat) (h : k < D.length) : encsTo D k ++ [encV D[k].ver] = encsTo D (k + 1) := by
  unfold encsTo; rw [List.take_succ_eq_append_getElem h, List.map_append]; rfl
theorem info114 : (Tryz.prog.info? 114).map (fun i => (i.zero, i.size, i.bytes)) = some (some .nilIface, 1, 16) := by kernel_rfl
theorem infoV : (Tryz.prog.info? 27).map (fun i => (i.zero, i.size, i.bytes)) = some (some (.agg #[.int .i64 0, .string ⟨#[]⟩, .string ⟨#[]⟩]), 3, 40) := by kernel_rfl
theorem backV_form (a : Vers) : ∃ k t r, backV a = .agg #[.int .i64 k, .string t, .string r] := by
  rcases a with s | u | ⟨u, r⟩ <;> exact ⟨_, _, _, rfl⟩
theorem back_any (a : VS) (w : World) : Calls Tryz.prog 78 #[encV a] w fun e w' => e = .returned (backV a.1) ∧ Below w.heap.size w w' := by
  obtain ⟨a, hf⟩ := a
  show Calls _ _ #[Vers.val a] _ _
  have ho := hf.2
  rcases a with s | (⟨n, d⟩ | n | v) | ⟨(⟨n, d⟩ | n | v), q⟩
  · exact back_rev s w
  · cases d
    · exact back_branchF n w
    · exact back_branchT n w
  · exact back_plain n w
  · exact back_sem v (ho v rfl) w
  · cases d
    · exact back_pbranchF n q w
    · exact back_pbranchT n q w
  · exact back_pplain n q w
  · exact back_psem v (ho v rfl) q w
def backsTo (d : Array VS) (k : Nat) : List Value := (d.toList.take k).flatMap fun a => (backV a.1).cells.toList
theorem backsTo_next (d : Array VS) (k : Nat) (h : k < d.size) : backsTo d k ++ (backV d[k]!.1).cells.toList = backsTo d (k + 1) := by
  unfold backsTo
  rw [List.take_succ_eq_append_getElem (by simpa using h), List.flatMap_append, getElem!_pos d k h]
  simp
theorem backsTo_all (d : Array VS) {n : Nat} (h : d.size = n) : backsTo d n = d.toList.flatMap fun a => (backV a.1).cells.toList := by
  unfold backsTo; rw [List.take_of_length_le (by simp [h])]
theorem cells_new (w : World) (cs : Array Value) (t : TypeId) : ∀ (j : Nat) (u : Value), cs.toList[j]? = some u → (w.alloc (.cells cs t)).cell? ((⟨w.heap.size, 0, none⟩ : Addr).add j) = some u := by
  intro j u h
  have e : ((⟨w.heap.size, 0, none⟩ : Addr).add j) = ⟨w.heap.size, j, none⟩ := by unfold Addr.add; split <;> simp_all
  rw [e, blk_cell (alloc_at w _) j, ← Array.getElem?_toList]
  exact h
def SortedEnd (down : Bool) (d : Array VS) (w : World) (e : Ending) (w' : World) : Prop :=
  ∃ (x : Value) (d' : Array VS), e = .returned x ∧ PermIn 0 d.size d d' ∧ SortedIn (ltV down) 0 d.size d' ∧ w'.ownsRow w.heap.size 27 3 x d.size (d'.toList.flatMap fun a => (backV a.1).cells.toList) ∧ Below w.heap.size w w'
set_option maxRecDepth 20000 in
set_option maxHeartbeats 4000000 in
theorem sorted_up (D : List VD) (hn : 1 ≤ D.length ∧ D.length ≤ 12) (v : Value) (w : World) (hv : Vars w) (hA : AtV w v D) :
    Calls Tryz.prog 37 #[v, .bool false, .bool false] w (SortedEnd false (D.map VD.ver).toArray w) := by
  obtain ⟨a, c, rfl, hc⟩ := hA.form
  obtain ⟨b, o, rfl, hcell⟩ := hc (by omega)
  obtain ⟨i0, hi, hz0, hz1, hz2⟩ := info_parts info114
  have HB := Aside0.mk (Below.refl w.heap.size w)
  have hblt : b < w.heap.size := World.block_lt_of_cell? w ⟨b, o + 0 * 3, none⟩ (hcell 0 (by omega)).1
  have HC := Lib.hid (fun W (hb : Below w.heap.size w W) i (h : i < D.length) => (⟨(hb.cell (p := ⟨b, o + i * 3, none⟩) hblt).trans (hcell i h).1, (hb.cell (p := ⟨b, o + i * 3 + 1, none⟩) hblt).trans (hcell i h).2.1, (hb.cell (p := ⟨b, o + i * 3 + 2, none⟩) hblt).trans (hcell i h).2.2⟩ : W.cell? ⟨b, o + i * 3, none⟩ = some (.int .i64 D[i].k) ∧ W.cell? ⟨b, o + i * 3 + 1, none⟩ = some (.string D[i].t) ∧ W.cell? ⟨b, o + i * 3 + 2, none⟩ = some (.string D[i].r)))
  have HVER := Lib.hid (fun (x : VD) W (hb : Below w.heap.size w W) => ver_any x.k x.t x.r x.ht W (hv.below hb))
  clear hcell hc hA hv
  obtain ⟨hn1, hn2⟩ := hn
  obtain ⟨n, hN⟩ : ∃ n, D.length = n := ⟨_, rfl⟩
  have HN := Lib.hid hN
  rw [hN] at hn1 hn2 ⊢
  have HDS := Lib.hid (show (D.map VD.ver).toArray.size = n by simp [hN])
  have HDJ := Lib.hid (fun j (h : j < n) => (show (encsTo D n)[j]? = some (encV (D.map VD.ver).toArray[j]!) by
    unfold encsTo
    rw [List.take_of_length_le (by omega), getElem!_pos _ j (by simp; omega)]
    simp [List.getElem?_map, List.getElem?_eq_getElem (show j < D.length by omega)]))
  generalize (D.map VD.ver).toArray = d at *
  clear hN
  go_enter Tryz.func37, Tryz.ntmps37
  go_wp2_with fail
  go_loopw [15, 59] (fun v15 v59 wr => ∃ k : Nat, v59 = .int .i64 k ∧ k ≤ n ∧ Aside0 (wr.ownsRow w.heap.size 114 1 v15 k (encsTo D k)) ∧ Aside0 (Below w.heap.size w wr)) (fun _ v59 _ => n - (intOf v59).toNat)
  case atStart => exact ⟨0, rfl, by omega, ⟨World.ownsRow_nil _ _ _ _⟩, HB⟩
  case round =>
    obtain ⟨k, rfl, hk, HO, HW⟩ := hrel
    by_cases hlt : k < n
    · have d1 : decide (k < n) = true := decide_eq_true hlt
      have HLT := Lib.hid (show k < D.length by rw [HN.out]; exact hlt)
      obtain ⟨c0, c1, c2⟩ := HC.out wr HW.out k HLT.out
      have hv' : ∀ W, Below w.heap.size w W → Calls Tryz.prog 66 #[.agg #[.int .i64 D[k].k, .string D[k].t, .string D[k].r]] W fun e w' => e = .returned (encV D[k].ver) ∧ Below W.heap.size W w' := HVER.out D[k]
      obtain ⟨ty, vy, hy⟩ : ∃ t v, encV D[k].ver = .iface t v := ⟨_, _, rfl⟩
      rw [hy] at hv'
      have HY : Hid (encsTo D k ++ [.iface ty vy] = encsTo D (k + 1)) := Lib.hid (by rw [← hy]; exact encsTo_next D k HLT.out)
      clear hy
      have HV := Lib.hid hv'
      clear hv'
      generalize D[k].k = vk at *
      generalize D[k].t = vt at *
      generalize D[k].r = vr at *
      go_wp2_with (first
        | (go_at_call 66; ((with_reducible refine (HV.out _ (by repeat (first | exact HW.out | apply below_alloc | apply pw_below_drewN))).mono ?_); rintro e w5 ⟨rfl, hb⟩; have HO5 := Aside0.mk (pw_own_below (HO.out.alloc _) hb); have HW5 := Aside0.mk (below_trans (by repeat (first | exact HW.out | apply below_alloc | apply pw_below_drewN)) hb); clear hb))
        | (at_builtin; (refine wpList_append_own _ rfl _ _ 143 rfl w.heap.size 114 i0 .nilIface 1 16 Tryz.underlying143 hi hz0 hz1 hz2 rfl (by decide) _ k _ rfl (HO5.out.alloc _) ⟨w5.heap.size, 0, none⟩ 1 1 [.iface ty vy] rfl rfl ?c1 ?c2 ?c3 ?c4 ?c5 ?_)))
      case c1 => exact cell_one_new _ _ _
      case c2 => intro u hu; simp at hu; subst hu; rfl
      case c3 => unfold maxLen; omega
      case c4 => omega
      case c5 => exact (below_alloc HW5.out _).size
      intro v' w6 ho6 hg6 _
      have HO6 := Aside0.mk (show w6.ownsRow w.heap.size 114 1 v' (k + 1) (encsTo D (k + 1)) by rw [← HY.out]; exact ho6)
      have HW6 := Aside0.mk (pw_below_grown (below_alloc HW5.out (.cells #[.iface ty vy] 114)) _ (below_alloc HW5.out _).size hg6 (fun kk hk => (HO5.out.lt kk hk).1))
      clear ho6 hg6
      go_wp2_with fail
      go_roundw
      case rel => exact ⟨k + 1, by go_num, by omega, HO6, HW6⟩
      case measure => simp [intOf]; omega
    · have d1 : decide (k < n) = false := decide_eq_false hlt
      obtain rfl : k = n := by omega
      clear hlt hk
      obtain ⟨g, cap, rfl, hg1, hg2⟩ := HO.out.form (by omega)
      have hH : Holds encV wr g 0 d := by
        intro j hj
        rw [HDS.out] at hj
        rw [Nat.zero_add]
        exact ⟨by rw [HO.out.cellAt j (by omega)]; exact HDJ.out j hj, HO.out.frozenAt j⟩
      have HSRT := Lib.hid (sortAll_up g 0 k cap hn1 hn2 d HDS.out wr hH hg2)
      have HG := Lib.hid hg1
      clear hH hg1 hg2
      go_wp2_with (first
        | (go_at_call 80; ((with_reducible refine HSRT.out.mono ?_); rintro e w7 ⟨rfl, d', hpi, hso, hsi⟩; refine Hid.out ?_)))
      have HPI := Lib.hid hpi
      have HSO := Lib.hid hso
      have HSI := Aside0.mk hsi
      have HW7 := Aside0.mk (pw_below_grown HW.out (some g) HW.out.size hsi.gr (fun kk hk => by injection hk with hk; subst hk; exact HG.out))
      have HD7 := Lib.hid (show d'.size = k by rw [hpi.1]; exact HDS.out)
      clear hpi hso hsi
      obtain ⟨iv, hvi, hvz0, hvz1, hvz2⟩ := info_parts infoV
      refine Lib.hid ?_
      go_wp2_with fail
      go_loopw [7, 76] (fun v7 v76 wx => ∃ q : Nat, v76 = .int .i64 q ∧ q ≤ k ∧ Aside0 (wx.ownsRow w7.heap.size 27 3 v7 q (backsTo d' q)) ∧ Aside0 (Below w7.heap.size w7 wx)) (fun _ v76 _ => k - (intOf v76).toNat)
      case atStart => exact ⟨0, rfl, by omega, ⟨World.ownsRow_nil _ _ _ _⟩, ⟨Below.refl _ _⟩⟩
      case round =>
        obtain ⟨q, rfl, hq, HP, HX⟩ := hrel
        by_cases hlt : q < k
        · have e1 : decide (q < k) = true := decide_eq_true hlt
          have hcl : wr.cell? ⟨g, q, none⟩ = some (encV d'[q]!) := by
            have h1 := (HSI.out.holds q (by rw [HD7.out]; exact hlt)).1
            rw [Nat.zero_add] at h1
            exact (HX.out.cell (p := ⟨g, q, none⟩) (World.block_lt_of_cell? _ _ h1)).trans h1
          have hb' := back_any d'[q]!
          obtain ⟨vk, vt, vr, hbf⟩ := backV_form d'[q]!.1
          rw [hbf] at hb'
          have HY : Hid (backsTo d' q ++ [.int .i64 vk, .string vt, .string vr] = backsTo d' (q + 1)) := Lib.hid (by rw [← backsTo_next d' q (by rw [HD7.out]; exact hlt), hbf]; rfl)
          have HBK := Lib.hid hb'
          clear hb' hbf
          generalize encV d'[q]! = ev at *
          go_wp2_with (first
            | (go_at_call 78; ((with_reducible refine (HBK.out _).mono ?_); rintro e w8 ⟨rfl, hb⟩; have HP8 := Aside0.mk (pw_own_below HP.out hb); have HX8 := Aside0.mk (below_trans HX.out hb); clear hb))
            | (at_builtin; (refine wpList_append_own _ rfl _ _ 23 rfl w7.heap.size 27 iv (.agg #[.int .i64 0, .string ⟨#[]⟩, .string ⟨#[]⟩]) 3 40 Tryz.underlying23 hvi hvz0 hvz1 hvz2 rfl (by decide) _ q _ rfl (HP8.out.alloc _) ⟨w8.heap.size, 0, none⟩ 1 1 [.int .i64 vk, .string vt, .string vr] rfl rfl ?c1 ?c2 ?c3 ?c4 ?c5 ?_)))
          case c1 => exact cells_new _ #[.int .i64 vk, .string vt, .string vr] _
          case c2 => intro u hu; simp at hu; rcases hu with rfl | rfl | rfl <;> rfl
          case c3 => unfold maxLen; omega
          case c4 => omega
          case c5 => exact (below_alloc HX8.out _).size
          intro v' w9 ho9 hg9 _
          have HP9 := Aside0.mk (show w9.ownsRow w7.heap.size 27 3 v' (q + 1) (backsTo d' (q + 1)) by rw [← HY.out]; exact ho9)
          have HX9 := Aside0.mk (pw_below_grown (below_alloc HX8.out (.cells #[.int .i64 vk, .string vt, .string vr] 27)) _ (below_alloc HX8.out _).size hg9 (fun kk hk => (HP8.out.lt kk hk).1))
          clear ho9 hg9
          go_wp2_with fail
          go_roundw
          case rel => exact ⟨q + 1, by go_num, by omega, HP9, HX9⟩
          case measure => simp [intOf]; omega
        · have e1 : decide (q < k) = false := decide_eq_false hlt
          obtain rfl : q = k := by omega
          clear hlt hq
          go_wp2_with fail
          go_ret
          refine ⟨_, d', rfl, by rw [HDS.out]; exact HPI.out, by rw [HDS.out]; exact HSO.out, ?_, below_trans HW7.out HX.out⟩
          rw [HDS.out, ← backsTo_all d' HD7.out]
          exact own_less HP.out HW7.out.size
end Go.Proofs.YtgoeiflddikihaaGreatDoor.Ver
end
