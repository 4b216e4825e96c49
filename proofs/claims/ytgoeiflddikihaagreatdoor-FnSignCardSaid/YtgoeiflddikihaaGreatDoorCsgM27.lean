/- Merged by program out of: Sorter. -/
import Derived.Test.YtgoeiflddikihaaGreatDoorCsgM26
import Derived.Test.YtgoeiflddikihaaGreatDoorCsgM22
import Derived.Test.YtgoeiflddikihaaGreatDoorCsgM13
import Derived.RegionTactic
import Derived.BigRegion
import Derived.ChangeAlike
section
namespace Go.Proofs.YtgoeiflddikihaaGreatDoor.Ver
open Go.RowKit Go.Proofs.YtgoeiflddikihaaGreatDoorW.PrintWords Go.Sort Go.Proofs.YtgoeiflddikihaaGreatDoor.Srt Go.Proofs.YtgoeiflddikihaaGreatDoor.Ord
theorem bare_sem (l : Vers) (h : l.rank = 0) : l.bare = .un (.sem l.sem) := by
  rcases l with s | (⟨n, d⟩ | s | v) | ⟨(⟨n, d⟩ | s | v), x⟩ <;> first | rfl | (simp [Vers.rank, Unp.rank] at h)
theorem vless_any (l r : Vers) (hl : l.sem.pre.size ≤ 140737488351232) (hr : r.sem.pre.size ≤ 140737488351232) (down : Bool) (w : World) :
    Calls Tryz.prog 204 #[l.val, r.val, .bool down] w fun e w' => e = .returned (.bool (lessV down l r)) ∧ Below w.heap.size w w' := by
  by_cases h : l.rank = r.rank
  · by_cases h0 : l.rank = 0
    · exact vless_sem l r l.sem r.sem (bare_sem l h0) (bare_sem r (h.symm.trans h0)) hl hr down w
    · by_cases h1 : l.rank = 1
      · exact vless_branch l r down h1 (h.symm.trans h1) w
      · exact vless_name l r down h (by omega) w
  · exact vless_rank l r down h w
def Vers.fine (v : Vers) : Prop := v.sem.pre.size ≤ 140737488351232 ∧ ∀ s, v.bare = .un (.sem s) → s.orig ≠ ⟨#[]⟩
def VS : Type := { v : Vers // v.fine }
instance : Inhabited VS := ⟨⟨.rev ⟨#[]⟩, by decide, by intro s h; cases h⟩⟩
theorem readV_text {s : ByteArray} {v : SV} {k : Nat} (h : readV s = some (v, k)) : s ≠ ⟨#[]⟩ := by
  rintro rfl
  have : readV ⟨#[]⟩ = none := by rfl
  rw [this] at h; cases h
theorem newV_fine {t : ByteArray} (ht : t.size ≤ 2147483647) {v : SV} (h : newV t = .sem v) : v.pre.size ≤ 140737488351232 ∧ v.orig ≠ ⟨#[]⟩ := by
  unfold newV at h
  split at h
  · cases h
  · rename_i x k hq
    injection h with h
    subst h
    obtain ⟨h1, h2⟩ := readV_ok' ht hq
    exact ⟨Nat.le_trans h1.p (by omega), by rw [h2]; exact readV_text hq⟩
theorem unpV_fine {k : Int} {t : ByteArray} (ht : t.size ≤ 2147483647) {v : SV} (h : unpV k t = some (.sem v)) : v.pre.size ≤ 140737488351232 ∧ v.orig ≠ ⟨#[]⟩ := by
  unfold unpV at h
  split at h
  · cases h
  · split at h
    · cases h
    · split at h
      · injection h with h; exact newV_fine ht h
      · cases h
theorem verV_fine (k : Int) {t : ByteArray} (r : ByteArray) (ht : t.size ≤ 2147483647) : (verV k t r).fine := by
  unfold verV
  split
  · exact ⟨by show (ByteArray.size ⟨#[]⟩) ≤ _; decide, by intro s h; cases h⟩
  · rename_i u hu
    have hz : (zV.pre.size ≤ 140737488351232) := by decide
    split
    · rcases u with ⟨n, d⟩ | n | v
      · exact ⟨hz, by intro s h; cases h⟩
      · exact ⟨hz, by intro s h; cases h⟩
      · have := unpV_fine ht hu
        exact ⟨this.1, by intro s h; cases h; exact this.2⟩
    · rcases u with ⟨n, d⟩ | n | v
      · exact ⟨hz, by intro s h; cases h⟩
      · exact ⟨hz, by intro s h; cases h⟩
      · have := unpV_fine ht hu
        exact ⟨this.1, by intro s h; cases h; exact this.2⟩
def encV (a : VS) : Value := a.1.val
def ltV (down : Bool) (a b : VS) : Bool := lessV down a.1 b.1
theorem swo_ltV (down : Bool) : SWO (ltV down) := ⟨fun x => (swo_vers down).irrefl x.1, fun x y z => (swo_vers down).trans x.1 y.1 z.1, fun x y z => (swo_vers down).ntrans x.1 y.1 z.1⟩
set_option maxHeartbeats 2000000 in
theorem less_up (w : World) (blk off n cap : Nat) : LessC 221 (.slice (some ⟨blk, off, none⟩) n cap) encV (ltV false) w blk off n := by
  intro W d hW hd i j hi hj
  have hv := vless_any d[i]!.1 d[j]!.1 d[i]!.2.1 d[j]!.2.1 false
  change ∀ W, Calls _ _ _ _ fun e w' => e = .returned (.bool (ltV false d[i]! d[j]!)) ∧ _ at hv
  have h1 := (hW.holds i (by omega)).1
  have h2 := (hW.holds j (by omega)).1
  unfold encV at h1 h2
  generalize ltV false d[i]! d[j]! = r at *
  generalize d[i]!.1.val = x at *
  generalize d[j]!.1.val = y at *
  have HV := Lib.hid hv
  have b1 : (i : Int) < (n : Int) := by omega
  have b2 : (j : Int) < (n : Int) := by omega
  have HB := Aside0.mk (Below.refl W.heap.size W)
  clear hv hd hW
  go_enter Tryz.func221, Tryz.ntmps221
  go_wp2_with fail
  go_quiet (fail)
  go_wp2_with (go_at_call 204; ((with_reducible refine (HV.out _).mono ?_); rintro e w5 ⟨rfl, hb⟩; have HB5 := Aside0.mk (below_trans (by repeat (first | exact HB.out | apply below_alloc | apply pw_below_drewN)) hb); clear hb))
  go_ret
  exact ⟨rfl, HB5.out⟩
set_option maxHeartbeats 4000000 in
theorem swap_up (w : World) (blk off n cap : Nat) : SwapC 222 (.slice (some ⟨blk, off, none⟩) n cap) encV w blk off n := by
  intro W d hW hd i j hi hj
  have HS := Lib.hid (fun q => (hW.swap (i := i) (j := j) (by omega) (by omega)).drewN q)
  obtain ⟨h1, f1⟩ := hW.holds i (by omega)
  obtain ⟨h2, f2⟩ := hW.holds j (by omega)
  obtain ⟨tx, vx, hx⟩ : ∃ t v, encV d[i]! = .iface t v := ⟨_, _, rfl⟩
  obtain ⟨ty, vy, hy⟩ : ∃ t v, encV d[j]! = .iface t v := ⟨_, _, rfl⟩
  rw [hx, hy] at HS
  rw [hx] at h1
  rw [hy] at h2
  clear hx hy
  have b1 : (i : Int) < (n : Int) := by omega
  have b2 : (j : Int) < (n : Int) := by omega
  obtain ⟨v', hy'⟩ := cell?_setCell_some (w := W) (p := ⟨blk, off + i, none⟩) (x := .iface ty vy) (q := ⟨blk, off + j, none⟩) (v := .iface ty vy) (by go_simp)
  clear hd hW
  go_enter Tryz.func222, Tryz.ntmps222
  go_wp2_with fail
  go_region
  all_goals
    go_end0
    exact ⟨rfl, HS.out 1⟩
theorem meth_up (a : Option Addr) (n cap : Nat) : Meth 179 (.slice a n cap) 220 221 222 :=
  ⟨fun _ => by kernel_rfl, fun _ => by kernel_rfl, fun _ => by kernel_rfl, fun _ _ => by kernel_rfl, fun _ _ => by kernel_rfl, fun _ _ => by kernel_rfl⟩
theorem lenN_up (a : Option Addr) (n cap : Nat) (w : World) : Calls Tryz.prog 220 #[.slice a n cap] w fun e w' => e = .returned (.int .i64 n) ∧ Drawn0 w w' := by
  go_enter Tryz.func220, Tryz.ntmps220
  go_wp2
  go_ret
  exact ⟨rfl, by repeat (first | exact Drawn0.refl _ | apply Drawn0.step)⟩
theorem sorts0_up (a : Option Addr) (n cap : Nat) (hn : n ≤ 1) (w : World) : Calls Tryz.prog 80 #[.slice a n cap] w fun e w' => e = .returned (.tuple #[]) ∧ Drawn0 w w' := by
  have HS := Lib.hid (fun W => sort_tiny (meth_up a n cap) n hn (lenN_up a n cap) W)
  clear hn
  go_enter Tryz.func80, Tryz.ntmps80
  go_wp2_with (go_at_call 102; ((with_reducible refine (HS.out _).mono ?_); rintro e w5 ⟨rfl, ⟨q, rfl⟩⟩))
  go_end0
  exact ⟨rfl, by repeat (first | exact Drawn0.refl _ | apply Drawn0.step)⟩
theorem sorts_up (blk off n cap : Nat) (h2 : 2 ≤ n) (hn : n ≤ 12) (d : Array VS) (hd : d.size = n) (w : World) (hH : Holds encV w blk off d) (hb : blk < w.heap.size) :
    Calls Tryz.prog 80 #[.slice (some ⟨blk, off, none⟩) n cap] w fun e w' => e = .returned (.tuple #[]) ∧ SI encV w blk off (insertionSort (ltV false) d 0 n) w' := by
  have HS := Lib.hid (sort_short (meth_up _ n cap) encV (ltV false) w blk off n (less_up w blk off n cap) (swap_up w blk off n cap) h2 hn (fun W => lenN_up _ n cap W) d hd hH hb)
  clear hn h2 hd hH hb
  go_enter Tryz.func80, Tryz.ntmps80
  go_wp2_with (go_at_call 102; ((with_reducible refine HS.out.mono ?_); rintro e w5 ⟨rfl, hs5⟩; have HS5 := Aside0.mk hs5; clear hs5))
  go_end0
  exact ⟨rfl, HS5.out⟩
theorem sortAll_up (blk off n cap : Nat) (h1 : 1 ≤ n) (hn : n ≤ 12) (d : Array VS) (hd : d.size = n) (w : World) (hH : Holds encV w blk off d) (hb : blk < w.heap.size) :
    Calls Tryz.prog 80 #[.slice (some ⟨blk, off, none⟩) n cap] w fun e w' => e = .returned (.tuple #[]) ∧ ∃ d', PermIn 0 n d d' ∧ SortedIn (ltV false) 0 n d' ∧ SI encV w blk off d' w' := by
  by_cases h2 : 2 ≤ n
  · have h := insertionSort_holds (swo_ltV false) d 0 n (Nat.zero_le _) (by omega)
    exact (sorts_up blk off n cap h2 hn d hd w hH hb).mono fun _ _ ⟨he, hs⟩ => ⟨he, _, h.1, h.2, hs⟩
  · refine (sorts0_up _ n cap (by omega) w).mono fun _ _ ⟨he, hd0⟩ => ⟨he, d, permIn_refl d 0 n, fun i j _ h3 h4 => by omega, ?_⟩
    obtain ⟨q, rfl⟩ := hd0.out
    exact (SI.mk (World.grownBy.refl w (some blk)) hH hb).drewN q
end Go.Proofs.YtgoeiflddikihaaGreatDoor.Ver
end
