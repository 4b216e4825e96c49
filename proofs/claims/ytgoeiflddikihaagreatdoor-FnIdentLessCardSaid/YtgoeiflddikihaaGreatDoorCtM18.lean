/- Merged by program out of: Sort2, Sorter, VTold. -/
import Derived.Test.YtgoeiflddikihaaGreatDoorCtM17
import Derived.Test.YtgoeiflddikihaaGreatDoorShelf
import Derived.Test.YtgoeiflddikihaaGreatDoorCtM16
import Derived.Test.YtgoeiflddikihaaGreatDoorCtM11
import Derived.RegionTactic
import Derived.BigRegion
import Derived.ChangeAlike
section
namespace Go.Proofs.YtgoeiflddikihaaGreatDoor.Srt
open Go.RowKit Go.Proofs.YtgoeiflddikihaaGreatDoorW.PrintWords Go.Sort
variable {α : Type} [Inhabited α]

theorem bitsLen_any (n : Nat) (hn : n < 4611686018427387904) (w : World) : Calls Tryz.prog 123 #[.int .u64 n] w fun e w' => e = .returned (.int .i64 (Lib.bitLen n)) ∧ Drawn0 w w' := by
  have h64 := Lib.hid (fun W => Tryz.bits_Len64 (n : Int) W (by omega) (by omega))
  rw [Int.toNat_natCast] at h64
  have hb := Lib.bitLen_le n 62 (by omega) (by omega)
  generalize Lib.bitLen n = b at *
  go_enter Tryz.func123, Tryz.ntmps123
  go_wp2_with (go_at_call 131; ((with_reducible refine (h64.out _).mono ?_); rintro e w1 ⟨rfl, rfl⟩))
  go_ret
  exact ⟨rfl, by repeat (first | exact Drawn0.refl _ | apply Drawn0.step)⟩

set_option maxRecDepth 20000 in
set_option maxHeartbeats 2000000 in
theorem pdq_short {T : TypeId} {rv : Value} {gn gl gs : Nat} (hm : Meth T rv gn gl gs) (enc : α → Value) (lt : α → α → Bool) (w : World) (blk off n : Nat) (hl : LessC gl rv enc lt w blk off n) (hs : SwapC gs rv enc w blk off n) (hn : n ≤ 12)
    (k : Int) (W : World) (d : Array α) (hd : d.size = n) (hW : SI enc w blk off d W) :
    Calls Tryz.prog 124 #[.iface T rv, .int .i64 0, .int .i64 n, .int .i64 k] W fun e w' => e = .returned (.tuple #[]) ∧ SI enc w blk off (insertionSort lt d 0 n) w' := by
  have HI := Lib.hid (fun W2 h2 => ins_any hm enc lt w blk off n hl hs (by omega) 0 n (Nat.zero_le _) (Nat.le_refl _) W2 d hd h2)
  have HW := Aside0.mk hW
  clear hW hd hl hs hm
  have d1 : decide ((n : Int) ≤ 12) = true := decide_eq_true (by omega)
  go_enter Tryz.func124, Tryz.ntmps124
  go_wp2_with fail
  refine wp_loop_rounds 1 ?_
  rw [rounds_succ]
  go_wp2_with (go_at_call 132; refine (HI.out _ HW.out).mono ?_; rintro e w1 ⟨rfl, hs1⟩; have HW1 := Aside0.mk hs1; clear hs1)
  (try simp only [Exit.inBlock, Exit.then])
  refine bodyPost_ret (results_none rfl _ _ _) rfl ?_
  exact ⟨rfl, HW1.out⟩

set_option maxHeartbeats 2000000 in
theorem sort_short {T : TypeId} {rv : Value} {gn gl gs : Nat} (hm : Meth T rv gn gl gs) (enc : α → Value) (lt : α → α → Bool) (w : World) (blk off n : Nat) (hl : LessC gl rv enc lt w blk off n) (hs : SwapC gs rv enc w blk off n) (h2 : 2 ≤ n) (hn : n ≤ 12)
    (hlen : ∀ W, Calls Tryz.prog gn #[rv] W fun e w' => e = .returned (.int .i64 n) ∧ Drawn0 W w') (d : Array α) (hd : d.size = n) (hH : Holds enc w blk off d) (hb : blk < w.heap.size) :
    Calls Tryz.prog 102 #[.iface T rv] w fun e w' => e = .returned (.tuple #[]) ∧ SI enc w blk off (insertionSort lt d 0 n) w' := by
  have HP := Lib.hid (fun k W2 h2 => pdq_short hm enc lt w blk off n hl hs hn k W2 d hd h2)
  have HW := Aside0.mk (SI.mk (World.grownBy.refl w (some blk)) hH hb)
  have HL := Lib.hid hlen
  have HBL := Lib.hid (fun W => bitsLen_any n (by omega) W)
  have mN := hm.n
  have eN := hm.en
  have d1 : decide ((n : Int) ≤ 1) = false := decide_eq_false (by omega)
  clear hd hl hs hm hlen hH hb
  go_enter Tryz.func102, Tryz.ntmps102
  go_wp2_with (first
    | (go_at_fn gn; refine (HL.out _).mono ?_; rintro e w1 ⟨rfl, ⟨q1, rfl⟩⟩)
    | (go_at_call 123; ((with_reducible refine (HBL.out _).mono ?_); rintro e w1 ⟨rfl, ⟨q2, rfl⟩⟩))
    | (go_at_call 124; refine (HP.out _ _ (by repeat (first | exact HW.out | apply SI.drewN))).mono ?_; rintro e w1 ⟨rfl, hs1⟩; have HW1 := Aside0.mk hs1; clear hs1))
  go_end0
  exact ⟨rfl, HW1.out⟩

theorem sort_tiny {T : TypeId} {rv : Value} {gn gl gs : Nat} (hm : Meth T rv gn gl gs) (n : Nat) (hn : n ≤ 1)
    (hlen : ∀ W, Calls Tryz.prog gn #[rv] W fun e w' => e = .returned (.int .i64 n) ∧ Drawn0 W w') (w : World) :
    Calls Tryz.prog 102 #[.iface T rv] w fun e w' => e = .returned (.tuple #[]) ∧ Drawn0 w w' := by
  have HL := Lib.hid hlen
  have mN := hm.n
  have eN := hm.en
  have d1 : decide ((n : Int) ≤ 1) = true := decide_eq_true (by omega)
  clear hm hlen hn
  go_enter Tryz.func102, Tryz.ntmps102
  go_wp2_with (go_at_fn gn; refine (HL.out _).mono ?_; rintro e w1 ⟨rfl, ⟨q1, rfl⟩⟩)
  (try simp only [Exit.inBlock, Exit.then])
  refine bodyPost_ret (results_none rfl _ _ _) rfl ?_
  exact ⟨rfl, by repeat (first | exact Drawn0.refl _ | apply Drawn0.step)⟩

end Go.Proofs.YtgoeiflddikihaaGreatDoor.Srt
end
section
namespace Go.Proofs.YtgoeiflddikihaaGreatDoor.Ver
open Go.RowKit Go.Proofs.YtgoeiflddikihaaGreatDoorW.PrintWords Go.Sort Go.Proofs.YtgoeiflddikihaaGreatDoor.Srt Go.Proofs.YtgoeiflddikihaaGreatDoor.Ord

theorem bare_sem (l : Vers) (h : l.rank = 0) : l.bare = .un (.sem l.sem) := by
  rcases l with s | (⟨n, d⟩ | s | v) | ⟨(⟨n, d⟩ | s | v), x⟩ <;> first | rfl | (simp [Vers.rank, Unp.rank] at h)
theorem vless_any (l r : Vers) (hl : l.sem.pre.size ≤ 140737488351232) (hr : r.sem.pre.size ≤ 140737488351232) (down : Bool) (w : World) :
    Calls Tryz.prog 204 #[l.val, r.val, .bool down] w fun e w' => e = .returned (.bool (lessV down l r)) ∧ Below w.heap.size w w' := by
  by_cases h : l.rank = r.rank
  · by_cases h0 : l.rank = 0
    · exact vless_sem l r l.sem r.sem (bare_sem l h0) (bare_sem r (h.symm.trans h0)) hl hr down w
    · by_cases h1 : l.rank = 1
      · exact vless_branch l r down h1 (h.symm.trans h1) w
      · exact vless_name l r down h (by omega) w
  · exact vless_rank l r down h w
/-- Versions as they are read: their identifiers are not too long, a semver has a text. -/
def Vers.fine (v : Vers) : Prop := v.sem.pre.size ≤ 140737488351232 ∧ ∀ s, v.bare = .un (.sem s) → s.orig ≠ ⟨#[]⟩
def VS : Type := { v : Vers // v.fine }
instance : Inhabited VS := ⟨⟨.rev ⟨#[]⟩, by decide, by intro s h; cases h⟩⟩
theorem readV_text {s : ByteArray} {v : SV} {k : Nat} (h : readV s = some (v, k)) : s ≠ ⟨#[]⟩ := by
  rintro rfl
  have : readV ⟨#[]⟩ = none := by rfl
  rw [this] at h; cases h
theorem newV_fine {t : ByteArray} (ht : t.size ≤ 2147483647) {v : SV} (h : newV t = .sem v) : v.pre.size ≤ 140737488351232 ∧ v.orig ≠ ⟨#[]⟩ := by
  unfold newV at h
  split at h
  · cases h
  · rename_i x k hq
    injection h with h
    subst h
    obtain ⟨h1, h2⟩ := readV_ok' ht hq
    exact ⟨Nat.le_trans h1.p (by omega), by rw [h2]; exact readV_text hq⟩
theorem unpV_fine {k : Int} {t : ByteArray} (ht : t.size ≤ 2147483647) {v : SV} (h : unpV k t = some (.sem v)) : v.pre.size ≤ 140737488351232 ∧ v.orig ≠ ⟨#[]⟩ := by
  unfold unpV at h
  split at h
  · cases h
  · split at h
    · cases h
    · split at h
      · injection h with h; exact newV_fine ht h
      · cases h
theorem verV_fine (k : Int) {t : ByteArray} (r : ByteArray) (ht : t.size ≤ 2147483647) : (verV k t r).fine := by
  unfold verV
  split
  · exact ⟨by show (ByteArray.size ⟨#[]⟩) ≤ _; decide, by intro s h; cases h⟩
  · rename_i u hu
    have hz : (zV.pre.size ≤ 140737488351232) := by decide
    split
    · rcases u with ⟨n, d⟩ | n | v
      · exact ⟨hz, by intro s h; cases h⟩
      · exact ⟨hz, by intro s h; cases h⟩
      · have := unpV_fine ht hu
        exact ⟨this.1, by intro s h; cases h; exact this.2⟩
    · rcases u with ⟨n, d⟩ | n | v
      · exact ⟨hz, by intro s h; cases h⟩
      · exact ⟨hz, by intro s h; cases h⟩
      · have := unpV_fine ht hu
        exact ⟨this.1, by intro s h; cases h; exact this.2⟩
def encV (a : VS) : Value := a.1.val
def ltV (down : Bool) (a b : VS) : Bool := lessV down a.1 b.1
theorem swo_ltV (down : Bool) : SWO (ltV down) := ⟨fun x => (swo_vers down).irrefl x.1, fun x y z => (swo_vers down).trans x.1 y.1 z.1, fun x y z => (swo_vers down).ntrans x.1 y.1 z.1⟩

theorem len_up (a : Addr) (n cap : Nat) (w : World) : Calls Tryz.prog 220 #[.slice (some a) n cap] w fun e w' => e = .returned (.int .i64 n) ∧ Drawn0 w w' := by
  go_enter Tryz.func220, Tryz.ntmps220
  go_wp2
  go_ret
  exact ⟨rfl, by repeat (first | exact Drawn0.refl _ | apply Drawn0.step)⟩
set_option maxHeartbeats 2000000 in
theorem less_up (w : World) (blk off n cap : Nat) : LessC 221 (.slice (some ⟨blk, off, none⟩) n cap) encV (ltV false) w blk off n := by
  intro W d hW hd i j hi hj
  have hv := vless_any d[i]!.1 d[j]!.1 d[i]!.2.1 d[j]!.2.1 false
  change ∀ W, Calls _ _ _ _ fun e w' => e = .returned (.bool (ltV false d[i]! d[j]!)) ∧ _ at hv
  have h1 := (hW.holds i (by omega)).1
  have h2 := (hW.holds j (by omega)).1
  unfold encV at h1 h2
  generalize ltV false d[i]! d[j]! = r at *
  generalize d[i]!.1.val = x at *
  generalize d[j]!.1.val = y at *
  have HV := Lib.hid hv
  have b1 : (i : Int) < (n : Int) := by omega
  have b2 : (j : Int) < (n : Int) := by omega
  have HB := Aside0.mk (Below.refl W.heap.size W)
  clear hv hd hW
  go_enter Tryz.func221, Tryz.ntmps221
  go_wp2_with fail
  go_quiet (fail)
  go_wp2_with (go_at_call 204; ((with_reducible refine (HV.out _).mono ?_); rintro e w5 ⟨rfl, hb⟩; have HB5 := Aside0.mk (below_trans (by repeat (first | exact HB.out | apply below_alloc | apply pw_below_drewN)) hb); clear hb))
  go_ret
  exact ⟨rfl, HB5.out⟩
set_option maxHeartbeats 4000000 in
theorem swap_up (w : World) (blk off n cap : Nat) : SwapC 222 (.slice (some ⟨blk, off, none⟩) n cap) encV w blk off n := by
  intro W d hW hd i j hi hj
  have HS := Lib.hid (fun q => (hW.swap (i := i) (j := j) (by omega) (by omega)).drewN q)
  obtain ⟨h1, f1⟩ := hW.holds i (by omega)
  obtain ⟨h2, f2⟩ := hW.holds j (by omega)
  obtain ⟨tx, vx, hx⟩ : ∃ t v, encV d[i]! = .iface t v := ⟨_, _, rfl⟩
  obtain ⟨ty, vy, hy⟩ : ∃ t v, encV d[j]! = .iface t v := ⟨_, _, rfl⟩
  rw [hx, hy] at HS
  rw [hx] at h1
  rw [hy] at h2
  clear hx hy
  have b1 : (i : Int) < (n : Int) := by omega
  have b2 : (j : Int) < (n : Int) := by omega
  obtain ⟨v', hy'⟩ := cell?_setCell_some (w := W) (p := ⟨blk, off + i, none⟩) (x := .iface ty vy) (q := ⟨blk, off + j, none⟩) (v := .iface ty vy) (by go_simp)
  clear hd hW
  go_enter Tryz.func222, Tryz.ntmps222
  go_wp2_with fail
  go_region
  all_goals
    go_end0
    exact ⟨rfl, HS.out 1⟩

theorem len_dn (a : Addr) (n cap : Nat) (w : World) : Calls Tryz.prog 217 #[.slice (some a) n cap] w fun e w' => e = .returned (.int .i64 n) ∧ Drawn0 w w' := by
  go_enter Tryz.func217, Tryz.ntmps217
  go_wp2
  go_ret
  exact ⟨rfl, by repeat (first | exact Drawn0.refl _ | apply Drawn0.step)⟩
set_option maxHeartbeats 2000000 in
theorem less_dn (w : World) (blk off n cap : Nat) : LessC 218 (.slice (some ⟨blk, off, none⟩) n cap) encV (ltV true) w blk off n := by
  intro W d hW hd i j hi hj
  have hv := vless_any d[i]!.1 d[j]!.1 d[i]!.2.1 d[j]!.2.1 true
  change ∀ W, Calls _ _ _ _ fun e w' => e = .returned (.bool (ltV true d[i]! d[j]!)) ∧ _ at hv
  have h1 := (hW.holds i (by omega)).1
  have h2 := (hW.holds j (by omega)).1
  unfold encV at h1 h2
  generalize ltV true d[i]! d[j]! = r at *
  generalize d[i]!.1.val = x at *
  generalize d[j]!.1.val = y at *
  have HV := Lib.hid hv
  have b1 : (i : Int) < (n : Int) := by omega
  have b2 : (j : Int) < (n : Int) := by omega
  have HB := Aside0.mk (Below.refl W.heap.size W)
  clear hv hd hW
  go_enter Tryz.func218, Tryz.ntmps218
  go_wp2_with fail
  go_quiet (fail)
  go_wp2_with (go_at_call 204; ((with_reducible refine (HV.out _).mono ?_); rintro e w5 ⟨rfl, hb⟩; have HB5 := Aside0.mk (below_trans (by repeat (first | exact HB.out | apply below_alloc | apply pw_below_drewN)) hb); clear hb))
  go_ret
  exact ⟨rfl, HB5.out⟩
set_option maxHeartbeats 4000000 in
theorem swap_dn (w : World) (blk off n cap : Nat) : SwapC 219 (.slice (some ⟨blk, off, none⟩) n cap) encV w blk off n := by
  intro W d hW hd i j hi hj
  have HS := Lib.hid (fun q => (hW.swap (i := i) (j := j) (by omega) (by omega)).drewN q)
  obtain ⟨h1, f1⟩ := hW.holds i (by omega)
  obtain ⟨h2, f2⟩ := hW.holds j (by omega)
  obtain ⟨tx, vx, hx⟩ : ∃ t v, encV d[i]! = .iface t v := ⟨_, _, rfl⟩
  obtain ⟨ty, vy, hy⟩ : ∃ t v, encV d[j]! = .iface t v := ⟨_, _, rfl⟩
  rw [hx, hy] at HS
  rw [hx] at h1
  rw [hy] at h2
  clear hx hy
  have b1 : (i : Int) < (n : Int) := by omega
  have b2 : (j : Int) < (n : Int) := by omega
  obtain ⟨v', hy'⟩ := cell?_setCell_some (w := W) (p := ⟨blk, off + i, none⟩) (x := .iface ty vy) (q := ⟨blk, off + j, none⟩) (v := .iface ty vy) (by go_simp)
  clear hd hW
  go_enter Tryz.func219, Tryz.ntmps219
  go_wp2_with fail
  go_region
  all_goals
    go_end0
    exact ⟨rfl, HS.out 1⟩

theorem len_pu (a : Addr) (n cap : Nat) (w : World) : Calls Tryz.prog 214 #[.slice (some a) n cap] w fun e w' => e = .returned (.int .i64 n) ∧ Drawn0 w w' := by
  go_enter Tryz.func214, Tryz.ntmps214
  go_wp2
  go_ret
  exact ⟨rfl, by repeat (first | exact Drawn0.refl _ | apply Drawn0.step)⟩
set_option maxHeartbeats 2000000 in
theorem less_pu (w : World) (blk off n cap : Nat) : LessC 215 (.slice (some ⟨blk, off, none⟩) n cap) encV (ltV false) w blk off n := by
  intro W d hW hd i j hi hj
  have hv := vless_any d[i]!.1 d[j]!.1 d[i]!.2.1 d[j]!.2.1 false
  change ∀ W, Calls _ _ _ _ fun e w' => e = .returned (.bool (ltV false d[i]! d[j]!)) ∧ _ at hv
  have h1 := (hW.holds i (by omega)).1
  have h2 := (hW.holds j (by omega)).1
  unfold encV at h1 h2
  generalize ltV false d[i]! d[j]! = r at *
  generalize d[i]!.1.val = x at *
  generalize d[j]!.1.val = y at *
  have HV := Lib.hid hv
  have b1 : (i : Int) < (n : Int) := by omega
  have b2 : (j : Int) < (n : Int) := by omega
  have HB := Aside0.mk (Below.refl W.heap.size W)
  clear hv hd hW
  go_enter Tryz.func215, Tryz.ntmps215
  go_wp2_with fail
  go_quiet (fail)
  go_wp2_with (go_at_call 204; ((with_reducible refine (HV.out _).mono ?_); rintro e w5 ⟨rfl, hb⟩; have HB5 := Aside0.mk (below_trans (by repeat (first | exact HB.out | apply below_alloc | apply pw_below_drewN)) hb); clear hb))
  go_ret
  exact ⟨rfl, HB5.out⟩
set_option maxHeartbeats 4000000 in
theorem swap_pu (w : World) (blk off n cap : Nat) : SwapC 216 (.slice (some ⟨blk, off, none⟩) n cap) encV w blk off n := by
  intro W d hW hd i j hi hj
  have HS := Lib.hid (fun q => (hW.swap (i := i) (j := j) (by omega) (by omega)).drewN q)
  obtain ⟨h1, f1⟩ := hW.holds i (by omega)
  obtain ⟨h2, f2⟩ := hW.holds j (by omega)
  obtain ⟨tx, vx, hx⟩ : ∃ t v, encV d[i]! = .iface t v := ⟨_, _, rfl⟩
  obtain ⟨ty, vy, hy⟩ : ∃ t v, encV d[j]! = .iface t v := ⟨_, _, rfl⟩
  rw [hx, hy] at HS
  rw [hx] at h1
  rw [hy] at h2
  clear hx hy
  have b1 : (i : Int) < (n : Int) := by omega
  have b2 : (j : Int) < (n : Int) := by omega
  obtain ⟨v', hy'⟩ := cell?_setCell_some (w := W) (p := ⟨blk, off + i, none⟩) (x := .iface ty vy) (q := ⟨blk, off + j, none⟩) (v := .iface ty vy) (by go_simp)
  clear hd hW
  go_enter Tryz.func216, Tryz.ntmps216
  go_wp2_with fail
  go_region
  all_goals
    go_end0
    exact ⟨rfl, HS.out 1⟩

theorem len_pd (a : Addr) (n cap : Nat) (w : World) : Calls Tryz.prog 201 #[.slice (some a) n cap] w fun e w' => e = .returned (.int .i64 n) ∧ Drawn0 w w' := by
  go_enter Tryz.func201, Tryz.ntmps201
  go_wp2
  go_ret
  exact ⟨rfl, by repeat (first | exact Drawn0.refl _ | apply Drawn0.step)⟩
set_option maxHeartbeats 2000000 in
theorem less_pd (w : World) (blk off n cap : Nat) : LessC 202 (.slice (some ⟨blk, off, none⟩) n cap) encV (ltV true) w blk off n := by
  intro W d hW hd i j hi hj
  have hv := vless_any d[i]!.1 d[j]!.1 d[i]!.2.1 d[j]!.2.1 true
  change ∀ W, Calls _ _ _ _ fun e w' => e = .returned (.bool (ltV true d[i]! d[j]!)) ∧ _ at hv
  have h1 := (hW.holds i (by omega)).1
  have h2 := (hW.holds j (by omega)).1
  unfold encV at h1 h2
  generalize ltV true d[i]! d[j]! = r at *
  generalize d[i]!.1.val = x at *
  generalize d[j]!.1.val = y at *
  have HV := Lib.hid hv
  have b1 : (i : Int) < (n : Int) := by omega
  have b2 : (j : Int) < (n : Int) := by omega
  have HB := Aside0.mk (Below.refl W.heap.size W)
  clear hv hd hW
  go_enter Tryz.func202, Tryz.ntmps202
  go_wp2_with fail
  go_quiet (fail)
  go_wp2_with (go_at_call 204; ((with_reducible refine (HV.out _).mono ?_); rintro e w5 ⟨rfl, hb⟩; have HB5 := Aside0.mk (below_trans (by repeat (first | exact HB.out | apply below_alloc | apply pw_below_drewN)) hb); clear hb))
  go_ret
  exact ⟨rfl, HB5.out⟩
set_option maxHeartbeats 4000000 in
theorem swap_pd (w : World) (blk off n cap : Nat) : SwapC 203 (.slice (some ⟨blk, off, none⟩) n cap) encV w blk off n := by
  intro W d hW hd i j hi hj
  have HS := Lib.hid (fun q => (hW.swap (i := i) (j := j) (by omega) (by omega)).drewN q)
  obtain ⟨h1, f1⟩ := hW.holds i (by omega)
  obtain ⟨h2, f2⟩ := hW.holds j (by omega)
  obtain ⟨tx, vx, hx⟩ : ∃ t v, encV d[i]! = .iface t v := ⟨_, _, rfl⟩
  obtain ⟨ty, vy, hy⟩ : ∃ t v, encV d[j]! = .iface t v := ⟨_, _, rfl⟩
  rw [hx, hy] at HS
  rw [hx] at h1
  rw [hy] at h2
  clear hx hy
  have b1 : (i : Int) < (n : Int) := by omega
  have b2 : (j : Int) < (n : Int) := by omega
  obtain ⟨v', hy'⟩ := cell?_setCell_some (w := W) (p := ⟨blk, off + i, none⟩) (x := .iface ty vy) (q := ⟨blk, off + j, none⟩) (v := .iface ty vy) (by go_simp)
  clear hd hW
  go_enter Tryz.func203, Tryz.ntmps203
  go_wp2_with fail
  go_region
  all_goals
    go_end0
    exact ⟨rfl, HS.out 1⟩

theorem meth_up (a : Option Addr) (n cap : Nat) : Meth 179 (.slice a n cap) 220 221 222 :=
  ⟨fun _ => by kernel_rfl, fun _ => by kernel_rfl, fun _ => by kernel_rfl, fun _ _ => by kernel_rfl, fun _ _ => by kernel_rfl, fun _ _ => by kernel_rfl⟩
theorem lenN_up (a : Option Addr) (n cap : Nat) (w : World) : Calls Tryz.prog 220 #[.slice a n cap] w fun e w' => e = .returned (.int .i64 n) ∧ Drawn0 w w' := by
  go_enter Tryz.func220, Tryz.ntmps220
  go_wp2
  go_ret
  exact ⟨rfl, by repeat (first | exact Drawn0.refl _ | apply Drawn0.step)⟩
theorem sorts0_up (a : Option Addr) (n cap : Nat) (hn : n ≤ 1) (w : World) : Calls Tryz.prog 80 #[.slice a n cap] w fun e w' => e = .returned (.tuple #[]) ∧ Drawn0 w w' := by
  have HS := Lib.hid (fun W => sort_tiny (meth_up a n cap) n hn (lenN_up a n cap) W)
  clear hn
  go_enter Tryz.func80, Tryz.ntmps80
  go_wp2_with (go_at_call 102; ((with_reducible refine (HS.out _).mono ?_); rintro e w5 ⟨rfl, ⟨q, rfl⟩⟩))
  go_end0
  exact ⟨rfl, by repeat (first | exact Drawn0.refl _ | apply Drawn0.step)⟩
theorem sorts_up (blk off n cap : Nat) (h2 : 2 ≤ n) (hn : n ≤ 12) (d : Array VS) (hd : d.size = n) (w : World) (hH : Holds encV w blk off d) (hb : blk < w.heap.size) :
    Calls Tryz.prog 80 #[.slice (some ⟨blk, off, none⟩) n cap] w fun e w' => e = .returned (.tuple #[]) ∧ SI encV w blk off (insertionSort (ltV false) d 0 n) w' := by
  have HS := Lib.hid (sort_short (meth_up _ n cap) encV (ltV false) w blk off n (less_up w blk off n cap) (swap_up w blk off n cap) h2 hn (fun W => lenN_up _ n cap W) d hd hH hb)
  clear hn h2 hd hH hb
  go_enter Tryz.func80, Tryz.ntmps80
  go_wp2_with (go_at_call 102; ((with_reducible refine HS.out.mono ?_); rintro e w5 ⟨rfl, hs5⟩; have HS5 := Aside0.mk hs5; clear hs5))
  go_end0
  exact ⟨rfl, HS5.out⟩
theorem sortAll_up (blk off n cap : Nat) (h1 : 1 ≤ n) (hn : n ≤ 12) (d : Array VS) (hd : d.size = n) (w : World) (hH : Holds encV w blk off d) (hb : blk < w.heap.size) :
    Calls Tryz.prog 80 #[.slice (some ⟨blk, off, none⟩) n cap] w fun e w' => e = .returned (.tuple #[]) ∧ ∃ d', PermIn 0 n d d' ∧ SortedIn (ltV false) 0 n d' ∧ SI encV w blk off d' w' := by
  by_cases h2 : 2 ≤ n
  · have h := insertionSort_holds (swo_ltV false) d 0 n (Nat.zero_le _) (by omega)
    exact (sorts_up blk off n cap h2 hn d hd w hH hb).mono fun _ _ ⟨he, hs⟩ => ⟨he, _, h.1, h.2, hs⟩
  · refine (sorts0_up _ n cap (by omega) w).mono fun _ _ ⟨he, hd0⟩ => ⟨he, d, permIn_refl d 0 n, fun i j _ h3 h4 => by omega, ?_⟩
    obtain ⟨q, rfl⟩ := hd0.out
    exact (SI.mk (World.grownBy.refl w (some blk)) hH hb).drewN q

theorem meth_dn (a : Option Addr) (n cap : Nat) : Meth 178 (.slice a n cap) 217 218 219 :=
  ⟨fun _ => by kernel_rfl, fun _ => by kernel_rfl, fun _ => by kernel_rfl, fun _ _ => by kernel_rfl, fun _ _ => by kernel_rfl, fun _ _ => by kernel_rfl⟩
theorem lenN_dn (a : Option Addr) (n cap : Nat) (w : World) : Calls Tryz.prog 217 #[.slice a n cap] w fun e w' => e = .returned (.int .i64 n) ∧ Drawn0 w w' := by
  go_enter Tryz.func217, Tryz.ntmps217
  go_wp2
  go_ret
  exact ⟨rfl, by repeat (first | exact Drawn0.refl _ | apply Drawn0.step)⟩
theorem sorts0_dn (a : Option Addr) (n cap : Nat) (hn : n ≤ 1) (w : World) : Calls Tryz.prog 79 #[.slice a n cap] w fun e w' => e = .returned (.tuple #[]) ∧ Drawn0 w w' := by
  have HS := Lib.hid (fun W => sort_tiny (meth_dn a n cap) n hn (lenN_dn a n cap) W)
  clear hn
  go_enter Tryz.func79, Tryz.ntmps79
  go_wp2_with (go_at_call 102; ((with_reducible refine (HS.out _).mono ?_); rintro e w5 ⟨rfl, ⟨q, rfl⟩⟩))
  go_end0
  exact ⟨rfl, by repeat (first | exact Drawn0.refl _ | apply Drawn0.step)⟩
theorem sorts_dn (blk off n cap : Nat) (h2 : 2 ≤ n) (hn : n ≤ 12) (d : Array VS) (hd : d.size = n) (w : World) (hH : Holds encV w blk off d) (hb : blk < w.heap.size) :
    Calls Tryz.prog 79 #[.slice (some ⟨blk, off, none⟩) n cap] w fun e w' => e = .returned (.tuple #[]) ∧ SI encV w blk off (insertionSort (ltV true) d 0 n) w' := by
  have HS := Lib.hid (sort_short (meth_dn _ n cap) encV (ltV true) w blk off n (less_dn w blk off n cap) (swap_dn w blk off n cap) h2 hn (fun W => lenN_dn _ n cap W) d hd hH hb)
  clear hn h2 hd hH hb
  go_enter Tryz.func79, Tryz.ntmps79
  go_wp2_with (go_at_call 102; ((with_reducible refine HS.out.mono ?_); rintro e w5 ⟨rfl, hs5⟩; have HS5 := Aside0.mk hs5; clear hs5))
  go_end0
  exact ⟨rfl, HS5.out⟩
theorem sortAll_dn (blk off n cap : Nat) (h1 : 1 ≤ n) (hn : n ≤ 12) (d : Array VS) (hd : d.size = n) (w : World) (hH : Holds encV w blk off d) (hb : blk < w.heap.size) :
    Calls Tryz.prog 79 #[.slice (some ⟨blk, off, none⟩) n cap] w fun e w' => e = .returned (.tuple #[]) ∧ ∃ d', PermIn 0 n d d' ∧ SortedIn (ltV true) 0 n d' ∧ SI encV w blk off d' w' := by
  by_cases h2 : 2 ≤ n
  · have h := insertionSort_holds (swo_ltV true) d 0 n (Nat.zero_le _) (by omega)
    exact (sorts_dn blk off n cap h2 hn d hd w hH hb).mono fun _ _ ⟨he, hs⟩ => ⟨he, _, h.1, h.2, hs⟩
  · refine (sorts0_dn _ n cap (by omega) w).mono fun _ _ ⟨he, hd0⟩ => ⟨he, d, permIn_refl d 0 n, fun i j _ h3 h4 => by omega, ?_⟩
    obtain ⟨q, rfl⟩ := hd0.out
    exact (SI.mk (World.grownBy.refl w (some blk)) hH hb).drewN q

theorem meth_pu (a : Option Addr) (n cap : Nat) : Meth 177 (.slice a n cap) 214 215 216 :=
  ⟨fun _ => by kernel_rfl, fun _ => by kernel_rfl, fun _ => by kernel_rfl, fun _ _ => by kernel_rfl, fun _ _ => by kernel_rfl, fun _ _ => by kernel_rfl⟩
theorem lenN_pu (a : Option Addr) (n cap : Nat) (w : World) : Calls Tryz.prog 214 #[.slice a n cap] w fun e w' => e = .returned (.int .i64 n) ∧ Drawn0 w w' := by
  go_enter Tryz.func214, Tryz.ntmps214
  go_wp2
  go_ret
  exact ⟨rfl, by repeat (first | exact Drawn0.refl _ | apply Drawn0.step)⟩
theorem sorts0_pu (a : Option Addr) (n cap : Nat) (hn : n ≤ 1) (w : World) : Calls Tryz.prog 77 #[.slice a n cap] w fun e w' => e = .returned (.tuple #[]) ∧ Drawn0 w w' := by
  have HS := Lib.hid (fun W => sort_tiny (meth_pu a n cap) n hn (lenN_pu a n cap) W)
  clear hn
  go_enter Tryz.func77, Tryz.ntmps77
  go_wp2_with (go_at_call 102; ((with_reducible refine (HS.out _).mono ?_); rintro e w5 ⟨rfl, ⟨q, rfl⟩⟩))
  go_end0
  exact ⟨rfl, by repeat (first | exact Drawn0.refl _ | apply Drawn0.step)⟩
theorem sorts_pu (blk off n cap : Nat) (h2 : 2 ≤ n) (hn : n ≤ 12) (d : Array VS) (hd : d.size = n) (w : World) (hH : Holds encV w blk off d) (hb : blk < w.heap.size) :
    Calls Tryz.prog 77 #[.slice (some ⟨blk, off, none⟩) n cap] w fun e w' => e = .returned (.tuple #[]) ∧ SI encV w blk off (insertionSort (ltV false) d 0 n) w' := by
  have HS := Lib.hid (sort_short (meth_pu _ n cap) encV (ltV false) w blk off n (less_pu w blk off n cap) (swap_pu w blk off n cap) h2 hn (fun W => lenN_pu _ n cap W) d hd hH hb)
  clear hn h2 hd hH hb
  go_enter Tryz.func77, Tryz.ntmps77
  go_wp2_with (go_at_call 102; ((with_reducible refine HS.out.mono ?_); rintro e w5 ⟨rfl, hs5⟩; have HS5 := Aside0.mk hs5; clear hs5))
  go_end0
  exact ⟨rfl, HS5.out⟩
theorem sortAll_pu (blk off n cap : Nat) (h1 : 1 ≤ n) (hn : n ≤ 12) (d : Array VS) (hd : d.size = n) (w : World) (hH : Holds encV w blk off d) (hb : blk < w.heap.size) :
    Calls Tryz.prog 77 #[.slice (some ⟨blk, off, none⟩) n cap] w fun e w' => e = .returned (.tuple #[]) ∧ ∃ d', PermIn 0 n d d' ∧ SortedIn (ltV false) 0 n d' ∧ SI encV w blk off d' w' := by
  by_cases h2 : 2 ≤ n
  · have h := insertionSort_holds (swo_ltV false) d 0 n (Nat.zero_le _) (by omega)
    exact (sorts_pu blk off n cap h2 hn d hd w hH hb).mono fun _ _ ⟨he, hs⟩ => ⟨he, _, h.1, h.2, hs⟩
  · refine (sorts0_pu _ n cap (by omega) w).mono fun _ _ ⟨he, hd0⟩ => ⟨he, d, permIn_refl d 0 n, fun i j _ h3 h4 => by omega, ?_⟩
    obtain ⟨q, rfl⟩ := hd0.out
    exact (SI.mk (World.grownBy.refl w (some blk)) hH hb).drewN q

theorem meth_pd (a : Option Addr) (n cap : Nat) : Meth 176 (.slice a n cap) 201 202 203 :=
  ⟨fun _ => by kernel_rfl, fun _ => by kernel_rfl, fun _ => by kernel_rfl, fun _ _ => by kernel_rfl, fun _ _ => by kernel_rfl, fun _ _ => by kernel_rfl⟩
theorem lenN_pd (a : Option Addr) (n cap : Nat) (w : World) : Calls Tryz.prog 201 #[.slice a n cap] w fun e w' => e = .returned (.int .i64 n) ∧ Drawn0 w w' := by
  go_enter Tryz.func201, Tryz.ntmps201
  go_wp2
  go_ret
  exact ⟨rfl, by repeat (first | exact Drawn0.refl _ | apply Drawn0.step)⟩
theorem sorts0_pd (a : Option Addr) (n cap : Nat) (hn : n ≤ 1) (w : World) : Calls Tryz.prog 76 #[.slice a n cap] w fun e w' => e = .returned (.tuple #[]) ∧ Drawn0 w w' := by
  have HS := Lib.hid (fun W => sort_tiny (meth_pd a n cap) n hn (lenN_pd a n cap) W)
  clear hn
  go_enter Tryz.func76, Tryz.ntmps76
  go_wp2_with (go_at_call 102; ((with_reducible refine (HS.out _).mono ?_); rintro e w5 ⟨rfl, ⟨q, rfl⟩⟩))
  go_end0
  exact ⟨rfl, by repeat (first | exact Drawn0.refl _ | apply Drawn0.step)⟩
theorem sorts_pd (blk off n cap : Nat) (h2 : 2 ≤ n) (hn : n ≤ 12) (d : Array VS) (hd : d.size = n) (w : World) (hH : Holds encV w blk off d) (hb : blk < w.heap.size) :
    Calls Tryz.prog 76 #[.slice (some ⟨blk, off, none⟩) n cap] w fun e w' => e = .returned (.tuple #[]) ∧ SI encV w blk off (insertionSort (ltV true) d 0 n) w' := by
  have HS := Lib.hid (sort_short (meth_pd _ n cap) encV (ltV true) w blk off n (less_pd w blk off n cap) (swap_pd w blk off n cap) h2 hn (fun W => lenN_pd _ n cap W) d hd hH hb)
  clear hn h2 hd hH hb
  go_enter Tryz.func76, Tryz.ntmps76
  go_wp2_with (go_at_call 102; ((with_reducible refine HS.out.mono ?_); rintro e w5 ⟨rfl, hs5⟩; have HS5 := Aside0.mk hs5; clear hs5))
  go_end0
  exact ⟨rfl, HS5.out⟩
theorem sortAll_pd (blk off n cap : Nat) (h1 : 1 ≤ n) (hn : n ≤ 12) (d : Array VS) (hd : d.size = n) (w : World) (hH : Holds encV w blk off d) (hb : blk < w.heap.size) :
    Calls Tryz.prog 76 #[.slice (some ⟨blk, off, none⟩) n cap] w fun e w' => e = .returned (.tuple #[]) ∧ ∃ d', PermIn 0 n d d' ∧ SortedIn (ltV true) 0 n d' ∧ SI encV w blk off d' w' := by
  by_cases h2 : 2 ≤ n
  · have h := insertionSort_holds (swo_ltV true) d 0 n (Nat.zero_le _) (by omega)
    exact (sorts_pd blk off n cap h2 hn d hd w hH hb).mono fun _ _ ⟨he, hs⟩ => ⟨he, _, h.1, h.2, hs⟩
  · refine (sorts0_pd _ n cap (by omega) w).mono fun _ _ ⟨he, hd0⟩ => ⟨he, d, permIn_refl d 0 n, fun i j _ h3 h4 => by omega, ?_⟩
    obtain ⟨q, rfl⟩ := hd0.out
    exact (SI.mk (World.grownBy.refl w (some blk)) hH hb).drewN q

end Go.Proofs.YtgoeiflddikihaaGreatDoor.Ver
end
section
namespace Go.Proofs.YtgoeiflddikihaaGreatDoor.Ver
set_option linter.unusedSimpArgs false
open Go.RowKit Go.Proofs.YtgoeiflddikihaaGreatDoor.Dig Go.Proofs.YtgoeiflddikihaaGreatDoorW.PrintWords

theorem a_rev_U (v : Value) (xT : TypeId) (w : World) : (Instr.typeAssert (.iface 135 v) xT 138 true).run Tryz.prog w = .ok (.tuple #[.nilIface, .bool false]) w := run_typeAssert_lacksB Tryz.underlying138 (by kernel_rfl) (by kernel_rfl) v xT w
theorem a_rev_P (v : Value) (xT : TypeId) (w : World) : (Instr.typeAssert (.iface 135 v) xT 133 true).run Tryz.prog w = .ok (.tuple #[.nilIface, .bool false]) w := run_typeAssert_lacksB Tryz.underlying133 (by kernel_rfl) (by kernel_rfl) v xT w
theorem a_branch_U (v : Value) (xT : TypeId) (w : World) : (Instr.typeAssert (.iface 215 v) xT 138 true).run Tryz.prog w = .ok (.tuple #[.iface 215 v, .bool true]) w := run_typeAssert_hasB Tryz.underlying138 (by kernel_rfl) v xT w
theorem a_branch_P (v : Value) (xT : TypeId) (w : World) : (Instr.typeAssert (.iface 215 v) xT 133 true).run Tryz.prog w = .ok (.tuple #[.nilIface, .bool false]) w := run_typeAssert_lacksB Tryz.underlying133 (by kernel_rfl) (by kernel_rfl) v xT w
theorem a_plain_U (v : Value) (xT : TypeId) (w : World) : (Instr.typeAssert (.iface 224 v) xT 138 true).run Tryz.prog w = .ok (.tuple #[.iface 224 v, .bool true]) w := run_typeAssert_hasB Tryz.underlying138 (by kernel_rfl) v xT w
theorem a_plain_P (v : Value) (xT : TypeId) (w : World) : (Instr.typeAssert (.iface 224 v) xT 133 true).run Tryz.prog w = .ok (.tuple #[.nilIface, .bool false]) w := run_typeAssert_lacksB Tryz.underlying133 (by kernel_rfl) (by kernel_rfl) v xT w
theorem a_sem_U (v : Value) (xT : TypeId) (w : World) : (Instr.typeAssert (.iface 200 v) xT 138 true).run Tryz.prog w = .ok (.tuple #[.iface 200 v, .bool true]) w := run_typeAssert_hasB Tryz.underlying138 (by kernel_rfl) v xT w
theorem a_sem_P (v : Value) (xT : TypeId) (w : World) : (Instr.typeAssert (.iface 200 v) xT 133 true).run Tryz.prog w = .ok (.tuple #[.nilIface, .bool false]) w := run_typeAssert_lacksB Tryz.underlying133 (by kernel_rfl) (by kernel_rfl) v xT w
theorem a_pair_U (v : Value) (xT : TypeId) (w : World) : (Instr.typeAssert (.iface 212 v) xT 138 true).run Tryz.prog w = .ok (.tuple #[.nilIface, .bool false]) w := run_typeAssert_lacksB Tryz.underlying138 (by kernel_rfl) (by kernel_rfl) v xT w
theorem a_pair_P (v : Value) (xT : TypeId) (w : World) : (Instr.typeAssert (.iface 212 v) xT 133 true).run Tryz.prog w = .ok (.tuple #[.iface 212 v, .bool true]) w := run_typeAssert_hasB Tryz.underlying133 (by kernel_rfl) v xT w

/-- The type, the text, the caret text of a version. -/
def Unp.ty : Unp → Int
  | .branch _ _ => 3
  | .plain _ => 1
  | .sem _ => 2
def Unp.text : Unp → ByteArray
  | .branch n _ => n
  | .plain n => n
  | .sem v => if v.orig = ⟨#[]⟩ then semB v else v.orig
def Unp.caret : Unp → ByteArray
  | .branch n _ => n
  | .plain n => n
  | .sem v => ⟨#[61]⟩ ++ semB v
def Vers.unp : Vers → Option Unp
  | .rev _ => none
  | .un u => some u
  | .pair u _ => some u
def Vers.ty (v : Vers) : Int := match v.unp with
  | none => 0
  | some u => u.ty
def Vers.text : Vers → ByteArray
  | .rev s => s
  | .un u => u.text
  | .pair u _ => u.text
def Vers.caret : Vers → ByteArray
  | .rev s => s
  | .un u => u.caret
  | .pair u _ => u.caret
def Vers.revision : Vers → ByteArray
  | .rev s => s
  | .un _ => ⟨#[]⟩
  | .pair _ r => r

/-! The components (75). -/
set_option maxRecDepth 20000 in
theorem comp_rev (s : ByteArray) (w : World) : Calls Tryz.prog 75 #[(Vers.rev s).val] w fun e w' => e = .returned (.tuple #[.string s, .string ⟨#[]⟩, .string ⟨#[]⟩]) ∧ Below w.heap.size w w' := by
  have c0 := c_rev_rev
  have h0 := a_rev_U
  have h1 := a_rev_P
  have h2 := a_branch_U
  have h3 := a_branch_P
  have h4 := a_plain_U
  have h5 := a_plain_P
  have h6 := a_sem_U
  have h7 := a_sem_P
  have h8 := a_pair_U
  have h9 := a_pair_P
  have g0 := m_rev_Type
  have g1 := m_rev_String
  dsimp only [Vers.val, Vers.tid, Vers.inner, Unp.val, Unp.tid, Unp.inner, SV.cells]
  go_enter Tryz.func75, Tryz.ntmps75
  go_wp2
  go_ret3
  exact ⟨rfl, by repeat (first | exact Below.refl _ _ | apply below_alloc | apply pw_below_drewN)⟩
set_option maxRecDepth 20000 in
theorem comp_branch (n : ByteArray) (d : Bool) (w : World) : Calls Tryz.prog 75 #[(Vers.un (.branch n d)).val] w fun e w' => e = .returned (.tuple #[.string ⟨#[]⟩, .string n, .string ⟨#[]⟩]) ∧ Below w.heap.size w w' := by
  have c0 := c_branch_rev
  have h0 := a_rev_U
  have h1 := a_rev_P
  have h2 := a_branch_U
  have h3 := a_branch_P
  have h4 := a_plain_U
  have h5 := a_plain_P
  have h6 := a_sem_U
  have h7 := a_sem_P
  have h8 := a_pair_U
  have h9 := a_pair_P
  have g0 := m_branch_Type
  have g1 := m_branch_String
  dsimp only [Vers.val, Vers.tid, Vers.inner, Unp.val, Unp.tid, Unp.inner, SV.cells]
  go_enter Tryz.func75, Tryz.ntmps75
  go_wp2
  go_ret3
  exact ⟨rfl, by repeat (first | exact Below.refl _ _ | apply below_alloc | apply pw_below_drewN)⟩
set_option maxRecDepth 20000 in
theorem comp_plain (n : ByteArray) (w : World) : Calls Tryz.prog 75 #[(Vers.un (.plain n)).val] w fun e w' => e = .returned (.tuple #[.string ⟨#[]⟩, .string ⟨#[]⟩, .string n]) ∧ Below w.heap.size w w' := by
  have c0 := c_plain_rev
  have h0 := a_rev_U
  have h1 := a_rev_P
  have h2 := a_branch_U
  have h3 := a_branch_P
  have h4 := a_plain_U
  have h5 := a_plain_P
  have h6 := a_sem_U
  have h7 := a_sem_P
  have h8 := a_pair_U
  have h9 := a_pair_P
  have g0 := m_plain_Type
  have g1 := m_plain_String
  dsimp only [Vers.val, Vers.tid, Vers.inner, Unp.val, Unp.tid, Unp.inner, SV.cells]
  go_enter Tryz.func75, Tryz.ntmps75
  go_wp2
  go_ret3
  exact ⟨rfl, by repeat (first | exact Below.refl _ _ | apply below_alloc | apply pw_below_drewN)⟩
set_option maxRecDepth 20000 in
theorem comp_pbranch (n : ByteArray) (d : Bool) (r : ByteArray) (w : World) : Calls Tryz.prog 75 #[(Vers.pair (.branch n d) r).val] w fun e w' => e = .returned (.tuple #[.string r, .string n, .string ⟨#[]⟩]) ∧ Below w.heap.size w w' := by
  have c0 := c_branch_rev
  have c1 := c_pair_rev
  have h0 := a_rev_U
  have h1 := a_rev_P
  have h2 := a_branch_U
  have h3 := a_branch_P
  have h4 := a_plain_U
  have h5 := a_plain_P
  have h6 := a_sem_U
  have h7 := a_sem_P
  have h8 := a_pair_U
  have h9 := a_pair_P
  have g0 := m_branch_Type
  have g1 := m_branch_String
  have g2 := m_pair_Type
  have g3 := m_pair_String
  have g4 := m_pair_Revision
  dsimp only [Vers.val, Vers.tid, Vers.inner, Unp.val, Unp.tid, Unp.inner, SV.cells]
  go_enter Tryz.func75, Tryz.ntmps75
  go_wp2
  go_ret3
  exact ⟨rfl, by repeat (first | exact Below.refl _ _ | apply below_alloc | apply pw_below_drewN)⟩
set_option maxRecDepth 20000 in
theorem comp_pplain (n r : ByteArray) (w : World) : Calls Tryz.prog 75 #[(Vers.pair (.plain n) r).val] w fun e w' => e = .returned (.tuple #[.string r, .string ⟨#[]⟩, .string n]) ∧ Below w.heap.size w w' := by
  have c0 := c_plain_rev
  have c1 := c_pair_rev
  have h0 := a_rev_U
  have h1 := a_rev_P
  have h2 := a_branch_U
  have h3 := a_branch_P
  have h4 := a_plain_U
  have h5 := a_plain_P
  have h6 := a_sem_U
  have h7 := a_sem_P
  have h8 := a_pair_U
  have h9 := a_pair_P
  have g0 := m_plain_Type
  have g1 := m_plain_String
  have g2 := m_pair_Type
  have g3 := m_pair_String
  have g4 := m_pair_Revision
  dsimp only [Vers.val, Vers.tid, Vers.inner, Unp.val, Unp.tid, Unp.inner, SV.cells]
  go_enter Tryz.func75, Tryz.ntmps75
  go_wp2
  go_ret3
  exact ⟨rfl, by repeat (first | exact Below.refl _ _ | apply below_alloc | apply pw_below_drewN)⟩
set_option maxRecDepth 20000 in
theorem comp_sem (v : SV) (ho : v.orig ≠ ⟨#[]⟩) (w : World) : Calls Tryz.prog 75 #[(Vers.un (.sem v)).val] w fun e w' => e = .returned (.tuple #[.string ⟨#[]⟩, .string ⟨#[]⟩, .string v.orig]) ∧ Below w.heap.size w w' := by
  have c0 := c_sem_rev
  have h0 := a_rev_U
  have h1 := a_rev_P
  have h2 := a_branch_U
  have h3 := a_branch_P
  have h4 := a_plain_U
  have h5 := a_plain_P
  have h6 := a_sem_U
  have h7 := a_sem_P
  have h8 := a_pair_U
  have h9 := a_pair_P
  have g0 := m_sem_Type
  have g1 := m_sem_String
  obtain ⟨va, vb, vc, vp, vm, vo⟩ := v
  have e1 : vo.toList.isEmpty = false := isEmpty_false (size_pos ho)
  clear ho
  dsimp only [Vers.val, Vers.tid, Vers.inner, Unp.val, Unp.tid, Unp.inner, SV.cells]
  go_enter Tryz.func75, Tryz.ntmps75
  go_wp2
  go_ret3
  exact ⟨rfl, by repeat (first | exact Below.refl _ _ | apply below_alloc | apply pw_below_drewN)⟩
set_option maxRecDepth 20000 in
theorem comp_psem (v : SV) (ho : v.orig ≠ ⟨#[]⟩) (r : ByteArray) (w : World) : Calls Tryz.prog 75 #[(Vers.pair (.sem v) r).val] w fun e w' => e = .returned (.tuple #[.string r, .string ⟨#[]⟩, .string v.orig]) ∧ Below w.heap.size w w' := by
  have c0 := c_sem_rev
  have c1 := c_pair_rev
  have h0 := a_rev_U
  have h1 := a_rev_P
  have h2 := a_branch_U
  have h3 := a_branch_P
  have h4 := a_plain_U
  have h5 := a_plain_P
  have h6 := a_sem_U
  have h7 := a_sem_P
  have h8 := a_pair_U
  have h9 := a_pair_P
  have g0 := m_sem_Type
  have g1 := m_sem_String
  have g2 := m_pair_Type
  have g3 := m_pair_String
  have g4 := m_pair_Revision
  obtain ⟨va, vb, vc, vp, vm, vo⟩ := v
  have e1 : vo.toList.isEmpty = false := isEmpty_false (size_pos ho)
  clear ho
  dsimp only [Vers.val, Vers.tid, Vers.inner, Unp.val, Unp.tid, Unp.inner, SV.cells]
  go_enter Tryz.func75, Tryz.ntmps75
  go_wp2
  go_ret3
  exact ⟨rfl, by repeat (first | exact Below.refl _ _ | apply below_alloc | apply pw_below_drewN)⟩

end Go.Proofs.YtgoeiflddikihaaGreatDoor.Ver
end
