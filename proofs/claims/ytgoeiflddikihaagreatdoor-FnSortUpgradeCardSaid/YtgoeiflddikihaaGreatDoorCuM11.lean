/- Merged by program out of: Sort3, Sort4, ShelfS, Sort5, Sort6, Sort7. -/
import Derived.Test.YtgoeiflddikihaaGreatDoorCuM10
import Derived.Sort.WalkB2
import Derived.Sort.WalkB3
import Derived.Sort.WalkB12
import Derived.Deep.LoopGhost
import Derived.Sort.Walk11
import Derived.Sort.LotD4
import Derived.Sort.LotD1
import Derived.Sort.WalkA6
import Derived.Sort.Walk7
import Derived.Sort.Walk7a
import Derived.Shelf.GgSortFunc.LotD
import Derived.RegionTactic
import Derived.BigRegion
import Derived.Ground.GgsProg
import Derived.Shelf.SlSortFunc.Xorshift
import Derived.Shelf.LaysC
import Derived.Test.YtgoeiflddikihaaGreatDoorProg
import Derived.Shelf.GgSortFunc.Partition
import Derived.Shelf.GgSortFunc.Pdq
import Derived.Deep.Cut
import Derived.Deep.CutRange
section
namespace Go.Proofs.YtgoeiflddikihaaGreatDoor.Srt
open Go.RowKit Go.Proofs.YtgoeiflddikihaaGreatDoorW.PrintWords Go.Sort
variable {α : Type} [Inhabited α]
theorem lessAt {gl : Nat} {rv : Value} {enc : α → Value} {lt : α → α → Bool} {w : World} {blk off n : Nat} (hl : LessC gl rv enc lt w blk off n) {dk : Array α} (hk : dk.size = n) {i j : Nat} (hi : i < n) (hj : j < n) {v : Bool} (hv : lt dk[i]! dk[j]! = v) {I J : Int} (hI : (i : Int) = I) (hJ : (j : Int) = J) :
    ∀ W2, SI enc w blk off dk W2 → Calls Tryz.prog gl #[rv, .int .i64 I, .int .i64 J] W2 fun e w' => e = .returned (.bool v) ∧ SI enc w blk off dk w' := fun W2 h2 => by
  subst hv hI hJ
  exact (hl W2 dk h2 hk i j hi hj).mono fun _ _ ⟨he, hb⟩ => ⟨he, h2.below hb⟩
theorem swapAt {gs : Nat} {rv : Value} {enc : α → Value} {w : World} {blk off n : Nat} (hs : SwapC gs rv enc w blk off n) {dk : Array α} (hk : dk.size = n) {i j : Nat} (hi : i < n) (hj : j < n) {I J : Int} (hI : (i : Int) = I) (hJ : (j : Int) = J) :
    ∀ W2, SI enc w blk off dk W2 → Calls Tryz.prog gs #[rv, .int .i64 I, .int .i64 J] W2 fun e w' => e = .returned (.tuple #[]) ∧ SI enc w blk off (swp dk i j) w' := fun W2 h2 => by
  subst hI hJ
  exact hs W2 dk h2 hk i j hi hj
set_option maxHeartbeats 4000000 in
set_option maxRecDepth 1000000 in
theorem sift_any {T : TypeId} {rv : Value} {gn gl gs : Nat} (hm : Meth T rv gn gl gs) (enc : α → Value) (lt : α → α → Bool) (w : World) (blk off n : Nat) (hl : LessC gl rv enc lt w blk off n) (hs : SwapC gs rv enc w blk off n) (hn : n < 4611686018427387904)
    (lo hi first : Nat) (hlo : lo ≤ hi) (hb : first + hi ≤ n) (W : World) (d : Array α) (hd : d.size = n) (hW : SI enc w blk off d W) :
    Calls Tryz.prog 145 #[.iface T rv, .int .i64 lo, .int .i64 hi, .int .i64 first] W fun e w' => e = .returned (.tuple #[]) ∧ SI enc w blk off (siftDown lt hi first lo d) w' := by
  have mL := hm.l
  have mS := hm.s
  have eL := hm.el
  have eS := hm.es
  have HW := Aside0.mk hW
  have HD := Lib.hid hd
  have HL0 := Lib.hid hl
  have HS0 := Lib.hid hs
  clear hW hd hm hl hs
  go_enter Tryz.func145, Tryz.ntmps145
  go_wp2
  go_loopg [8] (hi - lo) (fun kx s8 wr => ∃ (root : Nat) (dk : Array α), s8 = .int .i64 root ∧ root ≤ hi ∧ hi - root ≤ kx ∧ Hid (dk.size = n) ∧ Aside0 (SI enc w blk off dk wr) ∧ Hid (siftDown lt hi first root dk = siftDown lt hi first lo d))
  case atStart => exact ⟨lo, d, rfl, hlo, Nat.le_refl _, HD, HW, Lib.hid rfl⟩
  case round =>
    obtain ⟨root, dk, rfl, hr, hkx, HK, HS, HE⟩ := hrel
    by_cases h0 : hi ≤ 2 * root + 1
    · have h0z : (hi : Int) ≤ 2 * (root : Int) + 1 := by omega
      have H0 := Lib.hid h0
      clear h0
      go_wp2
      go_end0
      refine ⟨rfl, ?_⟩
      rw [← HE.out, sd_end lt dk H0.out]
      exact HS.out
    · have h0z : ¬ ((hi : Int) ≤ 2 * (root : Int) + 1) := by omega
      by_cases h1 : 2 * root + 2 < hi
      · have h1z : 2 * (root : Int) + 1 + 1 < (hi : Int) := by omega
        cases hL : lt dk[first + (2 * root + 1)]! dk[first + (2 * root + 2)]! with
        | true =>
          have H1 := Lib.hid (lessAt HL0.out HK.out (i := first + (2 * root + 1)) (j := first + (2 * root + 2)) (by omega) (by omega) hL (I := (first : Int) + (2 * (root : Int) + 1)) (J := (first : Int) + (2 * (root : Int) + 1) + 1) (by omega) (by omega))
          cases hG : lt dk[first + root]! dk[first + (2 * root + 2)]! with
          | true =>
            have H2 := Lib.hid (lessAt HL0.out HK.out (i := first + root) (j := first + (2 * root + 2)) (by omega) (by omega) hG (I := (first : Int) + (root : Int)) (J := (first : Int) + (2 * (root : Int) + 1 + 1)) (by omega) (by omega))
            have H3 := Lib.hid (swapAt HS0.out HK.out (i := first + root) (j := first + (2 * root + 2)) (by omega) (by omega) (I := (first : Int) + (root : Int)) (J := (first : Int) + (2 * (root : Int) + 1 + 1)) (by omega) (by omega))
            have HQ := Lib.hid (sd_right_go lt dk (hi := hi) h1 hL hG)
            clear hL hG
            go_wp2_with (first
              | (go_at_fn gl; refine (H1.out _ HS.out).mono ?_; rintro e w1 ⟨rfl, hs1⟩; have A1 := Aside0.mk hs1; clear hs1)
              | (go_at_fn gl; refine (H2.out _ (by repeat (first | exact A1.out | apply SI.drewN))).mono ?_; rintro e w2 ⟨rfl, hs2⟩; have A2 := Aside0.mk hs2; clear hs2)
              | (go_at_fn gs; refine (H3.out _ (by repeat (first | exact A2.out | apply SI.drewN))).mono ?_; rintro e w3 ⟨rfl, hs3⟩; have A3 := Aside0.mk hs3; clear hs3))
            go_roundg (hi - (2 * root + 2))
            case measure => omega
            case rel => exact ⟨2 * root + 2, swp dk (first + root) (first + (2 * root + 2)), by go_num, by omega, Nat.le_refl _, Lib.hid (by rw [swp_size]; exact HK.out), A3, Lib.hid (by rw [← HE.out, HQ.out])⟩
          | false =>
            have H2 := Lib.hid (lessAt HL0.out HK.out (i := first + root) (j := first + (2 * root + 2)) (by omega) (by omega) hG (I := (first : Int) + (root : Int)) (J := (first : Int) + (2 * (root : Int) + 1 + 1)) (by omega) (by omega))
            have HQ := Lib.hid (sd_right_stop lt dk (hi := hi) h1 hL hG)
            clear hL hG
            go_wp2_with (first
              | (go_at_fn gl; refine (H1.out _ HS.out).mono ?_; rintro e w1 ⟨rfl, hs1⟩; have A1 := Aside0.mk hs1; clear hs1)
              | (go_at_fn gl; refine (H2.out _ (by repeat (first | exact A1.out | apply SI.drewN))).mono ?_; rintro e w2 ⟨rfl, hs2⟩; have A2 := Aside0.mk hs2; clear hs2))
            (try simp only [Exit.inBlock, Exit.then]); refine bodyPost_ret (results_none rfl _ _ _) rfl ?_
            refine ⟨rfl, ?_⟩
            rw [← HE.out, HQ.out]
            exact A2.out
        | false =>
          have H1 := Lib.hid (lessAt HL0.out HK.out (i := first + (2 * root + 1)) (j := first + (2 * root + 2)) (by omega) (by omega) hL (I := (first : Int) + (2 * (root : Int) + 1)) (J := (first : Int) + (2 * (root : Int) + 1) + 1) (by omega) (by omega))
          cases hG : lt dk[first + root]! dk[first + (2 * root + 1)]! with
          | true =>
            have H2 := Lib.hid (lessAt HL0.out HK.out (i := first + root) (j := first + (2 * root + 1)) (by omega) (by omega) hG (I := (first : Int) + (root : Int)) (J := (first : Int) + (2 * (root : Int) + 1)) (by omega) (by omega))
            have H3 := Lib.hid (swapAt HS0.out HK.out (i := first + root) (j := first + (2 * root + 1)) (by omega) (by omega) (I := (first : Int) + (root : Int)) (J := (first : Int) + (2 * (root : Int) + 1)) (by omega) (by omega))
            have HQ := Lib.hid (sd_left_go lt dk (hi := hi) (by omega) (fun _ => hL) hG)
            clear hL hG
            go_wp2_with (first
              | (go_at_fn gl; refine (H1.out _ HS.out).mono ?_; rintro e w1 ⟨rfl, hs1⟩; have A1 := Aside0.mk hs1; clear hs1)
              | (go_at_fn gl; refine (H2.out _ (by repeat (first | exact A1.out | apply SI.drewN))).mono ?_; rintro e w2 ⟨rfl, hs2⟩; have A2 := Aside0.mk hs2; clear hs2)
              | (go_at_fn gs; refine (H3.out _ (by repeat (first | exact A2.out | apply SI.drewN))).mono ?_; rintro e w3 ⟨rfl, hs3⟩; have A3 := Aside0.mk hs3; clear hs3))
            go_roundg (hi - (2 * root + 1))
            case measure => omega
            case rel => exact ⟨2 * root + 1, swp dk (first + root) (first + (2 * root + 1)), by go_num, by omega, Nat.le_refl _, Lib.hid (by rw [swp_size]; exact HK.out), A3, Lib.hid (by rw [← HE.out, HQ.out])⟩
          | false =>
            have H2 := Lib.hid (lessAt HL0.out HK.out (i := first + root) (j := first + (2 * root + 1)) (by omega) (by omega) hG (I := (first : Int) + (root : Int)) (J := (first : Int) + (2 * (root : Int) + 1)) (by omega) (by omega))
            have HQ := Lib.hid (sd_left_stop lt dk (hi := hi) (by omega) (fun _ => hL) hG)
            clear hL hG
            go_wp2_with (first
              | (go_at_fn gl; refine (H1.out _ HS.out).mono ?_; rintro e w1 ⟨rfl, hs1⟩; have A1 := Aside0.mk hs1; clear hs1)
              | (go_at_fn gl; refine (H2.out _ (by repeat (first | exact A1.out | apply SI.drewN))).mono ?_; rintro e w2 ⟨rfl, hs2⟩; have A2 := Aside0.mk hs2; clear hs2))
            (try simp only [Exit.inBlock, Exit.then]); refine bodyPost_ret (results_none rfl _ _ _) rfl ?_
            refine ⟨rfl, ?_⟩
            rw [← HE.out, HQ.out]
            exact A2.out
      · have h1z : ¬ (2 * (root : Int) + 1 + 1 < (hi : Int)) := by omega
        cases hG : lt dk[first + root]! dk[first + (2 * root + 1)]! with
        | true =>
          have H2 := Lib.hid (lessAt HL0.out HK.out (i := first + root) (j := first + (2 * root + 1)) (by omega) (by omega) hG (I := (first : Int) + (root : Int)) (J := (first : Int) + (2 * (root : Int) + 1)) (by omega) (by omega))
          have H3 := Lib.hid (swapAt HS0.out HK.out (i := first + root) (j := first + (2 * root + 1)) (by omega) (by omega) (I := (first : Int) + (root : Int)) (J := (first : Int) + (2 * (root : Int) + 1)) (by omega) (by omega))
          have HQ := Lib.hid (sd_left_go lt dk (hi := hi) (by omega) (fun h => absurd h h1) hG)
          clear hG
          go_wp2_with (first
            | (go_at_fn gl; refine (H2.out _ (by repeat (first | exact HS.out | apply SI.drewN))).mono ?_; rintro e w2 ⟨rfl, hs2⟩; have A2 := Aside0.mk hs2; clear hs2)
            | (go_at_fn gs; refine (H3.out _ (by repeat (first | exact A2.out | apply SI.drewN))).mono ?_; rintro e w3 ⟨rfl, hs3⟩; have A3 := Aside0.mk hs3; clear hs3))
          go_roundg (hi - (2 * root + 1))
          case measure => omega
          case rel => exact ⟨2 * root + 1, swp dk (first + root) (first + (2 * root + 1)), by go_num, by omega, Nat.le_refl _, Lib.hid (by rw [swp_size]; exact HK.out), A3, Lib.hid (by rw [← HE.out, HQ.out])⟩
        | false =>
          have H2 := Lib.hid (lessAt HL0.out HK.out (i := first + root) (j := first + (2 * root + 1)) (by omega) (by omega) hG (I := (first : Int) + (root : Int)) (J := (first : Int) + (2 * (root : Int) + 1)) (by omega) (by omega))
          have HQ := Lib.hid (sd_left_stop lt dk (hi := hi) (by omega) (fun h => absurd h h1) hG)
          clear hG
          go_wp2_with (first
            | (go_at_fn gl; refine (H2.out _ (by repeat (first | exact HS.out | apply SI.drewN))).mono ?_; rintro e w2 ⟨rfl, hs2⟩; have A2 := Aside0.mk hs2; clear hs2))
          (try simp only [Exit.inBlock, Exit.then]); refine bodyPost_ret (results_none rfl _ _ _) rfl ?_
          refine ⟨rfl, ?_⟩
          rw [← HE.out, HQ.out]
          exact A2.out
set_option maxHeartbeats 4000000 in
set_option maxRecDepth 1000000 in
theorem heap_any {T : TypeId} {rv : Value} {gn gl gs : Nat} (hm : Meth T rv gn gl gs) (enc : α → Value) (lt : α → α → Bool) (w : World) (blk off n : Nat) (hl : LessC gl rv enc lt w blk off n) (hs : SwapC gs rv enc w blk off n) (hn : n < 4611686018427387904)
    (a b : Nat) (hab : a ≤ b) (hb : b ≤ n) (W : World) (d : Array α) (hd : d.size = n) (hW : SI enc w blk off d W) :
    Calls Tryz.prog 133 #[.iface T rv, .int .i64 a, .int .i64 b] W fun e w' => e = .returned (.tuple #[]) ∧ SI enc w blk off (heapSort lt d a b) w' := by
  have HC := Lib.hid (fun lo hi h1 h2 W2 dk h3 h4 => sift_any hm enc lt w blk off n hl hs hn lo hi a h1 h2 W2 dk h3 h4)
  have mL := hm.l
  have mS := hm.s
  have eL := hm.el
  have eS := hm.es
  have ecast : ((b - a : Nat) : Int) = (b : Int) - (a : Int) := by omega
  have HW := Aside0.mk hW
  have HD := Lib.hid hd
  have HS0 := Lib.hid hs
  clear hW hd hm hl hs
  have EC := Lib.hid ecast
  clear ecast
  go_enter Tryz.func133, Tryz.ntmps133
  go_wp2
  go_loopg [9] ((b - a - 1) / 2 + 1) (fun kx s9 wr => s9 = .int .i64 ((kx : Int) - 1) ∧ kx ≤ (b - a - 1) / 2 + 1 ∧ ∃ (dk : Array α), Hid (dk.size = n) ∧ Aside0 (SI enc w blk off dk wr) ∧
    Hid (heapBuild lt (b - a) a kx dk = heapBuild lt (b - a) a ((b - a - 1) / 2 + 1) d))
  case atStart => exact ⟨by rw [half_start hab], Nat.le_refl _, d, HD, HW, Lib.hid rfl⟩
  case round =>
    obtain ⟨rfl, hkk, dk, HK, S, HE⟩ := hrel
    cases gk with
    | zero =>
      have HB := Lib.hid (show dk = heapBuild lt (b - a) a ((b - a - 1) / 2 + 1) d from HE.out)
      clear HE hkk
      go_wp2
      go_loopg [10] (b - a) (fun kx s10 wr2 => s10 = .int .i64 ((kx : Int) - 1) ∧ kx ≤ b - a ∧ ∃ (dj : Array α), Hid (dj.size = n) ∧ Aside0 (SI enc w blk off dj wr2) ∧ Hid (heapPop lt a kx dj = heapPop lt a (b - a) dk))
      case atStart => exact ⟨by rw [EC.out], Nat.le_refl _, dk, HK, S, Lib.hid rfl⟩
      case round =>
        clear S
        obtain ⟨rfl, hkk, dj, HJ, S, HE2⟩ := hrel
        cases gk with
        | zero =>
          go_wp2
          go_end0
          have e : dj = heapSort lt d a b := by rw [heapSort, ← HB.out, ← HE2.out]; rfl
          rw [← e]
          exact ⟨rfl, S.out⟩
        | succ kx =>
          have H3 := Lib.hid (swapAt HS0.out HJ.out (i := a) (j := a + kx) (by omega) (by omega) (I := (a : Int)) (J := (a : Int) + (kx : Int)) rfl (by omega))
          have HQ : Hid ((swp dj a (a + kx)).size = n) := Lib.hid (by rw [swp_size]; exact HJ.out)
          have H4 := Lib.hid (fun W2 h2 => HC.out 0 kx (Nat.zero_le _) (by omega) W2 (swp dj a (a + kx)) HQ.out h2)
          go_wp2_with (first
            | (go_at_fn gs; refine (H3.out _ (by repeat (first | exact S.out | apply SI.drewN))).mono ?_; rintro e w1 ⟨rfl, hs1⟩; have A1 := Aside0.mk hs1; clear hs1)
            | (go_at_call 145; refine (H4.out _ (by repeat (first | exact A1.out | apply SI.drewN))).mono ?_; rintro e w2 ⟨rfl, hs2⟩; have A2 := Aside0.mk hs2; clear hs2))
          go_roundg kx
          case measure => omega
          case rel =>
            exact ⟨by simp, by omega, siftDown lt kx a 0 (swp dj a (a + kx)), Lib.hid (by rw [size_siftDown lt _ _ _ _ _ (Nat.le_refl _)]; exact HQ.out), A2, HE2⟩
    | succ kx =>
      have H4 := Lib.hid (fun W2 h2 => HC.out kx (b - a) (by omega) (by omega) W2 dk HK.out h2)
      rw [EC.out] at H4
      go_wp2_with (go_at_call 145; refine (H4.out _ (by repeat (first | exact S.out | apply SI.drewN))).mono ?_; rintro e w2 ⟨rfl, hs2⟩; have A2 := Aside0.mk hs2; clear hs2)
      go_roundg kx
      case measure => omega
      case rel =>
        exact ⟨by simp, by omega, siftDown lt (b - a) a kx dk, Lib.hid (by rw [size_siftDown lt _ _ _ _ _ (Nat.le_refl _)]; exact HK.out), A2, HE⟩
set_option maxHeartbeats 2000000 in
set_option maxRecDepth 1000000 in
theorem rev_any {T : TypeId} {rv : Value} {gn gl gs : Nat} (hm : Meth T rv gn gl gs) (enc : α → Value) (w : World) (blk off n : Nat) (hs : SwapC gs rv enc w blk off n) (hn : n < 4611686018427387904)
    (a b : Nat) (hab : a ≤ b) (hb : b ≤ n) (W : World) (d : Array α) (hd : d.size = n) (hW : SI enc w blk off d W) :
    Calls Tryz.prog 136 #[.iface T rv, .int .i64 a, .int .i64 b] W fun e w' => e = .returned (.tuple #[]) ∧ SI enc w blk off (reverseRange d a b) w' := by
  have mS := hm.s
  have eS := hm.es
  have HW := Aside0.mk hW
  have HD := Lib.hid hd
  have HS0 := Lib.hid hs
  clear hW hd hm hs
  go_enter Tryz.func136, Tryz.ntmps136
  go_wp2
  go_loopg [6, 7] (b - a) (fun k s6 s7 wr => ∃ (i jn : Nat) (jz : Int) (dk : Array α), s6 = .int .i64 i ∧ s7 = .int .i64 jz ∧ ((i : Int) < jz → jz = jn ∧ jn < n) ∧ (¬ (i : Int) < jz → ¬ i < jn) ∧ jn - i ≤ k ∧
    Hid (dk.size = n) ∧ Aside0 (SI enc w blk off dk wr) ∧ Hid (reverseLoop i jn dk = reverseLoop a (b - 1) d))
  case atStart => exact ⟨a, b - 1, (b : Int) - 1, d, rfl, rfl, fun h => ⟨by omega, by omega⟩, fun h => by omega, by omega, HD, HW, Lib.hid rfl⟩
  case round =>
    obtain ⟨i, jn, jz, dk, rfl, rfl, h1, h2, hk, HK, S, HE⟩ := hrel
    by_cases hlt : (i : Int) < jz
    · obtain ⟨rfl, hjn⟩ := h1 hlt
      have hij : i < jn := by omega
      have H3 := Lib.hid (swapAt HS0.out HK.out (i := i) (j := jn) (by omega) (by omega) (I := (i : Int)) (J := (jn : Int)) rfl rfl)
      clear h1 h2
      go_wp2_with (go_at_fn gs; refine (H3.out _ (by repeat (first | exact S.out | apply SI.drewN))).mono ?_; rintro e w1 ⟨rfl, hs1⟩; have A1 := Aside0.mk hs1; clear hs1)
      go_roundg (jn - 1 - (i + 1))
      case measure => omega
      case rel =>
        refine ⟨i + 1, jn - 1, (jn : Int) - 1, swp dk i jn, by simp, rfl, fun h => ⟨by omega, by omega⟩, fun h => by omega, Nat.le_refl _, Lib.hid (by rw [swp_size]; exact HK.out), A1, Lib.hid ?_⟩
        rw [← HE.out, reverseLoop.eq_def i jn dk, if_pos hij]
    · have H2 := Lib.hid (h2 hlt)
      clear h1 h2
      go_wp2
      go_end0
      refine ⟨rfl, ?_⟩
      have e : dk = reverseRange d a b := by
        rw [reverseRange, ← HE.out, reverseLoop.eq_def i jn dk, if_neg H2.out]
      rw [← e]
      exact S.out
end Go.Proofs.YtgoeiflddikihaaGreatDoor.Srt
end
section
namespace Go.Proofs.YtgoeiflddikihaaGreatDoor.Srt
open Go.RowKit Go.Proofs.YtgoeiflddikihaaGreatDoorW.PrintWords Go.Sort
variable {α : Type} [Inhabited α]
structure SC (enc : α → Value) (w : World) (blk off : Nat) (d : Array α) (cb : Nat) (s : Value) (t : TypeId) (W : World) : Prop where
  si : SI enc w blk off d W
  cnt : W.heap[cb]? = some (.cells #[s] t (0, 0))
  hi : w.heap.size ≤ cb
theorem SC.below {enc : α → Value} {w : World} {blk off : Nat} {d : Array α} {cb : Nat} {s : Value} {t : TypeId} {W W' : World} (h : SC enc w blk off d cb s t W) (hb : Below W.heap.size W W') : SC enc w blk off d cb s t W' :=
  ⟨h.si.below hb, blk_below h.cnt hb, h.hi⟩
theorem SC.drewN {enc : α → Value} {w : World} {blk off : Nat} {d : Array α} {cb : Nat} {s : Value} {t : TypeId} {W : World} (h : SC enc w blk off d cb s t W) (n : Nat) : SC enc w blk off d cb s t (W.drewN n) := h.below (pw_below_drewN (Below.refl _ _) n)
theorem SI.setNew {enc : α → Value} {w : World} {blk off : Nat} {d : Array α} {W : World} (h : SI enc w blk off d W) {cb : Nat} (hi : w.heap.size ≤ cb) (o : Nat) (u : Value) : SI enc w blk off d (W.setCell ⟨cb, o, none⟩ u) := by
  have hne : cb ≠ blk := by have := h.lt; omega
  refine ⟨?_, fun j hj => ?_, h.lt⟩
  · exact ⟨h.gr.os, h.gr.tape, h.gr.output, by rw [show (W.setCell ⟨cb, o, none⟩ u).heap.size = W.heap.size by simp [World.setCell]]; exact h.gr.size, fun k hk hr => (RowKit.Below.heap_setCell W ⟨cb, o, none⟩ u k (by show k ≠ cb; omega)).trans (h.gr.block k hk hr)⟩
  · obtain ⟨h1, h2⟩ := h.holds j hj
    refine ⟨?_, by rw [World.frozen?_setCell]; exact h2⟩
    rw [World.cell?_setCell_other _ _ _ _ (by intro e'; injection e' with e1 _; exact hne e1)]
    exact h1
theorem SC.put {enc : α → Value} {w : World} {blk off : Nat} {d : Array α} {cb : Nat} {s : Value} {t : TypeId} {W : World} (h : SC enc w blk off d cb s t W) (u : Value) : SC enc w blk off d cb u t (W.setCell ⟨cb, 0, none⟩ u) :=
  ⟨h.si.setNew h.hi 0 u, blk_put (cs' := #[u]) h.cnt 0 u rfl, h.hi⟩
theorem SC.cell {enc : α → Value} {w : World} {blk off : Nat} {d : Array α} {cb : Nat} {s : Value} {t : TypeId} {W : World} (h : SC enc w blk off d cb s t W) : W.cell? ⟨cb, 0, none⟩ = some s := by
  have := blk_cell h.cnt 0
  exact this
theorem SC.frozen {enc : α → Value} {w : World} {blk off : Nat} {d : Array α} {cb : Nat} {s : Value} {t : TypeId} {W : World} (h : SC enc w blk off d cb s t W) : W.frozen? ⟨cb, 0, none⟩ = false := blk_frozen h.cnt 0
set_option maxHeartbeats 1000000 in
set_option maxRecDepth 100000 in
theorem order2_any {T : TypeId} {rv : Value} {gn gl gs : Nat} (hm : Meth T rv gn gl gs) (enc : α → Value) (lt : α → α → Bool) (w : World) (blk off n : Nat) (hl : LessC gl rv enc lt w blk off n)
    (a b cb s : Nat) (t : TypeId) (ha : a < n) (hb : b < n) (hs : s < 4611686018427387904) (W : World) (d : Array α) (hd : d.size = n) (hW : SC enc w blk off d cb (.int .i64 s) t W) :
    Calls Tryz.prog 154 #[.iface T rv, .int .i64 a, .int .i64 b, .pointer (some ⟨cb, 0, none⟩)] W fun e w' =>
      e = .returned (.tuple #[.int .i64 (order2 lt d a b s).1, .int .i64 (order2 lt d a b s).2.1]) ∧ SC enc w blk off d cb (.int .i64 (order2 lt d a b s).2.2) t w' := by
  have mL := hm.l
  have eL := hm.el
  have H1 := Lib.hid (hl W d hW.si hd b a hb ha)
  have HW := Aside0.mk hW
  clear hW hm hl hd
  cases hlv : lt d[b]! d[a]! with
  | true =>
    have H1 : Hid (Calls Tryz.prog gl #[rv, .int .i64 b, .int .i64 a] W fun e w' => e = .returned (.bool true) ∧ Below W.heap.size W w') := Lib.hid (by have := H1.out; rw [hlv] at this; exact this)
    have e2 : order2 lt d a b s = (b, a, s + 1) := by simp [order2, hlv]
    rw [e2]
    clear hlv e2
    go_enter Tryz.func154, Tryz.ntmps154
    go_wp2_with (go_at_fn gl; refine H1.out.mono ?_; rintro e w1 ⟨rfl, hb1⟩; have A1 := Aside0.mk (HW.out.below hb1); clear hb1; have cc := A1.out.cell; have cf := A1.out.frozen)
    go_ret2
    exact ⟨rfl, by have := (A1.out.put (.int .i64 ((s : Int) + 1))); simpa using this⟩
  | false =>
    have H1 : Hid (Calls Tryz.prog gl #[rv, .int .i64 b, .int .i64 a] W fun e w' => e = .returned (.bool false) ∧ Below W.heap.size W w') := Lib.hid (by have := H1.out; rw [hlv] at this; exact this)
    have e2 : order2 lt d a b s = (a, b, s) := by simp [order2, hlv]
    rw [e2]
    clear hlv e2
    go_enter Tryz.func154, Tryz.ntmps154
    go_wp2_with (go_at_fn gl; refine H1.out.mono ?_; rintro e w1 ⟨rfl, hb1⟩; have A1 := Aside0.mk (HW.out.below hb1); clear hb1)
    go_ret2
    exact ⟨rfl, A1.out⟩
set_option maxHeartbeats 1000000 in
set_option maxRecDepth 100000 in
theorem median_any {T : TypeId} {rv : Value} {gn gl gs : Nat} (hm : Meth T rv gn gl gs) (enc : α → Value) (lt : α → α → Bool) (w : World) (blk off n : Nat) (hl : LessC gl rv enc lt w blk off n)
    (a b c cb s : Nat) (t : TypeId) (ha : a < n) (hb : b < n) (hc : c < n) (hs : s + 3 < 4611686018427387904) (W : World) (d : Array α) (hd : d.size = n) (hW : SC enc w blk off d cb (.int .i64 s) t W) :
    Calls Tryz.prog 149 #[.iface T rv, .int .i64 a, .int .i64 b, .int .i64 c, .pointer (some ⟨cb, 0, none⟩)] W fun e w' =>
      e = .returned (.int .i64 (median lt d a b c s).1) ∧ SC enc w blk off d cb (.int .i64 (median lt d a b c s).2) t w' := by
  have l1 := order2_lt' lt d s ha hb
  have s1 := order2_swaps' lt d a b s
  have l2 := order2_lt' lt d (order2 lt d a b s).2.2 l1.2 hc
  have s2 := order2_swaps' lt d (order2 lt d a b s).2.1 c (order2 lt d a b s).2.2
  have H1 := Lib.hid (order2_any hm enc lt w blk off n hl a b cb s t ha hb (by omega) W d hd hW)
  have H2 := Lib.hid (fun W2 h2 => order2_any hm enc lt w blk off n hl (order2 lt d a b s).2.1 c cb (order2 lt d a b s).2.2 t l1.2 hc (by omega) W2 d hd h2)
  have H3 := Lib.hid (fun W2 h2 => order2_any hm enc lt w blk off n hl (order2 lt d a b s).1 (order2 lt d (order2 lt d a b s).2.1 c (order2 lt d a b s).2.2).1 cb (order2 lt d (order2 lt d a b s).2.1 c (order2 lt d a b s).2.2).2.2 t l1.1 l2.1 (by omega) W2 d hd h2)
  unfold median
  clear hW hm hl l1 s1 l2 s2 hd
  dsimp only
  generalize order2 lt d a b s = r1 at *
  obtain ⟨x1, y1, z1⟩ := r1
  dsimp only at *
  generalize order2 lt d y1 c z1 = r2 at *
  obtain ⟨x2, y2, z2⟩ := r2
  dsimp only at *
  generalize order2 lt d x1 x2 z2 = r3 at *
  obtain ⟨x3, y3, z3⟩ := r3
  dsimp only at *
  go_enter Tryz.func149, Tryz.ntmps149
  go_wp2_with (go_at_call 154; refine H1.out.mono ?_; rintro e w1 ⟨rfl, hs1⟩; have A1 := Aside0.mk hs1; clear hs1; refine Hid.out ?_)
  refine Lib.hid ?_
  go_wp2_with (go_at_call 154; refine (H2.out _ (by repeat (first | exact A1.out | apply SC.drewN))).mono ?_; rintro e w2 ⟨rfl, hs2⟩; have A2 := Aside0.mk hs2; clear hs2; refine Hid.out ?_)
  refine Lib.hid ?_
  go_wp2_with (go_at_call 154; refine (H3.out _ (by repeat (first | exact A2.out | apply SC.drewN))).mono ?_; rintro e w3 ⟨rfl, hs3⟩; have A3 := Aside0.mk hs3; clear hs3)
  go_ret
  exact ⟨rfl, A3.out⟩
set_option maxHeartbeats 2000000 in
set_option maxRecDepth 100000 in
theorem pivot_any {T : TypeId} {rv : Value} {gn gl gs : Nat} (hm : Meth T rv gn gl gs) (enc : α → Value) (lt : α → α → Bool) (w : World) (blk off n : Nat) (hl : LessC gl rv enc lt w blk off n) (hn : n < 50)
    (a b : Nat) (hab : a < b) (hb : b ≤ n) (W : World) (d : Array α) (hd : d.size = n) (hW : SI enc w blk off d W) :
    Calls Tryz.prog 135 #[.iface T rv, .int .i64 a, .int .i64 b] W fun e w' =>
      e = .returned (.tuple #[.int .i64 (choosePivot lt d a b).1, .int .i64 (hintCode (choosePivot lt d a b).2)]) ∧ SI enc w blk off d w' := by
  rw [choosePivot_eq]
  obtain ⟨I, hI⟩ : ∃ I : Nat, I = a + (b - a) / 4 * 1 := ⟨_, rfl⟩
  obtain ⟨J, hJ⟩ : ∃ J : Nat, J = a + (b - a) / 4 * 2 := ⟨_, rfl⟩
  obtain ⟨K, hK⟩ : ∃ K : Nat, K = a + (b - a) / 4 * 3 := ⟨_, rfl⟩
  have eI : ((a : Int) + ((b : Int) - (a : Int)) / 4) = (I : Int) := by omega
  have eJ : ((a : Int) + ((b : Int) - (a : Int)) / 4 * 2) = (J : Int) := by omega
  have eK : ((a : Int) + ((b : Int) - (a : Int)) / 4 * 3) = (K : Int) := by omega
  have h50z : ¬ ((b : Int) - (a : Int) ≥ 50) := by omega
  have hlt : w.heap.size ≤ W.heap.size := hW.gr.size
  have hSC := SC.mk (hW.below (below_alloc (Below.refl W.heap.size W) (.cells #[.int .i64 0] 3))) (Go.Proofs.YtgoeiflddikihaaGreatDoor.Ver.alloc_at W (.cells #[.int .i64 0] 3)) hlt
  by_cases h8 : b - a ≥ 8
  · obtain ⟨p, s, h4⟩ : ∃ p s, median lt d I J K 0 = (p, s) := ⟨_, _, rfl⟩
    have hraw : rawPivot lt d a b = (p, s) := by simp only [rawPivot, if_pos h8, if_neg (show ¬ b - a ≥ 50 by omega), ← hI, ← hJ, ← hK, h4]
    have c4 := median_any hm enc lt w blk off n hl I J K W.heap.size 0 3 (by omega) (by omega) (by omega) (by omega) _ d hd hSC
    rw [h4] at c4
    have C4 := Lib.hid c4
    rw [hraw]
    obtain ⟨Hc, hHc⟩ : ∃ Hc : Int, Hc = hintCode (hintOf s) := ⟨_, rfl⟩
    have hh0 : s = 0 → Hc = 1 := fun h => by rw [hHc, h]; rfl
    have hh12 : s = 12 → Hc = 2 := fun h => by rw [hHc, h]; rfl
    have hhx : s ≠ 0 → s ≠ 12 → Hc = 0 := fun h1 h2 => by rw [hHc]; unfold hintOf; rw [if_neg h1, if_neg h2]; rfl
    have HH0 := Lib.hid hh0
    have HH12 := Lib.hid hh12
    have HHX := Lib.hid hhx
    show Calls Tryz.prog 135 _ W fun e w' => e = .returned (.tuple #[.int .i64 (p : Int), .int .i64 (hintCode (hintOf s))]) ∧ SI enc w blk off d w'
    rw [← hHc]
    have h8z : (8 : Int) ≤ (b : Int) - (a : Int) := by omega
    clear hHc hraw h4 hI hJ hK hm hl hW c4 hh0 hh12 hhx hSC h8 hd
    go_enter Tryz.func135, Tryz.ntmps135
    go_wp2_with (go_at_call 149; refine C4.out.mono ?_; rintro e w1 ⟨rfl, hs1⟩; have A1 := Aside0.mk hs1; clear hs1; have cc := A1.out.cell; have cf := A1.out.frozen)
    all_goals
      go_ret2
      refine ⟨?_, by repeat (first | exact A1.out.si | apply SI.drewN)⟩
      first
        | (have e0 : (s : Int) = 0 := of_beq_int (by assumption)
           rw [HH0.out (by omega)]; rfl)
        | (have e1 : (s : Int) = 12 := of_beq_int (by assumption)
           rw [HH12.out (by omega)]; rfl)
        | (have e0 : (s : Int) ≠ 0 := of_bne_int (by assumption)
           have e1 : (s : Int) ≠ 12 := of_bne_int (by assumption)
           rw [HHX.out (by omega) (by omega)]; rfl)
        | (rw [HH0.out (by omega)]; rfl)
  · have hraw : rawPivot lt d a b = (J, 0) := by simp only [rawPivot, if_neg h8, ← hJ]
    rw [hraw]
    have h8z : ¬ ((8 : Int) ≤ (b : Int) - (a : Int)) := by omega
    have HS := Aside0.mk hSC
    have cc := hSC.cell
    have cf := hSC.frozen
    clear hraw hI hJ hK hm hl hW hSC h8 hd
    show Calls Tryz.prog 135 _ W fun e w' => e = .returned (.tuple #[.int .i64 (J : Int), .int .i64 1]) ∧ SI enc w blk off d w'
    go_enter Tryz.func135, Tryz.ntmps135
    go_wp2
    all_goals
      go_ret2
      exact ⟨rfl, by repeat (first | exact HS.out.si | apply SI.drewN)⟩
set_option maxHeartbeats 2000000 in
set_option maxRecDepth 100000 in
theorem part_ins_any {T : TypeId} {rv : Value} {gn gl gs : Nat} (hm : Meth T rv gn gl gs) (enc : α → Value) (lt : α → α → Bool) (w : World) (blk off n : Nat) (hl : LessC gl rv enc lt w blk off n) (hn : n < 50)
    (a b : Nat) (hab : a < b) (hb : b ≤ n) (W : World) (d : Array α) (hd : d.size = n) (hW : SI enc w blk off d W) :
    Calls Tryz.prog 137 #[.iface T rv, .int .i64 a, .int .i64 b] W fun e w' =>
      e = .returned (.bool (Sort.partialInsertionSort lt d a b).2) ∧ SI enc w blk off (Sort.partialInsertionSort lt d a b).1 w' := by
  have mL := hm.l
  have eL := hm.el
  have HL := Lib.hid hl
  have HD := Lib.hid hd
  have HW := Aside0.mk hW
  have h50z : (b : Int) - (a : Int) < 50 := by omega
  clear hW hm hl hd
  go_enter Tryz.func137, Tryz.ntmps137
  go_wp2
  refine wp_loop_rounds 1 ?_
  rw [rounds_succ]
  go_wp2_with fail
  go_loopg [7] (b - (a + 1)) (fun g2 vi wr2 => ∃ (kx : Nat), vi = .int .i64 kx ∧ a + 1 ≤ kx ∧ kx ≤ b ∧ b - kx ≤ g2 ∧ Aside0 (SI enc w blk off d wr2) ∧ Hid (scanSorted lt d b kx = scanSorted lt d b (a + 1)))
  case atStart => exact ⟨a + 1, by go_num, by omega, by omega, by omega, HW, Lib.hid rfl⟩
  case round =>
    obtain ⟨kx, rfl, hik, hkb, hg2, S, HSc⟩ := hrel
    by_cases hkb' : kx < b
    · have hkz : (kx : Int) < (b : Int) := by omega
      cases hlv : lt d[kx]! d[kx - 1]! with
      | false =>
        have H1 := Lib.hid (lessAt HL.out HD.out (i := kx) (j := kx - 1) (by omega) (by omega) hlv (I := (kx : Int)) (J := (kx : Int) - 1) rfl (by omega))
        have HQ := Lib.hid hlv
        clear hlv
        go_wp2_with (go_at_fn gl; refine (H1.out _ (by repeat (first | exact S.out | apply SI.drewN))).mono ?_; rintro e w1 ⟨rfl, hs1⟩; have A1 := Aside0.mk hs1; clear hs1)
        go_roundg (b - (kx + 1))
        case measure => omega
        case rel => exact ⟨kx + 1, by go_num, by omega, by omega, Nat.le_refl _, A1, Lib.hid (by rw [← HSc.out, scanSorted_go lt d b kx hkb' HQ.out])⟩
      | true =>
        have H1 := Lib.hid (lessAt HL.out HD.out (i := kx) (j := kx - 1) (by omega) (by omega) hlv (I := (kx : Int)) (J := (kx : Int) - 1) rfl (by omega))
        have HK : Hid (scanSorted lt d b (a + 1) = kx) := Lib.hid (by rw [← HSc.out, scanSorted_stop lt d b kx (Or.inr hlv)])
        have hkne : ((kx : Int) == (b : Int)) = false := beq_eq_false_iff_ne.2 (by omega)
        have HV : Hid (Sort.partialInsertionSort lt d a b = (d, false)) := Lib.hid (by
          unfold Sort.partialInsertionSort
          exact pi_short lt a b 0 (a + 1) d (by omega) (by rw [HK.out]; omega) (by omega))
        clear hlv
        go_wp2_with (go_at_fn gl; refine (H1.out _ (by repeat (first | exact S.out | apply SI.drewN))).mono ?_; rintro e w1 ⟨rfl, hs1⟩; have A1 := Aside0.mk hs1; clear hs1)
        rw [HV.out]
        go_ret
        exact ⟨rfl, A1.out⟩
    · have hkz : ¬ ((kx : Int) < (b : Int)) := by omega
      obtain rfl : kx = b := by omega
      have HK : Hid (scanSorted lt d kx (a + 1) = kx) := Lib.hid (by rw [← HSc.out, scanSorted_stop lt d kx kx (Or.inl (by omega))])
      have HV : Hid (Sort.partialInsertionSort lt d a kx = (d, true)) := Lib.hid (by
        unfold Sort.partialInsertionSort
        exact pi_true lt a kx 0 (a + 1) d (by omega) HK.out)
      clear hkb'
      go_wp2
      rw [HV.out]
      go_ret
      exact ⟨rfl, by repeat (first | exact S.out | apply SI.drewN)⟩
end Go.Proofs.YtgoeiflddikihaaGreatDoor.Srt
end
section
namespace Go.Proofs
open Go.Shelf
def Tryz.laysGg36_ren : Go.Shelf.Ren := ⟨fun | 36 => 147 | n => n, fun | 66 => 263 | 51 => 46 | 0 => 0 | 60 => 248 | 41 => 209 | n => n, fun | n => n⟩
theorem Tryz.laysGg36 : Go.Proofs.LaysGg.n36 Tryz.prog Tryz.laysGg36_ren := {
  mixed := by kernel_rfl
  f36 := Tryz.func147.trans (congrArg some (by kernel_rfl))
  t0 := Tryz.underlying0
  a0 := Tryz.isAgg0
  z0 := Tryz.sizeOf0
  v0 := Tryz.zeroValue0
  i0 := by kernel_rfl
  t41 := Tryz.underlying209
  a41 := Tryz.isAgg209
  z41 := Tryz.sizeOf209
  v41 := Tryz.zeroValue209
  i41 := by kernel_rfl
  t51 := Tryz.underlying46
  a51 := Tryz.isAgg46
  z51 := Tryz.sizeOf46
  v51 := Tryz.zeroValue46
  i51 := by kernel_rfl
  t60 := Tryz.underlying248
  a60 := Tryz.isAgg248
  z60 := Tryz.sizeOf248
  v60 := Tryz.zeroValue248
  i60 := by kernel_rfl
  t66 := Tryz.underlying263
  a66 := Tryz.isAgg263
  z66 := Tryz.sizeOf263
  v66 := Tryz.zeroValue263
  i66 := by kernel_rfl }
open Go.RowKit Go.Lib Go.Sort in
theorem Tryz.xorshift_Next (rb ro X : Nat) (hX : X < 18446744073709551616) (w : World) (hc : w.cell? ⟨rb, ro, none⟩ = some (.int .u64 X)) (hf : w.frozen? ⟨rb, ro, none⟩ = false) :
    Calls Tryz.prog 147 #[.pointer (some ⟨rb, ro, none⟩)] w fun e w' => e = .returned (.int .u64 (xorNextN X : Nat)) ∧ w' = (w.setCell ⟨rb, ro, none⟩ (.int .u64 (xorNextN X : Nat))).drewN 3 := Any.xorshift_Next Tryz.laysGg36 rb ro X hX w hc hf
def Tryz.laysGg35_ren : Go.Shelf.Ren := ⟨fun | 35 => 146 | 13 => 123 | 24 => 130 | 25 => 131 | n => n, fun | 3 => 3 | 41 => 209 | 49 => 60 | 51 => 46 | 4 => 4 | 5 => 5 | 9 => 9 | n => n, fun | n => n⟩
theorem Tryz.laysGg35 : Go.Proofs.LaysGg.n35 Tryz.prog Tryz.laysGg35_ren := {
  mixed := by kernel_rfl
  f13 := Tryz.func123.trans (congrArg some (by kernel_rfl))
  f24 := Tryz.func130.trans (congrArg some (by kernel_rfl))
  f25 := Tryz.func131.trans (congrArg some (by kernel_rfl))
  f35 := Tryz.func146.trans (congrArg some (by kernel_rfl))
  t3 := Tryz.underlying3
  a3 := Tryz.isAgg3
  z3 := Tryz.sizeOf3
  v3 := Tryz.zeroValue3
  i3 := by kernel_rfl
  t4 := Tryz.underlying4
  a4 := Tryz.isAgg4
  z4 := Tryz.sizeOf4
  v4 := Tryz.zeroValue4
  i4 := by kernel_rfl
  t5 := Tryz.underlying5
  a5 := Tryz.isAgg5
  z5 := Tryz.sizeOf5
  v5 := Tryz.zeroValue5
  i5 := by kernel_rfl
  t9 := Tryz.underlying9
  a9 := Tryz.isAgg9
  z9 := Tryz.sizeOf9
  v9 := Tryz.zeroValue9
  i9 := by kernel_rfl
  t41 := Tryz.underlying209
  a41 := Tryz.isAgg209
  z41 := Tryz.sizeOf209
  v41 := Tryz.zeroValue209
  i41 := by kernel_rfl
  t49 := Tryz.underlying60
  a49 := Tryz.isAgg60
  z49 := Tryz.sizeOf60
  v49 := Tryz.zeroValue60
  i49 := by kernel_rfl
  t51 := Tryz.underlying46
  a51 := Tryz.isAgg46
  z51 := Tryz.sizeOf46
  v51 := Tryz.zeroValue46
  i51 := by kernel_rfl }
open Go.RowKit Go.Lib Go.Sort in
theorem Tryz.nextPowerOfTwo (n : Nat) (hn : n < 4611686018427387904) (w : World) :
    Calls Tryz.prog 146 #[.int .i64 n] w fun e w' => e = .returned (.int .u64 ((1 <<< bitsLen n : Nat) : Int)) ∧ w' = w := Any.nextPowerOfTwo Tryz.laysGg35 n hn w
end Go.Proofs
end
section
namespace Go.Proofs.YtgoeiflddikihaaGreatDoor.Srt
open Go.RowKit Go.Proofs.YtgoeiflddikihaaGreatDoorW.PrintWords Go.Sort
variable {α : Type} [Inhabited α]
theorem pow_any (n : Nat) (hn : n < 4611686018427387904) (w : World) :
    Calls Tryz.prog 146 #[.int .i64 n] w fun e w' => e = .returned (.int .u64 ((1 <<< bitsLen n : Nat) : Int)) ∧ w' = w := Tryz.nextPowerOfTwo n hn w
theorem xor_any (rb X : Nat) (hX : X < 18446744073709551616) (w : World) (hc : w.cell? ⟨rb, 0, none⟩ = some (.int .u64 X)) (hf : w.frozen? ⟨rb, 0, none⟩ = false) :
    Calls Tryz.prog 147 #[.pointer (some ⟨rb, 0, none⟩)] w fun e w' => e = .returned (.int .u64 (xorNextN X : Nat)) ∧ w' = (w.setCell ⟨rb, 0, none⟩ (.int .u64 (xorNextN X : Nat))).drewN 3 := Tryz.xorshift_Next rb 0 X hX w hc hf
theorem swapC_at {gs : Nat} {rv : Value} {enc : α → Value} {w : World} {blk off n : Nat} (hs : ∀ w', SwapC gs rv enc w' blk off n) {dk : Array α} (hk : dk.size = n) {i j : Nat} (hi : i < n) (hj : j < n) {I J : Int} (hI : (i : Int) = I) (hJ : (j : Int) = J) {cb : Nat} {s : Value} {t : TypeId} :
    ∀ W2, SC enc w blk off dk cb s t W2 → Calls Tryz.prog gs #[rv, .int .i64 I, .int .i64 J] W2 fun e w' => e = .returned (.tuple #[]) ∧ SC enc w blk off (swp dk i j) cb s t w' := fun W2 h2 => by
  subst hI hJ
  have hlt : blk < W2.heap.size := Nat.lt_of_lt_of_le h2.si.lt h2.si.gr.size
  have h0 : SI enc W2 blk off dk W2 := ⟨World.grownBy.refl W2 (some blk), h2.si.holds, hlt⟩
  refine (hs W2 W2 dk h0 hk i j hi hj).mono ?_
  rintro e w' ⟨he, h3⟩
  have hne : cb ≠ blk := by have := h2.si.lt; have := h2.hi; omega
  exact ⟨he, ⟨h2.si.gr.trans h3.gr, h3.holds, h2.si.lt⟩, (h3.gr.block cb (blk_lt h2.cnt) (fun e => hne (by injection e))).trans h2.cnt, h2.hi⟩
set_option maxHeartbeats 4000000 in
set_option maxRecDepth 1000000 in
theorem brk_go {T : TypeId} {rv : Value} {gn gl gs : Nat} (hm : Meth T rv gn gl gs) (enc : α → Value) (w : World) (blk off n : Nat) (hs : ∀ w', SwapC gs rv enc w' blk off n) (hn : n < 4611686018427387904)
    (a L : Nat) (hb : a + L ≤ n) (h8 : 8 ≤ L) (W : World) (d : Array α) (hd : d.size = n) (hW : SI enc w blk off d W) :
    Calls Tryz.prog 134 #[.iface T rv, .int .i64 a, .int .i64 ((a + L : Nat) : Int)] W fun e w' => e = .returned (.tuple #[]) ∧ SI enc w blk off (breakPatterns d a (a + L)) w' := by
  have mS := hm.s
  have eS := hm.es
  rw [breakPatterns_eq d a L h8]
  obtain ⟨M, hM⟩ : ∃ M : Nat, M = 1 <<< bitsLen L := ⟨_, rfl⟩
  have hM1 : 1 ≤ M := by rw [hM, Nat.one_shiftLeft]; exact Nat.two_pow_pos _
  have hM2 : M ≤ 2 * L := by rw [hM, Nat.one_shiftLeft]; exact two_pow_bitsLen_le (by omega)
  have HNP := Lib.hid (show ∀ w, Calls Tryz.prog 146 #[.int .i64 (L : Int)] w fun e w' => e = .returned (.int .u64 (M : Int)) ∧ w' = w by rw [hM]; exact fun w => pow_any L (by omega) w)
  rw [← hM]
  clear hM
  have hLz : ((a : Int) + (L : Int) - (a : Int)) = (L : Int) := by omega
  have h8z : (8 : Int) ≤ (L : Int) := by omega
  have hlt : w.heap.size ≤ W.heap.size := hW.gr.size
  have hSC := SC.mk (hW.below (below_alloc (Below.refl W.heap.size W) (.cells #[.int .u64 (L : Int)] 248))) (Go.Proofs.YtgoeiflddikihaaGreatDoor.Ver.alloc_at W (.cells #[.int .u64 (L : Int)] 248)) hlt
  have HSC := Aside0.mk hSC
  have HD := Lib.hid hd
  have HS0 := Lib.hid hs
  clear hW hm hs hSC hd
  go_enter Tryz.func134, Tryz.ntmps134
  go_wp2_with (go_at_call 146; refine (HNP.out _).mono ?_; rintro e w1 ⟨rfl, rfl⟩)
  go_loopg [9] 3 (fun g1 vi wr => ∃ (t : Nat) (r : UInt64) (dk : Array α), vi = .int .i64 ((a : Int) + (L : Int) / 4 * 2 - 1 + (t : Int)) ∧ t ≤ 3 ∧ 3 - t ≤ g1 ∧ Hid (dk.size = n) ∧ Aside0 (SC enc w blk off dk W.heap.size (.int .u64 (r.toNat : Int)) 248 wr) ∧
      Hid (bpRest a L M (a + L / 4 * 2 - 1) (3 - t) t (r, dk) = bpRest a L M (a + L / 4 * 2 - 1) 3 0 (UInt64.ofNat L, d)))
  case atStart =>
    refine ⟨0, UInt64.ofNat L, d, by simp, by omega, by omega, HD, ?_, Lib.hid rfl⟩
    rw [show (UInt64.ofNat L).toNat = L from by simp; omega]
    exact ⟨by repeat (first | exact HSC.out | apply SC.drewN)⟩
  case round =>
    obtain ⟨t, r, dk, rfl, ht, hg1, HK, S, HR⟩ := hrel
    by_cases ht3 : t < 3
    · have hle : (a : Int) + (L : Int) / 4 * 2 - 1 + (t : Int) ≤ (a : Int) + (L : Int) / 4 * 2 + 1 := by omega
      obtain ⟨R, hRr⟩ : ∃ R : Nat, R = r.toNat := ⟨_, rfl⟩
      have lR : R < 18446744073709551616 := by rw [hRr]; exact r.toNat_lt
      obtain ⟨R', hR'⟩ : ∃ R' : Nat, R' = xorNextN R := ⟨_, rfl⟩
      have lR' : R' < 18446744073709551616 := by rw [hR']; exact xorNextN_lt R lR
      obtain ⟨O, hO⟩ : ∃ O : Nat, O = R' &&& (M - 1) := ⟨_, rfl⟩
      have lO : O ≤ M - 1 := by rw [hO]; exact Nat.and_le_right
      have eAnd : bits .and .u64 (R' : Int) ((M : Int) - 1) = (O : Int) := by
        rw [show ((M : Int) - 1) = ((M - 1 : Nat) : Int) by omega, bits_and_u64_nat _ _ lR' (by omega), hO]
      have HNext : Hid (∀ W2, SC enc w blk off dk W.heap.size (.int .u64 (R : Int)) 248 W2 → Calls Tryz.prog 147 #[.pointer (some ⟨W.heap.size, 0, none⟩)] W2 fun e w' => e = .returned (.int .u64 (R' : Int)) ∧ SC enc w blk off dk W.heap.size (.int .u64 (R' : Int)) 248 w') := Lib.hid (fun W2 h2 => by
        rw [hR']
        refine (xor_any _ R lR W2 h2.cell h2.frozen).mono ?_
        rintro e w' ⟨he, rfl⟩
        exact ⟨he, (h2.put _).drewN 3⟩)
      have HN : Hid (R' = (xorNext r).toNat ∧ O = (xorNext r).toNat &&& (M - 1)) := by
        have e : R' = (xorNext r).toNat := by rw [hR', hRr, xorNext_toNat]
        exact ⟨e, by rw [hO, e]⟩
      rw [← hRr] at S
      clear hRr hR' hO
      by_cases hLO : L ≤ O
      · have hLOz : (L : Int) ≤ (O : Int) := by omega
        have H3 := Lib.hid (fun W2 (h2 : SC enc w blk off dk W.heap.size (.int .u64 (R' : Int)) 248 W2) => swapC_at HS0.out HK.out (i := a + L / 4 * 2 - 1 + t) (j := a + (O - L)) (by omega) (by omega) (I := (a : Int) + (L : Int) / 4 * 2 - 1 + (t : Int)) (J := (a : Int) + ((O : Int) - (L : Int))) (by omega) (by omega) W2 h2)
        go_wp2_with (first
          | (go_at_call 147; refine (HNext.out _ (by repeat (first | exact S.out | apply SC.drewN))).mono ?_; rintro e w2 ⟨rfl, hs2⟩; have A2 := Aside0.mk hs2; clear hs2)
          | (go_at_fn gs; refine (H3.out _ (by repeat (first | exact A2.out | apply SC.drewN))).mono ?_; rintro e w3 ⟨rfl, hs3⟩; have A3 := Aside0.mk hs3; clear hs3))
        go_roundg (3 - (t + 1))
        case measure => omega
        case rel => exact ⟨t + 1, xorNext r, swp dk (a + L / 4 * 2 - 1 + t) (a + (O - L)), by congr 1; push_cast; omega, by omega, Nat.le_refl _, Lib.hid (by rw [swp_size]; exact HK.out), by rw [← HN.out.1]; exact A3,
          Lib.hid (by rw [← HR.out, bp_step a L M _ t r dk (O - L) ht3 (by rw [← HN.out.2, if_pos (by omega)])])⟩
      · have hLOz : ¬ (L : Int) ≤ (O : Int) := by omega
        have H3 := Lib.hid (fun W2 (h2 : SC enc w blk off dk W.heap.size (.int .u64 (R' : Int)) 248 W2) => swapC_at HS0.out HK.out (i := a + L / 4 * 2 - 1 + t) (j := a + O) (by omega) (by omega) (I := (a : Int) + (L : Int) / 4 * 2 - 1 + (t : Int)) (J := (a : Int) + (O : Int)) (by omega) (by omega) W2 h2)
        go_wp2_with (first
          | (go_at_call 147; refine (HNext.out _ (by repeat (first | exact S.out | apply SC.drewN))).mono ?_; rintro e w2 ⟨rfl, hs2⟩; have A2 := Aside0.mk hs2; clear hs2)
          | (go_at_fn gs; refine (H3.out _ (by repeat (first | exact A2.out | apply SC.drewN))).mono ?_; rintro e w3 ⟨rfl, hs3⟩; have A3 := Aside0.mk hs3; clear hs3))
        go_roundg (3 - (t + 1))
        case measure => omega
        case rel => exact ⟨t + 1, xorNext r, swp dk (a + L / 4 * 2 - 1 + t) (a + O), by congr 1; push_cast; omega, by omega, Nat.le_refl _, Lib.hid (by rw [swp_size]; exact HK.out), by rw [← HN.out.1]; exact A3,
          Lib.hid (by rw [← HR.out, bp_step a L M _ t r dk O ht3 (by rw [← HN.out.2, if_neg (by omega)])])⟩
    · obtain rfl : t = 3 := by omega
      have hle : ¬ ((a : Int) + (L : Int) / 4 * 2 - 1 + ((3 : Nat) : Int) ≤ (a : Int) + (L : Int) / 4 * 2 + 1) := by omega
      go_wp2
      go_end0
      refine ⟨rfl, ?_⟩
      rw [← HR.out]
      exact S.out.si
set_option maxHeartbeats 1000000 in
theorem brk_any {T : TypeId} {rv : Value} {gn gl gs : Nat} (hm : Meth T rv gn gl gs) (enc : α → Value) (w : World) (blk off n : Nat) (hs : ∀ w', SwapC gs rv enc w' blk off n) (hn : n < 4611686018427387904)
    (a b : Nat) (hab : a ≤ b) (hb : b ≤ n) (W : World) (d : Array α) (hd : d.size = n) (hW : SI enc w blk off d W) :
    Calls Tryz.prog 134 #[.iface T rv, .int .i64 a, .int .i64 b] W fun e w' => e = .returned (.tuple #[]) ∧ SI enc w blk off (breakPatterns d a b) w' := by
  obtain ⟨L, rfl⟩ : ∃ L, b = a + L := ⟨b - a, by omega⟩
  by_cases h8 : 8 ≤ L
  · exact brk_go hm enc w blk off n hs hn a L hb h8 W d hd hW
  · have hv : breakPatterns d a (a + L) = d := by unfold breakPatterns; simp only [Nat.add_sub_cancel_left]; rw [if_neg h8]
    rw [hv]
    have hLz : ((a : Int) + (L : Int) - (a : Int)) = (L : Int) := by omega
    have h8z : ¬ (8 : Int) ≤ (L : Int) := by omega
    have S0 := Aside0.mk hW
    clear hm hs hW hv
    go_enter Tryz.func134, Tryz.ntmps134
    go_wp2
    go_end0
    exact ⟨rfl, by repeat (first | exact S0.out | apply SI.drewN)⟩
end Go.Proofs.YtgoeiflddikihaaGreatDoor.Srt
end
section
namespace Go.Proofs.YtgoeiflddikihaaGreatDoor.Srt
open Go.RowKit Go.Proofs.YtgoeiflddikihaaGreatDoorW.PrintWords Go.Sort
variable {α : Type} [Inhabited α]
set_option maxHeartbeats 12800000 in
set_option maxRecDepth 100000 in
theorem partEq_any {T : TypeId} {rv : Value} {gn gl gs : Nat} (hm : Meth T rv gn gl gs) (enc : α → Value) (lt : α → α → Bool) (w : World) (blk off n : Nat) (hl : LessC gl rv enc lt w blk off n) (hs : SwapC gs rv enc w blk off n) (hn : n < 4611686018427387904)
  (a b pivot : Nat) (hap : a ≤ pivot) (hpb : pivot < b) (hb : b ≤ n) (W : World) (d : Array α) (hd : d.size = n) (hW : SI enc w blk off d W) :
  Calls Tryz.prog 138 #[.iface T rv, .int .i64 a, .int .i64 b, .int .i64 pivot] W fun e w' => e = .returned (.int .i64 (Sort.partitionEqual lt d a b pivot).1) ∧ SI enc w blk off (Sort.partitionEqual lt d a b pivot).2 w' := by
 have mL := hm.l
 have mS := hm.s
 have eL := hm.el
 have eS := hm.es
 have HW := Aside0.mk hW
 have HD := Lib.hid hd
 have HL := Lib.hid hl
 have HS := Lib.hid hs
 have H0 := Lib.hid (swapAt hs hd (i := a) (j := pivot) (by omega) (by omega) (I := (a : Int)) (J := (pivot : Int)) rfl rfl)
 clear hW hd hm hl hs
 go_enter Tryz.func138, Tryz.ntmps138
 go_wp2_with (go_at_fn gs; refine (H0.out _ (by repeat (first | exact HW.out | apply SI.drewN))).mono ?_; rintro e W0 ⟨rfl, hs0⟩; have A0 := Aside0.mk hs0; clear hs0)
 go_loopw [9, 10] (fun vi vj wr => ∃ (i j : Nat) (dk : Array α), vi = .int .i64 i ∧ vj = .int .i64 j ∧ a < i ∧ i ≤ j + 1 ∧ j < b ∧ Hid (dk.size = n) ∧ Aside0 (SI enc w blk off dk wr) ∧
   Hid (Sort.partEqLoop lt a i j dk = Sort.partEqLoop lt a (a + 1) (b - 1) (Sort.swp d a pivot)))
  (fun vi vj _ => (intOf vj).toNat + 1 - (intOf vi).toNat)
 case atStart => exact ⟨a + 1, b - 1, Sort.swp d a pivot, by go_num, by go_num, by omega, by omega, by omega, Lib.hid (by rw [swp_size]; exact HD.out), A0, Lib.hid rfl⟩
 case round =>
  clear A0 H0
  obtain ⟨i, j, dk, rfl, rfl, hai, hij, hjb, HK, SA, AE⟩ := hrel
  rename World => W1
  go_wp2
  go_loopw [9] (fun vi w1 => ∃ (i' : Nat), vi = .int .i64 i' ∧ i ≤ i' ∧ i' ≤ j + 1 ∧ Aside0 (SI enc w blk off dk w1) ∧
    Hid (Sort.scanUp (fun x => !lt dk[a]! x) dk j i' = Sort.scanUp (fun x => !lt dk[a]! x) dk j i))
   (fun vi _ => j + 1 - (intOf vi).toNat)
  case atStart => exact ⟨i, rfl, Nat.le_refl _, hij, SA, Lib.hid rfl⟩
  case round =>
   obtain ⟨i', rfl, hii, hij', S, hsc⟩ := hrel
   by_cases hle : i' ≤ j
   ·cases hlv : lt dk[a]! dk[i']! with
    | false =>
     have H1 := Lib.hid (lessAt HL.out HK.out (i := a) (j := i') (by omega) (by omega) hlv (I := (a : Int)) (J := (i' : Int)) rfl rfl)
     have HQ := Lib.hid hlv
     clear hlv
     go_wp2_with (go_at_fn gl; refine (H1.out _ (by repeat (first | exact S.out | apply SI.drewN))).mono ?_; rintro e w1 ⟨rfl, hs1⟩; have A1 := Aside0.mk hs1; clear hs1)
     go_roundw
     case rel => exact ⟨i' + 1, by go_num, by omega, by omega, A1, Lib.hid ((scanUp_go (fun x => !lt dk[a]! x) dk j i' hle (by simp [HQ.out])).symm.trans hsc.out)⟩
     case measure => simp [intOf]; omega
    | true =>
     have H1 := Lib.hid (lessAt HL.out HK.out (i := a) (j := i') (by omega) (by omega) hlv (I := (a : Int)) (J := (i' : Int)) rfl rfl)
     have hi2 : Hid (i' = Sort.scanUp (fun x => !lt dk[a]! x) dk j i) := Lib.hid ((scanUp_end (fun x => !lt dk[a]! x) dk j i' (Or.inr (by simp [hlv]))).symm.trans hsc.out)
     clear hlv hsc
     go_wp2_with (go_at_fn gl; refine (H1.out _ (by repeat (first | exact S.out | apply SI.drewN))).mono ?_; rintro e w1 ⟨rfl, hs1⟩; have A1 := Aside0.mk hs1; clear hs1)
     go_loopw [10] (fun vj w2 => ∃ (j' : Nat), vj = .int .i64 j' ∧ j' ≤ j ∧ i' ≤ j' + 1 ∧ Aside0 (SI enc w blk off dk w2) ∧
       Hid (Sort.scanDown (fun x => lt dk[a]! x) dk i' j' = Sort.scanDown (fun x => lt dk[a]! x) dk i' j))
      (fun vj _ => (intOf vj).toNat)
     case atStart => exact ⟨j, rfl, Nat.le_refl _, hij', A1, Lib.hid rfl⟩
     case round =>
      obtain ⟨j', rfl, hjj, hij2, S, hsd⟩ := hrel
      by_cases hle2 : i' ≤ j'
      ·cases hlv2 : lt dk[a]! dk[j']! with
       | true =>
        have H1 := Lib.hid (lessAt HL.out HK.out (i := a) (j := j') (by omega) (by omega) hlv2 (I := (a : Int)) (J := (j' : Int)) rfl rfl)
        have HQ := Lib.hid hlv2
        clear hlv2
        go_wp2_with (go_at_fn gl; refine (H1.out _ (by repeat (first | exact S.out | apply SI.drewN))).mono ?_; rintro e w1 ⟨rfl, hs1⟩; have A1 := Aside0.mk hs1; clear hs1)
        go_roundw
        case rel => exact ⟨j' - 1, by go_num, by omega, by omega, A1, Lib.hid ((scanDown_go (fun x => lt dk[a]! x) dk i' j' hle2 (by omega) HQ.out).symm.trans hsd.out)⟩
        case measure => simp [intOf]; omega
       | false =>
        have H1 := Lib.hid (lessAt HL.out HK.out (i := a) (j := j') (by omega) (by omega) hlv2 (I := (a : Int)) (J := (j' : Int)) rfl rfl)
        have hj2 : Hid (j' = Sort.scanDown (fun x => lt dk[a]! x) dk i' j) := Lib.hid ((scanDown_end (fun x => lt dk[a]! x) dk i' j' (Or.inr hlv2)).symm.trans hsd.out)
        have hlt3 := scans_lt lt a i j dk (by omega) hi2.out hj2.out hle2
        have H3 := Lib.hid (swapAt HS.out HK.out (i := i') (j := j') (by omega) (by omega) (I := (i' : Int)) (J := (j' : Int)) rfl rfl)
        clear hlv2 hsd
        go_wp2_with (first
         | (go_at_fn gl; refine (H1.out _ (by repeat (first | exact S.out | apply SI.drewN))).mono ?_; rintro e w1 ⟨rfl, hs1⟩; have A1 := Aside0.mk hs1; clear hs1)
         | (go_at_fn gs; refine (H3.out _ (by repeat (first | exact A1.out | apply SI.drewN))).mono ?_; rintro e w3 ⟨rfl, hs3⟩; have A3 := Aside0.mk hs3; clear hs3))
        go_roundw
        case rel => exact ⟨i' + 1, j' - 1, Sort.swp dk i' j', by go_num, by go_num, by omega, by omega, by omega, Lib.hid (by rw [swp_size]; exact HK.out), A3, Lib.hid (by rw [← AE.out]; exact (partEq_go lt a i j dk hi2.out hj2.out (by omega)).symm)⟩
        case measure => simp [intOf]; omega
      ·have hj2 : Hid (j' = Sort.scanDown (fun x => lt dk[a]! x) dk i' j) := Lib.hid ((scanDown_end (fun x => lt dk[a]! x) dk i' j' (Or.inl hle2)).symm.trans hsd.out)
       clear hsd
       go_wp2
       go_ret
       have e := partEq_break lt a i j dk hi2.out hj2.out (by omega)
       refine ⟨?_, ?_⟩
       ·unfold Sort.partitionEqual; rw [← AE.out, e]; rfl
       ·unfold Sort.partitionEqual; rw [← AE.out, e]; exact S.out
   ·have hi2 : Hid (i' = Sort.scanUp (fun x => !lt dk[a]! x) dk j i) := Lib.hid ((scanUp_end (fun x => !lt dk[a]! x) dk j i' (Or.inl hle)).symm.trans hsc.out)
    clear hsc
    go_wp2
    go_loopw [10] (fun vj w2 => ∃ (j' : Nat), vj = .int .i64 j' ∧ j' ≤ j ∧ i' ≤ j' + 1 ∧ Aside0 (SI enc w blk off dk w2) ∧
      Hid (Sort.scanDown (fun x => lt dk[a]! x) dk i' j' = Sort.scanDown (fun x => lt dk[a]! x) dk i' j))
     (fun vj _ => (intOf vj).toNat)
    case atStart => exact ⟨j, rfl, Nat.le_refl _, hij', S, Lib.hid rfl⟩
    case round =>
     obtain ⟨j', rfl, hjj, hij2, S, hsd⟩ := hrel
     by_cases hle2 : i' ≤ j'
     ·exfalso; omega
     ·have hj2 : Hid (j' = Sort.scanDown (fun x => lt dk[a]! x) dk i' j) := Lib.hid ((scanDown_end (fun x => lt dk[a]! x) dk i' j' (Or.inl hle2)).symm.trans hsd.out)
      clear hsd
      go_wp2
      go_ret
      have e := partEq_break lt a i j dk hi2.out hj2.out (by omega)
      refine ⟨?_, ?_⟩
      ·unfold Sort.partitionEqual; rw [← AE.out, e]; rfl
      ·unfold Sort.partitionEqual; rw [← AE.out, e]; exact S.out
set_option maxHeartbeats 12800000 in
set_option maxRecDepth 100000 in
theorem part_any {T : TypeId} {rv : Value} {gn gl gs : Nat} (hm : Meth T rv gn gl gs) (enc : α → Value) (lt : α → α → Bool) (w : World) (blk off n : Nat) (hl : LessC gl rv enc lt w blk off n) (hs : SwapC gs rv enc w blk off n) (hn : n < 4611686018427387904)
  (a b pivot : Nat) (hap : a ≤ pivot) (hpb : pivot < b) (hb : b ≤ n) (W : World) (d : Array α) (hd : d.size = n) (hW : SI enc w blk off d W) :
  Calls Tryz.prog 139 #[.iface T rv, .int .i64 a, .int .i64 b, .int .i64 pivot] W fun e w' => e = .returned (.tuple #[.int .i64 (Sort.partition lt d a b pivot).1, .bool (Sort.partition lt d a b pivot).2.1]) ∧ SI enc w blk off (Sort.partition lt d a b pivot).2.2 w' := by
 have mL := hm.l
 have mS := hm.s
 have eL := hm.el
 have eS := hm.es
 have HW := Aside0.mk hW
 have HD := Lib.hid hd
 have HL := Lib.hid hl
 have HS := Lib.hid hs
 have H0 := Lib.hid (swapAt hs hd (i := a) (j := pivot) (by omega) (by omega) (I := (a : Int)) (J := (pivot : Int)) rfl rfl)
 clear hW hd hm hl hs
 obtain ⟨i, hi⟩ : ∃ i : Nat, i = a + 1 := ⟨_, rfl⟩
 obtain ⟨j, hj⟩ : ∃ j : Nat, j = b - 1 := ⟨_, rfl⟩
 obtain ⟨dk, hdk⟩ : ∃ dk : Array α, dk = Sort.swp d a pivot := ⟨_, rfl⟩
 have HK : Hid (dk.size = n) := Lib.hid (by rw [hdk, swp_size]; exact HD.out)
 have hai : a < i := by omega
 have hij : i ≤ j + 1 := by omega
 have hjb : j < b := by omega
 rw [← hdk] at H0
 have Hi : Hid (i = a + 1) := Lib.hid hi
 have Hj : Hid (j = b - 1) := Lib.hid hj
 have Hdk : Hid (dk = Sort.swp d a pivot) := Lib.hid hdk
 clear hi hj hdk
 go_enter Tryz.func139, Tryz.ntmps139
 go_wp2_with (go_at_fn gs; refine (H0.out _ (by repeat (first | exact HW.out | apply SI.drewN))).mono ?_; rintro e W1 ⟨rfl, hs0⟩; have SA := Aside0.mk hs0; clear hs0)
 rw [show ((a : Int) + 1) = (i : Int) by have := Hi.out; omega, show ((b : Int) - 1) = (j : Int) by have := Hj.out; omega]
 clear H0
 go_loopw [10] (fun vi w1 => ∃ (i' : Nat), vi = .int .i64 i' ∧ i ≤ i' ∧ i' ≤ j + 1 ∧ Aside0 (SI enc w blk off dk w1) ∧
   Hid (Sort.scanUp (fun x => lt x dk[a]!) dk j i' = Sort.scanUp (fun x => lt x dk[a]!) dk j i))
  (fun vi _ => j + 1 - (intOf vi).toNat)
 case atStart => exact ⟨i, rfl, Nat.le_refl _, hij, SA, Lib.hid rfl⟩
 case round =>
  obtain ⟨i', rfl, hii, hij', S, hsc⟩ := hrel
  by_cases hle : i' ≤ j
  ·cases hlv : lt dk[i']! dk[a]! with
   | true =>
    have H1 := Lib.hid (lessAt HL.out HK.out (i := i') (j := a) (by omega) (by omega) hlv (I := (i' : Int)) (J := (a : Int)) rfl rfl)
    have HQ := Lib.hid hlv
    clear hlv
    go_wp2_with (go_at_fn gl; refine (H1.out _ (by repeat (first | exact S.out | apply SI.drewN))).mono ?_; rintro e w1 ⟨rfl, hs1⟩; have A1 := Aside0.mk hs1; clear hs1)
    go_roundw
    case rel => exact ⟨i' + 1, by go_num, by omega, by omega, A1, Lib.hid ((scanUp_go (fun x => lt x dk[a]!) dk j i' hle HQ.out).symm.trans hsc.out)⟩
    case measure => simp [intOf]; omega
   | false =>
    have H1 := Lib.hid (lessAt HL.out HK.out (i := i') (j := a) (by omega) (by omega) hlv (I := (i' : Int)) (J := (a : Int)) rfl rfl)
    have hi2 : Hid (i' = Sort.scanUp (fun x => lt x dk[a]!) dk j i) := Lib.hid ((scanUp_end (fun x => lt x dk[a]!) dk j i' (Or.inr hlv)).symm.trans hsc.out)
    clear hlv hsc
    go_wp2_with (go_at_fn gl; refine (H1.out _ (by repeat (first | exact S.out | apply SI.drewN))).mono ?_; rintro e w1 ⟨rfl, hs1⟩; have A1 := Aside0.mk hs1; clear hs1)
    go_loopw [11] (fun vj w2 => ∃ (j' : Nat), vj = .int .i64 j' ∧ j' ≤ j ∧ i' ≤ j' + 1 ∧ Aside0 (SI enc w blk off dk w2) ∧
      Hid (Sort.scanDown (fun x => !lt x dk[a]!) dk i' j' = Sort.scanDown (fun x => !lt x dk[a]!) dk i' j))
     (fun vj _ => (intOf vj).toNat)
    case atStart => exact ⟨j, rfl, Nat.le_refl _, hij', A1, Lib.hid rfl⟩
    case round =>
     obtain ⟨j', rfl, hjj, hij2, S, hsd⟩ := hrel
     by_cases hle2 : i' ≤ j'
     ·cases hlv2 : lt dk[j']! dk[a]! with
      | false =>
       have H1 := Lib.hid (lessAt HL.out HK.out (i := j') (j := a) (by omega) (by omega) hlv2 (I := (j' : Int)) (J := (a : Int)) rfl rfl)
       have HQ := Lib.hid hlv2
       clear hlv2
       go_wp2_with (go_at_fn gl; refine (H1.out _ (by repeat (first | exact S.out | apply SI.drewN))).mono ?_; rintro e w1 ⟨rfl, hs1⟩; have A1 := Aside0.mk hs1; clear hs1)
       go_roundw
       case rel => exact ⟨j' - 1, by go_num, by omega, by omega, A1, Lib.hid ((scanDown_go (fun x => !lt x dk[a]!) dk i' j' hle2 (by omega) (by simp [HQ.out])).symm.trans hsd.out)⟩
       case measure => simp [intOf]; omega
      | true =>
       have H1 := Lib.hid (lessAt HL.out HK.out (i := j') (j := a) (by omega) (by omega) hlv2 (I := (j' : Int)) (J := (a : Int)) rfl rfl)
       have hj2 : Hid (j' = Sort.scanDown (fun x => !lt x dk[a]!) dk i' j) := Lib.hid ((scanDown_end (fun x => !lt x dk[a]!) dk i' j' (Or.inr (by simp [hlv2]))).symm.trans hsd.out)
       have hlt3 := part_scans_lt lt a i j dk (by omega) hi2.out hj2.out hle2
       have H3 := Lib.hid (swapAt HS.out HK.out (i := i') (j := j') (by omega) (by omega) (I := (i' : Int)) (J := (j' : Int)) rfl rfl)
       clear hlv2 hsd
       go_wp2_with (first
        | (go_at_fn gl; refine (H1.out _ (by repeat (first | exact S.out | apply SI.drewN))).mono ?_; rintro e w1 ⟨rfl, hs1⟩; have A1 := Aside0.mk hs1; clear hs1)
        | (go_at_fn gs; refine (H3.out _ (by repeat (first | exact A1.out | apply SI.drewN))).mono ?_; rintro e w3 ⟨rfl, hs3⟩; have A3 := Aside0.mk hs3; clear hs3))
       (try rw [decide_eq_false (show ¬ j' < i' by omega)])
       obtain ⟨I0, hI0⟩ : ∃ I0 : Nat, I0 = i' + 1 := ⟨_, rfl⟩
       obtain ⟨J0, hJ0⟩ : ∃ J0 : Nat, J0 = j' - 1 := ⟨_, rfl⟩
       obtain ⟨D0, hD0⟩ : ∃ D0 : Array α, D0 = Sort.swp dk i' j' := ⟨_, rfl⟩
       have PF : Hid (Sort.partition lt d a b pivot = ((Sort.partLoop lt a I0 J0 D0).1, false, Sort.swp (Sort.partLoop lt a I0 J0 D0).2 (Sort.partLoop lt a I0 J0 D0).1 a)) := Lib.hid (by
        rw [hI0, hJ0, hD0]; exact part_first_go lt d a b pivot Hi.out Hj.out Hdk.out hi2.out hj2.out (by omega))
       have HE0 := Lib.hid (show Sort.partLoop lt a (i' + 1) (j' - 1) (Sort.swp dk i' j') = Sort.partLoop lt a I0 J0 D0 by rw [hI0, hJ0, hD0])
       clear hI0 hJ0 hD0
       go_loopw [10, 11] (fun vi vj wr => ∃ (i j : Nat) (dk : Array α), vi = .int .i64 i ∧ vj = .int .i64 j ∧ a < i ∧ i ≤ j + 1 ∧ j < b ∧ Hid (dk.size = n) ∧ Aside0 (SI enc w blk off dk wr) ∧
         Hid (Sort.partLoop lt a i j dk = Sort.partLoop lt a I0 J0 D0))
        (fun vi vj _ => (intOf vj).toNat + 1 - (intOf vi).toNat)
       case atStart => exact ⟨i' + 1, j' - 1, Sort.swp dk i' j', by go_num, by go_num, by omega, by omega, by omega, Lib.hid (by rw [swp_size]; exact HK.out), A3, HE0⟩
       case round =>
        clear HE0 H1 H3 A1 A3 S hj2 hi2 hlt3 Hi Hj Hdk HK SA
        obtain ⟨i, j, dk, rfl, rfl, hai, hij, hjb, HK, SA, AE⟩ := hrel
        rename World => W1
        go_wp2
        go_loopw [10] (fun vi w1 => ∃ (i' : Nat), vi = .int .i64 i' ∧ i ≤ i' ∧ i' ≤ j + 1 ∧ Aside0 (SI enc w blk off dk w1) ∧
          Hid (Sort.scanUp (fun x => lt x dk[a]!) dk j i' = Sort.scanUp (fun x => lt x dk[a]!) dk j i))
         (fun vi _ => j + 1 - (intOf vi).toNat)
        case atStart => exact ⟨i, rfl, Nat.le_refl _, hij, SA, Lib.hid rfl⟩
        case round =>
         obtain ⟨i', rfl, hii, hij', S, hsc⟩ := hrel
         by_cases hle : i' ≤ j
         ·cases hlv : lt dk[i']! dk[a]! with
          | true =>
           have H1 := Lib.hid (lessAt HL.out HK.out (i := i') (j := a) (by omega) (by omega) hlv (I := (i' : Int)) (J := (a : Int)) rfl rfl)
           have HQ := Lib.hid hlv
           clear hlv
           go_wp2_with (go_at_fn gl; refine (H1.out _ (by repeat (first | exact S.out | apply SI.drewN))).mono ?_; rintro e w1 ⟨rfl, hs1⟩; have A1 := Aside0.mk hs1; clear hs1)
           go_roundw
           case rel => exact ⟨i' + 1, by go_num, by omega, by omega, A1, Lib.hid ((scanUp_go (fun x => lt x dk[a]!) dk j i' hle HQ.out).symm.trans hsc.out)⟩
           case measure => simp [intOf]; omega
          | false =>
           have H1 := Lib.hid (lessAt HL.out HK.out (i := i') (j := a) (by omega) (by omega) hlv (I := (i' : Int)) (J := (a : Int)) rfl rfl)
           have hi2 : Hid (i' = Sort.scanUp (fun x => lt x dk[a]!) dk j i) := Lib.hid ((scanUp_end (fun x => lt x dk[a]!) dk j i' (Or.inr hlv)).symm.trans hsc.out)
           clear hlv hsc
           go_wp2_with (go_at_fn gl; refine (H1.out _ (by repeat (first | exact S.out | apply SI.drewN))).mono ?_; rintro e w1 ⟨rfl, hs1⟩; have A1 := Aside0.mk hs1; clear hs1)
           go_loopw [11] (fun vj w2 => ∃ (j' : Nat), vj = .int .i64 j' ∧ j' ≤ j ∧ i' ≤ j' + 1 ∧ Aside0 (SI enc w blk off dk w2) ∧
             Hid (Sort.scanDown (fun x => !lt x dk[a]!) dk i' j' = Sort.scanDown (fun x => !lt x dk[a]!) dk i' j))
            (fun vj _ => (intOf vj).toNat)
           case atStart => exact ⟨j, rfl, Nat.le_refl _, hij', A1, Lib.hid rfl⟩
           case round =>
            obtain ⟨j', rfl, hjj, hij2, S, hsd⟩ := hrel
            by_cases hle2 : i' ≤ j'
            ·cases hlv2 : lt dk[j']! dk[a]! with
             | false =>
              have H1 := Lib.hid (lessAt HL.out HK.out (i := j') (j := a) (by omega) (by omega) hlv2 (I := (j' : Int)) (J := (a : Int)) rfl rfl)
              have HQ := Lib.hid hlv2
              clear hlv2
              go_wp2_with (go_at_fn gl; refine (H1.out _ (by repeat (first | exact S.out | apply SI.drewN))).mono ?_; rintro e w1 ⟨rfl, hs1⟩; have A1 := Aside0.mk hs1; clear hs1)
              go_roundw
              case rel => exact ⟨j' - 1, by go_num, by omega, by omega, A1, Lib.hid ((scanDown_go (fun x => !lt x dk[a]!) dk i' j' hle2 (by omega) (by simp [HQ.out])).symm.trans hsd.out)⟩
              case measure => simp [intOf]; omega
             | true =>
              have H1 := Lib.hid (lessAt HL.out HK.out (i := j') (j := a) (by omega) (by omega) hlv2 (I := (j' : Int)) (J := (a : Int)) rfl rfl)
              have hj2 : Hid (j' = Sort.scanDown (fun x => !lt x dk[a]!) dk i' j) := Lib.hid ((scanDown_end (fun x => !lt x dk[a]!) dk i' j' (Or.inr (by simp [hlv2]))).symm.trans hsd.out)
              have hlt3 := part_scans_lt lt a i j dk (by omega) hi2.out hj2.out hle2
              have H3 := Lib.hid (swapAt HS.out HK.out (i := i') (j := j') (by omega) (by omega) (I := (i' : Int)) (J := (j' : Int)) rfl rfl)
              clear hlv2 hsd
              go_wp2_with (first
               | (go_at_fn gl; refine (H1.out _ (by repeat (first | exact S.out | apply SI.drewN))).mono ?_; rintro e w1 ⟨rfl, hs1⟩; have A1 := Aside0.mk hs1; clear hs1)
               | (go_at_fn gs; refine (H3.out _ (by repeat (first | exact A1.out | apply SI.drewN))).mono ?_; rintro e w3 ⟨rfl, hs3⟩; have A3 := Aside0.mk hs3; clear hs3))
              go_roundw
              case rel => exact ⟨i' + 1, j' - 1, Sort.swp dk i' j', by go_num, by go_num, by omega, by omega, by omega, Lib.hid (by rw [swp_size]; exact HK.out), A3, Lib.hid (by rw [← AE.out]; exact (part_go lt a i j dk hi2.out hj2.out (by omega)).symm)⟩
              case measure => simp [intOf]; omega
            ·have hj2 : Hid (j' = Sort.scanDown (fun x => !lt x dk[a]!) dk i' j) := Lib.hid ((scanDown_end (fun x => !lt x dk[a]!) dk i' j' (Or.inl hle2)).symm.trans hsd.out)
             clear hsd
             have H3 := Lib.hid (swapAt HS.out HK.out (i := j') (j := a) (by omega) (by omega) (I := (j' : Int)) (J := (a : Int)) rfl rfl)
             go_wp2_with (go_at_fn gs; refine (H3.out _ (by repeat (first | exact S.out | apply SI.drewN))).mono ?_; rintro e w3 ⟨rfl, hs3⟩; have A3 := Aside0.mk hs3; clear hs3)
             go_ret2
             have e := part_break lt a i j dk hi2.out hj2.out (by omega)
             rw [PF.out, ← AE.out, e]
             exact ⟨rfl, A3.out⟩
         ·have hi2 : Hid (i' = Sort.scanUp (fun x => lt x dk[a]!) dk j i) := Lib.hid ((scanUp_end (fun x => lt x dk[a]!) dk j i' (Or.inl hle)).symm.trans hsc.out)
          clear hsc
          go_wp2
          go_loopw [11] (fun vj w2 => ∃ (j' : Nat), vj = .int .i64 j' ∧ j' ≤ j ∧ i' ≤ j' + 1 ∧ Aside0 (SI enc w blk off dk w2) ∧
            Hid (Sort.scanDown (fun x => !lt x dk[a]!) dk i' j' = Sort.scanDown (fun x => !lt x dk[a]!) dk i' j))
           (fun vj _ => (intOf vj).toNat)
          case atStart => exact ⟨j, rfl, Nat.le_refl _, hij', S, Lib.hid rfl⟩
          case round =>
           obtain ⟨j', rfl, hjj, hij2, S, hsd⟩ := hrel
           by_cases hle2 : i' ≤ j'
           ·exfalso; omega
           ·have hj2 : Hid (j' = Sort.scanDown (fun x => !lt x dk[a]!) dk i' j) := Lib.hid ((scanDown_end (fun x => !lt x dk[a]!) dk i' j' (Or.inl hle2)).symm.trans hsd.out)
            clear hsd
            have H3 := Lib.hid (swapAt HS.out HK.out (i := j') (j := a) (by omega) (by omega) (I := (j' : Int)) (J := (a : Int)) rfl rfl)
            go_wp2_with (go_at_fn gs; refine (H3.out _ (by repeat (first | exact S.out | apply SI.drewN))).mono ?_; rintro e w3 ⟨rfl, hs3⟩; have A3 := Aside0.mk hs3; clear hs3)
            go_ret2
            have e := part_break lt a i j dk hi2.out hj2.out (by omega)
            rw [PF.out, ← AE.out, e]
            exact ⟨rfl, A3.out⟩
     ·have hj2 : Hid (j' = Sort.scanDown (fun x => !lt x dk[a]!) dk i' j) := Lib.hid ((scanDown_end (fun x => !lt x dk[a]!) dk i' j' (Or.inl hle2)).symm.trans hsd.out)
      clear hsd
      have H3 := Lib.hid (swapAt HS.out HK.out (i := j') (j := a) (by omega) (by omega) (I := (j' : Int)) (J := (a : Int)) rfl rfl)
      go_wp2_with (go_at_fn gs; refine (H3.out _ (by repeat (first | exact S.out | apply SI.drewN))).mono ?_; rintro e w3 ⟨rfl, hs3⟩; have A3 := Aside0.mk hs3; clear hs3)
      go_ret2
      have e := part_first_break lt d a b pivot Hi.out Hj.out Hdk.out hi2.out hj2.out (by omega)
      rw [e]
      exact ⟨rfl, A3.out⟩
  ·have hi2 : Hid (i' = Sort.scanUp (fun x => lt x dk[a]!) dk j i) := Lib.hid ((scanUp_end (fun x => lt x dk[a]!) dk j i' (Or.inl hle)).symm.trans hsc.out)
   clear hsc
   go_wp2
   go_loopw [11] (fun vj w2 => ∃ (j' : Nat), vj = .int .i64 j' ∧ j' ≤ j ∧ i' ≤ j' + 1 ∧ Aside0 (SI enc w blk off dk w2) ∧
     Hid (Sort.scanDown (fun x => !lt x dk[a]!) dk i' j' = Sort.scanDown (fun x => !lt x dk[a]!) dk i' j))
    (fun vj _ => (intOf vj).toNat)
   case atStart => exact ⟨j, rfl, Nat.le_refl _, hij', S, Lib.hid rfl⟩
   case round =>
    obtain ⟨j', rfl, hjj, hij2, S, hsd⟩ := hrel
    by_cases hle2 : i' ≤ j'
    ·exfalso; omega
    ·have hj2 : Hid (j' = Sort.scanDown (fun x => !lt x dk[a]!) dk i' j) := Lib.hid ((scanDown_end (fun x => !lt x dk[a]!) dk i' j' (Or.inl hle2)).symm.trans hsd.out)
     clear hsd
     have H3 := Lib.hid (swapAt HS.out HK.out (i := j') (j := a) (by omega) (by omega) (I := (j' : Int)) (J := (a : Int)) rfl rfl)
     go_wp2_with (go_at_fn gs; refine (H3.out _ (by repeat (first | exact S.out | apply SI.drewN))).mono ?_; rintro e w3 ⟨rfl, hs3⟩; have A3 := Aside0.mk hs3; clear hs3)
     go_ret2
     have e := part_first_break lt d a b pivot Hi.out Hj.out Hdk.out hi2.out hj2.out (by omega)
     rw [e]
     exact ⟨rfl, A3.out⟩
end Go.Proofs.YtgoeiflddikihaaGreatDoor.Srt
end
section
namespace Go.Proofs.YtgoeiflddikihaaGreatDoor.Srt
open Go.RowKit Go.Proofs.YtgoeiflddikihaaGreatDoorW.PrintWords Go.Sort
variable {α : Type} [Inhabited α]
set_option maxHeartbeats 12800000 in
set_option maxRecDepth 1000000 in
theorem pdq_any {T : TypeId} {rv : Value} {gn gl gs : Nat} (hm : Meth T rv gn gl gs) (enc : α → Value) (lt : α → α → Bool) (hO : SWO lt) (w : World) (blk off n : Nat) (hl : LessC gl rv enc lt w blk off n) (hs : ∀ w', SwapC gs rv enc w' blk off n) (hn : n < 50) :
    ∀ (N a b limit : Nat) (d : Array α) (W : World), b - a < N → SI enc w blk off d W → d.size = n → a ≤ b → b ≤ n → limit < 4611686018427387904 → Sort.Below lt a b d →
    Calls Tryz.prog 124 #[.iface T rv, .int .i64 a, .int .i64 b, .int .i64 limit] W fun e w' => e = .returned (.tuple #[]) ∧ SI enc w blk off (pdq lt d a b limit true true) w' := by
  have hn2 : n < 4611686018427387904 := by omega
  have CI := Lib.hid (fun a b hab hb W d hd hW => ins_any hm enc lt w blk off n hl (hs w) hn2 a b hab hb W d hd hW)
  have CH := Lib.hid (fun a b hab hb W d hd hW => heap_any hm enc lt w blk off n hl (hs w) hn2 a b hab hb W d hd hW)
  have CB := Lib.hid (fun a b hab hb W d hd hW => brk_any hm enc w blk off n hs hn2 a b hab hb W d hd hW)
  have CC := Lib.hid (fun a b hab hb W d hd hW => pivot_any hm enc lt w blk off n hl hn a b hab hb W d hd hW)
  have CR := Lib.hid (fun a b hab hb W d hd hW => rev_any hm enc w blk off n (hs w) hn2 a b hab hb W d hd hW)
  have CP := Lib.hid (fun a b hab hb W d hd hW => part_ins_any hm enc lt w blk off n hl hn a b hab hb W d hd hW)
  have CE := Lib.hid (fun a b p hap hpb hb W d hd hW => partEq_any hm enc lt w blk off n hl (hs w) hn2 a b p hap hpb hb W d hd hW)
  have CT := Lib.hid (fun a b p hap hpb hb W d hd hW => part_any hm enc lt w blk off n hl (hs w) hn2 a b p hap hpb hb W d hd hW)
  have HL := Lib.hid hl
  have mL := hm.l
  have eL := hm.el
  clear hl hs hm
  intro N
  induction N with
  | zero => intro _ _ _ _ _ h; exact absurd h (Nat.not_lt_zero _)
  | succ N ih0 =>
    intro a b limit d W hN hW hd hab hb hlimit hBel0
    have IH := Lib.hid ih0
    have HW := Aside0.mk hW
    have HD := Lib.hid hd
    have HBel0 := Lib.hid hBel0
    clear ih0 hW hd hBel0
    go_enter Tryz.func124, Tryz.ntmps124
    go_wp2
    go_loopg [1, 2, 3, 8, 9] (b - a) (fun k s1 s2 s3 s8 s9 wr => ∃ (a' b' lim : Nat) (wb wp : Bool) (dk : Array α), s1 = .int .i64 a' ∧ s2 = .int .i64 b' ∧ s3 = .int .i64 lim ∧ s8 = .bool wb ∧ s9 = .bool wp ∧
      a' ≤ b' ∧ b' ≤ n ∧ b' - a' ≤ k ∧ k ≤ b - a ∧ lim ≤ limit ∧ Hid (dk.size = n) ∧ Hid (Sort.Below lt a' b' dk) ∧ Aside0 (SI enc w blk off dk wr) ∧ Hid (pdq lt dk a' b' lim wb wp = pdq lt d a b limit true true))
    case atStart => exact ⟨a, b, limit, true, true, d, rfl, rfl, rfl, rfl, rfl, hab, hb, Nat.le_refl _, Nat.le_refl _, Nat.le_refl _, HD, HBel0, HW, Lib.hid rfl⟩
    case round =>
      obtain ⟨a', b', lim, wb, wp, dk, rfl, rfl, rfl, rfl, rfl, hab', hb', hk, hkN, hlim, HK, HBel, HAt, A⟩ := hrel
      by_cases h12 : b' - a' ≤ 12
      · have h12z : (b' : Int) - (a' : Int) ≤ 12 := by omega
        go_wp2_with (go_at_call 132; refine (CI.out a' b' hab' hb' _ dk HK.out (by repeat (first | exact HAt.out | apply SI.drewN))).mono ?_; rintro e w1 ⟨rfl, hw1⟩; have A1 := Aside0.mk hw1; clear hw1)
        (try simp only [Exit.inBlock, Exit.then]); refine bodyPost_ret (results_none rfl _ _ _) rfl ?_
        refine ⟨rfl, ?_⟩
        rw [← A.out, pdq_small h12]
        exact A1.out
      · have h12z : ¬ ((b' : Int) - (a' : Int) ≤ 12) := by omega
        by_cases hl0 : lim = 0
        · subst hl0
          go_wp2_with (go_at_call 133; refine (CH.out a' b' hab' hb' _ dk HK.out (by repeat (first | exact HAt.out | apply SI.drewN))).mono ?_; rintro e w1 ⟨rfl, hw1⟩; have A1 := Aside0.mk hw1; clear hw1)
          (try simp only [Exit.inBlock, Exit.then]); refine bodyPost_ret (results_none rfl _ _ _) rfl ?_
          refine ⟨rfl, ?_⟩
          rw [← A.out, pdq_heap h12 rfl]
          exact A1.out
        · have hl0z : ¬ ((lim : Int) = 0) := by omega
          have hds := HK.out
          obtain ⟨s1, B1, hc1, s2, B2, hpv, s3, B3⟩ := rd_facts (lt := lt) (limit := lim) (wb := wb) (wp := wp) hO partialInsertionSort_holds reverseRange_holds (show a' < b' by omega) (show b' ≤ dk.size by omega) HBel.out
          have S1 := Lib.hid (s1.trans hds)
          have S2 := Lib.hid (s2.trans hds)
          have S3 := Lib.hid (s3.trans hds)
          have HB3 := Lib.hid B3
          clear s1 s2 s3 B1 B2 B3 hc1 hds
          go_upto_if 35 with fail
          go_cut [3] from 19 (fun s3 wc => s3 = .int .i64 (rd lt dk a' b' lim wb wp).lim ∧ Aside0 (SI enc w blk off (rd lt dk a' b' lim wb wp).d1 wc))
          case first =>
            cases wb
            · go_wp2_with (go_at_call 134; refine (CB.out a' b' hab' hb' _ dk HK.out (by repeat (first | exact HAt.out | apply SI.drewN))).mono ?_; rintro e w1 ⟨rfl, hw1⟩; have A1 := Aside0.mk hw1; clear hw1)
              go_meet
              case rel =>
                refine ⟨?_, A1⟩
                show Value.int .i64 ((lim : Int) - 1) = Value.int .i64 ((lim - 1 : Nat) : Int)
                congr 1
                omega
            · go_wp2_with fail
              go_meet
              case rel => exact ⟨rfl, ⟨by repeat (first | exact HAt.out | apply SI.drewN)⟩⟩
          case rest =>
            obtain ⟨rfl, HA1⟩ := hcut
            go_upto_if 50 with (go_at_call 135; refine (CC.out a' b' (by omega) hb' _ (rd lt dk a' b' lim wb wp).d1 S1.out (by repeat (first | exact HA1.out | apply SI.drewN))).mono ?_; rintro e w2 ⟨rfl, hw2⟩; have HA2 := Aside0.mk hw2; clear hw2)
            go_cut [11, 12] from 19 (fun s11 s12 wc => s11 = .int .i64 (rd lt dk a' b' lim wb wp).pivot ∧ s12 = .int .i64 (hintCode (rd lt dk a' b' lim wb wp).hint) ∧ Aside0 (SI enc w blk off (rd lt dk a' b' lim wb wp).d2 wc))
            case first =>
              by_cases hh : (rd lt dk a' b' lim wb wp).c.2 = .decreasing
              · have hcode : hintCode (rd lt dk a' b' lim wb wp).c.2 = 2 := by rw [hh]; rfl
                obtain ⟨e2, epv, eht⟩ := rd_dec hh
                have E2 := Lib.hid e2
                have EPV := Lib.hid epv
                have EHT := Lib.hid eht
                have hcc : (choosePivot lt (rd lt dk a' b' lim wb wp).d1 a' b').2 = .decreasing := hh
                have hcode' : hintCode (choosePivot lt (rd lt dk a' b' lim wb wp).d1 a' b').2 = 2 := hcode
                have HCB : a' ≤ (choosePivot lt (rd lt dk a' b' lim wb wp).d1 a' b').1 ∧ (choosePivot lt (rd lt dk a' b' lim wb wp).d1 a' b').1 < b' := choosePivot_holds lt _ _ _ (by omega)
                clear e2 epv eht hh hcode hcc
                go_wp2_with (go_at_call 136; refine (CR.out a' b' hab' hb' _ (rd lt dk a' b' lim wb wp).d1 S1.out (by repeat (first | exact HA2.out | apply SI.drewN))).mono ?_; rintro e w3 ⟨rfl, hw3⟩; have A3 := Aside0.mk hw3; clear hw3)
                go_meet
                case rel =>
                  refine ⟨?_, by rw [EHT.out]; rfl, by rw [E2.out]; exact A3⟩
                  rw [EPV.out]
                  congr 1
                  show _ = (((b' - 1) - ((choosePivot lt (rd lt dk a' b' lim wb wp).d1 a' b').1 - a') : Nat) : Int)
                  omega
              · have hcode' : ¬ (hintCode (choosePivot lt (rd lt dk a' b' lim wb wp).d1 a' b').2 = 2) := fun h => hh (hintCode_two h)
                obtain ⟨e2, epv, eht⟩ := rd_not hh
                have E2 := Lib.hid e2
                have EPV := Lib.hid epv
                have EHT := Lib.hid eht
                clear e2 epv eht hh
                go_wp2_with fail
                go_meet
                case rel => exact ⟨by rw [EPV.out]; rfl, by rw [EHT.out]; rfl, by rw [E2.out]; exact ⟨by repeat (first | exact HA2.out | apply SI.drewN)⟩⟩
            case rest =>
              obtain ⟨rfl, rfl, HA3⟩ := hcut
              go_upto_region 15 with fail
              go_cut [12, 68] from 19 (fun s12 s68 wx => s12 = .int .i64 (hintCode (rd lt dk a' b' lim wb wp).hint) ∧ s68 = .bool (wb && wp && decide ((rd lt dk a' b' lim wb wp).hint = .increasing)) ∧ wx = wc)
              case first =>
                cases wb <;> cases wp <;> cases hh3 : (rd lt dk a' b' lim _ _).hint <;>
                  (have hcode3 := congrArg hintCode hh3
                   simp only [hintCode] at hcode3
                   go_wp2_with fail
                   go_meet
                   exact ⟨by simp [hh3, hintCode], by simp [hh3, hintCode], rfl⟩)
              case rest =>
                obtain ⟨rfl, rfl, rfl⟩ := hcut
                go_upto_if 68 with fail
                go_cut [] from 19 (fun wx => Hid ((rd lt dk a' b' lim wb wp).pi.2 = false) ∧ Aside0 (SI enc w blk off (rd lt dk a' b' lim wb wp).pi.1 wx))
                case first =>
                  cases h68 : (wb && wp && decide ((rd lt dk a' b' lim wb wp).hint = .increasing))
                  · have EPI := Lib.hid (rd_pi_no h68)
                    go_wp2_with fail
                    go_meet
                    case rel => exact ⟨Lib.hid (by rw [EPI.out]), by rw [EPI.out]; exact ⟨by repeat (first | exact HA3.out | apply SI.drewN)⟩⟩
                  · have EPI := Lib.hid (rd_pi_yes h68)
                    cases hpp : (Sort.partialInsertionSort lt (rd lt dk a' b' lim wb wp).d2 a' b').2 with
                    | false =>
                      have HPP := Lib.hid hpp
                      have CP2 := Lib.hid (fun W2 h2 => CP.out a' b' (by omega) hb' W2 (rd lt dk a' b' lim wb wp).d2 S2.out h2)
                      rw [hpp] at CP2
                      clear hpp
                      go_wp2_with (go_at_call 137; refine (CP2.out _ (by repeat (first | exact HA3.out | apply SI.drewN))).mono ?_; rintro e w4 ⟨rfl, hw4⟩; have A4 := Aside0.mk hw4; clear hw4)
                      go_meet
                      case rel => exact ⟨Lib.hid (by rw [EPI.out]; exact HPP.out), by rw [EPI.out]; exact A4⟩
                    | true =>
                      have HPP := Lib.hid hpp
                      have CP2 := Lib.hid (fun W2 h2 => CP.out a' b' (by omega) hb' W2 (rd lt dk a' b' lim wb wp).d2 S2.out h2)
                      rw [hpp] at CP2
                      clear hpp
                      go_wp2_with (go_at_call 137; refine (CP2.out _ (by repeat (first | exact HA3.out | apply SI.drewN))).mono ?_; rintro e w4 ⟨rfl, hw4⟩; have A4 := Aside0.mk hw4; clear hw4)
                      (try simp only [Exit.inBlock, Exit.then]); refine bodyPost_ret (results_none rfl _ _ _) rfl ?_
                      refine ⟨rfl, ?_⟩
                      rw [← A.out, pdq_done h12 hl0 (by rw [EPI.out]; exact HPP.out), EPI.out]
                      exact A4.out
                case rest =>
                  obtain ⟨HP2, HA5⟩ := hcut
                  go_upto_region 17 with fail
                  go_cut [82] from 19 (fun s82 wx => s82 = .bool (decide (a' > 0) && !lt (rd lt dk a' b' lim wb wp).pi.1[a' - 1]! (rd lt dk a' b' lim wb wp).pi.1[(rd lt dk a' b' lim wb wp).pivot]!) ∧ Aside0 (SI enc w blk off (rd lt dk a' b' lim wb wp).pi.1 wx))
                  case first =>
                    rcases Nat.eq_zero_or_pos a' with ha0 | ha0
                    · have ha0z : decide ((a' : Int) > 0) = false := decide_eq_false (by omega)
                      go_wp2_with fail
                      go_meet
                      case rel => exact ⟨by simp [ha0], ⟨by repeat (first | exact HA5.out | apply SI.drewN)⟩⟩
                    · have ha0z : (a' : Int) > 0 := by omega
                      cases hlv : lt (rd lt dk a' b' lim wb wp).pi.1[a' - 1]! (rd lt dk a' b' lim wb wp).pi.1[(rd lt dk a' b' lim wb wp).pivot]! <;>
                        (have H1 := Lib.hid (lessAt HL.out S3.out (i := a' - 1) (j := (rd lt dk a' b' lim wb wp).pivot) (by omega) (by omega) hlv (I := (a' : Int) - 1) (J := ((rd lt dk a' b' lim wb wp).pivot : Int)) (by omega) rfl)
                         go_wp2_with (go_at_fn gl; refine (H1.out _ (by repeat (first | exact HA5.out | apply SI.drewN))).mono ?_; rintro e w1 ⟨rfl, hs1⟩; have A1 := Aside0.mk hs1; clear hs1)
                         go_meet
                         exact ⟨by simp [ha0, hlv], A1⟩)
                  case rest =>
                    obtain ⟨rfl, HA6⟩ := hcut
                    cases h87 : (decide (a' > 0) && !lt (rd lt dk a' b' lim wb wp).pi.1[a' - 1]! (rd lt dk a' b' lim wb wp).pi.1[(rd lt dk a' b' lim wb wp).pivot]!)
                    · obtain ⟨mid, ap, d4, hx⟩ : ∃ mid ap d4, partition lt (rd lt dk a' b' lim wb wp).pi.1 a' b' (rd lt dk a' b' lim wb wp).pivot = (mid, ap, d4) := ⟨(partition lt (rd lt dk a' b' lim wb wp).pi.1 a' b' (rd lt dk a' b' lim wb wp).pivot).1, (partition lt (rd lt dk a' b' lim wb wp).pi.1 a' b' (rd lt dk a' b' lim wb wp).pivot).2.1, (partition lt (rd lt dk a' b' lim wb wp).pi.1 a' b' (rd lt dk a' b' lim wb wp).pivot).2.2, rfl⟩
                      obtain ⟨r1, r2, r3, r4, r5, r6, r7⟩ := round_part hO (partition_holds lt) hpv.1 hpv.2 (show b' ≤ (rd lt dk a' b' lim wb wp).pi.1.size by rw [S3.out]; omega) HB3.out hx
                      have CT2 := Lib.hid (fun W2 h2 => CT.out a' b' (rd lt dk a' b' lim wb wp).pivot hpv.1 hpv.2 hb' W2 (rd lt dk a' b' lim wb wp).pi.1 S3.out h2)
                      rw [hx] at CT2
                      have X := Lib.hid hx
                      have S4 := Lib.hid (r3.trans S3.out)
                      have R4 := Lib.hid r4
                      have R5 := Lib.hid r5
                      have R6 := Lib.hid r6
                      have R7 := Lib.hid r7
                      have H87 := Lib.hid h87
                      clear hx r3 r4 r5 r6 r7 h87
                      go_upto_if 108 with (go_at_call 139; refine (CT2.out _ (by repeat (first | exact HA6.out | apply SI.drewN))).mono ?_; rintro e w7 ⟨rfl, hw7⟩; have HA7 := Aside0.mk hw7; clear hw7)
                      by_cases h4 : mid - a' < b' - mid
                      · have h4z : (mid : Int) - (a' : Int) < (b' : Int) - (mid : Int) := by omega
                        have I2 := Lib.hid (fun W2 h2 => IH.out a' mid (rd lt dk a' b' lim wb wp).lim d4 W2 (by omega) h2 S4.out (by omega) (by omega) (Nat.lt_of_le_of_lt (Nat.le_trans rd_lim_le hlim) hlimit) R4.out)
                        obtain ⟨pL, sL⟩ := pdq_sorts lt hO d4 a' mid (rd lt dk a' b' lim wb wp).lim true true (by omega) (by rw [S4.out]; omega) R4.out
                        have PL := Lib.hid pL
                        have SL := Lib.hid sL
                        clear pL sL
                        go_wp2_with (go_at_call 124; refine (I2.out _ (by repeat (first | exact HA7.out | apply SI.drewN))).mono ?_; rintro e w8 ⟨rfl, hw8⟩; have A8 := Aside0.mk hw8; clear hw8)
                        go_roundg (b' - (mid + 1))
                        case measure => omega
                        case rel =>
                          refine ⟨mid + 1, b', (rd lt dk a' b' lim wb wp).lim, decide (mid - a' ≥ (b' - a') / 8), ap, pdq lt d4 a' mid (rd lt dk a' b' lim wb wp).lim true true, by simp, rfl, rfl, ?_, rfl, by omega, by omega, Nat.le_refl _, by omega, Nat.le_trans rd_lim_le hlim, Lib.hid (by rw [PL.out.1, S4.out]), Lib.hid (R6.out _ PL.out SL.out).1, A8, Lib.hid ?_⟩
                          · exact congrArg Value.bool (eighth (by omega) (by omega))
                          · rw [← A.out, pdq_left h12 hl0 HP2.out H87.out (by rw [X.out]; exact ⟨r1, r2⟩) (by rw [X.out]; exact h4), X.out]
                      · have h4z : ¬ ((mid : Int) - (a' : Int) < (b' : Int) - (mid : Int)) := by omega
                        have I2 := Lib.hid (fun W2 h2 => IH.out (mid + 1) b' (rd lt dk a' b' lim wb wp).lim d4 W2 (by omega) h2 S4.out (by omega) (by omega) (Nat.lt_of_le_of_lt (Nat.le_trans rd_lim_le hlim) hlimit) R5.out)
                        rw [show ((mid + 1 : Nat) : Int) = (mid : Int) + 1 by omega] at I2
                        obtain ⟨pL, sL⟩ := pdq_sorts lt hO d4 (mid + 1) b' (rd lt dk a' b' lim wb wp).lim true true (by omega) (by rw [S4.out]; omega) R5.out
                        have PL := Lib.hid pL
                        have SL := Lib.hid sL
                        clear pL sL
                        go_wp2_with (go_at_call 124; refine (I2.out _ (by repeat (first | exact HA7.out | apply SI.drewN))).mono ?_; rintro e w8 ⟨rfl, hw8⟩; have A8 := Aside0.mk hw8; clear hw8)
                        go_roundg (mid - a')
                        case measure => omega
                        case rel =>
                          refine ⟨a', mid, (rd lt dk a' b' lim wb wp).lim, decide (b' - mid ≥ (b' - a') / 8), ap, pdq lt d4 (mid + 1) b' (rd lt dk a' b' lim wb wp).lim true true, rfl, rfl, rfl, ?_, rfl, by omega, by omega, Nat.le_refl _, by omega, Nat.le_trans rd_lim_le hlim, Lib.hid (by rw [PL.out.1, S4.out]), Lib.hid (R7.out _ PL.out SL.out).1, A8, Lib.hid ?_⟩
                          · exact congrArg Value.bool (eighth (by omega) (by omega))
                          · rw [← A.out, pdq_right h12 hl0 HP2.out H87.out (by rw [X.out]; exact ⟨r1, r2⟩) (by rw [X.out]; exact h4), X.out]
                    · have h87' := h87
                      simp only [Bool.and_eq_true, decide_eq_true_eq, Bool.not_eq_true'] at h87'
                      obtain ⟨mid, d4, hx⟩ : ∃ mid d4, partitionEqual lt (rd lt dk a' b' lim wb wp).pi.1 a' b' (rd lt dk a' b' lim wb wp).pivot = (mid, d4) := ⟨(partitionEqual lt (rd lt dk a' b' lim wb wp).pi.1 a' b' (rd lt dk a' b' lim wb wp).pivot).1, (partitionEqual lt (rd lt dk a' b' lim wb wp).pi.1 a' b' (rd lt dk a' b' lim wb wp).pivot).2, rfl⟩
                      obtain ⟨r1, r2, r3, r4, _⟩ := round_eq hO (partitionEqual_holds lt) h87'.1 hpv.1 hpv.2 (show b' ≤ (rd lt dk a' b' lim wb wp).pi.1.size by rw [S3.out]; omega) HB3.out h87'.2 hx
                      have CE2 := Lib.hid (fun W2 h2 => CE.out a' b' (rd lt dk a' b' lim wb wp).pivot hpv.1 hpv.2 hb' W2 (rd lt dk a' b' lim wb wp).pi.1 S3.out h2)
                      rw [hx] at CE2
                      have X := Lib.hid hx
                      have S4 := Lib.hid (r3.trans S3.out)
                      have R4 := Lib.hid r4
                      have H87 := Lib.hid h87
                      clear hx r3 r4 h87 h87'
                      go_wp2_with (go_at_call 138; refine (CE2.out _ (by repeat (first | exact HA6.out | apply SI.drewN))).mono ?_; rintro e w7 ⟨rfl, hw7⟩; have A7 := Aside0.mk hw7; clear hw7)
                      go_roundg (b' - mid)
                      case measure => omega
                      case rel =>
                        exact ⟨mid, b', (rd lt dk a' b' lim wb wp).lim, wb, wp, d4, rfl, rfl, rfl, rfl, rfl, r2, hb', Nat.le_refl _, by omega, Nat.le_trans rd_lim_le hlim, S4, R4, A7, Lib.hid (by rw [← A.out, pdq_eq h12 hl0 HP2.out H87.out (by rw [X.out]; exact ⟨r1, r2⟩), X.out])⟩
set_option maxHeartbeats 2000000 in
theorem sort_any {T : TypeId} {rv : Value} {gn gl gs : Nat} (hm : Meth T rv gn gl gs) (enc : α → Value) (lt : α → α → Bool) (hO : SWO lt) (w : World) (blk off n : Nat) (hl : LessC gl rv enc lt w blk off n) (hs : ∀ w', SwapC gs rv enc w' blk off n) (h2 : 2 ≤ n) (hn : n < 50)
    (hlen : ∀ W, Calls Tryz.prog gn #[rv] W fun e w' => e = .returned (.int .i64 n) ∧ Drawn0 W w') (d : Array α) (hd : d.size = n) (hH : Holds enc w blk off d) (hb : blk < w.heap.size) :
    Calls Tryz.prog 102 #[.iface T rv] w fun e w' => e = .returned (.tuple #[]) ∧ ∃ d', PermIn 0 n d d' ∧ SortedIn lt 0 n d' ∧ SI enc w blk off d' w' := by
  have hlim : Lib.bitLen n < 4611686018427387904 := Nat.lt_of_le_of_lt (Lib.bitLen_le n 62 (by omega) (by omega)) (by omega)
  have HP := Lib.hid (fun W2 h2 => pdq_any hm enc lt hO w blk off n hl hs hn (n + 1) 0 n (Lib.bitLen n) d W2 (by omega) h2 hd (Nat.zero_le _) (Nat.le_refl _) hlim (Or.inl rfl))
  have HF := Lib.hid (pdq_sorts lt hO d 0 n (Lib.bitLen n) true true (Nat.zero_le _) (by omega) (Or.inl rfl))
  have HW := Aside0.mk (SI.mk (World.grownBy.refl w (some blk)) hH hb)
  have HL := Lib.hid hlen
  have HBL := Lib.hid (fun W => bitsLen_any n (by omega) W)
  have mN := hm.n
  have eN := hm.en
  have d1 : decide ((n : Int) ≤ 1) = false := decide_eq_false (by omega)
  clear hd hl hs hm hlen hH hb hlim
  go_enter Tryz.func102, Tryz.ntmps102
  go_wp2_with (first
    | (go_at_fn gn; refine (HL.out _).mono ?_; rintro e w1 ⟨rfl, ⟨q1, rfl⟩⟩)
    | (go_at_call 123; ((with_reducible refine (HBL.out _).mono ?_); rintro e w1 ⟨rfl, ⟨q2, rfl⟩⟩))
    | (go_at_call 124; refine (HP.out _ (by repeat (first | exact HW.out | apply SI.drewN))).mono ?_; rintro e w1 ⟨rfl, hs1⟩; have HW1 := Aside0.mk hs1; clear hs1))
  go_end0
  exact ⟨rfl, _, HF.out.1, HF.out.2, HW1.out⟩
end Go.Proofs.YtgoeiflddikihaaGreatDoor.Srt
end
