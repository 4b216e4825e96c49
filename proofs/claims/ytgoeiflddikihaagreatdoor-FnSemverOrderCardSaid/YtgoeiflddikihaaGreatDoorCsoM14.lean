/- Merged by program out of: Sort3. -/
import Derived.Test.YtgoeiflddikihaaGreatDoorCsoM9
import Derived.Sort.WalkB2
import Derived.Sort.WalkB3
import Derived.Sort.WalkB12
import Derived.Deep.LoopGhost
section
namespace Go.Proofs.YtgoeiflddikihaaGreatDoor.Srt
open Go.RowKit Go.Proofs.YtgoeiflddikihaaGreatDoorW.PrintWords Go.Sort
variable {α : Type} [Inhabited α]
theorem lessAt {gl : Nat} {rv : Value} {enc : α → Value} {lt : α → α → Bool} {w : World} {blk off n : Nat} (hl : LessC gl rv enc lt w blk off n) {dk : Array α} (hk : dk.size = n) {i j : Nat} (hi : i < n) (hj : j < n) {v : Bool} (hv : lt dk[i]! dk[j]! = v) {I J : Int} (hI : (i : Int) = I) (hJ : (j : Int) = J) :
    ∀ W2, SI enc w blk off dk W2 → Calls Tryz.prog gl #[rv, .int .i64 I, .int .i64 J] W2 fun e w' => e = .returned (.bool v) ∧ SI enc w blk off dk w' := fun W2 h2 => by
  subst hv hI hJ
  exact (hl W2 dk h2 hk i j hi hj).mono fun _ _ ⟨he, hb⟩ => ⟨he, h2.below hb⟩
theorem swapAt {gs : Nat} {rv : Value} {enc : α → Value} {w : World} {blk off n : Nat} (hs : SwapC gs rv enc w blk off n) {dk : Array α} (hk : dk.size = n) {i j : Nat} (hi : i < n) (hj : j < n) {I J : Int} (hI : (i : Int) = I) (hJ : (j : Int) = J) :
    ∀ W2, SI enc w blk off dk W2 → Calls Tryz.prog gs #[rv, .int .i64 I, .int .i64 J] W2 fun e w' => e = .returned (.tuple #[]) ∧ SI enc w blk off (swp dk i j) w' := fun W2 h2 => by
  subst hI hJ
  exact hs W2 dk h2 hk i j hi hj
set_option maxHeartbeats 4000000 in
set_option maxRecDepth 1000000 in
theorem sift_any {T : TypeId} {rv : Value} {gn gl gs : Nat} (hm : Meth T rv gn gl gs) (enc : α → Value) (lt : α → α → Bool) (w : World) (blk off n : Nat) (hl : LessC gl rv enc lt w blk off n) (hs : SwapC gs rv enc w blk off n) (hn : n < 4611686018427387904)
    (lo hi first : Nat) (hlo : lo ≤ hi) (hb : first + hi ≤ n) (W : World) (d : Array α) (hd : d.size = n) (hW : SI enc w blk off d W) :
    Calls Tryz.prog 145 #[.iface T rv, .int .i64 lo, .int .i64 hi, .int .i64 first] W fun e w' => e = .returned (.tuple #[]) ∧ SI enc w blk off (siftDown lt hi first lo d) w' := by
  have mL := hm.l
  have mS := hm.s
  have eL := hm.el
  have eS := hm.es
  have HW := Aside0.mk hW
  have HD := Lib.hid hd
  have HL0 := Lib.hid hl
  have HS0 := Lib.hid hs
  clear hW hd hm hl hs
  go_enter Tryz.func145, Tryz.ntmps145
  go_wp2
  go_loopg [8] (hi - lo) (fun kx s8 wr => ∃ (root : Nat) (dk : Array α), s8 = .int .i64 root ∧ root ≤ hi ∧ hi - root ≤ kx ∧ Hid (dk.size = n) ∧ Aside0 (SI enc w blk off dk wr) ∧ Hid (siftDown lt hi first root dk = siftDown lt hi first lo d))
  case atStart => exact ⟨lo, d, rfl, hlo, Nat.le_refl _, HD, HW, Lib.hid rfl⟩
  case round =>
    obtain ⟨root, dk, rfl, hr, hkx, HK, HS, HE⟩ := hrel
    by_cases h0 : hi ≤ 2 * root + 1
    · have h0z : (hi : Int) ≤ 2 * (root : Int) + 1 := by omega
      have H0 := Lib.hid h0
      clear h0
      go_wp2
      go_end0
      refine ⟨rfl, ?_⟩
      rw [← HE.out, sd_end lt dk H0.out]
      exact HS.out
    · have h0z : ¬ ((hi : Int) ≤ 2 * (root : Int) + 1) := by omega
      by_cases h1 : 2 * root + 2 < hi
      · have h1z : 2 * (root : Int) + 1 + 1 < (hi : Int) := by omega
        cases hL : lt dk[first + (2 * root + 1)]! dk[first + (2 * root + 2)]! with
        | true =>
          have H1 := Lib.hid (lessAt HL0.out HK.out (i := first + (2 * root + 1)) (j := first + (2 * root + 2)) (by omega) (by omega) hL (I := (first : Int) + (2 * (root : Int) + 1)) (J := (first : Int) + (2 * (root : Int) + 1) + 1) (by omega) (by omega))
          cases hG : lt dk[first + root]! dk[first + (2 * root + 2)]! with
          | true =>
            have H2 := Lib.hid (lessAt HL0.out HK.out (i := first + root) (j := first + (2 * root + 2)) (by omega) (by omega) hG (I := (first : Int) + (root : Int)) (J := (first : Int) + (2 * (root : Int) + 1 + 1)) (by omega) (by omega))
            have H3 := Lib.hid (swapAt HS0.out HK.out (i := first + root) (j := first + (2 * root + 2)) (by omega) (by omega) (I := (first : Int) + (root : Int)) (J := (first : Int) + (2 * (root : Int) + 1 + 1)) (by omega) (by omega))
            have HQ := Lib.hid (sd_right_go lt dk (hi := hi) h1 hL hG)
            clear hL hG
            go_wp2_with (first
              | (go_at_fn gl; refine (H1.out _ HS.out).mono ?_; rintro e w1 ⟨rfl, hs1⟩; have A1 := Aside0.mk hs1; clear hs1)
              | (go_at_fn gl; refine (H2.out _ (by repeat (first | exact A1.out | apply SI.drewN))).mono ?_; rintro e w2 ⟨rfl, hs2⟩; have A2 := Aside0.mk hs2; clear hs2)
              | (go_at_fn gs; refine (H3.out _ (by repeat (first | exact A2.out | apply SI.drewN))).mono ?_; rintro e w3 ⟨rfl, hs3⟩; have A3 := Aside0.mk hs3; clear hs3))
            go_roundg (hi - (2 * root + 2))
            case measure => omega
            case rel => exact ⟨2 * root + 2, swp dk (first + root) (first + (2 * root + 2)), by go_num, by omega, Nat.le_refl _, Lib.hid (by rw [swp_size]; exact HK.out), A3, Lib.hid (by rw [← HE.out, HQ.out])⟩
          | false =>
            have H2 := Lib.hid (lessAt HL0.out HK.out (i := first + root) (j := first + (2 * root + 2)) (by omega) (by omega) hG (I := (first : Int) + (root : Int)) (J := (first : Int) + (2 * (root : Int) + 1 + 1)) (by omega) (by omega))
            have HQ := Lib.hid (sd_right_stop lt dk (hi := hi) h1 hL hG)
            clear hL hG
            go_wp2_with (first
              | (go_at_fn gl; refine (H1.out _ HS.out).mono ?_; rintro e w1 ⟨rfl, hs1⟩; have A1 := Aside0.mk hs1; clear hs1)
              | (go_at_fn gl; refine (H2.out _ (by repeat (first | exact A1.out | apply SI.drewN))).mono ?_; rintro e w2 ⟨rfl, hs2⟩; have A2 := Aside0.mk hs2; clear hs2))
            (try simp only [Exit.inBlock, Exit.then]); refine bodyPost_ret (results_none rfl _ _ _) rfl ?_
            refine ⟨rfl, ?_⟩
            rw [← HE.out, HQ.out]
            exact A2.out
        | false =>
          have H1 := Lib.hid (lessAt HL0.out HK.out (i := first + (2 * root + 1)) (j := first + (2 * root + 2)) (by omega) (by omega) hL (I := (first : Int) + (2 * (root : Int) + 1)) (J := (first : Int) + (2 * (root : Int) + 1) + 1) (by omega) (by omega))
          cases hG : lt dk[first + root]! dk[first + (2 * root + 1)]! with
          | true =>
            have H2 := Lib.hid (lessAt HL0.out HK.out (i := first + root) (j := first + (2 * root + 1)) (by omega) (by omega) hG (I := (first : Int) + (root : Int)) (J := (first : Int) + (2 * (root : Int) + 1)) (by omega) (by omega))
            have H3 := Lib.hid (swapAt HS0.out HK.out (i := first + root) (j := first + (2 * root + 1)) (by omega) (by omega) (I := (first : Int) + (root : Int)) (J := (first : Int) + (2 * (root : Int) + 1)) (by omega) (by omega))
            have HQ := Lib.hid (sd_left_go lt dk (hi := hi) (by omega) (fun _ => hL) hG)
            clear hL hG
            go_wp2_with (first
              | (go_at_fn gl; refine (H1.out _ HS.out).mono ?_; rintro e w1 ⟨rfl, hs1⟩; have A1 := Aside0.mk hs1; clear hs1)
              | (go_at_fn gl; refine (H2.out _ (by repeat (first | exact A1.out | apply SI.drewN))).mono ?_; rintro e w2 ⟨rfl, hs2⟩; have A2 := Aside0.mk hs2; clear hs2)
              | (go_at_fn gs; refine (H3.out _ (by repeat (first | exact A2.out | apply SI.drewN))).mono ?_; rintro e w3 ⟨rfl, hs3⟩; have A3 := Aside0.mk hs3; clear hs3))
            go_roundg (hi - (2 * root + 1))
            case measure => omega
            case rel => exact ⟨2 * root + 1, swp dk (first + root) (first + (2 * root + 1)), by go_num, by omega, Nat.le_refl _, Lib.hid (by rw [swp_size]; exact HK.out), A3, Lib.hid (by rw [← HE.out, HQ.out])⟩
          | false =>
            have H2 := Lib.hid (lessAt HL0.out HK.out (i := first + root) (j := first + (2 * root + 1)) (by omega) (by omega) hG (I := (first : Int) + (root : Int)) (J := (first : Int) + (2 * (root : Int) + 1)) (by omega) (by omega))
            have HQ := Lib.hid (sd_left_stop lt dk (hi := hi) (by omega) (fun _ => hL) hG)
            clear hL hG
            go_wp2_with (first
              | (go_at_fn gl; refine (H1.out _ HS.out).mono ?_; rintro e w1 ⟨rfl, hs1⟩; have A1 := Aside0.mk hs1; clear hs1)
              | (go_at_fn gl; refine (H2.out _ (by repeat (first | exact A1.out | apply SI.drewN))).mono ?_; rintro e w2 ⟨rfl, hs2⟩; have A2 := Aside0.mk hs2; clear hs2))
            (try simp only [Exit.inBlock, Exit.then]); refine bodyPost_ret (results_none rfl _ _ _) rfl ?_
            refine ⟨rfl, ?_⟩
            rw [← HE.out, HQ.out]
            exact A2.out
      · have h1z : ¬ (2 * (root : Int) + 1 + 1 < (hi : Int)) := by omega
        cases hG : lt dk[first + root]! dk[first + (2 * root + 1)]! with
        | true =>
          have H2 := Lib.hid (lessAt HL0.out HK.out (i := first + root) (j := first + (2 * root + 1)) (by omega) (by omega) hG (I := (first : Int) + (root : Int)) (J := (first : Int) + (2 * (root : Int) + 1)) (by omega) (by omega))
          have H3 := Lib.hid (swapAt HS0.out HK.out (i := first + root) (j := first + (2 * root + 1)) (by omega) (by omega) (I := (first : Int) + (root : Int)) (J := (first : Int) + (2 * (root : Int) + 1)) (by omega) (by omega))
          have HQ := Lib.hid (sd_left_go lt dk (hi := hi) (by omega) (fun h => absurd h h1) hG)
          clear hG
          go_wp2_with (first
            | (go_at_fn gl; refine (H2.out _ (by repeat (first | exact HS.out | apply SI.drewN))).mono ?_; rintro e w2 ⟨rfl, hs2⟩; have A2 := Aside0.mk hs2; clear hs2)
            | (go_at_fn gs; refine (H3.out _ (by repeat (first | exact A2.out | apply SI.drewN))).mono ?_; rintro e w3 ⟨rfl, hs3⟩; have A3 := Aside0.mk hs3; clear hs3))
          go_roundg (hi - (2 * root + 1))
          case measure => omega
          case rel => exact ⟨2 * root + 1, swp dk (first + root) (first + (2 * root + 1)), by go_num, by omega, Nat.le_refl _, Lib.hid (by rw [swp_size]; exact HK.out), A3, Lib.hid (by rw [← HE.out, HQ.out])⟩
        | false =>
          have H2 := Lib.hid (lessAt HL0.out HK.out (i := first + root) (j := first + (2 * root + 1)) (by omega) (by omega) hG (I := (first : Int) + (root : Int)) (J := (first : Int) + (2 * (root : Int) + 1)) (by omega) (by omega))
          have HQ := Lib.hid (sd_left_stop lt dk (hi := hi) (by omega) (fun h => absurd h h1) hG)
          clear hG
          go_wp2_with (first
            | (go_at_fn gl; refine (H2.out _ (by repeat (first | exact HS.out | apply SI.drewN))).mono ?_; rintro e w2 ⟨rfl, hs2⟩; have A2 := Aside0.mk hs2; clear hs2))
          (try simp only [Exit.inBlock, Exit.then]); refine bodyPost_ret (results_none rfl _ _ _) rfl ?_
          refine ⟨rfl, ?_⟩
          rw [← HE.out, HQ.out]
          exact A2.out
set_option maxHeartbeats 4000000 in
set_option maxRecDepth 1000000 in
theorem heap_any {T : TypeId} {rv : Value} {gn gl gs : Nat} (hm : Meth T rv gn gl gs) (enc : α → Value) (lt : α → α → Bool) (w : World) (blk off n : Nat) (hl : LessC gl rv enc lt w blk off n) (hs : SwapC gs rv enc w blk off n) (hn : n < 4611686018427387904)
    (a b : Nat) (hab : a ≤ b) (hb : b ≤ n) (W : World) (d : Array α) (hd : d.size = n) (hW : SI enc w blk off d W) :
    Calls Tryz.prog 133 #[.iface T rv, .int .i64 a, .int .i64 b] W fun e w' => e = .returned (.tuple #[]) ∧ SI enc w blk off (heapSort lt d a b) w' := by
  have HC := Lib.hid (fun lo hi h1 h2 W2 dk h3 h4 => sift_any hm enc lt w blk off n hl hs hn lo hi a h1 h2 W2 dk h3 h4)
  have mL := hm.l
  have mS := hm.s
  have eL := hm.el
  have eS := hm.es
  have ecast : ((b - a : Nat) : Int) = (b : Int) - (a : Int) := by omega
  have HW := Aside0.mk hW
  have HD := Lib.hid hd
  have HS0 := Lib.hid hs
  clear hW hd hm hl hs
  have EC := Lib.hid ecast
  clear ecast
  go_enter Tryz.func133, Tryz.ntmps133
  go_wp2
  go_loopg [9] ((b - a - 1) / 2 + 1) (fun kx s9 wr => s9 = .int .i64 ((kx : Int) - 1) ∧ kx ≤ (b - a - 1) / 2 + 1 ∧ ∃ (dk : Array α), Hid (dk.size = n) ∧ Aside0 (SI enc w blk off dk wr) ∧
    Hid (heapBuild lt (b - a) a kx dk = heapBuild lt (b - a) a ((b - a - 1) / 2 + 1) d))
  case atStart => exact ⟨by rw [half_start hab], Nat.le_refl _, d, HD, HW, Lib.hid rfl⟩
  case round =>
    obtain ⟨rfl, hkk, dk, HK, S, HE⟩ := hrel
    cases gk with
    | zero =>
      have HB := Lib.hid (show dk = heapBuild lt (b - a) a ((b - a - 1) / 2 + 1) d from HE.out)
      clear HE hkk
      go_wp2
      go_loopg [10] (b - a) (fun kx s10 wr2 => s10 = .int .i64 ((kx : Int) - 1) ∧ kx ≤ b - a ∧ ∃ (dj : Array α), Hid (dj.size = n) ∧ Aside0 (SI enc w blk off dj wr2) ∧ Hid (heapPop lt a kx dj = heapPop lt a (b - a) dk))
      case atStart => exact ⟨by rw [EC.out], Nat.le_refl _, dk, HK, S, Lib.hid rfl⟩
      case round =>
        clear S
        obtain ⟨rfl, hkk, dj, HJ, S, HE2⟩ := hrel
        cases gk with
        | zero =>
          go_wp2
          go_end0
          have e : dj = heapSort lt d a b := by rw [heapSort, ← HB.out, ← HE2.out]; rfl
          rw [← e]
          exact ⟨rfl, S.out⟩
        | succ kx =>
          have H3 := Lib.hid (swapAt HS0.out HJ.out (i := a) (j := a + kx) (by omega) (by omega) (I := (a : Int)) (J := (a : Int) + (kx : Int)) rfl (by omega))
          have HQ : Hid ((swp dj a (a + kx)).size = n) := Lib.hid (by rw [swp_size]; exact HJ.out)
          have H4 := Lib.hid (fun W2 h2 => HC.out 0 kx (Nat.zero_le _) (by omega) W2 (swp dj a (a + kx)) HQ.out h2)
          go_wp2_with (first
            | (go_at_fn gs; refine (H3.out _ (by repeat (first | exact S.out | apply SI.drewN))).mono ?_; rintro e w1 ⟨rfl, hs1⟩; have A1 := Aside0.mk hs1; clear hs1)
            | (go_at_call 145; refine (H4.out _ (by repeat (first | exact A1.out | apply SI.drewN))).mono ?_; rintro e w2 ⟨rfl, hs2⟩; have A2 := Aside0.mk hs2; clear hs2))
          go_roundg kx
          case measure => omega
          case rel =>
            exact ⟨by simp, by omega, siftDown lt kx a 0 (swp dj a (a + kx)), Lib.hid (by rw [size_siftDown lt _ _ _ _ _ (Nat.le_refl _)]; exact HQ.out), A2, HE2⟩
    | succ kx =>
      have H4 := Lib.hid (fun W2 h2 => HC.out kx (b - a) (by omega) (by omega) W2 dk HK.out h2)
      rw [EC.out] at H4
      go_wp2_with (go_at_call 145; refine (H4.out _ (by repeat (first | exact S.out | apply SI.drewN))).mono ?_; rintro e w2 ⟨rfl, hs2⟩; have A2 := Aside0.mk hs2; clear hs2)
      go_roundg kx
      case measure => omega
      case rel =>
        exact ⟨by simp, by omega, siftDown lt (b - a) a kx dk, Lib.hid (by rw [size_siftDown lt _ _ _ _ _ (Nat.le_refl _)]; exact HK.out), A2, HE⟩
set_option maxHeartbeats 2000000 in
set_option maxRecDepth 1000000 in
theorem rev_any {T : TypeId} {rv : Value} {gn gl gs : Nat} (hm : Meth T rv gn gl gs) (enc : α → Value) (w : World) (blk off n : Nat) (hs : SwapC gs rv enc w blk off n) (hn : n < 4611686018427387904)
    (a b : Nat) (hab : a ≤ b) (hb : b ≤ n) (W : World) (d : Array α) (hd : d.size = n) (hW : SI enc w blk off d W) :
    Calls Tryz.prog 136 #[.iface T rv, .int .i64 a, .int .i64 b] W fun e w' => e = .returned (.tuple #[]) ∧ SI enc w blk off (reverseRange d a b) w' := by
  have mS := hm.s
  have eS := hm.es
  have HW := Aside0.mk hW
  have HD := Lib.hid hd
  have HS0 := Lib.hid hs
  clear hW hd hm hs
  go_enter Tryz.func136, Tryz.ntmps136
  go_wp2
  go_loopg [6, 7] (b - a) (fun k s6 s7 wr => ∃ (i jn : Nat) (jz : Int) (dk : Array α), s6 = .int .i64 i ∧ s7 = .int .i64 jz ∧ ((i : Int) < jz → jz = jn ∧ jn < n) ∧ (¬ (i : Int) < jz → ¬ i < jn) ∧ jn - i ≤ k ∧
    Hid (dk.size = n) ∧ Aside0 (SI enc w blk off dk wr) ∧ Hid (reverseLoop i jn dk = reverseLoop a (b - 1) d))
  case atStart => exact ⟨a, b - 1, (b : Int) - 1, d, rfl, rfl, fun h => ⟨by omega, by omega⟩, fun h => by omega, by omega, HD, HW, Lib.hid rfl⟩
  case round =>
    obtain ⟨i, jn, jz, dk, rfl, rfl, h1, h2, hk, HK, S, HE⟩ := hrel
    by_cases hlt : (i : Int) < jz
    · obtain ⟨rfl, hjn⟩ := h1 hlt
      have hij : i < jn := by omega
      have H3 := Lib.hid (swapAt HS0.out HK.out (i := i) (j := jn) (by omega) (by omega) (I := (i : Int)) (J := (jn : Int)) rfl rfl)
      clear h1 h2
      go_wp2_with (go_at_fn gs; refine (H3.out _ (by repeat (first | exact S.out | apply SI.drewN))).mono ?_; rintro e w1 ⟨rfl, hs1⟩; have A1 := Aside0.mk hs1; clear hs1)
      go_roundg (jn - 1 - (i + 1))
      case measure => omega
      case rel =>
        refine ⟨i + 1, jn - 1, (jn : Int) - 1, swp dk i jn, by simp, rfl, fun h => ⟨by omega, by omega⟩, fun h => by omega, Nat.le_refl _, Lib.hid (by rw [swp_size]; exact HK.out), A1, Lib.hid ?_⟩
        rw [← HE.out, reverseLoop.eq_def i jn dk, if_pos hij]
    · have H2 := Lib.hid (h2 hlt)
      clear h1 h2
      go_wp2
      go_end0
      refine ⟨rfl, ?_⟩
      have e : dk = reverseRange d a b := by
        rw [reverseRange, ← HE.out, reverseLoop.eq_def i jn dk, if_neg H2.out]
      rw [← e]
      exact S.out
end Go.Proofs.YtgoeiflddikihaaGreatDoor.Srt
end
