/- Merged by program out of: Sort3, VStr, VOk, Sort4. -/
import Derived.Test.YtgoeiflddikihaaGreatDoorCpM17
import Derived.Sort.WalkB2
import Derived.Sort.WalkB3
import Derived.Sort.WalkB12
import Derived.Deep.LoopGhost
import Derived.RegionTactic
import Derived.Deep.RegionLaw
import Derived.BigQuiet
import Derived.Lib.QuietBelow
import Derived.Lib.ParseIntBCases
import Derived.Sort.Walk11
import Derived.Sort.LotD4
import Derived.Sort.LotD1
import Derived.Sort.WalkA6
import Derived.Sort.Walk7
import Derived.Sort.Walk7a
import Derived.Shelf.GgSortFunc.LotD
import Derived.BigRegion
section
namespace Go.Proofs.YtgoeiflddikihaaGreatDoor.Srt
open Go.RowKit Go.Proofs.YtgoeiflddikihaaGreatDoorW.PrintWords Go.Sort
variable {α : Type} [Inhabited α]
theorem lessAt {gl : Nat} {rv : Value} {enc : α → Value} {lt : α → α → Bool} {w : World} {blk off n : Nat} (hl : LessC gl rv enc lt w blk off n) {dk : Array α} (hk : dk.size = n) {i j : Nat} (hi : i < n) (hj : j < n) {v : Bool} (hv : lt dk[i]! dk[j]! = v) {I J : Int} (hI : (i : Int) = I) (hJ : (j : Int) = J) :
    ∀ W2, SI enc w blk off dk W2 → Calls Tryz.prog gl #[rv, .int .i64 I, .int .i64 J] W2 fun e w' => e = .returned (.bool v) ∧ SI enc w blk off dk w' := fun W2 h2 => by
  subst hv hI hJ
  exact (hl W2 dk h2 hk i j hi hj).mono fun _ _ ⟨he, hb⟩ => ⟨he, h2.below hb⟩
theorem swapAt {gs : Nat} {rv : Value} {enc : α → Value} {w : World} {blk off n : Nat} (hs : SwapC gs rv enc w blk off n) {dk : Array α} (hk : dk.size = n) {i j : Nat} (hi : i < n) (hj : j < n) {I J : Int} (hI : (i : Int) = I) (hJ : (j : Int) = J) :
    ∀ W2, SI enc w blk off dk W2 → Calls Tryz.prog gs #[rv, .int .i64 I, .int .i64 J] W2 fun e w' => e = .returned (.tuple #[]) ∧ SI enc w blk off (swp dk i j) w' := fun W2 h2 => by
  subst hI hJ
  exact hs W2 dk h2 hk i j hi hj
set_option maxHeartbeats 4000000 in
set_option maxRecDepth 1000000 in
theorem sift_any {T : TypeId} {rv : Value} {gn gl gs : Nat} (hm : Meth T rv gn gl gs) (enc : α → Value) (lt : α → α → Bool) (w : World) (blk off n : Nat) (hl : LessC gl rv enc lt w blk off n) (hs : SwapC gs rv enc w blk off n) (hn : n < 4611686018427387904)
    (lo hi first : Nat) (hlo : lo ≤ hi) (hb : first + hi ≤ n) (W : World) (d : Array α) (hd : d.size = n) (hW : SI enc w blk off d W) :
    Calls Tryz.prog 145 #[.iface T rv, .int .i64 lo, .int .i64 hi, .int .i64 first] W fun e w' => e = .returned (.tuple #[]) ∧ SI enc w blk off (siftDown lt hi first lo d) w' := by
  have mL := hm.l
  have mS := hm.s
  have eL := hm.el
  have eS := hm.es
  have HW := Aside0.mk hW
  have HD := Lib.hid hd
  have HL0 := Lib.hid hl
  have HS0 := Lib.hid hs
  clear hW hd hm hl hs
  go_enter Tryz.func145, Tryz.ntmps145
  go_wp2
  go_loopg [8] (hi - lo) (fun kx s8 wr => ∃ (root : Nat) (dk : Array α), s8 = .int .i64 root ∧ root ≤ hi ∧ hi - root ≤ kx ∧ Hid (dk.size = n) ∧ Aside0 (SI enc w blk off dk wr) ∧ Hid (siftDown lt hi first root dk = siftDown lt hi first lo d))
  case atStart => exact ⟨lo, d, rfl, hlo, Nat.le_refl _, HD, HW, Lib.hid rfl⟩
  case round =>
    obtain ⟨root, dk, rfl, hr, hkx, HK, HS, HE⟩ := hrel
    by_cases h0 : hi ≤ 2 * root + 1
    · have h0z : (hi : Int) ≤ 2 * (root : Int) + 1 := by omega
      have H0 := Lib.hid h0
      clear h0
      go_wp2
      go_end0
      refine ⟨rfl, ?_⟩
      rw [← HE.out, sd_end lt dk H0.out]
      exact HS.out
    · have h0z : ¬ ((hi : Int) ≤ 2 * (root : Int) + 1) := by omega
      by_cases h1 : 2 * root + 2 < hi
      · have h1z : 2 * (root : Int) + 1 + 1 < (hi : Int) := by omega
        cases hL : lt dk[first + (2 * root + 1)]! dk[first + (2 * root + 2)]! with
        | true =>
          have H1 := Lib.hid (lessAt HL0.out HK.out (i := first + (2 * root + 1)) (j := first + (2 * root + 2)) (by omega) (by omega) hL (I := (first : Int) + (2 * (root : Int) + 1)) (J := (first : Int) + (2 * (root : Int) + 1) + 1) (by omega) (by omega))
          cases hG : lt dk[first + root]! dk[first + (2 * root + 2)]! with
          | true =>
            have H2 := Lib.hid (lessAt HL0.out HK.out (i := first + root) (j := first + (2 * root + 2)) (by omega) (by omega) hG (I := (first : Int) + (root : Int)) (J := (first : Int) + (2 * (root : Int) + 1 + 1)) (by omega) (by omega))
            have H3 := Lib.hid (swapAt HS0.out HK.out (i := first + root) (j := first + (2 * root + 2)) (by omega) (by omega) (I := (first : Int) + (root : Int)) (J := (first : Int) + (2 * (root : Int) + 1 + 1)) (by omega) (by omega))
            have HQ := Lib.hid (sd_right_go lt dk (hi := hi) h1 hL hG)
            clear hL hG
            go_wp2_with (first
              | (go_at_fn gl; refine (H1.out _ HS.out).mono ?_; rintro e w1 ⟨rfl, hs1⟩; have A1 := Aside0.mk hs1; clear hs1)
              | (go_at_fn gl; refine (H2.out _ (by repeat (first | exact A1.out | apply SI.drewN))).mono ?_; rintro e w2 ⟨rfl, hs2⟩; have A2 := Aside0.mk hs2; clear hs2)
              | (go_at_fn gs; refine (H3.out _ (by repeat (first | exact A2.out | apply SI.drewN))).mono ?_; rintro e w3 ⟨rfl, hs3⟩; have A3 := Aside0.mk hs3; clear hs3))
            go_roundg (hi - (2 * root + 2))
            case measure => omega
            case rel => exact ⟨2 * root + 2, swp dk (first + root) (first + (2 * root + 2)), by go_num, by omega, Nat.le_refl _, Lib.hid (by rw [swp_size]; exact HK.out), A3, Lib.hid (by rw [← HE.out, HQ.out])⟩
          | false =>
            have H2 := Lib.hid (lessAt HL0.out HK.out (i := first + root) (j := first + (2 * root + 2)) (by omega) (by omega) hG (I := (first : Int) + (root : Int)) (J := (first : Int) + (2 * (root : Int) + 1 + 1)) (by omega) (by omega))
            have HQ := Lib.hid (sd_right_stop lt dk (hi := hi) h1 hL hG)
            clear hL hG
            go_wp2_with (first
              | (go_at_fn gl; refine (H1.out _ HS.out).mono ?_; rintro e w1 ⟨rfl, hs1⟩; have A1 := Aside0.mk hs1; clear hs1)
              | (go_at_fn gl; refine (H2.out _ (by repeat (first | exact A1.out | apply SI.drewN))).mono ?_; rintro e w2 ⟨rfl, hs2⟩; have A2 := Aside0.mk hs2; clear hs2))
            (try simp only [Exit.inBlock, Exit.then]); refine bodyPost_ret (results_none rfl _ _ _) rfl ?_
            refine ⟨rfl, ?_⟩
            rw [← HE.out, HQ.out]
            exact A2.out
        | false =>
          have H1 := Lib.hid (lessAt HL0.out HK.out (i := first + (2 * root + 1)) (j := first + (2 * root + 2)) (by omega) (by omega) hL (I := (first : Int) + (2 * (root : Int) + 1)) (J := (first : Int) + (2 * (root : Int) + 1) + 1) (by omega) (by omega))
          cases hG : lt dk[first + root]! dk[first + (2 * root + 1)]! with
          | true =>
            have H2 := Lib.hid (lessAt HL0.out HK.out (i := first + root) (j := first + (2 * root + 1)) (by omega) (by omega) hG (I := (first : Int) + (root : Int)) (J := (first : Int) + (2 * (root : Int) + 1)) (by omega) (by omega))
            have H3 := Lib.hid (swapAt HS0.out HK.out (i := first + root) (j := first + (2 * root + 1)) (by omega) (by omega) (I := (first : Int) + (root : Int)) (J := (first : Int) + (2 * (root : Int) + 1)) (by omega) (by omega))
            have HQ := Lib.hid (sd_left_go lt dk (hi := hi) (by omega) (fun _ => hL) hG)
            clear hL hG
            go_wp2_with (first
              | (go_at_fn gl; refine (H1.out _ HS.out).mono ?_; rintro e w1 ⟨rfl, hs1⟩; have A1 := Aside0.mk hs1; clear hs1)
              | (go_at_fn gl; refine (H2.out _ (by repeat (first | exact A1.out | apply SI.drewN))).mono ?_; rintro e w2 ⟨rfl, hs2⟩; have A2 := Aside0.mk hs2; clear hs2)
              | (go_at_fn gs; refine (H3.out _ (by repeat (first | exact A2.out | apply SI.drewN))).mono ?_; rintro e w3 ⟨rfl, hs3⟩; have A3 := Aside0.mk hs3; clear hs3))
            go_roundg (hi - (2 * root + 1))
            case measure => omega
            case rel => exact ⟨2 * root + 1, swp dk (first + root) (first + (2 * root + 1)), by go_num, by omega, Nat.le_refl _, Lib.hid (by rw [swp_size]; exact HK.out), A3, Lib.hid (by rw [← HE.out, HQ.out])⟩
          | false =>
            have H2 := Lib.hid (lessAt HL0.out HK.out (i := first + root) (j := first + (2 * root + 1)) (by omega) (by omega) hG (I := (first : Int) + (root : Int)) (J := (first : Int) + (2 * (root : Int) + 1)) (by omega) (by omega))
            have HQ := Lib.hid (sd_left_stop lt dk (hi := hi) (by omega) (fun _ => hL) hG)
            clear hL hG
            go_wp2_with (first
              | (go_at_fn gl; refine (H1.out _ HS.out).mono ?_; rintro e w1 ⟨rfl, hs1⟩; have A1 := Aside0.mk hs1; clear hs1)
              | (go_at_fn gl; refine (H2.out _ (by repeat (first | exact A1.out | apply SI.drewN))).mono ?_; rintro e w2 ⟨rfl, hs2⟩; have A2 := Aside0.mk hs2; clear hs2))
            (try simp only [Exit.inBlock, Exit.then]); refine bodyPost_ret (results_none rfl _ _ _) rfl ?_
            refine ⟨rfl, ?_⟩
            rw [← HE.out, HQ.out]
            exact A2.out
      · have h1z : ¬ (2 * (root : Int) + 1 + 1 < (hi : Int)) := by omega
        cases hG : lt dk[first + root]! dk[first + (2 * root + 1)]! with
        | true =>
          have H2 := Lib.hid (lessAt HL0.out HK.out (i := first + root) (j := first + (2 * root + 1)) (by omega) (by omega) hG (I := (first : Int) + (root : Int)) (J := (first : Int) + (2 * (root : Int) + 1)) (by omega) (by omega))
          have H3 := Lib.hid (swapAt HS0.out HK.out (i := first + root) (j := first + (2 * root + 1)) (by omega) (by omega) (I := (first : Int) + (root : Int)) (J := (first : Int) + (2 * (root : Int) + 1)) (by omega) (by omega))
          have HQ := Lib.hid (sd_left_go lt dk (hi := hi) (by omega) (fun h => absurd h h1) hG)
          clear hG
          go_wp2_with (first
            | (go_at_fn gl; refine (H2.out _ (by repeat (first | exact HS.out | apply SI.drewN))).mono ?_; rintro e w2 ⟨rfl, hs2⟩; have A2 := Aside0.mk hs2; clear hs2)
            | (go_at_fn gs; refine (H3.out _ (by repeat (first | exact A2.out | apply SI.drewN))).mono ?_; rintro e w3 ⟨rfl, hs3⟩; have A3 := Aside0.mk hs3; clear hs3))
          go_roundg (hi - (2 * root + 1))
          case measure => omega
          case rel => exact ⟨2 * root + 1, swp dk (first + root) (first + (2 * root + 1)), by go_num, by omega, Nat.le_refl _, Lib.hid (by rw [swp_size]; exact HK.out), A3, Lib.hid (by rw [← HE.out, HQ.out])⟩
        | false =>
          have H2 := Lib.hid (lessAt HL0.out HK.out (i := first + root) (j := first + (2 * root + 1)) (by omega) (by omega) hG (I := (first : Int) + (root : Int)) (J := (first : Int) + (2 * (root : Int) + 1)) (by omega) (by omega))
          have HQ := Lib.hid (sd_left_stop lt dk (hi := hi) (by omega) (fun h => absurd h h1) hG)
          clear hG
          go_wp2_with (first
            | (go_at_fn gl; refine (H2.out _ (by repeat (first | exact HS.out | apply SI.drewN))).mono ?_; rintro e w2 ⟨rfl, hs2⟩; have A2 := Aside0.mk hs2; clear hs2))
          (try simp only [Exit.inBlock, Exit.then]); refine bodyPost_ret (results_none rfl _ _ _) rfl ?_
          refine ⟨rfl, ?_⟩
          rw [← HE.out, HQ.out]
          exact A2.out
set_option maxHeartbeats 4000000 in
set_option maxRecDepth 1000000 in
theorem heap_any {T : TypeId} {rv : Value} {gn gl gs : Nat} (hm : Meth T rv gn gl gs) (enc : α → Value) (lt : α → α → Bool) (w : World) (blk off n : Nat) (hl : LessC gl rv enc lt w blk off n) (hs : SwapC gs rv enc w blk off n) (hn : n < 4611686018427387904)
    (a b : Nat) (hab : a ≤ b) (hb : b ≤ n) (W : World) (d : Array α) (hd : d.size = n) (hW : SI enc w blk off d W) :
    Calls Tryz.prog 133 #[.iface T rv, .int .i64 a, .int .i64 b] W fun e w' => e = .returned (.tuple #[]) ∧ SI enc w blk off (heapSort lt d a b) w' := by
  have HC := Lib.hid (fun lo hi h1 h2 W2 dk h3 h4 => sift_any hm enc lt w blk off n hl hs hn lo hi a h1 h2 W2 dk h3 h4)
  have mL := hm.l
  have mS := hm.s
  have eL := hm.el
  have eS := hm.es
  have ecast : ((b - a : Nat) : Int) = (b : Int) - (a : Int) := by omega
  have HW := Aside0.mk hW
  have HD := Lib.hid hd
  have HS0 := Lib.hid hs
  clear hW hd hm hl hs
  have EC := Lib.hid ecast
  clear ecast
  go_enter Tryz.func133, Tryz.ntmps133
  go_wp2
  go_loopg [9] ((b - a - 1) / 2 + 1) (fun kx s9 wr => s9 = .int .i64 ((kx : Int) - 1) ∧ kx ≤ (b - a - 1) / 2 + 1 ∧ ∃ (dk : Array α), Hid (dk.size = n) ∧ Aside0 (SI enc w blk off dk wr) ∧
    Hid (heapBuild lt (b - a) a kx dk = heapBuild lt (b - a) a ((b - a - 1) / 2 + 1) d))
  case atStart => exact ⟨by rw [half_start hab], Nat.le_refl _, d, HD, HW, Lib.hid rfl⟩
  case round =>
    obtain ⟨rfl, hkk, dk, HK, S, HE⟩ := hrel
    cases gk with
    | zero =>
      have HB := Lib.hid (show dk = heapBuild lt (b - a) a ((b - a - 1) / 2 + 1) d from HE.out)
      clear HE hkk
      go_wp2
      go_loopg [10] (b - a) (fun kx s10 wr2 => s10 = .int .i64 ((kx : Int) - 1) ∧ kx ≤ b - a ∧ ∃ (dj : Array α), Hid (dj.size = n) ∧ Aside0 (SI enc w blk off dj wr2) ∧ Hid (heapPop lt a kx dj = heapPop lt a (b - a) dk))
      case atStart => exact ⟨by rw [EC.out], Nat.le_refl _, dk, HK, S, Lib.hid rfl⟩
      case round =>
        clear S
        obtain ⟨rfl, hkk, dj, HJ, S, HE2⟩ := hrel
        cases gk with
        | zero =>
          go_wp2
          go_end0
          have e : dj = heapSort lt d a b := by rw [heapSort, ← HB.out, ← HE2.out]; rfl
          rw [← e]
          exact ⟨rfl, S.out⟩
        | succ kx =>
          have H3 := Lib.hid (swapAt HS0.out HJ.out (i := a) (j := a + kx) (by omega) (by omega) (I := (a : Int)) (J := (a : Int) + (kx : Int)) rfl (by omega))
          have HQ : Hid ((swp dj a (a + kx)).size = n) := Lib.hid (by rw [swp_size]; exact HJ.out)
          have H4 := Lib.hid (fun W2 h2 => HC.out 0 kx (Nat.zero_le _) (by omega) W2 (swp dj a (a + kx)) HQ.out h2)
          go_wp2_with (first
            | (go_at_fn gs; refine (H3.out _ (by repeat (first | exact S.out | apply SI.drewN))).mono ?_; rintro e w1 ⟨rfl, hs1⟩; have A1 := Aside0.mk hs1; clear hs1)
            | (go_at_call 145; refine (H4.out _ (by repeat (first | exact A1.out | apply SI.drewN))).mono ?_; rintro e w2 ⟨rfl, hs2⟩; have A2 := Aside0.mk hs2; clear hs2))
          go_roundg kx
          case measure => omega
          case rel =>
            exact ⟨by simp, by omega, siftDown lt kx a 0 (swp dj a (a + kx)), Lib.hid (by rw [size_siftDown lt _ _ _ _ _ (Nat.le_refl _)]; exact HQ.out), A2, HE2⟩
    | succ kx =>
      have H4 := Lib.hid (fun W2 h2 => HC.out kx (b - a) (by omega) (by omega) W2 dk HK.out h2)
      rw [EC.out] at H4
      go_wp2_with (go_at_call 145; refine (H4.out _ (by repeat (first | exact S.out | apply SI.drewN))).mono ?_; rintro e w2 ⟨rfl, hs2⟩; have A2 := Aside0.mk hs2; clear hs2)
      go_roundg kx
      case measure => omega
      case rel =>
        exact ⟨by simp, by omega, siftDown lt (b - a) a kx dk, Lib.hid (by rw [size_siftDown lt _ _ _ _ _ (Nat.le_refl _)]; exact HK.out), A2, HE⟩
set_option maxHeartbeats 2000000 in
set_option maxRecDepth 1000000 in
theorem rev_any {T : TypeId} {rv : Value} {gn gl gs : Nat} (hm : Meth T rv gn gl gs) (enc : α → Value) (w : World) (blk off n : Nat) (hs : SwapC gs rv enc w blk off n) (hn : n < 4611686018427387904)
    (a b : Nat) (hab : a ≤ b) (hb : b ≤ n) (W : World) (d : Array α) (hd : d.size = n) (hW : SI enc w blk off d W) :
    Calls Tryz.prog 136 #[.iface T rv, .int .i64 a, .int .i64 b] W fun e w' => e = .returned (.tuple #[]) ∧ SI enc w blk off (reverseRange d a b) w' := by
  have mS := hm.s
  have eS := hm.es
  have HW := Aside0.mk hW
  have HD := Lib.hid hd
  have HS0 := Lib.hid hs
  clear hW hd hm hs
  go_enter Tryz.func136, Tryz.ntmps136
  go_wp2
  go_loopg [6, 7] (b - a) (fun k s6 s7 wr => ∃ (i jn : Nat) (jz : Int) (dk : Array α), s6 = .int .i64 i ∧ s7 = .int .i64 jz ∧ ((i : Int) < jz → jz = jn ∧ jn < n) ∧ (¬ (i : Int) < jz → ¬ i < jn) ∧ jn - i ≤ k ∧
    Hid (dk.size = n) ∧ Aside0 (SI enc w blk off dk wr) ∧ Hid (reverseLoop i jn dk = reverseLoop a (b - 1) d))
  case atStart => exact ⟨a, b - 1, (b : Int) - 1, d, rfl, rfl, fun h => ⟨by omega, by omega⟩, fun h => by omega, by omega, HD, HW, Lib.hid rfl⟩
  case round =>
    obtain ⟨i, jn, jz, dk, rfl, rfl, h1, h2, hk, HK, S, HE⟩ := hrel
    by_cases hlt : (i : Int) < jz
    · obtain ⟨rfl, hjn⟩ := h1 hlt
      have hij : i < jn := by omega
      have H3 := Lib.hid (swapAt HS0.out HK.out (i := i) (j := jn) (by omega) (by omega) (I := (i : Int)) (J := (jn : Int)) rfl rfl)
      clear h1 h2
      go_wp2_with (go_at_fn gs; refine (H3.out _ (by repeat (first | exact S.out | apply SI.drewN))).mono ?_; rintro e w1 ⟨rfl, hs1⟩; have A1 := Aside0.mk hs1; clear hs1)
      go_roundg (jn - 1 - (i + 1))
      case measure => omega
      case rel =>
        refine ⟨i + 1, jn - 1, (jn : Int) - 1, swp dk i jn, by simp, rfl, fun h => ⟨by omega, by omega⟩, fun h => by omega, Nat.le_refl _, Lib.hid (by rw [swp_size]; exact HK.out), A1, Lib.hid ?_⟩
        rw [← HE.out, reverseLoop.eq_def i jn dk, if_pos hij]
    · have H2 := Lib.hid (h2 hlt)
      clear h1 h2
      go_wp2
      go_end0
      refine ⟨rfl, ?_⟩
      have e : dk = reverseRange d a b := by
        rw [reverseRange, ← HE.out, reverseLoop.eq_def i jn dk, if_neg H2.out]
      rw [← e]
      exact S.out
end Go.Proofs.YtgoeiflddikihaaGreatDoor.Srt
end
section
set_option linter.unusedSimpArgs false
namespace Go.Proofs.YtgoeiflddikihaaGreatDoor.Ver
open Go.RowKit Go.Proofs.YtgoeiflddikihaaGreatDoor.Dig Go.Proofs.YtgoeiflddikihaaGreatDoorW.PrintWords
structure SVok (v : SV) : Prop where
  a0 : 0 ≤ v.major
  a1 : v.major < 18446744073709551616
  b0 : 0 ≤ v.minor
  b1 : v.minor < 18446744073709551616
  c0 : 0 ≤ v.patch
  c1 : v.patch < 18446744073709551616
  p : v.pre.size ≤ 4294967296
  m : v.mt.size ≤ 4294967296
def decB (n : Int) : ByteArray := ⟨(Lib.decDigits n.toNat).toArray⟩
def threeB (v : SV) : ByteArray := decB v.major ++ ⟨#[46]⟩ ++ decB v.minor ++ ⟨#[46]⟩ ++ decB v.patch
def preB (v : SV) : ByteArray := if v.pre = ⟨#[]⟩ then threeB v else threeB v ++ (⟨#[45]⟩ ++ v.pre)
def semB (v : SV) : ByteArray := if v.mt = ⟨#[]⟩ then preB v else preB v ++ (⟨#[43]⟩ ++ v.mt)
theorem decB_size (n : Int) (h0 : 0 ≤ n) (h : n < 18446744073709551616) : (decB n).size ≤ 21 := by
  show (Lib.decDigits n.toNat).toArray.size ≤ 21
  rw [List.size_toArray, Lib.decDigits_length]
  by_cases h1 : 1 ≤ n.toNat
  · have := Lib.numDigits_eq n.toNat h1 (by omega)
    split at this <;> omega
  · have : n.toNat = 0 := by omega
    rw [this, ← Lib.decDigits_length, Lib.decDigits, dif_pos (by omega)]; simp
set_option maxRecDepth 20000 in
theorem semStr_any (v : SV) (hk : SVok v) (w : World) (hv : Vars w) : Calls Tryz.prog 233 #[.agg v.cells] w fun e w' => e = .returned (.string (semB v)) ∧ Below w.heap.size w w' := by
  obtain ⟨va, vb, vc, vp, vm, vo⟩ := v
  obtain ⟨a0, a1, b0, b1, c0, c1, hp, hm⟩ := hk
  dsimp only at a0 a1 b0 b1 c0 c1 hp hm
  have w0 : Below w.heap.size w (w.alloc (.cells #[.int .u64 va, .int .u64 vb, .int .u64 vc, .string vp, .string vm, .string vo] 197)) := below_alloc (Below.refl _ _) _
  have cI : ∀ (n : Int), 0 ≤ n → n < 18446744073709551616 → ∀ d os, Calls Tryz.prog 235 #[.int .u64 n, .int .i64 10] (Sort.grow (redrawn (w.alloc (.cells #[.int .u64 va, .int .u64 vb, .int .u64 vc, .string vp, .string vm, .string vo] 197)) d) os) fun e w'' => e = .returned (.string (decB n)) ∧ ∃ p : Regrown, w'' = Sort.grow (redrawn (w.alloc (.cells #[.int .u64 va, .int .u64 vb, .int .u64 vc, .string vp, .string vm, .string vo] 197)) p.d) p.os :=
    fun n h0 h1 d os => Calls.regrown_of (by
      have h := fmtU_any n.toNat (by omega) _ ((hv.below w0).below (below_regrown _ d os))
      rw [show ((n.toNat : Nat) : Int) = n by omega] at h
      exact h)
  have CA := Lib.hid (cI va a0 a1)
  have CB := Lib.hid (cI vb b0 b1)
  have CC := Lib.hid (cI vc c0 c1)
  have la := decB_size va a0 a1
  have lb := decB_size vb b0 b1
  have lc := decB_size vc c0 c1
  have k0 := cell_regrown (blk_cell (alloc_at w (.cells #[.int .u64 va, .int .u64 vb, .int .u64 vc, .string vp, .string vm, .string vo] 197)) 0)
  have k1 := cell_regrown (blk_cell (alloc_at w (.cells #[.int .u64 va, .int .u64 vb, .int .u64 vc, .string vp, .string vm, .string vo] 197)) 1)
  have k2 := cell_regrown (blk_cell (alloc_at w (.cells #[.int .u64 va, .int .u64 vb, .int .u64 vc, .string vp, .string vm, .string vo] 197)) 2)
  have k3 := cell_regrown (blk_cell (alloc_at w (.cells #[.int .u64 va, .int .u64 vb, .int .u64 vc, .string vp, .string vm, .string vo] 197)) 3)
  have k4 := cell_regrown (blk_cell (alloc_at w (.cells #[.int .u64 va, .int .u64 vb, .int .u64 vc, .string vp, .string vm, .string vo] 197)) 4)
  have hS : semB ⟨va, vb, vc, vp, vm, vo⟩ = (if vm = ⟨#[]⟩ then (if vp = ⟨#[]⟩ then decB va ++ ⟨#[46]⟩ ++ decB vb ++ ⟨#[46]⟩ ++ decB vc else decB va ++ ⟨#[46]⟩ ++ decB vb ++ ⟨#[46]⟩ ++ decB vc ++ (⟨#[45]⟩ ++ vp)) else (if vp = ⟨#[]⟩ then decB va ++ ⟨#[46]⟩ ++ decB vb ++ ⟨#[46]⟩ ++ decB vc else decB va ++ ⟨#[46]⟩ ++ decB vb ++ ⟨#[46]⟩ ++ decB vc ++ (⟨#[45]⟩ ++ vp)) ++ (⟨#[43]⟩ ++ vm)) := rfl
  rw [hS]
  dsimp only [SV.cells]
  clear cI a0 a1 b0 b1 c0 c1 hS hv
  generalize decB va = sa at *
  generalize decB vb = sb at *
  generalize decB vc = sc at *
  go_enter Tryz.func233, Tryz.ntmps233
  have n1 : ¬ 9223372036854775807 < sa.size + 1 := by omega
  have n2 : ¬ 9223372036854775807 < sa.size + 1 + sb.size := by omega
  have n3 : ¬ 9223372036854775807 < sa.size + 1 + sb.size + 1 := by omega
  have n4 : ¬ 9223372036854775807 < sa.size + 1 + sb.size + 1 + sc.size := by omega
  go_wp2
  refine wp_region_quiet_below (by kernel_rfl) (by kernel_rfl) ?_
  repeat (quiet_step (first | exact CA.out _ _ | exact CB.out _ _ | exact CC.out _ _))
  refine wpQuiet_nil ?_
  intro _ hw'
  obtain ⟨⟨dq, osq⟩, hw''⟩ := hw'
  subst hw''
  have hsum : (sa ++ ⟨#[46]⟩ ++ sb ++ ⟨#[46]⟩ ++ sc).size ≤ 100 := by simp only [ByteArray.size_append]; have : (⟨#[46]⟩ : ByteArray).size = 1 := rfl; omega
  clear n1 n2 n3 n4
  generalize ht : sa ++ ⟨#[46]⟩ ++ sb ++ ⟨#[46]⟩ ++ sc = t3 at *
  have HT := Lib.hid ht
  clear ht
  have z3 := k3 dq osq
  have z4 := k4 dq osq
  have HBB := Aside0.mk (below_trans w0 (below_regrown _ dq osq))
  have hone : (⟨#[45]⟩ : ByteArray).size = 1 := rfl
  have hone2 : (⟨#[43]⟩ : ByteArray).size = 1 := rfl
  have m1 : ¬ 9223372036854775807 < 1 + vp.size := by omega
  have m2 : ¬ 9223372036854775807 < t3.size + (1 + vp.size) := by omega
  have m3 : ¬ 9223372036854775807 < 1 + vm.size := by omega
  have m4 : ¬ 9223372036854775807 < t3.size + (1 + vm.size) := by omega
  have m5 : ¬ 9223372036854775807 < t3.size + (1 + vp.size) + (1 + vm.size) := by omega
  clear k0 k1 k2 k3 k4 w0 CA CB CC
  by_cases hp0 : vp = ⟨#[]⟩
  · by_cases hm0 : vm = ⟨#[]⟩
    · have e1 : vp.toList.isEmpty = true := isEmpty_true (by rw [hp0]; rfl)
      have e2 : vm.toList.isEmpty = true := isEmpty_true (by rw [hm0]; rfl)
      have HM0 := Lib.hid hm0
      have HP0 := Lib.hid hp0
      clear hp0 hm0
      go_wp2
      go_ret
      refine ⟨?_, by first | exact HBB.out | exact below_trans (below_alloc (Below.refl _ _) _) (below_regrown _ _ _)⟩
      simp [HT.out, HM0.out, HP0.out]
    · have e1 : vp.toList.isEmpty = true := isEmpty_true (by rw [hp0]; rfl)
      have e2 : vm.toList.isEmpty = false := isEmpty_false (size_pos hm0)
      have HM0 := Lib.hid hm0
      have HP0 := Lib.hid hp0
      clear hp0 hm0
      go_wp2
      go_ret
      refine ⟨?_, by first | exact HBB.out | exact below_trans (below_alloc (Below.refl _ _) _) (below_regrown _ _ _)⟩
      simp [HT.out, HM0.out, HP0.out]
  · by_cases hm0 : vm = ⟨#[]⟩
    · have e1 : vp.toList.isEmpty = false := isEmpty_false (size_pos hp0)
      have e2 : vm.toList.isEmpty = true := isEmpty_true (by rw [hm0]; rfl)
      have HM0 := Lib.hid hm0
      have HP0 := Lib.hid hp0
      clear hp0 hm0
      go_wp2
      go_ret
      refine ⟨?_, by first | exact HBB.out | exact below_trans (below_alloc (Below.refl _ _) _) (below_regrown _ _ _)⟩
      simp [HT.out, HM0.out, HP0.out]
    · have e1 : vp.toList.isEmpty = false := isEmpty_false (size_pos hp0)
      have e2 : vm.toList.isEmpty = false := isEmpty_false (size_pos hm0)
      have HM0 := Lib.hid hm0
      have HP0 := Lib.hid hp0
      clear hp0 hm0
      go_wp2
      go_ret
      refine ⟨?_, by first | exact HBB.out | exact below_trans (below_alloc (Below.refl _ _) _) (below_regrown _ _ _)⟩
      simp [HT.out, HM0.out, HP0.out]
end Go.Proofs.YtgoeiflddikihaaGreatDoor.Ver
end
section
namespace Go.Proofs.YtgoeiflddikihaaGreatDoor.Ver
open Go.RowKit Go.Proofs.YtgoeiflddikihaaGreatDoor.Dig Go.Proofs.YtgoeiflddikihaaGreatDoorW.PrintWords
theorem numOf_lt {l r : List UInt8} {u : Nat} (h : numOf l = some (u, r)) : u < 18446744073709551616 ∧ r.length ≤ l.length := by
  unfold numOf at h
  split at h
  · cases h
  · split at h
    · rename_i u' hu
      simp at h
      obtain ⟨rfl, rfl⟩ := h
      have := Lib.parseUintB_le hu
      exact ⟨by have e : 2 ^ 64 - 1 = 18446744073709551615 := rfl; omega, by rw [List.length_drop]; omega⟩
    · cases h
theorem nums_ok : ∀ (m : Nat) (acc ns : List Nat) (l r : List UInt8), (∀ x ∈ acc, x < 18446744073709551616) → nums m acc l = some (ns, r) → (∀ x ∈ ns, x < 18446744073709551616) ∧ r.length ≤ l.length
  | 0, _, _, _, _, _, h => by simp [nums] at h
  | m + 1, acc, ns, l, r, ha, h => by
    rw [nums] at h
    split at h
    · cases h
    · rename_i a r' hn
      have hl := numOf_lt hn
      have hb : ∀ x ∈ acc ++ [a], x < 18446744073709551616 := fun x hx => by
        rcases List.mem_append.1 hx with hx | hx
        · exact ha x hx
        · rw [List.mem_singleton] at hx; rw [hx]; exact hl.1
      split at h
      · have := nums_ok m _ _ _ _ hb h
        exact ⟨this.1, by have h2 := this.2; rw [List.length_drop] at h2; omega⟩
      · simp at h
        obtain ⟨rfl, rfl⟩ := h
        exact ⟨hb, hl.2⟩
theorem part_len {c : UInt8} {l p r : List UInt8} (h : part c l = some (p, r)) : p.length ≤ l.length ∧ r.length ≤ l.length := by
  cases l with
  | nil => simp [part] at h; rw [h.1, h.2]; simp
  | cons x q =>
    rw [part] at h
    split at h
    · split at h
      · cases h
      · simp at h
        obtain ⟨rfl, rfl⟩ := h
        rw [List.length_take, List.length_drop, List.length_cons]
        omega
    · simp at h
      obtain ⟨rfl, rfl⟩ := h
      simp
theorem getD_lt {ns : List Nat} (h : ∀ x ∈ ns, x < 18446744073709551616) (i : Nat) : ns.getD i 0 < 18446744073709551616 := by
  rw [List.getD_eq_getElem?_getD]
  cases hx : ns[i]? with
  | none => simp
  | some x => exact h x (List.mem_of_getElem? hx)
theorem readV_ok' {s : ByteArray} {v : SV} {k : Nat} (hs : s.size ≤ 2147483647) (h : readV s = some (v, k)) : SVok v ∧ v.orig = s := by
  have hb := bare0_size s
  unfold readV at h
  split at h
  · cases h
  · rename_i ns r hn
    have h1 := nums_ok 3 [] ns _ r (fun x hx => by cases hx) hn
    split at h
    · cases h
    · rename_i pre r1 hp
      have h2 := part_len hp
      split at h
      · cases h
      · rename_i mt r2 hm
        have h3 := part_len hm
        split at h
        · injection h with h
          injection h with h h'
          subst h
          refine ⟨⟨by simp, ?_, by simp, ?_, by simp, ?_, ?_, ?_⟩, rfl⟩
          · show ((ns.getD 0 0 : Nat) : Int) < _
            have := getD_lt h1.1 0; omega
          · show ((ns.getD 1 0 : Nat) : Int) < _
            have := getD_lt h1.1 1; omega
          · show ((ns.getD 2 0 : Nat) : Int) < _
            have := getD_lt h1.1 2; omega
          · show pre.toArray.size ≤ _
            rw [List.size_toArray]; omega
          · show mt.toArray.size ≤ _
            rw [List.size_toArray]; omega
        · cases h
def Unp.ok : Unp → Prop
  | .branch n _ => n.size ≤ 2147483647
  | .plain n => n.size ≤ 2147483647
  | .sem v => SVok v ∧ v.orig.size ≤ 2147483647
def Vers.ok : Vers → Prop
  | .rev s => s.size ≤ 2147483647
  | .un u => u.ok
  | .pair u r => u.ok ∧ r.size ≤ 2147483647
end Go.Proofs.YtgoeiflddikihaaGreatDoor.Ver
end
section
namespace Go.Proofs.YtgoeiflddikihaaGreatDoor.Srt
open Go.RowKit Go.Proofs.YtgoeiflddikihaaGreatDoorW.PrintWords Go.Sort
variable {α : Type} [Inhabited α]
structure SC (enc : α → Value) (w : World) (blk off : Nat) (d : Array α) (cb : Nat) (s : Value) (t : TypeId) (W : World) : Prop where
  si : SI enc w blk off d W
  cnt : W.heap[cb]? = some (.cells #[s] t (0, 0))
  hi : w.heap.size ≤ cb
theorem SC.below {enc : α → Value} {w : World} {blk off : Nat} {d : Array α} {cb : Nat} {s : Value} {t : TypeId} {W W' : World} (h : SC enc w blk off d cb s t W) (hb : Below W.heap.size W W') : SC enc w blk off d cb s t W' :=
  ⟨h.si.below hb, blk_below h.cnt hb, h.hi⟩
theorem SC.drewN {enc : α → Value} {w : World} {blk off : Nat} {d : Array α} {cb : Nat} {s : Value} {t : TypeId} {W : World} (h : SC enc w blk off d cb s t W) (n : Nat) : SC enc w blk off d cb s t (W.drewN n) := h.below (pw_below_drewN (Below.refl _ _) n)
theorem SI.setNew {enc : α → Value} {w : World} {blk off : Nat} {d : Array α} {W : World} (h : SI enc w blk off d W) {cb : Nat} (hi : w.heap.size ≤ cb) (o : Nat) (u : Value) : SI enc w blk off d (W.setCell ⟨cb, o, none⟩ u) := by
  have hne : cb ≠ blk := by have := h.lt; omega
  refine ⟨?_, fun j hj => ?_, h.lt⟩
  · exact ⟨h.gr.os, h.gr.tape, h.gr.output, by rw [show (W.setCell ⟨cb, o, none⟩ u).heap.size = W.heap.size by simp [World.setCell]]; exact h.gr.size, fun k hk hr => (RowKit.Below.heap_setCell W ⟨cb, o, none⟩ u k (by show k ≠ cb; omega)).trans (h.gr.block k hk hr)⟩
  · obtain ⟨h1, h2⟩ := h.holds j hj
    refine ⟨?_, by rw [World.frozen?_setCell]; exact h2⟩
    rw [World.cell?_setCell_other _ _ _ _ (by intro e'; injection e' with e1 _; exact hne e1)]
    exact h1
theorem SC.put {enc : α → Value} {w : World} {blk off : Nat} {d : Array α} {cb : Nat} {s : Value} {t : TypeId} {W : World} (h : SC enc w blk off d cb s t W) (u : Value) : SC enc w blk off d cb u t (W.setCell ⟨cb, 0, none⟩ u) :=
  ⟨h.si.setNew h.hi 0 u, blk_put (cs' := #[u]) h.cnt 0 u rfl, h.hi⟩
theorem SC.cell {enc : α → Value} {w : World} {blk off : Nat} {d : Array α} {cb : Nat} {s : Value} {t : TypeId} {W : World} (h : SC enc w blk off d cb s t W) : W.cell? ⟨cb, 0, none⟩ = some s := by
  have := blk_cell h.cnt 0
  exact this
theorem SC.frozen {enc : α → Value} {w : World} {blk off : Nat} {d : Array α} {cb : Nat} {s : Value} {t : TypeId} {W : World} (h : SC enc w blk off d cb s t W) : W.frozen? ⟨cb, 0, none⟩ = false := blk_frozen h.cnt 0
set_option maxHeartbeats 1000000 in
set_option maxRecDepth 100000 in
theorem order2_any {T : TypeId} {rv : Value} {gn gl gs : Nat} (hm : Meth T rv gn gl gs) (enc : α → Value) (lt : α → α → Bool) (w : World) (blk off n : Nat) (hl : LessC gl rv enc lt w blk off n)
    (a b cb s : Nat) (t : TypeId) (ha : a < n) (hb : b < n) (hs : s < 4611686018427387904) (W : World) (d : Array α) (hd : d.size = n) (hW : SC enc w blk off d cb (.int .i64 s) t W) :
    Calls Tryz.prog 154 #[.iface T rv, .int .i64 a, .int .i64 b, .pointer (some ⟨cb, 0, none⟩)] W fun e w' =>
      e = .returned (.tuple #[.int .i64 (order2 lt d a b s).1, .int .i64 (order2 lt d a b s).2.1]) ∧ SC enc w blk off d cb (.int .i64 (order2 lt d a b s).2.2) t w' := by
  have mL := hm.l
  have eL := hm.el
  have H1 := Lib.hid (hl W d hW.si hd b a hb ha)
  have HW := Aside0.mk hW
  clear hW hm hl hd
  cases hlv : lt d[b]! d[a]! with
  | true =>
    have H1 : Hid (Calls Tryz.prog gl #[rv, .int .i64 b, .int .i64 a] W fun e w' => e = .returned (.bool true) ∧ Below W.heap.size W w') := Lib.hid (by have := H1.out; rw [hlv] at this; exact this)
    have e2 : order2 lt d a b s = (b, a, s + 1) := by simp [order2, hlv]
    rw [e2]
    clear hlv e2
    go_enter Tryz.func154, Tryz.ntmps154
    go_wp2_with (go_at_fn gl; refine H1.out.mono ?_; rintro e w1 ⟨rfl, hb1⟩; have A1 := Aside0.mk (HW.out.below hb1); clear hb1; have cc := A1.out.cell; have cf := A1.out.frozen)
    go_ret2
    exact ⟨rfl, by have := (A1.out.put (.int .i64 ((s : Int) + 1))); simpa using this⟩
  | false =>
    have H1 : Hid (Calls Tryz.prog gl #[rv, .int .i64 b, .int .i64 a] W fun e w' => e = .returned (.bool false) ∧ Below W.heap.size W w') := Lib.hid (by have := H1.out; rw [hlv] at this; exact this)
    have e2 : order2 lt d a b s = (a, b, s) := by simp [order2, hlv]
    rw [e2]
    clear hlv e2
    go_enter Tryz.func154, Tryz.ntmps154
    go_wp2_with (go_at_fn gl; refine H1.out.mono ?_; rintro e w1 ⟨rfl, hb1⟩; have A1 := Aside0.mk (HW.out.below hb1); clear hb1)
    go_ret2
    exact ⟨rfl, A1.out⟩
set_option maxHeartbeats 1000000 in
set_option maxRecDepth 100000 in
theorem median_any {T : TypeId} {rv : Value} {gn gl gs : Nat} (hm : Meth T rv gn gl gs) (enc : α → Value) (lt : α → α → Bool) (w : World) (blk off n : Nat) (hl : LessC gl rv enc lt w blk off n)
    (a b c cb s : Nat) (t : TypeId) (ha : a < n) (hb : b < n) (hc : c < n) (hs : s + 3 < 4611686018427387904) (W : World) (d : Array α) (hd : d.size = n) (hW : SC enc w blk off d cb (.int .i64 s) t W) :
    Calls Tryz.prog 149 #[.iface T rv, .int .i64 a, .int .i64 b, .int .i64 c, .pointer (some ⟨cb, 0, none⟩)] W fun e w' =>
      e = .returned (.int .i64 (median lt d a b c s).1) ∧ SC enc w blk off d cb (.int .i64 (median lt d a b c s).2) t w' := by
  have l1 := order2_lt' lt d s ha hb
  have s1 := order2_swaps' lt d a b s
  have l2 := order2_lt' lt d (order2 lt d a b s).2.2 l1.2 hc
  have s2 := order2_swaps' lt d (order2 lt d a b s).2.1 c (order2 lt d a b s).2.2
  have H1 := Lib.hid (order2_any hm enc lt w blk off n hl a b cb s t ha hb (by omega) W d hd hW)
  have H2 := Lib.hid (fun W2 h2 => order2_any hm enc lt w blk off n hl (order2 lt d a b s).2.1 c cb (order2 lt d a b s).2.2 t l1.2 hc (by omega) W2 d hd h2)
  have H3 := Lib.hid (fun W2 h2 => order2_any hm enc lt w blk off n hl (order2 lt d a b s).1 (order2 lt d (order2 lt d a b s).2.1 c (order2 lt d a b s).2.2).1 cb (order2 lt d (order2 lt d a b s).2.1 c (order2 lt d a b s).2.2).2.2 t l1.1 l2.1 (by omega) W2 d hd h2)
  unfold median
  clear hW hm hl l1 s1 l2 s2 hd
  dsimp only
  generalize order2 lt d a b s = r1 at *
  obtain ⟨x1, y1, z1⟩ := r1
  dsimp only at *
  generalize order2 lt d y1 c z1 = r2 at *
  obtain ⟨x2, y2, z2⟩ := r2
  dsimp only at *
  generalize order2 lt d x1 x2 z2 = r3 at *
  obtain ⟨x3, y3, z3⟩ := r3
  dsimp only at *
  go_enter Tryz.func149, Tryz.ntmps149
  go_wp2_with (go_at_call 154; refine H1.out.mono ?_; rintro e w1 ⟨rfl, hs1⟩; have A1 := Aside0.mk hs1; clear hs1; refine Hid.out ?_)
  refine Lib.hid ?_
  go_wp2_with (go_at_call 154; refine (H2.out _ (by repeat (first | exact A1.out | apply SC.drewN))).mono ?_; rintro e w2 ⟨rfl, hs2⟩; have A2 := Aside0.mk hs2; clear hs2; refine Hid.out ?_)
  refine Lib.hid ?_
  go_wp2_with (go_at_call 154; refine (H3.out _ (by repeat (first | exact A2.out | apply SC.drewN))).mono ?_; rintro e w3 ⟨rfl, hs3⟩; have A3 := Aside0.mk hs3; clear hs3)
  go_ret
  exact ⟨rfl, A3.out⟩
set_option maxHeartbeats 2000000 in
set_option maxRecDepth 100000 in
theorem pivot_any {T : TypeId} {rv : Value} {gn gl gs : Nat} (hm : Meth T rv gn gl gs) (enc : α → Value) (lt : α → α → Bool) (w : World) (blk off n : Nat) (hl : LessC gl rv enc lt w blk off n) (hn : n < 50)
    (a b : Nat) (hab : a < b) (hb : b ≤ n) (W : World) (d : Array α) (hd : d.size = n) (hW : SI enc w blk off d W) :
    Calls Tryz.prog 135 #[.iface T rv, .int .i64 a, .int .i64 b] W fun e w' =>
      e = .returned (.tuple #[.int .i64 (choosePivot lt d a b).1, .int .i64 (hintCode (choosePivot lt d a b).2)]) ∧ SI enc w blk off d w' := by
  rw [choosePivot_eq]
  obtain ⟨I, hI⟩ : ∃ I : Nat, I = a + (b - a) / 4 * 1 := ⟨_, rfl⟩
  obtain ⟨J, hJ⟩ : ∃ J : Nat, J = a + (b - a) / 4 * 2 := ⟨_, rfl⟩
  obtain ⟨K, hK⟩ : ∃ K : Nat, K = a + (b - a) / 4 * 3 := ⟨_, rfl⟩
  have eI : ((a : Int) + ((b : Int) - (a : Int)) / 4) = (I : Int) := by omega
  have eJ : ((a : Int) + ((b : Int) - (a : Int)) / 4 * 2) = (J : Int) := by omega
  have eK : ((a : Int) + ((b : Int) - (a : Int)) / 4 * 3) = (K : Int) := by omega
  have h50z : ¬ ((b : Int) - (a : Int) ≥ 50) := by omega
  have hlt : w.heap.size ≤ W.heap.size := hW.gr.size
  have hSC := SC.mk (hW.below (below_alloc (Below.refl W.heap.size W) (.cells #[.int .i64 0] 3))) (Go.Proofs.YtgoeiflddikihaaGreatDoor.Ver.alloc_at W (.cells #[.int .i64 0] 3)) hlt
  by_cases h8 : b - a ≥ 8
  · obtain ⟨p, s, h4⟩ : ∃ p s, median lt d I J K 0 = (p, s) := ⟨_, _, rfl⟩
    have hraw : rawPivot lt d a b = (p, s) := by simp only [rawPivot, if_pos h8, if_neg (show ¬ b - a ≥ 50 by omega), ← hI, ← hJ, ← hK, h4]
    have c4 := median_any hm enc lt w blk off n hl I J K W.heap.size 0 3 (by omega) (by omega) (by omega) (by omega) _ d hd hSC
    rw [h4] at c4
    have C4 := Lib.hid c4
    rw [hraw]
    obtain ⟨Hc, hHc⟩ : ∃ Hc : Int, Hc = hintCode (hintOf s) := ⟨_, rfl⟩
    have hh0 : s = 0 → Hc = 1 := fun h => by rw [hHc, h]; rfl
    have hh12 : s = 12 → Hc = 2 := fun h => by rw [hHc, h]; rfl
    have hhx : s ≠ 0 → s ≠ 12 → Hc = 0 := fun h1 h2 => by rw [hHc]; unfold hintOf; rw [if_neg h1, if_neg h2]; rfl
    have HH0 := Lib.hid hh0
    have HH12 := Lib.hid hh12
    have HHX := Lib.hid hhx
    show Calls Tryz.prog 135 _ W fun e w' => e = .returned (.tuple #[.int .i64 (p : Int), .int .i64 (hintCode (hintOf s))]) ∧ SI enc w blk off d w'
    rw [← hHc]
    have h8z : (8 : Int) ≤ (b : Int) - (a : Int) := by omega
    clear hHc hraw h4 hI hJ hK hm hl hW c4 hh0 hh12 hhx hSC h8 hd
    go_enter Tryz.func135, Tryz.ntmps135
    go_wp2_with (go_at_call 149; refine C4.out.mono ?_; rintro e w1 ⟨rfl, hs1⟩; have A1 := Aside0.mk hs1; clear hs1; have cc := A1.out.cell; have cf := A1.out.frozen)
    all_goals
      go_ret2
      refine ⟨?_, by repeat (first | exact A1.out.si | apply SI.drewN)⟩
      first
        | (have e0 : (s : Int) = 0 := of_beq_int (by assumption)
           rw [HH0.out (by omega)]; rfl)
        | (have e1 : (s : Int) = 12 := of_beq_int (by assumption)
           rw [HH12.out (by omega)]; rfl)
        | (have e0 : (s : Int) ≠ 0 := of_bne_int (by assumption)
           have e1 : (s : Int) ≠ 12 := of_bne_int (by assumption)
           rw [HHX.out (by omega) (by omega)]; rfl)
        | (rw [HH0.out (by omega)]; rfl)
  · have hraw : rawPivot lt d a b = (J, 0) := by simp only [rawPivot, if_neg h8, ← hJ]
    rw [hraw]
    have h8z : ¬ ((8 : Int) ≤ (b : Int) - (a : Int)) := by omega
    have HS := Aside0.mk hSC
    have cc := hSC.cell
    have cf := hSC.frozen
    clear hraw hI hJ hK hm hl hW hSC h8 hd
    show Calls Tryz.prog 135 _ W fun e w' => e = .returned (.tuple #[.int .i64 (J : Int), .int .i64 1]) ∧ SI enc w blk off d w'
    go_enter Tryz.func135, Tryz.ntmps135
    go_wp2
    all_goals
      go_ret2
      exact ⟨rfl, by repeat (first | exact HS.out.si | apply SI.drewN)⟩
set_option maxHeartbeats 2000000 in
set_option maxRecDepth 100000 in
theorem part_ins_any {T : TypeId} {rv : Value} {gn gl gs : Nat} (hm : Meth T rv gn gl gs) (enc : α → Value) (lt : α → α → Bool) (w : World) (blk off n : Nat) (hl : LessC gl rv enc lt w blk off n) (hn : n < 50)
    (a b : Nat) (hab : a < b) (hb : b ≤ n) (W : World) (d : Array α) (hd : d.size = n) (hW : SI enc w blk off d W) :
    Calls Tryz.prog 137 #[.iface T rv, .int .i64 a, .int .i64 b] W fun e w' =>
      e = .returned (.bool (Sort.partialInsertionSort lt d a b).2) ∧ SI enc w blk off (Sort.partialInsertionSort lt d a b).1 w' := by
  have mL := hm.l
  have eL := hm.el
  have HL := Lib.hid hl
  have HD := Lib.hid hd
  have HW := Aside0.mk hW
  have h50z : (b : Int) - (a : Int) < 50 := by omega
  clear hW hm hl hd
  go_enter Tryz.func137, Tryz.ntmps137
  go_wp2
  refine wp_loop_rounds 1 ?_
  rw [rounds_succ]
  go_wp2_with fail
  go_loopg [7] (b - (a + 1)) (fun g2 vi wr2 => ∃ (kx : Nat), vi = .int .i64 kx ∧ a + 1 ≤ kx ∧ kx ≤ b ∧ b - kx ≤ g2 ∧ Aside0 (SI enc w blk off d wr2) ∧ Hid (scanSorted lt d b kx = scanSorted lt d b (a + 1)))
  case atStart => exact ⟨a + 1, by go_num, by omega, by omega, by omega, HW, Lib.hid rfl⟩
  case round =>
    obtain ⟨kx, rfl, hik, hkb, hg2, S, HSc⟩ := hrel
    by_cases hkb' : kx < b
    · have hkz : (kx : Int) < (b : Int) := by omega
      cases hlv : lt d[kx]! d[kx - 1]! with
      | false =>
        have H1 := Lib.hid (lessAt HL.out HD.out (i := kx) (j := kx - 1) (by omega) (by omega) hlv (I := (kx : Int)) (J := (kx : Int) - 1) rfl (by omega))
        have HQ := Lib.hid hlv
        clear hlv
        go_wp2_with (go_at_fn gl; refine (H1.out _ (by repeat (first | exact S.out | apply SI.drewN))).mono ?_; rintro e w1 ⟨rfl, hs1⟩; have A1 := Aside0.mk hs1; clear hs1)
        go_roundg (b - (kx + 1))
        case measure => omega
        case rel => exact ⟨kx + 1, by go_num, by omega, by omega, Nat.le_refl _, A1, Lib.hid (by rw [← HSc.out, scanSorted_go lt d b kx hkb' HQ.out])⟩
      | true =>
        have H1 := Lib.hid (lessAt HL.out HD.out (i := kx) (j := kx - 1) (by omega) (by omega) hlv (I := (kx : Int)) (J := (kx : Int) - 1) rfl (by omega))
        have HK : Hid (scanSorted lt d b (a + 1) = kx) := Lib.hid (by rw [← HSc.out, scanSorted_stop lt d b kx (Or.inr hlv)])
        have hkne : ((kx : Int) == (b : Int)) = false := beq_eq_false_iff_ne.2 (by omega)
        have HV : Hid (Sort.partialInsertionSort lt d a b = (d, false)) := Lib.hid (by
          unfold Sort.partialInsertionSort
          exact pi_short lt a b 0 (a + 1) d (by omega) (by rw [HK.out]; omega) (by omega))
        clear hlv
        go_wp2_with (go_at_fn gl; refine (H1.out _ (by repeat (first | exact S.out | apply SI.drewN))).mono ?_; rintro e w1 ⟨rfl, hs1⟩; have A1 := Aside0.mk hs1; clear hs1)
        rw [HV.out]
        go_ret
        exact ⟨rfl, A1.out⟩
    · have hkz : ¬ ((kx : Int) < (b : Int)) := by omega
      obtain rfl : kx = b := by omega
      have HK : Hid (scanSorted lt d kx (a + 1) = kx) := Lib.hid (by rw [← HSc.out, scanSorted_stop lt d kx kx (Or.inl (by omega))])
      have HV : Hid (Sort.partialInsertionSort lt d a kx = (d, true)) := Lib.hid (by
        unfold Sort.partialInsertionSort
        exact pi_true lt a kx 0 (a + 1) d (by omega) HK.out)
      clear hkb'
      go_wp2
      rw [HV.out]
      go_ret
      exact ⟨rfl, by repeat (first | exact S.out | apply SI.drewN)⟩
end Go.Proofs.YtgoeiflddikihaaGreatDoor.Srt
end
