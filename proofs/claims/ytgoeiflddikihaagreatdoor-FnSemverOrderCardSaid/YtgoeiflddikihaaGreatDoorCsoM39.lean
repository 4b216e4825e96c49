/- Merged by program out of: R1z. -/
import Derived.Test.YtgoeiflddikihaaGreatDoorCsoM30
import Derived.Test.YtgoeiflddikihaaGreatDoorCsoM35
import Derived.Test.YtgoeiflddikihaaGreatDoorCsoM32
import Derived.Test.YtgoeiflddikihaaGreatDoorCsoM37
import Derived.Test.YtgoeiflddikihaaGreatDoorCsoM33
import Derived.Test.YtgoeiflddikihaaGreatDoorCsoM36
import Derived.Test.YtgoeiflddikihaaGreatDoorCsoM34
import Derived.Test.YtgoeiflddikihaaGreatDoorCsoM38
import Derived.Test.YtgoeiflddikihaaGreatDoorCsoM8
import Derived.RegionTactic
import Derived.BigRegion
section
namespace Go.Proofs.YtgoeiflddikihaaGreatDoor.Ver
set_option linter.unusedSimpArgs false
set_option linter.unusedVariables false
open Go.RowKit Go.Proofs.YtgoeiflddikihaaGreatDoor.Dig Go.Proofs.YtgoeiflddikihaaGreatDoorW.PrintWords Go.Proofs.YtgoeiflddikihaaGreatDoor.PFnIntersectAny Go.Proofs.YtgoeiflddikihaaGreatDoor.Ord Go.Proofs.YtgoeiflddikihaaGreatDoor.Mem
set_option maxRecDepth 20000 in
set_option maxHeartbeats 2000000 in
theorem after_w1 (v : SV) (w : World) : Calls Tryz.prog 151 #[.agg v.cells, .int .i64 1] w fun e w' => e = .returned (.agg #[.int .u64 (u64w (v.major + 1)), .int .u64 0, .int .u64 0, .string ⟨#[]⟩, .string ⟨#[]⟩, .string ⟨#[]⟩]) ∧ Below w.heap.size w w' := by
  have HB := Aside0.mk (Below.refl w.heap.size w)
  obtain ⟨va, vb, vc, vp, vm, vo⟩ := v
  dsimp only [SV.cells]
  have hw : IntKind.u64.wrap (va + 1) = u64w (va + 1) := rfl
  generalize u64w (va + 1) = x at hw ⊢
  go_enter Tryz.func151, Tryz.ntmps151
  go_wp2_with fail
  refine bodyPost_ret (v := .agg #[.int .u64 x, .int .u64 0, .int .u64 0, .string ⟨#[]⟩, .string ⟨#[]⟩, .string ⟨#[]⟩]) (by simp [results, Tryz.results151, go_sem, *]) rfl ⟨rfl, ?_⟩
  repeat (first | exact HB.out | apply below_alloc | apply pw_below_drewN)
set_option maxRecDepth 20000 in
set_option maxHeartbeats 2000000 in
theorem after_w2 (v : SV) (w : World) : Calls Tryz.prog 151 #[.agg v.cells, .int .i64 2] w fun e w' => e = .returned (.agg #[.int .u64 v.major, .int .u64 (u64w (v.minor + 1)), .int .u64 0, .string ⟨#[]⟩, .string ⟨#[]⟩, .string ⟨#[]⟩]) ∧ Below w.heap.size w w' := by
  have HB := Aside0.mk (Below.refl w.heap.size w)
  obtain ⟨va, vb, vc, vp, vm, vo⟩ := v
  dsimp only [SV.cells]
  have hw : IntKind.u64.wrap (vb + 1) = u64w (vb + 1) := rfl
  generalize u64w (vb + 1) = x at hw ⊢
  go_enter Tryz.func151, Tryz.ntmps151
  go_wp2_with fail
  refine bodyPost_ret (v := .agg #[.int .u64 va, .int .u64 x, .int .u64 0, .string ⟨#[]⟩, .string ⟨#[]⟩, .string ⟨#[]⟩]) (by simp [results, Tryz.results151, go_sem, *]) rfl ⟨rfl, ?_⟩
  repeat (first | exact HB.out | apply below_alloc | apply pw_below_drewN)
set_option maxRecDepth 20000 in
set_option maxHeartbeats 2000000 in
theorem after_w3 (v : SV) (n : Int) (h1 : (n == 1) = false) (h2 : (n == 2) = false) (w : World) : Calls Tryz.prog 151 #[.agg v.cells, .int .i64 n] w fun e w' => e = .returned (.agg #[.int .u64 v.major, .int .u64 v.minor, .int .u64 (u64w (v.patch + 1)), .string ⟨#[]⟩, .string ⟨#[]⟩, .string ⟨#[]⟩]) ∧ Below w.heap.size w w' := by
  have HB := Aside0.mk (Below.refl w.heap.size w)
  obtain ⟨va, vb, vc, vp, vm, vo⟩ := v
  dsimp only [SV.cells]
  have hw : IntKind.u64.wrap (vc + 1) = u64w (vc + 1) := rfl
  generalize u64w (vc + 1) = x at hw ⊢
  go_enter Tryz.func151, Tryz.ntmps151
  go_wp2_with fail
  refine bodyPost_ret (v := .agg #[.int .u64 va, .int .u64 vb, .int .u64 x, .string ⟨#[]⟩, .string ⟨#[]⟩, .string ⟨#[]⟩]) (by simp [results, Tryz.results151, go_sem, *]) rfl ⟨rfl, ?_⟩
  repeat (first | exact HB.out | apply below_alloc | apply pw_below_drewN)
theorem after_any (v : SV) (n : Nat) (w : World) : Calls Tryz.prog 151 #[.agg v.cells, .int .i64 (n : Int)] w fun e w' => e = .returned (.agg (afterV v n).cells) ∧ Below w.heap.size w w' := by
  unfold afterV
  by_cases h1 : n = 1
  · subst h1; rw [if_pos rfl]; exact after_w1 v w
  · rw [if_neg h1]
    by_cases h2 : n = 2
    · subst h2; rw [if_pos rfl]; exact after_w2 v w
    · rw [if_neg h2]; exact after_w3 v n (beq_eq_false_iff_ne.2 (by omega)) (beq_eq_false_iff_ne.2 (by omega)) w
theorem td_none (v : SV) (n : Nat) : (if n = 0 then some (.rng [zPD]) else if n = 3 then some (.ver v) else some (.rng [inP v (afterV v n)])) = termD [] v n := by
  unfold termD
  by_cases h0 : n = 0 <;> by_cases h3 : n = 3 <;> simp [h0, h3]
theorem td_eq (v : SV) (n : Nat) : (if n = 0 then some (.rng [zPD]) else if n = 3 then some (.ver v) else some (.rng [inP v (afterV v n)])) = termD [61] v n := by
  unfold termD
  by_cases h0 : n = 0 <;> by_cases h3 : n = 3 <;> simp [h0, h3]
theorem td_ne (v : SV) (n : Nat) : (if n = 0 then some (.rng []) else if n = 3 then some (.rng [{ zPD with but := [v] }]) else some (.rng [hiP v, loP (afterV v n)])) = termD [33, 61] v n := by
  unfold termD
  by_cases h0 : n = 0 <;> by_cases h3 : n = 3 <;> simp [h0, h3]
theorem td_gt (v : SV) (n : Nat) : (if n = 0 then some (.rng []) else if n = 3 then some (.rng [{ zPD with lo := v, hl := true }]) else some (.rng [loP (afterV v n)])) = termD [62] v n := by
  unfold termD
  by_cases h0 : n = 0 <;> by_cases h3 : n = 3 <;> simp [h0, h3]
theorem td_ge (v : SV) (n : Nat) : (if n = 0 then some (.rng [zPD]) else if n = 3 then some (.rng [loP v]) else some (.rng [loP v])) = termD [62, 61] v n := by
  unfold termD
  by_cases h0 : n = 0 <;> by_cases h3 : n = 3 <;> simp [h0, h3]
theorem td_eg (v : SV) (n : Nat) : (if n = 0 then some (.rng [zPD]) else if n = 3 then some (.rng [loP v]) else some (.rng [loP v])) = termD [61, 62] v n := by
  unfold termD
  by_cases h0 : n = 0 <;> by_cases h3 : n = 3 <;> simp [h0, h3]
theorem td_lt (v : SV) (n : Nat) : (if n = 0 then some (.rng []) else if n = 3 then some (.rng [hiP v]) else some (.rng [hiP v])) = termD [60] v n := by
  unfold termD
  by_cases h0 : n = 0 <;> by_cases h3 : n = 3 <;> simp [h0, h3]
theorem td_le (v : SV) (n : Nat) : (if n = 0 then some (.rng [zPD]) else if n = 3 then some (.rng [{ hiP v with wh := true }]) else some (.rng [hiP (afterV v n)])) = termD [60, 61] v n := by
  unfold termD
  by_cases h0 : n = 0 <;> by_cases h3 : n = 3 <;> simp [h0, h3]
theorem td_el (v : SV) (n : Nat) : (if n = 0 then some (.rng [zPD]) else if n = 3 then some (.rng [{ hiP v with wh := true }]) else some (.rng [hiP (afterV v n)])) = termD [61, 60] v n := by
  unfold termD
  by_cases h0 : n = 0 <;> by_cases h3 : n = 3 <;> simp [h0, h3]
theorem td_ti (v : SV) (n : Nat) : (if n = 0 then some (.rng [zPD]) else if n = 3 then some (.rng [inP v (afterV v (if n = 1 then 1 else 2))]) else some (.rng [inP v (afterV v (if n = 1 then 1 else 2))])) = termD [126] v n := by
  unfold termD
  by_cases h0 : n = 0
  · simp [h0]
  · have e : (if n = 1 then 1 else 2) = min n 2 := by split <;> omega
    rw [e]
    by_cases h3 : n = 3 <;> simp [h0, h3]
theorem td_tg (v : SV) (n : Nat) : (if n = 0 then some (.rng [zPD]) else if n = 3 then some (.rng [inP v (afterV v (if n = 1 then 1 else 2))]) else some (.rng [inP v (afterV v (if n = 1 then 1 else 2))])) = termD [126, 62] v n := by
  unfold termD
  by_cases h0 : n = 0
  · simp [h0]
  · have e : (if n = 1 then 1 else 2) = min n 2 := by split <;> omega
    rw [e]
    by_cases h3 : n = 3 <;> simp [h0, h3]
theorem td_ca (v : SV) (n : Nat) : (if n = 0 then some (.rng [zPD]) else if n = 3 then some (.rng [inP v (afterV v (caretN v n))]) else some (.rng [inP v (afterV v (caretN v n))])) = termD [94] v n := by
  unfold termD
  by_cases h0 : n = 0 <;> by_cases h3 : n = 3 <;> simp [h0, h3]
theorem read1_any (t : ByteArray) (ht : t.size ≤ 100000) (b : Bool) (w : World) (hv : Vars w) : Calls Tryz.prog 141 #[.string t, .bool b] w (R1End (read1D t b) w) := by
  have hus : (mkT (unSgL t.data.toList)).size ≤ 100000 := by
    rw [mkT_size]
    have h1 := unSgL_len t.data.toList
    have h2 : t.data.toList.length = t.size := Array.length_toList
    omega
  have hts : (trimD (mkT (unSgL t.data.toList))).size ≤ 100000 := Nat.le_trans (trimD_size _) hus
  obtain ⟨u, hu⟩ : ∃ u, u = mkT (unSgL t.data.toList) := ⟨_, rfl⟩
  have hP := fun W (hb : Below w.heap.size w W) => part_all (trimD u) (by rw [hu]; exact hts) W (hv.below hb)
  unfold read1D
  rw [← hu] at hts ⊢
  cases hp : partV (trimD u) with
  | none => exact r1_bad t u b hu w (fun W hb => (hP W hb).mono fun e w' h => by
      unfold PartEnd at h
      rw [hp] at h
      exact ⟨h.2, h.1⟩) ht
  | some x =>
    obtain ⟨v, n⟩ := x
    obtain ⟨hvo, hn⟩ := partV_ok hts hp
    have hn4 : (n : Int) = 0 ∨ (n : Int) = 1 ∨ (n : Int) = 2 ∨ (n : Int) = 3 := by omega
    have HP : ∀ W, Below w.heap.size w W → Calls Tryz.prog 150 #[.string (trimD u)] W fun e w' => e = .returned (.tuple #[.agg v.cells, .int .i64 (n : Int), .nilIface]) ∧ Below W.heap.size W w' := fun W hb => (hP W hb).mono fun e w' h => by
      unfold PartEnd at h
      rw [hp] at h
      exact ⟨h.2, h.1⟩
    have HA := fun W => after_any v n W
    have HT : ∀ W, Calls Tryz.prog 151 #[.agg v.cells, .int .i64 (if (n : Int) = 1 then 1 else 2)] W fun e w' => e = .returned (.agg (afterV v (if n = 1 then 1 else 2)).cells) ∧ Below W.heap.size W w' := fun W => by
      by_cases h1 : n = 1
      · subst h1; exact after_any v 1 W
      · rw [if_neg (by omega), if_neg h1]; exact after_any v 2 W
    have HC : ∀ W, Calls Tryz.prog 151 #[.agg v.cells, .int .i64 (if v.major = 0 ∧ 1 < (n : Int) then (if v.minor = 0 ∧ 2 < (n : Int) then 3 else 2) else 1)] W fun e w' => e = .returned (.agg (afterV v (caretN v n)).cells) ∧ Below W.heap.size W w' := fun W => by
      have e : (if v.major = 0 ∧ 1 < (n : Int) then (if v.minor = 0 ∧ 2 < (n : Int) then 3 else 2) else 1 : Int) = ((caretN v n : Nat) : Int) := by
        unfold caretN
        have a1 : (1 < (n : Int)) ↔ 1 < n := by omega
        have a2 : (2 < (n : Int)) ↔ 2 < n := by omega
        simp only [a1, a2]
        split
        · split <;> rfl
        · rfl
      rw [e]; exact after_any v _ W
    have nz : ((n : Int) = 0) ↔ n = 0 := by omega
    have n3 : ((n : Int) = 3) ↔ n = 3 := by omega
    have tm : n ≠ 0 → (if n = 1 then 1 else 2) = min n 2 := by intro h; split <;> omega
    obtain ⟨op, hop⟩ : ∃ op, op = sgL t.data.toList := ⟨_, rfl⟩
    show Calls _ _ _ _ (R1End (termD (if sgL t.data.toList = [] ∧ b = true then [94] else sgL t.data.toList) v n) w)
    rw [← hop]
    by_cases k0 : op = []
    · rw [k0] at hop ⊢
      cases b with
      | true => exact r1_caret t u n hn4 v (afterV v n) (afterV v (caretN v n)) hop.symm hu w HP HA HC ht _ (by simp only [nz, n3]; exact td_ca v n)
      | false => exact r1_none t u n hn4 v (afterV v n) hop.symm hu w HP HA ht _ (by simp only [nz, n3]; exact td_none v n)
    · rw [if_neg (fun h => k0 h.1)]
      by_cases k1 : op = [61]
      · rw [k1] at hop ⊢
        exact r1_eq t u b n hn4 v (afterV v n) hop.symm hu w HP HA ht _ (by simp only [nz, n3]; exact td_eq v n)
      by_cases k2 : op = [33, 61]
      · rw [k2] at hop ⊢
        exact r1_ne t u b n hn4 v (afterV v n) hop.symm hu w HP HA ht _ (by simp only [nz, n3]; exact td_ne v n)
      by_cases k3 : op = [62]
      · rw [k3] at hop ⊢
        exact r1_gt t u b n hn4 v (afterV v n) hop.symm hu w HP HA ht _ (by simp only [nz, n3]; exact td_gt v n)
      by_cases k4 : op = [62, 61]
      · rw [k4] at hop ⊢
        exact r1_ge t u b n hn4 v (afterV v n) hop.symm hu w HP HA ht _ (by simp only [nz, n3]; exact td_ge v n)
      by_cases k5 : op = [61, 62]
      · rw [k5] at hop ⊢
        exact r1_eg t u b n hn4 v (afterV v n) hop.symm hu w HP HA ht _ (by simp only [nz, n3]; exact td_eg v n)
      by_cases k6 : op = [60]
      · rw [k6] at hop ⊢
        exact r1_lt t u b n hn4 v (afterV v n) hop.symm hu w HP HA ht _ (by simp only [nz, n3]; exact td_lt v n)
      by_cases k7 : op = [60, 61]
      · rw [k7] at hop ⊢
        exact r1_le t u b n hn4 v (afterV v n) hop.symm hu w HP HA ht _ (by simp only [nz, n3]; exact td_le v n)
      by_cases k8 : op = [61, 60]
      · rw [k8] at hop ⊢
        exact r1_el t u b n hn4 v (afterV v n) hop.symm hu w HP HA ht _ (by simp only [nz, n3]; exact td_el v n)
      by_cases k9 : op = [126]
      · rw [k9] at hop ⊢
        exact r1_ti t u b n hn4 v (afterV v n) (afterV v (if n = 1 then 1 else 2)) hop.symm hu w HP HA HT ht _ (by simp only [nz, n3]; exact td_ti v n)
      by_cases k10 : op = [126, 62]
      · rw [k10] at hop ⊢
        exact r1_tg t u b n hn4 v (afterV v n) (afterV v (if n = 1 then 1 else 2)) hop.symm hu w HP HA HT ht _ (by simp only [nz, n3]; exact td_tg v n)
      by_cases k11 : op = [94]
      · rw [k11] at hop ⊢
        exact r1_ca t u b n hn4 v (afterV v n) (afterV v (caretN v n)) hop.symm hu w HP HA HC ht _ (by simp only [nz, n3]; exact td_ca v n)
      · have tl : ∀ {l : Bs}, op ≠ l → (mkT op).toList ≠ l := fun h => by rw [mkT_tolist]; exact h
        exact r1_other t u (mkT op) (tl k1) (tl k2) (tl k3) (tl k4) (tl k5) (tl k6) (tl k7) (tl k8) (tl k9) (tl k10) (tl k11) (tl k0) b n hn4 v (afterV v n) (by rw [mkT_list]; exact hop.symm) hu w HP HA ht _ (by
          unfold termD
          simp only [k0, k1, k2, k3, k4, k5, k6, k7, k8, k9, k10, k11, or_self, if_false]
          split <;> simp)
end Go.Proofs.YtgoeiflddikihaaGreatDoor.Ver
end
