/- Merged by program out of: R1z, ConW. -/
import Derived.Test.YtgoeiflddikihaaGreatDoorCsgM38
import Derived.Test.YtgoeiflddikihaaGreatDoorCsgM43
import Derived.Test.YtgoeiflddikihaaGreatDoorCsgM40
import Derived.Test.YtgoeiflddikihaaGreatDoorCsgM45
import Derived.Test.YtgoeiflddikihaaGreatDoorCsgM41
import Derived.Test.YtgoeiflddikihaaGreatDoorCsgM44
import Derived.Test.YtgoeiflddikihaaGreatDoorCsgM42
import Derived.Test.YtgoeiflddikihaaGreatDoorCsgM46
import Derived.Test.YtgoeiflddikihaaGreatDoorCsgM12
import Derived.RegionTactic
import Derived.BigRegion
import Derived.Test.YtgoeiflddikihaaGreatDoorCsgM3
section
namespace Go.Proofs.YtgoeiflddikihaaGreatDoor.Ver
set_option linter.unusedSimpArgs false
set_option linter.unusedVariables false
open Go.RowKit Go.Proofs.YtgoeiflddikihaaGreatDoor.Dig Go.Proofs.YtgoeiflddikihaaGreatDoorW.PrintWords Go.Proofs.YtgoeiflddikihaaGreatDoor.PFnIntersectAny Go.Proofs.YtgoeiflddikihaaGreatDoor.Ord Go.Proofs.YtgoeiflddikihaaGreatDoor.Mem
set_option maxRecDepth 20000 in
set_option maxHeartbeats 2000000 in
theorem after_w1 (v : SV) (w : World) : Calls Tryz.prog 151 #[.agg v.cells, .int .i64 1] w fun e w' => e = .returned (.agg #[.int .u64 (u64w (v.major + 1)), .int .u64 0, .int .u64 0, .string ⟨#[]⟩, .string ⟨#[]⟩, .string ⟨#[]⟩]) ∧ Below w.heap.size w w' := by
  have HB := Aside0.mk (Below.refl w.heap.size w)
  obtain ⟨va, vb, vc, vp, vm, vo⟩ := v
  dsimp only [SV.cells]
  have hw : IntKind.u64.wrap (va + 1) = u64w (va + 1) := rfl
  generalize u64w (va + 1) = x at hw ⊢
  go_enter Tryz.func151, Tryz.ntmps151
  go_wp2_with fail
  refine bodyPost_ret (v := .agg #[.int .u64 x, .int .u64 0, .int .u64 0, .string ⟨#[]⟩, .string ⟨#[]⟩, .string ⟨#[]⟩]) (by simp [results, Tryz.results151, go_sem, *]) rfl ⟨rfl, ?_⟩
  repeat (first | exact HB.out | apply below_alloc | apply pw_below_drewN)
set_option maxRecDepth 20000 in
set_option maxHeartbeats 2000000 in
theorem after_w2 (v : SV) (w : World) : Calls Tryz.prog 151 #[.agg v.cells, .int .i64 2] w fun e w' => e = .returned (.agg #[.int .u64 v.major, .int .u64 (u64w (v.minor + 1)), .int .u64 0, .string ⟨#[]⟩, .string ⟨#[]⟩, .string ⟨#[]⟩]) ∧ Below w.heap.size w w' := by
  have HB := Aside0.mk (Below.refl w.heap.size w)
  obtain ⟨va, vb, vc, vp, vm, vo⟩ := v
  dsimp only [SV.cells]
  have hw : IntKind.u64.wrap (vb + 1) = u64w (vb + 1) := rfl
  generalize u64w (vb + 1) = x at hw ⊢
  go_enter Tryz.func151, Tryz.ntmps151
  go_wp2_with fail
  refine bodyPost_ret (v := .agg #[.int .u64 va, .int .u64 x, .int .u64 0, .string ⟨#[]⟩, .string ⟨#[]⟩, .string ⟨#[]⟩]) (by simp [results, Tryz.results151, go_sem, *]) rfl ⟨rfl, ?_⟩
  repeat (first | exact HB.out | apply below_alloc | apply pw_below_drewN)
set_option maxRecDepth 20000 in
set_option maxHeartbeats 2000000 in
theorem after_w3 (v : SV) (n : Int) (h1 : (n == 1) = false) (h2 : (n == 2) = false) (w : World) : Calls Tryz.prog 151 #[.agg v.cells, .int .i64 n] w fun e w' => e = .returned (.agg #[.int .u64 v.major, .int .u64 v.minor, .int .u64 (u64w (v.patch + 1)), .string ⟨#[]⟩, .string ⟨#[]⟩, .string ⟨#[]⟩]) ∧ Below w.heap.size w w' := by
  have HB := Aside0.mk (Below.refl w.heap.size w)
  obtain ⟨va, vb, vc, vp, vm, vo⟩ := v
  dsimp only [SV.cells]
  have hw : IntKind.u64.wrap (vc + 1) = u64w (vc + 1) := rfl
  generalize u64w (vc + 1) = x at hw ⊢
  go_enter Tryz.func151, Tryz.ntmps151
  go_wp2_with fail
  refine bodyPost_ret (v := .agg #[.int .u64 va, .int .u64 vb, .int .u64 x, .string ⟨#[]⟩, .string ⟨#[]⟩, .string ⟨#[]⟩]) (by simp [results, Tryz.results151, go_sem, *]) rfl ⟨rfl, ?_⟩
  repeat (first | exact HB.out | apply below_alloc | apply pw_below_drewN)
theorem after_any (v : SV) (n : Nat) (w : World) : Calls Tryz.prog 151 #[.agg v.cells, .int .i64 (n : Int)] w fun e w' => e = .returned (.agg (afterV v n).cells) ∧ Below w.heap.size w w' := by
  unfold afterV
  by_cases h1 : n = 1
  · subst h1; rw [if_pos rfl]; exact after_w1 v w
  · rw [if_neg h1]
    by_cases h2 : n = 2
    · subst h2; rw [if_pos rfl]; exact after_w2 v w
    · rw [if_neg h2]; exact after_w3 v n (beq_eq_false_iff_ne.2 (by omega)) (beq_eq_false_iff_ne.2 (by omega)) w
theorem td_none (v : SV) (n : Nat) : (if n = 0 then some (.rng [zPD]) else if n = 3 then some (.ver v) else some (.rng [inP v (afterV v n)])) = termD [] v n := by
  unfold termD
  by_cases h0 : n = 0 <;> by_cases h3 : n = 3 <;> simp [h0, h3]
theorem td_eq (v : SV) (n : Nat) : (if n = 0 then some (.rng [zPD]) else if n = 3 then some (.ver v) else some (.rng [inP v (afterV v n)])) = termD [61] v n := by
  unfold termD
  by_cases h0 : n = 0 <;> by_cases h3 : n = 3 <;> simp [h0, h3]
theorem td_ne (v : SV) (n : Nat) : (if n = 0 then some (.rng []) else if n = 3 then some (.rng [{ zPD with but := [v] }]) else some (.rng [hiP v, loP (afterV v n)])) = termD [33, 61] v n := by
  unfold termD
  by_cases h0 : n = 0 <;> by_cases h3 : n = 3 <;> simp [h0, h3]
theorem td_gt (v : SV) (n : Nat) : (if n = 0 then some (.rng []) else if n = 3 then some (.rng [{ zPD with lo := v, hl := true }]) else some (.rng [loP (afterV v n)])) = termD [62] v n := by
  unfold termD
  by_cases h0 : n = 0 <;> by_cases h3 : n = 3 <;> simp [h0, h3]
theorem td_ge (v : SV) (n : Nat) : (if n = 0 then some (.rng [zPD]) else if n = 3 then some (.rng [loP v]) else some (.rng [loP v])) = termD [62, 61] v n := by
  unfold termD
  by_cases h0 : n = 0 <;> by_cases h3 : n = 3 <;> simp [h0, h3]
theorem td_eg (v : SV) (n : Nat) : (if n = 0 then some (.rng [zPD]) else if n = 3 then some (.rng [loP v]) else some (.rng [loP v])) = termD [61, 62] v n := by
  unfold termD
  by_cases h0 : n = 0 <;> by_cases h3 : n = 3 <;> simp [h0, h3]
theorem td_lt (v : SV) (n : Nat) : (if n = 0 then some (.rng []) else if n = 3 then some (.rng [hiP v]) else some (.rng [hiP v])) = termD [60] v n := by
  unfold termD
  by_cases h0 : n = 0 <;> by_cases h3 : n = 3 <;> simp [h0, h3]
theorem td_le (v : SV) (n : Nat) : (if n = 0 then some (.rng [zPD]) else if n = 3 then some (.rng [{ hiP v with wh := true }]) else some (.rng [hiP (afterV v n)])) = termD [60, 61] v n := by
  unfold termD
  by_cases h0 : n = 0 <;> by_cases h3 : n = 3 <;> simp [h0, h3]
theorem td_el (v : SV) (n : Nat) : (if n = 0 then some (.rng [zPD]) else if n = 3 then some (.rng [{ hiP v with wh := true }]) else some (.rng [hiP (afterV v n)])) = termD [61, 60] v n := by
  unfold termD
  by_cases h0 : n = 0 <;> by_cases h3 : n = 3 <;> simp [h0, h3]
theorem td_ti (v : SV) (n : Nat) : (if n = 0 then some (.rng [zPD]) else if n = 3 then some (.rng [inP v (afterV v (if n = 1 then 1 else 2))]) else some (.rng [inP v (afterV v (if n = 1 then 1 else 2))])) = termD [126] v n := by
  unfold termD
  by_cases h0 : n = 0
  · simp [h0]
  · have e : (if n = 1 then 1 else 2) = min n 2 := by split <;> omega
    rw [e]
    by_cases h3 : n = 3 <;> simp [h0, h3]
theorem td_tg (v : SV) (n : Nat) : (if n = 0 then some (.rng [zPD]) else if n = 3 then some (.rng [inP v (afterV v (if n = 1 then 1 else 2))]) else some (.rng [inP v (afterV v (if n = 1 then 1 else 2))])) = termD [126, 62] v n := by
  unfold termD
  by_cases h0 : n = 0
  · simp [h0]
  · have e : (if n = 1 then 1 else 2) = min n 2 := by split <;> omega
    rw [e]
    by_cases h3 : n = 3 <;> simp [h0, h3]
theorem td_ca (v : SV) (n : Nat) : (if n = 0 then some (.rng [zPD]) else if n = 3 then some (.rng [inP v (afterV v (caretN v n))]) else some (.rng [inP v (afterV v (caretN v n))])) = termD [94] v n := by
  unfold termD
  by_cases h0 : n = 0 <;> by_cases h3 : n = 3 <;> simp [h0, h3]
theorem read1_any (t : ByteArray) (ht : t.size ≤ 100000) (b : Bool) (w : World) (hv : Vars w) : Calls Tryz.prog 141 #[.string t, .bool b] w (R1End (read1D t b) w) := by
  have hus : (mkT (unSgL t.data.toList)).size ≤ 100000 := by
    rw [mkT_size]
    have h1 := unSgL_len t.data.toList
    have h2 : t.data.toList.length = t.size := Array.length_toList
    omega
  have hts : (trimD (mkT (unSgL t.data.toList))).size ≤ 100000 := Nat.le_trans (trimD_size _) hus
  obtain ⟨u, hu⟩ : ∃ u, u = mkT (unSgL t.data.toList) := ⟨_, rfl⟩
  have hP := fun W (hb : Below w.heap.size w W) => part_all (trimD u) (by rw [hu]; exact hts) W (hv.below hb)
  unfold read1D
  rw [← hu] at hts ⊢
  cases hp : partV (trimD u) with
  | none => exact r1_bad t u b hu w (fun W hb => (hP W hb).mono fun e w' h => by
      unfold PartEnd at h
      rw [hp] at h
      exact ⟨h.2, h.1⟩) ht
  | some x =>
    obtain ⟨v, n⟩ := x
    obtain ⟨hvo, hn⟩ := partV_ok hts hp
    have hn4 : (n : Int) = 0 ∨ (n : Int) = 1 ∨ (n : Int) = 2 ∨ (n : Int) = 3 := by omega
    have HP : ∀ W, Below w.heap.size w W → Calls Tryz.prog 150 #[.string (trimD u)] W fun e w' => e = .returned (.tuple #[.agg v.cells, .int .i64 (n : Int), .nilIface]) ∧ Below W.heap.size W w' := fun W hb => (hP W hb).mono fun e w' h => by
      unfold PartEnd at h
      rw [hp] at h
      exact ⟨h.2, h.1⟩
    have HA := fun W => after_any v n W
    have HT : ∀ W, Calls Tryz.prog 151 #[.agg v.cells, .int .i64 (if (n : Int) = 1 then 1 else 2)] W fun e w' => e = .returned (.agg (afterV v (if n = 1 then 1 else 2)).cells) ∧ Below W.heap.size W w' := fun W => by
      by_cases h1 : n = 1
      · subst h1; exact after_any v 1 W
      · rw [if_neg (by omega), if_neg h1]; exact after_any v 2 W
    have HC : ∀ W, Calls Tryz.prog 151 #[.agg v.cells, .int .i64 (if v.major = 0 ∧ 1 < (n : Int) then (if v.minor = 0 ∧ 2 < (n : Int) then 3 else 2) else 1)] W fun e w' => e = .returned (.agg (afterV v (caretN v n)).cells) ∧ Below W.heap.size W w' := fun W => by
      have e : (if v.major = 0 ∧ 1 < (n : Int) then (if v.minor = 0 ∧ 2 < (n : Int) then 3 else 2) else 1 : Int) = ((caretN v n : Nat) : Int) := by
        unfold caretN
        have a1 : (1 < (n : Int)) ↔ 1 < n := by omega
        have a2 : (2 < (n : Int)) ↔ 2 < n := by omega
        simp only [a1, a2]
        split
        · split <;> rfl
        · rfl
      rw [e]; exact after_any v _ W
    have nz : ((n : Int) = 0) ↔ n = 0 := by omega
    have n3 : ((n : Int) = 3) ↔ n = 3 := by omega
    have tm : n ≠ 0 → (if n = 1 then 1 else 2) = min n 2 := by intro h; split <;> omega
    obtain ⟨op, hop⟩ : ∃ op, op = sgL t.data.toList := ⟨_, rfl⟩
    show Calls _ _ _ _ (R1End (termD (if sgL t.data.toList = [] ∧ b = true then [94] else sgL t.data.toList) v n) w)
    rw [← hop]
    by_cases k0 : op = []
    · rw [k0] at hop ⊢
      cases b with
      | true => exact r1_caret t u n hn4 v (afterV v n) (afterV v (caretN v n)) hop.symm hu w HP HA HC ht _ (by simp only [nz, n3]; exact td_ca v n)
      | false => exact r1_none t u n hn4 v (afterV v n) hop.symm hu w HP HA ht _ (by simp only [nz, n3]; exact td_none v n)
    · rw [if_neg (fun h => k0 h.1)]
      by_cases k1 : op = [61]
      · rw [k1] at hop ⊢
        exact r1_eq t u b n hn4 v (afterV v n) hop.symm hu w HP HA ht _ (by simp only [nz, n3]; exact td_eq v n)
      by_cases k2 : op = [33, 61]
      · rw [k2] at hop ⊢
        exact r1_ne t u b n hn4 v (afterV v n) hop.symm hu w HP HA ht _ (by simp only [nz, n3]; exact td_ne v n)
      by_cases k3 : op = [62]
      · rw [k3] at hop ⊢
        exact r1_gt t u b n hn4 v (afterV v n) hop.symm hu w HP HA ht _ (by simp only [nz, n3]; exact td_gt v n)
      by_cases k4 : op = [62, 61]
      · rw [k4] at hop ⊢
        exact r1_ge t u b n hn4 v (afterV v n) hop.symm hu w HP HA ht _ (by simp only [nz, n3]; exact td_ge v n)
      by_cases k5 : op = [61, 62]
      · rw [k5] at hop ⊢
        exact r1_eg t u b n hn4 v (afterV v n) hop.symm hu w HP HA ht _ (by simp only [nz, n3]; exact td_eg v n)
      by_cases k6 : op = [60]
      · rw [k6] at hop ⊢
        exact r1_lt t u b n hn4 v (afterV v n) hop.symm hu w HP HA ht _ (by simp only [nz, n3]; exact td_lt v n)
      by_cases k7 : op = [60, 61]
      · rw [k7] at hop ⊢
        exact r1_le t u b n hn4 v (afterV v n) hop.symm hu w HP HA ht _ (by simp only [nz, n3]; exact td_le v n)
      by_cases k8 : op = [61, 60]
      · rw [k8] at hop ⊢
        exact r1_el t u b n hn4 v (afterV v n) hop.symm hu w HP HA ht _ (by simp only [nz, n3]; exact td_el v n)
      by_cases k9 : op = [126]
      · rw [k9] at hop ⊢
        exact r1_ti t u b n hn4 v (afterV v n) (afterV v (if n = 1 then 1 else 2)) hop.symm hu w HP HA HT ht _ (by simp only [nz, n3]; exact td_ti v n)
      by_cases k10 : op = [126, 62]
      · rw [k10] at hop ⊢
        exact r1_tg t u b n hn4 v (afterV v n) (afterV v (if n = 1 then 1 else 2)) hop.symm hu w HP HA HT ht _ (by simp only [nz, n3]; exact td_tg v n)
      by_cases k11 : op = [94]
      · rw [k11] at hop ⊢
        exact r1_ca t u b n hn4 v (afterV v n) (afterV v (caretN v n)) hop.symm hu w HP HA HC ht _ (by simp only [nz, n3]; exact td_ca v n)
      · have tl : ∀ {l : Bs}, op ≠ l → (mkT op).toList ≠ l := fun h => by rw [mkT_tolist]; exact h
        exact r1_other t u (mkT op) (tl k1) (tl k2) (tl k3) (tl k4) (tl k5) (tl k6) (tl k7) (tl k8) (tl k9) (tl k10) (tl k11) (tl k0) b n hn4 v (afterV v n) (by rw [mkT_list]; exact hop.symm) hu w HP HA ht _ (by
          unfold termD
          simp only [k0, k1, k2, k3, k4, k5, k6, k7, k8, k9, k10, k11, or_self, if_false]
          split <;> simp)
end Go.Proofs.YtgoeiflddikihaaGreatDoor.Ver
end
section
namespace Go.Proofs.YtgoeiflddikihaaGreatDoor.Ver
set_option linter.unusedSimpArgs false
set_option linter.unusedVariables false
open Go.RowKit Go.Proofs.YtgoeiflddikihaaGreatDoor.Dig Go.Proofs.YtgoeiflddikihaaGreatDoorW.PrintWords Go.Proofs.YtgoeiflddikihaaGreatDoor.PFnIntersectAny Go.Proofs.YtgoeiflddikihaaGreatDoor.Ord Go.Proofs.YtgoeiflddikihaaGreatDoor.Mem
section
variable {P : Program} {ops : Array Oper} {rest : List Oper} {a : Act} {w : World} {Q : Exit → Act → World → Prop} {d : Option Tmp} {tt : TypeId} {pos : String} {af : Array Edge}
theorem m_loadc {ty : TypeId} {x : Operand} {b off : Nat} {v : Value} (hc : w.cell? ⟨b, off, none⟩ = some v) (hx : a.eval x = .pointer (some ⟨b, off, none⟩) := by rfl) [ht : OneC P ty] (h : wpList P ops Q rest (a.put d v) w) :
    wpList P ops Q (⟨d, .load ty x, tt, pos, af, none⟩ :: rest) a w := by
  obtain ⟨td, hu, hd⟩ := ht.out.row
  refine wpList_plain rfl fun K hK => ?_
  unfold Oper.wp execOp
  have hrun : (loadVar ty ⟨b, off, none⟩).run P w = .ok v w := by
    have hs := ht.out.size
    cases hq : P.info? ty with
    | none => simp [hq] at hs
    | some i =>
      have hs : i.size = 1 := by simpa [hq] using hs
      cases td <;> first
        | (simp [TypeDesc.isRow] at hd; done)
        | (simp [loadVar, isAgg, sizeOf, typeInfo, hq, hs, run_underlying hu, hc, loadCells, go_sem]; done)
  simp only [hx, Instr.loadAt, Instr.sureAddr, Sem.run_bind, Sem.run_pure, Result.andThen_ok, hrun]
  exact hK _ _ h
end
instance cwI1 : OneC Tryz.prog 9 := ⟨⟨_, Tryz.underlying9, rfl⟩, by kernel_rfl⟩
instance cwI2 : SlcC Tryz.prog 48 1 := ⟨⟨_, Tryz.underlying48, by kernel_rfl⟩⟩
theorem StrIn.get {Z L : List Blk} {w0 w : World} {l : List ByteArray} {v : Value} (h : SlIn Z 9 1 l.length (l.map Value.string) v) (H : Blks w0 w L) (hs : ∀ x ∈ Z, x ∈ L) {k : Nat} (hk : k < l.length) :
    ∃ g c, v = .slice (some ⟨g, 0, none⟩) l.length c ∧ w.cell? ⟨g, k * 1, none⟩ = some (.string l[k]) := by
  obtain ⟨g, c, rfl, h1⟩ := row_at (h.owns H hs) hk
  refine ⟨g, c, rfl, ?_⟩
  have := h1 0 (.string l[k]) (by rw [List.getElem?_take_of_lt (by decide), List.getElem?_drop, Nat.add_zero, Nat.mul_one, List.getElem?_map, List.getElem?_eq_getElem hk]; rfl)
  simpa using this
theorem perm_two {a b : Blk} {Z X Y : List Blk} : (a :: b :: (Z ++ X) ++ Y).Perm (b :: ((a :: Z ++ Y) ++ X)) := by
  refine (List.Perm.swap b a (Z ++ X ++ Y)).trans (List.Perm.cons b ?_)
  refine List.Perm.cons a ?_
  show (Z ++ X ++ Y).Perm ((Z ++ Y) ++ X)
  rw [List.append_assoc, List.append_assoc]
  exact List.Perm.append_left _ List.perm_append_comm
theorem altsD_fail {b : Bool} {acc : List PD} {o : Option CnD} {a : ByteArray} {l : List ByteArray} (h : altD a b = none) : altsD b acc o (a :: l) = none := by rw [altsD, h]
theorem altsD_step {b : Bool} {acc : List PD} {o : Option CnD} {a : ByteArray} {l : List ByteArray} {c : CnD} (h : altD a b = some c) : altsD b acc o (a :: l) = altsD b (acc ++ piecesD c) (some c) l := by rw [altsD, h]
theorem termsD_fail {b : Bool} {c : CnD} {t : ByteArray} {l : List ByteArray} (h : read1D (trimD t) b = none) : termsD b c (t :: l) = none := by rw [termsD, h]
theorem termsD_step {b : Bool} {c d : CnD} {t : ByteArray} {l : List ByteArray} (h : read1D (trimD t) b = some d) : termsD b c (t :: l) = termsD b (meetC c d) l := by rw [termsD, h]
def OIn (Z : List Blk) (o : Option CnD) (v : Value) : Prop := match o with
  | none => v = .nilIface
  | some c => CnIn Z c v
theorem OIn.mono {Z Z' : List Blk} {o : Option CnD} {v : Value} (h : OIn Z o v) (hs : ∀ x ∈ Z, x ∈ Z') : OIn Z' o v := by
  cases o with
  | none => exact h
  | some c => exact CnIn.mono h hs
set_option maxRecDepth 20000 in
set_option maxHeartbeats 16000000 in
theorem con_any (t : ByteArray) (ht : t.size ≤ 96) (b : Bool) (w : World) (hv : Vars w) : Calls Tryz.prog 127 #[.string t, .bool b] w (R1End (conV t b) w) := by
  obtain ⟨r, hr⟩ : ∃ r, r = conV t b := ⟨_, rfl⟩
  rw [← hr]
  unfold conV at hr
  have hS1 := fun W => splitD_calls t barsT (by omega) (by decide) (by decide) W
  have hA1 : ∀ x ∈ splitD barsT t, x.size ≤ 96 := fun x hx => Nat.le_trans (splitD_size (by decide) hx) ht
  have hA2 : (splitD barsT t).length ≤ 49 := by have := splitD_len (sep := barsT) (s := t) (by decide); have e : barsT.size = 2 := rfl; rw [e] at this; omega
  generalize splitD barsT t = alts at hr hS1 hA1 hA2
  have HR := Lib.hid hr
  have HS1 := Lib.hid hS1
  have HAS := Lib.hid hA1
  have HAN := Lib.hid hA2
  have HRA := Lib.hid (fun (s : ByteArray) (hs : s.size ≤ 96) W hb => read1_any s (by omega) b W (hv.below hb))
  have f1 := c_range_sv
  have f2 := c_range_range
  have f3 := m_range_Intersect
  have f4 := m_sv_Intersect
  have f5 := c_sv_sv
  have HM := Aside0.mk (Blks.start w)
  clear hr hS1 hA1 hA2 hv
  go_enter Tryz.func127, Tryz.ntmps127
  go_wp2_with (first | ((with_reducible refine id_alloc ?_); (refine n_al ?_; clear HM; intro b6 wq HM)) | (go_at_call 140; ((with_reducible refine (HS1.out _).mono ?_); rintro e w1 ⟨⟨vs, rfl, hst⟩, hb⟩; obtain ⟨Z, hbl, hin⟩ := addSt n_own hb hst; obtain ⟨A0, c0, rfl, hmx⟩ := hin.val; have HS0 := Lib.hid hin; have HX0 := Lib.hid hmx; clear HM hb hst hin hmx; have HM := Aside0.mk hbl; simp only [List.cons_append, List.nil_append] at HM; clear hbl)))
  go_loopw [7, 8, 21] (fun v7 v8 v21 wr => ∃ (k : Nat) (acc : List PD) (o : Option CnD) (xs : List Value) (vo : Value) (X Z' : List Blk), v21 = .int .i64 (k : Int) ∧ v7 = .int .i64 (k : Int) ∧ k ≤ alts.length ∧ Hid (altsD b acc o (alts.drop k) = altsD b [] none alts) ∧ Hid (OIn Z' o v8) ∧ Hid ((0 < k → o ≠ none) ∧ acc.length ≤ k * 16777216) ∧ Hid (PIn Z' xs acc) ∧ Hid (SlB 242 17 acc.length xs vo X) ∧ Hid (∀ x ∈ Z, x ∈ Z') ∧ Aside0 (Blks w wr ((b6, [vo], 238) :: (Z' ++ X)))) (fun _ _ v21 _ => alts.length - (intOf v21).toNat)
  case atStart => exact ⟨0, [], none, [], .slice none 0 0, [], Z, rfl, rfl, Nat.zero_le _, Lib.hid rfl, Lib.hid rfl, Lib.hid ⟨fun h => absurd h (by decide), Nat.zero_le _⟩, Lib.hid PIn.nil, Lib.hid (SlB.nil _ _), Lib.hid (fun _ h => h), ⟨by rw [List.append_nil]; exact n_own⟩⟩
  case round =>
    obtain ⟨k, acc, o, xs, vo, X, ZP, rfl, rfl, hk, HK, HO, HLO, HPR, HSL, HSU, HM1⟩ := hrel
    clear HM
    have HM := HM1
    clear HM1
    obtain ⟨Ao, co, rfl, _⟩ := HSL.out.val
    by_cases hlt : k < alts.length
    · obtain ⟨g, cc, hg, hat⟩ := StrIn.get (HS0.out.mono HSU.out) HM.out (fun x hx => List.mem_cons_of_mem _ (List.mem_append_left _ hx)) hlt
      obtain ⟨rfl, _, rfl⟩ := Value.slice.inj hg
      have hkk := HK.out
      rw [List.drop_eq_getElem_cons hlt] at hkk
      have has := HAS.out _ (List.getElem_mem hlt)
      clear hg
      generalize alts[k] = a at hat hkk has
      have hT1 := fun W => splitD_calls a commaT (by omega) (by decide) (by decide) W
      have hT2 : ∀ x ∈ splitD commaT a, x.size ≤ 96 := fun x hx => Nat.le_trans (splitD_size (by decide) hx) has
      have hT3 : ((splitD commaT a).map (fun x => x.size + 1)).sum ≤ 97 := by have := splitD_sum commaT a (by decide); have e : commaT.size = 1 := rfl; rw [e] at this; omega
      have hAL : altD a b = termsD b (.rng [zPD]) (splitD commaT a) := rfl
      generalize splitD commaT a = ts at hT1 hT2 hT3 hAL
      have HE := Lib.hid hat
      have HKK := Lib.hid hkk
      have HS2 := Lib.hid hT1
      have HTS := Lib.hid hT2
      have HT3 := Lib.hid hT3
      have HAL := Lib.hid hAL
      clear hat hkk has hT1 hT2 hT3 hAL
      go_wp2_with (first | ((with_reducible refine id_index ?_); refine m_index (x := .tmp 19) hlt rfl rfl ?_) | ((with_reducible refine id_load ?_); refine m_loadc HE.out rfl ?_) | ((with_reducible refine id_slice ?_); (refine n_sl Tryz.underlying236 (by rw [Array.toList_map]; exact slice_one infoPc rfl (by decide) _ rfl) ?_; clear HM; intro bz wq HM)) | (go_at_call 140; ((with_reducible refine (HS2.out _).mono ?_); rintro e w2 ⟨⟨vt, rfl, hst⟩, hb⟩; obtain ⟨Z1, hbl, hin⟩ := addSt n_own hb hst; obtain ⟨A1, c1, rfl, hmx⟩ := hin.val; have HS3 := Lib.hid hin; have HX1 := Lib.hid hmx; clear HM hb hst hin hmx; have HM := Aside0.mk (hbl.perm perm_two); clear hbl)))
      clear HE
      obtain ⟨ZQ, hzq⟩ : ∃ ZQ, ZQ = (bz, zPc.toList, 242) :: ZP ++ Z1 := ⟨_, rfl⟩
      have HSQ := Lib.hid (show ∀ x ∈ ZP, x ∈ ZQ by rw [hzq]; exact fun x hx => List.mem_append_left _ (List.mem_cons_of_mem _ hx))
      have HSR := Lib.hid (show ∀ x ∈ Z1, x ∈ ZQ by rw [hzq]; exact fun x hx => List.mem_append_right _ hx)
      have HBZ := Lib.hid (show (bz, zPc.toList, 242) ∈ ZQ by rw [hzq]; exact List.mem_append_left _ (List.mem_cons_self))
      change Aside0 (Blks w _ ((b6, _, _) :: (((bz, zPc.toList, 242) :: ZP ++ Z1) ++ X))) at HM
      rw [← hzq] at HM
      clear hzq
      go_loopw [11, 32] (fun v11 v32 wr => ∃ (j : Nat) (c : CnD) (B : Nat) (ZI : List Blk), v32 = .int .i64 (j : Int) ∧ j ≤ ts.length ∧ Hid (termsD b c (ts.drop j) = termsD b (.rng [zPD]) ts) ∧ Hid (TB B j c ∧ B + ((ts.drop j).map (fun x => x.size + 1)).sum ≤ 97) ∧ Hid (CnIn ZI c v11) ∧ Hid (∀ x ∈ ZQ, x ∈ ZI) ∧ Aside0 (Blks w wr ((b6, [.slice Ao acc.length co], 238) :: (ZI ++ X)))) (fun _ v32 _ => ts.length - (intOf v32).toNat)
      case atStart => exact ⟨0, .rng [zPD], 0, ZQ, rfl, Nat.zero_le _, Lib.hid rfl, Lib.hid ⟨TB.zero, by rw [List.drop_zero, Nat.zero_add]; exact HT3.out⟩, Lib.hid ⟨_, rfl, zPc.toList, Or.inr ⟨bz, 1, [], rfl, Nat.le_refl _, by unfold maxLen; omega, rfl, rfl, by rw [List.append_nil]; exact HBZ.out⟩, PIn.cons (bv := .slice none 0 0) (xs := []) (p := zPD) (SlIn.nil _ _ _) PIn.nil⟩, Lib.hid (fun _ h => h), ⟨n_own⟩⟩
      case round =>
        clear HM
        obtain ⟨j, c, B, ZI, rfl, hj, HJ, HTB, HCI, HSI, HM⟩ := hrel
        by_cases hlj : j < ts.length
        · obtain ⟨g2, cc, hg, hat⟩ := StrIn.get (HS3.out.mono (fun x hx => HSI.out x (HSR.out x hx))) HM.out (fun x hx => List.mem_cons_of_mem _ (List.mem_append_left _ hx)) hlj
          obtain ⟨rfl, _, rfl⟩ := Value.slice.inj hg
          have hjj := HJ.out
          have htb := HTB.out
          rw [List.drop_eq_getElem_cons hlj] at hjj htb
          rw [List.map_cons, List.sum_cons] at htb
          have hts := HTS.out _ (List.getElem_mem hlj)
          clear hg
          generalize ts[j] = tt at hat hjj htb hts
          have htr := trimD_size tt
          have hRD := HRA.out (trimD tt) (by omega)
          have hTR := fun W => trimD_calls tt (by omega) W
          have HE := Lib.hid hat
          have HTR := Lib.hid hTR
          cases hrd : read1D (trimD tt) b with
          | none =>
            rw [hrd] at hRD
            have HRD := Lib.hid hRD
            rw [termsD_fail hrd] at hjj
            have hal := HAL.out
            rw [← hjj] at hal
            have hkk := HKK.out
            rw [altsD_fail hal] at hkk
            have hr := HR.out
            rw [← hkk] at hr
            obtain rfl : r = none := hr
            clear hat hjj htb hts hrd hRD hTR htr hal hkk
            unfold R1End at HRD
            go_wp2_with (first | ((with_reducible refine id_index ?_); refine m_index (x := .tmp 30) hlj rfl rfl ?_) | ((with_reducible refine id_load ?_); refine m_loadc HE.out rfl ?_) | (go_at_call 142; ((with_reducible refine (HTR.out _).mono ?_); rintro e w4 ⟨rfl, ⟨nq, rfl⟩⟩; replace HM := n_drew nq)) | (go_at_call 141; ((with_reducible refine (HRD.out _ n_bel).mono ?_); rintro e w5 ⟨⟨ae, rfl⟩, hb⟩; replace HM := n_call hb; clear hb)))
            (try simp only [Exit.inBlock, Exit.then])
            go_ret2
            exact R1End.bad HM.out.bel
          | some d =>
            rw [hrd] at hRD
            have HRD := Lib.hid hRD
            rw [termsD_step hrd] at hjj
            have hTB2 := htb.1.step hrd htr (by omega)
            have hB97 : B ≤ 97 := by omega
            have hsum : B + (tt.size + 1) + ((ts.drop (j + 1)).map (fun x => x.size + 1)).sum ≤ 97 := by omega
            have hlen : j ≤ 100 := by have h1 := HT3.out; have h2 := sum_len ts 1; omega
            have hd := (read1D_is (by omega) hrd).1
            have HJ2 := Lib.hid hjj
            have HTB2 := Lib.hid (And.intro hTB2 hsum)
            unfold R1End at HRD
            have hci := HCI.out
            cases c with
            | ver u =>
              obtain rfl := hci
              have HIS := Lib.hid (fun (W : World) (x : Value) (h : CnAt W 0 d x) => vi_any u htb.1.1 d hd x W h)
              clear hat hjj htb hts hrd hRD hTR htr hTB2 hsum hB97 hlen hd HCI HTB HJ
              go_wp2_with (first | ((with_reducible refine id_index ?_); refine m_index (x := .tmp 30) hlj rfl rfl ?_) | ((with_reducible refine id_load ?_); refine m_loadc HE.out rfl ?_) | (go_at_call 142; ((with_reducible refine (HTR.out _).mono ?_); rintro e w4 ⟨rfl, ⟨nq, rfl⟩⟩; replace HM := n_drew nq)) | (go_at_call 141; ((with_reducible refine (HRD.out _ n_bel).mono ?_); rintro e w5 ⟨⟨xc, rfl, hxa⟩, hb⟩; obtain ⟨Z3, hbl, hin⟩ := addCn n_own hb hxa; clear HM hb hxa; have HM := Aside0.mk (hbl.perm (perm_in (B := [_]) (Z := ZI) (X := X) (Y := Z3))); simp only [List.cons_append, List.nil_append] at HM; clear hbl; have HXV := Lib.hid hin; clear hin)) | (go_at_call 231; ((with_reducible refine (HIS.out _ _ ((CnIn.at HXV.out n_own (fun x hx => List.mem_cons_of_mem _ (List.mem_append_left _ (List.mem_append_right _ hx)))).mono (Nat.zero_le _))).mono ?_); rintro e w6 ⟨⟨xi, rfl, hxa⟩, hb⟩; obtain ⟨Z4, hbl, hin⟩ := addCn n_own hb hxa; clear HM hb hxa; have HM := Aside0.mk (hbl.perm (perm_in (B := [_]) (Z := ZI ++ Z3) (X := X) (Y := Z4))); simp only [List.cons_append, List.nil_append] at HM; clear hbl; have HXI := Lib.hid hin; clear hin)))
              refine ⟨⟨j + 1, _, _, (ZI ++ Z3) ++ Z4, ?_, by omega, HJ2, HTB2, Lib.hid (HXI.out.mono (fun x hx => List.mem_append_right _ hx)), Lib.hid (fun x hx => List.mem_append_left _ (List.mem_append_left _ (HSI.out x hx))), HM⟩, ?_⟩
              · rw [wrap_step hlj HX1.out]
              · rw [wrap_step hlj HX1.out]; exact meas_step hlj
            | rng l =>
              obtain ⟨rv, rfl, hrv⟩ := hci
              obtain ⟨i1, i2⟩ := htb.1.isect hB97 hlen (by omega) hrd
              have HIS := Lib.hid (fun (W : World) (x : Value) (h0 : RngAt W 0 rv l) (h : CnAt W 0 d x) => ri_any l htb.1.1 i1 d hd i2 rv x W h0 h)
              have HRV := Lib.hid hrv
              clear hat hjj htb hts hrd hRD hTR htr hTB2 hsum hB97 hlen hd HCI HTB HJ i1 i2 hrv
              go_wp2_with (first | ((with_reducible refine id_index ?_); refine m_index (x := .tmp 30) hlj rfl rfl ?_) | ((with_reducible refine id_load ?_); refine m_loadc HE.out rfl ?_) | (go_at_call 142; ((with_reducible refine (HTR.out _).mono ?_); rintro e w4 ⟨rfl, ⟨nq, rfl⟩⟩; replace HM := n_drew nq)) | (go_at_call 141; ((with_reducible refine (HRD.out _ n_bel).mono ?_); rintro e w5 ⟨⟨xc, rfl, hxa⟩, hb⟩; obtain ⟨Z3, hbl, hin⟩ := addCn n_own hb hxa; clear HM hb hxa; have HM := Aside0.mk (hbl.perm (perm_in (B := [_]) (Z := ZI) (X := X) (Y := Z3))); simp only [List.cons_append, List.nil_append] at HM; clear hbl; have HXV := Lib.hid hin; clear hin)) | (go_at_call 295; ((with_reducible refine (HIS.out _ _ ((RgIn.at HRV.out n_own (fun x hx => List.mem_cons_of_mem _ (List.mem_append_left _ (List.mem_append_left _ hx)))).mono (Nat.zero_le _)) ((CnIn.at HXV.out n_own (fun x hx => List.mem_cons_of_mem _ (List.mem_append_left _ (List.mem_append_right _ hx)))).mono (Nat.zero_le _))).mono ?_); rintro e w6 ⟨⟨xi, rfl, hxa⟩, hb⟩; obtain ⟨Z4, hbl, hin⟩ := addCn n_own hb hxa; clear HM hb hxa; have HM := Aside0.mk (hbl.perm (perm_in (B := [_]) (Z := ZI ++ Z3) (X := X) (Y := Z4))); simp only [List.cons_append, List.nil_append] at HM; clear hbl; have HXI := Lib.hid hin; clear hin)))
              refine ⟨⟨j + 1, _, _, (ZI ++ Z3) ++ Z4, ?_, by omega, HJ2, HTB2, Lib.hid (HXI.out.mono (fun x hx => List.mem_append_right _ hx)), Lib.hid (fun x hx => List.mem_append_left _ (List.mem_append_left _ (HSI.out x hx))), HM⟩, ?_⟩
              · rw [wrap_step hlj HX1.out]
              · rw [wrap_step hlj HX1.out]; exact meas_step hlj
        · have : j = ts.length := by omega
          subst this
          have hal := HJ.out
          rw [List.drop_length, termsD] at hal
          have hAL := HAL.out
          rw [← hal] at hAL
          have hkk := HKK.out
          rw [altsD_step hAL] at hkk
          have hpc := HTB.out.1.pieces (by have := HTB.out.2; omega)
          have HKN := Lib.hid hkk
          have hba : acc.length + (piecesD c).length ≤ (k + 1) * 16777216 := by have := HLO.out.2; omega
          have hbb : acc.length + (piecesD c).length ≤ 822083584 := by
            have := HAN.out
            have h2 : (k + 1) * 16777216 ≤ 49 * 16777216 := Nat.mul_le_mul_right _ (by omega)
            omega
          have HBB := Lib.hid hba
          have HBA := Lib.hid hbb
          have hci := HCI.out
          clear hal hAL hkk hpc hba hbb HJ HTB HKK HAL
          cases c with
          | ver u =>
            obtain ⟨ua, ub, uc, up, um, uo⟩ := u
            obtain rfl := hci
            have HBA := Lib.hid (show acc.length + 1 ≤ 822083584 from HBA.out)
            dsimp only [SV.cells]
            go_wp2_with (first | ((with_reducible refine id_alloc ?_); (refine n_al ?_; clear HM; intro b16 wq HM)) | ((with_reducible refine id_load ?_); refine n_ld1 ?_) | ((with_reducible refine id_load ?_); refine n_ld ?_) | ((with_reducible refine id_slice ?_); (refine n_sl Tryz.underlying236 (by rw [Array.toList_map]; exact slice_one infoPc rfl (by decide) _ rfl) ?_; clear HM; intro bs wq HM)) | (at_builtin; (refine m_append (Y := _ :: _ :: _ :: ZI) (X := X) n_own rfl HSL.out Tryz.underlying236 infoPc (by decide) rfl rfl rfl (Src.ofSlice _ Tryz.underlying236 _ _ _ (pcl { zPD with lo := ⟨ua, ub, uc, up, um, uo⟩, hi := ⟨ua, ub, uc, up, um, uo⟩, hl := true, hh := true, wl := true, wh := true } (.slice none 0 0)) rfl (Blks.addr (rest := []) HM.out n_mem) (pcl_one _ rfl)) (by have := HBA.out; omega) (by have := HBA.out; unfold maxLen; omega) ?_; intro v2 X2 w2 HN hk2; obtain ⟨A2, c2, rfl, _⟩ := hk2.out.val; clear HM; have HM := HN; clear HN; simp only [List.cons_append] at HM; have HA2 := hk2; clear hk2)) | ((with_reducible refine id_store ?_); (refine n_st1 ?_; clear HM; intro wq HM)) | ((with_reducible refine id_store ?_); (refine n_st ?_; clear HM; intro wq HM)))
            refine ⟨⟨k + 1, acc ++ piecesD (.ver ⟨ua, ub, uc, up, um, uo⟩), some (.ver ⟨ua, ub, uc, up, um, uo⟩), xs ++ pcl { zPD with lo := ⟨ua, ub, uc, up, um, uo⟩, hi := ⟨ua, ub, uc, up, um, uo⟩, hl := true, hh := true, wl := true, wh := true } (.slice none 0 0), _, X2, ZI, ?_, ?_, by omega, HKN, Lib.hid rfl, Lib.hid ⟨fun _ h => (by cases h), by rw [List.length_append]; exact HBB.out⟩, Lib.hid (PIn.app (HPR.out.mono (fun x hx => HSI.out x (HSQ.out x hx))) (by have := PIn.cons (Z := ZI) (bv := .slice none 0 0) (p := { zPD with lo := ⟨ua, ub, uc, up, um, uo⟩, hi := ⟨ua, ub, uc, up, um, uo⟩, hl := true, hh := true, wl := true, wh := true }) (SlIn.nil _ _ _) PIn.nil; rwa [List.append_nil] at this)), Lib.hid (by rw [List.length_append]; exact HA2.out), Lib.hid (fun x hx => HSI.out x (HSQ.out x (HSU.out x hx))), ⟨Blks.less n_own (by repeat (first | exact List.Sublist.refl _ | apply List.Sublist.cons_cons | apply List.Sublist.cons))⟩⟩, ?_⟩
            · rw [wrap_step hlt HX0.out]
            · rw [wrap_step hlt HX0.out]
            · rw [wrap_step hlt HX0.out]; exact meas_step hlt
          | rng l =>
            obtain ⟨rv, rfl, ys, hsi, hpi⟩ := hci
            obtain ⟨A3, c3, rfl, _⟩ := hsi.val
            have HSI2 := Lib.hid hsi
            have HPI := Lib.hid hpi
            have HO1 := Lib.hid ((hpi.rep HM.out (fun x hx => List.mem_cons_of_mem _ (List.mem_append_left _ hx))).one)
            clear hsi hpi
            have HBA := Lib.hid (show acc.length + l.length ≤ 822083584 from HBA.out)
            go_wp2_with (first | ((with_reducible refine id_alloc ?_); (refine n_al ?_; clear HM; intro b17 wq HM)) | ((with_reducible refine id_load ?_); refine n_ld1 ?_) | ((with_reducible refine id_load ?_); refine n_ld ?_) | (at_builtin; (refine m_append (Y := _ :: _ :: ZI) (X := X) n_own rfl HSL.out Tryz.underlying236 infoPc (by decide) rfl rfl rfl (row_src Tryz.underlying236 (HSI2.out.owns HM.out (fun x hx => List.mem_cons_of_mem _ (List.mem_cons_of_mem _ (List.mem_append_left _ hx)))) HO1.out) (by have := HBA.out; omega) (by have := HBA.out; unfold maxLen; omega) ?_; intro v2 X2 w2 HN hk2; obtain ⟨A2, c2, rfl, _⟩ := hk2.out.val; clear HM; have HM := HN; clear HN; simp only [List.cons_append] at HM; have HA2 := hk2; clear hk2)) | ((with_reducible refine id_store ?_); (refine n_st1 ?_; clear HM; intro wq HM)) | ((with_reducible refine id_store ?_); (refine n_st ?_; clear HM; intro wq HM)))
            refine ⟨⟨k + 1, acc ++ piecesD (.rng l), some (.rng l), xs ++ ys, _, X2, ZI, ?_, ?_, by omega, HKN, HCI, Lib.hid ⟨fun _ h => (by cases h), by rw [List.length_append]; exact HBB.out⟩, Lib.hid (PIn.app (HPR.out.mono (fun x hx => HSI.out x (HSQ.out x hx))) HPI.out), Lib.hid (by rw [List.length_append]; exact HA2.out), Lib.hid (fun x hx => HSI.out x (HSQ.out x (HSU.out x hx))), ⟨Blks.less n_own (by repeat (first | exact List.Sublist.refl _ | apply List.Sublist.cons_cons | apply List.Sublist.cons))⟩⟩, ?_⟩
            · rw [wrap_step hlt HX0.out]
            · rw [wrap_step hlt HX0.out]
            · rw [wrap_step hlt HX0.out]; exact meas_step hlt
    · have : k = alts.length := by omega
      subst this
      have hk0 := HK.out
      rw [List.drop_length, altsD] at hk0
      have hr := HR.out
      rw [← hk0] at hr
      by_cases h1 : alts.length = 1
      · cases o with
        | none => exact absurd rfl (HLO.out.1 (by omega))
        | some c =>
          have hr2 : r = some c := by
            rw [hr]
            show some (if alts.length = 1 then _ else _) = _
            rw [if_pos h1]; rfl
          have q1 : (((alts.length : Nat) : Int) == 1) = true := by rw [h1]; rfl
          clear hr h1 hk0
          subst hr2
          go_wp2_with fail
          go_ret2
          exact ⟨⟨_, rfl, CnIn.at HO.out HM.out (fun x hx => List.mem_cons_of_mem _ (List.mem_append_left _ hx))⟩, HM.out.bel⟩
      · have hr2 : r = some (.rng acc) := by
          rw [hr]
          show some (if alts.length = 1 then _ else _) = _
          rw [if_neg h1]
        have q1 : (((alts.length : Nat) : Int) == 1) = false := beq_eq_false_iff_ne.2 (by omega)
        clear hr h1 hk0
        subst hr2
        go_wp2_with (first | ((with_reducible refine id_load ?_); refine n_ld ?_))
        go_ret2
        exact ⟨⟨_, rfl, _, rfl, _, HSL.out.owns HM.out (fun x hx => List.mem_cons_of_mem _ (List.mem_append_right _ hx)), HPR.out.rep HM.out (fun x hx => List.mem_cons_of_mem _ (List.mem_append_left _ hx))⟩, HM.out.bel⟩
end Go.Proofs.YtgoeiflddikihaaGreatDoor.Ver
end
