/- Merged by program out of: VFmt, Sort, After, Sort2. -/
import Derived.Test.YtgoeiflddikihaaGreatDoorCpM16
import Derived.Lib.ItoaMem
import Derived.WalkKit
import Derived.Sort.AssemblyPlain
import Derived.Sort.Row
import Derived.LoopTactic
import Derived.Lib.BufferOwn
import Derived.Maps.AppendAt
import Derived.WalkLawsBesides
import Derived.RegionTactic
import Derived.BigRegion
import Derived.Test.YtgoeiflddikihaaGreatDoorCpM3
section
namespace Go.Proofs.YtgoeiflddikihaaGreatDoor.Ver
open Go.RowKit Go.Sort Go.Proofs.YtgoeiflddikihaaGreatDoor.Dig Go.Proofs.YtgoeiflddikihaaGreatDoorW.PrintWords
theorem zero_row (w : World) (T : TypeId) (nd : Nat) (hs : nd ≤ 24) : Holds (fun (b : UInt8) => Value.int .u8 (b.toNat : Int)) (w.alloc (.cells Lib.zeros24 T)) w.heap.size 0 (Array.replicate nd (0 : UInt8)) := fun j hj => by
  have hj' : j < nd := by simpa using hj
  refine ⟨?_, World.frozen?_alloc_new _ _ _ _⟩
  rw [World.cell?_alloc_new, Lib.zeros24_at _ (by omega), getElem!_pos _ j hj]
  simp
theorem row_below (w : World) (o : Obj) (dk : Array UInt8) (k : Nat) : Below w.heap.size w ((putRow (fun (b : UInt8) => Value.int .u8 (b.toNat : Int)) (w.alloc o) w.heap.size 0 dk).drewN k) := by
  rw [alloc_eq_grow]
  obtain ⟨os', _, e⟩ := putRow_grow_new (fun (b : UInt8) => Value.int .u8 (b.toNat : Int)) w #[o] w.heap.size 0 dk (Nat.le_refl _)
  rw [e]
  exact ⟨rfl, by simp [World.drewN, Sort.grow], rfl, by simp [World.drewN, Sort.grow], fun j hj => by simp [World.drewN, Sort.grow, Array.getElem?_append]; intro h; exact absurd h (by omega)⟩
set_option maxRecDepth 20000 in
theorem fmtU_inner (u : Nat) (hu : u < 18446744073709551616) (w : World) (hv : Vars w) : Calls Tryz.prog 236 #[.int .u64 u, .int .i64 10] w fun e w' => e = .returned (.string ⟨(Lib.decDigits u).toArray⟩) ∧ Below w.heap.size w w' := by
  by_cases hs : u < 100
  · go_enter Tryz.func236, Tryz.ntmps236
    go_wp2_with (go_at_call 168; (refine (Tryz.internal_strconv_small u hs _).mono ?_; rintro e w' ⟨rfl, rfl⟩))
    go_ret
    exact ⟨rfl, Below.refl _ _⟩
  · have hu1 : 1 ≤ u := by omega
    have hnd20 : Lib.nDigits u ≤ 20 := by have := Lib.numDigits_eq u hu1 hu; split at this <;> omega
    have hsl1 : ∀ W, (Instr.sliceAt 277 (.pointer (some ⟨w.heap.size, 0, none⟩)) none (some (.int .i64 (Lib.nDigits u : Int))) none).run Tryz.prog W = .ok (.slice (some ⟨w.heap.size, 0, none⟩) (Lib.nDigits u) 24) W := fun W => by
      rw [run_sliceAt_array_h W 277 ⟨w.heap.size, 0, none⟩ (by kernel_rfl) .i64 (Lib.nDigits u : Int) (by omega) (by rw [show Tryz.prog.arrayLen 277 = 24 by kernel_rfl]; omega)]
      rw [show Tryz.prog.arrayLen 277 = 24 by kernel_rfl, show Tryz.prog.elem 277 = 5 by kernel_rfl, show (sizeOf 5).run Tryz.prog W = .ok 1 W by kernel_rfl]
      simp [Result.andThen, slicedAt, Lib.add_plain]
    have hH0 := zero_row w 277 (Lib.nDigits u) (by omega)
    have hfmt := Tryz.internal_strconv_formatBase10 w.heap.size 0 24 u (Array.replicate (Lib.nDigits u) 0) (w.alloc (.cells Lib.zeros24 277)) hH0 (by rw [Array.size_replicate]; exact Lib.lt_pow_nDigits u) hu (by rw [Array.size_replicate]; omega)
    rw [Array.size_replicate] at hfmt
    have HH0 := Lib.hid hH0
    have HT := Lib.hid (Tryz.internal_strconv_numDigits u hu1 hu _ (Lib.tabIs_alloc hv.tab (.cells Lib.zeros24 277)))
    have HF := Lib.hid hfmt
    clear hH0 hv hfmt
    go_enter Tryz.func236, Tryz.ntmps236
    go_wp2_with (first
      | (go_at_call 169; (refine HT.out.mono ?_; rintro e w' ⟨rfl, rfl⟩))
      | (go_at_call 170; (refine HF.out.mono ?_; rintro e w' ⟨rfl, k, v', dk, rfl, hF⟩; refine Hid.out ?_)))
    have hcv : (convert 80 9 (.slice (some ⟨w.heap.size, 0, none⟩) (Lib.nDigits u) 24)).run Tryz.prog ((putRow (fun (b : UInt8) => Value.int .u8 (b.toNat : Int)) (w.alloc (.cells Lib.zeros24 277)) w.heap.size 0 dk).drewN k) = .ok (.string ⟨(Lib.decDigits u).toArray⟩) ((putRow (fun (b : UInt8) => Value.int .u8 (b.toNat : Int)) (w.alloc (.cells Lib.zeros24 277)) w.heap.size 0 dk).drewN k) := by
      have h := run_convert_bytes_back (P := Tryz.prog) ((putRow (fun (b : UInt8) => Value.int .u8 (b.toNat : Int)) (w.alloc (.cells Lib.zeros24 277)) w.heap.size 0 dk).drewN k) 80 9 5 ⟨w.heap.size, 0, none⟩ 24 (Lib.decDigits u) Tryz.underlying80 Tryz.underlying5 Tryz.underlying9 (fun j hj => by
        rw [Lib.row_is_numeral hF j hj, Lib.add_plain, World.cell?_drewN]
        exact cell?_putRow (fun (b : UInt8) => Value.int .u8 (b.toNat : Int)) _ w.heap.size 0 _ dk HH0.out (by rw [hF.size, Array.size_replicate]) j (by rw [hF.size]; rw [Lib.decDigits_length] at hj; exact hj))
      rw [Lib.decDigits_length] at h
      exact h
    clear hF
    refine Lib.hid ?_
    go_wp2_with fail
    go_ret
    exact ⟨rfl, row_below w _ dk k⟩
theorem fmtU_any (u : Nat) (hu : u < 18446744073709551616) (w : World) (hv : Vars w) : Calls Tryz.prog 235 #[.int .u64 u, .int .i64 10] w fun e w' => e = .returned (.string ⟨(Lib.decDigits u).toArray⟩) ∧ Below w.heap.size w w' := by
  have H := Lib.hid (fmtU_inner u hu w hv)
  clear hv
  go_enter Tryz.func235, Tryz.ntmps235
  go_wp2_with (go_at_call 236; (refine H.out.mono ?_; rintro e w' ⟨rfl, hb⟩))
  go_ret
  exact ⟨rfl, hb⟩
end Go.Proofs.YtgoeiflddikihaaGreatDoor.Ver
end
section
namespace Go.Proofs.YtgoeiflddikihaaGreatDoor.Srt
open Go.RowKit Go.Proofs.YtgoeiflddikihaaGreatDoorW.PrintWords Go.Sort
section plain
variable {α : Type} [Inhabited α] (lt : α → α → Bool)
theorem inner_go (a j : Nat) (d : Array α) (hj : a < j) (hl : lt d[j]! d[j - 1]! = true) : insInner lt a j d = insInner lt a (j - 1) (swp d j (j - 1)) := by
  cases j with
  | zero => omega
  | succ j =>
    have h2 : lt d[j + 1]! d[j]! = true := hl
    simp only [insInner]
    rw [if_pos (by rw [h2, Bool.and_true]; exact decide_eq_true hj)]
    rfl
theorem inner_stop (a j : Nat) (d : Array α) (h : j ≤ a ∨ lt d[j]! d[j - 1]! = false) : insInner lt a j d = d := by
  cases j with
  | zero => rfl
  | succ j =>
    simp only [insInner]
    rw [if_neg]
    rcases h with h | h
    · rw [decide_eq_false (by omega)]; simp
    · have h2 : lt d[j + 1]! d[j]! = false := h
      rw [h2, Bool.and_false]; simp
theorem outer_go (a b i : Nat) (d : Array α) (h : i < b) : insOuter lt a b i d = insOuter lt a b (i + 1) (insInner lt a i d) := by rw [insOuter, if_pos h]
theorem outer_stop (a b i : Nat) (d : Array α) (h : ¬ i < b) : insOuter lt a b i d = d := by rw [insOuter, if_neg h]
theorem swp_size (d : Array α) (i j : Nat) : (swp d i j).size = d.size := by simp [swp]
end plain
variable {α : Type} [Inhabited α]
structure SI (enc : α → Value) (w : World) (blk off : Nat) (d : Array α) (W : World) : Prop where
  gr : w.grownBy W (some blk)
  holds : Holds enc W blk off d
  lt : blk < w.heap.size
theorem SI.below {enc : α → Value} {w : World} {blk off : Nat} {d : Array α} {W W' : World} (h : SI enc w blk off d W) (hb : Below W.heap.size W W') : SI enc w blk off d W' := by
  have hl : blk < W.heap.size := Nat.lt_of_lt_of_le h.lt h.gr.size
  refine ⟨h.gr.trans (grown_of_below hb _), fun j hj => ?_, h.lt⟩
  obtain ⟨h1, h2⟩ := h.holds j hj
  exact ⟨(hb.cell (p := ⟨blk, off + j, none⟩) hl).trans h1, (hb.frozen (p := ⟨blk, off + j, none⟩) hl).trans h2⟩
theorem SI.drewN {enc : α → Value} {w : World} {blk off : Nat} {d : Array α} {W : World} (h : SI enc w blk off d W) (n : Nat) : SI enc w blk off d (W.drewN n) := h.below (pw_below_drewN (Below.refl _ _) n)
theorem set_holds {enc : α → Value} {W : World} {blk off : Nat} {d : Array α} (h : Holds enc W blk off d) {i : Nat} (hi : i < d.size) (x : α) : Holds enc (W.setCell ⟨blk, off + i, none⟩ (enc x)) blk off (d.setIfInBounds i x) := by
  intro j hj
  have hj' : j < d.size := by simpa using hj
  obtain ⟨h1, h2⟩ := h j hj'
  refine ⟨?_, by rw [World.frozen?_setCell]; exact h2⟩
  by_cases e : i = j
  · subst e
    rw [getElem!_set_same d i x hi]
    exact World.cell?_setCell_same _ _ _ h1
  · rw [getElem!_set_other d i j x (fun e' => e e'.symm), World.cell?_setCell_other _ _ _ _ (by intro e'; injection e' with _ e'; omega)]
    exact h1
theorem SI.swap {enc : α → Value} {w : World} {blk off : Nat} {d : Array α} {W : World} (h : SI enc w blk off d W) {i j : Nat} (hi : i < d.size) (hj : j < d.size) :
    SI enc w blk off (swp d i j) ((W.setCell ⟨blk, off + i, none⟩ (enc d[j]!)).setCell ⟨blk, off + j, none⟩ (enc d[i]!)) :=
  ⟨(h.gr.trans (Lib.grownBy_setCell _ _ _ _)).trans (Lib.grownBy_setCell _ _ _ _), set_holds (set_holds h.holds hi d[j]!) (by simpa using hj) d[i]!, h.lt⟩
def LessC (gl : Nat) (rv : Value) (enc : α → Value) (lt : α → α → Bool) (w : World) (blk off n : Nat) : Prop :=
  ∀ (W : World) (d : Array α), SI enc w blk off d W → d.size = n → ∀ i j : Nat, i < n → j < n →
    Calls Tryz.prog gl #[rv, .int .i64 i, .int .i64 j] W fun e w' => e = .returned (.bool (lt d[i]! d[j]!)) ∧ Below W.heap.size W w'
def SwapC (gs : Nat) (rv : Value) (enc : α → Value) (w : World) (blk off n : Nat) : Prop :=
  ∀ (W : World) (d : Array α), SI enc w blk off d W → d.size = n → ∀ i j : Nat, i < n → j < n →
    Calls Tryz.prog gs #[rv, .int .i64 i, .int .i64 j] W fun e w' => e = .returned (.tuple #[]) ∧ SI enc w blk off (swp d i j) w'
structure Meth (T : TypeId) (rv : Value) (gn gl gs : Nat) : Prop where
  n : ∀ w, Sem.run Tryz.prog (method 417 T rv "Len") w = .ok (gn, rv) w
  l : ∀ w, Sem.run Tryz.prog (method 417 T rv "Less") w = .ok (gl, rv) w
  s : ∀ w, Sem.run Tryz.prog (method 417 T rv "Swap") w = .ok (gs, rv) w
  en : ∀ args w, (callFunc gn args).run Tryz.prog w = .ok (.enter gn args) w
  el : ∀ args w, (callFunc gl args).run Tryz.prog w = .ok (.enter gl args) w
  es : ∀ args w, (callFunc gs args).run Tryz.prog w = .ok (.enter gs args) w
set_option maxHeartbeats 2000000 in
set_option maxRecDepth 100000 in
theorem ins_any {T : TypeId} {rv : Value} {gn gl gs : Nat} (hm : Meth T rv gn gl gs) (enc : α → Value) (lt : α → α → Bool) (w : World) (blk off n : Nat) (hl : LessC gl rv enc lt w blk off n) (hs : SwapC gs rv enc w blk off n) (hn : n < 4611686018427387904)
    (a b : Nat) (hab : a ≤ b) (hb : b ≤ n) (W : World) (d : Array α) (hd : d.size = n) (hW : SI enc w blk off d W) :
    Calls Tryz.prog 132 #[.iface T rv, .int .i64 a, .int .i64 b] W fun e w' => e = .returned (.tuple #[]) ∧ SI enc w blk off (insertionSort lt d a b) w' := by
  have mL := hm.l
  have mS := hm.s
  have eL := hm.el
  have eS := hm.es
  have HW := Aside0.mk hW
  have HD := Lib.hid hd
  clear hW hd hm
  go_enter Tryz.func132, Tryz.ntmps132
  go_wp2
  go_loopw [6] (fun vi wr => ∃ (i : Nat) (dk : Array α), vi = .int .i64 i ∧ a < i ∧ i ≤ b + 1 ∧ Hid (dk.size = n) ∧ Aside0 (SI enc w blk off dk wr) ∧ Hid (insOuter lt a b i dk = insOuter lt a b (a + 1) d)) (fun vi _ => b + 1 - (intOf vi).toNat)
  case atStart => exact ⟨a + 1, d, by go_num, by omega, by omega, HD, HW, Lib.hid rfl⟩
  case round =>
    obtain ⟨i, dk, rfl, hai, hib, HK, HS, HO⟩ := hrel
    by_cases hlt : i < b
    · have d1 : decide (i < b) = true := decide_eq_true hlt
      go_wp2
      go_loopw [7] (fun vj wr2 => ∃ (j : Nat) (dj : Array α), vj = .int .i64 j ∧ a ≤ j ∧ j ≤ i ∧ Hid (dj.size = n) ∧ Aside0 (SI enc w blk off dj wr2) ∧ Hid (insInner lt a j dj = insInner lt a i dk)) (fun vj _ => (intOf vj).toNat)
      case atStart => exact ⟨i, dk, rfl, by omega, Nat.le_refl _, HK, HS, Lib.hid rfl⟩
      case round =>
        obtain ⟨j, dj, rfl, haj, hji, HJ, HT, HI⟩ := hrel
        have OUT : Hid ((j ≤ a ∨ lt dj[j]! dj[j - 1]! = false) → ∀ W2, SI enc w blk off dj W2 → ∃ (i' : Nat) (dk' : Array α), Value.int .i64 ((i : Int) + 1) = .int .i64 (i' : Nat) ∧ a < i' ∧ i' ≤ b + 1 ∧ Hid (dk'.size = n) ∧ Aside0 (SI enc w blk off dk' W2) ∧ Hid (insOuter lt a b i' dk' = insOuter lt a b (a + 1) d)) := Lib.hid (fun hst W2 h2 =>
          ⟨i + 1, dj, by go_num, by omega, by omega, HJ, ⟨h2⟩, Lib.hid (by rw [← HO.out, outer_go lt _ _ _ _ hlt, ← HI.out, inner_stop lt _ _ _ hst])⟩)
        by_cases hja : a < j
        · have hL := hl wr dj HT.out HJ.out j (j - 1) (by omega) (by omega)
          rw [show (((j - 1 : Nat) : Int)) = (j : Int) - 1 by omega] at hL
          have HSW := Lib.hid (fun W2 h2 => hs W2 dj h2 HJ.out j (j - 1) (by omega) (by omega))
          rw [show (((j - 1 : Nat) : Int)) = (j : Int) - 1 by omega] at HSW
          cases hlv : lt dj[j]! dj[j - 1]! with
          | true =>
            rw [hlv] at hL
            have HL := Lib.hid hL
            clear hL
            go_wp2_with (first
              | (go_at_fn gl; refine HL.out.mono ?_; rintro e w' ⟨rfl, hb1⟩; have HT1 := Aside0.mk (HT.out.below hb1); clear hb1)
              | (go_at_fn gs; refine (HSW.out _ HT1.out).mono ?_; rintro e w' ⟨rfl, hs2⟩; have HT2 := Aside0.mk hs2; clear hs2))
            go_roundw
            case rel => exact ⟨j - 1, swp dj j (j - 1), by congr 1 <;> omega, by omega, by omega, Lib.hid (by rw [swp_size]; exact HJ.out), HT2, Lib.hid (by rw [← HI.out, inner_go lt a j dj hja hlv])⟩
            case measure => simp [intOf]; omega
          | false =>
            rw [hlv] at hL
            have HL := Lib.hid hL
            clear hL
            go_wp2_with (go_at_fn gl; refine HL.out.mono ?_; rintro e w' ⟨rfl, hb1⟩; have HT1 := Aside0.mk (HT.out.below hb1); clear hb1)
            go_roundw
            case rel => exact OUT.out (Or.inr hlv) _ HT1.out
            case measure => simp [intOf]; omega
        · go_wp2
          go_roundw
          case rel => exact OUT.out (Or.inl (by omega)) _ HT.out
          case measure => simp [intOf]; omega
    · have hge := Lib.hid hlt
      have d1 : decide (i < b) = false := decide_eq_false hlt
      clear hlt
      go_wp2
      go_end0
      exact ⟨rfl, by unfold insertionSort; rw [← HO.out, outer_stop lt _ _ _ _ hge.out]; exact HS.out⟩
end Go.Proofs.YtgoeiflddikihaaGreatDoor.Srt
end
section
namespace Go.Proofs.YtgoeiflddikihaaGreatDoor.Ver
set_option linter.unusedSimpArgs false
open Go.RowKit Go.Proofs.YtgoeiflddikihaaGreatDoorW.PrintWords
set_option maxRecDepth 20000 in
set_option maxHeartbeats 2000000 in
theorem after_1 (v : SV) (h0 : 0 ≤ v.major) (h1 : v.major + 1 < 18446744073709551616) (w : World) :
    Calls Tryz.prog 151 #[.agg v.cells, .int .i64 1] w fun e w' => e = .returned (.agg #[.int .u64 (v.major + 1), .int .u64 0, .int .u64 0, .string ⟨#[]⟩, .string ⟨#[]⟩, .string ⟨#[]⟩]) ∧ Below w.heap.size w w' := by
  have HB := Aside0.mk (Below.refl w.heap.size w)
  obtain ⟨va, vb, vc, vp, vm, vo⟩ := v
  dsimp only [SV.cells] at h0 h1 ⊢
  have hw : IntKind.u64.wrap (va + 1) = va + 1 := by simp [IntKind.wrap, IntKind.bits, IntKind.signed]; omega
  clear h0 h1
  go_enter Tryz.func151, Tryz.ntmps151
  go_wp2_with fail
  refine bodyPost_ret (v := .agg #[.int .u64 (va + 1), .int .u64 0, .int .u64 0, .string ⟨#[]⟩, .string ⟨#[]⟩, .string ⟨#[]⟩]) (by simp [results, Tryz.results151, go_sem, *]) rfl ⟨rfl, ?_⟩
  repeat (first | exact HB.out | apply below_alloc | apply pw_below_drewN)
set_option maxRecDepth 20000 in
set_option maxHeartbeats 2000000 in
theorem after_3 (v : SV) (h0 : 0 ≤ v.patch) (h1 : v.patch + 1 < 18446744073709551616) (w : World) :
    Calls Tryz.prog 151 #[.agg v.cells, .int .i64 3] w fun e w' => e = .returned (.agg #[.int .u64 v.major, .int .u64 v.minor, .int .u64 (v.patch + 1), .string ⟨#[]⟩, .string ⟨#[]⟩, .string ⟨#[]⟩]) ∧ Below w.heap.size w w' := by
  have HB := Aside0.mk (Below.refl w.heap.size w)
  obtain ⟨va, vb, vc, vp, vm, vo⟩ := v
  dsimp only [SV.cells] at h0 h1 ⊢
  have hw : IntKind.u64.wrap (vc + 1) = vc + 1 := by simp [IntKind.wrap, IntKind.bits, IntKind.signed]; omega
  clear h0 h1
  go_enter Tryz.func151, Tryz.ntmps151
  go_wp2_with fail
  refine bodyPost_ret (v := .agg #[.int .u64 va, .int .u64 vb, .int .u64 (vc + 1), .string ⟨#[]⟩, .string ⟨#[]⟩, .string ⟨#[]⟩]) (by simp [results, Tryz.results151, go_sem, *]) rfl ⟨rfl, ?_⟩
  repeat (first | exact HB.out | apply below_alloc | apply pw_below_drewN)
end Go.Proofs.YtgoeiflddikihaaGreatDoor.Ver
end
section
namespace Go.Proofs.YtgoeiflddikihaaGreatDoor.Srt
open Go.RowKit Go.Proofs.YtgoeiflddikihaaGreatDoorW.PrintWords Go.Sort
variable {α : Type} [Inhabited α]
theorem bitsLen_any (n : Nat) (hn : n < 4611686018427387904) (w : World) : Calls Tryz.prog 123 #[.int .u64 n] w fun e w' => e = .returned (.int .i64 (Lib.bitLen n)) ∧ Drawn0 w w' := by
  have h64 := Lib.hid (fun W => Tryz.bits_Len64 (n : Int) W (by omega) (by omega))
  rw [Int.toNat_natCast] at h64
  have hb := Lib.bitLen_le n 62 (by omega) (by omega)
  generalize Lib.bitLen n = b at *
  go_enter Tryz.func123, Tryz.ntmps123
  go_wp2_with (go_at_call 131; ((with_reducible refine (h64.out _).mono ?_); rintro e w1 ⟨rfl, rfl⟩))
  go_ret
  exact ⟨rfl, by repeat (first | exact Drawn0.refl _ | apply Drawn0.step)⟩
set_option maxRecDepth 20000 in
set_option maxHeartbeats 2000000 in
theorem pdq_short {T : TypeId} {rv : Value} {gn gl gs : Nat} (hm : Meth T rv gn gl gs) (enc : α → Value) (lt : α → α → Bool) (w : World) (blk off n : Nat) (hl : LessC gl rv enc lt w blk off n) (hs : SwapC gs rv enc w blk off n) (hn : n ≤ 12)
    (k : Int) (W : World) (d : Array α) (hd : d.size = n) (hW : SI enc w blk off d W) :
    Calls Tryz.prog 124 #[.iface T rv, .int .i64 0, .int .i64 n, .int .i64 k] W fun e w' => e = .returned (.tuple #[]) ∧ SI enc w blk off (insertionSort lt d 0 n) w' := by
  have HI := Lib.hid (fun W2 h2 => ins_any hm enc lt w blk off n hl hs (by omega) 0 n (Nat.zero_le _) (Nat.le_refl _) W2 d hd h2)
  have HW := Aside0.mk hW
  clear hW hd hl hs hm
  have d1 : decide ((n : Int) ≤ 12) = true := decide_eq_true (by omega)
  go_enter Tryz.func124, Tryz.ntmps124
  go_wp2_with fail
  refine wp_loop_rounds 1 ?_
  rw [rounds_succ]
  go_wp2_with (go_at_call 132; refine (HI.out _ HW.out).mono ?_; rintro e w1 ⟨rfl, hs1⟩; have HW1 := Aside0.mk hs1; clear hs1)
  (try simp only [Exit.inBlock, Exit.then])
  refine bodyPost_ret (results_none rfl _ _ _) rfl ?_
  exact ⟨rfl, HW1.out⟩
set_option maxHeartbeats 2000000 in
theorem sort_short {T : TypeId} {rv : Value} {gn gl gs : Nat} (hm : Meth T rv gn gl gs) (enc : α → Value) (lt : α → α → Bool) (w : World) (blk off n : Nat) (hl : LessC gl rv enc lt w blk off n) (hs : SwapC gs rv enc w blk off n) (h2 : 2 ≤ n) (hn : n ≤ 12)
    (hlen : ∀ W, Calls Tryz.prog gn #[rv] W fun e w' => e = .returned (.int .i64 n) ∧ Drawn0 W w') (d : Array α) (hd : d.size = n) (hH : Holds enc w blk off d) (hb : blk < w.heap.size) :
    Calls Tryz.prog 102 #[.iface T rv] w fun e w' => e = .returned (.tuple #[]) ∧ SI enc w blk off (insertionSort lt d 0 n) w' := by
  have HP := Lib.hid (fun k W2 h2 => pdq_short hm enc lt w blk off n hl hs hn k W2 d hd h2)
  have HW := Aside0.mk (SI.mk (World.grownBy.refl w (some blk)) hH hb)
  have HL := Lib.hid hlen
  have HBL := Lib.hid (fun W => bitsLen_any n (by omega) W)
  have mN := hm.n
  have eN := hm.en
  have d1 : decide ((n : Int) ≤ 1) = false := decide_eq_false (by omega)
  clear hd hl hs hm hlen hH hb
  go_enter Tryz.func102, Tryz.ntmps102
  go_wp2_with (first
    | (go_at_fn gn; refine (HL.out _).mono ?_; rintro e w1 ⟨rfl, ⟨q1, rfl⟩⟩)
    | (go_at_call 123; ((with_reducible refine (HBL.out _).mono ?_); rintro e w1 ⟨rfl, ⟨q2, rfl⟩⟩))
    | (go_at_call 124; refine (HP.out _ _ (by repeat (first | exact HW.out | apply SI.drewN))).mono ?_; rintro e w1 ⟨rfl, hs1⟩; have HW1 := Aside0.mk hs1; clear hs1))
  go_end0
  exact ⟨rfl, HW1.out⟩
theorem sort_tiny {T : TypeId} {rv : Value} {gn gl gs : Nat} (hm : Meth T rv gn gl gs) (n : Nat) (hn : n ≤ 1)
    (hlen : ∀ W, Calls Tryz.prog gn #[rv] W fun e w' => e = .returned (.int .i64 n) ∧ Drawn0 W w') (w : World) :
    Calls Tryz.prog 102 #[.iface T rv] w fun e w' => e = .returned (.tuple #[]) ∧ Drawn0 w w' := by
  have HL := Lib.hid hlen
  have mN := hm.n
  have eN := hm.en
  have d1 : decide ((n : Int) ≤ 1) = true := decide_eq_true (by omega)
  clear hm hlen hn
  go_enter Tryz.func102, Tryz.ntmps102
  go_wp2_with (go_at_fn gn; refine (HL.out _).mono ?_; rintro e w1 ⟨rfl, ⟨q1, rfl⟩⟩)
  (try simp only [Exit.inBlock, Exit.then])
  refine bodyPost_ret (results_none rfl _ _ _) rfl ?_
  exact ⟨rfl, by repeat (first | exact Drawn0.refl _ | apply Drawn0.step)⟩
end Go.Proofs.YtgoeiflddikihaaGreatDoor.Srt
end
